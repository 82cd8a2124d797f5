import PyProof.Rows.All
import Wide.All
import OpenK.AllK
import Wide.FinOn
import PySem.Challenge.RW_ti0055_01
open PySem PySem.W PyProof.Rows
set_option Elab.async false
set_option compiler.extract_closed false
set_option maxRecDepth 100000
set_option maxHeartbeats 8000000
namespace Mine
noncomputable def pass0 : Stmt := .Pass ⟨0, 0, 0, 0⟩
noncomputable def nthS : List Stmt → Nat → Stmt
  | [], _ => pass0
  | s :: _, 0 => s
  | _ :: r, n + 1 => nthS r n
noncomputable def stN (i : Nat) : Stmt := nthS PySem.Challenge.pw_ti0055_01.main.body i
noncomputable def uP : Stmt → Arguments
  | .FunctionDef _ p _ _ _ _ _ _ _ _ => p
  | _ => default
noncomputable def uB : Stmt → List Stmt
  | .FunctionDef _ _ b _ _ _ _ _ _ _ => b
  | .ClassDef _ _ _ b _ _ _ _ _ _ _ => b
  | _ => []
noncomputable def uS : Stmt → Scope
  | .FunctionDef _ _ _ _ _ _ s _ _ _ => s
  | _ => default
noncomputable def heapK (P : Params) : Frag := by
  refine' (fun (fB1 : List Stmt) (fP1 : Arguments) (fS1 : Scope) (fB3 : List Stmt) (fP3 : Arguments) (fB5 : List Stmt) (fP5 : Arguments) (fS5 : Scope) (fB7 : List Stmt) (fP7 : Arguments) (fB8 : List Stmt) (fP8 : Arguments) (fB9 : List Stmt) (fP9 : Arguments) (fB10 : List Stmt) (fP10 : Arguments) (fB11 : List Stmt) (fP11 : Arguments) (fS11 : Scope) (fB16 : List Stmt) (fP16 : Arguments) (fS16 : Scope) (fB17 : List Stmt) (fP17 : Arguments) (fS17 : Scope) (fB22 : List Stmt) (fP22 : Arguments) (fS22 : Scope) (fB25 : List Stmt) (fP25 : Arguments) (fS25 : Scope) (fB26 : List Stmt) (fP26 : Arguments) (fS26 : Scope) (fB27 : List Stmt) (fP27 : Arguments) (fS27 : Scope) (fB28 : List Stmt) (fP28 : Arguments) (fS28 : Scope) (fB29 : List Stmt) (fP29 : Arguments) (fS29 : Scope) (fB30 : List Stmt) (fP30 : Arguments) (fS30 : Scope) (fB31 : List Stmt) (fP31 : Arguments) (fS31 : Scope) (fB32 : List Stmt) (fP32 : Arguments) (fS32 : Scope) (mB0 : List Stmt) (mP0 : Arguments) (mS0 : Scope) (mB1 : List Stmt) (mP1 : Arguments) (mS1 : Scope) (mB2 : List Stmt) (mP2 : Arguments) (mS2 : Scope) (mB3 : List Stmt) (mP3 : Arguments) (mS3 : Scope) (mB4 : List Stmt) (mP4 : Arguments) (mB5 : List Stmt) (mP5 : Arguments) (mB6 : List Stmt) (mP6 : Arguments) (mS6 : Scope) (mB7 : List Stmt) (mP7 : Arguments) (mS7 : Scope) (mB8 : List Stmt) (mP8 : Arguments) (mS8 : Scope) (mB9 : List Stmt) (mP9 : Arguments) (mB10 : List Stmt) (mP10 : Arguments) (mS10 : Scope) (mB11 : List Stmt) (mP11 : Arguments) (mB12 : List Stmt) (mP12 : Arguments) (mS12 : Scope) (mB13 : List Stmt) (mP13 : Arguments) (mS13 : Scope) (mB14 : List Stmt) (mP14 : Arguments) (mS14 : Scope) (mB15 : List Stmt) (mP15 : Arguments) (mS15 : Scope) (mB16 : List Stmt) (mP16 : Arguments) (mS16 : Scope) (_ : uB (stN 1) = fB1) (_ : uP (stN 1) = fP1) (_ : uS (stN 1) = fS1) (_ : uB (stN 3) = fB3) (_ : uP (stN 3) = fP3) (_ : uB (stN 5) = fB5) (_ : uP (stN 5) = fP5) (_ : uS (stN 5) = fS5) (_ : uB (stN 7) = fB7) (_ : uP (stN 7) = fP7) (_ : uB (stN 8) = fB8) (_ : uP (stN 8) = fP8) (_ : uB (stN 9) = fB9) (_ : uP (stN 9) = fP9) (_ : uB (stN 10) = fB10) (_ : uP (stN 10) = fP10) (_ : uB (stN 11) = fB11) (_ : uP (stN 11) = fP11) (_ : uS (stN 11) = fS11) (_ : uB (stN 16) = fB16) (_ : uP (stN 16) = fP16) (_ : uS (stN 16) = fS16) (_ : uB (stN 17) = fB17) (_ : uP (stN 17) = fP17) (_ : uS (stN 17) = fS17) (_ : uB (stN 22) = fB22) (_ : uP (stN 22) = fP22) (_ : uS (stN 22) = fS22) (_ : uB (stN 25) = fB25) (_ : uP (stN 25) = fP25) (_ : uS (stN 25) = fS25) (_ : uB (stN 26) = fB26) (_ : uP (stN 26) = fP26) (_ : uS (stN 26) = fS26) (_ : uB (stN 27) = fB27) (_ : uP (stN 27) = fP27) (_ : uS (stN 27) = fS27) (_ : uB (stN 28) = fB28) (_ : uP (stN 28) = fP28) (_ : uS (stN 28) = fS28) (_ : uB (stN 29) = fB29) (_ : uP (stN 29) = fP29) (_ : uS (stN 29) = fS29) (_ : uB (stN 30) = fB30) (_ : uP (stN 30) = fP30) (_ : uS (stN 30) = fS30) (_ : uB (stN 31) = fB31) (_ : uP (stN 31) = fP31) (_ : uS (stN 31) = fS31) (_ : uB (stN 32) = fB32) (_ : uP (stN 32) = fP32) (_ : uS (stN 32) = fS32) (_ : uB (nthS (uB (stN 23)) 0) = mB0) (_ : uP (nthS (uB (stN 23)) 0) = mP0) (_ : uS (nthS (uB (stN 23)) 0) = mS0) (_ : uB (nthS (uB (stN 23)) 1) = mB1) (_ : uP (nthS (uB (stN 23)) 1) = mP1) (_ : uS (nthS (uB (stN 23)) 1) = mS1) (_ : uB (nthS (uB (stN 23)) 2) = mB2) (_ : uP (nthS (uB (stN 23)) 2) = mP2) (_ : uS (nthS (uB (stN 23)) 2) = mS2) (_ : uB (nthS (uB (stN 23)) 3) = mB3) (_ : uP (nthS (uB (stN 23)) 3) = mP3) (_ : uS (nthS (uB (stN 23)) 3) = mS3) (_ : uB (nthS (uB (stN 23)) 4) = mB4) (_ : uP (nthS (uB (stN 23)) 4) = mP4) (_ : uB (nthS (uB (stN 23)) 5) = mB5) (_ : uP (nthS (uB (stN 23)) 5) = mP5) (_ : uB (nthS (uB (stN 23)) 6) = mB6) (_ : uP (nthS (uB (stN 23)) 6) = mP6) (_ : uS (nthS (uB (stN 23)) 6) = mS6) (_ : uB (nthS (uB (stN 23)) 7) = mB7) (_ : uP (nthS (uB (stN 23)) 7) = mP7) (_ : uS (nthS (uB (stN 23)) 7) = mS7) (_ : uB (nthS (uB (stN 23)) 8) = mB8) (_ : uP (nthS (uB (stN 23)) 8) = mP8) (_ : uS (nthS (uB (stN 23)) 8) = mS8) (_ : uB (nthS (uB (stN 23)) 9) = mB9) (_ : uP (nthS (uB (stN 23)) 9) = mP9) (_ : uB (nthS (uB (stN 23)) 10) = mB10) (_ : uP (nthS (uB (stN 23)) 10) = mP10) (_ : uS (nthS (uB (stN 23)) 10) = mS10) (_ : uB (nthS (uB (stN 23)) 11) = mB11) (_ : uP (nthS (uB (stN 23)) 11) = mP11) (_ : uB (nthS (uB (stN 23)) 12) = mB12) (_ : uP (nthS (uB (stN 23)) 12) = mP12) (_ : uS (nthS (uB (stN 23)) 12) = mS12) (_ : uB (nthS (uB (stN 23)) 13) = mB13) (_ : uP (nthS (uB (stN 23)) 13) = mP13) (_ : uS (nthS (uB (stN 23)) 13) = mS13) (_ : uB (nthS (uB (stN 23)) 14) = mB14) (_ : uP (nthS (uB (stN 23)) 14) = mP14) (_ : uS (nthS (uB (stN 23)) 14) = mS14) (_ : uB (nthS (uB (stN 23)) 15) = mB15) (_ : uP (nthS (uB (stN 23)) 15) = mP15) (_ : uS (nthS (uB (stN 23)) 15) = mS15) (_ : uB (nthS (uB (stN 23)) 16) = mB16) (_ : uP (nthS (uB (stN 23)) 16) = mP16) (_ : uS (nthS (uB (stN 23)) 16) = mS16) =>
    (@Prod.mk Nat Obj (nat_lit 2) (Obj.mk Value.none (@Option.none Nat) (Data.dict (@List.toArray DictEntry [(DictEntry.mk (PyData.keyHash P (Str.ofString "\x69mport.loaded._sre")) (Value.str (Str.ofString "\x69mport.loaded._sre") (183 : Nat)) (Value.bool Bool.true)), (DictEntry.mk (PyData.keyHash P (Str.ofString "class._frozen_\x69mportlib.BuiltinImporter")) (Value.str (Str.ofString "class._frozen_\x69mportlib.BuiltinImporter") (185 : Nat)) (Value.ref (14 : Nat))), (DictEntry.mk (PyData.keyHash P (Str.ofString "watched.\x69mport")) (Value.str (Str.ofString "watched.\x69mport") (206 : Nat)) (Value.ref (18 : Nat))), (DictEntry.mk (PyData.keyHash P (Str.ofString "class._frozen_\x69mportlib.ModuleSpec")) (Value.str (Str.ofString "class._frozen_\x69mportlib.ModuleSpec") (216 : Nat)) (Value.ref (22 : Nat))), (DictEntry.mk (PyData.keyHash P (Str.ofString "sys.modules.booked-epoch")) (Value.str (Str.ofString "sys.modules.booked-epoch") (245 : Nat)) (Value.int (3 : Int) (0 : Nat))), (DictEntry.mk (PyData.keyHash P (Str.ofString "\x69mport.later-laid._sre")) (Value.str (Str.ofString "\x69mport.later-laid._sre") (270 : Nat)) (Value.bool Bool.true)), (DictEntry.mk (PyData.keyHash P (Str.ofString "watched.library")) (Value.str (Str.ofString "watched.library") (272 : Nat)) (Value.ref (27 : Nat))), (DictEntry.mk (PyData.keyHash P (Str.ofString "watched.library-objects")) (Value.str (Str.ofString "watched.library-objects") (0 : Nat)) (Value.str (Str.ofString "\x0c") (0 : Nat))), (DictEntry.mk (PyData.keyHash P (Str.ofString "watched.library-deep._sre")) (Value.str (Str.ofString "watched.library-deep._sre") (273 : Nat)) (Value.str (Str.ofString "\x04\x00\x00\x0b\x04\x00\x00\x0b\x04\x00\x00\x03\x04\x00\x00\x0b\x08\x04dict\x02") (0 : Nat)))]) (9 : Nat)) (@List.toArray (Option Value) (@List.nil (Option Value))))) ::
    (@Prod.mk Nat Obj (nat_lit 3) (Obj.mk (Value.type "dict") (@Option.none Nat) (Data.dict (@List.toArray DictEntry [(DictEntry.mk (PyData.keyHash P (Str.ofString "__name__")) (Value.str (Str.ofString "__name__") (165 : Nat)) (Value.str (Str.ofString "law_ti0055_01") (651 : Nat))), (DictEntry.mk (PyData.keyHash P (Str.ofString "__doc__")) (Value.str (Str.ofString "__doc__") (166 : Nat)) Value.none), (DictEntry.mk (PyData.keyHash P (Str.ofString "__package__")) (Value.str (Str.ofString "__package__") (167 : Nat)) Value.none), (DictEntry.mk (PyData.keyHash P (Str.ofString "__loader__")) (Value.str (Str.ofString "__loader__") (168 : Nat)) (Value.builtin "__main__.__loader__#opaque")), (DictEntry.mk (PyData.keyHash P (Str.ofString "__spec__")) (Value.str (Str.ofString "__spec__") (169 : Nat)) Value.none), (DictEntry.mk (PyData.keyHash P (Str.ofString "__annotations__")) (Value.str (Str.ofString "__annotations__") (170 : Nat)) (Value.ref (6 : Nat))), (DictEntry.mk (PyData.keyHash P (Str.ofString "__builtins__")) (Value.str (Str.ofString "__builtins__") (171 : Nat)) (Value.ref (4 : Nat))), (DictEntry.mk (PyData.keyHash P (Str.ofString "__file__")) (Value.str (Str.ofString "__file__") (173 : Nat)) (Value.str (Str.ofString "/claim/cut.py") (172 : Nat))), (DictEntry.mk (PyData.keyHash P (Str.ofString "__cached__")) (Value.str (Str.ofString "__cached__") (174 : Nat)) Value.none), (DictEntry.mk (PyData.keyHash P (Str.ofString "_sre")) (Value.str (Str.ofString "_sre") (275 : Nat)) (Value.ref (12 : Nat))), (DictEntry.mk (PyData.keyHash P (Str.ofString "_wall")) (Value.str (Str.ofString "_wall") (288 : Nat)) (Value.ref (38 : Nat))), (DictEntry.mk (PyData.keyHash P (Str.ofString "_strcoll")) (Value.str (Str.ofString "_strcoll") (298 : Nat)) (Value.ref (45 : Nat))), (DictEntry.mk (PyData.keyHash P (Str.ofString "CHAR_MAX")) (Value.str (Str.ofString "CHAR_MAX") (300 : Nat)) (Value.int (127 : Int) (299 : Nat))), (DictEntry.mk (PyData.keyHash P (Str.ofString "_grouping_intervals")) (Value.str (Str.ofString "_grouping_intervals") (309 : Nat)) (Value.ref (52 : Nat))), (DictEntry.mk (PyData.keyHash P (Str.ofString "and_")) (Value.str (Str.ofString "and_") (319 : Nat)) (Value.ref (59 : Nat))), (DictEntry.mk (PyData.keyHash P (Str.ofString "mod")) (Value.str (Str.ofString "mod") (327 : Nat)) (Value.ref (66 : Nat))), (DictEntry.mk (PyData.keyHash P (Str.ofString "or_")) (Value.str (Str.ofString "or_") (335 : Nat)) (Value.ref (73 : Nat))), (DictEntry.mk (PyData.keyHash P (Str.ofString "rshift")) (Value.str (Str.ofString "rshift") (343 : Nat)) (Value.ref (80 : Nat))), (DictEntry.mk (PyData.keyHash P (Str.ofString "sub")) (Value.str (Str.ofString "sub") (351 : Nat)) (Value.ref (87 : Nat))), (DictEntry.mk (PyData.keyHash P (Str.ofString "_MAX_STRING_SIZE")) (Value.str (Str.ofString "_MAX_STRING_SIZE") (355 : Nat)) (Value.int (40 : Int) (354 : Nat))), (DictEntry.mk (PyData.keyHash P (Str.ofString "_MOVE_COST")) (Value.str (Str.ofString "_MOVE_COST") (357 : Nat)) (Value.int (2 : Int) (356 : Nat))), (DictEntry.mk (PyData.keyHash P (Str.ofString "_CASE_COST")) (Value.str (Str.ofString "_CASE_COST") (359 : Nat)) (Value.int (1 : Int) (358 : Nat))), (DictEntry.mk (PyData.keyHash P (Str.ofString "_substitution_cost")) (Value.str (Str.ofString "_substitution_cost") (367 : Nat)) (Value.ref (94 : Nat))), (DictEntry.mk (PyData.keyHash P (Str.ofString "_levenshtein_distance")) (Value.str (Str.ofString "_levenshtein_distance") (387 : Nat)) (Value.ref (101 : Nat))), (DictEntry.mk (PyData.keyHash P (Str.ofString "tspecials")) (Value.str (Str.ofString "tspecials") (423 : Nat)) (Value.ref (106 : Nat))), (DictEntry.mk (PyData.keyHash P (Str.ofString "_name_disallowed_re")) (Value.str (Str.ofString "_name_disallowed_re") (449 : Nat)) (Value.ref (111 : Nat))), (DictEntry.mk (PyData.keyHash P (Str.ofString "_value_disallowed_re")) (Value.str (Str.ofString "_value_disallowed_re") (483 : Nat)) (Value.ref (116 : Nat))), (DictEntry.mk (PyData.keyHash P (Str.ofString "_formatparam")) (Value.str (Str.ofString "_formatparam") (493 : Nat)) (Value.ref (124 : Nat))), (DictEntry.mk (PyData.keyHash P (Str.ofString "Headers")) (Value.str (Str.ofString "Headers") (650 : Nat)) (Value.ref (245 : Nat))), (DictEntry.mk (PyData.keyHash P (Str.ofString "_law_cells")) (Value.str (Str.ofString "_law_cells") (658 : Nat)) (Value.ref (254 : Nat))), (DictEntry.mk (PyData.keyHash P (Str.ofString "_law_sizes")) (Value.str (Str.ofString "_law_sizes") (664 : Nat)) (Value.ref (259 : Nat))), (DictEntry.mk (PyData.keyHash P (Str.ofString "_law_words")) (Value.str (Str.ofString "_law_words") (670 : Nat)) (Value.ref (264 : Nat))), (DictEntry.mk (PyData.keyHash P (Str.ofString "_law_due")) (Value.str (Str.ofString "_law_due") (684 : Nat)) (Value.ref (271 : Nat))), (DictEntry.mk (PyData.keyHash P (Str.ofString "_law_table")) (Value.str (Str.ofString "_law_table") (694 : Nat)) (Value.ref (278 : Nat))), (DictEntry.mk (PyData.keyHash P (Str.ofString "_law_orders")) (Value.str (Str.ofString "_law_orders") (700 : Nat)) (Value.ref (283 : Nat))), (DictEntry.mk (PyData.keyHash P (Str.ofString "_law_ways")) (Value.str (Str.ofString "_law_ways") (713 : Nat)) (Value.ref (290 : Nat))), (DictEntry.mk (PyData.keyHash P (Str.ofString "law")) (Value.str (Str.ofString "law") (719 : Nat)) (Value.ref (295 : Nat)))]) (37 : Nat)) (@List.toArray (Option Value) (@List.nil (Option Value))))) ::
    (@Prod.mk Nat Obj (nat_lit 32) (Obj.mk (Value.type "tuple") (@Option.none Nat) (Data.seq (@List.toArray Value (@List.nil Value)) (0 : Nat)) (@List.toArray (Option Value) (@List.nil (Option Value))))) ::
    (@Prod.mk Nat Obj (nat_lit 34) (Obj.mk (Value.type "tuple") (@Option.none Nat) (Data.seq (@List.toArray Value [(Value.str (Str.ofString "k") (285 : Nat))]) (0 : Nat)) (@List.toArray (Option Value) (@List.nil (Option Value))))) ::
    (@Prod.mk Nat Obj (nat_lit 35) (Obj.mk (Value.type "tuple") (@Option.none Nat) (Data.seq (@List.toArray Value (@List.nil Value)) (0 : Nat)) (@List.toArray (Option Value) (@List.nil (Option Value))))) ::
    (@Prod.mk Nat Obj (nat_lit 37) (Obj.mk (Value.type "code") (@Option.none Nat) (Data.fields (@List.toArray Value [(Value.str (Str.ofString "_wall") (282 : Nat)), (Value.str (Str.ofString "_wall") (283 : Nat)), (Value.str (Str.ofString "/claim/cut.py") (284 : Nat)), (Value.int (2 : Int) (0 : Nat)), (Value.int (1 : Int) (0 : Nat)), (Value.int (0 : Int) (0 : Nat)), (Value.int (0 : Int) (0 : Nat)), (Value.int (3 : Int) (0 : Nat)), (Value.ref (32 : Nat)), (Value.bool Bool.true), (Value.int (276 : Int) (0 : Nat)), (Value.ref (33 : Nat)), Value.none, (Value.ref (34 : Nat)), (Value.ref (35 : Nat)), (Value.ref (36 : Nat)), (Value.int (286 : Int) (0 : Nat)), (Value.int (2 : Int) (0 : Nat)), (Value.str (Str.ofString "/claim/cut.py") (287 : Nat))])) (@List.toArray (Option Value) (@List.nil (Option Value))))) ::
    (@Prod.mk Nat Obj (nat_lit 38) (Obj.mk (Value.type "function") (@Option.none Nat) (Data.func (FuncData.mk (Str.ofString "_wall") (Str.ofString "_wall") fP1 (FuncBody.stmts fB1) fS1 (3 : Nat) (@List.nil (Prod Str Nat)) Value.none Value.none Value.none (Value.str (Str.ofString "__main__") (164 : Nat)) (@Option.none Nat) (Value.ref (37 : Nat)) Value.none (0 : Nat))) (@List.toArray (Option Value) (@List.nil (Option Value))))) ::
    (@Prod.mk Nat Obj (nat_lit 39) (Obj.mk (Value.type "tuple") (@Option.none Nat) (Data.seq (@List.toArray Value (@List.nil Value)) (0 : Nat)) (@List.toArray (Option Value) (@List.nil (Option Value))))) ::
    (@Prod.mk Nat Obj (nat_lit 41) (Obj.mk (Value.type "tuple") (@Option.none Nat) (Data.seq (@List.toArray Value [(Value.str (Str.ofString "a") (294 : Nat)), (Value.str (Str.ofString "b") (295 : Nat))]) (0 : Nat)) (@List.toArray (Option Value) (@List.nil (Option Value))))) ::
    (@Prod.mk Nat Obj (nat_lit 42) (Obj.mk (Value.type "tuple") (@Option.none Nat) (Data.seq (@List.toArray Value (@List.nil Value)) (0 : Nat)) (@List.toArray (Option Value) (@List.nil (Option Value))))) ::
    (@Prod.mk Nat Obj (nat_lit 44) (Obj.mk (Value.type "code") (@Option.none Nat) (Data.fields (@List.toArray Value [(Value.str (Str.ofString "_strcoll") (291 : Nat)), (Value.str (Str.ofString "_strcoll") (292 : Nat)), (Value.str (Str.ofString "/claim/cut.py") (293 : Nat)), (Value.int (6 : Int) (0 : Nat)), (Value.int (2 : Int) (0 : Nat)), (Value.int (0 : Int) (0 : Nat)), (Value.int (0 : Int) (0 : Nat)), (Value.int (3 : Int) (0 : Nat)), (Value.ref (39 : Nat)), (Value.bool Bool.true), (Value.int (276 : Int) (0 : Nat)), (Value.ref (40 : Nat)), Value.none, (Value.ref (41 : Nat)), (Value.ref (42 : Nat)), (Value.ref (43 : Nat)), (Value.int (296 : Int) (0 : Nat)), (Value.int (6 : Int) (0 : Nat)), (Value.str (Str.ofString "/claim/cut.py") (297 : Nat))])) (@List.toArray (Option Value) (@List.nil (Option Value))))) ::
    (@Prod.mk Nat Obj (nat_lit 45) (Obj.mk (Value.type "function") (@Option.none Nat) (Data.func (FuncData.mk (Str.ofString "_strcoll") (Str.ofString "_strcoll") fP3 (FuncBody.stmts fB3) fS11 (3 : Nat) (@List.nil (Prod Str Nat)) Value.none Value.none Value.none (Value.str (Str.ofString "cpy313.locale") (289 : Nat)) (@Option.none Nat) (Value.ref (44 : Nat)) Value.none (0 : Nat))) (@List.toArray (Option Value) (@List.nil (Option Value))))) ::
    (@Prod.mk Nat Obj (nat_lit 46) (Obj.mk (Value.type "tuple") (@Option.none Nat) (Data.seq (@List.toArray Value (@List.nil Value)) (0 : Nat)) (@List.toArray (Option Value) (@List.nil (Option Value))))) ::
    (@Prod.mk Nat Obj (nat_lit 48) (Obj.mk (Value.type "tuple") (@Option.none Nat) (Data.seq (@List.toArray Value [(Value.str (Str.ofString "grouping") (304 : Nat)), (Value.str (Str.ofString "last_interval") (305 : Nat)), (Value.str (Str.ofString "interval") (306 : Nat))]) (0 : Nat)) (@List.toArray (Option Value) (@List.nil (Option Value))))) ::
    (@Prod.mk Nat Obj (nat_lit 49) (Obj.mk (Value.type "tuple") (@Option.none Nat) (Data.seq (@List.toArray Value (@List.nil Value)) (0 : Nat)) (@List.toArray (Option Value) (@List.nil (Option Value))))) ::
    (@Prod.mk Nat Obj (nat_lit 51) (Obj.mk (Value.type "code") (@Option.none Nat) (Data.fields (@List.toArray Value [(Value.str (Str.ofString "_grouping_intervals") (301 : Nat)), (Value.str (Str.ofString "_grouping_intervals") (302 : Nat)), (Value.str (Str.ofString "/claim/cut.py") (303 : Nat)), (Value.int (9 : Int) (0 : Nat)), (Value.int (1 : Int) (0 : Nat)), (Value.int (0 : Int) (0 : Nat)), (Value.int (0 : Int) (0 : Nat)), (Value.int (35 : Int) (0 : Nat)), (Value.ref (46 : Nat)), (Value.bool Bool.true), (Value.int (276 : Int) (0 : Nat)), (Value.ref (47 : Nat)), Value.none, (Value.ref (48 : Nat)), (Value.ref (49 : Nat)), (Value.ref (50 : Nat)), (Value.int (307 : Int) (0 : Nat)), (Value.int (9 : Int) (0 : Nat)), (Value.str (Str.ofString "/claim/cut.py") (308 : Nat))])) (@List.toArray (Option Value) (@List.nil (Option Value))))) ::
    (@Prod.mk Nat Obj (nat_lit 52) (Obj.mk (Value.type "function") (@Option.none Nat) (Data.func (FuncData.mk (Str.ofString "_grouping_intervals") (Str.ofString "_grouping_intervals") fP5 (FuncBody.stmts fB5) fS5 (3 : Nat) (@List.nil (Prod Str Nat)) Value.none Value.none Value.none (Value.str (Str.ofString "cpy313.locale") (289 : Nat)) (@Option.none Nat) (Value.ref (51 : Nat)) Value.none (0 : Nat))) (@List.toArray (Option Value) (@List.nil (Option Value))))) ::
    (@Prod.mk Nat Obj (nat_lit 53) (Obj.mk (Value.type "tuple") (@Option.none Nat) (Data.seq (@List.toArray Value (@List.nil Value)) (0 : Nat)) (@List.toArray (Option Value) (@List.nil (Option Value))))) ::
    (@Prod.mk Nat Obj (nat_lit 55) (Obj.mk (Value.type "tuple") (@Option.none Nat) (Data.seq (@List.toArray Value [(Value.str (Str.ofString "a") (315 : Nat)), (Value.str (Str.ofString "b") (316 : Nat))]) (0 : Nat)) (@List.toArray (Option Value) (@List.nil (Option Value))))) ::
    (@Prod.mk Nat Obj (nat_lit 56) (Obj.mk (Value.type "tuple") (@Option.none Nat) (Data.seq (@List.toArray Value (@List.nil Value)) (0 : Nat)) (@List.toArray (Option Value) (@List.nil (Option Value))))) ::
    (@Prod.mk Nat Obj (nat_lit 58) (Obj.mk (Value.type "code") (@Option.none Nat) (Data.fields (@List.toArray Value [(Value.str (Str.ofString "and_") (312 : Nat)), (Value.str (Str.ofString "and_") (313 : Nat)), (Value.str (Str.ofString "/claim/cut.py") (314 : Nat)), (Value.int (22 : Int) (0 : Nat)), (Value.int (2 : Int) (0 : Nat)), (Value.int (0 : Int) (0 : Nat)), (Value.int (0 : Int) (0 : Nat)), (Value.int (3 : Int) (0 : Nat)), (Value.ref (53 : Nat)), (Value.bool Bool.true), (Value.int (276 : Int) (0 : Nat)), (Value.ref (54 : Nat)), Value.none, (Value.ref (55 : Nat)), (Value.ref (56 : Nat)), (Value.ref (57 : Nat)), (Value.int (317 : Int) (0 : Nat)), (Value.int (22 : Int) (0 : Nat)), (Value.str (Str.ofString "/claim/cut.py") (318 : Nat))])) (@List.toArray (Option Value) (@List.nil (Option Value))))) ::
    (@Prod.mk Nat Obj (nat_lit 59) (Obj.mk (Value.type "function") (@Option.none Nat) (Data.func (FuncData.mk (Str.ofString "and_") (Str.ofString "and_") fP7 (FuncBody.stmts fB7) fS11 (3 : Nat) (@List.nil (Prod Str Nat)) Value.none Value.none Value.none (Value.str (Str.ofString "cpy313.operator") (310 : Nat)) (@Option.none Nat) (Value.ref (58 : Nat)) Value.none (0 : Nat))) (@List.toArray (Option Value) (@List.nil (Option Value))))) ::
    (@Prod.mk Nat Obj (nat_lit 60) (Obj.mk (Value.type "tuple") (@Option.none Nat) (Data.seq (@List.toArray Value (@List.nil Value)) (0 : Nat)) (@List.toArray (Option Value) (@List.nil (Option Value))))) ::
    (@Prod.mk Nat Obj (nat_lit 62) (Obj.mk (Value.type "tuple") (@Option.none Nat) (Data.seq (@List.toArray Value [(Value.str (Str.ofString "a") (323 : Nat)), (Value.str (Str.ofString "b") (324 : Nat))]) (0 : Nat)) (@List.toArray (Option Value) (@List.nil (Option Value))))) ::
    (@Prod.mk Nat Obj (nat_lit 63) (Obj.mk (Value.type "tuple") (@Option.none Nat) (Data.seq (@List.toArray Value (@List.nil Value)) (0 : Nat)) (@List.toArray (Option Value) (@List.nil (Option Value))))) ::
    (@Prod.mk Nat Obj (nat_lit 65) (Obj.mk (Value.type "code") (@Option.none Nat) (Data.fields (@List.toArray Value [(Value.str (Str.ofString "mod") (320 : Nat)), (Value.str (Str.ofString "mod") (321 : Nat)), (Value.str (Str.ofString "/claim/cut.py") (322 : Nat)), (Value.int (24 : Int) (0 : Nat)), (Value.int (2 : Int) (0 : Nat)), (Value.int (0 : Int) (0 : Nat)), (Value.int (0 : Int) (0 : Nat)), (Value.int (3 : Int) (0 : Nat)), (Value.ref (60 : Nat)), (Value.bool Bool.true), (Value.int (276 : Int) (0 : Nat)), (Value.ref (61 : Nat)), Value.none, (Value.ref (62 : Nat)), (Value.ref (63 : Nat)), (Value.ref (64 : Nat)), (Value.int (325 : Int) (0 : Nat)), (Value.int (24 : Int) (0 : Nat)), (Value.str (Str.ofString "/claim/cut.py") (326 : Nat))])) (@List.toArray (Option Value) (@List.nil (Option Value))))) ::
    (@Prod.mk Nat Obj (nat_lit 66) (Obj.mk (Value.type "function") (@Option.none Nat) (Data.func (FuncData.mk (Str.ofString "mod") (Str.ofString "mod") fP8 (FuncBody.stmts fB8) fS11 (3 : Nat) (@List.nil (Prod Str Nat)) Value.none Value.none Value.none (Value.str (Str.ofString "cpy313.operator") (310 : Nat)) (@Option.none Nat) (Value.ref (65 : Nat)) Value.none (0 : Nat))) (@List.toArray (Option Value) (@List.nil (Option Value))))) ::
    (@Prod.mk Nat Obj (nat_lit 67) (Obj.mk (Value.type "tuple") (@Option.none Nat) (Data.seq (@List.toArray Value (@List.nil Value)) (0 : Nat)) (@List.toArray (Option Value) (@List.nil (Option Value))))) ::
    (@Prod.mk Nat Obj (nat_lit 69) (Obj.mk (Value.type "tuple") (@Option.none Nat) (Data.seq (@List.toArray Value [(Value.str (Str.ofString "a") (331 : Nat)), (Value.str (Str.ofString "b") (332 : Nat))]) (0 : Nat)) (@List.toArray (Option Value) (@List.nil (Option Value))))) ::
    (@Prod.mk Nat Obj (nat_lit 70) (Obj.mk (Value.type "tuple") (@Option.none Nat) (Data.seq (@List.toArray Value (@List.nil Value)) (0 : Nat)) (@List.toArray (Option Value) (@List.nil (Option Value))))) ::
    (@Prod.mk Nat Obj (nat_lit 72) (Obj.mk (Value.type "code") (@Option.none Nat) (Data.fields (@List.toArray Value [(Value.str (Str.ofString "or_") (328 : Nat)), (Value.str (Str.ofString "or_") (329 : Nat)), (Value.str (Str.ofString "/claim/cut.py") (330 : Nat)), (Value.int (26 : Int) (0 : Nat)), (Value.int (2 : Int) (0 : Nat)), (Value.int (0 : Int) (0 : Nat)), (Value.int (0 : Int) (0 : Nat)), (Value.int (3 : Int) (0 : Nat)), (Value.ref (67 : Nat)), (Value.bool Bool.true), (Value.int (276 : Int) (0 : Nat)), (Value.ref (68 : Nat)), Value.none, (Value.ref (69 : Nat)), (Value.ref (70 : Nat)), (Value.ref (71 : Nat)), (Value.int (333 : Int) (0 : Nat)), (Value.int (26 : Int) (0 : Nat)), (Value.str (Str.ofString "/claim/cut.py") (334 : Nat))])) (@List.toArray (Option Value) (@List.nil (Option Value))))) ::
    (@Prod.mk Nat Obj (nat_lit 73) (Obj.mk (Value.type "function") (@Option.none Nat) (Data.func (FuncData.mk (Str.ofString "or_") (Str.ofString "or_") fP9 (FuncBody.stmts fB9) fS11 (3 : Nat) (@List.nil (Prod Str Nat)) Value.none Value.none Value.none (Value.str (Str.ofString "cpy313.operator") (310 : Nat)) (@Option.none Nat) (Value.ref (72 : Nat)) Value.none (0 : Nat))) (@List.toArray (Option Value) (@List.nil (Option Value))))) ::
    (@Prod.mk Nat Obj (nat_lit 74) (Obj.mk (Value.type "tuple") (@Option.none Nat) (Data.seq (@List.toArray Value (@List.nil Value)) (0 : Nat)) (@List.toArray (Option Value) (@List.nil (Option Value))))) ::
    (@Prod.mk Nat Obj (nat_lit 76) (Obj.mk (Value.type "tuple") (@Option.none Nat) (Data.seq (@List.toArray Value [(Value.str (Str.ofString "a") (339 : Nat)), (Value.str (Str.ofString "b") (340 : Nat))]) (0 : Nat)) (@List.toArray (Option Value) (@List.nil (Option Value))))) ::
    (@Prod.mk Nat Obj (nat_lit 77) (Obj.mk (Value.type "tuple") (@Option.none Nat) (Data.seq (@List.toArray Value (@List.nil Value)) (0 : Nat)) (@List.toArray (Option Value) (@List.nil (Option Value))))) ::
    (@Prod.mk Nat Obj (nat_lit 79) (Obj.mk (Value.type "code") (@Option.none Nat) (Data.fields (@List.toArray Value [(Value.str (Str.ofString "rshift") (336 : Nat)), (Value.str (Str.ofString "rshift") (337 : Nat)), (Value.str (Str.ofString "/claim/cut.py") (338 : Nat)), (Value.int (28 : Int) (0 : Nat)), (Value.int (2 : Int) (0 : Nat)), (Value.int (0 : Int) (0 : Nat)), (Value.int (0 : Int) (0 : Nat)), (Value.int (3 : Int) (0 : Nat)), (Value.ref (74 : Nat)), (Value.bool Bool.true), (Value.int (276 : Int) (0 : Nat)), (Value.ref (75 : Nat)), Value.none, (Value.ref (76 : Nat)), (Value.ref (77 : Nat)), (Value.ref (78 : Nat)), (Value.int (341 : Int) (0 : Nat)), (Value.int (28 : Int) (0 : Nat)), (Value.str (Str.ofString "/claim/cut.py") (342 : Nat))])) (@List.toArray (Option Value) (@List.nil (Option Value))))) ::
    (@Prod.mk Nat Obj (nat_lit 80) (Obj.mk (Value.type "function") (@Option.none Nat) (Data.func (FuncData.mk (Str.ofString "rshift") (Str.ofString "rshift") fP10 (FuncBody.stmts fB10) fS11 (3 : Nat) (@List.nil (Prod Str Nat)) Value.none Value.none Value.none (Value.str (Str.ofString "cpy313.operator") (310 : Nat)) (@Option.none Nat) (Value.ref (79 : Nat)) Value.none (0 : Nat))) (@List.toArray (Option Value) (@List.nil (Option Value))))) ::
    (@Prod.mk Nat Obj (nat_lit 81) (Obj.mk (Value.type "tuple") (@Option.none Nat) (Data.seq (@List.toArray Value (@List.nil Value)) (0 : Nat)) (@List.toArray (Option Value) (@List.nil (Option Value))))) ::
    (@Prod.mk Nat Obj (nat_lit 83) (Obj.mk (Value.type "tuple") (@Option.none Nat) (Data.seq (@List.toArray Value [(Value.str (Str.ofString "a") (347 : Nat)), (Value.str (Str.ofString "b") (348 : Nat))]) (0 : Nat)) (@List.toArray (Option Value) (@List.nil (Option Value))))) ::
    (@Prod.mk Nat Obj (nat_lit 84) (Obj.mk (Value.type "tuple") (@Option.none Nat) (Data.seq (@List.toArray Value (@List.nil Value)) (0 : Nat)) (@List.toArray (Option Value) (@List.nil (Option Value))))) ::
    (@Prod.mk Nat Obj (nat_lit 86) (Obj.mk (Value.type "code") (@Option.none Nat) (Data.fields (@List.toArray Value [(Value.str (Str.ofString "sub") (344 : Nat)), (Value.str (Str.ofString "sub") (345 : Nat)), (Value.str (Str.ofString "/claim/cut.py") (346 : Nat)), (Value.int (30 : Int) (0 : Nat)), (Value.int (2 : Int) (0 : Nat)), (Value.int (0 : Int) (0 : Nat)), (Value.int (0 : Int) (0 : Nat)), (Value.int (3 : Int) (0 : Nat)), (Value.ref (81 : Nat)), (Value.bool Bool.true), (Value.int (276 : Int) (0 : Nat)), (Value.ref (82 : Nat)), Value.none, (Value.ref (83 : Nat)), (Value.ref (84 : Nat)), (Value.ref (85 : Nat)), (Value.int (349 : Int) (0 : Nat)), (Value.int (30 : Int) (0 : Nat)), (Value.str (Str.ofString "/claim/cut.py") (350 : Nat))])) (@List.toArray (Option Value) (@List.nil (Option Value))))) ::
    (@Prod.mk Nat Obj (nat_lit 87) (Obj.mk (Value.type "function") (@Option.none Nat) (Data.func (FuncData.mk (Str.ofString "sub") (Str.ofString "sub") fP11 (FuncBody.stmts fB11) fS11 (3 : Nat) (@List.nil (Prod Str Nat)) Value.none Value.none Value.none (Value.str (Str.ofString "cpy313.operator") (310 : Nat)) (@Option.none Nat) (Value.ref (86 : Nat)) Value.none (0 : Nat))) (@List.toArray (Option Value) (@List.nil (Option Value))))) ::
    (@Prod.mk Nat Obj (nat_lit 88) (Obj.mk (Value.type "tuple") (@Option.none Nat) (Data.seq (@List.toArray Value (@List.nil Value)) (0 : Nat)) (@List.toArray (Option Value) (@List.nil (Option Value))))) ::
    (@Prod.mk Nat Obj (nat_lit 90) (Obj.mk (Value.type "tuple") (@Option.none Nat) (Data.seq (@List.toArray Value [(Value.str (Str.ofString "ch_a") (363 : Nat)), (Value.str (Str.ofString "ch_b") (364 : Nat))]) (0 : Nat)) (@List.toArray (Option Value) (@List.nil (Option Value))))) ::
    (@Prod.mk Nat Obj (nat_lit 91) (Obj.mk (Value.type "tuple") (@Option.none Nat) (Data.seq (@List.toArray Value (@List.nil Value)) (0 : Nat)) (@List.toArray (Option Value) (@List.nil (Option Value))))) ::
    (@Prod.mk Nat Obj (nat_lit 93) (Obj.mk (Value.type "code") (@Option.none Nat) (Data.fields (@List.toArray Value [(Value.str (Str.ofString "_substitution_cost") (360 : Nat)), (Value.str (Str.ofString "_substitution_cost") (361 : Nat)), (Value.str (Str.ofString "/claim/cut.py") (362 : Nat)), (Value.int (36 : Int) (0 : Nat)), (Value.int (2 : Int) (0 : Nat)), (Value.int (0 : Int) (0 : Nat)), (Value.int (0 : Int) (0 : Nat)), (Value.int (3 : Int) (0 : Nat)), (Value.ref (88 : Nat)), (Value.bool Bool.true), (Value.int (276 : Int) (0 : Nat)), (Value.ref (89 : Nat)), Value.none, (Value.ref (90 : Nat)), (Value.ref (91 : Nat)), (Value.ref (92 : Nat)), (Value.int (365 : Int) (0 : Nat)), (Value.int (36 : Int) (0 : Nat)), (Value.str (Str.ofString "/claim/cut.py") (366 : Nat))])) (@List.toArray (Option Value) (@List.nil (Option Value))))) ::
    (@Prod.mk Nat Obj (nat_lit 94) (Obj.mk (Value.type "function") (@Option.none Nat) (Data.func (FuncData.mk (Str.ofString "_substitution_cost") (Str.ofString "_substitution_cost") fP16 (FuncBody.stmts fB16) fS16 (3 : Nat) (@List.nil (Prod Str Nat)) Value.none Value.none Value.none (Value.str (Str.ofString "cpy313.traceback") (352 : Nat)) (@Option.none Nat) (Value.ref (93 : Nat)) Value.none (0 : Nat))) (@List.toArray (Option Value) (@List.nil (Option Value))))) ::
    (@Prod.mk Nat Obj (nat_lit 95) (Obj.mk (Value.type "tuple") (@Option.none Nat) (Data.seq (@List.toArray Value (@List.nil Value)) (0 : Nat)) (@List.toArray (Option Value) (@List.nil (Option Value))))) ::
    (@Prod.mk Nat Obj (nat_lit 97) (Obj.mk (Value.type "tuple") (@Option.none Nat) (Data.seq (@List.toArray Value [(Value.str (Str.ofString "a") (371 : Nat)), (Value.str (Str.ofString "b") (372 : Nat)), (Value.str (Str.ofString "max_cost") (373 : Nat)), (Value.str (Str.ofString "pre") (374 : Nat)), (Value.str (Str.ofString "post") (375 : Nat)), (Value.str (Str.ofString "row") (376 : Nat)), (Value.str (Str.ofString "result") (377 : Nat)), (Value.str (Str.ofString "bindex") (378 : Nat)), (Value.str (Str.ofString "bchar") (379 : Nat)), (Value.str (Str.ofString "distance") (380 : Nat)), (Value.str (Str.ofString "minimum") (381 : Nat)), (Value.str (Str.ofString "index") (382 : Nat)), (Value.str (Str.ofString "substitute") (383 : Nat)), (Value.str (Str.ofString "insert_delete") (384 : Nat))]) (0 : Nat)) (@List.toArray (Option Value) (@List.nil (Option Value))))) ::
    (@Prod.mk Nat Obj (nat_lit 98) (Obj.mk (Value.type "tuple") (@Option.none Nat) (Data.seq (@List.toArray Value (@List.nil Value)) (0 : Nat)) (@List.toArray (Option Value) (@List.nil (Option Value))))) ::
    (@Prod.mk Nat Obj (nat_lit 100) (Obj.mk (Value.type "code") (@Option.none Nat) (Data.fields (@List.toArray Value [(Value.str (Str.ofString "_levenshtein_distance") (368 : Nat)), (Value.str (Str.ofString "_levenshtein_distance") (369 : Nat)), (Value.str (Str.ofString "/claim/cut.py") (370 : Nat)), (Value.int (42 : Int) (0 : Nat)), (Value.int (3 : Int) (0 : Nat)), (Value.int (0 : Int) (0 : Nat)), (Value.int (0 : Int) (0 : Nat)), (Value.int (3 : Int) (0 : Nat)), (Value.ref (95 : Nat)), (Value.bool Bool.true), (Value.int (276 : Int) (0 : Nat)), (Value.ref (96 : Nat)), Value.none, (Value.ref (97 : Nat)), (Value.ref (98 : Nat)), (Value.ref (99 : Nat)), (Value.int (385 : Int) (0 : Nat)), (Value.int (42 : Int) (0 : Nat)), (Value.str (Str.ofString "/claim/cut.py") (386 : Nat))])) (@List.toArray (Option Value) (@List.nil (Option Value))))) ::
    (@Prod.mk Nat Obj (nat_lit 101) (Obj.mk (Value.type "function") (@Option.none Nat) (Data.func (FuncData.mk (Str.ofString "_levenshtein_distance") (Str.ofString "_levenshtein_distance") fP17 (FuncBody.stmts fB17) fS17 (3 : Nat) (@List.nil (Prod Str Nat)) Value.none Value.none Value.none (Value.str (Str.ofString "cpy313.traceback") (352 : Nat)) (@Option.none Nat) (Value.ref (100 : Nat)) Value.none (0 : Nat))) (@List.toArray (Option Value) (@List.nil (Option Value))))) ::
    (@Prod.mk Nat Obj (nat_lit 105) (Obj.mk (Value.type "tuple") (@Option.none Nat) (Data.seq (@List.toArray Value [(Value.int (14 : Int) (0 : Nat)), (Value.int (14 : Int) (0 : Nat)), (Value.int (4 : Int) (0 : Nat)), (Value.int (1 : Int) (0 : Nat)), (Value.int (1 : Int) (0 : Nat)), (Value.int (9 : Int) (0 : Nat)), (Value.int (0 : Int) (0 : Nat)), (Value.int (4227896069 : Int) (0 : Nat)), (Value.int (939524097 : Int) (0 : Nat)), (Value.int (0 : Int) (0 : Nat)), (Value.int (0 : Int) (0 : Nat)), (Value.int (0 : Int) (0 : Nat)), (Value.int (0 : Int) (0 : Nat)), (Value.int (0 : Int) (0 : Nat)), (Value.int (0 : Int) (0 : Nat)), (Value.int (13 : Int) (0 : Nat)), (Value.int (11 : Int) (0 : Nat)), (Value.int (9 : Int) (0 : Nat)), (Value.int (0 : Int) (0 : Nat)), (Value.int (4227896069 : Int) (0 : Nat)), (Value.int (939524097 : Int) (0 : Nat)), (Value.int (0 : Int) (0 : Nat)), (Value.int (0 : Int) (0 : Nat)), (Value.int (0 : Int) (0 : Nat)), (Value.int (0 : Int) (0 : Nat)), (Value.int (0 : Int) (0 : Nat)), (Value.int (0 : Int) (0 : Nat)), (Value.int (1 : Int) (0 : Nat))]) (0 : Nat)) (@List.toArray (Option Value) (@List.nil (Option Value))))) ::
    (@Prod.mk Nat Obj (nat_lit 106) (Obj.mk (Value.type "re.Pattern") (@Option.none Nat) (Data.fields (@List.toArray Value [(Value.str (Str.ofString "[ \\(\\)<>@,;:\\\\\"/\\[\\]\\?=]") (391 : Nat)), (Value.int (32 : Int) (422 : Nat)), (Value.int (0 : Int) (0 : Nat)), Value.none, Value.none, (Value.ref (105 : Nat)), (Value.int (0 : Int) (0 : Nat))])) (@List.toArray (Option Value) (@List.nil (Option Value))))) ::
    (@Prod.mk Nat Obj (nat_lit 110) (Obj.mk (Value.type "tuple") (@Option.none Nat) (Data.seq (@List.toArray Value [(Value.int (14 : Int) (0 : Nat)), (Value.int (10 : Int) (0 : Nat)), (Value.int (4 : Int) (0 : Nat)), (Value.int (1 : Int) (0 : Nat)), (Value.int (1 : Int) (0 : Nat)), (Value.int (22 : Int) (0 : Nat)), (Value.int (0 : Int) (0 : Nat)), (Value.int (31 : Int) (0 : Nat)), (Value.int (16 : Int) (0 : Nat)), (Value.int (127 : Int) (0 : Nat)), (Value.int (0 : Int) (0 : Nat)), (Value.int (13 : Int) (0 : Nat)), (Value.int (7 : Int) (0 : Nat)), (Value.int (22 : Int) (0 : Nat)), (Value.int (0 : Int) (0 : Nat)), (Value.int (31 : Int) (0 : Nat)), (Value.int (16 : Int) (0 : Nat)), (Value.int (127 : Int) (0 : Nat)), (Value.int (0 : Int) (0 : Nat)), (Value.int (1 : Int) (0 : Nat))]) (0 : Nat)) (@List.toArray (Option Value) (@List.nil (Option Value))))) ::
    (@Prod.mk Nat Obj (nat_lit 111) (Obj.mk (Value.type "re.Pattern") (@Option.none Nat) (Data.fields (@List.toArray Value [(Value.str (Str.ofString "[\\x00-\\x1F\\x7F]") (425 : Nat)), (Value.int (32 : Int) (448 : Nat)), (Value.int (0 : Int) (0 : Nat)), Value.none, Value.none, (Value.ref (110 : Nat)), (Value.int (0 : Int) (0 : Nat))])) (@List.toArray (Option Value) (@List.nil (Option Value))))) ::
    (@Prod.mk Nat Obj (nat_lit 115) (Obj.mk (Value.type "tuple") (@Option.none Nat) (Data.seq (@List.toArray Value [(Value.int (14 : Int) (0 : Nat)), (Value.int (14 : Int) (0 : Nat)), (Value.int (4 : Int) (0 : Nat)), (Value.int (1 : Int) (0 : Nat)), (Value.int (1 : Int) (0 : Nat)), (Value.int (9 : Int) (0 : Nat)), (Value.int (4294966783 : Int) (0 : Nat)), (Value.int (0 : Int) (0 : Nat)), (Value.int (0 : Int) (0 : Nat)), (Value.int (2147483648 : Int) (0 : Nat)), (Value.int (0 : Int) (0 : Nat)), (Value.int (0 : Int) (0 : Nat)), (Value.int (0 : Int) (0 : Nat)), (Value.int (0 : Int) (0 : Nat)), (Value.int (0 : Int) (0 : Nat)), (Value.int (13 : Int) (0 : Nat)), (Value.int (11 : Int) (0 : Nat)), (Value.int (9 : Int) (0 : Nat)), (Value.int (4294966783 : Int) (0 : Nat)), (Value.int (0 : Int) (0 : Nat)), (Value.int (0 : Int) (0 : Nat)), (Value.int (2147483648 : Int) (0 : Nat)), (Value.int (0 : Int) (0 : Nat)), (Value.int (0 : Int) (0 : Nat)), (Value.int (0 : Int) (0 : Nat)), (Value.int (0 : Int) (0 : Nat)), (Value.int (0 : Int) (0 : Nat)), (Value.int (1 : Int) (0 : Nat))]) (0 : Nat)) (@List.toArray (Option Value) (@List.nil (Option Value))))) ::
    (@Prod.mk Nat Obj (nat_lit 116) (Obj.mk (Value.type "re.Pattern") (@Option.none Nat) (Data.fields (@List.toArray Value [(Value.str (Str.ofString "[\\x00-\\x08\\x0A-\\x1F\\x7F]") (451 : Nat)), (Value.int (32 : Int) (482 : Nat)), (Value.int (0 : Int) (0 : Nat)), Value.none, Value.none, (Value.ref (115 : Nat)), (Value.int (0 : Int) (0 : Nat))])) (@List.toArray (Option Value) (@List.nil (Option Value))))) ::
    (@Prod.mk Nat Obj (nat_lit 117) (Obj.mk (Value.type "tuple") (@Option.none Nat) (Data.seq (@List.toArray Value [Value.none, (Value.int (1 : Int) (484 : Nat))]) (0 : Nat)) (@List.toArray (Option Value) (@List.nil (Option Value))))) ::
    (@Prod.mk Nat Obj (nat_lit 118) (Obj.mk (Value.type "tuple") (@Option.none Nat) (Data.seq (@List.toArray Value (@List.nil Value)) (0 : Nat)) (@List.toArray (Option Value) (@List.nil (Option Value))))) ::
    (@Prod.mk Nat Obj (nat_lit 120) (Obj.mk (Value.type "tuple") (@Option.none Nat) (Data.seq (@List.toArray Value [(Value.str (Str.ofString "param") (488 : Nat)), (Value.str (Str.ofString "value") (489 : Nat)), (Value.str (Str.ofString "quote") (490 : Nat))]) (0 : Nat)) (@List.toArray (Option Value) (@List.nil (Option Value))))) ::
    (@Prod.mk Nat Obj (nat_lit 121) (Obj.mk (Value.type "tuple") (@Option.none Nat) (Data.seq (@List.toArray Value (@List.nil Value)) (0 : Nat)) (@List.toArray (Option Value) (@List.nil (Option Value))))) ::
    (@Prod.mk Nat Obj (nat_lit 123) (Obj.mk (Value.type "code") (@Option.none Nat) (Data.fields (@List.toArray Value [(Value.str (Str.ofString "_formatparam") (485 : Nat)), (Value.str (Str.ofString "_formatparam") (486 : Nat)), (Value.str (Str.ofString "/claim/cut.py") (487 : Nat)), (Value.int (84 : Int) (0 : Nat)), (Value.int (3 : Int) (0 : Nat)), (Value.int (0 : Int) (0 : Nat)), (Value.int (0 : Int) (0 : Nat)), (Value.int (3 : Int) (0 : Nat)), (Value.ref (118 : Nat)), (Value.bool Bool.true), (Value.int (276 : Int) (0 : Nat)), (Value.ref (119 : Nat)), Value.none, (Value.ref (120 : Nat)), (Value.ref (121 : Nat)), (Value.ref (122 : Nat)), (Value.int (491 : Int) (0 : Nat)), (Value.int (84 : Int) (0 : Nat)), (Value.str (Str.ofString "/claim/cut.py") (492 : Nat))])) (@List.toArray (Option Value) (@List.nil (Option Value))))) ::
    (@Prod.mk Nat Obj (nat_lit 124) (Obj.mk (Value.type "function") (@Option.none Nat) (Data.func (FuncData.mk (Str.ofString "_formatparam") (Str.ofString "_formatparam") fP22 (FuncBody.stmts fB22) fS22 (3 : Nat) (@List.nil (Prod Str Nat)) (Value.ref (117 : Nat)) Value.none Value.none (Value.str (Str.ofString "cpy313.wsgiref.headers") (388 : Nat)) (@Option.none Nat) (Value.ref (123 : Nat)) Value.none (0 : Nat))) (@List.toArray (Option Value) (@List.nil (Option Value))))) ::
    (@Prod.mk Nat Obj (nat_lit 132) (Obj.mk (Value.type "tuple") (@Option.none Nat) (Data.seq (@List.toArray Value [Value.none]) (0 : Nat)) (@List.toArray (Option Value) (@List.nil (Option Value))))) ::
    (@Prod.mk Nat Obj (nat_lit 133) (Obj.mk (Value.type "tuple") (@Option.none Nat) (Data.seq (@List.toArray Value (@List.nil Value)) (0 : Nat)) (@List.toArray (Option Value) (@List.nil (Option Value))))) ::
    (@Prod.mk Nat Obj (nat_lit 135) (Obj.mk (Value.type "tuple") (@Option.none Nat) (Data.seq (@List.toArray Value [(Value.str (Str.ofString "self") (509 : Nat)), (Value.str (Str.ofString "headers") (510 : Nat)), (Value.str (Str.ofString "k") (511 : Nat)), (Value.str (Str.ofString "v") (512 : Nat))]) (0 : Nat)) (@List.toArray (Option Value) (@List.nil (Option Value))))) ::
    (@Prod.mk Nat Obj (nat_lit 136) (Obj.mk (Value.type "tuple") (@Option.none Nat) (Data.seq (@List.toArray Value (@List.nil Value)) (0 : Nat)) (@List.toArray (Option Value) (@List.nil (Option Value))))) ::
    (@Prod.mk Nat Obj (nat_lit 138) (Obj.mk (Value.type "code") (@Option.none Nat) (Data.fields (@List.toArray Value [(Value.str (Str.ofString "__init__") (506 : Nat)), (Value.str (Str.ofString "Headers.__init__") (507 : Nat)), (Value.str (Str.ofString "/claim/cut.py") (508 : Nat)), (Value.int (95 : Int) (0 : Nat)), (Value.int (2 : Int) (0 : Nat)), (Value.int (0 : Int) (0 : Nat)), (Value.int (0 : Int) (0 : Nat)), (Value.int (3 : Int) (0 : Nat)), (Value.ref (133 : Nat)), (Value.bool Bool.true), (Value.int (276 : Int) (0 : Nat)), (Value.ref (134 : Nat)), Value.none, (Value.ref (135 : Nat)), (Value.ref (136 : Nat)), (Value.ref (137 : Nat)), (Value.int (513 : Int) (0 : Nat)), (Value.int (95 : Int) (0 : Nat)), (Value.str (Str.ofString "/claim/cut.py") (514 : Nat))])) (@List.toArray (Option Value) (@List.nil (Option Value))))) ::
    (@Prod.mk Nat Obj (nat_lit 139) (Obj.mk (Value.type "function") (@Option.none Nat) (Data.func (FuncData.mk (Str.ofString "__init__") (Str.ofString "Headers.__init__") mP0 (FuncBody.stmts mB0) mS0 (3 : Nat) (@List.nil (Prod Str Nat)) (Value.ref (132 : Nat)) Value.none Value.none (Value.str (Str.ofString "cpy313.wsgiref.headers") (388 : Nat)) (@Option.none Nat) (Value.ref (138 : Nat)) Value.none (0 : Nat))) (@List.toArray (Option Value) (@List.nil (Option Value))))) ::
    (@Prod.mk Nat Obj (nat_lit 140) (Obj.mk (Value.type "tuple") (@Option.none Nat) (Data.seq (@List.toArray Value (@List.nil Value)) (0 : Nat)) (@List.toArray (Option Value) (@List.nil (Option Value))))) ::
    (@Prod.mk Nat Obj (nat_lit 142) (Obj.mk (Value.type "tuple") (@Option.none Nat) (Data.seq (@List.toArray Value [(Value.str (Str.ofString "self") (519 : Nat)), (Value.str (Str.ofString "value") (520 : Nat)), (Value.str (Str.ofString "name") (521 : Nat)), (Value.str (Str.ofString "regex") (522 : Nat))]) (0 : Nat)) (@List.toArray (Option Value) (@List.nil (Option Value))))) ::
    (@Prod.mk Nat Obj (nat_lit 143) (Obj.mk (Value.type "tuple") (@Option.none Nat) (Data.seq (@List.toArray Value (@List.nil Value)) (0 : Nat)) (@List.toArray (Option Value) (@List.nil (Option Value))))) ::
    (@Prod.mk Nat Obj (nat_lit 145) (Obj.mk (Value.type "code") (@Option.none Nat) (Data.fields (@List.toArray Value [(Value.str (Str.ofString "_convert_string_type") (516 : Nat)), (Value.str (Str.ofString "Headers._convert_string_type") (517 : Nat)), (Value.str (Str.ofString "/claim/cut.py") (518 : Nat)), (Value.int (105 : Int) (0 : Nat)), (Value.int (2 : Int) (0 : Nat)), (Value.int (0 : Int) (0 : Nat)), (Value.int (1 : Int) (0 : Nat)), (Value.int (3 : Int) (0 : Nat)), (Value.ref (140 : Nat)), (Value.bool Bool.true), (Value.int (276 : Int) (0 : Nat)), (Value.ref (141 : Nat)), Value.none, (Value.ref (142 : Nat)), (Value.ref (143 : Nat)), (Value.ref (144 : Nat)), (Value.int (523 : Int) (0 : Nat)), (Value.int (105 : Int) (0 : Nat)), (Value.str (Str.ofString "/claim/cut.py") (524 : Nat))])) (@List.toArray (Option Value) (@List.nil (Option Value))))) ::
    (@Prod.mk Nat Obj (nat_lit 146) (Obj.mk (Value.type "function") (@Option.none Nat) (Data.func (FuncData.mk (Str.ofString "_convert_string_type") (Str.ofString "Headers._convert_string_type") mP1 (FuncBody.stmts mB1) mS1 (3 : Nat) (@List.nil (Prod Str Nat)) Value.none Value.none Value.none (Value.str (Str.ofString "cpy313.wsgiref.headers") (388 : Nat)) (@Option.none Nat) (Value.ref (145 : Nat)) Value.none (0 : Nat))) (@List.toArray (Option Value) (@List.nil (Option Value))))) ::
    (@Prod.mk Nat Obj (nat_lit 147) (Obj.mk (Value.type "tuple") (@Option.none Nat) (Data.seq (@List.toArray Value (@List.nil Value)) (0 : Nat)) (@List.toArray (Option Value) (@List.nil (Option Value))))) ::
    (@Prod.mk Nat Obj (nat_lit 149) (Obj.mk (Value.type "tuple") (@Option.none Nat) (Data.seq (@List.toArray Value [(Value.str (Str.ofString "self") (529 : Nat))]) (0 : Nat)) (@List.toArray (Option Value) (@List.nil (Option Value))))) ::
    (@Prod.mk Nat Obj (nat_lit 150) (Obj.mk (Value.type "tuple") (@Option.none Nat) (Data.seq (@List.toArray Value (@List.nil Value)) (0 : Nat)) (@List.toArray (Option Value) (@List.nil (Option Value))))) ::
    (@Prod.mk Nat Obj (nat_lit 152) (Obj.mk (Value.type "code") (@Option.none Nat) (Data.fields (@List.toArray Value [(Value.str (Str.ofString "__len__") (526 : Nat)), (Value.str (Str.ofString "Headers.__len__") (527 : Nat)), (Value.str (Str.ofString "/claim/cut.py") (528 : Nat)), (Value.int (113 : Int) (0 : Nat)), (Value.int (1 : Int) (0 : Nat)), (Value.int (0 : Int) (0 : Nat)), (Value.int (0 : Int) (0 : Nat)), (Value.int (3 : Int) (0 : Nat)), (Value.ref (147 : Nat)), (Value.bool Bool.true), (Value.int (276 : Int) (0 : Nat)), (Value.ref (148 : Nat)), Value.none, (Value.ref (149 : Nat)), (Value.ref (150 : Nat)), (Value.ref (151 : Nat)), (Value.int (530 : Int) (0 : Nat)), (Value.int (113 : Int) (0 : Nat)), (Value.str (Str.ofString "/claim/cut.py") (531 : Nat))])) (@List.toArray (Option Value) (@List.nil (Option Value))))) ::
    (@Prod.mk Nat Obj (nat_lit 153) (Obj.mk (Value.type "function") (@Option.none Nat) (Data.func (FuncData.mk (Str.ofString "__len__") (Str.ofString "Headers.__len__") mP2 (FuncBody.stmts mB2) mS2 (3 : Nat) (@List.nil (Prod Str Nat)) Value.none Value.none Value.none (Value.str (Str.ofString "cpy313.wsgiref.headers") (388 : Nat)) (@Option.none Nat) (Value.ref (152 : Nat)) Value.none (0 : Nat))) (@List.toArray (Option Value) (@List.nil (Option Value))))) ::
    (@Prod.mk Nat Obj (nat_lit 154) (Obj.mk (Value.type "tuple") (@Option.none Nat) (Data.seq (@List.toArray Value (@List.nil Value)) (0 : Nat)) (@List.toArray (Option Value) (@List.nil (Option Value))))) ::
    (@Prod.mk Nat Obj (nat_lit 156) (Obj.mk (Value.type "tuple") (@Option.none Nat) (Data.seq (@List.toArray Value [(Value.str (Str.ofString "self") (536 : Nat)), (Value.str (Str.ofString "name") (537 : Nat)), (Value.str (Str.ofString "val") (538 : Nat))]) (0 : Nat)) (@List.toArray (Option Value) (@List.nil (Option Value))))) ::
    (@Prod.mk Nat Obj (nat_lit 157) (Obj.mk (Value.type "tuple") (@Option.none Nat) (Data.seq (@List.toArray Value (@List.nil Value)) (0 : Nat)) (@List.toArray (Option Value) (@List.nil (Option Value))))) ::
    (@Prod.mk Nat Obj (nat_lit 159) (Obj.mk (Value.type "code") (@Option.none Nat) (Data.fields (@List.toArray Value [(Value.str (Str.ofString "__setitem__") (533 : Nat)), (Value.str (Str.ofString "Headers.__setitem__") (534 : Nat)), (Value.str (Str.ofString "/claim/cut.py") (535 : Nat)), (Value.int (116 : Int) (0 : Nat)), (Value.int (3 : Int) (0 : Nat)), (Value.int (0 : Int) (0 : Nat)), (Value.int (0 : Int) (0 : Nat)), (Value.int (3 : Int) (0 : Nat)), (Value.ref (154 : Nat)), (Value.bool Bool.true), (Value.int (276 : Int) (0 : Nat)), (Value.ref (155 : Nat)), Value.none, (Value.ref (156 : Nat)), (Value.ref (157 : Nat)), (Value.ref (158 : Nat)), (Value.int (539 : Int) (0 : Nat)), (Value.int (116 : Int) (0 : Nat)), (Value.str (Str.ofString "/claim/cut.py") (540 : Nat))])) (@List.toArray (Option Value) (@List.nil (Option Value))))) ::
    (@Prod.mk Nat Obj (nat_lit 160) (Obj.mk (Value.type "function") (@Option.none Nat) (Data.func (FuncData.mk (Str.ofString "__setitem__") (Str.ofString "Headers.__setitem__") mP3 (FuncBody.stmts mB3) mS3 (3 : Nat) (@List.nil (Prod Str Nat)) Value.none Value.none Value.none (Value.str (Str.ofString "cpy313.wsgiref.headers") (388 : Nat)) (@Option.none Nat) (Value.ref (159 : Nat)) Value.none (0 : Nat))) (@List.toArray (Option Value) (@List.nil (Option Value))))) ::
    (@Prod.mk Nat Obj (nat_lit 161) (Obj.mk (Value.type "tuple") (@Option.none Nat) (Data.seq (@List.toArray Value (@List.nil Value)) (0 : Nat)) (@List.toArray (Option Value) (@List.nil (Option Value))))) ::
    (@Prod.mk Nat Obj (nat_lit 164) (Obj.mk (Value.type "code") (@Option.none Nat) (Data.fields (@List.toArray Value [(Value.str (Str.ofString "__delitem__") (542 : Nat)), (Value.str (Str.ofString "Headers.__delitem__") (543 : Nat)), (Value.str (Str.ofString "/claim/cut.py") (544 : Nat)), (Value.int (120 : Int) (0 : Nat)), (Value.int (2 : Int) (0 : Nat)), (Value.int (0 : Int) (0 : Nat)), (Value.int (0 : Int) (0 : Nat)), (Value.int (3 : Int) (0 : Nat)), (Value.ref (161 : Nat)), (Value.bool Bool.true), (Value.int (276 : Int) (0 : Nat)), (Value.ref (162 : Nat)), Value.none, Value.none, Value.none, (Value.ref (163 : Nat)), (Value.int (545 : Int) (0 : Nat)), (Value.int (120 : Int) (0 : Nat)), (Value.str (Str.ofString "/claim/cut.py") (546 : Nat))])) (@List.toArray (Option Value) (@List.nil (Option Value))))) ::
    (@Prod.mk Nat Obj (nat_lit 165) (Obj.mk (Value.type "function") (@Option.none Nat) (Data.func (FuncData.mk (Str.ofString "__delitem__") (Str.ofString "Headers.__delitem__") mP4 (FuncBody.stmts mB4) mS7 (3 : Nat) (@List.nil (Prod Str Nat)) Value.none Value.none Value.none (Value.str (Str.ofString "cpy313.wsgiref.headers") (388 : Nat)) (@Option.none Nat) (Value.ref (164 : Nat)) Value.none (0 : Nat))) (@List.toArray (Option Value) (@List.nil (Option Value))))) ::
    (@Prod.mk Nat Obj (nat_lit 166) (Obj.mk (Value.type "tuple") (@Option.none Nat) (Data.seq (@List.toArray Value (@List.nil Value)) (0 : Nat)) (@List.toArray (Option Value) (@List.nil (Option Value))))) ::
    (@Prod.mk Nat Obj (nat_lit 168) (Obj.mk (Value.type "tuple") (@Option.none Nat) (Data.seq (@List.toArray Value [(Value.str (Str.ofString "self") (551 : Nat)), (Value.str (Str.ofString "name") (552 : Nat))]) (0 : Nat)) (@List.toArray (Option Value) (@List.nil (Option Value))))) ::
    (@Prod.mk Nat Obj (nat_lit 169) (Obj.mk (Value.type "tuple") (@Option.none Nat) (Data.seq (@List.toArray Value (@List.nil Value)) (0 : Nat)) (@List.toArray (Option Value) (@List.nil (Option Value))))) ::
    (@Prod.mk Nat Obj (nat_lit 171) (Obj.mk (Value.type "code") (@Option.none Nat) (Data.fields (@List.toArray Value [(Value.str (Str.ofString "__getitem__") (548 : Nat)), (Value.str (Str.ofString "Headers.__getitem__") (549 : Nat)), (Value.str (Str.ofString "/claim/cut.py") (550 : Nat)), (Value.int (124 : Int) (0 : Nat)), (Value.int (2 : Int) (0 : Nat)), (Value.int (0 : Int) (0 : Nat)), (Value.int (0 : Int) (0 : Nat)), (Value.int (3 : Int) (0 : Nat)), (Value.ref (166 : Nat)), (Value.bool Bool.true), (Value.int (276 : Int) (0 : Nat)), (Value.ref (167 : Nat)), Value.none, (Value.ref (168 : Nat)), (Value.ref (169 : Nat)), (Value.ref (170 : Nat)), (Value.int (553 : Int) (0 : Nat)), (Value.int (124 : Int) (0 : Nat)), (Value.str (Str.ofString "/claim/cut.py") (554 : Nat))])) (@List.toArray (Option Value) (@List.nil (Option Value))))) ::
    (@Prod.mk Nat Obj (nat_lit 172) (Obj.mk (Value.type "function") (@Option.none Nat) (Data.func (FuncData.mk (Str.ofString "__getitem__") (Str.ofString "Headers.__getitem__") mP5 (FuncBody.stmts mB5) mS6 (3 : Nat) (@List.nil (Prod Str Nat)) Value.none Value.none Value.none (Value.str (Str.ofString "cpy313.wsgiref.headers") (388 : Nat)) (@Option.none Nat) (Value.ref (171 : Nat)) Value.none (0 : Nat))) (@List.toArray (Option Value) (@List.nil (Option Value))))) ::
    (@Prod.mk Nat Obj (nat_lit 173) (Obj.mk (Value.type "tuple") (@Option.none Nat) (Data.seq (@List.toArray Value (@List.nil Value)) (0 : Nat)) (@List.toArray (Option Value) (@List.nil (Option Value))))) ::
    (@Prod.mk Nat Obj (nat_lit 175) (Obj.mk (Value.type "tuple") (@Option.none Nat) (Data.seq (@List.toArray Value [(Value.str (Str.ofString "self") (559 : Nat)), (Value.str (Str.ofString "name") (560 : Nat))]) (0 : Nat)) (@List.toArray (Option Value) (@List.nil (Option Value))))) ::
    (@Prod.mk Nat Obj (nat_lit 176) (Obj.mk (Value.type "tuple") (@Option.none Nat) (Data.seq (@List.toArray Value (@List.nil Value)) (0 : Nat)) (@List.toArray (Option Value) (@List.nil (Option Value))))) ::
    (@Prod.mk Nat Obj (nat_lit 178) (Obj.mk (Value.type "code") (@Option.none Nat) (Data.fields (@List.toArray Value [(Value.str (Str.ofString "__contains__") (556 : Nat)), (Value.str (Str.ofString "Headers.__contains__") (557 : Nat)), (Value.str (Str.ofString "/claim/cut.py") (558 : Nat)), (Value.int (127 : Int) (0 : Nat)), (Value.int (2 : Int) (0 : Nat)), (Value.int (0 : Int) (0 : Nat)), (Value.int (0 : Int) (0 : Nat)), (Value.int (3 : Int) (0 : Nat)), (Value.ref (173 : Nat)), (Value.bool Bool.true), (Value.int (276 : Int) (0 : Nat)), (Value.ref (174 : Nat)), Value.none, (Value.ref (175 : Nat)), (Value.ref (176 : Nat)), (Value.ref (177 : Nat)), (Value.int (561 : Int) (0 : Nat)), (Value.int (127 : Int) (0 : Nat)), (Value.str (Str.ofString "/claim/cut.py") (562 : Nat))])) (@List.toArray (Option Value) (@List.nil (Option Value))))) ::
    (@Prod.mk Nat Obj (nat_lit 179) (Obj.mk (Value.type "function") (@Option.none Nat) (Data.func (FuncData.mk (Str.ofString "__contains__") (Str.ofString "Headers.__contains__") mP6 (FuncBody.stmts mB6) mS6 (3 : Nat) (@List.nil (Prod Str Nat)) Value.none Value.none Value.none (Value.str (Str.ofString "cpy313.wsgiref.headers") (388 : Nat)) (@Option.none Nat) (Value.ref (178 : Nat)) Value.none (0 : Nat))) (@List.toArray (Option Value) (@List.nil (Option Value))))) ::
    (@Prod.mk Nat Obj (nat_lit 180) (Obj.mk (Value.type "tuple") (@Option.none Nat) (Data.seq (@List.toArray Value (@List.nil Value)) (0 : Nat)) (@List.toArray (Option Value) (@List.nil (Option Value))))) ::
    (@Prod.mk Nat Obj (nat_lit 183) (Obj.mk (Value.type "code") (@Option.none Nat) (Data.fields (@List.toArray Value [(Value.str (Str.ofString "get_all") (564 : Nat)), (Value.str (Str.ofString "Headers.get_all") (565 : Nat)), (Value.str (Str.ofString "/claim/cut.py") (566 : Nat)), (Value.int (130 : Int) (0 : Nat)), (Value.int (2 : Int) (0 : Nat)), (Value.int (0 : Int) (0 : Nat)), (Value.int (0 : Int) (0 : Nat)), (Value.int (3 : Int) (0 : Nat)), (Value.ref (180 : Nat)), (Value.bool Bool.true), (Value.int (276 : Int) (0 : Nat)), (Value.ref (181 : Nat)), Value.none, Value.none, Value.none, (Value.ref (182 : Nat)), (Value.int (567 : Int) (0 : Nat)), (Value.int (130 : Int) (0 : Nat)), (Value.str (Str.ofString "/claim/cut.py") (568 : Nat))])) (@List.toArray (Option Value) (@List.nil (Option Value))))) ::
    (@Prod.mk Nat Obj (nat_lit 184) (Obj.mk (Value.type "function") (@Option.none Nat) (Data.func (FuncData.mk (Str.ofString "get_all") (Str.ofString "Headers.get_all") mP7 (FuncBody.stmts mB7) mS7 (3 : Nat) (@List.nil (Prod Str Nat)) Value.none Value.none Value.none (Value.str (Str.ofString "cpy313.wsgiref.headers") (388 : Nat)) (@Option.none Nat) (Value.ref (183 : Nat)) Value.none (0 : Nat))) (@List.toArray (Option Value) (@List.nil (Option Value))))) ::
    (@Prod.mk Nat Obj (nat_lit 185) (Obj.mk (Value.type "tuple") (@Option.none Nat) (Data.seq (@List.toArray Value [Value.none]) (0 : Nat)) (@List.toArray (Option Value) (@List.nil (Option Value))))) ::
    (@Prod.mk Nat Obj (nat_lit 186) (Obj.mk (Value.type "tuple") (@Option.none Nat) (Data.seq (@List.toArray Value (@List.nil Value)) (0 : Nat)) (@List.toArray (Option Value) (@List.nil (Option Value))))) ::
    (@Prod.mk Nat Obj (nat_lit 188) (Obj.mk (Value.type "tuple") (@Option.none Nat) (Data.seq (@List.toArray Value [(Value.str (Str.ofString "self") (573 : Nat)), (Value.str (Str.ofString "name") (574 : Nat)), (Value.str (Str.ofString "default") (575 : Nat)), (Value.str (Str.ofString "k") (576 : Nat)), (Value.str (Str.ofString "v") (577 : Nat))]) (0 : Nat)) (@List.toArray (Option Value) (@List.nil (Option Value))))) ::
    (@Prod.mk Nat Obj (nat_lit 189) (Obj.mk (Value.type "tuple") (@Option.none Nat) (Data.seq (@List.toArray Value (@List.nil Value)) (0 : Nat)) (@List.toArray (Option Value) (@List.nil (Option Value))))) ::
    (@Prod.mk Nat Obj (nat_lit 191) (Obj.mk (Value.type "code") (@Option.none Nat) (Data.fields (@List.toArray Value [(Value.str (Str.ofString "get") (570 : Nat)), (Value.str (Str.ofString "Headers.get") (571 : Nat)), (Value.str (Str.ofString "/claim/cut.py") (572 : Nat)), (Value.int (134 : Int) (0 : Nat)), (Value.int (3 : Int) (0 : Nat)), (Value.int (0 : Int) (0 : Nat)), (Value.int (0 : Int) (0 : Nat)), (Value.int (3 : Int) (0 : Nat)), (Value.ref (186 : Nat)), (Value.bool Bool.true), (Value.int (276 : Int) (0 : Nat)), (Value.ref (187 : Nat)), Value.none, (Value.ref (188 : Nat)), (Value.ref (189 : Nat)), (Value.ref (190 : Nat)), (Value.int (578 : Int) (0 : Nat)), (Value.int (134 : Int) (0 : Nat)), (Value.str (Str.ofString "/claim/cut.py") (579 : Nat))])) (@List.toArray (Option Value) (@List.nil (Option Value))))) ::
    (@Prod.mk Nat Obj (nat_lit 192) (Obj.mk (Value.type "function") (@Option.none Nat) (Data.func (FuncData.mk (Str.ofString "get") (Str.ofString "Headers.get") mP8 (FuncBody.stmts mB8) mS8 (3 : Nat) (@List.nil (Prod Str Nat)) (Value.ref (185 : Nat)) Value.none Value.none (Value.str (Str.ofString "cpy313.wsgiref.headers") (388 : Nat)) (@Option.none Nat) (Value.ref (191 : Nat)) Value.none (0 : Nat))) (@List.toArray (Option Value) (@List.nil (Option Value))))) ::
    (@Prod.mk Nat Obj (nat_lit 193) (Obj.mk (Value.type "tuple") (@Option.none Nat) (Data.seq (@List.toArray Value (@List.nil Value)) (0 : Nat)) (@List.toArray (Option Value) (@List.nil (Option Value))))) ::
    (@Prod.mk Nat Obj (nat_lit 196) (Obj.mk (Value.type "code") (@Option.none Nat) (Data.fields (@List.toArray Value [(Value.str (Str.ofString "keys") (581 : Nat)), (Value.str (Str.ofString "Headers.keys") (582 : Nat)), (Value.str (Str.ofString "/claim/cut.py") (583 : Nat)), (Value.int (141 : Int) (0 : Nat)), (Value.int (1 : Int) (0 : Nat)), (Value.int (0 : Int) (0 : Nat)), (Value.int (0 : Int) (0 : Nat)), (Value.int (3 : Int) (0 : Nat)), (Value.ref (193 : Nat)), (Value.bool Bool.true), (Value.int (276 : Int) (0 : Nat)), (Value.ref (194 : Nat)), Value.none, Value.none, Value.none, (Value.ref (195 : Nat)), (Value.int (584 : Int) (0 : Nat)), (Value.int (141 : Int) (0 : Nat)), (Value.str (Str.ofString "/claim/cut.py") (585 : Nat))])) (@List.toArray (Option Value) (@List.nil (Option Value))))) ::
    (@Prod.mk Nat Obj (nat_lit 197) (Obj.mk (Value.type "function") (@Option.none Nat) (Data.func (FuncData.mk (Str.ofString "keys") (Str.ofString "Headers.keys") mP9 (FuncBody.stmts mB9) mS10 (3 : Nat) (@List.nil (Prod Str Nat)) Value.none Value.none Value.none (Value.str (Str.ofString "cpy313.wsgiref.headers") (388 : Nat)) (@Option.none Nat) (Value.ref (196 : Nat)) Value.none (0 : Nat))) (@List.toArray (Option Value) (@List.nil (Option Value))))) ::
    (@Prod.mk Nat Obj (nat_lit 198) (Obj.mk (Value.type "tuple") (@Option.none Nat) (Data.seq (@List.toArray Value (@List.nil Value)) (0 : Nat)) (@List.toArray (Option Value) (@List.nil (Option Value))))) ::
    (@Prod.mk Nat Obj (nat_lit 201) (Obj.mk (Value.type "code") (@Option.none Nat) (Data.fields (@List.toArray Value [(Value.str (Str.ofString "values") (587 : Nat)), (Value.str (Str.ofString "Headers.values") (588 : Nat)), (Value.str (Str.ofString "/claim/cut.py") (589 : Nat)), (Value.int (144 : Int) (0 : Nat)), (Value.int (1 : Int) (0 : Nat)), (Value.int (0 : Int) (0 : Nat)), (Value.int (0 : Int) (0 : Nat)), (Value.int (3 : Int) (0 : Nat)), (Value.ref (198 : Nat)), (Value.bool Bool.true), (Value.int (276 : Int) (0 : Nat)), (Value.ref (199 : Nat)), Value.none, Value.none, Value.none, (Value.ref (200 : Nat)), (Value.int (590 : Int) (0 : Nat)), (Value.int (144 : Int) (0 : Nat)), (Value.str (Str.ofString "/claim/cut.py") (591 : Nat))])) (@List.toArray (Option Value) (@List.nil (Option Value))))) ::
    (@Prod.mk Nat Obj (nat_lit 202) (Obj.mk (Value.type "function") (@Option.none Nat) (Data.func (FuncData.mk (Str.ofString "values") (Str.ofString "Headers.values") mP10 (FuncBody.stmts mB10) mS10 (3 : Nat) (@List.nil (Prod Str Nat)) Value.none Value.none Value.none (Value.str (Str.ofString "cpy313.wsgiref.headers") (388 : Nat)) (@Option.none Nat) (Value.ref (201 : Nat)) Value.none (0 : Nat))) (@List.toArray (Option Value) (@List.nil (Option Value))))) ::
    (@Prod.mk Nat Obj (nat_lit 203) (Obj.mk (Value.type "tuple") (@Option.none Nat) (Data.seq (@List.toArray Value (@List.nil Value)) (0 : Nat)) (@List.toArray (Option Value) (@List.nil (Option Value))))) ::
    (@Prod.mk Nat Obj (nat_lit 205) (Obj.mk (Value.type "tuple") (@Option.none Nat) (Data.seq (@List.toArray Value [(Value.str (Str.ofString "self") (596 : Nat))]) (0 : Nat)) (@List.toArray (Option Value) (@List.nil (Option Value))))) ::
    (@Prod.mk Nat Obj (nat_lit 206) (Obj.mk (Value.type "tuple") (@Option.none Nat) (Data.seq (@List.toArray Value (@List.nil Value)) (0 : Nat)) (@List.toArray (Option Value) (@List.nil (Option Value))))) ::
    (@Prod.mk Nat Obj (nat_lit 208) (Obj.mk (Value.type "code") (@Option.none Nat) (Data.fields (@List.toArray Value [(Value.str (Str.ofString "items") (593 : Nat)), (Value.str (Str.ofString "Headers.items") (594 : Nat)), (Value.str (Str.ofString "/claim/cut.py") (595 : Nat)), (Value.int (147 : Int) (0 : Nat)), (Value.int (1 : Int) (0 : Nat)), (Value.int (0 : Int) (0 : Nat)), (Value.int (0 : Int) (0 : Nat)), (Value.int (3 : Int) (0 : Nat)), (Value.ref (203 : Nat)), (Value.bool Bool.true), (Value.int (276 : Int) (0 : Nat)), (Value.ref (204 : Nat)), Value.none, (Value.ref (205 : Nat)), (Value.ref (206 : Nat)), (Value.ref (207 : Nat)), (Value.int (597 : Int) (0 : Nat)), (Value.int (147 : Int) (0 : Nat)), (Value.str (Str.ofString "/claim/cut.py") (598 : Nat))])) (@List.toArray (Option Value) (@List.nil (Option Value))))) ::
    (@Prod.mk Nat Obj (nat_lit 209) (Obj.mk (Value.type "function") (@Option.none Nat) (Data.func (FuncData.mk (Str.ofString "items") (Str.ofString "Headers.items") mP11 (FuncBody.stmts mB11) mS12 (3 : Nat) (@List.nil (Prod Str Nat)) Value.none Value.none Value.none (Value.str (Str.ofString "cpy313.wsgiref.headers") (388 : Nat)) (@Option.none Nat) (Value.ref (208 : Nat)) Value.none (0 : Nat))) (@List.toArray (Option Value) (@List.nil (Option Value))))) ::
    (@Prod.mk Nat Obj (nat_lit 210) (Obj.mk (Value.type "tuple") (@Option.none Nat) (Data.seq (@List.toArray Value (@List.nil Value)) (0 : Nat)) (@List.toArray (Option Value) (@List.nil (Option Value))))) ::
    (@Prod.mk Nat Obj (nat_lit 212) (Obj.mk (Value.type "tuple") (@Option.none Nat) (Data.seq (@List.toArray Value [(Value.str (Str.ofString "self") (603 : Nat))]) (0 : Nat)) (@List.toArray (Option Value) (@List.nil (Option Value))))) ::
    (@Prod.mk Nat Obj (nat_lit 213) (Obj.mk (Value.type "tuple") (@Option.none Nat) (Data.seq (@List.toArray Value (@List.nil Value)) (0 : Nat)) (@List.toArray (Option Value) (@List.nil (Option Value))))) ::
    (@Prod.mk Nat Obj (nat_lit 215) (Obj.mk (Value.type "code") (@Option.none Nat) (Data.fields (@List.toArray Value [(Value.str (Str.ofString "__repr__") (600 : Nat)), (Value.str (Str.ofString "Headers.__repr__") (601 : Nat)), (Value.str (Str.ofString "/claim/cut.py") (602 : Nat)), (Value.int (150 : Int) (0 : Nat)), (Value.int (1 : Int) (0 : Nat)), (Value.int (0 : Int) (0 : Nat)), (Value.int (0 : Int) (0 : Nat)), (Value.int (3 : Int) (0 : Nat)), (Value.ref (210 : Nat)), (Value.bool Bool.true), (Value.int (276 : Int) (0 : Nat)), (Value.ref (211 : Nat)), Value.none, (Value.ref (212 : Nat)), (Value.ref (213 : Nat)), (Value.ref (214 : Nat)), (Value.int (604 : Int) (0 : Nat)), (Value.int (150 : Int) (0 : Nat)), (Value.str (Str.ofString "/claim/cut.py") (605 : Nat))])) (@List.toArray (Option Value) (@List.nil (Option Value))))) ::
    (@Prod.mk Nat Obj (nat_lit 216) (Obj.mk (Value.type "function") (@Option.none Nat) (Data.func (FuncData.mk (Str.ofString "__repr__") (Str.ofString "Headers.__repr__") mP12 (FuncBody.stmts mB12) mS12 (3 : Nat) (@List.nil (Prod Str Nat)) Value.none Value.none Value.none (Value.str (Str.ofString "cpy313.wsgiref.headers") (388 : Nat)) (@Option.none Nat) (Value.ref (215 : Nat)) Value.none (0 : Nat))) (@List.toArray (Option Value) (@List.nil (Option Value))))) ::
    (@Prod.mk Nat Obj (nat_lit 217) (Obj.mk (Value.type "tuple") (@Option.none Nat) (Data.seq (@List.toArray Value (@List.nil Value)) (0 : Nat)) (@List.toArray (Option Value) (@List.nil (Option Value))))) ::
    (@Prod.mk Nat Obj (nat_lit 220) (Obj.mk (Value.type "code") (@Option.none Nat) (Data.fields (@List.toArray Value [(Value.str (Str.ofString "__str__") (607 : Nat)), (Value.str (Str.ofString "Headers.__str__") (608 : Nat)), (Value.str (Str.ofString "/claim/cut.py") (609 : Nat)), (Value.int (153 : Int) (0 : Nat)), (Value.int (1 : Int) (0 : Nat)), (Value.int (0 : Int) (0 : Nat)), (Value.int (0 : Int) (0 : Nat)), (Value.int (3 : Int) (0 : Nat)), (Value.ref (217 : Nat)), (Value.bool Bool.true), (Value.int (276 : Int) (0 : Nat)), (Value.ref (218 : Nat)), Value.none, Value.none, Value.none, (Value.ref (219 : Nat)), (Value.int (610 : Int) (0 : Nat)), (Value.int (153 : Int) (0 : Nat)), (Value.str (Str.ofString "/claim/cut.py") (611 : Nat))])) (@List.toArray (Option Value) (@List.nil (Option Value))))) ::
    (@Prod.mk Nat Obj (nat_lit 221) (Obj.mk (Value.type "function") (@Option.none Nat) (Data.func (FuncData.mk (Str.ofString "__str__") (Str.ofString "Headers.__str__") mP13 (FuncBody.stmts mB13) mS13 (3 : Nat) (@List.nil (Prod Str Nat)) Value.none Value.none Value.none (Value.str (Str.ofString "cpy313.wsgiref.headers") (388 : Nat)) (@Option.none Nat) (Value.ref (220 : Nat)) Value.none (0 : Nat))) (@List.toArray (Option Value) (@List.nil (Option Value))))) ::
    (@Prod.mk Nat Obj (nat_lit 222) (Obj.mk (Value.type "tuple") (@Option.none Nat) (Data.seq (@List.toArray Value (@List.nil Value)) (0 : Nat)) (@List.toArray (Option Value) (@List.nil (Option Value))))) ::
    (@Prod.mk Nat Obj (nat_lit 224) (Obj.mk (Value.type "tuple") (@Option.none Nat) (Data.seq (@List.toArray Value [(Value.str (Str.ofString "self") (616 : Nat))]) (0 : Nat)) (@List.toArray (Option Value) (@List.nil (Option Value))))) ::
    (@Prod.mk Nat Obj (nat_lit 225) (Obj.mk (Value.type "tuple") (@Option.none Nat) (Data.seq (@List.toArray Value (@List.nil Value)) (0 : Nat)) (@List.toArray (Option Value) (@List.nil (Option Value))))) ::
    (@Prod.mk Nat Obj (nat_lit 227) (Obj.mk (Value.type "code") (@Option.none Nat) (Data.fields (@List.toArray Value [(Value.str (Str.ofString "__bytes__") (613 : Nat)), (Value.str (Str.ofString "Headers.__bytes__") (614 : Nat)), (Value.str (Str.ofString "/claim/cut.py") (615 : Nat)), (Value.int (156 : Int) (0 : Nat)), (Value.int (1 : Int) (0 : Nat)), (Value.int (0 : Int) (0 : Nat)), (Value.int (0 : Int) (0 : Nat)), (Value.int (3 : Int) (0 : Nat)), (Value.ref (222 : Nat)), (Value.bool Bool.true), (Value.int (276 : Int) (0 : Nat)), (Value.ref (223 : Nat)), Value.none, (Value.ref (224 : Nat)), (Value.ref (225 : Nat)), (Value.ref (226 : Nat)), (Value.int (617 : Int) (0 : Nat)), (Value.int (156 : Int) (0 : Nat)), (Value.str (Str.ofString "/claim/cut.py") (618 : Nat))])) (@List.toArray (Option Value) (@List.nil (Option Value))))) ::
    (@Prod.mk Nat Obj (nat_lit 228) (Obj.mk (Value.type "function") (@Option.none Nat) (Data.func (FuncData.mk (Str.ofString "__bytes__") (Str.ofString "Headers.__bytes__") mP14 (FuncBody.stmts mB14) mS14 (3 : Nat) (@List.nil (Prod Str Nat)) Value.none Value.none Value.none (Value.str (Str.ofString "cpy313.wsgiref.headers") (388 : Nat)) (@Option.none Nat) (Value.ref (227 : Nat)) Value.none (0 : Nat))) (@List.toArray (Option Value) (@List.nil (Option Value))))) ::
    (@Prod.mk Nat Obj (nat_lit 229) (Obj.mk (Value.type "tuple") (@Option.none Nat) (Data.seq (@List.toArray Value (@List.nil Value)) (0 : Nat)) (@List.toArray (Option Value) (@List.nil (Option Value))))) ::
    (@Prod.mk Nat Obj (nat_lit 231) (Obj.mk (Value.type "tuple") (@Option.none Nat) (Data.seq (@List.toArray Value [(Value.str (Str.ofString "self") (623 : Nat)), (Value.str (Str.ofString "name") (624 : Nat)), (Value.str (Str.ofString "value") (625 : Nat))]) (0 : Nat)) (@List.toArray (Option Value) (@List.nil (Option Value))))) ::
    (@Prod.mk Nat Obj (nat_lit 232) (Obj.mk (Value.type "tuple") (@Option.none Nat) (Data.seq (@List.toArray Value (@List.nil Value)) (0 : Nat)) (@List.toArray (Option Value) (@List.nil (Option Value))))) ::
    (@Prod.mk Nat Obj (nat_lit 234) (Obj.mk (Value.type "code") (@Option.none Nat) (Data.fields (@List.toArray Value [(Value.str (Str.ofString "setdefault") (620 : Nat)), (Value.str (Str.ofString "Headers.setdefault") (621 : Nat)), (Value.str (Str.ofString "/claim/cut.py") (622 : Nat)), (Value.int (159 : Int) (0 : Nat)), (Value.int (3 : Int) (0 : Nat)), (Value.int (0 : Int) (0 : Nat)), (Value.int (0 : Int) (0 : Nat)), (Value.int (3 : Int) (0 : Nat)), (Value.ref (229 : Nat)), (Value.bool Bool.true), (Value.int (276 : Int) (0 : Nat)), (Value.ref (230 : Nat)), Value.none, (Value.ref (231 : Nat)), (Value.ref (232 : Nat)), (Value.ref (233 : Nat)), (Value.int (626 : Int) (0 : Nat)), (Value.int (159 : Int) (0 : Nat)), (Value.str (Str.ofString "/claim/cut.py") (627 : Nat))])) (@List.toArray (Option Value) (@List.nil (Option Value))))) ::
    (@Prod.mk Nat Obj (nat_lit 235) (Obj.mk (Value.type "function") (@Option.none Nat) (Data.func (FuncData.mk (Str.ofString "setdefault") (Str.ofString "Headers.setdefault") mP15 (FuncBody.stmts mB15) mS15 (3 : Nat) (@List.nil (Prod Str Nat)) Value.none Value.none Value.none (Value.str (Str.ofString "cpy313.wsgiref.headers") (388 : Nat)) (@Option.none Nat) (Value.ref (234 : Nat)) Value.none (0 : Nat))) (@List.toArray (Option Value) (@List.nil (Option Value))))) ::
    (@Prod.mk Nat Obj (nat_lit 236) (Obj.mk (Value.type "tuple") (@Option.none Nat) (Data.seq (@List.toArray Value (@List.nil Value)) (0 : Nat)) (@List.toArray (Option Value) (@List.nil (Option Value))))) ::
    (@Prod.mk Nat Obj (nat_lit 238) (Obj.mk (Value.type "tuple") (@Option.none Nat) (Data.seq (@List.toArray Value [(Value.str (Str.ofString "self") (632 : Nat)), (Value.str (Str.ofString "_name") (633 : Nat)), (Value.str (Str.ofString "_value") (634 : Nat)), (Value.str (Str.ofString "_params") (635 : Nat)), (Value.str (Str.ofString "parts") (636 : Nat)), (Value.str (Str.ofString "k") (637 : Nat)), (Value.str (Str.ofString "v") (638 : Nat))]) (0 : Nat)) (@List.toArray (Option Value) (@List.nil (Option Value))))) ::
    (@Prod.mk Nat Obj (nat_lit 239) (Obj.mk (Value.type "tuple") (@Option.none Nat) (Data.seq (@List.toArray Value (@List.nil Value)) (0 : Nat)) (@List.toArray (Option Value) (@List.nil (Option Value))))) ::
    (@Prod.mk Nat Obj (nat_lit 241) (Obj.mk (Value.type "code") (@Option.none Nat) (Data.fields (@List.toArray Value [(Value.str (Str.ofString "add_header") (629 : Nat)), (Value.str (Str.ofString "Headers.add_header") (630 : Nat)), (Value.str (Str.ofString "/claim/cut.py") (631 : Nat)), (Value.int (162 : Int) (0 : Nat)), (Value.int (3 : Int) (0 : Nat)), (Value.int (0 : Int) (0 : Nat)), (Value.int (0 : Int) (0 : Nat)), (Value.int (11 : Int) (0 : Nat)), (Value.ref (236 : Nat)), (Value.bool Bool.true), (Value.int (276 : Int) (0 : Nat)), (Value.ref (237 : Nat)), Value.none, (Value.ref (238 : Nat)), (Value.ref (239 : Nat)), (Value.ref (240 : Nat)), (Value.int (639 : Int) (0 : Nat)), (Value.int (162 : Int) (0 : Nat)), (Value.str (Str.ofString "/claim/cut.py") (640 : Nat))])) (@List.toArray (Option Value) (@List.nil (Option Value))))) ::
    (@Prod.mk Nat Obj (nat_lit 242) (Obj.mk (Value.type "function") (@Option.none Nat) (Data.func (FuncData.mk (Str.ofString "add_header") (Str.ofString "Headers.add_header") mP16 (FuncBody.stmts mB16) mS16 (3 : Nat) (@List.nil (Prod Str Nat)) Value.none Value.none Value.none (Value.str (Str.ofString "cpy313.wsgiref.headers") (388 : Nat)) (@Option.none Nat) (Value.ref (241 : Nat)) Value.none (0 : Nat))) (@List.toArray (Option Value) (@List.nil (Option Value))))) ::
    (@Prod.mk Nat Obj (nat_lit 243) (Obj.mk (Value.type "tuple") (@Option.none Nat) (Data.seq (@List.toArray Value [(Value.str (Str.ofString "_headers") (642 : Nat))]) (0 : Nat)) (@List.toArray (Option Value) (@List.nil (Option Value))))) ::
    (@Prod.mk Nat Obj (nat_lit 244) (Obj.mk (Value.type "dict") (@Option.none Nat) (Data.dict (@List.toArray DictEntry [(DictEntry.mk (PyData.keyHash P (Str.ofString "__module__")) (Value.str (Str.ofString "__module__") (501 : Nat)) (Value.str (Str.ofString "cpy313.wsgiref.headers") (388 : Nat))), (DictEntry.mk (PyData.keyHash P (Str.ofString "__firstlineno__")) (Value.str (Str.ofString "__firstlineno__") (505 : Nat)) (Value.int (93 : Int) (504 : Nat))), (DictEntry.mk (PyData.keyHash P (Str.ofString "__init__")) (Value.str (Str.ofString "__init__") (515 : Nat)) (Value.ref (139 : Nat))), (DictEntry.mk (PyData.keyHash P (Str.ofString "_convert_string_type")) (Value.str (Str.ofString "_convert_string_type") (525 : Nat)) (Value.ref (146 : Nat))), (DictEntry.mk (PyData.keyHash P (Str.ofString "__len__")) (Value.str (Str.ofString "__len__") (532 : Nat)) (Value.ref (153 : Nat))), (DictEntry.mk (PyData.keyHash P (Str.ofString "__setitem__")) (Value.str (Str.ofString "__setitem__") (541 : Nat)) (Value.ref (160 : Nat))), (DictEntry.mk (PyData.keyHash P (Str.ofString "__delitem__")) (Value.str (Str.ofString "__delitem__") (547 : Nat)) (Value.ref (165 : Nat))), (DictEntry.mk (PyData.keyHash P (Str.ofString "__getitem__")) (Value.str (Str.ofString "__getitem__") (555 : Nat)) (Value.ref (172 : Nat))), (DictEntry.mk (PyData.keyHash P (Str.ofString "__contains__")) (Value.str (Str.ofString "__contains__") (563 : Nat)) (Value.ref (179 : Nat))), (DictEntry.mk (PyData.keyHash P (Str.ofString "get_all")) (Value.str (Str.ofString "get_all") (569 : Nat)) (Value.ref (184 : Nat))), (DictEntry.mk (PyData.keyHash P (Str.ofString "get")) (Value.str (Str.ofString "get") (580 : Nat)) (Value.ref (192 : Nat))), (DictEntry.mk (PyData.keyHash P (Str.ofString "keys")) (Value.str (Str.ofString "keys") (586 : Nat)) (Value.ref (197 : Nat))), (DictEntry.mk (PyData.keyHash P (Str.ofString "values")) (Value.str (Str.ofString "values") (592 : Nat)) (Value.ref (202 : Nat))), (DictEntry.mk (PyData.keyHash P (Str.ofString "items")) (Value.str (Str.ofString "items") (599 : Nat)) (Value.ref (209 : Nat))), (DictEntry.mk (PyData.keyHash P (Str.ofString "__repr__")) (Value.str (Str.ofString "__repr__") (606 : Nat)) (Value.ref (216 : Nat))), (DictEntry.mk (PyData.keyHash P (Str.ofString "__str__")) (Value.str (Str.ofString "__str__") (612 : Nat)) (Value.ref (221 : Nat))), (DictEntry.mk (PyData.keyHash P (Str.ofString "__bytes__")) (Value.str (Str.ofString "__bytes__") (619 : Nat)) (Value.ref (228 : Nat))), (DictEntry.mk (PyData.keyHash P (Str.ofString "setdefault")) (Value.str (Str.ofString "setdefault") (628 : Nat)) (Value.ref (235 : Nat))), (DictEntry.mk (PyData.keyHash P (Str.ofString "add_header")) (Value.str (Str.ofString "add_header") (641 : Nat)) (Value.ref (242 : Nat))), (DictEntry.mk (PyData.keyHash P (Str.ofString "__static_attributes__")) (Value.str (Str.ofString "__static_attributes__") (643 : Nat)) (Value.ref (243 : Nat))), (DictEntry.mk (PyData.keyHash P (Str.ofString "__dict__")) (Value.str (Str.ofString "__dict__") (645 : Nat)) (Value.ref (246 : Nat))), (DictEntry.mk (PyData.keyHash P (Str.ofString "__weakref__")) (Value.str (Str.ofString "__weakref__") (647 : Nat)) (Value.ref (247 : Nat))), (DictEntry.mk (PyData.keyHash P (Str.ofString "__doc__")) (Value.str (Str.ofString "__doc__") (648 : Nat)) Value.none)]) (4 : Nat)) (@List.toArray (Option Value) (@List.nil (Option Value))))) ::
    (@Prod.mk Nat Obj (nat_lit 245) (Obj.mk (Value.type "type") (@Option.none Nat) (Data.cls (ClassData.mk (Str.ofString "Headers") [(Value.type "object")] [(Value.ref (245 : Nat)), (Value.type "object")] (244 : Nat) (Str.ofString "Headers") Bool.true (@List.nil Str) (@List.nil Value) Bool.false (@Option.none Bool) Bool.false)) (@List.toArray (Option Value) [(@Option.none Value), (@Option.none Value), (@Option.some Value (Value.str (Str.ofString "Headers") (494 : Nat))), (@Option.some Value (Value.str (Str.ofString "Headers") (502 : Nat))), (@Option.some Value (Value.builtin "object.__new__")), (@Option.some Value (Value.bool Bool.true))]))) ::
    (@Prod.mk Nat Obj (nat_lit 246) (Obj.mk (Value.type "getset_descriptor") (@Option.none Nat) (Data.fields (@List.toArray Value [(Value.str (Str.ofString "__dict__") (644 : Nat)), (Value.ref (245 : Nat)), (Value.builtin "function.__dict__"), (Value.builtin "function.__dict__#set")])) (@List.toArray (Option Value) (@List.nil (Option Value))))) ::
    (@Prod.mk Nat Obj (nat_lit 247) (Obj.mk (Value.type "getset_descriptor") (@Option.none Nat) (Data.fields (@List.toArray Value [(Value.str (Str.ofString "__weakref__") (646 : Nat)), (Value.ref (245 : Nat)), (Value.builtin "ExceptionGroup.__weakref__"), Value.none])) (@List.toArray (Option Value) (@List.nil (Option Value))))) ::
    (@Prod.mk Nat Obj (nat_lit 250) (Obj.mk (Value.type "tuple") (@Option.none Nat) (Data.seq (@List.toArray Value (@List.nil Value)) (0 : Nat)) (@List.toArray (Option Value) (@List.nil (Option Value))))) ::
    (@Prod.mk Nat Obj (nat_lit 253) (Obj.mk (Value.type "code") (@Option.none Nat) (Data.fields (@List.toArray Value [(Value.str (Str.ofString "_law_cells") (653 : Nat)), (Value.str (Str.ofString "_law_cells") (654 : Nat)), (Value.str (Str.ofString "/claim/cut.py") (655 : Nat)), (Value.int (176 : Int) (0 : Nat)), (Value.int (1 : Int) (0 : Nat)), (Value.int (0 : Int) (0 : Nat)), (Value.int (0 : Int) (0 : Nat)), (Value.int (3 : Int) (0 : Nat)), (Value.ref (250 : Nat)), (Value.bool Bool.true), (Value.int (276 : Int) (0 : Nat)), (Value.ref (251 : Nat)), Value.none, Value.none, Value.none, (Value.ref (252 : Nat)), (Value.int (656 : Int) (0 : Nat)), (Value.int (176 : Int) (0 : Nat)), (Value.str (Str.ofString "/claim/cut.py") (657 : Nat))])) (@List.toArray (Option Value) (@List.nil (Option Value))))) ::
    (@Prod.mk Nat Obj (nat_lit 254) (Obj.mk (Value.type "function") (@Option.none Nat) (Data.func (FuncData.mk (Str.ofString "_law_cells") (Str.ofString "_law_cells") fP25 (FuncBody.stmts fB25) fS25 (3 : Nat) (@List.nil (Prod Str Nat)) Value.none Value.none Value.none (Value.str (Str.ofString "law_ti0055_01") (651 : Nat)) (@Option.none Nat) (Value.ref (253 : Nat)) Value.none (0 : Nat))) (@List.toArray (Option Value) (@List.nil (Option Value))))) ::
    (@Prod.mk Nat Obj (nat_lit 255) (Obj.mk (Value.type "tuple") (@Option.none Nat) (Data.seq (@List.toArray Value (@List.nil Value)) (0 : Nat)) (@List.toArray (Option Value) (@List.nil (Option Value))))) ::
    (@Prod.mk Nat Obj (nat_lit 258) (Obj.mk (Value.type "code") (@Option.none Nat) (Data.fields (@List.toArray Value [(Value.str (Str.ofString "_law_sizes") (659 : Nat)), (Value.str (Str.ofString "_law_sizes") (660 : Nat)), (Value.str (Str.ofString "/claim/cut.py") (661 : Nat)), (Value.int (180 : Int) (0 : Nat)), (Value.int (1 : Int) (0 : Nat)), (Value.int (0 : Int) (0 : Nat)), (Value.int (0 : Int) (0 : Nat)), (Value.int (3 : Int) (0 : Nat)), (Value.ref (255 : Nat)), (Value.bool Bool.true), (Value.int (276 : Int) (0 : Nat)), (Value.ref (256 : Nat)), Value.none, Value.none, Value.none, (Value.ref (257 : Nat)), (Value.int (662 : Int) (0 : Nat)), (Value.int (180 : Int) (0 : Nat)), (Value.str (Str.ofString "/claim/cut.py") (663 : Nat))])) (@List.toArray (Option Value) (@List.nil (Option Value))))) ::
    (@Prod.mk Nat Obj (nat_lit 259) (Obj.mk (Value.type "function") (@Option.none Nat) (Data.func (FuncData.mk (Str.ofString "_law_sizes") (Str.ofString "_law_sizes") fP26 (FuncBody.stmts fB26) fS26 (3 : Nat) (@List.nil (Prod Str Nat)) Value.none Value.none Value.none (Value.str (Str.ofString "law_ti0055_01") (651 : Nat)) (@Option.none Nat) (Value.ref (258 : Nat)) Value.none (0 : Nat))) (@List.toArray (Option Value) (@List.nil (Option Value))))) ::
    (@Prod.mk Nat Obj (nat_lit 260) (Obj.mk (Value.type "tuple") (@Option.none Nat) (Data.seq (@List.toArray Value (@List.nil Value)) (0 : Nat)) (@List.toArray (Option Value) (@List.nil (Option Value))))) ::
    (@Prod.mk Nat Obj (nat_lit 263) (Obj.mk (Value.type "code") (@Option.none Nat) (Data.fields (@List.toArray Value [(Value.str (Str.ofString "_law_words") (665 : Nat)), (Value.str (Str.ofString "_law_words") (666 : Nat)), (Value.str (Str.ofString "/claim/cut.py") (667 : Nat)), (Value.int (189 : Int) (0 : Nat)), (Value.int (2 : Int) (0 : Nat)), (Value.int (0 : Int) (0 : Nat)), (Value.int (0 : Int) (0 : Nat)), (Value.int (3 : Int) (0 : Nat)), (Value.ref (260 : Nat)), (Value.bool Bool.true), (Value.int (276 : Int) (0 : Nat)), (Value.ref (261 : Nat)), Value.none, Value.none, Value.none, (Value.ref (262 : Nat)), (Value.int (668 : Int) (0 : Nat)), (Value.int (189 : Int) (0 : Nat)), (Value.str (Str.ofString "/claim/cut.py") (669 : Nat))])) (@List.toArray (Option Value) (@List.nil (Option Value))))) ::
    (@Prod.mk Nat Obj (nat_lit 264) (Obj.mk (Value.type "function") (@Option.none Nat) (Data.func (FuncData.mk (Str.ofString "_law_words") (Str.ofString "_law_words") fP27 (FuncBody.stmts fB27) fS27 (3 : Nat) (@List.nil (Prod Str Nat)) Value.none Value.none Value.none (Value.str (Str.ofString "law_ti0055_01") (651 : Nat)) (@Option.none Nat) (Value.ref (263 : Nat)) Value.none (0 : Nat))) (@List.toArray (Option Value) (@List.nil (Option Value))))) ::
    (@Prod.mk Nat Obj (nat_lit 265) (Obj.mk (Value.type "tuple") (@Option.none Nat) (Data.seq (@List.toArray Value (@List.nil Value)) (0 : Nat)) (@List.toArray (Option Value) (@List.nil (Option Value))))) ::
    (@Prod.mk Nat Obj (nat_lit 267) (Obj.mk (Value.type "tuple") (@Option.none Nat) (Data.seq (@List.toArray Value [(Value.str (Str.ofString "one") (674 : Nat)), (Value.str (Str.ofString "other") (675 : Nat)), (Value.str (Str.ofString "worth") (676 : Nat)), (Value.str (Str.ofString "sign") (677 : Nat)), (Value.str (Str.ofString "row") (678 : Nat)), (Value.str (Str.ofString "place") (679 : Nat)), (Value.str (Str.ofString "met") (680 : Nat)), (Value.str (Str.ofString "kept") (681 : Nat))]) (0 : Nat)) (@List.toArray (Option Value) (@List.nil (Option Value))))) ::
    (@Prod.mk Nat Obj (nat_lit 268) (Obj.mk (Value.type "tuple") (@Option.none Nat) (Data.seq (@List.toArray Value (@List.nil Value)) (0 : Nat)) (@List.toArray (Option Value) (@List.nil (Option Value))))) ::
    (@Prod.mk Nat Obj (nat_lit 270) (Obj.mk (Value.type "code") (@Option.none Nat) (Data.fields (@List.toArray Value [(Value.str (Str.ofString "_law_due") (671 : Nat)), (Value.str (Str.ofString "_law_due") (672 : Nat)), (Value.str (Str.ofString "/claim/cut.py") (673 : Nat)), (Value.int (196 : Int) (0 : Nat)), (Value.int (2 : Int) (0 : Nat)), (Value.int (0 : Int) (0 : Nat)), (Value.int (0 : Int) (0 : Nat)), (Value.int (3 : Int) (0 : Nat)), (Value.ref (265 : Nat)), (Value.bool Bool.true), (Value.int (276 : Int) (0 : Nat)), (Value.ref (266 : Nat)), Value.none, (Value.ref (267 : Nat)), (Value.ref (268 : Nat)), (Value.ref (269 : Nat)), (Value.int (682 : Int) (0 : Nat)), (Value.int (196 : Int) (0 : Nat)), (Value.str (Str.ofString "/claim/cut.py") (683 : Nat))])) (@List.toArray (Option Value) (@List.nil (Option Value))))) ::
    (@Prod.mk Nat Obj (nat_lit 271) (Obj.mk (Value.type "function") (@Option.none Nat) (Data.func (FuncData.mk (Str.ofString "_law_due") (Str.ofString "_law_due") fP28 (FuncBody.stmts fB28) fS28 (3 : Nat) (@List.nil (Prod Str Nat)) Value.none Value.none Value.none (Value.str (Str.ofString "law_ti0055_01") (651 : Nat)) (@Option.none Nat) (Value.ref (270 : Nat)) Value.none (0 : Nat))) (@List.toArray (Option Value) (@List.nil (Option Value))))) ::
    (@Prod.mk Nat Obj (nat_lit 272) (Obj.mk (Value.type "tuple") (@Option.none Nat) (Data.seq (@List.toArray Value (@List.nil Value)) (0 : Nat)) (@List.toArray (Option Value) (@List.nil (Option Value))))) ::
    (@Prod.mk Nat Obj (nat_lit 274) (Obj.mk (Value.type "tuple") (@Option.none Nat) (Data.seq (@List.toArray Value [(Value.str (Str.ofString "wins") (688 : Nat)), (Value.str (Str.ofString "table") (689 : Nat)), (Value.str (Str.ofString "winner") (690 : Nat)), (Value.str (Str.ofString "loser") (691 : Nat))]) (0 : Nat)) (@List.toArray (Option Value) (@List.nil (Option Value))))) ::
    (@Prod.mk Nat Obj (nat_lit 275) (Obj.mk (Value.type "tuple") (@Option.none Nat) (Data.seq (@List.toArray Value (@List.nil Value)) (0 : Nat)) (@List.toArray (Option Value) (@List.nil (Option Value))))) ::
    (@Prod.mk Nat Obj (nat_lit 277) (Obj.mk (Value.type "code") (@Option.none Nat) (Data.fields (@List.toArray Value [(Value.str (Str.ofString "_law_table") (685 : Nat)), (Value.str (Str.ofString "_law_table") (686 : Nat)), (Value.str (Str.ofString "/claim/cut.py") (687 : Nat)), (Value.int (205 : Int) (0 : Nat)), (Value.int (1 : Int) (0 : Nat)), (Value.int (0 : Int) (0 : Nat)), (Value.int (0 : Int) (0 : Nat)), (Value.int (3 : Int) (0 : Nat)), (Value.ref (272 : Nat)), (Value.bool Bool.true), (Value.int (276 : Int) (0 : Nat)), (Value.ref (273 : Nat)), Value.none, (Value.ref (274 : Nat)), (Value.ref (275 : Nat)), (Value.ref (276 : Nat)), (Value.int (692 : Int) (0 : Nat)), (Value.int (205 : Int) (0 : Nat)), (Value.str (Str.ofString "/claim/cut.py") (693 : Nat))])) (@List.toArray (Option Value) (@List.nil (Option Value))))) ::
    (@Prod.mk Nat Obj (nat_lit 278) (Obj.mk (Value.type "function") (@Option.none Nat) (Data.func (FuncData.mk (Str.ofString "_law_table") (Str.ofString "_law_table") fP29 (FuncBody.stmts fB29) fS29 (3 : Nat) (@List.nil (Prod Str Nat)) Value.none Value.none Value.none (Value.str (Str.ofString "law_ti0055_01") (651 : Nat)) (@Option.none Nat) (Value.ref (277 : Nat)) Value.none (0 : Nat))) (@List.toArray (Option Value) (@List.nil (Option Value))))) ::
    (@Prod.mk Nat Obj (nat_lit 279) (Obj.mk (Value.type "tuple") (@Option.none Nat) (Data.seq (@List.toArray Value (@List.nil Value)) (0 : Nat)) (@List.toArray (Option Value) (@List.nil (Option Value))))) ::
    (@Prod.mk Nat Obj (nat_lit 282) (Obj.mk (Value.type "code") (@Option.none Nat) (Data.fields (@List.toArray Value [(Value.str (Str.ofString "_law_orders") (695 : Nat)), (Value.str (Str.ofString "_law_orders") (696 : Nat)), (Value.str (Str.ofString "/claim/cut.py") (697 : Nat)), (Value.int (211 : Int) (0 : Nat)), (Value.int (1 : Int) (0 : Nat)), (Value.int (0 : Int) (0 : Nat)), (Value.int (0 : Int) (0 : Nat)), (Value.int (3 : Int) (0 : Nat)), (Value.ref (279 : Nat)), (Value.bool Bool.true), (Value.int (276 : Int) (0 : Nat)), (Value.ref (280 : Nat)), Value.none, Value.none, Value.none, (Value.ref (281 : Nat)), (Value.int (698 : Int) (0 : Nat)), (Value.int (211 : Int) (0 : Nat)), (Value.str (Str.ofString "/claim/cut.py") (699 : Nat))])) (@List.toArray (Option Value) (@List.nil (Option Value))))) ::
    (@Prod.mk Nat Obj (nat_lit 283) (Obj.mk (Value.type "function") (@Option.none Nat) (Data.func (FuncData.mk (Str.ofString "_law_orders") (Str.ofString "_law_orders") fP30 (FuncBody.stmts fB30) fS30 (3 : Nat) (@List.nil (Prod Str Nat)) Value.none Value.none Value.none (Value.str (Str.ofString "law_ti0055_01") (651 : Nat)) (@Option.none Nat) (Value.ref (282 : Nat)) Value.none (0 : Nat))) (@List.toArray (Option Value) (@List.nil (Option Value))))) ::
    (@Prod.mk Nat Obj (nat_lit 284) (Obj.mk (Value.type "tuple") (@Option.none Nat) (Data.seq (@List.toArray Value (@List.nil Value)) (0 : Nat)) (@List.toArray (Option Value) (@List.nil (Option Value))))) ::
    (@Prod.mk Nat Obj (nat_lit 286) (Obj.mk (Value.type "tuple") (@Option.none Nat) (Data.seq (@List.toArray Value [(Value.str (Str.ofString "ends") (704 : Nat)), (Value.str (Str.ofString "ways") (705 : Nat)), (Value.str (Str.ofString "choice") (706 : Nat)), (Value.str (Str.ofString "laid") (707 : Nat)), (Value.str (Str.ofString "start") (708 : Nat)), (Value.str (Str.ofString "place") (709 : Nat)), (Value.str (Str.ofString "end") (710 : Nat))]) (0 : Nat)) (@List.toArray (Option Value) (@List.nil (Option Value))))) ::
    (@Prod.mk Nat Obj (nat_lit 287) (Obj.mk (Value.type "tuple") (@Option.none Nat) (Data.seq (@List.toArray Value (@List.nil Value)) (0 : Nat)) (@List.toArray (Option Value) (@List.nil (Option Value))))) ::
    (@Prod.mk Nat Obj (nat_lit 289) (Obj.mk (Value.type "code") (@Option.none Nat) (Data.fields (@List.toArray Value [(Value.str (Str.ofString "_law_ways") (701 : Nat)), (Value.str (Str.ofString "_law_ways") (702 : Nat)), (Value.str (Str.ofString "/claim/cut.py") (703 : Nat)), (Value.int (216 : Int) (0 : Nat)), (Value.int (1 : Int) (0 : Nat)), (Value.int (0 : Int) (0 : Nat)), (Value.int (0 : Int) (0 : Nat)), (Value.int (3 : Int) (0 : Nat)), (Value.ref (284 : Nat)), (Value.bool Bool.true), (Value.int (276 : Int) (0 : Nat)), (Value.ref (285 : Nat)), Value.none, (Value.ref (286 : Nat)), (Value.ref (287 : Nat)), (Value.ref (288 : Nat)), (Value.int (711 : Int) (0 : Nat)), (Value.int (216 : Int) (0 : Nat)), (Value.str (Str.ofString "/claim/cut.py") (712 : Nat))])) (@List.toArray (Option Value) (@List.nil (Option Value))))) ::
    (@Prod.mk Nat Obj (nat_lit 290) (Obj.mk (Value.type "function") (@Option.none Nat) (Data.func (FuncData.mk (Str.ofString "_law_ways") (Str.ofString "_law_ways") fP31 (FuncBody.stmts fB31) fS31 (3 : Nat) (@List.nil (Prod Str Nat)) Value.none Value.none Value.none (Value.str (Str.ofString "law_ti0055_01") (651 : Nat)) (@Option.none Nat) (Value.ref (289 : Nat)) Value.none (0 : Nat))) (@List.toArray (Option Value) (@List.nil (Option Value))))) ::
    (@Prod.mk Nat Obj (nat_lit 291) (Obj.mk (Value.type "tuple") (@Option.none Nat) (Data.seq (@List.toArray Value (@List.nil Value)) (0 : Nat)) (@List.toArray (Option Value) (@List.nil (Option Value))))) ::
    (@Prod.mk Nat Obj (nat_lit 294) (Obj.mk (Value.type "code") (@Option.none Nat) (Data.fields (@List.toArray Value [(Value.str (Str.ofString "law") (714 : Nat)), (Value.str (Str.ofString "law") (715 : Nat)), (Value.str (Str.ofString "/claim/cut.py") (716 : Nat)), (Value.int (226 : Int) (0 : Nat)), (Value.int (1 : Int) (0 : Nat)), (Value.int (0 : Int) (0 : Nat)), (Value.int (0 : Int) (0 : Nat)), (Value.int (3 : Int) (0 : Nat)), (Value.ref (291 : Nat)), (Value.bool Bool.true), (Value.int (276 : Int) (0 : Nat)), (Value.ref (292 : Nat)), Value.none, Value.none, Value.none, (Value.ref (293 : Nat)), (Value.int (717 : Int) (0 : Nat)), (Value.int (226 : Int) (0 : Nat)), (Value.str (Str.ofString "/claim/cut.py") (718 : Nat))])) (@List.toArray (Option Value) (@List.nil (Option Value))))) ::
    (@Prod.mk Nat Obj (nat_lit 295) (Obj.mk (Value.type "function") (@Option.none Nat) (Data.func (FuncData.mk (Str.ofString "law") (Str.ofString "law") fP32 (FuncBody.stmts fB32) fS32 (3 : Nat) (@List.nil (Prod Str Nat)) Value.none Value.none Value.none (Value.str (Str.ofString "law_ti0055_01") (651 : Nat)) (@Option.none Nat) (Value.ref (294 : Nat)) Value.none (0 : Nat))) (@List.toArray (Option Value) (@List.nil (Option Value))))) :: (@List.nil (Prod Nat Obj))) _ _ _ _ _ _ _ _ _ _ _ _ _ _ _ _ _ _ _ _ _ _ _ _ _ _ _ _ _ _ _ _ _ _ _ _ _ _ _ _ _ _ _ _ _ _ _ _ _ _ _ _ _ _ _ _ _ _ _ _ _ _ _ _ _ _ _ _ _ _ _ _ _ _ _ _ _ _ _ _ _ _ _ _ _ _ _ _ _ _ _ _ _ _ _ _ _ _ _ ?_ ?_ ?_ ?_ ?_ ?_ ?_ ?_ ?_ ?_ ?_ ?_ ?_ ?_ ?_ ?_ ?_ ?_ ?_ ?_ ?_ ?_ ?_ ?_ ?_ ?_ ?_ ?_ ?_ ?_ ?_ ?_ ?_ ?_ ?_ ?_ ?_ ?_ ?_ ?_ ?_ ?_ ?_ ?_ ?_ ?_ ?_ ?_ ?_ ?_ ?_ ?_ ?_ ?_ ?_ ?_ ?_ ?_ ?_ ?_ ?_ ?_ ?_ ?_ ?_ ?_ ?_ ?_ ?_ ?_ ?_ ?_ ?_ ?_ ?_ ?_ ?_ ?_ ?_ ?_ ?_ ?_ ?_ ?_ ?_ ?_ ?_ ?_ ?_ ?_ ?_ ?_ ?_ ?_ ?_ ?_ ?_ ?_ ?_
  all_goals (try (conv => lhs; whnf))
noncomputable def viewK : Program := by
  refine' (fun (c0 : Stmt) (c1 : Stmt) (c3 : Stmt) (c4 : Stmt) (c5 : Stmt) (c7 : Stmt) (c8 : Stmt) (c9 : Stmt) (c10 : Stmt) (c11 : Stmt) (c13 : Stmt) (c14 : Stmt) (c15 : Stmt) (c16 : Stmt) (c17 : Stmt) (c19 : Stmt) (c20 : Stmt) (c21 : Stmt) (c23 : Stmt) (c25 : Stmt) (c26 : Stmt) (c27 : Stmt) (c28 : Stmt) (c29 : Stmt) (c30 : Stmt) (c31 : Stmt) (c32 : Stmt) (_ : stN 0 = c0) (_ : stN 1 = c1) (_ : stN 3 = c3) (_ : stN 4 = c4) (_ : stN 5 = c5) (_ : stN 7 = c7) (_ : stN 8 = c8) (_ : stN 9 = c9) (_ : stN 10 = c10) (_ : stN 11 = c11) (_ : stN 13 = c13) (_ : stN 14 = c14) (_ : stN 15 = c15) (_ : stN 16 = c16) (_ : stN 17 = c17) (_ : stN 19 = c19) (_ : stN 20 = c20) (_ : stN 21 = c21) (_ : stN 23 = c23) (_ : stN 25 = c25) (_ : stN 26 = c26) (_ : stN 27 = c27) (_ : stN 28 = c28) (_ : stN 29 = c29) (_ : stN 30 = c30) (_ : stN 31 = c31) (_ : stN 32 = c32) => { PySem.Challenge.rw_ti0055_01.row.toRowW.prog with main := { PySem.Challenge.rw_ti0055_01.row.toRowW.prog.main with body := [c0, c1, c3, c4, c5, c7, c8, c9, c10, c11, c13, c14, c15, c16, c17, c19, c20, c21, c23, c25, c26, c27, c28, c29, c30, c31, c32] } }) _ _ _ _ _ _ _ _ _ _ _ _ _ _ _ _ _ _ _ _ _ _ _ _ _ _ _ ?_ ?_ ?_ ?_ ?_ ?_ ?_ ?_ ?_ ?_ ?_ ?_ ?_ ?_ ?_ ?_ ?_ ?_ ?_ ?_ ?_ ?_ ?_ ?_ ?_ ?_ ?_
  all_goals (try (conv => lhs; whnf))
noncomputable def asK : List Addr := [2, 3, 32, 34, 35, 37, 38, 39, 41, 42, 44, 45, 46, 48, 49, 51, 52, 53, 55, 56, 58, 59, 60, 62, 63, 65, 66, 67, 69, 70, 72, 73, 74, 76, 77, 79, 80, 81, 83, 84, 86, 87, 88, 90, 91, 93, 94, 95, 97, 98, 100, 101, 105, 106, 110, 111, 115, 116, 117, 118, 120, 121, 123, 124, 132, 133, 135, 136, 138, 139, 140, 142, 143, 145, 146, 147, 149, 150, 152, 153, 154, 156, 157, 159, 160, 161, 164, 165, 166, 168, 169, 171, 172, 173, 175, 176, 178, 179, 180, 183, 184, 185, 186, 188, 189, 191, 192, 193, 196, 197, 198, 201, 202, 203, 205, 206, 208, 209, 210, 212, 213, 215, 216, 217, 220, 221, 222, 224, 225, 227, 228, 229, 231, 232, 234, 235, 236, 238, 239, 241, 242, 243, 244, 245, 246, 247, 250, 253, 254, 255, 258, 259, 260, 263, 264, 265, 267, 268, 270, 271, 272, 274, 275, 277, 278, 279, 282, 283, 284, 286, 287, 289, 290, 291, 294, 295]
theorem hK : ∀ P, asK = (heapK P).map (·.1) := fun _ => by kernel_rfl
noncomputable def hookK : Hook := kHook heapK asK hK
theorem saidK : PySem.Challenge.rw_ti0055_01.wellSaid = true := by
  refine (congrFun PySem.W.Fast.te9446332074065402090 _).trans ?_
  delta PySem.W.Fast.tw9446332074065402090 PySem.W.Fast.tw17960256430627541270 PySem.W.Fast.tw2436336058641802641 PySem.W.Fast.tw12908688711261696721
  repeat' (with_reducible refine look_both ?_ ?_)
  all_goals (decide +kernel)
noncomputable def dE (P : Params) (k : String) (n : Nat) (v : Value) : DictEntry := ⟨PyData.keyHash P (Str.ofString k), .str (Str.ofString k) n, v⟩
noncomputable def fE (a b : String) (p : Arguments) (l : List Stmt) (s : Scope) : Obj := Obj.mk Value.none (@Option.none Nat) (Data.func (FuncData.mk (Str.ofString a) (Str.ofString b) p (FuncBody.stmts l) s (0 : Nat) (@List.nil (Prod Str Nat)) Value.none Value.none Value.none Value.none (@Option.none Nat) Value.none Value.none (0 : Nat))) (@List.toArray (Option Value) (@List.nil (Option Value)))
noncomputable def oR0 : Obj := (Obj.mk Value.none (@Option.none Nat) (Data.fields (@List.toArray Value (@List.nil Value))) (@List.toArray (Option Value) (@List.nil (Option Value))))
noncomputable def oR1 : Obj := (Obj.mk (Value.type "tuple") (@Option.none Nat) (Data.seq (@List.toArray Value (@List.nil Value)) (0 : Nat)) (@List.toArray (Option Value) (@List.nil (Option Value))))
noncomputable def oR2 : Obj := (Obj.mk (Value.type "dict") (@Option.none Nat) (Data.dict (@List.toArray DictEntry (@List.nil DictEntry)) (0 : Nat)) (@List.toArray (Option Value) (@List.nil (Option Value))))
noncomputable def oR3 : Obj := (Obj.mk (Value.type "tuple") (@Option.none Nat) (Data.seq (@List.toArray Value [Value.none]) (0 : Nat)) (@List.toArray (Option Value) (@List.nil (Option Value))))
noncomputable def restK (P : Params) (X : Obj) : List (Nat × Obj) :=
    (@Prod.mk Nat Obj (nat_lit 0) (Obj.mk (Value.type "dict") (@Option.none Nat) (Data.dict (@List.toArray DictEntry [(dE P "__name__" 1 (Value.str (Str.ofString "builtins") (160 : Nat))), (dE P "__doc__" 2 (Value.builtin "builtins.__doc__:str#opaque")), (dE P "__package__" 3 (Value.builtin "builtins.__package__:str#opaque")), (dE P "__loader__" 4 (Value.builtin "builtins.__loader__:shared#opaque")), (dE P "__spec__" 5 (Value.builtin "builtins.__spec__#opaque")), (dE P "__build_class__" 6 (Value.builtin "__build_class__")), (dE P "__\x69mport__" 7 (Value.builtin "__\x69mport__")), (dE P "abs" 8 (Value.builtin "abs")), (dE P "all" 9 (Value.builtin "all")), (dE P "any" 10 (Value.builtin "any")), (dE P "ascii" 11 (Value.builtin "ascii")), (dE P "bin" 12 (Value.builtin "bin")), (dE P "breakpoint" 13 (Value.builtin "breakpoint")), (dE P "callable" 14 (Value.builtin "callable")), (dE P "chr" 15 (Value.builtin "chr")), (dE P "compile" 16 (Value.builtin "compile")), (dE P "delattr" 17 (Value.builtin "delattr")), (dE P "dir" 18 (Value.builtin "dir")), (dE P "divmod" 19 (Value.builtin "divmod")), (dE P "eval" 20 (Value.builtin "eval")), (dE P "exec" 21 (Value.builtin "exec")), (dE P "format" 22 (Value.builtin "format")), (dE P "getattr" 23 (Value.builtin "getattr")), (dE P "globals" 24 (Value.builtin "globals")), (dE P "hasattr" 25 (Value.builtin "hasattr")), (dE P "hash" 26 (Value.builtin "hash")), (dE P "hex" 27 (Value.builtin "hex")), (dE P "id" 28 (Value.builtin "id")), (dE P "input" 29 (Value.builtin "input")), (dE P "isinstance" 30 (Value.builtin "isinstance")), (dE P "issubclass" 31 (Value.builtin "issubclass")), (dE P "iter" 32 (Value.builtin "iter")), (dE P "aiter" 33 (Value.builtin "aiter")), (dE P "len" 34 (Value.builtin "len")), (dE P "locals" 35 (Value.builtin "locals")), (dE P "max" 36 (Value.builtin "max")), (dE P "min" 37 (Value.builtin "min")), (dE P "next" 38 (Value.builtin "next")), (dE P "anext" 39 (Value.builtin "anext")), (dE P "oct" 40 (Value.builtin "oct")), (dE P "ord" 41 (Value.builtin "ord")), (dE P "pow" 42 (Value.builtin "pow")), (dE P "print" 43 (Value.builtin "print")), (dE P "repr" 44 (Value.builtin "repr")), (dE P "round" 45 (Value.builtin "round")), (dE P "setattr" 46 (Value.builtin "setattr")), (dE P "sorted" 47 (Value.builtin "sorted")), (dE P "sum" 48 (Value.builtin "sum")), (dE P "vars" 49 (Value.builtin "vars")), (dE P "None" 50 Value.none), (dE P "Ellipsis" 51 Value.ellipsis), (dE P "NotImplemented" 52 Value.notImplemented), (dE P "False" 53 (Value.bool Bool.false)), (dE P "True" 54 (Value.bool Bool.true)), (dE P "bool" 55 (Value.type "bool")), (dE P "memoryview" 56 (Value.type "memoryview")), (dE P "bytearray" 57 (Value.type "bytearray")), (dE P "bytes" 58 (Value.type "bytes")), (dE P "classmethod" 59 (Value.type "classmethod")), (dE P "complex" 60 (Value.type "complex")), (dE P "dict" 61 (Value.type "dict")), (dE P "enumerate" 62 (Value.type "enumerate")), (dE P "filter" 63 (Value.type "filter")), (dE P "float" 64 (Value.type "float")), (dE P "frozenset" 65 (Value.type "frozenset")), (dE P "property" 66 (Value.type "property")), (dE P "int" 67 (Value.type "int")), (dE P "list" 68 (Value.type "list")), (dE P "map" 69 (Value.type "map")), (dE P "object" 70 (Value.type "object")), (dE P "range" 71 (Value.type "range")), (dE P "reversed" 72 (Value.type "reversed")), (dE P "set" 73 (Value.type "set")), (dE P "slice" 74 (Value.type "slice")), (dE P "staticmethod" 75 (Value.type "staticmethod")), (dE P "str" 76 (Value.type "str")), (dE P "super" 77 (Value.type "super")), (dE P "tuple" 78 (Value.type "tuple")), (dE P "type" 79 (Value.type "type")), (dE P "zip" 80 (Value.type "zip")), (dE P "__debug__" 81 (Value.bool Bool.true)), (dE P "BaseException" 82 (Value.type "BaseException")), (dE P "BaseExceptionGroup" 83 (Value.type "BaseExceptionGroup")), (dE P "Exception" 84 (Value.type "Exception")), (dE P "GeneratorExit" 85 (Value.type "GeneratorExit")), (dE P "KeyboardInterrupt" 86 (Value.type "KeyboardInterrupt")), (dE P "SystemExit" 87 (Value.type "SystemExit")), (dE P "ArithmeticError" 88 (Value.type "ArithmeticError")), (dE P "AssertionError" 89 (Value.type "AssertionError")), (dE P "AttributeError" 90 (Value.type "AttributeError")), (dE P "BufferError" 91 (Value.type "BufferError")), (dE P "EOFError" 92 (Value.type "EOFError")), (dE P "ImportError" 93 (Value.type "ImportError")), (dE P "LookupError" 94 (Value.type "LookupError")), (dE P "MemoryError" 95 (Value.type "MemoryError")), (dE P "NameError" 96 (Value.type "NameError")), (dE P "OSError" 97 (Value.type "OSError")), (dE P "ReferenceError" 98 (Value.type "ReferenceError")), (dE P "RuntimeError" 99 (Value.type "RuntimeError")), (dE P "StopAsyncIteration" 100 (Value.type "StopAsyncIteration")), (dE P "StopIteration" 101 (Value.type "StopIteration")), (dE P "SyntaxError" 102 (Value.type "SyntaxError")), (dE P "SystemError" 103 (Value.type "SystemError")), (dE P "TypeError" 104 (Value.type "TypeError")), (dE P "ValueError" 105 (Value.type "ValueError")), (dE P "Warning" 106 (Value.type "Warning")), (dE P "FloatingPointError" 107 (Value.type "FloatingPointError")), (dE P "OverflowError" 108 (Value.type "OverflowError")), (dE P "ZeroDivisionError" 109 (Value.type "ZeroDivisionError")), (dE P "BytesWarning" 110 (Value.type "BytesWarning")), (dE P "DeprecationWarning" 111 (Value.type "DeprecationWarning")), (dE P "EncodingWarning" 112 (Value.type "EncodingWarning")), (dE P "FutureWarning" 113 (Value.type "FutureWarning")), (dE P "ImportWarning" 114 (Value.type "ImportWarning")), (dE P "PendingDeprecationWarning" 115 (Value.type "PendingDeprecationWarning")), (dE P "ResourceWarning" 116 (Value.type "ResourceWarning")), (dE P "RuntimeWarning" 117 (Value.type "RuntimeWarning")), (dE P "SyntaxWarning" 118 (Value.type "SyntaxWarning")), (dE P "UnicodeWarning" 119 (Value.type "UnicodeWarning")), (dE P "UserWarning" 120 (Value.type "UserWarning")), (dE P "BlockingIOError" 121 (Value.type "BlockingIOError")), (dE P "ChildProcessError" 122 (Value.type "ChildProcessError")), (dE P "ConnectionError" 123 (Value.type "ConnectionError")), (dE P "FileExistsError" 124 (Value.type "FileExistsError")), (dE P "FileNotFoundError" 125 (Value.type "FileNotFoundError")), (dE P "InterruptedError" 126 (Value.type "InterruptedError")), (dE P "IsADirectoryError" 127 (Value.type "IsADirectoryError")), (dE P "NotADirectoryError" 128 (Value.type "NotADirectoryError")), (dE P "PermissionError" 129 (Value.type "PermissionError")), (dE P "ProcessLookupError" 130 (Value.type "ProcessLookupError")), (dE P "TimeoutError" 131 (Value.type "TimeoutError")), (dE P "IndentationError" 132 (Value.type "IndentationError")), (dE P "_IncompleteInputError" 133 (Value.type "_IncompleteInputError")), (dE P "IndexError" 134 (Value.type "IndexError")), (dE P "KeyError" 135 (Value.type "KeyError")), (dE P "ModuleNotFoundError" 136 (Value.type "ModuleNotFoundError")), (dE P "NotImplementedError" 137 (Value.type "NotImplementedError")), (dE P "PythonFinalizationError" 138 (Value.type "PythonFinalizationError")), (dE P "RecursionError" 139 (Value.type "RecursionError")), (dE P "UnboundLocalError" 140 (Value.type "UnboundLocalError")), (dE P "UnicodeError" 141 (Value.type "UnicodeError")), (dE P "BrokenPipeError" 142 (Value.type "BrokenPipeError")), (dE P "ConnectionAbortedError" 143 (Value.type "ConnectionAbortedError")), (dE P "ConnectionRefusedError" 144 (Value.type "ConnectionRefusedError")), (dE P "ConnectionResetError" 145 (Value.type "ConnectionResetError")), (dE P "TabError" 146 (Value.type "TabError")), (dE P "UnicodeDecodeError" 147 (Value.type "UnicodeDecodeError")), (dE P "UnicodeEncodeError" 148 (Value.type "UnicodeEncodeError")), (dE P "UnicodeTranslateError" 149 (Value.type "UnicodeTranslateError")), (dE P "ExceptionGroup" 150 (Value.type "ExceptionGroup")), (dE P "EnvironmentError" 151 (Value.type "OSError")), (dE P "IOError" 152 (Value.type "OSError")), (dE P "open" 153 (Value.builtin "open")), (dE P "quit" 154 (Value.builtin "builtins.quit#opaque")), (dE P "exit" 155 (Value.builtin "builtins.exit#opaque")), (dE P "copyright" 156 (Value.builtin "builtins.copyright#opaque")), (dE P "credits" 157 (Value.builtin "builtins.credits#opaque")), (dE P "license" 158 (Value.builtin "builtins.license#opaque")), (dE P "help" 159 (Value.builtin "builtins.help#opaque"))]) (159 : Nat)) (@List.toArray (Option Value) (@List.nil (Option Value))))) ::
    (@Prod.mk Nat Obj (nat_lit 1) (Obj.mk (Value.type "dict") (@Option.none Nat) (Data.dict (@List.toArray DictEntry [(dE P "builtins" 162 (Value.ref (4 : Nat))), (dE P "__main__" 163 (Value.ref (5 : Nat))), (dE P "_sre" 244 (Value.ref (12 : Nat)))]) (3 : Nat)) (@List.toArray (Option Value) (@List.nil (Option Value))))) ::
    (@Prod.mk Nat Obj (nat_lit 4) (Obj.mk (Value.type "module") (@Option.some Nat (0 : Nat)) Data.plain (@List.toArray (Option Value) (@List.nil (Option Value))))) ::
    (@Prod.mk Nat Obj (nat_lit 5) (Obj.mk (Value.type "module") (@Option.some Nat (3 : Nat)) Data.plain (@List.toArray (Option Value) (@List.nil (Option Value))))) ::
    (@Prod.mk Nat Obj (nat_lit 6) oR2) ::
    (@Prod.mk Nat Obj (nat_lit 7) oR1) ::
    (@Prod.mk Nat Obj (nat_lit 8) oR0) ::
    (@Prod.mk Nat Obj (nat_lit 9) (Obj.mk (Value.type "code") (@Option.none Nat) (Data.fields (@List.toArray Value [(Value.str (Str.ofString "<module>") (176 : Nat)), (Value.str (Str.ofString "<module>") (177 : Nat)), (Value.str (Str.ofString "/claim/cut.py") (178 : Nat)), (Value.int (1 : Int) (0 : Nat)), (Value.int (0 : Int) (0 : Nat)), (Value.int (0 : Int) (0 : Nat)), (Value.int (0 : Int) (0 : Nat)), (Value.int (0 : Int) (0 : Nat)), (Value.ref (7 : Nat)), (Value.bool Bool.false), (Value.int (175 : Int) (0 : Nat)), (Value.ref (8 : Nat)), Value.none, Value.none, Value.none, Value.none, (Value.int (179 : Int) (0 : Nat)), (Value.int (1 : Int) (0 : Nat)), (Value.str (Str.ofString "/claim/cut.py") (180 : Nat))])) (@List.toArray (Option Value) (@List.nil (Option Value))))) ::
    (@Prod.mk Nat Obj (nat_lit 10) (Obj.mk (Value.type "frame") (@Option.none Nat) Data.plain (@List.toArray (Option Value) [(@Option.some Value (Value.ref (9 : Nat))), (@Option.some Value (Value.ref (3 : Nat))), (@Option.some Value (Value.ref (3 : Nat))), (@Option.none Value), (@Option.some Value (Value.str (Str.ofString "__main__") (164 : Nat))), (@Option.none Value), (@Option.some Value (Value.ref (0 : Nat)))]))) ::
    (@Prod.mk Nat Obj (nat_lit 11) (Obj.mk (Value.type "dict") (@Option.none Nat) (Data.dict (@List.toArray DictEntry [(dE P "__name__" 247 (Value.str (Str.ofString "_sre") (246 : Nat))), (dE P "__doc__" 248 Value.none), (dE P "__package__" 250 (Value.str (Str.ofString "") (249 : Nat))), (dE P "__loader__" 251 (Value.builtin (PySem.W.Fast.tw7711175855553588321 (Str.ofString "_sre") (Str.ofString "__loader__")))), (dE P "__spec__" 252 (Value.builtin (PySem.W.Fast.tw7711175855553588321 (Str.ofString "_sre") (Str.ofString "__spec__")))), (dE P "compile" 253 (Value.builtin "_sre.compile")), (dE P "template" 254 (Value.builtin (PySem.W.Fast.tw7711175855553588321 (Str.ofString "_sre") (Str.ofString "template")))), (dE P "getcodesize" 255 (Value.builtin (PySem.W.Fast.tw7711175855553588321 (Str.ofString "_sre") (Str.ofString "getcodesize")))), (dE P "ascii_iscased" 256 (Value.builtin (PySem.W.Fast.tw7711175855553588321 (Str.ofString "_sre") (Str.ofString "ascii_iscased")))), (dE P "unicode_iscased" 257 (Value.builtin (PySem.W.Fast.tw7711175855553588321 (Str.ofString "_sre") (Str.ofString "unicode_iscased")))), (dE P "ascii_tolower" 258 (Value.builtin (PySem.W.Fast.tw7711175855553588321 (Str.ofString "_sre") (Str.ofString "ascii_tolower")))), (dE P "unicode_tolower" 259 (Value.builtin (PySem.W.Fast.tw7711175855553588321 (Str.ofString "_sre") (Str.ofString "unicode_tolower")))), (dE P "MAGIC" 261 (Value.int (20230612 : Int) (260 : Nat))), (dE P "CODESIZE" 263 (Value.int (4 : Int) (262 : Nat))), (dE P "MAXREPEAT" 265 (Value.int (4294967295 : Int) (264 : Nat))), (dE P "MAXGROUPS" 267 (Value.int (1073741823 : Int) (266 : Nat))), (dE P "copyright" 269 (Value.str (Str.ofString " SRE 2.2.2 Copyright (c) 1997-2002 by Secret Labs AB ") (268 : Nat)))]) (17 : Nat)) (@List.toArray (Option Value) (@List.nil (Option Value))))) ::
    (@Prod.mk Nat Obj (nat_lit 12) (Obj.mk (Value.type "module") (@Option.some Nat (11 : Nat)) Data.plain (@List.toArray (Option Value) (@List.nil (Option Value))))) ::
    (@Prod.mk Nat Obj (nat_lit 13) (Obj.mk (Value.type "dict") (@Option.none Nat) (Data.dict (@List.toArray DictEntry [(dE P "__module__" 189 (Value.str (Str.ofString "_frozen_\x69mportlib") (186 : Nat))), (dE P "__firstlineno__" 190 (Value.int (971 : Int) (187 : Nat))), (dE P "__doc__" 191 (Value.builtin "_frozen_\x69mportlib.BuiltinImporter.__doc__:str#opaque")), (dE P "_ORIGIN" 192 (Value.str (Str.ofString "built-in") (188 : Nat))), (dE P "find_spec" 193 (Value.builtin "_frozen_\x69mportlib.BuiltinImporter.find_spec#opaque")), (dE P "create_module" 194 (Value.builtin "_frozen_\x69mportlib.BuiltinImporter.create_module#opaque")), (dE P "exec_module" 195 (Value.builtin "_frozen_\x69mportlib.BuiltinImporter.exec_module#opaque")), (dE P "get_code" 196 (Value.builtin "_frozen_\x69mportlib.BuiltinImporter.get_code#opaque")), (dE P "get_source" 197 (Value.builtin "_frozen_\x69mportlib.BuiltinImporter.get_source#opaque")), (dE P "is_package" 198 (Value.builtin "_frozen_\x69mportlib.BuiltinImporter.is_package#opaque")), (dE P "load_module" 199 (Value.builtin "_frozen_\x69mportlib.BuiltinImporter.load_module#opaque")), (dE P "__static_attributes__" 200 (Value.ref (15 : Nat))), (dE P "__dict__" 202 (Value.ref (16 : Nat))), (dE P "__weakref__" 204 (Value.ref (17 : Nat)))]) (14 : Nat)) (@List.toArray (Option Value) (@List.nil (Option Value))))) ::
    (@Prod.mk Nat Obj (nat_lit 14) (Obj.mk (Value.type "type") (@Option.none Nat) (Data.cls (ClassData.mk (Str.ofString "BuiltinImporter") [(Value.type "object")] [(Value.ref (14 : Nat)), (Value.type "object")] (13 : Nat) (Str.ofString "BuiltinImporter") Bool.true (@List.nil Str) (@List.nil Value) Bool.false (@Option.none Bool) Bool.false)) (@List.toArray (Option Value) (@List.nil (Option Value))))) ::
    (@Prod.mk Nat Obj (nat_lit 15) oR1) ::
    (@Prod.mk Nat Obj (nat_lit 16) (Obj.mk (Value.type "getset_descriptor") (@Option.none Nat) (Data.fields (@List.toArray Value [(Value.str (Str.ofString "__dict__") (201 : Nat)), (Value.ref (14 : Nat)), (Value.builtin "function.__dict__"), (Value.builtin "function.__dict__#set")])) (@List.toArray (Option Value) (@List.nil (Option Value))))) ::
    (@Prod.mk Nat Obj (nat_lit 17) (Obj.mk (Value.type "getset_descriptor") (@Option.none Nat) (Data.fields (@List.toArray Value [(Value.str (Str.ofString "__weakref__") (203 : Nat)), (Value.ref (14 : Nat)), (Value.builtin "ExceptionGroup.__weakref__"), Value.none])) (@List.toArray (Option Value) (@List.nil (Option Value))))) ::
    (@Prod.mk Nat Obj (nat_lit 18) X) ::
    (@Prod.mk Nat Obj (nat_lit 19) (Obj.mk (Value.type "list") (@Option.none Nat) (Data.seq (@List.toArray Value (@List.nil Value)) (0 : Nat)) (@List.toArray (Option Value) (@List.nil (Option Value))))) ::
    (@Prod.mk Nat Obj (nat_lit 20) (Obj.mk (Value.type "dict") (@Option.none Nat) (Data.dict (@List.toArray DictEntry [(dE P "name" 208 (Value.str (Str.ofString "_sre") (207 : Nat))), (dE P "loader" 209 (Value.ref (14 : Nat))), (dE P "origin" 210 (Value.str (Str.ofString "built-in") (184 : Nat))), (dE P "loader_state" 211 Value.none), (dE P "submodule_search_locations" 212 Value.none), (dE P "_uninitialized_submodules" 213 (Value.ref (19 : Nat))), (dE P "_set_fileattr" 214 (Value.bool Bool.false)), (dE P "_cached" 215 Value.none), (dE P "_initializing" 243 (Value.bool Bool.false))]) (9 : Nat)) (@List.toArray (Option Value) (@List.nil (Option Value))))) ::
    (@Prod.mk Nat Obj (nat_lit 21) (Obj.mk (Value.type "dict") (@Option.none Nat) (Data.dict (@List.toArray DictEntry [(dE P "__module__" 227 (Value.str (Str.ofString "_frozen_\x69mportlib") (217 : Nat))), (dE P "__firstlineno__" 228 (Value.int (562 : Int) (218 : Nat))), (dE P "__doc__" 229 (Value.builtin "_frozen_\x69mportlib.ModuleSpec.__doc__:str#opaque")), (dE P "__init__" 230 (Value.builtin "_frozen_\x69mportlib.ModuleSpec.__init__#opaque")), (dE P "__repr__" 231 (Value.builtin "_frozen_\x69mportlib.ModuleSpec.__repr__#opaque")), (dE P "__eq__" 232 (Value.builtin "_frozen_\x69mportlib.ModuleSpec.__eq__#opaque")), (dE P "cached" 233 (Value.builtin "_frozen_\x69mportlib.ModuleSpec.cached#opaque")), (dE P "parent" 234 (Value.builtin "_frozen_\x69mportlib.ModuleSpec.parent#opaque")), (dE P "has_location" 235 (Value.builtin "_frozen_\x69mportlib.ModuleSpec.has_location#opaque")), (dE P "__static_attributes__" 236 (Value.ref (23 : Nat))), (dE P "__dict__" 238 (Value.ref (24 : Nat))), (dE P "__weakref__" 240 (Value.ref (25 : Nat))), (dE P "__hash__" 241 Value.none)]) (13 : Nat)) (@List.toArray (Option Value) (@List.nil (Option Value))))) ::
    (@Prod.mk Nat Obj (nat_lit 22) (Obj.mk (Value.type "type") (@Option.none Nat) (Data.cls (ClassData.mk (Str.ofString "ModuleSpec") [(Value.type "object")] [(Value.ref (22 : Nat)), (Value.type "object")] (21 : Nat) (Str.ofString "ModuleSpec") Bool.true (@List.nil Str) (@List.nil Value) Bool.false (@Option.none Bool) Bool.false)) (@List.toArray (Option Value) (@List.nil (Option Value))))) ::
    (@Prod.mk Nat Obj (nat_lit 23) (Obj.mk (Value.type "tuple") (@Option.none Nat) (Data.seq (@List.toArray Value [(Value.str (Str.ofString "_cached") (219 : Nat)), (Value.str (Str.ofString "_set_fileattr") (220 : Nat)), (Value.str (Str.ofString "_uninitialized_submodules") (221 : Nat)), (Value.str (Str.ofString "loader") (222 : Nat)), (Value.str (Str.ofString "loader_state") (223 : Nat)), (Value.str (Str.ofString "name") (224 : Nat)), (Value.str (Str.ofString "origin") (225 : Nat)), (Value.str (Str.ofString "submodule_search_locations") (226 : Nat))]) (0 : Nat)) (@List.toArray (Option Value) (@List.nil (Option Value))))) ::
    (@Prod.mk Nat Obj (nat_lit 24) (Obj.mk (Value.type "getset_descriptor") (@Option.none Nat) (Data.fields (@List.toArray Value [(Value.str (Str.ofString "__dict__") (237 : Nat)), (Value.ref (22 : Nat)), (Value.builtin "function.__dict__"), (Value.builtin "function.__dict__#set")])) (@List.toArray (Option Value) (@List.nil (Option Value))))) ::
    (@Prod.mk Nat Obj (nat_lit 25) (Obj.mk (Value.type "getset_descriptor") (@Option.none Nat) (Data.fields (@List.toArray Value [(Value.str (Str.ofString "__weakref__") (239 : Nat)), (Value.ref (22 : Nat)), (Value.builtin "ExceptionGroup.__weakref__"), Value.none])) (@List.toArray (Option Value) (@List.nil (Option Value))))) ::
    (@Prod.mk Nat Obj (nat_lit 26) (Obj.mk (Value.ref (22 : Nat)) (@Option.some Nat (20 : Nat)) Data.plain (@List.toArray (Option Value) (@List.nil (Option Value))))) ::
    (@Prod.mk Nat Obj (nat_lit 27) (Obj.mk Value.none (@Option.none Nat) (Data.seq (@List.toArray Value [(Value.int (11 : Int) (0 : Nat)), (Value.str (Str.mk (@List.toArray Nat [(6 : Nat), (247 : Nat), (8 : Nat), (95 : Nat), (95 : Nat), (110 : Nat), (97 : Nat), (109 : Nat), (101 : Nat), (95 : Nat), (95 : Nat), (6 : Nat), (246 : Nat), (4 : Nat), (95 : Nat), (115 : Nat), (114 : Nat), (101 : Nat), (6 : Nat), (248 : Nat), (7 : Nat), (95 : Nat), (95 : Nat), (100 : Nat), (111 : Nat), (99 : Nat), (95 : Nat), (95 : Nat), (0 : Nat), (6 : Nat), (250 : Nat), (11 : Nat), (95 : Nat), (95 : Nat), (112 : Nat), (97 : Nat), (99 : Nat), (107 : Nat), (97 : Nat), (103 : Nat), (101 : Nat), (95 : Nat), (95 : Nat), (6 : Nat), (249 : Nat), (0 : Nat), (6 : Nat), (251 : Nat), (10 : Nat), (95 : Nat), (95 : Nat), (108 : Nat), (111 : Nat), (97 : Nat), (100 : Nat), (101 : Nat), (114 : Nat), (95 : Nat), (95 : Nat), (4 : Nat), (0 : Nat), (0 : Nat), (14 : Nat), (6 : Nat), (252 : Nat), (8 : Nat), (95 : Nat), (95 : Nat), (115 : Nat), (112 : Nat), (101 : Nat), (99 : Nat), (95 : Nat), (95 : Nat), (4 : Nat), (0 : Nat), (0 : Nat), (26 : Nat), (6 : Nat), (253 : Nat), (7 : Nat), (99 : Nat), (111 : Nat), (109 : Nat), (112 : Nat), (105 : Nat), (108 : Nat), (101 : Nat), (9 : Nat), (12 : Nat), (95 : Nat), (115 : Nat), (114 : Nat), (101 : Nat), (46 : Nat), (99 : Nat), (111 : Nat), (109 : Nat), (112 : Nat), (105 : Nat), (108 : Nat), (101 : Nat), (6 : Nat), (254 : Nat), (8 : Nat), (116 : Nat), (101 : Nat), (109 : Nat), (112 : Nat), (108 : Nat), (97 : Nat), (116 : Nat), (101 : Nat), (9 : Nat), (13 : Nat), (95 : Nat), (115 : Nat), (114 : Nat), (101 : Nat), (46 : Nat), (116 : Nat), (101 : Nat), (109 : Nat), (112 : Nat), (108 : Nat), (97 : Nat), (116 : Nat), (101 : Nat), (6 : Nat), (255 : Nat), (11 : Nat), (103 : Nat), (101 : Nat), (116 : Nat), (99 : Nat), (111 : Nat), (100 : Nat), (101 : Nat), (115 : Nat), (105 : Nat), (122 : Nat), (101 : Nat), (9 : Nat), (16 : Nat), (95 : Nat), (115 : Nat), (114 : Nat), (101 : Nat), (46 : Nat), (103 : Nat), (101 : Nat), (116 : Nat), (99 : Nat), (111 : Nat), (100 : Nat), (101 : Nat), (115 : Nat), (105 : Nat), (122 : Nat), (101 : Nat), (6 : Nat), (256 : Nat), (13 : Nat), (97 : Nat), (115 : Nat), (99 : Nat), (105 : Nat), (105 : Nat), (95 : Nat), (105 : Nat), (115 : Nat), (99 : Nat), (97 : Nat), (115 : Nat), (101 : Nat), (100 : Nat), (9 : Nat), (18 : Nat), (95 : Nat), (115 : Nat), (114 : Nat), (101 : Nat), (46 : Nat), (97 : Nat), (115 : Nat), (99 : Nat), (105 : Nat), (105 : Nat), (95 : Nat), (105 : Nat), (115 : Nat), (99 : Nat), (97 : Nat), (115 : Nat), (101 : Nat), (100 : Nat), (6 : Nat), (257 : Nat), (15 : Nat), (117 : Nat), (110 : Nat), (105 : Nat), (99 : Nat), (111 : Nat), (100 : Nat), (101 : Nat), (95 : Nat), (105 : Nat), (115 : Nat), (99 : Nat), (97 : Nat), (115 : Nat), (101 : Nat), (100 : Nat), (9 : Nat), (20 : Nat), (95 : Nat), (115 : Nat), (114 : Nat), (101 : Nat), (46 : Nat), (117 : Nat), (110 : Nat), (105 : Nat), (99 : Nat), (111 : Nat), (100 : Nat), (101 : Nat), (95 : Nat), (105 : Nat), (115 : Nat), (99 : Nat), (97 : Nat), (115 : Nat), (101 : Nat), (100 : Nat), (6 : Nat), (258 : Nat), (13 : Nat), (97 : Nat), (115 : Nat), (99 : Nat), (105 : Nat), (105 : Nat), (95 : Nat), (116 : Nat), (111 : Nat), (108 : Nat), (111 : Nat), (119 : Nat), (101 : Nat), (114 : Nat), (9 : Nat), (18 : Nat), (95 : Nat), (115 : Nat), (114 : Nat), (101 : Nat), (46 : Nat), (97 : Nat), (115 : Nat), (99 : Nat), (105 : Nat), (105 : Nat), (95 : Nat), (116 : Nat), (111 : Nat), (108 : Nat), (111 : Nat), (119 : Nat), (101 : Nat), (114 : Nat), (6 : Nat), (259 : Nat), (15 : Nat), (117 : Nat), (110 : Nat), (105 : Nat), (99 : Nat), (111 : Nat), (100 : Nat), (101 : Nat), (95 : Nat), (116 : Nat), (111 : Nat), (108 : Nat), (111 : Nat), (119 : Nat), (101 : Nat), (114 : Nat), (9 : Nat), (20 : Nat), (95 : Nat), (115 : Nat), (114 : Nat), (101 : Nat), (46 : Nat), (117 : Nat), (110 : Nat), (105 : Nat), (99 : Nat), (111 : Nat), (100 : Nat), (101 : Nat), (95 : Nat), (116 : Nat), (111 : Nat), (108 : Nat), (111 : Nat), (119 : Nat), (101 : Nat), (114 : Nat), (6 : Nat), (261 : Nat), (5 : Nat), (77 : Nat), (65 : Nat), (71 : Nat), (73 : Nat), (67 : Nat), (4 : Nat), (260 : Nat), (0 : Nat), (20230612 : Nat), (6 : Nat), (263 : Nat), (8 : Nat), (67 : Nat), (79 : Nat), (68 : Nat), (69 : Nat), (83 : Nat), (73 : Nat), (90 : Nat), (69 : Nat), (4 : Nat), (262 : Nat), (0 : Nat), (4 : Nat), (6 : Nat), (265 : Nat), (9 : Nat), (77 : Nat), (65 : Nat), (88 : Nat), (82 : Nat), (69 : Nat), (80 : Nat), (69 : Nat), (65 : Nat), (84 : Nat), (4 : Nat), (264 : Nat), (0 : Nat), (4294967295 : Nat), (6 : Nat), (267 : Nat), (9 : Nat), (77 : Nat), (65 : Nat), (88 : Nat), (71 : Nat), (82 : Nat), (79 : Nat), (85 : Nat), (80 : Nat), (83 : Nat), (4 : Nat), (266 : Nat), (0 : Nat), (1073741823 : Nat), (6 : Nat), (269 : Nat), (9 : Nat), (99 : Nat), (111 : Nat), (112 : Nat), (121 : Nat), (114 : Nat), (105 : Nat), (103 : Nat), (104 : Nat), (116 : Nat), (6 : Nat), (268 : Nat), (53 : Nat), (32 : Nat), (83 : Nat), (82 : Nat), (69 : Nat), (32 : Nat), (50 : Nat), (46 : Nat), (50 : Nat), (46 : Nat), (50 : Nat), (32 : Nat), (67 : Nat), (111 : Nat), (112 : Nat), (121 : Nat), (114 : Nat), (105 : Nat), (103 : Nat), (104 : Nat), (116 : Nat), (32 : Nat), (40 : Nat), (99 : Nat), (41 : Nat), (32 : Nat), (49 : Nat), (57 : Nat), (57 : Nat), (55 : Nat), (45 : Nat), (50 : Nat), (48 : Nat), (48 : Nat), (50 : Nat), (32 : Nat), (98 : Nat), (121 : Nat), (32 : Nat), (83 : Nat), (101 : Nat), (99 : Nat), (114 : Nat), (101 : Nat), (116 : Nat), (32 : Nat), (76 : Nat), (97 : Nat), (98 : Nat), (115 : Nat), (32 : Nat), (65 : Nat), (66 : Nat), (32 : Nat)])) (0 : Nat)), (Value.bool Bool.true), (Value.bool Bool.false), (Value.str (Str.ofString "_sre") (271 : Nat))]) (0 : Nat)) (@List.toArray (Option Value) (@List.nil (Option Value))))) ::
    (@Prod.mk Nat Obj (nat_lit 28) oR1) ::
    (@Prod.mk Nat Obj (nat_lit 29) (Obj.mk Value.none (@Option.none Nat) (Data.fields (@List.toArray Value [(Value.int (2 : Int) (0 : Nat)), (Value.int (0 : Int) (0 : Nat)), (Value.ref (37 : Nat)), (Value.int (6 : Int) (0 : Nat)), (Value.int (0 : Int) (0 : Nat)), (Value.ref (44 : Nat)), (Value.int (9 : Int) (0 : Nat)), (Value.int (0 : Int) (0 : Nat)), (Value.ref (51 : Nat)), (Value.int (22 : Int) (0 : Nat)), (Value.int (0 : Int) (0 : Nat)), (Value.ref (58 : Nat)), (Value.int (24 : Int) (0 : Nat)), (Value.int (0 : Int) (0 : Nat)), (Value.ref (65 : Nat)), (Value.int (26 : Int) (0 : Nat)), (Value.int (0 : Int) (0 : Nat)), (Value.ref (72 : Nat)), (Value.int (28 : Int) (0 : Nat)), (Value.int (0 : Int) (0 : Nat)), (Value.ref (79 : Nat)), (Value.int (30 : Int) (0 : Nat)), (Value.int (0 : Int) (0 : Nat)), (Value.ref (86 : Nat)), (Value.int (36 : Int) (0 : Nat)), (Value.int (0 : Int) (0 : Nat)), (Value.ref (93 : Nat)), (Value.int (42 : Int) (0 : Nat)), (Value.int (0 : Int) (0 : Nat)), (Value.ref (100 : Nat)), (Value.int (84 : Int) (0 : Nat)), (Value.int (0 : Int) (0 : Nat)), (Value.ref (123 : Nat)), (Value.int (93 : Int) (0 : Nat)), (Value.int (0 : Int) (0 : Nat)), (Value.ref (130 : Nat)), (Value.int (176 : Int) (0 : Nat)), (Value.int (0 : Int) (0 : Nat)), (Value.ref (253 : Nat)), (Value.int (180 : Int) (0 : Nat)), (Value.int (0 : Int) (0 : Nat)), (Value.ref (258 : Nat)), (Value.int (189 : Int) (0 : Nat)), (Value.int (0 : Int) (0 : Nat)), (Value.ref (263 : Nat)), (Value.int (196 : Int) (0 : Nat)), (Value.int (0 : Int) (0 : Nat)), (Value.ref (270 : Nat)), (Value.int (205 : Int) (0 : Nat)), (Value.int (0 : Int) (0 : Nat)), (Value.ref (277 : Nat)), (Value.int (211 : Int) (0 : Nat)), (Value.int (0 : Int) (0 : Nat)), (Value.ref (282 : Nat)), (Value.int (216 : Int) (0 : Nat)), (Value.int (0 : Int) (0 : Nat)), (Value.ref (289 : Nat)), (Value.int (226 : Int) (0 : Nat)), (Value.int (0 : Int) (0 : Nat)), (Value.ref (294 : Nat))])) (@List.toArray (Option Value) (@List.nil (Option Value))))) ::
    (@Prod.mk Nat Obj (nat_lit 30) (Obj.mk (Value.type "code") (@Option.none Nat) (Data.fields (@List.toArray Value [(Value.str (Str.ofString "<module>") (277 : Nat)), (Value.str (Str.ofString "<module>") (278 : Nat)), (Value.str (Str.ofString "/claim/cut.py") (279 : Nat)), (Value.int (1 : Int) (0 : Nat)), (Value.int (0 : Int) (0 : Nat)), (Value.int (0 : Int) (0 : Nat)), (Value.int (0 : Int) (0 : Nat)), (Value.int (0 : Int) (0 : Nat)), (Value.ref (28 : Nat)), (Value.bool Bool.false), (Value.int (276 : Int) (0 : Nat)), (Value.ref (29 : Nat)), Value.none, Value.none, Value.none, Value.none, (Value.int (280 : Int) (0 : Nat)), (Value.int (1 : Int) (0 : Nat)), (Value.str (Str.ofString "/claim/cut.py") (281 : Nat))])) (@List.toArray (Option Value) (@List.nil (Option Value))))) ::
    (@Prod.mk Nat Obj (nat_lit 31) (Obj.mk (Value.type "frame") (@Option.none Nat) Data.plain (@List.toArray (Option Value) [(@Option.some Value (Value.ref (30 : Nat))), (@Option.some Value (Value.ref (3 : Nat))), (@Option.some Value (Value.ref (3 : Nat))), (@Option.none Value), (@Option.some Value (Value.str (Str.ofString "__main__") (164 : Nat))), (@Option.none Value), (@Option.some Value (Value.ref (0 : Nat)))]))) ::
    (@Prod.mk Nat Obj (nat_lit 33) oR0) ::
    (@Prod.mk Nat Obj (nat_lit 36) (fE "_wall" "_wall" (uP (stN 1)) (uB (stN 1)) (uS (stN 1)))) ::
    (@Prod.mk Nat Obj (nat_lit 40) oR0) ::
    (@Prod.mk Nat Obj (nat_lit 43) (fE "_strcoll" "_strcoll" (uP (stN 3)) (uB (stN 3)) (uS (stN 11)))) ::
    (@Prod.mk Nat Obj (nat_lit 47) oR0) ::
    (@Prod.mk Nat Obj (nat_lit 50) (fE "_grouping_intervals" "_grouping_intervals" (uP (stN 5)) (uB (stN 5)) (uS (stN 5)))) ::
    (@Prod.mk Nat Obj (nat_lit 54) oR0) ::
    (@Prod.mk Nat Obj (nat_lit 57) (fE "and_" "and_" (uP (stN 7)) (uB (stN 7)) (uS (stN 11)))) ::
    (@Prod.mk Nat Obj (nat_lit 61) oR0) ::
    (@Prod.mk Nat Obj (nat_lit 64) (fE "mod" "mod" (uP (stN 8)) (uB (stN 8)) (uS (stN 11)))) ::
    (@Prod.mk Nat Obj (nat_lit 68) oR0) ::
    (@Prod.mk Nat Obj (nat_lit 71) (fE "or_" "or_" (uP (stN 9)) (uB (stN 9)) (uS (stN 11)))) ::
    (@Prod.mk Nat Obj (nat_lit 75) oR0) ::
    (@Prod.mk Nat Obj (nat_lit 78) (fE "rshift" "rshift" (uP (stN 10)) (uB (stN 10)) (uS (stN 11)))) ::
    (@Prod.mk Nat Obj (nat_lit 82) oR0) ::
    (@Prod.mk Nat Obj (nat_lit 85) (fE "sub" "sub" (uP (stN 11)) (uB (stN 11)) (uS (stN 11)))) ::
    (@Prod.mk Nat Obj (nat_lit 89) oR0) ::
    (@Prod.mk Nat Obj (nat_lit 92) (fE "_substitution_cost" "_substitution_cost" (uP (stN 16)) (uB (stN 16)) (uS (stN 16)))) ::
    (@Prod.mk Nat Obj (nat_lit 96) oR0) ::
    (@Prod.mk Nat Obj (nat_lit 99) (fE "_levenshtein_distance" "_levenshtein_distance" (uP (stN 17)) (uB (stN 17)) (uS (stN 17)))) ::
    (@Prod.mk Nat Obj (nat_lit 102) (Obj.mk (Value.type "list") (@Option.none Nat) (Data.seq (@List.toArray Value [(Value.int (14 : Int) (393 : Nat)), (Value.int (14 : Int) (394 : Nat)), (Value.int (4 : Int) (395 : Nat)), (Value.int (1 : Int) (396 : Nat)), (Value.int (1 : Int) (397 : Nat)), (Value.int (9 : Int) (398 : Nat)), (Value.int (0 : Int) (399 : Nat)), (Value.int (4227896069 : Int) (400 : Nat)), (Value.int (939524097 : Int) (401 : Nat)), (Value.int (0 : Int) (402 : Nat)), (Value.int (0 : Int) (403 : Nat)), (Value.int (0 : Int) (404 : Nat)), (Value.int (0 : Int) (405 : Nat)), (Value.int (0 : Int) (406 : Nat)), (Value.int (0 : Int) (407 : Nat)), (Value.int (13 : Int) (408 : Nat)), (Value.int (11 : Int) (409 : Nat)), (Value.int (9 : Int) (410 : Nat)), (Value.int (0 : Int) (411 : Nat)), (Value.int (4227896069 : Int) (412 : Nat)), (Value.int (939524097 : Int) (413 : Nat)), (Value.int (0 : Int) (414 : Nat)), (Value.int (0 : Int) (415 : Nat)), (Value.int (0 : Int) (416 : Nat)), (Value.int (0 : Int) (417 : Nat)), (Value.int (0 : Int) (418 : Nat)), (Value.int (0 : Int) (419 : Nat)), (Value.int (1 : Int) (420 : Nat))]) (0 : Nat)) (@List.toArray (Option Value) (@List.nil (Option Value))))) ::
    (@Prod.mk Nat Obj (nat_lit 103) oR2) ::
    (@Prod.mk Nat Obj (nat_lit 104) oR3) ::
    (@Prod.mk Nat Obj (nat_lit 107) (Obj.mk (Value.type "list") (@Option.none Nat) (Data.seq (@List.toArray Value [(Value.int (14 : Int) (427 : Nat)), (Value.int (10 : Int) (428 : Nat)), (Value.int (4 : Int) (429 : Nat)), (Value.int (1 : Int) (430 : Nat)), (Value.int (1 : Int) (431 : Nat)), (Value.int (22 : Int) (432 : Nat)), (Value.int (0 : Int) (433 : Nat)), (Value.int (31 : Int) (434 : Nat)), (Value.int (16 : Int) (435 : Nat)), (Value.int (127 : Int) (436 : Nat)), (Value.int (0 : Int) (437 : Nat)), (Value.int (13 : Int) (438 : Nat)), (Value.int (7 : Int) (439 : Nat)), (Value.int (22 : Int) (440 : Nat)), (Value.int (0 : Int) (441 : Nat)), (Value.int (31 : Int) (442 : Nat)), (Value.int (16 : Int) (443 : Nat)), (Value.int (127 : Int) (444 : Nat)), (Value.int (0 : Int) (445 : Nat)), (Value.int (1 : Int) (446 : Nat))]) (0 : Nat)) (@List.toArray (Option Value) (@List.nil (Option Value))))) ::
    (@Prod.mk Nat Obj (nat_lit 108) oR2) ::
    (@Prod.mk Nat Obj (nat_lit 109) oR3) ::
    (@Prod.mk Nat Obj (nat_lit 112) (Obj.mk (Value.type "list") (@Option.none Nat) (Data.seq (@List.toArray Value [(Value.int (14 : Int) (453 : Nat)), (Value.int (14 : Int) (454 : Nat)), (Value.int (4 : Int) (455 : Nat)), (Value.int (1 : Int) (456 : Nat)), (Value.int (1 : Int) (457 : Nat)), (Value.int (9 : Int) (458 : Nat)), (Value.int (4294966783 : Int) (459 : Nat)), (Value.int (0 : Int) (460 : Nat)), (Value.int (0 : Int) (461 : Nat)), (Value.int (2147483648 : Int) (462 : Nat)), (Value.int (0 : Int) (463 : Nat)), (Value.int (0 : Int) (464 : Nat)), (Value.int (0 : Int) (465 : Nat)), (Value.int (0 : Int) (466 : Nat)), (Value.int (0 : Int) (467 : Nat)), (Value.int (13 : Int) (468 : Nat)), (Value.int (11 : Int) (469 : Nat)), (Value.int (9 : Int) (470 : Nat)), (Value.int (4294966783 : Int) (471 : Nat)), (Value.int (0 : Int) (472 : Nat)), (Value.int (0 : Int) (473 : Nat)), (Value.int (2147483648 : Int) (474 : Nat)), (Value.int (0 : Int) (475 : Nat)), (Value.int (0 : Int) (476 : Nat)), (Value.int (0 : Int) (477 : Nat)), (Value.int (0 : Int) (478 : Nat)), (Value.int (0 : Int) (479 : Nat)), (Value.int (1 : Int) (480 : Nat))]) (0 : Nat)) (@List.toArray (Option Value) (@List.nil (Option Value))))) ::
    (@Prod.mk Nat Obj (nat_lit 113) oR2) ::
    (@Prod.mk Nat Obj (nat_lit 114) oR3) ::
    (@Prod.mk Nat Obj (nat_lit 119) oR0) ::
    (@Prod.mk Nat Obj (nat_lit 122) (fE "_formatparam" "_formatparam" (uP (stN 22)) (uB (stN 22)) (uS (stN 22)))) ::
    (@Prod.mk Nat Obj (nat_lit 125) oR1) ::
    (@Prod.mk Nat Obj (nat_lit 126) (Obj.mk (Value.type "builtin_function_or_method") (@Option.none Nat) (Data.fields (@List.toArray Value [(Value.builtin "type.__prepare__"), (Value.type "type")])) (@List.toArray (Option Value) (@List.nil (Option Value))))) ::
    (@Prod.mk Nat Obj (nat_lit 127) (Obj.mk (Value.type "dict") (@Option.none Nat) (Data.dict (@List.toArray DictEntry [(dE P "__module__" 501 (Value.str (Str.ofString "cpy313.wsgiref.headers") (388 : Nat))), (dE P "__qualname__" 503 (Value.str (Str.ofString "Headers") (502 : Nat))), (dE P "__firstlineno__" 505 (Value.int (93 : Int) (504 : Nat))), (dE P "__init__" 515 (Value.ref (139 : Nat))), (dE P "_convert_string_type" 525 (Value.ref (146 : Nat))), (dE P "__len__" 532 (Value.ref (153 : Nat))), (dE P "__setitem__" 541 (Value.ref (160 : Nat))), (dE P "__delitem__" 547 (Value.ref (165 : Nat))), (dE P "__getitem__" 555 (Value.ref (172 : Nat))), (dE P "__contains__" 563 (Value.ref (179 : Nat))), (dE P "get_all" 569 (Value.ref (184 : Nat))), (dE P "get" 580 (Value.ref (192 : Nat))), (dE P "keys" 586 (Value.ref (197 : Nat))), (dE P "values" 592 (Value.ref (202 : Nat))), (dE P "items" 599 (Value.ref (209 : Nat))), (dE P "__repr__" 606 (Value.ref (216 : Nat))), (dE P "__str__" 612 (Value.ref (221 : Nat))), (dE P "__bytes__" 619 (Value.ref (228 : Nat))), (dE P "setdefault" 628 (Value.ref (235 : Nat))), (dE P "add_header" 641 (Value.ref (242 : Nat))), (dE P "__static_attributes__" 643 (Value.ref (243 : Nat)))]) (21 : Nat)) (@List.toArray (Option Value) (@List.nil (Option Value))))) ::
    (@Prod.mk Nat Obj (nat_lit 128) oR1) ::
    (@Prod.mk Nat Obj (nat_lit 129) (Obj.mk Value.none (@Option.none Nat) (Data.fields (@List.toArray Value [(Value.int (95 : Int) (0 : Nat)), (Value.int (4 : Int) (0 : Nat)), (Value.ref (138 : Nat)), (Value.int (105 : Int) (0 : Nat)), (Value.int (4 : Int) (0 : Nat)), (Value.ref (145 : Nat)), (Value.int (113 : Int) (0 : Nat)), (Value.int (4 : Int) (0 : Nat)), (Value.ref (152 : Nat)), (Value.int (116 : Int) (0 : Nat)), (Value.int (4 : Int) (0 : Nat)), (Value.ref (159 : Nat)), (Value.int (120 : Int) (0 : Nat)), (Value.int (4 : Int) (0 : Nat)), (Value.ref (164 : Nat)), (Value.int (124 : Int) (0 : Nat)), (Value.int (4 : Int) (0 : Nat)), (Value.ref (171 : Nat)), (Value.int (127 : Int) (0 : Nat)), (Value.int (4 : Int) (0 : Nat)), (Value.ref (178 : Nat)), (Value.int (130 : Int) (0 : Nat)), (Value.int (4 : Int) (0 : Nat)), (Value.ref (183 : Nat)), (Value.int (134 : Int) (0 : Nat)), (Value.int (4 : Int) (0 : Nat)), (Value.ref (191 : Nat)), (Value.int (141 : Int) (0 : Nat)), (Value.int (4 : Int) (0 : Nat)), (Value.ref (196 : Nat)), (Value.int (144 : Int) (0 : Nat)), (Value.int (4 : Int) (0 : Nat)), (Value.ref (201 : Nat)), (Value.int (147 : Int) (0 : Nat)), (Value.int (4 : Int) (0 : Nat)), (Value.ref (208 : Nat)), (Value.int (150 : Int) (0 : Nat)), (Value.int (4 : Int) (0 : Nat)), (Value.ref (215 : Nat)), (Value.int (153 : Int) (0 : Nat)), (Value.int (4 : Int) (0 : Nat)), (Value.ref (220 : Nat)), (Value.int (156 : Int) (0 : Nat)), (Value.int (4 : Int) (0 : Nat)), (Value.ref (227 : Nat)), (Value.int (159 : Int) (0 : Nat)), (Value.int (4 : Int) (0 : Nat)), (Value.ref (234 : Nat)), (Value.int (162 : Int) (0 : Nat)), (Value.int (4 : Int) (0 : Nat)), (Value.ref (241 : Nat))])) (@List.toArray (Option Value) (@List.nil (Option Value))))) ::
    (@Prod.mk Nat Obj (nat_lit 130) (Obj.mk (Value.type "code") (@Option.none Nat) (Data.fields (@List.toArray Value [(Value.str (Str.ofString "Headers") (496 : Nat)), (Value.str (Str.ofString "Headers") (497 : Nat)), (Value.str (Str.ofString "/claim/cut.py") (498 : Nat)), (Value.int (93 : Int) (0 : Nat)), (Value.int (0 : Int) (0 : Nat)), (Value.int (0 : Int) (0 : Nat)), (Value.int (0 : Int) (0 : Nat)), (Value.int (0 : Int) (0 : Nat)), (Value.ref (128 : Nat)), (Value.bool Bool.false), (Value.int (276 : Int) (0 : Nat)), (Value.ref (129 : Nat)), Value.none, Value.none, Value.none, Value.none, (Value.int (499 : Int) (0 : Nat)), (Value.int (93 : Int) (0 : Nat)), (Value.str (Str.ofString "/claim/cut.py") (500 : Nat))])) (@List.toArray (Option Value) (@List.nil (Option Value))))) ::
    (@Prod.mk Nat Obj (nat_lit 131) (Obj.mk (Value.type "frame") (@Option.none Nat) Data.plain (@List.toArray (Option Value) [(@Option.some Value (Value.ref (130 : Nat))), (@Option.some Value (Value.ref (3 : Nat))), (@Option.some Value (Value.ref (127 : Nat))), (@Option.none Value), (@Option.some Value (Value.str (Str.ofString "cpy313.wsgiref.headers") (388 : Nat))), (@Option.none Value), (@Option.some Value (Value.ref (0 : Nat)))]))) ::
    (@Prod.mk Nat Obj (nat_lit 134) oR0) ::
    (@Prod.mk Nat Obj (nat_lit 137) (fE "__init__" "Headers.__init__" (uP (nthS (uB (stN 23)) 0)) (uB (nthS (uB (stN 23)) 0)) (uS (nthS (uB (stN 23)) 0)))) ::
    (@Prod.mk Nat Obj (nat_lit 141) oR0) ::
    (@Prod.mk Nat Obj (nat_lit 144) (fE "_convert_string_type" "Headers._convert_string_type" (uP (nthS (uB (stN 23)) 1)) (uB (nthS (uB (stN 23)) 1)) (uS (nthS (uB (stN 23)) 1)))) ::
    (@Prod.mk Nat Obj (nat_lit 148) oR0) ::
    (@Prod.mk Nat Obj (nat_lit 151) (fE "__len__" "Headers.__len__" (uP (nthS (uB (stN 23)) 2)) (uB (nthS (uB (stN 23)) 2)) (uS (nthS (uB (stN 23)) 2)))) ::
    (@Prod.mk Nat Obj (nat_lit 155) oR0) ::
    (@Prod.mk Nat Obj (nat_lit 158) (fE "__setitem__" "Headers.__setitem__" (uP (nthS (uB (stN 23)) 3)) (uB (nthS (uB (stN 23)) 3)) (uS (nthS (uB (stN 23)) 3)))) ::
    (@Prod.mk Nat Obj (nat_lit 162) oR0) ::
    (@Prod.mk Nat Obj (nat_lit 163) (fE "__delitem__" "Headers.__delitem__" (uP (nthS (uB (stN 23)) 4)) (uB (nthS (uB (stN 23)) 4)) (uS (nthS (uB (stN 23)) 7)))) ::
    (@Prod.mk Nat Obj (nat_lit 167) oR0) ::
    (@Prod.mk Nat Obj (nat_lit 170) (fE "__getitem__" "Headers.__getitem__" (uP (nthS (uB (stN 23)) 5)) (uB (nthS (uB (stN 23)) 5)) (uS (nthS (uB (stN 23)) 6)))) ::
    (@Prod.mk Nat Obj (nat_lit 174) oR0) ::
    (@Prod.mk Nat Obj (nat_lit 177) (fE "__contains__" "Headers.__contains__" (uP (nthS (uB (stN 23)) 6)) (uB (nthS (uB (stN 23)) 6)) (uS (nthS (uB (stN 23)) 6)))) ::
    (@Prod.mk Nat Obj (nat_lit 181) oR0) ::
    (@Prod.mk Nat Obj (nat_lit 182) (fE "get_all" "Headers.get_all" (uP (nthS (uB (stN 23)) 7)) (uB (nthS (uB (stN 23)) 7)) (uS (nthS (uB (stN 23)) 7)))) ::
    (@Prod.mk Nat Obj (nat_lit 187) oR0) ::
    (@Prod.mk Nat Obj (nat_lit 190) (fE "get" "Headers.get" (uP (nthS (uB (stN 23)) 8)) (uB (nthS (uB (stN 23)) 8)) (uS (nthS (uB (stN 23)) 8)))) ::
    (@Prod.mk Nat Obj (nat_lit 194) oR0) ::
    (@Prod.mk Nat Obj (nat_lit 195) (fE "keys" "Headers.keys" (uP (nthS (uB (stN 23)) 9)) (uB (nthS (uB (stN 23)) 9)) (uS (nthS (uB (stN 23)) 10)))) ::
    (@Prod.mk Nat Obj (nat_lit 199) oR0) ::
    (@Prod.mk Nat Obj (nat_lit 200) (fE "values" "Headers.values" (uP (nthS (uB (stN 23)) 10)) (uB (nthS (uB (stN 23)) 10)) (uS (nthS (uB (stN 23)) 10)))) ::
    (@Prod.mk Nat Obj (nat_lit 204) oR0) ::
    (@Prod.mk Nat Obj (nat_lit 207) (fE "items" "Headers.items" (uP (nthS (uB (stN 23)) 11)) (uB (nthS (uB (stN 23)) 11)) (uS (nthS (uB (stN 23)) 12)))) ::
    (@Prod.mk Nat Obj (nat_lit 211) oR0) ::
    (@Prod.mk Nat Obj (nat_lit 214) (fE "__repr__" "Headers.__repr__" (uP (nthS (uB (stN 23)) 12)) (uB (nthS (uB (stN 23)) 12)) (uS (nthS (uB (stN 23)) 12)))) ::
    (@Prod.mk Nat Obj (nat_lit 218) oR0) ::
    (@Prod.mk Nat Obj (nat_lit 219) (fE "__str__" "Headers.__str__" (uP (nthS (uB (stN 23)) 13)) (uB (nthS (uB (stN 23)) 13)) (uS (nthS (uB (stN 23)) 13)))) ::
    (@Prod.mk Nat Obj (nat_lit 223) oR0) ::
    (@Prod.mk Nat Obj (nat_lit 226) (fE "__bytes__" "Headers.__bytes__" (uP (nthS (uB (stN 23)) 14)) (uB (nthS (uB (stN 23)) 14)) (uS (nthS (uB (stN 23)) 14)))) ::
    (@Prod.mk Nat Obj (nat_lit 230) oR0) ::
    (@Prod.mk Nat Obj (nat_lit 233) (fE "setdefault" "Headers.setdefault" (uP (nthS (uB (stN 23)) 15)) (uB (nthS (uB (stN 23)) 15)) (uS (nthS (uB (stN 23)) 15)))) ::
    (@Prod.mk Nat Obj (nat_lit 237) oR0) ::
    (@Prod.mk Nat Obj (nat_lit 240) (fE "add_header" "Headers.add_header" (uP (nthS (uB (stN 23)) 16)) (uB (nthS (uB (stN 23)) 16)) (uS (nthS (uB (stN 23)) 16)))) ::
    (@Prod.mk Nat Obj (nat_lit 248) (Obj.mk (Value.type "super") (@Option.none Nat) (Data.fields (@List.toArray Value [(Value.ref (245 : Nat)), (Value.ref (245 : Nat)), (Value.ref (245 : Nat))])) (@List.toArray (Option Value) (@List.nil (Option Value))))) ::
    (@Prod.mk Nat Obj (nat_lit 249) (Obj.mk (Value.type "builtin_function_or_method") (@Option.none Nat) (Data.fields (@List.toArray Value [(Value.builtin "object.__init_subclass__"), (Value.ref (245 : Nat))])) (@List.toArray (Option Value) (@List.nil (Option Value))))) ::
    (@Prod.mk Nat Obj (nat_lit 251) oR0) ::
    (@Prod.mk Nat Obj (nat_lit 252) (fE "_law_cells" "_law_cells" (uP (stN 25)) (uB (stN 25)) (uS (stN 25)))) ::
    (@Prod.mk Nat Obj (nat_lit 256) oR0) ::
    (@Prod.mk Nat Obj (nat_lit 257) (fE "_law_sizes" "_law_sizes" (uP (stN 26)) (uB (stN 26)) (uS (stN 26)))) ::
    (@Prod.mk Nat Obj (nat_lit 261) oR0) ::
    (@Prod.mk Nat Obj (nat_lit 262) (fE "_law_words" "_law_words" (uP (stN 27)) (uB (stN 27)) (uS (stN 27)))) ::
    (@Prod.mk Nat Obj (nat_lit 266) oR0) ::
    (@Prod.mk Nat Obj (nat_lit 269) (fE "_law_due" "_law_due" (uP (stN 28)) (uB (stN 28)) (uS (stN 28)))) ::
    (@Prod.mk Nat Obj (nat_lit 273) oR0) ::
    (@Prod.mk Nat Obj (nat_lit 276) (fE "_law_table" "_law_table" (uP (stN 29)) (uB (stN 29)) (uS (stN 29)))) ::
    (@Prod.mk Nat Obj (nat_lit 280) oR0) ::
    (@Prod.mk Nat Obj (nat_lit 281) (fE "_law_orders" "_law_orders" (uP (stN 30)) (uB (stN 30)) (uS (stN 30)))) ::
    (@Prod.mk Nat Obj (nat_lit 285) oR0) ::
    (@Prod.mk Nat Obj (nat_lit 288) (fE "_law_ways" "_law_ways" (uP (stN 31)) (uB (stN 31)) (uS (stN 31)))) ::
    (@Prod.mk Nat Obj (nat_lit 292) oR0) ::
    (@Prod.mk Nat Obj (nat_lit 293) (fE "law" "law" (uP (stN 32)) (uB (stN 32)) (uS (stN 32)))) :: (@List.nil (Prod Nat Obj))
noncomputable def a0K (P : Params) : Obj := (Obj.mk (Value.type "dict") (@Option.none Nat) (Data.dict (@List.toArray DictEntry [(dE P "__name__" 165 (Value.str (Str.ofString "__main__") (164 : Nat))), (dE P "__doc__" 166 Value.none), (dE P "__package__" 167 Value.none), (dE P "__loader__" 168 (Value.builtin "__main__.__loader__#opaque")), (dE P "__spec__" 169 Value.none), (dE P "__annotations__" 170 (Value.ref (6 : Nat))), (dE P "__builtins__" 171 (Value.ref (4 : Nat))), (dE P "__file__" 173 (Value.str (Str.ofString "/claim/cut.py") (172 : Nat))), (dE P "__cached__" 174 Value.none), (dE P "_sre" 275 (Value.ref (12 : Nat)))]) (10 : Nat)) (@List.toArray (Option Value) (@List.nil (Option Value))))
noncomputable def b0K (P : Params) : Obj := (Obj.mk Value.none (@Option.none Nat) (Data.fields (@List.toArray Value (@List.nil Value))) (@List.toArray (Option Value) (@List.nil (Option Value))))
noncomputable def a1K (P : Params) : Obj := (Obj.mk (Value.type "dict") (@Option.none Nat) (Data.dict (@List.toArray DictEntry [(dE P "__name__" 165 (Value.str (Str.ofString "cpy313.wsgiref.headers") (388 : Nat))), (dE P "__doc__" 166 Value.none), (dE P "__package__" 167 Value.none), (dE P "__loader__" 168 (Value.builtin "__main__.__loader__#opaque")), (dE P "__spec__" 169 Value.none), (dE P "__annotations__" 170 (Value.ref (6 : Nat))), (dE P "__builtins__" 171 (Value.ref (4 : Nat))), (dE P "__file__" 173 (Value.str (Str.ofString "/claim/cut.py") (172 : Nat))), (dE P "__cached__" 174 Value.none), (dE P "_sre" 275 (Value.ref (12 : Nat))), (dE P "_wall" 288 (Value.ref (38 : Nat))), (dE P "_strcoll" 298 (Value.ref (45 : Nat))), (dE P "CHAR_MAX" 300 (Value.int (127 : Int) (299 : Nat))), (dE P "_grouping_intervals" 309 (Value.ref (52 : Nat))), (dE P "and_" 319 (Value.ref (59 : Nat))), (dE P "mod" 327 (Value.ref (66 : Nat))), (dE P "or_" 335 (Value.ref (73 : Nat))), (dE P "rshift" 343 (Value.ref (80 : Nat))), (dE P "sub" 351 (Value.ref (87 : Nat))), (dE P "_MAX_STRING_SIZE" 355 (Value.int (40 : Int) (354 : Nat))), (dE P "_MOVE_COST" 357 (Value.int (2 : Int) (356 : Nat))), (dE P "_CASE_COST" 359 (Value.int (1 : Int) (358 : Nat))), (dE P "_substitution_cost" 367 (Value.ref (94 : Nat))), (dE P "_levenshtein_distance" 387 (Value.ref (101 : Nat)))]) (24 : Nat)) (@List.toArray (Option Value) (@List.nil (Option Value))))
noncomputable def b1K (P : Params) : Obj := (Obj.mk Value.none (@Option.none Nat) (Data.fields (@List.toArray Value [(Value.int (2 : Int) (0 : Nat)), (Value.int (0 : Int) (0 : Nat)), (Value.ref (37 : Nat)), (Value.int (6 : Int) (0 : Nat)), (Value.int (0 : Int) (0 : Nat)), (Value.ref (44 : Nat)), (Value.int (9 : Int) (0 : Nat)), (Value.int (0 : Int) (0 : Nat)), (Value.ref (51 : Nat)), (Value.int (22 : Int) (0 : Nat)), (Value.int (0 : Int) (0 : Nat)), (Value.ref (58 : Nat)), (Value.int (24 : Int) (0 : Nat)), (Value.int (0 : Int) (0 : Nat)), (Value.ref (65 : Nat)), (Value.int (26 : Int) (0 : Nat)), (Value.int (0 : Int) (0 : Nat)), (Value.ref (72 : Nat)), (Value.int (28 : Int) (0 : Nat)), (Value.int (0 : Int) (0 : Nat)), (Value.ref (79 : Nat)), (Value.int (30 : Int) (0 : Nat)), (Value.int (0 : Int) (0 : Nat)), (Value.ref (86 : Nat)), (Value.int (36 : Int) (0 : Nat)), (Value.int (0 : Int) (0 : Nat)), (Value.ref (93 : Nat)), (Value.int (42 : Int) (0 : Nat)), (Value.int (0 : Int) (0 : Nat)), (Value.ref (100 : Nat))])) (@List.toArray (Option Value) (@List.nil (Option Value))))
noncomputable def a2K (P : Params) : Obj := (Obj.mk (Value.type "dict") (@Option.none Nat) (Data.dict (@List.toArray DictEntry [(dE P "__name__" 165 (Value.str (Str.ofString "cpy313.wsgiref.headers") (388 : Nat))), (dE P "__doc__" 166 Value.none), (dE P "__package__" 167 Value.none), (dE P "__loader__" 168 (Value.builtin "__main__.__loader__#opaque")), (dE P "__spec__" 169 Value.none), (dE P "__annotations__" 170 (Value.ref (6 : Nat))), (dE P "__builtins__" 171 (Value.ref (4 : Nat))), (dE P "__file__" 173 (Value.str (Str.ofString "/claim/cut.py") (172 : Nat))), (dE P "__cached__" 174 Value.none), (dE P "_sre" 275 (Value.ref (12 : Nat))), (dE P "_wall" 288 (Value.ref (38 : Nat))), (dE P "_strcoll" 298 (Value.ref (45 : Nat))), (dE P "CHAR_MAX" 300 (Value.int (127 : Int) (299 : Nat))), (dE P "_grouping_intervals" 309 (Value.ref (52 : Nat))), (dE P "and_" 319 (Value.ref (59 : Nat))), (dE P "mod" 327 (Value.ref (66 : Nat))), (dE P "or_" 335 (Value.ref (73 : Nat))), (dE P "rshift" 343 (Value.ref (80 : Nat))), (dE P "sub" 351 (Value.ref (87 : Nat))), (dE P "_MAX_STRING_SIZE" 355 (Value.int (40 : Int) (354 : Nat))), (dE P "_MOVE_COST" 357 (Value.int (2 : Int) (356 : Nat))), (dE P "_CASE_COST" 359 (Value.int (1 : Int) (358 : Nat))), (dE P "_substitution_cost" 367 (Value.ref (94 : Nat))), (dE P "_levenshtein_distance" 387 (Value.ref (101 : Nat))), (dE P "tspecials" 423 (Value.ref (106 : Nat))), (dE P "_name_disallowed_re" 449 (Value.ref (111 : Nat))), (dE P "_value_disallowed_re" 483 (Value.ref (116 : Nat))), (dE P "_formatparam" 493 (Value.ref (124 : Nat)))]) (28 : Nat)) (@List.toArray (Option Value) (@List.nil (Option Value))))
noncomputable def b2K (P : Params) : Obj := (Obj.mk Value.none (@Option.none Nat) (Data.fields (@List.toArray Value [(Value.int (2 : Int) (0 : Nat)), (Value.int (0 : Int) (0 : Nat)), (Value.ref (37 : Nat)), (Value.int (6 : Int) (0 : Nat)), (Value.int (0 : Int) (0 : Nat)), (Value.ref (44 : Nat)), (Value.int (9 : Int) (0 : Nat)), (Value.int (0 : Int) (0 : Nat)), (Value.ref (51 : Nat)), (Value.int (22 : Int) (0 : Nat)), (Value.int (0 : Int) (0 : Nat)), (Value.ref (58 : Nat)), (Value.int (24 : Int) (0 : Nat)), (Value.int (0 : Int) (0 : Nat)), (Value.ref (65 : Nat)), (Value.int (26 : Int) (0 : Nat)), (Value.int (0 : Int) (0 : Nat)), (Value.ref (72 : Nat)), (Value.int (28 : Int) (0 : Nat)), (Value.int (0 : Int) (0 : Nat)), (Value.ref (79 : Nat)), (Value.int (30 : Int) (0 : Nat)), (Value.int (0 : Int) (0 : Nat)), (Value.ref (86 : Nat)), (Value.int (36 : Int) (0 : Nat)), (Value.int (0 : Int) (0 : Nat)), (Value.ref (93 : Nat)), (Value.int (42 : Int) (0 : Nat)), (Value.int (0 : Int) (0 : Nat)), (Value.ref (100 : Nat)), (Value.int (84 : Int) (0 : Nat)), (Value.int (0 : Int) (0 : Nat)), (Value.ref (123 : Nat))])) (@List.toArray (Option Value) (@List.nil (Option Value))))
noncomputable def a3K (P : Params) : Obj := (Obj.mk (Value.type "dict") (@Option.none Nat) (Data.dict (@List.toArray DictEntry [(dE P "__name__" 165 (Value.str (Str.ofString "cpy313.wsgiref.headers") (388 : Nat))), (dE P "__doc__" 166 Value.none), (dE P "__package__" 167 Value.none), (dE P "__loader__" 168 (Value.builtin "__main__.__loader__#opaque")), (dE P "__spec__" 169 Value.none), (dE P "__annotations__" 170 (Value.ref (6 : Nat))), (dE P "__builtins__" 171 (Value.ref (4 : Nat))), (dE P "__file__" 173 (Value.str (Str.ofString "/claim/cut.py") (172 : Nat))), (dE P "__cached__" 174 Value.none), (dE P "_sre" 275 (Value.ref (12 : Nat))), (dE P "_wall" 288 (Value.ref (38 : Nat))), (dE P "_strcoll" 298 (Value.ref (45 : Nat))), (dE P "CHAR_MAX" 300 (Value.int (127 : Int) (299 : Nat))), (dE P "_grouping_intervals" 309 (Value.ref (52 : Nat))), (dE P "and_" 319 (Value.ref (59 : Nat))), (dE P "mod" 327 (Value.ref (66 : Nat))), (dE P "or_" 335 (Value.ref (73 : Nat))), (dE P "rshift" 343 (Value.ref (80 : Nat))), (dE P "sub" 351 (Value.ref (87 : Nat))), (dE P "_MAX_STRING_SIZE" 355 (Value.int (40 : Int) (354 : Nat))), (dE P "_MOVE_COST" 357 (Value.int (2 : Int) (356 : Nat))), (dE P "_CASE_COST" 359 (Value.int (1 : Int) (358 : Nat))), (dE P "_substitution_cost" 367 (Value.ref (94 : Nat))), (dE P "_levenshtein_distance" 387 (Value.ref (101 : Nat))), (dE P "tspecials" 423 (Value.ref (106 : Nat))), (dE P "_name_disallowed_re" 449 (Value.ref (111 : Nat))), (dE P "_value_disallowed_re" 483 (Value.ref (116 : Nat))), (dE P "_formatparam" 493 (Value.ref (124 : Nat))), (dE P "Headers" 650 (Value.ref (245 : Nat)))]) (29 : Nat)) (@List.toArray (Option Value) (@List.nil (Option Value))))
noncomputable def b3K (P : Params) : Obj := (Obj.mk Value.none (@Option.none Nat) (Data.fields (@List.toArray Value [(Value.int (2 : Int) (0 : Nat)), (Value.int (0 : Int) (0 : Nat)), (Value.ref (37 : Nat)), (Value.int (6 : Int) (0 : Nat)), (Value.int (0 : Int) (0 : Nat)), (Value.ref (44 : Nat)), (Value.int (9 : Int) (0 : Nat)), (Value.int (0 : Int) (0 : Nat)), (Value.ref (51 : Nat)), (Value.int (22 : Int) (0 : Nat)), (Value.int (0 : Int) (0 : Nat)), (Value.ref (58 : Nat)), (Value.int (24 : Int) (0 : Nat)), (Value.int (0 : Int) (0 : Nat)), (Value.ref (65 : Nat)), (Value.int (26 : Int) (0 : Nat)), (Value.int (0 : Int) (0 : Nat)), (Value.ref (72 : Nat)), (Value.int (28 : Int) (0 : Nat)), (Value.int (0 : Int) (0 : Nat)), (Value.ref (79 : Nat)), (Value.int (30 : Int) (0 : Nat)), (Value.int (0 : Int) (0 : Nat)), (Value.ref (86 : Nat)), (Value.int (36 : Int) (0 : Nat)), (Value.int (0 : Int) (0 : Nat)), (Value.ref (93 : Nat)), (Value.int (42 : Int) (0 : Nat)), (Value.int (0 : Int) (0 : Nat)), (Value.ref (100 : Nat)), (Value.int (84 : Int) (0 : Nat)), (Value.int (0 : Int) (0 : Nat)), (Value.ref (123 : Nat)), (Value.int (93 : Int) (0 : Nat)), (Value.int (0 : Int) (0 : Nat)), (Value.ref (130 : Nat))])) (@List.toArray (Option Value) (@List.nil (Option Value))))
noncomputable def mergeK : Nat → List (Nat × Obj) → List (Nat × Obj) → List Obj
  | 0, _, _ => []
  | _ + 1, [], ys => ys.map (·.2)
  | _ + 1, xs, [] => xs.map (·.2)
  | n + 1, x :: xs, y :: ys => match Nat.blt x.1 y.1 with
    | true => x.2 :: mergeK n xs (y :: ys)
    | false => y.2 :: mergeK n (x :: xs) ys
noncomputable def fullK (P : Params) (X : Obj) : List Obj := mergeK 300 (heapK P) (restK P X)
noncomputable def cutK (o p : Obj) : Nat → Nat → List Obj → List Obj
  | 0, _, _ => []
  | _ + 1, _, [] => []
  | n + 1, i, x :: r => (match Nat.beq i 3 with | true => o | false => match Nat.beq i 29 with | true => p | false => x) :: cutK o p n (i + 1) r
noncomputable def tkK : Nat → List Obj → List Obj
  | 0, _ => []
  | _ + 1, [] => []
  | n + 1, x :: r => x :: tkK n r
noncomputable def drK : Nat → List Obj → List Obj
  | 0, l => l
  | _ + 1, [] => []
  | n + 1, _ :: r => drK n r
noncomputable def L0K (P : Params) (X : Obj) : List Obj := cutK (a0K P) (b0K P) 28 0 (fullK P X)
noncomputable def H0K (P : Params) (X : Obj) : Heap := ⟨⟨L0K P X⟩, {}⟩
noncomputable def M0K (P : Params) (X : Obj) : Heap := ⟨⟨cutK (a0K P) (b0K P) 32 0 (fullK P X)⟩, {}⟩
noncomputable def M1K (P : Params) (X : Obj) : Heap := ⟨⟨cutK (a1K P) (b1K P) 102 0 (fullK P X)⟩, {}⟩
noncomputable def M2K (P : Params) (X : Obj) : Heap := ⟨⟨cutK (a2K P) (b2K P) 125 0 (fullK P X)⟩, {}⟩
noncomputable def M3K (P : Params) (X : Obj) : Heap := ⟨⟨cutK (a3K P) (b3K P) 250 0 (fullK P X)⟩, {}⟩
noncomputable def H1K (P : Params) (X : Obj) : Heap := ⟨⟨fullK P X⟩, {}⟩
noncomputable abbrev pK : Program := PySem.Challenge.rw_ti0055_01.row.toRowW.prog
noncomputable def xK : Obj := ⟨.none, none, .plain, #[]⟩
theorem openK : ∀ w : World, (fencedOpening treeTable pK w 3342).map (fun s => (s.heap.objs.toList.take 18, s.heap.objs.toList.drop 19, s.heap.life, s.gens, s.drawn, s.toks)) = some (tkK 18 (L0K w.params xK), drK 19 (L0K w.params xK), {}, #[], {}, 276) := by
  unfold fencedOpening
  rw [PySem.W.Fast.te10274390034422433532, PySem.W.Fast.te1435165496053646825, PySem.W.Fast.te14289696077712309145, PySem.W.Fast.te14364793385576792824]
  exact fun w => by kernel_rfl
theorem splitK : ∀ P X, tkK 18 (L0K P xK) ++ X :: drK 19 (L0K P xK) = L0K P X := fun P X => by kernel_rfl
theorem sizeK : ∀ (w : World) (X : Obj), ((H0K w.params X).isNs mainGlobals && (#[] : Array GenState).size == 0, (H0K w.params X).objs.size, (H0K w.params X).nsMap mainGlobals "__annotations__") = (true, 28, some (.ref 6)) := fun w X => by kernel_rfl
noncomputable abbrev bdK : List Stmt := behindTheImports pK
noncomputable abbrev enK : Env := { scope := pK.main.scope, locals := mainNs, globals := mainNs, cells := [], code := .ref 30, frame := some 31 }
noncomputable abbrev cdK : Code := .body bdK enK
noncomputable abbrev p0K : Pos := ⟨0, 0, 0, 0⟩
theorem run0 : ∀ (w : World) (X : Obj) (os : OsState), topGo treeTable pK w 28 (some (.ref 6)) 12 ⟨H0K w.params X, #[], {}, 276, os⟩ (topStub pK) = some (⟨M0K w.params X, #[], {}, 282, os⟩, ⟨denote treeTable cdK, cdK, p0K, [topFrame p0K]⟩) := by
  rw [PySem.W.Fast.te15667345088766844465, PySem.W.Fast.te11892475500146522536, PySem.W.Fast.te14364793385576792824]
  exact fun w X os => by kernel_rfl
theorem run1 : ∀ (w : World) (X : Obj) (os : OsState), segRun treeTable pK w 28 (some (.ref 6)) 1 1 ⟨M0K w.params X, #[], {}, 282, os⟩ (blockOf bdK enK cdK p0K [topFrame p0K]) = some (.next, ⟨M0K w.params X, #[], {}, 282, os⟩, cdK, p0K) := by
  rw [PySem.W.Fast.te14374325043358763698, PySem.W.Fast.te14364793385576792824]
  exact fun w X os => by kernel_rfl
theorem run2 : ∀ (w : World) (X : Obj) (os : OsState), segRun treeTable pK w 28 (some (.ref 6)) 1 385 ⟨M0K w.params X, #[], {}, 282, os⟩ (piecesOf (bdK.take 18) enK cdK p0K [topFrame p0K]) = some (.next, ⟨M1K w.params X, #[], {}, 390, os⟩, cdK, ⟨80, 0, 80, 8⟩) := by
  rw [PySem.W.Fast.te14374325043358763698, PySem.W.Fast.te14364793385576792824]
  exact fun w X os => by kernel_rfl
theorem run3 : ∀ (w : World) (X : Obj) (os : OsState), segRun treeTable pK w 28 (some (.ref 6)) 1 257 ⟨M1K w.params X, #[], {}, 390, os⟩ (piecesOf ((bdK.drop 18).take 4) enK cdK ⟨80, 0, 80, 8⟩ [topFrame p0K]) = some (.next, ⟨M2K w.params X, #[], {}, 494, os⟩, cdK, ⟨84, 0, 92, 20⟩) := by
  rw [PySem.W.Fast.te14374325043358763698, PySem.W.Fast.te14364793385576792824]
  exact fun w X os => by kernel_rfl
noncomputable def evsK : List Obj → List Obj
  | [] => []
  | [x] => [x]
  | x :: _ :: r => x :: evsK r
noncomputable def odsK : List Obj → List Obj
  | [] => []
  | [_] => []
  | _ :: y :: r => y :: odsK r
noncomputable def brK : Nat → List Obj → BT
  | 0, _ => .nil
  | _ + 1, [] => .nil
  | n + 1, x :: r => .node x (brK n (evsK r)) (brK n (odsK r))
noncomputable def T2K (P : Params) (X : Obj) : BT := brK 9 (cutK (a2K P) (b2K P) 125 0 (fullK P X))
noncomputable def T3K (P : Params) (X : Obj) : BT := brK 9 (cutK (a3K P) (b3K P) 250 0 (fullK P X))
theorem abs2 : ∀ P X, absHeap (T2K P X) 125 {} = M2K P X := fun P X => by kernel_rfl
theorem abs3 : ∀ P X, absHeap (T3K P X) 250 {} = M3K P X := fun P X => by kernel_rfl
theorem run4T : ∀ (w : World) (X : Obj) (os : OsState), segRunT treeTable pK w 28 (some (.ref 6)) 1 727 ⟨T2K w.params X, 125, {}, #[], {}, 494, os⟩ (piecesOf (((bdK.drop 18).drop 4).take 1) enK cdK ⟨84, 0, 92, 20⟩ [topFrame p0K]) = some (.next, ⟨T3K w.params X, 250, {}, #[], {}, 651, os⟩, cdK, ⟨93, 0, 174, 93⟩) := by
  rw [PySem.W.Fast.te10110043849684766642, PySem.W.Fast.te14364793385576792824]
  exact fun w X os => by kernel_rfl
theorem run4 (w : World) (X : Obj) (os : OsState) : segRun treeTable pK w 28 (some (.ref 6)) 1 727 ⟨M2K w.params X, #[], {}, 494, os⟩ (piecesOf (((bdK.drop 18).drop 4).take 1) enK cdK ⟨84, 0, 92, 20⟩ [topFrame p0K]) = some (.next, ⟨M3K w.params X, #[], {}, 651, os⟩, cdK, ⟨93, 0, 174, 93⟩) := by
  have h := segRun_of (run4T w X os)
  unfold SharedT.abs at h
  dsimp only at h
  rw [abs2, abs3] at h
  exact h
theorem run5 : ∀ (w : World) (X : Obj) (os : OsState), segRun treeTable pK w 28 (some (.ref 6)) 1 243 ⟨M3K w.params X, #[], {}, 651, os⟩ (piecesOf (((bdK.drop 18).drop 4).drop 1) enK cdK ⟨93, 0, 174, 93⟩ [topFrame p0K]) = some (.next, ⟨H1K w.params X, #[], {}, 720, os⟩, cdK, ⟨226, 0, 255, 44⟩) := by
  rw [PySem.W.Fast.te14374325043358763698, PySem.W.Fast.te14364793385576792824]
  exact fun w X os => by kernel_rfl
theorem run6 : ∀ (w : World) (X : Obj) (os : OsState), topRun treeTable pK w 28 (some (.ref 6)) 2 ⟨H1K w.params X, #[], {}, 720, os⟩ ⟨doneF .next, cdK, ⟨226, 0, 255, 44⟩, [topFrame p0K]⟩ = some ⟨H1K w.params X, #[], {}, 720, os⟩ := by
  rw [PySem.W.Fast.te14082659384304107361, PySem.W.Fast.te14364793385576792824]
  exact fun w X os => by kernel_rfl
theorem runK (w : World) (X : Obj) (os : OsState) : topRun treeTable pK w 28 (some (.ref 6)) 1627 ⟨H0K w.params X, #[], {}, 276, os⟩ (topStub pK) = some ⟨H1K w.params X, #[], {}, 720, os⟩ := by
  refine go_top (n := 12) (N := 1615) (run0 w X os) (piece_block (n := 1) (N := 1614) (run1 w X os) ?_)
  rw [← List.take_append_drop 18 bdK]
  refine piece_app (n := 385) (N := 1229) (run2 w X os) ?_
  rw [← List.take_append_drop 4 (bdK.drop 18)]
  refine piece_app (n := 257) (N := 972) (run3 w X os) ?_
  rw [← List.take_append_drop 1 ((bdK.drop 18).drop 4), ← List.append_nil (((bdK.drop 18).drop 4).drop 1)]
  exact piece_app (n := 727) (N := 245) (run4 w X os) (piece_app (n := 243) (N := 2) (run5 w X os) (piece_nil (run6 w X os)))
noncomputable abbrev s1K (w : World) (X : Obj) (os : OsState) : Shared := ⟨H1K w.params X, #[], {}, 720, os⟩
theorem statK : ∀ (w : World) (X : Obj) (os : OsState), (staticsOk (importedModules pK.main.body) (H0K w.params X) (H1K w.params X) && namesBound pK (H1K w.params X) && gensDone (s1K w X os) && laidKept (H0K w.params X) (H1K w.params X)) = true := fun w X os => by kernel_rfl
noncomputable abbrev looseK : List Str := [Str.ofString "tspecials", Str.ofString "_name_disallowed_re", Str.ofString "_value_disallowed_re", Str.ofString "_formatparam"]
theorem obsK : ∀ (w : World) (X : Obj) (os : OsState), Hook.obs hookK (s1K w X os) = Hook.val hookK w := fun w X os => by kernel_rfl
theorem seenK : ∀ (w : World) (X : Obj) (os : OsState), openSeen viewK looseK (importedModules pK.main.body) (fun s => xlAt viewK [] s && recOk [] s) true (s1K w X os) = openGood viewK looseK := by
  rw [PySem.W.Fast.te4187177175401517315]
  intro w X os
  delta PySem.W.Fast.tw4187177175401517315 openGood
  refine Prod.ext ?_ (Prod.ext ?_ (Prod.ext ?_ (Prod.ext ?_ (Prod.ext ?_ (Prod.ext ?_ (Prod.ext ?_ (Prod.ext ?_ ?_)))))))
  all_goals (dsimp only)
  · as_aux_lemma => kernel_rfl
  · as_aux_lemma => kernel_rfl
  · refine look_both (look_both (look_both (look_both (look_both (look_both ?_ ?_) ?_) ?_) ?_) ?_) ?_
    all_goals (as_aux_lemma => kernel_rfl)
  · as_aux_lemma => kernel_rfl
  · as_aux_lemma => kernel_rfl
  · as_aux_lemma => kernel_rfl
  · as_aux_lemma => kernel_rfl
  · as_aux_lemma => kernel_rfl
  · as_aux_lemma => kernel_rfl
theorem list_hole {l a b : List Obj} (h1 : l.take 18 = a) (h2 : l.drop 19 = b) (hb : b.isEmpty = false) : ∃ X, l = a ++ X :: b := by
  have h3 : 18 < l.length := by
    rcases Nat.lt_or_ge 18 l.length with h | h
    · exact h
    · rw [List.drop_of_length_le (by omega)] at h2
      rw [← h2] at hb
      cases hb
  exact ⟨l[18], by rw [← h1, ← h2, ← List.drop_eq_getElem_cons h3, List.take_append_drop]⟩
theorem fullE : ∀ P, (drK 19 (L0K P xK)).isEmpty = false := fun P => by kernel_rfl
theorem openX (w : World) : ∃ X os, fencedOpening treeTable pK w 3342 = some ⟨H0K w.params X, #[], {}, 276, os⟩ := by
  obtain ⟨⟨⟨⟨l⟩, li⟩, gs, d, k, os⟩, e, e'⟩ := Option.map_eq_some_iff.mp (openK w)
  obtain ⟨h1, h2, h3, h4, h5, h6⟩ : l.take 18 = _ ∧ l.drop 19 = _ ∧ li = {} ∧ gs = #[] ∧ d = {} ∧ k = 276 := by simpa only [Prod.mk.injEq] using e'
  obtain ⟨X, hX⟩ := list_hole h1 h2 (fullE _)
  rw [splitK] at hX
  subst hX h3 h4 h5 h6
  exact ⟨X, os, e⟩
theorem topX (w : World) (X : Obj) (os : OsState) : topFrom treeTable pK w 3342 ⟨H0K w.params X, #[], {}, 276, os⟩ = some (s1K w X os) := by
  obtain ⟨z1, z2, z3⟩ : _ ∧ _ ∧ _ := by simpa only [Prod.mk.injEq] using sizeK w X
  unfold topFrom
  dsimp only
  rw [z1, z2, z3, topRun_mono 1715 1627 _ _ _ (runK w X os)]
  dsimp only [Option.bind_some]
  rw [statK w X os]
theorem leftK : LeftO PySem.Challenge.rw_ti0055_01.row.toRowW.prog viewK [Str.ofString "tspecials", Str.ofString "_name_disallowed_re", Str.ofString "_value_disallowed_re", Str.ofString "_formatparam"]
  (fun s => xlAt viewK [] s && recOk [] s) (Hook.obs hookK) (Hook.val hookK) 3342 := fun w => by
  obtain ⟨X, os, e⟩ := openX w
  unfold openEnds
  rw [e, Option.bind_some, topX, Option.map_some]
  exact congrArg some (Prod.ext (seenK w X os) (obsK w X os))
noncomputable abbrev lse : List Str := [Str.ofString "tspecials", Str.ofString "_name_disallowed_re", Str.ofString "_value_disallowed_re", Str.ofString "_formatparam"]
noncomputable abbrev Claim (w : World) (mean : ExcName → Option Value) (mg mb : Str → Option Value) (f : Addr) (news : List (Addr × Obj)) (pre : Prop) (vs : List Value) (R : Tok → Value) : Prop :=
  CbClaim PySem.Challenge.rw_ti0055_01.row.toRowW.prog w (heapK w.params) viewK (looseW viewK lse) mean mg mb f news [] pre vs R
noncomputable def wd (l : List Nat) : Str := ⟨l.toArray⟩

structure Hd (p : Prop) : Prop where
  out : p
noncomputable def fnBody (i : Nat) : List Stmt := match PySem.Challenge.pw_ti0055_01.main.body[i]? with
  | some (.FunctionDef _ _ b _ _ _ _ _ _ _) => b
  | _ => []
noncomputable def fnScope (i : Nat) : Scope := match PySem.Challenge.pw_ti0055_01.main.body[i]? with
  | some (.FunctionDef _ _ _ _ _ _ s _ _ _) => s
  | _ => default
theorem lim {a b c k : Nat} (h : a + b < c) (hk : k ≤ b) : a + k < c := Nat.lt_of_le_of_lt (Nat.add_le_add_left hk a) h
theorem m_itePos {c : Prop} [Decidable c] {a b : Prop} (hc : c) (h : a) : if c then a else b := by rw [if_pos hc]; exact h
theorem m_iteNeg {c : Prop} [Decidable c] {a b : Prop} (hc : ¬ c) (h : b) : if c then a else b := by rw [if_neg hc]; exact h
noncomputable def CutR {σ : Type} (g : Heap) (L : Addr) (s : Shared) (ps : σ → List (Str × Value)) (news : σ → List (Addr × Obj)) (P : σ → Prop) (s' : Shared) : Prop :=
  ∃ (x : σ) (u : Str → Option Value) (h' : Heap) (tk' : Nat), s' = { s with heap := h', toks := tk' } ∧ Fr g L h' (kstB u (ps x)) ∧ News g L h' (news x) ∧ P x
theorem cut_end {σ : Type} {g : Heap} {L : Addr} {s : Shared} {ps : σ → List (Str × Value)} {news : σ → List (Addr × Obj)} {P : σ → Prop} {h' : Heap} {tk' : Nat} {m' : Str → Option Value} {news' : List (Addr × Obj)} (x : σ)
    (F : Fr g L h' m') (N : News g L h' news') (hk : ∀ p ∈ ps x, m' p.1 = some p.2) (hn : ∀ p ∈ news x, p ∈ news') (hp : P x) : CutR g L s ps news P { s with heap := h', toks := tk' } := by
  refine ⟨x, m', h', tk', rfl, ?_, fun p hp => N p (hn p hp), hp⟩
  have em : kstB m' (ps x) = m' := by
    funext y
    exact kstB_eq hk fun _ => rfl
  rw [em]; exact F
section
variable {M : Model} {A : Around} {env : Env} {st : Stmt} {rest : List Stmt} {Q : Flow → Shared → Prop} {E : Value → Shared → Prop} {s : Shared}
theorem is_wp {α : Type} {t : Sem α} {Q : α → Shared → Prop} (h : wpAny M A t Q E s) : wpAny M A t Q E s := h
theorem absQ {α : Type} {t : Sem α} {P : α → Shared → Prop} (h : ∀ R : α → Shared → Prop, P = R → wpAny M A t R E s) : wpAny M A t P E s := h P rfl
theorem absT {α : Type} {t : Sem α} {body : List Stmt} {P : Flow → Shared → Prop} (h : ∀ R : Flow → Shared → Prop, P = R → wpAny M A t (fun _ s₂ => wpAny M A (execs body env) R E s₂) E s) : wpAny M A t (fun _ s₂ => wpAny M A (execs body env) P E s₂) E s := h P rfl
theorem fp_end {α : Type} {P R : α → Shared → Prop} {f : α} {s' : Shared} (e : P = R) (h : P f s') : R f s' := e ▸ h
theorem absW {t : Sem Bool} {body : List Stmt} {P : Flow → Shared → Prop} {P2 : Shared → Prop} (h : ∀ (R : Flow → Shared → Prop) (R2 : Shared → Prop), P = R → P2 = R2 → wpAny M A t (fun b s₂ => if b = true then wpAny M A (execs body env) R E s₂ else R2 s₂) E s) :
    wpAny M A t (fun b s₂ => if b = true then wpAny M A (execs body env) P E s₂ else P2 s₂) E s := h P P2 rfl rfl
theorem fp_end1 {P R : Shared → Prop} {s' : Shared} (e : P = R) (h : P s') : R s' := e ▸ h
theorem at_line (n : Nat) (h : wpAny M A (execs (st :: rest) env) Q E s) (_hn : st.pos.line = n) : wpAny M A (execs (st :: rest) env) Q E s := h
theorem execs_append (env : Env) : ∀ (l r : List Stmt), execs (l ++ r) env = (do match ← execs l env with | .next => execs r env | f => pure f)
  | [], r => rfl
  | st :: l, r => by
    rw [List.cons_append, execs_cons, execs_cons]
    rw [bind_assoc]
    refine congrArg _ (funext fun f => ?_)
    cases f with
    | next => exact execs_append env l r
    | brk => rfl
    | cont => rfl
    | ret v => rfl
theorem execs_app (R : Shared → Prop) {l r : List Stmt} (h1 : wpAny M A (execs l env) (fun f s' => match f with | .next => R s' | f => Q f s') E s) (h2 : ∀ s', R s' → wpAny M A (execs r env) Q E s') : wpAny M A (execs (l ++ r) env) Q E s := by
  rw [execs_append]
  refine wpAny_bind (wpAny_mono h1 (fun f s' h => ?_) fun _ _ h => h)
  cases f with
  | next => exact h2 s' h
  | brk => exact wpAny_pure h
  | cont => exact wpAny_pure h
  | ret v => exact wpAny_pure h
theorem cutN {σ : Type} (k : Nat) {sts : List Stmt} {g : Heap} {L : Addr} {m : Str → Option Value} (_F : Fr g L s.heap m) (ps : σ → List (Str × Value)) (news : σ → List (Addr × Obj)) (P : σ → Prop)
    (h1 : wpAny M A (execs (sts.take k) env) (fun f s' => match f with | .next => CutR g L s ps news P s' | f => Q f s') E s)
    (h2 : ∀ x u h tk, Fr g L h (kstB u (ps x)) → News g L h (news x) → P x → wpAny M A (execs (sts.drop k) env) Q E { s with heap := h, toks := tk }) : wpAny M A (execs sts env) Q E s := by
  rw [← List.take_append_drop k sts]
  refine execs_app _ h1 ?_
  rintro s' ⟨x, u, h', tk', rfl, F', N', hP⟩
  exact h2 x u h' tk' F' N' hP
end
theorem kstB_self {m : Str → Option Value} {ps : List (Str × Value)} (hk : ∀ p ∈ ps, m p.1 = some p.2) : kstB m ps = m := by
  funext y
  exact kstB_eq hk fun _ => rfl
section
variable {prog : Program} {w : World} {A : Around} {E : Value → Shared → Prop} {Q : Flow → Shared → Prop} {s : Shared} {env : Env} {g : Heap} {L : Addr}
theorem while_cut {σ : Type} {test : Expr} {body : List Stmt} {pos : Pos} {m : Str → Option Value} {newsNow : List (Addr × Obj)} (ps : σ → List (Str × Value)) (news : σ → List (Addr × Obj)) (P : σ → Prop) (μ : σ → Nat) (c₀ : σ)
    (F : Fr g L s.heap m) (N : News g L s.heap newsNow) (hk : ∀ p ∈ ps c₀, m p.1 = some p.2) (hn : ∀ p ∈ news c₀, p ∈ newsNow) (hp : P c₀)
    (turn : ∀ c u h tk, Fr g L h (kstB u (ps c)) → News g L h (news c) → P c →
      wpAny (model prog w) A (isTrue test env (eval test env)) (fun b s₂ =>
        if b = true then wpAny (model prog w) A (execs body env) (fun f s₃ => match f with | .next => CutR g L s ps news (fun c' => P c' ∧ μ c' < μ c) s₃ | .cont => CutR g L s ps news (fun c' => P c' ∧ μ c' < μ c) s₃ | .brk => Q .next s₃ | .ret v => Q (.ret v) s₃) E s₂ else Q .next s₂) E { s with heap := h, toks := tk })
    (hE : PassesOwn (model prog w) A env E) :
    wpAny (model prog w) A (exec (.While test body [] pos) env) Q E s := by
  refine While_inv2 (fun n m nx => ∃ (c : σ) (u : Str → Option Value), nx = news c ∧ μ c = n ∧ m = kstB u (ps c) ∧ P c) F (fun p hp => N p (hn p hp)) ⟨c₀, m, rfl, rfl, (kstB_self hk).symm, hp⟩ ?_ hE
  rintro n m₁ nx h tk F₁ N₁ ⟨c, u, rfl, rfl, rfl, hp'⟩
  refine wpAny_mono (turn c u h tk F₁ N₁ hp') (fun b s₂ p => ?_) fun _ _ x => x
  cases b with
  | false => simpa using p
  | true =>
    simp only [if_true] at p ⊢
    refine wpAny_mono p (fun f s₃ q => ?_) fun _ _ x => x
    have fin : CutR g L s ps news (fun c' => P c' ∧ μ c' < μ c) s₃ → ∃ h' tk m₂ news₂ n', s₃ = { s with heap := h', toks := tk } ∧ Fr g L h' m₂ ∧ News g L h' news₂ ∧ n' < μ c ∧ ∃ (c : σ) (u : Str → Option Value), news₂ = news c ∧ μ c = n' ∧ m₂ = kstB u (ps c) ∧ P c := by
      rintro ⟨c', u, h', tk', rfl, F', N', hP, hm⟩
      exact ⟨h', tk', kstB u (ps c'), news c', μ c', rfl, F', N', hm, c', u, rfl, rfl, rfl, hP⟩
    cases f with
    | ret v => exact q
    | brk => exact q
    | next => exact fin q
    | cont => exact fin q
end
structure Iter (prog : Program) (w : World) (A : Around) (I : Addr) (n : Nat) (val : Nat → Value → Prop) (Ok : Nat → Obj → Prop) (src : Heap → Prop) : Prop where
  item : ∀ i (s : Shared) (Q : Option Value → Shared → Prop) (E : Value → Shared → Prop) (oI : Obj), i < n → s.heap.get? I = some oI → Ok i oI → src s.heap →
    (∀ v o' h' tk', val i v → Ok (i + 1) o' → h'.get? I = some o' → Heap.SameBut I s.heap h' → Q (some v) { s with heap := h', toks := tk' }) → wpAny (model prog w) A (pyNext (.ref I)) Q E s
  done : ∀ (s : Shared) (Q : Option Value → Shared → Prop) (E : Value → Shared → Prop) (oI : Obj), s.heap.get? I = some oI → Ok n oI → src s.heap →
    (∀ h' tk', Heap.ExtBut I s.heap h' → Q none { s with heap := h', toks := tk' }) → wpAny (model prog w) A (pyNext (.ref I)) Q E s
section
variable {prog : Program} {w : World} {A : Around} {E : Value → Shared → Prop} {Q : Flow → Shared → Prop} {s : Shared} {env : Env} {g : Heap} {L : Addr}
theorem Iter.list (hh : A.handled = none) (I l : Addr) (items : Array Value) :
    Iter prog w A I items.size (fun i v => items[i]? = some v) (fun i o => o.cls = .type "list_iterator" ∧ o.data = .fields #[.ref l, .int i 0]) (fun h => h.IsList l items) where
  item := by
    intro i s Q E oI hi ho hok hs hQ
    have hx : items[i]? = some (items[i]'hi) := Array.getElem?_eq_getElem hi
    refine wpAny_pyNext_list_item (items := items) ⟨oI, ho, hok.1, hok.2⟩ hs hx fun h' hit hsb => ?_
    obtain ⟨o', ho', hok'⟩ := hit
    exact hQ _ o' h' s.toks hx hok' ho' hsb
  done := by
    intro s Q E oI ho hok hs hQ
    refine wpAny_pyNext_list_end hh (items := items) ⟨oI, ho, hok.1, hok.2⟩ hs (by simp) fun h' he => hQ h' s.toks he
noncomputable def rangeIt (x left step : Int) : Obj := { cls := .type "range_iterator", dict := none, data := .fields #[rawInt x, rawInt left, rawInt step], slots := #[] }
theorem Iter.range (hh : A.handled = none) (I : Addr) (a : Int) (n : Nat) :
    Iter prog w A I n (fun i v => ∃ t, v = .int (a + i) t) (fun i o => o = rangeIt (a + i) ((n : Int) - i) 1) (fun _ => True) where
  item := by
    intro i s Q E oI hi ho hok _ hQ
    subst hok
    refine wpAny_pyNext_range_item ho (by omega) fun h' hit hsb => ?_
    refine hQ _ _ h' _ ⟨_, rfl⟩ ?_ hit hsb
    have e1 : a + (i : Int) + 1 = a + ((i + 1 : Nat) : Int) := by omega
    have e2 : (n : Int) - (i : Int) - 1 = (n : Int) - ((i + 1 : Nat) : Int) := by omega
    rw [e1, e2]; rfl
  done := by
    intro s Q E oI ho hok _ hQ
    subst hok
    exact wpAny_pyNext_range_end hh ho (by omega) fun h' he => hQ h' s.toks he
noncomputable def ForPost {σ : Type} (g : Heap) (L : Addr) (s : Shared) (ps : σ → List (Str × Value)) (news : σ → List (Addr × Obj)) (P : σ → Prop) (Q : Flow → Shared → Prop) (f : Flow) (s₃ : Shared) : Prop :=
  match f with
  | .next => CutR g L s ps news P s₃
  | .cont => CutR g L s ps news P s₃
  | .brk => Q .next s₃
  | .ret v => Q (.ret v) s₃
theorem for_cut {σ : Type} {target : Expr} {body : List Stmt} {m : Str → Option Value} {newsNow : List (Addr × Obj)} {I : Addr} {n : Nat} {val : Nat → Value → Prop} {Ok : Nat → Obj → Prop} {src : Heap → Prop} (It : Iter prog w A I n val Ok src)
    (ps : σ → List (Str × Value)) (news : σ → List (Addr × Obj)) (J : Nat → σ → Prop) (x₀ : σ) {oI : Obj}
    (F : Fr g L s.heap m) (N : News g L s.heap newsNow) (hI : s.heap.get? I = some oI) (hok : Ok 0 oI) (hIL : I ≠ L) (hIg : g.get? I = none)
    (hk : ∀ p ∈ ps x₀, m p.1 = some p.2) (hn : ∀ p ∈ news x₀, p ∈ newsNow) (hj : J 0 x₀)
    (hoff : ∀ i x, J i x → ∀ p ∈ news x, p.1 ≠ I) (hsrc : ∀ x h, (∀ b o, g.get? b = some o → h.get? b = some o) → (∀ p ∈ news x, h.get? p.1 = some p.2) → src h)
    (turn : ∀ i x u h tk oI v, i < n → val i v → J i x → (∀ p ∈ news x, p.1 ≠ I) → Fr g L h (kstB u (ps x)) → News g L h ((I, oI) :: news x) →
      wpAny (model prog w) A (assign target env v) (fun _ s₂ => wpAny (model prog w) A (execs body env) (ForPost g L s ps (fun x => (I, oI) :: news x) (J (i + 1)) Q) E s₂) E { s with heap := h, toks := tk })
    (done : ∀ x u h tk, J n x → Fr g L h (kstB u (ps x)) → News g L h (news x) → Q .next { s with heap := h, toks := tk })
    (ht : ∀ v, letOwnedTupleGo target (.ref I) v = pure ())
    (hE : PassesOwn (model prog w) A env E) :
    codeAny (model prog w) A (.forLoop target (.ref I) body [] env) (fun r s' => match r with | .ok f => Q f s' | .error e => cameBackBy (model prog w) A env E e s') s := by
  refine codeAny_forLoop (fun k s' => ∃ i x u h tk oI, k = n - i ∧ i ≤ n ∧ s' = { s with heap := h, toks := tk } ∧ J i x ∧ Fr g L h (kstB u (ps x)) ∧ News g L h ((I, oI) :: news x) ∧ Ok i oI) ?_ n
    ⟨0, x₀, m, s.heap, s.toks, oI, by omega, Nat.zero_le _, rfl, hj, by rw [kstB_self hk]; exact F, ?_, hok⟩ ht
  · rintro k s' ⟨i, x, u, h, tk, oI, rfl, hi, rfl, hJ, F', N', hok'⟩
    have hs' : src h := hsrc x h F'.keep fun p hp => (N' p (List.mem_cons_of_mem _ hp)).1
    have ho : h.get? I = some oI := (N' _ (.head _)).1
    have off := hoff i x hJ
    by_cases hlt : i < n
    · refine It.item i _ _ _ oI hlt ho hok' hs' fun v o' h' tk' hv hok₂ ho' hsb => ?_
      have F₂ : Fr g L h' (kstB u (ps x)) := ⟨F'.ns.at' (fun o e => (hsb.2 _ (Ne.symm hIL)).trans e), fun b o e => (hsb.2 b (fun q => by rw [q, hIg] at e; cases e)).trans (F'.keep b o e), F'.above⟩
      have N₂ : News g L h' ((I, o') :: news x) := by
        intro p hp
        rcases List.mem_cons.mp hp with rfl | hp
        · exact ⟨ho', hIL, hIg⟩
        · have q := N' p (List.mem_cons_of_mem _ hp)
          exact ⟨(hsb.2 _ (off p hp)).trans q.1, q.2⟩
      refine wpAny_mono (turn i x u h' tk' o' v hlt hv hJ off F₂ N₂) (fun _ s₂ h₂ => ?_) hE
      refine wpAny_mono h₂ (fun f s₃ h₃ => ?_) hE
      have fin : CutR g L s ps (fun x => (I, o') :: news x) (J (i + 1)) s₃ → ∃ m, m < n - i ∧ ∃ i x u h tk oI, m = n - i ∧ i ≤ n ∧ s₃ = { s with heap := h, toks := tk } ∧ J i x ∧ Fr g L h (kstB u (ps x)) ∧ News g L h ((I, oI) :: news x) ∧ Ok i oI := by
        rintro ⟨x', u', h₅, tk₅, e₅, F₅, N₅, hJ₅⟩
        exact ⟨n - (i + 1), by omega, i + 1, x', u', h₅, tk₅, o', rfl, hlt, e₅, hJ₅, F₅, N₅, hok₂⟩
      cases f with
      | next => exact fin h₃
      | cont => exact fin h₃
      | brk => exact h₃
      | ret v => exact h₃
    · have hin : i = n := by omega
      subst hin
      refine It.done _ _ _ oI ho hok' hs' fun h' tk' he => wpAny_execs_nil ?_
      have F₂ : Fr g L h' (kstB u (ps x)) := ⟨F'.ns.at' (fun o e => he _ o (Ne.symm hIL) e), fun b o e => he b o (fun q => by rw [q, hIg] at e; cases e) (F'.keep b o e), F'.above⟩
      refine done x u h' tk' hJ F₂ fun p hp => ?_
      have q := N' p (List.mem_cons_of_mem _ hp)
      exact ⟨he _ _ (off p hp) q.1, q.2⟩
  · intro p hp
    rcases List.mem_cons.mp hp with rfl | hp
    · exact ⟨hI, hIL, hIg⟩
    · exact N p (hn p hp)
end
theorem max0_le {q : Int} {n : Nat} (h : q < 0) : max 0 (q + (n : Int)) ≤ n := Int.max_le.mpr ⟨Int.natCast_nonneg n, Int.le_trans (Int.add_le_add_right (Int.le_of_lt h) n) (Int.le_of_eq (Int.zero_add _))⟩
theorem idx_neg {q : Int} {n : Nat} (h : q < 0) : Builtin.Str.strSliceIndices none (some q) 1 n = Builtin.Str.strSliceIndices none (some (max 0 (q + n))) 1 n := by
  unfold Builtin.Str.strSliceIndices
  simp only [h, if_true]
  have h2 : ¬ (max 0 (q + (n:Int)) < 0) := Int.not_lt.mpr (Int.le_max_left 0 _)
  simp only [h2, if_false]
  congr 1
  simp
  rw [Int.min_eq_left (Int.le_trans (Int.le_max_right 0 _) (max0_le h)), Int.min_eq_left (max0_le h), Int.max_eq_right (Int.le_max_left 0 _)]
theorem cut_len {m : Int} {n : Nat} (h0 : 0 ≤ m) (h1 : m ≤ n) : ((min (m - 0).toNat (n - (0 : Int).toNat) : Nat) : Int) = m := by
  rw [Int.sub_zero, show (0 : Int).toNat = 0 from rfl, Nat.sub_zero, Nat.min_eq_left (Int.toNat_le.mpr h1), Int.toNat_of_nonneg h0]
theorem toNat_step {x : Int} (h : 1 ≤ x) : x.toNat = (x - 1).toNat + 1 := by omega
theorem slice_neg {x : Str} {q : Int} (h : q < 0) : Txt.slice x none (some q) = Txt.slice x none (some (max 0 (q + x.length))) := by
  unfold Txt.slice
  rw [idx_neg h]
theorem slice_neg_len {x : Str} {q : Int} : q < 0 → ((Txt.slice x none (some q)).length : Int) = max 0 (q + x.length) := by
  intro h
  rw [slice_neg h]
  have h2 := eq_of_beq (slice_closes_toL (x := x) (j := max 0 (q + x.length)) (Int.le_max_left 0 _) (max0_le h))
  rw [h2]
  show ((((x.cps.toList.drop (0 : Int).toNat).take (max 0 (q + x.length) - 0).toNat).toArray.size : Nat) : Int) = _
  have h3 : x.cps.toList.length = x.length := by simp [Str.length]
  simp only [List.size_toArray, List.length_take, List.length_drop, h3]
  exact cut_len (Int.le_max_left 0 _) (max0_le h)
theorem slice_neg_or {x : Str} {q : Int} (h : q < 0) : (Txt.slice x none (some q)).length = 0 ∨ 1 ≤ q + x.length := by
  have e := slice_neg_len (x := x) h
  rcases Int.lt_or_le (q + x.length) 1 with g | g
  · rw [Int.max_eq_left (Int.lt_add_one_iff.mp g)] at e
    exact .inl (Int.ofNat.inj e)
  · exact .inr g
theorem slice_all (x : Str) : Txt.slice x none none = x := by
  have e : Txt.slice x none none = Txt.slice x (some 0) (some x.length) := by
    unfold Txt.slice
    have : Builtin.Str.strSliceIndices none none 1 x.length = Builtin.Str.strSliceIndices (some 0) (some x.length) 1 x.length := by
      unfold Builtin.Str.strSliceIndices
      have h2 : ¬ ((x.length : Int) < 0) := by omega
      simp only [h2, if_false]
      congr 1
      simp
    rw [this]
  rw [e, eq_of_beq (slice_closesL (x := x) (i := 0) (j := x.length) (by omega) (by omega) (by omega))]
  have h3 : x.cps.toList.length = x.length := by simp [Str.length]
  have : (x.cps.toList.drop (0 : Int).toNat).take ((x.length : Int) - 0).toNat = x.cps.toList := by
    simp only [Int.toNat_zero, List.drop_zero, Int.sub_zero, Int.toNat_natCast]
    rw [← h3, List.take_length]
  rw [this]
section
variable {prog : Program} {w : World} {A : Around} {E : Value → Shared → Prop} {s : Shared} {value slice : Expr} {x : Str} {t : Tok} {h₀ : Heap} {L : Addr} {m : Str → Option Value} {news : List (Addr × Obj)} {Q : Value → Shared → Prop}
theorem slice_none_str (hF : Fr h₀ L s.heap m) (hN : News h₀ L s.heap news) (h : ∀ h' t' k, Fr h₀ L h' m → News h₀ L h' news → Q (.str x t') { s with heap := h', toks := k })
    (hs : subscripted slice false (.str x t) (.ref s.heap.objs.size) = operate [.ref s.heap.objs.size, .str x t] (getItem (.str x t) (.ref s.heap.objs.size)) := by with_unfolding_all rfl)
    (ht : ∀ r, letTemporaryGo value (.str x t) r = pure () := by intro _; with_unfolding_all rfl) (hsz : x.length ≤ sizeLine := by size_fits) :
    wpAny (model prog w) A (subscriptTail value slice (.str x t) (.ref s.heap.objs.size)) Q E { s with heap := s.heap.push { cls := .type "slice", data := .fields #[.none, .none, .none] } } :=
  slice_strN_nn hF hN (fun h' t' k a b => by rw [slice_all]; exact h h' t' k a b) hs ht hsz
end
section
variable {prog : Program} {w : World} {A : Around} {E : Value → Shared → Prop} {s : Shared} {h₀ : Heap} {L : Addr} {m : Str → Option Value} {news : List (Addr × Obj)} {Q : Value → Shared → Prop}
theorem list_range_made {r : Addr} {a b c : Int} {t u v : Tok} {n : Nat} (hh : A.handled = none) (F : Fr h₀ L s.heap m) (N : News h₀ L s.heap news)
    (hr : IsRange s.heap r a b c t u v) (hsmall : Builtin.Range.small a b c = true) (hn : Builtin.Range.rangeSize a b c = (n : Int)) (hlen : n ≤ 2 ^ 24)
    (h : ∀ h' tk (vs : List Value) k D, Fr h₀ L h' m → News h₀ L h' ((D, listOf vs.toArray k) :: news) → IntsAre vs (rangeInts a c n) → (∀ p ∈ news, p.1 < D) → Q (.ref D) { s with heap := h', toks := tk }) :
    wpAny (model prog w) A (call (.type "list") [.ref r]) Q E s := by
  refine list_rangeD hh F N hr hsmall hn hlen fun h' tk ys F' N' hk hnone hl P C => ?_
  obtain ⟨k, e⟩ := P.1
  refine h h' tk ys k _ F' ?_ (IntsAre.ofCarried C) (fun p hp => Heap.lt_size (N p hp).1)
  intro p hp
  rcases List.mem_cons.mp hp with rfl | hp
  · exact ⟨e, P.ne_locals F', hnone⟩
  · exact N' p hp
end
theorem small_row {n : Nat} (h1 : 1 ≤ n) (h : n ≤ 3) : Builtin.Range.small 2 (2 * ((n : Int) + 1)) 2 = true ∧ Builtin.Range.rangeSize 2 (2 * ((n : Int) + 1)) 2 = (n : Int) :=
  (by decide : ∀ n : Nat, n ≤ 3 → 1 ≤ n → (Builtin.Range.small 2 (2 * ((n : Int) + 1)) 2 = true ∧ Builtin.Range.rangeSize 2 (2 * ((n : Int) + 1)) 2 = (n : Int))) n h h1

section
variable {prog : Program} {w : World} {A : Around} {E : Value → Shared → Prop} {Q : Flow → Shared → Prop} {s : Shared} {env : Env} {g : Heap} {L : Addr}
noncomputable def ForK (prog : Program) (w : World) (A : Around) (target : Expr) (body : List Stmt) (env : Env) (Q : Flow → Shared → Prop) (E : Value → Shared → Prop) (it : Value) (s₂ : Shared) : Prop :=
  codeAny (model prog w) A (.forLoop target it body [] env) (fun r s' => match r with | .ok f => Q f s' | .error e => cameBackBy (model prog w) A env E e s') s₂
theorem for_start {target iter : Expr} {body : List Stmt} {pos : Pos} (h : wpAny (model prog w) A (eval iter env) (fun x s₁ => wpAny (model prog w) A (pyIter x) (ForK prog w A target body env Q E) E s₁) E s)
    (hs : ∀ x, foldedSetIterable iter env x = pure x) : wpAny (model prog w) A (exec (.For target iter body [] pos) env) Q E s := wpAny_For h hs
theorem range_cut {σ : Type} {target : Expr} {body : List Stmt} {m : Str → Option Value} {newsNow : List (Addr × Obj)} {r : Addr} {a b : Int} {n : Nat} {t₁ t₂ t₃ : Tok} (hh : A.handled = none)
    (hr : IsRange s.heap r a b 1 t₁ t₂ t₃) (hsmall : Builtin.Range.small a b 1 = true) (hn0 : Builtin.Range.rangeSize a b 1 = (n : Int))
    (ps : σ → List (Str × Value)) (news : σ → List (Addr × Obj)) (J : Nat → σ → Prop) (x₀ : σ)
    (F : Fr g L s.heap m) (N : News g L s.heap newsNow) (hk : ∀ p ∈ ps x₀, m p.1 = some p.2) (hn : ∀ p ∈ news x₀, p ∈ newsNow) (hj : J 0 x₀)
    (hadr : ∀ i x, J i x → (news x).map (·.1) = (news x₀).map (·.1))
    (turn : ∀ i x u h tk I oI t, i < n → J i x → (∀ p ∈ news x₀, p.1 < I) → Fr g L h (kstB u (ps x)) → News g L h ((I, oI) :: news x) →
      wpAny (model prog w) A (assign target env (.int (a + (i : Int)) t)) (fun _ s₂ => wpAny (model prog w) A (execs body env) (ForPost g L s ps (fun x => (I, oI) :: news x) (J (i + 1)) Q) E s₂) E { s with heap := h, toks := tk })
    (done : ∀ x u h tk, J n x → Fr g L h (kstB u (ps x)) → News g L h (news x) → Q .next { s with heap := h, toks := tk })
    (ht : ∀ (I : Addr) v, letOwnedTupleGo target (.ref I) v = pure ())
    (hE : PassesOwn (model prog w) A env E) :
    wpAny (model prog w) A (pyIter (.ref r)) (ForK prog w A target body env Q E) E s := by
  refine wpAny_pyIter_range hr hsmall ?_
  have lt : ∀ p ∈ news x₀, p.1 < s.heap.objs.size := fun p hp => Heap.lt_size (N p (hn p hp)).1
  have fin : ∀ s₂ : Shared, s₂ = { s with heap := s.heap.push (rangeIt a (Builtin.Range.rangeSize a b 1) 1) } → codeAny (model prog w) A (.forLoop target (.ref s.heap.objs.size) body [] env) (fun r s' => match r with | .ok f => Q f s' | .error e => cameBackBy (model prog w) A env E e s') s₂ := by
    rintro s₂ rfl
    refine for_cut (σ := σ) (n := n) (Iter.range hh s.heap.objs.size a n) ps news J x₀ (oI := rangeIt a (Builtin.Range.rangeSize a b 1) 1) (F.push _) (fun p hp => ⟨Heap.get?_push_of_some _ (N p hp).1, (N p hp).2⟩) (Heap.get?_push_size _ rfl) ?_ (fun q => Nat.lt_irrefl _ (q ▸ F.ns.lt)) (next_is_new F) hk hn hj ?_ (fun _ _ _ _ => trivial) ?_ ?_ (ht _) hE
    · rw [hn0]; simp [rangeIt]
    · intro i x hJ p hp e
      have : p.1 ∈ (news x₀).map (·.1) := by rw [← hadr i x hJ]; exact List.mem_map_of_mem hp
      obtain ⟨q, hq, e'⟩ := List.mem_map.mp this
      exact absurd (lt q hq) (by rw [e', e]; exact Nat.lt_irrefl _)
    · rintro i x u h tk oI v hi ⟨t, rfl⟩ hJ _ F' N'
      exact turn i x u h tk _ oI t hi hJ lt F' N'
    · intro x u h tk hJ F' N'
      exact done x u h tk hJ F' N'
  exact fin _ rfl
end
structure NmK (P : Params) (x : Str) (v : Value) : Prop where
  e : nsIn (heapK P) mainGlobals x = some (some v)
  d : (x == ("__debug__" : Str)) = false
structure NmB (P : Params) (x : Str) (v : Value) : Prop where
  e : nsIn (heapK P) mainGlobals x = some none
  b : bootBuiltins x = some v
  n : x ≠ "__name__"
  d : (x == ("__debug__" : Str)) = false
theorem name_Kx {M : Model} {A : Around} {E : Value → Shared → Prop} {s : Shared} {P : Params} {h₀ : Heap} {L a : Addr} {m mg mb : Str → Option Value} {mean : ExcName → Option Value} {cn : Str} {cs : Scope} {ccd : Value} {p : Program} {loose : List Str}
    {x : Str} {pos : Pos} {v : Value} {Q : Value → Shared → Prop} (e : NmK P x v) (F : Fr h₀ L s.heap m) (X : (heapK P).In h₀) (T : Top p loose mean mg mb h₀) (hk : cs.kind = .function) (hx : (envOf cn cs L a ccd).kindOf x = some .globalImplicit) (h : Q v s) :
    wpAny M A (eval (.Name x pos) (envOf cn cs L a ccd)) Q E s := name_K F X (topRead_of T) e.e h hk hx e.d
theorem name_Bx {M : Model} {A : Around} {E : Value → Shared → Prop} {s : Shared} {P : Params} {h₀ : Heap} {L a : Addr} {m mg mb : Str → Option Value} {mean : ExcName → Option Value} {cn : Str} {cs : Scope} {ccd : Value} {p : Program} {loose : List Str}
    {x : Str} {pos : Pos} {v : Value} {Q : Value → Shared → Prop} (e : NmB P x v) (F : Fr h₀ L s.heap m) (X : (heapK P).In h₀) (T : Top p loose mean mg mb h₀) (hk : cs.kind = .function) (hx : (envOf cn cs L a ccd).kindOf x = some .globalImplicit) (h : Q v s) :
    wpAny M A (eval (.Name x pos) (envOf cn cs L a ccd)) Q E s := name_B F X (topRead_of T) e.e e.b e.n h hk hx e.d
theorem nk_strcoll (P : Params) : NmK P (Str.ofString "_strcoll") (.ref 45) := ⟨by kernel_rfl, by decide⟩
theorem nk_groupingXintervals (P : Params) : NmK P (Str.ofString "_grouping_intervals") (.ref 52) := ⟨by kernel_rfl, by decide⟩
theorem nk_CHARXMAX (P : Params) : NmK P (Str.ofString "CHAR_MAX") (.int 127 299) := ⟨by kernel_rfl, by decide⟩
theorem nk_and (P : Params) : NmK P (Str.ofString "and_") (.ref 59) := ⟨by kernel_rfl, by decide⟩
theorem nk_mod (P : Params) : NmK P (Str.ofString "mod") (.ref 66) := ⟨by kernel_rfl, by decide⟩
theorem nk_or (P : Params) : NmK P (Str.ofString "or_") (.ref 73) := ⟨by kernel_rfl, by decide⟩
theorem nk_rshift (P : Params) : NmK P (Str.ofString "rshift") (.ref 80) := ⟨by kernel_rfl, by decide⟩
theorem nk_sub (P : Params) : NmK P (Str.ofString "sub") (.ref 87) := ⟨by kernel_rfl, by decide⟩
theorem nk_MAXXSTRINGXSIZE (P : Params) : NmK P (Str.ofString "_MAX_STRING_SIZE") (.int 40 354) := ⟨by kernel_rfl, by decide⟩
theorem nk_MOVEXCOST (P : Params) : NmK P (Str.ofString "_MOVE_COST") (.int 2 356) := ⟨by kernel_rfl, by decide⟩
theorem nk_CASEXCOST (P : Params) : NmK P (Str.ofString "_CASE_COST") (.int 1 358) := ⟨by kernel_rfl, by decide⟩
theorem nk_substitutionXcost (P : Params) : NmK P (Str.ofString "_substitution_cost") (.ref 94) := ⟨by kernel_rfl, by decide⟩
theorem nk_levenshteinXdistance (P : Params) : NmK P (Str.ofString "_levenshtein_distance") (.ref 101) := ⟨by kernel_rfl, by decide⟩
theorem nk_nameXdisallowedXre (P : Params) : NmK P (Str.ofString "_name_disallowed_re") (.ref 111) := ⟨by kernel_rfl, by decide⟩
theorem nk_valueXdisallowedXre (P : Params) : NmK P (Str.ofString "_value_disallowed_re") (.ref 116) := ⟨by kernel_rfl, by decide⟩
theorem nk_Headers (P : Params) : NmK P (Str.ofString "Headers") (.ref 245) := ⟨by kernel_rfl, by decide⟩
theorem nk_lawXcells (P : Params) : NmK P (Str.ofString "_law_cells") (.ref 254) := ⟨by kernel_rfl, by decide⟩
theorem nk_lawXsizes (P : Params) : NmK P (Str.ofString "_law_sizes") (.ref 259) := ⟨by kernel_rfl, by decide⟩
theorem nk_lawXwords (P : Params) : NmK P (Str.ofString "_law_words") (.ref 264) := ⟨by kernel_rfl, by decide⟩
theorem nk_lawXdue (P : Params) : NmK P (Str.ofString "_law_due") (.ref 271) := ⟨by kernel_rfl, by decide⟩
theorem nk_lawXtable (P : Params) : NmK P (Str.ofString "_law_table") (.ref 278) := ⟨by kernel_rfl, by decide⟩
theorem nk_lawXorders (P : Params) : NmK P (Str.ofString "_law_orders") (.ref 283) := ⟨by kernel_rfl, by decide⟩
theorem nk_lawXways (P : Params) : NmK P (Str.ofString "_law_ways") (.ref 290) := ⟨by kernel_rfl, by decide⟩
theorem nb_len (P : Params) : NmB P (Str.ofString "len") (.builtin "len") := ⟨by kernel_rfl, by kernel_rfl, by decide, by decide⟩
theorem nb_min (P : Params) : NmB P (Str.ofString "min") (.builtin "min") := ⟨by kernel_rfl, by kernel_rfl, by decide, by decide⟩
theorem nb_max (P : Params) : NmB P (Str.ofString "max") (.builtin "max") := ⟨by kernel_rfl, by kernel_rfl, by decide, by decide⟩
theorem nb_range (P : Params) : NmB P (Str.ofString "range") (.type "range") := ⟨by kernel_rfl, by kernel_rfl, by decide, by decide⟩
theorem nb_list (P : Params) : NmB P (Str.ofString "list") (.type "list") := ⟨by kernel_rfl, by kernel_rfl, by decide, by decide⟩
theorem nb_sum (P : Params) : NmB P (Str.ofString "sum") (.builtin "sum") := ⟨by kernel_rfl, by kernel_rfl, by decide, by decide⟩
theorem nb_int (P : Params) : NmB P (Str.ofString "int") (.type "int") := ⟨by kernel_rfl, by kernel_rfl, by decide, by decide⟩
theorem nb_zip (P : Params) : NmB P (Str.ofString "zip") (.type "zip") := ⟨by kernel_rfl, by kernel_rfl, by decide, by decide⟩
theorem nb_enumerate (P : Params) : NmB P (Str.ofString "enumerate") (.type "enumerate") := ⟨by kernel_rfl, by kernel_rfl, by decide, by decide⟩
theorem nb_type (P : Params) : NmB P (Str.ofString "type") (.type "type") := ⟨by kernel_rfl, by kernel_rfl, by decide, by decide⟩
theorem nb_str (P : Params) : NmB P (Str.ofString "str") (.type "str") := ⟨by kernel_rfl, by kernel_rfl, by decide, by decide⟩
section
local macro_rules | `(tactic| walk_at "m1") => `(tactic| (first | ((fail_if_success (with_reducible refine is_wp ?_)); dsimp only) | (k_unfold; (try dsimp only)) | (k_end; wrow_close) | walk1 | (dsimp only; walk1) | (leave1; walk_say "STEP leave1"; try dsimp only) | fail "no step"))
local macro_rules | `(tactic| walk_at "eval Name") => `(tactic| ((with_reducible show wpAny _ _ (eval (Expr.Name _ _) (envOf _ _ _ _ _)) _ _ _); (with_reducible rename Fr _ _ _ _ => kF9); with_unfolding_all refine' ld kF9 (by rfl) ?_ (by rfl) (by rfl)))
noncomputable def subC (x y : Str) : Int := if (x == y) = true then 0 else if (Txt.lower x == Txt.lower y) = true then 1 else 2
noncomputable def coll (x y : Str) : Int := b2i (decide (y.cps.toList < x.cps.toList)) - b2i (decide (x.cps.toList < y.cps.toList))
section
variable {w : World} {mean : ExcName → Option Value} {mg mb : Str → Option Value} {news : List (Addr × Obj)} {dp un : Nat} {gd : Option (List Code)} {cn : Str} {cs : Scope} {a : Addr} {ccd : Value} {cl : List (Str × Addr)} {outer : List Env} {A₀ : Around} {base h₀ : Heap} {L : Addr} {m : Str → Option Value} {s : Shared} {Q E : Value → Shared → Prop}
theorem sub_call {x y : Str} {tx ty : Tok} (B : Below A₀ base outer h₀) (F : Fr h₀ L s.heap m) (X : (heapK w.params).In h₀) (N : News h₀ L s.heap news) (T : Top viewK (looseW viewK lse) mean mg mb h₀) (hk : cs.kind = .function) (hx : x.length ≤ 3) (hy : y.length ≤ 3)
    (hd1 : dp + 1 < recursionLimit) (hu1 : un + 8 < cLine) (hret : ∀ (t : Tok) (h' : Heap) (tk' : Nat), Fr h₀ L h' m → News h₀ L h' news → Q (.int (subC x y) t) { s with heap := h', toks := tk' }) :
    wpAny (model PySem.Challenge.rw_ti0055_01.row.toRowW.prog w) (ktrTop dp un gd cn cs L a ccd cl outer) (call (.ref 94) [.str x tx, .str y ty]) Q E s := by
  revert X; k_fill; intro X
  refine wpAny_call ?_
  k_dflt cell_enter
  repeat' (walk_at "m1")
  · exact cb_retI hret (by unfold subC; rw [if_pos (by assumption)]) (by assumption) (by assumption)
  · exact cb_retI hret (by unfold subC; rw [if_neg (by rw [‹(x == y) = false›]; exact Bool.false_ne_true), if_pos (by assumption)]) (by assumption) (by assumption)
  · exact cb_retI hret (by unfold subC; rw [if_neg (by rw [‹(x == y) = false›]; exact Bool.false_ne_true), if_neg (by rw [‹(Txt.lower x == Txt.lower y) = false›]; exact Bool.false_ne_true)]) (by assumption) (by assumption)
theorem coll_call {x y : Str} {tx ty : Tok} (B : Below A₀ base outer h₀) (F : Fr h₀ L s.heap m) (X : (heapK w.params).In h₀) (N : News h₀ L s.heap news) (T : Top viewK (looseW viewK lse) mean mg mb h₀) (hk : cs.kind = .function) (hx : x.length ≤ 3) (hy : y.length ≤ 3)
    (hd1 : dp + 1 < recursionLimit) (hu1 : un + 8 < cLine) (hret : ∀ (t : Tok) (h' : Heap) (tk' : Nat), Fr h₀ L h' m → News h₀ L h' news → Q (.int (coll x y) t) { s with heap := h', toks := tk' }) :
    wpAny (model PySem.Challenge.rw_ti0055_01.row.toRowW.prog w) (ktrTop dp un gd cn cs L a ccd cl outer) (call (.ref 45) [.str x tx, .str y ty]) Q E s := by
  revert X; k_fill; intro X
  refine wpAny_call ?_
  k_dflt cell_enter
  repeat' (walk_at "m1")
  exact hret _ _ _ (by assumption) (by assumption)
end
end
section
local macro_rules | `(tactic| walk_at "z") => `(tactic| fail)
local macro_rules | `(tactic| walk_at "z") => `(tactic| fail)
local macro_rules | `(tactic| walk_at "m1") => `(tactic| (first | ((fail_if_success (with_reducible refine is_wp ?_)); first | (with_reducible refine fp_end (by assumption) ?_; try dsimp only) | dsimp only) | (k_unfold; (try dsimp only)) | (k_end; wrow_close) | walk1 | (dsimp only; walk1) | (leave1; walk_say "STEP leave1"; try dsimp only) | fail "no step"))
local macro_rules | `(tactic| walk_at "mcut") => `(tactic| (refine cut_end ?cx (by assumption) (by assumption) ?ck ?cn ?cp; (case ck => kst_all); (case cn => kst_in)))
local macro_rules | `(tactic| walk_at "lim") => `(tactic| first | exact lim (by assumption) (by decide) | omega)
local macro_rules | `(tactic| walk_at "ite") => `(tactic| ((with_reducible show if (_ != (0 : Int)) = true then _ else _); first | (refine m_itePos (by rw [bne_iff_ne]; omega) ?_) | (refine m_iteNeg (by rw [bne_iff_ne]; omega) ?_)))
local macro_rules | `(tactic| walk_at "eval Name") => `(tactic| ((with_reducible show wpAny _ _ (eval (Expr.Name _ _) (envOf _ _ _ _ _)) _ _ _); (with_reducible rename Fr _ _ _ _ => kF9); with_unfolding_all refine' ld kF9 (by rfl) ?_ (by rfl) (by rfl)))
local macro_rules | `(tactic| walk_at "call ref") => `(tactic| ((with_reducible show wpAny _ _ (call (Value.ref 94) _) _ _ _); k_dflt (refine' sub_call (s := ⟨_, _, _, _, _⟩) (by k_asm) (by k_asm) (by k_asm) (by k_asm) (by k_asm) rfl (by omega) (by omega) (by walk_at "lim") (by walk_at "lim") ?_); intro t' h' tk' F' N'))
local macro_rules | `(tactic| walk_at "setItem") => `(tactic| ((with_reducible show wpAny _ _ (setItem (Value.ref _) (Value.int _ _) (Value.int _ _)) _ _ _); k_dflt (refine' ksa_set (s := ⟨_, _, _, _, _⟩) ?F ?N ?U ?hi ?h0 ?h1 ?hf ?_; (case F => k_asm); (case N => k_asm); (case hi => assumption); (case U => exact Upd.tail (Nat.ne_of_gt (by assumption)) (Upd.tail (Nat.ne_of_gt (by assumption)) (Upd.head (by assumption)))); (case h0 => omega); (case h1 => omega); (case hf => omega)); intros))
noncomputable def inStep (bc a : Str) (st : List Int × Int × Int × Int) (i : Nat) : List Int × Int × Int × Int :=
  let ind := (if st.1.getD ((i : Int)).toNat 0 < st.2.2.1 then st.1.getD ((i : Int)).toNat 0 else st.2.2.1) + 2
  let res := if st.2.1 + subC bc (Txt.item a (i : Int)) < ind then st.2.1 + subC bc (Txt.item a (i : Int)) else ind
  (st.1.set ((i : Int)).toNat res, st.1.getD ((i : Int)).toNat 0, res, if res < st.2.2.2 then res else st.2.2.2)
noncomputable def inF (bc a : Str) (st : List Int × Int × Int × Int) : Nat → List Int × Int × Int × Int
  | 0 => st
  | i + 1 => inStep bc a (inF bc a st i) i
noncomputable def outF (a b : Str) (row : List Int) : Nat → List Int × Int
  | 0 => (row, 0)
  | j + 1 => let st := inF (Txt.item b (j : Int)) a ((outF a b row j).1, (j : Int) * 2, (j : Int) * 2, 9223372036854775807) a.length
    (st.1, st.2.2.1)
noncomputable def dpF (a b : Str) : Int := (outF a b (rangeInts 2 2 a.length) b.length).2
theorem inF_len (bc a : Str) (st : List Int × Int × Int × Int) : ∀ i, (inF bc a st i).1.length = st.1.length
  | 0 => rfl
  | i + 1 => by
    show ((inF bc a st i).1.set _ _).length = _
    rw [List.length_set, inF_len bc a st i]
theorem outF_len (a b : Str) (row : List Int) : ∀ j, (outF a b row j).1.length = row.length
  | 0 => rfl
  | j + 1 => by
    show (inF _ a _ a.length).1.length = _
    rw [inF_len]
    exact outF_len a b row j
theorem ite_lo (x m y : Int) (h : x ≤ y) : (if x < m then x else m) ≤ y := by split <;> omega
theorem ite_hi (x m y : Int) (h : m ≤ y) : (if x < m then x else m) ≤ y := by split <;> omega
theorem mn_step (bc a : Str) (st : List Int × Int × Int × Int) (i : Nat) : (inStep bc a st i).2.2.2 ≤ st.2.2.2 := ite_hi _ _ _ (Int.le_refl _)
theorem mn_first (bc a : Str) (row : List Int) (j : Int) (_h2 : j ≤ 3) : (inStep bc a (row, j * 2, j * 2, 9223372036854775807) 0).2.2.2 ≤ j * 2 + 2 :=
  ite_lo _ _ _ (ite_hi _ _ _ (Int.add_le_add_right (ite_hi _ _ _ (Int.le_refl _)) 2))
theorem mn_le (bc a : Str) (row : List Int) (j : Int) (h2 : j ≤ 3) : ∀ i : Nat, 1 ≤ i → (inF bc a (row, j * 2, j * 2, 9223372036854775807) i).2.2.2 ≤ j * 2 + 2
  | 0, h => absurd h (by decide)
  | 1, _ => mn_first bc a row j h2
  | i + 2, _ => Int.le_trans (mn_step bc a _ (i + 1)) (mn_le bc a row j h2 (i + 1) (by omega))
theorem small_len {n : Nat} (h : n ≤ 3) : Builtin.Range.small 0 (n : Int) 1 = true ∧ Builtin.Range.rangeSize 0 (n : Int) 1 = (n : Int) :=
  (by decide : ∀ n : Nat, n ≤ 3 → (Builtin.Range.small 0 (n : Int) 1 = true ∧ Builtin.Range.rangeSize 0 (n : Int) 1 = (n : Int))) n h
theorem lev_s5 {w : World} {mean : ExcName → Option Value} {mg mb : Str → Option Value} {g : Heap} {L : Addr} {u : Str → Option Value} {news : List (Addr × Obj)} {base : Heap} {A₀ : Around} {s : Shared} {Q : Flow → Shared → Prop} {E : Value → Shared → Prop}
    {dp un : Nat} {gd : Option (List Code)} {outer : List Env} {a b : Str} {ta tb tc tr : Tok} {sc : Scope} {sts : List Stmt} {D : Addr} {vs₀ : List Value} {k : Nat} (hsc : sc = fnScope 17) (hsts : sts = (fnBody 17).drop 15)
    (B : Below A₀ base outer g) (X : (heapK w.params).In g) (T : Top viewK (looseW viewK lse) mean mg mb g)
    (F : Fr g L s.heap (kstB u [(Str.ofString "a", Value.str a ta), (Str.ofString "b", Value.str b tb), (Str.ofString "max_cost", Value.int 6 tc), (Str.ofString "row", Value.ref D), (Str.ofString "result", Value.int 0 tr)]))
    (N : News g L s.heap ((D, listOf vs₀.toArray k) :: news)) (hi₀ : IntsAre vs₀ (rangeInts 2 2 a.length)) (lD : ∀ p ∈ news, p.1 ≠ D) (hd1 : dp + 2 < recursionLimit) (hu1 : un + 16 < cLine)
    (ha : 1 ≤ a.length) (hab : a.length ≤ b.length) (hb : b.length ≤ 3)
    (hE : PassesOwn (model PySem.Challenge.rw_ti0055_01.row.toRowW.prog w) (ktrTop dp un gd (Str.ofString "_levenshtein_distance") sc L 101 (.ref 100) [] outer) (envOf (Str.ofString "_levenshtein_distance") sc L 101 (.ref 100)) E)
    (hret : ∀ t h' tk' m', Fr g L h' m' → News g L h' news → Q (.ret (.int (dpF a b) t)) { s with heap := h', toks := tk' }) :
    wpAny (model PySem.Challenge.rw_ti0055_01.row.toRowW.prog w) (ktrTop dp un gd (Str.ofString "_levenshtein_distance") sc L 101 (.ref 100) [] outer) (execs sts (envOf (Str.ofString "_levenshtein_distance") sc L 101 (.ref 100))) Q E s := by
  revert X; k_fill; intro X
  dsimp only [kstB] at F
  (conv at hsc => rhs; whnf); subst hsc
  (conv at hsts => rhs; whnf); subst hsts
  have hsl := Hd.mk (small_len (n := b.length) hb)
  have hsa := Hd.mk (small_len (n := a.length) (Nat.le_trans hab hb))
  refine cutN (σ := Tok × List Value) 1 F (fun x => [(Str.ofString "result", Value.int (dpF a b) x.1)]) (fun x => (D, listOf x.2.toArray k) :: news) (fun _ => True) ?_ ?_
  · dsimp only [List.take]
    refine absQ ?_; intro R9 hR9
    refine wpAny_execs_cons ?_
    refine for_start ?_ ?hs9; case hs9 => (intro _; rfl)
    repeat' (walk_at "m1")
    (rename IsRange _ _ _ _ _ _ _ _ => R9)
    (rename Fr _ _ _ _ => F9)
    (rename News _ _ _ _ => N9)
    with_unfolding_all refine' range_cut (s := ⟨_, _, _, _, _⟩) (σ := List Value × Nat × Tok) (n := b.length) ?hh R9 hsl.out.1 hsl.out.2 (fun x => [(Str.ofString "a", Value.str a ta), (Str.ofString "b", Value.str b tb), (Str.ofString "max_cost", Value.int 6 tc), (Str.ofString "row", Value.ref D), (Str.ofString "result", Value.int (outF a b (rangeInts 2 2 a.length) x.2.1).2 x.2.2)]) (fun x => (D, listOf x.1.toArray k) :: news) (fun i x => x.2.1 = i ∧ IntsAre x.1 (outF a b (rangeInts 2 2 a.length) i).1) (vs₀, 0, tr) F9 N9 ?hk ?hn ?hj ?hadr ?turn ?done ?ht ?hE
    case hh => rfl
    case hk => kst_all
    case hn => exact fun p hp => hp
    case hj => exact ⟨rfl, hi₀⟩
    case hadr => exact fun _ _ _ => rfl
    case ht => intro _ _; rfl
    case hE => exact hE
    case done =>
      rintro ⟨vs, j, t⟩ u8 h8 tk8 ⟨ej, hJ⟩ F8 N8
      dsimp only at ej hJ; subst ej
      refine wpAny_execs_nil ?_
      refine fp_end (by assumption) ?_
      dsimp only
      refine' cut_end (t, vs) F8 N8 ?ck ?cn ?cp
      case ck => kst_all
      case cn => kst_in
      case cp => trivial
    case turn =>
      rintro i ⟨vs, j, t⟩ u8 h8 tk8 I oI t8 hlt ⟨ej, hJ⟩ lI F8 N8
      dsimp only at ej hJ; subst ej
      dsimp only [kstB] at F8
      refine absT ?_; intro R8 hR8
      clear F9 N9 R9
      rw [show (0 : Int) + (j : Int) = (j : Int) from Int.zero_add _]
      repeat' ((fail_if_success (refine at_line 69 ?_ rfl)); walk_at "m1")
      dsimp only
      have lID : D < I := lI (D, _) (.head _)
      (rename Fr _ _ _ _ => F)
      refine cutN (σ := List Value × Tok × Tok) 1 F (fun x => [(Str.ofString "a", Value.str a ta), (Str.ofString "b", Value.str b tb), (Str.ofString "max_cost", Value.int 6 tc), (Str.ofString "row", Value.ref D), (Str.ofString "result", Value.int (inF (Txt.item b (j : Int)) a ((outF a b (rangeInts 2 2 a.length) j).1, (j : Int) * 2, (j : Int) * 2, 9223372036854775807) a.length).2.2.1 x.2.1), (Str.ofString "minimum", Value.int (inF (Txt.item b (j : Int)) a ((outF a b (rangeInts 2 2 a.length) j).1, (j : Int) * 2, (j : Int) * 2, 9223372036854775807) a.length).2.2.2 x.2.2)]) (fun x => (I, oI) :: (D, listOf x.1.toArray k) :: news) (fun x => IntsAre x.1 (inF (Txt.item b (j : Int)) a ((outF a b (rangeInts 2 2 a.length) j).1, (j : Int) * 2, (j : Int) * 2, 9223372036854775807) a.length).1) ?_ ?_
      · dsimp only [List.take]
        refine absQ ?_; intro R9 hR9
        refine wpAny_execs_cons ?_
        refine for_start ?_ ?hs9; case hs9 => (intro _; rfl)
        repeat' (walk_at "m1")
        (rename IsRange _ _ _ _ _ _ _ _ => R9)
        (rename Fr _ _ _ _ => F9)
        (rename News _ _ _ _ => N9)
        with_unfolding_all refine' range_cut (s := ⟨_, _, _, _, _⟩) (σ := (List Value × List Int) × (Int × Int × Int) × Tok × Tok × Tok × Tok) (n := a.length) ?hh R9 hsa.out.1 hsa.out.2 (fun x => [(Str.ofString "a", Value.str a ta), (Str.ofString "b", Value.str b tb), (Str.ofString "max_cost", Value.int 6 tc), (Str.ofString "row", Value.ref D), (Str.ofString "bchar", Value.str (Txt.item b (j : Int)) x.2.2.1), (Str.ofString "distance", Value.int x.2.1.1 x.2.2.2.1), (Str.ofString "result", Value.int x.2.1.2.1 x.2.2.2.2.1), (Str.ofString "minimum", Value.int x.2.1.2.2 x.2.2.2.2.2)]) (fun x => (I, oI) :: (D, listOf x.1.1.toArray k) :: news) (fun i x => IntsAre x.1.1 x.1.2 ∧ x.1.2.length = a.length ∧ Hd (inF (Txt.item b (j : Int)) a ((outF a b (rangeInts 2 2 a.length) j).1, (j : Int) * 2, (j : Int) * 2, 9223372036854775807) i = (x.1.2, x.2.1))) ((vs, (outF a b (rangeInts 2 2 a.length) j).1), (_, _, _), _, _, _, _) F9 N9 ?hk ?hn ?hj ?hadr ?turn ?done ?ht ?hE
        case hh => rfl
        case hk => kst_all
        case hn => exact fun p hp => hp
        case hj => exact ⟨hJ, by rw [outF_len, rangeInts_length], Hd.mk rfl⟩
        case hadr => exact fun _ _ _ => rfl
        case ht => intro _ _; rfl
        case hE => exact hE
        case done =>
          rintro ⟨⟨ws, ns⟩, ⟨d, r, mn⟩, t2, t3, t4, t5⟩ u7 h7 tk7 ⟨hJ2, hl2, hS⟩ F7 N7
          dsimp only at hJ2 hl2 hS N7
          refine wpAny_execs_nil ?_
          refine fp_end (by assumption) ?_
          dsimp only
          have e := hS.out
          rw [e]
          refine' cut_end (ws, _, _) F7 N7 ?ck ?cn ?cp
          case ck => kst_all
          case cn => kst_in
          case cp => exact hJ2
        case turn =>
          rintro i ⟨⟨ws, ns⟩, ⟨d, r, mn⟩, t2, t3, t4, t5⟩ u7 h7 tk7 I2 oI2 t7 hlt2 ⟨hJ2, hl2, hS⟩ lI2 F7 N7
          dsimp only at hJ2 hl2 hS
          dsimp only [kstB] at F7
          dsimp only at N7
          refine absT ?_; intro R8 hR8
          have l2 : I < I2 := lI2 (I, _) (.head _)
          have l3 : D < I2 := lI2 (D, _) (.tail _ (.head _))
          rw [show (0 : Int) + (i : Int) = (i : Int) from Int.zero_add _]
          repeat' (walk_at "m1")
          all_goals dsimp only [ForPost]
          · refine' cut_end ((_, ns.set (i : Int).toNat _), (_, _, _), _, _, _, _) (by assumption) (by assumption) ?ck ?cn ?cp
            case ck => kst_all
            case cn => kst_in
            case cp => exact ⟨by assumption, by dsimp only; rw [List.length_set]; exact hl2, Hd.mk (by dsimp only; show inStep _ _ _ i = _; rw [hS.out]; exact Prod.ext rfl (Prod.ext rfl (Prod.ext rfl (if_pos (by assumption)))))⟩
          · refine' cut_end ((_, ns.set (i : Int).toNat _), (_, _, _), _, _, _, _) (by assumption) (by assumption) ?ck2 ?cn2 ?cp2
            case ck2 => kst_all
            case cn2 => kst_in
            case cp2 => exact ⟨by assumption, by dsimp only; rw [List.length_set]; exact hl2, Hd.mk (by dsimp only; show inStep _ _ _ i = _; rw [hS.out]; exact Prod.ext rfl (Prod.ext rfl (Prod.ext rfl (if_neg (by first | assumption | exact Int.not_lt.mpr (by assumption))))))⟩
      · intro x u6 h6 tk6 F6 N6 hJ6
        dsimp only [kstB] at F6
        try dsimp only at N6 hJ6
        dsimp only [List.drop]
        repeat' (walk_at "m1")
        · have hm := mn_le (Txt.item b (j : Int)) a (outF a b (rangeInts 2 2 a.length) j).1 (j : Int) (by omega) a.length ha
          exact absurd (by assumption : (6 : Int) < _) (by omega)
        · dsimp only [ForPost]
          refine' cut_end (_, j + 1, _) (by assumption) (by assumption) ?ck ?cn ?cp
          case ck => kst_all
          case cn => kst_in
          case cp => exact ⟨rfl, hJ6⟩
  intro x u5 h5 tk5 F5 N5 _
  dsimp only [kstB] at F5
  dsimp only [List.drop]
  repeat' (walk_at "m1")
  exact hret _ _ _ _ (by assumption) (cb_drop (by assumption) fun p hp => .tail _ hp)
end
section
local macro_rules | `(tactic| walk_at "z") => `(tactic| fail)
local macro_rules | `(tactic| walk_at "z") => `(tactic| fail)
local macro_rules | `(tactic| walk_at "z") => `(tactic| fail)
local macro_rules | `(tactic| walk_at "z") => `(tactic| fail)
local macro_rules | `(tactic| walk_at "z") => `(tactic| fail)
local macro_rules | `(tactic| walk_at "z") => `(tactic| fail)
local macro_rules | `(tactic| walk_at "z") => `(tactic| fail)
local macro_rules | `(tactic| walk_at "z") => `(tactic| fail)
local macro_rules | `(tactic| walk_at "z") => `(tactic| fail)
local macro_rules | `(tactic| walk_at "m1") => `(tactic| (first | ((fail_if_success (with_reducible refine is_wp ?_)); first | (with_reducible refine fp_end (by assumption) ?_; try dsimp only) | dsimp only) | (k_unfold; (try dsimp only)) | (k_end; wrow_close) | walk1 | (dsimp only; walk1) | (leave1; walk_say "STEP leave1"; try dsimp only) | fail "no step"))
local macro_rules | `(tactic| walk_at "eval Name") => `(tactic| ((with_reducible show wpAny _ _ (eval (Expr.Name _ _) (envOf _ _ _ _ _)) _ _ _); (with_reducible rename Fr _ _ _ _ => kF9); with_unfolding_all refine' ld kF9 (by rfl) ?_ (by rfl) (by rfl)))
local macro_rules | `(tactic| walk_at "call type:list") => `(tactic| fail "own")
theorem fr_kst {g h : Heap} {L : Addr} {m : Str → Option Value} (ps : List (Str × Value)) (F : Fr g L h m) (hk : ∀ p ∈ ps, m p.1 = some p.2) : Fr g L h (kstB m ps) := by rw [kstB_self hk]; exact F
theorem lev_s4 {w : World} {mean : ExcName → Option Value} {mg mb : Str → Option Value} {g : Heap} {L : Addr} {u : Str → Option Value} {news : List (Addr × Obj)} {base : Heap} {A₀ : Around} {s : Shared} {Q : Flow → Shared → Prop} {E : Value → Shared → Prop}
    {dp un : Nat} {gd : Option (List Code)} {outer : List Env} {a b : Str} {ta tb tc : Tok} {sc : Scope} {sts : List Stmt} (hsc : sc = fnScope 17) (hsts : sts = (fnBody 17).drop 13)
    (B : Below A₀ base outer g) (X : (heapK w.params).In g) (T : Top viewK (looseW viewK lse) mean mg mb g)
    (F : Fr g L s.heap (kstB u [(Str.ofString "a", Value.str a ta), (Str.ofString "b", Value.str b tb), (Str.ofString "max_cost", Value.int 6 tc)]))
    (N : News g L s.heap news) (hd1 : dp + 2 < recursionLimit) (hu1 : un + 16 < cLine)
    (ha : 1 ≤ a.length) (hab : a.length ≤ b.length) (hb : b.length ≤ 3)
    (hE : PassesOwn (model PySem.Challenge.rw_ti0055_01.row.toRowW.prog w) (ktrTop dp un gd (Str.ofString "_levenshtein_distance") sc L 101 (.ref 100) [] outer) (envOf (Str.ofString "_levenshtein_distance") sc L 101 (.ref 100)) E)
    (hret : ∀ t h' tk' m', Fr g L h' m' → News g L h' news → Q (.ret (.int (dpF a b) t)) { s with heap := h', toks := tk' }) :
    wpAny (model PySem.Challenge.rw_ti0055_01.row.toRowW.prog w) (ktrTop dp un gd (Str.ofString "_levenshtein_distance") sc L 101 (.ref 100) [] outer) (execs sts (envOf (Str.ofString "_levenshtein_distance") sc L 101 (.ref 100))) Q E s := by
  have hE' := hE
  have hsc' := hsc
  revert X; k_fill; intro X
  dsimp only [kstB] at F
  (conv at hsc => rhs; whnf); subst hsc
  (conv at hsts => rhs; whnf); subst hsts
  have hsm := small_row (n := a.length) ha (by omega)
  repeat' (walk_at "m1")
  (rename IsRange _ _ _ _ _ _ _ _ => R9)
  (rename Fr _ _ _ _ => F9)
  (rename News _ _ _ _ => N9)
  with_unfolding_all refine' list_range_made (n := a.length) rfl F9 N9 R9 hsm.1 hsm.2 (by omega) ?_
  intro h8 tk8 vs k D F8 N8 hi lD
  repeat' ((fail_if_success (refine at_line 65 ?_ rfl)); walk_at "m1")
  dsimp only
  (rename Fr _ _ _ _ => F5)
  (rename News _ _ _ _ => N5)
  refine' lev_s5 (s := ⟨_, _, _, _, _⟩) rfl rfl B X T (fr_kst [(Str.ofString "a", Value.str a ta), (Str.ofString "b", Value.str b tb), (Str.ofString "max_cost", Value.int 6 tc), (Str.ofString "row", Value.ref D), (Str.ofString "result", Value.int 0 _)] F5 ?ck) N5 hi (fun p hp => Nat.ne_of_lt (lD p hp)) hd1 hu1 ha hab hb hE' ?_
  case ck => kst_all
  · intro t h' tk' m' F' N'
    exact hret t h' tk' m' F' N'
end
local macro_rules | `(tactic| walk_at "m1") => `(tactic| (first | ((fail_if_success (with_reducible refine is_wp ?_)); first | (with_reducible refine fp_end (by assumption) ?_; try dsimp only) | (with_reducible refine fp_end1 (by assumption) ?_; try dsimp only) | dsimp only) | (k_unfold; (try dsimp only)) | (k_end; wrow_close) | walk1 | (dsimp only; walk1) | (leave1; walk_say "STEP leave1"; try dsimp only) | fail "no step"))
local macro_rules | `(tactic| walk_at "m names") => `(tactic| ((with_reducible show wpAny _ _ (eval (Expr.Name _ _) _) _ _ _); first
  | (refine' name_Kx ?e ?F ?X ?T ?k ?x ?_; (case e => with_reducible first | exact nk_strcoll _ | exact nk_groupingXintervals _ | exact nk_CHARXMAX _ | exact nk_and _ | exact nk_mod _ | exact nk_or _ | exact nk_rshift _ | exact nk_sub _ | exact nk_MAXXSTRINGXSIZE _ | exact nk_MOVEXCOST _ | exact nk_CASEXCOST _ | exact nk_substitutionXcost _ | exact nk_levenshteinXdistance _ | exact nk_nameXdisallowedXre _ | exact nk_valueXdisallowedXre _ | exact nk_Headers _ | exact nk_lawXcells _ | exact nk_lawXsizes _ | exact nk_lawXwords _ | exact nk_lawXdue _ | exact nk_lawXtable _ | exact nk_lawXorders _ | exact nk_lawXways _); (case F => assumption); (case X => assumption); (case T => assumption); (case k => with_unfolding_all rfl); (case x => with_unfolding_all rfl))
  | (refine' name_Bx ?e ?F ?X ?T ?k ?x ?_; (case e => with_reducible first | exact nb_len _ | exact nb_min _ | exact nb_max _ | exact nb_range _ | exact nb_list _ | exact nb_sum _ | exact nb_int _ | exact nb_zip _ | exact nb_enumerate _ | exact nb_type _ | exact nb_str _); (case F => assumption); (case X => assumption); (case T => assumption); (case k => with_unfolding_all rfl); (case x => with_unfolding_all rfl))))
local macro_rules | `(tactic| walk_at "eval Name") => `(tactic| ((with_reducible show wpAny _ _ (eval (Expr.Name _ _) (envOf _ _ _ _ _)) _ _ _); first | walk_at "m names" | (with_unfolding_all refine' ld (by assumption) (by rfl) ?_ (by rfl) (by rfl))))
local macro_rules | `(tactic| walk_at "lim") => `(tactic| first | exact lim (by assumption) (by decide) | omega)
local macro_rules | `(tactic| walk_at "ite") => `(tactic| ((with_reducible show if (_ != (0 : Int)) = true then _ else _); first | (refine m_itePos (by rw [bne_iff_ne]; omega) ?_) | (refine m_iteNeg (by rw [bne_iff_ne]; omega) ?_)))
local macro_rules | `(tactic| walk_at "enterC") => `(tactic| (refine' code_defC ?k1 ?k2 ?k3 ?k4 ?k5 ?kA ?kF ?kK ?k6 ?k7 ?k8 ?k9 ?kB ?kD ?_ ?c2 ?c3 ?c4; (case kA => exact rfl); (case kF => exact rfl); (case kK => assumption); (case k1 => k_asm); (case k2 => k_asm); (case k3 => k_asm); (case k4 => k_asm); (case k5 => k_asm); (case k6 => k_is); (case k7 => k_is); (case k8 => ktr_room); (case k9 => exact BindsTo.of_eq rfl); (case kB => exact rfl); (case kD => decide +kernel); (case c2 => exact rfl); (case c3 => exact rfl); (case c4 => exact rfl); k_whole; intro g' L' h' tk' cells' FG' F' N' Y' B' X' T' l1; (try k_lt l1); k_cells Y'; (try simp only [List.cons_append, List.nil_append] at N'); (try dsimp only); (try k_lift B'); (try k_fold)))
local macro_rules | `(tactic| walk_at "CompRest") => `(tactic| (with_unfolding_all first
  | (refine LCg.CompRest.succ ?_; intro v' I' oI' C' oC' D' m' h' tk' E' hv' hC' hx' F' N' off' ne'; (first | lcg_open hv' | (obtain ⟨t9', hv9'⟩ := hv'; subst hv9')))
  | refine LCg.CompRest.zero ?_))
local macro_rules | `(tactic| walk_at "CompEnd") => `(tactic| (with_unfolding_all ((rename LCg.Off3 _ _ _ _ => off9'); refine' LCg.CompEnd.intro (by assumption) (by assumption) _ ?sub off9' ?src ?_; (case sub => kst_in); (case src => first | exact True.intro | exact Or.inr ⟨_, by k_mem, rfl, _, rfl⟩))))
local macro_rules | `(tactic| walk_at "compareOp Eq ref ref") => `(tactic| (k_here; (with_reducible show wpAny _ _ (compareOp CmpOp.Eq (Value.ref _) (Value.ref _)) _ _ _); (with_unfolding_all refine' eq_intsK ?k1 ?k2 ?k3 ?k4 ?k5 ?_; (case k1 => is_list); (case k2 => l_intsC); (case k3 => is_list); (case k4 => l_intsC); (case k5 => with_unfolding_all assumption))))
local macro_rules | `(tactic| walk_at "compareOp NotEq ref ref") => `(tactic| (k_here; (with_reducible show wpAny _ _ (compareOp CmpOp.NotEq (Value.ref _) (Value.ref _)) _ _ _); (with_unfolding_all refine' ne_intsK ?k1 ?k2 ?k3 ?k4 ?k5 ?_; (case k1 => is_list); (case k2 => l_intsC); (case k3 => is_list); (case k4 => l_intsC); (case k5 => with_unfolding_all assumption))))
section
variable {M : Model} {A : Around} {env : Env} {st : Stmt} {rest : List Stmt} {Q : Flow → Shared → Prop} {E : Value → Shared → Prop} {s : Shared}
theorem is_enum {x : Value} {R : Value → Shared → Prop} (h : wpAny M A (call (.type "enumerate") [x]) R E s) : wpAny M A (call (.type "enumerate") [x]) R E s := h
theorem is_tail {v sl : Expr} {x y : Value} {R : Value → Shared → Prop} (h : wpAny M A (subscriptTail v sl x y) R E s) : wpAny M A (subscriptTail v sl x y) R E s := h
theorem is_for {t i : Expr} {b o : List Stmt} {p : Pos} (h : wpAny M A (exec (.For t i b o p) env) Q E s) : wpAny M A (exec (.For t i b o p) env) Q E s := h
theorem is_fors {t i : Expr} {b o : List Stmt} {p : Pos} (h : wpAny M A (execs (.For t i b o p :: rest) env) Q E s) : wpAny M A (execs (.For t i b o p :: rest) env) Q E s := h
end
section
variable {prog : Program} {w : World} {A : Around} {E : Value → Shared → Prop} {Q : Flow → Shared → Prop} {s : Shared} {env : Env} {g : Heap} {L : Addr}
set_option maxHeartbeats 400000 in
theorem turns_cut {σ : Type} {target : Expr} {body : List Stmt} {m : Str → Option Value} {newsNow keep : List (Addr × Obj)} {I : Addr} {fp wr : List Addr} {n : Nat} {P Md : Nat → Value → Heap → Prop} {St : Nat → Heap → Prop}
    (W : KTurns prog w A target I fp wr n P Md St) (ws : List Addr)
    (hob : ∀ i h, St i h → ∃ its : List (Addr × Obj), its.map (·.1) = ws ∧ ∀ p ∈ its, h.get? p.1 = some p.2)
    (hws : ∀ b ∈ ws, b ≠ L ∧ g.get? b = none) (hwr : ∀ b ∈ wr, b ∈ ws) (hfp : ∀ b ∈ fp, b ∈ ws ∨ ∃ o, (b, o) ∈ keep)
    (ps : σ → List (Str × Value)) (news : σ → List (Addr × Obj)) (J : Nat → σ → Prop) (x₀ : σ)
    {hp : Heap} {tk0 : Nat} (F : Fr g L hp m) (N : News g L hp newsNow) (hst : St 0 hp)
    (hk : ∀ p ∈ ps x₀, m p.1 = some p.2) (hn : ∀ p ∈ news x₀, p ∈ newsNow) (hj : J 0 x₀)
    (hoff : ∀ i x, J i x → ∀ p ∈ news x, p.1 ∉ ws) (hkeep : ∀ i x, J i x → ∀ p ∈ keep, p ∈ news x)
    (turn : ∀ i x u h tk its v, i < n → P i v h → J i x → its.map (·.1) = ws → Fr g L h (kstB u (ps x)) → News g L h (its ++ news x) →
      wpAny (model prog w) A (assign target env v) (fun _ s₂ => wpAny (model prog w) A (execs body env) (ForPost g L s ps (fun x => its ++ news x) (J (i + 1)) Q) E s₂) E { s with heap := h, toks := tk })
    (done : ∀ x u h tk, J n x → Fr g L h (kstB u (ps x)) → News g L h (news x) → Q .next { s with heap := h, toks := tk })
    (hE : PassesOwn (model prog w) A env E) :
    codeAny (model prog w) A (.forLoop target (.ref I) body [] env) (fun r s' => match r with | .ok f => Q f s' | .error e => cameBackBy (model prog w) A env E e s') { s with heap := hp, toks := tk0 } := by
  have hLw : L ∉ wr := fun h => (hws _ (hwr _ h)).1 rfl
  have old : ∀ b o, g.get? b = some o → b ∉ wr := fun b o e hb => by rw [(hws b (hwr b hb)).2] at e; cases e
  refine codeAny_forLoop_any (fun k s' => ∃ i x u h tk, k = n + 1 - i ∧ i ≤ n ∧ s' = { s with heap := h, toks := tk } ∧ J i x ∧ Fr g L h (kstB u (ps x)) ∧ News g L h (news x) ∧ St i h) ?_ (n + 1)
    ⟨0, x₀, m, hp, tk0, rfl, Nat.zero_le _, rfl, hj, by rw [kstB_self hk]; exact F, fun p hp => N p (hn p hp), hst⟩
  rintro k s' ⟨i, x, u, h, tk, rfl, hi, rfl, hJ, F', N', hst'⟩
  have off := hoff i x hJ
  have next : ∀ h₁ : Heap, (∀ b o, b ∉ wr → h.get? b = some o → h₁.get? b = some o) → Fr g L h₁ (kstB u (ps x)) ∧ News g L h₁ (news x) := fun h₁ hk₁ =>
    ⟨⟨F'.ns.at' fun o e => hk₁ _ o hLw e, fun b o e => hk₁ b o (old b o e) (F'.keep b o e), F'.above⟩, fun p hp => ⟨hk₁ _ _ (fun q => off p hp (hwr _ q)) (N' p hp).1, (N' p hp).2⟩⟩
  by_cases hlt : i < n
  · refine W.item i _ _ _ hlt hst' fun v h₁ tk₁ hMd hk₁ => ?_
    refine W.go i v _ _ _ hMd fun h₂ hP hst₂ hk₂ => ?_
    obtain ⟨F₂, N₂⟩ := next h₂ fun b o hb x => hk₂ b o hb (hk₁ b o hb x)
    obtain ⟨its, hits, hget⟩ := hob _ _ hst₂
    have Nown : News g L h₂ (its ++ news x) := by
      intro p hp
      rcases List.mem_append.mp hp with hp | hp
      · exact ⟨hget p hp, hws p.1 (by rw [← hits]; exact List.mem_map_of_mem hp)⟩
      · exact N₂ p hp
    refine wpAny_mono (turn i x u h₂ tk₁ its v hlt hP hJ hits F₂ Nown) (fun _ s₂ h₂' => ?_) hE
    refine wpAny_mono h₂' (fun f s₃ h₃ => ?_) hE
    have fin : CutR g L s ps (fun x => its ++ news x) (J (i + 1)) s₃ → ∃ m, m < n + 1 - i ∧ ∃ i x u h tk, m = n + 1 - i ∧ i ≤ n ∧ s₃ = { s with heap := h, toks := tk } ∧ J i x ∧ Fr g L h (kstB u (ps x)) ∧ News g L h (news x) ∧ St i h := by
      rintro ⟨x', u', h₅, tk₅, e₅, F₅, N₅, hJ₅⟩
      refine ⟨n + 1 - (i + 1), by omega, i + 1, x', u', h₅, tk₅, rfl, hlt, e₅, hJ₅, F₅, fun p hp => N₅ p (List.mem_append_right _ hp), ?_⟩
      refine W.frame _ _ _ hst₂ fun b hb o e => ?_
      rcases hfp b hb with hb' | ⟨o', ho'⟩
      · rw [← hits] at hb'
        obtain ⟨p, hp, rfl⟩ := List.mem_map.mp hb'
        have e2 := hget p hp
        have : o = p.2 := by rw [e2] at e; exact (Option.some.inj e).symm
        rw [this]
        exact (N₅ p (List.mem_append_left _ hp)).1
      · have e1 := (N₂ _ (hkeep i x hJ _ ho')).1
        have : o = o' := by rw [e1] at e; exact (Option.some.inj e).symm
        rw [this]
        exact (N₅ _ (List.mem_append_right _ (hkeep _ _ hJ₅ _ ho'))).1
    cases f with
    | next => exact fin h₃
    | cont => exact fin h₃
    | brk => exact h₃
    | ret v => exact h₃
  · have hin : i = n := by omega
    subst hin
    refine W.done _ _ _ hst' fun h₁ tk₁ hk₁ => wpAny_execs_nil ?_
    obtain ⟨F₁, N₁⟩ := next h₁ hk₁
    exact done x u h₁ tk₁ hJ F₁ N₁
noncomputable def sign (x : Str) (i : Nat) : Str := ⟨#[x.cps.toList.getD i 0]⟩
theorem sign_of {x : Str} {i c : Nat} (h : x.cps[i]? = some c) : (⟨#[c]⟩ : Str) = sign x i := by
  unfold sign
  rw [List.getD_eq_getElem?_getD, Array.getElem?_toList, h]
  rfl
theorem sign_len (x : Str) (i : Nat) : (sign x i).length = 1 := rfl
theorem map_one_eq {its : List (Addr × Obj)} {a : Addr} (h : its.map (·.1) = [a]) : ∃ o, its = [(a, o)] := by
  cases its with
  | nil => cases h
  | cons p r =>
    cases r with
    | nil =>
      have e : p.1 = a := (List.cons.inj h).1
      exact ⟨p.2, congrArg (· :: []) (Prod.ext e rfl)⟩
    | cons q r => exact absurd (List.cons.inj h).2 (by simp)
theorem map_two_eq {its : List (Addr × Obj)} {a c : Addr} (h : its.map (·.1) = [a, c]) : ∃ o q, its = [(a, o), (c, q)] := by
  cases its with
  | nil => cases h
  | cons p r =>
    have e : p.1 = a := (List.cons.inj h).1
    obtain ⟨q, rfl⟩ := map_one_eq (List.cons.inj h).2
    exact ⟨p.2, q, congrArg (· :: [(c, q)]) (Prod.ext e rfl)⟩
theorem lt_new {h : Heap} {m : Str → Option Value} {news : List (Addr × Obj)} (_F : Fr g L h m) (N : News g L h news) : ∀ p ∈ news, p.1 < h.objs.size := fun p hp => Heap.lt_size (N p hp).1
set_option maxHeartbeats 400000 in
theorem str_cut {σ : Type} {y : Str} {py : Pos} {body : List Stmt} {m : Str → Option Value} {newsNow : List (Addr × Obj)} {x : Str} {t : Tok} (hh : A.handled = none)
    (ps : σ → List (Str × Value)) (news : σ → List (Addr × Obj)) (J : Addr → Nat → σ → Prop) (x₀ : σ)
    (F : Fr g L s.heap m) (N : News g L s.heap newsNow) (hk : ∀ p ∈ ps x₀, m p.1 = some p.2) (hn : ∀ p ∈ news x₀, p ∈ newsNow)
    (hj : ∀ I, (∀ p ∈ newsNow, p.1 < I) → J I 0 x₀) (hoff : ∀ I i x, J I i x → ∀ p ∈ news x, p.1 ≠ I)
    (turn : ∀ i z u h tk I oI t, i < x.length → J I i z → Fr g L h (kstB u (ps z)) → News g L h ((I, oI) :: news z) →
      wpAny (model prog w) A (assign (.Name y py) env (.str (sign x i) t)) (fun _ s₂ => wpAny (model prog w) A (execs body env) (ForPost g L s ps (fun x => (I, oI) :: news x) (J I (i + 1)) Q) E s₂) E { s with heap := h, toks := tk })
    (done : ∀ I z u h tk, J I x.length z → Fr g L h (kstB u (ps z)) → News g L h (news z) → Q .next { s with heap := h, toks := tk })
    (hE : PassesOwn (model prog w) A env E) :
    wpAny (model prog w) A (pyIter (.str x t)) (ForK prog w A (.Name y py) body env Q E) E s := by
  have hLs : L < s.heap.objs.size := F.ns.lt
  have lt := lt_new F N
  refine wpAny_pyIter_strU ?_
  have key : ∀ (St : Nat → Heap → Prop), Walks prog w A s.heap.objs.size [s.heap.objs.size] [s.heap.objs.size] x.cps.size (SignAt x) St → (∀ i h, St i h → ∃ o, h.get? s.heap.objs.size = some o) → St 0 (s.heap.push { cls := .type (strIterType x), data := .fields #[.str x t, .int 0 0] }) →
      ForK prog w A (.Name y py) body env Q E (.ref s.heap.objs.size) { s with heap := s.heap.push { cls := .type (strIterType x), data := .fields #[.str x t, .int 0 0] } } := by
    intro St W' hlive hst
    have W := KTurns.ofWalks (target := .Name y py) W' (fun i v s Q E _ h => by show wpAny _ _ (pure ()) _ _ _; exact wpAny_pure h)
    unfold ForK
    refine turns_cut (s := s) (tk0 := s.toks) (σ := σ) (keep := []) W [s.heap.objs.size] ?_ ?_ (fun b hb => hb) (fun b hb => .inl hb) ps news (J s.heap.objs.size) x₀ (F.push _) (fun p hp => ⟨Heap.get?_push_of_some _ (N p hp).1, (N p hp).2⟩) hst hk hn (hj _ lt) ?_ (fun _ _ _ p hp => nomatch hp) ?_ ?_ hE
    · intro i h st
      obtain ⟨o, ho⟩ := hlive i h st
      exact ⟨[(_, o)], rfl, fun p hp => by rw [List.mem_singleton.mp hp]; exact ho⟩
    · intro b hb
      rw [List.mem_singleton.mp hb]
      exact ⟨fun q => Nat.lt_irrefl _ (q ▸ hLs), next_is_new F⟩
    · exact fun i z hz p hp hm => hoff _ i z hz p hp (List.mem_singleton.mp hm)
    · rintro i z u h tk its v hi ⟨c, u', hc, rfl⟩ hJ hits F' N'
      obtain ⟨oI, rfl⟩ := map_one_eq hits
      rw [sign_of hc]
      exact turn i z u h tk _ oI u' hi hJ F' N'
    · exact fun z u h tk hJ F' N' => done _ z u h tk hJ F' N'
  cases ha : x.cps.all (· < 128)
  · exact key _ (Walks.strWide hh _ x t) (fun _ _ st => let ⟨o, ho, _⟩ := st; ⟨o, ho⟩) ⟨_, Heap.get?_push_size _ rfl, by simp [strIterType, ha], rfl⟩
  · exact key _ (Walks.strAscii hh _ x t) (fun _ _ st => let ⟨o, ho, _⟩ := st; ⟨o, ho⟩) ⟨_, Heap.get?_push_size _ rfl, by simp [strIterType, ha], rfl⟩
set_option maxHeartbeats 400000 in
theorem enum_cut {σ : Type} {elts : List Expr} {kt : Nat} {py : Pos} {body : List Stmt} {m : Str → Option Value} {newsNow : List (Addr × Obj)} {x : Str} {t : Tok} (hh : A.handled = none)
    (ps : σ → List (Str × Value)) (news : σ → List (Addr × Obj)) (J : Nat → σ → Prop) (x₀ : σ)
    (F : Fr g L s.heap m) (N : News g L s.heap newsNow) (hk : ∀ p ∈ ps x₀, m p.1 = some p.2) (hn : ∀ p ∈ news x₀, p ∈ newsNow)
    (hj : J 0 x₀) (hadr : ∀ i x, J i x → (news x).map (·.1) = (news x₀).map (·.1))
    (turn : ∀ i z u h tk I oI oE t t' T, i < x.length → J i z → (∀ p ∈ news x₀, p.1 < I) → Fr g L h (kstB u (ps z)) → News g L h ((I + 1, oE) :: (I, oI) :: news z) → h.IsTuple T #[.int (i : Int) t, .str (sign x i) t'] →
      wpAny (model prog w) A (assign (.Tuple elts kt py) env (.ref T)) (fun _ s₂ => wpAny (model prog w) A (execs body env) (ForPost g L s ps (fun x => (I + 1, oE) :: (I, oI) :: news x) (J (i + 1)) Q) E s₂) E { s with heap := h, toks := tk })
    (done : ∀ z u h tk, J x.length z → Fr g L h (kstB u (ps z)) → News g L h (news z) → Q .next { s with heap := h, toks := tk })
    (hE : PassesOwn (model prog w) A env E) :
    wpAny (model prog w) A (call (.type "enumerate") [.str x t]) (fun xv s₁ => wpAny (model prog w) A (pyIter xv) (ForK prog w A (.Tuple elts kt py) body env Q E) E s₁) E s := by
  have hLs : L < s.heap.objs.size := F.ns.lt
  have lt := lt_new F N
  refine call_enumerate_str fun h' hen hit hsz hkp => ?_
  refine wpAny_pyIter_enum hen ?_
  have lt0 : ∀ p ∈ news x₀, p.1 < s.heap.objs.size := fun p hp => lt p (hn p hp)
  have key : ∀ (P : Nat → Value → Prop) (St : Nat → Heap → Prop) (D : Draws prog w A.in1 s.heap.objs.size [s.heap.objs.size] x.cps.size P St), (∀ i v, P i v → ∃ c u, x.cps[i]? = some c ∧ v = .str ⟨#[c]⟩ u) → St 0 h' →
      ForK prog w A (.Tuple elts kt py) body env Q E (.ref (s.heap.objs.size + 1)) { s with heap := h' } := by
    intro P St D hP hst
    have W := KTurns.ofWalksU (elts := elts) (k := kt) (pos := py) (WalksT.enumerateD D (s.heap.objs.size + 1) (Nat.succ_ne_self _) (fun hm => Nat.succ_ne_self _ (List.mem_singleton.mp hm)) (List.mem_singleton.mpr rfl)).toU
    unfold ForK
    refine turns_cut (s := s) (tk0 := s.toks) (σ := σ) (keep := []) W [s.heap.objs.size + 1, s.heap.objs.size] ?_ ?_ (fun b hb => hb) (fun b hb => .inl hb) ps news J x₀ (F.keeps hkp) (N.grown hkp) ⟨⟨.none, hen⟩, hst⟩ hk hn hj ?_ (fun _ _ _ p hp => nomatch hp) ?_ ?_ hE
    · rintro i h ⟨⟨old, he⟩, st⟩
      obtain ⟨o, ho⟩ := D.live i h st
      have he' : ∃ oe : Obj, h.get? (s.heap.objs.size + 1) = some oe := ⟨_, he⟩
      obtain ⟨oe, he⟩ := he'
      refine ⟨[(s.heap.objs.size + 1, oe), (s.heap.objs.size, o)], rfl, fun p hp => ?_⟩
      rcases List.mem_cons.mp hp with rfl | hp
      · exact he
      · rw [List.mem_singleton.mp hp]; exact ho
    · intro b hb
      rcases List.mem_cons.mp hb with rfl | hb
      · exact ⟨fun q => Nat.lt_irrefl _ (Nat.lt_trans (q ▸ hLs) (Nat.lt_succ_self _)), ktu_new F (Nat.le_add_right _ _)⟩
      · rw [List.mem_singleton.mp hb]
        exact ⟨fun q => Nat.lt_irrefl _ (q ▸ hLs), ktu_new F (Nat.le_refl _)⟩
    · intro i z hz p hp hm
      have : p.1 ∈ (news x₀).map (·.1) := by rw [← hadr i z hz]; exact List.mem_map_of_mem hp
      obtain ⟨q, hq, e'⟩ := List.mem_map.mp this
      have l := lt0 q hq
      rw [e'] at l
      rcases List.mem_cons.mp hm with e | hm
      · rw [e] at l; exact Nat.lt_irrefl _ (Nat.lt_trans l (Nat.lt_succ_self _))
      · rw [List.mem_singleton.mp hm] at l; exact Nat.lt_irrefl _ l
    · rintro i z u h tk its v hi ⟨T, vals, rfl, ⟨t1, v1, hv1, rfl⟩, hT⟩ hJ hits F' N'
      obtain ⟨oE, oI, rfl⟩ := map_two_eq hits
      obtain ⟨c, u', hc, rfl⟩ := hP _ _ hv1
      rw [sign_of hc] at hT
      exact turn i z u h tk _ oI oE t1 u' T hi hJ lt0 F' N' hT
    · exact fun z u h tk hJ F' N' => done z u h tk hJ F' N'
  cases ha : x.cps.all (· < 128)
  · exact key _ _ (Draws.strWide (A := A.in1) hh s.heap.objs.size x t) (fun _ _ h => h) (by simpa [strIterType, ha] using hit)
  · exact key _ _ (Draws.strAscii (A := A.in1) hh s.heap.objs.size x t) (fun _ _ h => h) (by simpa [strIterType, ha] using hit)
end
theorem lt_of_all {d : Nat} {l : List (Addr × Obj)} (h : AllLt d l) : ∀ p ∈ l, p.1 < d := by
  induction l with
  | nil => intro p hp; exact absurd hp List.not_mem_nil
  | cons q r ih =>
    intro p hp
    rcases List.mem_cons.mp hp with e | hp
    · rw [e]; exact h.1
    · exact ih h.2 p hp
noncomputable def mx3 (x y z : Int) : Int := max (max x y) z
theorem argsMaxThree (a b c : Value) : argsOk "max" ⟨[a, b, c], []⟩ := by unfold argsOk; kernel_rfl
theorem best_three (a b c : Int) (t u v : Tok) : ∃ q, (intItems #[(a, t), (b, u), (c, v)])[argBest (fun i j => decide (numAt #[(a, t), (b, u), (c, v)] i > numAt #[(a, t), (b, u), (c, v)] j)) 2]? = some (.int (mx3 a b c) q) := by
  have n0 : numAt #[(a, t), (b, u), (c, v)] 0 = a := rfl
  have n1 : numAt #[(a, t), (b, u), (c, v)] 1 = b := rfl
  have n2 : numAt #[(a, t), (b, u), (c, v)] 2 = c := rfl
  generalize hf : (fun i j => decide (numAt #[(a, t), (b, u), (c, v)] i > numAt #[(a, t), (b, u), (c, v)] j)) = f
  have f10 : f 1 0 = decide (b > a) := by rw [← hf]; rfl
  have f20 : f 2 0 = decide (c > a) := by rw [← hf]; rfl
  have f21 : f 2 1 = decide (c > b) := by rw [← hf]; rfl
  have e2 : argBest f 2 = if f 2 (if f 1 0 then 1 else 0) then 2 else (if f 1 0 then 1 else 0) := rfl
  rw [e2, f10]
  unfold mx3
  by_cases h1 : b > a
  · simp only [h1, decide_true, if_true, f21]
    by_cases h2 : c > b
    · simp only [h2, decide_true, if_true]
      exact ⟨v, by rw [show max (max a b) c = c by omega]; simp [intItems]⟩
    · simp only [h2, decide_false, Bool.false_eq_true, if_false]
      exact ⟨u, by rw [show max (max a b) c = b by omega]; simp [intItems]⟩
  · simp only [h1, decide_false, Bool.false_eq_true, if_false, f20]
    by_cases h2 : c > a
    · simp only [h2, decide_true, if_true]
      exact ⟨v, by rw [show max (max a b) c = c by omega]; simp [intItems]⟩
    · simp only [h2, decide_false, Bool.false_eq_true, if_false]
      exact ⟨t, by rw [show max (max a b) c = a by omega]; simp [intItems]⟩
section
variable {prog : Program} {w : World} {A : Around} {E : Value → Shared → Prop} {s : Shared} {h₀ : Heap} {L : Addr} {m : Str → Option Value} {news : List (Addr × Obj)} {Q : Value → Shared → Prop}
set_option maxHeartbeats 800000 in
theorem max_three {a b c : Int} {t u v : Tok} (hh : A.handled = none) (F₀ : Fr h₀ L s.heap m) (N₀ : News h₀ L s.heap news)
    (h : ∀ h' tk q, Fr h₀ L h' m → News h₀ L h' news → Q (.int (mx3 a b c) q) { s with heap := h', toks := tk }) :
    wpAny (model prog w) A (call (.builtin "max") [.int a t, .int b u, .int c v]) Q E s := by
  have hname : (toString "max" ++ toString ".loop" : String) = "max.loop" := by decide
  refine call_function_tree F.kind_max F.plain_max F.entry_max (argsMaxThree _ _ _) ?_
  show wpAny _ A.in1 (Builtin.Builtins.bindParams "max" ["key", "default"] 0 ⟨[], []⟩ >>= _) _ _ s
  refine wpAny_bind (wpAny_of_eq (show Builtin.Builtins.bindParams "max" ["key", "default"] 0 ⟨[], []⟩ = pure [none, none] from rfl) ?_)
  show wpAny _ A.in1 (newTuple [.int a t, .int b u, .int c v] >>= _) _ _ s
  refine wpAny_bind (wpAny_newObj_type ?_)
  have hT : (s.heap.push { cls := .type "tuple", data := .seq #[.int a t, .int b u, .int c v] }).IsTuple s.heap.objs.size (intItems #[(a, t), (b, u), (c, v)]) := ⟨_, Heap.get?_push_size _ rfl, rfl, 0, by simp [intItems]⟩
  have hsz : (s.heap.push { cls := .type "tuple", data := .seq #[.int a t, .int b u, .int c v] }).objs.size = s.heap.objs.size + 1 := Heap.size_push ..
  refine wpAny_bind (wpAny_pyIter_tuple hT ?_)
  refine wpAny_bind (wpAny_newObj_type ?_)
  rw [hname]
  have hne : s.heap.objs.size ≠ (s.heap.push { cls := .type "tuple", data := .seq #[.int a t, .int b u, .int c v] }).objs.size := by rw [hsz]; exact Nat.ne_of_lt (Nat.lt_succ_self _)
  have W := Walks.tuple (prog := prog) (w := w) (A := A.in1) hh (s.heap.push { cls := .type "tuple", data := .seq #[.int a t, .int b u, .int c v] }).objs.size s.heap.objs.size hne (intItems #[(a, t), (b, u), (c, v)])
  refine wpAny_pure ⟨plainId_quiet F.plain_max_loop _, codeAny_max_loop_first W _ (CmpOf.ints_gt (numAt #[(a, t), (b, u), (c, v)]) (fun _ _ => intItems_at)) _ ?_ (by simp [intItems]) ?_ (Heap.get?_push_size _ rfl) fun x h' tk hP hk => ?_⟩
  · intro hm
    have e : ((s.heap.push { cls := .type "tuple", data := .seq #[.int a t, .int b u, .int c v] }).push { cls := .type "tuple_iterator", data := .fields #[.ref s.heap.objs.size, .int 0 0] }).objs.size = s.heap.objs.size + 1 + 1 := by rw [Heap.size_push, hsz]
    rcases List.mem_cons.mp hm with e1 | hm
    · rw [e, hsz] at e1; exact absurd e1 (Nat.succ_ne_self _)
    · have e1 := List.mem_singleton.mp hm
      rw [e] at e1; exact absurd e1 (Nat.ne_of_gt (Nat.lt_succ_of_lt (Nat.lt_succ_self _)))
  · exact W.frame 0 _ _ ⟨⟨_, Heap.get?_push_size _ rfl, rfl, rfl⟩, hT.push _⟩ fun b _ o e => Heap.get?_push_of_some _ e
  · obtain ⟨q, hq⟩ := best_three a b c t u v
    have hx : x = .int (mx3 a b c) q := by
      have hP' : (intItems #[(a, t), (b, u), (c, v)])[argBest (fun i j => decide (numAt #[(a, t), (b, u), (c, v)] i > numAt #[(a, t), (b, u), (c, v)] j)) 2]? = some x := by
        have hsz2 : (intItems #[(a, t), (b, u), (c, v)]).size - 1 = 2 := by simp [intItems]
        rw [← hsz2]; exact hP
      rw [hq] at hP'
      exact (Option.some.inj hP').symm
    rw [hx]
    have hold : ∀ c o, s.heap.get? c = some o → h'.get? c = some o := fun c o e => by
      have l := Heap.lt_size e
      refine hk c o (fun hm => ?_) (fun e1 => ?_) (Heap.get?_push_of_some _ (Heap.get?_push_of_some _ (Heap.get?_push_of_some _ e)))
      · have e1 := List.mem_singleton.mp hm
        rw [hsz] at e1
        rw [e1] at l; exact Nat.lt_irrefl _ (Nat.lt_of_succ_lt l)
      · rw [Heap.size_push, hsz] at e1
        rw [e1] at l; exact Nat.lt_irrefl _ (Nat.lt_of_succ_lt (Nat.lt_of_succ_lt l))
    exact h h' tk q (F₀.grownK hold) (N₀.grown hold)
end
section
variable {prog : Program} {w : World} {A : Around} {E : Value → Shared → Prop} {s : Shared} {h₀ : Heap} {L D : Addr} {m : Str → Option Value} {news : List (Addr × Obj)} {news' : Obj → List (Addr × Obj)} {Q : Value → Shared → Prop}
theorem append_vs {vs : List Value} {n : Nat} {x : Value} (F : Fr h₀ L s.heap m) (N : News h₀ L s.heap news) (U : ∀ o o' : Obj, o = listOf vs.toArray n → Upd D o o' news (news' o'))
    (hsz : vs.length ≤ 1000)
    (h : ∀ h', Fr h₀ L h' m → News h₀ L h' (news' (listOf (vs ++ [x]).toArray (n + 1))) → Q .none { s with heap := h' }) : wpAny (model prog w) A (call (.builtin "list.append") [.ref D, x]) Q E s := by
  refine append_K (its := vs.toArray) (n := n) F N (U _ _ rfl) (fun h' F' N' => h h' F' ?_) ?_
  · rw [List.push_toArray] at N'; exact N'
  · rw [List.size_toArray, sizeLine_eq]; omega
end
theorem ints_at : ∀ {vs : List Value} {ns : List Int}, IntsAre vs ns → ∀ {i : Nat} {n : Int}, ns[i]? = some n → ∃ t, vs[i]? = some (.int n t)
  | _, _, .nil, i, n, h => by simp at h
  | _, _, .cons k t r, 0, n, h => ⟨t, by simp at h ⊢; exact h⟩
  | _, _, .cons k t r, i + 1, n, h => by simpa using ints_at r (i := i) (n := n) (by simpa using h)
section
variable {prog : Program} {w : World} {A : Around} {E : Value → Shared → Prop} {s : Shared} {h₀ : Heap} {L : Addr} {m : Str → Option Value} {env : Env}
noncomputable def SrcG (prog : Program) (w : World) (A : Around) (h₀ : Heap) (L : Addr) (m : Str → Option Value) (env : Env) (elt : Expr) (x : Str) (scope : Scope) (cl : List (Str × Addr)) (Fin : Shared → List Value → List (Addr × Obj) → Prop) (xv : Value) (s₁ : Shared) : Prop :=
  ∀ E' : Value → Shared → Prop, wpAny (model prog w) A (pyIter xv) (fun it s₂ => ∃ (I : Addr) (fp : List Addr) (n : Nat) (P : Nat → Value → Prop) (St : Nat → Heap → Prop) (S : List (Addr × Obj) → Prop) (news : List (Addr × Obj)),
    it = .ref I ∧ Walks prog w A I fp [I] n P St ∧ n ≤ sizeLine ∧ (∀ i h, St i h → ∃ o, h.get? I = some o) ∧
    (∀ i h h' o nw, St i h → h.get? I = some o → h'.get? I = some o → (∀ b o, h₀.get? b = some o → h'.get? b = some o) → News h₀ L h' nw → S nw → St i h') ∧
    St 0 s₂.heap ∧ (∀ b ∈ fp, b < s₂.heap.objs.size) ∧ Fr h₀ L s₂.heap m ∧ News h₀ L s₂.heap news ∧ L ≠ I ∧ h₀.get? I = none ∧ (∀ p ∈ news, p.1 ≠ I) ∧ S news ∧
    LCg.CompRest prog w A h₀ L m env elt x scope cl s₂ S P (Fin s₂) n 0 [] news) E' s₁
theorem ListComp_G {elt iter : Expr} {x : Str} {px : Pos} {scope : Scope} {cl : List (Str × Addr)} {pos : Pos} {Q : Value → Shared → Prop} (_F₀ : Fr h₀ L s.heap m)
    (hclos : closureFor scope env = pure cl) (hcell : ∀ y ∈ scope.names, y.2 ≠ .cell) (hkind : scope.kind = .function)
    (hnames : ∀ y ∈ scope.names, y.2 = .local → scope.names.lookup y.1 = some .local) (hx : scope.names.lookup x = some .local)
    (h : wpAny (model prog w) A (eval iter env) (SrcG prog w A h₀ L m env elt x scope cl (fun s₂ => LCg.FinE h₀ L m s₂ Q)) E s)
    (hs : ∀ x, foldedSetIterable iter env x = pure x) :
    wpAny (model prog w) A (eval (.ListComp elt [⟨.Name x px, iter, [], 0⟩] scope pos) env) Q E s := by
  rw [eval_ListComp]
  refine wpAny_comprehension_free (use := none) rfl hs hclos hkind hnames (wpAny_mono h (fun xv s₁ h₁ => wpAny_mono (h₁ _) (fun it s₂ h₂ => ?_) fun _ _ e => e) fun _ _ e => e)
  obtain ⟨I, fp, n, P, St, S, news, rfl, W, hsz, hIo, hSt, hst, hfp, F, N, hIL, hI₀, off, hS, R⟩ := h₂
  refine LCg.block_U W hsz hIo hSt hcell hkind hx hst hfp F N hIL hI₀ off hS R ?_
  intro D C h tk m' ys news' F' N' o1 hn hC₀ hD₀ hCL hDL hCD offC fin
  refine ⟨m', hn, fun h'' hs'' => fin D h'' tk (F'.change hs'' hCL hC₀) (fun p hp => ?_) o1⟩
  refine ⟨hs''.extBut _ _ ?_ (N' p hp).1, (N' p hp).2⟩
  rcases List.mem_cons.mp hp with rfl | hp
  · exact Ne.symm hCD
  · exact offC p hp
theorem Assign_ListComp_G {elt iter : Expr} {x y : Str} {px py : Pos} {scope : Scope} {cl : List (Str × Addr)} {pos spos : Pos} {Q : Flow → Shared → Prop} (_F₀ : Fr h₀ L s.heap m) (hLe : env.locals = L)
    (hsw : swapsWith (.ListComp elt [⟨.Name x px, iter, [], 0⟩] scope pos) (some (.Name y py)) spos.line env = pure true)
    (hclos : closureFor scope env = pure cl) (hcell : ∀ z ∈ scope.names, z.2 ≠ .cell) (hkind : scope.kind = .function)
    (hnames : ∀ z ∈ scope.names, z.2 = .local → scope.names.lookup z.1 = some .local) (hx : scope.names.lookup x = some .local)
    (hy : env.kindOf y = some .local) (hp : (env.scope.kind == .class || (env.scope.kind == .module && env.locals != env.globals)) = false)
    (h : wpAny (model prog w) A (eval iter env) (SrcG prog w A h₀ L m env elt x scope cl (fun s₂ => LCg.FinA h₀ L m s₂ y Q)) E s)
    (hs : ∀ x, foldedSetIterable iter env x = pure x) :
    wpAny (model prog w) A (exec (.Assign [.Name y py] (.ListComp elt [⟨.Name x px, iter, [], 0⟩] scope pos) spos) env) Q E s := by
  subst hLe
  rw [exec_Assign_Name_used _ _ _ _ hsw]
  refine wpAny_bind (wpAny_standAt (wpAny_bind ?_))
  show wpAny _ A (do let _ ← comprehension (.ListComp elt [⟨.Name x px, iter, [], 0⟩] scope pos) scope env _ (newList []) false (eval iter env) (some (assign (.Name y py) env))) _ _ s
  refine wpAny_bind (wpAny_mono (wpAny_comprehension_free (use := some (assign (.Name y py) env)) (Q := fun _ s' => Q .next s') rfl hs hclos hkind hnames
    (wpAny_mono h (fun xv s₁ h₁ => wpAny_mono (h₁ _) (fun it s₂ h₂ => ?_) fun _ _ e => e) fun _ _ e => e)) (fun _ s' hq => wpAny_pure (wpAny_pure hq)) fun _ _ e => e)
  obtain ⟨I, fp, n, P, St, S, news, rfl, W, hsz, hIo, hSt, hst, hfp, F, N, hIL, hI₀, off, hS, R⟩ := h₂
  refine LCg.block_U W hsz hIo hSt hcell hkind hx hst hfp F N hIL hI₀ off hS R ?_
  intro D C h' tk m' ys news' F' N' o1 hn hC₀ hD₀ hCL hDL hCD offC fin
  show wpAny _ A (assign (.Name y py) env (.ref D)) _ _ _
  refine wpAny_assign_Name (wpAny_storeName_local hy F'.ns (fun h₂ hn₂ hs₂ => ?_) hp)
  have hL₀ : h₀.get? env.locals = none := Heap.get?_none_of_le F'.above
  have F₂ : Fr h₀ env.locals h₂ (fun z => if z = y then some (.ref D) else m z) := ⟨hn₂, fun b o e => hs₂.extBut b o (fun q => by rw [q, hL₀] at e; cases e) (F'.keep b o e), F'.above⟩
  refine ⟨m', hn.sameBut hs₂ hCL, fun h'' hs'' => fin D h'' _ (F₂.change hs'' hCL hC₀) (fun p hp => ?_) o1⟩
  have z : h₂.get? p.1 = some p.2 := hs₂.extBut _ _ (N' p hp).2.1 (N' p hp).1
  refine ⟨hs''.extBut _ _ ?_ z, (N' p hp).2⟩
  rcases List.mem_cons.mp hp with rfl | hp
  · exact Ne.symm hCD
  · exact offC p hp
noncomputable abbrev tupObj (its : Array Value) (k : Nat) : Obj := { cls := .type "tuple", data := .seq its k }
noncomputable def TupAt (T : Addr) (its : Array Value) (nw : List (Addr × Obj)) : Prop := False ∨ ∃ o, (T, o) ∈ nw ∧ o.cls = .type "tuple" ∧ ∃ n, o.data = .seq its n
theorem SrcG.tup {elt : Expr} {x : Str} {scope : Scope} {cl : List (Str × Addr)} {Fin : Shared → List Value → List (Addr × Obj) → Prop} {T : Addr} {its : Array Value} {news : List (Addr × Obj)} {s₁ : Shared}
    (hh : A.handled = none) (F : Fr h₀ L s₁.heap m) (N : News h₀ L s₁.heap news) (hT : TupAt T its news) (hsz : its.size ≤ sizeLine)
    (h : ∀ g, LCg.CompRest prog w A h₀ L m env elt x scope cl { s₁ with heap := g } (TupAt T its) (fun i v => its[i]? = some v) (Fin { s₁ with heap := g }) its.size 0 [] news) :
    SrcG prog w A h₀ L m env elt x scope cl Fin (.ref T) s₁ := by
  intro E'
  have key : ∀ (h' : Heap) (nw : List (Addr × Obj)), News h₀ L h' nw → TupAt T its nw → h'.IsTuple T its := by
    rintro h' nw N' (q | ⟨o, hm, hc, n, hd⟩)
    · exact q.elim
    · exact ⟨o, (N' _ hm).1, hc, n, hd⟩
  have hTt := key _ _ N hT
  have hlt : T < s₁.heap.objs.size := by obtain ⟨_, e, _⟩ := hTt; exact Heap.lt_size e
  refine wpAny_pyIter_tuple hTt ?_
  refine ⟨s₁.heap.objs.size, _, its.size, _, _, TupAt T its, news, rfl, Walks.tuple hh s₁.heap.objs.size T (Nat.ne_of_lt hlt) its, hsz, fun i h st => by obtain ⟨o, e, _⟩ := st.1; exact ⟨o, e⟩, ?_, ⟨⟨_, Heap.get?_push_size _ rfl, rfl, rfl⟩, ?_⟩, fun b hb => ?_,
    F.push _, fun p hp => ⟨Heap.get?_push_of_some _ (N p hp).1, (N p hp).2⟩, Nat.ne_of_lt F.ns.lt, next_is_new F, fun p hp => Nat.ne_of_lt (Heap.lt_size (N p hp).1), hT, h _⟩
  · intro i h h' o nw st e e' hk N' S
    exact ⟨by obtain ⟨o', q, r⟩ := st.1; rw [e] at q; cases q; exact ⟨o, e', r⟩, key _ _ N' S⟩
  · obtain ⟨o, e, r⟩ := hTt
    exact ⟨o, Heap.get?_push_of_some _ e, r⟩
  · show b < (s₁.heap.push _).objs.size
    rw [Heap.size_push]
    rcases List.mem_cons.mp hb with rfl | hb
    · exact Nat.lt_succ_self _
    · rw [List.mem_singleton.mp hb]; exact Nat.lt_succ_of_lt hlt
end
section
variable {M : Model} {A : Around} {env : Env} {Q : Flow → Shared → Prop} {E : Value → Shared → Prop} {s : Shared}
theorem cutA (k : Nat) {sts : List Stmt} (R : Shared → Prop)
    (h1 : wpAny M A (execs (sts.take k) env) (fun f s' => match f with | .next => R s' | f => Q f s') E s)
    (h2 : ∀ s', R s' → wpAny M A (execs (sts.drop k) env) Q E s') : wpAny M A (execs sts env) Q E s := by
  rw [← List.take_append_drop k sts]
  exact execs_app _ h1 h2
end
theorem fm3 (x : Int) : 1 ≤ 1 + x.fmod 3 ∧ 1 + x.fmod 3 ≤ 3 := by
  rw [Int.fmod_eq_emod_of_nonneg _ (by decide)]; omega
theorem off1_mem {D : Addr} {l : List (Addr × Obj)} (h : LCg.Off1 D l) : ∀ p ∈ l, p.1 ≠ D := by
  induction l with
  | nil => intro p hp; exact absurd hp List.not_mem_nil
  | cons q r ih =>
    intro p hp
    rcases List.mem_cons.mp hp with e | hp
    · rw [e]; exact h.1
    · exact ih h.2 p hp
section
variable {prog : Program} {w : World} {A : Around} {h₀ : Heap} {L : Addr} {m : Str → Option Value} {env : Env}
theorem SrcG.led {elt : Expr} {x : Str} {scope : Scope} {cl : List (Str × Addr)} {Fin : Shared → List Value → List (Addr × Obj) → Prop} {ax : Addr} {its : Array Value} {news : List (Addr × Obj)} {s₁ : Shared}
    (hh : A.handled = none) (F : Fr h₀ L s₁.heap m) (N : News h₀ L s₁.heap news) (hS : LCg.SrcAt h₀ ax its news) (hsz : its.size ≤ sizeLine)
    (h : ∀ g, LCg.CompRest prog w A h₀ L m env elt x scope cl { s₁ with heap := g } (LCg.SrcAt h₀ ax its) (fun i v => its[i]? = some v) (Fin { s₁ with heap := g }) its.size 0 [] news) :
    SrcG prog w A h₀ L m env elt x scope cl Fin (.ref ax) s₁ := by
  intro E'
  have hl := hS.list F.keep N
  have hlt : ax < s₁.heap.objs.size := by obtain ⟨_, e, _⟩ := hl; exact Heap.lt_size e
  refine wpAny_pyIter_list hl ?_
  refine ⟨s₁.heap.objs.size, _, its.size, _, _, LCg.SrcAt h₀ ax its, news, rfl, Walks.list hh s₁.heap.objs.size ax (Nat.ne_of_lt hlt) its, hsz, fun i h st => by obtain ⟨o, e, _⟩ := st.1; exact ⟨o, e⟩, LCg.list_st, ⟨⟨_, Heap.get?_push_size _ rfl, rfl, rfl⟩, hl.push _⟩, fun b hb => ?_,
    F.push _, fun p hp => ⟨Heap.get?_push_of_some _ (N p hp).1, (N p hp).2⟩, Nat.ne_of_lt F.ns.lt, next_is_new F, fun p hp => Nat.ne_of_lt (Heap.lt_size (N p hp).1), hS, h _⟩
  show b < (s₁.heap.push _).objs.size
  rw [Heap.size_push]
  rcases List.mem_cons.mp hb with rfl | hb
  · exact Nat.lt_succ_self _
  · rw [List.mem_singleton.mp hb]; exact Nat.lt_succ_of_lt hlt
theorem rest_ints {elt : Expr} {x : Str} {scope : Scope} {cl : List (Str × Addr)} {s : Shared} {S : List (Addr × Obj) → Prop} {Fin : List Value → List (Addr × Obj) → Prop} {vs : List Value} {ns : List Int} {news : List (Addr × Obj)} (hi : IntsAre vs ns) (J : Nat → List Value → Prop)
    (step : ∀ i ys c t I oI C oC D m₂ h tk (E' : Value → Shared → Prop), ns[i]? = some c → J i ys → LCg.NsObj oC m₂ → m₂ x = some (.int c t) → Fr h₀ L h m → News h₀ L h ((I, oI) :: (C, oC) :: (D, LCg.lst ys) :: news) → LCg.Off3 I C D news → ((@Ne Nat I C) ∧ (@Ne Nat I D) ∧ (@Ne Nat C D)) →
      wpAny (model prog w) A (eval elt (compEnvC scope cl C env)) (LCg.CompEnd h₀ L m { s with heap := h, toks := tk } I oI C oC D (LCg.lst ys) S (fun y news' => news' = news ∧ J (i + 1) (ys ++ [y]))) E' { s with heap := h, toks := tk })
    (fin : ∀ ys, J ns.length ys → Fin ys news) :
    ∀ k i ys, i + k = ns.length → J i ys → LCg.CompRest prog w A h₀ L m env elt x scope cl s S (fun i v => vs.toArray[i]? = some v) Fin k i ys news
  | 0, i, ys, e, hJ => by
    have : i = ns.length := by omega
    subst this
    exact fin ys hJ
  | k + 1, i, ys, e, hJ => by
    refine LCg.CompRest.succ ?_
    intro v I oI C oC D m₂ h tk E' hv hC hx F N off ne
    rw [List.getElem?_toArray] at hv
    have hlt : i < ns.length := by omega
    obtain ⟨t, ht⟩ := ints_at hi (i := i) (n := ns[i]) (List.getElem?_eq_getElem hlt)
    rw [hv] at ht
    cases ht
    refine wpAny_mono (step i ys _ t I oI C oC D m₂ h tk E' (List.getElem?_eq_getElem hlt) hJ hC hx F N off ne) (fun y s₂ h₂ => ?_) fun _ _ e => e
    obtain ⟨h', tk', news', e1, F', N', off', hS', rfl, hJ'⟩ := h₂
    exact ⟨h', tk', news', e1, F', N', off', hS', rest_ints hi J step fin k (i + 1) _ (by omega) hJ'⟩
end
theorem take_map_succ {α β : Type} {l : List α} {i : Nat} {c : α} (f : α → β) (h : l[i]? = some c) : (l.take (i + 1)).map f = (l.take i).map f ++ [f c] := by
  rw [List.take_add_one, h]; simp
theorem is_srcG {prog : Program} {w : World} {A : Around} {h₀ : Heap} {L : Addr} {m : Str → Option Value} {env : Env} {elt : Expr} {x : Str} {scope : Scope} {cl : List (Str × Addr)} {Fin : Shared → List Value → List (Addr × Obj) → Prop} {xv : Value} {s₁ : Shared}
    (h : SrcG prog w A h₀ L m env elt x scope cl Fin xv s₁) : SrcG prog w A h₀ L m env elt x scope cl Fin xv s₁ := h
section
variable {prog : Program} {w : World} {A : Around} {E : Value → Shared → Prop} {s : Shared} {h₀ : Heap} {L l : Addr} {m : Str → Option Value} {news : List (Addr × Obj)} {Q : Value → Shared → Prop} {value slice : Expr}
theorem slice_fromK {vs : List Value} {ns : List Int} {k : Nat} {x : Int} {t : Tok} (F : Fr h₀ L s.heap m) (N : News h₀ L s.heap news) (hm : (l, listOf vs.toArray k) ∈ news) (hi : IntsAre vs ns) (h0 : 0 ≤ x) (hsz : vs.length ≤ 1000)
    (hs : subscripted slice false (.ref l) (.ref s.heap.objs.size) = operate [.ref s.heap.objs.size, .ref l] (getItem (.ref l) (.ref s.heap.objs.size))) (ht : ∀ r, letTemporaryGo value (.ref l) r = pure ())
    (h : ∀ D ws h', Fr h₀ L h' m → News h₀ L h' ((D, listOf (List.toArray ws) 0) :: news) → (∀ p ∈ news, p.1 < D) → IntsAre ws (ns.drop x.toNat) → Q (.ref D) { s with heap := h' }) :
    wpAny (model prog w) A (subscriptTail value slice (.ref l) (.ref s.heap.objs.size)) Q E { s with heap := s.heap.push { cls := .type "slice", data := .fields #[.int x t, .none, .none] } } :=
  kmk_slice_ints F N ⟨_, (N _ hm).1, rfl, k, rfl⟩ (.int x t) .none hi (slice_ints_fromW hi h0) rfl (fun D ws h' F' N' l1 i1 _ _ => h D ws h' F' N' l1 i1) hs ht (by rw [List.size_toArray, sizeLine_eq]; omega)
theorem slice_uptoK {vs : List Value} {ns : List Int} {k : Nat} {x : Int} {t : Tok} (F : Fr h₀ L s.heap m) (N : News h₀ L s.heap news) (hm : (l, listOf vs.toArray k) ∈ news) (hi : IntsAre vs ns) (h0 : 0 ≤ x) (hsz : vs.length ≤ 1000)
    (hs : subscripted slice false (.ref l) (.ref s.heap.objs.size) = operate [.ref s.heap.objs.size, .ref l] (getItem (.ref l) (.ref s.heap.objs.size))) (ht : ∀ r, letTemporaryGo value (.ref l) r = pure ())
    (h : ∀ D ws h', Fr h₀ L h' m → News h₀ L h' ((D, listOf (List.toArray ws) 0) :: news) → (∀ p ∈ news, p.1 < D) → IntsAre ws (ns.take x.toNat) → Q (.ref D) { s with heap := h' }) :
    wpAny (model prog w) A (subscriptTail value slice (.ref l) (.ref s.heap.objs.size)) Q E { s with heap := s.heap.push { cls := .type "slice", data := .fields #[.none, .int x t, .none] } } :=
  kmk_slice_ints F N ⟨_, (N _ hm).1, rfl, k, rfl⟩ .none (.int x t) hi (slice_ints_uptoW hi h0) rfl (fun D ws h' F' N' l1 i1 _ _ => h D ws h' F' N' l1 i1) hs ht (by rw [List.size_toArray, sizeLine_eq]; omega)
end
section
variable {prog : Program} {w : World} {A : Around} {E : Value → Shared → Prop} {Q : Flow → Shared → Prop} {s : Shared} {env : Env} {g : Heap} {L : Addr}
theorem list_cut {σ : Type} {y : Str} {py : Pos} {body : List Stmt} {m : Str → Option Value} {newsNow : List (Addr × Obj)} {l : Addr} {vs : List Value} {ns : List Int} {k : Nat} (hh : A.handled = none) (hi : IntsAre vs ns)
    (ps : σ → List (Str × Value)) (news : σ → List (Addr × Obj)) (J : Nat → σ → Prop) (x₀ : σ)
    (F : Fr g L s.heap m) (N : News g L s.heap newsNow) (hk : ∀ p ∈ ps x₀, m p.1 = some p.2) (hn : ∀ p ∈ news x₀, p ∈ newsNow)
    (hj : J 0 x₀) (hadr : ∀ i x, J i x → (news x).map (·.1) = (news x₀).map (·.1)) (hl : ∀ i x, J i x → (l, listOf vs.toArray k) ∈ news x)
    (turn : ∀ i c t z u h tk I oI, ns[i]? = some c → J i z → (∀ p ∈ news x₀, p.1 < I) → Fr g L h (kstB u (ps z)) → News g L h ((I, oI) :: news z) →
      wpAny (model prog w) A (assign (.Name y py) env (.int c t)) (fun _ s₂ => wpAny (model prog w) A (execs body env) (ForPost g L s ps (fun x => (I, oI) :: news x) (J (i + 1)) Q) E s₂) E { s with heap := h, toks := tk })
    (done : ∀ z u h tk, J ns.length z → Fr g L h (kstB u (ps z)) → News g L h (news z) → Q .next { s with heap := h, toks := tk })
    (hE : PassesOwn (model prog w) A env E) :
    wpAny (model prog w) A (pyIter (.ref l)) (ForK prog w A (.Name y py) body env Q E) E s := by
  have hLs : L < s.heap.objs.size := F.ns.lt
  have lt := lt_new F N
  have zl := N _ (hn _ (hl 0 x₀ hj))
  have hL : s.heap.IsList l vs.toArray := ⟨_, zl.1, rfl, k, rfl⟩
  have hll : l < s.heap.objs.size := Heap.lt_size zl.1
  refine wpAny_pyIter_list hL ?_
  have W := KTurns.ofWalks (target := .Name y py) (Walks.list (prog := prog) (w := w) hh s.heap.objs.size l (Nat.ne_of_lt hll) vs.toArray) (fun i v s Q E _ h => by show wpAny _ _ (pure ()) _ _ _; exact wpAny_pure h)
  have lt0 : ∀ p ∈ news x₀, p.1 < s.heap.objs.size := fun p hp => lt p (hn p hp)
  unfold ForK
  refine turns_cut (s := s) (tk0 := s.toks) (σ := σ) (keep := [(l, listOf vs.toArray k)]) W [s.heap.objs.size] ?_ ?_ (fun b hb => hb) ?_ ps news J x₀ (F.push _) (fun p hp => ⟨Heap.get?_push_of_some _ (N p hp).1, (N p hp).2⟩) ⟨⟨_, Heap.get?_push_size _ rfl, rfl, rfl⟩, hL.push _⟩ hk hn hj ?_ ?_ ?_ ?_ hE
  · rintro i h ⟨⟨o, ho, _⟩, _⟩
    exact ⟨[(_, o)], rfl, fun p hp => by rw [List.mem_singleton.mp hp]; exact ho⟩
  · intro b hb
    rw [List.mem_singleton.mp hb]
    exact ⟨fun q => Nat.lt_irrefl _ (q ▸ hLs), next_is_new F⟩
  · intro b hb
    rcases List.mem_cons.mp hb with rfl | hb
    · exact .inl (.head _)
    · rw [List.mem_singleton.mp hb]; exact .inr ⟨_, .head _⟩
  · intro i z hz p hp hm
    have : p.1 ∈ (news x₀).map (·.1) := by rw [← hadr i z hz]; exact List.mem_map_of_mem hp
    obtain ⟨q, hq, e'⟩ := List.mem_map.mp this
    have l := lt0 q hq
    rw [e', List.mem_singleton.mp hm] at l
    exact Nat.lt_irrefl _ l
  · intro i z hz p hp
    rw [List.mem_singleton.mp hp]; exact hl i z hz
  · rintro i z u h tk its v hlt hv hJ hits F' N'
    obtain ⟨oI, rfl⟩ := map_one_eq hits
    have hlt' : i < ns.length := by rw [← hi.length]; simpa using hlt
    obtain ⟨t, ht⟩ := ints_at hi (i := i) (n := ns[i]) (List.getElem?_eq_getElem hlt')
    rw [List.getElem?_toArray] at hv
    rw [hv] at ht; cases ht
    exact turn i _ t z u h tk _ oI (List.getElem?_eq_getElem hlt') hJ lt0 F' N'
  · intro z u h tk hJ F' N'
    refine done z u h tk ?_ F' N'
    rw [← hi.length]; simpa using hJ
end
theorem app_ones (c : Nat) (l : List Nat) : (⟨#[c]⟩ : Str) ++ ⟨#[]⟩ ++ wd l = wd (c :: l) := by
  show (⟨(#[c] ++ #[]) ++ l.toArray⟩ : Str) = ⟨(c :: l).toArray⟩
  congr 1
  simp
theorem join_ones' : ∀ (ls : List Nat), Str.join ⟨#[]⟩ (ls.map fun c => (⟨#[c]⟩ : Str)) = wd ls
  | [] => rfl
  | [c] => rfl
  | c :: d :: r => by
    show (⟨#[c]⟩ : Str) ++ ⟨#[]⟩ ++ Str.join ⟨#[]⟩ ((d :: r).map fun c => (⟨#[c]⟩ : Str)) = _
    rw [join_ones' (d :: r)]
    exact app_ones c (d :: r)
theorem join_ones (ls : List Nat) : Txt.join ⟨#[]⟩ (ls.map fun c => (⟨#[c]⟩ : Str)) = wd ls := (eq_of_beq (join_plain_closes _ _)).trans (join_ones' ls)
theorem is_comp {M : Model} {A : Around} {env : Env} {e : Expr} {gs : List Comprehension} {sc : Scope} {p : Pos} {Q : Value → Shared → Prop} {E : Value → Shared → Prop} {s : Shared} (h : wpAny M A (eval (.ListComp e gs sc p) env) Q E s) : wpAny M A (eval (.ListComp e gs sc p) env) Q E s := h
theorem is_pyIter {M : Model} {A : Around} {v : Value} {Q : Value → Shared → Prop} {E : Value → Shared → Prop} {s : Shared} (h : wpAny M A (pyIter v) Q E s) : wpAny M A (pyIter v) Q E s := h
theorem sum_bd : ∀ (l : List Int), (∀ z ∈ l, 1 ≤ z ∧ z ≤ 3) → 0 ≤ l.sum ∧ l.sum ≤ 3 * (l.length : Int)
  | [], _ => by decide
  | z :: r, h => by
    have h1 := h z (.head _)
    have h2 := sum_bd r fun y hy => h y (.tail _ hy)
    rw [List.sum_cons, List.length_cons]
    omega
theorem slice_wd {ls : List Nat} {i j : Int} (h0 : 0 ≤ i) (h1 : i ≤ j) (h2 : j ≤ (ls.length : Int)) : Txt.slice (wd ls) (some i) (some j) = wd ((ls.drop i.toNat).take (j - i).toNat) := by
  have := eq_of_beq (slice_closesL (x := wd ls) (i := i) (j := j) h0 h1 (by show j ≤ ((ls.toArray.size : Nat) : Int); simpa using h2))
  rw [this]
  show (⟨(((ls.toArray).toList.drop i.toNat).take (j - i).toNat).toArray⟩ : Str) = _
  simp [wd]
section
variable {M : Model} {A : Around} {R : GenEnd} {Y : Protocol} {n : Nat} {s₀ : Shared} {c : Code} {fs : List Frame} {s : Shared} {env : Env}
  {K : Flow → Sem Fin} {H : Value → Sem Fin} {gd : Bool → Bool} {lv : List Value → List Value}
theorem seg_stmt {st : Stmt} (h : wpAny M (A.over c fs) (exec st env) (fun f s' => Seg M A R Y n s₀ c (K f) fs s') (fun x s' => Seg M A R Y n s₀ c (H x) fs s') s) :
    Seg M A R Y n s₀ c ((exec st env).wrap K H gd lv) fs s := seg_wrap h
theorem seg_If {test : Expr} {body orelse : List Stmt} {pos : Pos}
    (h : wpAny M (A.over c fs) (isTrue test env (eval test env)) (fun b s' => if b = true then Seg M A R Y n s₀ c ((execs body env).wrap K H gd lv) fs s' else Seg M A R Y n s₀ c ((execs orelse env).wrap K H gd lv) fs s')
      (fun x s' => Seg M A R Y n s₀ c (H x) fs s') s) :
    Seg M A R Y n s₀ c ((exec (.If test body orelse pos) env).wrap K H gd lv) fs s := by
  rw [exec_If]
  show Seg M A R Y n s₀ c (.at pos fun _ => ((isTrue test env (eval test env)) >>= fun b => if b = true then execs body env else execs orelse env).wrap K H gd lv) fs s
  refine seg_at ?_
  rw [Sem.bind_eq_wrap', Sem.wrap_wrap]
  refine seg_wrap (wpAny_mono h (fun b s' h' => ?_) fun _ _ x => x)
  cases b with
  | true => exact h'
  | false => exact h'
theorem seg_For {target iter : Expr} {body orelse : List Stmt} {pos : Pos} (hs : ∀ x, foldedSetIterable iter env x = pure x)
    (h : wpAny M (A.over c fs) (eval iter env) (fun x s₁ => wpAny M (A.over c fs) (pyIter x) (fun it s₂ => ∀ p, Seg M A R Y n s₀ (.forLoop target it body orelse env) (M.den (.forLoop target it body orelse env))
      (.ret (fun r => ((match r with | .ok f => (.pure f : Sem Flow) | .error e => .raise e).onRaise fun (x : Value) => do
        if (← field x 1) == Value.none then unsupported "frame.own-activation:exception-without-traceback"
        setFlight x env.frame).wrap K H gd lv) none (gd false) (lv []) c p [] :: fs) s₂) (fun x s' => Seg M A R Y n s₀ c (H x) fs s') s₁) (fun x s' => Seg M A R Y n s₀ c (H x) fs s') s) :
    Seg M A R Y n s₀ c ((exec (.For target iter body orelse pos) env).wrap K H gd lv) fs s := by
  rw [exec_For]
  show Seg M A R Y n s₀ c (.at pos fun _ => ((eval iter env) >>= fun x => (foldedSetIterable iter env x >>= fun x => (standAt iter.pos >>= fun _ => (holding [x] (pyIter x) >>= fun it => runOwn (.forLoop target it body orelse env) env)))).wrap K H gd lv) fs s
  refine seg_at ?_
  rw [Sem.bind_eq_wrap', Sem.wrap_wrap]
  refine seg_wrap (wpAny_mono h (fun x s₁ h₁ => ?_) fun _ _ x => x)
  rw [hs x]
  show Seg M A R Y n s₀ c (.at iter.pos fun _ => (holding [x] (pyIter x) >>= fun it => runOwn (.forLoop target it body orelse env) env).wrap K H gd lv) fs s₁
  refine seg_at ?_
  rw [Sem.bind_eq_wrap', Sem.wrap_wrap]
  refine seg_wrap (wpAny_holding (wpAny_mono h₁ (fun it s₂ h₂ => ?_) fun _ _ x => x))
  exact seg_call h₂
end
section
variable {prog : Program} {w : World} {A : Around} {R : GenEnd} {Y : Protocol} {n : Nat} {s₀ : Shared} {fs : List Frame} {s : Shared} {env : Env}
theorem seg_forLoop {y : Str} {py : Pos} {it : Value} {body : List Stmt}
    (h : wpAny (model prog w) (A.over (.forLoop (.Name y py) it body [] env) fs) (pyNext it) (fun r s' => match r with
        | none => ∀ c, Seg (model prog w) A R Y n s₀ c (.pure (.done .next)) fs s'
        | some v => wpAny (model prog w) (A.over (.forLoop (.Name y py) it body [] env) fs) (assign (.Name y py) env v) (fun _ s'' =>
          Seg (model prog w) A R Y n s₀ (.forLoop (.Name y py) it body [] env) ((execs body env).wrap (fun f => match f with
            | .next | .cont => .pure (.again (.forLoop (.Name y py) it body [] env))
            | .brk => .pure (.done .next)
            | .ret v => .pure (.done (.ret v))) (fun e => (do noteFrame e env; theTreesLotGoes e : Sem Unit).wrap (fun _ => .raise e) .raise id id) id id) fs s'')
          (fun x s' => Seg (model prog w) A R Y n s₀ (.forLoop (.Name y py) it body [] env) ((do noteFrame x env; theTreesLotGoes x : Sem Unit).wrap (fun _ => .raise x) .raise id id) fs s') s')
      (fun _ _ => False) s) :
    Seg (model prog w) A R Y n s₀ (.forLoop (.Name y py) it body [] env) ((model prog w).den (.forLoop (.Name y py) it body [] env)) fs s := by
  show Seg _ A R Y n s₀ _ ((forTurn (.Name y py) it body [] env).onRaise (fun x => do noteFrame x env; theTreesLotGoes x)) fs s
  rw [Sem.onRaise_eq_wrap]
  show Seg _ A R Y n s₀ _ (.at py fun _ => (((pyNext it).onRaise (fun _ => standAt { py with line := 0 })) >>= fun r => match r with
    | none => again (.block [] env)
    | some v => (assign (.Name y py) env v >>= fun _ => (execs body env >>= fun f => match f with
      | .next | .cont => again (.forLoop (.Name y py) it body [] env)
      | .brk => pure (.done .next)
      | .ret v => pure (.done (.ret v))))).wrap .pure (fun e => (do noteFrame e env; theTreesLotGoes e : Sem Unit).bind fun _ => .raise e) id id) fs s
  refine seg_at ?_
  rw [Sem.bind_eq_wrap', Sem.wrap_wrap]
  refine seg_wrap (wpAny_onRaise (wpAny_mono h (fun r s' h' => ?_) fun _ _ h' => h'.elim))
  cases r with
  | none =>
    show Seg _ A R Y n s₀ _ (.pure (.again (.block [] env))) fs s'
    refine seg_again rfl ?_
    exact h' _
  | some v =>
    show Seg _ A R Y n s₀ _ ((assign (.Name y py) env v >>= fun _ => (execs body env >>= fun f => match f with
      | .next | .cont => again (.forLoop (.Name y py) it body [] env)
      | .brk => pure (.done .next)
      | .ret v => pure (.done (.ret v)))).wrap .pure (fun e => (do noteFrame e env; theTreesLotGoes e : Sem Unit).bind fun _ => .raise e) id id) fs s'
    rw [Sem.bind_eq_wrap', Sem.wrap_wrap]
    refine seg_wrap (wpAny_mono h' (fun _ s'' h'' => ?_) fun x s'' hx => ?_)
    · rw [Sem.bind_eq_wrap', Sem.wrap_wrap]
      rw [Sem.wrap_congr (execs body env) _ _ (K' := fun f => match f with
            | .next | .cont => .pure (.again (.forLoop (.Name y py) it body [] env))
            | .brk => .pure (.done .next)
            | .ret v => .pure (.done (.ret v))) (H' := (fun e => (do noteFrame e env; theTreesLotGoes e : Sem Unit).wrap (fun _ => .raise e) .raise id id))
        (fun f => by cases f <;> rfl)
        (fun e => by show (do noteFrame e env; theTreesLotGoes e : Sem Unit).bind (fun _ => .raise e) = _; rw [Sem.bind_eq_wrap])]
      exact h''
    · show Seg _ A R Y n s₀ _ ((do noteFrame x env; theTreesLotGoes x : Sem Unit).bind fun _ => .raise x) fs s''
      rw [Sem.bind_eq_wrap]; exact hx
end
noncomputable def lev3F (a b : Str) : Int := if a.length = 0 ∨ b.length = 0 then 2 * ((a.length : Int) + (b.length : Int)) else if b.length < a.length then dpF b a else dpF a b
theorem lev_s3 {w : World} {mean : ExcName → Option Value} {mg mb : Str → Option Value} {g : Heap} {L : Addr} {u : Str → Option Value} {news : List (Addr × Obj)} {base : Heap} {A₀ : Around} {s : Shared} {Q : Flow → Shared → Prop} {E : Value → Shared → Prop}
    {dp un : Nat} {gd : Option (List Code)} {outer : List Env} {a b : Str} {ta tb tc : Tok} {sc : Scope} {sts : List Stmt} (hsc : sc = fnScope 17) (hsts : sts = (fnBody 17).drop 9)
    (B : Below A₀ base outer g) (X : (heapK w.params).In g) (T : Top viewK (looseW viewK lse) mean mg mb g)
    (F : Fr g L s.heap (kstB u [(Str.ofString "a", Value.str a ta), (Str.ofString "b", Value.str b tb), (Str.ofString "max_cost", Value.int 6 tc)]))
    (N : News g L s.heap news) (hd1 : dp + 2 < recursionLimit) (hu1 : un + 16 < cLine)
    (ha : a.length ≤ 3) (hb : b.length ≤ 3)
    (hE : PassesOwn (model PySem.Challenge.rw_ti0055_01.row.toRowW.prog w) (ktrTop dp un gd (Str.ofString "_levenshtein_distance") sc L 101 (.ref 100) [] outer) (envOf (Str.ofString "_levenshtein_distance") sc L 101 (.ref 100)) E)
    (hret : ∀ t h' tk' m', Fr g L h' m' → News g L h' news → Q (.ret (.int (lev3F a b) t)) { s with heap := h', toks := tk' }) :
    wpAny (model PySem.Challenge.rw_ti0055_01.row.toRowW.prog w) (ktrTop dp un gd (Str.ofString "_levenshtein_distance") sc L 101 (.ref 100) [] outer) (execs sts (envOf (Str.ofString "_levenshtein_distance") sc L 101 (.ref 100))) Q E s := by
  have hE' := hE
  revert X; k_fill; intro X
  dsimp only [kstB] at F
  (conv at hsc => rhs; whnf); subst hsc
  (conv at hsts => rhs; whnf); subst hsts
  repeat' ((fail_if_success (with_reducible refine at_line 59 ?_ (by with_unfolding_all rfl))); walk_at "m1")
  rotate_left
  · have e9 : lev3F a b = 2 * ((a.length : Int) + (b.length : Int)) := by rw [lev3F, if_pos (Or.inr (by omega))]
    exact e9 ▸ hret _ _ _ _ (by assumption) (by assumption)
  · have e9 : lev3F a b = 2 * ((a.length : Int) + (b.length : Int)) := by rw [lev3F, if_pos (Or.inl (by omega))]
    exact e9 ▸ hret _ _ _ _ (by assumption) (by assumption)
  dsimp only
  have e9 : lev3F a b = if b.length < a.length then dpF b a else dpF a b := by rw [lev3F, if_neg (by omega)]
  rw [e9] at hret
  (rename Fr _ _ _ _ => F)
  rcases (by omega : b.length < a.length ∨ a.length ≤ b.length) with hlt | hlt
  · rw [if_pos hlt] at hret
    repeat' ((fail_if_success (with_reducible refine at_line 63 ?_ (by with_unfolding_all rfl))); walk_at "m1")
    dsimp only
    (rename Fr _ _ _ _ => F5)
    (rename News _ _ _ _ => N5)
    refine' lev_s4 (s := ⟨_, _, _, _, _⟩) rfl rfl B X T (fr_kst [(Str.ofString "a", Value.str b _), (Str.ofString "b", Value.str a _), (Str.ofString "max_cost", Value.int 6 tc)] F5 ?ck) N5 hd1 hu1 (by omega) (by omega) ha hE' ?_
    case ck => kst_all
    · exact fun t h' tk' m' F' N' => hret t h' tk' m' F' (cb_drop N' fun p hp => .tail _ hp)
  · rw [if_neg (by omega)] at hret
    repeat' ((fail_if_success (with_reducible refine at_line 63 ?_ (by with_unfolding_all rfl))); walk_at "m1")
    dsimp only
    (rename Fr _ _ _ _ => F5)
    (rename News _ _ _ _ => N5)
    refine' lev_s4 (s := ⟨_, _, _, _, _⟩) rfl rfl B X T (fr_kst [(Str.ofString "a", Value.str a _), (Str.ofString "b", Value.str b _), (Str.ofString "max_cost", Value.int 6 tc)] F5 ?ck2) N5 hd1 hu1 (by omega) (by omega) hb hE' ?_
    case ck2 => kst_all
    · exact hret
section
noncomputable def cutS (a : Str) (q : Int) : Str := if q = 0 then a else Txt.slice a none (some q)
theorem cutS_le (a : Str) (q : Int) : (cutS a q).length ≤ a.length := by
  unfold cutS
  split
  · exact Nat.le_refl _
  · exact PyProof.Txt.length_slice_le _ _ _
noncomputable def postN (a b : Str) : Nat → Int → Int
  | 0, q => q
  | n + 1, q => if (cutS a q).length ≠ 0 ∧ (cutS b q).length ≠ 0 ∧ (Txt.item a (q - 1) == Txt.item b (q - 1)) = true then postN a b n (q - 1) else q
noncomputable def postF (a b : Str) : Int := postN a b 4 0
theorem post_step {a b : Str} {q : Int} (h0 : q ≤ 0) (h3 : -2 ≤ q) (h1 : (cutS a q).length ≠ 0) (h2 : (cutS b q).length ≠ 0) (h4 : (Txt.item a (q - 1) == Txt.item b (q - 1)) = true) (e' : Hd (postN a b (4 + q).toNat q = postN a b 4 0)) :
    Hd (postN a b (4 + (q - 1)).toNat (q - 1) = postN a b 4 0) := by
  have e := e'.out
  refine ⟨?_⟩
  have : (4 + q).toNat = (4 + (q - 1)).toNat + 1 := by rw [toNat_step (by omega), Int.add_sub_assoc]
  rw [this] at e
  rw [← e]
  show _ = if _ then _ else _
  rw [if_pos ⟨h1, h2, h4⟩]
theorem post_stop {a b : Str} {q : Int} (h3 : -3 ≤ q) (h1 : ¬ ((cutS a q).length ≠ 0 ∧ (cutS b q).length ≠ 0 ∧ (Txt.item a (q - 1) == Txt.item b (q - 1)) = true)) (e' : Hd (postN a b (4 + q).toNat q = postN a b 4 0)) : q = postF a b := by
  have e := e'.out
  have : (4 + q).toNat = (3 + q).toNat + 1 := by rw [toNat_step (by omega), Int.add_comm 4 q, Int.add_sub_assoc, Int.add_comm q]; rfl
  rw [this] at e
  unfold postF
  rw [← e]
  show _ = if _ then _ else _
  rw [if_neg h1]
noncomputable def lev2F (a b : Str) : Int := lev3F (cutS a (postF a b)) (cutS b (postF a b))
section
local macro_rules | `(tactic| walk_at "mcut3") => `(tactic| (refine' cut_end (_, _, _) (by assumption) (by assumption) ?ck ?cn ?cp; (case ck => kst_all); (case cn => kst_in); (case cp => trivial)))
local macro_rules | `(tactic| walk_at "mcut2") => `(tactic| (refine' cut_end (_, _) (by assumption) (by assumption) ?ck ?cn ?cp; (case ck => kst_all); (case cn => kst_in); (case cp => trivial)))
local macro_rules | `(tactic| walk_at "subscriptTail Name Slice str ref") => `(tactic| ((with_reducible show wpAny _ _ (subscriptTail _ (Expr.Slice none (some _) none _) (Value.str _ _) (Value.ref _)) _ _ _); (with_reducible rename Fr _ _ _ _ => F'); (with_reducible rename News _ _ _ _ => N'); refine slice_none_str (s := ⟨_, _, _, _, _⟩) F' N' ?_; intro _ _ _ _ _))
theorem lev_s2 {w : World} {mean : ExcName → Option Value} {mg mb : Str → Option Value} {g : Heap} {L : Addr} {u : Str → Option Value} {news : List (Addr × Obj)} {base : Heap} {A₀ : Around} {s : Shared} {Q : Flow → Shared → Prop} {E : Value → Shared → Prop}
    {dp un : Nat} {gd : Option (List Code)} {outer : List Env} {a1 b1 : Str} {ta tb tc : Tok} {sc : Scope} {sts : List Stmt} (hsc : sc = fnScope 17) (hsts : sts = (fnBody 17).drop 5)
    (B : Below A₀ base outer g) (X : (heapK w.params).In g) (T : Top viewK (looseW viewK lse) mean mg mb g)
    (F : Fr g L s.heap (kstB u [(Str.ofString "a", Value.str a1 ta), (Str.ofString "b", Value.str b1 tb), (Str.ofString "max_cost", Value.int 6 tc)]))
    (N : News g L s.heap news) (hd1 : dp + 2 < recursionLimit) (hu1 : un + 16 < cLine)
    (hl1 : a1.length ≤ 3) (hl2 : b1.length ≤ 3)
    (hE : PassesOwn (model PySem.Challenge.rw_ti0055_01.row.toRowW.prog w) (ktrTop dp un gd (Str.ofString "_levenshtein_distance") sc L 101 (.ref 100) [] outer) (envOf (Str.ofString "_levenshtein_distance") sc L 101 (.ref 100)) E)
    (hret : ∀ t h' tk' m', Fr g L h' m' → News g L h' news → Q (.ret (.int (lev2F a1 b1) t)) { s with heap := h', toks := tk' }) :
    wpAny (model PySem.Challenge.rw_ti0055_01.row.toRowW.prog w) (ktrTop dp un gd (Str.ofString "_levenshtein_distance") sc L 101 (.ref 100) [] outer) (execs sts (envOf (Str.ofString "_levenshtein_distance") sc L 101 (.ref 100))) Q E s := by
  have hE' := hE
  revert X; k_fill; intro X
  dsimp only [kstB] at F
  (conv at hsc => rhs; whnf); subst hsc
  (conv at hsts => rhs; whnf); subst hsts
  repeat' ((fail_if_success (with_reducible refine at_line 51 ?_ (by with_unfolding_all rfl))); walk_at "m1")
  dsimp only
  (rename Fr _ _ _ _ => F)
  refine cutN (σ := Tok × Tok × Tok) 1 F (fun x => [(Str.ofString "a", Value.str a1 x.1), (Str.ofString "b", Value.str b1 x.2.1), (Str.ofString "max_cost", Value.int 6 tc), (Str.ofString "post", Value.int (postF a1 b1) x.2.2)]) (fun _ => news) (fun _ => True) ?_ ?_
  · dsimp only [List.take]
    refine absQ ?_; intro R9 hR9
    refine wpAny_execs_cons ?_
    (rename Fr _ _ _ _ => F)
    (rename News _ _ _ _ => N)
    with_unfolding_all refine' while_cut (s := ⟨_, _, _, _, _⟩) (σ := Int × Tok × Tok × Tok) (fun c => [(Str.ofString "a", Value.str a1 c.2.1), (Str.ofString "b", Value.str b1 c.2.2.1), (Str.ofString "max_cost", Value.int 6 tc), (Str.ofString "post", Value.int c.1 c.2.2.2)]) (fun _ => news) (fun c => -3 ≤ c.1 ∧ c.1 ≤ 0 ∧ Hd (postN a1 b1 (4 + c.1).toNat c.1 = postN a1 b1 4 0)) (fun c => (3 + c.1).toNat) (0, _, _, _) F N ?hk ?hn ?hp ?_ ?hE
    case hk => kst_all
    case hn => kst_in
    case hp => exact ⟨by dsimp only; omega, by dsimp only; omega, Hd.mk rfl⟩
    case hE => first | passes_own | with_unfolding_all passes_own
    rintro ⟨q, tq1, tq2, tq3⟩ u h8 tk8 F8 N8 ⟨hq1, hq2, hq3⟩
    dsimp only [kstB] at F8 hq1 hq2 hq3
    dsimp only
    clear F N
    refine absW ?_; intro R8 R7 hR8 hR7
    rcases (by omega : q = 0 ∨ q < 0) with hq0 | hq0
    · repeat' (walk_at "m1")
      all_goals (try dsimp only)
      · refine' cut_end (q - 1, _, _, _) (by assumption) (by assumption) ?ck ?cn ?cp
        case ck => kst_all
        case cn => kst_in
        case cp => exact ⟨⟨by dsimp only; omega, by dsimp only; omega, post_step (by omega) (by omega) (by rw [cutS, if_pos hq0]; omega) (by rw [cutS, if_pos hq0]; omega) (by assumption) hq3⟩, by dsimp only; omega⟩
      all_goals ((have hp9 := post_stop (a := a1) (b := b1) hq1 (fun h9 => by first
            | exact Bool.false_ne_true ((Eq.symm (by assumption)).trans h9.2.2)
            | (have h91 := h9.1; rw [cutS, if_pos hq0] at h91; omega)
            | (have h91 := h9.2.1; rw [cutS, if_pos hq0] at h91; omega)) hq3); rw [← hp9]; walk_at "mcut3")
    · have hA := slice_neg_or (x := a1) hq0
      have hB := slice_neg_or (x := b1) hq0
      repeat' (walk_at "m1")
      all_goals (try dsimp only)
      all_goals first
        | (refine' cut_end (q - 1, _, _, _) (by assumption) (by assumption) ?ck ?cn ?cp; (case ck => kst_all); (case cn => kst_in); (case cp => ((have x1 : -2 ≤ q := by omega); exact ⟨⟨by dsimp only; omega, by dsimp only; omega, post_step (by omega) (by omega) (by rw [cutS, if_neg (by omega)]; omega) (by rw [cutS, if_neg (by omega)]; omega) (by assumption) hq3⟩, by dsimp only; omega⟩)); done)
        | ((have hp9 := post_stop (a := a1) (b := b1) hq1 (fun h9 => by first
            | exact Bool.false_ne_true ((Eq.symm (by assumption)).trans h9.2.2)
            | (have h91 := h9.1; rw [cutS, if_neg (by omega)] at h91; omega)
            | (have h91 := h9.2.1; rw [cutS, if_neg (by omega)] at h91; omega)) hq3); rw [← hp9]; walk_at "mcut3")
  rintro ⟨ta1, tb1, tq1⟩ u1 h7 tk7 F7 N7 -
  dsimp only [kstB] at F7
  dsimp only [List.drop]
  (rename Fr _ _ _ _ => F)
  refine cutN (σ := Tok × Tok × Tok) 1 F (fun x => [(Str.ofString "a", Value.str (cutS a1 (postF a1 b1)) x.1), (Str.ofString "b", Value.str b1 x.2.1), (Str.ofString "max_cost", Value.int 6 tc), (Str.ofString "post", Value.int (postF a1 b1) x.2.2)]) (fun _ => news) (fun _ => True) ?_ ?_
  · dsimp only [List.take]
    refine absQ ?_; intro R9 hR9
    generalize postF a1 b1 = q at *
    rcases (by omega : q = 0 ∨ q ≠ 0) with hq0 | hq0
    all_goals (repeat' (walk_at "m1"))
    all_goals (try dsimp only)
    · have e9 : cutS a1 q = a1 := by rw [cutS, if_pos hq0]
      rw [e9]; walk_at "mcut3"
    · have e9 : cutS a1 q = Txt.slice a1 none (some q) := by rw [cutS, if_neg hq0]
      rw [e9]; walk_at "mcut3"
  rintro ⟨ta2, tb2, tq2⟩ u2 h6 tk6 F6 N6 -
  dsimp only [kstB] at F6
  dsimp only [List.drop]
  (rename Fr _ _ _ _ => F)
  refine cutN (σ := Tok × Tok) 1 F (fun x => [(Str.ofString "a", Value.str (cutS a1 (postF a1 b1)) x.1), (Str.ofString "b", Value.str (cutS b1 (postF a1 b1)) x.2), (Str.ofString "max_cost", Value.int 6 tc)]) (fun _ => news) (fun _ => True) ?_ ?_
  · dsimp only [List.take]
    refine absQ ?_; intro R9 hR9
    generalize cutS a1 (postF a1 b1) = a2 at *
    generalize postF a1 b1 = q at *
    rcases (by omega : q = 0 ∨ q ≠ 0) with hq0 | hq0
    all_goals (repeat' (walk_at "m1"))
    all_goals (try dsimp only)
    · have e9 : cutS b1 q = b1 := by rw [cutS, if_pos hq0]
      rw [e9]; walk_at "mcut2"
    · have e9 : cutS b1 q = Txt.slice b1 none (some q) := by rw [cutS, if_neg hq0]
      rw [e9]; walk_at "mcut2"
  rintro ⟨ta3, tb3⟩ u3 h5 tk5 F5 N5 -
  dsimp only [List.drop]
  exact lev_s3 (s := ⟨_, _, _, _, _⟩) rfl rfl B X T F5 N5 hd1 hu1 (Nat.le_trans (cutS_le _ _) hl1) (Nat.le_trans (cutS_le _ _) hl2) hE' hret
end
end
section
local macro_rules | `(tactic| walk_at "z") => `(tactic| fail)
local macro_rules | `(tactic| walk_at "z") => `(tactic| fail)
local macro_rules | `(tactic| walk_at "z") => `(tactic| fail)
noncomputable def preN (a b : Str) : Nat → Int → Int
  | 0, p => p
  | n + 1, p => if (Txt.slice a (some p) none).length ≠ 0 ∧ (Txt.slice b (some p) none).length ≠ 0 ∧ (Txt.item a p == Txt.item b p) = true then preN a b n (p + 1) else p
noncomputable def preF (a b : Str) : Int := preN a b 4 0
theorem pre_step {a b : Str} {p : Int} (h0 : 0 ≤ p) (h3 : p ≤ 2) (h1 : (Txt.slice a (some p) none).length ≠ 0) (h2 : (Txt.slice b (some p) none).length ≠ 0) (h4 : (Txt.item a p == Txt.item b p) = true) (e' : Hd (preN a b (4 - p).toNat p = preN a b 4 0)) :
    Hd (preN a b (4 - (p + 1)).toNat (p + 1) = preN a b 4 0) := by
  have e := e'.out
  refine ⟨?_⟩
  have : (4 - p).toNat = (4 - (p + 1)).toNat + 1 := by rw [toNat_step (by omega), Int.sub_sub]
  rw [this] at e
  rw [← e]
  show _ = if _ then _ else _
  rw [if_pos ⟨h1, h2, h4⟩]
theorem pre_stop {a b : Str} {p : Int} (h3 : p ≤ 3) (h1 : ¬ ((Txt.slice a (some p) none).length ≠ 0 ∧ (Txt.slice b (some p) none).length ≠ 0 ∧ (Txt.item a p == Txt.item b p) = true)) (e' : Hd (preN a b (4 - p).toNat p = preN a b 4 0)) : p = preF a b := by
  have e := e'.out
  have : (4 - p).toNat = (3 - p).toNat + 1 := by rw [toNat_step (by omega), Int.sub_sub, Int.add_comm p 1, ← Int.sub_sub]; rfl
  rw [this] at e
  unfold preF
  rw [← e]
  show _ = if _ then _ else _
  rw [if_neg h1]
noncomputable def levF (a b : Str) : Int := if (a == b) = true then 0 else lev2F (Txt.slice a (some (preF a b)) none) (Txt.slice b (some (preF a b)) none)
section
local macro_rules | `(tactic| walk_at "mcut3") => `(tactic| (refine' cut_end (_, _, _) (by assumption) (by assumption) ?ck ?cn ?cp; (case ck => kst_all); (case cn => kst_in); (case cp => trivial)))
local macro_rules | `(tactic| walk_at "mcut2") => `(tactic| (refine' cut_end (_, _) (by assumption) (by assumption) ?ck ?cn ?cp; (case ck => kst_all); (case cn => kst_in); (case cp => trivial)))
theorem lev_s1 {w : World} {mean : ExcName → Option Value} {mg mb : Str → Option Value} {g : Heap} {L : Addr} {u : Str → Option Value} {news : List (Addr × Obj)} {base : Heap} {A₀ : Around} {s : Shared} {Q : Flow → Shared → Prop} {E : Value → Shared → Prop}
    {dp un : Nat} {gd : Option (List Code)} {outer : List Env} {a b : Str} {ta tb tc : Tok} {sc : Scope} {sts : List Stmt} (hsc : sc = fnScope 17) (hsts : sts = fnBody 17)
    (B : Below A₀ base outer g) (X : (heapK w.params).In g) (T : Top viewK (looseW viewK lse) mean mg mb g)
    (F : Fr g L s.heap (kstB u [(Str.ofString "a", Value.str a ta), (Str.ofString "b", Value.str b tb), (Str.ofString "max_cost", Value.int 6 tc)]))
    (N : News g L s.heap news) (hd1 : dp + 2 < recursionLimit) (hu1 : un + 16 < cLine)
    (hl1 : a.length ≤ 3) (hl2 : b.length ≤ 3)
    (hE : PassesOwn (model PySem.Challenge.rw_ti0055_01.row.toRowW.prog w) (ktrTop dp un gd (Str.ofString "_levenshtein_distance") sc L 101 (.ref 100) [] outer) (envOf (Str.ofString "_levenshtein_distance") sc L 101 (.ref 100)) E)
    (hret : ∀ t h' tk' m', Fr g L h' m' → News g L h' news → Q (.ret (.int (levF a b) t)) { s with heap := h', toks := tk' }) :
    wpAny (model PySem.Challenge.rw_ti0055_01.row.toRowW.prog w) (ktrTop dp un gd (Str.ofString "_levenshtein_distance") sc L 101 (.ref 100) [] outer) (execs sts (envOf (Str.ofString "_levenshtein_distance") sc L 101 (.ref 100))) Q E s := by
  have hE' := hE
  revert X; k_fill; intro X
  dsimp only [kstB] at F
  (conv at hsc => rhs; whnf); subst hsc
  (conv at hsts => rhs; whnf); subst hsts
  repeat' ((fail_if_success (with_reducible refine at_line 46 ?_ (by with_unfolding_all rfl))); walk_at "m1")

  · have e9 : levF a b = 0 := by rw [levF, if_pos (by assumption)]
    refine e9 ▸ hret _ _ _ _ (by assumption) (by assumption)
  dsimp only
  (rename Fr _ _ _ _ => F)
  refine cutN (σ := Tok × Tok × Tok) 1 F (fun x => [(Str.ofString "a", Value.str a x.2.1), (Str.ofString "b", Value.str b x.2.2), (Str.ofString "max_cost", Value.int 6 tc), (Str.ofString "pre", Value.int (preF a b) x.1)]) (fun _ => news) (fun _ => True) ?_ ?_
  · dsimp only [List.take]
    refine absQ ?_; intro R9 hR9
    refine wpAny_execs_cons ?_
    (rename Fr _ _ _ _ => F)
    (rename News _ _ _ _ => N)
    with_unfolding_all refine' while_cut (s := ⟨_, _, _, _, _⟩) (σ := Int × Tok × Tok × Tok) (fun c => [(Str.ofString "a", Value.str a c.2.1), (Str.ofString "b", Value.str b c.2.2.1), (Str.ofString "max_cost", Value.int 6 tc), (Str.ofString "pre", Value.int c.1 c.2.2.2)]) (fun _ => news) (fun c => 0 ≤ c.1 ∧ c.1 ≤ 3 ∧ Hd (preN a b (4 - c.1).toNat c.1 = preN a b 4 0)) (fun c => (3 - c.1).toNat) (0, _, _, _) F N ?hk ?hn ?hp ?_ ?hE
    case hk => kst_all
    case hn => kst_in
    case hp => exact ⟨by dsimp only; omega, by dsimp only; omega, Hd.mk rfl⟩
    case hE => first | passes_own | with_unfolding_all passes_own
    rintro ⟨q, tq1, tq2, tq3⟩ u h8 tk8 F8 N8 ⟨hq1, hq2, hq3⟩
    dsimp only [kstB] at F8 hq1 hq2 hq3
    dsimp only
    clear F N
    refine absW ?_; intro R8 R7 hR8 hR7
    repeat' (walk_at "m1")
    all_goals (try dsimp only)
  
    all_goals first
        | (have x1 : q ≤ 2 := by omega
           refine' cut_end (q + 1, _, _, _) (by assumption) (by assumption) ?ck ?cn ?cp; (case ck => kst_all); (case cn => kst_in); (case cp => exact ⟨⟨by dsimp only; omega, by dsimp only; omega, pre_step (by omega) (by omega) (by omega) (by omega) (by assumption) hq3⟩, by dsimp only; omega⟩); done)
        | ((have hp9 := pre_stop (a := a) (b := b) hq2 (fun h9 => by first
            | exact Bool.false_ne_true ((Eq.symm (by assumption)).trans h9.2.2)
            | (have h91 := h9.1; omega)
            | (have h91 := h9.2.1; omega)) hq3); rw [← hp9]; walk_at "mcut3")
  intro x u h9 tk9 F9 N9 hP
  dsimp only [List.drop]
  dsimp only [kstB] at F9
  clear F
  repeat' ((fail_if_success (with_reducible refine at_line 50 ?_ (by with_unfolding_all rfl))); walk_at "m1")

  dsimp only
  (rename Fr _ _ _ _ => F5)
  (rename News _ _ _ _ => N5)
  have e8 : ¬ (a == b) = true := by rw [‹(a == b) = false›]; exact Bool.false_ne_true
  have e9 : levF a b = lev2F (Txt.slice a (some (preF a b)) none) (Txt.slice b (some (preF a b)) none) := by rw [levF, if_neg e8]
  refine' lev_s2 (s := ⟨_, _, _, _, _⟩) rfl rfl B X T (fr_kst [(Str.ofString "a", Value.str (Txt.slice a (some (preF a b)) none) _), (Str.ofString "b", Value.str (Txt.slice b (some (preF a b)) none) _), (Str.ofString "max_cost", Value.int 6 tc)] F5 ?ck) N5 hd1 hu1 (Nat.le_trans (PyProof.Txt.length_slice_le _ _ _) hl1) (Nat.le_trans (PyProof.Txt.length_slice_le _ _ _) hl2) hE' ?_
  case ck => kst_all
  · intro t h' tk' m' F' N'
    exact e9 ▸ hret t h' tk' m' F' N'
end
end
section
variable {w : World} {mean : ExcName → Option Value} {mg mb : Str → Option Value} {news : List (Addr × Obj)} {dp un : Nat} {gd : Option (List Code)} {cn : Str} {cs : Scope} {a : Addr} {ccd : Value} {cl : List (Str × Addr)} {outer : List Env} {A₀ : Around} {base h₀ : Heap} {L : Addr} {m : Str → Option Value} {s : Shared} {Q E : Value → Shared → Prop}
theorem lev_call {x y : Str} {tx ty tz : Tok} (B : Below A₀ base outer h₀) (F : Fr h₀ L s.heap m) (X : (heapK w.params).In h₀) (N : News h₀ L s.heap news) (T : Top viewK (looseW viewK lse) mean mg mb h₀) (hk : cs.kind = .function) (hx : x.length ≤ 3) (hy : y.length ≤ 3)
    (hd1 : dp + 3 < recursionLimit) (hu1 : un + 24 < cLine) (hret : ∀ (t : Tok) (h' : Heap) (tk' : Nat), Fr h₀ L h' m → News h₀ L h' news → Q (.int (levF x y) t) { s with heap := h', toks := tk' }) :
    wpAny (model PySem.Challenge.rw_ti0055_01.row.toRowW.prog w) (ktrTop dp un gd cn cs L a ccd cl outer) (call (.ref 101) [.str x tx, .str y ty, .int 6 tz]) Q E s := by
  revert X; k_fill; intro X
  refine wpAny_call ?_
  k_dflt cell_enter
  refine' lev_s1 (s := ⟨_, _, _, _, _⟩) (outer := envX cn cs L a ccd cl :: outer) (a := x) (b := y) rfl rfl (by assumption) (by assumption) (by assumption) (fr_kst [(Str.ofString "a", Value.str x tx), (Str.ofString "b", Value.str y ty), (Str.ofString "max_cost", Value.int 6 tz)] (by assumption) ?ck) (by assumption) ?h1 ?h2 hx hy ?hE ?hr
  case ck => kst_all
  case h1 => omega
  case h2 => (show un + 3 + 16 < cLine; omega)
  case hE => passes_own
  case hr =>
    intro t h1 tk1 m1 F1 N1
    repeat' (walk_at "m1")
    exact hret _ _ _ (by assumption) (by assumption)
end
section
noncomputable def kept (x y : Str) : Int := if (x == y) = true then 4 else if (Txt.lower x == Txt.lower y) = true then 3 else 2
noncomputable def dueRow (c b : Str) (ws : List Int) : Nat → List Int
  | 0 => [0]
  | j + 1 => dueRow c b ws j ++ [mx3 (ws.getD j 0 + kept c (sign b j)) (ws.getD (j + 1) 0) ((dueRow c b ws j).getD j 0)]
noncomputable def dueW (a b : Str) : Nat → List Int
  | 0 => List.replicate (b.length + 1) 0
  | i + 1 => dueRow (sign a i) b (dueW a b i) b.length
noncomputable def dueF (a b : Str) : Int := 2 * ((a.length : Int) + (b.length : Int)) - (dueW a b a.length).getD b.length 0
theorem dueRow_len (c b : Str) (ws : List Int) : ∀ j, (dueRow c b ws j).length = j + 1
  | 0 => rfl
  | j + 1 => by
    show (dueRow c b ws j ++ [_]).length = _
    rw [List.length_append, dueRow_len c b ws j]; rfl
theorem dueW_len (a b : Str) : ∀ i, (dueW a b i).length = b.length + 1
  | 0 => List.length_replicate ..
  | i + 1 => dueRow_len _ _ _ _
theorem due_step {c b : Str} {ws : List Int} {rs : List Value} {j : Nat} {k : Int} {q : Tok} (h : IntsAre rs (dueRow c b ws j)) (hk : kept c (sign b j) = k) :
    IntsAre (rs ++ [.int (mx3 (ws.getD ((j : Int)).toNat 0 + k) (ws.getD ((j : Int) + 1).toNat 0) ((dueRow c b ws j).getD ((j : Int)).toNat 0)) q]) (dueRow c b ws (j + 1)) := by
  subst hk
  exact h.append (.cons _ _ .nil)
theorem rep_one (n : Nat) : (List.replicate n [(0 : Int)]).flatten = List.replicate n 0 := by
  induction n with
  | zero => rfl
  | succ n ih => rw [List.replicate_succ, List.flatten_cons, ih]; rfl
section
local macro_rules | `(tactic| walk_at "call builtin:max") => `(tactic| ((with_reducible show wpAny _ _ (call (Value.builtin _) [Value.int _ _, Value.int _ _, Value.int _ _]) _ _ _); (refine' max_three (s := ⟨_, _, _, _, _⟩) ?hh ?F ?N ?_; (case hh => exact rfl); (case F => k_asm); (case N => k_asm)); intro h' tk' q' F' N'))
local macro_rules | `(tactic| walk_at "call builtin:list.append") => `(tactic| ((with_reducible show wpAny _ _ (call (Value.builtin _) [Value.ref _, _]) _ _ _); (refine' append_vs (s := ⟨_, _, _, _, _⟩) ?F ?N ?U ?hz ?_; (case F => k_asm); (case N => k_asm); (case U => assumption); (case hz => assumption)); intro h' F' N'; (try dsimp only at N')))
theorem due_s1 {w : World} {mean : ExcName → Option Value} {mg mb : Str → Option Value} {g : Heap} {L : Addr} {u : Str → Option Value} {news : List (Addr × Obj)} {base : Heap} {A₀ : Around} {s : Shared} {Q : Flow → Shared → Prop} {E : Value → Shared → Prop}
    {dp un : Nat} {gd : Option (List Code)} {outer : List Env} {a b : Str} {ta tb : Tok} {sc : Scope} {sts : List Stmt} (hsc : sc = fnScope 28) (hsts : sts = fnBody 28)
    (B : Below A₀ base outer g) (X : (heapK w.params).In g) (T : Top viewK (looseW viewK lse) mean mg mb g)
    (F : Fr g L s.heap (kstB u [(Str.ofString "one", Value.str a ta), (Str.ofString "other", Value.str b tb)]))
    (N : News g L s.heap news) (hd1 : dp + 2 < recursionLimit) (hu1 : un + 16 < cLine)
    (hl1 : a.length ≤ 3) (hl2 : b.length ≤ 3)
    (hE : PassesOwn (model PySem.Challenge.rw_ti0055_01.row.toRowW.prog w) (ktrTop dp un gd (Str.ofString "_law_due") sc L 271 (.ref 270) [] outer) (envOf (Str.ofString "_law_due") sc L 271 (.ref 270)) E)
    (hret : ∀ t h' tk' m', Fr g L h' m' → News g L h' news → Q (.ret (.int (dueF a b) t)) { s with heap := h', toks := tk' }) :
    wpAny (model PySem.Challenge.rw_ti0055_01.row.toRowW.prog w) (ktrTop dp un gd (Str.ofString "_law_due") sc L 271 (.ref 270) [] outer) (execs sts (envOf (Str.ofString "_law_due") sc L 271 (.ref 270))) Q E s := by
  have hE' := hE
  revert X; k_fill; intro X
  dsimp only [kstB] at F
  (conv at hsc => rhs; whnf); subst hsc
  (conv at hsts => rhs; whnf); subst hsts
  repeat' ((fail_if_success (with_reducible refine is_fors ?_)); walk_at "m1")
  dsimp only
  have e0 : (List.replicate ((b.length : Int) + 1).toNat [(0 : Int)]).flatten = List.replicate (b.length + 1) 0 := by rw [show ((b.length : Int) + 1).toNat = b.length + 1 by omega, rep_one]
  rename IntsAre _ _ => hi₀
  rw [e0] at hi₀
  rename _ ∧ AllLt _ _ => hlt0
  (rename Fr _ _ _ _ => F1)
  refine cutN (σ := Addr × List Value × Nat) 1 F1 (fun x => [(Str.ofString "one", Value.str a ta), (Str.ofString "other", Value.str b tb), (Str.ofString "worth", Value.ref x.1)]) (fun x => (x.1, listOf x.2.1.toArray x.2.2) :: news) (fun x => IntsAre x.2.1 (dueW a b a.length)) ?_ ?_
  · dsimp only [List.take]
    refine absQ ?_; intro R9 hR9
    refine wpAny_execs_cons ?_
    refine for_start ?_ ?hs9; case hs9 => (intro _; rfl)
    repeat' (walk_at "m1")
    (rename Fr _ _ _ _ => F9)
    (rename News _ _ _ _ => N9)
    with_unfolding_all refine' str_cut (s := ⟨_, _, _, _, _⟩) (σ := Addr × List Value × Nat) ?hh (fun x => [(Str.ofString "one", Value.str a ta), (Str.ofString "other", Value.str b tb), (Str.ofString "worth", Value.ref x.1)]) (fun x => (x.1, listOf x.2.1.toArray x.2.2) :: news) (fun I i x => x.1 ≠ I ∧ (∀ p ∈ news, p.1 ≠ I) ∧ IntsAre x.2.1 (dueW a b i)) (_, _, _) F9 N9 ?hk ?hn ?hj ?hoff ?turn ?done ?hE
    case hh => rfl
    case hk => kst_all
    case hn => kst_in
    case hj => exact fun I hI => ⟨Nat.ne_of_lt (hI _ (.head _)), fun p hp => Nat.ne_of_lt (hI p (.tail _ (.tail _ hp))), hi₀⟩
    case hoff =>
      rintro I i x ⟨h1, h2, _⟩ p hp
      rcases List.mem_cons.mp hp with rfl | hp
      · exact h1
      · exact h2 p hp
    case hE => exact hE
    case done =>
      rintro I ⟨W, ws, k⟩ u8 h8 tk8 ⟨_, _, hJ⟩ F8 N8
      dsimp only at hJ
      refine wpAny_execs_nil ?_
      (try (with_reducible refine fp_end (by assumption) ?_))
      dsimp only
      refine' cut_end (W, ws, k) F8 N8 ?ck ?cn ?cp
      case ck => kst_all
      case cn => kst_in
      case cp => exact hJ
    case turn =>
      rintro i ⟨W, ws, k⟩ u8 h8 tk8 I oI t8 hlt ⟨hWI, hnI, hJ⟩ F8 N8
      dsimp only at hJ hWI
      dsimp only [kstB] at F8
      (try (refine absT ?_; intro R8 hR8))
      clear F9 N9
      repeat' ((fail_if_success (with_reducible refine is_fors ?_)); walk_at "m1")
      rename _ ∧ _ ∧ AllLt _ _ => hR
      rename Addr => R
      rename News _ _ _ _ => N9
      rename Fr _ _ _ _ => F9
      dsimp only at N9
      dsimp only
      refine cutN (σ := List Value × Nat) 1 F9 (fun x => [(Str.ofString "one", Value.str a ta), (Str.ofString "other", Value.str b tb), (Str.ofString "row", Value.ref R)]) (fun x => (R, listOf x.1.toArray x.2) :: (I, oI) :: news) (fun x => IntsAre x.1 (dueRow (sign a i) b (dueW a b i) b.length)) ?_ ?_
      · dsimp only [List.take]
        refine absQ ?_; intro R9 hR9
        refine wpAny_execs_cons ?_
        refine for_start ?_ ?hs9; case hs9 => (intro _; rfl)
        repeat' ((fail_if_success (with_reducible refine is_enum ?_)); walk_at "m1")
        (rename Fr _ _ _ _ => F9)
        (rename News _ _ _ _ => N9)
        with_unfolding_all refine' enum_cut (s := ⟨_, _, _, _, _⟩) (σ := List Value × Nat) ?hh (fun x => [(Str.ofString "one", Value.str a ta), (Str.ofString "other", Value.str b tb), (Str.ofString "worth", Value.ref W), (Str.ofString "sign", Value.str (sign a i) t8), (Str.ofString "row", Value.ref R)]) (fun x => (R, listOf x.1.toArray x.2) :: (I, oI) :: (W, listOf ws.toArray k) :: news) (fun j x => IntsAre x.1 (dueRow (sign a i) b (dueW a b i) j)) ([_], 0) F9 N9 ?hk ?hn ?hj ?hadr ?turn ?done ?hE
        case hh => rfl
        case hk => kst_all
        case hn => kst_in
        case hj => exact IntsAre.cons _ _ IntsAre.nil
        case hadr => exact fun _ _ _ => rfl
        case hE => exact hE
        case done =>
          rintro ⟨rs, kr⟩ u7 h7 tk7 hJ7 F7 N7
          dsimp only at hJ7
          refine wpAny_execs_nil ?_
          (try (with_reducible refine fp_end (by assumption) ?_))
          dsimp only
          refine' cut_end (rs, kr) F7 N7 ?ck ?cn ?cp
          case ck => kst_all
          case cn => kst_in
          case cp => exact hJ7
        case turn =>
          rintro j ⟨rs, kr⟩ u7 h7 tk7 I2 oI2 oE2 t2 t3 T2 hlt2 hJ7 lI2 F7 N7 hT2
          dsimp only at hJ7 N7
          dsimp only [kstB] at F7
          (try (refine absT ?_; intro R8 hR8))
          have lI2a : R < I2 := lI2 (R, _) (.head _)
          have lI2b : I < I2 := lI2 (I, _) (.tail _ (.head _))
          have lI2c : W < I2 := lI2 (W, _) (.tail _ (.tail _ (.head _)))
          have hlW : (dueW a b i).length = b.length + 1 := dueW_len a b i
          have hlR : (dueRow (sign a i) b (dueW a b i) j).length = j + 1 := dueRow_len _ _ _ _
          have hsl1 := sign_len a i
          have hsl2 := sign_len b j
          have hzR : rs.length ≤ 1000 := by rw [hJ7.length, hlR]; omega
          have hU : ∀ o o' : Obj, o = listOf rs.toArray kr → Upd R o o' ((I2 + 1, oE2) :: (I2, oI2) :: (R, listOf rs.toArray kr) :: (I, oI) :: (W, listOf ws.toArray k) :: news) ((fun q => (I2 + 1, oE2) :: (I2, oI2) :: (R, q) :: (I, oI) :: (W, listOf ws.toArray k) :: news) o') := by
            rintro o o' rfl
            refine .tail (Nat.ne_of_gt (Nat.lt_succ_of_lt lI2a)) (.tail (Nat.ne_of_gt lI2a) (.head fun p hp => ?_))
            rcases List.mem_cons.mp hp with rfl | hp
            · exact Nat.ne_of_lt hR.1
            rcases List.mem_cons.mp hp with rfl | hp
            · exact Nat.ne_of_lt hR.2.1
            exact Nat.ne_of_lt (lt_of_all hR.2.2 p hp)
          clear F9 N9
          repeat' (walk_at "m1")
          all_goals dsimp only [ForPost]
          · refine' cut_end (_, kr + 1) (by assumption) (by assumption) ?ck ?cn ?cp
            case ck => kst_all
            case cn => kst_in
            case cp => exact due_step hJ7 (by unfold kept; rw [if_pos (by assumption)])
          · refine' cut_end (_, kr + 1) (by assumption) (by assumption) ?ck2 ?cn2 ?cp2
            case ck2 => kst_all
            case cn2 => kst_in
            case cp2 => exact due_step hJ7 (by unfold kept; rw [if_neg (by rw [‹(sign a i == sign b j) = false›]; exact Bool.false_ne_true), if_pos (by assumption)])
          · refine' cut_end (_, kr + 1) (by assumption) (by assumption) ?ck3 ?cn3 ?cp3
            case ck3 => kst_all
            case cn3 => kst_in
            case cp3 => exact due_step hJ7 (by unfold kept; rw [if_neg (by rw [‹(sign a i == sign b j) = false›]; exact Bool.false_ne_true), if_neg (by rw [‹(Txt.lower (sign a i) == Txt.lower (sign b j)) = false›]; exact Bool.false_ne_true)])
      rintro ⟨rs, kr⟩ u6 h6 tk6 F6 N6 hJ6
      dsimp only [kstB] at F6
      dsimp only at N6 hJ6
      dsimp only [List.drop]
      repeat' (walk_at "m1")
      dsimp only [ForPost]
      refine' cut_end (R, rs, kr) (by assumption) (by assumption) ?ck4 ?cn4 ?cp4
      case ck4 => kst_all
      case cn4 => kst_in
      case cp4 => exact ⟨Nat.ne_of_gt hR.1, hnI, hJ6⟩
  rintro ⟨W, ws, k⟩ u5 h5 tk5 F5 N5 hJ5
  dsimp only [kstB] at F5
  dsimp only at N5 hJ5
  dsimp only [List.drop]
  have hlW : (dueW a b a.length).length = b.length + 1 := dueW_len a b _
  repeat' (walk_at "m1")
  have e8 : (-1 + ((dueW a b a.length).length : Int)).toNat = b.length := by rw [hlW]; omega
  have e9 : dueF a b = 2 * ((a.length : Int) + (b.length : Int)) - (dueW a b a.length).getD (-1 + ((dueW a b a.length).length : Int)).toNat 0 := by rw [e8]; rfl
  exact e9 ▸ hret _ _ _ _ (by assumption) (cb_drop (by assumption) fun p hp => .tail _ hp)
end
end
section
variable {w : World} {mean : ExcName → Option Value} {mg mb : Str → Option Value} {news : List (Addr × Obj)} {dp un : Nat} {gd : Option (List Code)} {cn : Str} {cs : Scope} {a : Addr} {ccd : Value} {cl : List (Str × Addr)} {outer : List Env} {A₀ : Around} {base h₀ : Heap} {L : Addr} {m : Str → Option Value} {s : Shared} {Q E : Value → Shared → Prop}
theorem due_call {x y : Str} {tx ty : Tok} (B : Below A₀ base outer h₀) (F : Fr h₀ L s.heap m) (X : (heapK w.params).In h₀) (N : News h₀ L s.heap news) (T : Top viewK (looseW viewK lse) mean mg mb h₀) (hk : cs.kind = .function) (hx : x.length ≤ 3) (hy : y.length ≤ 3)
    (hd1 : dp + 3 < recursionLimit) (hu1 : un + 24 < cLine) (hret : ∀ (t : Tok) (h' : Heap) (tk' : Nat), Fr h₀ L h' m → News h₀ L h' news → Q (.int (dueF x y) t) { s with heap := h', toks := tk' }) :
    wpAny (model PySem.Challenge.rw_ti0055_01.row.toRowW.prog w) (ktrTop dp un gd cn cs L a ccd cl outer) (call (.ref 271) [.str x tx, .str y ty]) Q E s := by
  revert X; k_fill; intro X
  refine wpAny_call ?_
  k_dflt cell_enter
  refine' due_s1 (s := ⟨_, _, _, _, _⟩) (outer := envX cn cs L a ccd cl :: outer) (a := x) (b := y) rfl rfl (by assumption) (by assumption) (by assumption) (fr_kst [(Str.ofString "one", Value.str x tx), (Str.ofString "other", Value.str y ty)] (by assumption) ?ck) (by assumption) ?h1 ?h2 hx hy ?hE ?hr
  case ck => kst_all
  case h1 => omega
  case h2 => (show un + 3 + 16 < cLine; omega)
  case hE => passes_own
  case hr =>
    intro t h1 tk1 m1 F1 N1
    repeat' (walk_at "m1")
    exact hret _ _ _ (by assumption) (by assumption)
end
section
local macro_rules | `(tactic| walk_at "z") => `(tactic| fail)
local macro_rules | `(tactic| walk_at "z") => `(tactic| fail)
section
local macro_rules | `(tactic| walk_at "g1") => `(tactic| ((with_reducible show Seg _ _ _ _ _ _ _ _ _ _); first | refine seg_execs_nil ?_ | refine seg_execs_cons ?_ | refine seg_If ?_ | ((with_reducible show Seg _ _ _ _ _ _ _ (Sem.wrap _ _ _ _ (exec (Stmt.Assign _ _ _) _)) _ _); refine seg_stmt ?_) | ((with_reducible show Seg _ _ _ _ _ _ _ (Sem.wrap _ _ _ _ (exec (Stmt.Return _ _) _)) _ _); refine seg_stmt ?_)))
noncomputable def gBody : List Stmt := match (fnBody 5).drop 1 with
  | Stmt.For _ _ b _ _ :: _ => b
  | _ => []
noncomputable def GKept (Lg I : Addr) (s₀ s : Shared) : Prop := (∀ b o, b ≠ Lg → b ≠ I → s₀.heap.get? b = some o → s.heap.get? b = some o) ∧ s.gens = s₀.gens ∧ s.drawn = s₀.drawn ∧ s.os = s₀.os
open Classical in
noncomputable def restOf (g : Heap) (Lg I : Addr) (s₀ : Shared) : List (Addr × Obj) :=
  (List.range s₀.heap.objs.size).filterMap fun a => if a = Lg ∨ a = I ∨ g.get? a ≠ none then none else (s₀.heap.get? a).map fun o => (a, o)
theorem restOf_mem {g : Heap} {Lg I : Addr} {s₀ : Shared} {p : Addr × Obj} : p ∈ restOf g Lg I s₀ ↔ s₀.heap.get? p.1 = some p.2 ∧ p.1 ≠ Lg ∧ p.1 ≠ I ∧ g.get? p.1 = none := by
  classical
  unfold restOf
  rw [List.mem_filterMap]
  constructor
  · rintro ⟨a, _, h⟩
    split at h
    · cases h
    · rename_i hn
      cases e : s₀.heap.get? a with
      | none => rw [e] at h; cases h
      | some o =>
        rw [e] at h
        cases h
        refine ⟨e, fun q => hn (.inl q), fun q => hn (.inr (.inl q)), ?_⟩
        exact Classical.byContradiction fun q => hn (.inr (.inr q))
  · rintro ⟨e, h1, h2, h3⟩
    refine ⟨p.1, List.mem_range.mpr (Heap.lt_size e), ?_⟩
    rw [if_neg, e]
    · rfl
    · rintro (q | q | q)
      · exact h1 q
      · exact h2 q
      · exact q h3
theorem rest_news {g : Heap} {Lg I : Addr} {s₀ s : Shared} (hK : GKept Lg I s₀ s) : News g Lg s.heap (restOf g Lg I s₀) := fun p hp => by
  obtain ⟨e, h1, h2, h3⟩ := restOf_mem.mp hp
  exact ⟨hK.1 _ _ h1 h2 e, h1, h3⟩
theorem rest_kept {g : Heap} {Lg I : Addr} {s₀ s : Shared} {m : Str → Option Value} (hb : ∀ b o, g.get? b = some o → s₀.heap.get? b = some o) (F : Fr g Lg s.heap m) (N : News g Lg s.heap (restOf g Lg I s₀)) (e1 : s.gens = s₀.gens) (e2 : s.drawn = s₀.drawn) (e3 : s.os = s₀.os) : GKept Lg I s₀ s := by
  refine ⟨fun b o h1 h2 e => ?_, e1, e2, e3⟩
  cases eg : g.get? b with
  | none => exact (N (b, o) (restOf_mem.mpr ⟨e, h1, h2, eg⟩)).1
  | some o' =>
    have : o = o' := by have := hb b o' eg; rw [e] at this; exact Option.some.inj this
    rw [this]; exact F.keep b o' eg
noncomputable def IsLI (o : Obj) : Prop := o.cls = .type "list_iterator" ∧ ∃ vs, o.data = .fields vs
theorem notLI_list (a : Array Value) (n : Nat) : ¬ IsLI (listOf a n) := fun h => by obtain ⟨_, _, h⟩ := h; cases h
noncomputable def GIt (I : Addr) (s₀ : Shared) : Prop := s₀.heap.get? I = none ∨ ∃ o, s₀.heap.get? I = some o ∧ IsLI o
noncomputable def GY (g : Heap) (Lg src : Addr) (lo : Obj) (out : Nat → Int) (fin n : Nat) (s₀ : Shared) (v : Value) (s' : Shared) (kap : Resume → Shared → Prop) : Prop :=
  (∃ t, v = .int (out n) t) ∧ fin ≤ n ∧ ∃ I oI oLg, GKept Lg I s₀ s' ∧ s'.heap.get? Lg = some oLg ∧ s'.heap.get? I = some oI ∧ Lg < I ∧ g.get? I = none ∧ IsLI oI ∧ GIt I s₀ ∧
    (n ≠ 0 → ∀ s'', s''.heap.get? Lg = some oLg → s''.heap.get? I = some oI → s''.heap.get? src = some lo → (∀ b o, g.get? b = some o → s''.heap.get? b = some o) → kap (.send .none) s'')
noncomputable def GR (g : Heap) (Lg : Addr) (fin : Nat) (n : Nat) (s₀ : Shared) (r : Result) (s₁ : Shared) : Prop :=
  r = .ok (.ret .none) ∧ n = fin ∧ ∃ I, GKept Lg I s₀ s₁ ∧ Lg < I ∧ g.get? I = none ∧ GIt I s₀
theorem gen_step {w : World} {mean : ExcName → Option Value} {mg mb : Str → Option Value} {g : Heap} {Lg I src : Addr} {A : Around} {s₀ s : Shared} {out : Nat → Int} {fin n : Nat} {fs : List Frame} {body : List Stmt} {sc : Scope} {m : Str → Option Value} {vs : List Value} {k j : Nat} {x : Int} {t : Tok} {oI : Obj} {py : Pos}
    (hsc : sc = fnScope 5) (hb : body = gBody) (X : (heapK w.params).In g) (T : Top viewK (looseW viewK lse) mean mg mb g) (hh : A.handled = none)
    (F : Fr g Lg s.heap m) (N : News g Lg s.heap [(I, oI), (src, listOf vs.toArray k)]) (hI : s.heap.IsListIter I src j) (hx : vs[j]? = some (.int x t)) (h1 : 1 ≤ x) (h3 : x ≤ 3) (hLI : Lg < I) (hsI : src < Lg)
    (hfs : splitAtGen fs = none) (hfg : fs.any Frame.guarded = false) (hK : GKept Lg I s₀ s) (hb₀ : ∀ b o, g.get? b = some o → s₀.heap.get? b = some o) (ho : out n = x) (hle : fin ≤ n) (hit : GIt I s₀)
    (next : n ≠ 0 → ∀ s₀ s'' m' oI', (∀ b o, g.get? b = some o → s₀.heap.get? b = some o) → GKept Lg I s₀ s'' → GIt I s₀ → Fr g Lg s''.heap m' → m' (Str.ofString "last_interval") = some (.int x t) → News g Lg s''.heap [(I, oI'), (src, listOf vs.toArray k)] → s''.heap.IsListIter I src (j + 1) →
      Seg (model PySem.Challenge.rw_ti0055_01.row.toRowW.prog w) A (GR g Lg fin) (GY g Lg src (listOf vs.toArray k) out fin) n s₀ (.forLoop (.Name (Str.ofString "interval") py) (.ref I) body [] (envOf (Str.ofString "_grouping_intervals") sc Lg 52 (.ref 51)))
        ((model PySem.Challenge.rw_ti0055_01.row.toRowW.prog w).den (.forLoop (.Name (Str.ofString "interval") py) (.ref I) body [] (envOf (Str.ofString "_grouping_intervals") sc Lg 52 (.ref 51)))) fs s'') :
    Seg (model PySem.Challenge.rw_ti0055_01.row.toRowW.prog w) A (GR g Lg fin) (GY g Lg src (listOf vs.toArray k) out fin) (n + 1) s₀ (.forLoop (.Name (Str.ofString "interval") py) (.ref I) body [] (envOf (Str.ofString "_grouping_intervals") sc Lg 52 (.ref 51)))
        ((model PySem.Challenge.rw_ti0055_01.row.toRowW.prog w).den (.forLoop (.Name (Str.ofString "interval") py) (.ref I) body [] (envOf (Str.ofString "_grouping_intervals") sc Lg 52 (.ref 51)))) fs s := by
  revert X; k_fill; intro X
  (conv at hsc => rhs; whnf); subst hsc
  (conv at hb => rhs; whnf); subst hb
  refine seg_forLoop ?_
  have hLs : s.heap.IsList src vs.toArray := ⟨_, (N (src, _) (.tail _ (.head _))).1, rfl, k, rfl⟩
  have zI := N (I, oI) (.head _)
  have zS := N (src, _) (.tail _ (.head _))
  refine wpAny_pyNext_list_item (items := vs.toArray) hI hLs (x := .int x t) (by rw [List.getElem?_toArray]; exact hx) fun h₁ hI₁ hsb₁ => ?_
  have F₁ : Fr g Lg h₁ m := F.change hsb₁ zI.2.1 zI.2.2
  obtain ⟨oI₁, hoI₁⟩ : ∃ o, h₁.get? I = some o := ⟨_, hI₁.choose_spec.1⟩
  have N₁ : News g Lg h₁ [(I, oI₁), (src, listOf vs.toArray k)] := by
    intro p hp
    rcases List.mem_cons.mp hp with rfl | hp
    · exact ⟨hoI₁, zI.2⟩
    · rw [List.mem_singleton.mp hp]
      exact ⟨(hsb₁.2 _ (fun q => Nat.lt_irrefl _ (Nat.lt_trans (q ▸ hsI) hLI))).trans zS.1, zS.2⟩
  have hK₁ : GKept Lg I s₀ { s with heap := h₁ } := ⟨fun b o e1 e2 e3 => hsb₁.extBut b o e2 (hK.1 b o e1 e2 e3), hK.2.1, hK.2.2.1, hK.2.2.2⟩
  replace N₁ : News g Lg h₁ ((I, oI₁) :: (src, listOf vs.toArray k) :: restOf g Lg I s₀) := by
    intro p hp
    rcases List.mem_cons.mp hp with rfl | hp
    · exact N₁ _ (.head _)
    rcases List.mem_cons.mp hp with rfl | hp
    · exact N₁ _ (.tail _ (.head _))
    · exact rest_news (s := { s with heap := h₁ }) hK₁ p hp
  generalize hrest : restOf g Lg I s₀ = rest at N₁
  dsimp only
  repeat' (first | walk_at "g1" | walk_at "m1")
  · exfalso; omega
  · exfalso; omega
  refine seg_Expr_Yield hfs rfl hfg ?_
  walk_at "m1"
  rename Fr _ _ _ _ => F₂
  rename News _ _ _ _ => N₂
  intro kap hkap
  obtain ⟨oL, hoL⟩ : ∃ o, Heap.get? _ Lg = some o := ⟨_, F₂.ns.choose_spec.choose_spec.choose_spec.1⟩
  have hcI : IsLI oI₁ := by
    obtain ⟨o', q, r, r2⟩ := hI₁
    rw [hoI₁] at q; cases q; exact ⟨r, _, r2⟩
  refine ⟨⟨t, by rw [ho]⟩, hle, I, oI₁, oL, ?_, hoL, (N₂ (I, oI₁) (.head _)).1, hLI, zI.2.2, hcI, hit, fun hn s'' e1 e2 e3 e4 => hkap _ _ ?_⟩
  · subst hrest
    exact rest_kept hb₀ F₂ (fun p hp => N₂ p (.tail _ (.tail _ hp))) hK.2.1 hK.2.2.1 hK.2.2.2
  · dsimp only
    have hss : ∃ h tk q1 q2 q3, s'' = (⟨h, q1, q2, tk, q3⟩ : Shared) := ⟨s''.heap, s''.toks, s''.gens, s''.drawn, s''.os, rfl⟩
    obtain ⟨h4, tk4, q1, q2, q3, rfl⟩ := hss
    dsimp only at e1 e2 e3 e4
    obtain ⟨oL', es', ep', w1, w2, w3, w4⟩ := F₂.ns
    have F₄ : Fr g Lg h4 _ := ⟨⟨oL, es', ep', e1, by rw [hoL] at w1; cases w1; exact w2, w3, w4⟩, e4, F₂.above⟩
    have N₄ : News g Lg h4 ((I, oI₁) :: (src, listOf vs.toArray k) :: restOf g Lg I ⟨h4, q1, q2, tk4, q3⟩) := by
      intro p hp
      rcases List.mem_cons.mp hp with rfl | hp
      · exact ⟨e2, zI.2⟩
      rcases List.mem_cons.mp hp with rfl | hp
      · exact ⟨e3, zS.2⟩
      · exact rest_news (s := ⟨h4, q1, q2, tk4, q3⟩) ⟨fun _ _ _ _ e => e, rfl, rfl, rfl⟩ p hp
    generalize hrest4 : restOf g Lg I ⟨h4, q1, q2, tk4, q3⟩ = rest4 at N₄
    have hI₄ : ∀ h : Heap, h.get? I = some oI₁ → h.IsListIter I src (j + 1) := fun h e => by
      obtain ⟨o', q, r⟩ := hI₁
      rw [hoI₁] at q; cases q; exact ⟨oI₁, e, r⟩
    clear N₂ F₂
    repeat' (first | walk_at "g1" | walk_at "m1")
    refine seg_again rfl ?_
    rename Fr _ _ _ _ => F₅
    rename News _ _ _ _ => N₅
    subst hrest4
    exact next hn _ ⟨_, q1, q2, _, q3⟩ _ _ e4 (rest_kept e4 F₅ (fun p hp => N₅ p (.tail _ (.tail _ hp))) rfl rfl rfl) (.inr ⟨_, e2, hcI⟩) F₅ rfl (cb_drop N₅ (by kst_in)) (hI₄ _ (N₅ (I, oI₁) (.head _)).1)
end
end
section
section
local macro_rules | `(tactic| walk_at "g1") => `(tactic| ((with_reducible show Seg _ _ _ _ _ _ _ _ _ _); first | refine seg_execs_nil ?_ | refine seg_execs_cons ?_ | refine seg_If ?_ | ((with_reducible show Seg _ _ _ _ _ _ _ (Sem.wrap _ _ _ _ (exec (Stmt.Assign _ _ _) _)) _ _); refine seg_stmt ?_) | ((with_reducible show Seg _ _ _ _ _ _ _ (Sem.wrap _ _ _ _ (exec (Stmt.Return _ _) _)) _ _); refine seg_stmt ?_)))
theorem gen_end {w : World} {mean : ExcName → Option Value} {mg mb : Str → Option Value} {g : Heap} {Lg I src : Addr} {A : Around} {s₀ s : Shared} {out : Nat → Int} {fin n : Nat} {fs : List Frame} {body : List Stmt} {sc : Scope} {m : Str → Option Value} {vs : List Value} {k j : Nat} {x : Int} {t : Tok} {oI : Obj} {py : Pos}
    (hsc : sc = fnScope 5) (hb : body = gBody) (X : (heapK w.params).In g) (T : Top viewK (looseW viewK lse) mean mg mb g) (hh : (marksOver fs (A.handled, A.handled)).1 = none)
    (F : Fr g Lg s.heap m) (N : News g Lg s.heap [(I, oI), (src, listOf vs.toArray k)]) (hI : s.heap.IsListIter I src j) (hLI : Lg < I) (hsI : src < Lg) (hK : GKept Lg I s₀ s) (hb₀ : ∀ b o, g.get? b = some o → s₀.heap.get? b = some o)
    (hx : vs[j]? = none) (hn : n = fin)
    (hfin : ∀ c s', GKept Lg I s₀ s' → Seg (model PySem.Challenge.rw_ti0055_01.row.toRowW.prog w) A (GR g Lg fin) (GY g Lg src (listOf vs.toArray k) out fin) n s₀ c (.pure (.done .next)) fs s') :
    Seg (model PySem.Challenge.rw_ti0055_01.row.toRowW.prog w) A (GR g Lg fin) (GY g Lg src (listOf vs.toArray k) out fin) n s₀ (.forLoop (.Name (Str.ofString "interval") py) (.ref I) body [] (envOf (Str.ofString "_grouping_intervals") sc Lg 52 (.ref 51)))
        ((model PySem.Challenge.rw_ti0055_01.row.toRowW.prog w).den (.forLoop (.Name (Str.ofString "interval") py) (.ref I) body [] (envOf (Str.ofString "_grouping_intervals") sc Lg 52 (.ref 51)))) fs s := by
  revert X; k_fill; intro X
  (conv at hsc => rhs; whnf); subst hsc
  (conv at hb => rhs; whnf); subst hb
  refine seg_forLoop ?_
  have hLs : s.heap.IsList src vs.toArray := ⟨_, (N (src, _) (.tail _ (.head _))).1, rfl, k, rfl⟩
  have zI := N (I, oI) (.head _)
  have zS := N (src, _) (.tail _ (.head _))
  refine wpAny_pyNext_list_end hh (items := vs.toArray) hI hLs (by rw [List.getElem?_toArray]; exact hx) fun h₁ he => ?_
  dsimp only
  intro c
  exact hfin c _ ⟨fun b o e1 e2 e3 => he b o e2 (hK.1 b o e1 e2 e3), hK.2.1, hK.2.2.1, hK.2.2.2⟩
theorem gen_stop {w : World} {mean : ExcName → Option Value} {mg mb : Str → Option Value} {g : Heap} {Lg I src : Addr} {A : Around} {s₀ s : Shared} {out : Nat → Int} {fin n : Nat} {fs : List Frame} {body : List Stmt} {sc : Scope} {m : Str → Option Value} {vs : List Value} {k j : Nat} {x : Int} {t : Tok} {oI : Obj} {py : Pos}
    (hsc : sc = fnScope 5) (hb : body = gBody) (X : (heapK w.params).In g) (T : Top viewK (looseW viewK lse) mean mg mb g) (hh : (marksOver fs (A.handled, A.handled)).1 = none)
    (F : Fr g Lg s.heap m) (N : News g Lg s.heap [(I, oI), (src, listOf vs.toArray k)]) (hI : s.heap.IsListIter I src j) (hLI : Lg < I) (hsI : src < Lg) (hK : GKept Lg I s₀ s) (hb₀ : ∀ b o, g.get? b = some o → s₀.heap.get? b = some o)
    (hx : vs[j]? = some (.int 127 t)) (hn : n = fin)
    (hfin : ∀ c s', GKept Lg I s₀ s' → Seg (model PySem.Challenge.rw_ti0055_01.row.toRowW.prog w) A (GR g Lg fin) (GY g Lg src (listOf vs.toArray k) out fin) n s₀ c (.pure (.done (.ret .none))) fs s') :
    Seg (model PySem.Challenge.rw_ti0055_01.row.toRowW.prog w) A (GR g Lg fin) (GY g Lg src (listOf vs.toArray k) out fin) n s₀ (.forLoop (.Name (Str.ofString "interval") py) (.ref I) body [] (envOf (Str.ofString "_grouping_intervals") sc Lg 52 (.ref 51)))
        ((model PySem.Challenge.rw_ti0055_01.row.toRowW.prog w).den (.forLoop (.Name (Str.ofString "interval") py) (.ref I) body [] (envOf (Str.ofString "_grouping_intervals") sc Lg 52 (.ref 51)))) fs s := by
  revert X; k_fill; intro X
  (conv at hsc => rhs; whnf); subst hsc
  (conv at hb => rhs; whnf); subst hb
  refine seg_forLoop ?_
  have hLs : s.heap.IsList src vs.toArray := ⟨_, (N (src, _) (.tail _ (.head _))).1, rfl, k, rfl⟩
  have zI := N (I, oI) (.head _)
  have zS := N (src, _) (.tail _ (.head _))
  refine wpAny_pyNext_list_item (items := vs.toArray) hI hLs (x := .int 127 t) (by rw [List.getElem?_toArray]; exact hx) fun h₁ hI₁ hsb₁ => ?_
  have F₁ : Fr g Lg h₁ m := F.change hsb₁ zI.2.1 zI.2.2
  obtain ⟨oI₁, hoI₁⟩ : ∃ o, h₁.get? I = some o := ⟨_, hI₁.choose_spec.1⟩
  have hK₁ : GKept Lg I s₀ { s with heap := h₁ } := ⟨fun b o e1 e2 e3 => hsb₁.extBut b o e2 (hK.1 b o e1 e2 e3), hK.2.1, hK.2.2.1, hK.2.2.2⟩
  have N₁ : News g Lg h₁ ((I, oI₁) :: (src, listOf vs.toArray k) :: restOf g Lg I s₀) := by
    intro p hp
    rcases List.mem_cons.mp hp with rfl | hp
    · exact ⟨hoI₁, zI.2⟩
    rcases List.mem_cons.mp hp with rfl | hp
    · exact ⟨(hsb₁.2 _ (fun q => Nat.lt_irrefl _ (Nat.lt_trans (q ▸ hsI) hLI))).trans zS.1, zS.2⟩
    · exact rest_news (s := { s with heap := h₁ }) hK₁ p hp
  generalize hrest : restOf g Lg I s₀ = rest at N₁
  dsimp only
  repeat' (first | walk_at "g1" | walk_at "m1")
  · rename Fr _ _ _ _ => F₂
    rename News _ _ _ _ => N₂
    subst hrest
    exact hfin _ ⟨_, _, _, _, _⟩ (rest_kept hb₀ F₂ (fun p hp => N₂ p (.tail _ (.tail _ hp))) hK.2.1 hK.2.2.1 hK.2.2.2)
end
end
section
local macro_rules | `(tactic| walk_at "z") => `(tactic| fail)
section
local macro_rules | `(tactic| walk_at "g1") => `(tactic| ((with_reducible show Seg _ _ _ _ _ _ _ _ _ _); first | refine seg_execs_nil ?_ | refine seg_execs_cons ?_ | refine seg_If ?_ | refine seg_While ?_ | ((with_reducible show Seg _ _ _ _ _ _ _ (Sem.wrap _ _ _ _ (exec (Stmt.Assign _ _ _) _)) _ _); refine seg_stmt ?_) | ((with_reducible show Seg _ _ _ _ _ _ _ (Sem.wrap _ _ _ _ (exec (Stmt.Return _ _) _)) _ _); refine seg_stmt ?_)))
noncomputable def gWhile : Expr × List Stmt := match gBody.drop 1 with
  | Stmt.If _ (_ :: Stmt.While t b _ _ :: _) _ _ :: _ => (t, b)
  | _ => (.Constant .none 0 default, [])
theorem gen_wturn {w : World} {mean : ExcName → Option Value} {mg mb : Str → Option Value} {g : Heap} {Lg I src : Addr} {A : Around} {out : Nat → Int} {fin : Nat} {fs : List Frame} {tb : Expr × List Stmt} {sc : Scope} {vs : List Value} {k : Nat} {x : Int} {t : Tok} {oI : Obj}
    (hsc : sc = fnScope 5) (hb : tb = gWhile) (X : (heapK w.params).In g) (T : Top viewK (looseW viewK lse) mean mg mb g)
    (hLI : Lg < I) (hI₀ : g.get? I = none) (hs : src ≠ Lg ∧ g.get? src = none) (hfs : splitAtGen fs = none) (hfg : fs.any Frame.guarded = false) (hcI : IsLI oI) (hf0 : fin = 0) {n : Nat} {s₀ s : Shared} {m : Str → Option Value} (ho : out n = x) (F : Fr g Lg s.heap m) (hm : m (Str.ofString "last_interval") = some (.int x t)) (N : News g Lg s.heap [(I, oI), (src, listOf vs.toArray k)]) (hK : GKept Lg I s₀ s) (hit : GIt I s₀) (hb₀ : ∀ b o, g.get? b = some o → s₀.heap.get? b = some o)
    (next : n ≠ 0 → ∀ (s₀ s : Shared) (m : Str → Option Value), Fr g Lg s.heap m → m (Str.ofString "last_interval") = some (.int x t) → News g Lg s.heap [(I, oI), (src, listOf vs.toArray k)] → GKept Lg I s₀ s → GIt I s₀ → (∀ b o, g.get? b = some o → s₀.heap.get? b = some o) →
      Seg (model PySem.Challenge.rw_ti0055_01.row.toRowW.prog w) A (GR g Lg fin) (GY g Lg src (listOf vs.toArray k) out fin) n s₀ (.whileLoop tb.1 tb.2 [] (envOf (Str.ofString "_grouping_intervals") sc Lg 52 (.ref 51))) ((model PySem.Challenge.rw_ti0055_01.row.toRowW.prog w).den (.whileLoop tb.1 tb.2 [] (envOf (Str.ofString "_grouping_intervals") sc Lg 52 (.ref 51)))) fs s) :
    Seg (model PySem.Challenge.rw_ti0055_01.row.toRowW.prog w) A (GR g Lg fin) (GY g Lg src (listOf vs.toArray k) out fin) (n + 1) s₀ (.whileLoop tb.1 tb.2 [] (envOf (Str.ofString "_grouping_intervals") sc Lg 52 (.ref 51))) ((model PySem.Challenge.rw_ti0055_01.row.toRowW.prog w).den (.whileLoop tb.1 tb.2 [] (envOf (Str.ofString "_grouping_intervals") sc Lg 52 (.ref 51)))) fs s := by
  revert X; k_fill; intro X
  (conv at hsc => rhs; whnf); subst hsc
  (conv at hb => rhs; whnf); subst hb
  have zI := N (I, oI) (.head _)
  have zS := N (src, _) (.tail _ (.head _))
  refine seg_whileLoop ?_
  repeat' (first | walk_at "g1" | walk_at "m1")
  refine seg_Expr_Yield hfs rfl hfg ?_
  with_unfolding_all refine' ld F hm ?_ (by rfl) (by rfl)
  intro kap hkap
  obtain ⟨oL, es', ep', w1, w2, w3, w4⟩ := F.ns
  refine ⟨⟨t, by rw [ho]⟩, by omega, I, oI, oL, hK, w1, zI.1, hLI, zI.2.2, hcI, hit, fun hn s'' e1 e2 e3 e4 => hkap _ _ ?_⟩
  dsimp only
  have hss : ∃ h tk q1 q2 q3, s'' = (⟨h, q1, q2, tk, q3⟩ : Shared) := ⟨s''.heap, s''.toks, s''.gens, s''.drawn, s''.os, rfl⟩
  obtain ⟨h4, tk4, q1, q2, q3, rfl⟩ := hss
  dsimp only at e1 e2 e3 e4
  have F₄ : Fr g Lg h4 m := ⟨⟨oL, es', ep', e1, w2, w3, w4⟩, e4, F.above⟩
  have N₄ : News g Lg h4 [(I, oI), (src, listOf vs.toArray k)] := by
    intro p hp
    rcases List.mem_cons.mp hp with rfl | hp
    · exact ⟨e2, zI.2⟩
    · rw [List.mem_singleton.mp hp]
      exact ⟨e3, zS.2⟩
  repeat' (walk_at "g1")
  refine seg_again rfl ?_
  exact next hn _ _ _ F₄ hm N₄ ⟨fun _ _ _ _ e => e, rfl, rfl, rfl⟩ (.inr ⟨_, e2, hcI⟩) e4
theorem gen_while {w : World} {mean : ExcName → Option Value} {mg mb : Str → Option Value} {g : Heap} {Lg I src : Addr} {A : Around} {out : Nat → Int} {fin : Nat} {fs : List Frame} {tb : Expr × List Stmt} {sc : Scope} {vs : List Value} {k : Nat} {x : Int} {t : Tok} {oI : Obj}
    (hsc : sc = fnScope 5) (hb : tb = gWhile) (X : (heapK w.params).In g) (T : Top viewK (looseW viewK lse) mean mg mb g)
    (hLI : Lg < I) (hI₀ : g.get? I = none) (hs : src ≠ Lg ∧ g.get? src = none) (hfs : splitAtGen fs = none) (hfg : fs.any Frame.guarded = false) (hcI : IsLI oI) (hf0 : fin = 0) :
    ∀ (n : Nat) (s₀ s : Shared) (m : Str → Option Value), (∀ i ≤ n, out i = x) → Fr g Lg s.heap m → m (Str.ofString "last_interval") = some (.int x t) → News g Lg s.heap [(I, oI), (src, listOf vs.toArray k)] → GKept Lg I s₀ s → GIt I s₀ → (∀ b o, g.get? b = some o → s₀.heap.get? b = some o) →
    Seg (model PySem.Challenge.rw_ti0055_01.row.toRowW.prog w) A (GR g Lg fin) (GY g Lg src (listOf vs.toArray k) out fin) (n + 1) s₀ (.whileLoop tb.1 tb.2 [] (envOf (Str.ofString "_grouping_intervals") sc Lg 52 (.ref 51))) ((model PySem.Challenge.rw_ti0055_01.row.toRowW.prog w).den (.whileLoop tb.1 tb.2 [] (envOf (Str.ofString "_grouping_intervals") sc Lg 52 (.ref 51)))) fs s
  | 0, s₀, s, m, ho, F, hm, N, hK, hit, hb₀ => gen_wturn hsc hb X T hLI hI₀ hs hfs hfg hcI hf0 (ho 0 (Nat.le_refl _)) F hm N hK hit hb₀ fun h => absurd rfl h
  | n + 1, s₀, s, m, ho, F, hm, N, hK, hit, hb₀ => gen_wturn hsc hb X T hLI hI₀ hs hfs hfg hcI hf0 (ho (n + 1) (Nat.le_refl _)) F hm N hK hit hb₀ fun _ s₁ s₂ m₂ F₂ hm₂ N₂ hK₂ hit₂ hb₂ => gen_while hsc hb X T hLI hI₀ hs hfs hfg hcI hf0 n s₁ s₂ m₂ (fun i hi => ho i (Nat.le_succ_of_le hi)) F₂ hm₂ N₂ hK₂ hit₂ hb₂
theorem gen_inf {w : World} {mean : ExcName → Option Value} {mg mb : Str → Option Value} {g : Heap} {Lg I src : Addr} {A : Around} {s₀ s : Shared} {out : Nat → Int} {fin n : Nat} {fs : List Frame} {body : List Stmt} {sc : Scope} {m : Str → Option Value} {vs : List Value} {k j : Nat} {x : Int} {t t' : Tok} {oI : Obj} {py : Pos}
    (hsc : sc = fnScope 5) (hb : body = gBody) (X : (heapK w.params).In g) (T : Top viewK (looseW viewK lse) mean mg mb g)
    (F : Fr g Lg s.heap m) (N : News g Lg s.heap [(I, oI), (src, listOf vs.toArray k)]) (hI : s.heap.IsListIter I src j) (hLI : Lg < I) (hsI : src < Lg) (hK : GKept Lg I s₀ s) (hb₀ : ∀ b o, g.get? b = some o → s₀.heap.get? b = some o) (hfs : splitAtGen fs = none) (hfg : fs.any Frame.guarded = false)
    (hx : vs[j]? = some (.int 0 t')) (hm : m (Str.ofString "last_interval") = some (.int x t)) (ho : ∀ i ≤ n, out i = x) (hit : GIt I s₀) (hf0 : fin = 0) :
    Seg (model PySem.Challenge.rw_ti0055_01.row.toRowW.prog w) A (GR g Lg fin) (GY g Lg src (listOf vs.toArray k) out fin) (n + 1) s₀ (.forLoop (.Name (Str.ofString "interval") py) (.ref I) body [] (envOf (Str.ofString "_grouping_intervals") sc Lg 52 (.ref 51)))
        ((model PySem.Challenge.rw_ti0055_01.row.toRowW.prog w).den (.forLoop (.Name (Str.ofString "interval") py) (.ref I) body [] (envOf (Str.ofString "_grouping_intervals") sc Lg 52 (.ref 51)))) fs s := by
  have hsc' := hsc
  have X' := X
  revert X; k_fill; intro X
  (conv at hsc => rhs; whnf); subst hsc
  (conv at hb => rhs; whnf); subst hb
  refine seg_forLoop ?_
  have hLs : s.heap.IsList src vs.toArray := ⟨_, (N (src, _) (.tail _ (.head _))).1, rfl, k, rfl⟩
  have zI := N (I, oI) (.head _)
  have zS := N (src, _) (.tail _ (.head _))
  refine wpAny_pyNext_list_item (items := vs.toArray) hI hLs (x := .int 0 t') (by rw [List.getElem?_toArray]; exact hx) fun h₁ hI₁ hsb₁ => ?_
  clear N
  have F₁ : Fr g Lg h₁ m := F.change hsb₁ zI.2.1 zI.2.2
  obtain ⟨oI₁, hoI₁⟩ : ∃ o, h₁.get? I = some o := ⟨_, hI₁.choose_spec.1⟩
  have hK₁ : GKept Lg I s₀ { s with heap := h₁ } := ⟨fun b o e1 e2 e3 => hsb₁.extBut b o e2 (hK.1 b o e1 e2 e3), hK.2.1, hK.2.2.1, hK.2.2.2⟩
  have N₁ : News g Lg h₁ ((I, oI₁) :: (src, listOf vs.toArray k) :: restOf g Lg I s₀) := by
    intro p hp
    rcases List.mem_cons.mp hp with rfl | hp
    · exact ⟨hoI₁, zI.2⟩
    rcases List.mem_cons.mp hp with rfl | hp
    · exact ⟨(hsb₁.2 _ (fun q => Nat.lt_irrefl _ (Nat.lt_trans (q ▸ hsI) hLI))).trans zS.1, zS.2⟩
    · exact rest_news (s := { s with heap := h₁ }) hK₁ p hp
  generalize hrest : restOf g Lg I s₀ = rest at N₁
  dsimp only
  have hm' : m (Str.ofString "last_interval") = some (.int x t) := hm
  replace F₁ := fr_kst [(Str.ofString "last_interval", Value.int x t)] F₁ (fun p hp => by rw [List.mem_singleton.mp hp]; exact hm)
  dsimp only [kstB] at F₁
  repeat' (first | walk_at "g1" | walk_at "m1")
  rename Fr _ _ _ _ => F₂
  rename News _ _ _ _ => N₂
  refine gen_while (t := t) (tb := (_, _)) hsc' rfl X T hLI zI.2.2 zS.2 ?hf ?hg ?hc hf0 n _ ⟨_, _, _, _, _⟩ _ ho F₂ ?hm (cb_drop N₂ (by kst_in)) ?hk hit hb₀
  case hf => (show Option.map _ (splitAtGen fs) = none; rw [hfs]; rfl)
  case hg => (show (false || fs.any Frame.guarded) = false; rw [hfg]; rfl)
  case hm => rfl
  case hc =>
    obtain ⟨o', q, r, r2⟩ := hI₁
    rw [hoI₁] at q; cases q; exact ⟨r, _, r2⟩
  case hk =>
    subst hrest
    exact rest_kept hb₀ F₂ (fun p hp => N₂ p (.tail _ (.tail _ hp))) hK.2.1 hK.2.2.1 hK.2.2.2
end
end
section
section
variable {prog : Program} {w : World} {A : Around} {E : Value → Shared → Prop} {s : Shared}
theorem pyNext_gen_bare {a : Addr} {g n : Nat} {gs : GenState} {R : GenEnd} {Y : Protocol} {Q : Option Value → Shared → Prop} (hh : A.handled = none)
    (hl : s.heap.NoLimit) (hroom : A.depth < recursionLimit) (hg : s.heap.IsGen a g) (hgs : s.gens[g]? = some gs)
    (hgo : gs.Goes (model prog w) A.in1 R Y n (.send .none) (s.setGen g .running)) (hR : ∀ n s₀ r s₁, R n s₀ r s₁ → r = .ok (.ret .none))
    (hY : ∀ v s₁ gs', gs'.bare = true → Y (n - 1) (s.setGen g .running) v s₁ (fun r' s'' => match n with
        | 0 => False
        | m + 1 => gs'.Goes (model prog w) A.in1 R Y m r' s'') → Q (some v) (s₁.setGen g gs'))
    (hP : ∀ s₁ r, R n (s.setGen g .running) r s₁ → ∀ h', (∀ b o, s₁.heap.get? b = some o → h'.get? b = some o) → Q none { s₁.setGen g .finished with heap := h' }) :
    wpAny (model prog w) A (pyNext (.ref a)) Q E s := by
  unfold pyNext
  refine wpAny_bind (wpAny_attempt (wpAny_callSpecial?_slot (name := Str.ofString "__next__") hg.typeIs slot_gen_next
    (wpAny_call_entry slot_gen_next hg.typeIs entry_gen_next ?_ (args_gen_next _))))
  show wpAny _ _ (Builtin.Generator.genWake (.ref a) (.send .none)) _ _ s
  unfold Builtin.Generator.genWake
  refine wpAny_bind (wpAny_holding (wpAny_genNumber hg (wpAny_bind (wpAny_genState hgs ?_))))
  cases gs with
  | running => exact hgo.elim
  | finished => exact hgo.elim
  | _ =>
    refine wpAny_bind (wpAny_roomToWake hl hroom ?_)
    show wpAny _ _ (.resume g (.send .none) [] _) _ _ s
    refine wpAny_resumeQ hgs hgo (fun x s₁ hx => ?_) (fun v s₁ gs' hb hv => ?_)
    · have hx' := hR _ _ _ _ hx
      subst hx'
      show wpAny _ _ (newExc (.type "StopIteration") [] >>= _) _ _ _
      refine wpAny_bind ?_
      simp only [newExc, newTuple]
      refine wpAny_bind (wpAny_newObj_type ?_ (by size_fits))
      refine wpAny_bind (m := firstArgMember _ _) (wpAny_of_eq (a := Value.none) (by first | rfl | (simp only [firstArgMember]; rfl)) ?_)
      refine wpAny_newObj_type ?_ (by size_fits)
      simp only [raiseNew]
      refine wpAny_bind (wpAny_bind (wpAny_handled ?_))
      rw [show A.in1.handled = none from hh]
      refine wpAny_throw ?_
      refine wpAny_bind (wpAny_isInstance (T := "StopIteration") (b := true) ⟨_, Heap.get?_push_size _ rfl, rfl⟩ isSubtype_stop ?_)
      exact wpAny_pure (hP s₁ _ hx _ fun b o hb => Heap.get?_push_of_some _ (Heap.get?_push_of_some _ hb))
    · exact wpAny_pure ⟨v, rfl, wpAny_pure (hY v s₁ gs' hb hv)⟩
end
section
local macro_rules | `(tactic| walk_at "g1") => `(tactic| ((with_reducible show Seg _ _ _ _ _ _ _ _ _ _); first | refine seg_execs_nil ?_ | refine seg_execs_cons ?_ | refine seg_If ?_ | ((with_reducible show Seg _ _ _ _ _ _ _ (Sem.wrap _ _ _ _ (exec (Stmt.Assign _ _ _) _)) _ _); refine seg_stmt ?_) | ((with_reducible show Seg _ _ _ _ _ _ _ (Sem.wrap _ _ _ _ (exec (Stmt.Return _ _) _)) _ _); refine seg_stmt ?_)))
theorem gen_main {w : World} {mean : ExcName → Option Value} {mg mb : Str → Option Value} {g : Heap} {Lg I src : Addr} {A : Around} {s₀ s : Shared} {out : Nat → Int} {fin : Nat} {fs : List Frame} {body : List Stmt} {sc : Scope} {m : Str → Option Value} {vs : List Value} {k : Nat} {a b c : Int} {ta tb tc : Tok} {oI : Obj} {py : Pos}
    (hsc : sc = fnScope 5) (hb : body = gBody) (X : (heapK w.params).In g) (T : Top viewK (looseW viewK lse) mean mg mb g) (hh : A.handled = none)
    (F : Fr g Lg s.heap m) (N : News g Lg s.heap [(I, oI), (src, listOf vs.toArray k)]) (hI : s.heap.IsListIter I src 0)
    (ha : vs[0]? = some (.int a ta)) (hb' : vs[1]? = some (.int b tb)) (hc : vs[2]? = some (.int c tc)) (a1 : 1 ≤ a ∧ a ≤ 3) (b1 : 1 ≤ b ∧ b ≤ 3) (c1 : 1 ≤ c ∧ c ≤ 3)
    (hLI : Lg < I) (hsI : src < Lg) (hfs : splitAtGen fs = none) (hfg : fs.any Frame.guarded = false) (hK : GKept Lg I s₀ s) (hb₀ : ∀ b o, g.get? b = some o → s₀.heap.get? b = some o) (hit : GIt I s₀) (hf2 : fin ≤ 2)
    (o4 : out 4 = a) (o3 : out 3 = b) (o2 : out 2 = c)
    (tail : ∀ s₀ s m oI, (∀ b o, g.get? b = some o → s₀.heap.get? b = some o) → GKept Lg I s₀ s → GIt I s₀ → Fr g Lg s.heap m → m (Str.ofString "last_interval") = some (.int c tc) → News g Lg s.heap [(I, oI), (src, listOf vs.toArray k)] → s.heap.IsListIter I src 3 →
      Seg (model PySem.Challenge.rw_ti0055_01.row.toRowW.prog w) A (GR g Lg fin) (GY g Lg src (listOf vs.toArray k) out fin) 2 s₀ (.forLoop (.Name (Str.ofString "interval") py) (.ref I) body [] (envOf (Str.ofString "_grouping_intervals") sc Lg 52 (.ref 51)))
        ((model PySem.Challenge.rw_ti0055_01.row.toRowW.prog w).den (.forLoop (.Name (Str.ofString "interval") py) (.ref I) body [] (envOf (Str.ofString "_grouping_intervals") sc Lg 52 (.ref 51)))) fs s) :
    Seg (model PySem.Challenge.rw_ti0055_01.row.toRowW.prog w) A (GR g Lg fin) (GY g Lg src (listOf vs.toArray k) out fin) 5 s₀ (.forLoop (.Name (Str.ofString "interval") py) (.ref I) body [] (envOf (Str.ofString "_grouping_intervals") sc Lg 52 (.ref 51)))
        ((model PySem.Challenge.rw_ti0055_01.row.toRowW.prog w).den (.forLoop (.Name (Str.ofString "interval") py) (.ref I) body [] (envOf (Str.ofString "_grouping_intervals") sc Lg 52 (.ref 51)))) fs s :=
  gen_step hsc hb X T hh F N hI ha a1.1 a1.2 hLI hsI hfs hfg hK hb₀ o4 (by omega) hit fun _ s₁ t₁ m₁ q₁ hb₁ hK₁ hit₁ F₁ _ N₁ hI₁ =>
  gen_step hsc hb X T hh F₁ N₁ hI₁ hb' b1.1 b1.2 hLI hsI hfs hfg hK₁ hb₁ o3 (by omega) hit₁ fun _ s₂ t₂ m₂ q₂ hb₂ hK₂ hit₂ F₂ _ N₂ hI₂ =>
  gen_step hsc hb X T hh F₂ N₂ hI₂ hc c1.1 c1.2 hLI hsI hfs hfg hK₂ hb₂ o2 hf2 hit₂ fun _ s₃ t₃ m₃ q₃ hb₃ hK₃ hit₃ F₃ e₃ N₃ hI₃ =>
  tail s₃ t₃ m₃ q₃ hb₃ hK₃ hit₃ F₃ e₃ N₃ hI₃
inductive GTail (vs : List Value) (c : Int) (out : Nat → Int) (fin : Nat) : Prop
  | stops : vs[3]? = none → fin = 2 → GTail vs c out fin
  | max (t : Tok) : vs[3]? = some (.int 127 t) → fin = 2 → GTail vs c out fin
  | again (t : Tok) : vs[3]? = some (.int 0 t) → out 1 = c → out 0 = c → fin = 0 → GTail vs c out fin
theorem gen_fresh {w : World} {mean : ExcName → Option Value} {mg mb : Str → Option Value} {g : Heap} {Lg src : Addr} {A : Around} {s : Shared} {out : Nat → Int} {fin : Nat} {sts : List Stmt} {sc : Scope} {m : Str → Option Value} {vs : List Value} {k : Nat} {a b c : Int} {ta tb tc : Tok}
    (hsc : sc = fnScope 5) (hsts : sts = fnBody 5) (X : (heapK w.params).In g) (T : Top viewK (looseW viewK lse) mean mg mb g) (hh : A.handled = none)
    (F : Fr g Lg s.heap (kstB m [(Str.ofString "grouping", Value.ref src)])) (N : News g Lg s.heap [(src, listOf vs.toArray k)])
    (ha : vs[0]? = some (.int a ta)) (hb' : vs[1]? = some (.int b tb)) (hc : vs[2]? = some (.int c tc)) (a1 : 1 ≤ a ∧ a ≤ 3) (b1 : 1 ≤ b ∧ b ≤ 3) (c1 : 1 ≤ c ∧ c ≤ 3)
    (hsI : src < Lg) (o4 : out 4 = a) (o3 : out 3 = b) (o2 : out 2 = c) (tl : GTail vs c out fin) :
    Seg (model PySem.Challenge.rw_ti0055_01.row.toRowW.prog w) A (GR g Lg fin) (GY g Lg src (listOf vs.toArray k) out fin) 5 s (.func sts (envOf (Str.ofString "_grouping_intervals") sc Lg 52 (.ref 51))) ((model PySem.Challenge.rw_ti0055_01.row.toRowW.prog w).den (.func sts (envOf (Str.ofString "_grouping_intervals") sc Lg 52 (.ref 51)))) [] s := by
  have hsc' := hsc
  have X' := X
  revert X; k_fill; intro X
  (conv at hsc => rhs; whnf); subst hsc
  (conv at hsts => rhs; whnf); subst hsts
  have hb₀ : ∀ b o, g.get? b = some o → s.heap.get? b = some o := F.keep
  have zS := N (src, _) (.head _)
  have N₁ : News g Lg s.heap ((src, listOf vs.toArray k) :: restOf g Lg Lg s) := by
    intro p hp
    rcases List.mem_cons.mp hp with rfl | hp
    · exact zS
    · exact rest_news ⟨fun _ _ _ _ e => e, rfl, rfl, rfl⟩ p hp
  generalize hrest : restOf g Lg Lg s = rest at N₁
  dsimp only [kstB] at F
  refine seg_func ?_
  repeat' (first | walk_at "g1" | walk_at "m1")
  refine seg_For (fun _ => rfl) ?_
  walk_at "m1"
  rename Fr _ _ _ _ => F₂
  rename News _ _ _ _ => N₂
  rename Heap => h₂
  have zS₂ := N₂ (src, _) (.head _)
  have hLh : Lg < h₂.objs.size := F₂.ns.lt
  refine wpAny_pyIter_list (items := vs.toArray) ⟨_, zS₂.1, rfl, k, rfl⟩ ?_
  intro p
  have hmk : ∀ {kk : Result → Sem Fin} {l : List Value} {c : Code}, (marksOver [.ret kk none (id false) l c p []] (A.handled, A.handled)).1 = none := by
    intro kk l c
    exact hh
  have hK₂ : GKept Lg Lg s ⟨h₂, s.gens, s.drawn, s.toks, s.os⟩ := by
    subst hrest
    exact rest_kept hb₀ F₂ (fun p hp => N₂ p (.tail _ hp)) rfl rfl rfl
  refine gen_main (I := h₂.objs.size) (oI := { cls := .type "list_iterator", data := .fields #[.ref src, .int 0 0] }) (s := ⟨_, _, _, _, _⟩) hsc' rfl X' T hh (F₂.push _) ?hN ?hI ha hb' hc a1 b1 c1 hLh hsI rfl rfl ?hK hb₀ ?hit ?hf2 o4 o3 o2 ?tail
  case hN =>
    intro q hq
    rcases List.mem_cons.mp hq with rfl | hq
    · exact ⟨Heap.get?_push_size _ rfl, Nat.ne_of_gt hLh, next_is_new F₂⟩
    · rw [List.mem_singleton.mp hq]
      exact ⟨Heap.get?_push_of_some _ zS₂.1, zS₂.2⟩
  case hI => exact ⟨_, Heap.get?_push_size _ rfl, rfl, rfl⟩
  case hK => exact ⟨fun b o e1 _ e => Heap.get?_push_of_some _ (hK₂.1 b o e1 e1 e), rfl, rfl, rfl⟩
  case hit =>
    cases e : s.heap.get? h₂.objs.size with
    | none => exact .inl e
    | some o => exact absurd (Heap.lt_size (hK₂.1 _ o (Nat.ne_of_gt hLh) (Nat.ne_of_gt hLh) e)) (Nat.lt_irrefl _)
  case hf2 =>
    cases tl with
    | stops _ h => omega
    | max _ _ h => omega
    | again _ _ _ _ h => omega
  case tail =>
    intro s₃ t₃ m₃ q₃ hb₃ hK₃ hit₃ F₃ e₃ N₃ hI₃
    have hI0 : g.get? h₂.objs.size = none := next_is_new F₂
    cases tl with
    | stops h3 hf =>
      refine gen_end (x := 0) (t := 0) hsc' rfl X' T hmk F₃ N₃ hI₃ hLh hsI hK₃ hb₃ h3 hf.symm fun c s' hk => ?_
      exact seg_leaf (.ok .next) (seg_end (.ok (.ret .none)) ⟨rfl, hf.symm, _, hk, hLh, hI0, hit₃⟩)
    | max t h3 hf =>
      refine gen_stop (x := 0) hsc' rfl X' T hmk F₃ N₃ hI₃ hLh hsI hK₃ hb₃ h3 hf.symm fun c s' hk => ?_
      exact seg_leaf (.ok (.ret .none)) (seg_end (.ok (.ret .none)) ⟨rfl, hf.symm, _, hk, hLh, hI0, hit₃⟩)
    | again t h3 q1 q0 hf0 =>
      refine gen_inf (n := 1) hsc' rfl X' T F₃ N₃ hI₃ hLh hsI hK₃ hb₃ rfl rfl h3 e₃ (fun i hi => ?_) hit₃ hf0
      rcases (by omega : i = 0 ∨ i = 1) with rfl | rfl
      · exact q0
      · exact q1
end
end
section
variable {prog : Program} {w : World} {A : Around} {s : Shared} {h₀ : Heap} {L : Addr} {m : Str → Option Value} {news : List (Addr × Obj)} {K : Frag}
noncomputable abbrev genObj (n : Nat) (name qual : Str) (t : Tok) : Obj := { cls := .type "generator", data := .fields #[.int (n : Int) 0, .str name t, .str qual (t + 1)] }
theorem gen_make {R : Result → Shared → Prop} {name qual : Str} {params : Arguments} {body : List Stmt} {scope : Scope} {dV kV doc pm cdv ct oc : Value} {an od : Option Addr} {osl : Array (Option Value)} {f : Addr} {args : Args} {binds : List (Str × Value)}
    (F : Fr h₀ L s.heap m) (X₀ : K.In h₀) (N : News h₀ L s.heap news) (hlim : h₀.NoLimit)
    (ho : K.lookup f = some ⟨oc, od, .func (fnOf name qual params body scope dV kV doc pm an cdv ct), osl⟩) (hcd : codeIn K cdv qual = true) (hroom : A.depth < recursionLimit)
    (hbind : BindsTo s (fnOf name qual params body scope dV kV doc pm an cdv ct) args binds) (hloc : ∀ y ∈ binds, scope.names.lookup y.1 = some .local)
    (h : ∀ h' tk Lg G oLg t, Fr h₀ L h' m → Fr h₀ Lg h' (fun y => binds.reverse.lookup y) → h'.get? Lg = some oLg → News h₀ L h' ((G, genObj s.gens.size name qual t) :: (Lg, oLg) :: news) → (∀ p ∈ news, p.1 < Lg) → Lg < G → L < Lg →
      R (.ok (.ret (.ref G))) { s with gens := s.gens.push (.fresh (.func body (envOf qual scope Lg f cdv))), heap := h', toks := tk })
    (hco : scope.isCoroutine = false) (hgen : scope.isGenerator = true) (hk : scope.kind = .function)
    (hcell : ∀ x ∈ scope.names, x.2 ≠ .cell) : codeAny (model prog w) A (.call (.ref f) args) R s := by
  have X := X₀.keeps F.keep
  refine codeAny_call_generator hroom (X _ _ ho) rfl hco hgen rfl (codeRec_of X hcd) (hbind _ _ _ _ ?_)
  refine wpAny_newFunctionEnv hcell hloc (fun h₁ hns₁ hsb₁ => ?_) hk
  have hlim' : s.heap.NoLimit := hlim.keeps F.keep
  have hLs : L < s.heap.objs.size := F.ns.lt
  have hsz : h₁.objs.size = s.heap.objs.size + 1 := by rw [hsb₁.1, Heap.size_push]
  have keep : ∀ b o, s.heap.get? b = some o → h₁.get? b = some o := fun b o e => hsb₁.extBut b o (Nat.ne_of_lt (Heap.lt_size e)) (Heap.get?_push_of_some _ e)
  have new₀ : h₀.get? s.heap.objs.size = none := next_is_new F
  have F₁ : Fr h₀ L h₁ m := F.keeps keep
  have N₁ := N.grown keep
  refine ⟨hlim'.fresh _ hsb₁, ?_⟩
  obtain ⟨oLg, es, ep, e1, e2, e3, e4⟩ := hns₁
  have hup : ∀ b o, h₁.get? b = some o → ∀ q, (h₁.push q).get? b = some o := fun b o e q => Heap.get?_push_of_some _ e
  refine h _ _ s.heap.objs.size h₁.objs.size oLg (s.toks + binds.length) (F₁.push _) ⟨⟨oLg, es, ep, hup _ _ e1 _, e2, e3, e4⟩, (F₁.push _).keep, Nat.le_trans F.above (Nat.le_of_lt hLs)⟩ (hup _ _ e1 _) ?_ (fun p hp => Heap.lt_size (N p hp).1) (by rw [hsz]; exact Nat.lt_succ_self _) hLs
  intro p hp
  rcases List.mem_cons.mp hp with rfl | hp
  · exact ⟨Heap.get?_push_size _ rfl, by rw [hsz]; exact Nat.ne_of_gt (Nat.lt_succ_of_lt hLs), next_is_new F₁⟩
  rcases List.mem_cons.mp hp with rfl | hp
  · exact ⟨hup _ _ e1 _, Nat.ne_of_gt hLs, new₀⟩
  · exact ⟨hup _ _ (N₁ p hp).1 _, (N₁ p hp).2⟩
end
section
variable {w : World} {mean : ExcName → Option Value} {mg mb : Str → Option Value} {news : List (Addr × Obj)} {A : Around} {h₀ : Heap} {L : Addr} {m : Str → Option Value} {s : Shared} {Q E : Value → Shared → Prop}
theorem gen_call {src : Addr} {sts : List Stmt} {sc : Scope} (hsc : sc = fnScope 5) (hsts : sts = fnBody 5) (F : Fr h₀ L s.heap m) (X : (heapK w.params).In h₀) (N : News h₀ L s.heap news) (T : Top viewK (looseW viewK lse) mean mg mb h₀) (hroom : A.depth < recursionLimit)
    (hret : ∀ h' tk Lg G oLg t, Fr h₀ L h' m → Fr h₀ Lg h' (fun y => [(Str.ofString "grouping", Value.ref src)].reverse.lookup y) → h'.get? Lg = some oLg → News h₀ L h' ((G, genObj s.gens.size (Str.ofString "_grouping_intervals") (Str.ofString "_grouping_intervals") t) :: (Lg, oLg) :: news) → (∀ p ∈ news, p.1 < Lg) → Lg < G → L < Lg →
      Q (.ref G) { s with gens := s.gens.push (.fresh (.func sts (envOf (Str.ofString "_grouping_intervals") sc Lg 52 (.ref 51)))), heap := h', toks := tk }) :
    wpAny (model PySem.Challenge.rw_ti0055_01.row.toRowW.prog w) A (call (.ref 52) [.ref src]) Q E s := by
  subst hsc; subst hsts
  revert X; k_fill; intro X
  refine wpAny_call ?_
  refine' gen_make (binds := [(Str.ofString "grouping", Value.ref src)]) F X N T.nolimit ?k6 ?k7 hroom ?k9 ?kB ?_ ?c2 ?c3 ?c4 ?c5
  case k6 => k_is
  case k7 => k_is
  case k9 => exact BindsTo.of_eq rfl
  case kB => exact locs rfl
  case c2 => exact rfl
  case c3 => exact rfl
  case c4 => exact rfl
  case c5 => decide
  intro h' tk Lg G oLg t F' Fg e N' l1 l2 l3
  exact hret h' tk Lg G oLg t F' Fg e N' l1 l2 l3
end
noncomputable def GLive (w : World) (A : Around) (g : Heap) (Lg src : Addr) (lo : Obj) (out : Nat → Int) (fin n : Nat) (ex : List (Addr × Obj)) (oLg : Obj) (gs : GenState) : Prop :=
  ∀ s'' : Shared, s''.heap.get? Lg = some oLg → (∀ p ∈ ex, s''.heap.get? p.1 = some p.2) → s''.heap.get? src = some lo → (∀ b o, g.get? b = some o → s''.heap.get? b = some o) →
    gs.Goes (model PySem.Challenge.rw_ti0055_01.row.toRowW.prog w) A (GR g Lg fin) (GY g Lg src lo out fin) n (.send .none) s''
theorem setGen_get {s : Shared} {i : Nat} {x y : GenState} {s₁ : Shared} (h : s.gens[i]? = some x) (e : s₁.gens = (s.setGen i .running).gens) : (s₁.setGen i y).gens[i]? = some y := by
  have hi : i < s.gens.size := (Array.getElem?_eq_some_iff.mp h).1
  unfold Shared.setGen at *
  simp only [e]
  simp [hi]
theorem bare_set {xs : Array GenState} {i : Nat} {y : GenState} (h : AllBare xs) (hy : y.bare = true) : AllBare (xs.setIfInBounds i y) := by
  intro z hz
  obtain ⟨j, hj⟩ := Array.mem_iff_getElem?.mp hz
  rw [Array.getElem?_setIfInBounds] at hj
  split at hj
  · split at hj
    · cases hj; exact hy
    · cases hj
  · exact h _ (Array.mem_iff_getElem?.mpr ⟨j, hj⟩)
theorem setGen_bare {s : Shared} {i : Nat} {y : GenState} {s₁ : Shared} (hs : AllBare s.gens) (hy : y.bare = true) (e : s₁.gens = (s.setGen i .running).gens) : AllBare (s₁.setGen i y).gens := by
  unfold Shared.setGen at *
  simp only [e]
  exact bare_set (bare_set hs rfl) hy
section
variable {w : World} {A : Around} {g : Heap} {L : Addr} {m : Str → Option Value} {s : Shared} {Q : Option Value → Shared → Prop} {E : Value → Shared → Prop}
theorem gen_next {G Lg src : Addr} {gi n fin : Nat} {gs : GenState} {lo oLg : Obj} {out : Nat → Int} {ex rest : List (Addr × Obj)} (hh : A.handled = none) (hlim : g.NoLimit) (hroom : A.depth < recursionLimit)
    (hG : s.heap.IsGen G gi) (hgs : s.gens[gi]? = some gs) (hbare : AllBare s.gens) (hl : GLive w A.in1 g Lg src lo out fin n ex oLg gs)
    (F : Fr g L s.heap m) (N : News g L s.heap ((Lg, oLg) :: (src, lo) :: rest)) (Nx : ∀ p ∈ ex, s.heap.get? p.1 = some p.2) (hLL : L < Lg)
    (hoff : ∀ p ∈ (src, lo) :: rest, p.1 ≠ Lg ∧ ¬ IsLI p.2)
    (hY : ∀ t h' tk gens' gs' oLg' I oI, Fr g L h' m → News g L h' ((I, oI) :: (Lg, oLg') :: (src, lo) :: rest) → IsLI oI → fin ≤ n - 1 → gens'[gi]? = some gs' → AllBare gens' → (n - 1 ≠ 0 → GLive w A.in1 g Lg src lo out fin (n - 1) [(I, oI)] oLg' gs') →
      Q (some (.int (out (n - 1)) t)) { s with heap := h', gens := gens', toks := tk })
    (hP : n = fin → ∀ h' tk gens', Fr g L h' m → News g L h' ((src, lo) :: rest) → AllBare gens' → Q none { s with heap := h', gens := gens', toks := tk }) :
    wpAny (model PySem.Challenge.rw_ti0055_01.row.toRowW.prog w) A (pyNext (.ref G)) Q E s := by
  have zL := N (Lg, oLg) (.head _)
  have carry : ∀ (I : Addr) (h' : Heap), Lg < I → g.get? I = none → (∀ b o, b ≠ Lg → b ≠ I → s.heap.get? b = some o → h'.get? b = some o) → (s.heap.get? I = none ∨ ∃ o, s.heap.get? I = some o ∧ IsLI o) → Fr g L h' m ∧ News g L h' ((src, lo) :: rest) := by
    intro I h' hLI hI₀ hk hit
    refine ⟨⟨F.ns.at' fun o e => hk _ _ (Nat.ne_of_lt hLL) (Nat.ne_of_lt (Nat.lt_trans hLL hLI)) e, fun b o e => hk b o (fun q => ?_) (fun q => ?_) (F.keep b o e), F.above⟩, fun p hp => ?_⟩
    · rw [q, zL.2.2] at e; cases e
    · rw [q, hI₀] at e; cases e
    · have z := N p (.tail _ hp)
      refine ⟨hk _ _ (hoff p hp).1 (fun q => ?_) z.1, z.2⟩
      rcases hit with h | ⟨o, h, hc⟩
      · rw [q, h] at z; cases z.1
      · rw [q, h] at z; exact (hoff p hp).2 (Option.some.inj z.1 ▸ hc)
  refine pyNext_gen_bare (R := GR g Lg fin) (Y := GY g Lg src lo out fin) (n := n) hh (hlim.keeps F.keep) hroom hG hgs (hl _ zL.1 Nx (N (src, lo) (.tail _ (.head _))).1 F.keep) (fun _ _ _ _ h => h.1) ?_ ?_
  · rintro v s₁ gs' hb ⟨⟨t, rfl⟩, hle, I, oI, oLg', hK, e1, e2, hLI, hI₀, hc, hit, kap⟩
    obtain ⟨F', N'⟩ := carry I s₁.heap hLI hI₀ hK.1 hit
    have hs₁ : (s₁.setGen gi gs') = { s with heap := s₁.heap, gens := (s₁.setGen gi gs').gens, toks := s₁.toks } := by
      obtain ⟨a1, a2, a3, a4, a5⟩ := s₁
      obtain ⟨b1, b2, b3, b4, b5⟩ := s
      obtain ⟨_, q2, q3, q4⟩ := hK
      unfold Shared.setGen at *
      dsimp only at *
      subst q3 q4; rfl
    rw [hs₁]
    refine hY t _ _ _ gs' oLg' I oI F' ?_ hc hle (setGen_get hgs hK.2.1) (setGen_bare hbare hb hK.2.1) ?_
    · intro p hp
      rcases List.mem_cons.mp hp with rfl | hp
      · exact ⟨e2, Nat.ne_of_gt (Nat.lt_trans hLL hLI), hI₀⟩
      rcases List.mem_cons.mp hp with rfl | hp
      · exact ⟨e1, zL.2⟩
      · exact N' p hp
    · intro hn s'' f1 f2 f3 f4
      have := kap hn s'' f1 (f2 (I, oI) (.head _)) f3 f4
      cases n with
      | zero => exact this.elim
      | succ n => exact this
  · rintro s₁ r ⟨_, hn, I, hK, hLI, hI₀, hit⟩ h' hk
    obtain ⟨F', N'⟩ := carry I h' hLI hI₀ (fun b o e1 e2 e3 => hk b o (hK.1 b o e1 e2 e3)) hit
    have hs₁ : ({ s₁.setGen gi .finished with heap := h' } : Shared) = { s with heap := h', gens := (s₁.setGen gi .finished).gens, toks := s₁.toks } := by
      obtain ⟨a1, a2, a3, a4, a5⟩ := s₁
      obtain ⟨b1, b2, b3, b4, b5⟩ := s
      obtain ⟨_, q2, q3, q4⟩ := hK
      unfold Shared.setGen at *
      dsimp only at *
      subst q3 q4; rfl
    rw [hs₁]
    exact hP hn _ _ _ F' N' (setGen_bare hbare rfl hK.2.1)
end
section
local macro_rules | `(tactic| walk_at "z") => `(tactic| fail)
section
noncomputable def zFor : Stmt := (fnBody 26).getD 3 (.Pass default)
noncomputable def zBody : List Stmt := match zFor with
  | Stmt.For _ _ b _ _ => b
  | _ => []
local macro_rules | `(tactic| walk_at "call builtin:list.append") => `(tactic| ((with_reducible show wpAny _ _ (call (Value.builtin _) [Value.ref _, _]) _ _ _); (refine' append_vs (s := ⟨_, _, _, _, _⟩) ?F ?N ?U ?hz ?_; (case F => k_asm); (case N => k_asm); (case U => assumption); (case hz => assumption)); intro h' F' N'; (try dsimp only at N')))
theorem siz_turn {w : World} {mean : ExcName → Option Value} {mg mb : Str → Option Value} {g : Heap} {L : Addr} {u : Str → Option Value} {base : Heap} {A₀ : Around} {s : Shared} {E : Value → Shared → Prop}
    {dp un : Nat} {gd : Option (List Code)} {cl : List (Str × Addr)} {outer : List Env} {sc : Scope} {body : List Stmt} (hsc : sc = fnScope 26) (hb : body = zBody) {D Z Y : Addr} {post : List (Addr × Obj)} {tvs : List Value} {ns : List Int} {kt i : Nat} {x : Int} {t : Tok} {py : Pos}
    (B : Below A₀ base outer g) (X : (heapK w.params).In g) (T : Top viewK (looseW viewK lse) mean mg mb g)
    (F : Fr g L s.heap (kstB u [(Str.ofString "told", Value.ref D), (Str.ofString "sizes", Value.ref Z), (Str.ofString "ending", Value.ref Y)])) (N : News g L s.heap ((D, listOf tvs.toArray kt) :: post)) (hi : IntsAre tvs ns) (hil : ns.length = i) (hi4 : i ≤ 4) (hp : ∀ p ∈ post, p.1 ≠ D)
    (hE : PassesOwn (model PySem.Challenge.rw_ti0055_01.row.toRowW.prog w) (ktrTop dp un gd (Str.ofString "_law_sizes") sc L 259 (.ref 258) cl outer) (envOfC (Str.ofString "_law_sizes") sc L 259 (.ref 258)) E) :
    wpAny (model PySem.Challenge.rw_ti0055_01.row.toRowW.prog w) (ktrTop dp un gd (Str.ofString "_law_sizes") sc L 259 (.ref 258) cl outer) (assign (.Name (Str.ofString "size") py) (envOfC (Str.ofString "_law_sizes") sc L 259 (.ref 258)) (.int x t)) (fun _ s₂ =>
      wpAny (model PySem.Challenge.rw_ti0055_01.row.toRowW.prog w) (ktrTop dp un gd (Str.ofString "_law_sizes") sc L 259 (.ref 258) cl outer) (execs body (envOfC (Str.ofString "_law_sizes") sc L 259 (.ref 258))) (fun f s₃ =>
        (f = .next ∧ i + 1 < 5 ∧ CutR g L s (fun _ : Unit => [(Str.ofString "told", Value.ref D), (Str.ofString "sizes", Value.ref Z), (Str.ofString "ending", Value.ref Y)]) (fun _ => (D, listOf (tvs ++ [Value.int x t]).toArray (kt + 1)) :: post) (fun _ => True) s₃) ∨
        (f = .brk ∧ i + 1 = 5 ∧ CutR g L s (fun _ : Unit => [(Str.ofString "told", Value.ref D), (Str.ofString "sizes", Value.ref Z), (Str.ofString "ending", Value.ref Y)]) (fun _ => (D, listOf (tvs ++ [Value.int x t]).toArray (kt + 1)) :: post) (fun _ => True) s₃)) E s₂) E s := by
  revert X; k_fill; intro X
  (conv at hsc => rhs; whnf); subst hsc
  (conv at hb => rhs; whnf); subst hb
  dsimp only [kstB] at F
  have hl := hi.length
  have hzR : tvs.length ≤ 1000 := by omega
  have hU : ∀ o o' : Obj, o = listOf tvs.toArray kt → Upd D o o' ((D, listOf tvs.toArray kt) :: post) ((fun q => (D, q) :: post) o') := by
    rintro o o' rfl
    exact .head hp
  have hi2 : IntsAre (tvs ++ [Value.int x t]) (ns ++ [x]) := hi.append (.cons _ _ .nil)
  have hl2 : (ns ++ [x]).length = i + 1 := by rw [List.length_append, hil]; rfl
  repeat' (walk_at "m1")
  · refine .inr ⟨rfl, by omega, ?_⟩
    refine' cut_end () (by assumption) (by assumption) ?ck ?cn trivial
    case ck => kst_all
    case cn => kst_in
  · refine .inl ⟨rfl, by omega, ?_⟩
    refine' cut_end () (by assumption) (by assumption) ?ck2 ?cn2 trivial
    case ck2 => kst_all
    case cn2 => kst_in
theorem s_a2 {i : Nat} (h : i + 1 < 5) : 5 - (i + 1) < 5 - i := by omega
theorem s_a3 {i fin : Nat} (h : fin ≤ 5 - i - 1) (h1 : i + 1 = 5) : i + 1 = 5 - fin := by omega
theorem s_a5 {i : Nat} (h : i + 1 < 5) : 5 - i - 1 ≠ 0 := by omega
theorem siz_loop {w : World} {mean : ExcName → Option Value} {mg mb : Str → Option Value} {g : Heap} {L Lg G src D Z Y : Addr} {u : Str → Option Value} {base : Heap} {A₀ : Around} {s : Shared} {Q : Flow → Shared → Prop} {E : Value → Shared → Prop}
    {dp un : Nat} {gd : Option (List Code)} {cl : List (Str × Addr)} {outer : List Env} {sc : Scope} {body : List Stmt} (hsc : sc = fnScope 26) (hb : body = zBody) {post : List (Addr × Obj)} {py : Pos} {gi fin : Nat} {out : Nat → Int} {lo oLg gobj : Obj} {gs : GenState}
    (B : Below A₀ base outer g) (X : (heapK w.params).In g) (T : Top viewK (looseW viewK lse) mean mg mb g)
    (F : Fr g L s.heap (kstB u [(Str.ofString "told", Value.ref D), (Str.ofString "sizes", Value.ref Z), (Str.ofString "ending", Value.ref Y)])) (N : News g L s.heap ((Lg, oLg) :: (src, lo) :: (G, gobj) :: (D, listOf #[] 0) :: post)) (hLL : L < Lg) (hGD : G ≠ D) (hsD : src ≠ D)
    (hgo : ∀ h : Heap, h.get? G = some gobj → h.IsGen G gi) (hgs : s.gens[gi]? = some gs) (hbare : AllBare s.gens)
    (hl : GLive w (ktrTop dp un gd (Str.ofString "_law_sizes") sc L 259 (.ref 258) cl outer).in1 g Lg src lo out fin 5 [] oLg gs) (hroom : dp < recursionLimit)
    (hoff : ∀ p ∈ (src, lo) :: (G, gobj) :: post, p.1 ≠ Lg ∧ ¬ IsLI p.2) (hD : D ≠ Lg) (hpD : ∀ p ∈ post, p.1 ≠ D)
    (hE : PassesOwn (model PySem.Challenge.rw_ti0055_01.row.toRowW.prog w) (ktrTop dp un gd (Str.ofString "_law_sizes") sc L 259 (.ref 258) cl outer) (envOfC (Str.ofString "_law_sizes") sc L 259 (.ref 258)) E)
    (hQ : ∀ h tk gens' tvs kt u' i, i = 5 - fin → Fr g L h (kstB u' [(Str.ofString "told", Value.ref D), (Str.ofString "sizes", Value.ref Z), (Str.ofString "ending", Value.ref Y)]) → News g L h ((D, listOf tvs.toArray kt) :: post) → IntsAre tvs ((List.range i).map fun j => out (4 - j)) → AllBare gens' → Q .next { s with heap := h, gens := gens', toks := tk }) :
    ForK PySem.Challenge.rw_ti0055_01.row.toRowW.prog w (ktrTop dp un gd (Str.ofString "_law_sizes") sc L 259 (.ref 258) cl outer) (.Name (Str.ofString "size") py) body (envOfC (Str.ofString "_law_sizes") sc L 259 (.ref 258)) Q E (.ref G) s := by
  unfold ForK
  refine codeAny_forLoop (fun q s' => ∃ i h tk gens' gs' oLg' ex tvs kt u', q = 5 - i ∧ i ≤ 4 ∧ s' = { s with heap := h, gens := gens', toks := tk } ∧ Fr g L h (kstB u' [(Str.ofString "told", Value.ref D), (Str.ofString "sizes", Value.ref Z), (Str.ofString "ending", Value.ref Y)]) ∧ News g L h ((Lg, oLg') :: (src, lo) :: (G, gobj) :: (D, listOf tvs.toArray kt) :: post) ∧
      (∀ p ∈ ex, h.get? p.1 = some p.2 ∧ IsLI p.2) ∧ gens'[gi]? = some gs' ∧ AllBare gens' ∧ GLive w (ktrTop dp un gd (Str.ofString "_law_sizes") sc L 259 (.ref 258) cl outer).in1 g Lg src lo out fin (5 - i) ex oLg' gs' ∧ IntsAre tvs ((List.range i).map fun j => out (4 - j))) ?_ 5
    ⟨0, s.heap, s.toks, s.gens, gs, oLg, [], [], 0, u, rfl, by omega, rfl, F, N, (fun p hp => absurd hp List.not_mem_nil), hgs, hbare, hl, IntsAre.nil⟩ (fun _ => rfl)
  rintro q s' ⟨i, h, tk, gens', gs', oLg', ex, tvs, kt, u', rfl, hi4, rfl, F', N', hex, hgs', hbare', hl', hI⟩
  refine gen_next (lo := lo) (oLg := oLg') (rest := (G, gobj) :: (D, listOf tvs.toArray kt) :: post) (n := 5 - i) rfl T.nolimit hroom (hgo h (N' (G, gobj) (.tail _ (.tail _ (.head _)))).1) hgs' hbare' hl' F' N' (fun p hp => (hex p hp).1) hLL ?_ ?_ ?_
  · intro p hp
    rcases List.mem_cons.mp hp with rfl | hp
    · exact hoff _ (.head _)
    rcases List.mem_cons.mp hp with rfl | hp
    · exact hoff _ (.tail _ (.head _))
    rcases List.mem_cons.mp hp with rfl | hp
    · exact ⟨hD, notLI_list _ _⟩
    · exact hoff _ (.tail _ (.tail _ hp))
  · intro t h₂ tk₂ gens₂ gs₂ oLg₂ I oI F₂ N₂ hcI hle hgs₂ hbare₂ hl₂
    dsimp only
    have zD := N₂ (D, listOf tvs.toArray kt) (.tail _ (.tail _ (.tail _ (.tail _ (.head _)))))
    have zI := N₂ (I, oI) (.head _)
    have hID : I ≠ D := fun q => by
      have e1 := zI.1
      rw [show (I, oI).1 = D from q, zD.1] at e1
      have e2 : oI = listOf tvs.toArray kt := (Option.some.inj e1).symm
      rw [e2] at hcI
      exact absurd hcI (notLI_list _ _)
    have N₃ : News g L h₂ ((D, listOf tvs.toArray kt) :: (I, oI) :: (Lg, oLg₂) :: (src, lo) :: (G, gobj) :: post) := cb_drop N₂ (by kst_in)
    refine wpAny_mono (siz_turn (s := ⟨_, _, _, _, _⟩) (x := out (5 - i - 1)) (t := t) (py := py) hsc hb B X T F₂ N₃ hI (i := i) (by simp) hi4 ?_ hE) (fun _ s₂ h₅ => wpAny_mono h₅ (fun f s₃ h₃ => ?_) hE) hE
    · intro p hp
      rcases List.mem_cons.mp hp with rfl | hp
      · exact hID
      rcases List.mem_cons.mp hp with rfl | hp
      · exact Ne.symm hD
      rcases List.mem_cons.mp hp with rfl | hp
      · exact hsD
      rcases List.mem_cons.mp hp with rfl | hp
      · exact hGD
      · exact hpD p hp
    · have hI2 : IntsAre (tvs ++ [.int (out (5 - i - 1)) t]) ((List.range (i + 1)).map fun j => out (4 - j)) := by
        rw [List.range_succ, List.map_append]
        refine hI.append ?_
        rw [show 5 - i - 1 = 4 - i from Nat.sub_right_comm 5 i 1]
        exact .cons _ _ .nil
      rcases h₃ with ⟨rfl, hlt, x, u₃, h₄, tk₄, rfl, F₄, N₄, _⟩ | ⟨rfl, hlt, x, u₃, h₄, tk₄, rfl, F₄, N₄, _⟩
      · refine ⟨5 - (i + 1), s_a2 hlt, i + 1, h₄, tk₄, gens₂, gs₂, oLg₂, [(I, oI)], _, kt + 1, u₃, rfl, Nat.le_of_lt_succ hlt, rfl, F₄, cb_drop N₄ (by kst_in), ?_, hgs₂, hbare₂, ?_, hI2⟩
        · intro p hp
          rw [List.mem_singleton.mp hp]
          exact ⟨(N₄ (I, oI) (.tail _ (.head _))).1, hcI⟩
        · rw [show 5 - (i + 1) = 5 - i - 1 from rfl]
          exact hl₂ (s_a5 hlt)
      · exact hQ h₄ tk₄ gens₂ _ (kt + 1) u₃ (i + 1) (s_a3 (by assumption) hlt) F₄ (cb_drop N₄ (by kst_in)) hI2 hbare₂
  · intro hn h₂ tk₂ gens₂ F₂ N₂ hbare₂
    refine wpAny_execs_nil ?_
    exact hQ h₂ tk₂ gens₂ tvs kt u' i (by omega) F₂ (fun p hp => N₂ p (.tail _ (.tail _ hp))) hI hbare₂
theorem siz_for {w : World} {mean : ExcName → Option Value} {mg mb : Str → Option Value} {g : Heap} {L D Z Y : Addr} {u : Str → Option Value} {base : Heap} {A₀ : Around} {s : Shared} {Q : Flow → Shared → Prop} {E : Value → Shared → Prop}
    {dp un : Nat} {gd : Option (List Code)} {cl : List (Str × Addr)} {outer : List Env} {sc : Scope} {sts : List Stmt} (hsc : sc = fnScope 26) (hb : sts = [zFor]) {post : List (Addr × Obj)} {fin : Nat} {a b c : Int} {ta tb tc : Tok} {evs : List Value} {es : List Int} {ke kz : Nat}
    (B : Below A₀ base outer g) (X : (heapK w.params).In g) (T : Top viewK (looseW viewK lse) mean mg mb g)
    (F : Fr g L s.heap (kstB u [(Str.ofString "told", Value.ref D), (Str.ofString "sizes", Value.ref Z), (Str.ofString "ending", Value.ref Y)])) (N : News g L s.heap ((D, listOf #[] 0) :: (Y, listOf evs.toArray ke) :: (Z, listOf [Value.int a ta, .int b tb, .int c tc].toArray kz) :: post))
    (a1 : 1 ≤ a ∧ a ≤ 3) (b1 : 1 ≤ b ∧ b ≤ 3) (c1 : 1 ≤ c ∧ c ≤ 3) (he : IntsAre evs es) (hel : es.length ≤ 2)
    (tl : (es = [] ∧ fin = 2) ∨ (∃ r, es = 127 :: r ∧ fin = 2) ∨ (∃ r, es = 0 :: r ∧ fin = 0)) (hbare : AllBare s.gens) (hroom : dp < recursionLimit)
    (hpD : ∀ p ∈ post, p.1 ≠ D ∧ ¬ IsLI p.2) (hYD : Y ≠ D) (hZD : Z ≠ D)
    (hE : PassesOwn (model PySem.Challenge.rw_ti0055_01.row.toRowW.prog w) (ktrTop dp un gd (Str.ofString "_law_sizes") sc L 259 (.ref 258) cl outer) (envOfC (Str.ofString "_law_sizes") sc L 259 (.ref 258)) E)
    (hQ : ∀ h tk gens' tvs kt u' i, i = 5 - fin → Fr g L h (kstB u' [(Str.ofString "told", Value.ref D), (Str.ofString "sizes", Value.ref Z), (Str.ofString "ending", Value.ref Y)]) → News g L h ((D, listOf tvs.toArray kt) :: (Y, listOf evs.toArray ke) :: (Z, listOf [Value.int a ta, .int b tb, .int c tc].toArray kz) :: post) → IntsAre tvs ((List.range i).map fun j => [c, c, c, b, a].getD (4 - j) c) → AllBare gens' → Q .next { s with heap := h, gens := gens', toks := tk }) :
    wpAny (model PySem.Challenge.rw_ti0055_01.row.toRowW.prog w) (ktrTop dp un gd (Str.ofString "_law_sizes") sc L 259 (.ref 258) cl outer) (execs sts (envOfC (Str.ofString "_law_sizes") sc L 259 (.ref 258))) Q E s := by
  have hsc' := hsc
  revert X; k_fill; intro X
  (conv at hsc => rhs; whnf); subst hsc
  (conv at hb => rhs; whnf); subst hb
  dsimp only [kstB] at F
  refine wpAny_execs_cons ?_
  refine for_start ?_ ?hs9; case hs9 => (intro _; rfl)
  repeat' (walk_at "m1")
  rename Fr _ _ _ _ => F₁
  rename News _ _ _ _ => N₁
  rename IntsAre _ _ => hI₁
  rename _ ∧ _ ∧ _ ∧ AllLt _ _ => hlt
  rename Addr => src
  rename List Value => ws
  refine gen_call (s := ⟨_, _, _, _, _⟩) rfl rfl F₁ X N₁ T hroom ?_
  intro h₂ tk₂ Lg G oLg t F₂ Fg eL N₂ l1 l2 l3
  have hsL : src < Lg := l1 _ (.head _)
  have hDL : D < Lg := l1 (D, _) (.tail _ (.head _))
  have zG := N₂ (G, _) (.head _)
  have hgo : ∀ h : Heap, h.get? G = some (genObj s.gens.size (Str.ofString "_grouping_intervals") (Str.ofString "_grouping_intervals") t) → h.IsGen G s.gens.size := fun h e => ⟨_, _, _, e, rfl, rfl, rfl⟩
  refine wpAny_pyIter_gen (hgo _ zG.1) ?_
  obtain ⟨t0, q0⟩ := ints_at hI₁ (i := 0) (n := a) rfl
  obtain ⟨t1, q1⟩ := ints_at hI₁ (i := 1) (n := b) rfl
  obtain ⟨t2, q2⟩ := ints_at hI₁ (i := 2) (n := c) rfl
  have hlen := hI₁.length
  have N₃ : News g L h₂ ((Lg, oLg) :: (src, listOf ws.toArray 0) :: (G, genObj s.gens.size (Str.ofString "_grouping_intervals") (Str.ofString "_grouping_intervals") t) :: (D, listOf #[] 0) :: (Y, listOf evs.toArray ke) :: (Z, listOf [Value.int a ta, .int b tb, .int c tc].toArray kz) :: post) := cb_drop N₂ (by kst_in)
  refine siz_loop (s := ⟨_, _, _, _, _⟩) (fin := fin) (out := fun n => [c, c, c, b, a].getD n c) (gi := s.gens.size) (gs := .fresh (.func (fnBody 5) (envOf (Str.ofString "_grouping_intervals") (fnScope 5) Lg 52 (.ref 51)))) hsc' rfl B X T (fr_kst [(Str.ofString "told", Value.ref D), (Str.ofString "sizes", Value.ref Z), (Str.ofString "ending", Value.ref Y)] F₂ ?ck) N₃ l3 ?hGD ?hsD hgo ?hgs ?hb ?hl hroom ?hoff (Nat.ne_of_lt hDL) ?hpD hE ?hQ
  case ck => kst_all
  case hGD => exact Nat.ne_of_gt (Nat.lt_trans hDL l2)
  case hsD => exact Nat.ne_of_gt hlt.1
  case hgs => simp
  case hb => exact hbare.push rfl
  case hl =>
    intro s'' e1 _ e3 e4
    obtain ⟨o', es', ep', w1, w2, w3, w4⟩ := Fg.ns
    rw [eL] at w1; cases w1
    refine ⟨rfl, gen_fresh rfl rfl X T rfl (fr_kst [(Str.ofString "grouping", Value.ref src)] ⟨⟨oLg, es', ep', e1, w2, w3, w4⟩, e4, Fg.above⟩ ?_) ?_ q0 q1 q2 a1 b1 c1 hsL rfl rfl rfl ?_⟩
    · intro p hp
      rw [List.mem_singleton.mp hp]; rfl
    · intro p hp
      rw [List.mem_singleton.mp hp]
      exact ⟨e3, Nat.ne_of_lt hsL, (N₂ (src, _) (.tail _ (.tail _ (.head _)))).2.2⟩
    · rcases tl with ⟨rfl, hf⟩ | ⟨r, rfl, hf⟩ | ⟨r, rfl, hf⟩
      · exact .stops (by rw [List.getElem?_eq_none_iff, hlen]; simp) hf
      · obtain ⟨t3, q3⟩ := ints_at hI₁ (i := 3) (n := 127) rfl
        exact .max t3 q3 hf
      · obtain ⟨t3, q3⟩ := ints_at hI₁ (i := 3) (n := 0) rfl
        exact .again t3 q3 rfl rfl hf
  case hoff =>
    intro p hp
    rcases List.mem_cons.mp hp with rfl | hp
    · exact ⟨Nat.ne_of_lt hsL, notLI_list _ _⟩
    rcases List.mem_cons.mp hp with rfl | hp
    · exact ⟨Nat.ne_of_gt l2, fun h => by obtain ⟨h, _⟩ := h; exact absurd h (by show Value.type "generator" ≠ Value.type "list_iterator"; decide)⟩
    rcases List.mem_cons.mp hp with rfl | hp
    · exact ⟨Nat.ne_of_lt (l1 _ (.tail _ (.tail _ (.head _)))), notLI_list _ _⟩
    rcases List.mem_cons.mp hp with rfl | hp
    · exact ⟨Nat.ne_of_lt (l1 _ (.tail _ (.tail _ (.tail _ (.head _))))), notLI_list _ _⟩
    · exact ⟨Nat.ne_of_lt (l1 p (.tail _ (.tail _ (.tail _ (.tail _ hp))))), (hpD p hp).2⟩
  case hpD =>
    intro p hp
    rcases List.mem_cons.mp hp with rfl | hp
    · exact hYD
    rcases List.mem_cons.mp hp with rfl | hp
    · exact hZD
    · exact (hpD p hp).1
  case hQ =>
    intro h tk gens' tvs kt u' i hi F₃ N₃ hI₃ hb₃
    dsimp only
    refine wpAny_execs_nil ?_
    exact hQ h tk gens' tvs kt u' i hi F₃ N₃ hI₃ hb₃
end
end
section
theorem siz_s3 {w : World} {mean : ExcName → Option Value} {mg mb : Str → Option Value} {g : Heap} {L Z Y D : Addr} {u : Str → Option Value} {base : Heap} {A₀ : Around} {s : Shared} {Q : Flow → Shared → Prop} {E : Value → Shared → Prop}
    {dp un : Nat} {gd : Option (List Code)} {outer : List Env} {sc : Scope} {sts : List Stmt} (hsc : sc = fnScope 26) (hsts : sts = (fnBody 26).drop 3) {post : List (Addr × Obj)} {a b c : Int} {ta tb tc : Tok} {kz ke : Nat} {evs : List Value} {es : List Int}
    (B : Below A₀ base outer g) (X : (heapK w.params).In g) (T : Top viewK (looseW viewK lse) mean mg mb g)
    (F : Fr g L s.heap (kstB u [(Str.ofString "told", Value.ref D), (Str.ofString "sizes", Value.ref Z), (Str.ofString "ending", Value.ref Y)])) (N : News g L s.heap ((D, listOf #[] 0) :: (Y, listOf evs.toArray ke) :: (Z, listOf [Value.int a ta, .int b tb, .int c tc].toArray kz) :: post))
    (a1 : 1 ≤ a ∧ a ≤ 3) (b1 : 1 ≤ b ∧ b ≤ 3) (c1 : 1 ≤ c ∧ c ≤ 3) (hbare : AllBare s.gens) (hd1 : dp + 2 < recursionLimit) (hu1 : un + 64 < cLine)
    (hpD : ∀ p ∈ post, p.1 ≠ D ∧ ¬ IsLI p.2) (hYD : Y ≠ D) (hZD : Z ≠ D) (he : IntsAre evs es) (hes : es = [0, 3] ∨ es = [127, 3] ∨ es = [])
    (hE : PassesOwn (model PySem.Challenge.rw_ti0055_01.row.toRowW.prog w) (ktrTop dp un gd (Str.ofString "_law_sizes") sc L 259 (.ref 258) (cellsFrom (L + 1) sc.names []) outer) (envOfC (Str.ofString "_law_sizes") sc L 259 (.ref 258)) E)
    (hret : ∀ h' tk' gens' P D S tvs kt svs ks out m', Fr g L h' m' → News g L h' ((P, tupObj #[.ref D, .ref S] 0) :: (S, listOf svs.toArray ks) :: (D, listOf tvs.toArray kt) :: post) → AllBare gens' → IntsAre tvs out → IntsAre svs out → (out.length = 5 ∨ out.length = 3) → (∀ x ∈ out, 1 ≤ x ∧ x ≤ 3) →
      Q (.ret (.ref P)) { s with heap := h', gens := gens', toks := tk' }) :
    wpAny (model PySem.Challenge.rw_ti0055_01.row.toRowW.prog w) (ktrTop dp un gd (Str.ofString "_law_sizes") sc L 259 (.ref 258) (cellsFrom (L + 1) sc.names []) outer) (execs sts (envOfC (Str.ofString "_law_sizes") sc L 259 (.ref 258))) Q E s := by
  have hsc' := hsc
  have X' := X
  have F₀ := F
  revert X; k_fill; intro X
  (conv at hsc => rhs; whnf); subst hsc
  (conv at hsts => rhs; whnf); subst hsts
  obtain ⟨fin, hfin, htl⟩ : ∃ fin, (fin = 0 ∨ fin = 2) ∧ ((es = [] ∧ fin = 2) ∨ (∃ r, es = 127 :: r ∧ fin = 2) ∨ (∃ r, es = 0 :: r ∧ fin = 0)) := by
    rcases hes with rfl | rfl | rfl
    · exact ⟨0, .inl rfl, .inr (.inr ⟨_, rfl, rfl⟩)⟩
    · exact ⟨2, .inr rfl, .inr (.inl ⟨_, rfl, rfl⟩)⟩
    · exact ⟨2, .inr rfl, .inl ⟨rfl, rfl⟩⟩
  refine cutA 1 (fun s' => ∃ h tk gens' tvs kt u' i, i = 5 - fin ∧ Fr g L h (kstB u' [(Str.ofString "told", Value.ref D), (Str.ofString "sizes", Value.ref Z), (Str.ofString "ending", Value.ref Y)]) ∧ News g L h ((D, listOf tvs.toArray kt) :: (Y, listOf evs.toArray ke) :: (Z, listOf [Value.int a ta, .int b tb, .int c tc].toArray kz) :: post) ∧ IntsAre tvs ((List.range i).map fun j => [c, c, c, b, a].getD (4 - j) c) ∧ AllBare gens' ∧ s' = { s with heap := h, gens := gens', toks := tk }) ?_ ?_
  · refine siz_for hsc' rfl B X' T F₀ N a1 b1 c1 he (by rcases hes with rfl | rfl | rfl <;> decide) htl hbare (by omega) hpD hYD hZD hE ?_
    intro h tk gens' tvs kt u' i hi F₁ N₁ hI₁ hb₁
    exact ⟨h, tk, gens', tvs, kt, u', i, hi, F₁, N₁, hI₁, hb₁, rfl⟩
  · rintro s' ⟨h, tk, gens', tvs, kt, u', i, hi, F₁, N₁, hI₁, hb₁, rfl⟩
    dsimp only [kstB] at F₁
    dsimp only [List.drop]
    clear F F₀ N
    rcases hes with rfl | rfl | rfl
    · obtain ⟨t0, t1, rfl⟩ : ∃ t0 t1, evs = [.int 0 t0, .int 3 t1] := by
        cases he with
        | cons _ t0 r => cases r with
          | cons _ t1 r => cases r; exact ⟨t0, t1, rfl⟩
      repeat' (walk_at "m1")
      have hf0 : fin = 0 := by
        rcases htl with ⟨h, _⟩ | ⟨r, h, _⟩ | ⟨r, h, hf⟩
        · cases h
        · exact absurd (List.cons.inj h).1 (by decide)
        · exact hf
      have hi5 : i = 5 := (‹i = 5 - fin›).trans (by rw [‹fin = 0›])
      subst hi5
      rename Fr _ _ _ _ => F₉
      rename News _ _ _ _ => N₉
      refine' hret _ _ gens' _ D _ tvs kt [.int a ta, .int b tb, .int c tc, .int c tc, .int c tc] 0 [a, b, c, c, c] _ F₉ (cb_drop N₉ ?kin1) hb₁ hI₁ ?kit1 (.inl rfl) ?kbd1
      case kin1 => kst_in
      case kit1 => repeat' (first | exact IntsAre.nil | refine IntsAre.cons _ _ ?_)
      case kbd1 =>
        simp only [List.mem_cons, List.not_mem_nil, or_false]
        rintro x (rfl | rfl | rfl | rfl | rfl) <;> assumption
    · obtain ⟨t0, t1, rfl⟩ : ∃ t0 t1, evs = [.int 127 t0, .int 3 t1] := by
        cases he with
        | cons _ t0 r => cases r with
          | cons _ t1 r => cases r; exact ⟨t0, t1, rfl⟩
      repeat' (walk_at "m1")
      have hf2 : fin = 2 := by
        rcases htl with ⟨h, _⟩ | ⟨r, h, hf⟩ | ⟨r, h, _⟩
        · cases h
        · exact hf
        · exact absurd (List.cons.inj h).1 (by decide)
      have hi5 : i = 3 := (‹i = 5 - fin›).trans (by rw [‹fin = 2›])
      subst hi5
      rename Fr _ _ _ _ => F₉
      rename News _ _ _ _ => N₉
      refine' hret _ _ gens' _ D _ tvs kt [.int a ta, .int b tb, .int c tc] 0 [a, b, c] _ F₉ (cb_drop N₉ ?kin2) hb₁ hI₁ ?kit2 (.inr rfl) ?kbd2
      case kin2 => kst_in
      case kit2 => repeat' (first | exact IntsAre.nil | refine IntsAre.cons _ _ ?_)
      case kbd2 =>
        simp only [List.mem_cons, List.not_mem_nil, or_false]
        rintro x (rfl | rfl | rfl) <;> assumption
    · obtain rfl : evs = [] := by cases he; rfl
      repeat' (walk_at "m1")
      have hf2 : fin = 2 := by
        rcases htl with ⟨_, hf⟩ | ⟨r, h, hf⟩ | ⟨r, h, _⟩
        · exact hf
        · cases h
        · cases h
      have hi5 : i = 3 := (‹i = 5 - fin›).trans (by rw [‹fin = 2›])
      subst hi5
      rename Fr _ _ _ _ => F₉
      rename News _ _ _ _ => N₉
      refine' hret _ _ gens' _ D _ tvs kt [.int a ta, .int b tb, .int c tc] 0 [a, b, c] _ F₉ (cb_drop N₉ ?kin3) hb₁ hI₁ ?kit3 (.inr rfl) ?kbd3
      case kin3 => kst_in
      case kit3 => repeat' (first | exact IntsAre.nil | refine IntsAre.cons _ _ ?_)
      case kbd3 =>
        simp only [List.mem_cons, List.not_mem_nil, or_false]
        rintro x (rfl | rfl | rfl) <;> assumption
theorem siz_s2 {w : World} {mean : ExcName → Option Value} {mg mb : Str → Option Value} {g : Heap} {L Z : Addr} {u : Str → Option Value} {base : Heap} {A₀ : Around} {s : Shared} {Q : Flow → Shared → Prop} {E : Value → Shared → Prop}
    {dp un : Nat} {gd : Option (List Code)} {outer : List Env} {sc : Scope} {sts : List Stmt} (hsc : sc = fnScope 26) (hsts : sts = (fnBody 26).drop 1) {news : List (Addr × Obj)} {n a b c : Int} {ty ta tb tc : Tok} {kz : Nat} {oc : Obj}
    (B : Below A₀ base outer g) (X : (heapK w.params).In g) (T : Top viewK (looseW viewK lse) mean mg mb g)
    (F : Fr g L s.heap (kstB u [(Str.ofString "sizes", Value.ref Z)])) (N : News g L s.heap ((Z, listOf [Value.int a ta, .int b tb, .int c tc].toArray kz) :: (L + 1, oc) :: news)) (hoc : oc.data = .cell (some (.int n ty)))
    (a1 : 1 ≤ a ∧ a ≤ 3) (b1 : 1 ≤ b ∧ b ≤ 3) (c1 : 1 ≤ c ∧ c ≤ 3) (hbare : AllBare s.gens) (hd1 : dp + 2 < recursionLimit) (hu1 : un + 64 < cLine)
    (hZL : Z ≠ L + 1) (hnl : ∀ p ∈ (L + 1, oc) :: news, p.1 ≠ Z ∧ ¬ IsLI p.2) (h0 : 0 ≤ n) (h1 : n < 15000000)
    (hE : PassesOwn (model PySem.Challenge.rw_ti0055_01.row.toRowW.prog w) (ktrTop dp un gd (Str.ofString "_law_sizes") sc L 259 (.ref 258) (cellsFrom (L + 1) sc.names []) outer) (envOfC (Str.ofString "_law_sizes") sc L 259 (.ref 258)) E)
    (hret : ∀ h' tk' gens' P D S tvs kt svs ks out m', Fr g L h' m' → News g L h' ((P, tupObj #[.ref D, .ref S] 0) :: (S, listOf svs.toArray ks) :: (D, listOf tvs.toArray kt) :: news) → AllBare gens' → IntsAre tvs out → IntsAre svs out → (out.length = 5 ∨ out.length = 3) → (∀ x ∈ out, 1 ≤ x ∧ x ≤ 3) →
      Q (.ret (.ref P)) { s with heap := h', gens := gens', toks := tk' }) :
    wpAny (model PySem.Challenge.rw_ti0055_01.row.toRowW.prog w) (ktrTop dp un gd (Str.ofString "_law_sizes") sc L 259 (.ref 258) (cellsFrom (L + 1) sc.names []) outer) (execs sts (envOfC (Str.ofString "_law_sizes") sc L 259 (.ref 258))) Q E s := by
  have hsc' := hsc
  revert X; k_fill; intro X
  (conv at hsc => rhs; whnf); subst hsc
  (conv at hsts => rhs; whnf); subst hsts
  dsimp only [kstB] at F
  have h3 : n.fmod 3 = 0 ∨ n.fmod 3 = 1 ∨ n.fmod 3 = 2 := by rw [Int.fmod_eq_emod_of_nonneg _ (by decide)]; omega
  rcases h3 with hm | hm | hm
  all_goals
    repeat' ((fail_if_success (with_reducible refine is_tail ?_)); walk_at "m1")
    simp only [hm]
    repeat' ((fail_if_success (with_reducible refine is_fors ?_)); walk_at "m1")
    dsimp only
    rename Fr _ _ _ _ => F₁
    rename News _ _ _ _ => N₁
  · rename _ ∧ _ ∧ _ ∧ _ ∧ _ ∧ _ ∧ AllLt _ _ => hl
    refine' siz_s3 (s := ⟨_, _, _, _, _⟩) (es := [0, 3]) (post := (L + 1, oc) :: news) hsc' rfl B X T (fr_kst [(Str.ofString "told", Value.ref _), (Str.ofString "sizes", Value.ref Z), (Str.ofString "ending", Value.ref _)] F₁ ?ck1) (cb_drop N₁ ?cn1) a1 b1 c1 hbare hd1 hu1 ?hpD1 ?hYD1 ?hZD1 ?he1 (.inl rfl) hE ?hr1
    case ck1 => kst_all
    case cn1 => kst_in
    case hpD1 =>
      intro p hp
      refine ⟨?_, (hnl p hp).2⟩
      rcases List.mem_cons.mp hp with rfl | hp
      · exact Nat.ne_of_lt hl.2.2.2.2.2.1
      · exact Nat.ne_of_lt (lt_of_all hl.2.2.2.2.2.2 p hp)
    case hYD1 => exact Nat.ne_of_lt hl.2.2.2.1
    case hZD1 => exact Nat.ne_of_lt hl.2.2.2.2.1
    case he1 => repeat' (first | exact IntsAre.nil | refine IntsAre.cons _ _ ?_)
    case hr1 =>
      intro h' tk' gens' P D S tvs kt svs ks out m' F' N' b' i1 i2 i3 i4
      exact hret h' tk' gens' P D S tvs kt svs ks out m' F' (cb_drop N' (by kst_in)) b' i1 i2 i3 i4
  · rename _ ∧ _ ∧ _ ∧ _ ∧ _ ∧ _ ∧ AllLt _ _ => hl
    refine' siz_s3 (s := ⟨_, _, _, _, _⟩) (es := [127, 3]) (post := (L + 1, oc) :: news) hsc' rfl B X T (fr_kst [(Str.ofString "told", Value.ref _), (Str.ofString "sizes", Value.ref Z), (Str.ofString "ending", Value.ref _)] F₁ ?ck2) (cb_drop N₁ ?cn2) a1 b1 c1 hbare hd1 hu1 ?hpD2 ?hYD2 ?hZD2 ?he2 (.inr (.inl rfl)) hE ?hr2
    case ck2 => kst_all
    case cn2 => kst_in
    case hpD2 =>
      intro p hp
      refine ⟨?_, (hnl p hp).2⟩
      rcases List.mem_cons.mp hp with rfl | hp
      · exact Nat.ne_of_lt hl.2.2.2.2.2.1
      · exact Nat.ne_of_lt (lt_of_all hl.2.2.2.2.2.2 p hp)
    case hYD2 => exact Nat.ne_of_lt hl.2.2.1
    case hZD2 => exact Nat.ne_of_lt hl.2.2.2.2.1
    case he2 => repeat' (first | exact IntsAre.nil | refine IntsAre.cons _ _ ?_)
    case hr2 =>
      intro h' tk' gens' P D S tvs kt svs ks out m' F' N' b' i1 i2 i3 i4
      exact hret h' tk' gens' P D S tvs kt svs ks out m' F' (cb_drop N' (by kst_in)) b' i1 i2 i3 i4
  · rename _ ∧ _ ∧ _ ∧ _ ∧ _ ∧ _ ∧ AllLt _ _ => hl
    refine' siz_s3 (s := ⟨_, _, _, _, _⟩) (es := []) (post := (L + 1, oc) :: news) hsc' rfl B X T (fr_kst [(Str.ofString "told", Value.ref _), (Str.ofString "sizes", Value.ref Z), (Str.ofString "ending", Value.ref _)] F₁ ?ck3) (cb_drop N₁ ?cn3) a1 b1 c1 hbare hd1 hu1 ?hpD3 ?hYD3 ?hZD3 ?he3 (.inr (.inr rfl)) hE ?hr3
    case ck3 => kst_all
    case cn3 => kst_in
    case hpD3 =>
      intro p hp
      refine ⟨?_, (hnl p hp).2⟩
      rcases List.mem_cons.mp hp with rfl | hp
      · exact Nat.ne_of_lt hl.2.2.2.2.2.1
      · exact Nat.ne_of_lt (lt_of_all hl.2.2.2.2.2.2 p hp)
    case hYD3 => exact Nat.ne_of_lt hl.2.1
    case hZD3 => exact Nat.ne_of_lt hl.2.2.2.2.1
    case he3 => repeat' (first | exact IntsAre.nil | refine IntsAre.cons _ _ ?_)
    case hr3 =>
      intro h' tk' gens' P D S tvs kt svs ks out m' F' N' b' i1 i2 i3 i4
      exact hret h' tk' gens' P D S tvs kt svs ks out m' F' (cb_drop N' (by kst_in)) b' i1 i2 i3 i4
end
section
section
local macro_rules | `(tactic| walk_at "SrcG") => `(tactic| (k_dflt (refine' SrcG.tup (s₁ := ⟨_, _, _, _, _⟩) ?hh ?F ?N ?hT ?hz ?_; (case hh => exact rfl); (case F => k_asm); (case N => k_asm); (case hT => exact .inr ⟨_, by k_mem, rfl, _, rfl⟩); (case hz => exact Nat.le_of_ble_eq_true rfl)); intro g'; lcg_lit))
variable {w : World} {mean : ExcName → Option Value} {mg mb : Str → Option Value} {news : List (Addr × Obj)} {dp un : Nat} {gd : Option (List Code)} {cn : Str} {cs : Scope} {a : Addr} {ccd : Value} {cl : List (Str × Addr)} {outer : List Env} {A₀ : Around} {base h₀ : Heap} {L : Addr} {m : Str → Option Value} {s : Shared} {Q E : Value → Shared → Prop}
theorem siz_call {n : Int} {ty : Tok} (B : Below A₀ base outer h₀) (F : Fr h₀ L s.heap m) (X : (heapK w.params).In h₀) (N : News h₀ L s.heap news) (T : Top viewK (looseW viewK lse) mean mg mb h₀) (hk : cs.kind = .function) (h0 : 0 ≤ n) (h1 : n < 15000000)
    (hd1 : dp + 3 < recursionLimit) (hu1 : un + 100 < cLine) (hbare : AllBare s.gens) (hnl : ∀ p ∈ news, ¬ IsLI p.2)
    (hret : ∀ h' tk' gens' P D S tvs kt svs ks out, Fr h₀ L h' m → News h₀ L h' ((P, tupObj #[.ref D, .ref S] 0) :: (S, listOf svs.toArray ks) :: (D, listOf tvs.toArray kt) :: news) → AllBare gens' → IntsAre tvs out → IntsAre svs out → (out.length = 5 ∨ out.length = 3) → (∀ x ∈ out, 1 ≤ x ∧ x ≤ 3) →
      Q (.ref P) { s with heap := h', gens := gens', toks := tk' }) :
    wpAny (model PySem.Challenge.rw_ti0055_01.row.toRowW.prog w) (ktrTop dp un gd cn cs L a ccd cl outer) (call (.ref 259) [.int n ty]) Q E s := by
  revert X; k_fill; intro X
  refine wpAny_call ?_
  k_dflt (walk_at "enterC")
  walk_at "m1"
  refine Assign_ListComp_G (s := ⟨_, _, _, _, _⟩) (by assumption) (by rfl) (by with_unfolding_all rfl) (by with_unfolding_all rfl) (by decide) (by rfl) (by decide) (by rfl) (by rfl) (by rfl) ?_ (fun _ => rfl)
  repeat' ((fail_if_success (with_reducible refine at_line 182 ?_ (by with_unfolding_all rfl))); walk_at "m1")
  rename Fr _ _ _ _ => F₁
  rename News _ _ _ _ => N₁
  rename _ = Data.cell _ => hd9
  rename _ ∧ _ ∧ LCg.Off1 _ _ => o9
  refine' siz_s2 (s := ⟨_, _, _, _, _⟩) (n := n) (ty := ty) (outer := envX cn cs L a ccd cl :: outer) rfl rfl (by assumption) (by assumption) (by assumption) (fr_kst [(Str.ofString "sizes", Value.ref _)] F₁ ?ck) (cb_drop N₁ ?cn) hd9 (fm3 _) (fm3 _) (fm3 _) hbare ?h1 ?h2 ?hZL ?hnl h0 h1 ?hE ?hr
  case ck => kst_all
  case cn => kst_in
  case h1 => omega
  case h2 => (show un + 3 + 64 < cLine; omega)
  case hE => passes_own
  case hr =>
    intro h' tk' gens' P D S tvs kt svs ks out m' F' N' b' i1 i2 i3 i4
    repeat' (walk_at "m1")
    exact hret h' tk' gens' P D S tvs kt svs ks out (by assumption) (cb_drop (by assumption) (by kst_in)) b' i1 i2 i3 i4
  case hZL => exact Ne.symm o9.2.1
  case hnl =>
    intro p hp
    rcases List.mem_cons.mp hp with rfl | hp
    · refine ⟨o9.2.1, fun h => ?_⟩
      obtain ⟨_, vs, h⟩ := h
      rw [hd9] at h; cases h
    · exact ⟨off1_mem o9.2.2 p hp, hnl p hp⟩
end
end
section
local macro_rules | `(tactic| walk_at "z") => `(tactic| fail)
section
local macro_rules | `(tactic| walk_at "subscriptTail Name Slice ref ref") => `(tactic| ((with_reducible show wpAny _ _ (subscriptTail _ (Expr.Slice (some _) none none _) (Value.ref _) (Value.ref _)) _ _ _); k_dflt (refine' slice_fromK (s := ⟨_, _, _, _, _⟩) ?F ?N ?m ?i ?h0 ?z ?s ?t ?_; (case F => k_asm); (case N => k_asm); (case m => k_mem); (case i => l_ints); (case h0 => omega); (case z => exact Nat.le_of_ble_eq_true rfl); (case s => with_unfolding_all rfl); (case t => (intro _; with_unfolding_all rfl))); intro D' ws' h' F' N' l1 hI'))
variable {w : World} {mean : ExcName → Option Value} {mg mb : Str → Option Value} {news : List (Addr × Obj)} {dp un : Nat} {gd : Option (List Code)} {cn : Str} {cs : Scope} {a : Addr} {ccd : Value} {cl : List (Str × Addr)} {outer : List Env} {A₀ : Around} {base h₀ : Heap} {L : Addr} {m : Str → Option Value} {s : Shared} {Q E : Value → Shared → Prop}
theorem cel_call {l : Addr} {svs : List Value} {ns : List Int} (B : Below A₀ base outer h₀) (F : Fr h₀ L s.heap m) (X : (heapK w.params).In h₀) (N : News h₀ L s.heap news) (T : Top viewK (looseW viewK lse) mean mg mb h₀) (hk : cs.kind = .function)
    (hl : h₀.IsList l svs.toArray) (hi : IntsAre svs ns) (hln : ns.length ≤ 63)
    (hd1 : dp + 3 < recursionLimit) (hu1 : un + 100 < cLine)
    (hret : ∀ h' tk' C vs k cs, Fr h₀ L h' m → News h₀ L h' ((C, listOf vs.toArray k) :: news) → IntsAre vs cs → cs.length = 15 → (∀ c ∈ cs, 0 ≤ c ∧ c < 1000000) → Q (.ref C) { s with heap := h', toks := tk' }) :
    wpAny (model PySem.Challenge.rw_ti0055_01.row.toRowW.prog w) (ktrTop dp un gd cn cs L a ccd cl outer) (call (.ref 254) [.ref l]) Q E s := by
  revert X; k_fill; intro X
  refine wpAny_call ?_
  k_dflt cell_enter
  rename Fr h₀ L _ m => FG
  have hl2 := hl.at fun o e => FG.keep l o e
  clear hl
  repeat' ((fail_if_success (with_reducible refine at_line 178 ?_ (by with_unfolding_all rfl))); walk_at "m1")
  refine wpAny_execs_cons ?_
  refine Assign_ListComp_G (s := ⟨_, _, _, _, _⟩) (by assumption) (by rfl) (by with_unfolding_all rfl) (by with_unfolding_all rfl) (by decide) (by rfl) (by decide) (by rfl) (by rfl) (by rfl) ?_ (fun _ => rfl)
  repeat' ((fail_if_success (with_reducible refine is_srcG ?_)); walk_at "m1")
  rename IntsAre _ (List.take 15 ns) => hI
  have hws := hI.length
  have hlen : (List.take 15 ns).length ≤ 15 := List.length_take_le _ _
  refine' SrcG.led (s₁ := ⟨_, _, _, _, _⟩) ?hh ?F ?N ?hS ?hz ?_
  case hh => exact rfl
  case F => k_asm
  case N => k_asm
  case hS => exact .inr ⟨_, by k_mem, rfl, _, rfl⟩
  case hz => rw [List.size_toArray, sizeLine_eq]; omega
  intro g9
  refine rest_ints hI (fun i ys => IntsAre ys (((List.take 15 ns).take i).map fun c => c.fmod 1000000)) ?step ?fin _ 0 [] (by rw [List.size_toArray]; omega) .nil
  case step =>
    intro i ys c t I oI C oC D m₂ h tk E' hc hJ hC hx F' N' off ne
    repeat' (walk_at "m1")
    rw [take_map_succ _ hc]
    exact hJ.append (.cons _ _ .nil)
  case fin =>
    intro ys hJ
    rw [List.take_length] at hJ
    repeat' (walk_at "m1")
    rename IntsAre _ (_ ++ _) => hF
    rename Fr _ _ _ _ => F₉
    rename News _ _ _ _ => N₉
    refine' hret _ _ _ _ 0 _ F₉ (cb_drop N₉ ?kin) hF ?len ?bd
    case kin => kst_in
    case len => rw [List.length_append, List.length_drop, List.length_map, Int.toNat_natCast]; simp only [List.length_cons, List.length_nil]; omega
    case bd =>
      intro c hc
      rcases List.mem_append.mp hc with hc | hc
      · obtain ⟨x, _, rfl⟩ := List.mem_map.mp hc
        rw [Int.fmod_eq_emod_of_nonneg _ (by decide)]
        exact ⟨Int.emod_nonneg _ (by decide), Int.emod_lt_of_pos _ (by decide)⟩
      · exact (by decide : ∀ c ∈ [(4 : Int), 3, 2, 3, 2, 2, 0, 2, 1, 1, 3, 2, 2, 3, 0], 0 ≤ c ∧ c < 1000000) c (List.mem_of_mem_drop hc)
end
end
section
noncomputable def ab (c : Int) : Nat := [97, 65, 98, 66].getD (c.fmod 4).toNat 97
theorem ab_mem (c : Int) : ab c ∈ [97, 65, 98, 66] := by
  unfold ab
  rw [Int.fmod_eq_emod_of_nonneg _ (by decide)]
  exact (by decide : ∀ n : Nat, n < 4 → [97, 65, 98, 66].getD n 97 ∈ [97, 65, 98, 66]) _ ((Int.toNat_lt (Int.emod_nonneg c (by decide))).mpr (Int.emod_lt_of_pos c (by decide)))
theorem sum_ones : ∀ l : List Int, (l.map ((fun x : Str => x.length) ∘ fun c => (⟨#[ab c]⟩ : Str))).sum = l.length
  | [] => rfl
  | c :: r => by
    rw [List.map_cons, List.sum_cons, sum_ones r, List.length_cons]
    show 1 + r.length = r.length + 1
    omega
theorem item_ab (c : Int) : Txt.item (Str.ofString "aAbB") (c.fmod 4) = ⟨#[ab c]⟩ := by
  unfold ab
  rcases (by rw [Int.fmod_eq_emod_of_nonneg _ (by decide)]; omega : c.fmod 4 = 0 ∨ c.fmod 4 = 1 ∨ c.fmod 4 = 2 ∨ c.fmod 4 = 3) with h | h | h | h <;> rw [h] <;> rfl
section
local macro_rules | `(tactic| walk_at "call builtin:list.append") => `(tactic| ((with_reducible show wpAny _ _ (call (Value.builtin _) [Value.ref _, _]) _ _ _); (refine' append_vs (s := ⟨_, _, _, _, _⟩) ?F ?N ?U ?hz ?_; (case F => k_asm); (case N => k_asm); (case U => assumption); (case hz => assumption)); intro h' F' N'; (try dsimp only at N')))
noncomputable def wordAt (ls : List Nat) (zs : List Int) (j : Nat) : List Nat := (ls.drop ((zs.take j).sum).toNat).take (zs.getD j 0).toNat
theorem word_eq {ls : List Nat} {zs : List Int} {i : Nat} {st z : Int} (hst : st = (zs.take i).sum) (hzi : zs[i]? = some z) : wd ((ls.drop st.toNat).take (st + z - st).toNat) = wd (wordAt ls zs i) := by
  unfold wordAt
  rw [← hst, List.getD_eq_getElem?_getD, hzi, show st + z - st = z by omega]
  rfl
theorem wrd_s2 {w : World} {mean : ExcName → Option Value} {mg mb : Str → Option Value} {g : Heap} {L : Addr} {u : Str → Option Value} {base : Heap} {A₀ : Around} {s : Shared} {Q : Flow → Shared → Prop} {E : Value → Shared → Prop}
    {dp un : Nat} {gd : Option (List Code)} {outer : List Env} {sc : Scope} {sts : List Stmt} (hsc : sc = fnScope 27) (hsts : sts = (fnBody 27).drop 1) {post : List (Addr × Obj)} {ls : List Nat} {tt : Tok} {l2 : Addr} {zvs : List Value} {zs : List Int} {k2 : Nat}
    (B : Below A₀ base outer g) (X : (heapK w.params).In g) (T : Top viewK (looseW viewK lse) mean mg mb g)
    (F : Fr g L s.heap (kstB u [(Str.ofString "text", Value.str (wd ls) tt), (Str.ofString "sizes", Value.ref l2)])) (N : News g L s.heap ((l2, listOf zvs.toArray k2) :: post))
    (hi2 : IntsAre zvs zs) (hl : ls.length = 15) (hz5 : zs.length = 5) (hz : ∀ z ∈ zs, 1 ≤ z ∧ z ≤ 3)
    (hd1 : dp + 2 < recursionLimit) (hu1 : un + 64 < cLine)
    (hE : PassesOwn (model PySem.Challenge.rw_ti0055_01.row.toRowW.prog w) (ktrTop dp un gd (Str.ofString "_law_words") sc L 264 (.ref 263) [] outer) (envOf (Str.ofString "_law_words") sc L 264 (.ref 263)) E)
    (hret : ∀ h' tk' W wvs k m', Fr g L h' m' → News g L h' ((W, listOf wvs.toArray k) :: (l2, listOf zvs.toArray k2) :: post) → StrsAre wvs ((List.range 5).map fun j => wd (wordAt ls zs j)) → Q (.ret (.ref W)) { s with heap := h', toks := tk' }) :
    wpAny (model PySem.Challenge.rw_ti0055_01.row.toRowW.prog w) (ktrTop dp un gd (Str.ofString "_law_words") sc L 264 (.ref 263) [] outer) (execs sts (envOf (Str.ofString "_law_words") sc L 264 (.ref 263))) Q E s := by
  revert X; k_fill; intro X
  dsimp only [kstB] at F
  (conv at hsc => rhs; whnf); subst hsc
  (conv at hsts => rhs; whnf); subst hsts
  repeat' ((fail_if_success (with_reducible refine is_fors ?_)); walk_at "m1")
  dsimp only
  rename _ ∧ AllLt _ _ => hlt0
  rename_i W _ DT _ _ _ _ _ _ _
  have hlt : ∀ p ∈ (l2, listOf zvs.toArray k2) :: post, p.1 < W := fun p hp => by
    rcases List.mem_cons.mp hp with rfl | hp
    · exact hlt0.1
    · exact lt_of_all hlt0.2 p hp
  rename Fr _ _ _ _ => F1
  refine cutN (σ := List Value × Nat) 1 F1 (fun x => [(Str.ofString "words", Value.ref W)]) (fun x => (W, listOf x.1.toArray x.2) :: (l2, listOf zvs.toArray k2) :: post) (fun x => StrsAre x.1 ((List.range 5).map fun j => wd (wordAt ls zs j))) ?_ ?_
  · dsimp only [List.take]
    refine absQ ?_; intro R9 hR9
    refine wpAny_execs_cons ?_
    refine for_start ?_ ?hs9; case hs9 => (intro _; rfl)
    repeat' ((fail_if_success (with_reducible refine is_pyIter ?_)); walk_at "m1")
    (rename Fr _ _ _ _ => F9)
    (rename News _ _ _ _ => N9)
    with_unfolding_all refine' list_cut (s := ⟨_, _, _, _, _⟩) (σ := List Value × Nat × Int × Tok) ?hh hi2 (fun x => [(Str.ofString "text", Value.str (wd ls) tt), (Str.ofString "words", Value.ref W), (Str.ofString "start", Value.int x.2.2.1 x.2.2.2)]) (fun x => (W, listOf x.1.toArray x.2.1) :: (l2, listOf zvs.toArray k2) :: post) (fun i x => x.2.2.1 = (zs.take i).sum ∧ StrsAre x.1 ((List.range i).map fun j => wd (wordAt ls zs j))) ([], 0, 0, _) F9 N9 ?hk ?hn ?hj ?hadr ?hl ?turn ?done ?hE
    case hh => rfl
    case hk => kst_all
    case hn => kst_in
    case hj => exact ⟨rfl, .nil⟩
    case hadr => exact fun _ _ _ => rfl
    case hl => exact fun _ _ _ => .tail _ (.head _)
    case hE => exact hE
    case done =>
      rintro ⟨wvs, kw, st, t⟩ u8 h8 tk8 ⟨_, hJ⟩ F8 N8
      dsimp only at hJ
      refine wpAny_execs_nil ?_
      (try (with_reducible refine fp_end (by assumption) ?_))
      dsimp only
      refine' cut_end (wvs, kw) F8 N8 ?ck ?cn ?cp
      case ck => kst_all
      case cn => kst_in
      case cp => rw [hz5] at hJ; exact hJ
    case turn =>
      rintro i z t8 ⟨wvs, kw, st, t⟩ u8 h8 tk8 I oI hzi ⟨hst, hJ⟩ lI F8 N8
      dsimp only at hst hJ N8
      dsimp only [kstB] at F8
      (try (refine absT ?_; intro R8 hR8))
      have hzm : 1 ≤ z ∧ z ≤ 3 := hz z (List.mem_of_getElem? hzi)
      have hi5 : i < 5 := by rw [← hz5]; exact (List.getElem?_eq_some_iff.mp hzi).1
      have hsb := sum_bd (zs.take i) fun y hy => hz y (List.mem_of_mem_take hy)
      have hlt2 : (zs.take i).length ≤ i := List.length_take_le _ _
      have hwl : wvs.length = i := by rw [hJ.length]; simp
      have hzR : wvs.length ≤ 1000 := by omega
      have hwl15 : (wd ls).length = 15 := by show ls.toArray.size = 15; simpa using hl
      have hst0 : 0 ≤ st := by omega
      have hst1 : st + z ≤ 15 := by omega
      have lWI : W < I := lI (W, _) (.head _)
      have hU : ∀ o o' : Obj, o = listOf wvs.toArray kw → Upd W o o' ((I, oI) :: (W, listOf wvs.toArray kw) :: (l2, listOf zvs.toArray k2) :: post) ((fun q => (I, oI) :: (W, q) :: (l2, listOf zvs.toArray k2) :: post) o') := by
        rintro o o' rfl
        exact .tail (Nat.ne_of_gt lWI) (.head fun p hp => Nat.ne_of_lt (hlt p hp))
      repeat' (walk_at "m1")
      dsimp only [ForPost]
      refine' cut_end (_, kw + 1, st + z, _) (by assumption) (by assumption) ?ck ?cn ?cp
      case ck => kst_all
      case cn => kst_in
      case cp =>
        refine ⟨?_, ?_⟩
        · dsimp only
          rw [List.take_add_one, hzi, List.sum_append, ← hst]; simp
        · dsimp only
          rw [slice_wd hst0 (by omega) (by omega), word_eq hst hzi, List.range_succ, List.map_append]
          exact hJ.append' (.cons _ _ .nil)
  rintro ⟨wvs, kw⟩ u5 h5 tk5 F5 N5 hJ5
  dsimp only [kstB] at F5
  dsimp only at N5 hJ5
  dsimp only [List.drop]
  repeat' (walk_at "m1")
  exact hret _ _ W wvs kw _ (by assumption) (by assumption) hJ5
end
section
theorem wrd_call {w : World} {mean : ExcName → Option Value} {mg mb : Str → Option Value} {news : List (Addr × Obj)} {dp un : Nat} {gd : Option (List Code)} {cn : Str} {cs : Scope} {a : Addr} {ccd : Value} {cl : List (Str × Addr)} {outer : List Env} {A₀ : Around} {base h₀ : Heap} {L : Addr} {m : Str → Option Value} {s : Shared} {Q E : Value → Shared → Prop}
    {l1 l2 : Addr} {cvs zvs : List Value} {cs' zs : List Int} {k1 k2 : Nat} (B : Below A₀ base outer h₀) (F : Fr h₀ L s.heap m) (X : (heapK w.params).In h₀) (N : News h₀ L s.heap ((l1, listOf cvs.toArray k1) :: (l2, listOf zvs.toArray k2) :: news)) (T : Top viewK (looseW viewK lse) mean mg mb h₀) (hk : cs.kind = .function)
    (hi1 : IntsAre cvs cs') (hi2 : IntsAre zvs zs) (hc15 : cs'.length = 15) (hz5 : zs.length = 5) (hz : ∀ z ∈ zs, 1 ≤ z ∧ z ≤ 3)
    (hd1 : dp + 3 < recursionLimit) (hu1 : un + 100 < cLine)
    (hret : ∀ h' tk' W wvs k (ws : List (List Nat)), Fr h₀ L h' m → News h₀ L h' ((W, listOf wvs.toArray k) :: (l1, listOf cvs.toArray k1) :: (l2, listOf zvs.toArray k2) :: news) → StrsAre wvs (ws.map wd) → ws.length = 5 → (∀ x ∈ ws, x.length ≤ 3 ∧ ∀ c ∈ x, c ∈ [97, 65, 98, 66]) → Q (.ref W) { s with heap := h', toks := tk' }) :
    wpAny (model PySem.Challenge.rw_ti0055_01.row.toRowW.prog w) (ktrTop dp un gd cn cs L a ccd cl outer) (call (.ref 264) [.ref l1, .ref l2]) Q E s := by
  revert X; k_fill; intro X
  refine wpAny_call ?_
  k_dflt cell_enter
  repeat' ((fail_if_success (with_reducible refine is_comp ?_)); walk_at "m1")
  refine ListComp_G (s := ⟨_, _, _, _, _⟩) (by assumption) (by rfl) (by decide) (by rfl) (by decide) (by rfl) ?_ (fun _ => rfl)
  repeat' ((fail_if_success (with_reducible refine is_srcG ?_)); walk_at "m1")
  have hws := hi1.length
  refine' SrcG.led (s₁ := ⟨_, _, _, _, _⟩) ?hh ?F ?N ?hS ?hz ?_
  case hh => exact rfl
  case F => k_asm
  case N => k_asm
  case hS => exact .inr ⟨_, by k_mem, rfl, _, rfl⟩
  case hz => rw [List.size_toArray, sizeLine_eq]; omega
  intro g9
  refine rest_ints hi1 (fun i ys => StrsAre ys ((cs'.take i).map fun c => (⟨#[ab c]⟩ : Str))) ?step ?fin _ 0 [] (by rw [List.size_toArray]; omega) .nil
  case step =>
    intro i ys c t I oI C oC D m₂ h tk E' hc hJ hC hx F' N' off ne
    repeat' (walk_at "m1")
    rw [take_map_succ _ hc, item_ab]
    exact hJ.append' (.cons _ _ .nil)
  case fin =>
    intro ys hJ
    rw [List.take_length] at hJ
    repeat' (walk_at "m1")
    rename News _ _ _ _ => N₉
    refine' join_listW (s := ⟨_, _, _, _, _⟩) (items := ys.toArray) ⟨_, (N₉ _ (.head _)).1, rfl, _, rfl⟩ (ys := cs'.map fun c => (⟨#[ab c]⟩ : Str)) ?hj ?hsep ?hw ?_
    case hj => rw [List.toList_toArray]; exact hJ
    case hsep => decide
    case hw =>
      rw [List.map_map, List.length_map]
      rw [sum_ones]; omega
    intro t' k'
    have ej : Txt.join (Str.ofString "") (cs'.map fun c => (⟨#[ab c]⟩ : Str)) = wd (cs'.map ab) := by
      rw [show Str.ofString "" = (⟨#[]⟩ : Str) from rfl, ← join_ones, List.map_map]
      rfl
    rw [ej]
    repeat' ((fail_if_success (with_reducible refine at_line 191 ?_ (by with_unfolding_all rfl))); walk_at "m1")
    have hll : (cs'.map ab).length = 15 := by rw [List.length_map]; exact hc15
    rename Fr _ _ _ _ => F₁
    rename News _ _ _ _ => N₁
    dsimp only
    refine' wrd_s2 (s := ⟨_, _, _, _, _⟩) (outer := envX cn cs L a ccd cl :: outer) (post := (l1, listOf cvs.toArray k1) :: news) rfl rfl (by assumption) (by assumption) (by assumption) (fr_kst [(Str.ofString "text", Value.str (wd (cs'.map ab)) _), (Str.ofString "sizes", Value.ref l2)] F₁ ?ck) (cb_drop N₁ ?cn) hi2 hll hz5 hz ?h1 ?h2 ?hE ?hr
    case ck => kst_all
    case cn => kst_in
    case h1 => omega
    case h2 => (show un + 3 + 64 < cLine; omega)
    case hE => passes_own
    case hr =>
      intro h' tk' W wvs k m' F' N' hS
      repeat' (walk_at "m1")
      refine hret h' tk' W wvs k ((List.range 5).map (wordAt (cs'.map ab) zs)) (by assumption) (cb_drop (by assumption) (by kst_in)) (by rw [List.map_map]; exact hS) (by simp) ?_
      intro x hx
      obtain ⟨j, hj, rfl⟩ := List.mem_map.mp hx
      have hj5 : j < zs.length := by rw [hz5]; exact List.mem_range.mp hj
      have hzj := hz _ (List.getElem_mem hj5)
      refine ⟨?_, fun c hc => ?_⟩
      · unfold wordAt
        rw [List.getD_eq_getElem?_getD, List.getElem?_eq_getElem hj5]
        refine Nat.le_trans (List.length_take_le _ _) ?_
        show (zs[j]).toNat ≤ 3
        omega
      · obtain ⟨q, _, rfl⟩ := List.mem_map.mp (List.mem_of_mem_drop (List.mem_of_mem_take hc))
        exact ab_mem q
end
end
section
variable {w : World} {mean : ExcName → Option Value} {mg mb : Str → Option Value} {news : List (Addr × Obj)} {dp un : Nat} {gd : Option (List Code)} {cn : Str} {cs : Scope} {a : Addr} {ccd : Value} {cl : List (Str × Addr)} {outer : List Env} {A₀ : Around} {base h₀ : Heap} {L : Addr} {m : Str → Option Value} {s : Shared} {Q E : Value → Shared → Prop}
theorem and_op {x y : Int} {tx ty : Tok} (B : Below A₀ base outer h₀) (F : Fr h₀ L s.heap m) (X : (heapK w.params).In h₀) (N : News h₀ L s.heap news) (T : Top viewK (looseW viewK lse) mean mg mb h₀) (hk : cs.kind = .function) 
    (hd1 : dp + 1 < recursionLimit) (hu1 : un + 8 < cLine) (hret : ∀ (t : Tok) (h' : Heap) (tk' : Nat), Fr h₀ L h' m → News h₀ L h' news → Q (.int (Builtin.bitAnd x y) t) { s with heap := h', toks := tk' }) :
    wpAny (model PySem.Challenge.rw_ti0055_01.row.toRowW.prog w) (ktrTop dp un gd cn cs L a ccd cl outer) (call (.ref 59) [.int x tx, .int y ty]) Q E s := by
  revert X; k_fill; intro X
  refine wpAny_call ?_
  k_dflt cell_enter
  repeat' (walk_at "m1")
  exact hret _ _ _ (by assumption) (by assumption)
theorem or_op {x y : Int} {tx ty : Tok} (B : Below A₀ base outer h₀) (F : Fr h₀ L s.heap m) (X : (heapK w.params).In h₀) (N : News h₀ L s.heap news) (T : Top viewK (looseW viewK lse) mean mg mb h₀) (hk : cs.kind = .function) 
    (hd1 : dp + 1 < recursionLimit) (hu1 : un + 8 < cLine) (hret : ∀ (t : Tok) (h' : Heap) (tk' : Nat), Fr h₀ L h' m → News h₀ L h' news → Q (.int (Builtin.bitOr x y) t) { s with heap := h', toks := tk' }) :
    wpAny (model PySem.Challenge.rw_ti0055_01.row.toRowW.prog w) (ktrTop dp un gd cn cs L a ccd cl outer) (call (.ref 73) [.int x tx, .int y ty]) Q E s := by
  revert X; k_fill; intro X
  refine wpAny_call ?_
  k_dflt cell_enter
  repeat' (walk_at "m1")
  exact hret _ _ _ (by assumption) (by assumption)
theorem rshift_op {x y : Int} {tx ty : Tok} (B : Below A₀ base outer h₀) (F : Fr h₀ L s.heap m) (X : (heapK w.params).In h₀) (N : News h₀ L s.heap news) (T : Top viewK (looseW viewK lse) mean mg mb h₀) (hk : cs.kind = .function) (hx : 0 ≤ x) (hy : 0 ≤ y) (hx1 : x ≤ 100) (hy1 : y ≤ 8) 
    (hd1 : dp + 1 < recursionLimit) (hu1 : un + 8 < cLine) (hret : ∀ (t : Tok) (h' : Heap) (tk' : Nat), Fr h₀ L h' m → News h₀ L h' news → Q (.int (x.fdiv (2 ^ y.toNat)) t) { s with heap := h', toks := tk' }) :
    wpAny (model PySem.Challenge.rw_ti0055_01.row.toRowW.prog w) (ktrTop dp un gd cn cs L a ccd cl outer) (call (.ref 80) [.int x tx, .int y ty]) Q E s := by
  revert X; k_fill; intro X
  refine wpAny_call ?_
  k_dflt cell_enter
  repeat' (walk_at "m1")
  exact hret _ _ _ (by assumption) (by assumption)
theorem sub_op {x y : Int} {tx ty : Tok} (B : Below A₀ base outer h₀) (F : Fr h₀ L s.heap m) (X : (heapK w.params).In h₀) (N : News h₀ L s.heap news) (T : Top viewK (looseW viewK lse) mean mg mb h₀) (hk : cs.kind = .function) 
    (hd1 : dp + 1 < recursionLimit) (hu1 : un + 8 < cLine) (hret : ∀ (t : Tok) (h' : Heap) (tk' : Nat), Fr h₀ L h' m → News h₀ L h' news → Q (.int (x - y) t) { s with heap := h', toks := tk' }) :
    wpAny (model PySem.Challenge.rw_ti0055_01.row.toRowW.prog w) (ktrTop dp un gd cn cs L a ccd cl outer) (call (.ref 87) [.int x tx, .int y ty]) Q E s := by
  revert X; k_fill; intro X
  refine wpAny_call ?_
  k_dflt cell_enter
  repeat' (walk_at "m1")
  exact hret _ _ _ (by assumption) (by assumption)
theorem mod_op {x y : Int} {tx ty : Tok} (B : Below A₀ base outer h₀) (F : Fr h₀ L s.heap m) (X : (heapK w.params).In h₀) (N : News h₀ L s.heap news) (T : Top viewK (looseW viewK lse) mean mg mb h₀) (hk : cs.kind = .function) (hy : 0 < y) 
    (hd1 : dp + 1 < recursionLimit) (hu1 : un + 8 < cLine) (hret : ∀ (t : Tok) (h' : Heap) (tk' : Nat), Fr h₀ L h' m → News h₀ L h' news → Q (.int (x.fmod y) t) { s with heap := h', toks := tk' }) :
    wpAny (model PySem.Challenge.rw_ti0055_01.row.toRowW.prog w) (ktrTop dp un gd cn cs L a ccd cl outer) (call (.ref 66) [.int x tx, .int y ty]) Q E s := by
  revert X; k_fill; intro X
  refine wpAny_call ?_
  k_dflt cell_enter
  repeat' (walk_at "m1")
  exact hret _ _ _ (by assumption) (by assumption)
end
section
variable {prog : Program} {w : World} {A : Around} {E : Value → Shared → Prop} {Q : Flow → Shared → Prop} {s : Shared} {env : Env} {g : Heap} {L : Addr}
theorem enum_list_cut {σ : Type} {elts : List Expr} {kt : Nat} {py : Pos} {body : List Stmt} {m : Str → Option Value} {newsNow : List (Addr × Obj)} {l : Addr} {vs : List Value} {ns : List Int} {k : Nat} (hh : A.handled = none) (hi : IntsAre vs ns)
    (ps : σ → List (Str × Value)) (news : σ → List (Addr × Obj)) (J : Nat → σ → Prop) (x₀ : σ)
    (F : Fr g L s.heap m) (N : News g L s.heap newsNow) (hk : ∀ p ∈ ps x₀, m p.1 = some p.2) (hn : ∀ p ∈ news x₀, p ∈ newsNow)
    (hj : J 0 x₀) (hadr : ∀ i x, J i x → (news x).map (·.1) = (news x₀).map (·.1)) (hl : ∀ i x, J i x → (l, listOf vs.toArray k) ∈ news x)
    (turn : ∀ i c t t' z u h tk I oI oE T, ns[i]? = some c → J i z → (∀ p ∈ news x₀, p.1 < I) → Fr g L h (kstB u (ps z)) → News g L h ((I + 1, oE) :: (I, oI) :: news z) → h.IsTuple T #[.int (i : Int) t, .int c t'] →
      wpAny (model prog w) A (assign (.Tuple elts kt py) env (.ref T)) (fun _ s₂ => wpAny (model prog w) A (execs body env) (ForPost g L s ps (fun x => (I + 1, oE) :: (I, oI) :: news x) (J (i + 1)) Q) E s₂) E { s with heap := h, toks := tk })
    (done : ∀ z u h tk, J ns.length z → Fr g L h (kstB u (ps z)) → News g L h (news z) → Q .next { s with heap := h, toks := tk })
    (hE : PassesOwn (model prog w) A env E) :
    wpAny (model prog w) A (call (.type "enumerate") [.ref l]) (fun xv s₁ => wpAny (model prog w) A (pyIter xv) (ForK prog w A (.Tuple elts kt py) body env Q E) E s₁) E s := by
  have hLs : L < s.heap.objs.size := F.ns.lt
  have lt := lt_new F N
  have zl := N _ (hn _ (hl 0 x₀ hj))
  have hL : s.heap.IsList l vs.toArray := ⟨_, zl.1, rfl, k, rfl⟩
  have hll : l < s.heap.objs.size := Heap.lt_size zl.1
  have lt0 : ∀ p ∈ news x₀, p.1 < s.heap.objs.size := fun p hp => lt p (hn p hp)
  refine call_enumerate_list hL fun h' hen hit hsz hkp => ?_
  refine wpAny_pyIter_enum hen ?_
  have W := KTurns.ofWalksU (elts := elts) (k := kt) (pos := py) (WalksT.enumerate (prog := prog) (w := w) hh (s.heap.objs.size + 1) s.heap.objs.size l (Nat.succ_ne_self _) (ktu_ne 1 hll) (Nat.ne_of_lt hll) vs.toArray).toU
  unfold ForK
  refine turns_cut (s := s) (tk0 := s.toks) (σ := σ) (keep := [(l, listOf vs.toArray k)]) W [s.heap.objs.size + 1, s.heap.objs.size] ?_ ?_ ?_ ?_ ps news J x₀ (F.keeps hkp) (N.grown hkp) ⟨⟨.none, hen⟩, hit, hL.at fun o e => hkp l o e⟩ hk hn hj ?_ ?_ ?_ ?_ hE
  · rintro i h ⟨⟨old, he⟩, ⟨o, ho, _⟩, _⟩
    have he' : ∃ oe : Obj, h.get? (s.heap.objs.size + 1) = some oe := ⟨_, he⟩
    obtain ⟨oe, he⟩ := he'
    refine ⟨[(s.heap.objs.size + 1, oe), (s.heap.objs.size, o)], rfl, fun p hp => ?_⟩
    rcases List.mem_cons.mp hp with rfl | hp
    · exact he
    · rw [List.mem_singleton.mp hp]; exact ho
  · intro b hb
    rcases List.mem_cons.mp hb with rfl | hb
    · exact ⟨fun q => Nat.lt_irrefl _ (Nat.lt_trans (q ▸ hLs) (Nat.lt_succ_self _)), ktu_new F (Nat.le_add_right _ _)⟩
    · rw [List.mem_singleton.mp hb]
      exact ⟨fun q => Nat.lt_irrefl _ (q ▸ hLs), ktu_new F (Nat.le_refl _)⟩
  · intro b hb; simpa using hb
  · intro b hb
    have hb' : b = s.heap.objs.size + 1 ∨ b = s.heap.objs.size ∨ b = l := by simpa using hb
    rcases hb' with rfl | rfl | rfl
    · exact .inl (by simp)
    · exact .inl (by simp)
    · exact .inr ⟨_, .head _⟩
  · intro i z hz p hp hm
    have : p.1 ∈ (news x₀).map (·.1) := by rw [← hadr i z hz]; exact List.mem_map_of_mem hp
    obtain ⟨q, hq, e'⟩ := List.mem_map.mp this
    have l := lt0 q hq
    rw [e'] at l
    rcases List.mem_cons.mp hm with e | hm
    · rw [e] at l; exact Nat.lt_irrefl _ (Nat.lt_trans l (Nat.lt_succ_self _))
    · rw [List.mem_singleton.mp hm] at l; exact Nat.lt_irrefl _ l
  · intro i z hz p hp
    rw [List.mem_singleton.mp hp]; exact hl i z hz
  · rintro i z u h tk its v hlt ⟨T, vals, rfl, ⟨t1, v1, hv1, rfl⟩, hT⟩ hJ hits F' N'
    obtain ⟨oE, oI, rfl⟩ := map_two_eq hits
    have hlt' : i < ns.length := by rw [← hi.length]; simpa using hlt
    obtain ⟨t, ht⟩ := ints_at hi (i := i) (n := ns[i]) (List.getElem?_eq_getElem hlt')
    rw [List.getElem?_toArray] at hv1
    rw [hv1] at ht; cases ht
    exact turn i _ t1 t z u h tk _ oI oE T (List.getElem?_eq_getElem hlt') hJ lt0 F' N' hT
  · intro z u h tk hJ F' N'
    refine done z u h tk ?_ F' N'
    rw [← hi.length]; simpa using hJ
end
section
local macro_rules | `(tactic| walk_at "z") => `(tactic| fail)
noncomputable def wayS (es : List Int) (ch : Int) : Nat → Int × Int
  | 0 => (0, 0)
  | j + 1 => if j = es.length ∨ Builtin.bitAnd (ch.fdiv (2 ^ j)) 1 = 1 then (Builtin.bitOr (wayS es ch j).1 ((es ++ [5]).getD j 0 - (wayS es ch j).2), (es ++ [5]).getD j 0) else wayS es ch j
noncomputable def waysN (es : List Int) : Nat → Int
  | 0 => 0
  | c + 1 => waysN es c + (if (wayS es (c : Int) (es.length + 1)).1 = 5 then 1 else 0)
theorem way_hit {es : List Int} {ch ld st e : Int} {j : Nat} (h : Hd (wayS es ch j = (ld, st))) (he : (es ++ [5])[j]? = some e) (hc : j = es.length ∨ Builtin.bitAnd (ch.fdiv (2 ^ j)) 1 = 1) : Hd (wayS es ch (j + 1) = (Builtin.bitOr ld (e - st), e)) := by
  refine ⟨?_⟩
  show (if _ then _ else _) = _
  rw [if_pos hc, h.out, List.getD_eq_getElem?_getD, he]
  rfl
theorem way_miss {es : List Int} {ch ld st : Int} {j : Nat} (h : Hd (wayS es ch j = (ld, st))) (hc : ¬ (j = es.length ∨ Builtin.bitAnd (ch.fdiv (2 ^ j)) 1 = 1)) : Hd (wayS es ch (j + 1) = (ld, st)) := by
  refine ⟨?_⟩
  show (if _ then _ else _) = _
  rw [if_neg hc, h.out]
section
local macro_rules | `(tactic| walk_at "call ref") => `(tactic| (first
  | ((with_reducible show wpAny _ _ (call (Value.ref 59) _) _ _ _); k_dflt (refine' and_op (s := ⟨_, _, _, _, _⟩) (by k_asm) (by k_asm) (by k_asm) (by k_asm) (by k_asm) rfl (by walk_at "lim") (by walk_at "lim") ?_); intro t' h' tk' F' N')
  | ((with_reducible show wpAny _ _ (call (Value.ref 73) _) _ _ _); k_dflt (refine' or_op (s := ⟨_, _, _, _, _⟩) (by k_asm) (by k_asm) (by k_asm) (by k_asm) (by k_asm) rfl (by walk_at "lim") (by walk_at "lim") ?_); intro t' h' tk' F' N')
  | ((with_reducible show wpAny _ _ (call (Value.ref 80) _) _ _ _); k_dflt (refine' rshift_op (s := ⟨_, _, _, _, _⟩) (by k_asm) (by k_asm) (by k_asm) (by k_asm) (by k_asm) rfl (by omega) (by omega) (by omega) (by omega) (by walk_at "lim") (by walk_at "lim") ?_); intro t' h' tk' F' N')
  | ((with_reducible show wpAny _ _ (call (Value.ref 87) _) _ _ _); k_dflt (refine' sub_op (s := ⟨_, _, _, _, _⟩) (by k_asm) (by k_asm) (by k_asm) (by k_asm) (by k_asm) rfl (by walk_at "lim") (by walk_at "lim") ?_); intro t' h' tk' F' N')))
theorem way_s1 {w : World} {mean : ExcName → Option Value} {mg mb : Str → Option Value} {g : Heap} {L : Addr} {u : Str → Option Value} {base : Heap} {A₀ : Around} {s : Shared} {Q : Flow → Shared → Prop} {E : Value → Shared → Prop}
    {dp un : Nat} {gd : Option (List Code)} {outer : List Env} {sc : Scope} {sts : List Stmt} (hsc : sc = fnScope 31) (hsts : sts = fnBody 31) {post : List (Addr × Obj)} {l : Addr} {evs : List Value} {es : List Int} {ke : Nat}
    (B : Below A₀ base outer g) (X : (heapK w.params).In g) (T : Top viewK (looseW viewK lse) mean mg mb g)
    (F : Fr g L s.heap (kstB u [(Str.ofString "ends", Value.ref l)])) (N : News g L s.heap ((l, listOf evs.toArray ke) :: post))
    (hi : IntsAre evs es) (hl4 : es.length ≤ 4) (hpl : ∀ p ∈ post, p.1 ≠ l)
    (hd1 : dp + 2 < recursionLimit) (hu1 : un + 64 < cLine)
    (hE : PassesOwn (model PySem.Challenge.rw_ti0055_01.row.toRowW.prog w) (ktrTop dp un gd (Str.ofString "_law_ways") sc L 290 (.ref 289) [] outer) (envOf (Str.ofString "_law_ways") sc L 290 (.ref 289)) E)
    (hret : ∀ t h' tk' m', Fr g L h' m' → News g L h' ((l, listOf evs.toArray ke) :: post) → Q (.ret (.int (waysN es (2 ^ es.length)) t)) { s with heap := h', toks := tk' }) :
    wpAny (model PySem.Challenge.rw_ti0055_01.row.toRowW.prog w) (ktrTop dp un gd (Str.ofString "_law_ways") sc L 290 (.ref 289) [] outer) (execs sts (envOf (Str.ofString "_law_ways") sc L 290 (.ref 289))) Q E s := by
  revert X; k_fill; intro X
  dsimp only [kstB] at F
  (conv at hsc => rhs; whnf); subst hsc
  (conv at hsts => rhs; whnf); subst hsts
  have hle := hi.length
  repeat' ((fail_if_success (with_reducible refine is_fors ?_)); walk_at "m1")
  dsimp only
  rename Fr _ _ _ _ => F1
  refine cutN (σ := Tok) 1 F1 (fun x => [(Str.ofString "ways", Value.int (waysN es (2 ^ es.length)) x)]) (fun x => (l, listOf evs.toArray ke) :: post) (fun x => True) ?_ ?_
  · dsimp only [List.take]
    refine absQ ?_; intro R9 hR9
    refine wpAny_execs_cons ?_
    refine for_start ?_ ?hs9; case hs9 => (intro _; rfl)
    repeat' ((fail_if_success (with_reducible refine is_pyIter ?_)); walk_at "m1")
    (rename IsRange _ _ _ _ _ _ _ _ => R9)
    (rename Fr _ _ _ _ => F9)
    (rename News _ _ _ _ => N9)
    have e2 : ((2 : Int) ^ (((es.length : Nat) : Int)).toNat) = ((2 ^ es.length : Nat) : Int) := by rw [Int.toNat_natCast]; simp
    have h16 : 2 ^ es.length ≤ 16 := Nat.pow_le_pow_right (by decide) hl4
    have hsm : Builtin.Range.small 0 ((2 : Int) ^ (((es.length : Nat) : Int)).toNat) 1 = true ∧ Builtin.Range.rangeSize 0 ((2 : Int) ^ (((es.length : Nat) : Int)).toNat) 1 = ((2 ^ es.length : Nat) : Int) := by
      rw [Int.toNat_natCast]
      exact (by decide : ∀ n : Nat, n ≤ 4 → (Builtin.Range.small 0 ((2 : Int) ^ n) 1 = true ∧ Builtin.Range.rangeSize 0 ((2 : Int) ^ n) 1 = ((2 ^ n : Nat) : Int))) es.length hl4
    with_unfolding_all refine' range_cut (s := ⟨_, _, _, _, _⟩) (σ := Int × Tok) (n := 2 ^ es.length) ?hh R9 hsm.1 hsm.2 (fun x => [(Str.ofString "ends", Value.ref l), (Str.ofString "ways", Value.int x.1 x.2)]) (fun x => (l, listOf evs.toArray ke) :: post) (fun i x => x.1 = waysN es i) (0, _) F9 N9 ?hk ?hn ?hj ?hadr ?turn ?done ?ht ?hE
    case hh => rfl
    case hk => kst_all
    case hn => kst_in
    case hj => exact rfl
    case hadr => exact fun _ _ _ => rfl
    case ht => intro _ _; rfl
    case hE => exact hE
    case done =>
      rintro ⟨v, t⟩ u8 h8 tk8 hJ F8 N8
      dsimp only at hJ; subst hJ
      refine wpAny_execs_nil ?_
      (try (with_reducible refine fp_end (by assumption) ?_))
      dsimp only
      refine' cut_end t F8 N8 ?ck ?cn ?cp
      case ck => kst_all
      case cn => kst_in
      case cp => trivial
    case turn =>
      rintro i ⟨v, t⟩ u8 h8 tk8 I oI t8 hlt hJ lI F8 N8
      dsimp only at hJ; subst hJ
      dsimp only [kstB] at F8
      (try (refine absT ?_; intro R8 hR8))
      rw [show (0 : Int) + (i : Int) = (i : Int) from Int.zero_add _]
      repeat' ((fail_if_success (with_reducible refine is_fors ?_)); walk_at "m1")
      dsimp only
      have hi16 : i < 16 := Nat.lt_of_lt_of_le hlt h16
      have lIl : l < I := lI (l, _) (.head _)
      rename Fr _ _ _ _ => F2
      refine cutN (σ := (Int × Int) × Tok × Tok) 1 F2 (fun x => [(Str.ofString "ends", Value.ref l), (Str.ofString "ways", Value.int (waysN es i) t), (Str.ofString "laid", Value.int x.1.1 x.2.1)]) (fun x => (I, oI) :: (l, listOf evs.toArray ke) :: post) (fun x => Hd (wayS es (i : Int) (es.length + 1) = x.1)) ?_ ?_
      · dsimp only [List.take]
        refine absQ ?_; intro R9 hR9
        refine wpAny_execs_cons ?_
        refine for_start ?_ ?hs9; case hs9 => (intro _; rfl)
        repeat' ((fail_if_success (with_reducible refine is_enum ?_)); walk_at "m1")
        rename IntsAre _ (es ++ [5]) => hiD
        rename List Value => dvs
        rename Addr => D
        (rename Fr _ _ _ _ => F9)
        (rename News _ _ _ _ => N9)
        with_unfolding_all refine' enum_list_cut (s := ⟨_, _, _, _, _⟩) (σ := (Int × Int) × Tok × Tok) ?hh hiD (fun x => [(Str.ofString "ends", Value.ref l), (Str.ofString "ways", Value.int (waysN es i) t), (Str.ofString "choice", Value.int (i : Int) t8), (Str.ofString "laid", Value.int x.1.1 x.2.1), (Str.ofString "start", Value.int x.1.2 x.2.2)]) (fun x => (D, listOf dvs.toArray 0) :: (I, oI) :: (l, listOf evs.toArray ke) :: post) (fun j x => Hd (wayS es (i : Int) j = x.1)) ((0, 0), _, _) F9 N9 ?hk ?hn ?hj ?hadr ?hl ?turn ?done ?hE
        case hh => rfl
        case hk => kst_all
        case hn => kst_in
        case hj => exact ⟨rfl⟩
        case hadr => exact fun _ _ _ => rfl
        case hl => exact fun _ _ _ => .head _
        case hE => exact hE
        case done =>
          rintro ⟨⟨ld, st⟩, t1, t2⟩ u7 h7 tk7 hJ7 F7 N7
          refine wpAny_execs_nil ?_
          (try (with_reducible refine fp_end (by assumption) ?_))
          dsimp only
          refine' cut_end ((ld, st), t1, t2) F7 N7 ?ck ?cn ?cp
          case ck => kst_all
          case cn => kst_in
          case cp => rw [List.length_append] at hJ7; exact hJ7
        case turn =>
          rintro j e t9 t10 ⟨⟨ld, st⟩, t1, t2⟩ u7 h7 tk7 I2 oI2 oE2 T2 hej hJ7 lI2 F7 N7 hT2
          dsimp only [kstB] at F7
          (try (refine absT ?_; intro R8 hR8))
          have hj5 : j < es.length + 1 := by
            have := (List.getElem?_eq_some_iff.mp hej).1
            rw [List.length_append] at this; exact this
          repeat' (walk_at "m1")
          all_goals dsimp only [ForPost]
          · refine' cut_end ((Builtin.bitOr ld (e - st), e), _, _) (by assumption) (by assumption) ?ck ?cn ?cp
            case ck => kst_all
            case cn => kst_in
            case cp => exact way_hit hJ7 hej (.inl (by omega))
          · refine' cut_end ((Builtin.bitOr ld (e - st), e), _, _) (by assumption) (by assumption) ?ck2 ?cn2 ?cp2
            case ck2 => kst_all
            case cn2 => kst_in
            case cp2 => exact way_hit hJ7 hej (.inr (by assumption))
          · refine' cut_end ((ld, st), _, _) (by assumption) (by assumption) ?ck3 ?cn3 ?cp3
            case ck3 => kst_all
            case cn3 => kst_in
            case cp3 => exact way_miss hJ7 (not_or.mpr ⟨by omega, by assumption⟩)
      rintro ⟨⟨ld, st⟩, t1, t2⟩ u6 h6 tk6 F6 N6 hJ6
      dsimp only [kstB] at F6
      dsimp only [List.drop]
      repeat' (walk_at "m1")
      all_goals dsimp only [ForPost]
      · refine' cut_end (waysN es i + 1, _) (by assumption) (by assumption) ?ck4 ?cn4 ?cp4
        case ck4 => kst_all
        case cn4 => kst_in
        case cp4 =>
          show _ = waysN es i + (if (wayS es (i : Int) (es.length + 1)).1 = 5 then 1 else 0)
          rw [hJ6.out, if_pos (by assumption)]
      · refine' cut_end (waysN es i + 0, _) (by assumption) (by assumption) ?ck5 ?cn5 ?cp5
        case ck5 => kst_all
        case cn5 => kst_in
        case cp5 =>
          show _ = waysN es i + (if (wayS es (i : Int) (es.length + 1)).1 = 5 then 1 else 0)
          rw [hJ6.out, if_neg (by assumption)]
  intro x u5 h5 tk5 F5 N5 _
  dsimp only [kstB] at F5
  dsimp only [List.drop]
  repeat' (walk_at "m1")
  exact hret _ _ _ _ (by assumption) (by assumption)
end
end
section
variable {w : World} {mean : ExcName → Option Value} {mg mb : Str → Option Value} {news : List (Addr × Obj)} {dp un : Nat} {gd : Option (List Code)} {cn : Str} {cs : Scope} {a : Addr} {ccd : Value} {cl : List (Str × Addr)} {outer : List Env} {A₀ : Around} {base h₀ : Heap} {L : Addr} {m : Str → Option Value} {s : Shared} {Q E : Value → Shared → Prop}
theorem way_call {l : Addr} {evs : List Value} {es : List Int} {ke : Nat} (B : Below A₀ base outer h₀) (F : Fr h₀ L s.heap m) (X : (heapK w.params).In h₀) (N : News h₀ L s.heap ((l, listOf evs.toArray ke) :: news)) (T : Top viewK (looseW viewK lse) mean mg mb h₀) (hk : cs.kind = .function)
    (hi : IntsAre evs es) (hl4 : es.length ≤ 4) (hpl : ∀ p ∈ news, p.1 ≠ l)
    (hd1 : dp + 3 < recursionLimit) (hu1 : un + 100 < cLine) (hret : ∀ (t : Tok) (h' : Heap) (tk' : Nat), Fr h₀ L h' m → News h₀ L h' ((l, listOf evs.toArray ke) :: news) → Q (.int (waysN es (2 ^ es.length)) t) { s with heap := h', toks := tk' }) :
    wpAny (model PySem.Challenge.rw_ti0055_01.row.toRowW.prog w) (ktrTop dp un gd cn cs L a ccd cl outer) (call (.ref 290) [.ref l]) Q E s := by
  revert X; k_fill; intro X
  refine wpAny_call ?_
  k_dflt cell_enter
  refine' way_s1 (s := ⟨_, _, _, _, _⟩) (outer := envX cn cs L a ccd cl :: outer) (post := news) rfl rfl (by assumption) (by assumption) (by assumption) (fr_kst [(Str.ofString "ends", Value.ref l)] (by assumption) ?ck) (by assumption) hi hl4 hpl ?h1 ?h2 ?hE ?hr
  case ck => kst_all
  case h1 => omega
  case h2 => (show un + 3 + 64 < cLine; omega)
  case hE => passes_own
  case hr =>
    intro t h1 tk1 m1 F1 N1
    repeat' (walk_at "m1")
    exact hret _ _ _ (by assumption) (by assumption)
end
noncomputable def pairsL : List (Nat × Nat) := [(112,113),(112,114),(113,114),(112,115),(113,115),(114,115),(112,116),(113,116),(114,116),(115,116)]
noncomputable def winP (p : Nat × Nat) (b : Bool) : Nat × Nat := if b = true then p else (p.2, p.1)
noncomputable def winsF (f : List Bool) : List (Nat × Nat) := List.zipWith winP pairsL f
noncomputable def beatP (ws : List (Nat × Nat)) (x : Nat) : List Nat := (ws.filter fun p => p.1 == x).map (·.2)
noncomputable def overP (ws : List (Nat × Nat)) (x : Nat) : List Nat := (ws.filter fun p => p.2 == x).map (·.1)
noncomputable def nextF (af : Nat → List Nat) (r : List Nat) : List (List Nat) := ((af (r.getLastD 0)).filter fun c => !r.contains c).map fun c => r ++ [c]
noncomputable def stepF (af : Nat → List Nat) (rows : List (List Nat)) : List (List Nat) := rows.flatMap (nextF af)
noncomputable def ordF (afs : List (Nat → List Nat)) (rows : List (List Nat)) : List (List Nat) := afs.foldl (fun rows af => stepF af rows) rows
noncomputable def pickF (ws : List (Nat × Nat)) (o : Bool) : Nat → List Nat := if o = true then overP ws else beatP ws
noncomputable def dfsF : List (Nat → List Nat) → List Nat → Nat
  | [], _ => 1
  | af :: afs, r => ((nextF af r).map (dfsF afs)).sum
theorem ord_len : ∀ (afs : List (Nat → List Nat)) (rows : List (List Nat)), (ordF afs rows).length = (rows.map (dfsF afs)).sum
  | [], rows => by
    show rows.length = _
    induction rows with
    | nil => rfl
    | cons r t ih => simp [dfsF, ih, Nat.add_comm]
  | af :: afs, rows => by
    show (ordF afs (stepF af rows)).length = _
    rw [ord_len afs]
    unfold stepF
    induction rows with
    | nil => rfl
    | cons r t ih => rw [List.flatMap_cons, List.map_append, List.sum_append, List.map_cons, List.sum_cons, ih]; rfl
structure Alg (β : Type) where
  and : β → β → β
  xor : β → β → β
  one : β
  zero : β
noncomputable def sumX {β : Type} (G : Alg β) : List β → β
  | [] => G.zero
  | x :: r => G.xor x (sumX G r)
noncomputable def fromTo (o b : Bool) (p : Nat × Nat) : Nat × Nat := if (o == b) = true then (p.2, p.1) else p
noncomputable def parX {β : Type} (G : Alg β) (v : List β) : List Bool → List Nat → β
  | [], _ => G.one
  | o :: os, r => sumX G ((List.zip pairsL v).map fun q =>
      G.xor (if ((fromTo o true q.1).1 == r.getLastD 0 && !r.contains (fromTo o true q.1).2) = true then G.and q.2 (parX G v os (r ++ [(fromTo o true q.1).2])) else G.zero)
        (if ((fromTo o false q.1).1 == r.getLastD 0 && !r.contains (fromTo o false q.1).2) = true then G.and (G.xor G.one q.2) (parX G v os (r ++ [(fromTo o false q.1).2])) else G.zero))
noncomputable def algB : Alg Bool := ⟨fun a b => a && b, fun a b => a ^^ b, true, false⟩
noncomputable def ones : Nat := 2 ^ 1024 - 1
noncomputable def algN : Alg Nat := ⟨Nat.land, Nat.xor, ones, 0⟩
theorem sumX_hom {β γ : Type} (G : Alg β) (H : Alg γ) (φ : β → γ) (h0 : φ G.zero = H.zero) (hx : ∀ a b, φ (G.xor a b) = H.xor (φ a) (φ b)) : ∀ l : List β, φ (sumX G l) = sumX H (l.map φ)
  | [] => h0
  | x :: r => by show φ (G.xor x (sumX G r)) = H.xor (φ x) (sumX H (r.map φ)); rw [hx, sumX_hom G H φ h0 hx r]
theorem parX_hom {β γ : Type} (G : Alg β) (H : Alg γ) (φ : β → γ) (h0 : φ G.zero = H.zero) (h1 : φ G.one = H.one) (ha : ∀ a b, φ (G.and a b) = H.and (φ a) (φ b)) (hx : ∀ a b, φ (G.xor a b) = H.xor (φ a) (φ b)) (v : List β) :
    ∀ (os : List Bool) (r : List Nat), φ (parX G v os r) = parX H (v.map φ) os r
  | [], _ => h1
  | o :: os, r => by
    unfold parX
    rw [sumX_hom G H φ h0 hx, List.zip_map_right, List.map_map, List.map_map]
    congr 1
    refine List.map_congr_left fun q _ => ?_
    simp only [Function.comp, hx, Prod.map, id]
    congr 1
    · split
      · rw [ha, parX_hom G H φ h0 h1 ha hx v os]
      · exact h0
    · split
      · rw [ha, hx, h1, parX_hom G H φ h0 h1 ha hx v os]
      · exact h0
noncomputable def odd (n : Nat) : Bool := n % 2 == 1
theorem odd_add (a b : Nat) : odd (a + b) = (odd a ^^ odd b) := by
  unfold odd
  have h1 := Nat.mod_two_eq_zero_or_one a
  have h2 := Nat.mod_two_eq_zero_or_one b
  have h3 := Nat.add_mod a b 2
  rw [h3]
  rcases h1 with h1 | h1 <;> rcases h2 with h2 | h2 <;> simp [h1, h2]
theorem odd_sum : ∀ l : List Nat, odd l.sum = sumX algB (l.map odd)
  | [] => rfl
  | x :: r => by rw [List.sum_cons, odd_add, odd_sum r]; rfl
noncomputable def selF (o : Bool) (w : Nat × Nat) : Nat × Nat := if o = true then (w.2, w.1) else w
theorem next_cons (o : Bool) (w : Nat × Nat) (ws : List (Nat × Nat)) (r : List Nat) :
    nextF (pickF (w :: ws) o) r = (if ((selF o w).1 == r.getLastD 0 && !r.contains (selF o w).2) = true then [r ++ [(selF o w).2]] else []) ++ nextF (pickF ws o) r := by
  cases o
  · show ((((w :: ws).filter fun p => p.1 == r.getLastD 0).map (·.2)).filter fun c => !r.contains c).map (fun c => r ++ [c]) = (if (w.1 == r.getLastD 0 && !r.contains w.2) = true then [r ++ [w.2]] else []) ++ (((ws.filter fun p => p.1 == r.getLastD 0).map (·.2)).filter fun c => !r.contains c).map (fun c => r ++ [c])
    rw [List.filter_cons]
    cases h1 : (w.1 == r.getLastD 0)
    · simp
    · rw [if_pos rfl, List.map_cons, List.filter_cons]
      cases h2 : (!r.contains w.2) <;> simp
  · show ((((w :: ws).filter fun p => p.2 == r.getLastD 0).map (·.1)).filter fun c => !r.contains c).map (fun c => r ++ [c]) = (if (w.2 == r.getLastD 0 && !r.contains w.1) = true then [r ++ [w.1]] else []) ++ (((ws.filter fun p => p.2 == r.getLastD 0).map (·.1)).filter fun c => !r.contains c).map (fun c => r ++ [c])
    rw [List.filter_cons]
    cases h1 : (w.2 == r.getLastD 0)
    · simp
    · rw [if_pos rfl, List.map_cons, List.filter_cons]
      cases h2 : (!r.contains w.1) <;> simp
theorem sel_win (o b : Bool) (p : Nat × Nat) : selF o (winP p b) = fromTo o b p := by cases o <;> cases b <;> rfl
theorem sum_part (o : Bool) (r : List Nat) (g : List Nat → Nat) (gb : List Nat → Bool) (hg : ∀ c, odd (g (r ++ [c])) = gb (r ++ [c])) : ∀ (ps : List (Nat × Nat)) (f : List Bool), 
    odd (((nextF (pickF (List.zipWith winP ps f) o) r).map g).sum) = sumX algB ((List.zip ps f).map fun q =>
      ((if ((fromTo o true q.1).1 == r.getLastD 0 && !r.contains (fromTo o true q.1).2) = true then (q.2 && gb (r ++ [(fromTo o true q.1).2])) else false)
        ^^ (if ((fromTo o false q.1).1 == r.getLastD 0 && !r.contains (fromTo o false q.1).2) = true then ((true ^^ q.2) && gb (r ++ [(fromTo o false q.1).2])) else false)))
  | [], _ => by cases o <;> rfl
  | _ :: _, [] => by cases o <;> rfl
  | p :: ps, b :: f => by
    have ih := sum_part o r g gb hg ps f
    rw [List.zip_cons_cons, List.map_cons, List.zipWith_cons_cons, next_cons, List.map_append, List.sum_append, odd_add, ih, sel_win]
    show _ = ((_ : Bool) ^^ sumX algB _)
    congr 1
    cases b
    · cases hc : ((fromTo o false p).1 == r.getLastD 0 && !r.contains (fromTo o false p).2) <;> simp [hg] <;> rfl
    · cases hc : ((fromTo o true p).1 == r.getLastD 0 && !r.contains (fromTo o true p).2) <;> simp [hg] <;> rfl
theorem dfs_par (f : List Bool) : ∀ (os : List Bool) (r : List Nat), odd (dfsF (os.map (pickF (winsF f))) r) = parX algB f os r
  | [], _ => rfl
  | o :: os, r => by
    show odd (((nextF (pickF (List.zipWith winP pairsL f) o) r).map (dfsF (os.map (pickF (winsF f))))).sum) = _
    rw [sum_part o r _ (parX algB f os) (fun c => dfs_par f os _)]
    rfl
noncomputable def startsL : List (List Nat) := [[112],[113],[114],[115],[116]]
noncomputable def tabs : List Nat := [0,1,2,3,4,5,6,7,8,9].map fun k => ones / (2 ^ (2 ^ k) + 1)
noncomputable def allX {β : Type} (G : Alg β) (v : List β) (os : List Bool) : β := sumX G (startsL.map (parX G v os))
noncomputable def idxF : List Bool → Nat
  | [] => 0
  | b :: r => (if b = true then 0 else 1) + 2 * idxF r
theorem tabs_at : ∀ b0 b1 b2 b3 b4 b5 b6 b7 b8 b9 : Bool, tabs.map (fun t => t.testBit (idxF [b0, b1, b2, b3, b4, b5, b6, b7, b8, b9])) = [b0, b1, b2, b3, b4, b5, b6, b7, b8, b9] ∧ idxF [b0, b1, b2, b3, b4, b5, b6, b7, b8, b9] < 1024 := by decide +kernel
theorem tabs_all : ∀ f : List Bool, f.length = 10 → tabs.map (fun t => t.testBit (idxF f)) = f ∧ idxF f < 1024
  | [b0, b1, b2, b3, b4, b5, b6, b7, b8, b9], _ => tabs_at b0 b1 b2 b3 b4 b5 b6 b7 b8 b9
theorem allX_at {os : List Bool} {c : Bool} (h : allX algN tabs os = if c = true then ones else 0) {f : List Bool} (hf : f.length = 10) : allX algB f os = c := by
  obtain ⟨h1, h2⟩ := tabs_all f hf
  have ho : ones.testBit (idxF f) = true := by
    show (2 ^ 1024 - 1).testBit _ = true
    rw [Nat.testBit_two_pow_sub_one]
    exact decide_eq_true h2
  have h3 : (allX algN tabs os).testBit (idxF f) = allX algB f os := by
    unfold allX
    rw [sumX_hom algN algB (fun n => n.testBit (idxF f)) (Nat.zero_testBit _) (fun a b => Nat.testBit_xor a b _), List.map_map]
    congr 1
    refine List.map_congr_left fun r _ => ?_
    show (parX algN tabs os r).testBit (idxF f) = _
    rw [parX_hom algN algB (fun n => n.testBit (idxF f)) (Nat.zero_testBit _) ho (fun a b => Nat.testBit_and a b _) (fun a b => Nat.testBit_xor a b _), h1]
  rw [← h3, h]
  cases c
  · exact Nat.zero_testBit _
  · exact ho
noncomputable def endsF (os : List Bool) : List Int := (List.zip [1, 2, 3, 4] os).filterMap fun q => if q.2 = true then some q.1 else none
noncomputable def allOs : List (List Bool) := [false, true].flatMap fun a => [false, true].flatMap fun b => [false, true].flatMap fun c => [false, true].map fun d => [a, b, c, d]
theorem par0 : ∀ os ∈ allOs.take 4, allX algN tabs os = if (waysN (endsF os) (2 ^ (endsF os).length)).fmod 2 = 1 then ones else 0 := by decide +kernel
theorem par1 : ∀ os ∈ (allOs.drop 4).take 4, allX algN tabs os = if (waysN (endsF os) (2 ^ (endsF os).length)).fmod 2 = 1 then ones else 0 := by decide +kernel
theorem par2 : ∀ os ∈ ((allOs.drop 4).drop 4).take 4, allX algN tabs os = if (waysN (endsF os) (2 ^ (endsF os).length)).fmod 2 = 1 then ones else 0 := by decide +kernel
theorem par3 : ∀ os ∈ ((allOs.drop 4).drop 4).drop 4, allX algN tabs os = if (waysN (endsF os) (2 ^ (endsF os).length)).fmod 2 = 1 then ones else 0 := by decide +kernel
theorem mem_cut {p : List Bool → Prop} {l : List (List Bool)} (n : Nat) (h : ∀ x ∈ l.take n, p x) (k : ∀ x ∈ l.drop n, p x) : ∀ x ∈ l, p x := fun x hx => by
  rw [← List.take_append_drop n l] at hx
  exact (List.mem_append.mp hx).elim (h x) (k x)
theorem par_all : ∀ os ∈ allOs, allX algN tabs os = if (waysN (endsF os) (2 ^ (endsF os).length)).fmod 2 = 1 then ones else 0 :=
  mem_cut 4 par0 (mem_cut 4 par1 (mem_cut 4 par2 par3))
theorem ways_02 : ∀ os ∈ allOs, (waysN (endsF os) (2 ^ (endsF os).length)).fmod 2 = 1 ∨ (waysN (endsF os) (2 ^ (endsF os).length)).fmod 2 = 0 := by decide +kernel
theorem parity {f os : List Bool} (hf : f.length = 10) (ho : os ∈ allOs) : (((ordF (os.map (pickF (winsF f))) startsL).length : Nat) : Int).fmod 2 = (waysN (endsF os) (2 ^ (endsF os).length)).fmod 2 := by
  have h1 : odd (ordF (os.map (pickF (winsF f))) startsL).length = allX algB f os := by
    rw [ord_len, odd_sum, List.map_map]
    unfold allX
    congr 1
    refine List.map_congr_left fun r _ => dfs_par f os r
  have h2 := allX_at (c := decide ((waysN (endsF os) (2 ^ (endsF os).length)).fmod 2 = 1)) (by simpa using par_all os ho) hf
  rw [h2] at h1
  unfold odd at h1
  rw [Int.fmod_eq_emod_of_nonneg _ (by decide : (0 : Int) ≤ 2)]
  rcases ways_02 os ho with hw | hw
  · rw [hw] at h1 ⊢
    simp at h1
    omega
  · rw [hw] at h1 ⊢
    simp at h1
    omega
open PySem.Builtin PySem.Builtin.Re
noncomputable def reEnd : Nat → Sre.M → Option Sre.M
  | 0, _ => none
  | k + 1, m => if (m.runFor reTurnSteps).outcome.isSome then some (m.runFor reTurnSteps) else reEnd k (m.runFor reTurnSteps)
section
variable {M : Model} {A : Around} {E : Value → Shared → Prop} {s : Shared}
theorem drive_ok {Q : Sre.M → Shared → Prop} : ∀ (k n : Nat) (m m' : Sre.M), reEnd k m = some m' → k ≤ n → Q m' s → wpAny M A (reDrive n m) Q E s
  | 0, _, _, _, h, _, _ => nomatch h
  | k + 1, 0, _, _, _, hn, _ => absurd hn (Nat.not_succ_le_zero _)
  | k + 1, n + 1, m, m', h, hn, hQ => by
    show wpAny M A (if (m.runFor reTurnSteps).outcome.isSome then pure (m.runFor reTurnSteps) else do rule "sre.turn"; reDrive n (m.runFor reTurnSteps)) Q E s
    unfold reEnd at h
    by_cases hc : (m.runFor reTurnSteps).outcome.isSome = true
    · rw [if_pos hc] at h ⊢
      cases h
      exact wpAny_pure hQ
    · rw [if_neg hc] at h ⊢
      exact wpAny_bind (wpAny_rule (drive_ok k n _ m' h (Nat.le_of_succ_le_succ hn) hQ))
theorem rules_ok {c : Nat → Bool} {tg : Nat → String} {Q : PUnit → Shared → Prop} : ∀ (l : List Nat), Q PUnit.unit s → wpAny M A (forIn l PUnit.unit fun i _ => if c i = true then (do rule (tg i); pure (ForInStep.yield PUnit.unit)) else pure (ForInStep.yield PUnit.unit)) Q E s
  | [], h => wpAny_pure h
  | i :: r, h => by
    rw [List.forIn_cons]
    refine wpAny_bind ?_
    by_cases hc : c i = true
    · simp only [hc, if_true]
      exact wpAny_bind (wpAny_rule (wpAny_pure (rules_ok r h)))
    · simp only [hc, if_false, Bool.false_eq_true]
      exact wpAny_pure (rules_ok r h)
theorem end_none {m m' : Sre.M} {k : Nat} {Q : Option Sre.M → Shared → Prop} (h : reEnd k m = some m') (hk : k ≤ 2 ^ 64) (hf : m'.outcome = some .failed) (hQ : Q none s) : wpAny M A (reRunToEnd m) Q E s := by
  unfold reRunToEnd
  refine wpAny_bind (drive_ok k _ m m' h hk ?_)
  refine wpAny_bind (rules_ok (c := fun i => m'.seen.has i) (tg := fun i => Sre.names.getD i "") _ ?_)
  rw [hf]
  exact wpAny_pure hQ
end
theorem slotSearch : Slot "re.Pattern" "search" "re.Pattern.search" :=
  .of (owner := "re.Pattern") (n := "search") (by rw [typeLookup_type, builtinLookup_eq_fast]; kernel_rfl) (by decide +kernel) (by decide +kernel) (by decide +kernel) (by first | exact .inl (by decide +kernel) | exact .inr (by decide +kernel)) (by rw [isSubtype_type]; kernel_rfl)
theorem entrySearch : entryFor table "re.Pattern.search" = some Builtin.«re.Pattern.search» := entryFor_of_tree (by kernel_rfl)
theorem argsSearch (a b : Value) : argsOk "re.Pattern.search" ⟨[a, b], []⟩ := by unfold argsOk; kernel_rfl
section
variable {prog : Program} {w : World} {A : Around} {E : Value → Shared → Prop} {s : Shared}
theorem search_none {P C : Addr} {oc : Obj} {pat : Value} {cs : Array Value} {n : Nat} {x : Str} {t : Tok} {k : Nat} {m' : Sre.M} {Q : Value → Shared → Prop} {fl : Value}
    (hP : s.heap.get? P = some { cls := .type "re.Pattern", data := .fields #[pat, fl, .int 0 0, .none, .none, .ref C, .int 0 0] }) (hC : s.heap.get? C = some oc) (hd' : oc.data = .seq cs n)
    (h : reEnd k (Sre.forSearch ((cs.map reRawOf).map (·.toNat)) x.cps 0 0 x.cps.size false) = some m') (hk : k ≤ 2 ^ 64) (hf : m'.outcome = some .failed) (hx : x.length ≤ 1000) (hQ : Q .none s) :
    wpAny (model prog w) A (call (.builtin "re.Pattern.search") [.ref P, .str x t]) Q E s := by
  refine wpAny_call_entry slotSearch ⟨_, hP, rfl⟩ entrySearch ?_ (argsSearch _ _)
  show wpAny _ A.in1 (reTarget "re.Pattern.search" "search" ⟨[.ref P, .str x t], []⟩ >>= fun t => reAnswer t (Sre.forSearch t.code t.text t.groups t.pos t.lim false)) _ _ _
  refine wpAny_bind ?_
  unfold reTarget
  dsimp only
  refine wpAny_bind (wpAny_of_eq (show reNamed "re.Pattern.search" "search" ["string", "pos", "endpos"] 1 [.str x t] [] = pure [some (.str x t), none, none] from rfl) ?_)
  dsimp only
  refine wpAny_bind (wpAny_pure ?_)
  refine wpAny_bind (wpAny_pure ?_)
  refine wpAny_bind (wpAny_fieldsOf hP rfl ?_)
  refine wpAny_bind (wpAny_of_eq (show reTextOf (.str x t) = pure (x.cps, 0) from rfl) ?_)
  refine wpAny_bind (wpAny_of_eq (show reNoCollectionInside (.str x t) 0 = pure () from rfl) ?_)
  show wpAny _ _ (reRawItems (.ref C) >>= _) _ _ _
  refine wpAny_bind ?_
  unfold reRawItems
  refine wpAny_bind (wpAny_seqItems hC hd' (wpAny_pure (wpAny_pure ?_)))
  dsimp only
  unfold reAnswer
  have e : min ((2 ^ 63 - 1 : Int)).toNat x.cps.size = x.cps.size := by
    have : x.cps.size ≤ 1000 := hx
    omega
  refine wpAny_bind (end_none (k := k) (m' := m') ?_ hk hf (wpAny_pure ⟨_, rfl, hQ⟩))
  show reEnd k (Sre.forSearch ((cs.map reRawOf).map (·.toNat)) x.cps 0 (min (0 : Int).toNat x.cps.size) (min ((2 ^ 63 - 1 : Int)).toNat x.cps.size) false) = some m'
  rw [e]
  exact h
end
noncomputable def codesAt (pr : List (Addr × Obj)) (a : Addr) : Array Value := match pr.lookup a with
  | some o => (match o.data with | .seq vs _ => vs | _ => #[])
  | none => #[]
noncomputable def codeN : Array Value := #[.int 14 0, .int 10 0, .int 4 0, .int 1 0, .int 1 0, .int 22 0, .int 0 0, .int 31 0, .int 16 0, .int 127 0, .int 0 0, .int 13 0, .int 7 0, .int 22 0, .int 0 0, .int 31 0, .int 16 0, .int 127 0, .int 0 0, .int 1 0]
noncomputable def codeV : Array Value := #[.int 14 0, .int 14 0, .int 4 0, .int 1 0, .int 1 0, .int 9 0, .int 4294966783 0, .int 0 0, .int 0 0, .int 2147483648 0, .int 0 0, .int 0 0, .int 0 0, .int 0 0, .int 0 0, .int 13 0, .int 11 0, .int 9 0, .int 4294966783 0, .int 0 0, .int 0 0, .int 2147483648 0, .int 0 0, .int 0 0, .int 0 0, .int 0 0, .int 0 0, .int 1 0]
noncomputable def failsOn (code : Array Value) (x : Str) : Bool := match reEnd 1000 (Sre.forSearch ((code.map reRawOf).map (·.toNat)) x.cps 0 0 x.cps.size false) with
  | some m => (match m.outcome with | some .failed => true | _ => false)
  | none => false
theorem failsOn_m {code : Array Value} {x : Str} (h : failsOn code x = true) : ∃ m', reEnd 1000 (Sre.forSearch ((code.map reRawOf).map (·.toNat)) x.cps 0 0 x.cps.size false) = some m' ∧ m'.outcome = some .failed := by
  unfold failsOn at h
  split at h
  · rename_i m hm
    refine ⟨m, hm, ?_⟩
    split at h
    · assumption
    · cases h
  · cases h
noncomputable def lowL : List Nat := [112, 113, 114, 115, 116]
noncomputable def namL : List (List Nat) := (lowL.map fun c => [c]) ++ (lowL.map fun c => [c - 32]) ++ (lowL.map fun c => [120, c])
theorem fails_N : ∀ l ∈ namL, failsOn codeN (wd l) = true := by decide +kernel
theorem fails_V : ∀ c ∈ lowL, failsOn codeV (wd [c]) = true := by decide +kernel
section
variable {w : World} {A : Around} {E : Value → Shared → Prop} {s : Shared} {h₀ : Heap} {L : Addr} {m : Str → Option Value} {t : Tok} {Q : Value → Shared → Prop}
theorem search_N {l : List Nat} (X : (heapK w.params).In h₀) (F : Fr h₀ L s.heap m) (hl : l ∈ namL) (hQ : Q .none s) :
    wpAny (model PySem.Challenge.rw_ti0055_01.row.toRowW.prog w) A (call (.builtin "re.Pattern.search") [.ref 111, .str (wd l) t]) Q E s := by
  obtain ⟨m', h1, h2⟩ := failsOn_m (fails_N l hl)
  refine search_none (F.keep _ _ (X 111 _ rfl)) (F.keep _ _ (X 110 _ rfl)) rfl h1 (by decide) h2 ?_ hQ
  have : ∀ l ∈ namL, (wd l).length ≤ 1000 := by decide +kernel
  exact this l hl
theorem search_V {c : Nat} (X : (heapK w.params).In h₀) (F : Fr h₀ L s.heap m) (hl : c ∈ lowL) (hQ : Q .none s) :
    wpAny (model PySem.Challenge.rw_ti0055_01.row.toRowW.prog w) A (call (.builtin "re.Pattern.search") [.ref 116, .str (wd [c]) t]) Q E s := by
  obtain ⟨m', h1, h2⟩ := failsOn_m (fails_V c hl)
  refine search_none (F.keep _ _ (X 116 _ rfl)) (F.keep _ _ (X 115 _ rfl)) rfl h1 (by decide) h2 ?_ hQ
  show 1 ≤ 1000
  decide
end
noncomputable def genTurn (e : Expr) (depth : Nat) (p : Pos) (target : Expr) (ifs : List Expr) (emit : Sem Unit) (it acc : Value) (env : Env) : Sem Fin := do
  standAt p
  match ← pyNext it with
  | none => pure (.done .next)
  | some v =>
    letOwnedTupleGo target it v
    assign target env v
    let mut ok := true
    for c in ifs do
      if ok then ok ← isTrue c env (eval c env)
    if ok then
      emit
    again (.compLoop e depth it acc env)
noncomputable def emitL (elt : Expr) (acc : Value) (env : Env) : Sem Unit := do let _ ← call (.builtin "list.append") [acc, ← eval elt env]
noncomputable def emitD (kx vx : Expr) (D : Addr) (env : Env) : Sem Unit := do
  let kv ← eval kx env
  let vv ← holding [kv] (eval vx env)
  standAt { kx.pos with endLine := vx.pos.endLine, endCol := vx.pos.endCol }
  holding [kv, vv] (dictSet D kv vv)
noncomputable def emitN (e : Expr) (iter : Expr) (acc : Value) (env : Env) : Sem Unit := do
  let x ← eval iter env
  standAt iter.pos
  let x ← foldedSetIterable iter env x
  let it ← holding [x] (pyIter x)
  let _ ← runOwn (.compStart e 1 it acc env) env
theorem turn_L (elt target iter : Expr) (ifs : List Expr) (scope : Scope) (pos : Pos) (it acc : Value) (env : Env) :
    compTurn (.ListComp elt [⟨target, iter, ifs, 0⟩] scope pos) 0 it acc env = genTurn (.ListComp elt [⟨target, iter, ifs, 0⟩] scope pos) 0 iter.pos target ifs (emitL elt acc env) it acc env := by rfl
theorem turn_D (kx vx target iter : Expr) (ifs : List Expr) (scope : Scope) (pos : Pos) (it : Value) (D : Addr) (env : Env) :
    compTurn (.DictComp kx vx [⟨target, iter, ifs, 0⟩] scope pos) 0 it (.ref D) env = genTurn (.DictComp kx vx [⟨target, iter, ifs, 0⟩] scope pos) 0 iter.pos target ifs (emitD kx vx D env) it (.ref D) env := by rfl
theorem turn_N (elt t1 i1 t2 i2 : Expr) (ifs1 ifs2 : List Expr) (scope : Scope) (pos : Pos) (it acc : Value) (env : Env) :
    compTurn (.ListComp elt [⟨t1, i1, ifs1, 0⟩, ⟨t2, i2, ifs2, 0⟩] scope pos) 0 it acc env = genTurn (.ListComp elt [⟨t1, i1, ifs1, 0⟩, ⟨t2, i2, ifs2, 0⟩] scope pos) 0 i1.pos t1 ifs1 (emitN (.ListComp elt [⟨t1, i1, ifs1, 0⟩, ⟨t2, i2, ifs2, 0⟩] scope pos) i2 acc env) it acc env := by
  unfold genTurn emitN
  simp only [bind_assoc]
  rfl
theorem turn_I (elt t1 i1 t2 i2 : Expr) (ifs1 ifs2 : List Expr) (scope : Scope) (pos : Pos) (it acc : Value) (env : Env) :
    compTurn (.ListComp elt [⟨t1, i1, ifs1, 0⟩, ⟨t2, i2, ifs2, 0⟩] scope pos) 1 it acc env = genTurn (.ListComp elt [⟨t1, i1, ifs1, 0⟩, ⟨t2, i2, ifs2, 0⟩] scope pos) 1 i2.pos t2 ifs2 (emitL elt acc env) it acc env := by rfl
noncomputable def CompR {σ : Type} (g : Heap) (L : Addr) (m : Str → Option Value) (s : Shared) (news : σ → List (Addr × Obj)) (J : σ → Prop) (s' : Shared) : Prop :=
  ∃ x h' tk', s' = { s with heap := h', toks := tk' } ∧ Fr g L h' m ∧ News g L h' (news x) ∧ J x
noncomputable def testsM (ifs : List Expr) (env : Env) : Sem Bool := forIn ifs true fun c r => if r = true then do let ok ← isTrue c env (eval c env); pure (ForInStep.yield ok) else pure (ForInStep.yield r)
section
variable {prog : Program} {w : World} {A : Around} {E : Value → Shared → Prop} {s : Shared} {g : Heap} {L : Addr} {mm : Str → Option Value}
set_option maxHeartbeats 400000 in
theorem comp_cut {σ : Type} {e : Expr} {depth : Nat} {pe : Pos} {target : Expr} {ifs : List Expr} {emit : Sem Unit} {acc : Value} {cenv : Env} {newsNow keep : List (Addr × Obj)} {I : Addr} {fp : List Addr} {n : Nat} {P Md : Nat → Value → Heap → Prop} {St : Nat → Heap → Prop} {R : Result → Shared → Prop}
    (W : KTurns prog w A target I fp [I] n P Md St)
    (hT : compTurn e depth (.ref I) acc cenv = genTurn e depth pe target ifs emit (.ref I) acc cenv)
    (hq : (Code.compLoop e depth (.ref I) acc cenv).quiet = true) (hU : A.under (.compLoop e depth (.ref I) acc cenv) = A) (hfr : (Code.compLoop e depth (.ref I) acc cenv).isFrame = false)
    (hob : ∀ i h, St i h → ∃ o, h.get? I = some o) (hIL : I ≠ L) (hIg : g.get? I = none) (hfp : ∀ b ∈ fp, b = I ∨ ∃ o, (b, o) ∈ keep)
    (news : σ → List (Addr × Obj)) (J : Nat → σ → Prop) (x₀ : σ)
    {hp : Heap} {tk0 : Nat} (F : Fr g L hp mm) (N : News g L hp newsNow) (hst : St 0 hp)
    (hn : ∀ p ∈ news x₀, p ∈ newsNow) (hj : J 0 x₀)
    (hoff : ∀ i x, J i x → ∀ p ∈ news x, p.1 ≠ I) (hkeep : ∀ i x, J i x → ∀ p ∈ keep, p ∈ news x)
    (turn : ∀ i x h tk oI v (E' : Value → Shared → Prop), i < n → P i v h → J i x → Fr g L h mm → News g L h ((I, oI) :: news x) →
      wpAny (model prog w) A (assign target cenv v) (fun _ s₂ => wpAny (model prog w) A (testsM ifs cenv) (fun ok s₃ => if ok = true then wpAny (model prog w) A emit (fun _ s₄ => CompR g L mm s (fun x => (I, oI) :: news x) (J (i + 1)) s₄) E' s₃ else CompR g L mm s (fun x => (I, oI) :: news x) (J (i + 1)) s₃) E' s₂) E' { s with heap := h, toks := tk })
    (done : ∀ x h tk, J n x → Fr g L h mm → News g L h (news x) → R (.ok .next) { s with heap := h, toks := tk }) :
    codeAny (model prog w) A (.compLoop e depth (.ref I) acc cenv) R { s with heap := hp, toks := tk0 } := by
  refine codeAny_loop hq (fun k s' => ∃ i x h tk, k = n + 1 - i ∧ i ≤ n ∧ s' = { s with heap := h, toks := tk } ∧ J i x ∧ Fr g L h mm ∧ News g L h (news x) ∧ St i h) ?_ (n + 1)
    ⟨0, x₀, hp, tk0, rfl, Nat.zero_le _, rfl, hj, F, fun p hp => N p (hn p hp), hst⟩
  rintro k s' ⟨i, x, h, tk, rfl, hi, rfl, hJ, F', N', hst'⟩
  rw [hU]
  show wpAny _ A (if (Code.compLoop e depth (.ref I) acc cenv).isFrame then (compTurn e depth (.ref I) acc cenv).onRaise (leaving cenv) else (compTurn e depth (.ref I) acc cenv).onRaise (fun x => do noteFrame x cenv; theTreesLotGoes x)) _ _ _
  rw [hfr, hT]
  simp only [Bool.false_eq_true, if_false]
  refine wpAny_noted ?_
  unfold genTurn
  have off := hoff i x hJ
  have old : ∀ b o, g.get? b = some o → b ∉ [I] := fun b o e hb => by rw [List.mem_singleton.mp hb, hIg] at e; cases e
  have next : ∀ h₁ : Heap, (∀ b o, b ∉ [I] → h.get? b = some o → h₁.get? b = some o) → Fr g L h₁ mm ∧ News g L h₁ (news x) := fun h₁ hk₁ =>
    ⟨⟨F'.ns.at' fun o e => hk₁ _ o (fun q => hIL (List.mem_singleton.mp q).symm) e, fun b o e => hk₁ b o (old b o e) (F'.keep b o e), F'.above⟩, fun p hp => ⟨hk₁ _ _ (fun q => off p hp (List.mem_singleton.mp q)) (N' p hp).1, (N' p hp).2⟩⟩
  refine wpAny_bind (wpAny_standAt (wpAny_bind ?_))
  by_cases hlt : i < n
  · refine W.item i _ _ _ hlt hst' fun v h₁ tk₁ hMd hk₁ => ?_
    dsimp only
    refine wpAny_bind (W.go i v _ _ _ hMd fun h₂ hP hst₂ hk₂ => ?_)
    obtain ⟨F₂, N₂⟩ := next h₂ fun b o hb x => hk₂ b o hb (hk₁ b o hb x)
    obtain ⟨oI, hget⟩ := hob _ _ hst₂
    have Nown : News g L h₂ ((I, oI) :: news x) := by
      intro p hp
      rcases List.mem_cons.mp hp with rfl | hp
      · exact ⟨hget, hIL, hIg⟩
      · exact N₂ p hp
    have fin : ∀ s₃, CompR g L mm s (fun x => (I, oI) :: news x) (J (i + 1)) s₃ → ∃ m, m < n + 1 - i ∧ ∃ i' x h tk, m = n + 1 - i' ∧ i' ≤ n ∧ s₃ = { s with heap := h, toks := tk } ∧ J i' x ∧ Fr g L h mm ∧ News g L h (news x) ∧ St i' h := by
      rintro s₃ ⟨x', h₅, tk₅, e₅, F₅, N₅, hJ₅⟩
      refine ⟨n + 1 - (i + 1), by omega, i + 1, x', h₅, tk₅, rfl, hlt, e₅, hJ₅, F₅, fun p hp => N₅ p (List.mem_cons_of_mem _ hp), ?_⟩
      refine W.frame _ _ _ hst₂ fun b hb o e => ?_
      rcases hfp b hb with rfl | ⟨o', ho'⟩
      · have : o = oI := by rw [hget] at e; exact (Option.some.inj e).symm
        rw [this]
        exact (N₅ _ (.head _)).1
      · have e1 := (N₂ _ (hkeep i x hJ _ ho')).1
        have : o = o' := by rw [e1] at e; exact (Option.some.inj e).symm
        rw [this]
        exact (N₅ _ (List.mem_cons_of_mem _ (hkeep _ _ hJ₅ _ ho'))).1
    refine wpAny_bind (wpAny_mono (turn i x h₂ tk₁ oI v _ hlt hP hJ F₂ Nown) (fun _ s₂ h₂' => ?_) fun _ _ e => e)
    refine wpAny_bind (wpAny_mono h₂' (fun ok s₃ h₃ => ?_) fun _ _ e => e)
    cases ok with
    | false =>
      simp only [Bool.false_eq_true, if_false] at h₃ ⊢
      exact wpAny_pure ⟨rfl, fin _ h₃⟩
    | true =>
      simp only [if_true] at h₃ ⊢
      exact wpAny_bind (wpAny_mono h₃ (fun _ s₄ h₄ => wpAny_pure ⟨rfl, fin _ h₄⟩) fun _ _ e => e)
  · have hin : i = n := by omega
    subst hin
    refine W.done _ _ _ hst' fun h₁ tk₁ hk₁ => wpAny_pure ?_
    obtain ⟨F₁, N₁⟩ := next h₁ hk₁
    exact done x h₁ tk₁ hJ F₁ N₁
end
noncomputable def cellNone : Obj := { cls := .type "cell", data := .cell none }
noncomputable def exL (cy : Option Str) (n : Addr) : List (Addr × Obj) := match cy with | none => [] | some _ => [(n, cellNone)]
noncomputable def exC (cy : Option Str) (n : Addr) (cl : List (Str × Addr)) : List (Str × Addr) := match cy with | none => cl | some y => (y, n) :: cl
noncomputable def exH (cy : Option Str) (h : Heap) : Heap := match cy with | none => h | some _ => h.push cellNone
section
variable {M : Model} {A : Around} {E : Value → Shared → Prop} {s : Shared} {env : Env}
theorem newEnv_comp {scope : Scope} {cl : List (Str × Addr)} {cy : Option Str} {Q : Env → Shared → Prop} (hcy : ∀ (n : Addr) (acc : List (Str × Addr)) (h : Heap), cellsFrom n scope.names acc = exC cy n acc ∧ pushCells h scope.names = exH cy h)
    (h : Q (newEnv scope s.heap.objs.size env.globals (exC cy (s.heap.objs.size + 1) cl) env.qual none .none (some env) builtinsNs) { s with heap := exH cy (s.heap.push { cls := .type "dict", data := .dict #[] }) }) :
    wpAny M A (newFunctionEnv scope env.globals cl [] env.qual none .none (some env)) Q E s := by
  simp only [newFunctionEnv, Option.isSome_some, if_true]
  refine wpAny_bind (wpAny_alloc ?_)
  refine wpAny_bind (wpAny_layCells _ (fun name kind cells => by cases kind == NameKind.cell <;> simp) _ _ _ _ ?_)
  rw [show ({ s with heap := s.heap.push { cls := .type "dict", data := .dict #[] } } : Shared).heap.objs.size = s.heap.objs.size + 1 from Heap.size_push ..]
  rw [(hcy _ _ default).1]
  refine wpAny_bind ?_
  rw [List.forIn_nil]
  refine wpAny_pure (wpAny_pure ?_)
  show Q _ { s with heap := pushCells (s.heap.push { cls := .type "dict", data := .dict #[] }) scope.names }
  rw [(hcy 0 [] _).2]
  exact h
end
section
variable {prog : Program} {w : World} {A : Around} {E : Value → Shared → Prop} {s : Shared} {g : Heap} {L : Addr} {m : Str → Option Value} {env : Env}
noncomputable def CompDone (g : Heap) (L : Addr) (m : Str → Option Value) (s₂ : Shared) (C D : Addr) (Fin : Shared → Addr → List (Addr × Obj) → Prop) (r : Result) (s' : Shared) : Prop :=
  r = .ok .next ∧ ∃ oC mC rest h tk, s' = { s₂ with heap := h, toks := tk } ∧ Fr g L h m ∧ News g L h ((C, oC) :: rest) ∧ LCg.NsObj oC mC ∧ (∀ p ∈ rest, p.1 ≠ C) ∧ Fin s₂ D rest
noncomputable def OpenR (prog : Program) (w : World) (A : Around) (g : Heap) (L : Addr) (m : Str → Option Value) (env : Env) (e : Expr) (scope : Scope) (cl : List (Str × Addr)) (cy : Option Str) (oD : Obj) (Fin : Shared → Addr → List (Addr × Obj) → Prop) (it : Value) (s₂ : Shared) : Prop :=
  ∃ I news, it = .ref I ∧ Fr g L s₂.heap m ∧ News g L s₂.heap news ∧
    (∀ (s : Shared) (Q : Value → Shared → Prop) (E : Value → Shared → Prop), (∀ b o, s₂.heap.get? b = some o → s.heap.get? b = some o) → Q (.ref I) s → wpAny (model prog w) A (pyIter (.ref I)) Q E s) ∧
    ∀ h' tk oC, (∀ b o, s₂.heap.get? b = some o → h'.get? b = some o) → Fr g L h' m → News g L h' ((s₂.heap.objs.size + 1, oC) :: (s₂.heap.objs.size, oD) :: (exL cy (s₂.heap.objs.size + 2) ++ news)) → LCg.NsObj oC (fun _ => none) →
      codeAny (model prog w) A (.compLoop e 0 (.ref I) (.ref s₂.heap.objs.size) (compEnvC scope (exC cy (s₂.heap.objs.size + 2) cl) (s₂.heap.objs.size + 1) env)) (CompDone g L m s₂ (s₂.heap.objs.size + 1) s₂.heap.objs.size Fin) { s₂ with heap := h', toks := tk }
theorem block_own {e : Expr} {scope : Scope} {cl : List (Str × Addr)} {cy : Option Str} {oD : Obj} {Fin : Shared → Addr → List (Addr × Obj) → Prop} {newAcc : Sem Value} {RR : Value → Addr → Result → Shared → Prop} {it : Value} {s₂ : Shared}
    (hfr : oD.isFreed = false) (hnew : ∀ (Q : Value → Shared → Prop) (s : Shared), Q (.ref s.heap.objs.size) { s with heap := s.heap.push oD } → wpAny (model prog w) A newAcc Q E s)
    (hS : ∀ (it acc : Value) (cenv : Env) (R : Result → Shared → Prop) (s : Shared), codeAny (model prog w) A (.compLoop e 0 it acc cenv) R s → wpAny (model prog w) A (pyIter it) (fun it' s' => codeAny (model prog w) A (.compLoop e 0 it' acc cenv) R s') (notedBy (model prog w) A cenv fun x s' => R (.error x) s') s → codeAny (model prog w) A (.compStart e 0 it acc cenv) R s)
    (hcy : ∀ (n : Addr) (acc : List (Str × Addr)) (h : Heap), cellsFrom n scope.names acc = exC cy n acc ∧ pushCells h scope.names = exH cy h)
    (h : OpenR prog w A g L m env e scope cl cy oD Fin it s₂)
    (hRR : ∀ C D r s', CompDone g L m s₂ C D Fin r s' → RR (.ref D) C r s') :
    wpAny (model prog w) A newAcc (fun acc s₃ => wpAny (model prog w) A (newFunctionEnv scope env.globals cl [] env.qual none .none (some env)) (fun cenv s₄ =>
      codeAny (model prog w) A (.compStart e 0 it acc { cenv with scope := relabel scope env }) (RR acc cenv.locals) s₄) E s₃) E s₂ := by
  obtain ⟨I, news, rfl, F, N, hself, loop⟩ := h
  refine hnew _ _ (newEnv_comp hcy ?_)
  have hsz : ({ s₂ with heap := s₂.heap.push oD } : Shared).heap.objs.size = s₂.heap.objs.size + 1 := Heap.size_push ..
  rw [hsz]
  have k1 : ∀ b o, s₂.heap.get? b = some o → ((s₂.heap.push oD).push { cls := .type "dict", data := .dict #[] }).get? b = some o := fun b o e => Heap.get?_push_of_some _ (Heap.get?_push_of_some _ e)
  have hD : ((s₂.heap.push oD).push { cls := .type "dict", data := .dict #[] }).get? s₂.heap.objs.size = some oD := Heap.get?_push_of_some _ (Heap.get?_push_size _ hfr)
  have hC : ((s₂.heap.push oD).push { cls := .type "dict", data := .dict #[] }).get? (s₂.heap.objs.size + 1) = some { cls := .type "dict", data := .dict #[] } := by
    have e : (s₂.heap.push oD).objs.size = s₂.heap.objs.size + 1 := Heap.size_push ..
    rw [← e]; exact Heap.get?_push_size _ rfl
  have hz : ((s₂.heap.push oD).push { cls := .type "dict", data := .dict #[] }).objs.size = s₂.heap.objs.size + 2 := by rw [Heap.size_push, Heap.size_push]
  generalize hH : (s₂.heap.push oD).push { cls := .type "dict", data := .dict #[] } = H at k1 hD hC hz ⊢
  have k2 : ∀ b o, H.get? b = some o → (exH cy H).get? b = some o := fun b o e => by
    cases cy with
    | none => exact e
    | some y => exact Heap.get?_push_of_some _ e
  have fresh₀ : ∀ a, s₂.heap.objs.size ≤ a → g.get? a = none := fun a ha => by
    cases e : g.get? a with
    | none => rfl
    | some o' => have := Heap.lt_size (F.keep a o' e); exact absurd this (Nat.not_lt.mpr ha)
  have hLlt : L < s₂.heap.objs.size := F.ns.lt
  have k : ∀ b o, s₂.heap.get? b = some o → (exH cy H).get? b = some o := fun b o e => k2 b o (k1 b o e)
  have neL : ∀ a, s₂.heap.objs.size ≤ a → a ≠ L := fun a ha q => Nat.not_lt.mpr ha (q ▸ hLlt)
  have N' : News g L (exH cy H) ((s₂.heap.objs.size + 1, { cls := .type "dict", data := .dict #[] }) :: (s₂.heap.objs.size, oD) :: (exL cy (s₂.heap.objs.size + 2) ++ news)) := by
    intro p hp
    rcases List.mem_cons.mp hp with rfl | hp
    · exact ⟨k2 _ _ hC, neL _ (Nat.le_succ _), fresh₀ _ (Nat.le_succ _)⟩
    rcases List.mem_cons.mp hp with rfl | hp
    · exact ⟨k2 _ _ hD, neL _ (Nat.le_refl _), fresh₀ _ (Nat.le_refl _)⟩
    rcases List.mem_append.mp hp with hp | hp
    · cases cy with
      | none => exact absurd hp List.not_mem_nil
      | some y =>
        rw [List.mem_singleton.mp hp]
        exact ⟨by rw [← hz]; exact Heap.get?_push_size _ rfl, neL _ (Nat.le_add_right _ _), fresh₀ _ (Nat.le_add_right _ _)⟩
    · exact ⟨k _ _ (N p hp).1, (N p hp).2⟩
  have lp := loop (exH cy H) s₂.toks _ k (F.keeps k) N' ⟨#[], _, rfl, (by intro x hx; simp at hx), fun _ => rfl⟩
  have lp2 : codeAny (model prog w) A (.compLoop e 0 (.ref I) (.ref s₂.heap.objs.size) (compEnvC scope (exC cy (s₂.heap.objs.size + 2) cl) (s₂.heap.objs.size + 1) env)) (RR (.ref s₂.heap.objs.size) (s₂.heap.objs.size + 1)) { s₂ with heap := exH cy H } := codeAny_mono lp fun r s' hd => hRR _ _ r s' hd
  have key : codeAny (model prog w) A (.compStart e 0 (.ref I) (.ref s₂.heap.objs.size) (compEnvC scope (exC cy (s₂.heap.objs.size + 2) cl) (s₂.heap.objs.size + 1) env)) (RR (.ref s₂.heap.objs.size) (s₂.heap.objs.size + 1)) { s₂ with heap := exH cy H } :=
    hS _ _ _ _ _ lp2 (hself _ _ _ k lp2)
  exact key
noncomputable def FinEo (g : Heap) (L : Addr) (m : Str → Option Value) (Q : Value → Shared → Prop) (s₂ : Shared) (D : Addr) (rest : List (Addr × Obj)) : Prop :=
  ∀ h tk, Fr g L h m → News g L h rest → Q (.ref D) { s₂ with heap := h, toks := tk }
noncomputable def FinAo (g : Heap) (L : Addr) (m : Str → Option Value) (y : Str) (Q : Flow → Shared → Prop) (s₂ : Shared) (D : Addr) (rest : List (Addr × Obj)) : Prop :=
  ∀ h tk, Fr g L h (fun z => if z = y then some (.ref D) else m z) → News g L h rest → Q .next { s₂ with heap := h, toks := tk }
theorem done_E {Q : Value → Shared → Prop} {s₂ : Shared} (C D : Addr) (r : Result) (s' : Shared) (hd : CompDone g L m s₂ C D (FinEo g L m Q) r s') : compPost (model prog w) A E none Q (.ref D) C r s' := by
  obtain ⟨rfl, oC, mC, rest, h, tk, rfl, F, N, hC, off, fin⟩ := hd
  have zC := N _ (.head _)
  refine ⟨mC, hC.ns zC.1, fun h' hs' => fin h' tk (F.change hs' zC.2.1 zC.2.2) fun p hp => ?_⟩
  have z := N p (.tail _ hp)
  exact ⟨hs'.extBut _ _ (off p hp) z.1, z.2⟩
theorem done_A {y : Str} {py : Pos} {Q : Flow → Shared → Prop} {s₂ : Shared} (hLe : env.locals = L) (hy : env.kindOf y = some .local) (hp : (env.scope.kind == .class || (env.scope.kind == .module && env.locals != env.globals)) = false)
    (C D : Addr) (r : Result) (s' : Shared) (hd : CompDone g L m s₂ C D (FinAo g L m y Q) r s') : compPost (model prog w) A E (some (assign (.Name y py) env)) (fun _ s' => Q .next s') (.ref D) C r s' := by
  subst hLe
  obtain ⟨rfl, oC, mC, rest, h, tk, rfl, F, N, hC, off, fin⟩ := hd
  have zC := N _ (.head _)
  show wpAny _ A (assign (.Name y py) env (.ref D)) _ _ _
  refine wpAny_assign_Name (wpAny_storeName_local hy F.ns (fun h₂ hn₂ hs₂ => ?_) hp)
  have hL₀ : g.get? env.locals = none := Heap.get?_none_of_le F.above
  have F₂ : Fr g env.locals h₂ (fun z => if z = y then some (.ref D) else m z) := ⟨hn₂, fun b o e => hs₂.extBut b o (fun q => by rw [q, hL₀] at e; cases e) (F.keep b o e), F.above⟩
  refine ⟨mC, (hC.ns zC.1).sameBut hs₂ zC.2.1, fun h'' hs'' => fin h'' _ (F₂.change hs'' zC.2.1 zC.2.2) fun p hp => ?_⟩
  have z := N p (.tail _ hp)
  exact ⟨hs''.extBut _ _ (off p hp) (hs₂.extBut _ _ z.2.1 z.1), z.2⟩
theorem ListComp_own {elt target iter : Expr} {ifs : List Expr} {gs : List Comprehension} {scope : Scope} {cl : List (Str × Addr)} {pos : Pos} {cy : Option Str} {Q : Value → Shared → Prop} (_F₀ : Fr g L s.heap m)
    (hclos : closureFor scope env = pure cl) (hcy : ∀ (n : Addr) (acc : List (Str × Addr)) (h : Heap), cellsFrom n scope.names acc = exC cy n acc ∧ pushCells h scope.names = exH cy h) (hkind : scope.kind = .function)
    (hnames : ∀ y ∈ scope.names, y.2 = .local → scope.names.lookup y.1 = some .local) (hs : ∀ x, foldedSetIterable iter env x = pure x)
    (h : wpAny (model prog w) A (eval iter env) (fun xv s₁ => wpAny (model prog w) A (pyIter xv) (OpenR prog w A g L m env (.ListComp elt (⟨target, iter, ifs, 0⟩ :: gs) scope pos) scope cl cy (LCg.lst []) (FinEo g L m Q)) E s₁) E s) :
    wpAny (model prog w) A (eval (.ListComp elt (⟨target, iter, ifs, 0⟩ :: gs) scope pos) env) Q E s := by
  rw [eval_ListComp]
  refine wpAny_comprehension_free (use := none) rfl hs hclos hkind hnames (wpAny_mono h (fun xv s₁ h₁ => wpAny_mono h₁ (fun it s₂ h₂ => ?_) fun _ _ e => e) fun _ _ e => e)
  exact block_own rfl (fun Q s h => wpAny_newObj_type h) (fun it acc cenv R s h0 h => codeAny_compStart_list h0 h) hcy h₂ (fun C D r s' hd => done_E C D r s' hd)
theorem Assign_ListComp_own {elt target iter : Expr} {ifs : List Expr} {gs : List Comprehension} {scope : Scope} {cl : List (Str × Addr)} {pos spos : Pos} {cy : Option Str} {y : Str} {py : Pos} {Q : Flow → Shared → Prop} (_F₀ : Fr g L s.heap m) (hLe : env.locals = L)
    (hsw : swapsWith (.ListComp elt (⟨target, iter, ifs, 0⟩ :: gs) scope pos) (some (.Name y py)) spos.line env = pure true)
    (hclos : closureFor scope env = pure cl) (hcy : ∀ (n : Addr) (acc : List (Str × Addr)) (h : Heap), cellsFrom n scope.names acc = exC cy n acc ∧ pushCells h scope.names = exH cy h) (hkind : scope.kind = .function)
    (hnames : ∀ y ∈ scope.names, y.2 = .local → scope.names.lookup y.1 = some .local) (hs : ∀ x, foldedSetIterable iter env x = pure x)
    (hy : env.kindOf y = some .local) (hp : (env.scope.kind == .class || (env.scope.kind == .module && env.locals != env.globals)) = false)
    (h : wpAny (model prog w) A (eval iter env) (fun xv s₁ => wpAny (model prog w) A (pyIter xv) (OpenR prog w A g L m env (.ListComp elt (⟨target, iter, ifs, 0⟩ :: gs) scope pos) scope cl cy (LCg.lst []) (FinAo g L m y Q)) E s₁) E s) :
    wpAny (model prog w) A (exec (.Assign [.Name y py] (.ListComp elt (⟨target, iter, ifs, 0⟩ :: gs) scope pos) spos) env) Q E s := by
  rw [exec_Assign_Name_used _ _ _ _ hsw]
  refine wpAny_bind (wpAny_standAt (wpAny_bind ?_))
  show wpAny _ A (do let _ ← comprehension (.ListComp elt (⟨target, iter, ifs, 0⟩ :: gs) scope pos) scope env _ (newList []) false (eval iter env) (some (assign (.Name y py) env))) _ _ s
  refine wpAny_bind (wpAny_mono (wpAny_comprehension_free (use := some (assign (.Name y py) env)) (Q := fun _ s' => Q .next s') rfl hs hclos hkind hnames
    (wpAny_mono h (fun xv s₁ h₁ => wpAny_mono h₁ (fun it s₂ h₂ => ?_) fun _ _ e => e) fun _ _ e => e)) (fun _ s' hq => wpAny_pure (wpAny_pure hq)) fun _ _ e => e)
  exact block_own rfl (fun Q s h => wpAny_newObj_type h) (fun it acc cenv R s h0 h => codeAny_compStart_list h0 h) hcy h₂ (fun C D r s' hd => done_A hLe hy hp C D r s' hd)
theorem DictComp_own {kx vx target iter : Expr} {ifs : List Expr} {gs : List Comprehension} {scope : Scope} {cl : List (Str × Addr)} {pos : Pos} {cy : Option Str} {Q : Value → Shared → Prop} (_F₀ : Fr g L s.heap m)
    (hclos : closureFor scope env = pure cl) (hcy : ∀ (n : Addr) (acc : List (Str × Addr)) (h : Heap), cellsFrom n scope.names acc = exC cy n acc ∧ pushCells h scope.names = exH cy h) (hkind : scope.kind = .function)
    (hnames : ∀ y ∈ scope.names, y.2 = .local → scope.names.lookup y.1 = some .local) (hs : ∀ x, foldedSetIterable iter env x = pure x)
    (h : wpAny (model prog w) A (eval iter env) (fun xv s₁ => wpAny (model prog w) A (pyIter xv) (OpenR prog w A g L m env (.DictComp kx vx (⟨target, iter, ifs, 0⟩ :: gs) scope pos) scope cl cy { cls := .type "dict", data := .dict #[] } (FinEo g L m Q)) E s₁) E s) :
    wpAny (model prog w) A (eval (.DictComp kx vx (⟨target, iter, ifs, 0⟩ :: gs) scope pos) env) Q E s := by
  show wpAny _ A (comprehension (.DictComp kx vx (⟨target, iter, ifs, 0⟩ :: gs) scope pos) scope env _ newDict false (eval iter env)) _ _ s
  refine wpAny_comprehension_free (use := none) rfl hs hclos hkind hnames (wpAny_mono h (fun xv s₁ h₁ => wpAny_mono h₁ (fun it s₂ h₂ => ?_) fun _ _ e => e) fun _ _ e => e)
  exact block_own rfl (fun Q s h => wpAny_newObj_type h) (fun it acc cenv R s h0 h => codeAny_compStart_dict h0 h) hcy h₂ (fun C D r s' hd => done_E C D r s' hd)
end
noncomputable def TurnE {σ : Type} (g : Heap) (L : Addr) (m : Str → Option Value) (s : Shared) (I : Addr) (oI : Obj) (news : σ → List (Addr × Obj)) (J : σ → Prop) (s' : Shared) : Prop :=
  ∃ x oC mC h tk, s' = { s with heap := h, toks := tk } ∧ Fr g L h m ∧ News g L h ((I, oI) :: (I + 2, oC) :: news x) ∧ LCg.NsObj oC mC ∧ J x
section
variable {prog : Program} {w : World} {A : Around} {E : Value → Shared → Prop} {s : Shared} {g : Heap} {L : Addr} {m : Str → Option Value} {env : Env}
structure CompK (A : Around) (e : Expr) (depth : Nat) (pe : Pos) (target : Expr) (ifs : List Expr) (emit : Addr → Env → Sem Unit) : Prop where
  turn : ∀ (I D : Addr) (cenv : Env), compTurn e depth (.ref I) (.ref D) cenv = genTurn e depth pe target ifs (emit D cenv) (.ref I) (.ref D) cenv
  quiet : ∀ (it acc : Value) (cenv : Env), (Code.compLoop e depth it acc cenv).quiet = true
  under : ∀ (it acc : Value) (cenv : Env), A.under (.compLoop e depth it acc cenv) = A
  frame : ∀ (it acc : Value) (cenv : Env), (Code.compLoop e depth it acc cenv).isFrame = false
theorem compK_L (elt target iter : Expr) (ifs : List Expr) (scope : Scope) (pos : Pos) : CompK A (.ListComp elt [⟨target, iter, ifs, 0⟩] scope pos) 0 iter.pos target ifs (fun D cenv => emitL elt (.ref D) cenv) :=
  ⟨fun _ _ _ => turn_L .., fun _ _ _ => rfl, fun _ _ _ => rfl, fun _ _ _ => rfl⟩
theorem compK_D (kx vx target iter : Expr) (ifs : List Expr) (scope : Scope) (pos : Pos) : CompK A (.DictComp kx vx [⟨target, iter, ifs, 0⟩] scope pos) 0 iter.pos target ifs (fun D cenv => emitD kx vx D cenv) :=
  ⟨fun _ _ _ => turn_D .., fun _ _ _ => rfl, fun _ _ _ => rfl, fun _ _ _ => rfl⟩
theorem compK_N (elt t1 i1 t2 i2 : Expr) (ifs1 ifs2 : List Expr) (scope : Scope) (pos : Pos) : CompK A (.ListComp elt [⟨t1, i1, ifs1, 0⟩, ⟨t2, i2, ifs2, 0⟩] scope pos) 0 i1.pos t1 ifs1 (fun D cenv => emitN (.ListComp elt [⟨t1, i1, ifs1, 0⟩, ⟨t2, i2, ifs2, 0⟩] scope pos) i2 (.ref D) cenv) :=
  ⟨fun _ _ _ => turn_N .., fun _ _ _ => rfl, fun _ _ _ => rfl, fun _ _ _ => rfl⟩
theorem compK_I (elt t1 i1 t2 i2 : Expr) (ifs1 ifs2 : List Expr) (scope : Scope) (pos : Pos) : CompK A (.ListComp elt [⟨t1, i1, ifs1, 0⟩, ⟨t2, i2, ifs2, 0⟩] scope pos) 1 i2.pos t2 ifs2 (fun D cenv => emitL elt (.ref D) cenv) :=
  ⟨fun _ _ _ => turn_I .., fun _ _ _ => rfl, fun _ _ _ => rfl, fun _ _ _ => rfl⟩
theorem open_core {σ : Type} {e : Expr} {pe : Pos} {target : Expr} {ifs : List Expr} {emit : Addr → Env → Sem Unit} {scope : Scope} {cl : List (Str × Addr)} {cy : Option Str} {oD itO : Obj} {Fin : Shared → Addr → List (Addr × Obj) → Prop} {news₀ keep : List (Addr × Obj)} {fp : List Addr} {n : Nat} {P Md : Nat → Value → Heap → Prop} {St : Nat → Heap → Prop}
    (K : CompK A e 0 pe target ifs emit) (I : Addr) (hI : I = s.heap.objs.size) (hfi : itO.isFreed = false)
    (W : KTurns prog w A target I fp [I] n P Md St) (hself : ∀ (s : Shared) (Q : Value → Shared → Prop) (E : Value → Shared → Prop), St 0 s.heap → Q (.ref I) s → wpAny (model prog w) A (pyIter (.ref I)) Q E s)
    (hob : ∀ i h, St i h → ∃ o, h.get? I = some o) (hfp : ∀ b ∈ fp, b = I ∨ ∃ o, (b, o) ∈ keep) (hkn : ∀ p ∈ keep, p ∈ news₀)
    (F : Fr g L s.heap m) (N : News g L s.heap news₀) (hst : St 0 (s.heap.push itO))
    (news : σ → List (Addr × Obj)) (J : Nat → σ → Prop) (x₀ : σ)
    (hn : ∀ p ∈ news x₀, p ∈ (I + 1, oD) :: (exL cy (I + 3) ++ news₀)) (hj : J 0 x₀)
    (hoff : ∀ i x, J i x → ∀ p ∈ news x, p.1 ≠ I ∧ p.1 ≠ I + 2) (hkeep : ∀ i x, J i x → ∀ p ∈ keep, p ∈ news x)
    (turn : ∀ i x h tk oI oC mC v (E' : Value → Shared → Prop), i < n → P i v h → J i x → LCg.NsObj oC mC → Fr g L h m → News g L h ((I, oI) :: (I + 2, oC) :: news x) →
      wpAny (model prog w) A (assign target (compEnvC scope (exC cy (I + 3) cl) (I + 2) env) v) (fun _ s₂ => wpAny (model prog w) A (testsM ifs (compEnvC scope (exC cy (I + 3) cl) (I + 2) env)) (fun ok s₃ => if ok = true then wpAny (model prog w) A (emit (I + 1) (compEnvC scope (exC cy (I + 3) cl) (I + 2) env)) (fun _ s₄ => TurnE g L m s I oI news (J (i + 1)) s₄) E' s₃ else TurnE g L m s I oI news (J (i + 1)) s₃) E' s₂) E' { s with heap := h, toks := tk })
    (fin : ∀ x, J n x → Fin { s with heap := s.heap.push itO } (I + 1) (news x)) :
    OpenR prog w A g L m env e scope cl cy oD Fin (.ref I) { s with heap := s.heap.push itO } := by
  subst hI
  have hsz : ({ s with heap := s.heap.push itO } : Shared).heap.objs.size = s.heap.objs.size + 1 := Heap.size_push ..
  have hIL : s.heap.objs.size ≠ L := fun q => Nat.lt_irrefl _ (q ▸ F.ns.lt)
  have hIg : g.get? s.heap.objs.size = none := next_is_new F
  have N1 : News g L (s.heap.push itO) ((s.heap.objs.size, itO) :: news₀) := by
    intro p hp
    rcases List.mem_cons.mp hp with rfl | hp
    · exact ⟨Heap.get?_push_size _ hfi, hIL, hIg⟩
    · exact ⟨Heap.get?_push_of_some _ (N p hp).1, (N p hp).2⟩
  refine ⟨s.heap.objs.size, (s.heap.objs.size, itO) :: news₀, rfl, F.push _, N1, fun s' Q E hk hQ => hself s' Q E (W.frame 0 _ _ hst fun b _ o e => hk b o e) hQ, ?_⟩
  rw [hsz]
  intro h' tk oC hk F' N' hC
  have hst' : St 0 h' := W.frame 0 _ _ hst fun b _ o e => hk b o e
  refine comp_cut (σ := σ × Obj) (keep := keep) (s := s) W (K.turn _ _ _) (K.quiet _ _ _) (K.under _ _ _) (K.frame _ _ _) hob hIL hIg hfp (fun x => (s.heap.objs.size + 2, x.2) :: news x.1) (fun i x => J i x.1 ∧ ∃ mC, LCg.NsObj x.2 mC) (x₀, oC) F' N' hst' ?_ ⟨hj, _, hC⟩ ?_ ?_ ?_ ?_
  · intro p hp
    rcases List.mem_cons.mp hp with rfl | hp
    · exact .head _
    · have := hn p hp
      rcases List.mem_cons.mp this with rfl | hp
      · exact .tail _ (.head _)
      · rcases List.mem_append.mp hp with hp | hp
        · exact .tail _ (.tail _ (List.mem_append_left _ hp))
        · exact .tail _ (.tail _ (List.mem_append_right _ (.tail _ hp)))
  · rintro i ⟨x, oC'⟩ ⟨hJ, _⟩ p hp
    rcases List.mem_cons.mp hp with rfl | hp
    · exact Nat.ne_of_gt (Nat.lt_succ_of_lt (Nat.lt_succ_self _))
    · exact (hoff i x hJ p hp).1
  · rintro i ⟨x, oC'⟩ ⟨hJ, _⟩ p hp
    exact .tail _ (hkeep i x hJ p hp)
  · rintro i ⟨x, oC'⟩ h tk oI v E' hi hP ⟨hJ, mC, hmC⟩ F₁ N₁
    have conv : ∀ s', TurnE g L m s s.heap.objs.size oI news (J (i + 1)) s' → CompR g L m s (fun x : σ × Obj => (s.heap.objs.size, oI) :: (s.heap.objs.size + 2, x.2) :: news x.1) (fun x => J (i + 1) x.1 ∧ ∃ mC, LCg.NsObj x.2 mC) s' := by
      rintro s' ⟨x', oC₂, mC₂, h₂, tk₂, rfl, F₂, N₂, hC₂, hJ₂⟩
      exact ⟨(x', oC₂), h₂, tk₂, rfl, F₂, N₂, hJ₂, mC₂, hC₂⟩
    refine wpAny_mono (turn i x h tk oI oC' mC v E' hi hP hJ hmC F₁ N₁) (fun _ s₂ h₂ => wpAny_mono h₂ (fun ok s₃ h₃ => ?_) fun _ _ e => e) fun _ _ e => e
    cases ok with
    | false =>
      simp only [Bool.false_eq_true, if_false] at h₃ ⊢
      exact conv _ h₃
    | true =>
      simp only [if_true] at h₃ ⊢
      exact wpAny_mono h₃ (fun _ s₄ h₄ => conv _ h₄) fun _ _ e => e
  · rintro ⟨x, oC'⟩ h tk ⟨hJ, mC, hmC⟩ F₁ N₁
    exact ⟨rfl, oC', mC, news x, h, tk, rfl, F₁, N₁, hmC, fun p hp => (hoff n x hJ p hp).2, fin x hJ⟩
theorem open_list {σ : Type} {e : Expr} {pe : Pos} {target : Expr} {ifs : List Expr} {emit : Addr → Env → Sem Unit} {scope : Scope} {cl : List (Str × Addr)} {cy : Option Str} {oD : Obj} {Fin : Shared → Addr → List (Addr × Obj) → Prop} {news₀ : List (Addr × Obj)} {l : Addr} {vs : List Value} {k : Nat}
    (hh : A.handled = none) (K : CompK A e 0 pe target ifs emit) (F : Fr g L s.heap m) (N : News g L s.heap news₀) (hm : (l, listOf vs.toArray k) ∈ news₀)
    (news : Addr → σ → List (Addr × Obj)) (J : Addr → Nat → σ → Prop) (x₀ : σ)
    (hn : ∀ I, (∀ p ∈ news₀, p.1 < I) → ∀ p ∈ news I x₀, p ∈ (I + 1, oD) :: (exL cy (I + 3) ++ news₀)) (hj : ∀ I, (∀ p ∈ news₀, p.1 < I) → J I 0 x₀)
    (hoff : ∀ I i x, (∀ p ∈ news₀, p.1 < I) → J I i x → ∀ p ∈ news I x, p.1 ≠ I ∧ p.1 ≠ I + 2) (hkeep : ∀ I i x, J I i x → (l, listOf vs.toArray k) ∈ news I x)
    (turn : ∀ I i x h tk oI oC mC v (E' : Value → Shared → Prop), (∀ p ∈ news₀, p.1 < I) → vs[i]? = some v → J I i x → LCg.NsObj oC mC → Fr g L h m → News g L h ((I, oI) :: (I + 2, oC) :: news I x) →
      wpAny (model prog w) A (assign target (compEnvC scope (exC cy (I + 3) cl) (I + 2) env) v) (fun _ s₂ => wpAny (model prog w) A (testsM ifs (compEnvC scope (exC cy (I + 3) cl) (I + 2) env)) (fun ok s₃ => if ok = true then wpAny (model prog w) A (emit (I + 1) (compEnvC scope (exC cy (I + 3) cl) (I + 2) env)) (fun _ s₄ => TurnE g L m s I oI (news I) (J I (i + 1)) s₄) E' s₃ else TurnE g L m s I oI (news I) (J I (i + 1)) s₃) E' s₂) E' { s with heap := h, toks := tk })
    (fin : ∀ I x hp, (∀ p ∈ news₀, p.1 < I) → J I vs.length x → Fin { s with heap := hp } (I + 1) (news I x)) :
    wpAny (model prog w) A (pyIter (.ref l)) (OpenR prog w A g L m env e scope cl cy oD Fin) E s := by
  have lt := lt_new F N
  have zl := N _ hm
  have hL : s.heap.IsList l vs.toArray := ⟨_, zl.1, rfl, k, rfl⟩
  have hll : l < s.heap.objs.size := Heap.lt_size zl.1
  refine wpAny_pyIter_list hL ?_
  have W0 := Walks.list (prog := prog) (w := w) hh s.heap.objs.size l (Nat.ne_of_lt hll) vs.toArray
  have W := KTurns.ofWalks (target := target) W0 (fun i v s Q E st q => letGo_listiter st.1 q)
  refine open_core (σ := σ) (keep := [(l, listOf vs.toArray k)]) K s.heap.objs.size rfl rfl W (fun s Q E st q => W0.self 0 s Q E st q) ?_ ?_ (fun p hp => by rw [List.mem_singleton.mp hp]; exact hm) F N ⟨⟨_, Heap.get?_push_size _ rfl, rfl, rfl⟩, hL.push _⟩ (news s.heap.objs.size) (J s.heap.objs.size) x₀ (hn _ lt) (hj _ lt) (fun i x hJ => hoff _ i x lt hJ) (fun i x hJ p hp => by rw [List.mem_singleton.mp hp]; exact hkeep _ i x hJ) ?_ (fun x hJ => fin _ x _ lt (by simpa using hJ))
  · rintro i h ⟨⟨o, ho, _⟩, _⟩; exact ⟨o, ho⟩
  · intro b hb
    rcases List.mem_cons.mp hb with rfl | hb
    · exact .inl rfl
    · rw [List.mem_singleton.mp hb]; exact .inr ⟨_, .head _⟩
  · intro i x h tk oI oC mC v E' hi hP hJ hC F₁ N₁
    exact turn _ i x h tk oI oC mC v E' lt (by simpa using hP) hJ hC F₁ N₁
theorem open_range {σ : Type} {e : Expr} {pe : Pos} {y : Str} {py : Pos} {ifs : List Expr} {emit : Addr → Env → Sem Unit} {scope : Scope} {cl : List (Str × Addr)} {cy : Option Str} {oD : Obj} {Fin : Shared → Addr → List (Addr × Obj) → Prop} {news₀ : List (Addr × Obj)} {r : Addr} {a b : Int} {t₁ t₂ t₃ : Tok} {n : Nat}
    (hh : A.handled = none) (K : CompK A e 0 pe (.Name y py) ifs emit) (F : Fr g L s.heap m) (N : News g L s.heap news₀) (hr : IsRange s.heap r a b 1 t₁ t₂ t₃) (hsmall : Builtin.Range.small a b 1 = true) (hn0 : Builtin.Range.rangeSize a b 1 = (n : Int))
    (news : Addr → σ → List (Addr × Obj)) (J : Addr → Nat → σ → Prop) (x₀ : σ)
    (hn : ∀ I, (∀ p ∈ news₀, p.1 < I) → ∀ p ∈ news I x₀, p ∈ (I + 1, oD) :: (exL cy (I + 3) ++ news₀)) (hj : ∀ I, (∀ p ∈ news₀, p.1 < I) → J I 0 x₀)
    (hoff : ∀ I i x, (∀ p ∈ news₀, p.1 < I) → J I i x → ∀ p ∈ news I x, p.1 ≠ I ∧ p.1 ≠ I + 2)
    (turn : ∀ I i x h tk oI oC mC t (E' : Value → Shared → Prop), (∀ p ∈ news₀, p.1 < I) → i < n → J I i x → LCg.NsObj oC mC → Fr g L h m → News g L h ((I, oI) :: (I + 2, oC) :: news I x) →
      wpAny (model prog w) A (assign (.Name y py) (compEnvC scope (exC cy (I + 3) cl) (I + 2) env) (.int (a + (i : Int)) t)) (fun _ s₂ => wpAny (model prog w) A (testsM ifs (compEnvC scope (exC cy (I + 3) cl) (I + 2) env)) (fun ok s₃ => if ok = true then wpAny (model prog w) A (emit (I + 1) (compEnvC scope (exC cy (I + 3) cl) (I + 2) env)) (fun _ s₄ => TurnE g L m s I oI (news I) (J I (i + 1)) s₄) E' s₃ else TurnE g L m s I oI (news I) (J I (i + 1)) s₃) E' s₂) E' { s with heap := h, toks := tk })
    (fin : ∀ I x hp, (∀ p ∈ news₀, p.1 < I) → J I n x → Fin { s with heap := hp } (I + 1) (news I x)) :
    wpAny (model prog w) A (pyIter (.ref r)) (OpenR prog w A g L m env e scope cl cy oD Fin) E s := by
  have lt := lt_new F N
  refine wpAny_pyIter_range hr hsmall ?_
  have W0 := LCg.range_walks (prog := prog) (w := w) (I := s.heap.objs.size) hh a n
  have W := KTurns.ofWalks (target := .Name y py) W0 (fun i v s Q E st q => by show wpAny _ _ (pure ()) _ _ _; exact wpAny_pure q)
  refine open_core (σ := σ) (keep := []) K s.heap.objs.size rfl rfl W (fun s Q E st q => W0.self 0 s Q E st q) (fun i h st => ⟨_, st⟩) ?_ (fun p hp => nomatch hp) F N (by show IsRangeIter _ _ _ _ _; rw [hn0]; simpa using Heap.get?_push_size _ rfl) (news s.heap.objs.size) (J s.heap.objs.size) x₀ (hn _ lt) (hj _ lt) (fun i x hJ => hoff _ i x lt hJ) (fun i x hJ p hp => nomatch hp) ?_ (fun x hJ => fin _ x _ lt hJ)
  · intro b hb
    exact .inl (List.mem_singleton.mp hb)
  · rintro i x h tk oI oC mC v E' hi ⟨t, rfl⟩ hJ hC F₁ N₁
    exact turn _ i x h tk oI oC mC t E' lt hi hJ hC F₁ N₁
theorem open_str {σ : Type} {e : Expr} {pe : Pos} {y : Str} {py : Pos} {ifs : List Expr} {emit : Addr → Env → Sem Unit} {scope : Scope} {cl : List (Str × Addr)} {cy : Option Str} {oD : Obj} {Fin : Shared → Addr → List (Addr × Obj) → Prop} {news₀ : List (Addr × Obj)} {x : Str} {t : Tok}
    (hh : A.handled = none) (K : CompK A e 0 pe (.Name y py) ifs emit) (F : Fr g L s.heap m) (N : News g L s.heap news₀)
    (news : Addr → σ → List (Addr × Obj)) (J : Addr → Nat → σ → Prop) (x₀ : σ)
    (hn : ∀ I, (∀ p ∈ news₀, p.1 < I) → ∀ p ∈ news I x₀, p ∈ (I + 1, oD) :: (exL cy (I + 3) ++ news₀)) (hj : ∀ I, (∀ p ∈ news₀, p.1 < I) → J I 0 x₀)
    (hoff : ∀ I i x, (∀ p ∈ news₀, p.1 < I) → J I i x → ∀ p ∈ news I x, p.1 ≠ I ∧ p.1 ≠ I + 2)
    (turn : ∀ I i z h tk oI oC mC t (E' : Value → Shared → Prop), (∀ p ∈ news₀, p.1 < I) → i < x.length → J I i z → LCg.NsObj oC mC → Fr g L h m → News g L h ((I, oI) :: (I + 2, oC) :: news I z) →
      wpAny (model prog w) A (assign (.Name y py) (compEnvC scope (exC cy (I + 3) cl) (I + 2) env) (.str (sign x i) t)) (fun _ s₂ => wpAny (model prog w) A (testsM ifs (compEnvC scope (exC cy (I + 3) cl) (I + 2) env)) (fun ok s₃ => if ok = true then wpAny (model prog w) A (emit (I + 1) (compEnvC scope (exC cy (I + 3) cl) (I + 2) env)) (fun _ s₄ => TurnE g L m s I oI (news I) (J I (i + 1)) s₄) E' s₃ else TurnE g L m s I oI (news I) (J I (i + 1)) s₃) E' s₂) E' { s with heap := h, toks := tk })
    (fin : ∀ I z hp, (∀ p ∈ news₀, p.1 < I) → J I x.length z → Fin { s with heap := hp } (I + 1) (news I z)) :
    wpAny (model prog w) A (pyIter (.str x t)) (OpenR prog w A g L m env e scope cl cy oD Fin) E s := by
  have lt := lt_new F N
  refine wpAny_pyIter_strU ?_
  have key : ∀ (St : Nat → Heap → Prop), Walks prog w A s.heap.objs.size [s.heap.objs.size] [s.heap.objs.size] x.cps.size (SignAt x) St → (∀ i h, St i h → ∃ o, h.get? s.heap.objs.size = some o) → St 0 (s.heap.push { cls := .type (strIterType x), data := .fields #[.str x t, .int 0 0] }) →
      OpenR prog w A g L m env e scope cl cy oD Fin (.ref s.heap.objs.size) { s with heap := s.heap.push { cls := .type (strIterType x), data := .fields #[.str x t, .int 0 0] } } := by
    intro St W0 hlive hst
    have W := KTurns.ofWalks (target := .Name y py) W0 (fun i v s Q E _ h => by show wpAny _ _ (pure ()) _ _ _; exact wpAny_pure h)
    refine open_core (σ := σ) (keep := []) K s.heap.objs.size rfl rfl W (fun s Q E st q => W0.self 0 s Q E st q) hlive ?_ (fun p hp => nomatch hp) F N hst (news s.heap.objs.size) (J s.heap.objs.size) x₀ (hn _ lt) (hj _ lt) (fun i x hJ => hoff _ i x lt hJ) (fun i x hJ p hp => nomatch hp) ?_ (fun x hJ => fin _ x _ lt hJ)
    · intro b hb
      exact .inl (List.mem_singleton.mp hb)
    · rintro i z h tk oI oC mC v E' hi ⟨c, u', hc, rfl⟩ hJ hC F₁ N₁
      rw [sign_of hc]
      exact turn _ i z h tk oI oC mC u' E' lt hi hJ hC F₁ N₁
  cases ha : x.cps.all (· < 128)
  · exact key _ (Walks.strWide hh _ x t) (fun _ _ st => let ⟨o, ho, _⟩ := st; ⟨o, ho⟩) ⟨_, Heap.get?_push_size _ rfl, by simp [strIterType, ha], rfl⟩
  · exact key _ (Walks.strAscii hh _ x t) (fun _ _ st => let ⟨o, ho, _⟩ := st; ⟨o, ho⟩) ⟨_, Heap.get?_push_size _ rfl, by simp [strIterType, ha], rfl⟩
end
section
variable {prog : Program} {w : World} {A : Around} {E : Value → Shared → Prop} {s : Shared} {g : Heap} {L : Addr} {m : Str → Option Value} {env : Env}
theorem asg_own {scope : Scope} {cl : List (Str × Addr)} {C : Addr} {oC : Obj} {mC : Str → Option Value} {news : List (Addr × Obj)} {gN : Obj → List (Addr × Obj)} {y : Str} {py : Pos} {v : Value} {Q : Unit → Shared → Prop}
    (F : Fr g L s.heap m) (N : News g L s.heap news) (U : UpdF C oC news gN) (hC : LCg.NsObj oC mC) (hk : scope.kind = .function) (hy : scope.names.lookup y = some .local)
    (h : ∀ h' oC' tk' mN, Fr g L h' m → News g L h' (gN oC') → LCg.NsObj oC' mN → mN y = some v → (∀ z, z ≠ y → mN z = mC z) → Q () { s with heap := h', toks := tk' }) :
    wpAny (model prog w) A (assign (.Name y py) (compEnvC scope cl C env) v) Q E s := by
  obtain ⟨pre, post, rfl, hg, a, b⟩ := U.split
  have hm := N (C, oC) (List.mem_append_right _ (.head _))
  refine wpAny_assign_Name (wpAny_storeName_local (lookup_relabel_local hy) (hC.ns hm.1) (fun h₃ hn₃ hs₃ => ?_) (by simp [compEnvC, relabel, hk]))
  obtain ⟨oC', e', hC'⟩ := LCg.ns_obj hn₃
  exact h h₃ oC' _ _ (F.change hs₃ hm.2.1 hm.2.2) (hg oC' ▸ N.setIn a b hs₃ e') hC' (if_pos rfl) fun z hz => if_neg hz
theorem asg_cell {scope : Scope} {cl : List (Str × Addr)} {C c : Addr} {oc : Obj} {v₀ : Option Value} {news : List (Addr × Obj)} {gN : Obj → List (Addr × Obj)} {y : Str} {py : Pos} {v : Value} {Q : Unit → Shared → Prop}
    (F : Fr g L s.heap m) (N : News g L s.heap news) (U : UpdF c oc news gN) (hd : oc.data = .cell v₀) (hc : cl.lookup y = some c) (hk : scope.kind = .function) (hy : (compEnvC scope cl C env).kindOf y = some .cell)
    (h : ∀ h' oc', Fr g L h' m → News g L h' (gN oc') → oc'.data = .cell (some v) → Q () { s with heap := h' }) :
    wpAny (model prog w) A (assign (.Name y py) (compEnvC scope cl C env) v) Q E s := by
  obtain ⟨pre, post, rfl, hg, a, b⟩ := U.split
  have hm := N (c, oc) (List.mem_append_right _ (.head _))
  refine wpAny_assign_Name (wpAny_storeName_cell (by simp [compEnvC, relabel, hk]) hy hc ⟨oc, hm.1, hd⟩ fun h' hv hs => ?_)
  obtain ⟨oc', e', hd'⟩ := hv
  exact h h' oc' (F.change hs hm.2.1 hm.2.2) (hg oc' ▸ N.setIn a b hs e') hd'
theorem asg_pair {scope : Scope} {cl : List (Str × Addr)} {C T : Addr} {oC : Obj} {mC : Str → Option Value} {news : List (Addr × Obj)} {gN : Obj → List (Addr × Obj)} {a b : Str} {pa pb tp : Pos} {kk : Nat} {v₁ v₂ : Value} {Q : Unit → Shared → Prop} (hh : A.handled = none)
    (F : Fr g L s.heap m) (N : News g L s.heap news) (U : UpdF C oC news gN) (hC : LCg.NsObj oC mC) (hk : scope.kind = .function) (ha : scope.names.lookup a = some .local) (hb : scope.names.lookup b = some .local) (hT : s.heap.IsTuple T #[v₁, v₂])
    (hab : ¬ a = b) (h : ∀ h' oC' tk' mN, Fr g L h' m → News g L h' (gN oC') → LCg.NsObj oC' mN → mN a = some v₁ → mN b = some v₂ → Q () { s with heap := h', toks := tk' }) :
    wpAny (model prog w) A (assign (.Tuple [.Name a pa, .Name b pb] kk tp) (compEnvC scope cl C env) (.ref T)) Q E s := by
  obtain ⟨pre, post, rfl, hg, a', b'⟩ := U.split
  refine assign_Tuple_tuple hh hT rfl rfl fun h₅ he => ?_
  have he' : ∀ b o, s.heap.get? b = some o → h₅.get? b = some o := fun b o e => he b o (Nat.ne_of_lt (Heap.lt_size e)) e
  have F₅ : Fr g L h₅ m := F.keeps he'
  have N₅ : News g L h₅ (pre ++ (C, oC) :: post) := N.grown he'
  have hm := N₅ (C, oC) (List.mem_append_right _ (.head _))
  refine assignInOrder_cons (wpAny_assign_Name (wpAny_storeName_local (lookup_relabel_local ha) (hC.ns hm.1) (fun h₆ hn₆ hs₆ => ?_) (by simp [compEnvC, relabel, hk])))
  refine assignInOrder_cons (wpAny_assign_Name (wpAny_storeName_local (lookup_relabel_local hb) hn₆ (fun h₃ hn₃ hs₃ => ?_) (by simp [compEnvC, relabel, hk])))
  refine assignInOrder_nil ?_
  obtain ⟨oC₆, e₆, hC₆⟩ := LCg.ns_obj hn₆
  obtain ⟨oC', e', hC'⟩ := LCg.ns_obj hn₃
  have F₆ : Fr g L h₆ m := F₅.change hs₆ hm.2.1 hm.2.2
  have N₆ : News g L h₆ (pre ++ (C, oC₆) :: post) := N₅.setIn a' b' hs₆ e₆
  exact h h₃ oC' _ _ (F₆.change hs₃ hm.2.1 hm.2.2) (hg oC' ▸ N₆.setIn a' b' hs₃ e') hC' ((if_neg hab).trans (if_pos rfl)) (if_pos rfl)
theorem tests_nil {cenv : Env} {Q : Bool → Shared → Prop} (h : Q true s) : wpAny (model prog w) A (testsM [] cenv) Q E s := wpAny_tests_nil h
theorem tests_one {cenv : Env} {c : Expr} {Q : Bool → Shared → Prop} (h : wpAny (model prog w) A (isTrue c cenv (eval c cenv)) Q E s) : wpAny (model prog w) A (testsM [c] cenv) Q E s := wpAny_tests_one h
theorem emit_append {elt : Expr} {D : Addr} {cenv : Env} {Q : Unit → Shared → Prop} (_F₀ : Fr g L s.heap m)
    (h : wpAny (model prog w) A (eval elt cenv) (fun y s₁ => ∃ ys news gN h tk, s₁ = { s with heap := h, toks := tk } ∧ Fr g L h m ∧ News g L h news ∧ UpdF D (LCg.lst ys) news gN ∧ ys.length ≤ 100000 ∧ ∀ h', Fr g L h' m → News g L h' (gN (LCg.lst (ys ++ [y]))) → Q () { s with heap := h', toks := tk }) E s) :
    wpAny (model prog w) A (emitL elt (.ref D) cenv) Q E s := by
  unfold emitL
  refine wpAny_bind (wpAny_mono h (fun y s₁ hy => ?_) fun _ _ e => e)
  obtain ⟨ys, news, gN, h, tk, rfl, F, N, U, hz, hQ⟩ := hy
  obtain ⟨pre, post, rfl, hg, a, b⟩ := U.split
  have hm := N (D, _) (List.mem_append_right _ (.head _))
  refine wpAny_bind (append_at (hsz := ?_) hm.1 fun h₅ hs₅ hD₅ => wpAny_pure ?_)
  · refine hQ h₅ (F.change hs₅ hm.2.1 hm.2.2) ?_
    rw [hg]
    exact N.setIn a b hs₅ (hD₅.trans (congrArg some (LCg.lst_snoc ys y)))
  · rw [List.size_toArray, sizeLine_eq]; omega
theorem emit_store {kx vx : Expr} {D : Addr} {cenv : Env} {Q : Unit → Shared → Prop} (_F₀ : Fr g L s.heap m)
    (h : wpAny (model prog w) A (eval kx cenv) (fun kv s₀ => wpAny (model prog w) A (eval vx cenv) (fun vv s₁ => ∃ x t kvs oD news gN h tk, kv = .str x t ∧ s₁ = { s with heap := h, toks := tk } ∧ Fr g L h m ∧ News g L h news ∧ UpdF D oD news gN ∧ oD.IsDictOf (PySem.strKind prog w) kvs ∧ kvs.length ≤ 1000 ∧
      ∀ h' oD', Fr g L h' m → News g L h' (gN oD') → oD'.IsDictOf (PySem.strKind prog w) (stored kvs x vv) → Q () { s with heap := h', toks := tk + 1 }) E s₀) E s) :
    wpAny (model prog w) A (emitD kx vx D cenv) Q E s := by
  unfold emitD
  refine wpAny_bind (wpAny_mono h (fun kv s₀ h₀ => wpAny_bind (wpAny_holding (wpAny_mono h₀ (fun vv s₁ h₁ => ?_) fun _ _ e => e))) fun _ _ e => e)
  obtain ⟨x, t, kvs, oD, news, gN, h, tk, rfl, rfl, F, N, U, hd, hz, hQ⟩ := h₁
  obtain ⟨pre, post, rfl, hg, a, b⟩ := U.split
  have hm := N (D, _) (List.mem_append_right _ (.head _))
  refine wpAny_bind (wpAny_standAt (wpAny_holding (wpAny_dictSet_pairs (hsz := ?_) (strKind_is _ _ _ _) (Heap.dictOf_iff.mpr ⟨oD, hm.1, hd⟩) fun h' hd' hs' => ?_)))
  · obtain ⟨oD', e', hd₂⟩ := Heap.dictOf_iff.mp hd'
    exact hQ h' oD' (F.change hs' hm.2.1 hm.2.2) (hg oD' ▸ N.setIn a b hs' e') hd₂
  · rw [sizeLine_eq]; omega
theorem start1 {elt t1 i1 t2 i2 : Expr} {ifs1 ifs2 : List Expr} {scope : Scope} {pos : Pos} {it acc : Value} {cenv : Env} {R : Result → Shared → Prop}
    (h0 : codeAny (model prog w) A (.compLoop (.ListComp elt [⟨t1, i1, ifs1, 0⟩, ⟨t2, i2, ifs2, 0⟩] scope pos) 1 it acc cenv) R s)
    (h : wpAny (model prog w) A (pyIter it) (fun it' s' => codeAny (model prog w) A (.compLoop (.ListComp elt [⟨t1, i1, ifs1, 0⟩, ⟨t2, i2, ifs2, 0⟩] scope pos) 1 it' acc cenv) R s') (notedBy (model prog w) A cenv fun x s' => R (.error x) s') s) :
    codeAny (model prog w) A (.compStart (.ListComp elt [⟨t1, i1, ifs1, 0⟩, ⟨t2, i2, ifs2, 0⟩] scope pos) 1 it acc cenv) R s := by
  refine codeAny_of_tree ?_
  show wpAny _ _ ((compStart (.ListComp elt [⟨t1, i1, ifs1, 0⟩, ⟨t2, i2, ifs2, 0⟩] scope pos) 1 it acc cenv).onRaise (fun x => do noteFrame x cenv; standAt theWindowsPlace)) _ _ s
  refine wpAny_notedAt ?_
  unfold compStart
  show wpAny _ _ (ask >>= _) _ _ s
  refine wpAny_bind (wpAny_askSetting (wpAny_ite ?_))
  split
  · first
      | exact wpAny_bind (wpAny_pure (wpAny_pure (And.intro rfl h0)))
      | exact wpAny_pure (And.intro rfl h0)
  · first
      | exact wpAny_bind (wpAny_rule (wpAny_bind (wpAny_standAt (wpAny_bind (wpAny_mono h (fun it' s' h' => wpAny_pure (And.intro rfl h')) fun _ _ x => x)))))
      | (refine wpAny_bind (wpAny_rule ?_); show wpAny _ _ (standAt i2.pos >>= _) _ _ s; exact wpAny_bind (wpAny_standAt (wpAny_bind (wpAny_mono h (fun it' s' h' => wpAny_pure (And.intro rfl h')) fun _ _ x => x))))
noncomputable def InnerR (prog : Program) (w : World) (A : Around) (e : Expr) (acc : Value) (cenv : Env) (Q : Unit → Shared → Prop) (it : Value) (s₂ : Shared) : Prop :=
  ∃ I, it = .ref I ∧ (∀ (Q : Value → Shared → Prop) (E : Value → Shared → Prop), Q (.ref I) s₂ → wpAny (model prog w) A (pyIter (.ref I)) Q E s₂) ∧
    codeAny (model prog w) A (.compLoop e 1 (.ref I) acc cenv) (fun r s' => r = .ok .next ∧ Q () s') s₂
theorem emit_inner {elt t1 i1 t2 i2 : Expr} {ifs1 ifs2 : List Expr} {scope : Scope} {pos : Pos} {acc : Value} {cenv : Env} {Q : Unit → Shared → Prop} (hs : ∀ x, foldedSetIterable i2 cenv x = pure x)
    (h : wpAny (model prog w) A (eval i2 cenv) (fun xv s₁ => wpAny (model prog w) A (pyIter xv) (InnerR prog w A (.ListComp elt [⟨t1, i1, ifs1, 0⟩, ⟨t2, i2, ifs2, 0⟩] scope pos) acc cenv Q) E s₁) E s) :
    wpAny (model prog w) A (emitN (.ListComp elt [⟨t1, i1, ifs1, 0⟩, ⟨t2, i2, ifs2, 0⟩] scope pos) i2 acc cenv) Q E s := by
  unfold emitN
  refine wpAny_bind (wpAny_mono h (fun xv s₁ h₁ => wpAny_bind (wpAny_standAt (wpAny_bind (wpAny_of_eq (hs xv) (wpAny_bind (wpAny_holding (wpAny_mono h₁ (fun it s₂ h₂ => ?_) fun _ _ e => e))))))) fun _ _ e => e)
  obtain ⟨I, rfl, hself, loop⟩ := h₂
  refine wpAny_bind (wpAny_runOwn ?_)
  have conv : ∀ r s', (r = Except.ok Flow.next ∧ Q () s') → (match r with | .ok f => wpAny (model prog w) A (pure ()) Q E s' | .error e => cameBackBy (model prog w) A cenv E e s') := by
    rintro r s' ⟨rfl, hq⟩; exact wpAny_pure hq
  have lp := codeAny_mono loop conv
  exact codeAny_mono (start1 lp (hself _ _ lp)) fun r s' hr => hr
theorem inner_list {σ : Type} {e : Expr} {pe : Pos} {target : Expr} {ifs : List Expr} {emit : Addr → Env → Sem Unit} {D : Addr} {cenv : Env} {news₀ : List (Addr × Obj)} {l : Addr} {vs : List Value} {k : Nat} {Q : Unit → Shared → Prop}
    (hh : A.handled = none) (K : CompK A e 1 pe target ifs emit) (F : Fr g L s.heap m) (N : News g L s.heap news₀) (hm : (l, listOf vs.toArray k) ∈ news₀)
    (news : Addr → σ → List (Addr × Obj)) (J : Addr → Nat → σ → Prop) (x₀ : σ)
    (hn : ∀ I, (∀ p ∈ news₀, p.1 < I) → ∀ p ∈ news I x₀, p ∈ news₀) (hj : ∀ I, (∀ p ∈ news₀, p.1 < I) → J I 0 x₀)
    (hoff : ∀ I i x, (∀ p ∈ news₀, p.1 < I) → J I i x → ∀ p ∈ news I x, p.1 ≠ I) (hkeep : ∀ I i x, J I i x → (l, listOf vs.toArray k) ∈ news I x)
    (turn : ∀ I i x h tk oI v (E' : Value → Shared → Prop), (∀ p ∈ news₀, p.1 < I) → vs[i]? = some v → J I i x → Fr g L h m → News g L h ((I, oI) :: news I x) →
      wpAny (model prog w) A (assign target cenv v) (fun _ s₂ => wpAny (model prog w) A (testsM ifs cenv) (fun ok s₃ => if ok = true then wpAny (model prog w) A (emit D cenv) (fun _ s₄ => CompR g L m s (fun x => (I, oI) :: news I x) (J I (i + 1)) s₄) E' s₃ else CompR g L m s (fun x => (I, oI) :: news I x) (J I (i + 1)) s₃) E' s₂) E' { s with heap := h, toks := tk })
    (done : ∀ I x h tk, (∀ p ∈ news₀, p.1 < I) → J I vs.length x → Fr g L h m → News g L h (news I x) → Q () { s with heap := h, toks := tk }) :
    wpAny (model prog w) A (pyIter (.ref l)) (InnerR prog w A e (.ref D) cenv Q) E s := by
  have lt := lt_new F N
  have zl := N _ hm
  have hL : s.heap.IsList l vs.toArray := ⟨_, zl.1, rfl, k, rfl⟩
  have hll : l < s.heap.objs.size := Heap.lt_size zl.1
  have hIL : s.heap.objs.size ≠ L := fun q => Nat.lt_irrefl _ (q ▸ F.ns.lt)
  refine wpAny_pyIter_list hL ?_
  have W0 := Walks.list (prog := prog) (w := w) hh s.heap.objs.size l (Nat.ne_of_lt hll) vs.toArray
  have W := KTurns.ofWalks (target := target) W0 (fun i v s Q E st q => letGo_listiter st.1 q)
  have hst : (fun i h => Heap.IsListIter h s.heap.objs.size l i ∧ h.IsList l vs.toArray) 0 (s.heap.push { cls := .type "list_iterator", data := .fields #[.ref l, .int 0 0] }) := ⟨⟨_, Heap.get?_push_size _ rfl, rfl, rfl⟩, hL.push _⟩
  refine ⟨_, rfl, fun Q E q => W0.self 0 _ Q E hst q, ?_⟩
  refine comp_cut (σ := σ) (keep := [(l, listOf vs.toArray k)]) (s := s) (tk0 := s.toks) W (K.turn _ _ _) (K.quiet _ _ _) (K.under _ _ _) (K.frame _ _ _) ?_ hIL (next_is_new F) ?_ (news s.heap.objs.size) (J s.heap.objs.size) x₀ (F.push _) (N.grown fun _ _ e => Heap.get?_push_of_some _ e) hst (hn _ lt) (hj _ lt) (fun i x hJ => hoff _ i x lt hJ) (fun i x hJ p hp => by rw [List.mem_singleton.mp hp]; exact hkeep _ i x hJ) ?_ (fun x h tk hJ F N => ⟨rfl, done _ x h tk lt (by simpa using hJ) F N⟩)
  · rintro i h ⟨⟨o, ho, _⟩, _⟩; exact ⟨o, ho⟩
  · intro b hb
    rcases List.mem_cons.mp hb with rfl | hb
    · exact .inl rfl
    · rw [List.mem_singleton.mp hb]; exact .inr ⟨_, .head _⟩
  · intro i x h tk oI v E' hi hP hJ F₁ N₁
    exact turn _ i x h tk oI v E' lt (by simpa using hP) hJ F₁ N₁
theorem inner_range {σ : Type} {e : Expr} {pe : Pos} {y : Str} {py : Pos} {ifs : List Expr} {emit : Addr → Env → Sem Unit} {D : Addr} {cenv : Env} {news₀ : List (Addr × Obj)} {r : Addr} {a b : Int} {t₁ t₂ t₃ : Tok} {n : Nat} {Q : Unit → Shared → Prop}
    (hh : A.handled = none) (K : CompK A e 1 pe (.Name y py) ifs emit) (F : Fr g L s.heap m) (N : News g L s.heap news₀) (hr : IsRange s.heap r a b 1 t₁ t₂ t₃) (hsmall : Builtin.Range.small a b 1 = true) (hn0 : Builtin.Range.rangeSize a b 1 = (n : Int))
    (news : Addr → σ → List (Addr × Obj)) (J : Addr → Nat → σ → Prop) (x₀ : σ)
    (hn : ∀ I, (∀ p ∈ news₀, p.1 < I) → ∀ p ∈ news I x₀, p ∈ news₀) (hj : ∀ I, (∀ p ∈ news₀, p.1 < I) → J I 0 x₀)
    (hoff : ∀ I i x, (∀ p ∈ news₀, p.1 < I) → J I i x → ∀ p ∈ news I x, p.1 ≠ I)
    (turn : ∀ I i x h tk oI t (E' : Value → Shared → Prop), (∀ p ∈ news₀, p.1 < I) → i < n → J I i x → Fr g L h m → News g L h ((I, oI) :: news I x) →
      wpAny (model prog w) A (assign (.Name y py) cenv (.int (a + (i : Int)) t)) (fun _ s₂ => wpAny (model prog w) A (testsM ifs cenv) (fun ok s₃ => if ok = true then wpAny (model prog w) A (emit D cenv) (fun _ s₄ => CompR g L m s (fun x => (I, oI) :: news I x) (J I (i + 1)) s₄) E' s₃ else CompR g L m s (fun x => (I, oI) :: news I x) (J I (i + 1)) s₃) E' s₂) E' { s with heap := h, toks := tk })
    (done : ∀ I x h tk, (∀ p ∈ news₀, p.1 < I) → J I n x → Fr g L h m → News g L h (news I x) → Q () { s with heap := h, toks := tk }) :
    wpAny (model prog w) A (pyIter (.ref r)) (InnerR prog w A e (.ref D) cenv Q) E s := by
  have lt := lt_new F N
  have hIL : s.heap.objs.size ≠ L := fun q => Nat.lt_irrefl _ (q ▸ F.ns.lt)
  refine wpAny_pyIter_range hr hsmall ?_
  have W0 := LCg.range_walks (prog := prog) (w := w) (I := s.heap.objs.size) hh a n
  have W := KTurns.ofWalks (target := .Name y py) W0 (fun i v s Q E st q => by show wpAny _ _ (pure ()) _ _ _; exact wpAny_pure q)
  have hst : (fun (i : Nat) h => IsRangeIter h s.heap.objs.size (a + (i : Nat) * 1) ((n : Int) - (i : Nat)) 1) 0 (s.heap.push (rangeIt a (Builtin.Range.rangeSize a b 1) 1)) := by
    show IsRangeIter _ _ _ _ _
    rw [hn0]
    have e : IsRangeIter (s.heap.push (rangeIt a (n : Int) 1)) s.heap.objs.size a (n : Int) 1 := Heap.get?_push_size _ rfl
    simpa using e
  refine ⟨_, rfl, fun Q E q => W0.self 0 _ Q E hst q, ?_⟩
  refine comp_cut (σ := σ) (keep := []) (s := s) (tk0 := s.toks) W (K.turn _ _ _) (K.quiet _ _ _) (K.under _ _ _) (K.frame _ _ _) (fun i h st => ⟨_, st⟩) hIL (next_is_new F) (fun b hb => .inl (List.mem_singleton.mp hb)) (news s.heap.objs.size) (J s.heap.objs.size) x₀ (F.push _) (N.grown fun _ _ e => Heap.get?_push_of_some _ e) hst (hn _ lt) (hj _ lt) (fun i x hJ => hoff _ i x lt hJ) (fun i x hJ p hp => nomatch hp) ?_ (fun x h tk hJ F N => ⟨rfl, done _ x h tk lt hJ F N⟩)
  rintro i x h tk oI v E' hi ⟨t, rfl⟩ hJ F₁ N₁
  exact turn _ i x h tk oI t E' lt hi hJ F₁ N₁
end

section
variable {prog : Program} {w : World} {A : Around} {E : Value → Shared → Prop} {Q : Flow → Shared → Prop} {s : Shared} {env : Env} {g : Heap} {L : Addr}
theorem vlist_cut {σ : Type} {target : Expr} {body : List Stmt} {m : Str → Option Value} {newsNow : List (Addr × Obj)} {l : Addr} {vs : List Value} {k : Nat} (hh : A.handled = none)
    (ps : σ → List (Str × Value)) (news : σ → List (Addr × Obj)) (J : Addr → Nat → σ → Prop) (x₀ : σ)
    (F : Fr g L s.heap m) (N : News g L s.heap newsNow) (hl0 : (l, listOf vs.toArray k) ∈ newsNow) (hk : ∀ p ∈ ps x₀, m p.1 = some p.2) (hn : ∀ p ∈ news x₀, p ∈ newsNow)
    (hj : ∀ I, (∀ p ∈ newsNow, p.1 < I) → J I 0 x₀) (hoff : ∀ I i x, (∀ p ∈ newsNow, p.1 < I) → J I i x → ∀ p ∈ news x, p.1 ≠ I) (hl : ∀ I i x, J I i x → (l, listOf vs.toArray k) ∈ news x)
    (turn : ∀ I i v z u h tk oI, (∀ p ∈ newsNow, p.1 < I) → vs[i]? = some v → J I i z → Fr g L h (kstB u (ps z)) → News g L h ((I, oI) :: news z) →
      wpAny (model prog w) A (assign target env v) (fun _ s₂ => wpAny (model prog w) A (execs body env) (ForPost g L s ps (fun x => (I, oI) :: news x) (J I (i + 1)) Q) E s₂) E { s with heap := h, toks := tk })
    (done : ∀ I z u h tk, (∀ p ∈ newsNow, p.1 < I) → J I vs.length z → Fr g L h (kstB u (ps z)) → News g L h (news z) → Q .next { s with heap := h, toks := tk })
    (hE : PassesOwn (model prog w) A env E) :
    wpAny (model prog w) A (pyIter (.ref l)) (ForK prog w A target body env Q E) E s := by
  have hLs : L < s.heap.objs.size := F.ns.lt
  have lt := lt_new F N
  have zl := N _ hl0
  have hL : s.heap.IsList l vs.toArray := ⟨_, zl.1, rfl, k, rfl⟩
  have hll : l < s.heap.objs.size := Heap.lt_size zl.1
  refine wpAny_pyIter_list hL ?_
  have W := KTurns.ofWalks (target := target) (Walks.list (prog := prog) (w := w) hh s.heap.objs.size l (Nat.ne_of_lt hll) vs.toArray) (fun i v s Q E st q => letGo_listiter st.1 q)
  unfold ForK
  refine turns_cut (s := s) (tk0 := s.toks) (σ := σ) (keep := [(l, listOf vs.toArray k)]) W [s.heap.objs.size] ?_ ?_ (fun b hb => hb) ?_ ps news (J s.heap.objs.size) x₀ (F.push _) (fun p hp => ⟨Heap.get?_push_of_some _ (N p hp).1, (N p hp).2⟩) ⟨⟨_, Heap.get?_push_size _ rfl, rfl, rfl⟩, hL.push _⟩ hk hn (hj _ lt) ?_ ?_ ?_ ?_ hE
  · rintro i h ⟨⟨o, ho, _⟩, _⟩
    exact ⟨[(_, o)], rfl, fun p hp => by rw [List.mem_singleton.mp hp]; exact ho⟩
  · intro b hb
    rw [List.mem_singleton.mp hb]
    exact ⟨fun q => Nat.lt_irrefl _ (q ▸ hLs), next_is_new F⟩
  · intro b hb
    rcases List.mem_cons.mp hb with rfl | hb
    · exact .inl (.head _)
    · rw [List.mem_singleton.mp hb]; exact .inr ⟨_, .head _⟩
  · intro i z hz p hp hm
    exact hoff _ i z lt hz p hp (List.mem_singleton.mp hm)
  · intro i z hz p hp
    rw [List.mem_singleton.mp hp]; exact hl _ i z hz
  · rintro i z u h tk its v hlt hv hJ hits F' N'
    obtain ⟨oI, rfl⟩ := map_one_eq hits
    exact turn _ i v z u h tk oI lt (by simpa using hv) hJ F' N'
  · intro z u h tk hJ F' N'
    exact done _ z u h tk lt (by simpa using hJ) F' N'
end
inductive TxtsAre : List Value → List (List Nat) → Prop
  | nil : TxtsAre [] []
  | cons (r : List Nat) (t : Tok) {vs : List Value} {rs : List (List Nat)} : TxtsAre vs rs → TxtsAre (.str (wd r) t :: vs) (r :: rs)
theorem TxtsAre.append {vs ws : List Value} {rs qs : List (List Nat)} (h : TxtsAre vs rs) (h2 : TxtsAre ws qs) : TxtsAre (vs ++ ws) (rs ++ qs) := by
  induction h with
  | nil => exact h2
  | cons r t _ ih => exact .cons r t ih
theorem TxtsAre.length {vs : List Value} {rs : List (List Nat)} (h : TxtsAre vs rs) : vs.length = rs.length := by
  induction h with
  | nil => rfl
  | cons r t _ ih => simp [ih]
theorem TxtsAre.at {vs : List Value} {rs : List (List Nat)} (h : TxtsAre vs rs) : ∀ {i : Nat} {v : Value}, vs[i]? = some v → ∃ r t, rs[i]? = some r ∧ v = .str (wd r) t := by
  induction h with
  | nil => intro i v e; simp at e
  | cons r t _ ih =>
    intro i v e
    cases i with
    | zero => simp at e; exact ⟨r, t, rfl, e.symm⟩
    | succ i => simpa using ih (by simpa using e)
noncomputable def stepR (f : Nat → List Nat) (r : List Nat) : List (List Nat) := ((f (r.getLastD 0)).filter (fun c => !r.contains c)).map (fun c => r ++ [c])
noncomputable def rowsN (adj : Nat → Nat → List Nat) : Nat → List (List Nat)
  | 0 => lowL.map fun c => [c]
  | i + 1 => (rowsN adj i).flatMap (stepR (adj i))
structure RowsOk (n : Nat) (rs : List (List Nat)) : Prop where
  out : ∀ r ∈ rs, r.length = n ∧ ∀ c ∈ r, c ∈ lowL
structure AdjD (prog : Program) (w : World) (news : List (Addr × Obj)) (d : Addr) (f : Nat → List Nat) : Prop where
  out : ∃ od kvs, (d, od) ∈ news ∧ od.IsDictOf (PySem.strKind prog w) kvs ∧ ∀ c ∈ lowL, ∃ a avs k, valueAt kvs (wd [c]) = some (.ref a) ∧ (a, listOf avs.toArray k) ∈ news ∧ TxtsAre avs ((f c).map fun c => [c])
theorem off_fix {I : Addr} {o : Obj} {news : List (Addr × Obj)} (lt : ∀ p ∈ news, p.1 < I) : ∀ p ∈ (I + 1, o) :: news, p.1 ≠ I ∧ p.1 ≠ I + 2 := by
  intro p hp
  rcases List.mem_cons.mp hp with rfl | hp
  · exact ⟨Nat.ne_of_gt (Nat.lt_succ_self _), Nat.ne_of_lt (Nat.lt_succ_self _)⟩
  · have := lt p hp
    exact ⟨Nat.ne_of_lt this, Nat.ne_of_lt (Nat.lt_succ_of_lt (Nat.lt_succ_of_lt this))⟩
theorem upd_C {I : Addr} {oI oC oD : Obj} {news : List (Addr × Obj)} (lt : ∀ p ∈ news, p.1 < I) : UpdF (I + 2) oC ((I, oI) :: (I + 2, oC) :: (I + 1, oD) :: news) (fun o => (I, oI) :: (I + 2, o) :: (I + 1, oD) :: news) :=
  .tail (Nat.ne_of_lt (Nat.lt_succ_of_lt (Nat.lt_succ_self _))) (.head fun p hp => (off_fix (o := oD) lt p hp).2)
theorem upd_D {I : Addr} {oI oC oD : Obj} {news : List (Addr × Obj)} (lt : ∀ p ∈ news, p.1 < I) : UpdF (I + 1) oD ((I, oI) :: (I + 2, oC) :: (I + 1, oD) :: news) (fun o => (I, oI) :: (I + 2, oC) :: (I + 1, o) :: news) :=
  .tail (Nat.ne_of_lt (Nat.lt_succ_self _)) (.tail (Nat.ne_of_gt (Nat.lt_succ_self _)) (.head fun p hp => Nat.ne_of_lt (Nat.lt_succ_of_lt (lt p hp))))
theorem wd_len (r : List Nat) : (wd r).length = r.length := by simp [wd, Str.length]
theorem getLast_mem {r : List Nat} (h : 0 < r.length) : r.getLastD 0 ∈ r := by
  cases r with
  | nil => simp at h
  | cons c r => rw [List.getLastD_cons, List.getLastD_eq_getLast?]; cases e : r.getLast? with
    | none => simp
    | some x => exact List.mem_cons_of_mem _ (List.mem_of_getLast? e)
theorem item_last {r : List Nat} (h : 0 < r.length) : Txt.item (wd r) (-1) = wd [r.getLastD 0] := by
  have hne : r ≠ [] := by intro q; rw [q] at h; simp at h
  have e : wd r = (⟨#[]⟩ : Str) ++ ⟨(r.dropLast ++ [r.getLastD 0]).toArray⟩ := by
    have e2 : r.dropLast ++ [r.getLastD 0] = r := by
      rw [List.getLastD_eq_getLast?, List.getLast?_eq_some_getLast hne]
      exact List.dropLast_concat_getLast hne
    rw [e2]
    show (⟨r.toArray⟩ : Str) = ⟨#[] ++ r.toArray⟩
    simp
  rw [e, item_last_right]
  rfl
theorem lt_swap {I3 I2 : Addr} {oI oC oD oC7 oD7 : Obj} {news : List (Addr × Obj)} (lt : ∀ p ∈ (I2, oI) :: (I2 + 2, oC) :: (I2 + 1, oD) :: news, p.1 < I3) : ∀ p ∈ (I2, oI) :: (I2 + 2, oC7) :: (I2 + 1, oD7) :: news, p.1 < I3 := by
  intro p hp
  rcases List.mem_cons.mp hp with rfl | hp
  · exact lt (I2, oI) (.head _)
  rcases List.mem_cons.mp hp with rfl | hp
  · exact lt (I2 + 2, oC) (.tail _ (.head _))
  rcases List.mem_cons.mp hp with rfl | hp
  · exact lt (I2 + 1, oD) (.tail _ (.tail _ (.head _)))
  · exact lt p (.tail _ (.tail _ (.tail _ hp)))
theorem occ_letter {r : List Nat} {c : Nat} : (Builtin.Str.occurrences (wd r) (wd [c]) 0 (wd r).length 1).isEmpty = !r.contains c := by
  have h := PySem.StrLaws.found_one (wd r) c
  have e : (decide (c ∈ (wd r).cps.toList)) = r.contains c := by
    show decide (c ∈ r.toArray.toList) = _
    simp
  rw [e] at h
  rw [← h, Bool.not_not]
  rfl
theorem flat_len {rs : List (List Nat)} {f : List Nat → List (List Nat)} (h : ∀ r ∈ rs, (f r).length ≤ 4) : (rs.flatMap f).length ≤ 4 * rs.length := by
  induction rs with
  | nil => simp
  | cons r rs ih =>
    rw [List.flatMap_cons, List.length_append, List.length_cons]
    have h1 := h r (.head _)
    have h2 := ih fun x hx => h x (.tail _ hx)
    omega
theorem step_len {f : Nat → List Nat} {r : List Nat} (h : (f (r.getLastD 0)).length ≤ 4) : (stepR f r).length ≤ 4 := by
  unfold stepR
  rw [List.length_map]
  exact Nat.le_trans (List.length_filter_le ..) h
theorem rows_ok {adj : Nat → Nat → List Nat} (hA : ∀ i c, c ∈ lowL → (adj i c).length ≤ 4 ∧ ∀ x ∈ adj i c, x ∈ lowL) : ∀ i, RowsOk (i + 1) (rowsN adj i) ∧ (rowsN adj i).length ≤ 5 * 4 ^ i
  | 0 => ⟨⟨(by decide : ∀ r ∈ lowL.map fun c => [c], r.length = 0 + 1 ∧ ∀ c ∈ r, c ∈ lowL)⟩, (by decide : (lowL.map fun c => [c]).length ≤ 5 * 4 ^ 0)⟩
  | i + 1 => by
    obtain ⟨⟨h1⟩, h2⟩ := rows_ok hA i
    have hl : ∀ r ∈ rowsN adj i, r.getLastD 0 ∈ lowL := fun r hr => (h1 r hr).2 _ (getLast_mem (by have := (h1 r hr).1; omega))
    refine ⟨⟨fun q hq => ?_⟩, ?_⟩
    · obtain ⟨r, hr, hq⟩ := List.mem_flatMap.mp hq
      obtain ⟨c, hc, rfl⟩ := List.mem_map.mp hq
      have hc' := (List.mem_filter.mp hc).1
      refine ⟨by rw [List.length_append, (h1 r hr).1]; rfl, fun x hx => ?_⟩
      rcases List.mem_append.mp hx with hx | hx
      · exact (h1 r hr).2 x hx
      · rw [List.mem_singleton.mp hx]; exact (hA i _ (hl r hr)).2 c hc'
    · have := flat_len (f := stepR (adj i)) fun r hr => step_len (hA i _ (hl r hr)).1
      show ((rowsN adj i).flatMap (stepR (adj i))).length ≤ _
      rw [Nat.pow_succ]
      omega
theorem rows_bound {adj : Nat → Nat → List Nat} (hA : ∀ i c, c ∈ lowL → (adj i c).length ≤ 4 ∧ ∀ x ∈ adj i c, x ∈ lowL) {i i2 j : Nat} {r : List Nat} (hi : i < 4) (hr : r.getLastD 0 ∈ lowL) :
    (((rowsN adj i).take i2).flatMap (stepR (adj i)) ++ ((((adj i (r.getLastD 0)).take j).filter fun c => !r.contains c).map fun c => r ++ [c])).length ≤ 100000 := by
  obtain ⟨⟨h1⟩, h2⟩ := rows_ok hA i
  have hl : ∀ r ∈ (rowsN adj i).take i2, r.getLastD 0 ∈ lowL := fun r hr => (h1 r (List.mem_of_mem_take hr)).2 _ (getLast_mem (by have := (h1 r (List.mem_of_mem_take hr)).1; omega))
  have h3 := flat_len (f := stepR (adj i)) fun r hr => step_len (hA i _ (hl r hr)).1
  have h4 : ((rowsN adj i).take i2).length ≤ (rowsN adj i).length := List.length_take_le' ..
  have h5 : ((((adj i (r.getLastD 0)).take j).filter fun c => !r.contains c)).length ≤ 4 := Nat.le_trans (List.length_filter_le ..) (Nat.le_trans (List.length_take_le' ..) (hA i _ hr).1)
  have h6 : 4 ^ i ≤ 4 ^ 3 := Nat.pow_le_pow_right (by decide) (by omega)
  rw [List.length_append, List.length_map]
  omega
theorem wd_app (a b : List Nat) : wd a ++ wd b = wd (a ++ b) := by
  show (⟨a.toArray ++ b.toArray⟩ : Str) = ⟨(a ++ b).toArray⟩
  simp
theorem is_binop {M : Model} {A : Around} {o : Operator} {x y : Value} {R : Value → Shared → Prop} {E : Value → Shared → Prop} {s : Shared} (h : wpAny M A (binaryOp o x y) R E s) : wpAny M A (binaryOp o x y) R E s := h
section
section
local macro_rules | `(tactic| k_all) => `(tactic| assumption)
theorem ord_s1 {w : World} {mean : ExcName → Option Value} {mg mb : Str → Option Value} {g : Heap} {L D : Addr} {u : Str → Option Value} {base : Heap} {A₀ : Around} {s : Shared} {Q : Flow → Shared → Prop} {E : Value → Shared → Prop}
    {dp un : Nat} {gd : Option (List Code)} {outer : List Env} {sc : Scope} {sts : List Stmt} (hsc : sc = fnScope 30) (hsts : sts = (fnBody 30).drop 1) {post : List (Addr × Obj)} {l : Addr} {svs rvs : List Value} {ks kr : Nat} {oc : Obj} {adj : Nat → Nat → List Nat}
    (B : Below A₀ base outer g) (X : (heapK w.params).In g) (T : Top viewK (looseW viewK lse) mean mg mb g)
    (F : Fr g L s.heap (kstB u [(Str.ofString "steps", Value.ref l), (Str.ofString "rows", Value.ref D)])) (N : News g L s.heap ((D, listOf rvs.toArray kr) :: (L + 1, oc) :: (l, listOf svs.toArray ks) :: post))
    (hoc : oc.data = .cell none) (hr : TxtsAre rvs (rowsN adj 0)) (hs4 : svs.length = 4) (hpl : ∀ p ∈ post, p.1 ≠ l) (hpL : ∀ p ∈ post, p.1 ≠ L + 1) (hpD : ∀ p ∈ post, p.1 ≠ D) (hlL : @Ne Nat l (L + 1)) (hlD : @Ne Nat l D) (hDL : @Ne Nat D (L + 1))
    (hS : ∀ i v, svs[i]? = some v → ∃ d, v = .ref d ∧ AdjD PySem.Challenge.rw_ti0055_01.row.toRowW.prog w post d (adj i)) (hA : ∀ i c, c ∈ lowL → (adj i c).length ≤ 4 ∧ ∀ x ∈ adj i c, x ∈ lowL)
    (hd1 : dp + 2 < recursionLimit) (hu1 : un + 64 < cLine)
    (hE : PassesOwn (model PySem.Challenge.rw_ti0055_01.row.toRowW.prog w) (ktrTop dp un gd (Str.ofString "_law_orders") sc L 283 (.ref 282) (cellsFrom (L + 1) sc.names []) outer) (envOfC (Str.ofString "_law_orders") sc L 283 (.ref 282)) E)
    (hret : ∀ t h' tk' m', Fr g L h' m' → News g L h' ((l, listOf svs.toArray ks) :: post) → Q (.ret (.int ((rowsN adj 4).length : Int) t)) { s with heap := h', toks := tk' }) :
    wpAny (model PySem.Challenge.rw_ti0055_01.row.toRowW.prog w) (ktrTop dp un gd (Str.ofString "_law_orders") sc L 283 (.ref 282) (cellsFrom (L + 1) sc.names []) outer) (execs sts (envOfC (Str.ofString "_law_orders") sc L 283 (.ref 282))) Q E s := by
  revert X; k_fill; intro X
  dsimp only [kstB] at F
  (conv at hsc => rhs; whnf); subst hsc
  (conv at hsts => rhs; whnf); subst hsts
  refine wpAny_execs_cons ?_
  refine for_start ?_ ?hs9; case hs9 => (intro _; rfl)
  repeat' ((fail_if_success (with_reducible refine is_pyIter ?_)); walk_at "m1")
  rename Fr _ _ _ _ => F9
  rename News _ _ _ _ => N9
  with_unfolding_all refine' vlist_cut (s := ⟨_, _, _, _, _⟩) (σ := Obj × Addr × List Value × Nat × List (Addr × Obj)) ?hh (fun x => [(Str.ofString "steps", Value.ref l), (Str.ofString "rows", Value.ref x.2.1)]) (fun x => (x.2.1, listOf x.2.2.1.toArray x.2.2.2.1) :: (L + 1, x.1) :: (l, listOf svs.toArray ks) :: post) (fun I i x => TxtsAre x.2.2.1 (rowsN adj i) ∧ (∃ v, x.1.data = .cell v) ∧ (@Ne Nat x.2.1 I) ∧ (@Ne Nat x.2.1 (L + 1)) ∧ (@Ne Nat x.2.1 l) ∧ (∀ p ∈ post, @Ne Nat p.1 x.2.1)) (oc, D, rvs, kr, []) F9 N9 ?hl0 ?hk ?hn ?hj ?hoff ?hl ?turn ?done ?hE
  case hh => rfl
  case hl0 => k_mem
  case hk => kst_all
  case hn => kst_in
  case hj => exact fun I lt => ⟨hr, ⟨_, hoc⟩, Nat.ne_of_lt (lt (D, _) (.head _)), hDL, Ne.symm hlD, hpD⟩
  case hoff =>
    rintro I i ⟨oc1, D1, vs1, k1, _⟩ lt ⟨_, _, n1, _, _, _⟩ p hp
    rcases List.mem_cons.mp hp with rfl | hp
    · exact n1
    rcases List.mem_cons.mp hp with rfl | hp
    · exact Nat.ne_of_lt (lt (L + 1, oc) (.tail _ (.head _)))
    · exact Nat.ne_of_lt (lt p (.tail _ (.tail _ hp)))
  case hl => intro I i x _; k_mem
  case hE => exact hE
  case done =>
    rintro I ⟨oc1, D1, vs1, k1, _⟩ u8 h8 tk8 lt ⟨hJ1, _, _, _, _, _⟩ F8 N8
    dsimp only at hJ1 F8 N8
    dsimp only [kstB] at F8
    rw [hs4] at hJ1
    have hlen := hJ1.length
    repeat' (walk_at "m1")
    have hb4 := (rows_ok hA 4).2
    refine Calls.call_len_list (s := ⟨_, _, _, _, _⟩) (items := vs1.toArray) ⟨_, (N8 _ (.head _)).1, rfl, k1, rfl⟩ (by rw [List.size_toArray, hlen]; omega) ?_
    rw [List.size_toArray, hlen]
    exact hret _ _ _ _ F8 (fun p hp => N8 p (.tail _ (.tail _ hp)))
  case turn =>
    rintro I i v ⟨oc1, D1, vs1, k1, _⟩ u8 h8 tk8 oI lI hv ⟨hJ1, ⟨cv1, hJ2⟩, n1, n2, n3, n4⟩ F8 N8
    dsimp only at hJ1 hJ2 n1 n2 n3 n4 F8 N8
    dsimp only [kstB] at F8
    obtain ⟨d, rfl, ⟨od, kvs, hdm, hdd, hdv⟩⟩ := hS i v hv
    have lIl : @LT.lt Nat _ l I := lI (l, _) (.tail _ (.tail _ (.head _)))
    have lIL : @LT.lt Nat _ (L + 1) I := lI (L + 1, _) (.tail _ (.head _))
    refine absT ?_; intro R8 hR8
    repeat' (walk_at "m1")
    refine Assign_ListComp_own (s := ⟨_, _, _, _, _⟩) (cy := none) (by k_asm) (by rfl) (by with_unfolding_all rfl) (by with_unfolding_all rfl) (fun _ _ _ => ⟨rfl, rfl⟩) (by rfl) (by decide) (fun _ => rfl) (by rfl) (by rfl) ?_
    repeat' ((fail_if_success (with_reducible refine is_pyIter ?_)); walk_at "m1")
    rename Fr _ _ _ _ => F7
    rename News _ _ _ _ => N7
    rename Obj => oc2
    rename oc2.data = _ => hoc2
    with_unfolding_all refine' open_list (s := ⟨_, _, _, _, _⟩) (σ := List Value) ?hh2 (compK_N _ _ _ _ _ _ _ _ _) F7 N7 ?hm2 (fun I2 ys => (I2 + 1, LCg.lst ys) :: (I, oI) :: (D1, listOf vs1.toArray k1) :: (L + 1, oc2) :: (l, listOf svs.toArray ks) :: post) (fun I2 i2 ys => TxtsAre ys (((rowsN adj i).take i2).flatMap (stepR (adj i)))) [] ?hn2 ?hj2 ?hoff2 ?hkeep2 ?turn2 ?fin2
    case hh2 => rfl
    case hm2 => k_mem
    case hn2 => exact fun _ _ _ hp => hp
    case hj2 => exact fun _ _ => .nil
    case hoff2 => exact fun _ _ _ lt _ => off_fix lt
    case hkeep2 => intro _ _ _ _; k_mem
    case fin2 =>
      intro I2 ys hp2 lI2 hJ
      rw [List.take_of_length_le (by rw [hJ1.length]; exact Nat.le_refl _)] at hJ
      intro h9 tk9 F9 N9
      refine wpAny_execs_nil ?_
      refine fp_end (by assumption) ?_
      dsimp only [ForPost]
      refine' cut_end (oc2, I2 + 1, ys, ys.length, []) F9 N9 ?ck ?cn ?cp
      case ck => kst_all
      case cn => kst_in
      case cp =>
        have lx : ∀ p ∈ post, @Ne Nat p.1 (I2 + 1) := fun p hp => Nat.ne_of_lt (Nat.lt_succ_of_lt (lI2 p (.tail _ (.tail _ (.tail _ (.tail _ hp))))))
        exact ⟨hJ, ⟨_, hoc2⟩, Nat.ne_of_gt (Nat.lt_succ_of_lt (lI2 (I, oI) (.head _))), Nat.ne_of_gt (Nat.lt_succ_of_lt (lI2 (L + 1, oc2) (.tail _ (.tail _ (.head _))))), Nat.ne_of_gt (Nat.lt_succ_of_lt (lI2 (l, _) (.tail _ (.tail _ (.tail _ (.head _)))))), lx⟩
    case turn2 =>
      intro I2 i2 ys h6 tk6 oI2 oC mC v E' lI2 hv2 hJ hC F6 N6
      obtain ⟨r, tr, hr2, rfl⟩ := hJ1.at hv2
      refine asg_own (s := ⟨_, _, _, _, _⟩) F6 N6 (upd_C lI2) hC rfl rfl ?_
      intro h5 oC5 tk5 mN F5 N5 hC5 hrow hoth
      refine tests_nil ?_
      rw [if_pos rfl]
      refine emit_inner (fun _ => rfl) ?_
      repeat' ((fail_if_success (with_reducible refine is_tail ?_)); walk_at "m1")
      obtain ⟨hrl, hrc⟩ := (rows_ok hA i).1.out r (List.mem_of_getElem? hr2)
      have hi4 : i < 4 := by rw [← hs4]; exact (List.getElem?_eq_some_iff.mp hv).1
      refine KXi.item (n := r.length) (wd_len r) (by omega) (by omega) (by omega) (fun _ => ?_) (by with_unfolding_all rfl) (by intro _; with_unfolding_all rfl)
      rw [item_last (by omega)]
      have hlast : r.getLastD 0 ∈ lowL := hrc _ (getLast_mem (by omega))
      obtain ⟨a, avs, ka, hva, ham, hat⟩ := hdv _ hlast
      obtain ⟨hal, hac⟩ := hA i _ hlast
      have hN5 : ∀ p ∈ post, p ∈ (I2, oI2) :: (I2 + 2, oC5) :: (I2 + 1, LCg.lst ys) :: (I, oI) :: (D1, listOf vs1.toArray k1) :: (L + 1, oc2) :: (l, listOf svs.toArray ks) :: post := fun p hp => .tail _ (.tail _ (.tail _ (.tail _ (.tail _ (.tail _ (.tail _ hp))))))
      refine kda_item (s := ⟨_, _, _, _, _⟩) (knd := PySem.strKind _ _) N5 (hN5 _ hdm) hdd (strKind_is _ _ _ _) hva ?_ (by with_unfolding_all rfl) (by intro _; with_unfolding_all rfl)
      with_unfolding_all refine' inner_list (s := ⟨_, _, _, _, _⟩) (σ := Obj × (Str → Option Value) × List Value) ?hh3 (compK_I _ _ _ _ _ _ _ _ _) F5 N5 (hN5 _ ham) (fun I3 x => (I2, oI2) :: (I2 + 2, x.1) :: (I2 + 1, LCg.lst x.2.2) :: (I, oI) :: (D1, listOf vs1.toArray k1) :: (L + 1, oc2) :: (l, listOf svs.toArray ks) :: post) (fun I3 j x => LCg.NsObj x.1 x.2.1 ∧ x.2.1 (Str.ofString "row") = some (.str (wd r) tr) ∧ TxtsAre x.2.2 (((rowsN adj i).take i2).flatMap (stepR (adj i)) ++ ((((adj i (r.getLastD 0)).take j).filter fun c => !r.contains c).map fun c => r ++ [c]))) (oC5, mN, ys) ?hn3 ?hj3 ?hoff3 ?hkeep3 ?turn3 ?done3
      case hh3 => rfl
      case hn3 => exact fun _ _ _ hp => hp
      case hj3 => exact fun _ _ => ⟨hC5, hrow, by simpa using hJ⟩
      case hoff3 =>
        rintro I3 j ⟨oC7, mC7, ys7⟩ lI3 _ p hp
        exact Nat.ne_of_lt (lt_swap lI3 p hp)
      case hkeep3 => exact fun _ _ _ _ => .tail _ (.tail _ (.tail _ (.tail _ (.tail _ (.tail _ (.tail _ ham))))))
      case done3 =>
        rintro I3 ⟨oC7, mC7, ys7⟩ h7 tk7 lI3 ⟨hC7, _, hJ7⟩ F3 N3
        refine ⟨ys7, oC7, mC7, h7, tk7, rfl, F3, N3, hC7, ?_⟩
        rw [show avs.length = (adj i (r.getLastD 0)).length by rw [hat.length, List.length_map], List.take_length] at hJ7
        rw [List.take_add_one, hr2, List.flatMap_append]
        simpa [stepR] using hJ7
      case turn3 =>
        rintro I3 j ⟨oC7, mC7, ys7⟩ h7 tk7 oI3 v3 E3 lI3 hv3 ⟨hC7, hrow7, hJ7⟩ F3 N3
        obtain ⟨_, tl, hl3, rfl⟩ := hat.at hv3
        rw [List.getElem?_map] at hl3
        obtain ⟨c, hc3, rfl⟩ := Option.map_eq_some_iff.mp hl3
        have hcl : c ∈ lowL := hac c (List.mem_of_getElem? hc3)
        refine asg_own (s := ⟨_, _, _, _, _⟩) F3 N3 (.tail (Nat.ne_of_gt (lI3 (I2 + 2, oC5) (.tail _ (.head _)))) (upd_C lI2)) hC7 rfl rfl ?_
        intro h3 oC3 tk3 mN3 F4 N4 hC3 hlet hoth3
        have hrow3 : mN3 (Str.ofString "row") = some (.str (wd r) tr) := (hoth3 _ (by decide)).trans hrow7
        refine tests_one ?_
        repeat' (walk_at "m1")
        · rename List.isEmpty _ = true => hb
          rw [occ_letter] at hb
          refine emit_append (s := ⟨_, _, _, _, _⟩) F4 ?_
          repeat' ((fail_if_success (with_reducible refine is_binop ?_)); walk_at "m1")
          refine SB.add (s := ⟨_, _, _, _, _⟩) (fun t' k => ?_) (by rw [wd_len, wd_len, sizeLine_eq]; simp only [List.length_cons, List.length_nil]; omega)
          rw [wd_app]
          refine ⟨ys7, _, _, _, _, rfl, F4, N4, .tail (Nat.ne_of_gt (lI3 (I2 + 1, LCg.lst ys) (.tail _ (.tail _ (.head _))))) (upd_D lI2), ?_, fun h' F' N' => ?_⟩
          · have := hJ7.length
            dsimp only at this
            rw [this]
            exact rows_bound hA hi4 hlast
          · refine ⟨(oC3, mN3, ys7 ++ [_]), _, _, rfl, F', N', hC3, hrow3, ?_⟩
            rw [List.take_add_one, hc3]
            have hb' : c ∉ r := by simpa using hb
            have := hJ7.append (.cons (r ++ [c]) t' .nil)
            simpa [List.filter_append, hb', List.append_assoc] using this
        · rename List.isEmpty _ = false => hb
          rw [occ_letter] at hb
          refine ⟨(oC3, mN3, ys7), _, _, rfl, F4, N4, hC3, hrow3, ?_⟩
          rw [List.take_add_one, hc3]
          have hb' : c ∈ r := by simpa using hb
          simpa [List.filter_append, hb'] using hJ7
end
end
theorem txts_ofCarried : ∀ {vs : List Value} {cs : List Nat}, CarriedAll vs (cs.map fun c => PyData.str ⟨#[c]⟩) → TxtsAre vs (cs.map fun c => [c])
  | [], [], _ => .nil
  | _ :: _, c :: cs, h => by
    cases h with
    | cons h1 h2 =>
      cases h1
      exact .cons [c] _ (txts_ofCarried h2)
theorem is_store {M : Model} {A : Around} {env : Env} {x : Str} {v : Value} {R : Unit → Shared → Prop} {E : Value → Shared → Prop} {s : Shared} (h : wpAny M A (storeName env x v) R E s) : wpAny M A (storeName env x v) R E s := h
section
variable {w : World} {mean : ExcName → Option Value} {mg mb : Str → Option Value} {news : List (Addr × Obj)} {dp un : Nat} {gd : Option (List Code)} {cn : Str} {cs : Scope} {a : Addr} {ccd : Value} {cl : List (Str × Addr)} {outer : List Env} {A₀ : Around} {base h₀ : Heap} {L : Addr} {m : Str → Option Value} {s : Shared} {Q E : Value → Shared → Prop}
theorem ord_call {l : Addr} {svs : List Value} {ks : Nat} {adj : Nat → Nat → List Nat} (B : Below A₀ base outer h₀) (F : Fr h₀ L s.heap m) (X : (heapK w.params).In h₀) (N : News h₀ L s.heap ((l, listOf svs.toArray ks) :: news)) (T : Top viewK (looseW viewK lse) mean mg mb h₀) (hk : cs.kind = .function)
    (hs4 : svs.length = 4) (hpl : ∀ p ∈ news, p.1 ≠ l) (hS : ∀ i v, svs[i]? = some v → ∃ d, v = .ref d ∧ AdjD PySem.Challenge.rw_ti0055_01.row.toRowW.prog w news d (adj i)) (hA : ∀ i c, c ∈ lowL → (adj i c).length ≤ 4 ∧ ∀ x ∈ adj i c, x ∈ lowL)
    (hd1 : dp + 3 < recursionLimit) (hu1 : un + 100 < cLine)
    (hret : ∀ (t : Tok) (h' : Heap) (tk' : Nat), Fr h₀ L h' m → News h₀ L h' ((l, listOf svs.toArray ks) :: news) → Q (.int ((rowsN adj 4).length : Int) t) { s with heap := h', toks := tk' }) :
    wpAny (model PySem.Challenge.rw_ti0055_01.row.toRowW.prog w) (ktrTop dp un gd cn cs L a ccd cl outer) (call (.ref 283) [.ref l]) Q E s := by
  revert X; k_fill; intro X
  refine wpAny_call ?_
  k_dflt (walk_at "enterC")
  rename_i g9 L9 h9 tk9 FG9 F9 B9 X9 T9 l9 oc hoc N9
  obtain ⟨ll9, la9⟩ := l9
  repeat' ((fail_if_success (with_reducible refine is_store ?_)); walk_at "m1")
  rename CarriedAll _ _ => hc
  rename NewPlain _ _ _ _ => P
  rename Fr _ L9 _ _ => F1
  rename News _ L9 _ _ => N1
  have hne := P.2
  have hnL := P.ne_locals F1
  obtain ⟨k, e⟩ := P.1
  rename Heap.get? g9 _ = none => hg0
  have N2 : News g9 L9 _ ((_, listOf (List.toArray _) k) :: (L9 + 1, oc) :: (l, listOf svs.toArray ks) :: news) := fun p hp => by
    rcases List.mem_cons.mp hp with rfl | hp
    · exact ⟨e, hnL, hg0⟩
    · exact N1 p hp
  clear N1
  repeat' ((fail_if_success (with_reducible refine is_fors ?_)); walk_at "m1")
  rename Fr _ L9 _ _ => F3
  rename News _ L9 _ _ => N3
  have lt9 : ∀ p ∈ news, @LT.lt Nat _ p.1 L9 := lt_of_all la9
  refine' ord_s1 (s := ⟨_, _, _, _, _⟩) (adj := adj) (outer := envX cn cs L a ccd cl :: outer) (post := news) rfl rfl B9 X9 T9 (fr_kst [(Str.ofString "steps", Value.ref l), (Str.ofString "rows", Value.ref _)] F3 ?ck) N3 hoc (txts_ofCarried hc) hs4 hpl ?hpL ?hpD ?hlL ?hlD ?hDL hS hA ?h1 ?h2 ?hE ?hr
  case ck => kst_all
  case h1 => omega
  case h2 => (show un + 3 + 64 < cLine; omega)
  case hE => passes_own
  case hpL => exact fun p hp => Nat.ne_of_lt (Nat.lt_succ_of_lt (lt9 p hp))
  case hpD => exact fun p hp => hne p (.tail _ (.tail _ hp))
  case hlL => exact Nat.ne_of_lt (Nat.lt_succ_of_lt ll9)
  case hlD => exact hne (l, _) (.tail _ (.head _))
  case hDL => exact Ne.symm (hne (L9 + 1, oc) (.head _))
  case hr =>
    intro t h1 tk1 m1 F1 N1
    repeat' (walk_at "m1")
    exact hret _ _ _ (by assumption) (by assumption)
end
section
local macro_rules | `(tactic| walk_at "z") => `(tactic| fail)
theorem plainAttrs_pat : PlainAttrs "re.Pattern" :=
  ⟨⟨"object.__getattribute__", by rw [typeLookup_type, builtinLookup_eq_fast]; kernel_rfl, by kernel_rfl⟩, by rw [typeLookup_type, builtinLookup_eq_fast]; kernel_rfl⟩
theorem type_search : typeOf (.builtin "re.Pattern.search") = pure (.type "method_descriptor") := by show builtinType _ = _; rw [builtinType_eq_fast]; kernel_rfl
section
variable {w : World} {A : Around} {E : Value → Shared → Prop} {s : Shared} {h₀ : Heap} {L : Addr} {m : Str → Option Value} {pl : Sem Bool} {Q : Value × List Value → Shared → Prop}
theorem meth_N (X : (heapK w.params).In h₀) (F : Fr h₀ L s.heap m) (h : Q (.builtin "re.Pattern.search", [.ref 111]) s) :
    wpAny (model PySem.Challenge.rw_ti0055_01.row.toRowW.prog w) A (getMethod (.ref 111) (Str.ofString "search") pl) Q E s :=
  have e := F.keep _ _ (X 111 _ rfl)
  getMethod_builtin ⟨_, e, rfl⟩ plainAttrs_pat slotSearch type_search (fun a q => by cases q; exact ⟨_, e, rfl⟩) h
theorem meth_V (X : (heapK w.params).In h₀) (F : Fr h₀ L s.heap m) (h : Q (.builtin "re.Pattern.search", [.ref 116]) s) :
    wpAny (model PySem.Challenge.rw_ti0055_01.row.toRowW.prog w) A (getMethod (.ref 116) (Str.ofString "search") pl) Q E s :=
  have e := F.keep _ _ (X 116 _ rfl)
  getMethod_builtin ⟨_, e, rfl⟩ plainAttrs_pat slotSearch type_search (fun a q => by cases q; exact ⟨_, e, rfl⟩) h
end
section
variable {w : World} {mean : ExcName → Option Value} {mg mb : Str → Option Value} {news : List (Addr × Obj)} {dp un : Nat} {gd : Option (List Code)} {cn : Str} {cs : Scope} {a : Addr} {ccd : Value} {cl : List (Str × Addr)} {outer : List Env} {A₀ : Around} {base h₀ : Heap} {L : Addr} {m : Str → Option Value} {s : Shared} {Q E : Value → Shared → Prop}
local macro_rules | `(tactic| walk_at "m1") => `(tactic| ((with_reducible show wpAny _ _ (getMethod (Value.ref 111) _ _) _ _ _); refine' meth_N (by assumption) (by assumption) ?_))
local macro_rules | `(tactic| walk_at "m1") => `(tactic| ((with_reducible show wpAny _ _ (getMethod (Value.ref 116) _ _) _ _ _); refine' meth_V (by assumption) (by assumption) ?_))
local macro_rules | `(tactic| walk_at "m1") => `(tactic| ((with_reducible show wpAny _ _ (call (Value.builtin "re.Pattern.search") _ _) _ _ _); first | (refine' search_N (by assumption) (by assumption) (by assumption) ?_) | (refine' search_V (by assumption) (by assumption) (by assumption) ?_)))
noncomputable abbrev hdrDict (w : World) (H : Addr) (t : Tok) (n : Nat) : Obj := dictOf [{ hash := PyData.keyHash w.params (Str.ofString "_headers"), key := .str (Str.ofString "_headers") t, val := .ref H }] n
theorem cv_call {T : Addr} {l : List Nat} {t : Tok} (B : Below A₀ base outer h₀) (F : Fr h₀ L s.heap m) (X : (heapK w.params).In h₀) (N : News h₀ L s.heap news) (Tp : Top viewK (looseW viewK lse) mean mg mb h₀) (hk : cs.kind = .function)
    (hd1 : dp + 3 < recursionLimit) (hu1 : un + 40 < cLine) (hl : l ∈ namL)
    (hret : ∀ (t' : Tok) (h' : Heap) (tk' : Nat), Fr h₀ L h' m → News h₀ L h' news → Q (.str (wd l) t') { s with heap := h', toks := tk' }) :
    wpAny (model PySem.Challenge.rw_ti0055_01.row.toRowW.prog w) (ktrTop dp un gd cn cs L a ccd cl outer) (call (.ref 146) [.ref T, .str (wd l) t] [(Str.ofString "name", .bool true)]) Q E s := by
  revert X; k_fill; intro X
  refine wpAny_call ?_
  k_dflt cell_enter
  repeat' (walk_at "m1")
  exact hret _ _ _ (by assumption) (by assumption)
theorem cvV_call {T : Addr} {l : Nat} {t : Tok} (B : Below A₀ base outer h₀) (F : Fr h₀ L s.heap m) (X : (heapK w.params).In h₀) (N : News h₀ L s.heap news) (Tp : Top viewK (looseW viewK lse) mean mg mb h₀) (hk : cs.kind = .function)
    (hd1 : dp + 3 < recursionLimit) (hu1 : un + 40 < cLine) (hl : l ∈ lowL)
    (hret : ∀ (t' : Tok) (h' : Heap) (tk' : Nat), Fr h₀ L h' m → News h₀ L h' news → Q (.str (wd [l]) t') { s with heap := h', toks := tk' }) :
    wpAny (model PySem.Challenge.rw_ti0055_01.row.toRowW.prog w) (ktrTop dp un gd cn cs L a ccd cl outer) (call (.ref 146) [.ref T, .str (wd [l]) t] [(Str.ofString "name", .bool false)]) Q E s := by
  revert X; k_fill; intro X
  refine wpAny_call ?_
  k_dflt cell_enter
  repeat' (walk_at "m1")
  exact hret _ _ _ (by assumption) (by assumption)
end
end
section
local macro_rules | `(tactic| walk_at "z") => `(tactic| fail)
local macro_rules | `(tactic| walk_at "z") => `(tactic| fail)
local macro_rules | `(tactic| walk_at "z") => `(tactic| fail)
local macro_rules | `(tactic| walk_at "z") => `(tactic| fail)
section
variable {w : World} {mean : ExcName → Option Value} {mg mb : Str → Option Value} {news : List (Addr × Obj)} {dp un : Nat} {gd : Option (List Code)} {cn : Str} {cs : Scope} {a : Addr} {ccd : Value} {cl : List (Str × Addr)} {outer : List Env} {A₀ : Around} {base h₀ : Heap} {L : Addr} {m : Str → Option Value} {s : Shared} {Q E : Value → Shared → Prop}
local macro_rules | `(tactic| walk_at "call ref") => `(tactic| ((with_reducible show wpAny _ _ (call (Value.ref 146) _ _) _ _ _); k_dflt (refine' cv_call (s := ⟨_, _, _, _, _⟩) (by k_asm) (by k_asm) (by k_asm) (by k_asm) (by k_asm) rfl (by first | omega | (show dp + 1 + 3 < recursionLimit; omega)) (by first | omega | (show un + 3 + 40 < cLine; omega)) (by assumption) ?_); intro t' h' tk' F' N'))
local macro_rules | `(tactic| walk_at "call ref") => `(tactic| ((with_reducible show wpAny _ _ (call (Value.ref 146) _ _) _ _ _); k_dflt (refine' cvV_call (s := ⟨_, _, _, _, _⟩) (by k_asm) (by k_asm) (by k_asm) (by k_asm) (by k_asm) rfl (by first | omega | (show dp + 1 + 3 < recursionLimit; omega)) (by first | omega | (show un + 3 + 40 < cLine; omega)) (by assumption) ?_); intro t' h' tk' F' N'))
local macro_rules | `(tactic| walk_at "enterM") => `(tactic| (refine' kp_more ?k1 ?k2 ?k3 ?k4 ?k5 ?kA ?kF ?kK ?k6 ?k7 ?k8 ?kX ?kM ?kN ?kD ?kR ?kP ?kT ?kB ?_ ?c2 ?c3 ?c4 ?c5; (case kA => exact rfl); (case kF => exact rfl); (case kK => assumption); (case k1 => k_asm); (case k2 => k_asm); (case k3 => k_asm); (case k4 => k_asm); (case k5 => k_asm); (case k6 => k_is); (case k7 => k_is); (case k8 => ktr_room); (case kX => kp_lit); (case kM => exact rfl); (case kN => exact rfl); (case kD => kp_flats); (case kR => exact rfl); (case kP => exact rfl); (case kT => exact fun _ => rfl); (case kB => exact fun _ => locs rfl); (case c5 => decide); (case c2 => exact rfl); (case c3 => exact rfl); (case c4 => exact rfl); k_whole; intro D' o' g' L' h' tk' l1 lo' hs' fs' FG' F' N' B' X' T'; (try k_lt l1); (try dsimp only); (try k_lift B'); (try k_fold)))
theorem append_keep {prog : Program} {w : World} {A : Around} {E : Value → Shared → Prop} {s : Shared} {h₀ : Heap} {L D : Addr} {m : Str → Option Value} {all keepL : List (Addr × Obj)} {Q : Value → Shared → Prop} {vs : List Value} {n : Nat} {x : Value} (F : Fr h₀ L s.heap m) (N : News h₀ L s.heap all) (hm : (D, listOf vs.toArray n) ∈ all) (hsz : vs.length ≤ 1000) (hk : ∀ p ∈ keepL, p ∈ all ∧ p.1 ≠ D)
    (h : ∀ h', Fr h₀ L h' m → News h₀ L h' ((D, listOf (vs ++ [x]).toArray (n + 1)) :: keepL) → Q .none { s with heap := h' }) : wpAny (model prog w) A (call (.builtin "list.append") [.ref D, x]) Q E s := by
  have N2 : News h₀ L s.heap ((D, listOf vs.toArray n) :: keepL) := fun p hp => by
    rcases List.mem_cons.mp hp with rfl | hp
    · exact N _ hm
    · exact N _ (hk p hp).1
  exact append_vs (news' := fun o' => (D, o') :: keepL) F N2 (fun o o' e => by subst e; exact Upd.head fun p hp => (hk p hp).2) hsz h
theorem add_call {T dx H : Addr} {its : List Value} {n nd : Nat} {td : Tok} {l : List Nat} {c : Nat} {t t2 : Tok} (B : Below A₀ base outer h₀) (F : Fr h₀ L s.heap m) (X : (heapK w.params).In h₀) (N : News h₀ L s.heap ((T, instObj 245 dx) :: (dx, hdrDict w H td nd) :: (H, listOf its.toArray n) :: news)) (Tp : Top viewK (looseW viewK lse) mean mg mb h₀) (hk : cs.kind = .function)
    (hd1 : dp + 5 < recursionLimit) (hu1 : un + 80 < cLine) (hl : l ∈ namL) (hc : c ∈ lowL) (hz : its.length ≤ 100) (hH : ∀ p ∈ news, p.1 ≠ H) (hTH : @Ne Nat T H) (hdH : @Ne Nat dx H)
    (hret : ∀ (R : Addr) (kr : Nat) (n' : Nat) (t1' t2' : Tok) (h' : Heap) (tk' : Nat), Fr h₀ L h' m → News h₀ L h' ((T, instObj 245 dx) :: (dx, hdrDict w H td nd) :: (H, listOf (its ++ [Value.ref R]).toArray n') :: (R, tupObj #[.str (wd l) t1', .str (wd [c]) t2'] kr) :: news) → (@LT.lt Nat _ H R) → AllLt R news → Q .none { s with heap := h', toks := tk' }) :
    wpAny (model PySem.Challenge.rw_ti0055_01.row.toRowW.prog w) (ktrTop dp un gd cn cs L a ccd cl outer) (call (.ref 242) [.ref T, .str (wd l) t, .str (wd [c]) t2]) Q E s := by
  revert X; k_fill; intro X
  refine wpAny_call ?_
  k_dflt (walk_at "enterM")
  repeat' (walk_at "m1")
  rename News _ _ _ _ => N9
  refine' join_listW (s := ⟨_, _, _, _, _⟩) (items := #[.str (wd [c]) _]) ⟨_, (N9 _ (.tail _ (.head _))).1, rfl, _, rfl⟩ (ys := [wd [c]]) (.cons _ _ .nil) (by decide) (by show 1 + 0 + 1 ≤ 1048576; decide) ?_
  intro t9 k9
  rw [show Txt.join (Str.ofString "; ") [wd [c]] = wd [c] from rfl]
  repeat' (walk_at "m1")
  rename Fr _ _ _ _ => F8
  rename News _ _ _ _ => N8
  rename_i tA hA tkA R9 h9 l9
  have lR : @LT.lt Nat _ H R9 ∧ AllLt R9 news := l9.2.2.2.2.2
  refine' append_keep (s := ⟨_, _, _, _, _⟩) (vs := its) (n := n) (keepL := (R9, tupObj #[.str (wd l) tA, .str (wd [c]) t9] 0) :: (T, instObj 245 dx) :: (dx, hdrDict w H td nd) :: news) F8 N8 ?hm (by omega) ?hk ?_
  case hm => k_mem
  case hk =>
    refine List.forall_mem_cons.mpr ⟨⟨.head _, Nat.ne_of_gt lR.1⟩, List.forall_mem_cons.mpr ⟨⟨by k_mem, hTH⟩, List.forall_mem_cons.mpr ⟨⟨by k_mem, hdH⟩, fun p hp => ⟨.tail _ (.tail _ (.tail _ (.tail _ (.tail _ (.tail _ (.tail _ hp)))))), hH p hp⟩⟩⟩⟩
  intro h7 F7 N7
  clear F8 N8
  repeat' (walk_at "m1")
  rename News h₀ L _ _ => N6
  refine' hret R9 _ (n + 1) _ _ _ _ (by assumption) (cb_drop N6 ?kin) ?hq1 ?hq2
  case kin => kst_in
  case hq1 => exact lR.1
  case hq2 => exact lR.2
end
end
section
theorem empty_cut {prog : Program} {w : World} {A : Around} {E : Value → Shared → Prop} {Q : Flow → Shared → Prop} {s : Shared} {env : Env} {g : Heap} {L : Addr} {target : Expr} {body : List Stmt} {m : Str → Option Value} {news : List (Addr × Obj)} {l : Addr} {k : Nat} (hh : A.handled = none) (F : Fr g L s.heap m) (N : News g L s.heap news) (hl0 : (l, listOf #[] k) ∈ news)
    (done : ∀ u h tk, Fr g L h u → News g L h news → Q .next { s with heap := h, toks := tk }) (hE : PassesOwn (model prog w) A env E) : wpAny (model prog w) A (pyIter (.ref l)) (ForK prog w A target body env Q E) E s := by
  refine vlist_cut (σ := Unit) (vs := []) (k := k) hh (fun _ => []) (fun _ => news) (fun _ _ _ => True) () F N hl0 (fun _ hp => nomatch hp) (fun _ hp => hp) (fun _ _ => trivial) (fun I i x lt _ p hp => Nat.ne_of_lt (lt p hp)) (fun _ _ _ _ => hl0) ?_ (fun I z u h tk _ _ F N => done u h tk F N) hE
  intro I i v z u h tk oI lI hv; simp at hv
section
variable {w : World} {mean : ExcName → Option Value} {mg mb : Str → Option Value} {news : List (Addr × Obj)} {dp un : Nat} {gd : Option (List Code)} {cn : Str} {cs : Scope} {a : Addr} {ccd : Value} {cl : List (Str × Addr)} {outer : List Env} {A₀ : Around} {base h₀ : Heap} {L : Addr} {m : Str → Option Value} {s : Shared} {Q E : Value → Shared → Prop}
local macro_rules | `(tactic| walk_at "enterB") => `(tactic| (refine' code_def ?k1 ?k2 ?k3 ?k4 ?k5 ?kA ?kF ?kK ?k6 ?k7 ?k8 ?k9 ?kB ?_ ?c2 ?c3 ?c4 ?c5; (case kA => exact rfl); (case kF => exact rfl); (case kK => assumption); (case k1 => k_asm); (case k2 => k_asm); (case k3 => k_asm); (case k4 => k_asm); (case k5 => k_asm); (case k6 => k_is); (case k7 => k_is); (case k8 => ktr_room); (case k9 => first | exact BindsTo.of_eq rfl | exact binds_K (by k_in) rfl (by k_is) rfl rfl rfl | fail "k_enter: no rule for these arguments"); (case c5 => decide); (case kB => exact locs rfl); (case c2 => exact rfl); (case c3 => exact rfl); (case c4 => exact rfl); k_whole; intro g' L' h' FG' F' N' B' X' T'; (try dsimp only); (try k_lift B'); (try k_fold)))
local macro_rules | `(tactic| k_all) => `(tactic| assumption)
theorem hdr_call (B : Below A₀ base outer h₀) (F : Fr h₀ L s.heap m) (X : (heapK w.params).In h₀) (N : News h₀ L s.heap news) (Tp : Top viewK (looseW viewK lse) mean mg mb h₀) (hk : cs.kind = .function)
    (hd1 : dp + 5 < recursionLimit) (hu1 : un + 80 < cLine)
    (hret : ∀ (T dx H : Addr) (td : Tok) (nd k : Nat) (h' : Heap) (tk' : Nat), Fr h₀ L h' m → News h₀ L h' ((T, instObj 245 dx) :: (dx, hdrDict w H td nd) :: (H, listOf #[] k) :: news) → (@Ne Nat T H) → (@Ne Nat dx H) → (∀ p ∈ news, p.1 < T ∧ p.1 < dx ∧ p.1 < H) → Q (.ref T) { s with heap := h', toks := tk' }) :
    wpAny (model PySem.Challenge.rw_ti0055_01.row.toRowW.prog w) (ktrTop dp un gd cn cs L a ccd cl outer) (call (.ref 245) []) Q E s := by
  revert X; k_fill; intro X
  k_dflt (refine' call_cls ?k1 ?k2 ?k3 ?k4 ?k5 ?k6 ?_; (case k1 => k_asm); (case k2 => k_asm); (case k3 => k_asm); (case k4 => k_is); (case k5 => k_is); (case k6 => k_is); k_whole; intro x' d' h' F' N' l1 l2)
  have hd9 : ∀ p ∈ news, p.1 ≠ d' := fun p hp => Nat.ne_of_lt (l1 p hp)
  have l2' : @LT.lt Nat _ d' x' := l2
  have l3' : AllLt d' news := allLt_of l1
  k_dflt (walk_at "enterB")
  repeat' (walk_at "m1")
  refine for_start ?_ ?hs9; case hs9 => (intro _; rfl)
  repeat' ((fail_if_success (with_reducible refine is_pyIter ?_)); walk_at "m1")
  rename Fr _ _ _ _ => F9
  rename News _ _ _ _ => N9
  with_unfolding_all refine' empty_cut (s := ⟨_, _, _, _, _⟩) (k := 0) ?hh F9 N9 (.head _) ?done ?hE
  case hh => rfl
  case hE => passes_own
  case done =>
    intro u h8 tk8 F8 N8
    clear F9 N9
    repeat' (walk_at "m1")
    rename News h₀ L _ _ => N6
    rename @LT.lt Nat _ x' _ ∧ _ => l7
    obtain ⟨la, lb, lc⟩ := l7
    refine' hret x' d' _ _ 1 0 _ _ (by assumption) (cb_drop N6 ?kin) (Nat.ne_of_lt la) (Nat.ne_of_lt lb) fun p hp => ⟨Nat.lt_trans (l1 p hp) l2, l1 p hp, lt_of_all lc p hp⟩
    case kin => kst_in
end
end
section
local macro_rules | `(tactic| walk_at "z") => `(tactic| fail)
local macro_rules | `(tactic| walk_at "z") => `(tactic| fail)
structure PairsAt (news : List (Addr × Obj)) (vs : List Value) (ws : List (Nat × Nat)) : Prop where
  len : vs.length = ws.length
  at' : ∀ (i : Nat) (v : Value), vs[i]? = some v → ∃ T a b t t' k, v = Value.ref T ∧ ws[i]? = some (a, b) ∧ (T, tupObj #[.str (wd [a]) t, .str (wd [b]) t'] k) ∈ news
structure HdrsAt (news : List (Addr × Obj)) (vs : List Value) (hs : List (List Nat × Nat)) : Prop where
  len : vs.length = hs.length
  at' : ∀ (i : Nat) (v : Value), vs[i]? = some v → ∃ T l c t t' k, v = Value.ref T ∧ hs[i]? = some (l, c) ∧ (T, tupObj #[.str (wd l) t, .str (wd [c]) t'] k) ∈ news
noncomputable def hsOf (ws : List (Nat × Nat)) : List (List Nat × Nat) := ws.flatMap fun p => [([p.1 - 32], p.2), ([120, p.2], p.1)]
theorem HdrsAt.snoc {news news' : List (Addr × Obj)} {vs : List Value} {hs : List (List Nat × Nat)} {T : Addr} {l : List Nat} {c : Nat} {t t' : Tok} {k : Nat} (h : HdrsAt news vs hs) (hsub : ∀ p ∈ news, p ∈ news') (hT : (T, tupObj #[.str (wd l) t, .str (wd [c]) t'] k) ∈ news') : HdrsAt news' (vs ++ [.ref T]) (hs ++ [(l, c)]) := by
  refine ⟨by rw [List.length_append, List.length_append, h.len]; rfl, fun i v e => ?_⟩
  by_cases hi : i < vs.length
  · rw [List.getElem?_append_left hi] at e
    obtain ⟨T', l', c', t1, t2, k', e1, e2, e3⟩ := h.at' i v e
    exact ⟨T', l', c', t1, t2, k', e1, by rw [List.getElem?_append_left (by rw [← h.len]; exact hi)]; exact e2, hsub _ e3⟩
  · rw [List.getElem?_append_right (by omega)] at e
    have hi0 : i - vs.length = 0 := by
      have := (List.getElem?_eq_some_iff.mp e).1
      simp at this; omega
    rw [hi0] at e
    simp at e; subst e
    refine ⟨T, l, c, t, t', k, rfl, ?_, hT⟩
    rw [List.getElem?_append_right (by rw [← h.len]; omega), ← h.len, hi0]
    rfl
theorem hsOf_len : ∀ ws : List (Nat × Nat), (hsOf ws).length = 2 * ws.length
  | [] => rfl
  | p :: ws => by
    show ([([p.1 - 32], p.2), ([120, p.2], p.1)] ++ hsOf ws).length = _
    rw [List.length_append, hsOf_len ws, List.length_cons]
    simp only [List.length_cons, List.length_nil]
    omega
theorem hsOf_take {ws : List (Nat × Nat)} {i a b : Nat} (h : ws[i]? = some (a, b)) : hsOf (ws.take (i + 1)) = hsOf (ws.take i) ++ [([a - 32], b)] ++ [([120, b], a)] := by
  unfold hsOf
  rw [List.take_add_one, h, List.flatMap_append]
  simp
theorem nam_up : ∀ a ∈ lowL, [a - 32] ∈ namL := by decide
theorem nam_x : ∀ a ∈ lowL, [120, a] ∈ namL := by decide
theorem swap4 {h₀ h : Heap} {L : Addr} {a b c d : Addr × Obj} {r : List (Addr × Obj)} (N : News h₀ L h (d :: a :: b :: c :: r)) : News h₀ L h (a :: b :: c :: d :: r) := fun p hp => by
  rcases List.mem_cons.mp hp with rfl | hp
  · exact N _ (.tail _ (.head _))
  rcases List.mem_cons.mp hp with rfl | hp
  · exact N _ (.tail _ (.tail _ (.head _)))
  rcases List.mem_cons.mp hp with rfl | hp
  · exact N _ (.tail _ (.tail _ (.tail _ (.head _))))
  rcases List.mem_cons.mp hp with rfl | hp
  · exact N _ (.head _)
  · exact N _ (.tail _ (.tail _ (.tail _ (.tail _ hp))))
theorem upper_one : ∀ c ∈ lowL, Txt.upper (wd [c]) = wd [c - 32] := by decide +kernel
theorem asgF_pair {prog : Program} {w : World} {A : Around} {E : Value → Shared → Prop} {s : Shared} {g : Heap} {L : Addr} {m : Str → Option Value} {env : Env} {news : List (Addr × Obj)} {a b : Str} {pa pb tp : Pos} {kk : Nat} {T : Addr} {v₁ v₂ : Value} {Q : Unit → Shared → Prop} (hh : A.handled = none) (hLe : env.locals = L) (hp : (env.scope.kind == .class || (env.scope.kind == .module && env.locals != env.globals)) = false)
    (ha : env.kindOf a = some .local) (hb : env.kindOf b = some .local) (F : Fr g L s.heap m) (N : News g L s.heap news) (hT : s.heap.IsTuple T #[v₁, v₂])
    (h : ∀ h' tk', Fr g L h' (fun z => if z = b then some v₂ else if z = a then some v₁ else m z) → News g L h' news → Q () { s with heap := h', toks := tk' }) :
    wpAny (model prog w) A (assign (.Tuple [.Name a pa, .Name b pb] kk tp) env (.ref T)) Q E s := by
  subst hLe
  refine assign_Tuple_tuple hh hT rfl rfl fun h₅ he => ?_
  have he' : ∀ b o, s.heap.get? b = some o → h₅.get? b = some o := fun b o e => he b o (Nat.ne_of_lt (Heap.lt_size e)) e
  have F₅ : Fr g env.locals h₅ m := F.keeps he'
  have N₅ : News g env.locals h₅ news := N.grown he'
  have hL₀ : g.get? env.locals = none := Heap.get?_none_of_le F.above
  refine assignInOrder_cons (wpAny_assign_Name (wpAny_storeName_local ha F₅.ns (fun h₆ hn₆ hs₆ => ?_) hp))
  refine assignInOrder_cons (wpAny_assign_Name (wpAny_storeName_local hb hn₆ (fun h₃ hn₃ hs₃ => ?_) hp))
  refine assignInOrder_nil ?_
  refine h h₃ _ ⟨hn₃, fun b o e => ?_, F.above⟩ fun p hp => ?_
  · have hne : b ≠ env.locals := fun q => by rw [q, hL₀] at e; cases e
    exact hs₃.extBut b o hne (hs₆.extBut b o hne (F₅.keep b o e))
  · have z := N₅ p hp
    exact ⟨hs₃.extBut _ _ z.2.1 (hs₆.extBut _ _ z.2.1 z.1), z.2⟩
theorem is_call {M : Model} {A : Around} {f : Addr} {xs : List Value} {kws : List (Str × Value)} {R : Value → Shared → Prop} {E : Value → Shared → Prop} {s : Shared} (h : wpAny M A (call (.ref f) xs kws) R E s) : wpAny M A (call (.ref f) xs kws) R E s := h
section
local macro_rules | `(tactic| walk_at "call ref") => `(tactic| ((with_reducible show wpAny _ _ (call (Value.ref 245) _ _) _ _ _); k_dflt (refine' hdr_call (s := ⟨_, _, _, _, _⟩) (by k_asm) (by k_asm) (by k_asm) (by k_asm) (by k_asm) rfl (by walk_at "lim") (by walk_at "lim") ?_); intro T' dx' H' td' nd' k' h' tk' F' N' n1' n2' n3'))
theorem tab_s1 {w : World} {mean : ExcName → Option Value} {mg mb : Str → Option Value} {g : Heap} {L : Addr} {u : Str → Option Value} {base : Heap} {A₀ : Around} {s : Shared} {Q : Flow → Shared → Prop} {E : Value → Shared → Prop}
    {dp un : Nat} {gd : Option (List Code)} {outer : List Env} {sc : Scope} {sts : List Stmt} (hsc : sc = fnScope 29) (hsts : sts = fnBody 29) {post : List (Addr × Obj)} {l : Addr} {wvs : List Value} {ws : List (Nat × Nat)} {kw : Nat}
    (B : Below A₀ base outer g) (X : (heapK w.params).In g) (T : Top viewK (looseW viewK lse) mean mg mb g)
    (F : Fr g L s.heap (kstB u [(Str.ofString "wins", Value.ref l)])) (N : News g L s.heap ((l, listOf wvs.toArray kw) :: post))
    (hp : PairsAt post wvs ws) (hw : ∀ p ∈ ws, p.1 ∈ lowL ∧ p.2 ∈ lowL) (hl10 : ws.length ≤ 10)
    (hd1 : dp + 6 < recursionLimit) (hu1 : un + 100 < cLine)
    (hE : PassesOwn (model PySem.Challenge.rw_ti0055_01.row.toRowW.prog w) (ktrTop dp un gd (Str.ofString "_law_table") sc L 278 (.ref 277) [] outer) (envOf (Str.ofString "_law_table") sc L 278 (.ref 277)) E)
    (hret : ∀ T dx H td nd kh its tups h' tk' m', Fr g L h' m' → News g L h' ((T, instObj 245 dx) :: (dx, hdrDict w H td nd) :: (H, listOf its.toArray kh) :: (tups ++ (l, listOf wvs.toArray kw) :: post)) → HdrsAt tups its (hsOf ws) → (∀ q ∈ (l, listOf wvs.toArray kw) :: post, q.1 < T ∧ q.1 < dx ∧ q.1 < H ∧ ∀ p ∈ tups, q.1 < p.1) → Q (.ret (.ref T)) { s with heap := h', toks := tk' }) :
    wpAny (model PySem.Challenge.rw_ti0055_01.row.toRowW.prog w) (ktrTop dp un gd (Str.ofString "_law_table") sc L 278 (.ref 277) [] outer) (execs sts (envOf (Str.ofString "_law_table") sc L 278 (.ref 277))) Q E s := by
  revert X; k_fill; intro X
  dsimp only [kstB] at F
  (conv at hsc => rhs; whnf); subst hsc
  (conv at hsts => rhs; whnf); subst hsts
  repeat' ((fail_if_success (with_reducible refine is_fors ?_)); walk_at "m1")
  dsimp only
  rename_i T dx H td nd kh h0 tk0 nTH ndH nlt h2 F2 N2

  have hpH : ∀ p ∈ (l, listOf wvs.toArray kw) :: post, p.1 ≠ H := fun p hp => Nat.ne_of_lt (nlt p hp).2.2
  have hlen := hp.len
  refine cutN (σ := List Value × Nat × List (Addr × Obj)) 1 F2 (fun x => [(Str.ofString "table", Value.ref T)]) (fun x => (T, instObj 245 dx) :: (dx, hdrDict w H td nd) :: (H, listOf x.1.toArray x.2.1) :: (x.2.2 ++ (l, listOf wvs.toArray kw) :: post)) (fun x => HdrsAt x.2.2 x.1 (hsOf ws) ∧ ∀ q ∈ (l, listOf wvs.toArray kw) :: post, ∀ p ∈ x.2.2, q.1 < p.1) ?_ ?_
  · dsimp only [List.take]
    refine absQ ?_; intro R9 hR9
    refine wpAny_execs_cons ?_
    refine for_start ?_ ?hs9; case hs9 => (intro _; rfl)
    repeat' ((fail_if_success (with_reducible refine is_pyIter ?_)); walk_at "m1")
    with_unfolding_all refine' vlist_cut (s := ⟨_, _, _, _, _⟩) (σ := List Value × Nat × List (Addr × Obj)) ?hh (fun x => [(Str.ofString "table", Value.ref T)]) (fun x => (T, instObj 245 dx) :: (dx, hdrDict w H td nd) :: (H, listOf x.1.toArray x.2.1) :: (x.2.2 ++ (l, listOf wvs.toArray kw) :: post)) (fun I i x => HdrsAt x.2.2 x.1 (hsOf (ws.take i)) ∧ (∀ p ∈ x.2.2, @LT.lt Nat _ I p.1)) ([], kh, []) F2 N2 ?hl0 ?hk ?hn ?hj ?hoff ?hl ?turn ?done ?hE
    case hh => rfl
    case hl0 => k_mem
    case hk => kst_all
    case hn => exact fun _ hp => hp
    case hj => exact fun I lt => ⟨⟨rfl, fun i v e => by simp at e⟩, fun p hp => nomatch hp⟩
    case hoff =>
      rintro I i ⟨its, k1, tups⟩ lt ⟨_, n1⟩ p hp
      rcases List.mem_cons.mp hp with rfl | hp
      · exact Nat.ne_of_lt (lt (T, instObj 245 dx) (.head _))
      rcases List.mem_cons.mp hp with rfl | hp
      · exact Nat.ne_of_lt (lt (dx, hdrDict w H td nd) (.tail _ (.head _)))
      rcases List.mem_cons.mp hp with rfl | hp
      · exact Nat.ne_of_lt (lt (H, listOf #[] kh) (.tail _ (.tail _ (.head _))))
      rcases List.mem_append.mp hp with hp | hp
      · exact Nat.ne_of_gt (n1 p hp)
      · exact Nat.ne_of_lt (lt p (.tail _ (.tail _ (.tail _ hp))))
    case hl => exact fun I i x _ => .tail _ (.tail _ (.tail _ (List.mem_append_right _ (.head _))))
    case hE => exact hE
    case done =>
      rintro I ⟨its, k1, tups⟩ u8 h8 tk8 lI ⟨hJ, hup8⟩ F8 N8
      refine wpAny_execs_nil ?_
      (try (with_reducible refine fp_end (by assumption) ?_))
      dsimp only
      refine ⟨(its, k1, tups), u8, h8, tk8, rfl, F8, N8, ?_⟩
      rw [hlen, List.take_length] at hJ
      exact ⟨hJ, fun q hq p hp => Nat.lt_trans (lI q (.tail _ (.tail _ (.tail _ hq)))) (hup8 p hp)⟩
    case turn =>
      rintro I i v ⟨its, k1, tups⟩ u8 h8 tk8 oI lI hv ⟨hJ, hup⟩ F8 N8
      dsimp only at hJ hup F8 N8
      dsimp only [kstB] at F8
      (try (refine absT ?_; intro R8 hR8))
      obtain ⟨Tp, a, b, ta, tb, kp, rfl, hws, hTp⟩ := hp.at' i v hv
      obtain ⟨ha, hb⟩ := hw (a, b) (List.mem_of_getElem? hws)
      have hTp8 : h8.IsTuple Tp #[.str (wd [a]) ta, .str (wd [b]) tb] := ⟨_, (N8 _ (.tail _ (.tail _ (.tail _ (.tail _ (List.mem_append_right _ (.tail _ hTp))))))).1, rfl, kp, rfl⟩
      refine asgF_pair (s := ⟨_, _, _, _, _⟩) (by rfl) (by rfl) (by rfl) (by rfl) (by rfl) F8 N8 hTp8 ?_
      intro h7 tk7 F7 N7
      clear F8 N8
      have la1 : (wd [a]).length = 1 := rfl
      have lb1 : (wd [b]).length = 1 := rfl
      repeat' ((fail_if_success (with_reducible refine is_call ?_)); walk_at "m1")
      have lI0 : @LT.lt Nat _ H I := lI (H, listOf #[] kh) (.tail _ (.tail _ (.head _)))
      have hil : its.length ≤ 20 := by rw [hJ.len, hsOf_len]; have : (ws.take i).length ≤ ws.length := List.length_take_le' ..; omega
      have hH1 : ∀ p ∈ (I, oI) :: (tups ++ (l, listOf wvs.toArray kw) :: post), p.1 ≠ H := by
        intro p hp
        rcases List.mem_cons.mp hp with rfl | hp
        · exact Nat.ne_of_gt lI0
        rcases List.mem_append.mp hp with hp | hp
        · exact Nat.ne_of_gt (Nat.lt_trans lI0 (hup p hp))
        · exact hpH p hp
      rw [upper_one a ha]
      refine' add_call (s := ⟨_, _, _, _, _⟩) (T := T) (dx := dx) (H := H) (its := its) (n := k1) (nd := nd) (td := td) (news := (I, oI) :: (tups ++ (l, listOf wvs.toArray kw) :: post)) (by assumption) F7 (by assumption) (swap4 N7) (by assumption) (by rfl) (by omega) (by omega) (nam_up a ha) hb (by omega) hH1 nTH ndH ?_
      intro R1 kr1 n1 t1 t1' h6 tk6 F6 N6 lR1 lA1
      clear F7 N7
      repeat' ((fail_if_success (with_reducible refine is_call ?_)); walk_at "m1")
      rw [show Str.ofString "x" ++ wd [b] = wd [120, b] from wd_app [120] [b]]
      refine' add_call (s := ⟨_, _, _, _, _⟩) (T := T) (dx := dx) (H := H) (its := its ++ [Value.ref R1]) (n := n1) (nd := nd) (td := td) (news := (R1, tupObj #[.str (wd [a - 32]) t1, .str (wd [b]) t1'] kr1) :: (I, oI) :: (tups ++ (l, listOf wvs.toArray kw) :: post)) (by assumption) F6 (by assumption) N6 (by assumption) (by rfl) (by omega) (by omega) (nam_x b hb) ha ?hz2 ?hH2 nTH ndH ?_
      case hz2 => rw [List.length_append]; simp only [List.length_cons, List.length_nil]; omega
      case hH2 =>
        intro p hp
        rcases List.mem_cons.mp hp with rfl | hp
        · exact Nat.ne_of_gt lR1
        · exact hH1 p hp
      intro R2 kr2 n2 t2 t2' h5 tk5 F5 N5 lR2 lA2
      clear F6 N6
      repeat' (walk_at "m1")
      dsimp only [ForPost]
      refine' cut_end (its ++ [Value.ref R1] ++ [Value.ref R2], n2, (R2, tupObj #[.str (wd [120, b]) t2, .str (wd [a]) t2'] kr2) :: (R1, tupObj #[.str (wd [a - 32]) t1, .str (wd [b]) t1'] kr1) :: tups) F5 N5 ?ck ?cn ?cp
      case ck => kst_all
      case cn =>
        intro p hp
        rcases List.mem_cons.mp hp with rfl | hp
        · exact .tail _ (.tail _ (.tail _ (.tail _ (.tail _ (.head _)))))
        rcases List.mem_cons.mp hp with rfl | hp
        · exact .head _
        rcases List.mem_cons.mp hp with rfl | hp
        · exact .tail _ (.head _)
        rcases List.mem_cons.mp hp with rfl | hp
        · exact .tail _ (.tail _ (.head _))
        rcases List.mem_cons.mp hp with rfl | hp
        · exact .tail _ (.tail _ (.tail _ (.head _)))
        rcases List.mem_cons.mp hp with rfl | hp
        · exact .tail _ (.tail _ (.tail _ (.tail _ (.head _))))
        · exact .tail _ (.tail _ (.tail _ (.tail _ (.tail _ (.tail _ hp)))))
      case cp =>
        refine ⟨?_, fun p hp => ?_⟩
        · rw [hsOf_take hws]
          exact (hJ.snoc (fun p hp => .tail _ hp) (.head _)).snoc (fun p hp => .tail _ hp) (.head _)
        · rcases List.mem_cons.mp hp with rfl | hp
          · exact lA2.2.1
          rcases List.mem_cons.mp hp with rfl | hp
          · exact lA1.1
          · exact hup p hp
  rintro ⟨its, k1, tups⟩ u6 h6 tk6 F6 N6 ⟨hJ6, hlt6⟩
  dsimp only [kstB] at F6
  dsimp only [List.drop]
  repeat' (walk_at "m1")
  exact hret T dx H td nd k1 its tups _ _ _ F6 N6 hJ6 fun q hq => ⟨(nlt q hq).1, (nlt q hq).2.1, (nlt q hq).2.2, hlt6 q hq⟩
end
end
section
variable {w : World} {mean : ExcName → Option Value} {mg mb : Str → Option Value} {news : List (Addr × Obj)} {dp un : Nat} {gd : Option (List Code)} {cn : Str} {cs : Scope} {a : Addr} {ccd : Value} {cl : List (Str × Addr)} {outer : List Env} {A₀ : Around} {base h₀ : Heap} {L : Addr} {m : Str → Option Value} {s : Shared} {Q E : Value → Shared → Prop}
theorem tab_call {l : Addr} {wvs : List Value} {ws : List (Nat × Nat)} {kw : Nat} (B : Below A₀ base outer h₀) (F : Fr h₀ L s.heap m) (X : (heapK w.params).In h₀) (N : News h₀ L s.heap ((l, listOf wvs.toArray kw) :: news)) (T : Top viewK (looseW viewK lse) mean mg mb h₀) (hk : cs.kind = .function)
    (hp : PairsAt news wvs ws) (hw : ∀ p ∈ ws, p.1 ∈ lowL ∧ p.2 ∈ lowL) (hl10 : ws.length ≤ 10)
    (hd1 : dp + 7 < recursionLimit) (hu1 : un + 120 < cLine)
    (hret : ∀ T dx H td nd kh its tups h' tk', Fr h₀ L h' m → News h₀ L h' ((T, instObj 245 dx) :: (dx, hdrDict w H td nd) :: (H, listOf its.toArray kh) :: (tups ++ (l, listOf wvs.toArray kw) :: news)) → HdrsAt tups its (hsOf ws) → (∀ q ∈ (l, listOf wvs.toArray kw) :: news, q.1 < T ∧ q.1 < dx ∧ q.1 < H ∧ ∀ p ∈ tups, q.1 < p.1) → Q (.ref T) { s with heap := h', toks := tk' }) :
    wpAny (model PySem.Challenge.rw_ti0055_01.row.toRowW.prog w) (ktrTop dp un gd cn cs L a ccd cl outer) (call (.ref 278) [.ref l]) Q E s := by
  revert X; k_fill; intro X
  refine wpAny_call ?_
  k_dflt cell_enter
  refine' tab_s1 (s := ⟨_, _, _, _, _⟩) (outer := envX cn cs L a ccd cl :: outer) (post := news) rfl rfl (by assumption) (by assumption) (by assumption) (fr_kst [(Str.ofString "wins", Value.ref l)] (by assumption) ?ck) (by assumption) hp hw hl10 ?h1 ?h2 ?hE ?hr
  case ck => kst_all
  case h1 => omega
  case h2 => (show un + 3 + 100 < cLine; omega)
  case hE => passes_own
  case hr =>
    intro T' dx H td nd kh its tups h1 tk1 m1 F1 N1 hh hlt
    repeat' (walk_at "m1")
    exact hret T' dx H td nd kh its tups _ _ (by assumption) (by assumption) hh hlt
end
section
noncomputable def lowN (l : List Nat) : List Nat := l.map fun c => if 65 ≤ c ∧ c ≤ 90 then c + 32 else c
theorem nam_len : ∀ l ∈ namL, (wd l).length ≤ 2 := by decide +kernel
theorem wd_beq (a b : List Nat) : (wd a == wd b) = (a == b) := by
  have h : (wd a = wd b) ↔ (a = b) := by
    constructor
    · intro h
      have : (wd a).cps.toList = (wd b).cps.toList := by rw [h]
      simpa [wd] using this
    · rintro rfl; rfl
  by_cases e : a = b
  · subst e; simp
  · rw [beq_eq_false_iff_ne.mpr e, beq_eq_false_iff_ne.mpr (fun q => e (h.mp q))]
theorem lower_N : ∀ l ∈ namL, Txt.lower (wd l) = wd (lowN l) := by decide +kernel
theorem is_ex {α : Sort _} {p : α → Prop} (h : ∃ x, p x) : ∃ x, p x := h
section
variable {w : World} {mean : ExcName → Option Value} {mg mb : Str → Option Value} {news : List (Addr × Obj)} {dp un : Nat} {gd : Option (List Code)} {cn : Str} {cs : Scope} {a : Addr} {ccd : Value} {cl : List (Str × Addr)} {outer : List Env} {A₀ : Around} {base h₀ : Heap} {L : Addr} {m : Str → Option Value} {s : Shared} {Q E : Value → Shared → Prop}
local macro_rules | `(tactic| walk_at "call ref") => `(tactic| ((with_reducible show wpAny _ _ (call (Value.ref 146) _ _) _ _ _); k_dflt (refine' cv_call (s := ⟨_, _, _, _, _⟩) (by k_asm) (by k_asm) (by k_asm) (by k_asm) (by k_asm) rfl (by first | omega | (show dp + 1 + 3 < recursionLimit; omega)) (by first | omega | (show un + 3 + 40 < cLine; omega)) (by assumption) ?_); intro t' h' tk' F' N'))
local macro_rules | `(tactic| k_all) => `(tactic| assumption)
theorem gal_call {T dx H : Addr} {its : List Value} {kh nd : Nat} {td : Tok} {hs : List (List Nat × Nat)} {l l' : List Nat} {t : Tok} (B : Below A₀ base outer h₀) (F : Fr h₀ L s.heap m) (X : (heapK w.params).In h₀) (N : News h₀ L s.heap ((T, instObj 245 dx) :: (dx, hdrDict w H td nd) :: (H, listOf its.toArray kh) :: news)) (Tp : Top viewK (looseW viewK lse) mean mg mb h₀) (hk : cs.kind = .function)
    (hh : HdrsAt news its hs) (hhn : ∀ p ∈ hs, p.1 ∈ namL) (hhl : hs.length ≤ 20) (hl : l' ∈ namL) (hlow : Txt.lower (wd l) = wd l') (hll : l.length ≤ 2)
    (hd1 : dp + 5 < recursionLimit) (hu1 : un + 80 < cLine)
    (hret : ∀ D vs k h' tk', Fr h₀ L h' m → News h₀ L h' ((D, listOf (List.toArray vs) k) :: (T, instObj 245 dx) :: (dx, hdrDict w H td nd) :: (H, listOf its.toArray kh) :: news) → TxtsAre vs ((hs.filter fun p => lowN p.1 == l').map fun p => [p.2]) → (∀ p ∈ (T, instObj 245 dx) :: (dx, hdrDict w H td nd) :: (H, listOf its.toArray kh) :: news, p.1 < D) → Q (.ref D) { s with heap := h', toks := tk' }) :
    wpAny (model PySem.Challenge.rw_ti0055_01.row.toRowW.prog w) (ktrTop dp un gd cn cs L a ccd cl outer) (call (.ref 184) [.ref T, .str (wd l) t]) Q E s := by
  revert X; k_fill; intro X
  have hl1 : (wd l).length ≤ 2 := by rw [wd_len]; exact hll
  refine wpAny_call ?_
  k_dflt (walk_at "enterC")
  rename_i g9 L9 h9 tk9 FG9 F9 B9 X9 T9 l9 oc hoc N9
  obtain ⟨lt1, lt2, lt3, la9⟩ := l9
  have ln9 : ∀ p ∈ news, p.1 ≠ L9 + 1 := fun p hp => Nat.ne_of_lt (Nat.lt_succ_of_lt (lt_of_all la9 p hp))
  repeat' (walk_at "m1")
  rw [hlow]
  repeat' ((fail_if_success (with_reducible refine is_comp ?_)); walk_at "m1")
  refine ListComp_own (s := ⟨_, _, _, _, _⟩) (cy := none) (by k_asm) (by with_unfolding_all rfl) (fun _ _ _ => ⟨rfl, rfl⟩) (by rfl) (by decide) (fun _ => rfl) ?_
  repeat' ((fail_if_success (with_reducible refine is_pyIter ?_)); walk_at "m1")
  rename Fr _ L9 _ _ => F7
  rename News _ L9 _ _ => N7
  rename Obj => oc2
  rename oc2.data = _ => hoc2
  have hlen := hh.len
  with_unfolding_all refine' open_list (s := ⟨_, _, _, _, _⟩) (σ := List Value) ?hh2 (compK_L _ _ _ _ _ _) F7 N7 ?hm2 (fun I2 ys => (I2 + 1, LCg.lst ys) :: (L9 + 1, oc2) :: (T, instObj 245 dx) :: (dx, hdrDict w H td nd) :: (H, listOf its.toArray kh) :: news) (fun I2 i2 ys => TxtsAre ys (((hs.take i2).filter fun p => lowN p.1 == l').map fun p => [p.2])) [] ?hn2 ?hj2 ?hoff2 ?hkeep2 ?turn2 ?fin2
  case hh2 => rfl
  case hm2 => k_mem
  case hn2 => exact fun _ _ _ hp => hp
  case hj2 => exact fun _ _ => .nil
  case hoff2 => exact fun _ _ _ lt _ => off_fix lt
  case hkeep2 => intro _ _ _ _; k_mem
  case fin2 =>
    intro I2 ys hp2 lI2 hJ h8 tk8 F8 N8
    rw [hlen, List.take_length] at hJ
    clear F7 N7
    repeat' (walk_at "m1")
    rename News h₀ L _ _ => N6
    refine' hret (I2 + 1) ys ys.length _ _ (by assumption) (cb_drop N6 ?kin) hJ (fun p hp => Nat.lt_succ_of_lt (lI2 p (.tail _ hp)))
    case kin => kst_in
  case turn2 =>
    intro I2 i2 ys h6 tk6 oI2 oC mC v E' lI2 hv2 hJ hC F6 N6
    obtain ⟨R, ln, c, tn, tc, kr, rfl, hhs, hR⟩ := hh.at' i2 v hv2
    have hnn : ln ∈ namL := hhn (ln, c) (List.mem_of_getElem? hhs)
    have lln : (wd ln).length ≤ 2 := nam_len ln hnn
    refine asg_own (s := ⟨_, _, _, _, _⟩) F6 N6 (upd_C lI2) hC rfl rfl ?_
    intro h5 oC5 tk5 mN F5 N5 hC5 hkv _
    have N4 : News g9 L9 h5 ((R, tupObj #[.str (wd ln) tn, .str (wd [c]) tc] kr) :: (I2, oI2) :: (I2 + 2, oC5) :: (I2 + 1, LCg.lst ys) :: (L9 + 1, oc2) :: (T, instObj 245 dx) :: (dx, hdrDict w H td nd) :: (H, listOf its.toArray kh) :: news) := by
      intro p hp
      rcases List.mem_cons.mp hp with rfl | hp
      · exact N5 _ (.tail _ (.tail _ (.tail _ (.tail _ (.tail _ (.tail _ (.tail _ hR)))))))
      · exact N5 p hp
    have hRI : @Ne Nat R (I2 + 1) := Nat.ne_of_lt (Nat.lt_succ_of_lt (lI2 _ (.tail _ (.tail _ (.tail _ (.tail _ hR))))))
    clear F6 N6 N5
    refine tests_one ?_
    repeat' (walk_at "m1")
    · rename (_ == _) = true => hb
      rw [lower_N ln hnn, wd_beq] at hb
      rename Fr _ L9 _ _ => F3
      refine emit_append (s := ⟨_, _, _, _, _⟩) F3 ?_
      repeat' ((fail_if_success (with_reducible refine is_ex ?_)); walk_at "m1")
      refine ⟨ys, _, _, _, _, rfl, F3, N4, .tail hRI (upd_D lI2), ?_, fun h' F' N' => ?_⟩
      · rw [hJ.length, List.length_map]
        refine Nat.le_trans (List.length_filter_le ..) (Nat.le_trans (List.length_take_le' ..) ?_)
        omega
      · refine ⟨ys ++ [_], oC5, mN, _, _, rfl, F', fun p hp => N' p (.tail _ hp), hC5, ?_⟩
        rw [List.take_add_one, hhs]
        have := hJ.append (.cons [c] tc .nil)
        simpa [List.filter_append, hb] using this
    · rename (_ == _) = false => hb
      rw [lower_N ln hnn, wd_beq] at hb
      rename Fr _ L9 _ _ => F3
      refine ⟨ys, oC5, mN, _, _, rfl, F3, fun p hp => N4 p (.tail _ hp), hC5, ?_⟩
      rw [List.take_add_one, hhs]
      simpa [List.filter_append, hb] using hJ
end
end
section
local macro_rules | `(tactic| walk_at "z") => `(tactic| fail)
local macro_rules | `(tactic| walk_at "z") => `(tactic| fail)
theorem txts_ofStrs : ∀ {vs : List Value} {ws : List (List Nat)}, StrsAre vs (ws.map wd) → TxtsAre vs ws
  | [], [], _ => .nil
  | _ :: _, r :: ws, h => by
    cases h with
    | cons _ t h2 => exact .cons r t (txts_ofStrs h2)
noncomputable abbrev cel8 (L : Addr) (c1 c2 c3 c4 c5 c6 c7 c8 : Obj) : List (Addr × Obj) := [(L + 8, c8), (L + 7, c7), (L + 6, c6), (L + 5, c5), (L + 4, c4), (L + 3, c3), (L + 2, c2), (L + 1, c1)]
theorem sum_cells : ∀ {cs : List Int}, (∀ c ∈ cs, 0 ≤ c ∧ c < 1000000) → 0 ≤ cs.sum ∧ cs.sum ≤ 999999 * (cs.length : Int)
  | [], _ => by decide
  | z :: r, h => by
    have h1 := h z (.head _)
    have h2 := sum_cells fun y hy => h y (.tail _ hy)
    rw [List.sum_cons, List.length_cons]
    omega
theorem notLI_cell {o : Obj} {v : Option Value} (h : o.data = .cell v) : ¬ IsLI o := fun q => by
  obtain ⟨_, vs, e⟩ := q
  rw [h] at e; cases e
theorem notLI_cel {L : Addr} {c1 c2 c3 c4 c5 c6 c7 c8 : Obj} {v1 v2 v3 v4 v5 v6 v7 v8 : Option Value} (d1 : c1.data = .cell v1) (d2 : c2.data = .cell v2) (d3 : c3.data = .cell v3) (d4 : c4.data = .cell v4) (d5 : c5.data = .cell v5) (d6 : c6.data = .cell v6) (d7 : c7.data = .cell v7) (d8 : c8.data = .cell v8) : ∀ p ∈ cel8 L c1 c2 c3 c4 c5 c6 c7 c8, ¬ IsLI p.2 := by
  refine List.forall_mem_cons.mpr ⟨notLI_cell d8, List.forall_mem_cons.mpr ⟨notLI_cell d7, List.forall_mem_cons.mpr ⟨notLI_cell d6, List.forall_mem_cons.mpr ⟨notLI_cell d5, List.forall_mem_cons.mpr ⟨notLI_cell d4, List.forall_mem_cons.mpr ⟨notLI_cell d3, List.forall_mem_cons.mpr ⟨notLI_cell d2, List.forall_mem_cons.mpr ⟨notLI_cell d1, List.forall_mem_nil _⟩⟩⟩⟩⟩⟩⟩⟩
theorem ne_cel {h₀ h : Heap} {L a b : Addr} {o c : Obj} {v : Option Value} {news : List (Addr × Obj)} (N : News h₀ L h news) (h1 : (a, o) ∈ news) (h2 : (b, c) ∈ news) (hd : c.data = .cell v) (ho : ∀ v, o.data ≠ .cell v) : @Ne Nat a b := fun q => by
  have e1 := (N _ h1).1
  have e2 := (N _ h2).1
  dsimp only at e1 e2
  have q' : a = b := q
  rw [q', e2] at e1
  have := Option.some.inj e1
  exact ho v (by rw [← this]; exact hd)
theorem is_call259 {M : Model} {A : Around} {xs : List Value} {kws : List (Str × Value)} {R : Value → Shared → Prop} {E : Value → Shared → Prop} {s : Shared} (h : wpAny M A (call (.ref 259) xs kws) R E s) : wpAny M A (call (.ref 259) xs kws) R E s := h
section
local macro_rules | `(tactic| walk_at "call ref") => `(tactic| (first
  | ((with_reducible show wpAny _ _ (call (Value.ref 254) _) _ _ _); k_dflt (refine' cel_call (s := ⟨_, _, _, _, _⟩) (by k_asm) (by k_asm) (by k_asm) (by k_asm) (by k_asm) rfl (by assumption) (by assumption) (by assumption) (by walk_at "lim") (by walk_at "lim") ?_); intro h' tk' C' vs' k' cs' F' N' i1' i2' i3')))
theorem main_s1 {w : World} {mean : ExcName → Option Value} {mg mb : Str → Option Value} {g : Heap} {L fa : Addr} {ccd : Value} {u : Str → Option Value} {base : Heap} {A₀ : Around} {s : Shared} {Q : Flow → Shared → Prop} {E : Value → Shared → Prop}
    {dp un : Nat} {gd : Option (List Code)} {outer : List Env} {sc : Scope} {sts : List Stmt} (hsc : sc = fnScope 32) (hsts : sts = (fnBody 32).take 5) {l : Addr} {svs : List Value} {ns : List Int} {c1 c2 c3 c4 c5 c6 c7 c8 : Obj}
    (B : Below A₀ base outer g) (X : (heapK w.params).In g) (T : Top viewK (looseW viewK lse) mean mg mb g)
    (F : Fr g L s.heap (kstB u [(Str.ofString "script", Value.ref l)])) (N : News g L s.heap (cel8 L c1 c2 c3 c4 c5 c6 c7 c8))
    (hl : g.IsList l svs.toArray) (hi : IntsAre svs ns) (hln : ns.length ≤ 63) (hbare : AllBare s.gens)
    (d1 : c1.data = .cell none) (d2 : c2.data = .cell none) (d3 : c3.data = .cell none) (d4 : c4.data = .cell none) (d5 : c5.data = .cell none) (d6 : c6.data = .cell none) (d7 : c7.data = .cell none) (d8 : c8.data = .cell none)
    (hd1 : dp + 20 < recursionLimit) (hu1 : un + 300 < cLine)
    (hret : ∀ h' tk' gens' m' Z W zvs wvs kz kw b1 b2 zs (ws : List (List Nat)), Fr g L h' m' → News g L h' ((W, listOf (List.toArray wvs) kw) :: (Z, listOf (List.toArray zvs) kz) :: cel8 L b1 b2 c3 c4 c5 c6 c7 c8) → AllBare gens' → IntsAre zvs zs → zs.length = 5 → (∀ z ∈ zs, 1 ≤ z ∧ z ≤ 3) → TxtsAre wvs ws → ws.length = 5 → (∀ x ∈ ws, x.length ≤ 3 ∧ ∀ c ∈ x, c ∈ [97, 65, 98, 66]) →
      b1.data = .cell (some (.ref Z)) → b2.data = .cell (some (.ref W)) → Q .next { s with heap := h', gens := gens', toks := tk' }) :
    wpAny (model PySem.Challenge.rw_ti0055_01.row.toRowW.prog w) (ktrTop dp un gd (Str.ofString "law") sc L fa ccd (cellsFrom (L + 1) sc.names []) outer) (execs sts (envOfC (Str.ofString "law") sc L fa ccd)) Q E s := by
  revert X; k_fill; intro X
  dsimp only [kstB] at F
  (conv at hsc => rhs; whnf); subst hsc
  (conv at hsts => rhs; whnf); subst hsts
  repeat' ((fail_if_success (with_reducible refine is_call259 ?_)); walk_at "m1")
  rename_i h0 tk0 C0 vs0 k0 cs0 i1 i2 i3 h1 F1 N1 h2 tk2 t2 F2 N2
  clear F1 N1
  have hsum := sum_cells i3
  rw [i2] at hsum
  refine' siz_call (s := ⟨_, _, _, _, _⟩) (by assumption) F2 (by assumption) N2 (by assumption) (by rfl) hsum.1 (Int.lt_of_le_of_lt hsum.2 (by decide)) (lim hd1 (by decide)) (lim hu1 (by decide)) hbare ?hnl ?_
  case hnl =>
    intro p hp
    rcases List.mem_cons.mp hp with rfl | hp
    · exact notLI_list _ _
    · exact notLI_cel d1 d2 d3 d4 d5 d6 d7 d8 p hp
  intro h3 tk3 gens3 P D S tvs kt uvs ku out F3 N3 hb3 hi3 hi4 hlen3 hbd3
  clear F2 N2
  have m1 : (L + 1, c1) ∈ (P, tupObj #[Value.ref D, Value.ref S] 0) :: (S, listOf uvs.toArray ku) :: (D, listOf tvs.toArray kt) :: (C0, listOf vs0.toArray k0) :: cel8 L c1 c2 c3 c4 c5 c6 c7 c8 := by k_mem
  have m2 : (L + 2, c2) ∈ (P, tupObj #[Value.ref D, Value.ref S] 0) :: (S, listOf uvs.toArray ku) :: (D, listOf tvs.toArray kt) :: (C0, listOf vs0.toArray k0) :: cel8 L c1 c2 c3 c4 c5 c6 c7 c8 := by k_mem
  have eP1 := ne_cel N3 (.head _) m1 d1 (by nofun)
  have eS1 := ne_cel N3 (.tail _ (.head _)) m1 d1 (by nofun)
  have eD1 := ne_cel N3 (.tail _ (.tail _ (.head _))) m1 d1 (by nofun)
  have eC1 := ne_cel N3 (.tail _ (.tail _ (.tail _ (.head _)))) m1 d1 (by nofun)
  have eP2 := ne_cel N3 (.head _) m2 d2 (by nofun)
  have eS2 := ne_cel N3 (.tail _ (.head _)) m2 d2 (by nofun)
  have eD2 := ne_cel N3 (.tail _ (.tail _ (.head _))) m2 d2 (by nofun)
  have eC2 := ne_cel N3 (.tail _ (.tail _ (.tail _ (.head _)))) m2 d2 (by nofun)
  clear m1 m2
  repeat' (walk_at "m1")
  rename_i Z zvs h4 hiz hz1 hz2 lZ h5 b1 F5 N5 hb1
  have hz5 : (List.take 5 (out ++ [1, 1])).length = 5 := by
    rw [hz1, List.length_append]
    rcases hlen3 with h | h <;> rw [h] <;> rfl
  have hzb : ∀ z ∈ List.take 5 (out ++ [1, 1]), 1 ≤ z ∧ z ≤ 3 := by
    intro z hz
    rcases List.mem_append.mp (List.mem_of_mem_take hz) with h | h
    · exact hbd3 z h
    · simp only [List.mem_cons, List.not_mem_nil, or_false, or_self] at h
      subst h; decide
  refine' wrd_call (s := ⟨_, _, _, _, _⟩) (l1 := C0) (l2 := Z) (news := cel8 L b1 c2 c3 c4 c5 c6 c7 c8) (by assumption) F5 (by assumption) (cb_drop N5 ?kin) (by assumption) (by rfl) i1 hiz i2 hz5 hzb (lim hd1 (by decide)) (lim hu1 (by decide)) ?_
  case kin => kst_in
  intro h6 tk6 W wvs kw ws F6 N6 hs6 hl6 hw6
  have eZ2 : @Ne Nat Z (L + 2) := Nat.ne_of_gt (by omega)
  have eW2 := ne_cel N6 (.head _) (show (L + 2, c2) ∈ _ by k_mem) d2 (by nofun)
  clear F5 N5
  repeat' (walk_at "m1")
  rename_i h7 b2 F7 N7 hb2
  (try dsimp only)
  (try refine wpAny_execs_nil ?_)
  refine' hret _ _ _ _ Z W zvs wvs 0 kw b1 b2 _ ws F7 (cb_drop N7 ?kin2) hb3 hiz hz5 hzb (txts_ofStrs hs6) hl6 hw6 hb1 hb2
  case kin2 => kst_in
end
end
structure IPairsAt (news : List (Addr × Obj)) (vs : List Value) (ps : List (Nat × Nat)) : Prop where
  len : vs.length = ps.length
  at' : ∀ (i : Nat) (v : Value), vs[i]? = some v → ∃ T a b t t' k, v = Value.ref T ∧ ps[i]? = some (a, b) ∧ (T, tupObj #[.int (a : Nat) t, .int (b : Nat) t'] k) ∈ news
theorem IPairsAt.snoc {news news' : List (Addr × Obj)} {vs : List Value} {ps : List (Nat × Nat)} {T : Addr} {a b : Nat} {t t' : Tok} {k : Nat} (h : IPairsAt news vs ps) (hsub : ∀ p ∈ news, p ∈ news') (hT : (T, tupObj #[.int (a : Nat) t, .int (b : Nat) t'] k) ∈ news') : IPairsAt news' (vs ++ [.ref T]) (ps ++ [(a, b)]) := by
  refine ⟨by rw [List.length_append, List.length_append, h.len]; rfl, fun i v e => ?_⟩
  by_cases hi : i < vs.length
  · rw [List.getElem?_append_left hi] at e
    obtain ⟨T', l', c', t1, t2, k', e1, e2, e3⟩ := h.at' i v e
    exact ⟨T', l', c', t1, t2, k', e1, by rw [List.getElem?_append_left (by rw [← h.len]; exact hi)]; exact e2, hsub _ e3⟩
  · rw [List.getElem?_append_right (by omega)] at e
    have hi0 : i - vs.length = 0 := by
      have := (List.getElem?_eq_some_iff.mp e).1
      simp at this; omega
    rw [hi0] at e
    simp at e; subst e
    refine ⟨T, a, b, t, t', k, rfl, ?_, hT⟩
    rw [List.getElem?_append_right (by rw [← h.len]; omega), ← h.len, hi0]
    rfl
noncomputable def prsRow (j n : Nat) : List (Nat × Nat) := (List.range n).map fun soon => (soon, j)
noncomputable def prsN (i : Nat) : List (Nat × Nat) := (List.range i).flatMap fun late => prsRow late late
theorem small_upto {n : Nat} (h : n ≤ 5) : Builtin.Range.small 0 (n : Int) 1 = true ∧ Builtin.Range.rangeSize 0 (n : Int) 1 = (n : Int) :=
  (by decide : ∀ n : Nat, n ≤ 5 → (Builtin.Range.small 0 (n : Int) 1 = true ∧ Builtin.Range.rangeSize 0 (n : Int) 1 = (n : Int))) n h
theorem off_app {I : Addr} {o : Obj} {tups fixed : List (Addr × Obj)} (h1 : ∀ p ∈ tups, I + 2 < p.1) (h2 : ∀ p ∈ fixed, p.1 < I) : ∀ p ∈ (I + 1, o) :: (tups ++ fixed), p.1 ≠ I ∧ p.1 ≠ I + 2 := by
  intro p hp
  rcases List.mem_cons.mp hp with rfl | hp
  · exact ⟨Nat.ne_of_gt (Nat.lt_succ_self _), Nat.ne_of_lt (Nat.lt_succ_self _)⟩
  rcases List.mem_append.mp hp with hp | hp
  · exact ⟨Nat.ne_of_gt (Nat.lt_trans (Nat.lt_succ_of_lt (Nat.lt_succ_self _)) (h1 p hp)), Nat.ne_of_gt (h1 p hp)⟩
  · have := h2 p hp
    exact ⟨Nat.ne_of_lt this, Nat.ne_of_lt (Nat.lt_succ_of_lt (Nat.lt_succ_of_lt this))⟩
theorem upd_Ca {I : Addr} {oI oC oD : Obj} {tups fixed : List (Addr × Obj)} (h1 : ∀ p ∈ tups, I + 2 < p.1) (h2 : ∀ p ∈ fixed, p.1 < I) : UpdF (I + 2) oC ((I, oI) :: (I + 2, oC) :: (I + 1, oD) :: (tups ++ fixed)) (fun o => (I, oI) :: (I + 2, o) :: (I + 1, oD) :: (tups ++ fixed)) :=
  .tail (Nat.ne_of_lt (Nat.lt_succ_of_lt (Nat.lt_succ_self _))) (.head fun p hp => (off_app (o := oD) h1 h2 p hp).2)
theorem upd_Da {I : Addr} {oI oC oD : Obj} {tups fixed : List (Addr × Obj)} (h1 : ∀ p ∈ tups, I + 2 < p.1) (h2 : ∀ p ∈ fixed, p.1 < I) : UpdF (I + 1) oD ((I, oI) :: (I + 2, oC) :: (I + 1, oD) :: (tups ++ fixed)) (fun o => (I, oI) :: (I + 2, oC) :: (I + 1, o) :: (tups ++ fixed)) :=
  .tail (Nat.ne_of_lt (Nat.lt_succ_self _)) (.tail (Nat.ne_of_gt (Nat.lt_succ_self _)) (.head fun p hp => by
    rcases List.mem_append.mp hp with hp | hp
    · exact Nat.ne_of_gt (Nat.lt_trans (Nat.lt_succ_self _) (h1 p hp))
    · exact Nat.ne_of_lt (Nat.lt_succ_of_lt (h2 p hp))))
theorem news_tup {h₀ h : Heap} {L : Addr} {r a b c d : Addr × Obj} {tups fixed : List (Addr × Obj)} (N : News h₀ L h (r :: a :: b :: c :: d :: (tups ++ fixed))) : News h₀ L h (a :: b :: c :: d :: ((r :: tups) ++ fixed)) := fun p hp => by
  rcases List.mem_cons.mp hp with rfl | hp
  · exact N _ (.tail _ (.head _))
  rcases List.mem_cons.mp hp with rfl | hp
  · exact N _ (.tail _ (.tail _ (.head _)))
  rcases List.mem_cons.mp hp with rfl | hp
  · exact N _ (.tail _ (.tail _ (.tail _ (.head _))))
  rcases List.mem_cons.mp hp with rfl | hp
  · exact N _ (.tail _ (.tail _ (.tail _ (.tail _ (.head _)))))
  rcases List.mem_cons.mp hp with rfl | hp
  · exact N _ (.head _)
  · exact N _ (.tail _ (.tail _ (.tail _ (.tail _ (.tail _ hp)))))
section
theorem main_s2 {w : World} {mean : ExcName → Option Value} {mg mb : Str → Option Value} {g : Heap} {L fa : Addr} {ccd : Value} {m : Str → Option Value} {base : Heap} {A₀ : Around} {s : Shared} {Q : Flow → Shared → Prop} {E : Value → Shared → Prop}
    {dp un : Nat} {gd : Option (List Code)} {outer : List Env} {sc : Scope} {sts : List Stmt} (hsc : sc = fnScope 32) (hsts : sts = ((fnBody 32).drop 5).take 1) {post : List (Addr × Obj)}
    (B : Below A₀ base outer g) (X : (heapK w.params).In g) (T : Top viewK (looseW viewK lse) mean mg mb g)
    (F : Fr g L s.heap m) (N : News g L s.heap post)
    (hd1 : dp + 20 < recursionLimit) (hu1 : un + 300 < cLine)
    (hret : ∀ h' tk' m' Pl pvs kp tups, Fr g L h' m' → m' (Str.ofString "pairs") = some (.ref Pl) → News g L h' ((Pl, listOf (List.toArray pvs) kp) :: (tups ++ post)) → IPairsAt tups pvs (prsN 5) → Q .next { s with heap := h', toks := tk' }) :
    wpAny (model PySem.Challenge.rw_ti0055_01.row.toRowW.prog w) (ktrTop dp un gd (Str.ofString "law") sc L fa ccd (cellsFrom (L + 1) sc.names []) outer) (execs sts (envOfC (Str.ofString "law") sc L fa ccd)) Q E s := by
  revert X; k_fill; intro X
  (conv at hsc => rhs; whnf); subst hsc
  (conv at hsts => rhs; whnf); subst hsts
  refine wpAny_execs_cons ?_
  refine Assign_ListComp_own (s := s) (cy := none) F (by rfl) (by with_unfolding_all rfl) (by with_unfolding_all rfl) (fun _ _ _ => ⟨rfl, rfl⟩) (by rfl) (by decide) (fun _ => rfl) (by rfl) (by rfl) ?_
  repeat' ((fail_if_success (with_reducible refine is_pyIter ?_)); walk_at "m1")
  rename IsRange _ _ _ _ _ _ _ _ => R9
  rename_i F9 N9 hkp9
  with_unfolding_all refine' open_range (s := ⟨_, _, _, _, _⟩) (σ := List Value × List (Addr × Obj)) (n := 5) ?hh (compK_N _ _ _ _ _ _ _ _ _) F9 N9 R9 (by decide) (by decide) (fun I x => (I + 1, LCg.lst x.1) :: (x.2 ++ post)) (fun I i x => IPairsAt x.2 x.1 (prsN i) ∧ ∀ p ∈ x.2, I + 2 < p.1) ([], []) ?hn ?hj ?hoff ?turn ?fin
  case hh => rfl
  case hn => exact fun _ _ _ hp => hp
  case hj => exact fun _ _ => ⟨⟨rfl, fun i v e => by simp at e⟩, fun p hp => nomatch hp⟩
  case hoff => exact fun I i x lt hJ => off_app hJ.2 lt
  case fin =>
    rintro I ⟨ys, tups⟩ hp2 lI ⟨hJ, _⟩ h8 tk8 F8 N8
    refine wpAny_execs_nil ?_
    exact hret h8 tk8 _ (I + 1) ys ys.length tups F8 (if_pos rfl) N8 hJ
  case turn =>
    rintro I i ⟨ys, tups⟩ h6 tk6 oI oC mC t E' lI hi5 ⟨hJ, hup⟩ hC F6 N6
    dsimp only at hJ hup N6
    rw [Int.zero_add]
    refine asg_own (s := ⟨_, _, _, _, _⟩) F6 N6 (upd_Ca hup lI) hC rfl rfl ?_
    intro h5 oC5 tk5 mN F5 N5 hC5 hlate hoth
    refine tests_nil ?_
    rw [if_pos rfl]
    refine emit_inner (fun _ => rfl) ?_
    clear F6 N6
    repeat' ((fail_if_success (with_reducible refine is_pyIter ?_)); walk_at "m1")
    rename IsRange _ _ _ _ _ _ _ _ => R8
    rename_i F4 N4 hkp4
    have hsm := small_upto (Nat.le_of_lt hi5)
    with_unfolding_all refine' inner_range (s := ⟨_, _, _, _, _⟩) (σ := Obj × (Str → Option Value) × List Value × List (Addr × Obj)) (n := i) ?hh3 (compK_I _ _ _ _ _ _ _ _ _) F4 N4 R8 hsm.1 hsm.2 (fun I3 x => (I, oI) :: (I + 2, x.1) :: (I + 1, LCg.lst x.2.2.1) :: (x.2.2.2 ++ post)) (fun I3 j x => LCg.NsObj x.1 x.2.1 ∧ x.2.1 (Str.ofString "late") = some (.int (i : Int) t) ∧ IPairsAt x.2.2.2 x.2.2.1 (prsN i ++ prsRow i j) ∧ (∀ p ∈ x.2.2.2, I + 2 < p.1) ∧ (∀ p ∈ x.2.2.2, p.1 ≠ I3)) (oC5, mN, ys, tups) ?hn3 ?hj3 ?hoff3 ?turn3 ?done3
    case hh3 => rfl
    case hn3 => exact fun _ _ _ hp => hp
    case hj3 => exact fun I3 lt => ⟨hC5, hlate, by simpa [prsRow] using hJ, hup, fun p hp => Nat.ne_of_lt (lt p (.tail _ (.tail _ (.tail _ (List.mem_append_left _ hp)))))⟩
    case hoff3 =>
      rintro I3 j ⟨oC7, mC7, ys7, tu7⟩ lI3 ⟨_, _, _, _, h3⟩ p hp
      rcases List.mem_cons.mp hp with rfl | hp
      · exact Nat.ne_of_lt (lI3 (I, oI) (.head _))
      rcases List.mem_cons.mp hp with rfl | hp
      · exact Nat.ne_of_lt (lI3 (I + 2, oC5) (.tail _ (.head _)))
      rcases List.mem_cons.mp hp with rfl | hp
      · exact Nat.ne_of_lt (lI3 (I + 1, LCg.lst ys) (.tail _ (.tail _ (.head _))))
      rcases List.mem_append.mp hp with hp | hp
      · exact h3 p hp
      · exact Nat.ne_of_lt (lI3 p (.tail _ (.tail _ (.tail _ (List.mem_append_right _ hp)))))
    case done3 =>
      rintro I3 ⟨oC7, mC7, ys7, tu7⟩ h7 tk7 lI3 ⟨hC7, _, hJ7, hu7, _⟩ F3 N3
      refine ⟨(ys7, tu7), oC7, mC7, h7, tk7, rfl, F3, N3, hC7, ?_, hu7⟩
      have e : prsN (i + 1) = prsN i ++ prsRow i i := by
        unfold prsN
        rw [List.range_succ, List.flatMap_append]
        simp
      rw [e]; exact hJ7
    case turn3 =>
      rintro I3 j ⟨oC7, mC7, ys7, tu7⟩ h7 tk7 oI3 t3 E3 lI3 hj3 ⟨hC7, hlate7, hJ7, hu7, hne7⟩ F3 N3
      dsimp only at hC7 hlate7 hJ7 hu7 hne7 N3
      rw [Int.zero_add]
      have n3 : @Ne Nat I3 (I + 2) := Nat.ne_of_gt (lI3 (I + 2, oC5) (.tail _ (.head _)))
      have n4 : @Ne Nat I3 (I + 1) := Nat.ne_of_gt (lI3 (I + 1, LCg.lst ys) (.tail _ (.tail _ (.head _))))
      refine asg_own (s := ⟨_, _, _, _, _⟩) F3 N3 (.tail n3 (upd_Ca hu7 lI)) hC7 rfl rfl ?_
      intro h3 oC3 tk3 mN3 F2 N2 hC3 hsoon hoth3
      have hlate3 : mN3 (Str.ofString "late") = some (.int (i : Int) t) := (hoth3 _ (by decide)).trans hlate7
      refine tests_nil ?_
      rw [if_pos rfl]
      refine emit_append (s := ⟨_, _, _, _, _⟩) F2 ?_
      clear F3 N3 F4 N4
      repeat' ((fail_if_success (with_reducible refine is_ex ?_)); walk_at "m1")
      rename_i R h1 F1 N1 lR
      have nR : @Ne Nat R (I + 1) := Nat.ne_of_gt lR.2.2.2.1
      refine ⟨ys7, _, _, _, _, rfl, F1, N1, .tail nR (.tail n4 (upd_Da hu7 lI)), ?_, fun h' F' N' => ?_⟩
      · rw [hJ7.len, List.length_append]
        have h1 : (prsN i).length ≤ 10 := by
          exact (by decide : ∀ i : Nat, i < 5 → (prsN i).length ≤ 10) i (by assumption)
        have h2 : (prsRow i j).length = j := by simp [prsRow]
        omega
      · refine ⟨(oC3, mN3, ys7 ++ [_], (R, _) :: tu7), _, _, rfl, F', news_tup N', hC3, hlate3, ?_, ?_, ?_⟩
        · have e : prsN i ++ prsRow i (j + 1) = (prsN i ++ prsRow i j) ++ [(j, i)] := by
            unfold prsRow
            rw [List.range_succ, List.map_append, List.append_assoc]
            rfl
          rw [e]
          exact hJ7.snoc (fun p hp => .tail _ hp) (.head _)
        · intro p hp
          rcases List.mem_cons.mp hp with rfl | hp
          · exact lR.2.2.1
          · exact hu7 p hp
        · intro p hp
          rcases List.mem_cons.mp hp with rfl | hp
          · exact Nat.ne_of_gt lR.1
          · exact hne7 p hp
end
section
variable {prog : Program} {w : World} {A : Around} {E : Value → Shared → Prop} {s : Shared} {value slice : Expr} {l : Addr} {vs : List Value} {n : Nat} {k : Int} {u : Tok} {x : Value} {h₀ : Heap} {L : Addr} {news : List (Addr × Obj)} {Q : Value → Shared → Prop}
theorem item_at (N : News h₀ L s.heap news) (hm : (l, listOf vs.toArray n) ∈ news) (h0 : 0 ≤ k) (hx : vs[k.toNat]? = some x) (hz : vs.length ≤ 1000) (h : Q x s)
    (hs : subscripted slice false (.ref l) (.int k u) = operate [.ref l, .int k u] (getItem (.ref l) (.int k u))) (hg : ∀ r, letTemporaryGo value (.ref l) r = pure ()) :
    wpAny (model prog w) A (subscriptTail value slice (.ref l) (.int k u)) Q E s := by
  have hl : s.heap.IsList l vs.toArray := ⟨_, (N _ hm).1, rfl, n, rfl⟩
  have hk : k.toNat < vs.length := (List.getElem?_eq_some_iff.mp hx).1
  exact subscriptTail_builtin hl.typeIs slot_list_getitem.lookup (wpAny_getItem_list hl h0 (by omega) (by rw [List.getElem?_toArray]; exact hx) h) hs hg
end
section
theorem TxtsAre.get {vs : List Value} {rs : List (List Nat)} (h : TxtsAre vs rs) : ∀ {i : Nat}, i < rs.length → ∃ t, vs[i]? = some (.str (wd (rs.getD i [])) t) := by
  induction h with
  | nil => intro i hi; simp at hi
  | cons r t _ ih =>
    intro i hi
    cases i with
    | zero => exact ⟨t, rfl⟩
    | succ i =>
      obtain ⟨t', e⟩ := ih (i := i) (by simpa using hi)
      exact ⟨t', by simpa using e⟩
theorem prs_lt : ∀ p ∈ prsN 5, p.1 < 5 ∧ p.2 < 5 := by decide
noncomputable def farL (ws : List (List Nat)) (p : Nat × Nat) : Int := levF (wd (ws.getD p.1 [])) (wd (ws.getD p.2 []))
noncomputable def dueL (ws : List (List Nat)) (p : Nat × Nat) : Int := dueF (wd (ws.getD p.1 [])) (wd (ws.getD p.2 []))
theorem getD_words {ws : List (List Nat)} {P : List Nat → Prop} (h : ∀ x ∈ ws, P x) {i : Nat} (hi : i < ws.length) : P (ws.getD i []) := by
  rw [List.getD_eq_getElem?_getD, List.getElem?_eq_getElem hi]
  exact h _ (List.getElem_mem hi)
section
local macro_rules | `(tactic| walk_at "call ref") => `(tactic| (first
  | ((with_reducible show wpAny _ _ (call (Value.ref 101) _) _ _ _); k_dflt (refine' lev_call (s := ⟨_, _, _, _, _⟩) (by k_asm) (by k_asm) (by k_asm) (by k_asm) (by k_asm) rfl (by assumption) (by assumption) (by walk_at "lim") (by walk_at "lim") ?_); intro t' h' tk' F' N')
  | ((with_reducible show wpAny _ _ (call (Value.ref 271) _) _ _ _); k_dflt (refine' due_call (s := ⟨_, _, _, _, _⟩) (by k_asm) (by k_asm) (by k_asm) (by k_asm) (by k_asm) rfl (by assumption) (by assumption) (by walk_at "lim") (by walk_at "lim") ?_); intro t' h' tk' F' N')))
theorem main_s3 {w : World} {mean : ExcName → Option Value} {mg mb : Str → Option Value} {g : Heap} {L fa : Addr} {ccd : Value} {u : Str → Option Value} {base : Heap} {A₀ : Around} {s : Shared} {Q : Flow → Shared → Prop} {E : Value → Shared → Prop}
    {dp un : Nat} {gd : Option (List Code)} {outer : List Env} {sc : Scope} {sts : List Stmt} (hsc : sc = fnScope 32) (hsts : sts = ((fnBody 32).drop 6).take 2) {post : List (Addr × Obj)} {Pl W : Addr} {pvs wvs : List Value} {kp kw : Nat} {b2 : Obj} {ws : List (List Nat)}
    (B : Below A₀ base outer g) (X : (heapK w.params).In g) (T : Top viewK (looseW viewK lse) mean mg mb g)
    (F : Fr g L s.heap (kstB u [(Str.ofString "pairs", Value.ref Pl)])) (N : News g L s.heap ((Pl, listOf pvs.toArray kp) :: (W, listOf wvs.toArray kw) :: (L + 2, b2) :: post))
    (hb2 : b2.data = .cell (some (.ref W))) (hp : IPairsAt post pvs (prsN 5)) (hw : TxtsAre wvs ws) (hw5 : ws.length = 5) (hwl : ∀ x ∈ ws, x.length ≤ 3)
    (hlaw : ∀ p ∈ prsN 5, farL ws p = dueL ws p)
    (hd1 : dp + 20 < recursionLimit) (hu1 : un + 300 < cLine)
    (hret : ∀ h' tk' u' Fl fvs kf, Fr g L h' (kstB u' [(Str.ofString "pairs", Value.ref Pl), (Str.ofString "fars", Value.ref Fl)]) → News g L h' ((Fl, listOf (List.toArray fvs) kf) :: (Pl, listOf pvs.toArray kp) :: (W, listOf wvs.toArray kw) :: (L + 2, b2) :: post) → IntsAre fvs ((prsN 5).map (farL ws)) → Q .next { s with heap := h', toks := tk' }) :
    wpAny (model PySem.Challenge.rw_ti0055_01.row.toRowW.prog w) (ktrTop dp un gd (Str.ofString "law") sc L fa ccd (cellsFrom (L + 1) sc.names []) outer) (execs sts (envOfC (Str.ofString "law") sc L fa ccd)) Q E s := by
  revert X; k_fill; intro X
  dsimp only [kstB] at F
  (conv at hsc => rhs; whnf); subst hsc
  (conv at hsts => rhs; whnf); subst hsts
  have hplen := hp.len
  refine wpAny_execs_cons ?_
  refine Assign_ListComp_own (s := s) (cy := none) F (by rfl) (by with_unfolding_all rfl) (by with_unfolding_all rfl) (fun _ _ _ => ⟨rfl, rfl⟩) (by rfl) (by decide) (fun _ => rfl) (by rfl) (by rfl) ?_
  repeat' ((fail_if_success (with_reducible refine is_pyIter ?_)); walk_at "m1")
  with_unfolding_all refine' open_list (s := ⟨_, _, _, _, _⟩) (σ := List Value) ?hh2 (compK_L _ _ _ _ _ _) F N ?hm2 (fun I2 ys => (I2 + 1, LCg.lst ys) :: (Pl, listOf pvs.toArray kp) :: (W, listOf wvs.toArray kw) :: (L + 2, b2) :: post) (fun I2 i2 ys => IntsAre ys (((prsN 5).take i2).map (farL ws))) [] ?hn2 ?hj2 ?hoff2 ?hkeep2 ?turn2 ?fin2
  case hh2 => rfl
  case hm2 => k_mem
  case hn2 => exact fun _ _ _ hp => hp
  case hj2 => exact fun _ _ => .nil
  case hoff2 => exact fun _ _ _ lt _ => off_fix lt
  case hkeep2 => intro _ _ _ _; k_mem
  case turn2 =>
    intro I2 i2 ys h6 tk6 oI2 oC mC v E' lI2 hv2 hJ hC F6 N6
    obtain ⟨Tp, a, b, ta, tb, kt, rfl, hab, hTm⟩ := hp.at' i2 v hv2
    have hlt := prs_lt _ (List.mem_of_getElem? hab)
    obtain ⟨t1, e1⟩ := hw.get (i := a) (by rw [hw5]; exact hlt.1)
    obtain ⟨t2, e2⟩ := hw.get (i := b) (by rw [hw5]; exact hlt.2)
    have hla : (wd (ws.getD a [])).length ≤ 3 := by rw [wd_len]; exact getD_words hwl (by rw [hw5]; exact hlt.1)
    have hlb : (wd (ws.getD b [])).length ≤ 3 := by rw [wd_len]; exact getD_words hwl (by rw [hw5]; exact hlt.2)
    have hwz : wvs.length ≤ 1000 := by rw [hw.length, hw5]; decide
    refine asg_pair (s := ⟨_, _, _, _, _⟩) rfl F6 N6 (upd_C lI2) hC rfl rfl rfl ⟨_, (N6 _ (.tail _ (.tail _ (.tail _ (.tail _ (.tail _ (.tail _ hTm))))))).1, rfl, kt, rfl⟩ (by decide) ?_
    intro h5 oC5 tk5 mN F5 N5 hC5 hsa hsb
    refine tests_nil ?_
    rw [if_pos rfl]
    refine emit_append (s := ⟨_, _, _, _, _⟩) F5 ?_
    clear F6 N6
    repeat' ((fail_if_success (with_reducible refine is_tail ?_)); walk_at "m1")
    refine item_at (s := ⟨_, _, _, _, _⟩) N5 (by k_mem) (by omega) (by rw [Int.toNat_natCast]; exact e1) hwz ?_ (by with_unfolding_all rfl) (by intro _; with_unfolding_all rfl)
    repeat' ((fail_if_success (with_reducible refine is_tail ?_)); walk_at "m1")
    refine item_at (s := ⟨_, _, _, _, _⟩) N5 (by k_mem) (by omega) (by rw [Int.toNat_natCast]; exact e2) hwz ?_ (by with_unfolding_all rfl) (by intro _; with_unfolding_all rfl)
    repeat' ((fail_if_success (with_reducible refine is_ex ?_)); walk_at "m1")
    rename Fr _ _ _ _ => F4
    rename News _ _ _ _ => N4
    refine ⟨ys, _, _, _, _, rfl, F4, N4, upd_D lI2, ?_, fun h' F' N' => ?_⟩
    · rw [hJ.length, List.length_map]
      exact Nat.le_trans (List.length_take_le' ..) (by decide)
    · refine ⟨ys ++ [_], oC5, mN, _, _, rfl, F', N', hC5, ?_⟩
      rw [take_map_succ _ hab]
      exact hJ.append (.cons _ _ .nil)
  case fin2 =>
    intro I2 ys hp2 lI2 hJ h8 tk8 F8 N8
    rw [hplen, List.take_length] at hJ
    clear F N
    repeat' ((fail_if_success (with_reducible refine is_comp ?_)); walk_at "m1")
    refine ListComp_own (s := ⟨_, _, _, _, _⟩) (cy := none) F8 (by with_unfolding_all rfl) (fun _ _ _ => ⟨rfl, rfl⟩) (by rfl) (by decide) (fun _ => rfl) ?_
    repeat' ((fail_if_success (with_reducible refine is_pyIter ?_)); walk_at "m1")
    with_unfolding_all refine' open_list (s := ⟨_, _, _, _, _⟩) (σ := List Value) ?hh3 (compK_L _ _ _ _ _ _) F8 N8 ?hm3 (fun I3 zs => (I3 + 1, LCg.lst zs) :: (I2 + 1, LCg.lst ys) :: (Pl, listOf pvs.toArray kp) :: (W, listOf wvs.toArray kw) :: (L + 2, b2) :: post) (fun I3 i3 zs => IntsAre zs (((prsN 5).take i3).map (dueL ws))) [] ?hn3 ?hj3 ?hoff3 ?hkeep3 ?turn3 ?fin3
    case hh3 => rfl
    case hm3 => k_mem
    case hn3 => exact fun _ _ _ hp => hp
    case hj3 => exact fun _ _ => .nil
    case hoff3 => exact fun _ _ _ lt _ => off_fix lt
    case hkeep3 => intro _ _ _ _; k_mem
    case fin3 =>
      intro I3 zs hp3 lI3 hJ3 h9 tk9 F9 N9
      rw [hplen, List.take_length] at hJ3
      have eq : (prsN 5).map (farL ws) = (prsN 5).map (dueL ws) := List.map_congr_left hlaw
      rw [← eq] at hJ3
      clear F8 N8
      repeat' (walk_at "m1")
      dsimp only
      refine wpAny_execs_nil ?_
      refine' hret h9 tk9 _ (I2 + 1) ys ys.length (fr_kst [(Str.ofString "pairs", Value.ref Pl), (Str.ofString "fars", Value.ref (I2 + 1))] F9 ?ck) (cb_drop N9 ?kin) hJ
      case ck => kst_all
      case kin => kst_in
    case turn3 =>
      intro I2' i2 zs h6 tk6 oI2 oC mC v E' lI2 hv2 hJ hC F6 N6
      obtain ⟨Tp, a, b, ta, tb, kt, rfl, hab, hTm⟩ := hp.at' i2 v hv2
      have hlt := prs_lt _ (List.mem_of_getElem? hab)
      obtain ⟨t1, e1⟩ := hw.get (i := a) (by rw [hw5]; exact hlt.1)
      obtain ⟨t2, e2⟩ := hw.get (i := b) (by rw [hw5]; exact hlt.2)
      have hla : (wd (ws.getD a [])).length ≤ 3 := by rw [wd_len]; exact getD_words hwl (by rw [hw5]; exact hlt.1)
      have hlb : (wd (ws.getD b [])).length ≤ 3 := by rw [wd_len]; exact getD_words hwl (by rw [hw5]; exact hlt.2)
      have hwz : wvs.length ≤ 1000 := by rw [hw.length, hw5]; decide
      refine asg_pair (s := ⟨_, _, _, _, _⟩) rfl F6 N6 (upd_C lI2) hC rfl rfl rfl ⟨_, (N6 _ (.tail _ (.tail _ (.tail _ (.tail _ (.tail _ (.tail _ (.tail _ hTm)))))))).1, rfl, kt, rfl⟩ (by decide) ?_
      intro h5 oC5 tk5 mN F5 N5 hC5 hsa hsb
      refine tests_nil ?_
      rw [if_pos rfl]
      refine emit_append (s := ⟨_, _, _, _, _⟩) F5 ?_
      clear F6 N6 F8 N8
      repeat' ((fail_if_success (with_reducible refine is_tail ?_)); walk_at "m1")
      refine item_at (s := ⟨_, _, _, _, _⟩) N5 (by k_mem) (by omega) (by rw [Int.toNat_natCast]; exact e1) hwz ?_ (by with_unfolding_all rfl) (by intro _; with_unfolding_all rfl)
      repeat' ((fail_if_success (with_reducible refine is_tail ?_)); walk_at "m1")
      refine item_at (s := ⟨_, _, _, _, _⟩) N5 (by k_mem) (by omega) (by rw [Int.toNat_natCast]; exact e2) hwz ?_ (by with_unfolding_all rfl) (by intro _; with_unfolding_all rfl)
      repeat' ((fail_if_success (with_reducible refine is_ex ?_)); walk_at "m1")
      rename Fr _ _ _ _ => F4
      rename News _ _ _ _ => N4
      refine ⟨zs, _, _, _, _, rfl, F4, N4, upd_D lI2, ?_, fun h' F' N' => ?_⟩
      · rw [hJ.length, List.length_map]
        exact Nat.le_trans (List.length_take_le' ..) (by decide)
      · refine ⟨zs ++ [_], oC5, mN, _, _, rfl, F', N', hC5, ?_⟩
        rw [take_map_succ _ hab]
        exact hJ.append (.cons _ _ .nil)
end
end
theorem map_five_eq {its : List (Addr × Obj)} {a b c d e : Addr} (h : its.map (·.1) = [a, b, c, d, e]) : ∃ o1 o2 o3 o4 o5, its = [(a, o1), (b, o2), (c, o3), (d, o4), (e, o5)] := by
  cases its with
  | nil => cases h
  | cons p r =>
    have e1 : p.1 = a := (List.cons.inj h).1
    have h := (List.cons.inj h).2
    cases r with
    | nil => cases h
    | cons q r =>
      have e2 : q.1 = b := (List.cons.inj h).1
      have h := (List.cons.inj h).2
      cases r with
      | nil => cases h
      | cons q3 r =>
        have e3 : q3.1 = c := (List.cons.inj h).1
        obtain ⟨o4, o5, rfl⟩ := map_two_eq (List.cons.inj h).2
        exact ⟨p.2, q.2, q3.2, o4, o5, by rw [show p = (a, p.2) from Prod.ext e1 rfl, show q = (b, q.2) from Prod.ext e2 rfl, show q3 = (c, q3.2) from Prod.ext e3 rfl]⟩
section
variable {prog : Program} {w : World} {A : Around} {E : Value → Shared → Prop} {Q : Flow → Shared → Prop} {s : Shared} {env : Env} {g : Heap} {L : Addr}
set_option maxHeartbeats 800000 in
theorem zip_cut {σ : Type} {elts : List Expr} {kt : Nat} {py : Pos} {body : List Stmt} {m : Str → Option Value} {newsNow : List (Addr × Obj)} {l1 l2 : Addr} {vs1 vs2 : List Value} {k1 k2 : Nat} (hh : A.handled = none)
    (ps : σ → List (Str × Value)) (news : σ → List (Addr × Obj)) (J : Addr → Nat → σ → Prop) (x₀ : σ)
    (F : Fr g L s.heap m) (N : News g L s.heap newsNow) (hl1 : (l1, listOf vs1.toArray k1) ∈ newsNow) (hl2 : (l2, listOf vs2.toArray k2) ∈ newsNow) (hlen : vs1.length = vs2.length) (hk : ∀ p ∈ ps x₀, m p.1 = some p.2) (hn : ∀ p ∈ news x₀, p ∈ newsNow)
    (hj : ∀ I, (∀ p ∈ newsNow, p.1 < I) → J I 0 x₀) (hoff : ∀ I i x, (∀ p ∈ newsNow, p.1 < I) → J I i x → ∀ p ∈ news x, p.1 < I ∨ I + 4 < p.1) (hkeep : ∀ I i x, J I i x → (l1, listOf vs1.toArray k1) ∈ news x ∧ (l2, listOf vs2.toArray k2) ∈ news x)
    (turn : ∀ I i v1 v2 z u h tk o1 o2 o3 o4 o5 T, (∀ p ∈ newsNow, p.1 < I) → vs1[i]? = some v1 → vs2[i]? = some v2 → J I i z → Fr g L h (kstB u (ps z)) → News g L h ((I + 4, o1) :: (I + 2, o2) :: (I + 3, o3) :: (I, o4) :: (I + 1, o5) :: news z) → h.IsTuple T #[v1, v2] →
      wpAny (model prog w) A (assign (.Tuple elts kt py) env (.ref T)) (fun _ s₂ => wpAny (model prog w) A (execs body env) (ForPost g L s ps (fun x => (I + 4, o1) :: (I + 2, o2) :: (I + 3, o3) :: (I, o4) :: (I + 1, o5) :: news x) (J I (i + 1)) Q) E s₂) E { s with heap := h, toks := tk })
    (done : ∀ I z u h tk, (∀ p ∈ newsNow, p.1 < I) → J I vs1.length z → Fr g L h (kstB u (ps z)) → News g L h (news z) → Q .next { s with heap := h, toks := tk })
    (hE : PassesOwn (model prog w) A env E) :
    wpAny (model prog w) A (call (.type "zip") [.ref l1, .ref l2]) (fun xv s₁ => wpAny (model prog w) A (pyIter xv) (ForK prog w A (.Tuple elts kt py) body env Q E) E s₁) E s := by
  have hLs : L < s.heap.objs.size := F.ns.lt
  have lt := lt_new F N
  have z1 := N _ hl1
  have z2 := N _ hl2
  have hL1 : s.heap.IsList l1 vs1.toArray := ⟨_, z1.1, rfl, k1, rfl⟩
  have hL2 : s.heap.IsList l2 vs2.toArray := ⟨_, z2.1, rfl, k2, rfl⟩
  have hll1 : l1 < s.heap.objs.size := Heap.lt_size z1.1
  have hll2 : l2 < s.heap.objs.size := Heap.lt_size z2.1
  have D : ZipApart (s.heap.objs.size + 4) (s.heap.objs.size + 2) (s.heap.objs.size + 3) s.heap.objs.size (s.heap.objs.size + 1) l1 l2 := ktu_apart _ _ _ hll1 hll2
  refine call_zip_2 hL1 hL2 fun h' hz hTI hTO hi1 hi2 hsz hkp => ?_
  refine wpAny_pyIter_zip hz ?_
  have W := KTurns.ofWalksU (elts := elts) (k := kt) (pos := py) (WalksT.zip2 (prog := prog) (w := w) hh _ _ _ _ _ _ _ D vs1.toArray vs2.toArray).toU
  have hmin : min vs1.toArray.size vs2.toArray.size = vs1.length := by simp [hlen]
  unfold ForK
  refine turns_cut (s := s) (tk0 := s.toks) (σ := σ) (keep := [(l1, listOf vs1.toArray k1), (l2, listOf vs2.toArray k2)]) W [s.heap.objs.size + 4, s.heap.objs.size + 2, s.heap.objs.size + 3, s.heap.objs.size, s.heap.objs.size + 1] ?_ ?_ ?_ ?_ ps news (J s.heap.objs.size) x₀ (F.keeps hkp) (N.grown hkp) ⟨hz, hTI, ⟨_, _, hTO⟩, hi1, hi2, hL1.at fun o e => hkp l1 o e, hL2.at fun o e => hkp l2 o e⟩ hk hn (hj _ lt) ?_ ?_ ?_ ?_ hE
  · rintro i h ⟨hz, hTI, ⟨a, b, hTO⟩, ⟨o1, ho1, hc1, _⟩, ⟨o2, ho2, hc2, _⟩, _⟩
    have e1 : ∃ o : Obj, h.get? (s.heap.objs.size + 4) = some o := ⟨_, hz⟩
    have e2 : ∃ o : Obj, h.get? (s.heap.objs.size + 2) = some o := ⟨_, hTI⟩
    have e3 : ∃ o : Obj, h.get? (s.heap.objs.size + 3) = some o := ⟨_, hTO⟩
    obtain ⟨q1, g1⟩ := e1
    obtain ⟨q2, g2⟩ := e2
    obtain ⟨q3, g3⟩ := e3
    refine ⟨[(s.heap.objs.size + 4, q1), (s.heap.objs.size + 2, q2), (s.heap.objs.size + 3, q3), (s.heap.objs.size, o1), (s.heap.objs.size + 1, o2)], rfl, fun p hp => ?_⟩
    rcases List.mem_cons.mp hp with rfl | hp
    · exact g1
    rcases List.mem_cons.mp hp with rfl | hp
    · exact g2
    rcases List.mem_cons.mp hp with rfl | hp
    · exact g3
    rcases List.mem_cons.mp hp with rfl | hp
    · exact ho1
    rw [List.mem_singleton.mp hp]
    exact ho2
  · intro b hb
    have hle : s.heap.objs.size ≤ b := by
      have hb' : b = s.heap.objs.size + 4 ∨ b = s.heap.objs.size + 2 ∨ b = s.heap.objs.size + 3 ∨ b = s.heap.objs.size ∨ b = s.heap.objs.size + 1 := by simpa using hb
      rcases hb' with rfl | rfl | rfl | rfl | rfl
      · exact Nat.le_add_right _ _
      · exact Nat.le_add_right _ _
      · exact Nat.le_add_right _ _
      · exact Nat.le_refl _
      · exact Nat.le_add_right _ _
    exact ⟨fun q => Nat.lt_irrefl _ (Nat.lt_of_lt_of_le (q ▸ hLs) hle), ktu_new F hle⟩
  · intro b hb
    have hb' : b = s.heap.objs.size + 4 ∨ b = s.heap.objs.size + 3 ∨ b = s.heap.objs.size ∨ b = s.heap.objs.size + 1 := by simpa using hb
    rcases hb' with rfl | rfl | rfl | rfl <;> simp
  · intro b hb
    have hb' : b = s.heap.objs.size + 4 ∨ b = s.heap.objs.size + 2 ∨ b = s.heap.objs.size + 3 ∨ b = s.heap.objs.size ∨ b = s.heap.objs.size + 1 ∨ b = l1 ∨ b = l2 := by simpa using hb
    rcases hb' with rfl | rfl | rfl | rfl | rfl | rfl | rfl
    · exact .inl (by simp)
    · exact .inl (by simp)
    · exact .inl (by simp)
    · exact .inl (by simp)
    · exact .inl (by simp)
    · exact .inr ⟨_, .head _⟩
    · exact .inr ⟨_, .tail _ (.head _)⟩
  · intro i z hz p hp hm
    have hb' : p.1 = s.heap.objs.size + 4 ∨ p.1 = s.heap.objs.size + 2 ∨ p.1 = s.heap.objs.size + 3 ∨ p.1 = s.heap.objs.size ∨ p.1 = s.heap.objs.size + 1 := by simpa using hm
    have h9 : @LT.lt Nat _ p.1 s.heap.objs.size ∨ @LT.lt Nat _ (s.heap.objs.size + 4) p.1 := hoff _ i z lt hz p hp
    have hb9 : @Eq Nat p.1 (s.heap.objs.size + 4) ∨ @Eq Nat p.1 (s.heap.objs.size + 2) ∨ @Eq Nat p.1 (s.heap.objs.size + 3) ∨ @Eq Nat p.1 s.heap.objs.size ∨ @Eq Nat p.1 (s.heap.objs.size + 1) := hb'
    have hlo : @LE.le Nat _ s.heap.objs.size p.1 := by rcases hb9 with e | e | e | e | e <;> rw [e] <;> first | exact Nat.le_add_right _ _ | exact Nat.le_refl _
    have hhi : @LE.le Nat _ p.1 (s.heap.objs.size + 4) := by rcases hb9 with e | e | e | e | e <;> rw [e] <;> first | exact Nat.le_add_right _ _ | exact Nat.add_le_add_left (by decide) _
    exact h9.elim (fun q => absurd hlo (Nat.not_le_of_lt q)) (fun q => absurd hhi (Nat.not_le_of_lt q))
  · intro i z hz p hp
    rcases List.mem_cons.mp hp with rfl | hp
    · exact (hkeep _ i z hz).1
    · rw [List.mem_singleton.mp hp]; exact (hkeep _ i z hz).2
  · rintro i z u h tk its v hlt ⟨T, vals, rfl, ⟨x, y, hx, hy, rfl⟩, hT⟩ hJ hits F' N'
    obtain ⟨o1, o2, o3, o4, o5, rfl⟩ := map_five_eq hits
    exact turn _ i x y z u h tk o1 o2 o3 o4 o5 T lt (by simpa using hx) (by simpa using hy) hJ F' N' hT
  · intro z u h tk hJ F' N'
    exact done _ z u h tk lt (by rw [hmin] at hJ; exact hJ) F' N'
end
section
local macro_rules | `(tactic| walk_at "z") => `(tactic| fail)
noncomputable def winB (ws : List (List Nat)) (p : Nat × Nat) : Bool := decide (coll (wd (ws.getD p.1 [])) (wd (ws.getD p.2 [])) < 0) == ((farL ws p).fmod 2 == 0)
noncomputable def winL (ws : List (List Nat)) (p : Nat × Nat) : Nat × Nat := if winB ws p = true then (112 + p.1, 112 + p.2) else (112 + p.2, 112 + p.1)
theorem asgF_zip {prog : Program} {w : World} {A : Around} {E : Value → Shared → Prop} {s : Shared} {g : Heap} {L : Addr} {m : Str → Option Value} {env : Env} {news : List (Addr × Obj)} {a b c : Str} {pa pb pc tp tp2 : Pos} {kk k2 : Nat} {T Tp : Addr} {v₁ v₂ v₃ : Value} {Q : Unit → Shared → Prop} (hh : A.handled = none) (hLe : env.locals = L) (hp : (env.scope.kind == .class || (env.scope.kind == .module && env.locals != env.globals)) = false)
    (ha : env.kindOf a = some .local) (hb : env.kindOf b = some .local) (hc : env.kindOf c = some .local) (F : Fr g L s.heap m) (N : News g L s.heap news) (hT : s.heap.IsTuple T #[.ref Tp, v₃]) (hTp : s.heap.IsTuple Tp #[v₁, v₂])
    (h : ∀ h' tk', Fr g L h' (fun z => if z = c then some v₃ else if z = b then some v₂ else if z = a then some v₁ else m z) → News g L h' news → Q () { s with heap := h', toks := tk' }) :
    wpAny (model prog w) A (assign (.Tuple [.Tuple [.Name a pa, .Name b pb] kk tp, .Name c pc] k2 tp2) env (.ref T)) Q E s := by
  refine assign_Tuple_tuple hh hT rfl rfl fun h₅ he => ?_
  have he' : ∀ b o, s.heap.get? b = some o → h₅.get? b = some o := fun b o e => he b o (Nat.ne_of_lt (Heap.lt_size e)) e
  have F₅ : Fr g L h₅ m := F.keeps he'
  have N₅ : News g L h₅ news := N.grown he'
  refine assignInOrder_cons (asgF_pair (kk := kk) (s := ⟨_, _, _, _, _⟩) hh hLe hp ha hb F₅ N₅ (hTp.at fun o e => he' Tp o e) fun h₄ tk₄ F₄ N₄ => ?_)
  subst hLe
  have hL₀ : g.get? env.locals = none := Heap.get?_none_of_le F₄.above
  refine assignInOrder_cons (wpAny_assign_Name (wpAny_storeName_local hc F₄.ns (fun h₃ hn₃ hs₃ => ?_) hp))
  refine assignInOrder_nil ?_
  refine h h₃ _ ⟨hn₃, fun b o e => ?_, F₄.above⟩ fun p hp => ?_
  · have hne : b ≠ env.locals := fun q => by rw [q, hL₀] at e; cases e
    exact hs₃.extBut b o hne (F₄.keep b o e)
  · have z := N₄ p hp
    exact ⟨hs₃.extBut _ _ z.2.1 z.1, z.2⟩
theorem swap_zip {h₀ h : Heap} {L : Addr} {a b c d e x : Addr × Obj} {tups : List (Addr × Obj)} {q1 q2 q3 q4 q5 : Addr × Obj} {r : List (Addr × Obj)} (N : News h₀ L h (a :: b :: c :: d :: e :: x :: (tups ++ q1 :: q2 :: q3 :: q4 :: q5 :: r))) : News h₀ L h (x :: q3 :: q4 :: q5 :: a :: b :: c :: d :: e :: q1 :: q2 :: (tups ++ r)) := fun p hp => N p (by
  simp only [List.mem_cons, List.mem_append] at hp ⊢
  rcases hp with h | h | h | h | h | h | h | h | h | h | h | h | h <;> simp [h])
theorem unswap_zip {h₀ h : Heap} {L : Addr} {a b c d e x r : Addr × Obj} {tups : List (Addr × Obj)} {q1 q2 q3 q4 q5 : Addr × Obj} {post : List (Addr × Obj)} (N : News h₀ L h (r :: x :: q3 :: q4 :: q5 :: a :: b :: c :: d :: e :: q1 :: q2 :: (tups ++ post))) : News h₀ L h (a :: b :: c :: d :: e :: x :: ((r :: tups) ++ q1 :: q2 :: q3 :: q4 :: q5 :: post)) := fun p hp => N p (by
  simp only [List.mem_cons, List.mem_append] at hp ⊢
  rcases hp with h | h | h | h | h | h | (h | h) | h | h | h | h | h | h <;> simp [h])
theorem item_pqrst {a : Nat} (h : a < 5) : Txt.item (Str.ofString "pqrst") (a : Int) = wd [112 + a] := by
  rcases (by omega : a = 0 ∨ a = 1 ∨ a = 2 ∨ a = 3 ∨ a = 4) with rfl | rfl | rfl | rfl | rfl <;> decide +kernel
theorem coll_cases (x y : Str) : (x.cps.toList < y.cps.toList → ¬ y.cps.toList < x.cps.toList) := fun h1 h2 => List.lt_irrefl _ (List.lt_trans h1 h2)
theorem coll_neg (x y : Str) : decide (coll x y < 0) = decide (x.cps.toList < y.cps.toList) := by
  unfold coll
  by_cases h1 : x.cps.toList < y.cps.toList
  · have h2 := coll_cases x y h1
    rw [decide_eq_true h1, decide_eq_false h2]; decide
  · rw [decide_eq_false h1]
    by_cases h2 : y.cps.toList < x.cps.toList
    · rw [decide_eq_true h2]; decide
    · rw [decide_eq_false h2]; decide
theorem coll_pos (x y : Str) : decide (0 < coll x y) = decide (y.cps.toList < x.cps.toList) := by
  unfold coll
  by_cases h1 : y.cps.toList < x.cps.toList
  · have h2 := coll_cases y x h1
    rw [decide_eq_true h1, decide_eq_false h2]; decide
  · rw [decide_eq_false h1]
    by_cases h2 : x.cps.toList < y.cps.toList
    · rw [decide_eq_true h2]; decide
    · rw [decide_eq_false h2]; decide
theorem PairsAt.snoc {news news' : List (Addr × Obj)} {vs : List Value} {ps : List (Nat × Nat)} {T : Addr} {a b : Nat} {t t' : Tok} {k : Nat} (h : PairsAt news vs ps) (hsub : ∀ p ∈ news, p ∈ news') (hT : (T, tupObj #[.str (wd [a]) t, .str (wd [b]) t'] k) ∈ news') : PairsAt news' (vs ++ [.ref T]) (ps ++ [(a, b)]) := by
  refine ⟨by rw [List.length_append, List.length_append, h.len]; rfl, fun i v e => ?_⟩
  by_cases hi : i < vs.length
  · rw [List.getElem?_append_left hi] at e
    obtain ⟨T', l', c', t1, t2, k', e1, e2, e3⟩ := h.at' i v e
    exact ⟨T', l', c', t1, t2, k', e1, by rw [List.getElem?_append_left (by rw [← h.len]; exact hi)]; exact e2, hsub _ e3⟩
  · rw [List.getElem?_append_right (by omega)] at e
    have hi0 : i - vs.length = 0 := by
      have := (List.getElem?_eq_some_iff.mp e).1
      simp at this; omega
    rw [hi0] at e
    simp at e; subst e
    refine ⟨T, a, b, t, t', k, rfl, ?_, hT⟩
    rw [List.getElem?_append_right (by rw [← h.len]; omega), ← h.len, hi0]
    rfl
theorem win_end {g : Heap} {L : Addr} {s : Shared} {h' : Heap} {tk' : Nat} {m' : Str → Option Value} {R Wn I : Addr} {x y : Nat} {t t' : Tok} {its : List Value} {k1 : Nat} {q1 q2 q3 q4 q5 : Addr × Obj} {o1 o2 o3 o4 o5 : Obj} {tups post : List (Addr × Obj)} {ps : List (Nat × Nat)} {i : Nat} {p : Nat × Nat} {f : Nat × Nat → Nat × Nat} (F9 : Fr g L h' m')
    (N9 : News g L h' ((R, tupObj #[.str (wd [x]) t, .str (wd [y]) t'] 0) :: (Wn, listOf (its ++ [Value.ref R]).toArray (k1 + 1)) :: q3 :: q4 :: q5 :: (I + 4, o1) :: (I + 2, o2) :: (I + 3, o3) :: (I, o4) :: (I + 1, o5) :: q1 :: q2 :: (tups ++ post)))
    (hJ : PairsAt tups its ((ps.take i).map f)) (hab : ps[i]? = some p) (hw : f p = (x, y)) (hup : ∀ p ∈ tups, @LT.lt Nat _ (I + 4) p.1) (lR4 : @LT.lt Nat _ (I + 4) R) :
    CutR g L s (fun _ : List Value × Nat × List (Addr × Obj) => []) (fun x => (I + 4, o1) :: (I + 2, o2) :: (I + 3, o3) :: (I, o4) :: (I + 1, o5) :: (Wn, listOf x.1.toArray x.2.1) :: (x.2.2 ++ q1 :: q2 :: q3 :: q4 :: q5 :: post)) (fun x => PairsAt x.2.2 x.1 ((ps.take (i + 1)).map f) ∧ ∀ p ∈ x.2.2, @LT.lt Nat _ (I + 4) p.1) { s with heap := h', toks := tk' } := by
  refine ⟨(its ++ [Value.ref R], k1 + 1, (R, tupObj #[.str (wd [x]) t, .str (wd [y]) t'] 0) :: tups), m', h', tk', rfl, F9, unswap_zip N9, ?_, fun q hq => ?_⟩
  · rw [take_map_succ _ hab, hw]
    exact hJ.snoc (fun p hp => .tail _ hp) (.head _)
  · rcases List.mem_cons.mp hq with rfl | hq
    · exact lR4
    · exact hup q hq
theorem is_callty {M : Model} {A : Around} {f : String} {xs : List Value} {kws : List (Str × Value)} {R : Value → Shared → Prop} {E : Value → Shared → Prop} {s : Shared} (h : wpAny M A (call (.type f) xs kws) R E s) : wpAny M A (call (.type f) xs kws) R E s := h
section
local macro_rules | `(tactic| k_all) => `(tactic| assumption)
local macro_rules | `(tactic| walk_at "subscriptTail") => `(tactic| ((with_reducible show wpAny _ _ (subscriptTail _ _ (Value.ref _) (Value.int _ _)) _ _ _); k_dflt (refine item_at (s := ⟨_, _, _, _, _⟩) (by k_asm) (by k_mem) (by omega) (by assumption) (by assumption) ?_ (by with_unfolding_all rfl) (by intro _; with_unfolding_all rfl))))
local macro_rules | `(tactic| walk_at "call ref") => `(tactic| (first
  | ((with_reducible show wpAny _ _ (call (Value.ref 45) _) _ _ _); k_dflt (refine' coll_call (s := ⟨_, _, _, _, _⟩) (by k_asm) (by k_asm) (by k_asm) (by k_asm) (by k_asm) rfl (by assumption) (by assumption) (by walk_at "lim") (by walk_at "lim") ?_); intro t' h' tk' F' N')
  | ((with_reducible show wpAny _ _ (call (Value.ref 66) _) _ _ _); k_dflt (refine' mod_op (s := ⟨_, _, _, _, _⟩) (by k_asm) (by k_asm) (by k_asm) (by k_asm) (by k_asm) rfl (by decide) (by walk_at "lim") (by walk_at "lim") ?_); intro t' h' tk' F' N')))
theorem main_s4 {w : World} {mean : ExcName → Option Value} {mg mb : Str → Option Value} {g : Heap} {L fa : Addr} {ccd : Value} {u : Str → Option Value} {base : Heap} {A₀ : Around} {s : Shared} {Q : Flow → Shared → Prop} {E : Value → Shared → Prop}
    {dp un : Nat} {gd : Option (List Code)} {outer : List Env} {sc : Scope} {sts : List Stmt} (hsc : sc = fnScope 32) (hsts : sts = ((fnBody 32).drop 8).take 2) {post : List (Addr × Obj)} {Pl W Fl : Addr} {pvs wvs fvs : List Value} {kp kw kf : Nat} {b2 b3 : Obj} {ws : List (List Nat)}
    (B : Below A₀ base outer g) (X : (heapK w.params).In g) (T : Top viewK (looseW viewK lse) mean mg mb g)
    (F : Fr g L s.heap (kstB u [(Str.ofString "pairs", Value.ref Pl), (Str.ofString "fars", Value.ref Fl)])) (N : News g L s.heap ((Fl, listOf fvs.toArray kf) :: (Pl, listOf pvs.toArray kp) :: (W, listOf wvs.toArray kw) :: (L + 2, b2) :: (L + 3, b3) :: post))
    (hb2 : b2.data = .cell (some (.ref W))) (hb3 : b3.data = .cell none) (hp : IPairsAt post pvs (prsN 5)) (hw : TxtsAre wvs ws) (hw5 : ws.length = 5) (hwl : ∀ x ∈ ws, x.length ≤ 3) (hf : IntsAre fvs ((prsN 5).map (farL ws)))
    (hpL : ∀ p ∈ post, p.1 ≠ L + 3)
    (hd1 : dp + 20 < recursionLimit) (hu1 : un + 300 < cLine)
    (hE : PassesOwn (model PySem.Challenge.rw_ti0055_01.row.toRowW.prog w) (ktrTop dp un gd (Str.ofString "law") sc L fa ccd (cellsFrom (L + 1) sc.names []) outer) (envOfC (Str.ofString "law") sc L fa ccd) E)
    (hret : ∀ h' tk' u' Wn nvs kn tups b3', Fr g L h' u' → News g L h' ((Wn, listOf (List.toArray nvs) kn) :: (tups ++ (Fl, listOf fvs.toArray kf) :: (Pl, listOf pvs.toArray kp) :: (W, listOf wvs.toArray kw) :: (L + 2, b2) :: (L + 3, b3') :: post)) → b3'.data = .cell (some (.ref Wn)) → PairsAt tups nvs ((prsN 5).map (winL ws)) → Q .next { s with heap := h', toks := tk' }) :
    wpAny (model PySem.Challenge.rw_ti0055_01.row.toRowW.prog w) (ktrTop dp un gd (Str.ofString "law") sc L fa ccd (cellsFrom (L + 1) sc.names []) outer) (execs sts (envOfC (Str.ofString "law") sc L fa ccd)) Q E s := by
  revert X; k_fill; intro X
  dsimp only [kstB] at F
  (conv at hsc => rhs; whnf); subst hsc
  (conv at hsts => rhs; whnf); dsimp only [List.take] at hsts; subst hsts
  have hplen := hp.len
  have nF := ne_cel N (.head _) (show (L + 3, b3) ∈ _ by k_mem) hb3 (by nofun)
  have nP := ne_cel N (.tail _ (.head _)) (show (L + 3, b3) ∈ _ by k_mem) hb3 (by nofun)
  have nW := ne_cel N (.tail _ (.tail _ (.head _))) (show (L + 3, b3) ∈ _ by k_mem) hb3 (by nofun)
  repeat' ((fail_if_success (with_reducible refine is_fors ?_)); walk_at "m1")
  dsimp only
  rename_i Wn h1 lW h2 b3' F1 N1 hb3'
  refine wpAny_execs_cons ?_
  refine for_start ?_ ?hs9; case hs9 => (intro _; rfl)
  repeat' ((fail_if_success (with_reducible refine is_callty ?_)); walk_at "m1")
  have hlen : pvs.length = fvs.length := by rw [hf.length, List.length_map]; exact hplen
  have hwz : wvs.length ≤ 1000 := by rw [hw.length, hw5]; decide
  have pW : ∀ p ∈ (Fl, listOf fvs.toArray kf) :: (Pl, listOf pvs.toArray kp) :: (W, listOf wvs.toArray kw) :: (L + 2, b2) :: (L + 3, b3') :: post, p.1 < Wn := lt_of_all (allLt_of (List.forall_mem_cons.mpr ⟨lW.1, List.forall_mem_cons.mpr ⟨lW.2.1, List.forall_mem_cons.mpr ⟨lW.2.2.1, List.forall_mem_cons.mpr ⟨lW.2.2.2.1, List.forall_mem_cons.mpr ⟨lW.2.2.2.2.1, lt_of_all lW.2.2.2.2.2⟩⟩⟩⟩⟩))
  with_unfolding_all refine' zip_cut (s := ⟨_, _, _, _, _⟩) (σ := List Value × Nat × List (Addr × Obj)) ?hh (fun _ => []) (fun x => (Wn, listOf x.1.toArray x.2.1) :: (x.2.2 ++ (Fl, listOf fvs.toArray kf) :: (Pl, listOf pvs.toArray kp) :: (W, listOf wvs.toArray kw) :: (L + 2, b2) :: (L + 3, b3') :: post)) (fun I i x => PairsAt x.2.2 x.1 (((prsN 5).take i).map (winL ws)) ∧ ∀ p ∈ x.2.2, @LT.lt Nat _ (I + 4) p.1) ([], 0, []) F1 N1 ?hl1 ?hl2 hlen ?hk ?hn ?hj ?hoff ?hkeep ?turn ?done ?hE
  case hh => rfl
  case hl1 => k_mem
  case hl2 => k_mem
  case hk => exact fun _ hp => nomatch hp
  case hn => exact fun _ hp => hp
  case hj => exact fun I lt => ⟨⟨rfl, fun i v e => by simp at e⟩, fun p hp => nomatch hp⟩
  case hoff =>
    rintro I i ⟨its, k1, tups⟩ lt ⟨_, n1⟩ p hp
    rcases List.mem_cons.mp hp with rfl | hp
    · exact .inl (lt (Wn, listOf #[] 0) (.head _))
    rcases List.mem_append.mp hp with hp | hp
    · exact .inr (n1 p hp)
    · exact .inl (lt p (.tail _ hp))
  case hkeep => exact fun I i x _ => ⟨.tail _ (List.mem_append_right _ (.tail _ (.head _))), .tail _ (List.mem_append_right _ (.head _))⟩
  case hE => exact hE
  case done =>
    rintro I ⟨its, k1, tups⟩ u8 h8 tk8 lI ⟨hJ, _⟩ F8 N8
    dsimp only
    refine wpAny_execs_nil ?_
    rw [hplen, List.take_length] at hJ
    exact hret h8 tk8 _ Wn its k1 tups b3' F8 N8 hb3' hJ
  case turn =>
    rintro I i v1 v2 ⟨its, k1, tups⟩ u8 h8 tk8 o1 o2 o3 o4 o5 Tz lI hv1 hv2 ⟨hJ, hup⟩ F8 N8 hTz
    dsimp only at hJ hup N8
    obtain ⟨Tp, a, b, ta, tb, kt, rfl, hab, hTm⟩ := hp.at' i v1 hv1
    have hff : ((prsN 5).map (farL ws))[i]? = some (farL ws (a, b)) := by rw [List.getElem?_map, hab]; rfl
    obtain ⟨tf, hf2⟩ := ints_at hf hff
    rw [hv2] at hf2; cases hf2
    have hlt := prs_lt _ (List.mem_of_getElem? hab)
    obtain ⟨t1, e1⟩ := hw.get (i := a) (by rw [hw5]; exact hlt.1)
    obtain ⟨t2, e2⟩ := hw.get (i := b) (by rw [hw5]; exact hlt.2)
    have hla : (wd (ws.getD a [])).length ≤ 3 := by rw [wd_len]; exact getD_words hwl (by rw [hw5]; exact hlt.1)
    have hlb : (wd (ws.getD b [])).length ≤ 3 := by rw [wd_len]; exact getD_words hwl (by rw [hw5]; exact hlt.2)
    have e1' : wvs[((a : Nat) : Int).toNat]? = some (Value.str (wd (ws.getD a [])) t1) := by rw [Int.toNat_natCast]; exact e1
    have e2' : wvs[((b : Nat) : Int).toNat]? = some (Value.str (wd (ws.getD b [])) t2) := by rw [Int.toNat_natCast]; exact e2
    have ha5 : a < 5 := hlt.1
    have hb5 : b < 5 := hlt.2
    have hTp8 : h8.IsTuple Tp #[Value.int (a : Nat) ta, Value.int (b : Nat) tb] := by
      exact ⟨_, (N8 (Tp, tupObj #[.int (a : Nat) ta, .int (b : Nat) tb] kt) (.tail _ (.tail _ (.tail _ (.tail _ (.tail _ (.tail _ (List.mem_append_right _ (.tail _ (.tail _ (.tail _ (.tail _ (.tail _ hTm))))))))))))).1, rfl, kt, rfl⟩
    refine asgF_zip (s := ⟨_, _, _, _, _⟩) rfl rfl rfl rfl rfl rfl F8 N8 hTz hTp8 ?_
    intro h7 tk7 F7 N7
    have N6 := swap_zip N7
    clear F8 N8 N7 e1 e2
    refine absQ ?_; intro R8 hR8
    have hia := item_pqrst ha5
    have hib := item_pqrst hb5
    have hrest : ∀ p ∈ (W, listOf wvs.toArray kw) :: (L + 2, b2) :: (L + 3, b3') :: (I + 4, o1) :: (I + 2, o2) :: (I + 3, o3) :: (I, o4) :: (I + 1, o5) :: (Fl, listOf fvs.toArray kf) :: (Pl, listOf pvs.toArray kp) :: (tups ++ post), p.1 ≠ Wn := by
      have lWI : @LT.lt Nat _ Wn I := lI (Wn, _) (.head _)
      have key : ∀ n, @Ne Nat (I + n) Wn := fun n => Nat.ne_of_gt (Nat.lt_of_lt_of_le lWI (Nat.le_add_right _ _))
      refine List.forall_mem_cons.mpr ⟨Nat.ne_of_lt lW.2.2.1, List.forall_mem_cons.mpr ⟨Nat.ne_of_lt lW.2.2.2.1, List.forall_mem_cons.mpr ⟨Nat.ne_of_lt lW.2.2.2.2.1, List.forall_mem_cons.mpr ⟨key 4, List.forall_mem_cons.mpr ⟨key 2, List.forall_mem_cons.mpr ⟨key 3, List.forall_mem_cons.mpr ⟨key 0, List.forall_mem_cons.mpr ⟨key 1, List.forall_mem_cons.mpr ⟨Nat.ne_of_lt lW.1, List.forall_mem_cons.mpr ⟨Nat.ne_of_lt lW.2.1, fun p hp => ?_⟩⟩⟩⟩⟩⟩⟩⟩⟩⟩
      rcases List.mem_append.mp hp with hp | hp
      · exact Nat.ne_of_gt (Nat.lt_trans lWI (Nat.lt_of_le_of_lt (Nat.le_add_right _ _) (hup p hp)))
      · exact Nat.ne_of_lt (lt_of_all lW.2.2.2.2.2 p hp)
    have hits : its.length ≤ 1000 := by rw [hJ.len, List.length_map]; exact Nat.le_trans (List.length_take_le' ..) (by decide)
    repeat' (walk_at "m1")
    · rename (_ != _) = true => hx
      rw [coll_neg] at hx
      simp at hx
    · rename (_ != _) = true => hx
      rw [coll_pos] at hx
      simp at hx
    · rename (_ == _) = true => hx
      rename Fr _ _ _ _ => F9
      rename News _ _ _ _ => N9
      rename @LT.lt Nat _ Wn _ ∧ _ => lR
      rw [hia, hib, List.push_toArray] at N9
      have lR4 := And.intro lR.1 lR.2.2.2.2.1
      dsimp only [ForPost]
      exact win_end F9 N9 hJ hab (show winL ws (a, b) = (112 + a, 112 + b) by unfold winL winB; exact if_pos hx) hup lR4.2
    · rename (_ == _) = false => hx
      rename Fr _ _ _ _ => F9
      rename News _ _ _ _ => N9
      rename @LT.lt Nat _ Wn _ ∧ _ => lR
      rw [hia, hib, List.push_toArray] at N9
      have lR4 := And.intro lR.1 lR.2.2.2.2.1
      dsimp only [ForPost]
      exact win_end F9 N9 hJ hab (show winL ws (a, b) = (112 + b, 112 + a) by unfold winL winB; exact if_neg (by rw [hx]; exact Bool.false_ne_true)) hup lR4.2
end
end
section
theorem swap_tab {h₀ h : Heap} {L : Addr} {a b c q1 q2 q3 : Addr × Obj} {tups post : List (Addr × Obj)} (N : News h₀ L h (a :: b :: c :: (tups ++ q1 :: q2 :: q3 :: post))) : News h₀ L h (a :: b :: c :: q1 :: q2 :: q3 :: (tups ++ post)) := fun p hp => N p (by
  simp only [List.mem_cons, List.mem_append] at hp ⊢
  rcases hp with h | h | h | h | h | h | h | h <;> simp [h])
section
local macro_rules | `(tactic| k_all) => `(tactic| assumption)
theorem main_s5 {w : World} {mean : ExcName → Option Value} {mg mb : Str → Option Value} {g : Heap} {L fa : Addr} {ccd : Value} {u : Str → Option Value} {base : Heap} {A₀ : Around} {s : Shared} {Q : Flow → Shared → Prop} {E : Value → Shared → Prop}
    {dp un : Nat} {gd : Option (List Code)} {outer : List Env} {sc : Scope} {sts : List Stmt} (hsc : sc = fnScope 32) (hsts : sts = ((fnBody 32).drop 10).take 1) {post : List (Addr × Obj)} {Wn : Addr} {nvs : List Value} {kn : Nat} {b3 b4 : Obj} {wl : List (Nat × Nat)}
    (B : Below A₀ base outer g) (X : (heapK w.params).In g) (T : Top viewK (looseW viewK lse) mean mg mb g)
    (F : Fr g L s.heap u) (N : News g L s.heap ((Wn, listOf nvs.toArray kn) :: (L + 3, b3) :: (L + 4, b4) :: post))
    (hb3 : b3.data = .cell (some (.ref Wn))) (hb4 : b4.data = .cell none) (hp : PairsAt post nvs wl) (hw : ∀ p ∈ wl, p.1 ∈ lowL ∧ p.2 ∈ lowL) (hl10 : wl.length ≤ 10)
    (hpL : ∀ p ∈ post, p.1 ≠ L + 4)
    (hd1 : dp + 20 < recursionLimit) (hu1 : un + 300 < cLine)
    (hret : ∀ h' tk' u' T dx H td nd kh its tups b4', Fr g L h' u' → News g L h' ((T, instObj 245 dx) :: (dx, hdrDict w H td nd) :: (H, listOf its.toArray kh) :: (Wn, listOf nvs.toArray kn) :: (L + 3, b3) :: (L + 4, b4') :: (tups ++ post)) → b4'.data = .cell (some (.ref T)) → HdrsAt tups its (hsOf wl) → (∀ q ∈ (Wn, listOf nvs.toArray kn) :: (L + 3, b3) :: (L + 4, b4) :: post, q.1 < T ∧ q.1 < dx ∧ q.1 < H ∧ ∀ p ∈ tups, q.1 < p.1) → Q .next { s with heap := h', toks := tk' }) :
    wpAny (model PySem.Challenge.rw_ti0055_01.row.toRowW.prog w) (ktrTop dp un gd (Str.ofString "law") sc L fa ccd (cellsFrom (L + 1) sc.names []) outer) (execs sts (envOfC (Str.ofString "law") sc L fa ccd)) Q E s := by
  revert X; k_fill; intro X
  (conv at hsc => rhs; whnf); subst hsc
  (conv at hsts => rhs; whnf); dsimp only [List.take] at hsts; subst hsts
  repeat' ((fail_if_success (with_reducible refine is_call ?_)); walk_at "m1")
  refine' tab_call (s := ⟨_, _, _, _, _⟩) (l := Wn) (news := (L + 3, b3) :: (L + 4, b4) :: post) (by assumption) (by assumption) (by assumption) (by assumption) (by assumption) (by rfl) ?hp hw hl10 (by omega) (by omega) ?_
  case hp => exact ⟨hp.len, fun i v e => by obtain ⟨T, a, b, t, t', k, h1, h2, h3⟩ := hp.at' i v e; exact ⟨T, a, b, t, t', k, h1, h2, .tail _ (.tail _ h3)⟩⟩
  intro T dx H td nd kh its tups h1 tk1 F1 N1 hh1 hlt1
  have N2 := swap_tab N1
  have l4 := hlt1 (L + 4, b4) (.tail _ (.tail _ (.head _)))
  have nT : @Ne Nat T (L + 4) := Nat.ne_of_gt l4.1
  have nd1 : @Ne Nat dx (L + 4) := Nat.ne_of_gt l4.2.1
  have nH : @Ne Nat H (L + 4) := Nat.ne_of_gt l4.2.2.1
  have nW := ne_cel N (.head _) (show (L + 4, b4) ∈ _ by k_mem) hb4 (by nofun)
  have hx : ∀ p ∈ tups ++ post, p.1 ≠ L + 4 := by
    intro p hp
    rcases List.mem_append.mp hp with hp | hp
    · exact Nat.ne_of_gt (l4.2.2.2 p hp)
    · exact hpL p hp
  clear N1
  repeat' (walk_at "m1")
  rename_i h2 b4' F2 N3 hb4'
  (try dsimp only)
  (try refine wpAny_execs_nil ?_)
  exact hret h2 _ _ T dx H td nd kh its tups b4' F2 N3 hb4' hh1 hlt1
end
end
section
local macro_rules | `(tactic| walk_at "z") => `(tactic| fail)
noncomputable def kvOf (as : List Addr) : List (Str × Value) := (List.range as.length).map fun j => (wd [112 + j], Value.ref (as.getD j 0))
theorem kvOf_snoc (as : List Addr) (a : Addr) : kvOf (as ++ [a]) = kvOf as ++ [(wd [112 + as.length], .ref a)] := by
  unfold kvOf
  rw [List.length_append, show as.length + [a].length = as.length + 1 from rfl, List.range_succ, List.map_append]
  congr 1
  · apply List.map_congr_left
    intro j hj
    have hj' : j < as.length := List.mem_range.mp hj
    rw [List.getD_eq_getElem?_getD, List.getD_eq_getElem?_getD, List.getElem?_append_left hj']
  · simp
theorem kvOf_len (as : List Addr) : (kvOf as).length = as.length := by simp [kvOf]
theorem keys_nodup {n : Nat} (h : n ≤ 5) : ((List.range (n + 1)).map fun j => wd [112 + j]).Nodup ∨ n = 5 := by
  rcases (by omega : n = 0 ∨ n = 1 ∨ n = 2 ∨ n = 3 ∨ n = 4 ∨ n = 5) with rfl | rfl | rfl | rfl | rfl | rfl
  · exact .inl (by decide)
  · exact .inl (by decide)
  · exact .inl (by decide)
  · exact .inl (by decide)
  · exact .inl (by decide)
  · exact .inr rfl
theorem kvOf_keys (as : List Addr) : (kvOf as).map (·.1) = (List.range as.length).map fun j => wd [112 + j] := by
  unfold kvOf
  rw [List.map_map]
  rfl
theorem kvOf_stored {as : List Addr} {a : Addr} (h : as.length < 5) : stored (kvOf as) (wd [112 + as.length]) (.ref a) = kvOf (as ++ [a]) := by
  rw [kvOf_snoc]
  refine stored_absent (valueAt_none_of_not_mem ?_) _
  rw [kvOf_keys]
  rcases keys_nodup (Nat.le_of_lt h) with h1 | h1
  · rw [List.range_succ, List.map_append, List.nodup_append] at h1
    exact fun hm => h1.2.2 _ hm _ (.head _) rfl
  · omega
theorem kvOf_at {as : List Addr} (h : as.length ≤ 5) {j : Nat} (hj : j < as.length) : valueAt (kvOf as) (wd [112 + j]) = some (.ref (as.getD j 0)) := by
  refine valueAt_of_get (i := j) ?_ ?_
  · rw [kvOf_keys]
    rcases keys_nodup (n := as.length - 1) (by omega) with h1 | h1
    · rwa [show as.length - 1 + 1 = as.length by omega] at h1
    · omega
  · unfold kvOf
    rw [List.getElem?_map, List.getElem?_range hj]
    rfl
structure DcAt (prog : Program) (w : World) (od : Obj) (as : List Addr) (lists : List (Addr × Obj)) (f : Nat → List Nat) (n : Nat) : Prop where
  dict : od.IsDictOf (PySem.strKind prog w) (kvOf as)
  len : as.length = n
  at' : ∀ (j : Nat), j < n → ∃ avs k, (as.getD j 0, listOf (List.toArray avs) k) ∈ lists ∧ TxtsAre avs ((f (112 + j)).map fun c => [c])
theorem DcAt.snoc {prog : Program} {w : World} {od od' : Obj} {as : List Addr} {lists lists' : List (Addr × Obj)} {f : Nat → List Nat} {n : Nat} {D : Addr} {avs : List Value} {k : Nat} (h : DcAt prog w od as lists f n) (hd : od'.IsDictOf (PySem.strKind prog w) (kvOf (as ++ [D]))) (hsub : ∀ p ∈ lists, p ∈ lists') (hm : (D, listOf avs.toArray k) ∈ lists') (ht : TxtsAre avs ((f (112 + n)).map fun c => [c])) : DcAt prog w od' (as ++ [D]) lists' f (n + 1) := by
  refine ⟨hd, by rw [List.length_append, h.len]; rfl, fun j hj => ?_⟩
  by_cases hjn : j < n
  · obtain ⟨a', k', h1, h2⟩ := h.at' j hjn
    refine ⟨a', k', ?_, h2⟩
    rw [List.getD_eq_getElem?_getD, List.getElem?_append_left (by rw [h.len]; exact hjn), ← List.getD_eq_getElem?_getD]
    exact hsub _ h1
  · have : j = n := by omega
    subst this
    refine ⟨avs, k, ?_, ht⟩
    rw [List.getD_eq_getElem?_getD, List.getElem?_append_right (by rw [h.len]; omega), h.len, Nat.sub_self]
    exact hm
theorem low_split : ∀ c ∈ lowL, ∃ j, j < 5 ∧ c = 112 + j := by decide
theorem DcAt.adj {prog : Program} {w : World} {od : Obj} {as : List Addr} {lists news : List (Addr × Obj)} {f : Nat → List Nat} {d : Addr} (h : DcAt prog w od as lists f 5) (hsub : ∀ p ∈ lists, p ∈ news) (hm : (d, od) ∈ news) : AdjD prog w news d f := by
  refine ⟨od, kvOf as, hm, h.dict, fun c hc => ?_⟩
  obtain ⟨j, hj, rfl⟩ := low_split c hc
  obtain ⟨avs, k, h1, h2⟩ := h.at' j hj
  exact ⟨_, avs, k, kvOf_at (by rw [h.len]; exact Nat.le_refl _) (by rw [h.len]; exact hj), hsub _ h1, h2⟩
theorem sign_pqrst {i : Nat} (h : i < 5) : sign (Str.ofString "pqrst") i = wd [112 + i] := by
  rcases (by omega : i = 0 ∨ i = 1 ∨ i = 2 ∨ i = 3 ∨ i = 4) with rfl | rfl | rfl | rfl | rfl <;> decide +kernel
theorem low_at {i : Nat} (h : i < 5) : 112 + i ∈ lowL := by
  rcases (by omega : i = 0 ∨ i = 1 ∨ i = 2 ∨ i = 3 ∨ i = 4) with rfl | rfl | rfl | rfl | rfl <;> decide
theorem nam_low : ∀ c ∈ lowL, [c] ∈ namL := by decide
theorem low_one : ∀ c ∈ lowL, Txt.lower (wd [c]) = wd [c] := by decide +kernel
theorem low_X : ∀ c ∈ lowL, Txt.lower (wd [88, c - 32]) = wd [120, c] := by decide +kernel
theorem hsOf_nam {wl : List (Nat × Nat)} (h : ∀ p ∈ wl, p.1 ∈ lowL ∧ p.2 ∈ lowL) : ∀ q ∈ hsOf wl, q.1 ∈ namL := by
  intro q hq
  obtain ⟨p, hp, hq⟩ := List.mem_flatMap.mp hq
  rcases List.mem_cons.mp hq with rfl | hq
  · exact nam_up _ (h p hp).1
  · rw [List.mem_singleton.mp hq]; exact nam_x _ (h p hp).2
noncomputable def beatF (wl : List (Nat × Nat)) (c : Nat) : List Nat := ((hsOf wl).filter fun p => lowN p.1 == [c]).map (·.2)
noncomputable def overF (wl : List (Nat × Nat)) (c : Nat) : List Nat := ((hsOf wl).filter fun p => lowN p.1 == [120, c]).map (·.2)
theorem swap_gal {h₀ h : Heap} {L : Addr} {i c d t x z q4 q5 : Addr × Obj} {lists post : List (Addr × Obj)} (N : News h₀ L h (i :: c :: d :: (lists ++ t :: x :: z :: q4 :: q5 :: post))) : News h₀ L h (t :: x :: z :: q4 :: q5 :: i :: c :: d :: (lists ++ post)) := fun p hp => N p (by
  simp only [List.mem_cons, List.mem_append] at hp ⊢
  rcases hp with h | h | h | h | h | h | h | h | h | h <;> simp [h])
theorem unswap_gal {h₀ h : Heap} {L : Addr} {n i c d t x z q4 q5 : Addr × Obj} {lists post : List (Addr × Obj)} (N : News h₀ L h (n :: t :: x :: z :: q4 :: q5 :: i :: c :: d :: (lists ++ post))) : News h₀ L h (i :: c :: d :: ((n :: lists) ++ t :: x :: z :: q4 :: q5 :: post)) := fun p hp => N p (by
  simp only [List.mem_cons, List.mem_append] at hp ⊢
  rcases hp with h | h | h | (h | h) | h | h | h | h | h | h <;> simp [h])
theorem swap_fin {h₀ h : Heap} {L : Addr} {d t x z q4 q5 : Addr × Obj} {lists post : List (Addr × Obj)} (N : News h₀ L h (d :: (lists ++ t :: x :: z :: q4 :: q5 :: post))) : News h₀ L h (d :: t :: x :: z :: q4 :: q5 :: (lists ++ post)) := fun p hp => N p (by
  simp only [List.mem_cons, List.mem_append] at hp ⊢
  rcases hp with h | h | h | h | h | h | h | h <;> simp [h])
theorem is_dcomp {M : Model} {A : Around} {env : Env} {k v : Expr} {gs : List Comprehension} {sc : Scope} {p : Pos} {Q : Value → Shared → Prop} {E : Value → Shared → Prop} {s : Shared} (h : wpAny M A (eval (.DictComp k v gs sc p) env) Q E s) : wpAny M A (eval (.DictComp k v gs sc p) env) Q E s := h
theorem isDict_new {prog : Program} {w : World} : ({ cls := .type "dict", data := .dict #[] } : Obj).IsDictOf (PySem.strKind prog w) [] := by
  have h := Heap.DictOf.new (knd := PySem.strKind prog w) (default : Heap)
  obtain ⟨o, e, hd⟩ := Heap.dictOf_iff.mp h
  have e2 : ((default : Heap).push { cls := .type "dict", data := .dict #[] }).get? (default : Heap).objs.size = some { cls := .type "dict", data := .dict #[] } := Heap.get?_push_size _ rfl
  rw [e2] at e; cases e
  exact hd
section
local macro_rules | `(tactic| k_all) => `(tactic| assumption)
theorem main_s6 {w : World} {mean : ExcName → Option Value} {mg mb : Str → Option Value} {g : Heap} {L fa : Addr} {ccd : Value} {u : Str → Option Value} {base : Heap} {A₀ : Around} {s : Shared} {Q : Flow → Shared → Prop} {E : Value → Shared → Prop}
    {dp un : Nat} {gd : Option (List Code)} {outer : List Env} {sc : Scope} {sts : List Stmt} (hsc : sc = fnScope 32) (hsts : sts = ((fnBody 32).drop 11).take 1) {post : List (Addr × Obj)} {Tb dx H : Addr} {its : List Value} {kh nd : Nat} {td : Tok} {b4 b5 : Obj} {wl : List (Nat × Nat)}
    (B : Below A₀ base outer g) (X : (heapK w.params).In g) (T : Top viewK (looseW viewK lse) mean mg mb g)
    (F : Fr g L s.heap u) (N : News g L s.heap ((Tb, instObj 245 dx) :: (dx, hdrDict w H td nd) :: (H, listOf its.toArray kh) :: (L + 4, b4) :: (L + 5, b5) :: post))
    (hb4 : b4.data = .cell (some (.ref Tb))) (hb5 : b5.data = .cell none) (hp : HdrsAt post its (hsOf wl)) (hw : ∀ p ∈ wl, p.1 ∈ lowL ∧ p.2 ∈ lowL) (hl10 : wl.length ≤ 10)
    (hpL : ∀ p ∈ post, p.1 ≠ L + 5) (nT : @Ne Nat Tb (L + 5)) (nd1 : @Ne Nat dx (L + 5)) (nH : @Ne Nat H (L + 5))
    (hd1 : dp + 20 < recursionLimit) (hu1 : un + 300 < cLine)
    (hret : ∀ h' tk' u' Db od as lists b5', Fr g L h' u' → News g L h' ((Db, od) :: (Tb, instObj 245 dx) :: (dx, hdrDict w H td nd) :: (H, listOf its.toArray kh) :: (L + 4, b4) :: (L + 5, b5') :: (lists ++ post)) → b5'.data = .cell (some (.ref Db)) → DcAt PySem.Challenge.rw_ti0055_01.row.toRowW.prog w od as lists (beatF wl) 5 → (∀ q ∈ (Tb, instObj 245 dx) :: (dx, hdrDict w H td nd) :: (H, listOf its.toArray kh) :: (L + 4, b4) :: (L + 5, b5) :: post, q.1 < Db ∧ ∀ p ∈ lists, q.1 < p.1) → Q .next { s with heap := h', toks := tk' }) :
    wpAny (model PySem.Challenge.rw_ti0055_01.row.toRowW.prog w) (ktrTop dp un gd (Str.ofString "law") sc L fa ccd (cellsFrom (L + 1) sc.names []) outer) (execs sts (envOfC (Str.ofString "law") sc L fa ccd)) Q E s := by
  revert X; k_fill; intro X
  (conv at hsc => rhs; whnf); subst hsc
  (conv at hsts => rhs; whnf); dsimp only [List.take] at hsts; subst hsts
  repeat' ((fail_if_success (with_reducible refine is_dcomp ?_)); walk_at "m1")
  refine DictComp_own (s := s) (cy := none) F (by with_unfolding_all rfl) (fun _ _ _ => ⟨rfl, rfl⟩) (by rfl) (by decide) (fun _ => rfl) ?_
  repeat' ((fail_if_success (with_reducible refine is_pyIter ?_)); walk_at "m1")
  with_unfolding_all refine' open_str (s := ⟨_, _, _, _, _⟩) (σ := Obj × List Addr × List (Addr × Obj)) ?hh2 (compK_D _ _ _ _ _ _ _) F N (fun I x => (I + 1, x.1) :: (x.2.2 ++ (Tb, instObj 245 dx) :: (dx, hdrDict w H td nd) :: (H, listOf its.toArray kh) :: (L + 4, b4) :: (L + 5, b5) :: post)) (fun I i x => DcAt PySem.Challenge.rw_ti0055_01.row.toRowW.prog w x.1 x.2.1 x.2.2 (beatF wl) i ∧ ∀ p ∈ x.2.2, I + 2 < p.1) ({ cls := .type "dict", data := .dict #[] }, [], []) ?hn2 ?hj2 ?hoff2 ?turn2 ?fin2
  case hh2 => rfl
  case hn2 => exact fun _ _ _ hp => hp
  case hj2 => exact fun _ _ => ⟨⟨isDict_new, rfl, fun j hj => absurd hj (Nat.not_lt_zero _)⟩, fun p hp => nomatch hp⟩
  case hoff2 => exact fun I i x lt hJ => off_app hJ.2 lt
  case turn2 =>
    rintro I i ⟨oD, as, lists⟩ h6 tk6 oI oC mC t E' lI hi5' ⟨hJ, hup⟩ hC F6 N6
    have hi5 : i < 5 := hi5'
    dsimp only at hJ hup N6
    rw [sign_pqrst hi5]
    have hll : 112 + i ∈ lowL := low_at hi5
    have hsz1 : (wd [112 + i]).length = 1 := rfl
    refine asg_own (s := ⟨_, _, _, _, _⟩) F6 N6 (upd_Ca hup lI) hC rfl rfl ?_
    intro h5 oC5 tk5 mN F5 N5 hC5 hlet hoth
    refine tests_nil ?_
    rw [if_pos rfl]
    have N4 := swap_gal N5
    refine emit_store (s := ⟨_, _, _, _, _⟩) F5 ?_
    clear F6 N6 N5
    repeat' ((fail_if_success (with_reducible refine is_call ?_)); walk_at "m1")
    skip
    refine' gal_call (s := ⟨_, _, _, _, _⟩) (T := Tb) (dx := dx) (H := H) (its := its) (kh := kh) (nd := nd) (td := td) (hs := hsOf wl) (news := (L + 4, b4) :: (L + 5, b5) :: (I, oI) :: (I + 2, oC5) :: (I + 1, oD) :: (lists ++ post)) (by assumption) (by assumption) (by assumption) (by assumption) (by assumption) (by rfl) ?hh (hsOf_nam hw) ?hhl (nam_low _ hll) (low_one _ hll) (Nat.le_of_ble_eq_true rfl) (by omega) (by omega) ?_
    case hh => exact ⟨hp.len, fun i v e => by obtain ⟨T, a, b, t, t', k, h1, h2, h3⟩ := hp.at' i v e; exact ⟨T, a, b, t, t', k, h1, h2, .tail _ (.tail _ (.tail _ (.tail _ (.tail _ (List.mem_append_right _ h3)))))⟩⟩
    case hhl => rw [hsOf_len]; omega
    intro D vs k h4 tk4 F4 N3 hv4 hD4
    have hID : I + 2 < D := hD4 (I + 2, oC5) (.tail _ (.tail _ (.tail _ (.tail _ (.tail _ (.tail _ (.head _)))))))
    have hup2 : ∀ p ∈ (D, listOf vs.toArray k) :: lists, I + 2 < p.1 := List.forall_mem_cons.mpr ⟨hID, hup⟩
    refine ⟨wd [112 + i], t, kvOf as, oD, _, _, h4, tk4, rfl, rfl, F4, unswap_gal N3, upd_Da hup2 lI, hJ.dict, ?_, fun h3 oD3 F3 N2 hd3 => ?_⟩
    · rw [kvOf_len, hJ.len]; omega
    · refine ⟨(oD3, as ++ [D], (D, listOf vs.toArray k) :: lists), oC5, mN, h3, _, rfl, F3, N2, hC5, ?_, hup2⟩
      have hst := hJ.len
      have hd5 : oD3.IsDictOf (PySem.strKind PySem.Challenge.rw_ti0055_01.row.toRowW.prog w) (kvOf (as ++ [D])) := by
        rw [← kvOf_stored (by omega), hst]; exact hd3
      exact hJ.snoc hd5 (fun p hp => .tail _ hp) (.head _) (by unfold beatF; rw [List.map_map]; exact hv4)
  case fin2 =>
    rintro I ⟨oD, as, lists⟩ hp2 lI ⟨hJ, hup⟩ h8 tk8 F8 N8
    have N7 := swap_fin N8
    have hx : ∀ p ∈ lists ++ post, p.1 ≠ L + 5 := by
      intro p hp
      rcases List.mem_append.mp hp with hp | hp
      · exact Nat.ne_of_gt (Nat.lt_trans (lI (L + 5, b5) (.tail _ (.tail _ (.tail _ (.tail _ (.head _)))))) (Nat.lt_trans (Nat.lt_succ_of_lt (Nat.lt_succ_self _)) (hup p hp)))
      · exact hpL p hp
    have nI : @Ne Nat (I + 1) (L + 5) := Nat.ne_of_gt (Nat.lt_succ_of_lt (lI (L + 5, b5) (.tail _ (.tail _ (.tail _ (.tail _ (.head _)))))))
    clear F N N8
    repeat' (walk_at "m1")
    rename_i h7 b5' F6 N6 hb5'
    (try dsimp only)
    (try refine wpAny_execs_nil ?_)
    exact hret h7 _ _ (I + 1) oD as lists b5' F6 N6 hb5' hJ fun q hq => ⟨Nat.lt_succ_of_lt (lI q hq), fun p hp => Nat.lt_trans (lI q hq) (Nat.lt_trans (Nat.lt_succ_of_lt (Nat.lt_succ_self _)) (hup p hp))⟩
end
end
section
section
local macro_rules | `(tactic| k_all) => `(tactic| assumption)
theorem main_s7 {w : World} {mean : ExcName → Option Value} {mg mb : Str → Option Value} {g : Heap} {L fa : Addr} {ccd : Value} {u : Str → Option Value} {base : Heap} {A₀ : Around} {s : Shared} {Q : Flow → Shared → Prop} {E : Value → Shared → Prop}
    {dp un : Nat} {gd : Option (List Code)} {outer : List Env} {sc : Scope} {sts : List Stmt} (hsc : sc = fnScope 32) (hsts : sts = ((fnBody 32).drop 12).take 1) {post : List (Addr × Obj)} {Tb dx H : Addr} {its : List Value} {kh nd : Nat} {td : Tok} {b4 b5 : Obj} {wl : List (Nat × Nat)}
    (B : Below A₀ base outer g) (X : (heapK w.params).In g) (T : Top viewK (looseW viewK lse) mean mg mb g)
    (F : Fr g L s.heap u) (N : News g L s.heap ((Tb, instObj 245 dx) :: (dx, hdrDict w H td nd) :: (H, listOf its.toArray kh) :: (L + 4, b4) :: (L + 6, b5) :: post))
    (hb4 : b4.data = .cell (some (.ref Tb))) (hb5 : b5.data = .cell none) (hp : HdrsAt post its (hsOf wl)) (hw : ∀ p ∈ wl, p.1 ∈ lowL ∧ p.2 ∈ lowL) (hl10 : wl.length ≤ 10)
    (hpL : ∀ p ∈ post, p.1 ≠ L + 6) (nT : @Ne Nat Tb (L + 6)) (nd1 : @Ne Nat dx (L + 6)) (nH : @Ne Nat H (L + 6))
    (hd1 : dp + 20 < recursionLimit) (hu1 : un + 300 < cLine)
    (hret : ∀ h' tk' u' Db od as lists b5', Fr g L h' u' → News g L h' ((Db, od) :: (Tb, instObj 245 dx) :: (dx, hdrDict w H td nd) :: (H, listOf its.toArray kh) :: (L + 4, b4) :: (L + 6, b5') :: (lists ++ post)) → b5'.data = .cell (some (.ref Db)) → DcAt PySem.Challenge.rw_ti0055_01.row.toRowW.prog w od as lists (overF wl) 5 → (∀ q ∈ (Tb, instObj 245 dx) :: (dx, hdrDict w H td nd) :: (H, listOf its.toArray kh) :: (L + 4, b4) :: (L + 6, b5) :: post, q.1 < Db ∧ ∀ p ∈ lists, q.1 < p.1) → Q .next { s with heap := h', toks := tk' }) :
    wpAny (model PySem.Challenge.rw_ti0055_01.row.toRowW.prog w) (ktrTop dp un gd (Str.ofString "law") sc L fa ccd (cellsFrom (L + 1) sc.names []) outer) (execs sts (envOfC (Str.ofString "law") sc L fa ccd)) Q E s := by
  revert X; k_fill; intro X
  (conv at hsc => rhs; whnf); subst hsc
  (conv at hsts => rhs; whnf); dsimp only [List.take] at hsts; subst hsts
  repeat' ((fail_if_success (with_reducible refine is_dcomp ?_)); walk_at "m1")
  refine DictComp_own (s := s) (cy := none) F (by with_unfolding_all rfl) (fun _ _ _ => ⟨rfl, rfl⟩) (by rfl) (by decide) (fun _ => rfl) ?_
  repeat' ((fail_if_success (with_reducible refine is_pyIter ?_)); walk_at "m1")
  with_unfolding_all refine' open_str (s := ⟨_, _, _, _, _⟩) (σ := Obj × List Addr × List (Addr × Obj)) ?hh2 (compK_D _ _ _ _ _ _ _) F N (fun I x => (I + 1, x.1) :: (x.2.2 ++ (Tb, instObj 245 dx) :: (dx, hdrDict w H td nd) :: (H, listOf its.toArray kh) :: (L + 4, b4) :: (L + 6, b5) :: post)) (fun I i x => DcAt PySem.Challenge.rw_ti0055_01.row.toRowW.prog w x.1 x.2.1 x.2.2 (overF wl) i ∧ ∀ p ∈ x.2.2, I + 2 < p.1) ({ cls := .type "dict", data := .dict #[] }, [], []) ?hn2 ?hj2 ?hoff2 ?turn2 ?fin2
  case hh2 => rfl
  case hn2 => exact fun _ _ _ hp => hp
  case hj2 => exact fun _ _ => ⟨⟨isDict_new, rfl, fun j hj => absurd hj (Nat.not_lt_zero _)⟩, fun p hp => nomatch hp⟩
  case hoff2 => exact fun I i x lt hJ => off_app hJ.2 lt
  case turn2 =>
    rintro I i ⟨oD, as, lists⟩ h6 tk6 oI oC mC t E' lI hi5' ⟨hJ, hup⟩ hC F6 N6
    have hi5 : i < 5 := hi5'
    dsimp only at hJ hup N6
    rw [sign_pqrst hi5]
    have hll : 112 + i ∈ lowL := low_at hi5
    have hsz1 : (wd [112 + i]).length = 1 := rfl
    refine asg_own (s := ⟨_, _, _, _, _⟩) F6 N6 (upd_Ca hup lI) hC rfl rfl ?_
    intro h5 oC5 tk5 mN F5 N5 hC5 hlet hoth
    refine tests_nil ?_
    rw [if_pos rfl]
    have N4 := swap_gal N5
    refine emit_store (s := ⟨_, _, _, _, _⟩) F5 ?_
    clear F6 N6 N5
    repeat' ((fail_if_success (with_reducible refine is_call ?_)); walk_at "m1")
    rw [upper_one _ hll, show Str.ofString "X" ++ wd [112 + i - 32] = wd [88, 112 + i - 32] from wd_app [88] [112 + i - 32]]
    refine' gal_call (s := ⟨_, _, _, _, _⟩) (T := Tb) (dx := dx) (H := H) (its := its) (kh := kh) (nd := nd) (td := td) (hs := hsOf wl) (news := (L + 4, b4) :: (L + 6, b5) :: (I, oI) :: (I + 2, oC5) :: (I + 1, oD) :: (lists ++ post)) (by assumption) (by assumption) (by assumption) (by assumption) (by assumption) (by rfl) ?hh (hsOf_nam hw) ?hhl (nam_x _ hll) (low_X _ hll) (Nat.le_of_ble_eq_true rfl) (by omega) (by omega) ?_
    case hh => exact ⟨hp.len, fun i v e => by obtain ⟨T, a, b, t, t', k, h1, h2, h3⟩ := hp.at' i v e; exact ⟨T, a, b, t, t', k, h1, h2, .tail _ (.tail _ (.tail _ (.tail _ (.tail _ (List.mem_append_right _ h3)))))⟩⟩
    case hhl => rw [hsOf_len]; omega
    intro D vs k h4 tk4 F4 N3 hv4 hD4
    have hID : I + 2 < D := hD4 (I + 2, oC5) (.tail _ (.tail _ (.tail _ (.tail _ (.tail _ (.tail _ (.head _)))))))
    have hup2 : ∀ p ∈ (D, listOf vs.toArray k) :: lists, I + 2 < p.1 := List.forall_mem_cons.mpr ⟨hID, hup⟩
    refine ⟨wd [112 + i], t, kvOf as, oD, _, _, h4, tk4, rfl, rfl, F4, unswap_gal N3, upd_Da hup2 lI, hJ.dict, ?_, fun h3 oD3 F3 N2 hd3 => ?_⟩
    · rw [kvOf_len, hJ.len]; omega
    · refine ⟨(oD3, as ++ [D], (D, listOf vs.toArray k) :: lists), oC5, mN, h3, _, rfl, F3, N2, hC5, ?_, hup2⟩
      have hst := hJ.len
      have hd5 : oD3.IsDictOf (PySem.strKind PySem.Challenge.rw_ti0055_01.row.toRowW.prog w) (kvOf (as ++ [D])) := by
        rw [← kvOf_stored (by omega), hst]; exact hd3
      exact hJ.snoc hd5 (fun p hp => .tail _ hp) (.head _) (by unfold overF; rw [List.map_map]; exact hv4)
  case fin2 =>
    rintro I ⟨oD, as, lists⟩ hp2 lI ⟨hJ, hup⟩ h8 tk8 F8 N8
    have N7 := swap_fin N8
    have hx : ∀ p ∈ lists ++ post, p.1 ≠ L + 6 := by
      intro p hp
      rcases List.mem_append.mp hp with hp | hp
      · exact Nat.ne_of_gt (Nat.lt_trans (lI (L + 6, b5) (.tail _ (.tail _ (.tail _ (.tail _ (.head _)))))) (Nat.lt_trans (Nat.lt_succ_of_lt (Nat.lt_succ_self _)) (hup p hp)))
      · exact hpL p hp
    have nI : @Ne Nat (I + 1) (L + 6) := Nat.ne_of_gt (Nat.lt_succ_of_lt (lI (L + 6, b5) (.tail _ (.tail _ (.tail _ (.tail _ (.head _)))))))
    clear F N N8
    repeat' (walk_at "m1")
    rename_i h7 b5' F6 N6 hb5'
    (try dsimp only)
    (try refine wpAny_execs_nil ?_)
    exact hret h7 _ _ (I + 1) oD as lists b5' F6 N6 hb5' hJ fun q hq => ⟨Nat.lt_succ_of_lt (lI q hq), fun p hp => Nat.lt_trans (lI q hq) (Nat.lt_trans (Nat.lt_succ_of_lt (Nat.lt_succ_self _)) (hup p hp))⟩
end
end
noncomputable def lowT (n : Nat) : Nat := if n = 65 then 97 else if n = 66 then 98 else n
noncomputable def subN (c d : Nat) : Nat := bif Nat.beq c d then 0 else bif Nat.beq (lowT c) (lowT d) then 1 else 2
noncomputable def kpN (c d : Nat) : Nat := 4 - subN c d
noncomputable def miN (x y : Nat) : Nat := bif Nat.ble x y then x else y
noncomputable def maN (x y : Nat) : Nat := bif Nat.ble x y then y else x
noncomputable def rowN (c : Nat) : List Nat → List Nat → Nat → Nat → List Nat
  | x :: a, r :: row, d, res => miN (d + subN c x) (miN r res + 2) :: rowN c a row r (miN (d + subN c x) (miN r res + 2))
  | _, _, _, _ => []
noncomputable def outN (a : List Nat) : List Nat → Nat → List Nat → List Nat
  | [], _, row => row
  | c :: b, j, row => outN a b (j + 2) (rowN c a row j j)
noncomputable def dpN (a b : List Nat) : Nat := (outN a b 0 ((List.range a.length).map fun i => 2 + 2 * i)).getLastD 0
noncomputable def lev3N (a b : List Nat) : Nat := bif Nat.beq a.length 0 || Nat.beq b.length 0 then 2 * (a.length + b.length) else bif Nat.blt b.length a.length then dpN b a else dpN a b
noncomputable def sameN : List Nat → List Nat → Nat
  | c :: a, d :: b => bif Nat.beq c d then sameN a b + 1 else 0
  | _, _ => 0
noncomputable def cutN2 : List Nat → List Nat → (List Nat → List Nat → Nat) → Nat
  | c :: a, d :: b, k => bif Nat.beq c d then cutN2 a b k else k (c :: a) (d :: b)
  | a, b, k => k a b
noncomputable def levN (a b : List Nat) : Nat := cutN2 a b fun a b => cutN2 a.reverse b.reverse fun a b => lev3N a.reverse b.reverse
noncomputable def dueRN (c : Nat) : List Nat → List Nat → Nat → List Nat
  | d :: b, w0 :: w1 :: ws, left => maN (maN (w0 + kpN c d) w1) left :: dueRN c b (w1 :: ws) (maN (maN (w0 + kpN c d) w1) left)
  | _, _, _ => []
noncomputable def dueWN (b : List Nat) : List Nat → List Nat → List Nat
  | [], ws => ws
  | c :: a, ws => dueWN b a (0 :: dueRN c b ws 0)
noncomputable def worN (a b : List Nat) : Nat := (dueWN b a (List.replicate (b.length + 1) 0)).getLastD 0
noncomputable def oneW : List (List Nat) := [[97],[65],[98],[66]]
noncomputable def extW (l : List (List Nat)) : List (List Nat) := l.flatMap fun w => [97 :: w, 65 :: w, 98 :: w, 66 :: w]
noncomputable def wordsN : List (List Nat) := [] :: (oneW ++ extW oneW ++ extW (extW oneW))
noncomputable def lvOk (a : List Nat) : Bool := wordsN.all fun b => Nat.beq (levN a b + worN a b) (2 * (a.length + b.length))
theorem lv0 : (wordsN.take 14).all lvOk = true := by decide +kernel
theorem lv1 : ((wordsN.drop 14).take 14).all lvOk = true := by decide +kernel
theorem lv2 : (((wordsN.drop 14).drop 14).take 14).all lvOk = true := by decide +kernel
theorem lv3 : ((((wordsN.drop 14).drop 14).drop 14).take 14).all lvOk = true := by decide +kernel
theorem lv4 : (((((wordsN.drop 14).drop 14).drop 14).drop 14).take 14).all lvOk = true := by decide +kernel
theorem lv5 : (((((wordsN.drop 14).drop 14).drop 14).drop 14).drop 14).all lvOk = true := by decide +kernel
theorem all_cut {f : List Nat → Bool} {l : List (List Nat)} (n : Nat) (h : (l.take n).all f = true) (k : (l.drop n).all f = true) : l.all f = true := by
  rw [← List.take_append_drop n l, List.all_append, h, k]; rfl
theorem lev_due_all : (wordsN.all fun a => wordsN.all fun b => Nat.beq (levN a b + worN a b) (2 * (a.length + b.length))) = true :=
  all_cut (f := lvOk) 14 lv0 (all_cut 14 lv1 (all_cut 14 lv2 (all_cut 14 lv3 (all_cut 14 lv4 lv5))))
noncomputable def Al (l : List Nat) : Prop := ∀ c ∈ l, c ∈ [97, 65, 98, 66]
theorem mem_ext {c : Nat} {w : List Nat} {l : List (List Nat)} (hc : c ∈ [97, 65, 98, 66]) (hw : w ∈ l) : c :: w ∈ extW l := by
  refine List.mem_flatMap.mpr ⟨w, hw, ?_⟩
  simp only [List.mem_cons, List.not_mem_nil, or_false] at hc
  rcases hc with rfl | rfl | rfl | rfl <;> simp
theorem mem_one {c : Nat} (hc : c ∈ [97, 65, 98, 66]) : [c] ∈ oneW := by
  simp only [List.mem_cons, List.not_mem_nil, or_false] at hc
  rcases hc with rfl | rfl | rfl | rfl <;> simp [oneW]
theorem mem_words : ∀ {l : List Nat}, Al l → l.length ≤ 3 → l ∈ wordsN
  | [], _, _ => .head _
  | [c], h, _ => .tail _ (List.mem_append_left _ (List.mem_append_left _ (mem_one (h c (.head _)))))
  | [c, d], h, _ => .tail _ (List.mem_append_left _ (List.mem_append_right _ (mem_ext (h c (.head _)) (mem_one (h d (.tail _ (.head _)))))))
  | [c, d, e], h, _ => .tail _ (List.mem_append_right _ (mem_ext (h c (.head _)) (mem_ext (h d (.tail _ (.head _))) (mem_one (h e (.tail _ (.tail _ (.head _))))))))
  | _ :: _ :: _ :: _ :: _, _, h => by simp at h
theorem lev_dueN {a b : List Nat} (ha : Al a) (hb : Al b) (h1 : a.length ≤ 3) (h2 : b.length ≤ 3) : levN a b + worN a b = 2 * (a.length + b.length) :=
  Nat.eq_of_beq_eq_true (List.all_eq_true.mp (List.all_eq_true.mp lev_due_all a (mem_words ha h1)) b (mem_words hb h2))
theorem subN_eq : ∀ c ∈ [97, 65, 98, 66], ∀ d ∈ [97, 65, 98, 66], subC (wd [c]) (wd [d]) = ((subN c d : Nat) : Int) := by decide +kernel
theorem kpN_eq : ∀ c ∈ [97, 65, 98, 66], ∀ d ∈ [97, 65, 98, 66], kept (wd [c]) (wd [d]) = ((kpN c d : Nat) : Int) := by decide +kernel
theorem miN_eq (x y : Nat) : ((miN x y : Nat) : Int) = if (x : Int) < (y : Int) then (x : Int) else (y : Int) := by
  unfold miN
  cases h : Nat.ble x y
  · have : ¬ x ≤ y := fun q => by rw [Nat.ble_eq_true_of_le q] at h; cases h
    rw [if_neg (by omega)]; rfl
  · have := Nat.le_of_ble_eq_true h
    by_cases h2 : (x : Int) < (y : Int)
    · rw [if_pos h2]; rfl
    · rw [if_neg h2]
      show (x : Int) = y
      omega
theorem maN_eq (x y : Nat) : ((maN x y : Nat) : Int) = max (x : Int) (y : Int) := by
  unfold maN
  cases h : Nat.ble x y
  · have : ¬ x ≤ y := fun q => by rw [Nat.ble_eq_true_of_le q] at h; cases h
    show (x : Int) = _
    omega
  · have := Nat.le_of_ble_eq_true h
    show (y : Int) = _
    omega
noncomputable def castL (l : List Nat) : List Int := l.map fun n => ((n : Nat) : Int)
theorem castL_len (l : List Nat) : (castL l).length = l.length := List.length_map ..
theorem castL_app (a b : List Nat) : castL (a ++ b) = castL a ++ castL b := List.map_append ..
theorem castL_get (l : List Nat) (i : Nat) : (castL l).getD i 0 = ((l.getD i 0 : Nat) : Int) := by
  unfold castL
  rw [List.getD_eq_getElem?_getD, List.getD_eq_getElem?_getD, List.getElem?_map]
  cases l[i]? <;> rfl
theorem item_wd {l : List Nat} {i : Nat} (h : i < l.length) : Txt.item (wd l) ((i : Nat) : Int) = wd [l.getD i 0] := by
  rw [eq_of_beq (item_closes (x := wd l) (i := (i : Int)) ⟨by omega, by rw [wd_len]; omega⟩)]
  simp [wd]
theorem item_wd_neg {l : List Nat} {q : Nat} (h : q < l.length) : Txt.item (wd l) (-((q : Nat) : Int) - 1) = wd [l.reverse.getD q 0] := by
  rw [eq_of_beq (item_closes_neg (x := wd l) (i := -((q : Nat) : Int) - 1) (j := ((l.length - 1 - q : Nat) : Int)) (by omega) (by rw [wd_len]; omega) (by rw [wd_len]; omega))]
  rw [Int.toNat_natCast]
  have e : l.reverse.getD q 0 = l.getD (l.length - 1 - q) 0 := by
    rw [List.getD_eq_getElem?_getD, List.getD_eq_getElem?_getD, List.getElem?_reverse h]
  rw [e]
  simp [wd]
theorem sign_wd (l : List Nat) (i : Nat) : sign (wd l) i = wd [l.getD i 0] := by simp [sign, wd]
theorem slice_from_wd {l : List Nat} {p : Nat} (h : p ≤ l.length) : Txt.slice (wd l) (some ((p : Nat) : Int)) none = wd (l.drop p) := by
  rw [eq_of_beq (slice_closes_fromL (x := wd l) (i := (p : Int)) (b := (l.length : Int)) (by omega) (by rw [wd_len]; omega) (by rw [wd_len]))]
  show wd _ = _
  congr 1
  show (((l.toArray).toList.drop _).take _) = _
  rw [Int.toNat_natCast, show ((l.length : Int) - (p : Int)).toNat = l.length - p by omega]
  show ((l.drop p).take _) = _
  exact List.take_of_length_le (by rw [List.length_drop]; omega)
theorem cutS_wd {l : List Nat} {q : Nat} (h : q ≤ l.length) : cutS (wd l) (-((q : Nat) : Int)) = wd ((l.reverse.drop q).reverse) := by
  have e : (l.reverse.drop q).reverse = l.take (l.length - q) := by
    rw [List.drop_reverse, List.reverse_reverse]
  rw [e]
  unfold cutS
  split
  · have : q = 0 := by omega
    subst this
    rw [Nat.sub_zero, List.take_length]
  · rw [slice_neg (by omega), wd_len]
    rw [eq_of_beq (slice_closes_toL (x := wd l) (j := max 0 (-((q : Nat) : Int) + l.length)) (by omega) (by rw [wd_len]; omega))]
    show wd _ = _
    congr 1
    show (((l.toArray).toList.drop (0 : Int).toNat).take _) = _
    rw [show (max 0 (-((q : Nat) : Int) + l.length) - 0).toNat = l.length - q by omega]
    rfl
theorem drop_cons {l : List Nat} {i : Nat} (h : i < l.length) : l.drop i = l.getD i 0 :: l.drop (i + 1) := by
  rw [List.drop_eq_getElem_cons h, List.getD_eq_getElem?_getD, List.getElem?_eq_getElem h]
  rfl
theorem al_get {l : List Nat} (h : Al l) {i : Nat} (hi : i < l.length) : l.getD i 0 ∈ [97, 65, 98, 66] := by
  rw [List.getD_eq_getElem?_getD, List.getElem?_eq_getElem hi]
  exact h _ (List.getElem_mem hi)
theorem getD_app {P R : List Int} {y : Int} {i : Nat} (h : P.length = i) : (P ++ y :: R).getD i 0 = y := by
  subst h
  rw [List.getD_eq_getElem?_getD, List.getElem?_append_right (Nat.le_refl _), Nat.sub_self]
  rfl
theorem set_app {P R : List Int} {x y : Int} {i : Nat} (h : P.length = i) : (P ++ y :: R).set i x = P ++ x :: R := by
  subst h
  rw [List.set_append_right _ _ (Nat.le_refl _), Nat.sub_self]
  rfl
theorem in_rel {c : Nat} {a row : List Nat} (hc : c ∈ [97, 65, 98, 66]) (ha : Al a) (hr : row.length = a.length) (d r : Nat) (m : Int) : ∀ i, i ≤ a.length →
    ∃ (P : List Nat) (di ri : Nat) (mi : Int), inF (wd [c]) (wd a) (castL row, (d : Int), (r : Int), m) i = (castL P ++ castL (row.drop i), (di : Int), (ri : Int), mi) ∧ P.length = i ∧ rowN c a row d r = P ++ rowN c (a.drop i) (row.drop i) di ri ∧ ri = P.getLastD r
  | 0, _ => ⟨[], d, r, m, rfl, rfl, rfl, rfl⟩
  | i + 1, hi => by
    obtain ⟨P, di, ri, mi, h1, h2, h3, h4⟩ := in_rel hc ha hr d r m i (by omega)
    have hia : i < a.length := by omega
    have hir : i < row.length := by omega
    rw [drop_cons hia, drop_cons hir] at h3
    rw [drop_cons hir] at h1
    have hP : (castL P).length = i := by rw [castL_len]; exact h2
    refine' ⟨P ++ [miN (di + subN c (a.getD i 0)) (miN (row.getD i 0) ri + 2)], row.getD i 0, miN (di + subN c (a.getD i 0)) (miN (row.getD i 0) ri + 2), ?_, ?_, by rw [List.length_append, h2]; rfl, ?_, ?_⟩
    rotate_left
    · show inStep _ _ (inF _ _ _ i) i = _
      rw [h1]
      unfold inStep
      simp only [Int.toNat_natCast]
      have e1 : (castL P ++ castL (row.getD i 0 :: row.drop (i + 1))).getD i 0 = ((row.getD i 0 : Nat) : Int) := getD_app hP
      rw [e1, item_wd hia, subN_eq c hc _ (al_get ha hia)]
      have e2 : ((miN (row.getD i 0) ri + 2 : Nat) : Int) = (if ((row.getD i 0 : Nat) : Int) < (ri : Int) then ((row.getD i 0 : Nat) : Int) else (ri : Int)) + 2 := by
        rw [Int.natCast_add, miN_eq]; rfl
      have e3 : ((miN (di + subN c (a.getD i 0)) (miN (row.getD i 0) ri + 2) : Nat) : Int) = (if (di : Int) + ((subN c (a.getD i 0) : Nat) : Int) < (if ((row.getD i 0 : Nat) : Int) < (ri : Int) then ((row.getD i 0 : Nat) : Int) else (ri : Int)) + 2 then (di : Int) + ((subN c (a.getD i 0) : Nat) : Int) else (if ((row.getD i 0 : Nat) : Int) < (ri : Int) then ((row.getD i 0 : Nat) : Int) else (ri : Int)) + 2) := by
        rw [miN_eq, e2, Int.natCast_add]
      rw [← e3]
      have e4 : (castL P ++ castL (row.getD i 0 :: row.drop (i + 1))).set i ((miN (di + subN c (a.getD i 0)) (miN (row.getD i 0) ri + 2) : Nat) : Int) = castL (P ++ [miN (di + subN c (a.getD i 0)) (miN (row.getD i 0) ri + 2)]) ++ castL (row.drop (i + 1)) := by
        rw [castL_app, List.append_assoc]
        exact set_app hP
      rw [e4]
    · rw [h3, List.append_assoc]
      rfl
    · rw [List.getLastD_concat]
theorem rowN_len {c : Nat} : ∀ {a row : List Nat} {d r : Nat}, row.length = a.length → (rowN c a row d r).length = a.length
  | [], _, _, _, _ => rfl
  | x :: a, [], _, _, h => by simp at h
  | x :: a, y :: row, d, r, h => by
    show (_ :: rowN c a row _ _).length = _
    rw [List.length_cons, rowN_len (by simpa using h)]; rfl
theorem in_end {c : Nat} {a row : List Nat} (hc : c ∈ [97, 65, 98, 66]) (ha : Al a) (hr : row.length = a.length) (d r : Nat) (m : Int) :
    ∃ di mi, inF (wd [c]) (wd a) (castL row, (d : Int), (r : Int), m) a.length = (castL (rowN c a row d r), di, (((rowN c a row d r).getLastD r : Nat) : Int), mi) := by
  obtain ⟨P, di, ri, mi, h1, h2, h3, h4⟩ := in_rel hc ha hr d r m a.length (Nat.le_refl _)
  rw [List.drop_of_length_le (Nat.le_refl _)] at h3
  have e : rowN c a row d r = P := by rw [h3]; exact List.append_nil _
  refine ⟨(di : Int), mi, ?_⟩
  rw [h1, e, ← h4, List.drop_of_length_le (by omega)]
  show (castL P ++ [], _, _, _) = _
  rw [List.append_nil]
theorem out_rel {a b : List Nat} (ha : Al a) (hb : Al b) (row : List Nat) (hr : row.length = a.length) (h0 : 0 < a.length) : ∀ j, j ≤ b.length →
    ∃ R : List Nat, R.length = a.length ∧ outF (wd a) (wd b) (castL row) j = (castL R, if j = 0 then 0 else ((R.getLastD 0 : Nat) : Int)) ∧ outN a b 0 row = outN a (b.drop j) (2 * j) R
  | 0, _ => ⟨row, hr, rfl, rfl⟩
  | j + 1, hj => by
    obtain ⟨R, h1, h2, h3⟩ := out_rel ha hb row hr h0 j (by omega)
    have hjb : j < b.length := by omega
    rw [drop_cons hjb] at h3
    obtain ⟨di, mi, h4⟩ := in_end (c := b.getD j 0) (a := a) (row := R) (al_get hb hjb) ha h1 (2 * j) (2 * j) 9223372036854775807
    refine ⟨rowN (b.getD j 0) a R (2 * j) (2 * j), rowN_len h1, ?_, ?_⟩
    · show ((inF (Txt.item (wd b) (j : Int)) (wd a) ((outF (wd a) (wd b) (castL row) j).1, (j : Int) * 2, (j : Int) * 2, 9223372036854775807) (wd a).length).1, (inF (Txt.item (wd b) (j : Int)) (wd a) ((outF (wd a) (wd b) (castL row) j).1, (j : Int) * 2, (j : Int) * 2, 9223372036854775807) (wd a).length).2.2.1) = _
      rw [item_wd hjb, h2, wd_len, show (j : Int) * 2 = ((2 * j : Nat) : Int) by omega, h4]
      rw [if_neg (by omega)]
      have hl : 0 < (rowN (b.getD j 0) a R (2 * j) (2 * j)).length := by rw [rowN_len h1]; exact h0
      show (_, (((rowN (b.getD j 0) a R (2 * j) (2 * j)).getLastD (2 * j) : Nat) : Int)) = (_, _)
      congr 2
      cases e : rowN (b.getD j 0) a R (2 * j) (2 * j) with
      | nil => rw [e] at hl; simp at hl
      | cons x t => rfl
    · rw [h3]
      show outN a (b.drop (j + 1)) (2 * j + 2) _ = _
      rfl
theorem dp_eq {a b : List Nat} (ha : Al a) (hb : Al b) (h0 : 0 < a.length) (h1 : 0 < b.length) : dpF (wd a) (wd b) = ((dpN a b : Nat) : Int) := by
  have hrow : rangeInts 2 2 (wd a).length = castL ((List.range a.length).map fun i => 2 + 2 * i) := by
    unfold rangeInts castL
    rw [wd_len, List.map_map]
    refine List.map_congr_left fun i _ => ?_
    show (2 : Int) + (i : Nat) * 2 = ((2 + 2 * i : Nat) : Int)
    omega
  unfold dpF
  obtain ⟨R, h2, h3, h4⟩ := out_rel ha hb ((List.range a.length).map fun i => 2 + 2 * i) (by simp) h0 b.length (Nat.le_refl _)
  rw [hrow, wd_len, h3, if_neg (by omega)]
  rw [List.drop_of_length_le (Nat.le_refl _)] at h4
  unfold dpN
  rw [h4]
  rfl
theorem lev3_eq {a b : List Nat} (ha : Al a) (hb : Al b) : lev3F (wd a) (wd b) = ((lev3N a b : Nat) : Int) := by
  unfold lev3F lev3N
  rw [wd_len, wd_len]
  by_cases h : a.length = 0 ∨ b.length = 0
  · have e : (Nat.beq a.length 0 || Nat.beq b.length 0) = true := by
      rcases h with h | h <;> rw [h] <;> simp
    rw [if_pos h, e]
    show _ = ((2 * (a.length + b.length) : Nat) : Int)
    omega
  · have h1 : Nat.beq a.length 0 = false := by
      cases e : Nat.beq a.length 0
      · rfl
      · exact absurd (.inl (Nat.eq_of_beq_eq_true e)) h
    have h2 : Nat.beq b.length 0 = false := by
      cases e : Nat.beq b.length 0
      · rfl
      · exact absurd (.inr (Nat.eq_of_beq_eq_true e)) h
    rw [if_neg h, h1, h2]
    show _ = ((bif Nat.blt b.length a.length then dpN b a else dpN a b : Nat) : Int)
    by_cases h3 : b.length < a.length
    · have e : Nat.blt b.length a.length = true := Nat.ble_eq_true_of_le h3
      rw [if_pos h3, e, dp_eq hb ha (by omega) (by omega)]
      rfl
    · have e : Nat.blt b.length a.length = false := by
        cases e : Nat.blt b.length a.length
        · rfl
        · exact absurd (Nat.le_of_ble_eq_true e) h3
      rw [if_neg h3, e, dp_eq ha hb (by omega) (by omega)]
      rfl
theorem same_cons (c d : Nat) (a b : List Nat) : sameN (c :: a) (d :: b) = bif Nat.beq c d then sameN a b + 1 else 0 := rfl
theorem cut_eq (k : List Nat → List Nat → Nat) : ∀ a b : List Nat, cutN2 a b k = k (a.drop (sameN a b)) (b.drop (sameN a b))
  | [], [] => rfl
  | [], _ :: _ => rfl
  | _ :: _, [] => rfl
  | c :: a, d :: b => by
    unfold cutN2 sameN
    cases Nat.beq c d
    · rfl
    · exact cut_eq k a b
theorem same_le : ∀ a b : List Nat, sameN a b ≤ a.length ∧ sameN a b ≤ b.length
  | [], [] => ⟨Nat.le_refl _, Nat.le_refl _⟩
  | [], _ :: _ => ⟨Nat.le_refl _, Nat.zero_le _⟩
  | _ :: _, [] => ⟨Nat.zero_le _, Nat.le_refl _⟩
  | c :: a, d :: b => by
    unfold sameN
    cases Nat.beq c d
    · exact ⟨Nat.zero_le _, Nat.zero_le _⟩
    · have := same_le a b
      exact ⟨Nat.succ_le_succ this.1, Nat.succ_le_succ this.2⟩
theorem wd_beqs (a b : List Nat) : (wd a == wd b) = (a == b) := wd_beq a b
theorem one_beq (c d : Nat) : (wd [c] == wd [d]) = Nat.beq c d := by
  rw [wd_beq]
  simp only [List.cons_beq_cons, beq_self_eq_true, Bool.and_true]
  cases e : Nat.beq c d
  · exact beq_eq_false_iff_ne.mpr (Nat.ne_of_beq_eq_false e)
  · exact beq_iff_eq.mpr (Nat.eq_of_beq_eq_true e)
theorem pre_eq (a b : List Nat) : ∀ (n p : Nat), p ≤ a.length → p ≤ b.length → a.length < p + n → preN (wd a) (wd b) n (p : Int) = ((p + sameN (a.drop p) (b.drop p) : Nat) : Int)
  | 0, p, h1, _, h3 => absurd h3 (by omega)
  | n + 1, p, h1, h2, h3 => by
    show (if _ then _ else _) = _
    rw [slice_from_wd h1, slice_from_wd h2, wd_len, wd_len, List.length_drop, List.length_drop]
    by_cases ha : p < a.length
    · by_cases hb : p < b.length
      · rw [drop_cons ha, drop_cons hb, item_wd ha, item_wd hb, one_beq]
        cases e : Nat.beq (a.getD p 0) (b.getD p 0)
        · rw [if_neg (by simp)]
          rw [same_cons, e]
          rfl
        · rw [if_pos ⟨by omega, by omega, rfl⟩]
          have := pre_eq a b n (p + 1) ha hb (by omega)
          rw [show ((p : Int) + 1) = ((p + 1 : Nat) : Int) by omega, this]
          rw [same_cons, e]
          show ((_ : Nat) : Int) = ((p + (sameN (a.drop (p + 1)) (b.drop (p + 1)) + 1) : Nat) : Int)
          omega
      · have : b.drop p = [] := List.drop_of_length_le (by omega)
        rw [if_neg (by rintro ⟨_, q, _⟩; omega), this]
        have e : sameN (a.drop p) [] = 0 := by have := (same_le (a.drop p) []).2; simpa using this
        rw [e]
        rfl
    · have : a.drop p = [] := List.drop_of_length_le (by omega)
      rw [if_neg (by rintro ⟨q, _, _⟩; omega), this]
      have e : sameN [] (b.drop p) = 0 := by have := (same_le [] (b.drop p)).1; simpa using this
      rw [e]
      rfl
theorem post_eq (a b : List Nat) : ∀ (n q : Nat), q ≤ a.length → q ≤ b.length → a.length < q + n → postN (wd a) (wd b) n (-(q : Int)) = -((q + sameN (a.reverse.drop q) (b.reverse.drop q) : Nat) : Int)
  | 0, p, h1, _, h3 => absurd h3 (by omega)
  | n + 1, p, h1, h2, h3 => by
    show (if _ then _ else _) = _
    rw [cutS_wd h1, cutS_wd h2, wd_len, wd_len, List.length_reverse, List.length_reverse, List.length_drop, List.length_drop, List.length_reverse, List.length_reverse]
    by_cases ha : p < a.length
    · by_cases hb : p < b.length
      · rw [drop_cons (l := a.reverse) (by rw [List.length_reverse]; exact ha), drop_cons (l := b.reverse) (by rw [List.length_reverse]; exact hb), item_wd_neg ha, item_wd_neg hb, one_beq]
        cases e : Nat.beq (a.reverse.getD p 0) (b.reverse.getD p 0)
        · rw [if_neg (by simp)]
          rw [same_cons, e]
          rfl
        · rw [if_pos ⟨by omega, by omega, rfl⟩]
          have := post_eq a b n (p + 1) ha hb (by omega)
          rw [show (-(p : Int) - 1) = -((p + 1 : Nat) : Int) by omega, this]
          rw [same_cons, e]
          show -((_ : Nat) : Int) = -((p + (sameN (a.reverse.drop (p + 1)) (b.reverse.drop (p + 1)) + 1) : Nat) : Int)
          omega
      · have : b.reverse.drop p = [] := List.drop_of_length_le (by rw [List.length_reverse]; omega)
        rw [if_neg (by rintro ⟨_, q, _⟩; omega), this]
        have e : sameN (a.reverse.drop p) [] = 0 := by have := (same_le (a.reverse.drop p) []).2; simpa using this
        rw [e]
        rfl
    · have : a.reverse.drop p = [] := List.drop_of_length_le (by rw [List.length_reverse]; omega)
      rw [if_neg (by rintro ⟨q, _, _⟩; omega), this]
      have e : sameN [] (b.reverse.drop p) = 0 := by have := (same_le [] (b.reverse.drop p)).1; simpa using this
      rw [e]
      rfl
theorem al_drop {l : List Nat} (h : Al l) (n : Nat) : Al (l.drop n) := fun c hc => h c (List.mem_of_mem_drop hc)
theorem al_rev {l : List Nat} (h : Al l) : Al l.reverse := fun c hc => h c (List.mem_reverse.mp hc)
theorem same_self : ∀ a : List Nat, sameN a a = a.length
  | [] => rfl
  | c :: a => by
    unfold sameN
    rw [show Nat.beq c c = true from Nat.beq_refl c]
    show sameN a a + 1 = _
    rw [same_self a]; rfl
theorem lev_eq {a b : List Nat} (ha : Al a) (hb : Al b) (h1 : a.length ≤ 3) : levF (wd a) (wd b) = ((levN a b : Nat) : Int) := by
  unfold levF levN
  rw [wd_beq, cut_eq]
  by_cases h : (a == b) = true
  · have e := eq_of_beq h
    subst e
    rw [if_pos h, same_self, List.drop_of_length_le (Nat.le_refl _)]
    rfl
  · rw [if_neg h]
    have hs := same_le a b
    have hp : preF (wd a) (wd b) = ((sameN a b : Nat) : Int) := by
      have := pre_eq a b 4 0 (Nat.zero_le _) (Nat.zero_le _) (by omega)
      rw [Nat.zero_add] at this
      exact this
    rw [hp, slice_from_wd hs.1, slice_from_wd hs.2]
    generalize hx : a.drop (sameN a b) = x
    generalize hy : b.drop (sameN a b) = y
    have hxl : x.length ≤ 3 := by rw [← hx, List.length_drop]; omega
    have hxa : Al x := by rw [← hx]; exact al_drop ha _
    have hya : Al y := by rw [← hy]; exact al_drop hb _
    show lev2F (wd x) (wd y) = ((cutN2 x.reverse y.reverse _ : Nat) : Int)
    rw [cut_eq]
    unfold lev2F
    have hq : postF (wd x) (wd y) = -((sameN x.reverse y.reverse : Nat) : Int) := by
      have := post_eq x y 4 0 (Nat.zero_le _) (Nat.zero_le _) (by omega)
      rw [Nat.zero_add] at this
      exact this
    have hs2 := same_le x.reverse y.reverse
    rw [List.length_reverse, List.length_reverse] at hs2
    rw [hq, cutS_wd hs2.1, cutS_wd hs2.2]
    exact lev3_eq (al_rev (al_drop (al_rev hxa) _)) (al_rev (al_drop (al_rev hya) _))
theorem due_rel {c : Nat} {b ws : List Nat} (hc : c ∈ [97, 65, 98, 66]) (hb : Al b) (hw : ws.length = b.length + 1) : ∀ j, j ≤ b.length →
    ∃ P : List Nat, P.length = j ∧ dueRow (wd [c]) (wd b) (castL ws) j = castL (0 :: P) ∧ dueRN c b ws 0 = P ++ dueRN c (b.drop j) (ws.drop j) ((0 :: P).getD j 0)
  | 0, _ => ⟨[], rfl, rfl, rfl⟩
  | j + 1, hj => by
    obtain ⟨P, h1, h2, h3⟩ := due_rel hc hb hw j (by omega)
    have hjb : j < b.length := by omega
    rw [drop_cons hjb, drop_cons (l := ws) (by omega), drop_cons (l := ws) (i := j + 1) (by omega)] at h3
    refine ⟨P ++ [maN (maN (ws.getD j 0 + kpN c (b.getD j 0)) (ws.getD (j + 1) 0)) ((0 :: P).getD j 0)], by rw [List.length_append, h1]; rfl, ?_, ?_⟩
    · show dueRow _ _ _ j ++ [mx3 ((castL ws).getD j 0 + kept (wd [c]) (sign (wd b) j)) ((castL ws).getD (j + 1) 0) ((dueRow (wd [c]) (wd b) (castL ws) j).getD j 0)] = _
      rw [h2, castL_get, castL_get, castL_get, sign_wd, kpN_eq c hc _ (al_get hb hjb)]
      show castL (0 :: P) ++ _ = castL ((0 :: P) ++ _)
      rw [castL_app]
      congr 1
      show [_] = [((_ : Nat) : Int)]
      rw [maN_eq, maN_eq, Int.natCast_add]
      rfl
    · rw [h3, List.append_assoc]
      have e : (0 :: (P ++ [maN (maN (ws.getD j 0 + kpN c (b.getD j 0)) (ws.getD (j + 1) 0)) ((0 :: P).getD j 0)])).getD (j + 1) 0 = maN (maN (ws.getD j 0 + kpN c (b.getD j 0)) (ws.getD (j + 1) 0)) ((0 :: P).getD j 0) := by
        rw [List.getD_cons_succ, List.getD_eq_getElem?_getD, List.getElem?_append_right (by omega), h1, Nat.sub_self]
        rfl
      rw [e, drop_cons (l := ws) (i := j + 1) (by omega)]
      rfl
theorem dueRN_len {c : Nat} : ∀ {b ws : List Nat} {left : Nat}, ws.length = b.length + 1 → (dueRN c b ws left).length = b.length
  | [], _, _, _ => rfl
  | d :: b, [], _, h => by simp at h
  | d :: b, [_], _, h => by simp at h
  | d :: b, _ :: w1 :: ws, left, h => by
    show (_ :: dueRN c b (w1 :: ws) _).length = _
    rw [List.length_cons, dueRN_len (by simpa using h)]; rfl
theorem due_row_eq {c : Nat} {b ws : List Nat} (hc : c ∈ [97, 65, 98, 66]) (hb : Al b) (hw : ws.length = b.length + 1) : dueRow (wd [c]) (wd b) (castL ws) b.length = castL (0 :: dueRN c b ws 0) := by
  obtain ⟨P, h1, h2, h3⟩ := due_rel hc hb hw b.length (Nat.le_refl _)
  rw [List.drop_of_length_le (Nat.le_refl _)] at h3
  rw [h2, h3]
  show _ = castL (0 :: (P ++ []))
  rw [List.append_nil]
theorem dueW_rel {a b : List Nat} (ha : Al a) (hb : Al b) : ∀ i, i ≤ a.length →
    ∃ W : List Nat, W.length = b.length + 1 ∧ dueW (wd a) (wd b) i = castL W ∧ dueWN b a (List.replicate (b.length + 1) 0) = dueWN b (a.drop i) W
  | 0, _ => ⟨List.replicate (b.length + 1) 0, by simp, by
      show List.replicate ((wd b).length + 1) (0 : Int) = _
      rw [wd_len]; simp [castL], rfl⟩
  | i + 1, hi => by
    obtain ⟨W, h1, h2, h3⟩ := dueW_rel ha hb i (by omega)
    have hia : i < a.length := by omega
    rw [drop_cons hia] at h3
    refine ⟨0 :: dueRN (a.getD i 0) b W 0, by rw [List.length_cons, dueRN_len h1], ?_, h3⟩
    show dueRow (sign (wd a) i) (wd b) (dueW (wd a) (wd b) i) (wd b).length = _
    rw [sign_wd, h2, wd_len, due_row_eq (al_get ha hia) hb h1]
theorem getD_last : ∀ (W : List Nat) (n : Nat), W.length = n + 1 → W.getD n 0 = W.getLastD 0
  | [], _, h => by simp at h
  | [x], 0, _ => rfl
  | [x], n + 1, h => by simp at h
  | x :: y :: W, 0, h => by simp at h
  | x :: y :: W, n + 1, h => by
    rw [List.getD_cons_succ, getD_last (y :: W) n (by simpa using h)]
    rfl
theorem lev_due_int {a b : List Nat} (ha : Al a) (hb : Al b) (h1 : a.length ≤ 3) (h2 : b.length ≤ 3) : levF (wd a) (wd b) = dueF (wd a) (wd b) := by
  have h := lev_dueN ha hb h1 h2
  obtain ⟨W, h3, h4, h5⟩ := dueW_rel ha hb a.length (Nat.le_refl _)
  rw [List.drop_of_length_le (Nat.le_refl _)] at h5
  have hw : worN a b = W.getLastD 0 := by
    unfold worN
    rw [h5]
    rfl
  rw [hw, ← getD_last W b.length h3] at h
  unfold dueF
  rw [lev_eq ha hb h1, wd_len, wd_len, h4, castL_get]
  omega
theorem txts_carried : ∀ {vs : List Value} {rs : List (List Nat)}, TxtsAre vs rs → CarriedAll vs (rs.map fun r => PyData.str (wd r))
  | _, _, .nil => .nil
  | _, _, .cons r t h => .cons (.str _ t) (txts_carried h)
theorem eqvAll_txts : ∀ rs : List (List Nat), PyData.eqvAll (rs.map fun r => PyData.str (wd r)) (rs.map fun r => PyData.str (wd r)) = true
  | [] => by simp [PyData.eqvAll]
  | r :: rs => by
    simp only [List.map_cons, PyData.eqvAll, PyData.eqv, eqvAll_txts rs]
    simp
theorem layAll_txts : ∀ (cs : List Nat), (∀ c ∈ cs, c < 1114112) → PyData.canLayAll0 ((cs.map fun c => [c]).map fun r => PyData.str (wd r)) = true
  | [], _ => by simp [PyData.canLayAll0]
  | c :: cs, h => by
    simp only [List.map_cons, PyData.canLayAll0, PyData.canLay0, layAll_txts cs fun x hx => h x (.tail _ hx), Bool.and_true]
    have hc : c < 1114112 := h c (.head _)
    simp [PyData.strOk, wd, hc]
theorem depthAll_txts : ∀ (cs : List Nat), PyData.depthAll ((cs.map fun c => [c]).map fun r => PyData.str (wd r)) ≤ 1
  | [] => by simp [PyData.depthAll]
  | c :: cs => by
    have := depthAll_txts cs
    simp only [List.map_cons, PyData.depthAll, PyData.depth]
    omega
theorem shaped_txts {cs : List Nat} (h : ∀ c ∈ cs, c < 1114112) : SeqAt.shaped (.list ((cs.map fun c => [c]).map fun r => PyData.str (wd r))) = true := by
  have h1 := layAll_txts cs h
  have h2 := depthAll_txts cs
  unfold SeqAt.shaped
  simp only [PyData.canLay0, PyData.depth, h1, Bool.true_and]
  exact decide_eq_true (by omega)
theorem low_big : ∀ c ∈ lowL, c < 1114112 := by decide
section
variable {prog : Program} {w : World} {A : Around} {s : Shared}
theorem eqAt_txts {a b : Addr} {vs us : List Value} {cs : List Nat} (hl : s.heap.IsList a vs.toArray) (hi : TxtsAre vs (cs.map fun c => [c])) (hl' : s.heap.IsList b us.toArray) (hi' : TxtsAre us (cs.map fun c => [c])) (hc : ∀ c ∈ cs, c < 1114112) (hu : A.in1.units + 64 < cLine) : SeqAt.EqAt A.in1 s (.ref a) (.ref b) true := by
  have x := keq_at (A := A) (reads_newData hl (txts_carried hi)) (reads_newData hl' (txts_carried hi')) (shaped_txts hc) (shaped_txts hc) hu
  have e : PyData.eqv (.list ((cs.map fun c => [c]).map fun r => PyData.str (wd r))) (.list ((cs.map fun c => [c]).map fun r => PyData.str (wd r))) = true := by
    simp only [PyData.eqv, eqvAll_txts]
  rw [e] at x
  exact x
theorem hits_of {kb : List (Str × Value)} : ∀ (l : List (Str × Value)), (∀ p ∈ l, ∃ y, valueAt kb p.1 = some y ∧ SeqAt.EqAt A s p.2 y true) → KeqHits A s kb l true
  | [], _ => .nil
  | p :: l, h => by
    obtain ⟨y, h1, h2⟩ := h p (.head _)
    exact .hit (e := true) (b := true) h1 h2 (hits_of l fun q hq => h q (.tail _ hq))
end
theorem beat_eq {wl : List (Nat × Nat)} (h : ∀ p ∈ wl, p.1 ∈ lowL ∧ p.2 ∈ lowL) {c : Nat} (hc : c ∈ lowL) : beatF wl c = (wl.filter fun p => p.1 == c).map (·.2) := by
  induction wl with
  | nil => rfl
  | cons p wl ih =>
    have hp := h p (.head _)
    have key : ∀ a ∈ lowL, ∀ b ∈ lowL, ∀ c ∈ lowL, (lowN [a - 32] == [c]) = (a == c) ∧ (lowN [120, b] == [c]) = false := by decide
    obtain ⟨k1, k2⟩ := key _ hp.1 _ hp.2 _ hc
    have ih' := ih fun q hq => h q (.tail _ hq)
    unfold beatF at ih' ⊢
    show (((([([p.1 - 32], p.2), ([120, p.2], p.1)] : List (List Nat × Nat)) ++ hsOf wl).filter fun p => lowN p.1 == [c]).map (·.2)) = _
    rw [List.filter_append, List.map_append, ih']
    simp only [List.filter_cons, List.filter_nil, k1, k2, Bool.false_eq_true, if_false]
    by_cases e : (p.1 == c) = true
    · simp [e]
    · simp [e]
theorem over_eq {wl : List (Nat × Nat)} (h : ∀ p ∈ wl, p.1 ∈ lowL ∧ p.2 ∈ lowL) {c : Nat} (hc : c ∈ lowL) : overF wl c = (wl.filter fun p => p.2 == c).map (·.1) := by
  induction wl with
  | nil => rfl
  | cons p wl ih =>
    have hp := h p (.head _)
    have key : ∀ a ∈ lowL, ∀ b ∈ lowL, ∀ c ∈ lowL, (lowN [a - 32] == [120, c]) = false ∧ (lowN [120, b] == [120, c]) = (b == c) := by decide
    obtain ⟨k1, k2⟩ := key _ hp.1 _ hp.2 _ hc
    have ih' := ih fun q hq => h q (.tail _ hq)
    unfold overF at ih' ⊢
    show (((([([p.1 - 32], p.2), ([120, p.2], p.1)] : List (List Nat × Nat)) ++ hsOf wl).filter fun p => lowN p.1 == [120, c]).map (·.2)) = _
    rw [List.filter_append, List.map_append, ih']
    simp only [List.filter_cons, List.filter_nil, k1, k2, Bool.false_eq_true, if_false]
    by_cases e : (p.2 == c) = true
    · simp [e]
    · simp [e]
theorem DcAt.hits {prog : Program} {w : World} {A : Around} {s : Shared} {h₀ : Heap} {L : Addr} {news : List (Addr × Obj)} {oa ob : Obj} {as bs : List Addr} {la lb : List (Addr × Obj)} {f f' : Nat → List Nat} (N : News h₀ L s.heap news) (ha : DcAt prog w oa as la f 5) (hb : DcAt prog w ob bs lb f' 5) (hla : ∀ p ∈ la, p ∈ news) (hlb : ∀ p ∈ lb, p ∈ news) (hf : ∀ c ∈ lowL, f c = f' c) (hlow : ∀ c ∈ lowL, ∀ x ∈ f c, x ∈ lowL) (hu : A.in1.units + 64 < cLine) : KeqHits A.in1 s (kvOf bs) (kvOf as) true := by
  refine hits_of _ fun p hp => ?_
  obtain ⟨j, hj, rfl⟩ := List.mem_map.mp hp
  have hj5 : j < 5 := by have := List.mem_range.mp hj; rw [ha.len] at this; exact this
  refine ⟨_, kvOf_at (by rw [hb.len]; exact Nat.le_refl _) (by rw [hb.len]; exact hj5), ?_⟩
  obtain ⟨va, ka, h1, h2⟩ := ha.at' j hj5
  obtain ⟨vb, kb, h3, h4⟩ := hb.at' j hj5
  rw [← hf _ (low_at hj5)] at h4
  exact eqAt_txts ⟨_, (N _ (hla _ h1)).1, rfl, ka, rfl⟩ h2 ⟨_, (N _ (hlb _ h3)).1, rfl, kb, rfl⟩ h4 (fun c hc => low_big c (hlow _ (low_at hj5) c hc)) hu
theorem upd_Dd {I : Addr} {oI oC oD oc : Obj} {lists fixed : List (Addr × Obj)} (h1 : ∀ p ∈ lists, I + 3 < p.1) (h2 : ∀ p ∈ fixed, p.1 < I) : UpdF (I + 1) oD ((I, oI) :: (I + 2, oC) :: (I + 1, oD) :: (I + 3, oc) :: (lists ++ fixed)) (fun o => (I, oI) :: (I + 2, oC) :: (I + 1, o) :: (I + 3, oc) :: (lists ++ fixed)) :=
  .tail (Nat.ne_of_lt (Nat.lt_succ_self _)) (.tail (Nat.ne_of_gt (Nat.lt_succ_self _)) (.head (List.forall_mem_cons.mpr ⟨Nat.ne_of_gt (Nat.lt_succ_of_lt (Nat.lt_succ_self _)), fun p hp => by
    rcases List.mem_append.mp hp with hp | hp
    · exact Nat.ne_of_gt (Nat.lt_trans (Nat.lt_succ_of_lt (Nat.lt_succ_self _)) (h1 p hp))
    · exact Nat.ne_of_lt (Nat.lt_succ_of_lt (h2 p hp))⟩)))
theorem upd_cell {I : Addr} {oI oC oD oc : Obj} {lists fixed : List (Addr × Obj)} (h1 : ∀ p ∈ lists, I + 3 < p.1) (h2 : ∀ p ∈ fixed, p.1 < I) : UpdF (I + 3) oc ((I, oI) :: (I + 2, oC) :: (I + 1, oD) :: (I + 3, oc) :: (lists ++ fixed)) (fun o => (I, oI) :: (I + 2, oC) :: (I + 1, oD) :: (I + 3, o) :: (lists ++ fixed)) :=
  .tail (Nat.ne_of_lt (Nat.lt_succ_of_lt (Nat.lt_succ_of_lt (Nat.lt_succ_self _)))) (.tail (Nat.ne_of_lt (Nat.lt_succ_self _)) (.tail (Nat.ne_of_lt (Nat.lt_succ_of_lt (Nat.lt_succ_self _))) (.head fun p hp => by
    rcases List.mem_append.mp hp with hp | hp
    · exact Nat.ne_of_gt (h1 p hp)
    · exact Nat.ne_of_lt (Nat.lt_succ_of_lt (Nat.lt_succ_of_lt (Nat.lt_succ_of_lt (h2 p hp)))))))
theorem off_cell {I : Addr} {oD oc : Obj} {lists fixed : List (Addr × Obj)} (h1 : ∀ p ∈ lists, I + 3 < p.1) (h2 : ∀ p ∈ fixed, p.1 < I) : ∀ p ∈ (I + 1, oD) :: (I + 3, oc) :: (lists ++ fixed), p.1 ≠ I ∧ p.1 ≠ I + 2 := by
  refine List.forall_mem_cons.mpr ⟨⟨Nat.ne_of_gt (Nat.lt_succ_self _), Nat.ne_of_lt (Nat.lt_succ_self _)⟩, List.forall_mem_cons.mpr ⟨⟨Nat.ne_of_gt (Nat.lt_succ_of_lt (Nat.lt_succ_of_lt (Nat.lt_succ_self _))), Nat.ne_of_gt (Nat.lt_succ_self _)⟩, fun p hp => ?_⟩⟩
  rcases List.mem_append.mp hp with hp | hp
  · exact ⟨Nat.ne_of_gt (Nat.lt_trans (Nat.lt_succ_of_lt (Nat.lt_succ_of_lt (Nat.lt_succ_self _))) (h1 p hp)), Nat.ne_of_gt (Nat.lt_trans (Nat.lt_succ_self _) (h1 p hp))⟩
  · have := h2 p hp
    exact ⟨Nat.ne_of_lt this, Nat.ne_of_lt (Nat.lt_succ_of_lt (Nat.lt_succ_of_lt this))⟩
theorem ins_list {h₀ h : Heap} {L : Addr} {n i c d e : Addr × Obj} {lists fixed : List (Addr × Obj)} (N : News h₀ L h (n :: i :: c :: d :: e :: (lists ++ fixed))) : News h₀ L h (i :: c :: d :: e :: ((n :: lists) ++ fixed)) := news_tup N
theorem closure_one {env : Env} {n0 n1 n2 d : Str} {x : Addr} {kd : ScopeKind} {ig ic : Bool} {mr : List (Str × Const)} (h : env.cells.lookup d = some x) : closureFor ⟨kd, [(n0, .local), (n1, .local), (n2, .local), (d, .free)], ig, ic, mr⟩ env = pure [(d, x)] := by
  unfold closureFor cellOf
  simp [h]
theorem few_mem {a b c d l3 w x : Addr × Obj} {lists post : List (Addr × Obj)} {p : Addr × Obj} (hp : p ∈ [d, l3, w]) : p ∈ a :: b :: c :: d :: (lists ++ x :: w :: l3 :: post) := by
  simp only [List.mem_cons, List.not_mem_nil, or_false] at hp
  simp only [List.mem_cons, List.mem_append]
  rcases hp with h | h | h <;> simp [h]
theorem is_cmp {M : Model} {A : Around} {o : CmpOp} {a b : Addr} {R : Value → Shared → Prop} {E : Value → Shared → Prop} {s : Shared} (h : wpAny M A (compareOp o (.ref a) (.ref b)) R E s) : wpAny M A (compareOp o (.ref a) (.ref b)) R E s := h
section
theorem main_s8 {w : World} {mean : ExcName → Option Value} {mg mb : Str → Option Value} {g : Heap} {L fa : Addr} {ccd : Value} {u : Str → Option Value} {base : Heap} {A₀ : Around} {s : Shared} {Q : Flow → Shared → Prop} {E : Value → Shared → Prop}
    {dp un : Nat} {gd : Option (List Code)} {outer : List Env} {sc : Scope} {sts : List Stmt} (hsc : sc = fnScope 32) (hsts : sts = ((fnBody 32).drop 13).take 1) {post : List (Addr × Obj)} {Db Wn : Addr} {od : Obj} {as : List Addr} {nvs : List Value} {kn : Nat} {b3 b5 : Obj} {wl : List (Nat × Nat)}
    (B : Below A₀ base outer g) (X : (heapK w.params).In g) (T : Top viewK (looseW viewK lse) mean mg mb g)
    (F : Fr g L s.heap u) (N : News g L s.heap ((Db, od) :: (Wn, listOf nvs.toArray kn) :: (L + 3, b3) :: (L + 5, b5) :: post))
    (hb3 : b3.data = .cell (some (.ref Wn))) (hb5 : b5.data = .cell (some (.ref Db))) (hdc : DcAt PySem.Challenge.rw_ti0055_01.row.toRowW.prog w od as post (beatF wl) 5) (hp : PairsAt post nvs wl) (hw : ∀ p ∈ wl, p.1 ∈ lowL ∧ p.2 ∈ lowL) (hl10 : wl.length ≤ 10) (hDb : L < Db)
    (hd1 : dp + 20 < recursionLimit) (hu1 : un + 300 < cLine)
    (hret : ∀ h' tk' u', Fr g L h' u' → News g L h' ((Db, od) :: (Wn, listOf nvs.toArray kn) :: (L + 3, b3) :: (L + 5, b5) :: post) → Q .next { s with heap := h', toks := tk' }) :
    wpAny (model PySem.Challenge.rw_ti0055_01.row.toRowW.prog w) (ktrTop dp un gd (Str.ofString "law") sc L fa ccd (cellsFrom (L + 1) sc.names []) outer) (execs sts (envOfC (Str.ofString "law") sc L fa ccd)) Q E s := by
  revert X; k_fill; intro X
  (conv at hsc => rhs; whnf); subst hsc
  (conv at hsts => rhs; whnf); dsimp only [List.take] at hsts; subst hsts
  have hplen := hp.len
  repeat' ((fail_if_success (with_reducible refine is_dcomp ?_)); walk_at "m1")
  refine DictComp_own (s := s) (cy := some (Str.ofString "letter")) F (by with_unfolding_all rfl) (fun _ _ _ => ⟨rfl, rfl⟩) (by rfl) (by decide) (fun _ => rfl) ?_
  repeat' ((fail_if_success (with_reducible refine is_pyIter ?_)); walk_at "m1")
  with_unfolding_all refine' open_str (s := ⟨_, _, _, _, _⟩) (σ := (Obj × Obj) × List Addr × List (Addr × Obj)) ?hh2 (compK_D _ _ _ _ _ _ _) F N (fun I x => (I + 1, x.1.1) :: (I + 3, x.1.2) :: (x.2.2 ++ (Db, od) :: (Wn, listOf nvs.toArray kn) :: (L + 3, b3) :: (L + 5, b5) :: post)) (fun I i x => DcAt PySem.Challenge.rw_ti0055_01.row.toRowW.prog w x.1.1 x.2.1 x.2.2 (fun c => (wl.filter fun p => p.1 == c).map (·.2)) i ∧ (∀ p ∈ x.2.2, I + 3 < p.1) ∧ ∃ v, x.1.2.data = .cell v) (({ cls := .type "dict", data := .dict #[] }, cellNone), [], []) ?hn2 ?hj2 ?hoff2 ?turn2 ?fin2
  case hh2 => rfl
  case hn2 => exact fun _ _ _ hp => hp
  case hj2 => exact fun _ _ => ⟨⟨isDict_new, rfl, fun j hj => absurd hj (Nat.not_lt_zero _)⟩, (fun p hp => nomatch hp), _, rfl⟩
  case hoff2 => exact fun I i x lt hJ => off_cell hJ.2.1 lt
  case fin2 =>
    rintro I ⟨⟨oD, oc⟩, as2, lists⟩ hp2 lI ⟨hJ, hup, _⟩ h8 tk8 F8 N8
    dsimp only at hJ hup
    have hJ5 : DcAt PySem.Challenge.rw_ti0055_01.row.toRowW.prog w oD as2 lists (fun c => (wl.filter fun p => p.1 == c).map (·.2)) 5 := hJ
    clear F N
    have hgL : sysModules < L := Nat.lt_of_lt_of_le (modules_low (Top.nolimit T)) F8.above
    have lo1 : (Db == sysModules) = false := beq_eq_false_iff_ne.mpr (Nat.ne_of_gt (Nat.lt_trans hgL hDb))
    have lo2 : (I + 1 == sysModules) = false := beq_eq_false_iff_ne.mpr (Nat.ne_of_gt (Nat.lt_trans (Nat.lt_trans hgL hDb) (Nat.lt_succ_of_lt (lI (Db, od) (.head _)))))
    have hpl : ∀ p ∈ post, p ∈ (I + 1, oD) :: (I + 3, oc) :: (lists ++ (Db, od) :: (Wn, listOf nvs.toArray kn) :: (L + 3, b3) :: (L + 5, b5) :: post) := fun p hp => .tail _ (.tail _ (List.mem_append_right _ (.tail _ (.tail _ (.tail _ (.tail _ hp))))))
    repeat' ((fail_if_success (with_reducible refine is_cmp ?_)); walk_at "m1")
    refine' kne_pairs (s := ⟨_, _, _, _, _⟩) (knd := PySem.strKind _ _) N8 (.tail _ (.tail _ (List.mem_append_right _ (.head _)))) (.head _) hdc.dict hJ5.dict lo1 lo2 (by rw [kvOf_len, kvOf_len, hdc.len, hJ5.len]) ?hu1 (hdc.hits N8 hJ5 hpl (fun p hp => .tail _ (.tail _ (List.mem_append_left _ hp))) (fun c hc => beat_eq hw hc) ?hlow ?hu2) ?_
    case hu1 => (show un < cLine; omega)
    case hu2 => (show un + 1 + 64 < cLine; omega)
    case hlow =>
      intro c hc x hx
      rw [beat_eq hw hc] at hx
      obtain ⟨p, hp, rfl⟩ := List.mem_map.mp hx
      exact (hw p (List.mem_filter.mp hp).1).2
    repeat' (walk_at "m1")
    (try dsimp only)
    (try refine wpAny_execs_nil ?_)
    exact hret h8 _ _ F8 fun p hp => N8 p (.tail _ (.tail _ (List.mem_append_right _ hp)))
  case turn2 =>
    rintro I i ⟨⟨oD, oc⟩, as2, lists⟩ h6 tk6 oI oC mC t E' lI hi5' ⟨hJ, hup, v0, hv0⟩ hC F6 N6
    have hi5 : i < 5 := hi5'
    dsimp only at hJ hup hv0 N6
    rw [sign_pqrst hi5]
    have hll : 112 + i ∈ lowL := low_at hi5
    have hsz1 : (wd [112 + i]).length = 1 := rfl
    refine asg_cell (s := ⟨_, _, _, _, _⟩) (cl := exC (some (Str.ofString "letter")) (I + 3) [(Str.ofString "wins", L + 3)]) F6 N6 (upd_cell hup lI) hv0 rfl rfl rfl ?_
    intro h5 oc5 F5 N5 hoc5
    refine tests_nil ?_
    rw [if_pos rfl]
    refine emit_store (s := ⟨_, _, _, _, _⟩) F5 ?_
    have Nh := Hd.mk N5
    have Nw : News g L h5 [(I + 3, oc5), (L + 3, b3), (Wn, listOf nvs.toArray kn)] := fun p hp => N5 p (few_mem hp)
    clear F6 N6 N5
    repeat' ((fail_if_success (with_reducible refine is_comp ?_)); walk_at "m1")
    refine ListComp_own (s := ⟨_, _, _, _, _⟩) (cl := [(Str.ofString "letter", I + 3)]) (cy := none) F5 (closure_one rfl) (fun _ _ _ => ⟨rfl, rfl⟩) (by rfl) (by decide) (fun _ => rfl) ?_
    repeat' ((fail_if_success (with_reducible refine is_pyIter ?_)); walk_at "m1")
    have N5 := Nh.out
    clear Nh Nw
    have hmW : (Wn, listOf nvs.toArray kn) ∈ (I, oI) :: (I + 2, oC) :: (I + 1, oD) :: (I + 3, oc5) :: (lists ++ (Db, od) :: (Wn, listOf nvs.toArray kn) :: (L + 3, b3) :: (L + 5, b5) :: post) := .tail _ (.tail _ (.tail _ (.tail _ (List.mem_append_right _ (.tail _ (.head _))))))
    with_unfolding_all refine' open_list (s := ⟨_, _, _, _, _⟩) (σ := List Value) ?hh3 (compK_L _ _ _ _ _ _) F5 N5 hmW (fun I2 ys => (I2 + 1, LCg.lst ys) :: (I, oI) :: (I + 2, oC) :: (I + 1, oD) :: (I + 3, oc5) :: (lists ++ (Db, od) :: (Wn, listOf nvs.toArray kn) :: (L + 3, b3) :: (L + 5, b5) :: post)) (fun I2 i2 ys => TxtsAre ys (((wl.take i2).filter fun p => p.1 == 112 + i).map fun p => [p.2])) [] ?hn3 ?hj3 ?hoff3 ?hkeep3 ?turn3 ?fin3
    case hh3 => rfl
    case hn3 => exact fun _ _ _ hp => hp
    case hj3 => exact fun _ _ => .nil
    case hoff3 => exact fun _ _ _ lt _ => off_fix lt
    case hkeep3 => exact fun _ _ _ _ => .tail _ hmW
    case fin3 =>
      intro I2 ys hp2 lI2 hJ2 h4 tk4 F4 N4
      rw [hplen, List.take_length] at hJ2
      have hup2 : ∀ p ∈ (I2 + 1, LCg.lst ys) :: lists, I + 3 < p.1 := List.forall_mem_cons.mpr ⟨Nat.lt_succ_of_lt (lI2 (I + 3, oc5) (.tail _ (.tail _ (.tail _ (.head _))))), hup⟩
      refine ⟨wd [112 + i], t, kvOf as2, oD, _, _, h4, tk4, rfl, rfl, F4, ins_list N4, upd_Dd hup2 lI, hJ.dict, ?_, fun h3 oD3 F3 N2 hd3 => ?_⟩
      · rw [kvOf_len, hJ.len]; omega
      · refine ⟨((oD3, oc5), as2 ++ [I2 + 1], (I2 + 1, LCg.lst ys) :: lists), oC, mC, h3, _, rfl, F3, N2, hC, ?_, hup2, _, hoc5⟩
        have hst := hJ.len
        have hd5 : oD3.IsDictOf (PySem.strKind PySem.Challenge.rw_ti0055_01.row.toRowW.prog w) (kvOf (as2 ++ [I2 + 1])) := by
          rw [← kvOf_stored (by omega), hst]; exact hd3
        exact hJ.snoc hd5 (fun p hp => .tail _ hp) (.head _) (by rw [List.map_map]; exact hJ2)
    case turn3 =>
      intro I2 i2 ys h4 tk4 oI2 oC2 mC2 v E2 lI2 hv2 hJ2 hC2 F4 N4
      obtain ⟨Tp, a, b, ta, tb, kt, rfl, hab, hTm⟩ := hp.at' i2 v hv2
      refine asg_pair (s := ⟨_, _, _, _, _⟩) rfl F4 N4 (upd_C lI2) hC2 rfl rfl rfl ⟨_, (N4 (Tp, tupObj #[.str (wd [a]) ta, .str (wd [b]) tb] kt) (.tail _ (.tail _ (.tail _ (.tail _ (.tail _ (.tail _ (.tail _ (List.mem_append_right _ (.tail _ (.tail _ (.tail _ (.tail _ hTm))))))))))))).1, rfl, kt, rfl⟩ (by decide) ?_
      intro h3 oC3 tk3 mN F3 N3 hC3 hwin hlos
      refine tests_one ?_
      clear F4 N4 F5 N5
      repeat' (walk_at "m1")
      · rename (_ == _) = true => hb
        rw [wd_beq] at hb
        refine emit_append (s := ⟨_, _, _, _, _⟩) F3 ?_
        repeat' ((fail_if_success (with_reducible refine is_ex ?_)); walk_at "m1")
        refine ⟨ys, _, _, _, _, rfl, F3, N3, upd_D lI2, ?_, fun h' F' N' => ?_⟩
        · rw [hJ2.length, List.length_map]
          refine Nat.le_trans (List.length_filter_le ..) (Nat.le_trans (List.length_take_le' ..) ?_)
          omega
        · refine ⟨ys ++ [_], oC3, mN, _, _, rfl, F', N', hC3, ?_⟩
          rw [List.take_add_one, hab]
          have hb' : (a == 112 + i) = true := by simpa using hb
          have := hJ2.append (.cons [b] tb .nil)
          simpa [List.filter_append, hb'] using this
      · rename (_ == _) = false => hb
        rw [wd_beq] at hb
        refine ⟨ys, oC3, mN, _, _, rfl, F3, N3, hC3, ?_⟩
        rw [List.take_add_one, hab]
        have hb' : (a == 112 + i) = false := by simpa using hb
        simpa [List.filter_append, hb'] using hJ2
end
section
theorem main_s9 {w : World} {mean : ExcName → Option Value} {mg mb : Str → Option Value} {g : Heap} {L fa : Addr} {ccd : Value} {u : Str → Option Value} {base : Heap} {A₀ : Around} {s : Shared} {Q : Flow → Shared → Prop} {E : Value → Shared → Prop}
    {dp un : Nat} {gd : Option (List Code)} {outer : List Env} {sc : Scope} {sts : List Stmt} (hsc : sc = fnScope 32) (hsts : sts = ((fnBody 32).drop 14).take 1) {post : List (Addr × Obj)} {Db Wn : Addr} {od : Obj} {as : List Addr} {nvs : List Value} {kn : Nat} {b3 b5 : Obj} {wl : List (Nat × Nat)}
    (B : Below A₀ base outer g) (X : (heapK w.params).In g) (T : Top viewK (looseW viewK lse) mean mg mb g)
    (F : Fr g L s.heap u) (N : News g L s.heap ((Db, od) :: (Wn, listOf nvs.toArray kn) :: (L + 3, b3) :: (L + 6, b5) :: post))
    (hb3 : b3.data = .cell (some (.ref Wn))) (hb5 : b5.data = .cell (some (.ref Db))) (hdc : DcAt PySem.Challenge.rw_ti0055_01.row.toRowW.prog w od as post (overF wl) 5) (hp : PairsAt post nvs wl) (hw : ∀ p ∈ wl, p.1 ∈ lowL ∧ p.2 ∈ lowL) (hl10 : wl.length ≤ 10) (hDb : L < Db)
    (hd1 : dp + 20 < recursionLimit) (hu1 : un + 300 < cLine)
    (hret : ∀ h' tk' u', Fr g L h' u' → News g L h' ((Db, od) :: (Wn, listOf nvs.toArray kn) :: (L + 3, b3) :: (L + 6, b5) :: post) → Q .next { s with heap := h', toks := tk' }) :
    wpAny (model PySem.Challenge.rw_ti0055_01.row.toRowW.prog w) (ktrTop dp un gd (Str.ofString "law") sc L fa ccd (cellsFrom (L + 1) sc.names []) outer) (execs sts (envOfC (Str.ofString "law") sc L fa ccd)) Q E s := by
  revert X; k_fill; intro X
  (conv at hsc => rhs; whnf); subst hsc
  (conv at hsts => rhs; whnf); dsimp only [List.take] at hsts; subst hsts
  have hplen := hp.len
  repeat' ((fail_if_success (with_reducible refine is_dcomp ?_)); walk_at "m1")
  refine DictComp_own (s := s) (cy := some (Str.ofString "letter")) F (by with_unfolding_all rfl) (fun _ _ _ => ⟨rfl, rfl⟩) (by rfl) (by decide) (fun _ => rfl) ?_
  repeat' ((fail_if_success (with_reducible refine is_pyIter ?_)); walk_at "m1")
  with_unfolding_all refine' open_str (s := ⟨_, _, _, _, _⟩) (σ := (Obj × Obj) × List Addr × List (Addr × Obj)) ?hh2 (compK_D _ _ _ _ _ _ _) F N (fun I x => (I + 1, x.1.1) :: (I + 3, x.1.2) :: (x.2.2 ++ (Db, od) :: (Wn, listOf nvs.toArray kn) :: (L + 3, b3) :: (L + 6, b5) :: post)) (fun I i x => DcAt PySem.Challenge.rw_ti0055_01.row.toRowW.prog w x.1.1 x.2.1 x.2.2 (fun c => (wl.filter fun p => p.2 == c).map (·.1)) i ∧ (∀ p ∈ x.2.2, I + 3 < p.1) ∧ ∃ v, x.1.2.data = .cell v) (({ cls := .type "dict", data := .dict #[] }, cellNone), [], []) ?hn2 ?hj2 ?hoff2 ?turn2 ?fin2
  case hh2 => rfl
  case hn2 => exact fun _ _ _ hp => hp
  case hj2 => exact fun _ _ => ⟨⟨isDict_new, rfl, fun j hj => absurd hj (Nat.not_lt_zero _)⟩, (fun p hp => nomatch hp), _, rfl⟩
  case hoff2 => exact fun I i x lt hJ => off_cell hJ.2.1 lt
  case fin2 =>
    rintro I ⟨⟨oD, oc⟩, as2, lists⟩ hp2 lI ⟨hJ, hup, _⟩ h8 tk8 F8 N8
    dsimp only at hJ hup
    have hJ5 : DcAt PySem.Challenge.rw_ti0055_01.row.toRowW.prog w oD as2 lists (fun c => (wl.filter fun p => p.2 == c).map (·.1)) 5 := hJ
    clear F N
    have hgL : sysModules < L := Nat.lt_of_lt_of_le (modules_low (Top.nolimit T)) F8.above
    have lo1 : (Db == sysModules) = false := beq_eq_false_iff_ne.mpr (Nat.ne_of_gt (Nat.lt_trans hgL hDb))
    have lo2 : (I + 1 == sysModules) = false := beq_eq_false_iff_ne.mpr (Nat.ne_of_gt (Nat.lt_trans (Nat.lt_trans hgL hDb) (Nat.lt_succ_of_lt (lI (Db, od) (.head _)))))
    have hpl : ∀ p ∈ post, p ∈ (I + 1, oD) :: (I + 3, oc) :: (lists ++ (Db, od) :: (Wn, listOf nvs.toArray kn) :: (L + 3, b3) :: (L + 6, b5) :: post) := fun p hp => .tail _ (.tail _ (List.mem_append_right _ (.tail _ (.tail _ (.tail _ (.tail _ hp))))))
    repeat' ((fail_if_success (with_reducible refine is_cmp ?_)); walk_at "m1")
    refine' kne_pairs (s := ⟨_, _, _, _, _⟩) (knd := PySem.strKind _ _) N8 (.tail _ (.tail _ (List.mem_append_right _ (.head _)))) (.head _) hdc.dict hJ5.dict lo1 lo2 (by rw [kvOf_len, kvOf_len, hdc.len, hJ5.len]) ?hu1 (hdc.hits N8 hJ5 hpl (fun p hp => .tail _ (.tail _ (List.mem_append_left _ hp))) (fun c hc => over_eq hw hc) ?hlow ?hu2) ?_
    case hu1 => (show un < cLine; omega)
    case hu2 => (show un + 1 + 64 < cLine; omega)
    case hlow =>
      intro c hc x hx
      rw [over_eq hw hc] at hx
      obtain ⟨p, hp, rfl⟩ := List.mem_map.mp hx
      exact (hw p (List.mem_filter.mp hp).1).1
    repeat' (walk_at "m1")
    (try dsimp only)
    (try refine wpAny_execs_nil ?_)
    exact hret h8 _ _ F8 fun p hp => N8 p (.tail _ (.tail _ (List.mem_append_right _ hp)))
  case turn2 =>
    rintro I i ⟨⟨oD, oc⟩, as2, lists⟩ h6 tk6 oI oC mC t E' lI hi5' ⟨hJ, hup, v0, hv0⟩ hC F6 N6
    have hi5 : i < 5 := hi5'
    dsimp only at hJ hup hv0 N6
    rw [sign_pqrst hi5]
    have hll : 112 + i ∈ lowL := low_at hi5
    have hsz1 : (wd [112 + i]).length = 1 := rfl
    refine asg_cell (s := ⟨_, _, _, _, _⟩) (cl := exC (some (Str.ofString "letter")) (I + 3) [(Str.ofString "wins", L + 3)]) F6 N6 (upd_cell hup lI) hv0 rfl rfl rfl ?_
    intro h5 oc5 F5 N5 hoc5
    refine tests_nil ?_
    rw [if_pos rfl]
    refine emit_store (s := ⟨_, _, _, _, _⟩) F5 ?_
    have Nh := Hd.mk N5
    have Nw : News g L h5 [(I + 3, oc5), (L + 3, b3), (Wn, listOf nvs.toArray kn)] := fun p hp => N5 p (few_mem hp)
    clear F6 N6 N5
    repeat' ((fail_if_success (with_reducible refine is_comp ?_)); walk_at "m1")
    refine ListComp_own (s := ⟨_, _, _, _, _⟩) (cl := [(Str.ofString "letter", I + 3)]) (cy := none) F5 (closure_one rfl) (fun _ _ _ => ⟨rfl, rfl⟩) (by rfl) (by decide) (fun _ => rfl) ?_
    repeat' ((fail_if_success (with_reducible refine is_pyIter ?_)); walk_at "m1")
    have N5 := Nh.out
    clear Nh Nw
    have hmW : (Wn, listOf nvs.toArray kn) ∈ (I, oI) :: (I + 2, oC) :: (I + 1, oD) :: (I + 3, oc5) :: (lists ++ (Db, od) :: (Wn, listOf nvs.toArray kn) :: (L + 3, b3) :: (L + 6, b5) :: post) := .tail _ (.tail _ (.tail _ (.tail _ (List.mem_append_right _ (.tail _ (.head _))))))
    with_unfolding_all refine' open_list (s := ⟨_, _, _, _, _⟩) (σ := List Value) ?hh3 (compK_L _ _ _ _ _ _) F5 N5 hmW (fun I2 ys => (I2 + 1, LCg.lst ys) :: (I, oI) :: (I + 2, oC) :: (I + 1, oD) :: (I + 3, oc5) :: (lists ++ (Db, od) :: (Wn, listOf nvs.toArray kn) :: (L + 3, b3) :: (L + 6, b5) :: post)) (fun I2 i2 ys => TxtsAre ys (((wl.take i2).filter fun p => p.2 == 112 + i).map fun p => [p.1])) [] ?hn3 ?hj3 ?hoff3 ?hkeep3 ?turn3 ?fin3
    case hh3 => rfl
    case hn3 => exact fun _ _ _ hp => hp
    case hj3 => exact fun _ _ => .nil
    case hoff3 => exact fun _ _ _ lt _ => off_fix lt
    case hkeep3 => exact fun _ _ _ _ => .tail _ hmW
    case fin3 =>
      intro I2 ys hp2 lI2 hJ2 h4 tk4 F4 N4
      rw [hplen, List.take_length] at hJ2
      have hup2 : ∀ p ∈ (I2 + 1, LCg.lst ys) :: lists, I + 3 < p.1 := List.forall_mem_cons.mpr ⟨Nat.lt_succ_of_lt (lI2 (I + 3, oc5) (.tail _ (.tail _ (.tail _ (.head _))))), hup⟩
      refine ⟨wd [112 + i], t, kvOf as2, oD, _, _, h4, tk4, rfl, rfl, F4, ins_list N4, upd_Dd hup2 lI, hJ.dict, ?_, fun h3 oD3 F3 N2 hd3 => ?_⟩
      · rw [kvOf_len, hJ.len]; omega
      · refine ⟨((oD3, oc5), as2 ++ [I2 + 1], (I2 + 1, LCg.lst ys) :: lists), oC, mC, h3, _, rfl, F3, N2, hC, ?_, hup2, _, hoc5⟩
        have hst := hJ.len
        have hd5 : oD3.IsDictOf (PySem.strKind PySem.Challenge.rw_ti0055_01.row.toRowW.prog w) (kvOf (as2 ++ [I2 + 1])) := by
          rw [← kvOf_stored (by omega), hst]; exact hd3
        exact hJ.snoc hd5 (fun p hp => .tail _ hp) (.head _) (by rw [List.map_map]; exact hJ2)
    case turn3 =>
      intro I2 i2 ys h4 tk4 oI2 oC2 mC2 v E2 lI2 hv2 hJ2 hC2 F4 N4
      obtain ⟨Tp, a, b, ta, tb, kt, rfl, hab, hTm⟩ := hp.at' i2 v hv2
      refine asg_pair (s := ⟨_, _, _, _, _⟩) rfl F4 N4 (upd_C lI2) hC2 rfl rfl rfl ⟨_, (N4 (Tp, tupObj #[.str (wd [a]) ta, .str (wd [b]) tb] kt) (.tail _ (.tail _ (.tail _ (.tail _ (.tail _ (.tail _ (.tail _ (List.mem_append_right _ (.tail _ (.tail _ (.tail _ (.tail _ hTm))))))))))))).1, rfl, kt, rfl⟩ (by decide) ?_
      intro h3 oC3 tk3 mN F3 N3 hC3 hwin hlos
      refine tests_one ?_
      clear F4 N4 F5 N5
      repeat' (walk_at "m1")
      · rename (_ == _) = true => hb
        rw [wd_beq] at hb
        refine emit_append (s := ⟨_, _, _, _, _⟩) F3 ?_
        repeat' ((fail_if_success (with_reducible refine is_ex ?_)); walk_at "m1")
        refine ⟨ys, _, _, _, _, rfl, F3, N3, upd_D lI2, ?_, fun h' F' N' => ?_⟩
        · rw [hJ2.length, List.length_map]
          refine Nat.le_trans (List.length_filter_le ..) (Nat.le_trans (List.length_take_le' ..) ?_)
          omega
        · refine ⟨ys ++ [_], oC3, mN, _, _, rfl, F', N', hC3, ?_⟩
          rw [List.take_add_one, hab]
          have hb' : (b == 112 + i) = true := by simpa using hb
          have := hJ2.append (.cons [a] ta .nil)
          simpa [List.filter_append, hb'] using this
      · rename (_ == _) = false => hb
        rw [wd_beq] at hb
        refine ⟨ys, oC3, mN, _, _, rfl, F3, N3, hC3, ?_⟩
        rw [List.take_add_one, hab]
        have hb' : (b == 112 + i) = false := by simpa using hb
        simpa [List.filter_append, hb'] using hJ2
end
section
local macro_rules | `(tactic| walk_at "z") => `(tactic| fail)
noncomputable def sumsN (zs : List Int) (n : Nat) : List Int := (List.range n).map fun i => (zs.take (i + 1)).sum
theorem sumsN_succ (zs : List Int) (n : Nat) : sumsN zs (n + 1) = sumsN zs n ++ [(zs.take (n + 1)).sum] := by
  unfold sumsN
  rw [List.range_succ, List.map_append]
  rfl
theorem range_15 : Builtin.Range.small 1 5 1 = true ∧ Builtin.Range.rangeSize 1 5 1 = ((4 : Nat) : Int) := by decide +kernel
theorem sum_small : ∀ {cs : List Int}, (∀ c ∈ cs, 1 ≤ c ∧ c ≤ 3) → 0 ≤ cs.sum ∧ cs.sum ≤ 3 * (cs.length : Int)
  | [], _ => by decide
  | z :: r, h => by
    have h1 := h z (.head _)
    have h2 := sum_small fun y hy => h y (.tail _ hy)
    rw [List.sum_cons, List.length_cons]
    omega
section
local macro_rules | `(tactic| k_all) => `(tactic| assumption)
theorem main_s10 {w : World} {mean : ExcName → Option Value} {mg mb : Str → Option Value} {g : Heap} {L fa : Addr} {ccd : Value} {u : Str → Option Value} {base : Heap} {A₀ : Around} {s : Shared} {Q : Flow → Shared → Prop} {E : Value → Shared → Prop}
    {dp un : Nat} {gd : Option (List Code)} {outer : List Env} {sc : Scope} {sts : List Stmt} (hsc : sc = fnScope 32) (hsts : sts = ((fnBody 32).drop 15).take 1) {post : List (Addr × Obj)} {Z : Addr} {zvs : List Value} {kz : Nat} {b1 b7 : Obj} {zs : List Int}
    (B : Below A₀ base outer g) (X : (heapK w.params).In g) (T : Top viewK (looseW viewK lse) mean mg mb g)
    (F : Fr g L s.heap u) (N : News g L s.heap ((Z, listOf zvs.toArray kz) :: (L + 1, b1) :: (L + 7, b7) :: post))
    (hb1 : b1.data = .cell (some (.ref Z))) (hb7 : b7.data = .cell none) (hz : IntsAre zvs zs) (hz5 : zs.length = 5) (hzb : ∀ z ∈ zs, 1 ≤ z ∧ z ≤ 3)
    (hpL : ∀ p ∈ post, p.1 ≠ L + 7) (nZ : @Ne Nat Z (L + 7))
    (hd1 : dp + 20 < recursionLimit) (hu1 : un + 300 < cLine)
    (hret : ∀ h' tk' u' S svs ks b7', Fr g L h' u' → News g L h' ((S, listOf svs.toArray ks) :: (Z, listOf zvs.toArray kz) :: (L + 1, b1) :: (L + 7, b7') :: post) → b7'.data = .cell (some (.ref S)) → IntsAre svs (sumsN zs 4) → (∀ q ∈ (Z, listOf zvs.toArray kz) :: (L + 1, b1) :: (L + 7, b7) :: post, q.1 < S) → Q .next { s with heap := h', toks := tk' }) :
    wpAny (model PySem.Challenge.rw_ti0055_01.row.toRowW.prog w) (ktrTop dp un gd (Str.ofString "law") sc L fa ccd (cellsFrom (L + 1) sc.names []) outer) (execs sts (envOfC (Str.ofString "law") sc L fa ccd)) Q E s := by
  revert X; k_fill; intro X
  (conv at hsc => rhs; whnf); subst hsc
  (conv at hsts => rhs; whnf); dsimp only [List.take] at hsts; subst hsts
  have hzl : zvs.length = 5 := hz.length.trans hz5
  repeat' ((fail_if_success (with_reducible refine is_comp ?_)); walk_at "m1")
  refine ListComp_own (s := ⟨_, _, _, _, _⟩) (cy := none) (by assumption) (by with_unfolding_all rfl) (fun _ _ _ => ⟨rfl, rfl⟩) (by rfl) (by decide) (fun _ => rfl) ?_
  repeat' ((fail_if_success (with_reducible refine is_pyIter ?_)); walk_at "m1")
  rename IsRange _ _ _ _ _ _ _ _ => R8
  rename Fr _ _ _ _ => F4
  rename News _ _ _ _ => N4
  with_unfolding_all refine' open_range (s := ⟨_, _, _, _, _⟩) (σ := List Value) (n := 4) ?hh2 (compK_L _ _ _ _ _ _) F4 N4 R8 range_15.1 range_15.2 (fun I ys => (I + 1, LCg.lst ys) :: (Z, listOf zvs.toArray kz) :: (L + 1, b1) :: (L + 7, b7) :: post) (fun I i ys => IntsAre ys (sumsN zs i)) [] ?hn2 ?hj2 ?hoff2 ?turn2 ?fin2
  case hh2 => rfl
  case hn2 => exact fun _ _ _ hp => hp
  case hj2 => exact fun _ _ => .nil
  case hoff2 => exact fun _ _ _ lt _ => off_fix lt
  case turn2 =>
    intro I i ys h6 tk6 oI oC mC t E' lI hi4 hJ hC F6 N6
    refine asg_own (s := ⟨_, _, _, _, _⟩) F6 N6 (upd_C lI) hC rfl rfl ?_
    intro h5 oC5 tk5 mN F5 N5 hC5 hmany hoth
    refine tests_nil ?_
    rw [if_pos rfl]
    refine emit_append (s := ⟨_, _, _, _, _⟩) F5 ?_
    clear F6 N6 F4 N4
    repeat' ((fail_if_success (with_reducible refine is_ex ?_)); walk_at "m1")
    rename IntsAre _ (List.take (1 + (i : Int)).toNat zs) => hI9
    rename Fr _ _ _ _ => F1
    rename News _ _ _ _ => N1
    rename _ ∧ _ ∧ _ ∧ _ ∧ _ ∧ _ ∧ AllLt _ _ => l1
    have nD := Nat.ne_of_gt l1.2.2.1
    have e : (1 + (i : Int)).toNat = i + 1 := by omega
    refine ⟨ys, _, _, _, _, rfl, F1, N1, .tail nD (upd_D lI), ?_, fun h' F' N' => ?_⟩
    · rw [hJ.length, sumsN, List.length_map, List.length_range]; omega
    · refine ⟨ys ++ [_], oC5, mN, _, _, rfl, F', fun p hp => N' p (.tail _ hp), hC5, ?_⟩
      rw [sumsN_succ, ← e]
      exact hJ.append (.cons _ _ .nil)
  case fin2 =>
    intro I ys hp2 lI hJ h8 tk8 F8 N8
    have nI : @Ne Nat (I + 1) (L + 7) := Nat.ne_of_gt (Nat.lt_succ_of_lt (lI (L + 7, b7) (.tail _ (.tail _ (.head _)))))
    clear F4 N4
    repeat' (walk_at "m1")
    rename_i h7 b7' F6 N6 hb7'
    (try dsimp only)
    (try refine wpAny_execs_nil ?_)
    exact hret h7 _ _ (I + 1) ys ys.length b7' F6 N6 hb7' hJ fun q hq => Nat.lt_succ_of_lt (lI q hq)
end
end
section
noncomputable def endsN (ss : List Int) (n : Nat) : List Int := ((List.range n).map fun i => (1 : Int) + ((i : Nat) : Int)).filter fun e => ss.any fun x => x == e
theorem endsN_succ (ss : List Int) (n : Nat) : endsN ss (n + 1) = endsN ss n ++ (if (ss.any fun x => x == (1 : Int) + (n : Int)) = true then [(1 : Int) + (n : Int)] else []) := by
  unfold endsN
  rw [List.range_succ, List.map_append, List.filter_append]
  congr 1
  show List.filter _ [_] = _
  rw [List.filter_cons, List.filter_nil]
section
local macro_rules | `(tactic| k_all) => `(tactic| assumption)
theorem main_s11 {w : World} {mean : ExcName → Option Value} {mg mb : Str → Option Value} {g : Heap} {L fa : Addr} {ccd : Value} {u : Str → Option Value} {base : Heap} {A₀ : Around} {s : Shared} {Q : Flow → Shared → Prop} {E : Value → Shared → Prop}
    {dp un : Nat} {gd : Option (List Code)} {outer : List Env} {sc : Scope} {sts : List Stmt} (hsc : sc = fnScope 32) (hsts : sts = ((fnBody 32).drop 16).take 1) {post : List (Addr × Obj)} {S : Addr} {svs : List Value} {ks : Nat} {b7 b8 : Obj} {ss : List Int}
    (B : Below A₀ base outer g) (X : (heapK w.params).In g) (T : Top viewK (looseW viewK lse) mean mg mb g)
    (F : Fr g L s.heap u) (N : News g L s.heap ((S, listOf svs.toArray ks) :: (L + 7, b7) :: (L + 8, b8) :: post))
    (hb7 : b7.data = .cell (some (.ref S))) (hb8 : b8.data = .cell none) (hs : IntsAre svs ss) (hs4 : ss.length = 4)
    (hpL : ∀ p ∈ post, p.1 ≠ L + 8) (nS : @Ne Nat S (L + 8))
    (hd1 : dp + 20 < recursionLimit) (hu1 : un + 300 < cLine)
    (hret : ∀ h' tk' u' En evs ke b8', Fr g L h' u' → News g L h' ((En, listOf evs.toArray ke) :: (S, listOf svs.toArray ks) :: (L + 7, b7) :: (L + 8, b8') :: post) → b8'.data = .cell (some (.ref En)) → IntsAre evs (endsN ss 4) → (∀ q ∈ (S, listOf svs.toArray ks) :: (L + 7, b7) :: (L + 8, b8) :: post, q.1 < En) → Q .next { s with heap := h', toks := tk' }) :
    wpAny (model PySem.Challenge.rw_ti0055_01.row.toRowW.prog w) (ktrTop dp un gd (Str.ofString "law") sc L fa ccd (cellsFrom (L + 1) sc.names []) outer) (execs sts (envOfC (Str.ofString "law") sc L fa ccd)) Q E s := by
  revert X; k_fill; intro X
  (conv at hsc => rhs; whnf); subst hsc
  (conv at hsts => rhs; whnf); dsimp only [List.take] at hsts; subst hsts
  have hsl : svs.length = 4 := hs.length.trans hs4
  repeat' ((fail_if_success (with_reducible refine is_comp ?_)); walk_at "m1")
  refine ListComp_own (s := ⟨_, _, _, _, _⟩) (cy := none) (by assumption) (by with_unfolding_all rfl) (fun _ _ _ => ⟨rfl, rfl⟩) (by rfl) (by decide) (fun _ => rfl) ?_
  repeat' ((fail_if_success (with_reducible refine is_pyIter ?_)); walk_at "m1")
  rename IsRange _ _ _ _ _ _ _ _ => R8
  rename Fr _ _ _ _ => F4
  rename News _ _ _ _ => N4
  with_unfolding_all refine' open_range (s := ⟨_, _, _, _, _⟩) (σ := List Value) (n := 4) ?hh2 (compK_L _ _ _ _ _ _) F4 N4 R8 range_15.1 range_15.2 (fun I ys => (I + 1, LCg.lst ys) :: (S, listOf svs.toArray ks) :: (L + 7, b7) :: (L + 8, b8) :: post) (fun I i ys => IntsAre ys (endsN ss i)) [] ?hn2 ?hj2 ?hoff2 ?turn2 ?fin2
  case hh2 => rfl
  case hn2 => exact fun _ _ _ hp => hp
  case hj2 => exact fun _ _ => .nil
  case hoff2 => exact fun _ _ _ lt _ => off_fix lt
  case turn2 =>
    intro I i ys h6 tk6 oI oC mC t E' lI hi4 hJ hC F6 N6
    refine asg_own (s := ⟨_, _, _, _, _⟩) F6 N6 (upd_C lI) hC rfl rfl ?_
    intro h5 oC5 tk5 mN F5 N5 hC5 hend hoth
    refine tests_one ?_
    clear F6 N6 F4 N4
    repeat' (walk_at "m1")
    · rename (List.any _ _) = true => hany
      refine emit_append (s := ⟨_, _, _, _, _⟩) (by assumption) ?_
      repeat' ((fail_if_success (with_reducible refine is_ex ?_)); walk_at "m1")
      rename Fr _ _ _ _ => F1
      rename News _ _ _ _ => N1
      refine ⟨ys, _, _, _, _, rfl, F1, N1, upd_D lI, ?_, fun h' F' N' => ?_⟩
      · rw [hJ.length, endsN]
        refine Nat.le_trans (List.length_filter_le ..) ?_
        rw [List.length_map, List.length_range]; omega
      · refine ⟨ys ++ [_], oC5, mN, _, _, rfl, F', N', hC5, ?_⟩
        rw [endsN_succ, if_pos hany]
        exact hJ.append (.cons _ _ .nil)
    · rename (List.any _ _) = false => hany
      refine ⟨ys, oC5, mN, _, _, rfl, F5, N5, hC5, ?_⟩
      rw [endsN_succ, if_neg (by rw [hany]; decide), List.append_nil]
      exact hJ
  case fin2 =>
    intro I ys hp2 lI hJ h8 tk8 F8 N8
    have nI : @Ne Nat (I + 1) (L + 8) := Nat.ne_of_gt (Nat.lt_succ_of_lt (lI (L + 8, b8) (.tail _ (.tail _ (.head _)))))
    clear F4 N4
    repeat' (walk_at "m1")
    rename_i h7 b8' F6 N6 hb8'
    (try dsimp only)
    (try refine wpAny_execs_nil ?_)
    exact hret h7 _ _ (I + 1) ys ys.length b8' F6 N6 hb8' hJ fun q hq => Nat.lt_succ_of_lt (lI q hq)
end
end
section
local macro_rules | `(tactic| walk_at "z") => `(tactic| fail)
theorem AdjD.mono {prog : Program} {w : World} {news news' : List (Addr × Obj)} {d : Addr} {f f' : Nat → List Nat} (h : AdjD prog w news d f) (hs : ∀ p ∈ news, p ∈ news') (hf : ∀ c ∈ lowL, f' c = f c) : AdjD prog w news' d f' := by
  obtain ⟨od, kvs, h1, h2, h3⟩ := h.out
  exact ⟨od, kvs, hs _ h1, h2, fun c hc => by
    obtain ⟨a, avs, k, e1, e2, e3⟩ := h3 c hc
    exact ⟨a, avs, k, e1, hs _ e2, by rw [hf c hc]; exact e3⟩⟩
noncomputable def endB (es : List Int) (i : Nat) : Bool := es.any fun x => x == (1 : Int) + (i : Int)
noncomputable def adjN (wl : List (Nat × Nat)) (es : List Int) (i : Nat) : Nat → List Nat := if endB es i = true then overP wl else beatP wl
noncomputable def stepV (Ob Db : Addr) (es : List Int) (n : Nat) : List Value := (List.range n).map fun i => Value.ref (if endB es i = true then Ob else Db)
theorem stepV_succ (Ob Db : Addr) (es : List Int) (n : Nat) : stepV Ob Db es (n + 1) = stepV Ob Db es n ++ [Value.ref (if endB es n = true then Ob else Db)] := by
  unfold stepV
  rw [List.range_succ, List.map_append]
  rfl
theorem stepV_len (Ob Db : Addr) (es : List Int) (n : Nat) : (stepV Ob Db es n).length = n := by simp [stepV]
theorem endB_eq {es : List Int} {i : Nat} {b : Bool} (h : (es.any fun x => x == (1 : Int) + (i : Int)) = b) : endB es i = b := h
section
local macro_rules | `(tactic| k_all) => `(tactic| assumption)
theorem main_s12 {w : World} {mean : ExcName → Option Value} {mg mb : Str → Option Value} {g : Heap} {L fa : Addr} {ccd : Value} {u : Str → Option Value} {base : Heap} {A₀ : Around} {s : Shared} {Q : Flow → Shared → Prop} {E : Value → Shared → Prop}
    {dp un : Nat} {gd : Option (List Code)} {outer : List Env} {sc : Scope} {sts : List Stmt} (hsc : sc = fnScope 32) (hsts : sts = ((fnBody 32).drop 17)) {post : List (Addr × Obj)} {En Ob Db : Addr} {evs : List Value} {ke : Nat} {b5 b6 b8 : Obj} {es : List Int} {wl : List (Nat × Nat)}
    (B : Below A₀ base outer g) (X : (heapK w.params).In g) (T : Top viewK (looseW viewK lse) mean mg mb g)
    (F : Fr g L s.heap u) (N : News g L s.heap ((En, listOf evs.toArray ke) :: (L + 5, b5) :: (L + 6, b6) :: (L + 8, b8) :: post))
    (hb5 : b5.data = .cell (some (.ref Db))) (hb6 : b6.data = .cell (some (.ref Ob))) (hb8 : b8.data = .cell (some (.ref En))) (he : IntsAre evs es) (he4 : es.length ≤ 4)
    (hbt : AdjD PySem.Challenge.rw_ti0055_01.row.toRowW.prog w post Db (beatP wl)) (hov : AdjD PySem.Challenge.rw_ti0055_01.row.toRowW.prog w post Ob (overP wl))
    (hA : ∀ i c, c ∈ lowL → (adjN wl es i c).length ≤ 4 ∧ ∀ x ∈ adjN wl es i c, x ∈ lowL)
    (hpar : Hd ((((rowsN (adjN wl es) 4).length : Nat) : Int).fmod 2 = (waysN es (2 ^ es.length)).fmod 2))
    (hpE : ∀ p ∈ post, p.1 ≠ En) (nE5 : @Ne Nat (L + 5) En) (nE6 : @Ne Nat (L + 6) En) (nE8 : @Ne Nat (L + 8) En)
    (hd1 : dp + 20 < recursionLimit) (hu1 : un + 300 < cLine)
    (hE : PassesOwn (model PySem.Challenge.rw_ti0055_01.row.toRowW.prog w) (ktrTop dp un gd (Str.ofString "law") sc L fa ccd (cellsFrom (L + 1) sc.names []) outer) (envOfC (Str.ofString "law") sc L fa ccd) E)
    (hret : ∀ h' tk' u', Fr g L h' u' → Q (.ret (.bool true)) { s with heap := h', toks := tk' }) :
    wpAny (model PySem.Challenge.rw_ti0055_01.row.toRowW.prog w) (ktrTop dp un gd (Str.ofString "law") sc L fa ccd (cellsFrom (L + 1) sc.names []) outer) (execs sts (envOfC (Str.ofString "law") sc L fa ccd)) Q E s := by
  revert X; k_fill; intro X
  (conv at hsc => rhs; whnf); subst hsc
  (conv at hsts => rhs; whnf); subst hsts
  have hel : evs.length ≤ 4 := by rw [he.length]; exact he4
  repeat' ((fail_if_success (with_reducible refine is_comp ?_)); walk_at "m1")
  refine ListComp_own (s := ⟨_, _, _, _, _⟩) (cy := none) (by assumption) (by with_unfolding_all rfl) (fun _ _ _ => ⟨rfl, rfl⟩) (by rfl) (by decide) (fun _ => rfl) ?_
  repeat' ((fail_if_success (with_reducible refine is_pyIter ?_)); walk_at "m1")
  rename IsRange _ _ _ _ _ _ _ _ => R8
  rename Fr _ _ _ _ => F4
  rename News _ _ _ _ => N4
  with_unfolding_all refine' open_range (s := ⟨_, _, _, _, _⟩) (σ := List Value) (n := 4) ?hh2 (compK_L _ _ _ _ _ _) F4 N4 R8 range_15.1 range_15.2 (fun I ys => (I + 1, LCg.lst ys) :: (En, listOf evs.toArray ke) :: (L + 5, b5) :: (L + 6, b6) :: (L + 8, b8) :: post) (fun I i ys => ys = stepV Ob Db es i) [] ?hn2 ?hj2 ?hoff2 ?turn2 ?fin2
  case hh2 => rfl
  case hn2 => exact fun _ _ _ hp => hp
  case hj2 => exact fun _ _ => rfl
  case hoff2 => exact fun _ _ _ lt _ => off_fix lt
  case turn2 =>
    intro I i ys h6 tk6 oI oC mC t E' lI hi4 hJ hC F6 N6
    refine asg_own (s := ⟨_, _, _, _, _⟩) F6 N6 (upd_C lI) hC rfl rfl ?_
    intro h5 oC5 tk5 mN F5 N5 hC5 hend hoth
    refine tests_nil ?_
    rw [if_pos rfl]
    refine emit_append (s := ⟨_, _, _, _, _⟩) (by assumption) ?_
    clear F6 N6 F4 N4
    repeat' ((fail_if_success (with_reducible refine is_ex ?_)); walk_at "m1")
    · rename (List.any _ _) = true => hany
      refine ⟨ys, _, _, _, _, rfl, F5, N5, upd_D lI, ?_, fun h' F' N' => ?_⟩
      · rw [hJ, stepV_len]; omega
      · refine ⟨ys ++ [_], oC5, mN, _, _, rfl, F', N', hC5, ?_⟩
        rw [stepV_succ, endB_eq hany, if_pos rfl, hJ]
    · rename (List.any _ _) = false => hany
      refine ⟨ys, _, _, _, _, rfl, F5, N5, upd_D lI, ?_, fun h' F' N' => ?_⟩
      · rw [hJ, stepV_len]; omega
      · refine ⟨ys ++ [_], oC5, mN, _, _, rfl, F', N', hC5, ?_⟩
        rw [stepV_succ, endB_eq hany, if_neg (by decide), hJ]
  case fin2 =>
    intro I ys hp2 lI hJ h8 tk8 F8 N8
    clear F4 N4
    repeat' ((fail_if_success (with_reducible refine is_call ?_)); walk_at "m1")
    have hsub : ∀ p ∈ post, p ∈ (En, listOf evs.toArray ke) :: (L + 5, b5) :: (L + 6, b6) :: (L + 8, b8) :: post := fun p hp => .tail _ (.tail _ (.tail _ (.tail _ hp)))
    refine' ord_call (s := ⟨_, _, _, _, _⟩) (l := I + 1) (svs := ys) (ks := ys.length) (adj := adjN wl es) (news := (En, listOf evs.toArray ke) :: (L + 5, b5) :: (L + 6, b6) :: (L + 8, b8) :: post) (by assumption) F8 (by assumption) N8 (by assumption) (by rfl) (by rw [hJ, stepV_len]) (fun p hp => Nat.ne_of_lt (Nat.lt_succ_of_lt (lI p hp))) ?hS hA (by omega) (by omega) ?_
    case hS =>
      intro i v e
      rw [hJ] at e
      have hi : i < 4 := by have := (List.getElem?_eq_some_iff.mp e).1; rwa [stepV_len] at this
      unfold stepV at e
      rw [List.getElem?_map, List.getElem?_range hi] at e
      have e2 : v = Value.ref (if endB es i = true then Ob else Db) := (Option.some.inj e).symm
      cases hb : endB es i
      · rw [hb, if_neg (by decide)] at e2
        exact ⟨Db, e2, hbt.mono hsub (fun _ _ => by unfold adjN; rw [hb, if_neg (by decide)])⟩
      · rw [hb, if_pos rfl] at e2
        exact ⟨Ob, e2, hov.mono hsub (fun _ _ => by unfold adjN; rw [hb, if_pos rfl])⟩
    intro t9 h9 tk9 F9 N9
    clear F8 N8
    repeat' ((fail_if_success (with_reducible refine is_call ?_)); walk_at "m1")
    have hIE : @Ne Nat (I + 1) En := Nat.ne_of_gt (Nat.lt_succ_of_lt (lI (En, listOf evs.toArray ke) (.head _)))
    rename Fr _ _ _ _ => F7
    refine' way_call (s := ⟨_, _, _, _, _⟩) (l := En) (evs := evs) (ke := ke) (news := (I + 1, listOf ys.toArray ys.length) :: (L + 5, b5) :: (L + 6, b6) :: (L + 8, b8) :: post) (by assumption) F7 (by assumption) (cb_drop (by assumption) ?kin) (by assumption) (by rfl) he he4 ?hpl (by omega) (by omega) ?_
    case kin => kst_in
    case hpl => exact List.forall_mem_cons.mpr ⟨hIE, List.forall_mem_cons.mpr ⟨nE5, List.forall_mem_cons.mpr ⟨nE6, List.forall_mem_cons.mpr ⟨nE8, hpE⟩⟩⟩⟩
    intro t6 h6 tk6 F6 N6
    have hp2 := hpar.out
    repeat' (walk_at "m1")
    rw [hp2, beq_self_eq_true]
    exact hret _ _ _ F6
end
end
theorem win_mem (ws : List (List Nat)) : ∀ p ∈ (prsN 5).map (winL ws), p.1 ∈ lowL ∧ p.2 ∈ lowL := by
  intro p hp
  obtain ⟨q, hq, rfl⟩ := List.mem_map.mp hp
  have h := prs_lt q hq
  unfold winL
  split
  · exact ⟨low_at h.1, low_at h.2⟩
  · exact ⟨low_at h.2, low_at h.1⟩
theorem win_len (ws : List (List Nat)) : ((prsN 5).map (winL ws)).length = 10 := by rw [List.length_map]; decide
theorem deg_beat (ws : List (List Nat)) (c : Nat) : ∀ ps : List (Nat × Nat), ((ps.map (winL ws)).filter fun p => p.1 == c).length ≤ (ps.filter fun p => 112 + p.1 == c || 112 + p.2 == c).length
  | [] => Nat.le_refl _
  | p :: ps => by
    have ih := deg_beat ws c ps
    rw [List.map_cons, List.filter_cons, List.filter_cons]
    have key : ((winL ws p).1 == c) = true → (112 + p.1 == c || 112 + p.2 == c) = true := by
      unfold winL
      split
      · intro h; rw [show (112 + p.1 == c) = true from h]; rfl
      · intro h; rw [show (112 + p.2 == c) = true from h]; simp
    by_cases h : ((winL ws p).1 == c) = true
    · rw [if_pos h, if_pos (key h)]
      exact Nat.succ_le_succ ih
    · rw [if_neg h]
      split
      · exact Nat.le_succ_of_le ih
      · exact ih
theorem deg_over (ws : List (List Nat)) (c : Nat) : ∀ ps : List (Nat × Nat), ((ps.map (winL ws)).filter fun p => p.2 == c).length ≤ (ps.filter fun p => 112 + p.1 == c || 112 + p.2 == c).length
  | [] => Nat.le_refl _
  | p :: ps => by
    have ih := deg_over ws c ps
    rw [List.map_cons, List.filter_cons, List.filter_cons]
    have key : ((winL ws p).2 == c) = true → (112 + p.1 == c || 112 + p.2 == c) = true := by
      unfold winL
      split
      · intro h; rw [show (112 + p.2 == c) = true from h]; simp
      · intro h; rw [show (112 + p.1 == c) = true from h]; rfl
    by_cases h : ((winL ws p).2 == c) = true
    · rw [if_pos h, if_pos (key h)]
      exact Nat.succ_le_succ ih
    · rw [if_neg h]
      split
      · exact Nat.le_succ_of_le ih
      · exact ih
theorem deg_all : ∀ c ∈ lowL, ((prsN 5).filter fun p => 112 + p.1 == c || 112 + p.2 == c).length ≤ 4 := by decide
theorem law_deg (ws : List (List Nat)) (es : List Int) (i c : Nat) (hc : c ∈ lowL) : (adjN ((prsN 5).map (winL ws)) es i c).length ≤ 4 ∧ ∀ x ∈ adjN ((prsN 5).map (winL ws)) es i c, x ∈ lowL := by
  unfold adjN
  split
  · refine ⟨?_, fun x hx => ?_⟩
    · unfold overP
      rw [List.length_map]
      exact Nat.le_trans (deg_over ws c _) (deg_all c hc)
    · obtain ⟨p, hp, rfl⟩ := List.mem_map.mp hx
      exact (win_mem ws p (List.mem_filter.mp hp).1).1
  · refine ⟨?_, fun x hx => ?_⟩
    · unfold beatP
      rw [List.length_map]
      exact Nat.le_trans (deg_beat ws c _) (deg_all c hc)
    · obtain ⟨p, hp, rfl⟩ := List.mem_map.mp hx
      exact (win_mem ws p (List.mem_filter.mp hp).1).2
theorem ends_F (ss : List Int) : endsN ss 4 = endsF [ss.any fun x => x == 1, ss.any fun x => x == 2, ss.any fun x => x == 3, ss.any fun x => x == 4] := by
  rw [show endsN ss 4 = [(1 : Int), 2, 3, 4].filter fun e => ss.any fun x => x == e from rfl]
  unfold endsF
  simp only [List.filter_cons, List.filter_nil, List.zip_cons_cons, List.zip_nil_right, List.filterMap_cons, List.filterMap_nil]
  cases (ss.any fun x => x == 1) <;> cases (ss.any fun x => x == 2) <;> cases (ss.any fun x => x == 3) <;> cases (ss.any fun x => x == 4) <;> rfl
theorem ends_at : ∀ a b c d : Bool, [endB (endsF [a, b, c, d]) 0, endB (endsF [a, b, c, d]) 1, endB (endsF [a, b, c, d]) 2, endB (endsF [a, b, c, d]) 3] = [a, b, c, d] ∧ [a, b, c, d] ∈ allOs ∧ (endsF [a, b, c, d]).length ≤ 4 := by decide +kernel
theorem ends_len (ss : List Int) : (endsN ss 4).length ≤ 4 := by
  rw [ends_F]
  exact (ends_at _ _ _ _).2.2
theorem win_zip (ws : List (List Nat)) : (prsN 5).map (winL ws) = winsF ((prsN 5).map (winB ws)) := by
  unfold winsF
  rw [show pairsL = (prsN 5).map fun p => (112 + p.1, 112 + p.2) by decide]
  induction prsN 5 with
  | nil => rfl
  | cons p ps ih =>
    rw [List.map_cons, List.map_cons, List.map_cons, List.zipWith_cons_cons, ih]
    rfl
theorem law_par (ws : List (List Nat)) (ss : List Int) : Hd ((((rowsN (adjN ((prsN 5).map (winL ws)) (endsN ss 4)) 4).length : Nat) : Int).fmod 2 = (waysN (endsN ss 4) (2 ^ (endsN ss 4).length)).fmod 2) := by
  refine ⟨?_⟩
  rw [ends_F]
  generalize (ss.any fun x => x == 1) = a
  generalize (ss.any fun x => x == 2) = b
  generalize (ss.any fun x => x == 3) = c
  generalize (ss.any fun x => x == 4) = d
  obtain ⟨h1, h2, _⟩ := ends_at a b c d
  have h := parity (f := (prsN 5).map (winB ws)) (os := [a, b, c, d]) (by rw [List.length_map]; decide) h2
  rw [← h, ← win_zip]
  congr 3
  injection h1 with q0 h1
  injection h1 with q1 h1
  injection h1 with q2 h1
  injection h1 with q3 h1
  show ((((rowsN _ 0).flatMap (stepR (adjN ((prsN 5).map (winL ws)) (endsF [a, b, c, d]) 0))).flatMap (stepR (adjN ((prsN 5).map (winL ws)) (endsF [a, b, c, d]) 1))).flatMap (stepR (adjN ((prsN 5).map (winL ws)) (endsF [a, b, c, d]) 2))).flatMap (stepR (adjN ((prsN 5).map (winL ws)) (endsF [a, b, c, d]) 3)) = _
  unfold adjN
  rw [q0, q1, q2, q3]
  rfl
theorem law_far {ws : List (List Nat)} (h5 : ws.length = 5) (hw : ∀ x ∈ ws, x.length ≤ 3 ∧ ∀ c ∈ x, c ∈ [97, 65, 98, 66]) : ∀ p ∈ prsN 5, farL ws p = dueL ws p := by
  intro p hp
  have h := prs_lt p hp
  have h1 := getD_words hw (i := p.1) (by rw [h5]; exact h.1)
  have h2 := getD_words hw (i := p.2) (by rw [h5]; exact h.2)
  exact lev_due_int h1.2 h2.2 h1.1 h2.1
noncomputable def notCell (o : Obj) : Bool := match o.data with | .cell _ => false | _ => true
theorem notCell_ne {o : Obj} (h : notCell o = true) : ∀ v, o.data ≠ .cell v := fun v e => by
  unfold notCell at h
  rw [e] at h; cases h
theorem isDict_notCell {prog : Program} {w : World} {o : Obj} {kvs : List (Str × Value)} (h : o.IsDictOf (PySem.strKind prog w) kvs) : notCell o = true := by
  cases e : notCell o
  · exfalso
    unfold notCell at e
    split at e
    · rename_i x hx
      unfold Obj.IsDictOf at h
      simp [hx] at h
    · cases e
  · rfl
noncomputable def nc (l : List (Addr × Obj)) : List (Addr × Obj) := l.filter fun p => notCell p.2
theorem nc_mem {l : List (Addr × Obj)} {p : Addr × Obj} (h : p ∈ l) (hp : notCell p.2 = true) : p ∈ nc l := List.mem_filter.mpr ⟨h, hp⟩
theorem nc_sub {l : List (Addr × Obj)} {p : Addr × Obj} (h : p ∈ nc l) : p ∈ l := (List.mem_filter.mp h).1
structure Bare (G : List (Addr × Obj)) : Prop where
  out : ∀ p ∈ G, notCell p.2 = true
theorem Bare.cons {G : List (Addr × Obj)} {p : Addr × Obj} (h : Bare G) (hp : notCell p.2 = true) : Bare (p :: G) := ⟨List.forall_mem_cons.mpr ⟨hp, h.out⟩⟩
theorem Bare.app {G : List (Addr × Obj)} (l : List (Addr × Obj)) (h : Bare G) : Bare (nc l ++ G) := ⟨fun p hp => by
  rcases List.mem_append.mp hp with hp | hp
  · exact (List.mem_filter.mp hp).2
  · exact h.out p hp⟩
theorem Bare.nil : Bare [] := ⟨fun _ h => nomatch h⟩
theorem Bare.off {g h : Heap} {L a : Addr} {all G : List (Addr × Obj)} {c : Obj} {v : Option Value} (hG : Bare G) (N : News g L h all) (hs : ∀ p ∈ G, p ∈ all) (hc : (a, c) ∈ all) (hd : c.data = .cell v) : ∀ p ∈ G, p.1 ≠ a := fun p hp => ne_cel N (hs p hp) hc hd (notCell_ne (hG.out p hp))
theorem IPairsAt.into {t G : List (Addr × Obj)} {vs : List Value} {ps : List (Nat × Nat)} (h : IPairsAt t vs ps) (hs : ∀ p ∈ t, notCell p.2 = true → p ∈ G) : IPairsAt G vs ps :=
  ⟨h.len, fun i v e => by obtain ⟨T, a, b, t, t', k, h1, h2, h3⟩ := h.at' i v e; exact ⟨T, a, b, t, t', k, h1, h2, hs _ h3 rfl⟩⟩
theorem PairsAt.into {t G : List (Addr × Obj)} {vs : List Value} {ps : List (Nat × Nat)} (h : PairsAt t vs ps) (hs : ∀ p ∈ t, notCell p.2 = true → p ∈ G) : PairsAt G vs ps :=
  ⟨h.len, fun i v e => by obtain ⟨T, a, b, t, t', k, h1, h2, h3⟩ := h.at' i v e; exact ⟨T, a, b, t, t', k, h1, h2, hs _ h3 rfl⟩⟩
theorem HdrsAt.into {t G : List (Addr × Obj)} {vs : List Value} {ps : List (List Nat × Nat)} (h : HdrsAt t vs ps) (hs : ∀ p ∈ t, notCell p.2 = true → p ∈ G) : HdrsAt G vs ps :=
  ⟨h.len, fun i v e => by obtain ⟨T, a, b, t, t', k, h1, h2, h3⟩ := h.at' i v e; exact ⟨T, a, b, t, t', k, h1, h2, hs _ h3 rfl⟩⟩
theorem DcAt.into {prog : Program} {w : World} {od : Obj} {as : List Addr} {t G : List (Addr × Obj)} {f : Nat → List Nat} {n : Nat} (h : DcAt prog w od as t f n) (hs : ∀ p ∈ t, notCell p.2 = true → p ∈ G) : DcAt prog w od as G f n :=
  ⟨h.dict, h.len, fun j hj => by obtain ⟨avs, k, h1, h2⟩ := h.at' j hj; exact ⟨avs, k, hs _ h1 rfl, h2⟩⟩
structure St (g : Heap) (L : Addr) (h : Heap) (b1 b2 b3 b4 b5 b6 b7 b8 : Obj) (G : List (Addr × Obj)) : Prop where
  N : News g L h ((L + 1, b1) :: (L + 2, b2) :: (L + 3, b3) :: (L + 4, b4) :: (L + 5, b5) :: (L + 6, b6) :: (L + 7, b7) :: (L + 8, b8) :: G)
  bare : Bare G
theorem inG {c1 c2 c3 c4 c5 c6 c7 c8 p : Addr × Obj} {G : List (Addr × Obj)} (h : p ∈ G) : p ∈ c1 :: c2 :: c3 :: c4 :: c5 :: c6 :: c7 :: c8 :: G := .tail _ (.tail _ (.tail _ (.tail _ (.tail _ (.tail _ (.tail _ (.tail _ h)))))))
theorem cell_ne {L : Addr} {a b : Nat} (h : ¬ a = b) : @Ne Nat (L + a) (L + b) := fun q => h (Nat.add_left_cancel q)
theorem news_in {g h : Heap} {L : Addr} {x : Addr × Obj} {all rest : List (Addr × Obj)} (N : News g L h all) (hx : x ∈ all) (R : News g L h rest) : News g L h (x :: rest) := fun p hp => by
  rcases List.mem_cons.mp hp with rfl | hp
  · exact N _ hx
  · exact R _ hp
section
variable {g h : Heap} {L : Addr} {n1 n2 n3 a b c q1 q2 q3 q4 q5 q6 q7 q8 : Addr × Obj} {l G : List (Addr × Obj)}
theorem back1 (N : News g L h (n1 :: n2 :: q8 :: q7 :: q6 :: q5 :: q4 :: q3 :: q2 :: q1 :: [])) : News g L h (q1 :: q2 :: q3 :: q4 :: q5 :: q6 :: q7 :: q8 :: n1 :: n2 :: []) := fun p hp => N p (by
  simp only [List.mem_cons, List.not_mem_nil, or_false] at hp ⊢
  rcases hp with h | h | h | h | h | h | h | h | h | h <;> simp [h])
theorem back2 (N : News g L h (n1 :: (l ++ (q1 :: q2 :: q3 :: q4 :: q5 :: q6 :: q7 :: q8 :: G)))) : News g L h (q1 :: q2 :: q3 :: q4 :: q5 :: q6 :: q7 :: q8 :: n1 :: (nc l ++ G)) := fun p hp => N p (by
  simp only [List.mem_cons, List.mem_append] at hp ⊢
  rcases hp with h | h | h | h | h | h | h | h | h | h | h
  all_goals first | simp [h] | simp [nc_sub h])
theorem back3 (N : News g L h (n1 :: a :: b :: q2 :: (q1 :: q3 :: q4 :: q5 :: q6 :: q7 :: q8 :: G))) : News g L h (q1 :: q2 :: q3 :: q4 :: q5 :: q6 :: q7 :: q8 :: n1 :: G) := fun p hp => N p (by
  simp only [List.mem_cons] at hp ⊢
  rcases hp with h | h | h | h | h | h | h | h | h | h <;> simp [h])
theorem back4 (N : News g L h (n1 :: (l ++ a :: b :: c :: q2 :: q3 :: (q1 :: q4 :: q5 :: q6 :: q7 :: q8 :: G)))) : News g L h (q1 :: q2 :: q3 :: q4 :: q5 :: q6 :: q7 :: q8 :: n1 :: (nc l ++ G)) := fun p hp => N p (by
  simp only [List.mem_cons, List.mem_append] at hp ⊢
  rcases hp with h | h | h | h | h | h | h | h | h | h | h
  all_goals first | simp [h] | simp [nc_sub h])
theorem back5 (N : News g L h (n1 :: n2 :: n3 :: a :: q3 :: q4 :: (l ++ (q1 :: q2 :: q5 :: q6 :: q7 :: q8 :: G)))) : News g L h (q1 :: q2 :: q3 :: q4 :: q5 :: q6 :: q7 :: q8 :: n1 :: n2 :: n3 :: (nc l ++ G)) := fun p hp => N p (by
  simp only [List.mem_cons, List.mem_append] at hp ⊢
  rcases hp with h | h | h | h | h | h | h | h | h | h | h | h | h
  all_goals first | simp [h] | simp [nc_sub h])
theorem back6 (N : News g L h (n1 :: a :: b :: c :: q4 :: q5 :: (l ++ (q1 :: q2 :: q3 :: q6 :: q7 :: q8 :: G)))) : News g L h (q1 :: q2 :: q3 :: q4 :: q5 :: q6 :: q7 :: q8 :: n1 :: (nc l ++ G)) := fun p hp => N p (by
  simp only [List.mem_cons, List.mem_append] at hp ⊢
  rcases hp with h | h | h | h | h | h | h | h | h | h | h
  all_goals first | simp [h] | simp [nc_sub h])
theorem back7 (N : News g L h (n1 :: a :: b :: c :: q4 :: q6 :: (l ++ (q1 :: q2 :: q3 :: q5 :: q7 :: q8 :: G)))) : News g L h (q1 :: q2 :: q3 :: q4 :: q5 :: q6 :: q7 :: q8 :: n1 :: (nc l ++ G)) := fun p hp => N p (by
  simp only [List.mem_cons, List.mem_append] at hp ⊢
  rcases hp with h | h | h | h | h | h | h | h | h | h | h
  all_goals first | simp [h] | simp [nc_sub h])
theorem back8 (N : News g L h (a :: b :: q3 :: q5 :: (q1 :: q2 :: q4 :: q6 :: q7 :: q8 :: G))) : News g L h (q1 :: q2 :: q3 :: q4 :: q5 :: q6 :: q7 :: q8 :: G) := fun p hp => N p (by
  simp only [List.mem_cons] at hp ⊢
  rcases hp with h | h | h | h | h | h | h | h | h <;> simp [h])
theorem back9 (N : News g L h (a :: b :: q3 :: q6 :: (q1 :: q2 :: q4 :: q5 :: q7 :: q8 :: G))) : News g L h (q1 :: q2 :: q3 :: q4 :: q5 :: q6 :: q7 :: q8 :: G) := fun p hp => N p (by
  simp only [List.mem_cons] at hp ⊢
  rcases hp with h | h | h | h | h | h | h | h | h <;> simp [h])
theorem back10 (N : News g L h (n1 :: a :: q1 :: q7 :: (q2 :: q3 :: q4 :: q5 :: q6 :: q8 :: G))) : News g L h (q1 :: q2 :: q3 :: q4 :: q5 :: q6 :: q7 :: q8 :: n1 :: G) := fun p hp => N p (by
  simp only [List.mem_cons] at hp ⊢
  rcases hp with h | h | h | h | h | h | h | h | h | h <;> simp [h])
theorem back11 (N : News g L h (n1 :: a :: q7 :: q8 :: (q1 :: q2 :: q3 :: q4 :: q5 :: q6 :: G))) : News g L h (q1 :: q2 :: q3 :: q4 :: q5 :: q6 :: q7 :: q8 :: n1 :: G) := fun p hp => N p (by
  simp only [List.mem_cons] at hp ⊢
  rcases hp with h | h | h | h | h | h | h | h | h | h <;> simp [h])
theorem front2 (N : News g L h (q1 :: q2 :: q3 :: q4 :: q5 :: q6 :: q7 :: q8 :: G)) : News g L h (q2 :: q1 :: q3 :: q4 :: q5 :: q6 :: q7 :: q8 :: G) := fun p hp => N p (by
  simp only [List.mem_cons] at hp ⊢
  rcases hp with h | h | h | h | h | h | h | h | h <;> simp [h])
theorem front23 (N : News g L h (q1 :: q2 :: q3 :: q4 :: q5 :: q6 :: q7 :: q8 :: G)) : News g L h (q2 :: q3 :: q1 :: q4 :: q5 :: q6 :: q7 :: q8 :: G) := fun p hp => N p (by
  simp only [List.mem_cons] at hp ⊢
  rcases hp with h | h | h | h | h | h | h | h | h <;> simp [h])
theorem front34 (N : News g L h (q1 :: q2 :: q3 :: q4 :: q5 :: q6 :: q7 :: q8 :: G)) : News g L h (q3 :: q4 :: q1 :: q2 :: q5 :: q6 :: q7 :: q8 :: G) := fun p hp => N p (by
  simp only [List.mem_cons] at hp ⊢
  rcases hp with h | h | h | h | h | h | h | h | h <;> simp [h])
theorem front45 (N : News g L h (q1 :: q2 :: q3 :: q4 :: q5 :: q6 :: q7 :: q8 :: G)) : News g L h (q4 :: q5 :: q1 :: q2 :: q3 :: q6 :: q7 :: q8 :: G) := fun p hp => N p (by
  simp only [List.mem_cons] at hp ⊢
  rcases hp with h | h | h | h | h | h | h | h | h <;> simp [h])
theorem front46 (N : News g L h (q1 :: q2 :: q3 :: q4 :: q5 :: q6 :: q7 :: q8 :: G)) : News g L h (q4 :: q6 :: q1 :: q2 :: q3 :: q5 :: q7 :: q8 :: G) := fun p hp => N p (by
  simp only [List.mem_cons] at hp ⊢
  rcases hp with h | h | h | h | h | h | h | h | h <;> simp [h])
theorem front35 (N : News g L h (q1 :: q2 :: q3 :: q4 :: q5 :: q6 :: q7 :: q8 :: G)) : News g L h (q3 :: q5 :: q1 :: q2 :: q4 :: q6 :: q7 :: q8 :: G) := fun p hp => N p (by
  simp only [List.mem_cons] at hp ⊢
  rcases hp with h | h | h | h | h | h | h | h | h <;> simp [h])
theorem front36 (N : News g L h (q1 :: q2 :: q3 :: q4 :: q5 :: q6 :: q7 :: q8 :: G)) : News g L h (q3 :: q6 :: q1 :: q2 :: q4 :: q5 :: q7 :: q8 :: G) := fun p hp => N p (by
  simp only [List.mem_cons] at hp ⊢
  rcases hp with h | h | h | h | h | h | h | h | h <;> simp [h])
theorem front17 (N : News g L h (q1 :: q2 :: q3 :: q4 :: q5 :: q6 :: q7 :: q8 :: G)) : News g L h (q1 :: q7 :: q2 :: q3 :: q4 :: q5 :: q6 :: q8 :: G) := fun p hp => N p (by
  simp only [List.mem_cons] at hp ⊢
  rcases hp with h | h | h | h | h | h | h | h | h <;> simp [h])
theorem front78 (N : News g L h (q1 :: q2 :: q3 :: q4 :: q5 :: q6 :: q7 :: q8 :: G)) : News g L h (q7 :: q8 :: q1 :: q2 :: q3 :: q4 :: q5 :: q6 :: G) := fun p hp => N p (by
  simp only [List.mem_cons] at hp ⊢
  rcases hp with h | h | h | h | h | h | h | h | h <;> simp [h])
theorem front568 (N : News g L h (q1 :: q2 :: q3 :: q4 :: q5 :: q6 :: q7 :: q8 :: G)) : News g L h (q5 :: q6 :: q8 :: q1 :: q2 :: q3 :: q4 :: q7 :: G) := fun p hp => N p (by
  simp only [List.mem_cons] at hp ⊢
  rcases hp with h | h | h | h | h | h | h | h | h <;> simp [h])
end
theorem seg_cut {M : Model} {A : Around} {env : Env} {l : List Stmt} {Q : Flow → Shared → Prop} {E : Value → Shared → Prop} {s : Shared} (a k b : Nat) (hb : b = a + k)
    (h : wpAny M A (execs ((l.drop a).take k) env) (fun f s' => match f with | .next => wpAny M A (execs (l.drop b) env) Q E s' | f => Q f s') E s) : wpAny M A (execs (l.drop a) env) Q E s := by
  subst hb
  have e : l.drop a = (l.drop a).take k ++ l.drop (a + k) := by rw [← List.drop_drop, List.take_append_drop]
  rw [e]
  exact execs_app _ h fun _ h => h
theorem drop9 {g h : Heap} {L : Addr} {n1 q1 q2 q3 q4 q5 q6 q7 q8 : Addr × Obj} {G : List (Addr × Obj)} (N : News g L h (q1 :: q2 :: q3 :: q4 :: q5 :: q6 :: q7 :: q8 :: n1 :: G)) : News g L h (q1 :: q2 :: q3 :: q4 :: q5 :: q6 :: q7 :: q8 :: G) := fun p hp => N p (by
  simp only [List.mem_cons] at hp ⊢
  rcases hp with h | h | h | h | h | h | h | h | h <;> simp [h])
theorem main_all {w : World} {mean : ExcName → Option Value} {mg mb : Str → Option Value} {g : Heap} {L fa : Addr} {ccd : Value} {u : Str → Option Value} {base : Heap} {A₀ : Around} {s : Shared} {Q : Flow → Shared → Prop} {E : Value → Shared → Prop}
    {dp un : Nat} {gd : Option (List Code)} {outer : List Env} {sc : Scope} (hsc : sc = fnScope 32) {l : Addr} {svs : List Value} {ns : List Int} {c1 c2 c3 c4 c5 c6 c7 c8 : Obj}
    (B : Below A₀ base outer g) (X : (heapK w.params).In g) (T : Top viewK (looseW viewK lse) mean mg mb g)
    (F : Fr g L s.heap (kstB u [(Str.ofString "script", Value.ref l)])) (N : News g L s.heap (cel8 L c1 c2 c3 c4 c5 c6 c7 c8))
    (hl : g.IsList l svs.toArray) (hi : IntsAre svs ns) (hln : ns.length ≤ 63) (hbare : AllBare s.gens)
    (d1 : c1.data = .cell none) (d2 : c2.data = .cell none) (d3 : c3.data = .cell none) (d4 : c4.data = .cell none) (d5 : c5.data = .cell none) (d6 : c6.data = .cell none) (d7 : c7.data = .cell none) (d8 : c8.data = .cell none)
    (hd1 : dp + 20 < recursionLimit) (hu1 : un + 300 < cLine)
    (hE : PassesOwn (model PySem.Challenge.rw_ti0055_01.row.toRowW.prog w) (ktrTop dp un gd (Str.ofString "law") sc L fa ccd (cellsFrom (L + 1) sc.names []) outer) (envOfC (Str.ofString "law") sc L fa ccd) E)
    (hret : ∀ h' tk' gens' u', Fr g L h' u' → AllBare gens' → Q (.ret (.bool true)) { s with heap := h', gens := gens', toks := tk' }) :
    wpAny (model PySem.Challenge.rw_ti0055_01.row.toRowW.prog w) (ktrTop dp un gd (Str.ofString "law") sc L fa ccd (cellsFrom (L + 1) sc.names []) outer) (execs ((fnBody 32).drop 0) (envOfC (Str.ofString "law") sc L fa ccd)) Q E s := by
  -- the first five rows
  refine seg_cut 0 5 5 rfl ?_
  refine main_s1 hsc rfl B X T F N hl hi hln hbare d1 d2 d3 d4 d5 d6 d7 d8 hd1 hu1 ?_
  intro h1 tk1 gens1 m1 Z W zvs wvs kz kw b1 b2 zs ws F1 N1 hgb iz z5 zb tw w5 wb e1 e2
  clear F N d1 d2
  obtain ⟨G, S, hZ, hW⟩ : ∃ G, St g L h1 b1 b2 c3 c4 c5 c6 c7 c8 G ∧ (Z, listOf zvs.toArray kz) ∈ G ∧ (W, listOf wvs.toArray kw) ∈ G :=
    ⟨_, ⟨back1 N1, (Bare.nil.cons rfl).cons rfl⟩, .tail _ (.head _), .head _⟩
  clear N1
  -- pairs
  show wpAny _ _ (execs ((fnBody 32).drop 5) _) Q E _
  refine seg_cut 5 1 6 rfl ?_
  refine main_s2 hsc rfl B X T F1 S.N hd1 hu1 ?_
  intro h2 tk2 m2 Pl pvs kp tups F2 hm2 N2 ip
  clear F1
  obtain ⟨G2, S2, hsub, hPl, ip2⟩ : ∃ G', St g L h2 b1 b2 c3 c4 c5 c6 c7 c8 G' ∧ (∀ p ∈ G, p ∈ G') ∧ (Pl, listOf pvs.toArray kp) ∈ G' ∧ IPairsAt G' pvs (prsN 5) :=
    ⟨_, ⟨back2 N2, (S.bare.app tups).cons rfl⟩, fun p hp => .tail _ (List.mem_append_right _ hp), .head _, ip.into fun p hp hc => .tail _ (List.mem_append_left _ (nc_mem hp hc))⟩
  replace hZ := hsub _ hZ
  replace hW := hsub _ hW
  clear N2 S hsub ip
  -- the distances
  show wpAny _ _ (execs ((fnBody 32).drop 6) _) Q E _
  refine seg_cut 6 2 8 rfl ?_
  refine main_s3 hsc rfl B X T (fr_kst [(Str.ofString "pairs", Value.ref Pl)] F2 ?ck3) (news_in S2.N (inG hPl) (news_in S2.N (inG hW) (front2 S2.N))) e2 (ip2.into fun p hp _ => .tail _ (.tail _ (.tail _ (.tail _ (.tail _ (.tail _ (.tail _ hp))))))) tw w5 (fun x hx => (wb x hx).1) (law_far w5 wb) hd1 hu1 ?_
  case ck3 =>
    intro p hp
    rw [List.mem_singleton.mp hp]
    exact hm2
  intro h3 tk3 u3 Fl fvs kf F3 N3 hf
  clear F2 hm2
  obtain ⟨G3, S3, hsub, hFl⟩ : ∃ G', St g L h3 b1 b2 c3 c4 c5 c6 c7 c8 G' ∧ (∀ p ∈ G2, p ∈ G') ∧ (Fl, listOf fvs.toArray kf) ∈ G' :=
    ⟨_, ⟨back3 N3, S2.bare.cons rfl⟩, fun p hp => .tail _ hp, .head _⟩
  replace hZ := hsub _ hZ
  replace hW := hsub _ hW
  replace hPl := hsub _ hPl
  have ip3 := ip2.into (fun p hp _ => hsub p hp)
  clear N3 S2 hsub ip2
  -- the wins
  show wpAny _ _ (execs ((fnBody 32).drop 8) _) Q E _
  refine seg_cut 8 2 10 rfl ?_
  refine main_s4 hsc rfl B X T F3 (news_in S3.N (inG hFl) (news_in S3.N (inG hPl) (news_in S3.N (inG hW) (front23 S3.N)))) e2 d3 (ip3.into fun p hp _ => .tail _ (.tail _ (.tail _ (.tail _ (.tail _ (.tail _ hp)))))) tw w5 (fun x hx => (wb x hx).1) hf ?hp4 hd1 hu1 hE ?_
  case hp4 => exact List.forall_mem_cons.mpr ⟨cell_ne (by decide), List.forall_mem_cons.mpr ⟨cell_ne (by decide), List.forall_mem_cons.mpr ⟨cell_ne (by decide), List.forall_mem_cons.mpr ⟨cell_ne (by decide), List.forall_mem_cons.mpr ⟨cell_ne (by decide), List.forall_mem_cons.mpr ⟨cell_ne (by decide), S3.bare.off S3.N (fun p hp => inG hp) (.tail _ (.tail _ (.head _))) d3⟩⟩⟩⟩⟩⟩
  intro h4 tk4 u4 Wn nvs kn tups4 b3 F4 N4 e3 pw
  clear F3 d3 hf
  obtain ⟨G4, S4, hsub, hWn, pw4⟩ : ∃ G', St g L h4 b1 b2 b3 c4 c5 c6 c7 c8 G' ∧ (∀ p ∈ G3, p ∈ G') ∧ (Wn, listOf nvs.toArray kn) ∈ G' ∧ PairsAt G' nvs ((prsN 5).map (winL ws)) :=
    ⟨_, ⟨back4 N4, (S3.bare.app tups4).cons rfl⟩, fun p hp => .tail _ (List.mem_append_right _ hp), .head _, pw.into fun p hp hc => .tail _ (List.mem_append_left _ (nc_mem hp hc))⟩
  replace hZ := hsub _ hZ
  clear N4 S3 hsub pw hW hPl hFl ip3 e2 tw
  have hwl := win_mem ws
  have hw10 : ((prsN 5).map (winL ws)).length ≤ 10 := Nat.le_of_eq (win_len ws)
  -- the table
  show wpAny _ _ (execs ((fnBody 32).drop 10) _) Q E _
  refine seg_cut 10 1 11 rfl ?_
  refine main_s5 hsc rfl B X T F4 (news_in S4.N (inG hWn) (front34 S4.N)) e3 d4 (pw4.into fun p hp _ => .tail _ (.tail _ (.tail _ (.tail _ (.tail _ (.tail _ hp)))))) hwl hw10 ?hp5 hd1 hu1 ?_
  case hp5 => exact List.forall_mem_cons.mpr ⟨cell_ne (by decide), List.forall_mem_cons.mpr ⟨cell_ne (by decide), List.forall_mem_cons.mpr ⟨cell_ne (by decide), List.forall_mem_cons.mpr ⟨cell_ne (by decide), List.forall_mem_cons.mpr ⟨cell_ne (by decide), List.forall_mem_cons.mpr ⟨cell_ne (by decide), S4.bare.off S4.N (fun p hp => inG hp) (.tail _ (.tail _ (.tail _ (.head _)))) d4⟩⟩⟩⟩⟩⟩
  intro h5 tk5 u5 Tb dx H td nd kh its tups5 b4 F5 N5 e4 hh _
  clear F4 d4
  obtain ⟨G5, S5, hsub, hTb, hdx, hH, hh5⟩ : ∃ G', St g L h5 b1 b2 b3 b4 c5 c6 c7 c8 G' ∧ (∀ p ∈ G4, p ∈ G') ∧ (Tb, instObj 245 dx) ∈ G' ∧ (dx, hdrDict w H td nd) ∈ G' ∧ (H, listOf its.toArray kh) ∈ G' ∧ HdrsAt G' its (hsOf ((prsN 5).map (winL ws))) :=
    ⟨_, ⟨back5 N5, (((S4.bare.app tups5).cons rfl).cons rfl).cons rfl⟩, fun p hp => .tail _ (.tail _ (.tail _ (List.mem_append_right _ hp))), .head _, .tail _ (.head _), .tail _ (.tail _ (.head _)), hh.into fun p hp hc => .tail _ (.tail _ (.tail _ (List.mem_append_left _ (nc_mem hp hc))))⟩
  replace hZ := hsub _ hZ
  replace hWn := hsub _ hWn
  have pw5 := pw4.into (fun p hp _ => hsub p hp)
  clear N5 S4 hsub pw4 hh
  -- beaten
  show wpAny _ _ (execs ((fnBody 32).drop 11) _) Q E _
  refine seg_cut 11 1 12 rfl ?_
  have off5 := S5.bare.off S5.N (fun p hp => inG hp) (.tail _ (.tail _ (.tail _ (.tail _ (.head _))))) d5
  refine main_s6 hsc rfl B X T F5 (news_in S5.N (inG hTb) (news_in S5.N (inG hdx) (news_in S5.N (inG hH) (front45 S5.N)))) e4 d5 (hh5.into fun p hp _ => .tail _ (.tail _ (.tail _ (.tail _ (.tail _ (.tail _ hp)))))) hwl hw10 ?hp6 (off5 _ hTb) (off5 _ hdx) (off5 _ hH) hd1 hu1 ?_
  case hp6 => exact List.forall_mem_cons.mpr ⟨cell_ne (by decide), List.forall_mem_cons.mpr ⟨cell_ne (by decide), List.forall_mem_cons.mpr ⟨cell_ne (by decide), List.forall_mem_cons.mpr ⟨cell_ne (by decide), List.forall_mem_cons.mpr ⟨cell_ne (by decide), List.forall_mem_cons.mpr ⟨cell_ne (by decide), off5⟩⟩⟩⟩⟩⟩
  intro h6 tk6 u6 Db od as lists6 b5 F6 N6 e5 dc lt6
  have hDb0 : L < Db := Nat.lt_of_le_of_lt (Nat.le_add_right L 4) (lt6 (L + 4, b4) (.tail _ (.tail _ (.tail _ (.head _))))).1
  clear F5 d5 off5 lt6
  obtain ⟨G6, S6, hsub, hDb, dc6⟩ : ∃ G', St g L h6 b1 b2 b3 b4 b5 c6 c7 c8 G' ∧ (∀ p ∈ G5, p ∈ G') ∧ (Db, od) ∈ G' ∧ DcAt PySem.Challenge.rw_ti0055_01.row.toRowW.prog w od as G' (beatF ((prsN 5).map (winL ws))) 5 :=
    ⟨_, ⟨back6 N6, (S5.bare.app lists6).cons (isDict_notCell dc.dict)⟩, fun p hp => .tail _ (List.mem_append_right _ hp), .head _, dc.into fun p hp hc => .tail _ (List.mem_append_left _ (nc_mem hp hc))⟩
  replace hZ := hsub _ hZ
  replace hWn := hsub _ hWn
  replace hTb := hsub _ hTb
  replace hdx := hsub _ hdx
  replace hH := hsub _ hH
  have pw6 := pw5.into (fun p hp _ => hsub p hp)
  have hh6 := hh5.into (fun p hp _ => hsub p hp)
  clear N6 S5 hsub pw5 hh5 dc
  -- over
  show wpAny _ _ (execs ((fnBody 32).drop 12) _) Q E _
  refine seg_cut 12 1 13 rfl ?_
  have off6 := S6.bare.off S6.N (fun p hp => inG hp) (.tail _ (.tail _ (.tail _ (.tail _ (.tail _ (.head _)))))) d6
  refine main_s7 hsc rfl B X T F6 (news_in S6.N (inG hTb) (news_in S6.N (inG hdx) (news_in S6.N (inG hH) (front46 S6.N)))) e4 d6 (hh6.into fun p hp _ => .tail _ (.tail _ (.tail _ (.tail _ (.tail _ (.tail _ hp)))))) hwl hw10 ?hp7 (off6 _ hTb) (off6 _ hdx) (off6 _ hH) hd1 hu1 ?_
  case hp7 => exact List.forall_mem_cons.mpr ⟨cell_ne (by decide), List.forall_mem_cons.mpr ⟨cell_ne (by decide), List.forall_mem_cons.mpr ⟨cell_ne (by decide), List.forall_mem_cons.mpr ⟨cell_ne (by decide), List.forall_mem_cons.mpr ⟨cell_ne (by decide), List.forall_mem_cons.mpr ⟨cell_ne (by decide), off6⟩⟩⟩⟩⟩⟩
  intro h7 tk7 u7 Ob oo as7 lists7 b6 F7 N7 e6 dc lt7
  have hOb0 : L < Ob := Nat.lt_of_le_of_lt (Nat.le_add_right L 4) (lt7 (L + 4, b4) (.tail _ (.tail _ (.tail _ (.head _))))).1
  clear F6 d6 off6 lt7 hTb hdx hH hh6 e4
  obtain ⟨G7, S7, hsub, hOb, dc7⟩ : ∃ G', St g L h7 b1 b2 b3 b4 b5 b6 c7 c8 G' ∧ (∀ p ∈ G6, p ∈ G') ∧ (Ob, oo) ∈ G' ∧ DcAt PySem.Challenge.rw_ti0055_01.row.toRowW.prog w oo as7 G' (overF ((prsN 5).map (winL ws))) 5 :=
    ⟨_, ⟨back7 N7, (S6.bare.app lists7).cons (isDict_notCell dc.dict)⟩, fun p hp => .tail _ (List.mem_append_right _ hp), .head _, dc.into fun p hp hc => .tail _ (List.mem_append_left _ (nc_mem hp hc))⟩
  replace hZ := hsub _ hZ
  replace hWn := hsub _ hWn
  replace hDb := hsub _ hDb
  have pw7 := pw6.into (fun p hp _ => hsub p hp)
  have db7 := dc6.into (fun p hp _ => hsub p hp)
  clear N7 S6 hsub pw6 dc6 dc
  -- beaten as it should be
  show wpAny _ _ (execs ((fnBody 32).drop 13) _) Q E _
  refine seg_cut 13 1 14 rfl ?_
  refine main_s8 hsc rfl B X T F7 (news_in S7.N (inG hDb) (news_in S7.N (inG hWn) (front35 S7.N))) e3 e5 (db7.into fun p hp _ => .tail _ (.tail _ (.tail _ (.tail _ (.tail _ (.tail _ hp)))))) (pw7.into fun p hp _ => .tail _ (.tail _ (.tail _ (.tail _ (.tail _ (.tail _ hp)))))) hwl hw10 hDb0 hd1 hu1 ?_
  intro h8 tk8 u8 F8 N8
  have S8 : St g L h8 b1 b2 b3 b4 b5 b6 c7 c8 G7 := ⟨back8 N8, S7.bare⟩
  clear F7 S7 N8
  -- over as it should be
  show wpAny _ _ (execs ((fnBody 32).drop 14) _) Q E _
  refine seg_cut 14 1 15 rfl ?_
  refine main_s9 hsc rfl B X T F8 (news_in S8.N (inG hOb) (news_in S8.N (inG hWn) (front36 S8.N))) e3 e6 (dc7.into fun p hp _ => .tail _ (.tail _ (.tail _ (.tail _ (.tail _ (.tail _ hp)))))) (pw7.into fun p hp _ => .tail _ (.tail _ (.tail _ (.tail _ (.tail _ (.tail _ hp)))))) hwl hw10 hOb0 hd1 hu1 ?_
  intro h9 tk9 u9 F9 N9
  have S9 : St g L h9 b1 b2 b3 b4 b5 b6 c7 c8 G7 := ⟨back9 N9, S8.bare⟩
  clear F8 S8 N9 pw7 hWn e3
  -- sums
  show wpAny _ _ (execs ((fnBody 32).drop 15) _) Q E _
  refine seg_cut 15 1 16 rfl ?_
  have off7 := S9.bare.off S9.N (fun p hp => inG hp) (.tail _ (.tail _ (.tail _ (.tail _ (.tail _ (.tail _ (.head _))))))) d7
  refine main_s10 hsc rfl B X T F9 (news_in S9.N (inG hZ) (front17 S9.N)) e1 d7 iz z5 zb ?hp10 (off7 _ hZ) hd1 hu1 ?_
  case hp10 => exact List.forall_mem_cons.mpr ⟨cell_ne (by decide), List.forall_mem_cons.mpr ⟨cell_ne (by decide), List.forall_mem_cons.mpr ⟨cell_ne (by decide), List.forall_mem_cons.mpr ⟨cell_ne (by decide), List.forall_mem_cons.mpr ⟨cell_ne (by decide), List.forall_mem_cons.mpr ⟨cell_ne (by decide), off7⟩⟩⟩⟩⟩⟩
  intro h10 tk10 u10 Sm sms ks b7 F10 N10 e7 is10 _
  clear F9 d7 off7
  obtain ⟨G10, S10, hsub, hSm⟩ : ∃ G', St g L h10 b1 b2 b3 b4 b5 b6 b7 c8 G' ∧ (∀ p ∈ G7, p ∈ G') ∧ (Sm, listOf sms.toArray ks) ∈ G' :=
    ⟨_, ⟨back10 N10, S9.bare.cons rfl⟩, fun p hp => .tail _ hp, .head _⟩
  replace hDb := hsub _ hDb
  replace hOb := hsub _ hOb
  have db10 := db7.into (fun p hp _ => hsub p hp)
  have do10 := dc7.into (fun p hp _ => hsub p hp)
  clear N10 S9 hsub db7 dc7 hZ iz
  -- ends
  show wpAny _ _ (execs ((fnBody 32).drop 16) _) Q E _
  refine seg_cut 16 1 17 rfl ?_
  have off8 := S10.bare.off S10.N (fun p hp => inG hp) (.tail _ (.tail _ (.tail _ (.tail _ (.tail _ (.tail _ (.tail _ (.head _)))))))) d8
  refine main_s11 hsc rfl B X T F10 (news_in S10.N (inG hSm) (front78 S10.N)) e7 d8 is10 (by rw [sumsN, List.length_map, List.length_range]) ?hp11 (off8 _ hSm) hd1 hu1 ?_
  case hp11 => exact List.forall_mem_cons.mpr ⟨cell_ne (by decide), List.forall_mem_cons.mpr ⟨cell_ne (by decide), List.forall_mem_cons.mpr ⟨cell_ne (by decide), List.forall_mem_cons.mpr ⟨cell_ne (by decide), List.forall_mem_cons.mpr ⟨cell_ne (by decide), List.forall_mem_cons.mpr ⟨cell_ne (by decide), off8⟩⟩⟩⟩⟩⟩
  intro h11 tk11 u11 En evs ke b8 F11 N11 e8 is11 lt11
  have ltG : ∀ p ∈ G10, p.1 ≠ En := fun p hp => Nat.ne_of_lt (lt11 p (.tail _ (.tail _ (.tail _ (.tail _ (.tail _ (.tail _ (.tail _ (.tail _ (.tail _ hp))))))))))
  have nE1 : @Ne Nat (L + 1) En := Nat.ne_of_lt (lt11 (L + 1, b1) (by k_mem))
  have nE2 : @Ne Nat (L + 2) En := Nat.ne_of_lt (lt11 (L + 2, b2) (by k_mem))
  have nE3 : @Ne Nat (L + 3) En := Nat.ne_of_lt (lt11 (L + 3, b3) (by k_mem))
  have nE4 : @Ne Nat (L + 4) En := Nat.ne_of_lt (lt11 (L + 4, b4) (by k_mem))
  have nE5 : @Ne Nat (L + 5) En := Nat.ne_of_lt (lt11 (L + 5, b5) (by k_mem))
  have nE6 : @Ne Nat (L + 6) En := Nat.ne_of_lt (lt11 (L + 6, b6) (by k_mem))
  have nE7 : @Ne Nat (L + 7) En := Nat.ne_of_lt (lt11 (L + 7, b7) (.tail _ (.head _)))
  have nE8 : @Ne Nat (L + 8) En := Nat.ne_of_lt (lt11 (L + 8, c8) (.tail _ (.tail _ (.head _))))
  clear F10 d8 off8 lt11
  have NN := back11 N11
  -- orders and ways
  show wpAny _ _ (execs ((fnBody 32).drop 17) _) Q E _
  refine main_s12 hsc rfl B X T F11 (news_in NN (.tail _ (.tail _ (.tail _ (.tail _ (.tail _ (.tail _ (.tail _ (.tail _ (.head _))))))))) (front568 (drop9 NN))) e5 e6 e8 is11 (ends_len _) (((db10.adj (fun p hp => hp) hDb).mono (fun p hp => .tail _ (.tail _ (.tail _ (.tail _ (.tail _ hp))))) fun c hc => (beat_eq hwl hc).symm)) (((do10.adj (fun p hp => hp) hOb).mono (fun p hp => .tail _ (.tail _ (.tail _ (.tail _ (.tail _ hp))))) fun c hc => (over_eq hwl hc).symm)) (law_deg ws _) (law_par ws _) ?hp12 nE5 nE6 nE8 hd1 hu1 hE ?_
  case hp12 => exact List.forall_mem_cons.mpr ⟨nE1, List.forall_mem_cons.mpr ⟨nE2, List.forall_mem_cons.mpr ⟨nE3, List.forall_mem_cons.mpr ⟨nE4, List.forall_mem_cons.mpr ⟨nE7, ltG⟩⟩⟩⟩⟩
  intro h12 tk12 u12 F12
  exact hret h12 tk12 gens1 u12 F12 hgb
theorem law_end {c : ClaimW} {cl : Str → Option Addr} {mean : ExcName → Option Value} {args : List WData} {s₁ : Shared} {L : Addr} {m : Str → Option Value} {h : Heap} {g : Array GenState} {d : Drawn} {t : Nat}
    (F : Fr s₁.heap L h m) (hr : ∀ cls, c.raises args cls = false) (hp : c.post args (.bool true) args = true) (hb : AllBare g) : GoodWG c cl mean args s₁ (.ok (.ret (.bool true))) ⟨h, g, d, t, s₁.os⟩ :=
  ⟨.inl ⟨_, _, [], rfl, hr, ReadsW.bool true, hp, fun _ => ⟨List.nodup_nil, fun _ hm => (nomatch hm)⟩⟩, .of_keep F.keep, rfl, hb⟩
end Mine
open Mine
theorem PySem.Challenge.cw_ti0055_01_holds : PySem.Challenge.rw_ti0055_01.Holds := by
  w_on
  refine holds_law saidK fun said => ?_
  refine holds_open (q := viewK) (loose := [Str.ofString "tspecials", Str.ofString "_name_disallowed_re", Str.ofString "_value_disallowed_re", Str.ofString "_formatparam"]) (Xt := fun s => xlAt viewK [] s && recOk [] s) (XP := XL viewK []) (Yf := Hook.obs hookK) (Ya := Hook.val hookK) (YP := Hook.says hookK) (N := 3342) leftK (Hook.of hookK) (Hook.keeps hookK) (fun s e => xl_of s (Bool.and_eq_true_iff.mp e).1) XL.keeps (by rfl) (by rfl) (by rfl) (fun s e => recFacts_of (Bool.and_eq_true_iff.mp e).2) (by rfl) said (by decide +kernel) ⟨rfl, rfl, rfl, rfl, rfl, by decide +kernel⟩ ?hw ?hc
  case hw => w_witness2
  case hc =>
    k_fill
    intro w s₀ s₁ mg mb G Y fa o pm cd doc dV kV ho hd hcd hD hmg hg args vals as hpre hlay hrd hwl hlo
    have KX := kIn_of Y
    refine Ground.open G ?_
    intro T B D TE TW
    try (refine guard_noD D (by decide +kernel) ?_; clear D)
    obtain ⟨_, _, M⟩ := bmod_of_top T
    have TA := at_of_top T
    try (obtain ⟨_, _, he, B0⟩ := based_of_top T rfl hmg ho hd; have he' : cd = _ := he; subst he'; clear he)
    clear hmg
    wrow_args hpre hlay hrd hwl hlo
    refine enter_call ?_
    w_top on
    have K0 := below_caller (Top.heap T)
    w_call any ho hd hcd hD T F
    clear hd TA
    k_drop
    rename Fr _ _ _ _ => F
    rename News _ _ _ _ => N
    rename Heap.IsList _ _ _ => hL
    rename IntsAre _ _ => hI
    rename Below _ _ _ _ => B
    rename Top _ _ _ _ _ _ => T
    rename (heapK _).In _ => KX
    rename ¬ _ < _ => hcond
    rename _ = #[] => hg
    refine main_all (s := ⟨_, _, _, _, _⟩) (dp := 2 + claimMargin) (gd := some []) (outer := []) (sc := fnScope 32) rfl B KX T (fr_kst [(Str.ofString "script", Value.ref _)] F ?ck) N hL hI (by omega) ?hb ?d1 ?d2 ?d3 ?d4 ?d5 ?d6 ?d7 ?d8 ?r1 ?r2 ?hE ?hret
    case ck =>
      intro p hp
      rw [List.mem_singleton.mp hp]
      rfl
    case hb => rw [hg]; exact fun y hy => absurd hy (Array.not_mem_empty y)
    case d1 => refine Eq.trans (by assumption) ?_; rfl
    case d2 => refine Eq.trans (by assumption) ?_; rfl
    case d3 => refine Eq.trans (by assumption) ?_; rfl
    case d4 => refine Eq.trans (by assumption) ?_; rfl
    case d5 => refine Eq.trans (by assumption) ?_; rfl
    case d6 => refine Eq.trans (by assumption) ?_; rfl
    case d7 => refine Eq.trans (by assumption) ?_; rfl
    case d8 => refine Eq.trans (by assumption) ?_; rfl
    case r1 => decide
    case r2 => decide
    case hE => passes_own
    case hret =>
      intro h9 tk9 gens9 u9 F9 hb9
      refine law_end F9 (fun _ => rfl) ?_ hb9
      first | rfl | wrow_post
