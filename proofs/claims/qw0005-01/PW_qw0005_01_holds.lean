import PyProof.Rows.All
import Wide.All
import OpenK.AllK
import Wide.FinOn
import PySem.Challenge.RW_qw0005_01
section
open PySem PySem.W PySem.Calls PyProof.Rows
set_option Elab.async false
set_option maxRecDepth 100000
set_option maxHeartbeats 8000000
namespace Mine
noncomputable def viewV : Program := by
  refine (?g : ∀ (x0 x1 x2 x3 x4 x5 x6 x7 x8 x9 x10 x11 x12 x13 x14 x15 x16 x17 : Stmt), PySem.Challenge.pw_qw0005_01.main.body = [x0, x1, x2, x3, x4, x5, x6, x7, x8, x9, x10, x11, x12, x13, x14, x15, x16, x17] → Program) _ _ _ _ _ _ _ _ _ _ _ _ _ _ _ _ _ _ rfl
  intro x0 x1 x2 x3 x4 x5 x6 x7 x8 x9 x10 x11 x12 x13 x14 x15 x16 x17 _
  exact ⟨⟨[x0, x2, x4, x5, x7, x8, x10, x11, x13, x14, x15, x16, x17], PySem.Challenge.pw_qw0005_01.main.scope, PySem.Challenge.pw_qw0005_01.main.futureAnnotations, PySem.Challenge.pw_qw0005_01.main.file, PySem.Challenge.pw_qw0005_01.main.more⟩, PySem.Challenge.pw_qw0005_01.modules, PySem.Challenge.pw_qw0005_01.parses, PySem.Challenge.pw_qw0005_01.absent, PySem.Challenge.pw_qw0005_01.harvested, PySem.Challenge.pw_qw0005_01.given⟩
noncomputable def heapK : Params → Frag := by
  refine (?g : ∀ (p2 : Arguments) (b2 : List Stmt) (s2 : Scope) (p5 : Arguments) (b5 : List Stmt) (s5 : Scope) (p8 : Arguments) (b8 : List Stmt) (s8 : Scope) (p10 : Arguments) (b10 : List Stmt) (s10 : Scope) (p11 : Arguments) (b11 : List Stmt) (s11 : Scope) (p13 : Arguments) (b13 : List Stmt) (s13 : Scope) (p14 : Arguments) (b14 : List Stmt) (s14 : Scope) (p15 : Arguments) (b15 : List Stmt) (s15 : Scope) (p16 : Arguments) (b16 : List Stmt) (s16 : Scope) (p17 : Arguments) (b17 : List Stmt) (s17 : Scope) (x0 : Stmt) (x1 : Stmt) (n2 : Str) (d2 : List PySem.Expr) (r2 : Option PySem.Expr) (t2 : List TypeParam) (u2 : Option Scope) (v2 : Str) (o2 : Pos) (x3 : Stmt) (x4 : Stmt) (n5 : Str) (d5 : List PySem.Expr) (r5 : Option PySem.Expr) (t5 : List TypeParam) (u5 : Option Scope) (v5 : Str) (o5 : Pos) (x6 : Stmt) (x7 : Stmt) (n8 : Str) (d8 : List PySem.Expr) (r8 : Option PySem.Expr) (t8 : List TypeParam) (u8 : Option Scope) (v8 : Str) (o8 : Pos) (x9 : Stmt) (n10 : Str) (d10 : List PySem.Expr) (r10 : Option PySem.Expr) (t10 : List TypeParam) (u10 : Option Scope) (v10 : Str) (o10 : Pos) (n11 : Str) (d11 : List PySem.Expr) (r11 : Option PySem.Expr) (t11 : List TypeParam) (u11 : Option Scope) (v11 : Str) (o11 : Pos) (x12 : Stmt) (n13 : Str) (d13 : List PySem.Expr) (r13 : Option PySem.Expr) (t13 : List TypeParam) (u13 : Option Scope) (v13 : Str) (o13 : Pos) (n14 : Str) (d14 : List PySem.Expr) (r14 : Option PySem.Expr) (t14 : List TypeParam) (u14 : Option Scope) (v14 : Str) (o14 : Pos) (n15 : Str) (d15 : List PySem.Expr) (r15 : Option PySem.Expr) (t15 : List TypeParam) (u15 : Option Scope) (v15 : Str) (o15 : Pos) (n16 : Str) (d16 : List PySem.Expr) (r16 : Option PySem.Expr) (t16 : List TypeParam) (u16 : Option Scope) (v16 : Str) (o16 : Pos) (n17 : Str) (d17 : List PySem.Expr) (r17 : Option PySem.Expr) (t17 : List TypeParam) (u17 : Option Scope) (v17 : Str) (o17 : Pos), PySem.Challenge.pw_qw0005_01.main.body = [x0, x1, .FunctionDef n2 p2 b2 d2 r2 t2 s2 u2 v2 o2, x3, x4, .FunctionDef n5 p5 b5 d5 r5 t5 s5 u5 v5 o5, x6, x7, .FunctionDef n8 p8 b8 d8 r8 t8 s8 u8 v8 o8, x9, .FunctionDef n10 p10 b10 d10 r10 t10 s10 u10 v10 o10, .FunctionDef n11 p11 b11 d11 r11 t11 s11 u11 v11 o11, x12, .FunctionDef n13 p13 b13 d13 r13 t13 s13 u13 v13 o13, .FunctionDef n14 p14 b14 d14 r14 t14 s14 u14 v14 o14, .FunctionDef n15 p15 b15 d15 r15 t15 s15 u15 v15 o15, .FunctionDef n16 p16 b16 d16 r16 t16 s16 u16 v16 o16, .FunctionDef n17 p17 b17 d17 r17 t17 s17 u17 v17 o17] → Params → Frag) _ _ _ _ _ _ _ _ _ _ _ _ _ _ _ _ _ _ _ _ _ _ _ _ _ _ _ _ _ _ _ _ _ _ _ _ _ _ _ _ _ _ _ _ _ _ _ _ _ _ _ _ _ _ _ _ _ _ _ _ _ _ _ _ _ _ _ _ _ _ _ _ _ _ _ _ _ _ _ _ _ _ _ _ _ _ _ _ _ _ _ _ _ _ _ _ _ _ _ _ _ _ _ _ _ _ _ _ rfl
  intro p2 b2 s2 p5 b5 s5 p8 b8 s8 p10 b10 s10 p11 b11 s11 p13 b13 s13 p14 b14 s14 p15 b15 s15 p16 b16 s16 p17 b17 s17 _ _ _ _ _ _ _ _ _ _ _ _ _ _ _ _ _ _ _ _ _ _ _ _ _ _ _ _ _ _ _ _ _ _ _ _ _ _ _ _ _ _ _ _ _ _ _ _ _ _ _ _ _ _ _ _ _ _ _ _ _ _ _ _ _ _ _ _ _ _ _ _ _ _ _ _ _ _ _ P
  exact (((@Prod.mk Nat PySem.Obj (nat_lit 3) (@PySem.Obj.mk (@PySem.Value.type "dict") (@Option.none Nat) (@PySem.Data.dict (@List.toArray PySem.DictEntry ((@PySem.DictEntry.mk (@PySem.PyData.keyHash P (@PySem.Str.ofString "__name__")) (@PySem.Value.str (@PySem.Str.ofString "__name__") (165 : Nat)) (@PySem.Value.str (@PySem.Str.ofString "law_qw0005_01") (531 : Nat))) :: (@PySem.DictEntry.mk (@PySem.PyData.keyHash P (@PySem.Str.ofString "__doc__")) (@PySem.Value.str (@PySem.Str.ofString "__doc__") (166 : Nat)) PySem.Value.none) :: (@PySem.DictEntry.mk (@PySem.PyData.keyHash P (@PySem.Str.ofString "__package__")) (@PySem.Value.str (@PySem.Str.ofString "__package__") (167 : Nat)) PySem.Value.none) :: (@PySem.DictEntry.mk (@PySem.PyData.keyHash P (@PySem.Str.ofString "__loader__")) (@PySem.Value.str (@PySem.Str.ofString "__loader__") (168 : Nat)) (@PySem.Value.builtin "__main__.__loader__#opaque")) :: (@PySem.DictEntry.mk (@PySem.PyData.keyHash P (@PySem.Str.ofString "__spec__")) (@PySem.Value.str (@PySem.Str.ofString "__spec__") (169 : Nat)) PySem.Value.none) :: (@PySem.DictEntry.mk (@PySem.PyData.keyHash P (@PySem.Str.ofString "__annotations__")) (@PySem.Value.str (@PySem.Str.ofString "__annotations__") (170 : Nat)) (@PySem.Value.ref (6 : Nat))) :: (@PySem.DictEntry.mk (@PySem.PyData.keyHash P (@PySem.Str.ofString "__builtins__")) (@PySem.Value.str (@PySem.Str.ofString "__builtins__") (171 : Nat)) (@PySem.Value.ref (4 : Nat))) :: (@PySem.DictEntry.mk (@PySem.PyData.keyHash P (@PySem.Str.ofString "__file__")) (@PySem.Value.str (@PySem.Str.ofString "__file__") (173 : Nat)) (@PySem.Value.str (@PySem.Str.ofString "/claim/cut.py") (172 : Nat))) :: (@PySem.DictEntry.mk (@PySem.PyData.keyHash P (@PySem.Str.ofString "__cached__")) (@PySem.Value.str (@PySem.Str.ofString "__cached__") (174 : Nat)) PySem.Value.none) :: (@PySem.DictEntry.mk (@PySem.PyData.keyHash P (@PySem.Str.ofString "_sre")) (@PySem.Value.str (@PySem.Str.ofString "_sre") (275 : Nat)) (@PySem.Value.ref (12 : Nat))) :: (@PySem.DictEntry.mk (@PySem.PyData.keyHash P (@PySem.Str.ofString "_parse_varint")) (@PySem.Value.str (@PySem.Str.ofString "_parse_varint") (292 : Nat)) (@PySem.Value.ref (38 : Nat))) :: (@PySem.DictEntry.mk (@PySem.PyData.keyHash P (@PySem.Str.ofString "_twin_re_1")) (@PySem.Value.str (@PySem.Str.ofString "_twin_re_1") (332 : Nat)) (@PySem.Value.ref (43 : Nat))) :: (@PySem.DictEntry.mk (@PySem.PyData.keyHash P (@PySem.Str.ofString "translate")) (@PySem.Value.str (@PySem.Str.ofString "translate") (341 : Nat)) (@PySem.Value.ref (50 : Nat))) :: (@PySem.DictEntry.mk (@PySem.PyData.keyHash P (@PySem.Str.ofString "_special_chars_map")) (@PySem.Value.str (@PySem.Str.ofString "_special_chars_map") (489 : Nat)) (@PySem.Value.ref (52 : Nat))) :: (@PySem.DictEntry.mk (@PySem.PyData.keyHash P (@PySem.Str.ofString "escape")) (@PySem.Value.str (@PySem.Str.ofString "escape") (496 : Nat)) (@PySem.Value.ref (62 : Nat))) :: (@PySem.DictEntry.mk (@PySem.PyData.keyHash P (@PySem.Str.ofString "_translate")) (@PySem.Value.str (@PySem.Str.ofString "_translate") (517 : Nat)) (@PySem.Value.ref (69 : Nat))) :: (@PySem.DictEntry.mk (@PySem.PyData.keyHash P (@PySem.Str.ofString "_join_translated_parts")) (@PySem.Value.str (@PySem.Str.ofString "_join_translated_parts") (530 : Nat)) (@PySem.Value.ref (76 : Nat))) :: (@PySem.DictEntry.mk (@PySem.PyData.keyHash P (@PySem.Str.ofString "_law_reading")) (@PySem.Value.str (@PySem.Str.ofString "_law_reading") (542 : Nat)) (@PySem.Value.ref (83 : Nat))) :: (@PySem.DictEntry.mk (@PySem.PyData.keyHash P (@PySem.Str.ofString "_law_due")) (@PySem.Value.str (@PySem.Str.ofString "_law_due") (548 : Nat)) (@PySem.Value.ref (88 : Nat))) :: (@PySem.DictEntry.mk (@PySem.PyData.keyHash P (@PySem.Str.ofString "_law_pattern")) (@PySem.Value.str (@PySem.Str.ofString "_law_pattern") (561 : Nat)) (@PySem.Value.ref (95 : Nat))) :: (@PySem.DictEntry.mk (@PySem.PyData.keyHash P (@PySem.Str.ofString "_law_text")) (@PySem.Value.str (@PySem.Str.ofString "_law_text") (567 : Nat)) (@PySem.Value.ref (100 : Nat))) :: (@PySem.DictEntry.mk (@PySem.PyData.keyHash P (@PySem.Str.ofString "law")) (@PySem.Value.str (@PySem.Str.ofString "law") (573 : Nat)) (@PySem.Value.ref (105 : Nat))) :: ([] : List PySem.DictEntry))) (22 : Nat)) (@List.toArray (@Option PySem.Value) ([] : List (@Option PySem.Value))))) ::
    (@Prod.mk Nat PySem.Obj (nat_lit 6) (@PySem.Obj.mk (@PySem.Value.type "dict") (@Option.none Nat) (@PySem.Data.dict (@List.toArray PySem.DictEntry ([] : List PySem.DictEntry)) (0 : Nat)) (@List.toArray (@Option PySem.Value) ([] : List (@Option PySem.Value))))) ::
    (@Prod.mk Nat PySem.Obj (nat_lit 11) (@PySem.Obj.mk (@PySem.Value.type "dict") (@Option.none Nat) (@PySem.Data.dict (@List.toArray PySem.DictEntry ((@PySem.DictEntry.mk (@PySem.PyData.keyHash P (@PySem.Str.ofString "__name__")) (@PySem.Value.str (@PySem.Str.ofString "__name__") (247 : Nat)) (@PySem.Value.str (@PySem.Str.ofString "_sre") (246 : Nat))) :: (@PySem.DictEntry.mk (@PySem.PyData.keyHash P (@PySem.Str.ofString "__doc__")) (@PySem.Value.str (@PySem.Str.ofString "__doc__") (248 : Nat)) PySem.Value.none) :: (@PySem.DictEntry.mk (@PySem.PyData.keyHash P (@PySem.Str.ofString "__package__")) (@PySem.Value.str (@PySem.Str.ofString "__package__") (250 : Nat)) (@PySem.Value.str (@PySem.Str.ofString "") (249 : Nat))) :: (@PySem.DictEntry.mk (@PySem.PyData.keyHash P (@PySem.Str.ofString "__loader__")) (@PySem.Value.str (@PySem.Str.ofString "__loader__") (251 : Nat)) (@PySem.Value.builtin "off-the-table:_sre.__loader__:shared#opaque")) :: (@PySem.DictEntry.mk (@PySem.PyData.keyHash P (@PySem.Str.ofString "__spec__")) (@PySem.Value.str (@PySem.Str.ofString "__spec__") (252 : Nat)) (@PySem.Value.builtin "off-the-table:_sre.__spec__:shared#opaque")) :: (@PySem.DictEntry.mk (@PySem.PyData.keyHash P (@PySem.Str.ofString "compile")) (@PySem.Value.str (@PySem.Str.ofString "compile") (253 : Nat)) (@PySem.Value.builtin "_sre.compile")) :: (@PySem.DictEntry.mk (@PySem.PyData.keyHash P (@PySem.Str.ofString "template")) (@PySem.Value.str (@PySem.Str.ofString "template") (254 : Nat)) (@PySem.Value.builtin "off-the-table:_sre.template:shared#opaque")) :: (@PySem.DictEntry.mk (@PySem.PyData.keyHash P (@PySem.Str.ofString "getcodesize")) (@PySem.Value.str (@PySem.Str.ofString "getcodesize") (255 : Nat)) (@PySem.Value.builtin "off-the-table:_sre.getcodesize:shared#opaque")) :: (@PySem.DictEntry.mk (@PySem.PyData.keyHash P (@PySem.Str.ofString "ascii_iscased")) (@PySem.Value.str (@PySem.Str.ofString "ascii_iscased") (256 : Nat)) (@PySem.Value.builtin "off-the-table:_sre.ascii_iscased:shared#opaque")) :: (@PySem.DictEntry.mk (@PySem.PyData.keyHash P (@PySem.Str.ofString "unicode_iscased")) (@PySem.Value.str (@PySem.Str.ofString "unicode_iscased") (257 : Nat)) (@PySem.Value.builtin "off-the-table:_sre.unicode_iscased:shared#opaque")) :: (@PySem.DictEntry.mk (@PySem.PyData.keyHash P (@PySem.Str.ofString "ascii_tolower")) (@PySem.Value.str (@PySem.Str.ofString "ascii_tolower") (258 : Nat)) (@PySem.Value.builtin "off-the-table:_sre.ascii_tolower:shared#opaque")) :: (@PySem.DictEntry.mk (@PySem.PyData.keyHash P (@PySem.Str.ofString "unicode_tolower")) (@PySem.Value.str (@PySem.Str.ofString "unicode_tolower") (259 : Nat)) (@PySem.Value.builtin "off-the-table:_sre.unicode_tolower:shared#opaque")) :: (@PySem.DictEntry.mk (@PySem.PyData.keyHash P (@PySem.Str.ofString "MAGIC")) (@PySem.Value.str (@PySem.Str.ofString "MAGIC") (261 : Nat)) (@PySem.Value.int (20230612 : Int) (260 : Nat))) :: (@PySem.DictEntry.mk (@PySem.PyData.keyHash P (@PySem.Str.ofString "CODESIZE")) (@PySem.Value.str (@PySem.Str.ofString "CODESIZE") (263 : Nat)) (@PySem.Value.int (4 : Int) (262 : Nat))) :: (@PySem.DictEntry.mk (@PySem.PyData.keyHash P (@PySem.Str.ofString "MAXREPEAT")) (@PySem.Value.str (@PySem.Str.ofString "MAXREPEAT") (265 : Nat)) (@PySem.Value.int (4294967295 : Int) (264 : Nat))) :: (@PySem.DictEntry.mk (@PySem.PyData.keyHash P (@PySem.Str.ofString "MAXGROUPS")) (@PySem.Value.str (@PySem.Str.ofString "MAXGROUPS") (267 : Nat)) (@PySem.Value.int (1073741823 : Int) (266 : Nat))) :: (@PySem.DictEntry.mk (@PySem.PyData.keyHash P (@PySem.Str.ofString "copyright")) (@PySem.Value.str (@PySem.Str.ofString "copyright") (269 : Nat)) (@PySem.Value.str (@PySem.Str.ofString " SRE 2.2.2 Copyright (c) 1997-2002 by Secret Labs AB ") (268 : Nat))) :: ([] : List PySem.DictEntry))) (17 : Nat)) (@List.toArray (@Option PySem.Value) ([] : List (@Option PySem.Value))))) ::
    (@Prod.mk Nat PySem.Obj (nat_lit 12) (@PySem.Obj.mk (@PySem.Value.type "module") (@Option.some Nat (11 : Nat)) PySem.Data.plain (@List.toArray (@Option PySem.Value) ([] : List (@Option PySem.Value))))) ::
    (@Prod.mk Nat PySem.Obj (nat_lit 32) (@PySem.Obj.mk (@PySem.Value.type "tuple") (@Option.none Nat) (@PySem.Data.seq (@List.toArray PySem.Value ([] : List PySem.Value)) (0 : Nat)) (@List.toArray (@Option PySem.Value) ([] : List (@Option PySem.Value))))) ::
    (@Prod.mk Nat PySem.Obj (nat_lit 34) (@PySem.Obj.mk (@PySem.Value.type "tuple") (@Option.none Nat) (@PySem.Data.seq (@List.toArray PySem.Value ((@PySem.Value.str (@PySem.Str.ofString "iterator") (287 : Nat)) :: (@PySem.Value.str (@PySem.Str.ofString "b") (288 : Nat)) :: (@PySem.Value.str (@PySem.Str.ofString "val") (289 : Nat)) :: ([] : List PySem.Value))) (0 : Nat)) (@List.toArray (@Option PySem.Value) ([] : List (@Option PySem.Value))))) ::
    (@Prod.mk Nat PySem.Obj (nat_lit 35) (@PySem.Obj.mk (@PySem.Value.type "tuple") (@Option.none Nat) (@PySem.Data.seq (@List.toArray PySem.Value ([] : List PySem.Value)) (0 : Nat)) (@List.toArray (@Option PySem.Value) ([] : List (@Option PySem.Value))))) ::
    (@Prod.mk Nat PySem.Obj (nat_lit 37) (@PySem.Obj.mk (@PySem.Value.type "code") (@Option.none Nat) (@PySem.Data.fields (@List.toArray PySem.Value ((@PySem.Value.str (@PySem.Str.ofString "_parse_varint") (284 : Nat)) :: (@PySem.Value.str (@PySem.Str.ofString "_parse_varint") (285 : Nat)) :: (@PySem.Value.str (@PySem.Str.ofString "/claim/cut.py") (286 : Nat)) :: (@PySem.Value.int (3 : Int) (0 : Nat)) :: (@PySem.Value.int (1 : Int) (0 : Nat)) :: (@PySem.Value.int (0 : Int) (0 : Nat)) :: (@PySem.Value.int (0 : Int) (0 : Nat)) :: (@PySem.Value.int (3 : Int) (0 : Nat)) :: (@PySem.Value.ref (32 : Nat)) :: (@PySem.Value.bool Bool.true) :: (@PySem.Value.int (276 : Int) (0 : Nat)) :: (@PySem.Value.ref (33 : Nat)) :: PySem.Value.none :: (@PySem.Value.ref (34 : Nat)) :: (@PySem.Value.ref (35 : Nat)) :: (@PySem.Value.ref (36 : Nat)) :: (@PySem.Value.int (290 : Int) (0 : Nat)) :: (@PySem.Value.int (3 : Int) (0 : Nat)) :: (@PySem.Value.str (@PySem.Str.ofString "/claim/cut.py") (291 : Nat)) :: ([] : List PySem.Value)))) (@List.toArray (@Option PySem.Value) ([] : List (@Option PySem.Value))))) ::
    (@Prod.mk Nat PySem.Obj (nat_lit 38) (@PySem.Obj.mk (@PySem.Value.type "function") (@Option.none Nat) (@PySem.Data.func (@PySem.FuncData.mk (@PySem.Str.ofString "_parse_varint") (@PySem.Str.ofString "_parse_varint") p2 (@PySem.FuncBody.stmts b2) s2 (3 : Nat) ([] : List (@Prod PySem.Str Nat)) PySem.Value.none PySem.Value.none PySem.Value.none (@PySem.Value.str (@PySem.Str.ofString "cpy313.dis") (282 : Nat)) (@Option.none Nat) (@PySem.Value.ref (37 : Nat)) PySem.Value.none (0 : Nat))) (@List.toArray (@Option PySem.Value) ([] : List (@Option PySem.Value))))) ::
    (@Prod.mk Nat PySem.Obj (nat_lit 42) (@PySem.Obj.mk (@PySem.Value.type "tuple") (@Option.none Nat) (@PySem.Data.seq (@List.toArray PySem.Value ((@PySem.Value.int (14 : Int) (0 : Nat)) :: (@PySem.Value.int (14 : Int) (0 : Nat)) :: (@PySem.Value.int (4 : Int) (0 : Nat)) :: (@PySem.Value.int (1 : Int) (0 : Nat)) :: (@PySem.Value.int (1 : Int) (0 : Nat)) :: (@PySem.Value.int (9 : Int) (0 : Nat)) :: (@PySem.Value.int (0 : Int) (0 : Nat)) :: (@PySem.Value.int (64 : Int) (0 : Nat)) :: (@PySem.Value.int (0 : Int) (0 : Nat)) :: (@PySem.Value.int (1342177280 : Int) (0 : Nat)) :: (@PySem.Value.int (0 : Int) (0 : Nat)) :: (@PySem.Value.int (0 : Int) (0 : Nat)) :: (@PySem.Value.int (0 : Int) (0 : Nat)) :: (@PySem.Value.int (0 : Int) (0 : Nat)) :: (@PySem.Value.int (0 : Int) (0 : Nat)) :: (@PySem.Value.int (17 : Int) (0 : Nat)) :: (@PySem.Value.int (0 : Int) (0 : Nat)) :: (@PySem.Value.int (13 : Int) (0 : Nat)) :: (@PySem.Value.int (11 : Int) (0 : Nat)) :: (@PySem.Value.int (9 : Int) (0 : Nat)) :: (@PySem.Value.int (0 : Int) (0 : Nat)) :: (@PySem.Value.int (64 : Int) (0 : Nat)) :: (@PySem.Value.int (0 : Int) (0 : Nat)) :: (@PySem.Value.int (1342177280 : Int) (0 : Nat)) :: (@PySem.Value.int (0 : Int) (0 : Nat)) :: (@PySem.Value.int (0 : Int) (0 : Nat)) :: (@PySem.Value.int (0 : Int) (0 : Nat)) :: (@PySem.Value.int (0 : Int) (0 : Nat)) :: (@PySem.Value.int (0 : Int) (0 : Nat)) :: (@PySem.Value.int (17 : Int) (0 : Nat)) :: (@PySem.Value.int (1 : Int) (0 : Nat)) :: (@PySem.Value.int (1 : Int) (0 : Nat)) :: ([] : List PySem.Value))) (0 : Nat)) (@List.toArray (@Option PySem.Value) ([] : List (@Option PySem.Value))))) ::
    (@Prod.mk Nat PySem.Obj (nat_lit 43) (@PySem.Obj.mk (@PySem.Value.type "re.Pattern") (@Option.none Nat) (@PySem.Data.fields (@List.toArray PySem.Value ((@PySem.Value.str (@PySem.Str.ofString "([&~|])") (296 : Nat)) :: (@PySem.Value.int (32 : Int) (331 : Nat)) :: (@PySem.Value.int (1 : Int) (0 : Nat)) :: PySem.Value.none :: PySem.Value.none :: (@PySem.Value.ref (42 : Nat)) :: (@PySem.Value.int (0 : Int) (0 : Nat)) :: ([] : List PySem.Value)))) (@List.toArray (@Option PySem.Value) ([] : List (@Option PySem.Value))))) ::
    (@Prod.mk Nat PySem.Obj (nat_lit 44) (@PySem.Obj.mk (@PySem.Value.type "tuple") (@Option.none Nat) (@PySem.Data.seq (@List.toArray PySem.Value ([] : List PySem.Value)) (0 : Nat)) (@List.toArray (@Option PySem.Value) ([] : List (@Option PySem.Value))))) ::
    (@Prod.mk Nat PySem.Obj (nat_lit 46) (@PySem.Obj.mk (@PySem.Value.type "tuple") (@Option.none Nat) (@PySem.Data.seq (@List.toArray PySem.Value ((@PySem.Value.str (@PySem.Str.ofString "pat") (336 : Nat)) :: (@PySem.Value.str (@PySem.Str.ofString "STAR") (337 : Nat)) :: (@PySem.Value.str (@PySem.Str.ofString "parts") (338 : Nat)) :: ([] : List PySem.Value))) (0 : Nat)) (@List.toArray (@Option PySem.Value) ([] : List (@Option PySem.Value))))) ::
    (@Prod.mk Nat PySem.Obj (nat_lit 47) (@PySem.Obj.mk (@PySem.Value.type "tuple") (@Option.none Nat) (@PySem.Data.seq (@List.toArray PySem.Value ([] : List PySem.Value)) (0 : Nat)) (@List.toArray (@Option PySem.Value) ([] : List (@Option PySem.Value))))) ::
    (@Prod.mk Nat PySem.Obj (nat_lit 49) (@PySem.Obj.mk (@PySem.Value.type "code") (@Option.none Nat) (@PySem.Data.fields (@List.toArray PySem.Value ((@PySem.Value.str (@PySem.Str.ofString "translate") (333 : Nat)) :: (@PySem.Value.str (@PySem.Str.ofString "translate") (334 : Nat)) :: (@PySem.Value.str (@PySem.Str.ofString "/claim/cut.py") (335 : Nat)) :: (@PySem.Value.int (13 : Int) (0 : Nat)) :: (@PySem.Value.int (1 : Int) (0 : Nat)) :: (@PySem.Value.int (0 : Int) (0 : Nat)) :: (@PySem.Value.int (0 : Int) (0 : Nat)) :: (@PySem.Value.int (3 : Int) (0 : Nat)) :: (@PySem.Value.ref (44 : Nat)) :: (@PySem.Value.bool Bool.true) :: (@PySem.Value.int (276 : Int) (0 : Nat)) :: (@PySem.Value.ref (45 : Nat)) :: PySem.Value.none :: (@PySem.Value.ref (46 : Nat)) :: (@PySem.Value.ref (47 : Nat)) :: (@PySem.Value.ref (48 : Nat)) :: (@PySem.Value.int (339 : Int) (0 : Nat)) :: (@PySem.Value.int (13 : Int) (0 : Nat)) :: (@PySem.Value.str (@PySem.Str.ofString "/claim/cut.py") (340 : Nat)) :: ([] : List PySem.Value)))) (@List.toArray (@Option PySem.Value) ([] : List (@Option PySem.Value))))) ::
    (@Prod.mk Nat PySem.Obj (nat_lit 50) (@PySem.Obj.mk (@PySem.Value.type "function") (@Option.none Nat) (@PySem.Data.func (@PySem.FuncData.mk (@PySem.Str.ofString "translate") (@PySem.Str.ofString "translate") p5 (@PySem.FuncBody.stmts b5) s5 (3 : Nat) ([] : List (@Prod PySem.Str Nat)) PySem.Value.none PySem.Value.none PySem.Value.none (@PySem.Value.str (@PySem.Str.ofString "cpy313.fnmatch") (293 : Nat)) (@Option.none Nat) (@PySem.Value.ref (49 : Nat)) PySem.Value.none (0 : Nat))) (@List.toArray (@Option PySem.Value) ([] : List (@Option PySem.Value))))) ::
    (@Prod.mk Nat PySem.Obj (nat_lit 52) (@PySem.Obj.mk (@PySem.Value.type "dict") (@Option.none Nat) (@PySem.Data.dict (@List.toArray PySem.DictEntry ((@PySem.DictEntry.mk (40 : Int) (@PySem.Value.int (40 : Int) (345 : Nat)) (@PySem.Value.str (@PySem.Str.ofString "\\(") (349 : Nat))) :: (@PySem.DictEntry.mk (41 : Int) (@PySem.Value.int (41 : Int) (351 : Nat)) (@PySem.Value.str (@PySem.Str.ofString "\\)") (355 : Nat))) :: (@PySem.DictEntry.mk (91 : Int) (@PySem.Value.int (91 : Int) (357 : Nat)) (@PySem.Value.str (@PySem.Str.ofString "\\[") (361 : Nat))) :: (@PySem.DictEntry.mk (93 : Int) (@PySem.Value.int (93 : Int) (363 : Nat)) (@PySem.Value.str (@PySem.Str.ofString "\\]") (367 : Nat))) :: (@PySem.DictEntry.mk (123 : Int) (@PySem.Value.int (123 : Int) (369 : Nat)) (@PySem.Value.str (@PySem.Str.ofString "\\{") (373 : Nat))) :: (@PySem.DictEntry.mk (125 : Int) (@PySem.Value.int (125 : Int) (375 : Nat)) (@PySem.Value.str (@PySem.Str.ofString "\\}") (379 : Nat))) :: (@PySem.DictEntry.mk (63 : Int) (@PySem.Value.int (63 : Int) (381 : Nat)) (@PySem.Value.str (@PySem.Str.ofString "\\?") (385 : Nat))) :: (@PySem.DictEntry.mk (42 : Int) (@PySem.Value.int (42 : Int) (387 : Nat)) (@PySem.Value.str (@PySem.Str.ofString "\\*") (391 : Nat))) :: (@PySem.DictEntry.mk (43 : Int) (@PySem.Value.int (43 : Int) (393 : Nat)) (@PySem.Value.str (@PySem.Str.ofString "\\+") (397 : Nat))) :: (@PySem.DictEntry.mk (45 : Int) (@PySem.Value.int (45 : Int) (399 : Nat)) (@PySem.Value.str (@PySem.Str.ofString "\\-") (403 : Nat))) :: (@PySem.DictEntry.mk (124 : Int) (@PySem.Value.int (124 : Int) (405 : Nat)) (@PySem.Value.str (@PySem.Str.ofString "\\|") (409 : Nat))) :: (@PySem.DictEntry.mk (94 : Int) (@PySem.Value.int (94 : Int) (411 : Nat)) (@PySem.Value.str (@PySem.Str.ofString "\\^") (415 : Nat))) :: (@PySem.DictEntry.mk (36 : Int) (@PySem.Value.int (36 : Int) (417 : Nat)) (@PySem.Value.str (@PySem.Str.ofString "\\$") (421 : Nat))) :: (@PySem.DictEntry.mk (92 : Int) (@PySem.Value.int (92 : Int) (423 : Nat)) (@PySem.Value.str (@PySem.Str.ofString "\\\\") (427 : Nat))) :: (@PySem.DictEntry.mk (46 : Int) (@PySem.Value.int (46 : Int) (429 : Nat)) (@PySem.Value.str (@PySem.Str.ofString "\\.") (433 : Nat))) :: (@PySem.DictEntry.mk (38 : Int) (@PySem.Value.int (38 : Int) (435 : Nat)) (@PySem.Value.str (@PySem.Str.ofString "\\&") (439 : Nat))) :: (@PySem.DictEntry.mk (126 : Int) (@PySem.Value.int (126 : Int) (441 : Nat)) (@PySem.Value.str (@PySem.Str.ofString "\\~") (445 : Nat))) :: (@PySem.DictEntry.mk (35 : Int) (@PySem.Value.int (35 : Int) (447 : Nat)) (@PySem.Value.str (@PySem.Str.ofString "\\#") (451 : Nat))) :: (@PySem.DictEntry.mk (32 : Int) (@PySem.Value.int (32 : Int) (453 : Nat)) (@PySem.Value.str (@PySem.Str.ofString "\\ ") (457 : Nat))) :: (@PySem.DictEntry.mk (9 : Int) (@PySem.Value.int (9 : Int) (459 : Nat)) (@PySem.Value.str (@PySem.Str.ofString "\\\t") (463 : Nat))) :: (@PySem.DictEntry.mk (10 : Int) (@PySem.Value.int (10 : Int) (465 : Nat)) (@PySem.Value.str (@PySem.Str.ofString "\\\n") (469 : Nat))) :: (@PySem.DictEntry.mk (13 : Int) (@PySem.Value.int (13 : Int) (471 : Nat)) (@PySem.Value.str (@PySem.Str.ofString "\\\x0d") (475 : Nat))) :: (@PySem.DictEntry.mk (11 : Int) (@PySem.Value.int (11 : Int) (477 : Nat)) (@PySem.Value.str (@PySem.Str.ofString "\\\x0b") (481 : Nat))) :: (@PySem.DictEntry.mk (12 : Int) (@PySem.Value.int (12 : Int) (483 : Nat)) (@PySem.Value.str (@PySem.Str.ofString "\\\x0c") (487 : Nat))) :: ([] : List PySem.DictEntry))) (24 : Nat)) (@List.toArray (@Option PySem.Value) ([] : List (@Option PySem.Value))))) ::
    (@Prod.mk Nat PySem.Obj (nat_lit 56) (@PySem.Obj.mk (@PySem.Value.type "tuple") (@Option.none Nat) (@PySem.Data.seq (@List.toArray PySem.Value ([] : List PySem.Value)) (0 : Nat)) (@List.toArray (@Option PySem.Value) ([] : List (@Option PySem.Value))))) ::
    (@Prod.mk Nat PySem.Obj (nat_lit 58) (@PySem.Obj.mk (@PySem.Value.type "tuple") (@Option.none Nat) (@PySem.Data.seq (@List.toArray PySem.Value ((@PySem.Value.str (@PySem.Str.ofString "pattern") (493 : Nat)) :: ([] : List PySem.Value))) (0 : Nat)) (@List.toArray (@Option PySem.Value) ([] : List (@Option PySem.Value))))) ::
    (@Prod.mk Nat PySem.Obj (nat_lit 59) (@PySem.Obj.mk (@PySem.Value.type "tuple") (@Option.none Nat) (@PySem.Data.seq (@List.toArray PySem.Value ([] : List PySem.Value)) (0 : Nat)) (@List.toArray (@Option PySem.Value) ([] : List (@Option PySem.Value))))) ::
    (@Prod.mk Nat PySem.Obj (nat_lit 61) (@PySem.Obj.mk (@PySem.Value.type "code") (@Option.none Nat) (@PySem.Data.fields (@List.toArray PySem.Value ((@PySem.Value.str (@PySem.Str.ofString "escape") (490 : Nat)) :: (@PySem.Value.str (@PySem.Str.ofString "escape") (491 : Nat)) :: (@PySem.Value.str (@PySem.Str.ofString "/claim/cut.py") (492 : Nat)) :: (@PySem.Value.int (19 : Int) (0 : Nat)) :: (@PySem.Value.int (1 : Int) (0 : Nat)) :: (@PySem.Value.int (0 : Int) (0 : Nat)) :: (@PySem.Value.int (0 : Int) (0 : Nat)) :: (@PySem.Value.int (3 : Int) (0 : Nat)) :: (@PySem.Value.ref (56 : Nat)) :: (@PySem.Value.bool Bool.true) :: (@PySem.Value.int (276 : Int) (0 : Nat)) :: (@PySem.Value.ref (57 : Nat)) :: PySem.Value.none :: (@PySem.Value.ref (58 : Nat)) :: (@PySem.Value.ref (59 : Nat)) :: (@PySem.Value.ref (60 : Nat)) :: (@PySem.Value.int (494 : Int) (0 : Nat)) :: (@PySem.Value.int (19 : Int) (0 : Nat)) :: (@PySem.Value.str (@PySem.Str.ofString "/claim/cut.py") (495 : Nat)) :: ([] : List PySem.Value)))) (@List.toArray (@Option PySem.Value) ([] : List (@Option PySem.Value))))) ::
    (@Prod.mk Nat PySem.Obj (nat_lit 62) (@PySem.Obj.mk (@PySem.Value.type "function") (@Option.none Nat) (@PySem.Data.func (@PySem.FuncData.mk (@PySem.Str.ofString "escape") (@PySem.Str.ofString "escape") p8 (@PySem.FuncBody.stmts b8) s8 (3 : Nat) ([] : List (@Prod PySem.Str Nat)) PySem.Value.none PySem.Value.none PySem.Value.none (@PySem.Value.str (@PySem.Str.ofString "re") (342 : Nat)) (@Option.none Nat) (@PySem.Value.ref (61 : Nat)) PySem.Value.none (0 : Nat))) (@List.toArray (@Option PySem.Value) ([] : List (@Option PySem.Value))))) ::
    (@Prod.mk Nat PySem.Obj (nat_lit 63) (@PySem.Obj.mk (@PySem.Value.type "tuple") (@Option.none Nat) (@PySem.Data.seq (@List.toArray PySem.Value ([] : List PySem.Value)) (0 : Nat)) (@List.toArray (@Option PySem.Value) ([] : List (@Option PySem.Value))))) ::
    (@Prod.mk Nat PySem.Obj (nat_lit 65) (@PySem.Obj.mk (@PySem.Value.type "tuple") (@Option.none Nat) (@PySem.Data.seq (@List.toArray PySem.Value ((@PySem.Value.str (@PySem.Str.ofString "pat") (502 : Nat)) :: (@PySem.Value.str (@PySem.Str.ofString "STAR") (503 : Nat)) :: (@PySem.Value.str (@PySem.Str.ofString "QUESTION_MARK") (504 : Nat)) :: (@PySem.Value.str (@PySem.Str.ofString "res") (505 : Nat)) :: (@PySem.Value.str (@PySem.Str.ofString "add") (506 : Nat)) :: (@PySem.Value.str (@PySem.Str.ofString "i") (507 : Nat)) :: (@PySem.Value.str (@PySem.Str.ofString "n") (508 : Nat)) :: (@PySem.Value.str (@PySem.Str.ofString "c") (509 : Nat)) :: (@PySem.Value.str (@PySem.Str.ofString "j") (510 : Nat)) :: (@PySem.Value.str (@PySem.Str.ofString "stuff") (511 : Nat)) :: (@PySem.Value.str (@PySem.Str.ofString "chunks") (512 : Nat)) :: (@PySem.Value.str (@PySem.Str.ofString "k") (513 : Nat)) :: (@PySem.Value.str (@PySem.Str.ofString "chunk") (514 : Nat)) :: ([] : List PySem.Value))) (0 : Nat)) (@List.toArray (@Option PySem.Value) ([] : List (@Option PySem.Value))))) ::
    (@Prod.mk Nat PySem.Obj (nat_lit 66) (@PySem.Obj.mk (@PySem.Value.type "tuple") (@Option.none Nat) (@PySem.Data.seq (@List.toArray PySem.Value ([] : List PySem.Value)) (0 : Nat)) (@List.toArray (@Option PySem.Value) ([] : List (@Option PySem.Value))))) ::
    (@Prod.mk Nat PySem.Obj (nat_lit 68) (@PySem.Obj.mk (@PySem.Value.type "code") (@Option.none Nat) (@PySem.Data.fields (@List.toArray PySem.Value ((@PySem.Value.str (@PySem.Str.ofString "_translate") (499 : Nat)) :: (@PySem.Value.str (@PySem.Str.ofString "_translate") (500 : Nat)) :: (@PySem.Value.str (@PySem.Str.ofString "/claim/cut.py") (501 : Nat)) :: (@PySem.Value.int (26 : Int) (0 : Nat)) :: (@PySem.Value.int (3 : Int) (0 : Nat)) :: (@PySem.Value.int (0 : Int) (0 : Nat)) :: (@PySem.Value.int (0 : Int) (0 : Nat)) :: (@PySem.Value.int (3 : Int) (0 : Nat)) :: (@PySem.Value.ref (63 : Nat)) :: (@PySem.Value.bool Bool.true) :: (@PySem.Value.int (276 : Int) (0 : Nat)) :: (@PySem.Value.ref (64 : Nat)) :: PySem.Value.none :: (@PySem.Value.ref (65 : Nat)) :: (@PySem.Value.ref (66 : Nat)) :: (@PySem.Value.ref (67 : Nat)) :: (@PySem.Value.int (515 : Int) (0 : Nat)) :: (@PySem.Value.int (26 : Int) (0 : Nat)) :: (@PySem.Value.str (@PySem.Str.ofString "/claim/cut.py") (516 : Nat)) :: ([] : List PySem.Value)))) (@List.toArray (@Option PySem.Value) ([] : List (@Option PySem.Value))))) ::
    (@Prod.mk Nat PySem.Obj (nat_lit 69) (@PySem.Obj.mk (@PySem.Value.type "function") (@Option.none Nat) (@PySem.Data.func (@PySem.FuncData.mk (@PySem.Str.ofString "_translate") (@PySem.Str.ofString "_translate") p10 (@PySem.FuncBody.stmts b10) s10 (3 : Nat) ([] : List (@Prod PySem.Str Nat)) PySem.Value.none PySem.Value.none PySem.Value.none (@PySem.Value.str (@PySem.Str.ofString "cpy313.fnmatch") (497 : Nat)) (@Option.none Nat) (@PySem.Value.ref (68 : Nat)) PySem.Value.none (0 : Nat))) (@List.toArray (@Option PySem.Value) ([] : List (@Option PySem.Value))))) ::
    (@Prod.mk Nat PySem.Obj (nat_lit 70) (@PySem.Obj.mk (@PySem.Value.type "tuple") (@Option.none Nat) (@PySem.Data.seq (@List.toArray PySem.Value ([] : List PySem.Value)) (0 : Nat)) (@List.toArray (@Option PySem.Value) ([] : List (@Option PySem.Value))))) ::
    (@Prod.mk Nat PySem.Obj (nat_lit 72) (@PySem.Obj.mk (@PySem.Value.type "tuple") (@Option.none Nat) (@PySem.Data.seq (@List.toArray PySem.Value ((@PySem.Value.str (@PySem.Str.ofString "inp") (521 : Nat)) :: (@PySem.Value.str (@PySem.Str.ofString "STAR") (522 : Nat)) :: (@PySem.Value.str (@PySem.Str.ofString "res") (523 : Nat)) :: (@PySem.Value.str (@PySem.Str.ofString "add") (524 : Nat)) :: (@PySem.Value.str (@PySem.Str.ofString "i") (525 : Nat)) :: (@PySem.Value.str (@PySem.Str.ofString "n") (526 : Nat)) :: (@PySem.Value.str (@PySem.Str.ofString "fixed") (527 : Nat)) :: ([] : List PySem.Value))) (0 : Nat)) (@List.toArray (@Option PySem.Value) ([] : List (@Option PySem.Value))))) ::
    (@Prod.mk Nat PySem.Obj (nat_lit 73) (@PySem.Obj.mk (@PySem.Value.type "tuple") (@Option.none Nat) (@PySem.Data.seq (@List.toArray PySem.Value ([] : List PySem.Value)) (0 : Nat)) (@List.toArray (@Option PySem.Value) ([] : List (@Option PySem.Value))))) ::
    (@Prod.mk Nat PySem.Obj (nat_lit 75) (@PySem.Obj.mk (@PySem.Value.type "code") (@Option.none Nat) (@PySem.Data.fields (@List.toArray PySem.Value ((@PySem.Value.str (@PySem.Str.ofString "_join_translated_parts") (518 : Nat)) :: (@PySem.Value.str (@PySem.Str.ofString "_join_translated_parts") (519 : Nat)) :: (@PySem.Value.str (@PySem.Str.ofString "/claim/cut.py") (520 : Nat)) :: (@PySem.Value.int (88 : Int) (0 : Nat)) :: (@PySem.Value.int (2 : Int) (0 : Nat)) :: (@PySem.Value.int (0 : Int) (0 : Nat)) :: (@PySem.Value.int (0 : Int) (0 : Nat)) :: (@PySem.Value.int (3 : Int) (0 : Nat)) :: (@PySem.Value.ref (70 : Nat)) :: (@PySem.Value.bool Bool.true) :: (@PySem.Value.int (276 : Int) (0 : Nat)) :: (@PySem.Value.ref (71 : Nat)) :: PySem.Value.none :: (@PySem.Value.ref (72 : Nat)) :: (@PySem.Value.ref (73 : Nat)) :: (@PySem.Value.ref (74 : Nat)) :: (@PySem.Value.int (528 : Int) (0 : Nat)) :: (@PySem.Value.int (88 : Int) (0 : Nat)) :: (@PySem.Value.str (@PySem.Str.ofString "/claim/cut.py") (529 : Nat)) :: ([] : List PySem.Value)))) (@List.toArray (@Option PySem.Value) ([] : List (@Option PySem.Value))))) ::
    (@Prod.mk Nat PySem.Obj (nat_lit 76) (@PySem.Obj.mk (@PySem.Value.type "function") (@Option.none Nat) (@PySem.Data.func (@PySem.FuncData.mk (@PySem.Str.ofString "_join_translated_parts") (@PySem.Str.ofString "_join_translated_parts") p11 (@PySem.FuncBody.stmts b11) s11 (3 : Nat) ([] : List (@Prod PySem.Str Nat)) PySem.Value.none PySem.Value.none PySem.Value.none (@PySem.Value.str (@PySem.Str.ofString "cpy313.fnmatch") (497 : Nat)) (@Option.none Nat) (@PySem.Value.ref (75 : Nat)) PySem.Value.none (0 : Nat))) (@List.toArray (@Option PySem.Value) ([] : List (@Option PySem.Value))))) ::
    (@Prod.mk Nat PySem.Obj (nat_lit 77) (@PySem.Obj.mk (@PySem.Value.type "tuple") (@Option.none Nat) (@PySem.Data.seq (@List.toArray PySem.Value ([] : List PySem.Value)) (0 : Nat)) (@List.toArray (@Option PySem.Value) ([] : List (@Option PySem.Value))))) ::
    (@Prod.mk Nat PySem.Obj (nat_lit 79) (@PySem.Obj.mk (@PySem.Value.type "tuple") (@Option.none Nat) (@PySem.Data.seq (@List.toArray PySem.Value ((@PySem.Value.str (@PySem.Str.ofString "row") (536 : Nat)) :: (@PySem.Value.str (@PySem.Str.ofString "place") (537 : Nat)) :: (@PySem.Value.str (@PySem.Str.ofString "walker") (538 : Nat)) :: (@PySem.Value.str (@PySem.Str.ofString "number") (539 : Nat)) :: ([] : List PySem.Value))) (0 : Nat)) (@List.toArray (@Option PySem.Value) ([] : List (@Option PySem.Value))))) ::
    (@Prod.mk Nat PySem.Obj (nat_lit 80) (@PySem.Obj.mk (@PySem.Value.type "tuple") (@Option.none Nat) (@PySem.Data.seq (@List.toArray PySem.Value ([] : List PySem.Value)) (0 : Nat)) (@List.toArray (@Option PySem.Value) ([] : List (@Option PySem.Value))))) ::
    (@Prod.mk Nat PySem.Obj (nat_lit 82) (@PySem.Obj.mk (@PySem.Value.type "code") (@Option.none Nat) (@PySem.Data.fields (@List.toArray PySem.Value ((@PySem.Value.str (@PySem.Str.ofString "_law_reading") (533 : Nat)) :: (@PySem.Value.str (@PySem.Str.ofString "_law_reading") (534 : Nat)) :: (@PySem.Value.str (@PySem.Str.ofString "/claim/cut.py") (535 : Nat)) :: (@PySem.Value.int (116 : Int) (0 : Nat)) :: (@PySem.Value.int (2 : Int) (0 : Nat)) :: (@PySem.Value.int (0 : Int) (0 : Nat)) :: (@PySem.Value.int (0 : Int) (0 : Nat)) :: (@PySem.Value.int (3 : Int) (0 : Nat)) :: (@PySem.Value.ref (77 : Nat)) :: (@PySem.Value.bool Bool.true) :: (@PySem.Value.int (276 : Int) (0 : Nat)) :: (@PySem.Value.ref (78 : Nat)) :: PySem.Value.none :: (@PySem.Value.ref (79 : Nat)) :: (@PySem.Value.ref (80 : Nat)) :: (@PySem.Value.ref (81 : Nat)) :: (@PySem.Value.int (540 : Int) (0 : Nat)) :: (@PySem.Value.int (116 : Int) (0 : Nat)) :: (@PySem.Value.str (@PySem.Str.ofString "/claim/cut.py") (541 : Nat)) :: ([] : List PySem.Value)))) (@List.toArray (@Option PySem.Value) ([] : List (@Option PySem.Value))))) ::
    (@Prod.mk Nat PySem.Obj (nat_lit 83) (@PySem.Obj.mk (@PySem.Value.type "function") (@Option.none Nat) (@PySem.Data.func (@PySem.FuncData.mk (@PySem.Str.ofString "_law_reading") (@PySem.Str.ofString "_law_reading") p13 (@PySem.FuncBody.stmts b13) s13 (3 : Nat) ([] : List (@Prod PySem.Str Nat)) PySem.Value.none PySem.Value.none PySem.Value.none (@PySem.Value.str (@PySem.Str.ofString "law_qw0005_01") (531 : Nat)) (@Option.none Nat) (@PySem.Value.ref (82 : Nat)) PySem.Value.none (0 : Nat))) (@List.toArray (@Option PySem.Value) ([] : List (@Option PySem.Value))))) ::
    (@Prod.mk Nat PySem.Obj (nat_lit 84) (@PySem.Obj.mk (@PySem.Value.type "tuple") (@Option.none Nat) (@PySem.Data.seq (@List.toArray PySem.Value ([] : List PySem.Value)) (0 : Nat)) (@List.toArray (@Option PySem.Value) ([] : List (@Option PySem.Value))))) ::
    (@Prod.mk Nat PySem.Obj (nat_lit 87) (@PySem.Obj.mk (@PySem.Value.type "code") (@Option.none Nat) (@PySem.Data.fields (@List.toArray PySem.Value ((@PySem.Value.str (@PySem.Str.ofString "_law_due") (543 : Nat)) :: (@PySem.Value.str (@PySem.Str.ofString "_law_due") (544 : Nat)) :: (@PySem.Value.str (@PySem.Str.ofString "/claim/cut.py") (545 : Nat)) :: (@PySem.Value.int (123 : Int) (0 : Nat)) :: (@PySem.Value.int (2 : Int) (0 : Nat)) :: (@PySem.Value.int (0 : Int) (0 : Nat)) :: (@PySem.Value.int (0 : Int) (0 : Nat)) :: (@PySem.Value.int (3 : Int) (0 : Nat)) :: (@PySem.Value.ref (84 : Nat)) :: (@PySem.Value.bool Bool.true) :: (@PySem.Value.int (276 : Int) (0 : Nat)) :: (@PySem.Value.ref (85 : Nat)) :: PySem.Value.none :: PySem.Value.none :: PySem.Value.none :: (@PySem.Value.ref (86 : Nat)) :: (@PySem.Value.int (546 : Int) (0 : Nat)) :: (@PySem.Value.int (123 : Int) (0 : Nat)) :: (@PySem.Value.str (@PySem.Str.ofString "/claim/cut.py") (547 : Nat)) :: ([] : List PySem.Value)))) (@List.toArray (@Option PySem.Value) ([] : List (@Option PySem.Value))))) ::
    (@Prod.mk Nat PySem.Obj (nat_lit 88) (@PySem.Obj.mk (@PySem.Value.type "function") (@Option.none Nat) (@PySem.Data.func (@PySem.FuncData.mk (@PySem.Str.ofString "_law_due") (@PySem.Str.ofString "_law_due") p14 (@PySem.FuncBody.stmts b14) s14 (3 : Nat) ([] : List (@Prod PySem.Str Nat)) PySem.Value.none PySem.Value.none PySem.Value.none (@PySem.Value.str (@PySem.Str.ofString "law_qw0005_01") (531 : Nat)) (@Option.none Nat) (@PySem.Value.ref (87 : Nat)) PySem.Value.none (0 : Nat))) (@List.toArray (@Option PySem.Value) ([] : List (@Option PySem.Value))))) ::
    (@Prod.mk Nat PySem.Obj (nat_lit 89) (@PySem.Obj.mk (@PySem.Value.type "tuple") (@Option.none Nat) (@PySem.Data.seq (@List.toArray PySem.Value ([] : List PySem.Value)) (0 : Nat)) (@List.toArray (@Option PySem.Value) ([] : List (@Option PySem.Value))))) ::
    (@Prod.mk Nat PySem.Obj (nat_lit 91) (@PySem.Obj.mk (@PySem.Value.type "tuple") (@Option.none Nat) (@PySem.Data.seq (@List.toArray PySem.Value ((@PySem.Value.str (@PySem.Str.ofString "number") (552 : Nat)) :: (@PySem.Value.str (@PySem.Str.ofString "many") (553 : Nat)) :: (@PySem.Value.str (@PySem.Str.ofString "brackets") (554 : Nat)) :: (@PySem.Value.str (@PySem.Str.ofString "k") (555 : Nat)) :: (@PySem.Value.str (@PySem.Str.ofString "octet") (556 : Nat)) :: (@PySem.Value.str (@PySem.Str.ofString "low") (557 : Nat)) :: (@PySem.Value.str (@PySem.Str.ofString "high") (558 : Nat)) :: ([] : List PySem.Value))) (0 : Nat)) (@List.toArray (@Option PySem.Value) ([] : List (@Option PySem.Value))))) ::
    (@Prod.mk Nat PySem.Obj (nat_lit 92) (@PySem.Obj.mk (@PySem.Value.type "tuple") (@Option.none Nat) (@PySem.Data.seq (@List.toArray PySem.Value ([] : List PySem.Value)) (0 : Nat)) (@List.toArray (@Option PySem.Value) ([] : List (@Option PySem.Value))))) ::
    (@Prod.mk Nat PySem.Obj (nat_lit 94) (@PySem.Obj.mk (@PySem.Value.type "code") (@Option.none Nat) (@PySem.Data.fields (@List.toArray PySem.Value ((@PySem.Value.str (@PySem.Str.ofString "_law_pattern") (549 : Nat)) :: (@PySem.Value.str (@PySem.Str.ofString "_law_pattern") (550 : Nat)) :: (@PySem.Value.str (@PySem.Str.ofString "/claim/cut.py") (551 : Nat)) :: (@PySem.Value.int (128 : Int) (0 : Nat)) :: (@PySem.Value.int (2 : Int) (0 : Nat)) :: (@PySem.Value.int (0 : Int) (0 : Nat)) :: (@PySem.Value.int (0 : Int) (0 : Nat)) :: (@PySem.Value.int (3 : Int) (0 : Nat)) :: (@PySem.Value.ref (89 : Nat)) :: (@PySem.Value.bool Bool.true) :: (@PySem.Value.int (276 : Int) (0 : Nat)) :: (@PySem.Value.ref (90 : Nat)) :: PySem.Value.none :: (@PySem.Value.ref (91 : Nat)) :: (@PySem.Value.ref (92 : Nat)) :: (@PySem.Value.ref (93 : Nat)) :: (@PySem.Value.int (559 : Int) (0 : Nat)) :: (@PySem.Value.int (128 : Int) (0 : Nat)) :: (@PySem.Value.str (@PySem.Str.ofString "/claim/cut.py") (560 : Nat)) :: ([] : List PySem.Value)))) (@List.toArray (@Option PySem.Value) ([] : List (@Option PySem.Value))))) ::
    (@Prod.mk Nat PySem.Obj (nat_lit 95) (@PySem.Obj.mk (@PySem.Value.type "function") (@Option.none Nat) (@PySem.Data.func (@PySem.FuncData.mk (@PySem.Str.ofString "_law_pattern") (@PySem.Str.ofString "_law_pattern") p15 (@PySem.FuncBody.stmts b15) s15 (3 : Nat) ([] : List (@Prod PySem.Str Nat)) PySem.Value.none PySem.Value.none PySem.Value.none (@PySem.Value.str (@PySem.Str.ofString "law_qw0005_01") (531 : Nat)) (@Option.none Nat) (@PySem.Value.ref (94 : Nat)) PySem.Value.none (0 : Nat))) (@List.toArray (@Option PySem.Value) ([] : List (@Option PySem.Value))))) ::
    (@Prod.mk Nat PySem.Obj (nat_lit 96) (@PySem.Obj.mk (@PySem.Value.type "tuple") (@Option.none Nat) (@PySem.Data.seq (@List.toArray PySem.Value ([] : List PySem.Value)) (0 : Nat)) (@List.toArray (@Option PySem.Value) ([] : List (@Option PySem.Value))))) ::
    (@Prod.mk Nat PySem.Obj (nat_lit 99) (@PySem.Obj.mk (@PySem.Value.type "code") (@Option.none Nat) (@PySem.Data.fields (@List.toArray PySem.Value ((@PySem.Value.str (@PySem.Str.ofString "_law_text") (562 : Nat)) :: (@PySem.Value.str (@PySem.Str.ofString "_law_text") (563 : Nat)) :: (@PySem.Value.str (@PySem.Str.ofString "/claim/cut.py") (564 : Nat)) :: (@PySem.Value.int (135 : Int) (0 : Nat)) :: (@PySem.Value.int (1 : Int) (0 : Nat)) :: (@PySem.Value.int (0 : Int) (0 : Nat)) :: (@PySem.Value.int (0 : Int) (0 : Nat)) :: (@PySem.Value.int (3 : Int) (0 : Nat)) :: (@PySem.Value.ref (96 : Nat)) :: (@PySem.Value.bool Bool.true) :: (@PySem.Value.int (276 : Int) (0 : Nat)) :: (@PySem.Value.ref (97 : Nat)) :: PySem.Value.none :: PySem.Value.none :: PySem.Value.none :: (@PySem.Value.ref (98 : Nat)) :: (@PySem.Value.int (565 : Int) (0 : Nat)) :: (@PySem.Value.int (135 : Int) (0 : Nat)) :: (@PySem.Value.str (@PySem.Str.ofString "/claim/cut.py") (566 : Nat)) :: ([] : List PySem.Value)))) (@List.toArray (@Option PySem.Value) ([] : List (@Option PySem.Value))))) ::
    (@Prod.mk Nat PySem.Obj (nat_lit 100) (@PySem.Obj.mk (@PySem.Value.type "function") (@Option.none Nat) (@PySem.Data.func (@PySem.FuncData.mk (@PySem.Str.ofString "_law_text") (@PySem.Str.ofString "_law_text") p16 (@PySem.FuncBody.stmts b16) s16 (3 : Nat) ([] : List (@Prod PySem.Str Nat)) PySem.Value.none PySem.Value.none PySem.Value.none (@PySem.Value.str (@PySem.Str.ofString "law_qw0005_01") (531 : Nat)) (@Option.none Nat) (@PySem.Value.ref (99 : Nat)) PySem.Value.none (0 : Nat))) (@List.toArray (@Option PySem.Value) ([] : List (@Option PySem.Value))))) ::
    (@Prod.mk Nat PySem.Obj (nat_lit 101) (@PySem.Obj.mk (@PySem.Value.type "tuple") (@Option.none Nat) (@PySem.Data.seq (@List.toArray PySem.Value ([] : List PySem.Value)) (0 : Nat)) (@List.toArray (@Option PySem.Value) ([] : List (@Option PySem.Value))))) ::
    (@Prod.mk Nat PySem.Obj (nat_lit 104) (@PySem.Obj.mk (@PySem.Value.type "code") (@Option.none Nat) (@PySem.Data.fields (@List.toArray PySem.Value ((@PySem.Value.str (@PySem.Str.ofString "law") (568 : Nat)) :: (@PySem.Value.str (@PySem.Str.ofString "law") (569 : Nat)) :: (@PySem.Value.str (@PySem.Str.ofString "/claim/cut.py") (570 : Nat)) :: (@PySem.Value.int (142 : Int) (0 : Nat)) :: (@PySem.Value.int (1 : Int) (0 : Nat)) :: (@PySem.Value.int (0 : Int) (0 : Nat)) :: (@PySem.Value.int (0 : Int) (0 : Nat)) :: (@PySem.Value.int (3 : Int) (0 : Nat)) :: (@PySem.Value.ref (101 : Nat)) :: (@PySem.Value.bool Bool.true) :: (@PySem.Value.int (276 : Int) (0 : Nat)) :: (@PySem.Value.ref (102 : Nat)) :: PySem.Value.none :: PySem.Value.none :: PySem.Value.none :: (@PySem.Value.ref (103 : Nat)) :: (@PySem.Value.int (571 : Int) (0 : Nat)) :: (@PySem.Value.int (142 : Int) (0 : Nat)) :: (@PySem.Value.str (@PySem.Str.ofString "/claim/cut.py") (572 : Nat)) :: ([] : List PySem.Value)))) (@List.toArray (@Option PySem.Value) ([] : List (@Option PySem.Value))))) ::
    (@Prod.mk Nat PySem.Obj (nat_lit 105) (@PySem.Obj.mk (@PySem.Value.type "function") (@Option.none Nat) (@PySem.Data.func (@PySem.FuncData.mk (@PySem.Str.ofString "law") (@PySem.Str.ofString "law") p17 (@PySem.FuncBody.stmts b17) s17 (3 : Nat) ([] : List (@Prod PySem.Str Nat)) PySem.Value.none PySem.Value.none PySem.Value.none (@PySem.Value.str (@PySem.Str.ofString "law_qw0005_01") (531 : Nat)) (@Option.none Nat) (@PySem.Value.ref (104 : Nat)) PySem.Value.none (0 : Nat))) (@List.toArray (@Option PySem.Value) ([] : List (@Option PySem.Value))))) :: ([] : List (@Prod Nat PySem.Obj))) : List (@Prod Nat PySem.Obj))
noncomputable abbrev HK : Hook := kmHook heapK (3 :: 6 :: 11 :: 12 :: 32 :: 34 :: 35 :: 37 :: 38 :: 42 :: 43 :: 44 :: 46 :: 47 :: 49 :: 50 :: 52 :: 56 :: 58 :: 59 :: 61 :: 62 :: 63 :: 65 :: 66 :: 68 :: 69 :: 70 :: 72 :: 73 :: 75 :: 76 :: 77 :: 79 :: 80 :: 82 :: 83 :: 84 :: 87 :: 88 :: 89 :: 91 :: 92 :: 94 :: 95 :: 96 :: 99 :: 100 :: 101 :: 104 :: 105 :: []) (fun _ => by kernel_rfl) [64]
abbrev looseN : List PySem.Str := [Str.ofString "_twin_re_1", Str.ofString "_special_chars_map"]
theorem by_rows {P : World → Prop} (r1 r2 : String) (h : ∀ b1 b2 : Bool, ∀ w : World, P ((w.withFollow r1 b1).withFollow r2 b2)) (w : World) : P w := by
  have a := h (w.params.followText r1) ((w.withFollow r1 (w.params.followText r1)).params.followText r2) w
  rw [World.withFollow_self] at a
  rwa [World.withFollow_self] at a
noncomputable def Xt0 : Shared → Bool := fun s => xlAt viewV [] s && recOk (RowW.records PySem.Challenge.rw_qw0005_01.row.toRowW) s
def Leaf (w : World) : Prop :=
  (openEnds treeTable PySem.Challenge.pw_qw0005_01 w 3506).map (fun s => (openSeen viewV looseN (importedModules PySem.Challenge.pw_qw0005_01.main.body) Xt0 true s, HK.obs s)) = some (openGood viewV looseN, HK.val w)
theorem leaf_ff (w : World) : Leaf ((w.withFollow "comprehension-iter-twice" false).withFollow "special-get-raises" false) := by unfold Leaf; kernel_rfl
theorem leaf_ft (w : World) : Leaf ((w.withFollow "comprehension-iter-twice" false).withFollow "special-get-raises" true) := by unfold Leaf; kernel_rfl
theorem leaf_tf (w : World) : Leaf ((w.withFollow "comprehension-iter-twice" true).withFollow "special-get-raises" false) := by unfold Leaf; kernel_rfl
theorem leaf_tt (w : World) : Leaf ((w.withFollow "comprehension-iter-twice" true).withFollow "special-get-raises" true) := by unfold Leaf; kernel_rfl
theorem head_left : LeftO PySem.Challenge.pw_qw0005_01 viewV looseN Xt0 HK.obs HK.val 3506 := by_rows (P := Leaf) "comprehension-iter-twice" "special-get-raises" (fun b1 b2 w => by
  cases b1
  · cases b2
    · exact leaf_ff w
    · exact leaf_ft w
  · cases b2
    · exact leaf_tf w
    · exact leaf_tt w)
theorem law_said : PySem.Challenge.rw_qw0005_01.wellSaid = true := by kernel_rfl
end Mine
end
section
open PySem PySem.W PySem.Calls PyProof.Rows
set_option Elab.async false
set_option maxRecDepth 100000
set_option maxHeartbeats 8000000
namespace Mine
abbrev LS : List PySem.Str := [PySem.Str.ofString "_twin_re_1", PySem.Str.ofString "_special_chars_map"]
abbrev oPlain : Obj := { cls := .type "object" }
abbrev bApp (l : Addr) : Obj := ⟨.type "builtin_function_or_method", none, .fields #[.builtin "list.append", .ref l], #[]⟩
def Halt (P : Prop) : Prop := P
theorem Halt.intro {P : Prop} (h : Halt P) : P := h
theorem frPut {h₀ h : Heap} {L : Addr} {m : PySem.Str → Option Value} {x : PySem.Str} {v : Value} (F : Fr h₀ L h m) (e : m x = some v) : Fr h₀ L h (fun y => if y = x then some v else m y) := by
  have : (fun y => if y = x then some v else m y) = m := by
    funext y
    by_cases hy : y = x
    · rw [if_pos hy, hy, e]
    · rw [if_neg hy]
  rw [this]; exact F
section
variable {prog : Program} {w : World} {M : Model} {A : Around} {E : Value → Shared → Prop} {s : Shared} {K : Frag} {h₀ : Heap} {L : Addr} {m : PySem.Str → Option Value} {news : List (Addr × Obj)}

theorem whileI {test : PySem.Expr} {body : List Stmt} {pos : Pos} {env : Env} {Q : Flow → Shared → Prop} (I : Nat → Shared → Prop) (n : Nat) (h0 : I n s)
    (turn : ∀ n s, I n s → wpAny (model prog w) A (PySem.isTrue test env (eval test env)) (fun b s₂ =>
      if b = true then wpAny (model prog w) A (execs body env) (fun f s₃ => f = .next ∧ ∃ k, k < n ∧ I k s₃) (fun _ _ => False) s₂ else Q .next s₂) (fun _ _ => False) s) :
    wpAny (model prog w) A (exec (.While test body [] pos) env) Q E s := by
  refine wpAny_While (codeAny_whileLoop I (fun n s hI => ?_) n h0)
  refine wpAny_mono (turn n s hI) (fun b s₂ h₂ => ?_) (fun _ _ x => x.elim)
  cases b with
  | false =>
    simp only [Bool.false_eq_true, if_false] at h₂ ⊢
    exact wpAny_execs_nil h₂
  | true =>
    simp only [if_true] at h₂ ⊢
    refine wpAny_mono h₂ (fun f s₃ h₃ => ?_) (fun _ _ x => x.elim)
    obtain ⟨rfl, h₃⟩ := h₃
    exact h₃

theorem lk_app : typeLookup (.type "list") (PySem.Str.ofString "append") = pure (some (.builtin "list.append")) := by rw [typeLookup_type, builtinLookup_eq_fast]; kernel_rfl
theorem lk_md_get : typeLookup (.type "method_descriptor") (PySem.Str.ofString "__get__") = pure (some (.builtin "method_descriptor.__get__")) := by rw [typeLookup_type, builtinLookup_eq_fast]; kernel_rfl
theorem lk_md_set : typeLookup (.type "method_descriptor") (PySem.Str.ofString "__set__") = pure none := by rw [typeLookup_type, builtinLookup_eq_fast]; kernel_rfl
theorem lk_md_del : typeLookup (.type "method_descriptor") (PySem.Str.ofString "__delete__") = pure none := by rw [typeLookup_type, builtinLookup_eq_fast]; kernel_rfl
theorem sub_list_module : isSubtype (.type "list") (.type "module") = pure false := by rw [isSubtype_type]; kernel_rfl

theorem sig_ok : (Manifest.signature? "list.append").isSome = true := by decide +kernel
def sigA : Manifest.Signature := (Manifest.signature? "list.append").get sig_ok
theorem sig_app : Manifest.signature? "list.append" = some sigA := by unfold sigA; rw [Option.some_get]
theorem args_app (l : Addr) (x : Value) : Bind.checkArgs "list.append" { sigA with full := s!"{Bind.lastOf "list"}.{Bind.lastOf "list.append"}" } ⟨[.ref l, x], []⟩ = pure () := by kernel_rfl
theorem check_app {l : Addr} {its : Array Value} {n : Nat} {x : Value} {Q : Unit → Shared → Prop} (ho : s.heap.get? l = some (listOf its n)) (h : Q () s) :
    wpAny M A (checkBoundCall "list.append" ⟨[.ref l, x], []⟩) Q E s := by
  have hT : s.TypeIs (.ref l) "list" := ⟨_, ho, rfl⟩
  have f1 := sub_list_module
  unfold checkBoundCall
  simp only [sig_app, show builtinKind "list.append" = some Manifest.AttrKind.method by decide +kernel]
  refine KFB.if_not (by decide) ?_
  refine wpAny_bind (wpAny_isInstance hT f1 ?_)
  refine KFB.if_not (by decide +kernel) ?_
  refine wpAny_bind ?_
  unfold isType loadHead
  refine wpAny_bind (wpAny_loadPart ho (wpAny_pure ?_))
  refine KFB.if_not rfl ?_
  refine wpAny_bind (wpAny_typeOf hT ?_)
  exact wpAny_of_eq (args_app l x) h

theorem quiet_app {as : Args} : (Code.builtin "list.append" as).quiet = true := Code.quiet_builtin _ (by decide +kernel)
theorem call_app {u l : Addr} {its : Array Value} {n : Nat} {x : Value} {news' : List (Addr × Obj)} {Q : Value → Shared → Prop} (F : Fr h₀ L s.heap m) (N : News h₀ L s.heap news) (hu : s.heap.get? u = some (bApp l))
    (U : Upd l (listOf its n) (listOf (its.push x) (n + 1)) news news')
    (h : ∀ h', Fr h₀ L h' m → News h₀ L h' news' → Q .none { s with heap := h' }) (hsz : its.size ≤ sizeLine := by size_fits) : wpAny (model prog w) A (call (.ref u) [x]) Q E s := by
  obtain ⟨pre, post, rfl, rfl, a, b⟩ := U.split
  have z := N (l, listOf its n) (List.mem_append.mpr (.inr (.head _)))
  refine wpAny_call (codeAny_of_tree ?_)
  show wpAny _ A.in1 (callAny (.ref u) ⟨[x], []⟩) _ _ s
  simp only [callAny]
  refine wpAny_bind (wpAny_load hu ?_)
  refine KFB.if_so rfl ?_
  refine KFB.if_so rfl ?_
  refine wpAny_bind (check_app z.1 ?_)
  refine wpAny_bind (wpAny_pure (wpAny_pure ?_))
  refine ⟨quiet_app, codeAny_builtin entry_list_append ?_⟩
  show wpAny _ _ (updateSeq l (·.push x) >>= fun _ => ret .none) _ _ s
  refine wpAny_bind ?_
  refine wpAny_updateSeq z.1 rfl (wpAny_pure ?_)
  have hs : Heap.SameBut l s.heap (s.heap.update l (Obj.mapSeq fun x_1 => x_1.push x)) := Heap.SameBut.update ..
  refine h _ (F.change hs z.2.1 z.2.2) (news_set N a b hs ?_)
  rw [Heap.get?_update_self _ z.1 (by rw [mapSeq_push]; rfl), mapSeq_push]

theorem callWith_app0 {pos : Pos} {u l : Addr} {first : List Value} {args : List (Bool × Sem Value)} {Q : Value → Shared → Prop} (hplain : args.any (·.1) = false)
    (h : wpAny M A (evalArgs (.ref u) true args []) (fun x s₁ => s₁.heap.get? u = some (bApp l) ∧ wpAny M A (call (.ref u) (first ++ x.pos) x.kw) Q E s₁) E s) : wpAny M A (callWith pos (.ref u) first args []) Q E s := by
  unfold callWith
  refine wpAny_bind (wpAny_holding (wpAny_mono h (fun x s₁ h₁ => wpAny_bind (wpAny_standAt ?_)) fun _ _ x => x))
  obtain ⟨ho, hcall⟩ := h₁
  simp only [hplain, List.any_nil, Bool.or_false]
  refine wpAny_bind (m := keeperOf (.ref u)) ?_
  unfold keeperOf
  refine wpAny_bind (wpAny_load ho ?_)
  simp only [bApp, show (Value.type "builtin_function_or_method" != Value.type "method") = true by decide, show (Value.type "builtin_function_or_method" == Value.type "builtin_function_or_method" || Value.type "builtin_function_or_method" == Value.type "method-wrapper") = true by decide, if_true]
  refine wpAny_pure ?_
  exact wpAny_bind (wpAny_mono hcall (fun r s₂ hr => wpAny_bind (wpAny_holding (wpAny_point (wpAny_pure hr)))) fun _ _ x => x)
theorem callWith_app {pos : Pos} {u l : Addr} {first : List Value} {env : Env} {e : PySem.Expr} {rest : List PySem.Expr} {Q : Value → Shared → Prop}
    (h : wpAny M A (spliced (backTo pos (starEach (e :: rest) env))) (fun vs s₁ => s₁.heap.get? u = some (bApp l) ∧ wpAny M A (call (.ref u) (first ++ vs)) Q E s₁) E s)
    (he : starEach (e :: rest) env = (false, eval e env) :: starEach rest env := by rfl) (hplain : (backTo pos (starEach rest env)).any (·.1) = false := by rfl) :
    wpAny M A (callWith pos (.ref u) first (backTo pos (starEach (e :: rest) env)) []) Q E s := by
  rw [he] at h ⊢
  refine callWith_app0 (l := l) (by show (false || (backTo pos (starEach rest env)).any (·.1)) = false; rw [hplain]; rfl) ?_
  exact evalArgs_plain h
end
end Mine
end
section
open PySem PySem.W PySem.Calls PyProof.Rows
set_option Elab.async false
set_option maxRecDepth 100000
set_option maxHeartbeats 8000000
namespace Mine
theorem slot_mdg : Slot "method_descriptor" (PySem.Str.ofString "__get__") "method_descriptor.__get__" :=
  .of (owner := "method_descriptor") (n := "__get__") (by rw [typeLookup_type, builtinLookup_eq_fast]; kernel_rfl) (by decide +kernel) (by decide +kernel) (by decide +kernel)
    (by first | exact .inl (by decide +kernel) | exact .inr (by decide +kernel)) (by rw [isSubtype_type]; kernel_rfl)
theorem entry_mdg : entryFor table "method_descriptor.__get__" = some Builtin.«method_descriptor.__get__» := entryFor_of_tree (by kernel_rfl)
theorem args_mdg (a b c : Value) : argsOk "method_descriptor.__get__" ⟨[a, b, c], []⟩ := by unfold argsOk; kernel_rfl
theorem sub_ll : isSubtype (.type "list") (.type (".".intercalate ("list.append".cutAt '.').dropLast)) = pure true := by
  rw [show (".".intercalate ("list.append".cutAt '.').dropLast) = "list" by decide +kernel, isSubtype_type]; kernel_rfl
theorem told_app : Manifest.toldItsClass.contains "list.append" = false := by decide +kernel
section
variable {prog : Program} {w : World} {A : Around} {E : Value → Shared → Prop} {h : Heap} {g : Array GenState} {d : Drawn} {t : Nat} {os : OsState}
theorem app_entry {l : Addr} {its : Array Value} {n : Nat} {tk : Tok} {Q : Fin → Shared → Prop} (hx : h.get? l = some (listOf its n)) (hq : Q (.done (.ret (.ref h.objs.size))) ⟨h.push (bApp l), g, d, t, os⟩) :
    wpAny (model prog w) A (Builtin.«object.__getattribute__» ⟨[.ref l, .str (PySem.Str.ofString "append") tk], []⟩) Q E ⟨h, g, d, t, os⟩ := by
  have hT : (⟨h, g, d, t, os⟩ : Shared).TypeIs (.ref l) "list" := ⟨_, hx, rfl⟩
  have hT5 : (⟨h, g, d, t, os⟩ : Shared).TypeIs (.builtin "list.append") "method_descriptor" := F.type_list_append
  have f4 := lk_app
  have f5 := F.type_list_append
  have f6 := lk_md_get
  have f7 := lk_md_set
  have f8 := lk_md_del
  repeat (any_goals (first | assumption | wp_step))
  have f9 := sub_ll
  refine codeAny_call_builtin slot_mdg.plain entry_mdg (slot_mdg.check _ _ _ _ _ _ _ _ hT5 (args_mdg _ _ _) ?_)
  repeat (any_goals (first | assumption | wp_step))

theorem app_by {l : Addr} {its : Array Value} {n : Nat} {tk : Tok} {Q : Value → Shared → Prop} (hx : h.get? l = some (listOf its n)) (hq : Q (.ref h.objs.size) ⟨h.push (bApp l), g, d, t, os⟩) :
    wpAny (model prog w) A (getAttrBy (.ref l) (.str (PySem.Str.ofString "append") tk) true true) Q E ⟨h, g, d, t, os⟩ := by
  have hT : (⟨h, g, d, t, os⟩ : Shared).TypeIs (.ref l) "list" := ⟨_, hx, rfl⟩
  have f2 := F.slot_list_getattribute.lookup
  have f3 := F.slot_list_getattribute.bind (.ref l)
  repeat (any_goals (first | assumption | wp_step))
  refine codeAny_call_builtin F.slot_list_getattribute.plain F.entry_list_ga (F.slot_list_getattribute.check _ _ _ _ _ _ _ _ hT (F.args_list_getattribute_2 _ _) (app_entry hx ?_))
  repeat (any_goals (first | assumption | wp_step))
end
section
variable {prog : Program} {w : World} {A : Around} {E : Value → Shared → Prop} {s : Shared} {h₀ : Heap} {L : Addr} {m : PySem.Str → Option Value} {news : List (Addr × Obj)}
theorem attr_app {l : Addr} {its : Array Value} {n : Nat} {Q : Value → Shared → Prop} (F : Fr h₀ L s.heap m) (N : News h₀ L s.heap news) (hm : (l, listOf its n) ∈ news)
    (h : ∀ x h' tk, Fr h₀ L h' m → News h₀ L h' ((x, bApp l) :: news) → (∀ p ∈ news, p.1 < x) → Q (.ref x) { s with heap := h', toks := tk }) :
    wpAny (model prog w) A (getAttr (.ref l) (PySem.Str.ofString "append") true) Q E s := by
  obtain ⟨hp, g, d, t, os⟩ := s
  unfold getAttr
  refine wpAny_bind (wpAny_mkText ?_)
  exact app_by (N.get hm) (h _ _ _ (F.push _) (N.push F _) fun p hp => Heap.lt_size (N p hp).1)
end
end Mine
end
section
open PySem PySem.W PySem.Calls PyProof.Rows
set_option Elab.async false
set_option maxRecDepth 100000
set_option maxHeartbeats 8000000
namespace Mine
abbrev JT := Nat → (PySem.Str → Option Value) → List (Addr × Obj) → Array GenState → Prop
def StepN (h₀ : Heap) (L : Addr) (s : Shared) (J : JT) (n : Nat) (f : Flow) (s₃ : Shared) : Prop :=
  f = .next ∧ ∃ h' tk g' m₂ news₂ n', s₃ = ⟨h', g', s.drawn, tk, s.os⟩ ∧ Fr h₀ L h' m₂ ∧ News h₀ L h' news₂ ∧ n' < n ∧ J n' m₂ news₂ g'
theorem allLt_mem {d : Nat} (l : List (Addr × Obj)) (h : AllLt d l) (p : Addr × Obj) (hp : p ∈ l) : p.1 < d := by
  induction l with
  | nil => cases hp
  | cons q r ih =>
    rcases List.mem_cons.mp hp with e | e
    · rw [e]; exact h.1
    · exact ih h.2 e
theorem frPuts {h₀ h : Heap} {L : Addr} {m : PySem.Str → Option Value} (l : List (PySem.Str × Value)) (F : Fr h₀ L h m) (e : ∀ p ∈ l, m p.1 = some p.2) : Fr h₀ L h (fun y => (l.lookup y).or (m y)) := by
  have : (fun y => (l.lookup y).or (m y)) = m := by
    funext y
    cases hl : l.lookup y with
    | none => rfl
    | some v =>
      have hm : (y, v) ∈ l := by
        clear F e
        induction l with
        | nil => cases hl
        | cons q r ih =>
          obtain ⟨a, b⟩ := q
          rw [List.lookup_cons] at hl
          cases hq : y == a with
          | true => rw [hq] at hl; cases hl; rw [eq_of_beq hq]; exact .head _
          | false => rw [hq] at hl; exact .tail _ (ih hl)
      exact (e _ hm).symm
  rw [this]; exact F
theorem take_push (ps : List (PySem.Str × Tok)) (i : Nat) (hi : i < ps.length) : (strValues (ps.take (i + 1))).toArray = (strValues (ps.take i)).toArray.push (.str ps[i].1 ps[i].2) := by
  rw [List.take_succ_eq_append_getElem hi]
  unfold strValues
  rw [List.map_append, List.map_cons, List.map_nil]
  exact (List.push_toArray ..).symm
theorem newsSub {h₀ h : Heap} {L : Addr} {news news' : List (Addr × Obj)} (N : News h₀ L h news) (hs : ∀ p ∈ news', p ∈ news) : News h₀ L h news' := fun p hp => N p (hs p hp)
section
variable {prog : Program} {w : World} {A : Around} {E : Value → Shared → Prop} {s : Shared} {h₀ : Heap} {L : Addr} {m : PySem.Str → Option Value} {news : List (Addr × Obj)}
theorem StepN.intro {J : JT} {n n' tk : Nat} {h' : Heap} {g' : Array GenState} {m₂ : PySem.Str → Option Value} {news₂ : List (Addr × Obj)}
    (F : Fr h₀ L h' m₂) (N : News h₀ L h' news₂) (hn : n' < n) (hJ : J n' m₂ news₂ g') : StepN h₀ L s J n .next ⟨h', g', s.drawn, tk, s.os⟩ :=
  ⟨rfl, h', tk, g', m₂, news₂, n', rfl, F, N, hn, hJ⟩
theorem itemL {value slice : PySem.Expr} {l : Addr} {vs : List Value} {k : Int} {u : Tok} {v : Value} {Q : Value → Shared → Prop} (hl : s.heap.IsList l vs.toArray) (h0 : 0 ≤ k) (hhi : k < 2 ^ 63) (hx : vs[k.toNat]? = some v) (h : Q v s)
    (hs : subscripted slice false (.ref l) (.int k u) = operate [.ref l, .int k u] (getItem (.ref l) (.int k u)) := by with_unfolding_all rfl) :
    wpAny (model prog w) A (subscriptTail value slice (.ref l) (.int k u)) Q E s :=
  tail_any hl.typeIs slot_list_getitem.lookup (wpAny_getItem_list hl h0 hhi (by simpa using hx) h) hs
theorem whileN {test : PySem.Expr} {body : List Stmt} {pos : Pos} {env : Env} {Q : Flow → Shared → Prop} (J : JT) (n₀ : Nat)
    (F : Fr h₀ L s.heap m) (N : News h₀ L s.heap news) (hJ : J n₀ m news s.gens)
    (turn : ∀ n m₁ news₁ h₁ tk₁ g₁, Fr h₀ L h₁ m₁ → News h₀ L h₁ news₁ → J n m₁ news₁ g₁ →
      wpAny (model prog w) A (PySem.isTrue test env (eval test env)) (fun b s₂ =>
        if b = true then wpAny (model prog w) A (execs body env) (StepN h₀ L s J n) (fun _ _ => False) s₂ else Q .next s₂) (fun _ _ => False) ⟨h₁, g₁, s.drawn, tk₁, s.os⟩) :
    wpAny (model prog w) A (exec (.While test body [] pos) env) Q E s := by
  refine whileI (fun n s' => ∃ h₁ tk₁ g₁ m₁ news₁, s' = ⟨h₁, g₁, s.drawn, tk₁, s.os⟩ ∧ Fr h₀ L h₁ m₁ ∧ News h₀ L h₁ news₁ ∧ J n m₁ news₁ g₁) n₀ ⟨_, _, _, _, _, rfl, F, N, hJ⟩ ?_
  rintro n s' ⟨h₁, tk₁, g₁, m₁, news₁, rfl, F₁, N₁, J₁⟩
  refine wpAny_mono (turn n m₁ news₁ h₁ tk₁ g₁ F₁ N₁ J₁) (fun b s₂ h₂ => ?_) (fun _ _ x => x)
  cases b with
  | false => simpa using h₂
  | true =>
    simp only [if_true] at h₂ ⊢
    refine wpAny_mono h₂ (fun f s₃ h₃ => ?_) (fun _ _ x => x)
    obtain ⟨rfl, h', tk, g', m₂, news₂, n', rfl, F₂, N₂, hn, J₂⟩ := h₃
    exact ⟨rfl, n', hn, h', tk, g', m₂, news₂, rfl, F₂, N₂, J₂⟩
theorem whileStop {test : PySem.Expr} {body : List Stmt} {pos : Pos} {env : Env} {Q : Flow → Shared → Prop}
    (h : wpAny (model prog w) A (PySem.isTrue test env (eval test env)) (fun b s₂ => b = false ∧ Q .next s₂) (fun _ _ => False) s) :
    wpAny (model prog w) A (exec (.While test body [] pos) env) Q E s := by
  refine whileI (fun _ s' => s' = s) 0 rfl ?_
  rintro n s' rfl
  refine wpAny_mono h (fun b s₂ h₂ => ?_) (fun _ _ x => x)
  obtain ⟨rfl, h₂⟩ := h₂
  simpa using h₂
def AppAt (u l : Addr) (h : Heap) : Prop := h.get? u = some (bApp l)
theorem AppAt.of {u l : Addr} {h : Heap} (N : News h₀ L h news) (hm : (u, bApp l) ∈ news) : AppAt u l h := N.get hm
theorem callWith_appN {M : Model} {pos : Pos} {u l : Addr} {first : List Value} {env : Env} {e : PySem.Expr} {rest : List PySem.Expr} {Q : Value → Shared → Prop} (_N : News h₀ L s.heap news) (_hm : (u, bApp l) ∈ news)
    (h : wpAny M A (spliced (backTo pos (starEach (e :: rest) env))) (fun vs s₁ => AppAt u l s₁.heap ∧ wpAny M A (call (.ref u) (first ++ vs)) Q E s₁) E s)
    (he : starEach (e :: rest) env = (false, eval e env) :: starEach rest env := by rfl) (hplain : (backTo pos (starEach rest env)).any (·.1) = false := by rfl) :
    wpAny M A (callWith pos (.ref u) first (backTo pos (starEach (e :: rest) env)) []) Q E s := callWith_app (l := l) h he hplain
end
end Mine
end
section
open PySem PySem.W PySem.Calls PyProof.Rows
set_option Elab.async false
set_option maxRecDepth 100000
set_option maxHeartbeats 8000000
namespace Mine
def Spec (w : World) (f : Addr) (vs : List Value) (news : List (Addr × Obj)) (Post : Value → List (Addr × Obj) → Prop) : Prop :=
  ∀ (p : Program) (loose : List PySem.Str) (mean : ExcName → Option Value) (mg mb : PySem.Str → Option Value) (dp un : Nat) (gd : Option (List Code)) (cn : PySem.Str) (cs : Scope) (a : Addr) (ccd : Value) (cl : List (PySem.Str × Addr)) (outer : List Env) (A₀ : Around) (base h₀ : Heap) (L : Addr) (m : PySem.Str → Option Value) (s : Shared) (Q E : Value → Shared → Prop),
    Below A₀ base outer h₀ → Fr h₀ L s.heap m → (Mine.heapK w.params).In h₀ → News h₀ L s.heap news → Top p loose mean mg mb h₀ → CodeAll [(68, 64)] h₀ → cs.kind = .function → dp ≤ 600 → un ≤ 600 → AllBare s.gens →
    (∀ v news' h' tk' g', Fr h₀ L h' m → News h₀ L h' news' → Post v news' → AllBare g' → Q v ⟨h', g', s.drawn, tk', s.os⟩) →
    wpAny (model PySem.Challenge.rw_qw0005_01.row.prog w) (ktrTop dp un gd cn cs L a ccd cl outer) (call (.ref f) vs) Q E s
end Mine
end
section
open PySem PySem.W PyProof.Rows Mine
set_option Elab.async false
set_option maxRecDepth 100000
set_option maxHeartbeats 8000000
local macro_rules | `(tactic| walk_at "getAttr ref") => `(tactic| (k_here; (with_reducible show wpAny _ _ (getAttr (Value.ref _) (PySem.Str.ofString "append") true) _ _ _); k_dflt (refine' attr_app ?F ?N ?m ?_; (case F => k_asm); (case N => k_asm); (case m => k_mem); k_whole); intro x' h' tk' F' N' l1; (try k_lt l1); (try k_sweep)))
local macro_rules | `(tactic| walk_at "exec While") => `(tactic| (refine Halt.intro ?_))
local macro_rules | `(tactic| walk_at "exec While BoolOp") => `(tactic| (refine Halt.intro ?_))
local macro_rules | `(tactic| walk_at "exec While Compare") => `(tactic| (refine Halt.intro ?_))
local macro_rules | `(tactic| walk_at "last exec While") => `(tactic| (refine Halt.intro ?_))
local macro_rules | `(tactic| walk_at "callWith ref") => `(tactic| (k_here; (with_reducible show wpAny _ _ (callWith _ (Value.ref _) _ (backTo _ (starEach (_ :: _) _)) []) _ _ _); k_dflt (refine' callWith_appN ?N ?m ?_; (case N => k_asm); (case m => k_mem); k_whole)))
local macro_rules | `(tactic| walk_at "And") => `(tactic| ((with_reducible show AppAt _ _ _ ∧ _); k_dflt (refine ⟨AppAt.of (by k_asm) (by k_mem), ?_⟩); (try dsimp only [List.nil_append, List.cons_append])))
local macro_rules | `(tactic| walk_at "call ref") => `(tactic| (k_here; (with_reducible show wpAny _ _ (call (Value.ref _) [_]) _ _ _); k_dflt (refine' call_app ?F ?N ?u ?U ?_ ?z; (case F => k_asm); (case N => k_asm); (case u => exact AppAt.of (by k_asm) (by k_mem)); (case U => first | exact Upd.head (by assumption) | k_upd); (case z => first | size_fits | (simp [strValues, sizeLine_eq]; omega)); k_whole); intro h' F' N'; (try k_sweep)))
local macro_rules | `(tactic| walk_at "compareOp IsNot") => `(tactic| ((with_reducible show wpAny _ _ (compareOp CmpOp.IsNot (Value.str _ _) (Value.ref _)) _ _ _); refine wpAny_isNot_other (by rfl) (by intro h; cases h) ?_))
local macro_rules | `(tactic| wrow_close) => `(tactic| ((with_reducible show StepN _ _ _ _ _ _ _); refine Halt.intro ?_))
local macro_rules | `(tactic| walk_at "formatField str") => `(tactic| ((with_reducible show wpAny _ _ (formatField (Value.str _ _) PySem.Str.empty) _ _ _); refine formatField_str ?_ (by simp only [sizeLine_eq]; omega); intro t9 k9; (try dsimp only)))
namespace Mine
theorem join_spec (w : World) (rest : List (Addr × Obj)) (l st : Addr) (ps : List (PySem.Str × Tok)) (n : Nat) (hn : ps.length ≤ 20) (hsum : ((ps.map (·.1)).map (·.length)).sum + (ps.map (·.1)).length * (PySem.Str.ofString "").length ≤ 16777216) (hjl : (Txt.join (PySem.Str.ofString "") (ps.map (·.1))).length ≤ 1000000) :
    Spec w 76 [.ref l, .ref st] ((l, PySem.W.listOf (strValues ps).toArray n) :: (st, oPlain) :: rest)
      (fun v news' => news' = (l, PySem.W.listOf (strValues ps).toArray n) :: (st, oPlain) :: rest ∧ ∃ t, v = .str (PySem.Str.ofString "(?s:" ++ Txt.join (PySem.Str.ofString "") (ps.map (·.1)) ++ PySem.Str.ofString ")\\Z") t) := by
  unfold Spec
  k_fill
  w_top off
  intro p loose mean mg mb dp un gd cn cs a ccd cl outer A₀ base h₀ L m s Q E hB hF hX hN hT hC hk hdp hun hG hret
  refine wpAny_call ?_
  k_dflt cell_enter
  k_steps
  refine kun_lenL (k := (ps.length : Int)) (News.isList (by k_asm) (by k_mem)) (by simp [strValues]) (by omega) ?_
  k_steps
  show wpAny _ _ _ _ _ _
  rename_i rs _ l1 _ _ ad _ tk' l2 _ D' _ l3 _ _ hh F1 N1
  refine whileN (news := (rs, PySem.W.listOf #[] 0) :: (ad, bApp rs) :: (l, PySem.W.listOf (strValues ps).toArray n) :: (st, oPlain) :: rest) (fun r m news g => AllBare g ∧ ∃ (i : Nat) (ti tn : Tok) (rs ad : Addr) (c : Nat), i + r = ps.length ∧ news = (rs, PySem.W.listOf (strValues (ps.take i)).toArray c) :: (ad, bApp rs) :: (l, PySem.W.listOf (strValues ps).toArray n) :: (st, oPlain) :: rest ∧
      (∀ p ∈ (ad, bApp rs) :: (l, PySem.W.listOf (strValues ps).toArray n) :: (st, oPlain) :: rest, p.1 ≠ rs) ∧
      m (PySem.Str.ofString "i") = some (.int i ti) ∧ m (PySem.Str.ofString "n") = some (.int ps.length tn) ∧ m (PySem.Str.ofString "inp") = some (.ref l) ∧ m (PySem.Str.ofString "STAR") = some (.ref st) ∧
      m (PySem.Str.ofString "res") = some (.ref rs) ∧ m (PySem.Str.ofString "add") = some (.ref ad)) ps.length F1 ?hN ?hJ ?turn
  case hN => exact newsSub N1 (by intro p hp; simp only [List.mem_cons] at hp ⊢; rcases hp with rfl | rfl | rfl | rfl | hp <;> simp [*])
  case hJ =>
    refine ⟨hG, 0, _, _, rs, ad, 0, Nat.zero_add _, by simp [strValues], ?_, rfl, rfl, rfl, rfl, rfl, rfl⟩
    intro p hp
    simp only [List.mem_cons] at hp
    have := allLt_mem rest l1.2.2
    rcases hp with rfl | rfl | rfl | hp
    · refine neN ?_; dsimp only; omega
    · refine neN ?_; dsimp only; omega
    · refine neN ?_; dsimp only; omega
    · exact Nat.ne_of_lt (this p hp)
  case turn =>
    clear F1 N1 l1 l2 l3
    rintro r m₁ _ h₁ tk₁ g₁ F₁ N₁ ⟨hG₁, i, ti, tn, rs, ad, c, hr, rfl, hne, e1, e2, e3, e4, e5, e6⟩
    replace F₁ := frPuts [(PySem.Str.ofString "i", .int i ti), (PySem.Str.ofString "n", .int ps.length tn), (PySem.Str.ofString "inp", .ref l), (PySem.Str.ofString "STAR", .ref st), (PySem.Str.ofString "res", .ref rs), (PySem.Str.ofString "add", .ref ad)] F₁ (by simp only [List.forall_mem_cons, List.not_mem_nil, false_implies, implies_true, and_true]; exact ⟨e1, e2, e3, e4, e5, e6⟩)
    clear e1 e2 e3 e4 e5 e6
    k_steps
    · have hi : i < ps.length := by omega
      refine itemL (v := .str ps[i].1 ps[i].2) (vs := strValues ps) (News.isList (by k_asm) (by k_mem)) (by omega) (by omega) (by simp [strValues, hi]) ?_
      k_steps
      refine itemL (v := .str ps[i].1 ps[i].2) (vs := strValues ps) (News.isList (by k_asm) (by k_mem)) (by omega) (by omega) (by simp [strValues, hi]) ?_
      k_steps
      show StepN _ _ _ _ _ _ _
      refine StepN.intro (n' := r - 1) (by k_asm) (by k_asm) (by omega) ⟨hG₁, i + 1, _, tn, rs, ad, c + 1, by omega, ?_, hne, rfl, rfl, rfl, rfl, rfl, rfl⟩
      rw [take_push ps i hi]
    · show wpAny _ _ _ _ _ _
      have hi : i = ps.length := by omega
      subst hi
      refine whileStop ?_
      k_steps
      · exact decide_eq_false (by omega)
      · have N9 := News.isList (a := rs) (by k_asm) (by k_mem)
        refine SC.join (l := ps) (texts := ps.map (·.1)) (by rw [List.take_length] at N9; exact N9) rfl (joinOk_of hsum) ?_
        intro t9 k9
        generalize hTx : Txt.join (PySem.Str.ofString "") (ps.map (·.1)) = Tx at hjl
        k_steps
        refine hret _ _ _ _ _ (by k_asm) (newsSub (by k_asm) (fun p hp => ?_)) ⟨rfl, _, by rw [PySem.Str.empty_append, hTx]⟩ hG₁
        exact .tail _ (.tail _ hp)
      · exfalso; omega
end Mine
end
section
open PySem PySem.W PySem.Calls PyProof.Rows
set_option Elab.async false
set_option maxRecDepth 100000
namespace Mine
def brk (x : Nat) : List Nat := if x = 93 then [91, 93, 221, 93] else [91, x + 128, x, 93]
def patL (xs : List Nat) : List Nat := xs.flatMap brk
def patS (xs : List Nat) : PySem.Str := ⟨(patL xs).toArray⟩
def s1 (x : Nat) : Nat := if x = 93 then 93 else x + 128
def s2 (x : Nat) : Nat := if x = 93 then 221 else x
def esc (x : Nat) : List Nat := if x = 92 ∨ x = 45 ∨ x = 38 ∨ x = 126 ∨ x = 124 then [92, x] else [x]
def pieceL (x : Nat) : List Nat := if x = 93 then [91, 93, 221, 93] else 91 :: (x + 128) :: (esc x ++ [93])
def pieceS (x : Nat) : PySem.Str := ⟨(pieceL x).toArray⟩
theorem brk_eq (x : Nat) : brk x = [91, s1 x, s2 x, 93] := by unfold brk s1 s2; split <;> rfl
theorem patL_cons (x : Nat) (xs : List Nat) : patL (x :: xs) = 91 :: s1 x :: s2 x :: 93 :: patL xs := by
  unfold patL; rw [List.flatMap_cons, brk_eq]; rfl
theorem patL_len (xs : List Nat) : (patL xs).length = 4 * xs.length := by
  induction xs with
  | nil => rfl
  | cons x r ih => rw [patL_cons]; simp only [List.length_cons, ih]; omega
theorem patL_at (xs : List Nat) : ∀ (k : Nat) (hk : k < xs.length), (patL xs)[4 * k]? = some 91 ∧ (patL xs)[4 * k + 1]? = some (s1 xs[k]) ∧ (patL xs)[4 * k + 2]? = some (s2 xs[k]) ∧ (patL xs)[4 * k + 3]? = some 93 := by
  induction xs with
  | nil => intro k hk; cases hk
  | cons x r ih =>
    intro k hk
    rw [patL_cons]
    cases k with
    | zero => exact ⟨rfl, rfl, rfl, rfl⟩
    | succ k =>
      have := ih k (by simpa using hk)
      have e : 4 * (k + 1) = 4 * k + 1 + 1 + 1 + 1 := by omega
      simp only [e, List.getElem?_cons_succ, List.getElem_cons_succ]
      refine ⟨this.1, ?_, ?_, ?_⟩
      · exact this.2.1
      · exact this.2.2.1
      · exact this.2.2.2
end Mine
end
section
open PySem PySem.W PySem.Calls PyProof.Rows PySem.Builtin PySem.Builtin.Str
set_option Elab.async false
set_option maxRecDepth 100000
namespace Mine
def At (x : PySem.Str) (i c : Nat) : Prop := x.cps[i]? = some c
theorem lit_bang : PySem.Str.ofString "!" = ⟨#[33]⟩ := by decide
theorem lit_rb : PySem.Str.ofString "]" = ⟨#[93]⟩ := by decide
theorem lit_lb : PySem.Str.ofString "[" = ⟨#[91]⟩ := by decide
theorem lit_star : PySem.Str.ofString "*" = ⟨#[42]⟩ := by decide
theorem lit_q : PySem.Str.ofString "?" = ⟨#[63]⟩ := by decide
theorem lit_dash : PySem.Str.ofString "-" = ⟨#[45]⟩ := by decide
theorem lit_bs : PySem.Str.ofString "\\" = ⟨#[92]⟩ := by decide
theorem lit_bs2 : PySem.Str.ofString "\\\\" = ⟨#[92, 92]⟩ := by decide
theorem lit_hat : PySem.Str.ofString "^" = ⟨#[94]⟩ := by decide
section
variable {prog : Program} {w : World} {A : Around} {E : Value → Shared → Prop} {s : Shared} {x y z : PySem.Str} {t u v : Tok} {h₀ : Heap} {L : Addr} {m : PySem.Str → Option Value} {news : List (Addr × Obj)} {Q : Value → Shared → Prop}
theorem strAt {value slice : PySem.Expr} {i c : Nat} {k : Int} (h : At x i c) (hk : k = (i : Int)) (hx : x.length ≤ 1000)
    (hq : Q (.str ⟨#[c]⟩ s.toks) { s with toks := s.toks + 1 })
    (hs : subscripted slice false (.str x t) (.int k u) = operate [.str x t, .int k u] (getItem (.str x t) (.int k u)) := by with_unfolding_all rfl)
    (ht : ∀ r, letTemporaryGo value (.str x t) r = pure () := by intro _; with_unfolding_all rfl) :
    wpAny (model prog w) A (subscriptTail value slice (.str x t) (.int k u)) Q E s := by
  unfold At at h
  have hi : i < x.cps.size := (Array.getElem?_eq_some_iff.mp h).1
  have hl : x.length = x.cps.size := rfl
  subst hk
  have e : Txt.item x (i : Int) = ⟨#[c]⟩ := by
    show (⟨#[((seqIndex? (i : Int) x.length).bind (x.cps[·]?)).getD 0]⟩ : PySem.Str) = _
    rw [StrLaws.at_nonneg (n := c) (by omega) (by simpa using h)]
    rfl
  refine item_str (fitsSsize_of (N := 9223372036854775808) (by omega) (by omega) (Int.le_refl _)) (by omega) (by omega) (fun _ => ?_) hs ht
  rw [e]; exact hq
theorem eqNo {c d : Nat} {y : PySem.Str} (hy : y = ⟨#[d]⟩) (h : c ≠ d) (hq : Q (.bool false) s) : wpAny (model prog w) A (compareOp .Eq (.str ⟨#[c]⟩ t) (.str y u)) Q E s := by
  subst hy
  refine P.eq_str ?_
  rw [show ((⟨#[c]⟩ : PySem.Str).cps.toList == (⟨#[d]⟩ : PySem.Str).cps.toList) = false by simp [h]]; exact hq
theorem eqYes {c d : Nat} {y : PySem.Str} (hy : y = ⟨#[d]⟩) (h : c = d) (hq : Q (.bool true) s) : wpAny (model prog w) A (compareOp .Eq (.str ⟨#[c]⟩ t) (.str y u)) Q E s := by
  subst hy h
  refine P.eq_str ?_
  rw [show ((⟨#[c]⟩ : PySem.Str).cps.toList == (⟨#[c]⟩ : PySem.Str).cps.toList) = true by simp]; exact hq
theorem neNo {c d : Nat} {y : PySem.Str} (hy : y = ⟨#[d]⟩) (h : c = d) (hq : Q (.bool false) s) : wpAny (model prog w) A (compareOp .NotEq (.str ⟨#[c]⟩ t) (.str y u)) Q E s := by
  subst hy h
  refine P.ne_str ?_
  rw [show ((⟨#[c]⟩ : PySem.Str).cps.toList != (⟨#[c]⟩ : PySem.Str).cps.toList) = false by simp]; exact hq
theorem neYes {c d : Nat} {y : PySem.Str} (hy : y = ⟨#[d]⟩) (h : c ≠ d) (hq : Q (.bool true) s) : wpAny (model prog w) A (compareOp .NotEq (.str ⟨#[c]⟩ t) (.str y u)) Q E s := by
  subst hy
  refine P.ne_str ?_
  rw [show ((⟨#[c]⟩ : PySem.Str).cps.toList != (⟨#[d]⟩ : PySem.Str).cps.toList) = true by simp [h]]; exact hq
theorem at_lt {i c : Nat} (h : At x i c) : i < x.length := (Array.getElem?_eq_some_iff.mp h).1
theorem at_toList {i c : Nat} (h : At x i c) : x.cps.toList[i]? = some c := by unfold At at h; simpa using h
theorem drop_at {α : Type} {l : List α} {i : Nat} {c : α} (h : l[i]? = some c) : l.drop i = c :: l.drop (i + 1) := by
  obtain ⟨hi, rfl⟩ := List.getElem?_eq_some_iff.mp h
  exact List.drop_eq_getElem_cons hi
theorem slice_at2 {i c d : Nat} {p q : Int} (h1 : At x i c) (h2 : At x (i + 1) d) (hp : p = (i : Int)) (hq : q = (i : Int) + 2) : Txt.slice x (some p) (some q) = ⟨#[c, d]⟩ := by
  have := at_lt h2
  rw [show q = ((i + 2 : Nat) : Int) by omega, hp]
  refine (StrLaws.sliceText_nat x (by omega) (by omega)).trans ?_
  rw [drop_at (at_toList h1), drop_at (at_toList h2), show i + 2 - i = 2 by omega]
  rfl
theorem slice_at1 {i c : Nat} {p q : Int} (h1 : At x i c) (hp : p = (i : Int)) (hq : q = (i : Int) + 1) : Txt.slice x (some p) (some q) = ⟨#[c]⟩ := by
  have := at_lt h1
  rw [show q = ((i + 1 : Nat) : Int) by omega, hp]
  refine (StrLaws.sliceText_nat x (by omega) (by omega)).trans ?_
  rw [drop_at (at_toList h1), show i + 1 - i = 1 by omega]
  rfl
theorem slice_at0 {i : Nat} {p q : Int} (hi : i ≤ x.length) (hp : p = (i : Int)) (hq : q = (i : Int)) : Txt.slice x (some p) (some q) = ⟨#[]⟩ := by
  rw [hp, hq]
  refine (StrLaws.sliceText_nat x (by omega) (by omega)).trans ?_
  rw [Nat.sub_self]
  rfl
theorem args_find4 (a b c d : Value) : argsOk "str.find" ⟨[a, b, c, d], []⟩ := by
  unfold argsOk; kernel_rfl
theorem gives_find4 (x y : PySem.Str) (i j : Int) (t u v v' : Tok) : Gives («str.find» ⟨[.str x t, .str y u, .int i v, .int j v'], []⟩) (.int (match occurrences x y (fromIndex x.length i) (min (fromIndex x.length j) x.length) 1 with | k :: _ => (k : Int) | [] => -1)) := by
  show Gives (match occurrences x y (fromIndex x.length i) (min (fromIndex x.length j) x.length) 1 with | k :: _ => retInt k | [] => (do rule "str.find.not-found"; retInt (-1))) _
  cases occurrences x y (fromIndex x.length i) (min (fromIndex x.length j) x.length) 1 with
  | nil => exact .rule (.of_eq rfl)
  | cons k _ => exact .of_eq rfl
theorem occ_at {d : Nat} {y : PySem.Str} (hy : y = ⟨#[d]⟩) {i : Nat} (h : At x i d) : occurrences x y i (i + 1) 1 = [i] := by
  subst hy
  have hs : subAt x ⟨#[d]⟩ i = true := ((StrLaws.subAt_one x d i).mpr (at_toList h)).2
  rw [StrLaws.occ_eq, show i + 1 + 1 - i = 2 by omega]
  simp [List.range', StrLaws.occBody, PySem.Str.length, hs]
theorem occ_beyond {y : PySem.Str} {i j : Nat} (h : j < i) : occurrences x y i j 1 = [] := by
  rw [StrLaws.occ_eq, show j + 1 - i = 0 by omega]
  rfl
theorem fromIndex_nat (n i : Nat) : fromIndex n (i : Int) = i := by unfold fromIndex; omega
theorem find4At {d i : Nat} {p q : Int} {v v' : Tok} (hy : y = ⟨#[d]⟩) (h : At x i d) (hp : p = (i : Int)) (hq : q = (i : Int) + 1) (hr : Q (.int (i : Int) s.toks) { s with toks := s.toks + 1 }) :
    wpAny (model prog w) A (call (.builtin "str.find") [.str x t, .str y u, .int p v, .int q v']) Q E s := by
  refine call_gives F.slot_str_find (typeIs_str _ _ _) F.entry_str_find (args_find4 _ _ _ _) (gives_find4 x y p q t u v v') ?_
  have := at_lt h
  rw [hp, show q = ((i + 1 : Nat) : Int) by omega, fromIndex_nat, fromIndex_nat, Nat.min_eq_left (by omega), occ_at hy h]
  exact hr
theorem find4No {i j : Nat} {p q : Int} {v v' : Tok} (hj : j ≤ x.length) (hij : j < i) (hp : p = (i : Int)) (hq : q = (j : Int)) (hr : Q (.int (-1) s.toks) { s with toks := s.toks + 1 }) :
    wpAny (model prog w) A (call (.builtin "str.find") [.str x t, .str y u, .int p v, .int q v']) Q E s := by
  refine call_gives F.slot_str_find (typeIs_str _ _ _) F.entry_str_find (args_find4 _ _ _ _) (gives_find4 x y p q t u v v') ?_
  rw [hp, hq, fromIndex_nat, fromIndex_nat, Nat.min_eq_left hj, occ_beyond hij]
  exact hr
theorem notIn2 {a b c : Nat} {y : PySem.Str} (hy : y = ⟨#[c]⟩) (v : Bool) (hv : v = !(decide (c = a ∨ c = b))) (hq : Q (.bool v) s) : wpAny (model prog w) A (compareOp .NotIn (.str y u) (.str ⟨#[a, b]⟩ t)) Q E s := by
  subst hy hv
  refine P.notIn_str ?_
  rw [StrLaws.found_one]
  simpa using hq
theorem notIn2T {a b c : Nat} {y : PySem.Str} (hy : y = ⟨#[c]⟩) (h : ¬ (c = a ∨ c = b)) (hq : Q (.bool true) s) : wpAny (model prog w) A (compareOp .NotIn (.str y u) (.str ⟨#[a, b]⟩ t)) Q E s :=
  notIn2 hy true (by rw [decide_eq_false h]; rfl) hq
theorem notIn2F {a b c : Nat} {y : PySem.Str} (hy : y = ⟨#[c]⟩) (h : c = a ∨ c = b) (hq : Q (.bool false) s) : wpAny (model prog w) A (compareOp .NotIn (.str y u) (.str ⟨#[a, b]⟩ t)) Q E s :=
  notIn2 hy false (by rw [decide_eq_true h]; rfl) hq
theorem gen_pos {M : Model} {X : Nat} {α : Type} {tr : Sem α} {R : α → Shared → Prop} {h : Heap} {g : Array GenState} {d : Drawn} {o : OsState} (k : ∀ tk, 0 < tk → wpAny M A tr R E ⟨h, g, d, tk, o⟩) : wpAny M A tr R E ⟨h, g, d, X + 1, o⟩ := k _ (Nat.succ_pos _)
def dbl (c : Nat) : List Nat := if c = 92 then [92, 92] else [c]
theorem repl_none {d : Nat} (h : d ∉ x.cps.toList) : Txt.replace x ⟨#[d]⟩ z = x := by
  unfold Txt.replace
  rw [occ_nil_of_no, if_pos (by rfl)]
  intro i hi
  cases hs : subAt x ⟨#[d]⟩ i with
  | false => rfl
  | true => exact absurd (List.mem_of_getElem? ((StrLaws.subAt_one x d i).mp ⟨hi, hs⟩)) h
theorem repl_two {c1 c2 : Nat} (h1 : c1 ≠ 92) : Txt.replace ⟨#[c1, c2]⟩ ⟨#[92]⟩ ⟨#[92, 92]⟩ = ⟨(c1 :: dbl c2).toArray⟩ := by
  unfold dbl
  split
  · rename_i h2
    subst h2
    have e : occurrences ⟨#[c1, 92]⟩ ⟨#[92]⟩ 0 2 3 = [1] := by
      have e0 : subAt ⟨#[c1, 92]⟩ ⟨#[92]⟩ 0 = false := by simp [subAt, PySem.Str.length, h1]
      have e1 : subAt ⟨#[c1, 92]⟩ ⟨#[92]⟩ 1 = true := by simp [subAt, PySem.Str.length]
      rw [StrLaws.occ_eq]
      simp [List.range', StrLaws.occBody, PySem.Str.length, e0, e1]
    unfold Txt.replace
    simp only [show (⟨#[c1, 92]⟩ : PySem.Str).length = 2 from rfl, e]
    rfl
  · rename_i h2
    exact repl_none (by simp; exact ⟨fun e => h1 e.symm, fun e => h2 e.symm⟩)
theorem replTwo {c1 c2 : Nat} (h1 : c1 ≠ 92) (hu : @LT.lt Nat _ 0 u) (hv : @LT.lt Nat _ 0 v) (huv : u ≠ v) (hq : ∀ t' k, Q (.str ⟨(c1 :: dbl c2).toArray⟩ t') { s with toks := k }) :
    wpAny (model prog w) A (call (.builtin "str.replace") [.str ⟨#[c1, c2]⟩ t, .str (PySem.Str.ofString "\\") u, .str (PySem.Str.ofString "\\\\") v]) Q E s := by
  refine SC.replace (Nat.ne_of_gt hu) (Nat.ne_of_gt hv) huv (by decide) (by simp [PySem.Str.length, lit_bs2]) ?_
  rw [lit_bs, lit_bs2, repl_two h1]
  exact hq
theorem replLit {x' : PySem.Str} (e : Txt.replace x y z = x') (hyz : (y == z) = false) (hb : x.length + (x.length + 1) * z.length ≤ 16777216) (hu : @LT.lt Nat _ 0 u) (hv : @LT.lt Nat _ 0 v) (huv : u ≠ v) (hq : ∀ t' k, Q (.str x' t') { s with toks := k }) :
    wpAny (model prog w) A (call (.builtin "str.replace") [.str x t, .str y u, .str z v]) Q E s := by
  refine SC.replace (Nat.ne_of_gt hu) (Nat.ne_of_gt hv) huv hyz hb ?_
  rw [e]; exact hq
theorem strTrue {Q : Bool → Shared → Prop} (h : 0 < x.cps.size) (h2 : x.cps.size ≤ 1000) (hq : Q true { s with toks := s.toks + 1 + 1 }) : wpAny (model prog w) A (PySem.truthy (.str x t)) Q E s := by
  have e : x.length = x.cps.size := rfl
  refine SBL.truthy (by omega) ?_
  have : ((x.length : Int) != 0) = true := by simp; omega
  rw [this]; exact hq
theorem addR {r : PySem.Str} (hr : x ++ y = r) (hsz : x.length + y.length ≤ 1000) (hq : ∀ t' k, Q (.str r t') { s with toks := k }) : wpAny (model prog w) A (binaryOp .Add (.str x t) (.str y u)) Q E s := by
  subst hr
  exact SBL.add (fun t' k _ => hq t' k) (by rw [sizeLine_eq]; omega)
theorem eqHead {c d : Nat} {l : List Nat} {y : PySem.Str} (hy : y = ⟨#[d]⟩) (h : c ≠ d) (hq : Q (.bool false) s) : wpAny (model prog w) A (compareOp .Eq (.str ⟨(c :: l).toArray⟩ t) (.str y u)) Q E s := by
  subst hy
  refine P.eq_str ?_
  rw [show ((⟨(c :: l).toArray⟩ : PySem.Str).cps.toList == (⟨#[d]⟩ : PySem.Str).cps.toList) = false by simp [h]]; exact hq
theorem headAt {value slice : PySem.Expr} {c : Nat} {l : List Nat} {k : Int} (hl : l.length ≤ 100) (hk : k = 0) (hq : Q (.str ⟨#[c]⟩ s.toks) { s with toks := s.toks + 1 })
    (hs : subscripted slice false (.str ⟨(c :: l).toArray⟩ t) (.int k u) = operate [.str ⟨(c :: l).toArray⟩ t, .int k u] (getItem (.str ⟨(c :: l).toArray⟩ t) (.int k u)) := by with_unfolding_all rfl)
    (ht : ∀ r, letTemporaryGo value (.str ⟨(c :: l).toArray⟩ t) r = pure () := by intro _; with_unfolding_all rfl) :
    wpAny (model prog w) A (subscriptTail value slice (.str ⟨(c :: l).toArray⟩ t) (.int k u)) Q E s :=
  strAt (i := 0) (by unfold At; simp) (by omega) (by show (c :: l).toArray.size ≤ 1000; simp; omega) hq hs ht
end
end Mine
end
section
open PySem PySem.W PySem.Calls PyProof.Rows PySem.Builtin PySem.Builtin.Re
set_option Elab.async false
set_option maxRecDepth 100000
namespace Mine
theorem plainAttrs_pat : PlainAttrs "re.Pattern" :=
  ⟨⟨"object.__getattribute__", by rw [typeLookup_type, builtinLookup_eq_fast]; kernel_rfl, by decide +kernel⟩, by rw [typeLookup_type, builtinLookup_eq_fast]; kernel_rfl⟩
theorem slot_sub : Slot "re.Pattern" (PySem.Str.ofString "sub") "re.Pattern.sub" :=
  .of (owner := "re.Pattern") (n := "sub") (by rw [typeLookup_type, builtinLookup_eq_fast]; kernel_rfl) (by decide +kernel) (by decide +kernel) (by decide +kernel)
    (by first | exact .inl (by decide +kernel) | exact .inr (by decide +kernel)) (by rw [isSubtype_type]; kernel_rfl)
theorem type_sub : typeOf (.builtin "re.Pattern.sub") = pure (.type "method_descriptor") := by show builtinType _ = _; rw [builtinType_eq_fast]; kernel_rfl
theorem entry_sub : entryFor table "re.Pattern.sub" = some Builtin.«re.Pattern.sub» := entryFor_of_tree (by kernel_rfl)
theorem entry_subLoop : entryFor table "re.Pattern.sub.loop" = some Builtin.«re.Pattern.sub.loop» := entryFor_of_tree (by kernel_rfl)
theorem args_sub (a b c : Value) : argsOk "re.Pattern.sub" ⟨[a, b, c], []⟩ := by unfold argsOk; kernel_rfl
theorem plainAttrs_match : PlainAttrs "re.Match" :=
  ⟨⟨"object.__getattribute__", by rw [typeLookup_type, builtinLookup_eq_fast]; kernel_rfl, by decide +kernel⟩, by rw [typeLookup_type, builtinLookup_eq_fast]; kernel_rfl⟩
theorem slot_group : Slot "re.Match" (PySem.Str.ofString "group") "re.Match.group" :=
  .of (owner := "re.Match") (n := "group") (by rw [typeLookup_type, builtinLookup_eq_fast]; kernel_rfl) (by decide +kernel) (by decide +kernel) (by decide +kernel)
    (by first | exact .inl (by decide +kernel) | exact .inr (by decide +kernel)) (by rw [isSubtype_type]; kernel_rfl)
theorem type_group : typeOf (.builtin "re.Match.group") = pure (.type "method_descriptor") := by show builtinType _ = _; rw [builtinType_eq_fast]; kernel_rfl
theorem entry_group : entryFor table "re.Match.group" = some Builtin.«re.Match.group» := entryFor_of_tree (by kernel_rfl)
theorem args_group (a b : Value) : argsOk "re.Match.group" ⟨[a, b], []⟩ := by unfold argsOk; kernel_rfl

abbrev reCode : Array Nat := #[14, 14, 4, 1, 1, 9, 0, 64, 0, 1342177280, 0, 0, 0, 0, 0, 17, 0, 13, 11, 9, 0, 64, 0, 1342177280, 0, 0, 0, 0, 0, 17, 1, 1]
def isFailed (m : Sre.M) : Bool := match m.outcome with | some .failed => true | _ => false
def isMatched (m : Sre.M) : Bool := match m.outcome with | some .matched => true | _ => false
theorem isFailed_eq {m : Sre.M} (h : isFailed m = true) : m.outcome = some .failed := by
  unfold isFailed at h; split at h <;> first | assumption | cases h
theorem isMatched_eq {m : Sre.M} (h : isMatched m = true) : m.outcome = some .matched := by
  unfold isMatched at h; split at h <;> first | assumption | cases h
def driveP : Nat → Sre.M → Option Sre.M
  | 0, _ => none
  | n + 1, m => if (m.runFor 4).outcome.isSome then some (m.runFor 4) else driveP n (m.runFor 4)
section
variable {M : Model} {A : Around} {E : Value → Shared → Prop} {s : Shared}
theorem wp_drive {Q : Sre.M → Shared → Prop} {m' : Sre.M} : ∀ (n k : Nat) (m : Sre.M), driveP n m = some m' → Q m' s → wpAny M A (reDrive (k + n) m) Q E s
  | 0, _, _, h, _ => by cases h
  | n + 1, k, m, h, hq => by
    unfold driveP at h
    show wpAny M A (if ((m.runFor reTurnSteps).outcome.isSome) = true then pure (m.runFor reTurnSteps) else (do rule "sre.turn"; reDrive (k + n) (m.runFor reTurnSteps))) Q E s
    unfold reTurnSteps
    split at h
    · rename_i hs
      rw [if_pos hs]
      cases h
      exact wpAny_pure hq
    · rename_i hs
      rw [if_neg hs]
      exact wpAny_bind (wpAny_rule (wp_drive n k _ h hq))
theorem wp_rules {m : Sre.M} {Q : PUnit → Shared → Prop} : ∀ (l : List Nat), Q ⟨⟩ s → wpAny M A (forIn l PUnit.unit fun i _ => if m.seen.has i = true then (do rule (Sre.names.getD i ""); pure (.yield PUnit.unit)) else pure (.yield PUnit.unit)) Q E s
  | [], h => by rw [List.forIn_nil]; exact wpAny_pure h
  | x :: l, h => by
    rw [List.forIn_cons]
    refine wpAny_bind ?_
    split
    · exact wpAny_bind (wpAny_rule (wpAny_pure (wp_rules l h)))
    · exact wpAny_pure (wp_rules l h)
theorem wp_run {Q : Option Sre.M → Shared → Prop} {m m' : Sre.M} (h : driveP 20 m = some m') (hq : (m'.outcome = some .matched ∧ Q (some m') s) ∨ (m'.outcome = some .failed ∧ Q none s)) : wpAny M A (reRunToEnd m) Q E s := by
  unfold reRunToEnd
  rw [show (2 : Nat) ^ 64 = 18446744073709551596 + 20 by decide]
  refine wpAny_bind (wp_drive 20 _ m h ?_)
  refine wpAny_bind (wp_rules _ ?_)
  rcases hq with ⟨e, hq⟩ | ⟨e, hq⟩ <;> rw [e] <;> exact wpAny_pure hq
end
def runOf (T : Array Nat) (st : Nat) (must : Bool) : Option Sre.M := driveP 20 (Sre.forSearch reCode T 1 st T.size must)
def fails (T : Array Nat) (st : Nat) (must : Bool) : Bool := match runOf T st must with | some m => isFailed m | none => false
def matches1 (T : Array Nat) : Bool := match runOf T 0 false with
  | some m => isMatched m && m.start == 1 && m.handed == 2 && m.lastmark == 1 && m.lastindex == 1 && m.marks == #[some 1, some 2]
  | none => false
theorem fails_of {T : Array Nat} {st : Nat} {must : Bool} (h : fails T st must = true) : ∃ m, driveP 20 (Sre.forSearch reCode T 1 st T.size must) = some m ∧ m.outcome = some .failed := by
  unfold fails runOf at h
  split at h
  · rename_i m e; exact ⟨m, e, isFailed_eq h⟩
  · cases h
theorem matches_of {T : Array Nat} (h : matches1 T = true) : ∃ m, driveP 20 (Sre.forSearch reCode T 1 0 T.size false) = some m ∧ m.outcome = some .matched ∧ m.start = 1 ∧ m.handed = 2 ∧ m.lastmark = 1 ∧ m.lastindex = 1 ∧ m.marks = #[some 1, some 2] := by
  unfold matches1 runOf at h
  split at h
  · rename_i m e
    simp only [Bool.and_eq_true, beq_iff_eq] at h
    obtain ⟨⟨⟨⟨⟨h1, h2⟩, h3⟩, h4⟩, h5⟩, h6⟩ := h
    exact ⟨m, e, isMatched_eq h1, h2, h3, h4, h5, h6⟩
  · cases h
def amp (c : Nat) : Bool := c == 38 || c == 124 || c == 126
theorem fails_all : (List.range 128).all (fun x => amp x || (fails ((x + 128) :: dbl x).toArray 0 false)) = true := by decide +kernel
theorem fails_rb : fails #[93, 221] 0 false = true := by decide +kernel
theorem fails_dash : fails #[173, 92, 45] 0 false = true := by decide +kernel
theorem match_all : [38, 124, 126].all (fun x => matches1 #[x + 128, x] && fails #[x + 128, x] 2 false) = true := by decide +kernel
end Mine
end
section
open PySem PySem.W PySem.Calls PyProof.Rows PySem.Builtin PySem.Builtin.Re
set_option Elab.async false
set_option maxRecDepth 100000
set_option maxHeartbeats 1000000
namespace Mine
abbrev patObj (a b : Tok) : Obj := { cls := .type "re.Pattern", data := .fields #[.str (PySem.Str.ofString "([&~|])") a, .int 32 b, .int 1 0, .none, .none, .ref 42, .int 0 0] }
abbrev codeTup : Obj := { cls := .type "tuple", data := .seq #[.int 14 0, .int 14 0, .int 4 0, .int 1 0, .int 1 0, .int 9 0, .int 0 0, .int 64 0, .int 0 0, .int 1342177280 0, .int 0 0, .int 0 0, .int 0 0, .int 0 0, .int 0 0, .int 17 0, .int 0 0, .int 13 0, .int 11 0, .int 9 0, .int 0 0, .int 64 0, .int 0 0, .int 1342177280 0, .int 0 0, .int 0 0, .int 0 0, .int 0 0, .int 0 0, .int 17 0, .int 1 0, .int 1 0] }
theorem sub_str_ba : isSubtype (.type "str") (.type "bytearray") = pure false := by rw [isSubtype_type]; kernel_rfl
theorem look_fn_call : typeLookup (.type "function") (PySem.Str.ofString "__call__") = pure (some (.builtin "function.__call__")) := by rw [typeLookup_type, builtinLookup_eq_fast]; kernel_rfl
theorem pat43 (P : Params) : (Mine.heapK P).lookup 43 = some (patObj 296 331) := by
  show List.lookup _ _ = _
  unfold Mine.heapK
  rfl
theorem code42 (P : Params) : (Mine.heapK P).lookup 42 = some codeTup := by
  show List.lookup _ _ = _
  unfold Mine.heapK
  rfl
section
variable {prog : Program} {w : World} {A : Around} {E : Value → Shared → Prop} {hp : Heap} {g : Array GenState} {d : Drawn} {tk : Nat} {os : OsState} {h₀ : Heap} {L : Addr} {m : PySem.Str → Option Value} {news : List (Addr × Obj)} {Q : Value → Shared → Prop}
abbrev tgt (T : PySem.Str) (t : Tok) : ReTarget := { pattern := .ref 43, string := .str T t, code := reCode, text := T.cps, kind := 0, groups := 1, pos := 0, lim := T.cps.size }
theorem whole_tgt {M : Model} {a b : Tok} {T : PySem.Str} {t : Tok} {Q : ReTarget → Shared → Prop} (h43 : hp.get? 43 = some (patObj a b)) (h42 : hp.get? 42 = some codeTup) (hq : Q (tgt T t) ⟨hp, g, d, tk, os⟩) :
    wpAny M A (reWholeTarget (.ref 43) (.str T t)) Q E ⟨hp, g, d, tk, os⟩ := by
  repeat (any_goals (first | assumption | wp_step))
  have e : Array.map (fun x => x.toNat) (Array.map reRawOf ((some #[Value.int 14 0, .int 14 0, .int 4 0, .int 1 0, .int 1 0, .int 9 0, .int 0 0, .int 64 0, .int 0 0, .int 1342177280 0, .int 0 0, .int 0 0, .int 0 0, .int 0 0, .int 0 0, .int 17 0, .int 0 0, .int 13 0, .int 11 0, .int 9 0, .int 0 0, .int 64 0, .int 0 0, .int 1342177280 0, .int 0 0, .int 0 0, .int 0 0, .int 0 0, .int 0 0, .int 17 0, .int 1 0, .int 1 0]).getD #[])) = reCode := by decide +kernel
  rw [e]
  exact hq
theorem wp_nextFail {M : Model} {T : PySem.Str} {t : Tok} {st : Nat} {must : Bool} {s : Shared} {Q : Option Sre.M → Shared → Prop} (h : fails T.cps st must = true) (hq : Q none s) : wpAny M A (reNextFound (tgt T t) st must) Q E s := by
  obtain ⟨m', hm', ho'⟩ := fails_of h
  exact wp_run hm' (.inr ⟨ho', hq⟩)
theorem wp_nextMatch {M : Model} {T : PySem.Str} {t : Tok} {s : Shared} {Q : Option Sre.M → Shared → Prop} (h : matches1 T.cps = true)
    (hq : ∀ m : Sre.M, m.start = 1 → m.handed = 2 → m.lastmark = 1 → m.lastindex = 1 → m.marks = #[some 1, some 2] → Q (some m) s) : wpAny M A (reNextFound (tgt T t) 0 false) Q E s := by
  obtain ⟨m', hm', ho', h1, h2, h3, h4, h5⟩ := matches_of h
  exact wp_run hm' (.inl ⟨ho', hq _ h1 h2 h3 h4 h5⟩)
theorem strValues_snoc (ps : List (PySem.Str × Tok)) (X : PySem.Str) (k : Tok) : (strValues ps).toArray.push (.str X k) = (strValues (ps ++ [(X, k)])).toArray := by
  unfold strValues
  rw [List.map_append, List.map_cons, List.map_nil]
  exact List.push_toArray ..
theorem wp_piece {M : Model} {s : Shared} {l : Addr} {ps : List (PySem.Str × Tok)} {n : Nat} {X : PySem.Str} {k : Tok} {Q : Unit → Shared → Prop} (F : Fr h₀ L s.heap m) (N : News h₀ L s.heap ((l, PySem.W.listOf (strValues ps).toArray n) :: news)) (hne : ∀ p ∈ news, p.1 ≠ l) (hsz : ps.length ≤ 100)
    (h : ∀ h', Fr h₀ L h' m → News h₀ L h' ((l, PySem.W.listOf (strValues (ps ++ [(X, k)])).toArray (n + 1)) :: news) → Q () { s with heap := h' }) : wpAny M A (updateSeq l (·.push (.str X k))) Q E s := by
  have z := N (l, PySem.W.listOf (strValues ps).toArray n) (.head _)
  have hz : (strValues ps).toArray.size ≤ sizeLine := by simp [strValues, sizeLine_eq]; omega
  refine wpAny_updateSeq z.1 rfl ?_ hz (by simp [strValues, sizeLine_eq]; omega)
  have hs : Heap.SameBut l s.heap (s.heap.update l (Obj.mapSeq fun x_1 => x_1.push (.str X k))) := Heap.SameBut.update ..
  refine h _ (F.change hs z.2.1 z.2.2) (news_set (pre := []) N (fun p hp => by cases hp) hne hs ?_)
  rw [Heap.get?_update_self _ z.1 (by rw [mapSeq_push]; rfl), mapSeq_push, strValues_snoc]
theorem wp_slice {M : Model} {T : Array Nat} {b e : Nat} {s : Shared} {Q : Value → Shared → Prop} (hT : T.size ≤ 100) (h : Q (.str ⟨T.extract b e⟩ s.toks) { s with toks := s.toks + 1 }) : wpAny M A (reSlice T 0 b e) Q E s := by
  have : (⟨T.extract b e⟩ : PySem.Str).length ≤ sizeLine := by
    show (T.extract b e).size ≤ _
    rw [sizeLine_eq, Array.size_extract]; omega
  exact wpAny_mkStr h this
theorem wp_join {T : PySem.Str} {t u : Tok} {l : Addr} {ps : List (PySem.Str × Tok)} {n : Nat} {s : Shared} {X : PySem.Str} (N : News h₀ L s.heap ((l, PySem.W.listOf (strValues ps).toArray n) :: news)) (hok : JoinOk ⟨T.cps.extract 0 0⟩ (ps.map (·.1)) = true) (hX : Txt.join ⟨T.cps.extract 0 0⟩ (ps.map (·.1)) = X)
    (hq : ∀ t' k, Q (.str X t') { s with toks := k }) :
    wpAny (model prog w) A (call (.builtin (if ((tgt T t).kind == 0) = true then "str.join" else "bytes.join")) [.str ⟨(tgt T t).text.extract 0 0⟩ u, .ref l]) Q E s := by
  subst hX
  exact SC.join (x := ⟨T.cps.extract 0 0⟩) (News.isList N (.head _)) rfl hok hq
theorem extract0 (T : PySem.Str) : T.cps.extract 0 0 = #[] := by simp
theorem join_one {T : PySem.Str} {x : PySem.Str} {l : List PySem.Str} (hl : l = [x]) (hx : x = T) (z : PySem.Str) : Txt.join z l = T := by subst hl hx; rfl
theorem subLoop_fail {a b : Tok} {T : PySem.Str} {t : Tok} {lam l : Addr} {c : Nat} {s : Shared} {R : Result → Shared → Prop} (hf : fails T.cps 0 false = true) (h0 : 0 < T.cps.size) (h1 : T.cps.size ≤ 100) (h43 : s.heap.get? 43 = some (patObj a b)) (h42 : s.heap.get? 42 = some codeTup)
    (F : Fr h₀ L s.heap m) (N : News h₀ L s.heap ((l, PySem.W.listOf (strValues []).toArray c) :: news)) (hl : ∀ p ∈ news, p.1 ≠ l) (hq : ∀ t' h' k, Fr h₀ L h' m → News h₀ L h' news → R (.ok (.ret (.str T t'))) ⟨h', s.gens, s.drawn, k, s.os⟩) :
    codeAny (model prog w) A (.builtin "re.Pattern.sub.loop" ⟨[.ref 43, .str T t, .ref lam, rawInt 1, rawInt 0, rawInt 0, rawInt 0, rawInt 0, .bool false, .ref l, .bool false], []⟩) R s := by
  obtain ⟨hp, g, d, tk, os⟩ := s
  refine codeAny_builtin entry_subLoop ?_
  have f2 : Int.toNat 0 < (tgt T t).lim := h0
  repeat (any_goals (first | assumption | (with_reducible refine whole_tgt h43 h42 ?_) | (refine wp_nextFail (st := 0) hf ?_) | (with_reducible refine wp_slice h1 ?_) | (refine wp_piece F N hl (Nat.zero_le _) ?_; intro h' F' N'; have hl1 := (N' (l, _) (.head _)).1) | (refine wp_join (X := T) N' ?hok ?hX ?hq') | wp_step))
  case hok => exact joinOk_of_weight (by show (T.cps.extract 0 T.cps.size).size + 0 + 1 ≤ _; simp; omega) (by show (T.cps.extract 0 0).size ≤ 16; simp)
  case hX => exact join_one rfl (by show (⟨T.cps.extract 0 T.cps.size⟩ : PySem.Str) = T; simp) _
  case hq' =>
    intro t' k
    repeat (any_goals (first | assumption | wp_step))
    exact hq t' _ _ F' (newsSub N' fun p hp => .tail _ hp)
abbrev matTup : Obj := { cls := .type "tuple", data := .seq #[.int 1 0, .int 2 0, .int 1 0, .int 2 0] }
abbrev matObj (T : PySem.Str) (t : Tok) (tup : Addr) : Obj := { cls := .type "re.Match", data := .fields #[.str T t, .ref 43, .int 0 0, .int 2 0, .int 1 0, .ref tup] }
theorem wp_newMatch {M : Model} {T : PySem.Str} {t : Tok} {s : Shared} {Q : Value → Shared → Prop} {x : Sre.M} (h1 : x.start = 1) (h2 : x.handed = 2) (h3 : x.lastmark = 1) (h4 : x.lastindex = 1) (h5 : x.marks = #[some 1, some 2])
    (F : Fr h₀ L s.heap m) (N : News h₀ L s.heap news) (hq : ∀ fnd tup h', Fr h₀ L h' m → News h₀ L h' ((fnd, matObj T t tup) :: (tup, matTup) :: news) → (∀ p ∈ news, p.1 < tup) → tup < fnd → Q (.ref fnd) { s with heap := h' }) :
    wpAny M A (reNewMatch (.ref 43) (.str T t) 1 0 2 x) Q E s := by
  obtain ⟨hp, g, d, tk, os⟩ := s
  unfold reNewMatch
  simp only [h1, h2, h3, h4, h5, show List.range 1 = [0] from rfl, List.flatMap_cons, List.flatMap_nil, List.any_cons, List.any_nil]
  have N1 := N.push F matTup
  have F1 := F.push matTup
  have N2 := N1.push F1 (matObj T t hp.objs.size)
  have F2 := F1.push (matObj T t hp.objs.size)
  have := hq _ _ _ F2 N2 (fun p hp => Heap.lt_size (N p hp).1) (by show hp.objs.size < (hp.push matTup).objs.size; rw [Heap.size_push]; omega)
  repeat (any_goals (first | assumption | wp_step))
abbrev lpArgs (T : PySem.Str) (t : Tok) (lam l : Addr) (n dn st : Int) (b : Bool) : Args := ⟨[.ref 43, .str T t, .ref lam, rawInt 1, rawInt 0, rawInt n, rawInt dn, rawInt st, .bool b, .ref l, .bool false], []⟩
theorem join_two {x y T : PySem.Str} {l : List PySem.Str} (hl : l = [x, y]) {z : PySem.Str} (hz : z = ⟨#[]⟩) (hx : (⟨x.cps ++ #[] ++ y.cps⟩ : PySem.Str) = T) : Txt.join z l = T := by subst hl hx hz; rfl
theorem subLoop_end2 {a b : Tok} {x y : Nat} {t k1 k2 : Tok} {lam l : Addr} {c : Nat} {s : Shared} {R : Result → Shared → Prop} (hf : fails #[x, y] 2 false = true) (h43 : s.heap.get? 43 = some (patObj a b)) (h42 : s.heap.get? 42 = some codeTup)
    (F : Fr h₀ L s.heap m) (N : News h₀ L s.heap ((l, PySem.W.listOf (strValues [(⟨#[x]⟩, k1), (⟨#[92, y]⟩, k2)]).toArray c) :: news)) (hq : ∀ t' h' k, Fr h₀ L h' m → News h₀ L h' news → R (.ok (.ret (.str ⟨#[x, 92, y]⟩ t'))) ⟨h', s.gens, s.drawn, k, s.os⟩) :
    codeAny (model prog w) A (.builtin "re.Pattern.sub.loop" (lpArgs ⟨#[x, y]⟩ t lam l 1 2 2 false)) R s := by
  obtain ⟨hp, g, d, tk, os⟩ := s
  refine codeAny_builtin entry_subLoop ?_
  have f2 : ¬ Int.toNat 2 < (tgt ⟨#[x, y]⟩ t).lim := by show ¬ (2 < 2); omega
  have hl1 := (N (l, _) (.head _)).1
  repeat (any_goals (first | assumption | (with_reducible refine whole_tgt h43 h42 ?_) | (refine wp_nextFail (st := 2) hf ?_) | (with_reducible refine wp_slice (Nat.le_of_ble_eq_true rfl) ?_) | (refine wp_join (X := ⟨#[x, 92, y]⟩) N ?hok ?hX ?hq') | wp_step))
  case hX => exact join_two rfl rfl rfl
  case hq' =>
    intro t' k
    repeat (any_goals (first | assumption | wp_step))
    exact hq t' _ _ F (newsSub N fun p hp => .tail _ hp)
theorem subLoop_match {a b : Tok} {x y : Nat} {t : Tok} {lam l : Addr} {c : Nat} {s : Shared} {R : Result → Shared → Prop} (hm : matches1 #[x, y] = true) (hf : fails #[x, y] 2 false = true) (h43 : h₀.get? 43 = some (patObj a b)) (h42 : h₀.get? 42 = some codeTup)
    (F : Fr h₀ L s.heap m) (N : News h₀ L s.heap ((l, PySem.W.listOf (strValues []).toArray c) :: news)) (hl : ∀ p ∈ news, p.1 ≠ l)
    (hcall : ∀ (fnd tup : Addr) (its : Array Value) (n : Nat) (h' : Heap) (k : Nat) (Q' E' : Value → Shared → Prop), Fr h₀ L h' m → News h₀ L h' ((fnd, matObj ⟨#[x, y]⟩ t tup) :: (tup, matTup) :: (l, PySem.W.listOf its n) :: news) →
      (∀ t'' h'' k', Fr h₀ L h'' m → News h₀ L h'' ((fnd, matObj ⟨#[x, y]⟩ t tup) :: (tup, matTup) :: (l, PySem.W.listOf its n) :: news) → Q' (.str ⟨#[92, y]⟩ t'') ⟨h'', s.gens, s.drawn, k', s.os⟩) →
      wpAny (model prog w) A.in1 (call (.ref lam) [.ref fnd]) Q' E' ⟨h', s.gens, s.drawn, k, s.os⟩)
    (hq : ∀ t' h' k, Fr h₀ L h' m → News h₀ L h' news → R (.ok (.ret (.str ⟨#[x, 92, y]⟩ t'))) ⟨h', s.gens, s.drawn, k, s.os⟩) :
    codeAny (model prog w) A (.builtin "re.Pattern.sub.loop" (lpArgs ⟨#[x, y]⟩ t lam l 0 0 0 false)) R s := by
  obtain ⟨hp, g, d, tk, os⟩ := s
  refine codeAny_builtin entry_subLoop ?_
  rw [Around.under_plainId (by decide +kernel)]
  have g43 := F.keep _ _ h43
  have g42 := F.keep _ _ h42
  repeat (first | (with_reducible refine whole_tgt g43 g42 ?_) | (refine wp_nextMatch hm ?_) | wp_step)
  intro mm h1 h2 h3 h4 h5
  simp only [h1, h2]
  have f2 : Int.toNat 0 < 1 := by decide
  repeat (first | (with_reducible refine wp_slice (Nat.le_of_ble_eq_true rfl) ?_) | (refine wp_piece F N hl (Nat.zero_le _) ?_; intro h' F' N'; have hl1 := (N' (l, _) (.head _)).1) | (refine wp_newMatch (x := mm) h1 h2 h3 h4 h5 F' N' ?_; intro fnd tup h2' F2 N2 l1 l2) | (refine hcall _ _ _ _ _ _ _ _ F2 N2 ?_; intro t3 h3' k3 F3 N3; have N4 := newsSub (news' := (l, _) :: news) N3 (fun p hp => .tail _ (.tail _ hp))) | (refine wp_piece F3 N4 hl (Nat.le_of_ble_eq_true rfl) ?_; intro h5' F5 N5) | wp_step)
  exact ⟨Code.quiet_builtin _ (by decide +kernel), subLoop_end2 (R := R) (A := A) hf (F5.keep _ _ h43) (F5.keep _ _ h42) F5 N5 hq⟩
theorem sub_to_loop {a b : Tok} {T : PySem.Str} {t : Tok} {lam : Addr} {lo : Obj} (k43 : h₀.get? 43 = some (patObj a b)) (k42 : h₀.get? 42 = some codeTup) (hlam : hp.get? lam = some lo) (hlc : lo.cls = .type "function")
    (F : Fr h₀ L hp m) (N : News h₀ L hp news)
    (h : ∀ l h', Fr h₀ L h' m → News h₀ L h' ((l, PySem.W.listOf (strValues []).toArray 0) :: news) → (∀ p ∈ news, p.1 ≠ l) →
      codeAny (model prog w) A (.builtin "re.Pattern.sub.loop" (lpArgs T t lam l 0 0 0 false)) (fun r s' => match r with | .ok (.ret v) => Q v s' | .ok _ => False | .error e => E e s') ⟨h', g, d, tk, os⟩) :
    wpAny (model prog w) A (call (.builtin "re.Pattern.sub") [.ref 43, .ref lam, .str T t]) Q E ⟨hp, g, d, tk, os⟩ := by
  have h43 := F.keep _ _ k43
  have h42 := F.keep _ _ k42
  have hT : (⟨hp, g, d, tk, os⟩ : Shared).TypeIs (.ref 43) "re.Pattern" := ⟨_, h43, rfl⟩
  have hTl : (⟨hp, g, d, tk, os⟩ : Shared).TypeIs (.ref lam) "function" := ⟨_, hlam, hlc⟩
  have hcv := look_fn_call
  have f1 := sub_str_ba
  have hTs : (⟨hp, g, d, tk, os⟩ : Shared).TypeIs (.str T t) "str" := typeIs_str _ _ _
  refine wpAny_call (codeAny_call_builtin slot_sub.plain entry_sub (slot_sub.check _ _ _ _ _ _ _ _ hT (args_sub _ _ _) ?_))
  unfold Builtin.«re.Pattern.sub» reSubstitute
  repeat (any_goals (first | assumption | (with_reducible refine whole_tgt h43 h42 ?_) | (with_reducible refine newList_K (vs := []) (news := news) F N ?_; intro l h' F' N' l1) | wp_step))
  exact ⟨Code.quiet_builtin _ (by decide +kernel), h l h' F' N' (fun p hp => Nat.ne_of_lt (l1 p hp))⟩
theorem sub_fail {a b : Tok} {T : PySem.Str} {t : Tok} {lam : Addr} {lo : Obj} (hf : fails T.cps 0 false = true) (h0 : 0 < T.cps.size) (h1 : T.cps.size ≤ 100) (k43 : h₀.get? 43 = some (patObj a b)) (k42 : h₀.get? 42 = some codeTup) (hlam : hp.get? lam = some lo) (hlc : lo.cls = .type "function")
    (F : Fr h₀ L hp m) (N : News h₀ L hp news) (hq : ∀ t' h' k, Fr h₀ L h' m → News h₀ L h' news → Q (.str T t') ⟨h', g, d, k, os⟩) :
    wpAny (model prog w) A (call (.builtin "re.Pattern.sub") [.ref 43, .ref lam, .str T t]) Q E ⟨hp, g, d, tk, os⟩ :=
  sub_to_loop k43 k42 hlam hlc F N fun l h' F' N' hl => subLoop_fail hf h0 h1 (F'.keep _ _ k43) (F'.keep _ _ k42) F' N' hl hq
theorem sub_amp {a b : Tok} {x y : Nat} {t : Tok} {lam : Addr} {lo : Obj} (hm : matches1 #[x, y] = true) (hf : fails #[x, y] 2 false = true) (k43 : h₀.get? 43 = some (patObj a b)) (k42 : h₀.get? 42 = some codeTup) (hlam : hp.get? lam = some lo) (hlc : lo.cls = .type "function")
    (F : Fr h₀ L hp m) (N : News h₀ L hp news)
    (hcall : ∀ (fnd tup l : Addr) (its : Array Value) (n : Nat) (h' : Heap) (k : Nat) (Q' E' : Value → Shared → Prop), Fr h₀ L h' m → News h₀ L h' ((fnd, matObj ⟨#[x, y]⟩ t tup) :: (tup, matTup) :: (l, PySem.W.listOf its n) :: news) →
      (∀ t'' h'' k', Fr h₀ L h'' m → News h₀ L h'' ((fnd, matObj ⟨#[x, y]⟩ t tup) :: (tup, matTup) :: (l, PySem.W.listOf its n) :: news) → Q' (.str ⟨#[92, y]⟩ t'') ⟨h'', g, d, k', os⟩) →
      wpAny (model prog w) A.in1 (call (.ref lam) [.ref fnd]) Q' E' ⟨h', g, d, k, os⟩)
    (hq : ∀ t' h' k, Fr h₀ L h' m → News h₀ L h' news → Q (.str ⟨#[x, 92, y]⟩ t') ⟨h', g, d, k, os⟩) :
    wpAny (model prog w) A (call (.builtin "re.Pattern.sub") [.ref 43, .ref lam, .str ⟨#[x, y]⟩ t]) Q E ⟨hp, g, d, tk, os⟩ :=
  sub_to_loop k43 k42 hlam hlc F N fun l h' F' N' hl => subLoop_match hm hf k43 k42 F' N' hl (fun fnd tup => hcall fnd tup l) hq
theorem getMethod_sub {M : Model} {pl : Sem Bool} {Q : Value × List Value → Shared → Prop} {a b : Tok} {s : Shared} (k43 : h₀.get? 43 = some (patObj a b)) (F : Fr h₀ L s.heap m) (h : Q (.builtin "re.Pattern.sub", [.ref 43]) s) : wpAny M A (getMethod (.ref 43) (PySem.Str.ofString "sub") pl) Q E s :=
  getMethod_builtin ⟨_, F.keep _ _ k43, rfl⟩ plainAttrs_pat slot_sub type_sub (fun a e => by cases e; exact ⟨_, F.keep _ _ k43, rfl⟩) h
theorem getMethod_group {M : Model} {pl : Sem Bool} {Q : Value × List Value → Shared → Prop} {T : PySem.Str} {t : Tok} {fnd tup : Addr} {s : Shared} (N : News h₀ L s.heap news) (hm : (fnd, matObj T t tup) ∈ news) (h : Q (.builtin "re.Match.group", [.ref fnd]) s) : wpAny M A (getMethod (.ref fnd) (PySem.Str.ofString "group") pl) Q E s :=
  getMethod_builtin ⟨_, (N _ hm).1, rfl⟩ plainAttrs_match slot_group type_group (fun a e => by cases e; exact ⟨_, (N _ hm).1, rfl⟩) h
end
end Mine
end
section
open PySem PySem.W PySem.Calls PyProof.Rows PySem.Builtin PySem.Builtin.Re
set_option Elab.async false
set_option maxRecDepth 100000
set_option maxHeartbeats 1000000
namespace Mine
theorem ite_no {M : Model} {A : Around} {E : Value → Shared → Prop} {s : Shared} {α : Type} {c : Bool} {a b : Sem α} {Q : α → Shared → Prop} (h : c = false) (k : wpAny M A b Q E s) : wpAny M A (if c = true then a else b) Q E s := by subst h; exact k
section
variable {prog : Program} {w : World} {A : Around} {E : Value → Shared → Prop} {hp : Heap} {g : Array GenState} {d : Drawn} {tk : Nat} {os : OsState} {h₀ : Heap} {L : Addr} {m : PySem.Str → Option Value} {news : List (Addr × Obj)} {Q : Value → Shared → Prop}
theorem call_group {T : PySem.Str} {t u : Tok} {fnd tup : Addr} (h1 : T.cps.size ≤ 100) (N : News h₀ L hp news) (hm : (fnd, matObj T t tup) ∈ news) (hm2 : (tup, matTup) ∈ news) (hq : Q (.str ⟨T.cps.extract 1 2⟩ tk) ⟨hp, g, d, tk + 1, os⟩) :
    wpAny (model prog w) A (call (.builtin "re.Match.group") [.ref fnd, .int 1 u]) Q E ⟨hp, g, d, tk, os⟩ := by
  have hT : (⟨hp, g, d, tk, os⟩ : Shared).TypeIs (.ref fnd) "re.Match" := ⟨_, (N _ hm).1, rfl⟩
  refine wpAny_call (codeAny_call_builtin slot_group.plain entry_group (slot_group.check _ _ _ _ _ _ _ _ hT (args_group _ _) ?_))
  have g1 := (N _ hm).1
  have g2 := (N _ hm2).1
  repeat (any_goals (first | assumption | (with_reducible refine wp_slice h1 ?_) | wp_step))
  have e : Array.map reRawOf ((some #[Value.int 1 0, Value.int 2 0, Value.int 1 0, Value.int 2 0]).getD #[]) = #[1, 2, 1, 2] := by decide +kernel
  rw [e]
  refine ite_no (by rfl) ?_
  repeat (any_goals (first | assumption | (refine wp_slice h1 ?_) | wp_step))
theorem call_group2 {x y : Nat} {t u : Tok} {fnd tup : Addr} (N : News h₀ L hp news) (hm : (fnd, matObj ⟨#[x, y]⟩ t tup) ∈ news) (hm2 : (tup, matTup) ∈ news) (hq : Q (.str ⟨#[y]⟩ tk) ⟨hp, g, d, tk + 1, os⟩) :
    wpAny (model prog w) A (call (.builtin "re.Match.group") [.ref fnd, .int 1 u]) Q E ⟨hp, g, d, tk, os⟩ :=
  call_group (T := ⟨#[x, y]⟩) (Nat.le_of_ble_eq_true rfl) N hm hm2 (by
    have e : (#[x, y] : Array Nat).extract 1 2 = #[y] := by simp
    show Q (.str ⟨(#[x, y] : Array Nat).extract 1 2⟩ tk) _
    rw [e]; exact hq)
end
theorem k43_of {P : Params} {h : Heap} (X : (Mine.heapK P).In h) : h.get? 43 = some (patObj 296 331) := X _ _ (pat43 P)
theorem k42_of {P : Params} {h : Heap} (X : (Mine.heapK P).In h) : h.get? 42 = some codeTup := X _ _ (code42 P)
end Mine
end
section
open PySem PySem.W PySem.Calls PyProof.Rows
set_option Elab.async false
set_option maxRecDepth 100000
set_option maxHeartbeats 1000000
namespace Mine
abbrev lamPos : Pos := { line := 72, col := 39, endLine := 72, endCol := 76 }
abbrev lamQual : PySem.Str := PySem.Str.ofString "_translate" ++ PySem.Str.ofString ".<locals>." ++ PySem.Str.ofString "<lambda>"
structure TabOk (tab : Array Value) (rest : List (Addr × Obj)) : Prop where
  triples : TriplesOk tab.toList
  lam : codeAmong lamPos tab.toList = none ∨ ∃ c' oc vs t, codeAmong lamPos tab.toList = some (.ref c') ∧ (c', oc) ∈ rest ∧ oc.data = .fields vs ∧ vs[1]? = some (.str lamQual t)
  apart : ∀ p ∈ rest, p.1 ≠ 64
theorem TabOk.mono {tab : Array Value} {rest rest' : List (Addr × Obj)} (T : TabOk tab rest) (h : ∀ p ∈ rest, p ∈ rest') (ha : ∀ p ∈ rest', p.1 ≠ 64) : TabOk tab rest' :=
  ⟨T.triples, T.lam.imp id fun ⟨c', oc, vs, t, a, b, c, d⟩ => ⟨c', oc, vs, t, a, h _ b, c, d⟩, ha⟩
theorem codeAmong_other {pos : Pos} {a b : Int} {c : Value} (l : List Value) (h : TriplesOk l) (hn : (a == pos.line && b == pos.col) = false) :
    codeAmong pos (l ++ [rawInt a, rawInt b, c]) = codeAmong pos l := by
  fun_induction TriplesOk l with
  | case1 => simp [codeAmong, rawInt, hn]
  | case2 a' t b' u x rest ih =>
    simp only [List.cons_append, codeAmong]
    split
    · rfl
    · exact ih h
  | case3 l h1 h2 => exact h.elim
theorem codeAmong_same {pos : Pos} {a b : Int} {c v : Value} (l : List Value) (h : TriplesOk l) (hn : codeAmong pos l = some v) :
    codeAmong pos (l ++ [rawInt a, rawInt b, c]) = some v := by
  fun_induction TriplesOk l with
  | case1 => cases hn
  | case2 a' t b' u x rest ih =>
    simp only [List.cons_append, codeAmong] at hn ⊢
    split at hn
    · rename_i hc; rw [if_pos hc]; exact hn
    · rename_i hc; rw [if_neg hc]; exact ih h hn
  | case3 l h1 h2 => exact h.elim
section
variable {M : Model} {A : Around} {E : Value → Shared → Prop} {s : Shared} {h₀ : Heap} {L a c : Addr} {m mg mb : PySem.Str → Option Value} {cn : PySem.Str} {cs : Scope} {ccd : Value} {cl : List (PySem.Str × Addr)} {news : List (Addr × Obj)}
  {p : Program} {loose : List PySem.Str} {mean : ExcName → Option Value} {name : PySem.Str} {params : Arguments} {body : PySem.Expr} {scope : Scope} {firstLine : Nat} {clos : List (PySem.Str × Addr)}
theorem lam_any {Q : Value → Shared → Prop} {pre rest : List (Addr × Obj)} {tab : Array Value} (F : Fr h₀ L s.heap m) (N : News h₀ L s.heap (pre ++ (64, tabObj tab) :: rest)) (T : Top p loose mean mg mb h₀) (C : CodeHd h₀ c 64) (hcd : ccd = .ref c) (hpre : ∀ q ∈ pre, q.1 ≠ 64) (K : TabOk tab rest)
    (hcl : closureFor scope (envX cn cs L a ccd cl) = pure clos)
    (h : ∀ f c' oc vs t ctv h' tk tab', Fr h₀ L h' m →
      News h₀ L h' ((f, kla_obj name lamQual params body scope clos ((mg "__name__").getD .none) c' ctv) :: (pre ++ (64, tabObj tab') :: (c', oc) :: rest)) →
      oc.data = .fields vs → vs[1]? = some (.str lamQual t) → TabOk tab' ((c', oc) :: rest) → (∀ x, (∀ q ∈ rest, q.1 ≠ x) → (∃ q ∈ pre, q.1 = x) → c' ≠ x) → (∀ q ∈ pre ++ (64, tabObj tab) :: rest, q.1 < f) → c' < f → Q (.ref f) { s with heap := h', toks := tk }) :
    wpAny M A (makeFunction name lamQual params (.expr body) scope (envX cn cs L a ccd cl) [] [] [] lamPos firstLine) Q E s := by
  rcases K.lam with hn | ⟨c', oc, vs, t, hs, hm, hd, hv⟩
  · have U : UpdF 64 (tabObj tab) (pre ++ (64, tabObj tab) :: rest) (fun o' => pre ++ (64, o') :: rest) := by
      clear h N
      induction pre with
      | nil => exact .head K.apart
      | cons q r ih => exact .tail (hpre q (.head _)) (ih fun x hx => hpre x (.tail _ hx))
    refine kla_nest F N T C hcd U K.triples hn hcl fun f c' oc vs t ctv h' tk F' N' hd hv l1 l2 => ?_
    have h64 : c' ≠ 64 := Nat.ne_of_gt (l1 (64, tabObj tab) (by simp))
    have K' : TabOk (tab ++ #[rawInt lamPos.line, rawInt lamPos.col, .ref c']) ((c', oc) :: rest) := by
      refine ⟨by simpa using TriplesOk_snoc _ _ _ _ K.triples, .inr ⟨c', oc, vs, t, ?_, .head _, hd, hv⟩, ?_⟩
      · have := codeAmong_snoc (pos := lamPos) (c := .ref c') _ K.triples hn
        simpa using this
      · intro q hq
        rcases List.mem_cons.mp hq with rfl | hq
        · exact h64
        · exact K.apart q hq
    refine h f c' oc vs t ctv h' tk _ F' (newsSub N' fun q hq => ?_) hd hv K' (fun x _ ⟨q, hq, e⟩ => ?_) (fun q hq => Nat.lt_trans (l1 q hq) l2) l2
    · simp only [List.mem_cons, List.mem_append] at hq ⊢
      rcases hq with h | h | h | h | h <;> simp [h]
    · rw [← e]; exact Nat.ne_of_gt (l1 q (List.mem_append_left _ hq))
  · refine kla_hit F N T C hcd (by simp) K.triples hs hcl fun f ctv h' tk F' N' l1 => ?_
    refine h f c' oc vs t ctv h' tk tab F' (newsSub N' fun q hq => ?_) hd hv (K.mono (fun q hq => .tail _ hq) fun q hq => ?_) (fun x hx _ => hx _ hm) l1 (l1 (c', oc) (by simp [hm]))
    · simp only [List.mem_cons, List.mem_append] at hq ⊢
      rcases hq with h | h | h | h | h <;> simp [h, hm]
    · rcases List.mem_cons.mp hq with rfl | hq
      · exact K.apart _ hm
      · exact K.apart q hq
end
section
variable {prog : Program} {w : World} {A : Around} {E : Value → Shared → Prop} {hp : Heap} {g : Array GenState} {d : Drawn} {tk : Nat} {os : OsState} {h₀ : Heap} {L : Addr} {m : PySem.Str → Option Value} {news : List (Addr × Obj)} {Q : Value → Shared → Prop}
theorem sub_x {a b : Tok} {x : Nat} {t : Tok} {lam : Addr} {lo : Obj} (hx : x < 128) (h45 : x ≠ 45) (k43 : h₀.get? 43 = some (patObj a b)) (k42 : h₀.get? 42 = some codeTup) (hlam : (lam, lo) ∈ news) (hlc : lo.cls = .type "function")
    (F : Fr h₀ L hp m) (N : News h₀ L hp news)
    (hcall : ∀ (fnd tup l : Addr) (its : Array Value) (n : Nat) (h' : Heap) (k : Nat) (Q' E' : Value → Shared → Prop), Fr h₀ L h' m → News h₀ L h' ((fnd, matObj ⟨#[x + 128, x]⟩ t tup) :: (tup, matTup) :: (l, PySem.W.listOf its n) :: news) →
      (∀ t'' h'' k', Fr h₀ L h'' m → News h₀ L h'' ((fnd, matObj ⟨#[x + 128, x]⟩ t tup) :: (tup, matTup) :: (l, PySem.W.listOf its n) :: news) → Q' (.str ⟨#[92, x]⟩ t'') ⟨h'', g, d, k', os⟩) →
      wpAny (model prog w) A.in1 (call (.ref lam) [.ref fnd]) Q' E' ⟨h', g, d, k, os⟩)
    (hq : ∀ t' h' k, Fr h₀ L h' m → News h₀ L h' news → Q (.str ⟨((x + 128) :: esc x).toArray⟩ t') ⟨h', g, d, k, os⟩) :
    wpAny (model prog w) A (call (.builtin "re.Pattern.sub") [.ref 43, .ref lam, .str ⟨((x + 128) :: dbl x).toArray⟩ t]) Q E ⟨hp, g, d, tk, os⟩ := by
  cases ha : amp x with
  | true =>
    have h3 : x = 38 ∨ x = 124 ∨ x = 126 := by simpa [amp, or_assoc] using ha
    have h92 : x ≠ 92 := by omega
    have hmem : x ∈ [38, 124, 126] := by simpa using h3
    have hm := List.all_eq_true.mp match_all x hmem
    rw [Bool.and_eq_true] at hm
    have e1 : dbl x = [x] := by unfold dbl; rw [if_neg h92]
    have e2 : esc x = [92, x] := by unfold esc; rw [if_pos (by omega)]
    rw [e2] at hq
    rw [e1]
    exact sub_amp hm.1 hm.2 k43 k42 (N _ hlam).1 hlc F N hcall hq
  | false =>
    have h3 : ¬ (x = 38 ∨ x = 124 ∨ x = 126) := by
      intro h
      have : amp x = true := by simpa [amp, or_assoc] using h
      rw [ha] at this; cases this
    have hf := List.all_eq_true.mp fails_all x (List.mem_range.mpr hx)
    rw [ha, Bool.false_or] at hf
    have e : esc x = dbl x := by unfold esc dbl; by_cases h : x = 92 <;> simp [h] <;> omega
    rw [e] at hq
    refine sub_fail hf (by simp) ?_ k43 k42 (N _ hlam).1 hlc F N hq
    unfold dbl; split <;> simp
end
section
variable {prog : Program} {w : World} {A : Around} {E : Value → Shared → Prop} {s : Shared} {h₀ : Heap} {L : Addr} {news : List (Addr × Obj)} {Q : Value → Shared → Prop}
theorem inHat {a : Addr} {t1 t2 u : Tok} {n c : Nat} {d : Option Addr} {sl : Array (Option Value)} (N : News h₀ L s.heap news) (hm : (a, { cls := .type "tuple", dict := d, data := .seq #[.str (PySem.Str.ofString "^") t1, .str (PySem.Str.ofString "[") t2] n, slots := sl }) ∈ news) (h1 : c ≠ 94) (h2 : c ≠ 91) (hq : Q (.bool false) s) :
    wpAny (model prog w) A (compareOp .In (.str ⟨#[c]⟩ u) (.ref a)) Q E s := by
  refine in_tuple_strs (ys := [PySem.Str.ofString "^", PySem.Str.ofString "["]) (News.isTup N hm) (.cons _ _ (.cons _ _ .nil)) ?_
  have : ([PySem.Str.ofString "^", PySem.Str.ofString "["].any (· == (⟨#[c]⟩ : PySem.Str))) = false := by
    rw [lit_hat, lit_lb]
    simp only [List.any_cons, List.any_nil, Bool.or_false, Bool.or_eq_false_iff, beq_eq_false_iff_ne]
    exact ⟨fun e => h1 (by injection e with e; simpa using e.symm), fun e => h2 (by injection e with e; simpa using e.symm)⟩
  rw [this]; exact hq
end
theorem intEq {z z' : Int} {t : Tok} (h : z = z') : some (Value.int z t) = some (Value.int z' t) := by rw [h]
theorem piece_text {x c : Nat} {l : List Nat} (h : pieceL x = 91 :: c :: (l ++ [93])) : PySem.Str.empty ++ PySem.Str.ofString "[" ++ ⟨(c :: l).toArray⟩ ++ PySem.Str.ofString "]" = pieceS x := by
  unfold pieceS
  rw [h, lit_lb, lit_rb]
  apply PySem.Str.ext'
  show (((#[] : Array Nat) ++ #[91]) ++ (c :: l).toArray) ++ #[93] = _
  apply Array.toList_inj.mp
  simp
end Mine
end
section
open PySem PySem.W PySem.Calls PyProof.Rows
set_option Elab.async false
set_option maxRecDepth 100000
set_option maxHeartbeats 1000000
namespace Mine
section
variable {prog : Program} {w : World} {A : Around} {E : Value → Shared → Prop} {s : Shared} {h₀ : Heap} {L a c : Addr} {m mg mb : PySem.Str → Option Value} {cn : PySem.Str} {cs : Scope} {ccd : Value} {cl : List (PySem.Str × Addr)} {news : List (Addr × Obj)}
  {p : Program} {loose : List PySem.Str} {mean : ExcName → Option Value}
theorem genCode_any {M : Model} {env : Env} {pos : Pos} {q : PySem.Str} {scope : Scope} {tab : Array Value} {rest : List (Addr × Obj)} {Q : Value → Shared → Prop} (hc : env.code = .ref c) (C : CodeHd s.heap c 64) (h64 : s.heap.get? 64 = some (tabObj tab)) (K : TabOk tab rest) (hpos : (((pos.line : Nat) : Int) == ((lamPos.line : Nat) : Int) && ((pos.col : Nat) : Int) == ((lamPos.col : Nat) : Int)) = false)
    (h : ∀ code h' tk tab', Heap.ExtBut 64 s.heap h' → s.heap.objs.size ≤ h'.objs.size → h'.get? 64 = some (tabObj tab') → TabOk tab' rest → Q code { s with heap := h', toks := tk }) :
    wpAny M A (genexprCode env pos q scope) Q E s := by
  cases hf : codeAmong pos tab.toList with
  | some v => exact wpAny_genexprCode_hit hc (C.code h64 K.triples) hf (h v s.heap s.toks tab (Heap.ExtBut.refl _ _) (Nat.le_refl _) h64 K)
  | none =>
    refine wpAny_genexprCodeX hc (C.code h64 K.triples) (C.tab h64) hf fun c' h' tk hx hge hlt _ _ htab _ => ?_
    refine h _ h' tk _ hx (Nat.le_trans hge (Nat.le_of_lt hlt)) htab.2 ⟨by simpa using TriplesOk_snoc _ _ _ _ K.triples, ?_, K.apart⟩
    have e : (tab ++ #[rawInt pos.line, rawInt pos.col, .ref c']).toList = tab.toList ++ [rawInt pos.line, rawInt pos.col, .ref c'] := by simp
    rw [e, codeAmong_other _ K.triples hpos]
    exact K.lam
def GenHere (prog : Program) (w : World) (A : Around) (L : Addr) (news : List (Addr × Obj)) (a : Addr) (T : PySem.Str) (s : Shared) : Prop :=
  ∃ fp wr g St P, WalksS prog w A.in4 a fp wr (GenOnlyQ g) 1 P St ∧ St 0 s ∧ (∀ i s', St i s' → s'.TypeIs (.ref a) "generator") ∧ a ∈ fp ∧ (∀ b ∈ fp, b < s.heap.objs.size) ∧ (∀ b ∈ wr, L < b) ∧ (∀ b ∈ wr, ∀ p ∈ news, p.1 ≠ b) ∧ ∀ j v, P j v → ∃ u, v = Value.str T u
theorem gen_join {sep T : PySem.Str} {t : Tok} {Q : Value → Shared → Prop} (F : Fr h₀ L s.heap m) (N : News h₀ L s.heap news) (G : AllBare s.gens) (X : GenHere prog w A L news a T s)
    (hok : JoinOk sep [T] = true)
    (hQ : ∀ h' t' k g', Fr h₀ L h' m → News h₀ L h' news → AllBare g' → Q (.str T t') ⟨h', g', s.drawn, k, s.os⟩) : wpAny (model prog w) A (call (.builtin "str.join") [.str sep t, .ref a]) Q E s := by
  obtain ⟨fp, wr, g, St, P, W, hst, hT, ha, hfp, hwr, hn, htx⟩ := X
  have W := W.in4_2
  refine SC.joinGen W hT hst hfp ha (fun j v hv => let ⟨u, e⟩ := htx j v hv; ⟨_, u, e⟩) (fun s' lt hm hacc => ?_) (by rw [sizeLine_eq]; decide)
  have hl : lt.map (·.1) = [T] := by
    have hsz : lt.length = 1 := by simpa [strValues] using hacc.1
    match lt, hsz with
    | [(x, u)], _ =>
      obtain ⟨u', hv⟩ := htx 0 _ (hacc.2 0 (.str x u) (by simp [strValues]))
      injection hv with h1 _
      rw [List.map_cons, List.map_nil, h1]
  rw [hl]
  refine ⟨hok, fun t' k => ?_⟩
  have e : Txt.join sep [T] = T := rfl
  rw [e]
  have := hQ s'.heap t' k s'.gens (F.moved hm hwr) (fun p hp => ⟨hm.heap p.1 p.2 (fun hb => hn _ hb p hp rfl) (N p hp).1, (N p hp).2⟩) (G.movedS hm)
  rw [← hm.drawn, ← hm.os] at this
  exact this
theorem gen_made {elt iter : PySem.Expr} {x : PySem.Str} {px : Pos} {scope : Scope} {pos : Pos} {Q : Value → Shared → Prop} {pre rest : List (Addr × Obj)} {tab : Array Value} {l : Addr} {X T : PySem.Str} {t₀ : Tok} {n : Nat}
    (F : Fr h₀ L s.heap m) (N : News h₀ L s.heap (pre ++ (64, tabObj tab) :: rest)) (G : AllBare s.gens) (Tp : Top p loose mean mg mb h₀) (C : CodeHd h₀ c 64) (hcd : ccd = .ref c) (hpre : ∀ q ∈ pre, q.1 ≠ 64) (K : TabOk tab rest)
    (hlm : (l, PySem.W.listOf #[.str X t₀] n) ∈ pre)
    (hh : A.handled = none) (hroom : A.depth < recursionLimit)
    (hco : scope.isCoroutine = false) (hcl : closureFor scope (envX cn cs L a ccd cl) = pure []) (hcell : ∀ y ∈ scope.names, y.2 ≠ .cell) (h0 : scope.names.lookup (PySem.Str.ofString ".0") = some NameKind.local)
    (hx : scope.names.lookup x = some .local) (hkind : scope.kind = .function) (hpos : (((pos.line : Nat) : Int) == ((lamPos.line : Nat) : Int) && ((pos.col : Nat) : Int) == ((lamPos.col : Nat) : Int)) = false)
    (hiter : ∀ Q' : Value → Shared → Prop, Q' (.ref l) s → wpAny (model prog w) A (eval iter (envX cn cs L a ccd cl)) Q' E s)
    (helt : ∀ (D : Addr) (code : Value) (A' : Around) (E' : Value → Shared → Prop) (t : Tok) (s₂ : Shared) m₂, s₂.heap.Ns D m₂ → m₂ x = some (.str X t) →
      wpAny (model prog w) A' (eval elt (genEnv scope [] D code builtinsNs (envX cn cs L a ccd cl))) (fun y s₃ => (∃ u, y = Value.str T u) ∧ Keeps s₂ s₃) E' s₂)
    (hQ : ∀ g h' tk gs' tab', Fr h₀ L h' m → News h₀ L h' (pre ++ (64, tabObj tab') :: rest) → AllBare gs' → TabOk tab' rest → GenHere prog w A L (pre ++ (64, tabObj tab') :: rest) g T ⟨h', gs', s.drawn, tk, s.os⟩ → Q (.ref g) ⟨h', gs', s.drawn, tk, s.os⟩)
    (hs : ∀ x, genFold iter (envX cn cs L a ccd cl) x = pure x) :
    wpAny (model prog w) A (eval (.GeneratorExp elt [⟨.Name x px, iter, [], 0⟩] scope pos) (envX cn cs L a ccd cl)) Q E s := by
  have hm64 := N (64, tabObj tab) (by simp)
  have hl := N (l, PySem.W.listOf #[.str X t₀] n) (List.mem_append_left _ hlm)
  have hlist : s.heap.IsList l #[.str X t₀] := News.isList N (List.mem_append_left _ hlm)
  have hlP : l ≠ 64 := hpre _ hlm
  refine wpAny_GeneratorExp_walksQ (cl := []) hh hco hcl hcell h0 hx hkind hroom (hiter _ ?_) hs
  refine wpAny_pyIter_list hlist ?_
  have hgs := Tp.g.keeps F.keep
  obtain ⟨bm, ob, b1, b2, b3, b4, b5, b6⟩ := Tp.bmain
  have hgP : mainGlobals ≠ 64 := by decide
  have hbP : bm ≠ 64 := fun q => by
    have e := F.keep _ _ b3
    rw [q, hm64.1] at e; cases e; cases b4
  have hcP : cStatics ≠ 64 := by decide
  generalize hI : s.heap.objs.size = I
  have hpush : ∀ b o, s.heap.get? b = some o → (s.heap.push { cls := .type "list_iterator", data := .fields #[.ref l, .int 0 0] }).get? b = some o := fun b o e => Heap.get?_push_of_some _ e
  refine ⟨(Tp.nolimit.keeps F.keep).push _, ?_⟩
  refine genCode_any (rest := rest) hcd (C.keeps fun b o e => hpush b o (F.keep b o e)) (hpush _ _ hm64.1) K hpos fun code h₃ tk₃ tab' hx₃ hge htab' K' => ?_
  have hge' : I < h₃.objs.size := by
    have : (s.heap.push { cls := .type "list_iterator", data := .fields #[.ref l, .int 0 0] }).objs.size ≤ h₃.objs.size := hge
    rw [Heap.size_push, hI] at this
    omega
  have k3 : ∀ b o, b ≠ 64 → s.heap.get? b = some o → h₃.get? b = some o := fun b o hb e => hx₃ b o hb (hpush b o e)
  have hLI : L < I := hI ▸ F.ns.lt
  have old : ∀ b o, h₀.get? b = some o → h₃.get? b = some o := fun b o e => k3 b o (fun q => by rw [q, hm64.2.2] at e; cases e) (F.keep b o e)
  refine wpAny_builtinsFor (hgs.extBut (fun b o hb e => k3 b o hb e) hgP) b1 b2 (k3 _ _ hbP (F.keep _ _ b3)) b4 b5 b6 ?_
  have hit : h₃.IsListIter I l 0 := by
    have : (s.heap.push { cls := .type "list_iterator", data := .fields #[.ref l, .int 0 0] }).get? I = some { cls := .type "list_iterator", data := .fields #[.ref l, .int 0 0] } := by rw [← hI]; exact Heap.get?_push_size _ rfl
    have := hx₃ _ _ (fun q => by rw [q] at hI; exact absurd (Heap.lt_size hm64.1) (by rw [hI]; exact Nat.lt_irrefl _)) this
    exact ⟨_, this, rfl, rfl⟩
  have hl3 : h₃.IsList l #[.str X t₀] := ⟨_, k3 _ _ hlP hl.1, rfl, _, rfl⟩
  have hlI : l ≠ I := by rw [← hI]; exact Nat.ne_of_lt (Heap.lt_size hl.1)
  refine ⟨I, [I, l], [I], 1, fun i v => (#[Value.str X t₀] : Array Value)[i]? = some v, fun i h => h.IsListIter I l i ∧ h.IsList l #[.str X t₀], fun _ => true, fun _ y => ∃ u, y = Value.str T u, rfl,
    (fun A' hA => Walks.list hA I l hlI #[.str X t₀]), ⟨hit, hl3⟩, ?_, ((Tp.nolimit.keeps F.keep).push _).extBut hx₃ hcP, ?_, ?_, ?_⟩
  · intro b hb
    show b < h₃.objs.size
    rcases List.mem_cons.mp hb with rfl | hb
    · exact hge'
    · rcases List.mem_cons.mp hb with rfl | hb
      · exact Nat.lt_trans (Heap.lt_size hl.1) (hI ▸ hge')
      · cases hb
  · intro hb
    have : cStatics = I := by simpa using hb
    have h1 : L < cStatics := this ▸ hLI
    have hb1 : bm < 1 := Nat.lt_of_lt_of_le (Heap.lt_size b3) (Nat.le_trans F.above (Nat.le_of_lt_succ h1))
    exact b2 (Nat.lt_one_iff.mp hb1)
  · intro href hhref
    refine ⟨fun A' E' i v s₂ m₂ _ hP hn hm _ => ?_, fun A' E' i v s₂ m₂ _ hP _ hn hm _ => ?_⟩
    · rw [List.forIn_nil]
      exact wpAny_pure ⟨rfl, s₂.heap, s₂.toks, rfl, fun _ _ e => e⟩
    · have hv : ∃ t, v = .str X t := by
        match i, hP with
        | 0, hP => exact ⟨t₀, by simpa using hP.symm⟩
        | i + 1, hP => simp at hP
      obtain ⟨t, rfl⟩ := hv
      exact helt _ code A' E' t s₂ m₂ hn hm
  · intro g h₅ tk gs hgb hag hsz₅ hk₅ W hat
    have k5 : ∀ b o, b ≠ 64 → s.heap.get? b = some o → h₅.get? b = some o := fun b o hb e => hk₅ b o (k3 b o hb e)
    have F5 : Fr h₀ L h₅ m := ⟨F.ns.at fun o e => k5 L o hm64.2.1.symm e, fun b o e => hk₅ b o (old b o e), F.above⟩
    have N5 : News h₀ L h₅ (pre ++ (64, tabObj tab') :: rest) := by
      intro q hq
      rcases List.mem_append.mp hq with h | h
      · have n := N q (List.mem_append_left _ h)
        exact ⟨k5 _ _ (hpre q h) n.1, n.2⟩
      · rcases List.mem_cons.mp h with rfl | h
        · exact ⟨hk₅ _ _ htab', hm64.2⟩
        · have n := N q (List.mem_append_right _ (.tail _ h))
          exact ⟨k5 _ _ (K.apart q h) n.1, n.2⟩
    have hlow : ∀ q ∈ pre ++ (64, tabObj tab') :: rest, q.1 < I := by
      intro q hq
      rcases List.mem_append.mp hq with h | h
      · exact hI ▸ Heap.lt_size (N q (List.mem_append_left _ h)).1
      · rcases List.mem_cons.mp h with rfl | h
        · exact hI ▸ Heap.lt_size hm64.1
        · exact hI ▸ Heap.lt_size (N q (List.mem_append_right _ (.tail _ h))).1
    refine hQ g h₅ tk _ tab' F5 N5 (G.push hgb) K' ⟨_, _, _, _, _, W, hat, (fun i s' st => st.1.typeIs), List.mem_cons_self, ?_, ?_, ?_, ?_⟩
    · intro b hb
      show b < h₅.objs.size
      rw [hsz₅]
      rcases List.mem_cons.mp hb with rfl | hb
      · exact Nat.lt_succ_self _
      · rcases List.mem_cons.mp hb with rfl | hb
        · exact Nat.lt_succ_of_lt hag
        · exact Nat.lt_succ_of_lt (Nat.lt_trans (List.mem_range.mp hb) hag)
    · intro b hb
      rcases List.mem_cons.mp hb with rfl | hb
      · exact Nat.lt_trans hLI hge'
      · rw [List.mem_singleton.mp hb]; exact hLI
    · intro b hb q hq
      rcases List.mem_cons.mp hb with rfl | hb
      · exact Nat.ne_of_lt (Nat.lt_trans (hlow q hq) hge')
      · rw [List.mem_singleton.mp hb]; exact Nat.ne_of_lt (hlow q hq)
    · rintro j v ⟨i, _, hv⟩
      exact hv
end
end Mine
end
section
open PySem PySem.W PySem.Calls PyProof.Rows PySem.Builtin PySem.Builtin.Str
set_option Elab.async false
set_option maxRecDepth 100000
set_option maxHeartbeats 1000000
namespace Mine
section
variable {prog : Program} {w : World} {A : Around} {E : Value → Shared → Prop} {s : Shared} {env : Env}
theorem replNone {x z : PySem.Str} {d : Nat} {t u v : Tok} {Q : Value → Shared → Prop} (h : d ∉ x.cps.toList) (hq : Q (.str x t) s) :
    wpAny (model prog w) A (call (.builtin "str.replace") [.str x t, .str ⟨#[d]⟩ u, .str z v]) Q E s := by
  have ho : (occurrences x ⟨#[d]⟩ 0 x.length (x.length + 1)) = [] := by
    refine occ_nil_of_no x ⟨#[d]⟩ _ fun i hi => ?_
    cases hs : subAt x ⟨#[d]⟩ i with
    | false => rfl
    | true => exact absurd (List.mem_of_getElem? ((StrLaws.subAt_one x d i).mp ⟨hi, hs⟩)) h
  refine call_gives F.slot_str_replace (typeIs_str _ _ _) F.entry_str_replace (F.args_str_replace_3 _ _ _) (gives_str_replace x ⟨#[d]⟩ z t u v (fun hc => ?_)) ?_
  · rw [ho] at hc; cases hc
  · simp only [ho, List.isEmpty_nil, Bool.true_or, if_true]
    exact hq
theorem rep_meth {x y z : PySem.Str} {t : Tok} {k1 k2 : Nat} {p1 p2 pos : Pos} {Q : Value → Shared → Prop}
    (h : wpAny (model prog w) A (call (.builtin "str.replace") [.str x t, .str y s.toks, .str z (s.toks + 1)]) Q E { s with toks := s.toks + 1 + 1 }) :
    MethodOnS prog w A E (PySem.Str.ofString "replace") (.str x t) pos [(false, eval (.Constant (.str y) k1 p1) env), (false, eval (.Constant (.str z) k2 p2) env)] Q s :=
  ⟨"str", _, F.plainAttrs_str, F.slot_str_replace, F.type_str_replace, typeIs_str _ _ _, (fun _ e => nomatch e),
    Calls.callWith_builtin rfl (Calls.evalArgs_plain (Calls.spliced_cons (Constant_str (Calls.spliced_cons (Constant_str (Calls.spliced_nil h))))))⟩
theorem elt_ok {c1 : Nat} (hc : c1 = 173) {scope : Scope} {D : Addr} {code : Value} {t : Tok} {m₂ : PySem.Str → Option Value} {k1 k2 k3 k4 : Nat} {p0 p1 p2 p3 p4 p5 p6 p7 p8 : Pos}
    (hns : s.heap.Ns D m₂) (hm : m₂ (PySem.Str.ofString "s") = some (.str (⟨#[c1]⟩ ++ PySem.Str.ofString "-") t))
    (hk : scope.kind = .function) (hl : (genEnv scope [] D code builtinsNs env).kindOf (PySem.Str.ofString "s") = some .local) (h1 : (p1.endLine == p4.line) = true) (h2 : (p5.endLine == p8.line) = true) :
    wpAny (model prog w) A (eval (.Call (.Attribute (.Call (.Attribute (.Name (PySem.Str.ofString "s") p0) (PySem.Str.ofString "replace") p1) [.Constant (.str (PySem.Str.ofString "\\")) k1 p2, .Constant (.str (PySem.Str.ofString "\\\\")) k2 p3] [] p4) (PySem.Str.ofString "replace") p5)
      [.Constant (.str (PySem.Str.ofString "-")) k3 p6, .Constant (.str (PySem.Str.ofString "\\-")) k4 p7] [] p8) (genEnv scope [] D code builtinsNs env)) (fun y s₃ => (∃ u, y = Value.str ⟨(c1 :: [92, 45]).toArray⟩ u) ∧ Keeps s s₃) E s := by
  have eX : (⟨#[c1]⟩ : PySem.Str) ++ PySem.Str.ofString "-" = ⟨#[173, 45]⟩ := by rw [lit_dash, hc]; rfl
  rw [eX] at hm
  have F : Fr ({} : Heap) D s.heap m₂ := ⟨hns, fun b o e => absurd (Heap.lt_size e) (Nat.not_lt_zero _), Nat.zero_le _⟩
  refine Call_method2 rfl rfl h2 ?_
  refine Call_method2 rfl rfl h1 ?_
  refine ldVarG F hm ?_ hk hl
  refine rep_meth ?_
  rw [lit_bs]
  refine replNone (by decide) ?_
  refine rep_meth ?_
  rw [lit_dash]
  refine replLit (x' := ⟨(c1 :: [92, 45]).toArray⟩) (by rw [hc]; decide +kernel) (by decide +kernel) (by decide +kernel) (Nat.succ_pos _) (Nat.succ_pos _) (by simp) ?_
  intro t' k
  exact ⟨⟨_, rfl⟩, s.heap, k, rfl, fun _ _ e => e⟩
end
end Mine
end
section
open PySem PySem.W PyProof.Rows Mine
set_option Elab.async false
set_option maxRecDepth 100000
set_option maxHeartbeats 2000000
local macro_rules | `(tactic| walk_at "getAttr ref") => `(tactic| (k_here; (with_reducible show wpAny _ _ (getAttr (Value.ref _) (PySem.Str.ofString "append") true) _ _ _); k_dflt (refine' attr_app ?F ?N ?m ?_; (case F => k_asm); (case N => k_asm); (case m => k_mem); k_whole); intro x' h' tk' F' N' l1; (try k_lt l1); (try k_sweep)))
local macro_rules | `(tactic| walk_at "exec While Compare") => `(tactic| (refine Halt.intro ?_))
local macro_rules | `(tactic| walk_at "exec While BoolOp") => `(tactic| (k_here; k_dflt (refine whl_start 5 ?_)))
local macro_rules | `(tactic| walk_at "exec While Constant") => `(tactic| (k_here; k_dflt (refine whl_start 5 ?_)))
local macro_rules | `(tactic| walk_at "callWith ref") => `(tactic| (k_here; (with_reducible show wpAny _ _ (callWith _ (Value.ref _) _ (backTo _ (starEach (_ :: _) _)) []) _ _ _); k_dflt (refine' callWith_appN ?N ?m ?_; (case N => k_asm); (case m => k_mem); k_whole)))
local macro_rules | `(tactic| walk_at "And") => `(tactic| ((with_reducible show AppAt _ _ _ ∧ _); k_dflt (refine ⟨AppAt.of (by k_asm) (by k_mem), ?_⟩); (try dsimp only [List.nil_append, List.cons_append])))
local macro_rules | `(tactic| walk_at "call ref") => `(tactic| (k_here; (with_reducible show wpAny _ _ (call (Value.ref _) [_]) _ _ _); k_dflt (refine' call_app ?F ?N ?u ?U ?_ ?z; (case F => k_asm); (case N => k_asm); (case u => exact AppAt.of (by k_asm) (by k_mem)); (case U => first | exact Upd.head (by assumption) | k_upd); (case z => first | size_fits | (simp [strValues, sizeLine_eq]; omega)); k_whole); intro h' F' N'; (try k_sweep)))
local macro_rules | `(tactic| walk_at "compareOp IsNot") => `(tactic| ((with_reducible show wpAny _ _ (compareOp CmpOp.IsNot (Value.str _ _) (Value.ref _)) _ _ _); refine wpAny_isNot_other (by rfl) (by intro h; cases h) ?_))
local macro_rules | `(tactic| walk_at "wrow_close") => `(tactic| ((with_reducible show StepN _ _ _ _ _ _ _); refine Halt.intro ?_))
local macro_rules | `(tactic| walk_at "formatField str") => `(tactic| ((with_reducible show wpAny _ _ (formatField (Value.str _ _) PySem.Str.empty) _ _ _); refine formatField_str ?_ (by simp only [sizeLine_eq]; omega); intro t9 k9; (try dsimp only)))
local macro_rules | `(tactic| wrow_close) => `(tactic| ((with_reducible show StepN _ _ _ _ _ _ _); refine Halt.intro ?_))
namespace Mine
theorem lt_yes {prog : Program} {w : World} {A : Around} {E : Value → Shared → Prop} {s : Shared} {x y : Int} {t u : Tok} {Q : Value → Shared → Prop} (h : x < y) (hq : Q (.bool true) s) : wpAny (model prog w) A (compareOp .Lt (.int x t) (.int y u)) Q E s := lt_int (by rw [decide_eq_true h]; exact hq)
theorem lt_no {prog : Program} {w : World} {A : Around} {E : Value → Shared → Prop} {s : Shared} {x y : Int} {t u : Tok} {Q : Value → Shared → Prop} (h : ¬ x < y) (hq : Q (.bool false) s) : wpAny (model prog w) A (compareOp .Lt (.int x t) (.int y u)) Q E s := lt_int (by rw [decide_eq_false h]; exact hq)
structure Brk (P : PySem.Str) (b c1 c2 : Nat) : Prop where
  h0 : At P b 91
  h1 : At P (b + 1) c1
  h2 : At P (b + 2) c2
  h3 : At P (b + 3) 93
  hl : P.length ≤ 100
section
variable {prog : Program} {w : World} {A : Around} {E : Value → Shared → Prop} {s : Shared} {x y z : PySem.Str} {t u v : Tok} {Q : Value → Shared → Prop}
theorem brk0 {value slice : PySem.Expr} {b c1 c2 : Nat} {k : Int} (B : Brk x b c1 c2) (hk : k = (b : Int)) (hq : Q (.str ⟨#[91]⟩ s.toks) { s with toks := s.toks + 1 })
    (hs : subscripted slice false (.str x t) (.int k u) = operate [.str x t, .int k u] (getItem (.str x t) (.int k u)) := by with_unfolding_all rfl)
    (ht : ∀ r, letTemporaryGo value (.str x t) r = pure () := by intro _; with_unfolding_all rfl) : wpAny (model prog w) A (subscriptTail value slice (.str x t) (.int k u)) Q E s :=
  strAt B.h0 (by omega) (Nat.le_trans B.hl (by decide)) hq hs ht
theorem brk1 {value slice : PySem.Expr} {b c1 c2 : Nat} {k : Int} (B : Brk x b c1 c2) (hk : k = (b : Int) + 1) (hq : Q (.str ⟨#[c1]⟩ s.toks) { s with toks := s.toks + 1 })
    (hs : subscripted slice false (.str x t) (.int k u) = operate [.str x t, .int k u] (getItem (.str x t) (.int k u)) := by with_unfolding_all rfl)
    (ht : ∀ r, letTemporaryGo value (.str x t) r = pure () := by intro _; with_unfolding_all rfl) : wpAny (model prog w) A (subscriptTail value slice (.str x t) (.int k u)) Q E s :=
  strAt B.h1 (by omega) (Nat.le_trans B.hl (by decide)) hq hs ht
theorem brk2 {value slice : PySem.Expr} {b c1 c2 : Nat} {k : Int} (B : Brk x b c1 c2) (hk : k = (b : Int) + 2) (hq : Q (.str ⟨#[c2]⟩ s.toks) { s with toks := s.toks + 1 })
    (hs : subscripted slice false (.str x t) (.int k u) = operate [.str x t, .int k u] (getItem (.str x t) (.int k u)) := by with_unfolding_all rfl)
    (ht : ∀ r, letTemporaryGo value (.str x t) r = pure () := by intro _; with_unfolding_all rfl) : wpAny (model prog w) A (subscriptTail value slice (.str x t) (.int k u)) Q E s :=
  strAt B.h2 (by omega) (Nat.le_trans B.hl (by decide)) hq hs ht
theorem brk3 {value slice : PySem.Expr} {b c1 c2 : Nat} {k : Int} (B : Brk x b c1 c2) (hk : k = (b : Int) + 3) (hq : Q (.str ⟨#[93]⟩ s.toks) { s with toks := s.toks + 1 })
    (hs : subscripted slice false (.str x t) (.int k u) = operate [.str x t, .int k u] (getItem (.str x t) (.int k u)) := by with_unfolding_all rfl)
    (ht : ∀ r, letTemporaryGo value (.str x t) r = pure () := by intro _; with_unfolding_all rfl) : wpAny (model prog w) A (subscriptTail value slice (.str x t) (.int k u)) Q E s :=
  strAt B.h3 (by omega) (Nat.le_trans B.hl (by decide)) hq hs ht
theorem brkStuff {value slice : PySem.Expr} {b c1 c2 : Nat} {i j : Int} {ui uj : Tok} {h₀ : Heap} {L : Addr} {m : PySem.Str → Option Value} {news : List (Addr × Obj)} (B : Brk x b c1 c2) (hi : i = (b : Int) + 1) (hj : j = (b : Int) + 3) (hF : Fr h₀ L s.heap m) (hN : News h₀ L s.heap news)
    (h : ∀ h' t' k, Fr h₀ L h' m → News h₀ L h' news → Q (.str ⟨#[c1, c2]⟩ t') { s with heap := h', toks := k })
    (hs : subscripted slice false (.str x t) (.ref s.heap.objs.size) = operate [.ref s.heap.objs.size, .str x t] (getItem (.str x t) (.ref s.heap.objs.size)) := by with_unfolding_all rfl)
    (ht : ∀ r, letTemporaryGo value (.str x t) r = pure () := by intro _; with_unfolding_all rfl) :
    wpAny (model prog w) A (subscriptTail value slice (.str x t) (.ref s.heap.objs.size)) Q E { s with heap := s.heap.push { cls := .type "slice", data := .fields #[.int i ui, .int j uj, .none] } } := by
  refine slice_strN_ss hF hN (fun h' t' k a c => ?_) hs ht (by rw [sizeLine_eq]; exact Nat.le_trans B.hl (by decide))
  rw [slice_at2 (i := b + 1) B.h1 B.h2 (by omega) (by omega)]
  exact h h' t' k a c
theorem brkChunk1 {value slice : PySem.Expr} {b c1 c2 : Nat} {i j : Int} {ui uj : Tok} {h₀ : Heap} {L : Addr} {m : PySem.Str → Option Value} {news : List (Addr × Obj)} (B : Brk x b c1 c2) (hi : i = (b : Int) + 1) (hj : j = (b : Int) + 2) (hF : Fr h₀ L s.heap m) (hN : News h₀ L s.heap news)
    (h : ∀ h' t' k, Fr h₀ L h' m → News h₀ L h' news → Q (.str ⟨#[c1]⟩ t') { s with heap := h', toks := k })
    (hs : subscripted slice false (.str x t) (.ref s.heap.objs.size) = operate [.ref s.heap.objs.size, .str x t] (getItem (.str x t) (.ref s.heap.objs.size)) := by with_unfolding_all rfl)
    (ht : ∀ r, letTemporaryGo value (.str x t) r = pure () := by intro _; with_unfolding_all rfl) :
    wpAny (model prog w) A (subscriptTail value slice (.str x t) (.ref s.heap.objs.size)) Q E { s with heap := s.heap.push { cls := .type "slice", data := .fields #[.int i ui, .int j uj, .none] } } := by
  refine slice_strN_ss hF hN (fun h' t' k a c => ?_) hs ht (by rw [sizeLine_eq]; exact Nat.le_trans B.hl (by decide))
  rw [slice_at1 (i := b + 1) B.h1 (by omega) (by omega)]
  exact h h' t' k a c
theorem brkChunk0 {value slice : PySem.Expr} {b c1 c2 : Nat} {i j : Int} {ui uj : Tok} {h₀ : Heap} {L : Addr} {m : PySem.Str → Option Value} {news : List (Addr × Obj)} (B : Brk x b c1 c2) (hi : i = (b : Int) + 3) (hj : j = (b : Int) + 3) (hF : Fr h₀ L s.heap m) (hN : News h₀ L s.heap news)
    (h : ∀ h' t' k, Fr h₀ L h' m → News h₀ L h' news → Q (.str ⟨#[]⟩ t') { s with heap := h', toks := k })
    (hs : subscripted slice false (.str x t) (.ref s.heap.objs.size) = operate [.ref s.heap.objs.size, .str x t] (getItem (.str x t) (.ref s.heap.objs.size)) := by with_unfolding_all rfl)
    (ht : ∀ r, letTemporaryGo value (.str x t) r = pure () := by intro _; with_unfolding_all rfl) :
    wpAny (model prog w) A (subscriptTail value slice (.str x t) (.ref s.heap.objs.size)) Q E { s with heap := s.heap.push { cls := .type "slice", data := .fields #[.int i ui, .int j uj, .none] } } := by
  refine slice_strN_ss hF hN (fun h' t' k a c => ?_) hs ht (by rw [sizeLine_eq]; exact Nat.le_trans B.hl (by decide))
  rw [slice_at0 (i := b + 3) (Nat.le_of_lt (at_lt B.h3)) (by omega) (by omega)]
  exact h h' t' k a c
theorem brkFind1 {b c1 c2 : Nat} {p q : Int} {v v' : Tok} (B : Brk x b c1 c2) (hc : c2 = 45) (hy : y = ⟨#[45]⟩) (hp : p = (b : Int) + 2) (hq : q = (b : Int) + 3) (hr : Q (.int ((b + 2 : Nat) : Int) s.toks) { s with toks := s.toks + 1 }) :
    wpAny (model prog w) A (call (.builtin "str.find") [.str x t, .str y u, .int p v, .int q v']) Q E s :=
  find4At (i := b + 2) (d := 45) hy (hc ▸ B.h2) (by omega) (by omega) hr
theorem brkFind2 {b c1 c2 : Nat} {p q : Int} {v v' : Tok} (B : Brk x b c1 c2) (hp : p = (b : Int) + 5) (hq : q = (b : Int) + 3) (hr : Q (.int (-1) s.toks) { s with toks := s.toks + 1 }) :
    wpAny (model prog w) A (call (.builtin "str.find") [.str x t, .str y u, .int p v, .int q v']) Q E s :=
  find4No (i := b + 5) (j := b + 3) (Nat.le_of_lt (at_lt B.h3)) (by omega) (by omega) (by omega) hr
theorem strFalse {Q : Bool → Shared → Prop} (hq : Q false { s with toks := s.toks + 1 + 1 }) : wpAny (model prog w) A (PySem.truthy (.str ⟨#[]⟩ t)) Q E s :=
  SBL.truthy (by decide) hq
end
end Mine
local macro_rules | `(tactic| walk_at "call builtin:str.find") => `(tactic| (k_here; k_dflt (first | refine brkFind1 (by assumption) (by assumption) lit_dash (by omega) (by omega) ?_ | refine brkFind2 (by assumption) (by omega) (by omega) ?_)))
local macro_rules | `(tactic| walk_at "compareOp Lt int int") => `(tactic| (k_here; first | refine lt_yes (by omega) ?_ | refine lt_no (by omega) ?_))
local macro_rules | `(tactic| walk_at "compareOp Eq str str") => `(tactic| (k_here; first | refine eqNo (by first | exact lit_star | exact lit_q | exact lit_lb | exact lit_bang | exact lit_rb) (by omega) ?_ | refine eqYes (by first | exact lit_star | exact lit_q | exact lit_lb | exact lit_bang | exact lit_rb) (by omega) ?_))
local macro_rules | `(tactic| walk_at "compareOp NotEq str str") => `(tactic| (k_here; first | refine neNo (by first | exact lit_star | exact lit_q | exact lit_lb | exact lit_bang | exact lit_rb) (by omega) ?_ | refine neYes (by first | exact lit_star | exact lit_q | exact lit_lb | exact lit_bang | exact lit_rb) (by omega) ?_))
local macro_rules | `(tactic| walk_at "subscriptTail Name Name str int") => `(tactic| (k_here; (with_reducible show wpAny _ _ (subscriptTail _ _ (Value.str _ _) (Value.int _ _)) _ _ _); k_dflt (first | refine brk0 (by assumption) (by omega) ?_ | refine brk1 (by assumption) (by omega) ?_ | refine brk2 (by assumption) (by omega) ?_ | refine brk3 (by assumption) (by omega) ?_)))
local macro_rules | `(tactic| walk_at "execs cons") => `(tactic| (k_here; (refine gen_pos ?_); intro tk htk))
local macro_rules | `(tactic| walk_at "execs nil") => `(tactic| (k_here; (refine gen_pos ?_); intro tk htk))
local macro_rules | `(tactic| walk_at "compareOp NotIn str str") => `(tactic| (k_here; first | refine notIn2T lit_dash (by omega) ?_ | refine notIn2F lit_dash (by omega) ?_))
local macro_rules | `(tactic| walk_at "subscriptTail Name Slice str ref") => `(tactic| (k_here; k_dflt (first | refine brkStuff (s := ⟨_, _, _, _, _⟩) (by assumption) (by omega) (by omega) (by k_asm) (by k_asm) ?_ | refine brkChunk1 (s := ⟨_, _, _, _, _⟩) (by assumption) (by omega) (by omega) (by k_asm) (by k_asm) ?_ | refine brkChunk0 (s := ⟨_, _, _, _, _⟩) (by assumption) (by omega) (by omega) (by k_asm) (by k_asm) ?_); intro h' t' k' F' N'; (try k_sweep)))
local macro_rules | `(tactic| walk_at "call builtin:str.replace") => `(tactic| (k_here; k_dflt (refine replTwo (by omega) (by first | assumption | exact Nat.succ_pos _) (by first | assumption | exact Nat.succ_pos _) (by simp) ?_); intro t' k'))
local macro_rules | `(tactic| walk_at "getMethod ref") => `(tactic| (k_here; (with_reducible show wpAny _ _ (getMethod (Value.ref 43) (PySem.Str.ofString "sub") _) _ _ _); k_dflt (refine getMethod_sub (k43_of (by assumption)) (by k_asm) ?_)))
local macro_rules | `(tactic| walk_at "getMethod ref") => `(tactic| (k_here; (with_reducible show wpAny _ _ (getMethod (Value.ref _) (PySem.Str.ofString "group") _) _ _ _); k_dflt (refine' getMethod_group ?N ?m ?_; (case N => k_asm); (case m => k_mem); k_whole)))
local macro_rules | `(tactic| walk_at "call builtin:re.Match.group") => `(tactic| (k_here; k_dflt (refine' call_group2 ?N ?m ?n ?_; (case N => k_asm); (case m => k_mem); (case n => k_mem); k_whole)))
local macro_rules | `(tactic| walk_at "truthy str") => `(tactic| (k_here; (refine strTrue ?z1 ?z2 ?_); (case z1 => k_dflt exact Nat.succ_pos _); (case z2 => (simp only [List.size_toArray, List.length_cons, List.length_nil]; omega))))
local macro_rules | `(tactic| walk_at "truthy str") => `(tactic| (k_here; (refine strFalse ?_)))
local macro_rules | `(tactic| walk_at "binaryOp Add str str") => `(tactic| (k_here; (refine addR (r := ⟨#[92, _]⟩) (by rw [lit_bs]; rfl) (by rw [lit_bs]; exact Nat.le_of_ble_eq_true rfl) ?_); intro t' k'))
local macro_rules | `(tactic| walk_at "compareOp In str ref") => `(tactic| (k_here; k_dflt (refine' inHat ?N ?m ?z1 ?z2 ?_; (case N => k_asm); (case m => k_mem); (case z1 => omega); (case z2 => omega); k_whole)))
local macro_rules | `(tactic| walk_at "formatField str") => `(tactic| (k_here; (refine formatField_str ?_ ?z1); (case z1 => (show (_ :: _ : List Nat).toArray.size ≤ _; rw [sizeLine_eq]; simp only [List.size_toArray, List.length_cons]; omega)); intro t9 k9; (try dsimp only)))
local macro_rules | `(tactic| walk_at "compareOp Eq str str") => `(tactic| (k_here; refine eqHead lit_bang (by omega) ?_))
local macro_rules | `(tactic| walk_at "subscriptTail Name Constant str int") => `(tactic| (k_here; (with_reducible show wpAny _ _ (subscriptTail _ _ (Value.str _ _) (Value.int _ _)) _ _ _); k_dflt (refine headAt ?z1 rfl ?_; (case z1 => omega))))
local macro_rules | `(tactic| k_room) => `(tactic| ((try simp only [depth_under_make, depth_under_kw, depth_in1, depth_deeper, depth_caller]); exact Nat.lt_of_le_of_lt (Nat.add_le_add_right (by assumption) _) (by decide)))
local macro_rules | `(tactic| walk_at "call builtin:re.Pattern.sub") => `(tactic| (k_here; refine Halt.intro ?_))
local macro_rules | `(tactic| walk_at "eval GeneratorExp") => `(tactic| (k_here; refine Halt.intro ?_))
local macro_rules | `(tactic| walk_at "call builtin:str.join") => `(tactic| (k_here; refine Halt.intro ?_))
local macro_rules | `(tactic| walk_at "eval Lambda") => `(tactic| (k_here; refine Halt.intro ?_))
namespace Mine
theorem tr_spec (w : World) (rest : List (Addr × Obj)) (st : Addr) (P : PySem.Str) (tp tq : Tok) (tab : Array Value) (hK : TabOk tab ((st, oPlain) :: rest)) (xs : List Nat) (hx : ∀ x ∈ xs, x < 128) (hxl : xs.length ≤ 16) (hP : P.length = 4 * xs.length)
    (hB : ∀ k (hk : k < xs.length), Brk P (4 * k) (s1 xs[k]) (s2 xs[k])) :
    Spec w 69 [.str P tp, .ref st, .str (PySem.Str.ofString ".") tq] ((64, tabObj tab) :: (st, oPlain) :: rest)
      (fun v news' => ∃ (l : Addr) (c : Nat) (ps : List (PySem.Str × Tok)) (tab' : Array Value) (rest' : List (Addr × Obj)), v = .ref l ∧ news' = (l, PySem.W.listOf (strValues ps).toArray c) :: (64, tabObj tab') :: rest' ∧ ps.map (·.1) = xs.map pieceS ∧ (∀ p ∈ (st, oPlain) :: rest, p ∈ rest') ∧ TabOk tab' rest' ∧ l ≠ 64) := by
  unfold Spec
  k_fill
  w_top off
  intro p loose mean mg mb dp un gd cn cs a ccd cl outer A₀ base h₀ L m s Q E hBl hF hX hN hT hC hk hdp hun hG hret
  refine wpAny_call ?_
  k_dflt cell_enter
  k_steps
  show wpAny _ _ _ _ _ _
  rename_i rs _ l1 _ _ _ ad _ _ l2 _ _ _ D' _ l3 _ _ hh F1 N1 _ _
  refine whileN (news := (rs, PySem.W.listOf #[] 0) :: (ad, bApp rs) :: (64, tabObj tab) :: (st, oPlain) :: rest) (fun r m news g => AllBare g ∧ ∃ (k : Nat) (ti tn : Tok) (rs ad : Addr) (c : Nat) (ps : List (PySem.Str × Tok)) (tab : Array Value) (rest' : List (Addr × Obj)), k + r = xs.length ∧ ps.map (·.1) = (xs.take k).map pieceS ∧
      news = (rs, PySem.W.listOf (strValues ps).toArray c) :: (ad, bApp rs) :: (64, tabObj tab) :: rest' ∧
      (∀ p ∈ (st, oPlain) :: rest, p ∈ rest') ∧ TabOk tab rest' ∧ ad ≠ 64 ∧ rs ≠ 64 ∧ (∀ p ∈ (ad, bApp rs) :: (64, tabObj tab) :: rest', p.1 ≠ rs) ∧
      m (PySem.Str.ofString "i") = some (.int ((4 * k : Nat) : Int) ti) ∧ m (PySem.Str.ofString "n") = some (.int P.length tn) ∧ m (PySem.Str.ofString "pat") = some (.str P tp) ∧ m (PySem.Str.ofString "STAR") = some (.ref st) ∧
      m (PySem.Str.ofString "res") = some (.ref rs) ∧ m (PySem.Str.ofString "add") = some (.ref ad)) xs.length F1 ?hN ?hJ ?turn
  case hN => exact newsSub N1 (by intro p hp; simp only [List.mem_cons] at hp ⊢; rcases hp with rfl | rfl | rfl | rfl | hp <;> simp [*])
  case hJ =>
    refine ⟨hG, 0, _, _, rs, ad, 0, [], tab, (st, oPlain) :: rest, Nat.zero_add _, rfl, rfl, fun p hp => hp, hK, ?_, ?_, ?_, rfl, rfl, rfl, rfl, rfl, rfl⟩
    · refine neN ?_; (try dsimp only); omega
    · refine neN ?_; (try dsimp only); omega
    · intro p hp
      simp only [List.mem_cons] at hp
      have := allLt_mem rest l1.2.2
      rcases hp with rfl | rfl | rfl | hp
      · refine neN ?_; (try dsimp only); omega
      · refine neN ?_; (try dsimp only); omega
      · refine neN ?_; (try dsimp only); omega
      · exact Nat.ne_of_lt (this p hp)
  case turn =>
    clear F1 N1 l1 l2 l3
    rintro r m₁ _ h₁ tk₁ g₁ F₁ N₁ ⟨hG₁, k, ti, tn, rs, ad, c, ps, tab, rest', hr, hps, rfl, hsub, K, a64, r64, hne, e1, e2, e3, e4, e5, e6⟩
    replace F₁ := frPuts [(PySem.Str.ofString "i", .int ((4 * k : Nat) : Int) ti), (PySem.Str.ofString "n", .int P.length tn), (PySem.Str.ofString "pat", .str P tp), (PySem.Str.ofString "STAR", .ref st), (PySem.Str.ofString "res", .ref rs), (PySem.Str.ofString "add", .ref ad)] F₁ (by simp only [List.forall_mem_cons, List.not_mem_nil, false_implies, implies_true, and_true]; exact ⟨e1, e2, e3, e4, e5, e6⟩)
    clear e1 e2 e3 e4 e5 e6
    by_cases hkl : k < xs.length
    · have B := hB k hkl
      have hx1 := hx xs[k] (List.getElem_mem hkl)
      generalize hxk : xs[k] = x at B hx1
      have hpl : ps.length ≤ 16 := by
        have := congrArg List.length hps
        simp only [List.length_map, List.length_take] at this
        omega
      generalize hb : 4 * k = b at *
      by_cases x93 : x = 93
      · subst x93
        replace B : Brk P b 93 221 := B
        obtain ⟨c1, hc1⟩ : ∃ c : Nat, c = 93 := ⟨_, rfl⟩
        obtain ⟨c2, hc2⟩ : ∃ c : Nat, c = 221 := ⟨_, rfl⟩
        rw [← hc1, ← hc2] at B
        k_steps
        show wpAny _ _ _ _ _ _
        rename Fr h₀ L _ m => FG
        rename Fr _ _ _ _ => F2
        rename News _ _ _ _ => N2
        refine kla_eval rfl ?_
        refine lam_any (pre := [(rs, _), (ad, _)]) (rest := rest') F2 N2 (by k_asm) (CodeHd.keeps hC.1 FG.keep) rfl (by simp; exact ⟨r64, a64⟩) K rfl ?_
        intro f c' oc vs t ctv h' tk tab' F3 N3 hd3 hv3 K3 hfr hlt hcf
        dsimp only [List.cons_append, List.nil_append] at N3
        have hne' : ∀ p ∈ (ad, bApp rs) :: (64, tabObj tab') :: (c', oc) :: rest', p.1 ≠ rs := by
          intro p hp
          simp only [List.mem_cons] at hp
          rcases hp with rfl | rfl | rfl | hp
          · exact hne _ (.head _)
          · exact r64.symm
          · exact hfr rs (fun q hq => hne q (.tail _ (.tail _ hq))) ⟨_, .head _, rfl⟩
          · exact hne p (.tail _ (.tail _ hp))
        clear F2 N2
        k_steps
        show wpAny _ _ _ _ _ _
        refine sub_fail (T := ⟨(c1 :: dbl c2).toArray⟩) (by rw [hc1, hc2]; exact fails_rb) (by rw [hc1, hc2]; decide) (by rw [hc1, hc2]; decide) (k43_of (by assumption)) (k42_of (by assumption)) (N3 _ (.head _)).1 rfl F3 N3 ?_
        intro t4 h4 k4 F4 N4
        replace N4 := newsSub (news' := (rs, PySem.W.listOf (strValues ps).toArray c) :: (ad, bApp rs) :: (64, tabObj tab') :: (c', oc) :: rest') N4 (fun p hp => .tail _ hp)
        clear F3 N3
        have hl : (dbl c2).length ≤ 2 := by rw [hc2]; decide
        have hpc : pieceL 93 = 91 :: c1 :: (dbl c2 ++ [93]) := by rw [hc1, hc2]; rfl
        generalize dbl c2 = D at hl hpc
        k_steps
        rename Fr _ _ _ _ => F6
        rename News _ _ _ _ => N6
        replace N6 := newsSub (news' := (rs, PySem.W.listOf (strValues ps).toArray c) :: (ad, bApp rs) :: (64, tabObj tab') :: (c', oc) :: rest') N6 (fun p hp => .tail _ hp)
        refine call_app F6 N6 (N6 _ (.tail _ (.head _))).1 (Upd.head hne') ?_ (by simp [strValues, sizeLine_eq]; omega)
        intro h7 F7 N7
        clear F6 N6
        rw [strValues_snoc, piece_text hpc] at N7
        k_steps
        show StepN _ _ _ _ _ _ _
        refine StepN.intro (n' := r - 1) (by k_asm) (by k_asm) (by omega) ⟨hG₁, k + 1, _, tn, rs, ad, c + 1, ps ++ [(pieceS 93, _)], tab', (c', oc) :: rest', by omega, ?_, rfl, fun p hp => .tail _ (hsub p hp), K3, a64, r64, hne', (by refine intEq ?_; omega), rfl, rfl, rfl, rfl, rfl⟩
        · rw [List.map_append, hps, List.take_succ_eq_append_getElem hkl, List.map_append, hxk]; rfl
      · by_cases x45 : x = 45
        · subst x45
          replace B : Brk P b 173 45 := B
          obtain ⟨c1, hc1⟩ : ∃ c : Nat, c = 173 := ⟨_, rfl⟩
          obtain ⟨c2, hc2⟩ : ∃ c : Nat, c = 45 := ⟨_, rfl⟩
          rw [← hc1, ← hc2] at B
          k_steps
          show wpAny _ _ _ _ _ _
          rename Fr h₀ L _ m => FG
          rename Fr _ _ _ _ => F2
          rename News _ _ _ _ => N2
          refine gen_made (pre := [(_, _), (rs, _), (ad, _)]) (rest := rest') (X := ⟨#[c1]⟩ ++ PySem.Str.ofString "-") (T := ⟨(c1 :: [92, 45]).toArray⟩) F2 N2 hG₁ (by k_asm) (CodeHd.keeps hC.1 FG.keep) rfl ?hpre K (.head _) rfl (by k_room) rfl rfl (by decide) rfl rfl rfl rfl ?iter ?elt ?hQ ?hs
          case hpre => exact List.forall_mem_cons.mpr ⟨by refine neN ?_; (try dsimp only); omega, List.forall_mem_cons.mpr ⟨r64, List.forall_mem_cons.mpr ⟨a64, fun _ h => nomatch h⟩⟩⟩
          case hs => intro _; rfl
          case iter =>
            intro Q' hQ'
            k_steps
            exact hQ'
          case elt =>
            intro D code A' E' t s₂ m₂ hns hm
            exact elt_ok hc1 hns hm rfl rfl rfl rfl
          case hQ =>
            intro g h' tk gs' tab₂ F3 N3 hG₃ K3 X3
            dsimp only [List.cons_append, List.nil_append] at N3
            clear F2 N2
            k_steps
            show wpAny _ _ _ _ _ _
            refine gen_join F3 N3 hG₃ X3 (joinOk_of_weight (by show (c1 :: [92, 45]).toArray.size + 0 + 1 ≤ _; simp) (by decide)) ?_
            intro h4 t4 k4 g4 F4 N4 hG₄
            clear F3 N3 hG₃ X3
            k_steps
            show wpAny _ _ _ _ _ _
            rename Fr _ _ _ _ => F2
            rename News _ _ _ _ => N2
            refine kla_eval rfl ?_
            refine lam_any (pre := [(_, _), (rs, _), (ad, _)]) (rest := rest') F2 N2 (by k_asm) (CodeHd.keeps hC.1 FG.keep) rfl (List.forall_mem_cons.mpr ⟨by refine neN ?_; (try dsimp only); omega, List.forall_mem_cons.mpr ⟨r64, List.forall_mem_cons.mpr ⟨a64, fun _ h => nomatch h⟩⟩⟩) K3 rfl ?_
            intro f c' oc vs t ctv h' tk tab' F3 N3 hd3 hv3 K4 hfr hlt hcf
            dsimp only [List.cons_append, List.nil_append] at N3
            have hne' : ∀ p ∈ (ad, bApp rs) :: (64, tabObj tab') :: (c', oc) :: rest', p.1 ≠ rs := by
              intro p hp
              simp only [List.mem_cons] at hp
              rcases hp with rfl | rfl | rfl | hp
              · exact hne _ (.head _)
              · exact r64.symm
              · exact hfr rs (fun q hq => hne q (.tail _ (.tail _ hq))) ⟨_, .tail _ (.head _), rfl⟩
              · exact hne p (.tail _ (.tail _ hp))
            clear F2 N2
            k_steps
            show wpAny _ _ _ _ _ _
            refine sub_fail (T := ⟨(c1 :: [92, 45]).toArray⟩) (by rw [hc1]; exact fails_dash) (by simp) (by simp) (k43_of (by assumption)) (k42_of (by assumption)) (N3 _ (.head _)).1 rfl F3 N3 ?_
            intro t5 h5 k5 F5 N5
            replace N5 := newsSub (news' := (rs, PySem.W.listOf (strValues ps).toArray c) :: (ad, bApp rs) :: (64, tabObj tab') :: (c', oc) :: rest') N5 (fun p hp => .tail _ (.tail _ hp))
            clear F3 N3
            obtain ⟨D, hD⟩ : ∃ D : List Nat, D = [92, 45] := ⟨_, rfl⟩
            rw [← hD]
            have hl : D.length ≤ 2 := by rw [hD]; decide
            have hpc : pieceL 45 = 91 :: c1 :: (D ++ [93]) := by rw [hc1, hD]; rfl
            k_steps
            rename Fr _ _ _ _ => F6
            rename News _ _ _ _ => N6
            replace N6 := newsSub (news' := (rs, PySem.W.listOf (strValues ps).toArray c) :: (ad, bApp rs) :: (64, tabObj tab') :: (c', oc) :: rest') N6 (fun p hp => .tail _ hp)
            refine call_app F6 N6 (N6 _ (.tail _ (.head _))).1 (Upd.head hne') ?_ (by simp [strValues, sizeLine_eq]; omega)
            intro h7 F7 N7
            clear F6 N6
            rw [strValues_snoc, piece_text hpc] at N7
            k_steps
            show StepN _ _ _ _ _ _ _
            refine StepN.intro (n' := r - 1) (by k_asm) (by k_asm) (by omega) ⟨hG₄, k + 1, _, tn, rs, ad, c + 1, ps ++ [(pieceS 45, _)], tab', (c', oc) :: rest', by omega, ?_, rfl, fun p hp => .tail _ (hsub p hp), K4, a64, r64, hne', (by refine intEq ?_; omega), rfl, rfl, rfl, rfl, rfl⟩
            · rw [List.map_append, hps, List.take_succ_eq_append_getElem hkl, List.map_append, hxk]; rfl
        · have hc1 : s1 x = x + 128 := by unfold s1; rw [if_neg x93]
          have hc2 : s2 x = x := by unfold s2; rw [if_neg x93]
          rw [hc1, hc2] at B
          k_steps
          show wpAny _ _ _ _ _ _
          rename Fr h₀ L _ m => FG
          rename Fr _ _ _ _ => F2
          rename News _ _ _ _ => N2
          refine kla_eval rfl ?_
          refine lam_any (pre := [(rs, _), (ad, _)]) (rest := rest') F2 N2 (by k_asm) (CodeHd.keeps hC.1 FG.keep) rfl (by simp; exact ⟨r64, a64⟩) K rfl ?_
          intro f c' oc vs t ctv h' tk tab' F3 N3 hd3 hv3 K3 hfr hlt hcf
          dsimp only [List.cons_append, List.nil_append] at N3
          have hne' : ∀ p ∈ (ad, bApp rs) :: (64, tabObj tab') :: (c', oc) :: rest', p.1 ≠ rs := by
            intro p hp
            simp only [List.mem_cons] at hp
            rcases hp with rfl | rfl | rfl | hp
            · exact hne _ (.head _)
            · exact r64.symm
            · exact hfr rs (fun q hq => hne q (.tail _ (.tail _ hq))) ⟨_, .head _, rfl⟩
            · exact hne p (.tail _ (.tail _ hp))
          clear F2 N2
          k_steps
          show wpAny _ _ _ _ _ _
          refine sub_x hx1 x45 (k43_of (by assumption)) (k42_of (by assumption)) (.head _) rfl F3 N3 ?hcall ?_
          case hcall =>
            intro fnd tup l its n h' k' Q' E' F5 N5 hq5
            clear F3 N3
            refine wpAny_call ?_
            k_dflt kla_enter
            k_steps
            have e9 : PySem.Str.ofString "\\" ++ (⟨#[x]⟩ : PySem.Str) = ⟨#[92, x]⟩ := by rw [lit_bs]; rfl
            rw [e9]
            exact hq5 _ _ _ (by k_asm) (by k_asm)
          intro t4 h4 k4 F4 N4
          replace N4 := newsSub (news' := (rs, PySem.W.listOf (strValues ps).toArray c) :: (ad, bApp rs) :: (64, tabObj tab') :: (c', oc) :: rest') N4 (fun p hp => .tail _ hp)
          clear F3 N3
          have hl : (esc x).length ≤ 2 := by unfold esc; split <;> simp
          have hpc : pieceL x = 91 :: (x + 128) :: (esc x ++ [93]) := by unfold pieceL; rw [if_neg x93]
          generalize esc x = D at hl hpc
          k_steps
          rename Fr _ _ _ _ => F6
          rename News _ _ _ _ => N6
          replace N6 := newsSub (news' := (rs, PySem.W.listOf (strValues ps).toArray c) :: (ad, bApp rs) :: (64, tabObj tab') :: (c', oc) :: rest') N6 (fun p hp => .tail _ hp)
          refine call_app F6 N6 (N6 _ (.tail _ (.head _))).1 (Upd.head hne') ?_ (by simp [strValues, sizeLine_eq]; omega)
          intro h7 F7 N7
          clear F6 N6
          rw [strValues_snoc, piece_text hpc] at N7
          k_steps
          show StepN _ _ _ _ _ _ _
          refine StepN.intro (n' := r - 1) (by k_asm) (by k_asm) (by omega) ⟨hG₁, k + 1, _, tn, rs, ad, c + 1, ps ++ [(pieceS x, _)], tab', (c', oc) :: rest', by omega, ?_, rfl, fun p hp => .tail _ (hsub p hp), K3, a64, r64, hne', (by refine intEq ?_; omega), rfl, rfl, rfl, rfl, rfl⟩
          · rw [List.map_append, hps, List.take_succ_eq_append_getElem hkl, List.map_append, hxk]; rfl
    · have hk9 : k = xs.length := by omega
      subst hk9
      k_steps
      · refine hret _ _ _ _ _ (by k_asm) (newsSub (by k_asm) (fun p hp => ?_)) ⟨rs, c, ps, tab, rest', rfl, rfl, by rw [hps, List.take_length], hsub, K, r64⟩ hG₁
        rcases List.mem_cons.mp hp with h | h
        · exact h ▸ .head _
        · exact .tail _ (.tail _ h)
      · exfalso; omega
end Mine
end
section
open PySem PySem.W PySem.Calls PyProof.Rows
set_option Elab.async false
set_option maxRecDepth 100000
set_option maxHeartbeats 1000000
namespace Mine
def Spec5 (w : World) (f : Addr) (vs : List Value) (news : List (Addr × Obj)) (Post : Value → List (Addr × Obj) → Prop) : Prop :=
  ∀ (p : Program) (loose : List PySem.Str) (mean : ExcName → Option Value) (mg mb : PySem.Str → Option Value) (dp un : Nat) (gd : Option (List Code)) (cn : PySem.Str) (cs : Scope) (a : Addr) (ccd : Value) (cl : List (PySem.Str × Addr)) (outer : List Env) (A₀ : Around) (base h₀ : Heap) (L : Addr) (m : PySem.Str → Option Value) (s : Shared) (Q E : Value → Shared → Prop),
    Below A₀ base outer h₀ → Fr h₀ L s.heap m → (Mine.heapK w.params).In h₀ → News h₀ L s.heap news → Top p loose mean mg mb h₀ → CodeAll [(68, 64)] h₀ → cs.kind = .function → dp ≤ 500 → un ≤ 500 → AllBare s.gens →
    (∀ v news' h' tk' g', Fr h₀ L h' m → News h₀ L h' news' → Post v news' → AllBare g' → Q v ⟨h', g', s.drawn, tk', s.os⟩) →
    wpAny (model PySem.Challenge.rw_qw0005_01.row.prog w) (ktrTop dp un gd cn cs L a ccd cl outer) (call (.ref f) vs) Q E s
def transText (xs : List Nat) : PySem.Str := PySem.Str.ofString "(?s:" ++ Txt.join (PySem.Str.ofString "") (xs.map pieceS) ++ PySem.Str.ofString ")\\Z"
theorem pieceS_len (x : Nat) : (pieceS x).length ≤ 5 := by
  show (pieceL x).toArray.size ≤ 5
  unfold pieceL esc
  split
  · simp
  · split <;> simp
theorem pieces_sum (xs : List Nat) : ((xs.map pieceS).map (·.length)).sum ≤ 5 * xs.length := by
  induction xs with
  | nil => simp
  | cons x r ih =>
    have := pieceS_len x
    simp only [List.map_cons, List.sum_cons, List.length_cons]
    omega
theorem join_len (xs : List Nat) : (Txt.join (PySem.Str.ofString "") (xs.map pieceS)).length ≤ 5 * xs.length := by
  have h := StrLaws.join_length_le (PySem.Str.ofString "") (xs.map pieceS)
  have h2 := pieces_sum xs
  have e : Txt.join (PySem.Str.ofString "") (xs.map pieceS) = PySem.Str.join (PySem.Str.ofString "") (xs.map pieceS) := StrLaws.glued_eq_join _ _
  have e0 : (PySem.Str.ofString "").length = 0 := by decide
  rw [e0, Nat.mul_zero] at h
  rw [e]
  omega
end Mine
end
section
open PySem PySem.W PySem.Calls PyProof.Rows PySem.Builtin
set_option Elab.async false
set_option maxRecDepth 100000
set_option maxHeartbeats 1000000
namespace Mine
theorem mro_object : mroOf (.type "object") = pure [.type "object"] := by
  show (match builtinMro "object" with | some mro => pure mro | none => unsupported s!"internal:unknown-type:{"object"}") = _
  rw [show builtinMro "object" = some [.type "object"] by decide +kernel]
theorem slot_object_init : Slot "object" (PySem.Str.ofString "__init__") "object.__init__" :=
  .of (owner := "object") (n := "__init__") (by rw [typeLookup_type, builtinLookup_eq_fast]; kernel_rfl) (by decide +kernel) (by decide +kernel) (by decide +kernel)
    (by first | exact .inl (by decide +kernel) | exact .inr (by decide +kernel)) (by rw [isSubtype_type]; kernel_rfl)
theorem called_object : TypeCalled "object" "object.__new__" "object.__init__" :=
  ⟨by decide +kernel, by decide +kernel, ⟨_, _, mro_object⟩, madeBy_type mro_object (by rw [typeLookup_type, builtinLookup_eq_fast]; kernel_rfl) (by decide +kernel), by decide +kernel, by rw [isSubtype_type]; kernel_rfl, slot_object_init⟩
theorem typeCall_object : checkTypeCall "object" ⟨[], []⟩ = pure () := by kernel_rfl
theorem newCall_object : checkBuiltinCall "object.__new__" ⟨[.type "object"], []⟩ = pure () := by kernel_rfl
section
variable {prog : Program} {w : World} {A : Around} {E : Value → Shared → Prop} {s : Shared} {h₀ : Heap} {L : Addr} {m : PySem.Str → Option Value} {news : List (Addr × Obj)} {Q : Value → Shared → Prop}
theorem madeHere_object : Bind.madeHere "object.__new__" (.type "object") = pure () := by
  have h2 := called_object.made
  unfold Bind.madeHere
  kernel_rfl
theorem meets_object_new : Meets (Builtin.«object.__new__» ⟨[.type "object"], []⟩) (fun _ R s => R (.ok (.ret (.ref s.heap.objs.size))) { s with heap := s.heap.push oPlain }) := by
  refine Meets.of_wp fun prog w A R s hs => ?_
  obtain ⟨hp, g, d, tk, os⟩ := s
  have h1 := madeHere_object
  repeat (any_goals (first | assumption | wp_step))
  exact ⟨_, rfl, hs⟩
theorem call_object (Fh : Fr h₀ L s.heap m) (N : News h₀ L s.heap news) (hq : ∀ x h', Fr h₀ L h' m → News h₀ L h' ((x, oPlain) :: news) → (∀ p ∈ news, p.1 < x) → Q (.ref x) { s with heap := h' }) :
    wpAny (model prog w) A (call (.type "object") []) Q E s := by
  refine callType_meets (Q₁ := fun obj s₁ => s₁.TypeIs obj "object" ∧ Q obj s₁) called_object typeCall_object newCall_object F.entry_object_new F.entry_object_init meets_object_new ?_ fun obj s₁ hq => ⟨hq.1, F.args_object_init_1 obj, fun _ R s => R (.ok (.ret .none)) s, ?_, rfl, hq.2⟩
  · exact ⟨⟨_, Heap.get?_push_size _ rfl, rfl⟩, hq _ _ (Fh.push _) (N.push Fh _) fun p hp => Heap.lt_size (N p hp).1⟩
  · exact Meets.of_wp fun prog w A R s hs => wpAny_pure ⟨_, rfl, hs⟩
end
end Mine
end
section
open PySem PySem.W PyProof.Rows Mine
set_option Elab.async false
set_option maxRecDepth 100000
set_option maxHeartbeats 2000000
local macro_rules | `(tactic| walk_at "getAttr ref") => `(tactic| (k_here; (with_reducible show wpAny _ _ (getAttr (Value.ref _) (PySem.Str.ofString "append") true) _ _ _); k_dflt (refine' attr_app ?F ?N ?m ?_; (case F => k_asm); (case N => k_asm); (case m => k_mem); k_whole); intro x' h' tk' F' N' l1; (try k_lt l1); (try k_sweep)))
local macro_rules | `(tactic| walk_at "exec While Compare") => `(tactic| (refine Halt.intro ?_))
local macro_rules | `(tactic| walk_at "exec While BoolOp") => `(tactic| (k_here; k_dflt (refine whl_start 5 ?_)))
local macro_rules | `(tactic| walk_at "exec While Constant") => `(tactic| (k_here; k_dflt (refine whl_start 5 ?_)))
local macro_rules | `(tactic| walk_at "callWith ref") => `(tactic| (k_here; (with_reducible show wpAny _ _ (callWith _ (Value.ref _) _ (backTo _ (starEach (_ :: _) _)) []) _ _ _); k_dflt (refine' callWith_appN ?N ?m ?_; (case N => k_asm); (case m => k_mem); k_whole)))
local macro_rules | `(tactic| walk_at "And") => `(tactic| ((with_reducible show AppAt _ _ _ ∧ _); k_dflt (refine ⟨AppAt.of (by k_asm) (by k_mem), ?_⟩); (try dsimp only [List.nil_append, List.cons_append])))
local macro_rules | `(tactic| walk_at "call ref") => `(tactic| (k_here; (with_reducible show wpAny _ _ (call (Value.ref _) [_]) _ _ _); k_dflt (refine' call_app ?F ?N ?u ?U ?_ ?z; (case F => k_asm); (case N => k_asm); (case u => exact AppAt.of (by k_asm) (by k_mem)); (case U => first | exact Upd.head (by assumption) | k_upd); (case z => first | size_fits | (simp [strValues, sizeLine_eq]; omega)); k_whole); intro h' F' N'; (try k_sweep)))
local macro_rules | `(tactic| walk_at "compareOp IsNot") => `(tactic| ((with_reducible show wpAny _ _ (compareOp CmpOp.IsNot (Value.str _ _) (Value.ref _)) _ _ _); refine wpAny_isNot_other (by rfl) (by intro h; cases h) ?_))
local macro_rules | `(tactic| walk_at "wrow_close") => `(tactic| ((with_reducible show StepN _ _ _ _ _ _ _); refine Halt.intro ?_))
local macro_rules | `(tactic| walk_at "formatField str") => `(tactic| ((with_reducible show wpAny _ _ (formatField (Value.str _ _) PySem.Str.empty) _ _ _); refine formatField_str ?_ (by simp only [sizeLine_eq]; omega); intro t9 k9; (try dsimp only)))
local macro_rules | `(tactic| wrow_close) => `(tactic| ((with_reducible show StepN _ _ _ _ _ _ _); refine Halt.intro ?_))
local macro_rules | `(tactic| walk_at "call type:object") => `(tactic| (k_here; k_dflt (refine' call_object ?F ?N ?_; (case F => k_asm); (case N => k_asm); k_whole); intro x' h' F' N' l1; (try k_lt l1); (try k_sweep)))
local macro_rules | `(tactic| walk_at "call type") => `(tactic| (k_here; k_dflt (refine' call_object ?F ?N ?_; (case F => k_asm); (case N => k_asm); k_whole); intro x' h' F' N' l1; (try k_lt l1); (try k_sweep)))
local macro_rules | `(tactic| walk_at "call ref") => `(tactic| (k_here; refine Halt.intro ?_))
namespace Mine
theorem translate_spec (w : World) (rest : List (Addr × Obj)) (P : PySem.Str) (tp : Tok) (tab : Array Value) (hK : TabOk tab rest) (xs : List Nat) (hx : ∀ x ∈ xs, x < 128) (hxl : xs.length ≤ 16) (hP : P.length = 4 * xs.length)
    (hB : ∀ k (hk : k < xs.length), Brk P (4 * k) (s1 xs[k]) (s2 xs[k])) :
    Spec5 w 50 [.str P tp] ((64, tabObj tab) :: rest)
      (fun v news' => ∃ (tab' : Array Value) (rest' : List (Addr × Obj)), (∃ t, v = .str (transText xs) t) ∧ news' = (64, tabObj tab') :: rest' ∧ (∀ p ∈ rest, p ∈ rest') ∧ TabOk tab' rest') := by
  unfold Spec5
  k_fill
  w_top off
  intro p loose mean mg mb dp un gd cn cs a ccd cl outer A₀ base h₀ L m s Q E hBl hF hX hN hT hC hk hdp hun hG hret
  refine wpAny_call ?_
  k_dflt cell_enter
  k_steps
  show wpAny _ _ _ _ _ _
  rename Fr h₀ L _ m => FG
  rename Fr _ _ _ _ => F2
  rename News _ _ _ _ => N2
  refine tr_spec w rest _ P tp _ tab (hK.mono (fun p hp => .tail _ hp) ?hap) xs hx hxl hP hB _ _ _ _ _ _ _ _ _ _ _ _ _ _ _ _ _ _ _ _ _ _ (by k_asm) F2 (by k_asm) (newsSub N2 ?hsub) (by k_asm) ⟨CodeHd.keeps hC.1 FG.keep, trivial⟩ rfl ?hd ?hu hG ?ret
  case hd => show dp + 1 ≤ 600; omega
  case hu => show un + 3 ≤ 600; omega
  case hap =>
    intro p hp
    rcases List.mem_cons.mp hp with rfl | hp
    · refine neN ?_; dsimp only; omega
    · exact hK.apart p hp
  case hsub =>
    intro p hp
    simp only [List.mem_cons] at hp ⊢
    rcases hp with rfl | rfl | hp <;> simp [*]
  case ret =>
    rintro v _ h' tk' g' F3 N3 ⟨l, c, ps, tab', rest', rfl, rfl, hps, hsub, K3, l64⟩ hG3
    clear F2 N2
    have hlen : ps.length = xs.length := by simpa using congrArg List.length hps
    k_steps
    show wpAny _ _ _ _ _ _
    rename Fr _ _ _ _ => F4
    rename News _ _ _ _ => N4
    refine join_spec w ((64, tabObj tab') :: rest') l _ ps c (by omega) ?hsum ?hjl _ _ _ _ _ _ _ _ _ _ _ _ _ _ _ _ _ _ _ _ _ _ (by k_asm) F4 (by k_asm) (newsSub N4 ?hsub) (by k_asm) ⟨CodeHd.keeps hC.1 FG.keep, trivial⟩ rfl ?hd ?hu hG3 ?ret
    case hsum =>
      have := pieces_sum xs
      have e0 : (PySem.Str.ofString "").length = 0 := by decide
      rw [hps, e0, Nat.mul_zero]
      omega
    case hjl =>
      have := join_len xs
      rw [hps]
      omega
    case hd => show dp + 1 ≤ 600; omega
    case hu => show un + 3 ≤ 600; omega
    case hsub =>
      intro p hp
      simp only [List.mem_cons] at hp ⊢
      rcases hp with rfl | rfl | rfl | hp
      · simp
      · exact .inr (.inr (hsub _ (.head _)))
      · simp
      · simp [hp]
    case ret =>
      rintro v _ h5 tk5 g5 F5 N5 ⟨rfl, t, rfl⟩ hG5
      clear F4 N4
      k_steps
      refine hret _ _ _ _ _ (by k_asm) (newsSub (by k_asm) (fun p hp => ?_)) ⟨tab', rest', ⟨t, ?_⟩, rfl, fun p hp => hsub p (.tail _ hp), K3⟩ hG5
      · exact .tail _ (.tail _ hp)
      · rw [hps]; rfl
end Mine
end
section
open PySem PySem.W PySem.Calls PyProof.Rows
set_option Elab.async false
set_option maxRecDepth 100000
set_option maxHeartbeats 2000000
namespace Mine
open PyProof.Rows.LCg
abbrev CJ := Nat → List Value → List (Addr × Obj) → Array GenState → Prop
structure SrcOk (prog : Program) (w : World) (A : Around) (h₀ : Heap) (L : Addr) (m : PySem.Str → Option Value) (I : Addr) (fp : List Addr) (n : Nat) (P : Nat → Value → Prop) (St : Nat → Heap → Prop) (S : List (Addr × Obj) → Prop) (news : List (Addr × Obj)) (s : Shared) : Prop where
  walks : Walks prog w A I fp [I] n P St
  size : n ≤ sizeLine
  there : ∀ i h, St i h → ∃ o, h.get? I = some o
  stays : ∀ i h h' o nw, St i h → h.get? I = some o → h'.get? I = some o → (∀ b o, h₀.get? b = some o → h'.get? b = some o) → News h₀ L h' nw → S nw → St i h'
  start : St 0 s.heap
  low : ∀ b ∈ fp, b < s.heap.objs.size
  fr : Fr h₀ L s.heap m
  ns : News h₀ L s.heap news
  hIL : L ≠ I
  hI₀ : h₀.get? I = none
  off : ∀ p ∈ news, p.1 < I
  src : S news
def CEnd (h₀ : Heap) (L : Addr) (m : PySem.Str → Option Value) (d : Drawn) (os : OsState) (pre : List (Addr × Obj)) (S : List (Addr × Obj) → Prop) (K : Value → List (Addr × Obj) → Array GenState → Prop) (y : Value) (s₂ : Shared) : Prop :=
  ∃ h' tk g' nw, s₂ = ⟨h', g', d, tk, os⟩ ∧ Fr h₀ L h' m ∧ News h₀ L h' (pre ++ nw) ∧ (∀ p ∈ nw, ∀ q ∈ pre, p.1 ≠ q.1) ∧ S nw ∧ K y nw g'
theorem CEnd.intro {h₀ : Heap} {L : Addr} {m : PySem.Str → Option Value} {d : Drawn} {os : OsState} {pre : List (Addr × Obj)} {S : List (Addr × Obj) → Prop} {K : Value → List (Addr × Obj) → Array GenState → Prop} {y : Value} {h' : Heap} {tk : Nat} {g' : Array GenState} {all : List (Addr × Obj)}
    (F : Fr h₀ L h' m) (N : News h₀ L h' all) (nw : List (Addr × Obj)) (sub : ∀ p ∈ pre ++ nw, p ∈ all) (off : ∀ p ∈ nw, ∀ q ∈ pre, p.1 ≠ q.1) (hS : S nw) (hK : K y nw g') : CEnd h₀ L m d os pre S K y ⟨h', g', d, tk, os⟩ :=
  ⟨h', tk, g', nw, rfl, F, fun p hp => N p (sub p hp), off, hS, hK⟩
section
variable {prog : Program} {w : World} {A : Around} {E : Value → Shared → Prop} {s : Shared} {h₀ : Heap} {L : Addr} {m : PySem.Str → Option Value} {env : Env}
def CTurn (prog : Program) (w : World) (A : Around) (h₀ : Heap) (L : Addr) (m : PySem.Str → Option Value) (env : Env) (ifs : List PySem.Expr) (elt : PySem.Expr) (x : PySem.Str) (scope : Scope) (cl : List (PySem.Str × Addr)) (d : Drawn) (os : OsState)
    (I : Addr) (n : Nat) (P : Nat → Value → Prop) (St : Nat → Heap → Prop) (S : List (Addr × Obj) → Prop) (J : CJ) : Prop :=
  ∀ i v ys nw oI C oC D m₂ h tk g (E' : Value → Shared → Prop), i < n → P i v → St (i + 1) h → J i ys nw g → S nw → NsObj oC m₂ → m₂ x = some v → Fr h₀ L h m → News h₀ L h ((I, oI) :: (C, oC) :: (D, lst ys) :: nw) →
    (∀ p ∈ nw, p.1 ≠ I ∧ p.1 ≠ C ∧ p.1 ≠ D) → ((@Ne Nat I C) ∧ (@Ne Nat I D) ∧ (@Ne Nat C D)) →
    wpAny (model prog w) A (forIn ifs true fun c r => if r = true then do let ok ← PySem.isTrue c (compEnvC scope cl C env) (eval c (compEnvC scope cl C env)); pure (ForInStep.yield ok) else pure (ForInStep.yield r)) (fun ok s' => if ok = true then
      wpAny (model prog w) A (eval elt (compEnvC scope cl C env)) (CEnd h₀ L m d os [(I, oI), (C, oC), (D, lst ys)] S (fun y nw' g' => J (i + 1) (ys ++ [y]) nw' g')) E' s'
      else CEnd h₀ L m d os [(I, oI), (C, oC), (D, lst ys)] S (fun _ nw' g' => J (i + 1) ys nw' g') Value.none s') E' ⟨h, g, d, tk, os⟩

theorem compBlock {ifs : List PySem.Expr} {elt iter : PySem.Expr} {x : PySem.Str} {px : Pos} {scope : Scope} {cl : List (PySem.Str × Addr)} {pos : Pos} {s₂ : Shared} {I : Addr} {fp : List Addr} {n : Nat} {P : Nat → Value → Prop} {St : Nat → Heap → Prop} {S : List (Addr × Obj) → Prop} {news : List (Addr × Obj)}
    {J : CJ} {RR : Value → Addr → Result → Shared → Prop} (X : SrcOk prog w A h₀ L m I fp n P St S news s₂)
    (hcell : ∀ y ∈ scope.names, y.2 ≠ .cell) (hkind : scope.kind = .function) (hx : scope.names.lookup x = some .local) (h0 : J 0 [] news s₂.gens)
    (turn : CTurn prog w A h₀ L m env ifs elt x scope cl s₂.drawn s₂.os I n P St S J)
    (hRR : ∀ D C h tk g m' ys nw, Fr h₀ L h m → News h₀ L h ((D, lst ys) :: nw) → (∀ p ∈ nw, p.1 ≠ D) → (∀ p ∈ news, p.1 < D) → h.Ns C m' → h₀.get? C = none → h₀.get? D = none → C ≠ L → D ≠ L → C ≠ D → (∀ p ∈ nw, p.1 ≠ C) → S nw → J n ys nw g →
      RR (.ref D) C (.ok .next) ⟨h, g, s₂.drawn, tk, s₂.os⟩) :
    wpAny (model prog w) A (newList []) (fun acc s₃ => wpAny (model prog w) A (newFunctionEnv scope env.globals cl [] env.qual none .none (some env)) (fun cenv s₄ =>
      codeAny (model prog w) A (.compStart (.ListComp elt [⟨.Name x px, iter, ifs, 0⟩] scope pos) 0 (.ref I) acc { cenv with scope := relabel scope env }) (RR acc cenv.locals) s₄) E s₃) E s₂ := by
  obtain ⟨W, hsz, hIo, hSt, hst, hfp, F, N, hIL, hI₀, off, hS⟩ := X
  refine wpAny_newObj_type (wpAny_newFunctionEnv hcell (by intro y hy; simp at hy) (fun h₁ hns₁ hsb₁ => ?_) hkind)
  dsimp only at hns₁ hsb₁ ⊢
  generalize hDe : s₂.heap.objs.size = D at *
  generalize hH2 : s₂.heap.push { cls := .type "list", dict := none, data := .seq ([] : List Value).toArray } = H2 at hns₁ hsb₁ ⊢
  generalize hCe : H2.objs.size = C at *
  have hCD : C = D + 1 := by rw [← hCe, ← hH2, Heap.size_push, hDe]
  have hDC : D ≠ C := by rw [hCD]; exact Nat.ne_of_lt (Nat.lt_succ_self _)
  have lowD : ∀ b, b < D → b ≠ C ∧ b ≠ D := fun b hb => ⟨by rw [hCD]; exact Nat.ne_of_lt (Nat.lt_succ_of_lt hb), Nat.ne_of_lt hb⟩
  have hDf : D ∉ fp := fun hm => Nat.lt_irrefl _ (hfp _ hm)
  have hCf : C ∉ fp := fun hm => (lowD _ (hfp _ hm)).1 rfl
  have hIlt : I < D := hfp I (W.sub I (List.mem_singleton.mpr rfl))
  have hCI : I ≠ C := (lowD I hIlt).1
  have hDI : I ≠ D := (lowD I hIlt).2
  have old : ∀ b o, s₂.heap.get? b = some o → h₁.get? b = some o := fun b o e => hsb₁.extBut b o (lowD b (hDe ▸ Heap.lt_size e)).1 (Heap.get?_push_of_some _ (hH2 ▸ Heap.get?_push_of_some _ e))
  have hacc : h₁.get? D = some (lst []) := hsb₁.extBut _ _ hDC (Heap.get?_push_of_some _ (hDe ▸ hH2 ▸ Heap.get?_push_size _ rfl))
  have fresh₀ : ∀ a, D ≤ a → h₀.get? a = none := fun a ha => by
    cases e : h₀.get? a with
    | none => rfl
    | some o' => exact absurd (hDe ▸ Heap.lt_size (F.keep a o' e)) (Nat.not_lt.mpr ha)
  have hD₀ : h₀.get? D = none := fresh₀ _ (Nat.le_refl _)
  have hC₀ : h₀.get? C = none := fresh₀ _ (by rw [hCD]; exact Nat.le_succ _)
  have hLlt : L < D := hDe ▸ F.ns.lt
  have hDL : D ≠ L := Ne.symm (lowD L hLlt).2
  have hCL : C ≠ L := Ne.symm (lowD L hLlt).1
  have loop : ∀ s₃ : Shared, s₃ = { s₂ with heap := h₁, toks := s₂.toks + ([] : List (PySem.Str × Value)).length } →
      codeAny (model prog w) A (.compLoop (.ListComp elt [⟨.Name x px, iter, ifs, 0⟩] scope pos) 0 (.ref I) (.ref D) (compEnvC scope cl C env)) (RR (.ref D) C) s₃ := by
    rintro s₃ rfl
    refine codeAny_compLoop_tests
      (fun k s' => ∃ h' tk g i ys m' nw, s' = ⟨h', g, s₂.drawn, tk, s₂.os⟩ ∧ i ≤ n ∧ k = n + 1 - i ∧ ys.length ≤ i ∧ St i h' ∧ Fr h₀ L h' m ∧ h'.Ns C m' ∧ News h₀ L h' ((D, lst ys) :: nw) ∧ (∀ p ∈ nw, p.1 ≠ I ∧ p.1 ≠ C ∧ p.1 ≠ D) ∧ S nw ∧ J i ys nw g) ?_ (n + 1)
      ⟨h₁, _, s₂.gens, 0, [], _, news, rfl, Nat.zero_le _, rfl, Nat.le_refl _, W.frame _ _ _ hst fun b _ o e => old b o e, F.keeps old, hns₁, ?_, ?_, hS, h0⟩
    · rintro k s' ⟨h', tk, g, i, ys, m', nw, rfl, hi, rfl, hyl, hst', F', hn', N', off', hS', hJ⟩
      by_cases hlt : i < n
      · refine W.item i _ _ _ hlt hst' fun v h₂ tk₂ hPv hst₂ hk₂ => ?_
        refine wpAny_assign_Name (wpAny_storeName_local (lookup_relabel_local hx) (hn'.at' fun o e => hk₂ _ o (by simpa using Ne.symm hCI) e) (fun h₃ hn₃ hs₃ => ?_) (by simp [compEnvC, relabel, hkind]))
        have hst₃ : St (i + 1) h₃ := W.frame _ _ _ hst₂ fun b hb o e => hs₃.extBut b o (fun q => hCf (by have q' : b = C := q; rw [← q']; exact hb)) e
        obtain ⟨oI, heI⟩ := hIo _ _ hst₃
        obtain ⟨oC, heC, hoC⟩ := ns_obj hn₃
        have F₃ : Fr h₀ L h₃ m := (fr_but F' hk₂ hIL hI₀).change hs₃ hCL hC₀
        have N₂ : News h₀ L h₂ ((D, lst ys) :: nw) := news_but N' hk₂ fun p hp => by
          rcases List.mem_cons.mp hp with rfl | hp
          · exact Ne.symm hDI
          · exact (off' p hp).1
        have N₃ : News h₀ L h₃ ((I, oI) :: (C, oC) :: (D, lst ys) :: nw) := fun p hp => by
          rcases List.mem_cons.mp hp with rfl | hp
          · exact ⟨heI, Ne.symm hIL, hI₀⟩
          · rcases List.mem_cons.mp hp with rfl | hp
            · exact ⟨heC, hCL, hC₀⟩
            · have z := N₂ p hp
              refine ⟨hs₃.extBut _ _ ?_ z.1, z.2⟩
              rcases List.mem_cons.mp hp with rfl | hp
              · exact hDC
              · exact (off' p hp).2.1
        have ends : ∀ y ys' s₅, ys'.length ≤ i + 1 → (∀ h₄, Heap.SameBut D h₄ h₄ → True) → CEnd h₀ L m s₂.drawn s₂.os [(I, oI), (C, oC), (D, lst ys)] S (fun _ nw' g' => J (i + 1) ys' nw' g') y s₅ →
            ∃ h' tk g nw m₃, s₅ = ⟨h', g, s₂.drawn, tk, s₂.os⟩ ∧ St (i + 1) h' ∧ Fr h₀ L h' m ∧ h'.Ns C m₃ ∧ News h₀ L h' ((D, lst ys) :: nw) ∧ (∀ p ∈ nw, p.1 ≠ I ∧ p.1 ≠ C ∧ p.1 ≠ D) ∧ S nw ∧ J (i + 1) ys' nw g := by
          rintro y ys' s₅ _ _ ⟨h₄, tk₄, g₄, nw₄, rfl, F₄, N₄, off₄, hS₄, hJ₄⟩
          have zI := (N₄ (I, oI) List.mem_cons_self).1
          have zC := (N₄ (C, oC) (List.mem_cons_of_mem _ List.mem_cons_self)).1
          have N₄' : News h₀ L h₄ nw₄ := fun p hp => N₄ p (List.mem_append_right _ hp)
          refine ⟨h₄, tk₄, g₄, nw₄, _, rfl, hSt _ _ _ _ _ hst₃ heI zI F₄.keep N₄' hS₄, F₄, hoC.ns zC, fun p hp => ?_, fun p hp => ?_, hS₄, hJ₄⟩
          · rcases List.mem_cons.mp hp with rfl | hp
            · exact N₄ _ (by simp)
            · exact N₄' p hp
          · exact ⟨off₄ p hp (I, oI) (by simp), off₄ p hp (C, oC) (by simp), off₄ p hp (D, lst ys) (by simp)⟩
        refine wpAny_mono (turn i v ys nw oI C oC D _ h₃ _ g _ hlt hPv hst₃ hJ hS' hoC (by simp) F₃ N₃ off' ⟨hCI, hDI, Ne.symm hDC⟩) (fun ok s₄ h₄ => ?_) fun _ _ e => e
        cases ok with
        | true =>
          simp only [if_true] at h₄ ⊢
          refine wpAny_mono h₄ (fun y s₅ h₅ => ?_) fun _ _ e => e
          obtain ⟨h₆, tk₆, g₆, nw₆, rfl, F₆, N₆, off₆, hS₆, hJ₆⟩ := h₅
          obtain ⟨_, _, _, _, m₃, e, hst₄, F₄, hn₄, N₄, off₄, hS₄, hJ₄⟩ := ends .none (ys ++ [y]) ⟨h₆, g₆, s₂.drawn, tk₆, s₂.os⟩ (by simp; omega) (fun _ _ => trivial) ⟨h₆, tk₆, g₆, nw₆, rfl, F₆, N₆, off₆, hS₆, hJ₆⟩
          cases e
          have zD := (N₄ (D, lst ys) List.mem_cons_self).1
          refine append_at (hsz := by show ys.toArray.size ≤ sizeLine; rw [List.size_toArray]; exact Nat.le_trans (Nat.le_trans hyl hi) hsz) zD fun h₅ hs₅ hD₅ => ?_
          refine ⟨n + 1 - (i + 1), by omega, h₅, _, _, i + 1, ys ++ [y], _, _, rfl, hlt, rfl, by rw [List.length_append, List.length_singleton]; exact Nat.succ_le_succ hyl, W.frame _ _ _ hst₄ fun b hb o e => hs₅.extBut b o (fun q => hDf (q ▸ hb)) e, F₄.change hs₅ hDL hD₀,
            hn₄.sameBut hs₅ (Ne.symm hDC), fun p hp => ?_, off₄, hS₄, hJ₄⟩
          rcases List.mem_cons.mp hp with rfl | hp
          · exact ⟨hD₅.trans (congrArg some (lst_snoc ys y)), hDL, hD₀⟩
          · exact ⟨hs₅.extBut _ _ (off₄ p hp).2.2 (N₄ p (.tail _ hp)).1, (N₄ p (.tail _ hp)).2⟩
        | false =>
          simp only [Bool.false_eq_true, if_false] at h₄ ⊢
          obtain ⟨h₆, tk₆, g₆, nw₆, m₃, rfl, hst₄, F₄, hn₄, N₄, off₄, hS₄, hJ₄⟩ := ends .none ys s₄ (by omega) (fun _ _ => trivial) h₄
          exact ⟨n + 1 - (i + 1), by omega, h₆, _, _, i + 1, ys, _, _, rfl, hlt, rfl, Nat.le_succ_of_le hyl, hst₄, F₄, hn₄, N₄, off₄, hS₄, hJ₄⟩
      · obtain rfl : i = n := Nat.le_antisymm hi (Nat.not_lt.mp hlt)
        refine W.done _ _ _ hst' fun h₂ tk₂ hk₂ => ?_
        refine hRR _ _ h₂ tk₂ g _ ys nw (fr_but F' hk₂ hIL hI₀) (news_but N' hk₂ fun p hp => ?_) (fun p hp => (off' p hp).2.2) (fun p hp => Nat.lt_trans (off p hp) hIlt) (hn'.at' fun o e => hk₂ _ o (by simpa using Ne.symm hCI) e) hC₀ hD₀ hCL hDL (Ne.symm hDC) (fun p hp => (off' p hp).2.1) hS' hJ
        rcases List.mem_cons.mp hp with rfl | hp
        · exact Ne.symm hDI
        · exact (off' p hp).1
    · intro p hp
      rcases List.mem_cons.mp hp with rfl | hp
      · exact ⟨hacc, hDL, hD₀⟩
      · exact ⟨old _ _ (N p hp).1, (N p hp).2⟩
    · intro p hp
      have := lowD _ (Nat.lt_trans (off p hp) hIlt)
      exact ⟨Nat.ne_of_lt (off p hp), this.1, this.2⟩
  exact codeAny_compStart_list (loop _ rfl) (W.self 0 _ _ _ (W.frame _ _ _ hst fun b _ o e => old b o e) (loop _ rfl))

def CompAt (prog : Program) (w : World) (A : Around) (h₀ : Heap) (L : Addr) (m : PySem.Str → Option Value) (env : Env) (ifs : List PySem.Expr) (elt : PySem.Expr) (x : PySem.Str) (scope : Scope) (cl : List (PySem.Str × Addr)) (m' : Addr → PySem.Str → Option Value) (Q : Addr → Shared → Prop) (it : Value) (s₂ : Shared) : Prop :=
  ∃ I fp n P St S news J, it = .ref I ∧ SrcOk prog w A h₀ L m I fp n P St S news s₂ ∧ J 0 [] news s₂.gens ∧ CTurn prog w A h₀ L m env ifs elt x scope cl s₂.drawn s₂.os I n P St S J ∧
    ∀ D h tk g ys nw, Fr h₀ L h (m' D) → News h₀ L h ((D, lst ys) :: nw) → (∀ p ∈ nw, p.1 ≠ D) → (∀ p ∈ news, p.1 < D) → S nw → J n ys nw g → Q D ⟨h, g, s₂.drawn, tk, s₂.os⟩

theorem compExpr (_F₀ : Fr h₀ L s.heap m) {ifs : List PySem.Expr} {elt iter : PySem.Expr} {x : PySem.Str} {px : Pos} {scope : Scope} {cl : List (PySem.Str × Addr)} {pos : Pos} {Q : Value → Shared → Prop}
    (hclos : closureFor scope env = pure cl) (hcell : ∀ y ∈ scope.names, y.2 ≠ .cell) (hkind : scope.kind = .function)
    (hnames : ∀ y ∈ scope.names, y.2 = .local → scope.names.lookup y.1 = some .local) (hx : scope.names.lookup x = some .local)
    (h : wpAny (model prog w) A (eval iter env) (fun xv s₁ => wpAny (model prog w) A (pyIter xv) (CompAt prog w A h₀ L m env ifs elt x scope cl (fun _ => m) (fun D s => Q (.ref D) s)) E s₁) E s)
    (hs : ∀ x, foldedSetIterable iter env x = pure x := by intro _; rfl) :
    wpAny (model prog w) A (eval (.ListComp elt [⟨.Name x px, iter, ifs, 0⟩] scope pos) env) Q E s := by
  rw [eval_ListComp]
  refine wpAny_comprehension_free (use := none) rfl hs hclos hkind hnames (wpAny_mono h (fun xv s₁ h₁ => wpAny_mono h₁ (fun it s₂ h₂ => ?_) fun _ _ e => e) fun _ _ e => e)
  obtain ⟨I, fp, n, P, St, S, news, J, rfl, X, h0, turn, fin⟩ := h₂
  refine compBlock X hcell hkind hx h0 turn ?_
  intro D C h tk g m' ys nw F' N' oD lD hn hC₀ hD₀ hCL hDL hCD offC hS hJ
  refine ⟨m', hn, fun h'' hs'' => fin D h'' tk g ys nw (F'.change hs'' hCL hC₀) (fun p hp => ?_) oD lD hS hJ⟩
  refine ⟨hs''.extBut _ _ ?_ (N' p hp).1, (N' p hp).2⟩
  rcases List.mem_cons.mp hp with rfl | hp
  · exact Ne.symm hCD
  · exact offC p hp

theorem compAssign (_F₀ : Fr h₀ L s.heap m) {ifs : List PySem.Expr} {elt iter : PySem.Expr} {x y : PySem.Str} {px py : Pos} {scope : Scope} {cl : List (PySem.Str × Addr)} {pos spos : Pos} {Q : Flow → Shared → Prop} (hLe : env.locals = L)
    (hsw : swapsWith (.ListComp elt [⟨.Name x px, iter, ifs, 0⟩] scope pos) (some (.Name y py)) spos.line env = pure true)
    (hclos : closureFor scope env = pure cl) (hcell : ∀ z ∈ scope.names, z.2 ≠ .cell) (hkind : scope.kind = .function)
    (hnames : ∀ z ∈ scope.names, z.2 = .local → scope.names.lookup z.1 = some .local) (hx : scope.names.lookup x = some .local)
    (hy : env.kindOf y = some .local) (hp : (env.scope.kind == .class || (env.scope.kind == .module && env.locals != env.globals)) = false)
    (h : wpAny (model prog w) A (eval iter env) (fun xv s₁ => wpAny (model prog w) A (pyIter xv) (CompAt prog w A h₀ L m env ifs elt x scope cl (fun D z => if z = y then some (.ref D) else m z) (fun _ s => Q .next s)) E s₁) E s)
    (hs : ∀ x, foldedSetIterable iter env x = pure x := by intro _; rfl) :
    wpAny (model prog w) A (exec (.Assign [.Name y py] (.ListComp elt [⟨.Name x px, iter, ifs, 0⟩] scope pos) spos) env) Q E s := by
  subst hLe
  rw [exec_Assign_Name_used _ _ _ _ hsw]
  refine wpAny_bind (wpAny_standAt (wpAny_bind ?_))
  show wpAny _ A (do let _ ← comprehension (.ListComp elt [⟨.Name x px, iter, ifs, 0⟩] scope pos) scope env _ (newList []) false (eval iter env) (some (assign (.Name y py) env))) _ _ s
  refine wpAny_bind (wpAny_mono (wpAny_comprehension_free (use := some (assign (.Name y py) env)) (Q := fun _ s' => Q .next s') rfl hs hclos hkind hnames
    (wpAny_mono h (fun xv s₁ h₁ => wpAny_mono h₁ (fun it s₂ h₂ => ?_) fun _ _ e => e) fun _ _ e => e)) (fun _ s' hq => wpAny_pure (wpAny_pure hq)) fun _ _ e => e)
  obtain ⟨I, fp, n, P, St, S, news, J, rfl, X, h0, turn, fin⟩ := h₂
  refine compBlock X hcell hkind hx h0 turn ?_
  intro D C h' tk g m' ys nw F' N' oD lD hn hC₀ hD₀ hCL hDL hCD offC hS hJ
  show wpAny _ A (assign (.Name y py) env (.ref D)) _ _ _
  refine wpAny_assign_Name (wpAny_storeName_local hy F'.ns (fun h₂ hn₂ hs₂ => ?_) hp)
  have hL₀ : h₀.get? env.locals = none := Heap.get?_none_of_le F'.above
  have F₂ : Fr h₀ env.locals h₂ (fun z => if z = y then some (.ref D) else m z) := ⟨hn₂, fun b o e => hs₂.extBut b o (fun q => by rw [q, hL₀] at e; cases e) (F'.keep b o e), F'.above⟩
  refine ⟨m', hn.sameBut hs₂ hCL, fun h'' hs'' => fin D h'' _ g ys nw (F₂.change hs'' hCL hC₀) (fun p hp => ?_) oD lD hS hJ⟩
  have z : h₂.get? p.1 = some p.2 := hs₂.extBut _ _ (N' p hp).2.1 (N' p hp).1
  refine ⟨hs''.extBut _ _ ?_ z, (N' p hp).2⟩
  rcases List.mem_cons.mp hp with rfl | hp
  · exact Ne.symm hCD
  · exact offC p hp

theorem CTurn.plain {elt : PySem.Expr} {x : PySem.Str} {scope : Scope} {cl : List (PySem.Str × Addr)} {d : Drawn} {os : OsState} {I : Addr} {n : Nat} {P : Nat → Value → Prop} {St : Nat → Heap → Prop} {S : List (Addr × Obj) → Prop} {J : CJ}
    (t : ∀ i v ys nw oI C oC D m₂ h tk g (E' : Value → Shared → Prop), i < n → P i v → St (i + 1) h → J i ys nw g → S nw → NsObj oC m₂ → m₂ x = some v → Fr h₀ L h m → News h₀ L h ((I, oI) :: (C, oC) :: (D, lst ys) :: nw) →
    (∀ p ∈ nw, p.1 ≠ I ∧ p.1 ≠ C ∧ p.1 ≠ D) → ((@Ne Nat I C) ∧ (@Ne Nat I D) ∧ (@Ne Nat C D)) →
      wpAny (model prog w) A (eval elt (compEnvC scope cl C env)) (CEnd h₀ L m d os [(I, oI), (C, oC), (D, lst ys)] S (fun y nw' g' => J (i + 1) (ys ++ [y]) nw' g')) E' ⟨h, g, d, tk, os⟩) :
    CTurn prog w A h₀ L m env [] elt x scope cl d os I n P St S J := by
  intro i v ys nw oI C oC D m₂ h tk g E' a b c e f g' hh i' j k l
  refine wpAny_tests_nil ?_
  simp only [if_true]
  exact t i v ys nw oI C oC D m₂ h tk g E' a b c e f g' hh i' j k l
theorem CTurn.test {ct elt : PySem.Expr} {x : PySem.Str} {scope : Scope} {cl : List (PySem.Str × Addr)} {d : Drawn} {os : OsState} {I : Addr} {n : Nat} {P : Nat → Value → Prop} {St : Nat → Heap → Prop} {S : List (Addr × Obj) → Prop} {J : CJ}
    (t : ∀ i v ys nw oI C oC D m₂ h tk g (E' : Value → Shared → Prop), i < n → P i v → St (i + 1) h → J i ys nw g → S nw → NsObj oC m₂ → m₂ x = some v → Fr h₀ L h m → News h₀ L h ((I, oI) :: (C, oC) :: (D, lst ys) :: nw) →
    (∀ p ∈ nw, p.1 ≠ I ∧ p.1 ≠ C ∧ p.1 ≠ D) → ((@Ne Nat I C) ∧ (@Ne Nat I D) ∧ (@Ne Nat C D)) →
      wpAny (model prog w) A (PySem.isTrue ct (compEnvC scope cl C env) (eval ct (compEnvC scope cl C env))) (fun ok s' => if ok = true then
      wpAny (model prog w) A (eval elt (compEnvC scope cl C env)) (CEnd h₀ L m d os [(I, oI), (C, oC), (D, lst ys)] S (fun y nw' g' => J (i + 1) (ys ++ [y]) nw' g')) E' s'
      else CEnd h₀ L m d os [(I, oI), (C, oC), (D, lst ys)] S (fun _ nw' g' => J (i + 1) ys nw' g') Value.none s') E' ⟨h, g, d, tk, os⟩) :
    CTurn prog w A h₀ L m env [ct] elt x scope cl d os I n P St S J := by
  intro i v ys nw oI C oC D m₂ h tk g E' a b c e f g' hh i' j k l
  exact wpAny_tests_one (t i v ys nw oI C oC D m₂ h tk g E' a b c e f g' hh i' j k l)
end
end Mine
end
section
open PySem PySem.W PySem.Calls PyProof.Rows
set_option Elab.async false
set_option maxRecDepth 100000
set_option maxHeartbeats 2000000
namespace Mine
open PyProof.Rows.LCg
section
variable {prog : Program} {w : World} {A : Around} {E : Value → Shared → Prop} {s : Shared} {h₀ : Heap} {L : Addr} {m : PySem.Str → Option Value} {env : Env} {news : List (Addr × Obj)} {Q : Value → Shared → Prop}
theorem fresh_next (F : Fr h₀ L s.heap m) : h₀.get? s.heap.objs.size = none := by
  cases e : h₀.get? s.heap.objs.size with
  | none => rfl
  | some o' => exact absurd (Heap.lt_size (F.keep _ o' e)) (Nat.lt_irrefl _)
theorem src_range {r : Addr} {a b : Int} {t u v : Tok} {n : Nat} (hh : A.handled = none) (F : Fr h₀ L s.heap m) (N : News h₀ L s.heap news) (hr : IsRange s.heap r a b 1 t u v) (hsm : Builtin.Range.small a b 1 = true) (hn : Builtin.Range.rangeSize a b 1 = ((n : Nat) : Int)) (hsz : n ≤ sizeLine)
    (h : ∀ I h', SrcOk prog w A h₀ L m I [I] n (fun i v => ∃ t, v = .int (a + (i : Int)) t) (fun i h => IsRangeIter h I (a + (i : Nat) * 1) ((n : Int) - (i : Nat)) 1) (fun _ => True) news { s with heap := h' } → Q (.ref I) { s with heap := h' }) :
    wpAny (model prog w) A (pyIter (.ref r)) Q E s := by
  refine wpAny_pyIter_range hr hsm (h _ _ ⟨range_walks hh a n, hsz, fun i h st => ⟨_, st⟩, range_st, ?_, ?_, F.keeps fun _ _ e => Heap.get?_push_of_some _ e, N.grown fun _ _ e => Heap.get?_push_of_some _ e, Nat.ne_of_lt F.ns.lt, fresh_next F, fun p hp => Heap.lt_size (N p hp).1, trivial⟩)
  · show IsRangeIter _ _ _ _ _
    rw [hn]; simpa using Heap.get?_push_size _ rfl
  · intro b hb
    rw [List.mem_singleton.mp hb]
    show s.heap.objs.size < (s.heap.push _).objs.size
    rw [Heap.size_push]; exact Nat.lt_succ_self _
theorem src_list {ax : Addr} {its : Array Value} {k : Nat} (hh : A.handled = none) (F : Fr h₀ L s.heap m) (N : News h₀ L s.heap news) (hm : (ax, PySem.W.listOf its k) ∈ news) (hsz : its.size ≤ sizeLine)
    (h : ∀ I h', SrcOk prog w A h₀ L m I [I, ax] its.size (fun i v => its[i]? = some v) (fun i h => h.IsListIter I ax i ∧ h.IsList ax its) (fun nw => (ax, PySem.W.listOf its k) ∈ nw) news { s with heap := h' } → Q (.ref I) { s with heap := h' }) :
    wpAny (model prog w) A (pyIter (.ref ax)) Q E s := by
  have hl : s.heap.IsList ax its := ⟨_, N.get hm, rfl, _, rfl⟩
  have hlt : ax < s.heap.objs.size := Heap.lt_size (N.get hm)
  refine wpAny_pyIter_list hl (h _ _ ⟨Walks.list hh s.heap.objs.size ax (Nat.ne_of_lt hlt) its, hsz, fun i h st => by obtain ⟨o, e, _⟩ := st.1; exact ⟨o, e⟩, ?_, ?_, ?_, F.keeps fun _ _ e => Heap.get?_push_of_some _ e, N.grown fun _ _ e => Heap.get?_push_of_some _ e, Nat.ne_of_lt F.ns.lt, fresh_next F, fun p hp => Heap.lt_size (N p hp).1, hm⟩)
  · rintro i h h' o nw st e e' _ N' hm'
    refine ⟨?_, ⟨_, N'.get hm', rfl, _, rfl⟩⟩
    obtain ⟨o', q, r⟩ := st.1
    rw [e] at q; cases q; exact ⟨o, e', r⟩
  · exact ⟨⟨_, Heap.get?_push_size _ rfl, rfl, rfl⟩, hl.push _⟩
  · intro b hb
    show b < (s.heap.push _).objs.size
    rw [Heap.size_push]
    rcases List.mem_cons.mp hb with rfl | hb
    · exact Nat.lt_succ_self _
    · rw [List.mem_singleton.mp hb]; exact Nat.lt_succ_of_lt hlt
theorem src_str {x : PySem.Str} {t : Tok} (hh : A.handled = none) (F : Fr h₀ L s.heap m) (N : News h₀ L s.heap news) (hsz : x.cps.size ≤ sizeLine)
    (h : ∀ I h' St, SrcOk prog w A h₀ L m I [I] x.cps.size (SignAt x) St (fun _ => True) news { s with heap := h' } → Q (.ref I) { s with heap := h' }) :
    wpAny (model prog w) A (pyIter (.str x t)) Q E s := by
  have low : ∀ (o : Obj), ∀ b ∈ [s.heap.objs.size], b < (s.heap.push o).objs.size := by
    intro o b hb
    rw [List.mem_singleton.mp hb, Heap.size_push]; exact Nat.lt_succ_self _
  cases ha : x.cps.all (· < 128)
  · refine wpAny_pyIter_wide ha (h _ _ _ ⟨Walks.strWide hh _ x t, hsz, fun i h st => by obtain ⟨o, e, _⟩ := st; exact ⟨o, e⟩, ?_, ⟨_, Heap.get?_push_size _ rfl, rfl, rfl⟩, low _, F.keeps fun _ _ e => Heap.get?_push_of_some _ e, N.grown fun _ _ e => Heap.get?_push_of_some _ e, Nat.ne_of_lt F.ns.lt, fresh_next F, fun p hp => Heap.lt_size (N p hp).1, trivial⟩)
    rintro i h h' o nw ⟨o', q, r⟩ e e' _ _ _
    rw [e] at q; cases q; exact ⟨o, e', r⟩
  · refine wpAny_pyIter_ascii ha (h _ _ _ ⟨Walks.strAscii hh _ x t, hsz, fun i h st => by obtain ⟨o, e, _⟩ := st; exact ⟨o, e⟩, ?_, ⟨_, Heap.get?_push_size _ rfl, rfl, rfl⟩, low _, F.keeps fun _ _ e => Heap.get?_push_of_some _ e, N.grown fun _ _ e => Heap.get?_push_of_some _ e, Nat.ne_of_lt F.ns.lt, fresh_next F, fun p hp => Heap.lt_size (N p hp).1, trivial⟩)
    rintro i h h' o nw ⟨o', q, r⟩ e e' _ _ _
    rw [e] at q; cases q; exact ⟨o, e', r⟩
theorem src_bytes {b : Array UInt8} {t : Tok} (hh : A.handled = none) (F : Fr h₀ L s.heap m) (N : News h₀ L s.heap news) (hsz : b.size ≤ sizeLine)
    (h : ∀ I h', SrcOk prog w A h₀ L m I [I] b.size (fun i v => ∃ c u, b[i]? = some c ∧ v = .int (c.toNat : Int) u) (fun i h => KBw.IsBytesIter h I b t i) (fun _ => True) news { s with heap := h' } → Q (.ref I) { s with heap := h' }) :
    wpAny (model prog w) A (pyIter (.bytes b t)) Q E s := by
  refine KBw.pyIter_bytes (h _ _ ⟨KBw.walks hh _ b t, hsz, fun i h st => by obtain ⟨o, e, _⟩ := st; exact ⟨o, e⟩, ?_, ⟨_, Heap.get?_push_size _ rfl, rfl, rfl⟩, ?_, F.keeps fun _ _ e => Heap.get?_push_of_some _ e, N.grown fun _ _ e => Heap.get?_push_of_some _ e, Nat.ne_of_lt F.ns.lt, fresh_next F, fun p hp => Heap.lt_size (N p hp).1, trivial⟩)
  · rintro i h h' o nw ⟨o', q, r⟩ e e' _ _ _
    rw [e] at q; cases q; exact ⟨o, e', r⟩
  · intro b' hb
    rw [List.mem_singleton.mp hb]
    show s.heap.objs.size < (s.heap.push _).objs.size
    rw [Heap.size_push]; exact Nat.lt_succ_self _
end
abbrev FJ := Nat → (PySem.Str → Option Value) → List (Addr × Obj) → Prop
def FEnd (h₀ : Heap) (L : Addr) (s : Shared) (pre : List (Addr × Obj)) (S : List (Addr × Obj) → Prop) (K : (PySem.Str → Option Value) → List (Addr × Obj) → Prop) (f : Flow) (s₂ : Shared) : Prop :=
  f = .next ∧ ∃ h' tk m' nw, s₂ = ⟨h', s.gens, s.drawn, tk, s.os⟩ ∧ Fr h₀ L h' m' ∧ News h₀ L h' (pre ++ nw) ∧ (∀ p ∈ nw, ∀ q ∈ pre, p.1 ≠ q.1) ∧ S nw ∧ K m' nw
theorem FEnd.intro {h₀ : Heap} {L : Addr} {s : Shared} {pre : List (Addr × Obj)} {S : List (Addr × Obj) → Prop} {K : (PySem.Str → Option Value) → List (Addr × Obj) → Prop} {h' : Heap} {tk : Nat} {m' : PySem.Str → Option Value} {all : List (Addr × Obj)}
    (F : Fr h₀ L h' m') (N : News h₀ L h' all) (nw : List (Addr × Obj)) (sub : ∀ p ∈ pre ++ nw, p ∈ all) (off : ∀ p ∈ nw, ∀ q ∈ pre, p.1 ≠ q.1) (hS : S nw) (hK : K m' nw) : FEnd h₀ L s pre S K .next ⟨h', s.gens, s.drawn, tk, s.os⟩ :=
  ⟨rfl, h', tk, m', nw, rfl, F, fun p hp => N p (sub p hp), off, hS, hK⟩
section
variable {prog : Program} {w : World} {A : Around} {E : Value → Shared → Prop} {s : Shared} {h₀ : Heap} {L : Addr} {m : PySem.Str → Option Value} {env : Env} {news : List (Addr × Obj)}
def ForAt (prog : Program) (w : World) (A : Around) (h₀ : Heap) (m : PySem.Str → Option Value) (env : Env) (x : PySem.Str) (body : List Stmt) (Q : Flow → Shared → Prop) (E : Value → Shared → Prop) (it : Value) (s₂ : Shared) : Prop :=
  ∃ (I : Addr) (fp : List Addr) (n : Nat) (P : Nat → Value → Prop) (St : Nat → Heap → Prop) (S : List (Addr × Obj) → Prop) (news : List (Addr × Obj)) (J : FJ), it = .ref I ∧ SrcOk prog w A h₀ env.locals m I fp n P St S news s₂ ∧ J 0 m news ∧
    (∀ i v (m₁ : PySem.Str → Option Value) nw oI h tk, i < n → P i v → J i m₁ nw → S nw → Fr h₀ env.locals h (fun y => if y = x then some v else m₁ y) → News h₀ env.locals h ((I, oI) :: nw) → (∀ p ∈ nw, p.1 ≠ I) →
      wpAny (model prog w) A (execs body env) (FEnd h₀ env.locals s₂ [(I, oI)] S (J (i + 1))) E ⟨h, s₂.gens, s₂.drawn, tk, s₂.os⟩) ∧
    ∀ m₁ nw h tk, J n m₁ nw → S nw → Fr h₀ env.locals h m₁ → News h₀ env.locals h nw → Q .next ⟨h, s₂.gens, s₂.drawn, tk, s₂.os⟩
theorem forN (_F₀ : Fr h₀ env.locals s.heap m) {x : PySem.Str} {px : Pos} {iter : PySem.Expr} {body : List Stmt} {pos : Pos} {Q : Flow → Shared → Prop} (hx : env.kindOf x = some .local) (hp : (env.scope.kind == .class || (env.scope.kind == .module && env.locals != env.globals)) = false)
    (h : wpAny (model prog w) A (eval iter env) (fun xv s₁ => wpAny (model prog w) A (pyIter xv) (ForAt prog w A h₀ m env x body Q E) E s₁) E s)
    (hs : ∀ x, foldedSetIterable iter env x = pure x := by intro _; rfl) (hE : PassesOwn (model prog w) A env E := by passes_own) :
    wpAny (model prog w) A (exec (.For (.Name x px) iter body [] pos) env) Q E s := by
  refine wpAny_For (wpAny_mono h (fun xv s₁ h₁ => wpAny_mono h₁ (fun it s₂ h₂ => ?_) fun _ _ e => e) fun _ _ e => e) hs
  obtain ⟨I, fp, n, P, St, S, news, J, rfl, ⟨W, hsz, hIo, hSt, hst, hfp, F, N, hIL, hI₀, off, hS⟩, h0, turn, fin⟩ := h₂
  refine codeAny_forLoop_any
    (fun k s' => ∃ h' tk i m' nw, s' = ⟨h', s₂.gens, s₂.drawn, tk, s₂.os⟩ ∧ i ≤ n ∧ k = n + 1 - i ∧ St i h' ∧ Fr h₀ env.locals h' m' ∧ News h₀ env.locals h' nw ∧ (∀ p ∈ nw, p.1 ≠ I) ∧ S nw ∧ J i m' nw) ?_ (n + 1)
    ⟨s₂.heap, s₂.toks, 0, m, news, rfl, Nat.zero_le _, rfl, hst, F, N, fun p hp => Nat.ne_of_lt (off p hp), hS, h0⟩
  rintro k s' ⟨h', tk, i, m', nw, rfl, hi, rfl, hst', F', N', off', hS', hJ⟩
  have hLf : env.locals ∉ [I] := by simpa using hIL
  by_cases hlt : i < n
  · refine W.item i _ _ _ hlt hst' fun v h₂ tk₂ hPv hst₂ hk₂ => ?_
    have F₂ : Fr h₀ env.locals h₂ m' := fr_but F' hk₂ hIL hI₀
    have N₂ : News h₀ env.locals h₂ nw := news_but N' hk₂ off'
    refine wpAny_of_eq (a := ()) rfl ?_
    refine wpAny_assign_Name (wpAny_storeName_local hx F₂.ns (fun h₃ hn₃ hs₃ => ?_) hp)
    have hL₀ : h₀.get? env.locals = none := Heap.get?_none_of_le F'.above
    have F₃ : Fr h₀ env.locals h₃ (fun z => if z = x then some v else m' z) := ⟨hn₃, fun b o e => hs₃.extBut b o (fun q => by rw [q, hL₀] at e; cases e) (F₂.keep b o e), F'.above⟩
    obtain ⟨oI, heI⟩ := hIo _ _ hst₂
    have heI₃ := hs₃.extBut I _ (Ne.symm hIL) heI
    have N₃ : News h₀ env.locals h₃ ((I, oI) :: nw) := fun p hp => by
      rcases List.mem_cons.mp hp with rfl | hp
      · exact ⟨heI₃, Ne.symm hIL, hI₀⟩
      · exact ⟨hs₃.extBut _ _ (N₂ p hp).2.1 (N₂ p hp).1, (N₂ p hp).2⟩
    refine wpAny_mono (wpAny_passesOwn hE (turn i v m' nw oI h₃ _ hlt hPv hJ hS' F₃ N₃ off')) (fun f s₄ h₄ => ?_) fun _ _ e => e
    obtain ⟨rfl, h₅, tk₅, m₅, nw₅, rfl, F₅, N₅, off₅, hS₅, hJ₅⟩ := h₄
    refine ⟨n + 1 - (i + 1), by omega, h₅, tk₅, i + 1, m₅, nw₅, rfl, hlt, rfl, ?_, F₅, fun p hp => N₅ p (List.mem_append_right _ hp), fun p hp => off₅ p hp (I, oI) (by simp), hS₅, hJ₅⟩
    exact hSt _ _ _ _ _ hst₂ heI (N₅ (I, oI) (by simp)).1 F₅.keep (fun p hp => N₅ p (List.mem_append_right _ hp)) hS₅
  · obtain rfl : i = n := Nat.le_antisymm hi (Nat.not_lt.mp hlt)
    refine W.done _ _ _ hst' fun h₂ tk₂ hk₂ => wpAny_execs_nil ?_
    exact fin m' nw h₂ tk₂ hJ hS' (fr_but F' hk₂ hIL hI₀) (news_but N' hk₂ off')
def StepE (h₀ : Heap) (L : Addr) (s : Shared) (J : FJ) (n : Nat) (f : Flow) (s₃ : Shared) : Prop :=
  f = .next ∧ ∃ h' tk m₂ news₂ n', s₃ = ⟨h', s.gens, s.drawn, tk, s.os⟩ ∧ Fr h₀ L h' m₂ ∧ News h₀ L h' news₂ ∧ n' < n ∧ J n' m₂ news₂
theorem StepE.intro {J : FJ} {n n' tk : Nat} {h' : Heap} {m₂ : PySem.Str → Option Value} {all : List (Addr × Obj)}
    (F : Fr h₀ L h' m₂) (N : News h₀ L h' all) (news₂ : List (Addr × Obj)) (sub : ∀ p ∈ news₂, p ∈ all) (hn : n' < n) (hJ : J n' m₂ news₂) : StepE h₀ L s J n .next ⟨h', s.gens, s.drawn, tk, s.os⟩ :=
  ⟨rfl, h', tk, m₂, news₂, n', rfl, F, newsSub N sub, hn, hJ⟩
theorem whileE {test : PySem.Expr} {body : List Stmt} {pos : Pos} {Q : Flow → Shared → Prop} (J : FJ) (n₀ : Nat)
    (F : Fr h₀ L s.heap m) (N : News h₀ L s.heap news) (hJ : J n₀ m news)
    (turn : ∀ n m₁ news₁ h₁ tk₁, Fr h₀ L h₁ m₁ → News h₀ L h₁ news₁ → J n m₁ news₁ →
      wpAny (model prog w) A (PySem.isTrue test env (eval test env)) (fun b s₂ =>
        if b = true then wpAny (model prog w) A (execs body env) (StepE h₀ L s J n) E s₂ else Q .next s₂) E ⟨h₁, s.gens, s.drawn, tk₁, s.os⟩)
    (hE : PassesOwn (model prog w) A env E := by passes_own) :
    wpAny (model prog w) A (exec (.While test body [] pos) env) Q E s := by
  refine wpAny_While (codeAny_whileLoop (fun n s' => ∃ h₁ tk₁ m₁ news₁, s' = ⟨h₁, s.gens, s.drawn, tk₁, s.os⟩ ∧ Fr h₀ L h₁ m₁ ∧ News h₀ L h₁ news₁ ∧ J n m₁ news₁) ?_ n₀ ⟨_, _, _, _, rfl, F, N, hJ⟩)
  rintro n s' ⟨h₁, tk₁, m₁, news₁, rfl, F₁, N₁, J₁⟩
  refine wpAny_mono (wpAny_passesOwn hE (turn n m₁ news₁ h₁ tk₁ F₁ N₁ J₁)) (fun b s₂ h₂ => ?_) fun _ _ x => x
  cases b with
  | false =>
    simp only [Bool.false_eq_true, if_false] at h₂ ⊢
    exact wpAny_execs_nil h₂
  | true =>
    simp only [if_true] at h₂ ⊢
    refine wpAny_mono (wpAny_passesOwn hE h₂) (fun f s₃ h₃ => ?_) fun _ _ x => x
    obtain ⟨rfl, h', tk, m₂, news₂, n', rfl, F₂, N₂, hn, J₂⟩ := h₃
    exact ⟨n', hn, h', tk, m₂, news₂, rfl, F₂, N₂, J₂⟩
end
end Mine
end
section
open PySem PySem.W PySem.Calls PyProof.Rows PySem.Builtin
set_option Elab.async false
set_option maxRecDepth 100000
set_option maxHeartbeats 1000000
namespace Mine
abbrev bIter (C : Array UInt8) (t : Tok) (j : Nat) : Obj := { cls := .type "bytes_iterator", data := .fields #[.bytes C t, .int j 0] }
abbrev bEnd (j : Nat) : Obj := { cls := .type "bytes_iterator", data := .fields #[.none, .int j 0] }
section
variable {prog : Program} {w : World} {A : Around} {E : Value → Shared → Prop} {s : Shared} {h₀ : Heap} {L : Addr} {m : PySem.Str → Option Value} {news : List (Addr × Obj)} {Q : Value → Shared → Prop} {C : Array UInt8} {t : Tok} {it : Addr} {j : Nat}
theorem iter_bytes (F : Fr h₀ L s.heap m) (N : News h₀ L s.heap news) (hq : ∀ x h', Fr h₀ L h' m → News h₀ L h' ((x, bIter C t 0) :: news) → (∀ p ∈ news, p.1 < x) → Q (.ref x) { s with heap := h' }) :
    wpAny (model prog w) A (call (.builtin "iter") [.bytes C t]) Q E s := by
  refine call_function_entry (by decide +kernel) (by decide +kernel) kdk_entry_iter (kdk_args_iter _) ?_
  unfold Builtin.«iter»
  refine wpAny_bind (m := someArgs "iter" 1 2 _) (wpAny_of_eq (a := [Value.bytes C t]) (by first | rfl | kernel_rfl!) ?_)
  show wpAny _ _ (pyIter (.bytes C t) >>= _) _ _ _
  refine wpAny_bind (KBw.pyIter_bytes ?_)
  exact wpAny_pure ⟨_, rfl, hq _ _ (F.push _) (N.push F _) fun p hp => Heap.lt_size (N p hp).1⟩
theorem next_item (F : Fr h₀ L s.heap m) (N : News h₀ L s.heap ((it, bIter C t j) :: news)) (hn : ∀ p ∈ news, p.1 ≠ it) {c : UInt8} (hc : C[j]? = some c)
    (hq : ∀ h', Fr h₀ L h' m → News h₀ L h' ((it, bIter C t (j + 1)) :: news) → Q (.int (c.toNat : Int) s.toks) { s with heap := h', toks := s.toks + 1 }) :
    wpAny (model prog w) A (call (.builtin "next") [.ref it]) Q E s := by
  have hm := N (it, bIter C t j) (.head _)
  obtain ⟨hp, g, d, tk, os⟩ := s
  have hT : (⟨hp, g, d, tk, os⟩ : Shared).TypeIs (.ref it) "bytes_iterator" := ⟨_, hm.1, rfl⟩
  have ho := hm.1
  refine call_function_entry (by decide +kernel) (by decide +kernel) kdk_entry_next (kdk_args_next _) ?_
  unfold Builtin.«next»
  refine wpAny_bind (m := someArgs "next" 1 2 _) (wpAny_of_eq (a := [Value.ref it]) (by first | rfl | kernel_rfl!) ?_)
  dsimp only
  refine wpAny_bind (wpAny_specialOf (name := PySem.Str.ofString "__next__") hT KBw.slot_next.lookup ?_)
  refine wpAny_ite_split (fun hab => absurd hab (by decide)) (fun _ => ?_)
  refine wpAny_bind (wpAny_callSpecial?_slot (name := PySem.Str.ofString "__next__") hT KBw.slot_next (wpAny_call_entry KBw.slot_next hT KBw.entry_next ?_ (KBw.args_next _)))
  have hd : (bIter C t j).data = .fields #[.bytes C t, .int j 0] := rfl
  show wpAny _ _ (field (.ref it) 0 >>= _) _ _ _
  refine wpAny_bind (wpAny_field ho hd (x := .bytes C t) rfl ?_)
  show wpAny _ _ (if (Value.bytes C t == Value.none) = true then _ else _) _ _ _
  rw [if_neg (show ¬ ((Value.bytes C t == Value.none) = true) from Bool.false_ne_true)]
  show wpAny _ _ (field (.ref it) 1 >>= _) _ _ _
  refine wpAny_bind (wpAny_field ho hd (x := .int j 0) rfl ?_)
  refine wpAny_bind (wpAny_of_eq (a := C) rfl ?_)
  simp only [Int.toNat_natCast, hc]
  have hs : Heap.SameBut it hp (hp.update it (Obj.mapFields (·.setIfInBounds 1 (rawInt ((j : Int) + 1))))) := Heap.SameBut.update ..
  refine wpAny_bind (wpAny_setField ho hd (by simp) (wpAny_bind (wpAny_mkInt (wpAny_pure ⟨_, rfl, wpAny_pure ⟨_, rfl, ?_⟩⟩))))
  refine hq _ (F.change hs hm.2.1 hm.2.2) (news_set (pre := []) N (fun p hp => by cases hp) hn hs ?_)
  rw [Heap.get?_update_self _ ho (Obj.isFreed_of_fields (Obj.data_mapFields hd _))]
  rfl
theorem next_stop (hh : A.handled = none) (F : Fr h₀ L s.heap m) (N : News h₀ L s.heap ((it, bIter C t j) :: news)) (hn : ∀ p ∈ news, p.1 ≠ it) (hc : C[j]? = none)
    (hq : ∀ h₁ h' e, Fr h₀ L h₁ m → News h₀ L h₁ ((it, bEnd j) :: news) → Heap.MadeExc h₁ h' e "StopIteration" [] → E (.ref e) { s with heap := h' }) :
    wpAny (model prog w) A (call (.builtin "next") [.ref it]) Q E s := by
  have hm := N (it, bIter C t j) (.head _)
  obtain ⟨hp, g, d, tk, os⟩ := s
  have hT : (⟨hp, g, d, tk, os⟩ : Shared).TypeIs (.ref it) "bytes_iterator" := ⟨_, hm.1, rfl⟩
  have ho := hm.1
  refine call_function_entry (by decide +kernel) (by decide +kernel) kdk_entry_next (kdk_args_next _) ?_
  unfold Builtin.«next»
  refine wpAny_bind (m := someArgs "next" 1 2 _) (wpAny_of_eq (a := [Value.ref it]) (by first | rfl | kernel_rfl!) ?_)
  dsimp only
  refine wpAny_bind (wpAny_specialOf (name := PySem.Str.ofString "__next__") hT KBw.slot_next.lookup ?_)
  refine wpAny_ite_split (fun hab => absurd hab (by decide)) (fun _ => ?_)
  refine wpAny_bind (wpAny_callSpecial?_slot (name := PySem.Str.ofString "__next__") hT KBw.slot_next (wpAny_call_entry KBw.slot_next hT KBw.entry_next ?_ (KBw.args_next _)))
  have hd : (bIter C t j).data = .fields #[.bytes C t, .int j 0] := rfl
  show wpAny _ _ (field (.ref it) 0 >>= _) _ _ _
  refine wpAny_bind (wpAny_field ho hd (x := .bytes C t) rfl ?_)
  show wpAny _ _ (if (Value.bytes C t == Value.none) = true then _ else _) _ _ _
  rw [if_neg (show ¬ ((Value.bytes C t == Value.none) = true) from Bool.false_ne_true)]
  show wpAny _ _ (field (.ref it) 1 >>= _) _ _ _
  refine wpAny_bind (wpAny_field ho hd (x := .int j 0) rfl ?_)
  refine wpAny_bind (wpAny_of_eq (a := C) rfl ?_)
  simp only [Int.toNat_natCast, hc]
  have hs : Heap.SameBut it hp (hp.update it (Obj.mapFields (·.setIfInBounds 0 Value.none))) := Heap.SameBut.update ..
  refine wpAny_bind (wpAny_rule (wpAny_bind (wpAny_setField ho hd (by simp) ?_)))
  show wpAny _ _ (newExc (.type "StopIteration") [] >>= _) _ _ _
  refine wpAny_bind ?_
  simp only [newExc, newTuple]
  refine wpAny_bind (wpAny_newObj_type ?_ (by size_fits))
  refine wpAny_bind (m := firstArgMember _ _) (wpAny_of_eq (a := Value.none) (by first | rfl | (simp only [firstArgMember]; rfl)) ?_)
  refine wpAny_newObj_type ?_ (by size_fits)
  simp only [raiseNew]
  refine wpAny_bind (wpAny_handled ?_)
  rw [show A.in1.in1.handled = none from hh]
  refine wpAny_bind (wpAny_pure (wpAny_throw ?_))
  have hu : (hp.update it (Obj.mapFields (·.setIfInBounds 0 Value.none))).get? it = some (bEnd j) := by
    rw [Heap.get?_update_self _ ho (Obj.isFreed_of_fields (Obj.data_mapFields hd _))]
    rfl
  generalize hp.update it (Obj.mapFields (·.setIfInBounds 0 Value.none)) = h₁ at hs hu
  refine hq h₁ _ _ (F.change hs hm.2.1 hm.2.2) (news_set (pre := []) N (fun p hp => by cases hp) hn hs hu) ⟨fun b o e => Heap.get?_push_of_some _ (Heap.get?_push_of_some _ e), ?_, h₁.objs.size, ?_, ?_, ?_⟩
  · exact Heap.get?_none_of_le (by rw [Heap.size_push]; omega)
  · exact Heap.get?_push_size _ rfl
  · exact Heap.get?_none_of_le (Nat.le_refl _)
  · exact Heap.get?_push_of_some _ (Heap.get?_push_size _ rfl)
end
end Mine
end
section
open PySem PySem.W PySem.Calls PyProof.Rows PySem.Builtin
set_option Elab.async false
set_option maxRecDepth 100000
set_option maxHeartbeats 1000000
namespace Mine
theorem bnolen : typeLookup (.type "bytes_iterator") (PySem.Str.ofString "__len__") = pure none := by rw [typeLookup_type, builtinLookup_eq_fast]; kernel_rfl
theorem bhint : typeLookup (.type "bytes_iterator") (PySem.Str.ofString "__length_hint__") = pure (some (.builtin "bytes_iterator.__length_hint__")) := by rw [typeLookup_type, builtinLookup_eq_fast]; kernel_rfl
theorem slot_bhint : Slot "bytes_iterator" (PySem.Str.ofString "__length_hint__") "bytes_iterator.__length_hint__" :=
  .of (owner := "bytes_iterator") (n := "__length_hint__") (by rw [typeLookup_type, builtinLookup_eq_fast]; kernel_rfl) (by decide +kernel) (by decide +kernel) (by decide +kernel)
    (by first | exact .inl (by decide +kernel) | exact .inr (by decide +kernel)) (by rw [isSubtype_type]; kernel_rfl)
theorem entry_bhint : entryFor table "bytes_iterator.__length_hint__" = some Builtin.«bytes_iterator.__length_hint__» := entryFor_of_tree (by kernel_rfl)
theorem args_bhint (a : Value) : argsOk "bytes_iterator.__length_hint__" ⟨[a], []⟩ := by unfold argsOk; kernel_rfl
section
variable {prog : Program} {w : World} {A : Around} {E : Value → Shared → Prop} {s : Shared} {h₀ : Heap} {L : Addr} {m : PySem.Str → Option Value} {news : List (Addr × Obj)} {Q : Value → Shared → Prop} {C : Array UInt8} {t : Tok} {it : Addr} {j : Nat}
theorem walksFrom (hh : A.handled = none) (I : Addr) (hj : j ≤ C.size) :
    Walks prog w A I [I] [I] (C.size - j) (fun i v => ∃ c u, C[j + i]? = some c ∧ v = .int (c.toNat : Int) u) (fun i h => KBw.IsBytesIter h I C t (j + i)) where
  sub := fun _ hb => hb
  frame := fun _ _ _ st hk => let ⟨o, ho, r⟩ := st; ⟨o, hk I (by simp) o ho, r⟩
  item := fun i s Q E hi st hQ => by
    have hlt : j + i < C.size := by omega
    refine KBw.next_item st (c := C[j + i]) (by simp [hlt]) fun h' hit' hs' => ?_
    exact hQ _ h' (s.toks + 1) ⟨_, _, by simp [hlt], rfl⟩ hit' fun b o hb e => hs'.extBut b o (fun h => hb (by simp [h])) e
  done := fun s Q E st hQ => KBw.next_end hh st (by simp; omega) fun h' he' => hQ h' s.toks fun b o hb e => he' b o (fun h => hb (by simp [h])) e
  self := fun _ _ _ _ st hQ => KBw.pyIter_self st hQ
theorem list_bytesIter (hh : A.handled = none) (hj : j ≤ C.size) (hsz : C.size ≤ 1000) (Fh : Fr h₀ L s.heap m) (N : News h₀ L s.heap ((it, bIter C t j) :: news)) (hn : ∀ p ∈ news, p.1 ≠ it)
    (hq : ∀ x (vs : List Value) c h' tk, vs.length = C.size - j → Fr h₀ L h' m → News h₀ L h' ((x, PySem.W.listOf vs.toArray c) :: news) → (∀ p ∈ news, p.1 < x) → Q (.ref x) { s with heap := h', toks := tk }) :
    wpAny (model prog w) A (call (.type "list") [.ref it]) Q E s := by
  have hm := N (it, bIter C t j) (.head _)
  generalize hS0 : s.heap.objs.size = S
  have hne : S ≠ it := by rw [← hS0]; exact Nat.ne_of_gt (Heap.lt_size hm.1)
  have W := (walksFrom (prog := prog) (w := w) (t := t) (A := A.in1.in1) hh it hj).toS
  refine callType_codes (Q₁ := fun obj s₁ => obj = .ref S ∧ s₁ = { s with heap := s.heap.push { cls := .type "list", data := .seq #[] } }) F.called_list (F.typeCall_list_1 _) F.entry_list_init
    (code_list_new _ ⟨by rw [hS0], rfl⟩) fun obj s₁ h₁ => ?_
  obtain ⟨rfl, rfl⟩ := h₁
  have hS : (s.heap.push { cls := .type "list", data := .seq #[] }).get? S = some { cls := .type "list", data := .seq #[] } := by rw [← hS0]; exact Heap.get?_push_size _ rfl
  refine ⟨⟨_, hS, rfl⟩, F.args_list_init_2 _ _, ?_⟩
  have hit : (s.heap.push { cls := .type "list", data := .seq #[] }).get? it = some (bIter C t j) := Heap.get?_push_of_some _ hm.1
  have key : ∀ b o, b ≠ S → b ≠ it → s.heap.get? b = some o → (s.heap.push { cls := .type "list", data := .seq #[] }).get? b = some o := fun b o _ _ e => Heap.get?_push_of_some _ e
  obtain ⟨hp, g, d, tk, os⟩ := s
  generalize hp.push { cls := .type "list", data := .seq #[] } = h1 at hS hit key
  show wpAny _ _ (do let old ← Builtin.List.listItems (.ref S); Builtin.List.listUpdate (.ref S) (fun _ => #[]); letGo old.toList.reverse; Builtin.List.listExtendWith (.ref S) (.ref it) .none) _ _ _
  refine wpAny_bind ?_
  unfold Builtin.List.listItems
  refine wpAny_bind (wpAny_seqItems hS rfl (wpAny_pure ?_))
  show wpAny _ _ (updateSeq S (fun _ => #[]) >>= fun _ => letGo (#[] : Array Value).toList.reverse >>= fun _ => Builtin.List.listExtendWith (.ref S) (.ref it) .none) _ _ _
  refine wpAny_bind (wpAny_updateSeq hS rfl ?_)
  have hS₂ := Heap.get?_update_self (Obj.mapSeq (fun _ => (#[] : Array Value))) hS rfl
  have oth : ∀ b o, b ≠ S → h1.get? b = some o → (h1.update S (Obj.mapSeq (fun _ => (#[] : Array Value)))).get? b = some o :=
    fun b o hb e => (Heap.get?_update_other _ _ (Ne.symm hb)).trans e
  have hit₂ := oth _ _ hne.symm hit
  have key₂ : ∀ b o, b ≠ S → b ≠ it → hp.get? b = some o → (h1.update S (Obj.mapSeq (fun _ => (#[] : Array Value)))).get? b = some o := fun b o h2 h3 e => oth b o h2 (key b o h2 h3 e)
  generalize h1.update S (Obj.mapSeq (fun _ => (#[] : Array Value))) = h2 at hS₂ hit₂ key₂
  refine wpAny_bind (wpAny_letGo ?_)
  have hT : (⟨h2, g, d, tk, os⟩ : Shared).TypeIs (.ref it) "bytes_iterator" := ⟨_, hit₂, rfl⟩
  have hIt : KBw.IsBytesIter h2 it C t (j + 0) := ⟨_, hit₂, rfl, rfl⟩
  unfold Builtin.List.listExtendWith
  refine wpAny_bind (wpAny_typeOf hT ?_)
  have h1' : Builtin.List.listSameRef (.ref S) (.ref it) = false := by simp [Builtin.List.listSameRef, hne]
  rw [if_neg (by rw [h1']; decide)]
  refine wpAny_bind (W.self 0 _ _ _ hIt ?_)
  refine wpAny_bind (wpAny_holding ?_)
  unfold Builtin.List.listLengthHint
  refine wpAny_bind (wpAny_specialOf hT bnolen ?_)
  show wpAny _ _ (specialOf (Value.ref it) (PySem.Str.ofString "__length_hint__") >>= _) _ _ _
  refine wpAny_bind (wpAny_specialOf hT bhint ?_)
  (generalize hid : ("bytes_iterator.__length_hint__" : String) = id0; (fail_if_success (clear hid id0)); wp_delta; rw [show splitId id0 = some ("bytes_iterator", "__length_hint__") from by subst hid; decide +kernel]; subst hid)
  refine wpAny_bind (wpAny_isInstance (b := true) hT (by rw [isSubtype_type]; kernel_rfl) ?_)
  refine wpAny_pure ?_
  rw [if_neg (by decide)]
  have hSf : S ∉ [it] := by simpa using hne
  refine wpAny_pure ⟨plainId_quiet F.plain_extend_loop _, codeAny_extend_loopS W (by rw [sizeLine_eq]; omega) S hSf _ (C.size - j) 0 _ _ _ rfl (Nat.zero_le _) hIt hS₂ (ItemsOf.nil _) fun s' acc' c' hmv hS' hacc => ?_⟩
  refine ⟨rfl, ?_⟩
  have kp : ∀ b o, b ≠ S → b ≠ it → hp.get? b = some o → s'.heap.get? b = some o := fun b o h2' h3' e => hmv.heap b o (by simp; exact ⟨h2', h3'⟩) (key₂ b o h2' h3' e)
  have low : ∀ b o, hp.get? b = some o → b ≠ S := fun b o e => by rw [← hS0]; exact Nat.ne_of_lt (Heap.lt_size e)
  have := hq S acc'.toList c' s'.heap s'.toks (by simpa using hacc.1) ⟨Fh.ns.at fun o e => kp L o (low L o e) hm.2.1.symm e, fun b o e => kp b o (low b o (Fh.keep b o e)) (fun q => by rw [q, hm.2.2] at e; cases e) (Fh.keep b o e), Fh.above⟩ ?_ ?_
  · rw [← show s'.gens = g from hmv.gens, ← show s'.drawn = d from hmv.drawn, ← show s'.os = os from hmv.os] at this
    exact this
  · intro q hq'
    rcases List.mem_cons.mp hq' with rfl | h
    · refine ⟨by simpa using hS', ?_, ?_⟩
      · rw [← hS0]; exact Nat.ne_of_gt Fh.ns.lt
      · exact Heap.get?_none_of_le (by rw [← hS0]; exact Nat.le_trans Fh.above (Nat.le_of_lt Fh.ns.lt))
    · have n := N q (.tail _ h)
      exact ⟨kp _ _ (low _ _ n.1) (hn q h) n.1, n.2⟩
  · intro q h
    rw [← hS0]
    exact Heap.lt_size (N q (.tail _ h)).1
end
end Mine
end
section
open PySem PySem.W PySem.Calls PyProof.Rows
set_option Elab.async false
set_option maxRecDepth 100000
set_option maxHeartbeats 1000000
namespace Mine
def SpecL (w : World) (f : Addr) (vs : List Value) (news : List (Addr × Obj)) (Post : Value → List (Addr × Obj) → Prop) : Prop :=
  ∀ (p : Program) (loose : List PySem.Str) (mean : ExcName → Option Value) (mg mb : PySem.Str → Option Value) (dp un : Nat) (gd : Option (List Code)) (cn : PySem.Str) (cs : Scope) (a : Addr) (ccd : Value) (cl : List (PySem.Str × Addr)) (outer : List Env) (A₀ : Around) (base h₀ : Heap) (L : Addr) (m : PySem.Str → Option Value) (s : Shared) (Q E : Value → Shared → Prop),
    Below A₀ base outer h₀ → Fr h₀ L s.heap m → (Mine.heapK w.params).In h₀ → News h₀ L s.heap news → Top p loose mean mg mb h₀ → CodeAll [(68, 64)] h₀ → cs.kind = .function → dp ≤ 500 → un ≤ 500 → AllBare s.gens →
    (∀ v news' h' tk', Fr h₀ L h' m → News h₀ L h' news' → Post v news' → Q v ⟨h', s.gens, s.drawn, tk', s.os⟩) →
    wpAny (model PySem.Challenge.rw_qw0005_01.row.prog w) (ktrTop dp un gd cn cs L a ccd cl outer) (call (.ref f) vs) Q E s
def oct (B : Array UInt8) (k : Nat) : Nat := (B.getD k 0).toNat
def goesOn (B : Array UInt8) (k : Nat) : Bool := oct B k / 64 % 2 == 1
def numB (B : Array UInt8) (p : Nat) : Nat → Nat
  | 0 => 0
  | j + 1 => numB B p j * 64 + oct B (p + j) % 64
def stopB (B : Array UInt8) (p : Nat) : Option Nat := (List.range (B.size - p)).find? fun j => !goesOn B (p + j)
def datOf (B : Array UInt8) (p : Nat) : Dat :=
  match stopB B p with
  | some j => .list [.int (numB B p (j + 1) : Nat), .int ((j + 1 : Nat) : Int)]
  | none => .none
def AddPost (news : List (Addr × Obj)) (d : Dat) (v : Value) (news' : List (Addr × Obj)) : Prop :=
  ∃ add, news' = add ++ news ∧ (∀ p ∈ add, ∀ q ∈ news, p.1 ≠ q.1) ∧ DatIn add v d
end Mine
end
section
open PySem PySem.W PySem.Calls PyProof.Rows
set_option Elab.async false
set_option maxRecDepth 100000
set_option maxHeartbeats 1000000
namespace Mine
def dropB (b : Array UInt8) (p : Nat) : Array UInt8 := (b.toList.drop p).toArray
def takeB (b : Array UInt8) (p n : Nat) : Array UInt8 := ((b.toList.drop p).take n).toArray
theorem dropB_size (b : Array UInt8) (p : Nat) : (dropB b p).size = b.size - p := by simp [dropB]
theorem dropB_get (b : Array UInt8) (p j : Nat) : (dropB b p)[j]? = b[p + j]? := by simp [dropB]
theorem takeB_size (b : Array UInt8) (p n : Nat) : (takeB b p n).size = min n (b.size - p) := by simp [takeB]
theorem takeB_get (b : Array UInt8) (p n j : Nat) (h : j < n) : (takeB b p n)[j]? = b[p + j]? := by simp [takeB, h]
section
variable {prog : Program} {w : World} {A : Around} {E : Value → Shared → Prop} {s : Shared} {value slice : PySem.Expr} {b : Array UInt8} {t u v : Tok} {h₀ : Heap} {L : Addr} {m : PySem.Str → Option Value} {news : List (Addr × Obj)} {Q : Value → Shared → Prop} {p q : Nat}
theorem cut_from (hF : Fr h₀ L s.heap m) (hN : News h₀ L s.heap news) (hp : p ≤ b.size) (hz : b.size ≤ 1000)
    (h : ∀ h' t' k, Fr h₀ L h' m → News h₀ L h' news → Q (.bytes (dropB b p) t') { s with heap := h', toks := k })
    (hs : subscripted slice false (.bytes b t) (.ref s.heap.objs.size) = operate [.ref s.heap.objs.size, .bytes b t] (getItem (.bytes b t) (.ref s.heap.objs.size)) := by with_unfolding_all rfl)
    (ht : ∀ r, letTemporaryGo value (.bytes b t) r = pure () := by intro _; with_unfolding_all rfl) :
    wpAny (model prog w) A (subscriptTail value slice (.bytes b t) (.ref s.heap.objs.size)) Q E { s with heap := s.heap.push { cls := .type "slice", data := .fields #[.int (p : Int) u, .none, .none] } } := by
  refine KBc.slice_K (lo := some (p : Int)) (hi := none) hF hN rfl (by constructor) (by constructor) (by rw [KBw.ints_length]; omega) (fun h' t' k F' N' _ => ?_) hs ht
  have e : KBy.picked b (some (p : Int)) none = dropB b p := by
    rw [KBc.picked_eq]
    simp only [Option.elim, clipAt_nat, Nat.min_eq_left hp]
    rw [List.take_of_length_le (by simp)]; rfl
  rw [e]
  exact h h' t' k F' N'
theorem cut_range (hF : Fr h₀ L s.heap m) (hN : News h₀ L s.heap news) (hp : p + q ≤ b.size) (hz : b.size ≤ 1000)
    (h : ∀ h' t' k, Fr h₀ L h' m → News h₀ L h' news → Q (.bytes (takeB b p q) t') { s with heap := h', toks := k })
    (hs : subscripted slice false (.bytes b t) (.ref s.heap.objs.size) = operate [.ref s.heap.objs.size, .bytes b t] (getItem (.bytes b t) (.ref s.heap.objs.size)) := by with_unfolding_all rfl)
    (ht : ∀ r, letTemporaryGo value (.bytes b t) r = pure () := by intro _; with_unfolding_all rfl) :
    wpAny (model prog w) A (subscriptTail value slice (.bytes b t) (.ref s.heap.objs.size)) Q E { s with heap := s.heap.push { cls := .type "slice", data := .fields #[.int (p : Int) u, .int ((p : Int) + (q : Int)) v, .none] } } := by
  refine KBc.slice_K (lo := some (p : Int)) (hi := some ((p : Int) + (q : Int))) hF hN rfl (by constructor) (by constructor) (by rw [KBw.ints_length]; omega) (fun h' t' k F' N' _ => ?_) hs ht
  have e : KBy.picked b (some (p : Int)) (some ((p : Int) + (q : Int))) = takeB b p q := by
    rw [KBc.picked_eq]
    rw [show (p : Int) + (q : Int) = ((p + q : Nat) : Int) by omega]
    simp only [Option.elim, clipAt_nat, Nat.min_eq_left (show p ≤ b.size by omega), Nat.min_eq_left hp]
    rw [show p + q - p = q by omega]; rfl
  rw [e]
  exact h h' t' k F' N'
theorem item_at {k : Int} {ui : Tok} {c : UInt8} (h0 : 0 ≤ k) (hc : b[k.toNat]? = some c) (hz : b.size ≤ 1000) (h : Q (.int (c.toNat : Int) s.toks) { s with toks := s.toks + 1 })
    (hs : subscripted slice false (.bytes b t) (.int k ui) = operate [.bytes b t, .int k ui] (getItem (.bytes b t) (.int k ui)) := by with_unfolding_all rfl)
    (ht : ∀ r, letTemporaryGo value (.bytes b t) r = pure () := by intro _; with_unfolding_all rfl) : wpAny (model prog w) A (subscriptTail value slice (.bytes b t) (.int k ui)) Q E s := by
  have hlt : k.toNat < b.size := by
    rcases Nat.lt_or_ge k.toNat b.size with h | h
    · exact h
    · rw [Array.getElem?_eq_none h] at hc; cases hc
  refine tail_of_ItemOn ⟨"bytes", _, FB.slot_bytes_getitem.lookup, typeIs_bytes _ _ _, ?_⟩ hs ht
  refine getItem_gives (typeIs_bytes s _ t) (by decide) FB.slot_bytes_getitem FB.entry_bytes_getitem (FB.args_bytes_getitem_2 _ _) (gives_bytes_getitem _ k t ui c ?_ ?_) h
  · simp only [Builtin.Bytes.fitsIndex, Bool.and_eq_true, decide_eq_true_eq]; omega
  · have : seqIndex? k b.size = some k.toNat := by
      have hn : ¬ k < 0 := by omega
      have h1 : k < b.size := by omega
      simp [seqIndex?, hn, h0, h1]
    rw [this]; exact hc
end
end Mine
end
section
open PySem PySem.W PySem.Calls PyProof.Rows
set_option Elab.async false
set_option maxRecDepth 100000
set_option maxHeartbeats 1000000
namespace Mine
def SpecR (w : World) (f : Addr) (vs : List Value) (news : List (Addr × Obj)) (Post : Value → List (Addr × Obj) → Prop) : Prop :=
  ∀ (p : Program) (loose : List PySem.Str) (mean : ExcName → Option Value) (mg mb : PySem.Str → Option Value) (dp un : Nat) (gd : Option (List Code)) (cn : PySem.Str) (cs : Scope) (a : Addr) (ccd : Value) (cl : List (PySem.Str × Addr)) (A₀ : Around) (h₀ : Heap) (L : Addr) (m : PySem.Str → Option Value) (s : Shared) (Q E : Value → Shared → Prop),
    Below A₀ h₀ [] h₀ → Fr h₀ L s.heap m → (Mine.heapK w.params).In h₀ → News h₀ L s.heap news → Top p loose mean mg mb h₀ → cs.kind = .function → dp ≤ 500 → un ≤ 500 →
    (∀ v news' h' tk', Fr h₀ L h' m → News h₀ L h' news' → Post v news' → Q v ⟨h', s.gens, s.drawn, tk', s.os⟩) →
    wpAny (model PySem.Challenge.rw_qw0005_01.row.prog w) (ktrTop dp un gd cn cs L a ccd cl []) (call (.ref f) vs) Q E s
section
variable {prog : Program} {w : World} {A₀ A : Around} {s : Shared} {base h₀ g₀ : Heap} {L a : Addr} {m : PySem.Str → Option Value} {env : Env} {news : List (Addr × Obj)} {K : Frag} {p : Program} {loose : List PySem.Str} {mean : ExcName → Option Value} {mg mb : PySem.Str → Option Value}
    {R : Result → Shared → Prop} {name qual : PySem.Str} {params : Arguments} {body : List Stmt} {scope : Scope} {dV kV doc pm cdv ct oc : Value} {an od : Option Addr} {osl : Array (Option Value)} {f : Addr} {args : Args} {binds : List (PySem.Str × Value)}
theorem enterT (B : Below A₀ base [] h₀) (F : Fr h₀ L s.heap m) (X₀ : K.In h₀) (N : News h₀ L s.heap news) (T : Top p loose mean mg mb h₀) (hA : A.frames = some [env]) (hf : env.frame = some L) (hke : env.scope.kind = .function)
    (ho : K.lookup f = some ⟨oc, od, .func (fnOf name qual params body scope dV kV doc pm an cdv ct), osl⟩) (hcd : codeIn K cdv qual = true) (hroom : A.depth < recursionLimit)
    (hbind : BindsTo s (fnOf name qual params body scope dV kV doc pm an cdv ct) args binds) (hloc : ∀ y ∈ binds, scope.names.lookup y.1 = some .local)
    (h : ∀ g L' h₁, Fr h₀ L g m → Fr g L' h₁ (fun y => binds.reverse.lookup y) → News g L' h₁ news → Below A base [env] g → K.In g → Top p loose mean mg mb g → KtsDicts ([env].filterMap (·.frame)) g → (∀ p ∈ news, p.1 < L') →
      wpAny (model prog w) (A.deeper (envOf qual scope L' f cdv)) (execs body (envOf qual scope L' f cdv))
        (fun fl s' => LeaveS0 ([env].filterMap (·.frame)) h₀ L m g R (match fl with | .ret v => v | _ => .none) s')
        (fun e s' => wpAny (model prog w) (A.deeper (envOf qual scope L' f cdv)) (leaving (envOf qual scope L' f cdv) e) (fun _ s'' => R (.error e) s'') (fun e' s'' => R (.error e') s'') s')
        { s with heap := h₁, toks := s.toks + binds.length })
    (hco : scope.isCoroutine = false) (hgen : scope.isGenerator = false) (hk : scope.kind = .function)
    (hcell : ∀ x ∈ scope.names, x.2 ≠ .cell) : codeAny (model prog w) A (.call (.ref f) args) R s := by
  have X := X₀.keeps F.keep
  refine codeAny_call_def (fd := fnOf name qual params body scope dV kV doc pm an cdv ct) (body := body) (binds := binds) hroom (X _ _ ho) rfl (T.nolimit.keeps F.keep) (codeRec_of X hcd) rfl hbind hcell hloc (fun h₁ hns hk₁ => ?_) hco hgen hk
  have nm : ∀ b o, h₀.get? b = some o → b ∉ news.map (·.1) := fun b o e q => by
    obtain ⟨p, hp, rfl⟩ := List.mem_map.mp q
    rw [(N p hp).2.2] at e; cases e
  have st : h₀.StaysIn (hideAll s.heap (news.map (·.1))) := fun b o e => hideAll_get _ (F.keep b o e) (nm b o e)
  obtain ⟨oL, es, ep, hL, hLd, hLk, hLf⟩ := F.ns
  have nL : L ∉ news.map (·.1) := fun q => by
    obtain ⟨p, hp, e⟩ := List.mem_map.mp q
    exact (N p hp).2.1 e
  have hLg := hideAll_get (news.map (·.1)) hL nL
  have B₁ := pushX B F hf hke
  have onlyL : ∀ b, b ∈ [env].filterMap (·.frame) → b = L := by
    intro b hb
    simpa [hf] using hb
  have nL₀ : h₀.get? L = none := kts_self F
  have B₂ : Below A base [env] (hideAll s.heap (news.map (·.1))) := ⟨hA, fun b o e => st b o (B.stays b o e), funFrames_hideAll B₁.frames fun env' he b hb hf' => by
    rw [List.mem_singleton.mp he, hf] at hf'
    exact nL ((Option.some.inj hf' : L = b) ▸ hb)⟩
  refine wpAny_mono (h _ s.heap.objs.size h₁ ⟨⟨oL, es, ep, hLg, hLd, hLk, hLf⟩, st, F.above⟩ ⟨hns, fun b o e => hk₁ b o (of_hideAll _ e), Nat.le_of_eq (hideAll_size _ _)⟩
    (fun p hp => ⟨hk₁ _ _ (N p hp).1, Nat.ne_of_lt (Heap.lt_size (N p hp).1), hideAll_none _ (List.mem_map_of_mem hp)⟩) B₂ (X₀.keeps st) (T.keeps st) (fun b hb => by
      rw [onlyL b hb]; exact ⟨oL, es, ep, hLg, hLd⟩) (fun p hp => Heap.lt_size (N p hp).1)) (fun fl s' hl => ?_) fun _ _ y => y
  obtain ⟨g', L', m', news', T', F', N', k⟩ := hl
  obtain ⟨sl, hs⟩ := T'.up hLg
  refine k ⟨⟨_, es, ep, F'.keep _ _ hs, hLd, hLk, hLf⟩, fun b o e => F'.keep b o (T'.other b o (st b o e) (fun q => by
    rw [onlyL b q, nL₀] at e; cases e)), F.above⟩ fun p hp => ⟨(N' p hp).1, fun q => ?_, ?_⟩
  · have := (N' p hp).2.2; rw [q, hs] at this; cases this
  · cases q : h₀.get? p.1 with
    | none => rfl
    | some o =>
      obtain ⟨sl', hs'⟩ := T'.up (st _ _ q)
      have := (N' p hp).2.2
      rw [hs'] at this
      cases this
end
theorem sub_stop : isSubtype (.type "StopIteration") (.type "StopIteration") = pure true := by rw [isSubtype_type]; kernel_rfl
theorem isExc_stop : isSubtype (.type "StopIteration") (.type "BaseException") = pure true := by rw [isSubtype_type]; kernel_rfl
theorem notTuple_stop : isSubtype (.type ((Manifest.find? "StopIteration").elim "type" fun y => y.metatype)) (.type "tuple") = pure false := by
  rw [show (Manifest.find? "StopIteration").elim "type" (fun y => y.metatype) = "type" by decide +kernel, isSubtype_type]; kernel_rfl
theorem boot_stop : bootBuiltins (PySem.Str.ofString "StopIteration") = some (.type "StopIteration") := PyProof.Rows.Boot.«StopIteration»
end Mine
end
section
open PySem PySem.W PySem.Calls PyProof.Rows
set_option Elab.async false
set_option maxRecDepth 100000
set_option maxHeartbeats 1000000
namespace Mine
theorem and63 (x : Nat) : Builtin.bitAnd (x : Int) 63 = ((x % 64 : Nat) : Int) := by
  have := kbt_mask (x : Int) 6
  rw [show (2 : Int) ^ 6 - 1 = 63 by decide, show (2 : Int) ^ 6 = 64 by decide] at this
  rw [this]; omega
theorem and64 (x : Nat) : Builtin.bitAnd (x : Int) 64 = ((x / 64 % 2 * 64 : Nat) : Int) := by
  have := kbt_bit (x : Int) 6
  rw [show (2 : Int) ^ 6 = 64 by decide] at this
  rw [this]; omega
theorem and_apart (n r : Nat) (h : r < 64) : (n * 64) &&& r = 0 := by
  rw [show n * 64 = n <<< 6 by rw [Nat.shiftLeft_eq]]
  apply Nat.eq_of_testBit_eq
  intro i
  rw [Nat.testBit_and, Nat.testBit_shiftLeft, Nat.zero_testBit]
  by_cases hi : i < 6
  · have h6 : ¬ 6 ≤ i := by omega
    simp [h6]
  · have : r.testBit i = false := Nat.testBit_lt_two_pow (Nat.lt_of_lt_of_le h (show 2 ^ 6 ≤ 2 ^ i from Nat.pow_le_pow_right (by decide) (by omega)))
    simp [this]
theorem or64 (n r : Nat) (h : r < 64) : Builtin.bitOr (((n * 64 : Nat)) : Int) ((r : Nat) : Int) = ((n * 64 + r : Nat) : Int) := by
  have e : Builtin.bitAnd (((n * 64 : Nat)) : Int) ((r : Nat) : Int) = (((n * 64) &&& r : Nat) : Int) := by
    generalize n * 64 = y
    unfold Builtin.bitAnd
    simp
  rw [bitOr_and, e, and_apart n r h]
  omega
theorem bits_le {n : Nat} {k : Nat} (h : n < 2 ^ k) : Builtin.Int.intBits (n : Int) ≤ k := by
  unfold Builtin.Int.intBits
  split
  · exact Nat.zero_le _
  · rename_i h0
    have hn : n ≠ 0 := by simpa using h0
    have : (n : Int).natAbs.log2 < k := by
      rw [Int.natAbs_natCast]
      exact (Nat.log2_lt hn).mpr h
    omega
section
variable {prog : Program} {w : World} {A : Around} {E : Value → Shared → Prop} {s : Shared} {t u : Tok} {Q : Value → Shared → Prop}
theorem op_and63 {x : Nat} (h : Q (.int ((x % 64 : Nat) : Int) s.toks) { s with toks := s.toks + 1 }) : wpAny (model prog w) A (binaryOp .BitAnd (.int (x : Int) t) (.int 63 u)) Q E s := and_int (by rw [and63]; exact h)
theorem op_and64 {x : Nat} (h : Q (.int ((x / 64 % 2 * 64 : Nat) : Int) s.toks) { s with toks := s.toks + 1 }) : wpAny (model prog w) A (binaryOp .BitAnd (.int (x : Int) t) (.int 64 u)) Q E s := and_int (by rw [and64]; exact h)
theorem op_shl {n : Nat} (hn : n < 2 ^ 200) (h : Q (.int ((n * 64 : Nat) : Int) s.toks) { s with toks := s.toks + 1 }) : wpAny (model prog w) A (inplaceOp .LShift (.int (n : Int) t) (.int 6 u)) Q E s := by
  refine ilshift_int (by decide) (by have := bits_le hn; omega) ?_
  rw [show (n : Int) * 2 ^ (6 : Int).toNat = ((n * 64 : Nat) : Int) by rw [show (2 : Int) ^ (6 : Int).toNat = 64 by decide]; omega]
  exact h
theorem op_or {n r : Nat} (hr : r < 64) (h : Q (.int ((n * 64 + r : Nat) : Int) s.toks) { s with toks := s.toks + 1 }) : wpAny (model prog w) A (inplaceOp .BitOr (.int ((n * 64 : Nat) : Int) t) (.int ((r : Nat) : Int) u)) Q E s := ior_int (by rw [or64 n r hr]; exact h)
end
theorem numB_lt (B : Array UInt8) (p : Nat) : ∀ j, numB B p j < 64 ^ j
  | 0 => by simp [numB]
  | j + 1 => by
    have := numB_lt B p j
    rw [numB, Nat.pow_succ]
    have := Nat.mod_lt (oct B (p + j)) (show 0 < 64 by decide)
    omega
theorem numB_small (B : Array UInt8) (p : Nat) {j : Nat} (h : j ≤ 20) : numB B p j < 2 ^ 200 := by
  refine Nat.lt_of_lt_of_le (numB_lt B p j) ?_
  exact Nat.le_trans (Nat.pow_le_pow_right (by decide) h) (by decide)
theorem oct_get {B : Array UInt8} {k : Nat} {c : UInt8} (h : B[k]? = some c) : oct B k = c.toNat := by
  unfold oct
  rw [Array.getD_eq_getD_getElem?, h]; rfl
end Mine
namespace Mine
theorem datOf_none {B : Array UInt8} {p : Nat} (h : ∀ k, p ≤ k → k < B.size → goesOn B k = true) : datOf B p = .none := by
  have : stopB B p = none := by
    unfold stopB
    rw [List.find?_eq_none]
    intro j hj
    have := List.mem_range.mp hj
    simp [h (p + j) (by omega) (by omega)]
  unfold datOf
  rw [this]
theorem stopB_some {B : Array UInt8} {p j : Nat} (hj : p + j < B.size) (hs : goesOn B (p + j) = false) (h : ∀ i, i < j → goesOn B (p + i) = true) : stopB B p = some j := by
  unfold stopB
  rw [List.find?_range_eq_some]
  refine ⟨by simp [hs], by simp; omega, fun i hi => by simp [h i hi]⟩
theorem datOf_some {B : Array UInt8} {p j : Nat} (hj : p + j < B.size) (hs : goesOn B (p + j) = false) (h : ∀ i, i < j → goesOn B (p + i) = true) : datOf B p = .list [.int (numB B p (j + 1) : Nat), .int ((j + 1 : Nat) : Int)] := by
  unfold datOf
  rw [stopB_some hj hs h]
theorem datIn_none {news : List (Addr × Obj)} {d : Dat} (h : d = .none) : DatIn news .none d := by rw [h]; exact .none
theorem goes_iff (B : Array UInt8) (k : Nat) : goesOn B k = true ↔ oct B k / 64 % 2 = 1 := by unfold goesOn; simp
section
variable {prog : Program} {w : World} {A : Around} {E : Value → Shared → Prop} {s : Shared} {h₀ : Heap} {L : Addr} {m : PySem.Str → Option Value} {news : List (Addr × Obj)} {Q : Value → Shared → Prop} {B : Array UInt8} {t : Tok} {it : Addr} {j p : Nat}
theorem next_oct (F : Fr h₀ L s.heap m) (N : News h₀ L s.heap ((it, bIter (dropB B p) t j) :: news)) (hn : ∀ q ∈ news, q.1 < it) (hj : p + j < B.size)
    (hq : ∀ h', Fr h₀ L h' m → News h₀ L h' ((it, bIter (dropB B p) t (j + 1)) :: news) → Q (.int ((oct B (p + j) : Nat) : Int) s.toks) { s with heap := h', toks := s.toks + 1 }) :
    wpAny (model prog w) A (call (.builtin "next") [.ref it]) Q E s := by
  have e : (dropB B p)[j]? = some B[p + j] := by rw [dropB_get]; simp [hj]
  refine next_item F N (fun q hq => Nat.ne_of_lt (hn q hq)) e fun h' F' N' => ?_
  have := hq h' F' N'
  rw [oct_get (c := B[p + j]) (by simp [hj])] at this
  exact this
end
end Mine
namespace Mine
theorem intEqL {z z' : Int} {t : Tok} (h : z = z') : some (Value.int z t) = some (Value.int z' t) := by rw [h]
theorem numB_one (B : Array UInt8) (p : Nat) : numB B p (0 + 1) = oct B (p + 0) % 64 := by show 0 * 64 + oct B (p + 0) % 64 = _; omega
theorem goes_of_ne {B : Array UInt8} {k : Nat} (h : ((oct B k / 64 % 2 * 64 : Nat) : Int) ≠ 0) : goesOn B k = true := by
  rw [goes_iff]
  omega
theorem goes_of_eq {B : Array UInt8} {k : Nat} (h : ¬ ((oct B k / 64 % 2 * 64 : Nat) : Int) ≠ 0) : goesOn B k = false := by
  cases hg : goesOn B k with
  | false => rfl
  | true =>
    rw [goes_iff] at hg
    omega
theorem lt_succ_cases {P : Nat → Prop} {j : Nat} (h : ∀ i, i < j → P i) (hj : P j) : ∀ i, i < j + 1 → P i := by
  intro i hi
  rcases Nat.lt_succ_iff_lt_or_eq.mp hi with h' | rfl
  · exact h i h'
  · exact hj
end Mine
namespace Mine
theorem AddPost.none {news : List (Addr × Obj)} {d : Dat} (h : d = .none) : AddPost news d .none news :=
  ⟨[], rfl, (fun _ hp => nomatch hp), datIn_none h⟩
theorem AddPost.pair {news : List (Addr × Obj)} {d : Dat} {x : Addr} {a b a' b' : Int} {t u : Tok} {c : Nat} (hl : ∀ q ∈ news, q.1 < x) (ha : a = a') (hb : b = b') (h : d = .list [.int a', .int b']) : AddPost news d (.ref x) ((x, PySem.W.listOf #[.int a t, .int b u] c) :: news) := by
  subst ha hb
  refine ⟨[(x, PySem.W.listOf #[.int a t, .int b u] c)], rfl, fun p hp q hq => ?_, ?_⟩
  · rw [List.mem_singleton.mp hp]; exact Nat.ne_of_gt (hl q hq)
  · rw [h]
    exact DatIn.list (vs := [.int a t, .int b u]) (List.mem_singleton.mpr rfl) (.cons (.int _ _) (.cons (.int _ _) .nil))
end Mine
end
section
open PySem PySem.W PyProof.Rows Mine
set_option Elab.async false
set_option maxRecDepth 100000
set_option maxHeartbeats 2000000
local macro_rules | `(tactic| walk_at "exec While") => `(tactic| (refine Halt.intro ?_))
local macro_rules | `(tactic| walk_at "exec While BinOp") => `(tactic| (refine Halt.intro ?_))
local macro_rules | `(tactic| walk_at "exec For") => `(tactic| (k_here; refine Halt.intro ?_))
local macro_rules | `(tactic| walk_at "exec For Name Call cons nil") => `(tactic| (k_here; refine Halt.intro ?_))
local macro_rules | `(tactic| walk_at "exec For Name Name cons nil") => `(tactic| (k_here; refine Halt.intro ?_))
local macro_rules | `(tactic| walk_at "eval ListComp") => `(tactic| (k_here; refine Halt.intro ?_))
local macro_rules | `(tactic| walk_at "exec Assign cons ListComp") => `(tactic| (k_here; first | (k_dflt (refine wpAny_Assign_Name ?_ (by with_unfolding_all rfl))) | refine Halt.intro ?_))
local macro_rules | `(tactic| walk_at "pyIter ref") => `(tactic| (refine Halt.intro ?_))
local macro_rules | `(tactic| walk_at "pyIter str") => `(tactic| (refine Halt.intro ?_))
local macro_rules | `(tactic| walk_at "pyIter bytes") => `(tactic| (refine Halt.intro ?_))
local macro_rules | `(tactic| wrow_close) => `(tactic| ((with_reducible show StepE _ _ _ _ _ _ _); refine Halt.intro ?_))
local macro_rules | `(tactic| wrow_close) => `(tactic| ((with_reducible show CEnd _ _ _ _ _ _ _ _ _ _); refine Halt.intro ?_))
local macro_rules | `(tactic| wrow_close) => `(tactic| ((with_reducible show FEnd _ _ _ _ _ _ _ _); refine Halt.intro ?_))
local macro_rules | `(tactic| k_room) => `(tactic| ((try simp only [depth_under_make, depth_under_kw, depth_in1, depth_deeper, depth_caller]); exact Nat.lt_of_le_of_lt (Nat.add_le_add_right (by assumption) _) (by decide)))
local macro_rules | `(tactic| walk_at "call builtin:iter") => `(tactic| (k_here; k_dflt (refine' iter_bytes ?F ?N ?_; (case F => k_asm); (case N => k_asm); k_whole); intro x' h' F' N' l1; (try k_lt l1); (try k_sweep)))
local macro_rules | `(tactic| walk_at "call builtin:next") => `(tactic| (k_here; refine Halt.intro ?_))
local macro_rules | `(tactic| walk_at "call type:list") => `(tactic| (k_here; refine Halt.intro ?_))
local macro_rules | `(tactic| walk_at "binaryOp BitAnd int int") => `(tactic| (k_here; (with_reducible first | refine op_and63 ?_ | refine op_and64 ?_)))
local macro_rules | `(tactic| walk_at "inplaceOp LShift int int") => `(tactic| (k_here; (with_reducible refine op_shl ?kn ?_); (case kn => exact numB_small _ _ (by omega))))
local macro_rules | `(tactic| walk_at "inplaceOp BitOr int int") => `(tactic| (k_here; (with_reducible refine op_or ?kn ?_); (case kn => exact Nat.mod_lt _ (by decide))))
local macro_rules | `(tactic| walk_at "subscriptTail Name Slice bytes ref") => `(tactic| (k_here; (with_reducible rename Fr _ _ _ _ => F'); (with_reducible rename News _ _ _ _ => N'); (refine cut_from (s := ⟨_, _, _, _, _⟩) F' N' (by assumption) (by omega) ?_); clear F' N'; intro h' t' k' F' N'))
namespace Mine
theorem reading_spec (w : World) (news : List (Addr × Obj)) (B : Array UInt8) (tB tp : Tok) (place : Nat) (hsz : B.size ≤ 16) (hpl : place ≤ B.size) :
    SpecR w 83 [.bytes B tB, .int (place : Int) tp] news (AddPost news (datOf B place)) := by
  unfold SpecR
  k_fill
  w_top off
  intro p loose mean mg mb dp un gd cn cs a ccd cl A₀ h₀ L m s Q E hBl hF hX hN hT hk hdp hun hret
  refine wpAny_call ?_
  k_dflt (refine' enterT ?k1 ?k2 ?k3 ?k4 ?k5 ?kA ?kf ?ke ?k6 ?k7 ?k8 ?k9 ?kB ?_ ?c2 ?c3 ?c4 ?c5; (case kA => exact rfl); (case kf => exact rfl); (case ke => exact hk); (case k2 => k_asm); (case k1 => k_asm); (case k3 => k_asm); (case k4 => k_asm); (case k5 => k_asm); (case k6 => k_is); (case k7 => k_is); (case k8 => exact Nat.lt_of_le_of_lt (show dp ≤ 500 from hdp) (by decide)); (case k9 => exact BindsTo.of_eq rfl); (case kB => exact locs rfl); (case c2 => exact rfl); (case c3 => exact rfl); (case c4 => exact rfl); (case c5 => decide))
  intro g' L' h' FG' F' N' B' X' T' D' lt'
  (try dsimp only); (try k_lift B'); (try k_fold)
  k_steps
  show wpAny _ _ _ _ _ _
  rename_i qk1 ek1 tk1 h3 t1 k1 it h2 l1 h1 F1 N1 tk2 g2 L2 hh FG2 F2 N2 B2 X2 T2
  have HR : ∀ (h₁ h₂ : Heap) (e : Addr) (m₁ : PySem.Str → Option Value) (j tk₁ : Nat), Fr g2 L2 h₁ m₁ → News g2 L2 h₁ ((it, bEnd j) :: news) → Heap.MadeExc h₁ h₂ e "StopIteration" [] → (∀ k, place ≤ k → k < B.size → goesOn B k = true) → ek (.ref e) ⟨h₂, s.gens, s.drawn, tk₁, s.os⟩ := by
    intro h₁ h₂ e m₁ j tk₁ F₁ N₁ Mx hall
    clear F2 N2
    show wpAny _ _ _ _ _ _
    refine leave_raiseS B2 (Heap.MadeExc.of Mx) F₁ N₁ ?_
    intro h₃ t₃ S₃ R₃ U₃
    clear F₁ N₁
    show wpAny _ _ _ _ _ _
    refine caught_S0 (T' := "StopIteration") S₃ FG2 B' U₃ hX hT D' KtsTurn.refl (by k_is) boot_stop (by decide) isExc_stop notTuple_stop sub_stop ?_
    intro h₄ g₄ n₂ T₄ F₄ N₄ G₄ Nl₄ K₄ X₄ P₄ D₄
    k_steps
    exact hret _ _ _ _ (by k_asm) (newsSub (by k_asm) fun p hp => .tail _ hp) (AddPost.none (datOf_none hall))
  by_cases hlt : place < B.size
  · refine next_oct (j := 0) F2 N2 l1 (by omega) ?_
    intro h' F' N'
    clear F2 N2
    k_steps
    show wpAny _ _ _ _ _ _
    rename_i ta h5 tb F5 N5
    refine whileE (fun n m₁ nw => ∃ (j : Nat) (tb tv : Tok), place + j < B.size ∧ n = B.size - j ∧ nw = (it, bIter (dropB B place) t1 (j + 1)) :: news ∧ (∀ i, i < j → goesOn B (place + i) = true) ∧
      m₁ (PySem.Str.ofString "iterator") = some (.ref it) ∧ m₁ (PySem.Str.ofString "b") = some (.int ((oct B (place + j) : Nat) : Int) tb) ∧ m₁ (PySem.Str.ofString "val") = some (.int ((numB B place (j + 1) : Nat) : Int) tv)) B.size F5 N5 ?hJ ?turn
    case hJ => exact ⟨0, _, _, hlt, rfl, rfl, fun i hi => absurd hi (Nat.not_lt_zero _), rfl, rfl, intEqL (congrArg _ (numB_one B place).symm)⟩
    case turn =>
      rintro n m₁ _ h₁ tk₁ F₁ N₁ ⟨j, tb, tv, hj, rfl, rfl, hall, e1, e2, e3⟩
      clear F5 N5
      replace F₁ := frPuts [(PySem.Str.ofString "iterator", .ref it), (PySem.Str.ofString "b", .int ((oct B (place + j) : Nat) : Int) tb), (PySem.Str.ofString "val", .int ((numB B place (j + 1) : Nat) : Int) tv)] F₁ (by simp only [List.forall_mem_cons, List.not_mem_nil, false_implies, implies_true, and_true]; exact ⟨e1, e2, e3⟩)
      clear e1 e2 e3
      k_steps
      · show wpAny _ _ _ _ _ _
        rename_i hgo h6 F6 N6
        by_cases hj2 : place + (j + 1) < B.size
        · refine next_oct (j := j + 1) F6 N6 l1 hj2 ?_
          intro h' F' N'
          clear F6 N6
          k_steps
          show StepE _ _ _ _ _ _ _
          refine StepE.intro (n' := B.size - (j + 1)) (by k_asm) (by k_asm) _ (fun p hp => hp) (by omega) ⟨j + 1, _, _, hj2, rfl, rfl, lt_succ_cases hall (goes_of_ne hgo), rfl, rfl, rfl⟩
        · refine next_stop rfl F6 N6 (fun q hq => Nat.ne_of_lt (l1 q hq)) (by rw [dropB_get]; exact Array.getElem?_eq_none (by omega)) ?_
          intro h₁ h' e F' N' Mx
          refine HR h₁ h' e _ _ _ F' N' Mx fun k k1 k2 => ?_
          have := lt_succ_cases hall (goes_of_ne hgo) (k - place) (by omega)
          rwa [show place + (k - place) = k by omega] at this
      · show wpAny _ _ _ _ _ _
        rename_i hgo _ _ _ F7 N7
        refine list_bytesIter rfl ?hj ?hs F7 N7 (fun q hq => Nat.ne_of_lt (l1 q hq)) ?_
        case hj => rw [dropB_size]; omega
        case hs => rw [dropB_size]; omega
        intro x vs c h' tk hlen F' N' lx
        clear F7 N7
        k_steps
        rw [dropB_size] at hlen
        refine kun_lenL (k := ((B.size - place - (j + 1) : Nat) : Int)) (News.isList (by k_asm) (by k_mem)) (by show ((vs.toArray.size : Nat) : Int) = _; rw [List.size_toArray, hlen]) (by omega) ?_
        k_steps
        rename_i lz _ _ _ _
        refine' hret _ _ _ _ (by k_asm) (newsSub (by k_asm) ?hsub) (AddPost.pair ?hx ?ha ?hb (datOf_some hj (goes_of_eq (fun z => z hgo)) hall))
        case hsub =>
          refine List.forall_mem_cons.mpr ⟨List.mem_cons_self, fun p hp => ?_⟩
          simp [hp]
        case ha => rfl
        case hb => omega
        case hx => exact fun q hq => Nat.lt_trans (lx q hq) lz.1
  · refine next_stop rfl F2 N2 (fun q hq => Nat.ne_of_lt (l1 q hq)) (by rw [dropB_get]; exact Array.getElem?_eq_none (by omega)) ?_
    intro h₁ h' e F' N' Mx
    exact HR h₁ h' e _ _ _ F' N' Mx fun k k1 k2 => by omega
end Mine
end
section
open PySem PySem.W PySem.Calls PyProof.Rows
set_option Elab.async false
set_option maxRecDepth 100000
set_option maxHeartbeats 1000000
namespace Mine
open PyProof.Rows.LCg
section
variable {prog : Program} {w : World} {A : Around} {E : Value → Shared → Prop} {s : Shared} {h₀ : Heap} {L : Addr} {m : PySem.Str → Option Value} {env : Env} {news : List (Addr × Obj)} {Q : Value → Shared → Prop}
theorem src_rangeN {r : Addr} {z y : Int} {a b : Nat} {t u v : Tok} (hz : z = (a : Int)) (hy : y = (b : Int)) (hh : A.handled = none) (F : Fr h₀ L s.heap m) (N : News h₀ L s.heap news) (hr : IsRange s.heap r z y 1 t u v) (hb : b ≤ 1000)  (ha : a ≤ 1000)
    (h : ∀ I h', SrcOk prog w A h₀ L m I [I] (b - a) (fun i v => ∃ t, v = .int ((a : Int) + (i : Int)) t) (fun i h => IsRangeIter h I ((a : Int) + (i : Nat) * 1) (((b - a : Nat) : Int) - (i : Nat)) 1) (fun _ => True) news { s with heap := h' } → Q (.ref I) { s with heap := h' }) :
    wpAny (model prog w) A (pyIter (.ref r)) Q E s := by
  subst hz hy
  refine src_range hh F N hr (small_one (by omega) (by omega) (by omega) (by omega)) ?_ (by rw [sizeLine_eq]; omega) h
  show Builtin.Range.rangeSize _ _ _ = _
  unfold Builtin.Range.rangeSize
  simp
  omega
theorem item_oct {value slice : PySem.Expr} {b : Array UInt8} {t ui : Tok} {z : Int} (k : Nat) (hz : z = (k : Int)) (h1 : k < b.size) (hsz : b.size ≤ 1000) (h : Q (.int ((oct b k : Nat) : Int) s.toks) { s with toks := s.toks + 1 })
    (hs : subscripted slice false (.bytes b t) (.int z ui) = operate [.bytes b t, .int z ui] (getItem (.bytes b t) (.int z ui)) := by with_unfolding_all rfl)
    (ht : ∀ r, letTemporaryGo value (.bytes b t) r = pure () := by intro _; with_unfolding_all rfl) : wpAny (model prog w) A (subscriptTail value slice (.bytes b t) (.int z ui)) Q E s := by
  subst hz
  refine item_at (c := b[k]) (by omega) (by simp [h1]) hsz ?_ hs ht
  rw [← oct_get (B := b) (k := k) (c := b[k]) (by simp [h1])]
  exact h
end
end Mine
namespace Mine
def lastsL (B : Array UInt8) (p i : Nat) : List Int := ((List.range i).filter (fun j => !goesOn B (p + j))).map (fun j => ((p + j : Nat) : Int))
theorem lasts_yes {B : Array UInt8} {p i : Nat} {ys : List Value} {z : Int} {t : Tok} (h : IntsAre ys (lastsL B p i)) (hg : goesOn B (p + i) = false) (hz : z = ((p + i : Nat) : Int)) : IntsAre (ys ++ [.int z t]) (lastsL B p (i + 1)) := by
  subst hz
  have e : lastsL B p (i + 1) = lastsL B p i ++ [((p + i : Nat) : Int)] := by
    unfold lastsL
    rw [List.range_succ, List.filter_append, List.map_append]
    simp [hg]
  rw [e]
  exact IntsAre.append h (.cons _ t .nil)
theorem lasts_no {B : Array UInt8} {p i : Nat} {ys : List Value} (h : IntsAre ys (lastsL B p i)) (hg : goesOn B (p + i) = true) : IntsAre ys (lastsL B p (i + 1)) := by
  have e : lastsL B p (i + 1) = lastsL B p i := by
    unfold lastsL
    rw [List.range_succ, List.filter_append, List.map_append]
    simp [hg]
  rw [e]
  exact h
theorem off3 {nw : List (Addr × Obj)} {I C D : Addr} {oI oC oD : Obj} (h : ∀ p ∈ nw, p.1 ≠ I ∧ p.1 ≠ C ∧ p.1 ≠ D) : ∀ p ∈ nw, ∀ q ∈ [(I, oI), (C, oC), (D, oD)], p.1 ≠ q.1 := by
  intro p hp q hq
  have := h p hp
  simp only [List.mem_cons, List.not_mem_nil, or_false] at hq
  rcases hq with rfl | rfl | rfl
  · exact this.1
  · exact this.2.1
  · exact this.2.2
theorem goes_fmod {B : Array UInt8} {k : Nat} (h : (((oct B k : Nat) : Int).fdiv 64).fmod 2 = 0) : goesOn B k = false := by
  rw [Int.fdiv_eq_ediv_of_nonneg _ (by decide), Int.fmod_eq_emod_of_nonneg _ (by decide)] at h
  cases hg : goesOn B k with
  | false => rfl
  | true =>
    rw [goes_iff] at hg
    omega
theorem goes_fmod' {B : Array UInt8} {k : Nat} (h : ¬ (((oct B k : Nat) : Int).fdiv 64).fmod 2 = 0) : goesOn B k = true := by
  rw [Int.fdiv_eq_ediv_of_nonneg _ (by decide), Int.fmod_eq_emod_of_nonneg _ (by decide)] at h
  rw [goes_iff]
  omega
end Mine
namespace Mine
theorem lastsL_nil {B : Array UInt8} {p n : Nat} (h : lastsL B p n = []) : ∀ i, i < n → goesOn B (p + i) = true := by
  intro i hi
  unfold lastsL at h
  rw [List.map_eq_nil_iff, List.filter_eq_nil_iff] at h
  have := h i (List.mem_range.mpr hi)
  simpa using this
theorem lastsL_cons {B : Array UInt8} {p : Nat} : ∀ n, lastsL B p n ≠ [] → ∃ j rest, j < n ∧ goesOn B (p + j) = false ∧ (∀ i, i < j → goesOn B (p + i) = true) ∧ lastsL B p n = ((p + j : Nat) : Int) :: rest := by
  intro n
  induction n with
  | zero => intro h; exact absurd rfl h
  | succ n ih =>
    intro h
    have e : lastsL B p (n + 1) = lastsL B p n ++ (if goesOn B (p + n) = true then [] else [((p + n : Nat) : Int)]) := by
      unfold lastsL
      rw [List.range_succ, List.filter_append, List.map_append]
      cases hg : goesOn B (p + n) <;> simp [hg]
    by_cases hn : lastsL B p n = []
    · rw [hn, List.nil_append] at e
      cases hg : goesOn B (p + n) with
      | true => rw [hg, if_pos rfl] at e; exact absurd e h
      | false =>
        rw [hg, if_neg (by decide)] at e
        exact ⟨n, [], Nat.lt_succ_self _, hg, lastsL_nil hn, e⟩
    · obtain ⟨j, rest, hj, h1, h2, h3⟩ := ih hn
      exact ⟨j, rest ++ _, Nat.lt_succ_of_lt hj, h1, h2, by rw [e, h3]; rfl⟩
def termN (B : Array UInt8) (p j k : Nat) : Nat := oct B (p + k) % 64 * 64 ^ (j - k)
def termL (B : Array UInt8) (p j i : Nat) : List Int := (List.range i).map fun k => ((termN B p j k : Nat) : Int)
theorem termL_sum (B : Array UInt8) (p j : Nat) : ∀ i, i ≤ j + 1 → (termL B p j i).sum = ((numB B p i * 64 ^ (j + 1 - i) : Nat) : Int) := by
  intro i
  induction i with
  | zero => intro _; simp [termL, numB]
  | succ i ih =>
    intro hi
    have e : termL B p j (i + 1) = termL B p j i ++ [((termN B p j i : Nat) : Int)] := by
      unfold termL; rw [List.range_succ, List.map_append]; rfl
    rw [e, List.sum_append, ih (by omega)]
    have e1 : j + 1 - i = (j + 1 - (i + 1)) + 1 := by omega
    have e2 : j - i = j + 1 - (i + 1) := by omega
    simp only [List.sum_cons, List.sum_nil, Int.add_zero]
    rw [e1, termN, e2, numB, Nat.pow_succ, Nat.add_mul]
    rw [← Int.natCast_add]
    congr 1
    rw [Nat.mul_assoc, Nat.mul_comm 64]
theorem termL_all (B : Array UInt8) (p j : Nat) : (termL B p j (j + 1)).sum = ((numB B p (j + 1) : Nat) : Int) := by
  rw [termL_sum B p j (j + 1) (Nat.le_refl _)]
  simp
theorem termL_snoc {B : Array UInt8} {p j i : Nat} {ys : List Value} {z : Int} {t : Tok} (h : IntsAre ys (termL B p j i)) (hz : z = ((termN B p j i : Nat) : Int)) : IntsAre (ys ++ [.int z t]) (termL B p j (i + 1)) := by
  subst hz
  have e : termL B p j (i + 1) = termL B p j i ++ [((termN B p j i : Nat) : Int)] := by
    unfold termL; rw [List.range_succ, List.map_append]; rfl
  rw [e]
  exact IntsAre.append h (.cons _ t .nil)
end Mine
namespace Mine
section
variable {prog : Program} {w : World} {A : Around} {E : Value → Shared → Prop} {s : Shared} {t u : Tok} {Q : Value → Shared → Prop}
theorem op_mod64 {x : Nat} (h : Q (.int ((x % 64 : Nat) : Int) s.toks) { s with toks := s.toks + 1 }) : wpAny (model prog w) A (binaryOp .Mod (.int (x : Int) t) (.int 64 u)) Q E s := by
  refine mod_int (by decide) ?_
  rw [show ((x : Int)).fmod 64 = ((x % 64 : Nat) : Int) by rw [Int.fmod_eq_emod_of_nonneg _ (by decide)]; omega]
  exact h
theorem op_divN {x y : Nat} (hy : 0 < y) (hy2 : y < 2 ^ 200) (h : Q (.int ((x / y : Nat) : Int) s.toks) { s with toks := s.toks + 1 }) : wpAny (model prog w) A (binaryOp .FloorDiv (.int (x : Int) t) (.int (y : Int) u)) Q E s := by
  refine floordiv_int (by omega) ?_ (Or.inl (PyProof.noPylong_of_log2 ?hl))
  case hl =>
    rw [Int.natAbs_natCast]
    have : y.log2 < 200 := (Nat.log2_lt (by omega)).mpr hy2
    omega
  rw [show ((x : Int)).fdiv (y : Int) = ((x / y : Nat) : Int) by rw [Int.fdiv_eq_ediv_of_nonneg _ (by omega), Int.natCast_ediv]]
  exact h
theorem op_powN {z : Int} (k : Nat) (hz : z = (k : Int)) (hk : k ≤ 1000) (h : Q (.int ((64 ^ k : Nat) : Int) s.toks) { s with toks := s.toks + 1 }) : wpAny (model prog w) A (binaryOp .Pow (.int 64 t) (.int z u)) Q E s := by
  subst hz
  refine pow_int_small (by omega) (by omega) (by decide) ?_
  rw [show (64 : Int) ^ ((k : Int)).toNat = ((64 ^ k : Nat) : Int) by rw [Int.toNat_natCast]; exact (Int.natCast_pow 64 k).symm]
  exact h
theorem op_mulN {x y : Nat} (hx : x < 2 ^ 64) (h : Q (.int ((x * y : Nat) : Int) s.toks) { s with toks := s.toks + 1 }) : wpAny (model prog w) A (binaryOp .Mult (.int (x : Int) t) (.int (y : Int) u)) Q E s := by
  refine PyProof.Rows.mul_int ?_ (IntMulOk.of_left (bits_le hx))
  rw [show (x : Int) * (y : Int) = ((x * y : Nat) : Int) by rw [Int.natCast_mul]]
  exact h
end
end Mine
end
section
open PySem PySem.W PyProof.Rows Mine
set_option Elab.async false
set_option maxRecDepth 100000
set_option maxHeartbeats 2000000
local macro_rules | `(tactic| walk_at "exec While") => `(tactic| (refine Halt.intro ?_))
local macro_rules | `(tactic| walk_at "exec While BinOp") => `(tactic| (refine Halt.intro ?_))
local macro_rules | `(tactic| walk_at "exec For") => `(tactic| (k_here; refine Halt.intro ?_))
local macro_rules | `(tactic| walk_at "exec For Name Call cons nil") => `(tactic| (k_here; refine Halt.intro ?_))
local macro_rules | `(tactic| walk_at "exec For Name Name cons nil") => `(tactic| (k_here; refine Halt.intro ?_))
local macro_rules | `(tactic| walk_at "eval ListComp") => `(tactic| (k_here; refine Halt.intro ?_))
local macro_rules | `(tactic| walk_at "exec Assign cons ListComp") => `(tactic| (k_here; first | (k_dflt (refine wpAny_Assign_Name ?_ (by with_unfolding_all rfl))) | refine Halt.intro ?_))
local macro_rules | `(tactic| walk_at "pyIter ref") => `(tactic| (refine Halt.intro ?_))
local macro_rules | `(tactic| walk_at "pyIter str") => `(tactic| (refine Halt.intro ?_))
local macro_rules | `(tactic| walk_at "pyIter bytes") => `(tactic| (refine Halt.intro ?_))
local macro_rules | `(tactic| wrow_close) => `(tactic| ((with_reducible show StepE _ _ _ _ _ _ _); refine Halt.intro ?_))
local macro_rules | `(tactic| wrow_close) => `(tactic| ((with_reducible show CEnd _ _ _ _ _ _ _ _ _ _); refine Halt.intro ?_))
local macro_rules | `(tactic| wrow_close) => `(tactic| ((with_reducible show FEnd _ _ _ _ _ _ _ _); refine Halt.intro ?_))
local macro_rules | `(tactic| k_room) => `(tactic| ((try simp only [depth_under_make, depth_under_kw, depth_in1, depth_deeper, depth_caller]); exact Nat.lt_of_le_of_lt (Nat.add_le_add_right (by assumption) _) (by decide)))
local macro_rules | `(tactic| walk_at "subscriptTail") => `(tactic| (k_here; (with_reducible show wpAny _ _ (subscriptTail _ _ (Value.bytes _ _) (Value.int _ _)) _ _ _); refine Halt.intro ?_))
local macro_rules | `(tactic| walk_at "binaryOp Mod int int") => `(tactic| (k_here; (with_reducible refine op_mod64 ?_)))
local macro_rules | `(tactic| walk_at "binaryOp Mult int int") => `(tactic| (k_here; (with_reducible refine op_mulN ?kn ?_); (case kn => exact Nat.lt_trans (Nat.mod_lt _ (by decide)) (by decide))))
local macro_rules | `(tactic| walk_at "binaryOp Pow int int") => `(tactic| (k_here; refine Halt.intro ?_))
namespace Mine
theorem due_spec (w : World) (news : List (Addr × Obj)) (B : Array UInt8) (tB tp : Tok) (place : Nat) (hsz : B.size ≤ 16) (hpl : place ≤ B.size) :
    SpecL w 88 [.bytes B tB, .int (place : Int) tp] news (AddPost news (datOf B place)) := by
  unfold SpecL
  k_fill
  w_top off
  intro p loose mean mg mb dp un gd cn cs a ccd cl outer A₀ base h₀ L m s Q E hBl hF hX hN hT hC hk hdp hun hG hret
  refine wpAny_call ?_
  k_dflt (refine' code_defC ?k1 ?k2 ?k3 ?k4 ?k5 ?kA ?kF ?kK ?k6 ?k7 ?k8 ?k9 ?kB ?kD ?_ ?c2 ?c3 ?c4; (case kA => exact rfl); (case kF => exact rfl); (case kK => exact hk); (case k1 => k_asm); (case k2 => k_asm); (case k3 => k_asm); (case k4 => k_asm); (case k5 => k_asm); (case k6 => k_is); (case k7 => k_is); (case k8 => exact Nat.lt_of_le_of_lt (show dp ≤ 500 from hdp) (by decide)); (case k9 => exact BindsTo.of_eq rfl); (case kB => exact rfl); (case kD => decide +kernel); (case c2 => exact rfl); (case c3 => exact rfl); (case c4 => exact rfl); k_whole; intro g' L' h' tk' cells' FG' F' N' Y' B' X' T' l1; (try k_lt l1); k_cells Y'; (try simp only [List.cons_append, List.nil_append] at N'); (try dsimp only); (try k_lift B'); (try k_fold))
  rename_i oA oB dA dB
  k_steps
  show wpAny _ _ _ _ _ _
  refine compExpr (by k_asm) rfl (by decide) rfl (by decide) rfl ?_
  k_steps
  show wpAny _ _ _ _ _ _
  rename_i hR F5 N5 Lx
  refine src_rangeN rfl rfl rfl F5 N5 hR (by omega) (by omega) ?_
  intro I h5 X
  refine ⟨I, _, _, _, _, _, _, fun i ys nw g => g = s.gens ∧ nw = (L' + 1 + 1, oA) :: (L' + 1, oB) :: news ∧ IntsAre ys (lastsL B place i), rfl, X, ⟨rfl, rfl, .nil⟩, CTurn.test ?_, ?_⟩
  · clear F5 N5 hR X
    rintro i v ys nw oI C oC D m₂ h tk g E' hi ⟨t, rfl⟩ _ ⟨rfl, rfl, hys⟩ _ hC hx F N off ne
    k_steps
    show wpAny _ _ _ _ _ _
    refine item_oct (place + i) (by omega) (by omega) (by omega) ?_
    k_steps
    · rename_i hg
      show CEnd _ _ _ _ _ _ _ _ _ _
      exact CEnd.intro F N _ (fun p hp => hp) (off3 off) trivial ⟨rfl, rfl, lasts_yes hys (goes_fmod hg) (by omega)⟩
    · rename_i hg
      show CEnd _ _ _ _ _ _ _ _ _ _
      exact CEnd.intro F N _ (fun p hp => hp) (off3 off) trivial ⟨rfl, rfl, lasts_no hys (goes_fmod' hg)⟩
  · rintro D h tk g ys nw F N nD lD _ ⟨rfl, rfl, hys⟩
    clear F5 N5 hR X
    k_steps
    refine storeX_C F N rfl (UpdF.tail ?ne (UpdF.head ?up)) dA ?_
    case ne =>
      exact Ne.symm (nD (L' + 1 + 1, oA) List.mem_cons_self)
    case up =>
      intro p hp
      rcases List.mem_cons.mp hp with rfl | hp
      · exact Nat.ne_of_lt (Nat.lt_succ_self _)
      · exact Nat.ne_of_lt (Nat.lt_succ_of_lt (Nat.lt_succ_of_lt (l1 p hp)))
    intro h7 o7 F7 N7 d7
    clear F N
    k_steps
    · rename_i hnil _ _ _ _
      refine hret _ _ _ _ (by k_asm) (newsSub (by k_asm) fun p hp => ?_) (AddPost.none (datOf_none fun k k1 k2 => ?_))
      · simp only [List.mem_cons]; exact .inr (.inr (.inr (.inr hp)))
      · have := lastsL_nil (of_decide_eq_true hnil) (k - place) (by omega)
        rwa [show place + (k - place) = k by omega] at this
    · show wpAny _ _ _ _ _ _
      rename_i le _ F8 N8 l8 hnn
      obtain ⟨j, rest, hj, hs, hall, hl⟩ := lastsL_cons _ (of_decide_eq_false (by simpa using hnn))
      rw [hl] at hys
      cases hys with
      | cons _ t0 hrest =>
      clear hnn
      rename_i vs
      refine compExpr (by k_asm) rfl (by decide) rfl (by decide) rfl ?_
      k_steps
      show wpAny _ _ _ _ _ _
      rename_i hR5 F6 N6 Lx6
      refine src_rangeN (b := place + j + 1) rfl ?hy rfl F6 N6 hR5 (by omega) (by omega) ?_
      case hy => show ((place + j : Nat) : Int) + 1 = _; omega
      intro I2 h9 X2
      refine ⟨I2, _, _, _, _, _, _, fun i ys nw g => g = s.gens ∧ nw = (le, PySem.W.listOf #[] 0) :: (D, LCg.lst (.int ((place + j : Nat) : Int) t0 :: vs)) :: (L' + 1 + 1, o7) :: (L' + 1, oB) :: news ∧ IntsAre ys (termL B place j i), rfl, X2, ⟨rfl, rfl, .nil⟩, CTurn.plain ?_, ?_⟩
      · clear F6 N6 hR5 X2
        rintro i v ys nw oI C oC D m₂ h tk g E' hi ⟨t, rfl⟩ _ ⟨rfl, rfl, hys⟩ _ hC hx F N off ne
        k_steps
        show wpAny _ _ _ _ _ _
        refine item_oct (place + i) (by omega) (by omega) (by omega) ?_
        k_steps
        show wpAny _ _ _ _ _ _
        refine op_powN (j - i) (by show ((place + j : Nat) : Int) - ((place : Int) + (i : Int)) = _; omega) (by omega) ?_
        k_steps
        show CEnd _ _ _ _ _ _ _ _ _ _
        exact CEnd.intro F N _ (fun p hp => hp) (off3 off) trivial ⟨rfl, rfl, termL_snoc hys rfl⟩
      · rintro D2 h tk g ys nw F N nD2 lD2 _ ⟨rfl, rfl, hys2⟩
        clear F6 N6 hR5 X2
        rw [show place + j + 1 - place = j + 1 by omega] at hys2
        k_steps
        rename_i lz _ _ _ _
        refine' hret _ _ _ _ (by k_asm) (newsSub (by k_asm) ?hsub) (AddPost.pair ?hx ?ha ?hb (datOf_some (by omega) hs hall))
        case hsub =>
          refine List.forall_mem_cons.mpr ⟨List.mem_cons_self, fun p hp => ?_⟩
          simp [hp]
        case ha => exact termL_all B place j
        case hb => show ((place + j : Nat) : Int) + 1 - (place : Int) = _; omega
        case hx => exact fun q hq => allLt_mem _ lz.2.2.2.2.2 q hq
end Mine
end
section
open PySem PySem.W PySem.Calls PyProof.Rows
set_option Elab.async false
set_option maxRecDepth 100000
set_option maxHeartbeats 1000000
namespace Mine
def octN (num many k : Nat) : Nat := num / 64 ^ (many - 1 - k) % 64 + (if k + 1 < many then 64 else 0)
def brkS (x : Nat) : PySem.Str := ⟨#[91, s1 x, s2 x, 93]⟩
theorem octN_lt (num many k : Nat) : octN num many k < 128 := by
  unfold octN
  have := Nat.mod_lt (num / 64 ^ (many - 1 - k)) (show 0 < 64 by decide)
  split <;> omega
end Mine
namespace Mine
section
variable {prog : Program} {w : World} {A : Around} {E : Value → Shared → Prop} {s : Shared} {h₀ : Heap} {L : Addr} {m : PySem.Str → Option Value} {news : List (Addr × Obj)}
theorem append_K {l : Addr} {its : Array Value} {n : Nat} {x : Value} {pre post : List (Addr × Obj)} {Q : Value → Shared → Prop} (F : Fr h₀ L s.heap m) (N : News h₀ L s.heap (pre ++ (l, PySem.W.listOf its n) :: post))
    (h1 : ∀ p ∈ pre, p.1 ≠ l) (h2 : ∀ p ∈ post, p.1 ≠ l)
    (h : ∀ h', Fr h₀ L h' m → News h₀ L h' (pre ++ (l, PySem.W.listOf (its.push x) (n + 1)) :: post) → Q .none { s with heap := h' }) (hsz : its.size ≤ sizeLine := by size_fits) : wpAny (model prog w) A (call (.builtin "list.append") [.ref l, x]) Q E s := by
  have z := N (l, PySem.W.listOf its n) (List.mem_append.mpr (.inr (.head _)))
  refine wpAny_call_entry slot_list_append ⟨_, z.1, rfl⟩ entry_list_append ?_ (args_list_append _ _)
  show wpAny _ _ (updateSeq l (·.push x) >>= fun _ => ret .none) _ _ s
  refine wpAny_bind ?_
  refine wpAny_updateSeq z.1 rfl (wpAny_pure ⟨_, rfl, ?_⟩)
  have hs : Heap.SameBut l s.heap (s.heap.update l (Obj.mapSeq fun x_1 => x_1.push x)) := Heap.SameBut.update ..
  refine h _ (F.change hs z.2.1 z.2.2) (news_set N h1 h2 hs ?_)
  rw [Heap.get?_update_self _ z.1 (by rw [mapSeq_push]; rfl), mapSeq_push]
end
theorem strValues_push (ps : List (PySem.Str × Tok)) (x : PySem.Str) (t : Tok) : (strValues ps).toArray.push (.str x t) = (strValues (ps ++ [(x, t)])).toArray := by
  unfold strValues
  rw [List.map_append, List.map_cons, List.map_nil]
  exact (List.push_toArray ..)
theorem lit_is (c d : Nat) {y : PySem.Str} (hy : y = ⟨#[d]⟩) {b : Bool} (h : ((⟨#[c]⟩ : PySem.Str) == y) = b) : (c = d) = (b = true) := by
  subst hy
  cases b with
  | true => exact propext ⟨fun _ => rfl, fun _ => by have := eq_of_beq h; injection this with e; simpa using e⟩
  | false =>
    refine propext ⟨fun e => ?_, fun e => nomatch e⟩
    subst e
    rw [beq_self_eq_true] at h; cases h
theorem brk_text {x c d : Nat} (hc : c = s1 x) (hd : d = s2 x) : PySem.Str.ofString "[" ++ ((⟨#[c]⟩ : PySem.Str) ++ ⟨#[d]⟩) ++ PySem.Str.ofString "]" = brkS x := by
  subst hc hd
  rw [lit_lb, lit_rb]; rfl
theorem pat_step {num many i : Nat} {ps : List (PySem.Str × Tok)} {x : PySem.Str} {t : Tok} (h : ps.map (·.1) = (List.range i).map (fun k => brkS (octN num many k))) (hx : x = brkS (octN num many i)) :
    (ps ++ [(x, t)]).map (·.1) = (List.range (i + 1)).map (fun k => brkS (octN num many k)) := by
  rw [List.map_append, h, List.range_succ, List.map_append, hx]; rfl
end Mine
namespace Mine
theorem oct_lo {num many i : Nat} (h : i + 1 < many) : (((num / 64 ^ (many - 1 - i) % 64 : Nat) : Int) + 64).toNat = octN num many i := by
  unfold octN; rw [if_pos h]; omega
theorem oct_lo2 {num many i : Nat} (h : i + 1 < many) : (((num / 64 ^ (many - 1 - i) % 64 : Nat) : Int) + 64 + 128).toNat = octN num many i + 128 := by
  unfold octN; rw [if_pos h]; omega
theorem oct_hi {num many i : Nat} (h : ¬ i + 1 < many) : (((num / 64 ^ (many - 1 - i) % 64 : Nat) : Int) + 0).toNat = octN num many i := by
  unfold octN; rw [if_neg h]; omega
theorem oct_hi2 {num many i : Nat} (h : ¬ i + 1 < many) : (((num / 64 ^ (many - 1 - i) % 64 : Nat) : Int) + 0 + 128).toNat = octN num many i + 128 := by
  unfold octN; rw [if_neg h]; omega
theorem brkT {x c d : Nat} (hc : c = x) (hd : d = x + 128) (h : ((⟨#[c]⟩ : PySem.Str) == PySem.Str.ofString "]") = true) : PySem.Str.ofString "[" ++ ((⟨#[c]⟩ : PySem.Str) ++ ⟨#[d]⟩) ++ PySem.Str.ofString "]" = brkS x := by
  have h2 : c = 93 := by rw [lit_is c 93 lit_rb h]
  subst hc hd
  subst h2
  exact brk_text rfl rfl
theorem brkF {x c d : Nat} (hc : c = x) (hd : d = x + 128) (h : ((⟨#[c]⟩ : PySem.Str) == PySem.Str.ofString "]") = false) : PySem.Str.ofString "[" ++ ((⟨#[d]⟩ : PySem.Str) ++ ⟨#[c]⟩) ++ PySem.Str.ofString "]" = brkS x := by
  have h2 : ¬ c = 93 := by rw [lit_is c 93 lit_rb h]; decide
  subst hc hd
  refine brk_text ?_ ?_
  · unfold s1; rw [if_neg h2]
  · unfold s2; rw [if_neg h2]
end Mine
namespace Mine
def patText (xs : List Nat) : PySem.Str := Txt.join (PySem.Str.ofString "") (xs.map brkS)
theorem brk_sum (xs : List Nat) : ((xs.map brkS).map (·.length)).sum = 4 * xs.length := by
  induction xs with
  | nil => rfl
  | cons x r ih =>
    simp only [List.map_cons, List.sum_cons, ih, List.length_cons]
    have : (brkS x).length = 4 := rfl
    omega
def octL (num many : Nat) : List Nat := (List.range many).map (octN num many)
theorem octL_len (num many : Nat) : (octL num many).length = many := by simp [octL]
theorem join_cps (texts : List PySem.Str) : (Txt.join (PySem.Str.ofString "") texts).cps.toList = texts.flatMap (·.cps.toList) := by
  have e : Txt.join (PySem.Str.ofString "") texts = PySem.Str.join (PySem.Str.ofString "") texts := StrLaws.glued_eq_join _ _
  rw [e]
  clear e
  induction texts with
  | nil => rfl
  | cons x r ih =>
    cases r with
    | nil => simp [PySem.Str.join]
    | cons y r =>
      rw [List.flatMap_cons, ← ih]
      show ((x.cps ++ (PySem.Str.ofString "").cps) ++ (PySem.Str.join (PySem.Str.ofString "") (y :: r)).cps).toList = _
      have : (PySem.Str.ofString "").cps = #[] := by decide
      rw [this]
      simp
theorem patText_cps (xs : List Nat) : (patText xs).cps.toList = patL xs := by
  unfold patText
  rw [join_cps, List.flatMap_map]
  unfold patL
  congr 1
  funext x
  rw [brk_eq]; rfl
theorem patText_eq (xs : List Nat) : patText xs = patS xs := by
  unfold patS
  rw [← patText_cps]
end Mine
end
section
open PySem PySem.W PyProof.Rows Mine
set_option Elab.async false
set_option maxRecDepth 100000
set_option maxHeartbeats 2000000
local macro_rules | `(tactic| walk_at "exec While") => `(tactic| (refine Halt.intro ?_))
local macro_rules | `(tactic| walk_at "exec While BinOp") => `(tactic| (refine Halt.intro ?_))
local macro_rules | `(tactic| walk_at "exec For") => `(tactic| (k_here; refine Halt.intro ?_))
local macro_rules | `(tactic| walk_at "exec For Name Call cons nil") => `(tactic| (k_here; refine Halt.intro ?_))
local macro_rules | `(tactic| walk_at "exec For Name Name cons nil") => `(tactic| (k_here; refine Halt.intro ?_))
local macro_rules | `(tactic| walk_at "eval ListComp") => `(tactic| (k_here; refine Halt.intro ?_))
local macro_rules | `(tactic| walk_at "exec Assign cons ListComp") => `(tactic| (k_here; first | (k_dflt (refine wpAny_Assign_Name ?_ (by with_unfolding_all rfl))) | refine Halt.intro ?_))
local macro_rules | `(tactic| walk_at "pyIter ref") => `(tactic| (refine Halt.intro ?_))
local macro_rules | `(tactic| walk_at "pyIter str") => `(tactic| (refine Halt.intro ?_))
local macro_rules | `(tactic| walk_at "pyIter bytes") => `(tactic| (refine Halt.intro ?_))
local macro_rules | `(tactic| wrow_close) => `(tactic| ((with_reducible show StepE _ _ _ _ _ _ _); refine Halt.intro ?_))
local macro_rules | `(tactic| wrow_close) => `(tactic| ((with_reducible show CEnd _ _ _ _ _ _ _ _ _ _); refine Halt.intro ?_))
local macro_rules | `(tactic| wrow_close) => `(tactic| ((with_reducible show FEnd _ _ _ _ _ _ _ _); refine Halt.intro ?_))
local macro_rules | `(tactic| k_room) => `(tactic| ((try simp only [depth_under_make, depth_under_kw, depth_in1, depth_deeper, depth_caller]); exact Nat.lt_of_le_of_lt (Nat.add_le_add_right (by assumption) _) (by decide)))
local macro_rules | `(tactic| walk_at "binaryOp Mod int int") => `(tactic| (k_here; (with_reducible refine op_mod64 ?_)))
local macro_rules | `(tactic| walk_at "binaryOp FloorDiv int int") => `(tactic| (k_here; (with_reducible refine op_divN ?k1 ?k2 ?_); (case k1 => exact Nat.pow_pos (by decide)); (case k2 => refine Nat.lt_of_le_of_lt (Nat.pow_le_pow_right (by decide) (show _ ≤ 20 by omega)) (by decide))))
local macro_rules | `(tactic| walk_at "binaryOp Pow int int") => `(tactic| (k_here; refine Halt.intro ?_))
namespace Mine
theorem pattern_spec (w : World) (news : List (Addr × Obj)) (num many : Nat) (tn tm : Tok) (hm : many ≤ 16) :
    SpecL w 95 [.int (num : Int) tn, .int (many : Int) tm] news (fun v news' => news' = news ∧ ∃ t, v = .str (patText (octL num many)) t) := by
  unfold SpecL
  k_fill
  w_top off
  intro p loose mean mg mb dp un gd cn cs a ccd cl outer A₀ base h₀ L m s Q E hBl hF hX hN hT hC hk hdp hun hG hret
  refine wpAny_call ?_
  k_dflt cell_enter
  k_steps
  show wpAny _ _ _ _ _ _
  rename_i br h0 l1 h1 F1 N1
  refine forN (by k_asm) (by rfl) (by rfl) ?_
  k_steps
  show wpAny _ _ _ _ _ _
  rename_i hR F5 N5 Lx
  refine src_rangeN (a := 0) (b := many) rfl rfl rfl F5 N5 hR (by omega) (by omega) ?_
  intro I h5 X
  refine ⟨I, _, _, _, _, _, _, fun i m₁ nw => ∃ (ps : List (PySem.Str × Tok)) (c : Nat), nw = (br, PySem.W.listOf (strValues ps).toArray c) :: news ∧ ps.map (·.1) = (List.range i).map (fun k => brkS (octN num many k)) ∧
    m₁ (PySem.Str.ofString "number") = some (.int (num : Int) tn) ∧ m₁ (PySem.Str.ofString "many") = some (.int (many : Int) tm) ∧ m₁ (PySem.Str.ofString "brackets") = some (.ref br), rfl, X, ⟨[], 0, rfl, rfl, rfl, rfl, rfl⟩, ?_, ?_⟩
  · clear F5 N5 hR X
    rintro i v m₁ nw oI h tk hi ⟨t, rfl⟩ ⟨ps, c, rfl, hps, e1, e2, e3⟩ _ F N off
    replace F := frPuts [(PySem.Str.ofString "number", .int (num : Int) tn), (PySem.Str.ofString "many", .int (many : Int) tm), (PySem.Str.ofString "brackets", .ref br)] F (by
      simp only [List.forall_mem_cons, List.not_mem_nil, false_implies, implies_true, and_true]; exact ⟨e1, e2, e3⟩)
    clear e1 e2 e3
    dsimp only
    k_steps
    show wpAny _ _ _ _ _ _
    refine op_powN (many - 1 - i) (by omega) (by omega) ?_
    have hz : (strValues ps).toArray.size ≤ sizeLine := by
      have := congrArg List.length hps
      simp only [List.length_map, List.length_range] at this
      rw [List.size_toArray, sizeLine_eq]
      unfold strValues
      rw [List.length_map]
      omega
    k_steps
    · show wpAny _ _ _ _ _ _
      rename_i hq _ _ _ _ _ _ _ _ _
      rename News _ _ _ _ => N9
      refine append_second (p₁ := (I, oI)) (rest := news) (n := c) (by k_asm) (newsSub N9 (fun p hp => List.mem_cons_of_mem _ hp)) (Ne.symm (off (br, PySem.W.listOf (strValues ps).toArray c) List.mem_cons_self)) (fun p hp => Nat.ne_of_lt (l1 p hp)) ?_ (hsz := hz)
      intro h' F' N'
      clear F N N9
      k_steps
      show FEnd _ _ _ _ _ _ _ _
      refine FEnd.intro (by k_asm) (by k_asm) _ (fun p hp => hp) (fun p hp q hq => ?_) trivial ⟨ps ++ [_], c + 1, by rw [strValues_push], pat_step hps (brkT (oct_lo (by omega)) (oct_lo2 (by omega)) hq), rfl, rfl, rfl⟩
      rw [List.mem_singleton.mp hq]
      rcases List.mem_cons.mp hp with rfl | hp
      · exact off (br, PySem.W.listOf (strValues ps).toArray c) List.mem_cons_self
      · exact off p (List.mem_cons_of_mem _ hp)
    · show wpAny _ _ _ _ _ _
      rename_i hq _ _ _ _ _ _ _ _ _
      rename News _ _ _ _ => N9
      refine append_second (p₁ := (I, oI)) (rest := news) (n := c) (by k_asm) (newsSub N9 (fun p hp => List.mem_cons_of_mem _ hp)) (Ne.symm (off (br, PySem.W.listOf (strValues ps).toArray c) List.mem_cons_self)) (fun p hp => Nat.ne_of_lt (l1 p hp)) ?_ (hsz := hz)
      intro h' F' N'
      clear F N N9
      k_steps
      show FEnd _ _ _ _ _ _ _ _
      refine FEnd.intro (by k_asm) (by k_asm) _ (fun p hp => hp) (fun p hp q hq => ?_) trivial ⟨ps ++ [_], c + 1, by rw [strValues_push], pat_step hps (brkF (oct_lo (by omega)) (oct_lo2 (by omega)) hq), rfl, rfl, rfl⟩
      rw [List.mem_singleton.mp hq]
      rcases List.mem_cons.mp hp with rfl | hp
      · exact off (br, PySem.W.listOf (strValues ps).toArray c) List.mem_cons_self
      · exact off p (List.mem_cons_of_mem _ hp)
    · show wpAny _ _ _ _ _ _
      rename_i hq _ _ _ _ _ _ _ _ _
      rename News _ _ _ _ => N9
      refine append_second (p₁ := (I, oI)) (rest := news) (n := c) (by k_asm) (newsSub N9 (fun p hp => List.mem_cons_of_mem _ hp)) (Ne.symm (off (br, PySem.W.listOf (strValues ps).toArray c) List.mem_cons_self)) (fun p hp => Nat.ne_of_lt (l1 p hp)) ?_ (hsz := hz)
      intro h' F' N'
      clear F N N9
      k_steps
      show FEnd _ _ _ _ _ _ _ _
      refine FEnd.intro (by k_asm) (by k_asm) _ (fun p hp => hp) (fun p hp q hq => ?_) trivial ⟨ps ++ [_], c + 1, by rw [strValues_push], pat_step hps (brkT (oct_hi (by omega)) (oct_hi2 (by omega)) hq), rfl, rfl, rfl⟩
      rw [List.mem_singleton.mp hq]
      rcases List.mem_cons.mp hp with rfl | hp
      · exact off (br, PySem.W.listOf (strValues ps).toArray c) List.mem_cons_self
      · exact off p (List.mem_cons_of_mem _ hp)
    · show wpAny _ _ _ _ _ _
      rename_i hq _ _ _ _ _ _ _ _ _
      rename News _ _ _ _ => N9
      refine append_second (p₁ := (I, oI)) (rest := news) (n := c) (by k_asm) (newsSub N9 (fun p hp => List.mem_cons_of_mem _ hp)) (Ne.symm (off (br, PySem.W.listOf (strValues ps).toArray c) List.mem_cons_self)) (fun p hp => Nat.ne_of_lt (l1 p hp)) ?_ (hsz := hz)
      intro h' F' N'
      clear F N N9
      k_steps
      show FEnd _ _ _ _ _ _ _ _
      refine FEnd.intro (by k_asm) (by k_asm) _ (fun p hp => hp) (fun p hp q hq => ?_) trivial ⟨ps ++ [_], c + 1, by rw [strValues_push], pat_step hps (brkF (oct_hi (by omega)) (oct_hi2 (by omega)) hq), rfl, rfl, rfl⟩
      rw [List.mem_singleton.mp hq]
      rcases List.mem_cons.mp hp with rfl | hp
      · exact off (br, PySem.W.listOf (strValues ps).toArray c) List.mem_cons_self
      · exact off p (List.mem_cons_of_mem _ hp)
  · rintro m₁ nw h tk ⟨ps, c, rfl, hps, e1, e2, e3⟩ _ F N
    clear F5 N5 hR X
    replace F := frPuts [(PySem.Str.ofString "brackets", .ref br)] F (by
      simp only [List.forall_mem_cons, List.not_mem_nil, false_implies, implies_true, and_true]; exact e3)
    have ht : ps.map (·.1) = (octL num many).map brkS := by rw [hps, octL, List.map_map]; rfl
    dsimp only
    k_steps
    refine SC.join (l := ps) (texts := (octL num many).map brkS) (News.isList (by k_asm) (by k_mem)) ht (joinOk_of ?hsum) ?_
    case hsum =>
      have e0 : (PySem.Str.ofString "").length = 0 := by decide
      rw [brk_sum, octL_len, e0, Nat.mul_zero]
      omega
    intro t9 k9
    k_steps
    refine hret _ _ _ _ (by k_asm) (newsSub (by k_asm) fun p hp => List.mem_cons_of_mem _ hp) ⟨rfl, _, rfl⟩
end Mine
end
section
open PySem PySem.W PySem.Calls PyProof.Rows
set_option Elab.async false
set_option maxRecDepth 100000
set_option maxHeartbeats 1000000
namespace Mine
def spec5 (c : Nat) : Bool := c == 92 || c == 45 || c == 38 || c == 126 || c == 124
def escS (c : Nat) : PySem.Str := if spec5 c = true then ⟨#[92, c]⟩ else ⟨#[c]⟩
section
variable {prog : Program} {w : World} {A : Around} {E : Value → Shared → Prop} {s : Shared} {t u : Tok} {Q : Value → Shared → Prop}
theorem op_mod128 {x : Nat} (h : Q (.int ((x % 128 : Nat) : Int) s.toks) { s with toks := s.toks + 1 }) : wpAny (model prog w) A (binaryOp .Mod (.int (x : Int) t) (.int 128 u)) Q E s := by
  refine mod_int (by decide) ?_
  rw [show ((x : Int)).fmod 128 = ((x % 128 : Nat) : Int) by rw [Int.fmod_eq_emod_of_nonneg _ (by decide)]; omega]
  exact h
theorem in5 {c : Nat} {y : PySem.Str} (hy : y = ⟨#[92, 45, 38, 126, 124]⟩) (hq : Q (.bool (spec5 c)) s) : wpAny (model prog w) A (compareOp .In (.str ⟨#[c]⟩ t) (.str y u)) Q E s := by
  subst hy
  refine P.in_str ?_
  rw [StrLaws.found_one]
  have e : decide (c ∈ (⟨#[92, 45, 38, 126, 124]⟩ : PySem.Str).cps.toList) = spec5 c := by
    unfold spec5
    rw [Bool.eq_iff_iff]
    simp [or_assoc]
  rw [e]
  exact hq
end
theorem lit_spec : PySem.Str.ofString "\\-&~|" = ⟨#[92, 45, 38, 126, 124]⟩ := by decide
end Mine
namespace Mine
open PyProof.Rows.LCg
def SEnd (z : PySem.Str) (h : Heap) (g : Array GenState) (d : Drawn) (os : OsState) (v : Value) (s : Shared) : Prop := ∃ u tk, v = .str z u ∧ s = ⟨h, g, d, tk, os⟩
theorem SEnd.intro {z z' : PySem.Str} {h : Heap} {g : Array GenState} {d : Drawn} {os : OsState} {u tk : Nat} (e : z' = z) : SEnd z h g d os (.str z' u) ⟨h, g, d, tk, os⟩ := ⟨u, tk, by rw [e], rfl⟩
section
variable {prog : Program} {w : World} {A : Around} {E : Value → Shared → Prop} {s : Shared} {h₀ : Heap} {L : Addr} {m : PySem.Str → Option Value} {env : Env} {news : List (Addr × Obj)}
theorem comp_str {elt : PySem.Expr} {y : PySem.Str} {scope : Scope} {cl : List (PySem.Str × Addr)} {m' : Addr → PySem.Str → Option Value} {Q : Addr → Shared → Prop} {x : PySem.Str} {t : Tok} (hh : A.handled = none) (F : Fr h₀ L s.heap m) (N : News h₀ L s.heap news) (hsz : x.cps.size ≤ 1000) (f : Nat → PySem.Str)
    (turn : ∀ c u I oI C oC D m₂ ys h tk (E' : Value → Shared → Prop), NsObj oC m₂ → m₂ y = some (.str ⟨#[c]⟩ u) → Fr h₀ L h m → News h₀ L h ((I, oI) :: (C, oC) :: (D, lst ys) :: news) →
      (∀ p ∈ news, p.1 ≠ I ∧ p.1 ≠ C ∧ p.1 ≠ D) → ((@Ne Nat I C) ∧ (@Ne Nat I D) ∧ (@Ne Nat C D)) →
      wpAny (model prog w) A (eval elt (compEnvC scope cl C env)) (SEnd (f c) h s.gens s.drawn s.os) E' ⟨h, s.gens, s.drawn, tk, s.os⟩)
    (fin : ∀ D h tk qs, qs.map (·.1) = x.cps.toList.map f → Fr h₀ L h (m' D) → News h₀ L h ((D, lst (strValues qs)) :: news) → (∀ p ∈ news, p.1 < D) → Q D ⟨h, s.gens, s.drawn, tk, s.os⟩) :
    wpAny (model prog w) A (pyIter (.str x t)) (CompAt prog w A h₀ L m env [] elt y scope cl m' Q) E s := by
  refine src_str hh F N (by rw [sizeLine_eq]; omega) ?_
  intro I h' St X
  refine ⟨I, _, _, _, _, _, _, fun i ys nw g => g = s.gens ∧ nw = news ∧ ∃ qs : List (PySem.Str × Tok), ys = strValues qs ∧ qs.map (·.1) = (x.cps.toList.take i).map f, rfl, X, ⟨rfl, rfl, [], rfl, rfl⟩, CTurn.plain ?_, ?_⟩
  · rintro i v ys nw oI C oC D m₂ h tk g E' hi ⟨c, u, hc, rfl⟩ _ ⟨rfl, rfl, qs, rfl, hq⟩ _ hC hx F N off ne
    refine wpAny_mono (turn c u I oI C oC D m₂ _ h tk E' hC hx F N off ne) (fun v s₃ h₃ => ?_) fun _ _ e => e
    obtain ⟨u', tk', rfl, rfl⟩ := h₃
    refine CEnd.intro F N _ (fun p hp => hp) (off3 off) trivial ⟨rfl, rfl, qs ++ [(f c, u')], ?_, ?_⟩
    · unfold strValues; rw [List.map_append]; rfl
    · have hc' : x.cps.toList[i]? = some c := by simpa using hc
      rw [List.take_add_one, hc', List.map_append, List.map_append, hq]; rfl
  · rintro D h tk g ys nw F N nD lD _ ⟨rfl, rfl, qs, rfl, hq⟩
    refine fin D h tk qs ?_ F N lD
    rw [hq, List.take_of_length_le (by simp)]
end
def signsText (a b : Nat) : PySem.Str := Txt.join (PySem.Str.ofString "") ([a, b].map escS)
theorem signs_cps (a b : Nat) : (signsText a b).cps.toList = (escS a).cps.toList ++ (escS b).cps.toList := by
  unfold signsText
  rw [join_cps]; simp
theorem escS_len (a : Nat) : (escS a).length ≤ 2 := by
  show (escS a).cps.size ≤ 2
  unfold escS; split <;> simp
theorem esc_of (x : Nat) : (escS x).cps.toList = esc x := by
  unfold escS esc spec5
  by_cases h : x = 92 ∨ x = 45 ∨ x = 38 ∨ x = 126 ∨ x = 124
  · rw [if_pos h, if_pos (by simpa [or_assoc] using h)]
  · rw [if_neg h, if_neg (by simpa [or_assoc] using h)]
theorem esc_big {x : Nat} (h : 127 < x) : (escS x).cps.toList = [x] := by
  rw [esc_of]; unfold esc; rw [if_neg (by omega)]
theorem str_of_list {x y : PySem.Str} (h : x.cps.toList = y.cps.toList) : x = y := PySem.Str.ext' (Array.toList_inj.mp h)
theorem sign_list (a b : Nat) : ((⟨#[a]⟩ : PySem.Str) ++ ⟨#[b]⟩).cps.toList = [a, b] := rfl
theorem cps_app (x y : PySem.Str) : (x ++ y).cps.toList = x.cps.toList ++ y.cps.toList := by
  show (x.cps ++ y.cps).toList = _
  simp
theorem piece_T {x c d : Nat} (hc : c = x) (hd : d = x + 128) (h : ((⟨#[c]⟩ : PySem.Str) == PySem.Str.ofString "]") = true) : PySem.Str.ofString "[" ++ signsText c d ++ PySem.Str.ofString "]" = pieceS x := by
  have h2 : c = 93 := by rw [lit_is c 93 lit_rb h]
  subst hc hd
  subst h2
  refine str_of_list ?_
  rw [cps_app, cps_app, signs_cps, lit_lb, lit_rb, esc_of, esc_of]; rfl
theorem piece_F {x c d : Nat} (hx : x < 128) (hc : c = x) (hd : d = x + 128) (h : ((⟨#[c]⟩ : PySem.Str) == PySem.Str.ofString "]") = false) : PySem.Str.ofString "[" ++ signsText d c ++ PySem.Str.ofString "]" = pieceS x := by
  have h2 : ¬ c = 93 := by rw [lit_is c 93 lit_rb h]; decide
  subst hc hd
  refine str_of_list ?_
  rw [cps_app, cps_app, signs_cps, lit_lb, lit_rb, esc_big (by omega), esc_of]
  unfold pieceS pieceL
  rw [if_neg h2]
  simp
end Mine
namespace Mine
open Builtin.Str in
theorem spec_occ (c : Nat) : (!(occurrences (PySem.Str.ofString "\\-&~|") ⟨#[c]⟩ 0 (PySem.Str.ofString "\\-&~|").length 1).isEmpty) = spec5 c := by
  rw [StrLaws.found_one, lit_spec]
  unfold spec5
  rw [Bool.eq_iff_iff]
  simp [or_assoc]
open Builtin.Str in
theorem esc_no {c : Nat} (h : (occurrences (PySem.Str.ofString "\\-&~|") ⟨#[c]⟩ 0 (PySem.Str.ofString "\\-&~|").length 1).isEmpty = true) : (⟨#[c]⟩ : PySem.Str) = escS c := by
  have := spec_occ c
  rw [h] at this
  unfold escS
  rw [← this]; rfl
open Builtin.Str in
theorem esc_yes {c : Nat} (h : (occurrences (PySem.Str.ofString "\\-&~|") ⟨#[c]⟩ 0 (PySem.Str.ofString "\\-&~|").length 1).isEmpty = false) : PySem.Str.ofString "\\" ++ (⟨#[c]⟩ : PySem.Str) = escS c := by
  have := spec_occ c
  rw [h] at this
  unfold escS
  rw [← this, lit_bs]; rfl
end Mine
namespace Mine
theorem two_sum (a b : Nat) : ((([a, b].map escS).map (·.length)).sum + ([a, b].map escS).length * (PySem.Str.ofString "").length) ≤ 16777216 := by
  have e0 : (PySem.Str.ofString "").length = 0 := by decide
  have h1 := escS_len a
  have h2 := escS_len b
  simp only [List.map_cons, List.map_nil, List.sum_cons, List.sum_nil, e0, Nat.mul_zero]
  omega
theorem signs_len (a b : Nat) : (signsText a b).length ≤ 4 := by
  have h1 := escS_len a
  have h2 := escS_len b
  have := congrArg List.length (signs_cps a b)
  rw [List.length_append] at this
  simp only [Array.length_toList] at this
  show (signsText a b).cps.size ≤ 4
  have e1 : (escS a).cps.size ≤ 2 := h1
  have e2 : (escS b).cps.size ≤ 2 := h2
  omega
theorem text_step {T : Array UInt8} {i : Nat} {o : UInt8} {ps : List (PySem.Str × Tok)} {x : PySem.Str} {t : Tok} (hT : T[i]? = some o) (h : ps.map (·.1) = (T.toList.take i).map (fun o => pieceS (o.toNat % 128))) (hx : x = pieceS (o.toNat % 128)) :
    (ps ++ [(x, t)]).map (·.1) = (T.toList.take (i + 1)).map (fun o => pieceS (o.toNat % 128)) := by
  have hT' : T.toList[i]? = some o := by simpa using hT
  rw [List.map_append, h, List.take_add_one, hT', List.map_append, hx]; rfl
end Mine
namespace Mine
def textOf (xs : List Nat) : PySem.Str := PySem.Str.ofString "(?s:" ++ Txt.join (PySem.Str.ofString "") (xs.map pieceS) ++ PySem.Str.ofString ")\\Z"
theorem pieceS_le (x : Nat) : (pieceS x).length ≤ 5 := by
  show (pieceL x).toArray.size ≤ 5
  unfold pieceL esc
  split
  · simp
  · split <;> simp
theorem pieceS_sum (xs : List Nat) : ((xs.map pieceS).map (·.length)).sum ≤ 5 * xs.length := by
  induction xs with
  | nil => simp
  | cons x r ih =>
    have := pieceS_le x
    simp only [List.map_cons, List.sum_cons, List.length_cons]
    omega
theorem joinS_le (xs : List Nat) : (Txt.join (PySem.Str.ofString "") (xs.map pieceS)).length ≤ 5 * xs.length := by
  have h := StrLaws.join_length_le (PySem.Str.ofString "") (xs.map pieceS)
  have h2 := pieceS_sum xs
  have e : Txt.join (PySem.Str.ofString "") (xs.map pieceS) = PySem.Str.join (PySem.Str.ofString "") (xs.map pieceS) := StrLaws.glued_eq_join _ _
  have e0 : (PySem.Str.ofString "").length = 0 := by decide
  rw [e0, Nat.mul_zero] at h
  rw [e]
  omega
def lowL (T : Array UInt8) : List Nat := T.toList.map fun o => o.toNat % 128
theorem lowL_len (T : Array UInt8) : (lowL T).length = T.size := by simp [lowL]
end Mine
end
section
open PySem PySem.W PyProof.Rows Mine
set_option Elab.async false
set_option maxRecDepth 100000
set_option maxHeartbeats 2000000
local macro_rules | `(tactic| walk_at "exec While") => `(tactic| (refine Halt.intro ?_))
local macro_rules | `(tactic| walk_at "exec While BinOp") => `(tactic| (refine Halt.intro ?_))
local macro_rules | `(tactic| walk_at "exec For") => `(tactic| (k_here; refine Halt.intro ?_))
local macro_rules | `(tactic| walk_at "exec For Name Call cons nil") => `(tactic| (k_here; refine Halt.intro ?_))
local macro_rules | `(tactic| walk_at "exec For Name Name cons nil") => `(tactic| (k_here; refine Halt.intro ?_))
local macro_rules | `(tactic| walk_at "eval ListComp") => `(tactic| (k_here; refine Halt.intro ?_))
local macro_rules | `(tactic| walk_at "exec Assign cons ListComp") => `(tactic| (k_here; first | (k_dflt (refine wpAny_Assign_Name ?_ (by with_unfolding_all rfl))) | refine Halt.intro ?_))
local macro_rules | `(tactic| walk_at "pyIter ref") => `(tactic| (refine Halt.intro ?_))
local macro_rules | `(tactic| walk_at "pyIter str") => `(tactic| (refine Halt.intro ?_))
local macro_rules | `(tactic| walk_at "pyIter bytes") => `(tactic| (refine Halt.intro ?_))
local macro_rules | `(tactic| wrow_close) => `(tactic| ((with_reducible show StepE _ _ _ _ _ _ _); refine Halt.intro ?_))
local macro_rules | `(tactic| wrow_close) => `(tactic| ((with_reducible show CEnd _ _ _ _ _ _ _ _ _ _); refine Halt.intro ?_))
local macro_rules | `(tactic| wrow_close) => `(tactic| ((with_reducible show FEnd _ _ _ _ _ _ _ _); refine Halt.intro ?_))
local macro_rules | `(tactic| k_room) => `(tactic| ((try simp only [depth_under_make, depth_under_kw, depth_in1, depth_deeper, depth_caller]); exact Nat.lt_of_le_of_lt (Nat.add_le_add_right (by assumption) _) (by decide)))
local macro_rules | `(tactic| walk_at "binaryOp Mod int int") => `(tactic| (k_here; (with_reducible refine op_mod128 ?_)))
local macro_rules | `(tactic| wrow_close) => `(tactic| ((with_reducible show SEnd _ _ _ _ _ _ _); refine Halt.intro ?_))
namespace Mine
theorem text_spec (w : World) (news : List (Addr × Obj)) (T : Array UInt8) (tT : Tok) (hm : T.size ≤ 16) :
    SpecL w 100 [.bytes T tT] news (fun v news' => news' = news ∧ ∃ t, v = .str (textOf (lowL T)) t) := by
  unfold SpecL
  k_fill
  w_top off
  intro p loose mean mg mb dp un gd cn cs a ccd cl outer A₀ base h₀ L m s Q E hBl hF hX hN hT hC hk hdp hun hG hret
  refine wpAny_call ?_
  k_dflt cell_enter
  k_steps
  show wpAny _ _ _ _ _ _
  rename_i br h0 l1 h1 F1 N1
  refine forN (by k_asm) (by rfl) (by rfl) ?_
  k_steps
  show wpAny _ _ _ _ _ _
  refine src_bytes rfl F1 N1 (by rw [sizeLine_eq]; omega) ?_
  intro I h5 X
  refine ⟨I, _, _, _, _, _, _, fun i m₁ nw => ∃ (ps : List (PySem.Str × Tok)) (c : Nat), nw = (br, PySem.W.listOf (strValues ps).toArray c) :: news ∧ ps.map (·.1) = (T.toList.take i).map (fun o => pieceS (o.toNat % 128)) ∧
    m₁ (PySem.Str.ofString "sets") = some (.ref br), rfl, X, ⟨[], 0, rfl, rfl, rfl⟩, ?_, ?_⟩
  · clear F1 N1 X
    rintro i v m₁ nw oI h tk hi ⟨o, t, hTo, rfl⟩ ⟨ps, c, rfl, hps, e3⟩ _ F N off
    replace F := frPuts [(PySem.Str.ofString "sets", .ref br)] F (by
      simp only [List.forall_mem_cons, List.not_mem_nil, false_implies, implies_true, and_true]; exact e3)
    clear e3
    have hz : (strValues ps).toArray.size ≤ sizeLine := by
      have := congrArg List.length hps
      simp only [List.length_map, List.length_take] at this
      rw [List.size_toArray, sizeLine_eq]
      unfold strValues
      rw [List.length_map]
      omega
    dsimp only
    k_steps
    · show wpAny _ _ _ _ _ _
      rename_i hq _ _ _ _ F6 N6
      refine compExpr F6 rfl (by decide) rfl (by decide) rfl ?_
      k_steps
      show wpAny _ _ _ _ _ _
      refine comp_str (news := (I, oI) :: (br, PySem.W.listOf (strValues ps).toArray c) :: news) rfl F6 (newsSub N6 (fun p hp => List.mem_cons_of_mem _ hp)) (show 2 ≤ 1000 by decide) escS ?_ ?_
      · clear F6 N6
        intro c' u' I2 oI2 C2 oC2 D2 m₂ ys2 h9 tk9 E9 hC2 hx2 F N off2 ne2
        dsimp only
        k_steps
        · show SEnd _ _ _ _ _ _ _
          exact SEnd.intro (esc_no (by assumption))
        · show SEnd _ _ _ _ _ _ _
          exact SEnd.intro (esc_yes (by assumption))
      · clear F6 N6
        intro D2 h9 tk9 qs hqs F N lD2
        dsimp only
        rw [sign_list] at hqs
        k_steps
        refine SC.join (l := qs) (News.isList (by k_asm) (by k_mem)) hqs (joinOk_of (two_sum _ _)) ?_
        intro t9 k9
        with_reducible generalize hsg : Txt.join (PySem.Str.ofString "") ([_, _].map escS) = sg
        change signsText _ _ = sg at hsg
        have hsl : sg.length ≤ 4 := by rw [← hsg]; exact signs_len _ _
        k_steps
        show wpAny _ _ _ _ _ _
        refine append_second (p₁ := (I, oI)) (rest := news) (n := c) (by k_asm) (newsSub N (fun p hp => List.mem_cons_of_mem _ hp)) (Ne.symm (off (br, PySem.W.listOf (strValues ps).toArray c) List.mem_cons_self)) (fun p hp => Nat.ne_of_lt (l1 p hp)) ?_ (hsz := hz)
        intro h' F' N'
        clear F N
        k_steps
        show FEnd _ _ _ _ _ _ _ _
        refine FEnd.intro (by k_asm) (by k_asm) _ (fun p hp => hp) (fun p hp q hq => ?_) trivial ⟨ps ++ [_], c + 1, by rw [strValues_push], text_step hTo hps (by rw [← hsg]; exact piece_T (by omega) (by omega) hq), rfl⟩
        rw [List.mem_singleton.mp hq]
        rcases List.mem_cons.mp hp with rfl | hp
        · exact off (br, PySem.W.listOf (strValues ps).toArray c) List.mem_cons_self
        · exact off p (List.mem_cons_of_mem _ hp)
    · show wpAny _ _ _ _ _ _
      rename_i hq _ _ _ _ F6 N6
      refine compExpr F6 rfl (by decide) rfl (by decide) rfl ?_
      k_steps
      show wpAny _ _ _ _ _ _
      refine comp_str (news := (I, oI) :: (br, PySem.W.listOf (strValues ps).toArray c) :: news) rfl F6 (newsSub N6 (fun p hp => List.mem_cons_of_mem _ hp)) (show 2 ≤ 1000 by decide) escS ?_ ?_
      · clear F6 N6
        intro c' u' I2 oI2 C2 oC2 D2 m₂ ys2 h9 tk9 E9 hC2 hx2 F N off2 ne2
        dsimp only
        k_steps
        · show SEnd _ _ _ _ _ _ _
          exact SEnd.intro (esc_no (by assumption))
        · show SEnd _ _ _ _ _ _ _
          exact SEnd.intro (esc_yes (by assumption))
      · clear F6 N6
        intro D2 h9 tk9 qs hqs F N lD2
        dsimp only
        rw [sign_list] at hqs
        k_steps
        refine SC.join (l := qs) (News.isList (by k_asm) (by k_mem)) hqs (joinOk_of (two_sum _ _)) ?_
        intro t9 k9
        with_reducible generalize hsg : Txt.join (PySem.Str.ofString "") ([_, _].map escS) = sg
        change signsText _ _ = sg at hsg
        have hsl : sg.length ≤ 4 := by rw [← hsg]; exact signs_len _ _
        k_steps
        show wpAny _ _ _ _ _ _
        refine append_second (p₁ := (I, oI)) (rest := news) (n := c) (by k_asm) (newsSub N (fun p hp => List.mem_cons_of_mem _ hp)) (Ne.symm (off (br, PySem.W.listOf (strValues ps).toArray c) List.mem_cons_self)) (fun p hp => Nat.ne_of_lt (l1 p hp)) ?_ (hsz := hz)
        intro h' F' N'
        clear F N
        k_steps
        show FEnd _ _ _ _ _ _ _ _
        refine FEnd.intro (by k_asm) (by k_asm) _ (fun p hp => hp) (fun p hp q hq => ?_) trivial ⟨ps ++ [_], c + 1, by rw [strValues_push], text_step hTo hps (by rw [← hsg]; exact piece_F (Nat.mod_lt _ (by decide)) (by omega) (by omega) hq), rfl⟩
        rw [List.mem_singleton.mp hq]
        rcases List.mem_cons.mp hp with rfl | hp
        · exact off (br, PySem.W.listOf (strValues ps).toArray c) List.mem_cons_self
        · exact off p (List.mem_cons_of_mem _ hp)
  · rintro m₁ nw h tk ⟨ps, c, rfl, hps, e3⟩ _ F N
    clear F1 N1 X
    replace F := frPuts [(PySem.Str.ofString "sets", .ref br)] F (by
      simp only [List.forall_mem_cons, List.not_mem_nil, false_implies, implies_true, and_true]; exact e3)
    have ht : ps.map (·.1) = (lowL T).map pieceS := by
      rw [hps, lowL, List.map_map, List.take_of_length_le (by simp)]; rfl
    dsimp only
    k_steps
    refine SC.join (l := ps) (texts := (lowL T).map pieceS) (News.isList (by k_asm) (by k_mem)) ht (joinOk_of ?hsum) ?_
    case hsum =>
      have e0 : (PySem.Str.ofString "").length = 0 := by decide
      have := pieceS_sum (lowL T)
      rw [lowL_len] at this
      rw [e0, Nat.mul_zero]
      omega
    intro t9 k9
    have hjl := joinS_le (lowL T)
    rw [lowL_len] at hjl
    generalize hTx : Txt.join (PySem.Str.ofString "") ((lowL T).map pieceS) = Tx at hjl
    k_steps
    refine hret _ _ _ _ (by k_asm) (newsSub (by k_asm) fun p hp => List.mem_cons_of_mem _ hp) ⟨rfl, _, by unfold textOf; rw [hTx]⟩
end Mine
end
section
open PySem PySem.W PySem.Calls PyProof.Rows
set_option Elab.async false
set_option maxRecDepth 100000
set_option maxHeartbeats 1000000
namespace Mine
open PyProof.Rows.LCg
def IEnd (z : Int) (h : Heap) (g : Array GenState) (d : Drawn) (os : OsState) (v : Value) (s : Shared) : Prop := ∃ u tk, v = .int z u ∧ s = ⟨h, g, d, tk, os⟩
theorem IEnd.intro {z z' : Int} {h : Heap} {g : Array GenState} {d : Drawn} {os : OsState} {u tk : Nat} (e : z' = z) : IEnd z h g d os (.int z' u) ⟨h, g, d, tk, os⟩ := ⟨u, tk, by rw [e], rfl⟩
def BEnd (b : Bool) (h : Heap) (g : Array GenState) (d : Drawn) (os : OsState) (v : Bool) (s : Shared) : Prop := v = b ∧ ∃ tk, s = ⟨h, g, d, tk, os⟩
theorem BEnd.intro {b b' : Bool} {h : Heap} {g : Array GenState} {d : Drawn} {os : OsState} {tk : Nat} (e : b' = b) : BEnd b h g d os b' ⟨h, g, d, tk, os⟩ := ⟨e, tk, rfl⟩
def DEnd (h₀ : Heap) (L : Addr) (m : PySem.Str → Option Value) (g : Array GenState) (d : Drawn) (os : OsState) (all : List (Addr × Obj)) (da : Dat) (v : Value) (s : Shared) : Prop :=
  ∃ h' tk' news', s = ⟨h', g, d, tk', os⟩ ∧ Fr h₀ L h' m ∧ News h₀ L h' news' ∧ AddPost all da v news'
section
variable {prog : Program} {w : World} {A : Around} {E : Value → Shared → Prop} {s : Shared} {h₀ : Heap} {L : Addr} {m : PySem.Str → Option Value} {env : Env} {news : List (Addr × Obj)}
theorem comp_intsL {elt : PySem.Expr} {y : PySem.Str} {scope : Scope} {cl : List (PySem.Str × Addr)} {m' : Addr → PySem.Str → Option Value} {Q : Addr → Shared → Prop} {ax : Addr} {k : Nat} {vs : List Value} {ns : List Int}
    (hh : A.handled = none) (F : Fr h₀ L s.heap m) (N : News h₀ L s.heap news) (hm : (ax, PySem.W.listOf vs.toArray k) ∈ news) (hi : IntsAre vs ns) (hsz : vs.length ≤ 1000) (f : Int → Int)
    (turn : ∀ n u I oI C oC D m₂ ys h tk (E' : Value → Shared → Prop), n ∈ ns → NsObj oC m₂ → m₂ y = some (.int n u) → Fr h₀ L h m → News h₀ L h ((I, oI) :: (C, oC) :: (D, lst ys) :: news) →
      (∀ p ∈ news, p.1 ≠ I ∧ p.1 ≠ C ∧ p.1 ≠ D) → ((@Ne Nat I C) ∧ (@Ne Nat I D) ∧ (@Ne Nat C D)) →
      wpAny (model prog w) A (eval elt (compEnvC scope cl C env)) (IEnd (f n) h s.gens s.drawn s.os) E' ⟨h, s.gens, s.drawn, tk, s.os⟩)
    (fin : ∀ D h tk ys, IntsAre ys (ns.map f) → Fr h₀ L h (m' D) → News h₀ L h ((D, lst ys) :: news) → (∀ p ∈ news, p.1 < D) → Q D ⟨h, s.gens, s.drawn, tk, s.os⟩) :
    wpAny (model prog w) A (pyIter (.ref ax)) (CompAt prog w A h₀ L m env [] elt y scope cl m' Q) E s := by
  refine src_list hh F N hm (by rw [sizeLine_eq, List.size_toArray]; omega) ?_
  intro I h' X
  refine ⟨I, _, _, _, _, _, _, fun i ys nw g => g = s.gens ∧ nw = news ∧ IntsAre ys ((ns.take i).map f), rfl, X, ⟨rfl, rfl, .nil⟩, CTurn.plain ?_, ?_⟩
  · rintro i v ys nw oI C oC D m₂ h tk g E' hlt hv _ ⟨rfl, rfl, hy⟩ hm' hC hx F N off ne
    obtain ⟨n, u, rfl, hn⟩ := IntsAre.at hi i v (by simpa using hv)
    refine wpAny_mono (turn n u I oI C oC D m₂ _ h tk E' (List.mem_of_getElem? hn) hC hx F N off ne) (fun v s₃ h₃ => ?_) fun _ _ e => e
    obtain ⟨u', tk', rfl, rfl⟩ := h₃
    refine CEnd.intro F N _ (fun p hp => hp) (off3 off) hm' ⟨rfl, rfl, ?_⟩
    rw [List.take_add_one, hn, List.map_append]
    exact IntsAre.append hy (.cons _ u' .nil)
  · rintro D h tk g ys nw F9 N9 nD lD _ ⟨rfl, rfl, hq⟩
    refine fin D h tk ys ?_ F9 N9 lD
    rw [List.take_of_length_le (by rw [List.size_toArray]; exact Nat.le_of_eq hi.length.symm)] at hq
    exact hq

theorem comp_dat {elt : PySem.Expr} {y : PySem.Str} {scope : Scope} {cl : List (PySem.Str × Addr)} {m' : Addr → PySem.Str → Option Value} {Q : Addr → Shared → Prop} {r : Addr} {z : Int} {n : Nat} {t₀ t₁ t₂ : Tok} (hz : z = (n : Int))
    (hh : A.handled = none) (F : Fr h₀ L s.heap m) (N : News h₀ L s.heap news) (hr : IsRange s.heap r 0 z 1 t₀ t₁ t₂) (hn : n ≤ 1000) (dat : Nat → Dat)
    (turn : ∀ i t C oC m₂ all h tk (E' : Value → Shared → Prop), i < n → NsObj oC m₂ → m₂ y = some (.int (i : Int) t) → Fr h₀ L h m → News h₀ L h all → (C, oC) ∈ all → (∀ p ∈ news, p ∈ all) →
      wpAny (model prog w) A (eval elt (compEnvC scope cl C env)) (DEnd h₀ L m s.gens s.drawn s.os all (dat i)) E' ⟨h, s.gens, s.drawn, tk, s.os⟩)
    (fin : ∀ D h tk ys add, DatAll add ys ((List.range n).map dat) → (∀ p ∈ add, ∀ q ∈ news, p.1 ≠ q.1) → (∀ p ∈ add, p.1 ≠ D) → Fr h₀ L h (m' D) → News h₀ L h ((D, lst ys) :: (news ++ add)) → (∀ p ∈ news, p.1 < D) → Q D ⟨h, s.gens, s.drawn, tk, s.os⟩) :
    wpAny (model prog w) A (pyIter (.ref r)) (CompAt prog w A h₀ L m env [] elt y scope cl m' Q) E s := by
  refine src_rangeN (a := 0) (b := n) rfl hz hh F N hr hn (by omega) ?_
  intro I h' X
  refine ⟨I, _, _, _, _, _, _, fun i ys nw g => g = s.gens ∧ ∃ add, nw = news ++ add ∧ (∀ p ∈ add, ∀ q ∈ news, p.1 ≠ q.1) ∧ DatAll add ys ((List.range i).map dat), rfl, X, ⟨rfl, [], (List.append_nil _).symm, (fun _ hp => nomatch hp), .nil⟩, CTurn.plain ?_, ?_⟩
  · rintro i v ys nw oI C oC D m₂ h tk g E' hi ⟨t, rfl⟩ _ ⟨rfl, add, rfl, hoff, hd⟩ _ hC hx F N off ne
    have hx' : m₂ y = some (.int (i : Int) t) := by rw [hx]; congr 2; omega
    refine wpAny_mono (turn i t C oC m₂ _ h tk E' (by omega) hC hx' F N (by simp) (fun p hp => by simp [hp])) (fun v s₃ h₃ => ?_) fun _ _ e => e
    obtain ⟨h'', tk', news', rfl, F', N', add2, rfl, ho2, hd2⟩ := h₃
    refine CEnd.intro F' N' (news ++ (add2 ++ add)) (fun p hp => ?_) (fun p hp q hq => ?_) trivial ⟨rfl, add2 ++ add, rfl, fun p hp q hq => ?_, ?_⟩
    · simp only [List.mem_append, List.mem_cons, List.not_mem_nil, or_false] at hp ⊢
      rcases hp with (h | h | h) | h | h | h <;> simp [h]
    · have hq' : q ∈ (I, oI) :: (C, oC) :: (D, lst ys) :: (news ++ add) := by
        simp only [List.mem_append, List.mem_cons, List.not_mem_nil, or_false] at hq ⊢
        rcases hq with h | h | h <;> simp [h]
      rcases List.mem_append.mp hp with hp | hp
      · exact off3 off p (List.mem_append_left _ hp) q hq
      rcases List.mem_append.mp hp with hp | hp
      · exact ho2 p hp q hq'
      · exact off3 off p (List.mem_append_right _ hp) q hq
    · rcases List.mem_append.mp hp with hp | hp
      · exact ho2 p hp q (by simp [hq])
      · exact hoff p hp q hq
    · rw [List.range_succ, List.map_append]
      exact DatAll.append (hd.mono fun p hp => List.mem_append_right _ hp) (.cons (hd2.mono fun p hp => List.mem_append_left _ hp) .nil)
  · rintro D h tk g ys nw F N nD lD _ ⟨rfl, add, rfl, hoff, hd⟩
    exact fin D h tk ys add hd hoff (fun p hp => nD p (List.mem_append_right _ hp)) F N lD

theorem comp_filt {ct elt : PySem.Expr} {y : PySem.Str} {scope : Scope} {cl : List (PySem.Str × Addr)} {m' : Addr → PySem.Str → Option Value} {Q : Addr → Shared → Prop} {r : Addr} {z : Int} {n : Nat} {t₀ t₁ t₂ : Tok} (hz : z = (n : Int))
    (hh : A.handled = none) (F : Fr h₀ L s.heap m) (N : News h₀ L s.heap news) (hr : IsRange s.heap r 0 z 1 t₀ t₁ t₂) (hn : n ≤ 1000) (p : Nat → Bool)
    (turn : ∀ i t I oI C oC D m₂ ys h tk (E' : Value → Shared → Prop), i < n → NsObj oC m₂ → m₂ y = some (.int (i : Int) t) → Fr h₀ L h m → News h₀ L h ((I, oI) :: (C, oC) :: (D, lst ys) :: news) →
      wpAny (model prog w) A (PySem.isTrue ct (compEnvC scope cl C env) (eval ct (compEnvC scope cl C env))) (BEnd (p i) h s.gens s.drawn s.os) E' ⟨h, s.gens, s.drawn, tk, s.os⟩)
    (turn2 : ∀ i t I oI C oC D m₂ ys h tk (E' : Value → Shared → Prop), i < n → NsObj oC m₂ → m₂ y = some (.int (i : Int) t) → Fr h₀ L h m → News h₀ L h ((I, oI) :: (C, oC) :: (D, lst ys) :: news) →
      wpAny (model prog w) A (eval elt (compEnvC scope cl C env)) (IEnd (i : Int) h s.gens s.drawn s.os) E' ⟨h, s.gens, s.drawn, tk, s.os⟩)
    (fin : ∀ D h tk ys, IntsAre ys (((List.range n).filter p).map fun (i : Nat) => (i : Int)) → Fr h₀ L h (m' D) → News h₀ L h ((D, lst ys) :: news) → (∀ p ∈ news, p.1 < D) → Q D ⟨h, s.gens, s.drawn, tk, s.os⟩) :
    wpAny (model prog w) A (pyIter (.ref r)) (CompAt prog w A h₀ L m env [ct] elt y scope cl m' Q) E s := by
  refine src_rangeN (a := 0) (b := n) rfl hz hh F N hr hn (by omega) ?_
  intro I h' X
  refine ⟨I, _, _, _, _, _, _, fun i ys nw g => g = s.gens ∧ nw = news ∧ IntsAre ys (((List.range i).filter p).map fun (i : Nat) => (i : Int)), rfl, X, ⟨rfl, rfl, .nil⟩, CTurn.test ?_, ?_⟩
  · rintro i v ys nw oI C oC D m₂ h tk g E' hi ⟨t, rfl⟩ _ ⟨rfl, rfl, hy⟩ _ hC hx F N off ne
    have hx' : m₂ y = some (.int (i : Int) t) := by rw [hx]; congr 2; omega
    refine wpAny_mono (turn i t I oI C oC D m₂ _ h tk E' (by omega) hC hx' F N) (fun b s₃ h₃ => ?_) fun _ _ e => e
    obtain ⟨rfl, tk', rfl⟩ := h₃
    cases hp : p i with
    | true =>
      rw [if_pos rfl]
      refine wpAny_mono (turn2 i t I oI C oC D m₂ _ h tk' E' (by omega) hC hx' F N) (fun v s₄ h₄ => ?_) fun _ _ e => e
      obtain ⟨u', tk'', rfl, rfl⟩ := h₄
      refine CEnd.intro F N _ (fun p hp => hp) (off3 off) trivial ⟨rfl, rfl, ?_⟩
      rw [List.range_succ, List.filter_append, List.map_append]
      simp only [List.filter_cons, hp, if_true, List.filter_nil, List.map_cons, List.map_nil]
      exact IntsAre.append hy (.cons _ u' .nil)
    | false =>
      rw [if_neg (by decide)]
      refine CEnd.intro F N _ (fun p hp => hp) (off3 off) trivial ⟨rfl, rfl, ?_⟩
      rw [List.range_succ, List.filter_append, List.map_append]
      simp only [List.filter_cons, hp, List.filter_nil]
      simpa using hy
  · rintro D h tk g ys nw F9 N9 nD lD _ ⟨rfl, rfl, hq⟩
    exact fin D h tk ys hq F9 N9 lD
end
end Mine
namespace Mine
open PyProof.Rows.LCg
def TEnd (h₀ : Heap) (L : Addr) (m : PySem.Str → Option Value) (d : Drawn) (os : OsState) (all : List (Addr × Obj)) (z : PySem.Str) (v : Value) (s : Shared) : Prop :=
  ∃ u h' tk' g' tab' rest', v = .str z u ∧ s = ⟨h', g', d, tk', os⟩ ∧ Fr h₀ L h' m ∧ News h₀ L h' ((64, tabObj tab') :: rest') ∧ AllBare g' ∧ TabOk tab' rest' ∧ (∀ p ∈ all, p ∈ rest')
section
variable {prog : Program} {w : World} {A : Around} {E : Value → Shared → Prop} {s : Shared} {h₀ : Heap} {L : Addr} {m : PySem.Str → Option Value} {env : Env} {news : List (Addr × Obj)}
theorem comp_trans {elt : PySem.Expr} {y : PySem.Str} {scope : Scope} {cl : List (PySem.Str × Addr)} {m' : Addr → PySem.Str → Option Value} {Q : Addr → Shared → Prop} {ax : Addr} {k : Nat} {vs : List Value} {ns : List Nat} {tab : Array Value} {keep : List (Addr × Obj)}
    (hi : IntsAre vs (ns.map fun (i : Nat) => (i : Int))) (hh : A.handled = none) (F : Fr h₀ L s.heap m) (N : News h₀ L s.heap ((64, tabObj tab) :: keep)) (hm : (ax, PySem.W.listOf vs.toArray k) ∈ keep) (K : TabOk tab keep) (G : AllBare s.gens) (hsz : vs.length ≤ 1000) (f : Nat → PySem.Str)
    (turn : ∀ n u I oI C oC D m₂ ys tab rest h tk g (E' : Value → Shared → Prop), n ∈ ns → NsObj oC m₂ → m₂ y = some (.int (n : Int) u) → AllBare g → TabOk tab ((I, oI) :: (C, oC) :: (D, lst ys) :: rest) → (∀ p ∈ keep, p ∈ rest) → Fr h₀ L h m →
      News h₀ L h ((64, tabObj tab) :: (I, oI) :: (C, oC) :: (D, lst ys) :: rest) →
      wpAny (model prog w) A (eval elt (compEnvC scope cl C env)) (TEnd h₀ L m s.drawn s.os ((I, oI) :: (C, oC) :: (D, lst ys) :: rest) (f n)) E' ⟨h, g, s.drawn, tk, s.os⟩)
    (fin : ∀ D h tk g qs tab' rest', qs.map (·.1) = ns.map f → AllBare g → TabOk tab' rest' → (∀ p ∈ keep, p ∈ rest') → (∀ p ∈ rest', p.1 ≠ D) → @Ne Nat D 64 → Fr h₀ L h (m' D) → News h₀ L h ((D, lst (strValues qs)) :: (64, tabObj tab') :: rest') → Q D ⟨h, g, s.drawn, tk, s.os⟩) :
    wpAny (model prog w) A (pyIter (.ref ax)) (CompAt prog w A h₀ L m env [] elt y scope cl m' Q) E s := by
  refine src_list hh F N (.tail _ hm) (by rw [sizeLine_eq, List.size_toArray]; omega) ?_
  intro I h' X
  refine ⟨I, _, _, _, _, _, _, fun i ys nw g => AllBare g ∧ ∃ (tab : Array Value) (rest : List (Addr × Obj)) (qs : List (PySem.Str × Tok)), nw = (64, tabObj tab) :: rest ∧ TabOk tab rest ∧ (∀ p ∈ keep, p ∈ rest) ∧ ys = strValues qs ∧ qs.map (·.1) = (ns.take i).map f, rfl, X, ⟨G, tab, keep, [], rfl, K, fun _ h => h, rfl, rfl⟩, CTurn.plain ?_, ?_⟩
  · rintro i v ys nw oI C oC D m₂ h tk g E' hlt hv st ⟨hG, tab₁, rest, qs, rfl, K₁, hk, rfl, hq⟩ hm' hC hx F N off ne
    obtain ⟨z, u, rfl, hn⟩ := IntsAre.at hi i v (by simpa using hv)
    obtain ⟨n, hn1, rfl⟩ : ∃ n, ns[i]? = some n ∧ (n : Int) = z := by
      rw [List.getElem?_map] at hn
      cases e : ns[i]? with
      | none => rw [e] at hn; cases hn
      | some n => rw [e] at hn; exact ⟨n, rfl, by simpa using hn⟩
    have o64 := off (64, tabObj tab₁) List.mem_cons_self
    have offr : ∀ p ∈ rest, p.1 ≠ I ∧ p.1 ≠ C ∧ p.1 ≠ D := fun p hp => off p (.tail _ hp)
    have K₂ : TabOk tab₁ ((I, oI) :: (C, oC) :: (D, lst (strValues qs)) :: rest) := by
      refine K₁.mono (fun p hp => by simp [hp]) fun p hp => ?_
      simp only [List.mem_cons] at hp
      rcases hp with rfl | rfl | rfl | hp
      · exact o64.1.symm
      · exact o64.2.1.symm
      · exact o64.2.2.symm
      · exact K₁.apart p hp
    have N' : News h₀ L h ((64, tabObj tab₁) :: (I, oI) :: (C, oC) :: (D, lst (strValues qs)) :: rest) := newsSub N fun p hp => by
      simp only [List.mem_cons] at hp ⊢
      rcases hp with h | h | h | h | h <;> simp [h]
    refine wpAny_mono (turn n u I oI C oC D m₂ _ tab₁ rest h tk g E' (List.mem_of_getElem? hn1) hC hx hG K₂ hk F N') (fun v s₃ h₃ => ?_) fun _ _ e => e
    obtain ⟨u', h'', tk', g', tab', rest', rfl, rfl, F'', N'', hG'', K'', hall⟩ := h₃
    have gI : h.get? I = some oI := (N (I, oI) List.mem_cons_self).1
    obtain ⟨oI', eI, _, dI⟩ := st.1
    have eI' : oI' = oI := by rw [gI] at eI; exact (Option.some.inj eI).symm
    subst eI'
    let nw' := rest'.filter fun p => decide (p.1 ≠ I ∧ p.1 ≠ C ∧ p.1 ≠ D)
    have inn : ∀ p, p ∈ rest' → p.1 ≠ I → p.1 ≠ C → p.1 ≠ D → p ∈ nw' := fun p hp a b c => List.mem_filter.mpr ⟨hp, decide_eq_true ⟨a, b, c⟩⟩
    have out : ∀ p ∈ nw', p ∈ rest' ∧ p.1 ≠ I ∧ p.1 ≠ C ∧ p.1 ≠ D := fun p hp => ⟨(List.mem_filter.mp hp).1, of_decide_eq_true (List.mem_filter.mp hp).2⟩
    have same : ∀ {a : Addr} {o o' : Obj}, (a, o) ∈ rest' → (a, o') ∈ rest' → o = o' := fun {a o o'} h1 h2 => by
      have e1 := (N'' (a, o) (.tail _ h1)).1
      have e2 := (N'' (a, o') (.tail _ h2)).1
      rw [e1] at e2; exact Option.some.inj e2
    have K₃ : TabOk tab' nw' := by
      refine ⟨K''.triples, ?_, fun p hp => K''.apart p (out p hp).1⟩
      refine K''.lam.imp id fun ⟨c', oc, vs', t', e1, e2, e3, e4⟩ => ⟨c', oc, vs', t', e1, inn _ e2 ?_ ?_ ?_, e3, e4⟩
      · intro q
        have q' : c' = I := q
        subst q'
        have := same e2 (hall (c', oI') (by simp))
        rw [this, dI] at e3
        injection e3 with e3
        subst e3
        simp at e4
      · intro q
        have q' : c' = C := q
        subst q'
        have := same e2 (hall (c', oC) (by simp))
        obtain ⟨es, ep, hd, _⟩ := hC
        rw [this, hd] at e3
        cases e3
      · intro q
        have q' : c' = D := q
        subst q'
        have := same e2 (hall (c', lst (strValues qs)) (by simp))
        rw [this] at e3
        cases e3
    refine CEnd.intro F'' N'' ((64, tabObj tab') :: nw') (fun p hp => ?_) (fun p hp q hq => ?_) ?_ ⟨hG'', tab', nw', qs ++ [(f n, u')], rfl, K₃, fun p hp => ?_, ?_, ?_⟩
    · simp only [List.mem_append, List.mem_cons, List.not_mem_nil, or_false] at hp ⊢
      rcases hp with (h | h | h) | h | h
      · rw [h]; exact .inr (hall _ (by simp))
      · rw [h]; exact .inr (hall _ (by simp))
      · rw [h]; exact .inr (hall _ (by simp))
      · exact .inl h
      · exact .inr (out p h).1
    · refine off3 (nw := (64, tabObj tab') :: nw') (fun p hp => ?_) p hp q hq
      rcases List.mem_cons.mp hp with rfl | hp
      · exact o64
      · exact (out p hp).2
    · rcases List.mem_cons.mp hm' with e | hm'
      · injection e with e1 e2
        cases e2
      · have := offr _ hm'
        exact .tail _ (inn _ (hall _ (by simp [hm'])) this.1 this.2.1 this.2.2)
    · have := offr p (hk p hp)
      exact inn p (hall p (by simp [hk p hp])) this.1 this.2.1 this.2.2
    · unfold strValues; rw [List.map_append]; rfl
    · rw [List.take_add_one, hn1, List.map_append, List.map_append, hq]; rfl
  · rintro D h tk g ys nw F9 N9 nD lD _ ⟨hG, tab₁, rest, qs, rfl, K₁, hk, rfl, hq⟩
    refine fin D h tk g qs tab₁ rest ?_ hG K₁ hk (fun p hp => nD p (.tail _ hp)) (Ne.symm (nD (64, tabObj tab₁) List.mem_cons_self)) F9 N9
    rw [hq, List.take_of_length_le]
    have := hi.length
    rw [List.length_map] at this
    rw [List.size_toArray, this]
    exact Nat.le_refl _
end
end Mine
namespace Mine
section
variable {prog : Program} {w : World} {A : Around} {E : Value → Shared → Prop} {s : Shared} {h₀ : Heap} {L : Addr} {m : PySem.Str → Option Value} {news : List (Addr × Obj)}
theorem bytes_any {l : Addr} {vs : List Value} {ns : List Int} {Q : Value → Shared → Prop} (F : Fr h₀ L s.heap m) (N : News h₀ L s.heap news) (hl : s.heap.IsList l vs.toArray) (hi : IntsAre vs ns) (hr : ∀ n ∈ ns, 0 ≤ n ∧ n < 256) (hz : vs.length ≤ sizeLine) (hh : A.handled = none)
    (h : ∀ h' t k (B : Array UInt8), B.size = vs.length → Fr h₀ L h' m → News h₀ L h' news → Q (.bytes B t) { s with heap := h', toks := k }) : wpAny (model prog w) A (call (.type "bytes") [.ref l]) Q E s :=
  bytes_K F N hl hi hr hz hh fun h' t k F' N' _ => h h' t k _ (by rw [List.size_toArray, List.length_map, hi.length]) F' N'
end
end Mine
end
section
open PySem PySem.W PySem.Calls PyProof.Rows
set_option Elab.async false
set_option maxRecDepth 100000
namespace Mine
theorem stopB_spec {B : Array UInt8} {p j : Nat} (h : stopB B p = some j) : p + j < B.size ∧ goesOn B (p + j) = false ∧ ∀ i, i < j → goesOn B (p + i) = true := by
  unfold stopB at h
  rw [List.find?_range_eq_some] at h
  obtain ⟨h1, h2, h3⟩ := h
  have h2' := List.mem_range.mp h2
  refine ⟨by omega, by simpa using h1, fun i hi => by simpa using h3 i hi⟩
theorem numB_digit (B : Array UInt8) (p : Nat) : ∀ m k, k < m → numB B p m / 64 ^ (m - 1 - k) % 64 = oct B (p + k) % 64 := by
  intro m
  induction m with
  | zero => intro k hk; cases hk
  | succ m ih =>
    intro k hk
    rw [numB]
    have hc := Nat.mod_lt (oct B (p + m)) (show 0 < 64 by decide)
    rcases Nat.lt_succ_iff_lt_or_eq.mp hk with hk | rfl
    · have e : m + 1 - 1 - k = (m - 1 - k) + 1 := by omega
      rw [e, Nat.pow_succ, Nat.mul_comm (64 ^ (m - 1 - k)) 64, ← Nat.div_div_eq_div_mul]
      have e2 : (numB B p m * 64 + oct B (p + m) % 64) / 64 = numB B p m := by omega
      rw [e2]
      exact ih k hk
    · have e : k + 1 - 1 - k = 0 := by omega
      rw [e, Nat.pow_zero, Nat.div_one]
      omega
theorem digits {B : Array UInt8} {p j : Nat} (h : stopB B p = some j) : octL (numB B p (j + 1)) (j + 1) = lowL (takeB B p (j + 1)) := by
  obtain ⟨h1, h2, h3⟩ := stopB_spec h
  unfold octL lowL takeB
  apply List.ext_getElem
  · simp
    omega
  · intro k hk1 hk2
    simp only [List.length_map, List.length_range] at hk1
    have hb : p + k < B.size := by omega
    simp only [List.getElem_map, List.getElem_range, List.getElem_take, List.getElem_drop, Array.getElem_toList]
    have ho : oct B (p + k) = B[p + k].toNat := oct_get (by simp [hb])
    rw [← ho]
    unfold octN
    rw [numB_digit B p (j + 1) k (by omega)]
    by_cases hkj : k < j
    · rw [if_pos (by omega)]
      have := (goes_iff B (p + k)).mp (h3 k hkj)
      omega
    · rw [if_neg (by omega)]
      have e : k = j := by omega
      subst e
      have : ¬ oct B (p + k) / 64 % 2 = 1 := fun z => by
        have := (goes_iff B (p + k)).mpr z
        rw [h2] at this; cases this
      omega
theorem brk_at (xs : List Nat) (k : Nat) (hk : k < xs.length) : (patText xs).cps[4 * k]? = some 91 ∧ (patText xs).cps[4 * k + 1]? = some (s1 xs[k]) ∧ (patText xs).cps[4 * k + 2]? = some (s2 xs[k]) ∧ (patText xs).cps[4 * k + 3]? = some 93 := by
  rw [patText_eq]
  have := patL_at xs k hk
  unfold patS
  simpa using this
theorem patText_len (xs : List Nat) : (patText xs).length = 4 * xs.length := by
  show (patText xs).cps.size = _
  rw [← Array.length_toList, patText_cps, patL_len]
theorem octL_lt {num many : Nat} : ∀ x ∈ octL num many, x < 128 := by
  intro x hx
  unfold octL at hx
  obtain ⟨k, _, rfl⟩ := List.mem_map.mp hx
  exact octN_lt _ _ _
def toldL (B : Array UInt8) : List Nat := (List.range B.size).filter fun p => (stopB B p).isSome
def numAt (B : Array UInt8) (p : Nat) : Nat := numB B p ((stopB B p).getD 0 + 1)
def cntAt (B : Array UInt8) (p : Nat) : Nat := (stopB B p).getD 0 + 1
theorem digits_at {B : Array UInt8} {p : Nat} (h : (stopB B p).isSome = true) : octL (numAt B p) (cntAt B p) = lowL (takeB B p (cntAt B p)) := by
  obtain ⟨j, hj⟩ := Option.isSome_iff_exists.mp h
  unfold numAt cntAt
  rw [hj]
  exact digits hj
theorem datOf_at {B : Array UInt8} {p : Nat} (h : (stopB B p).isSome = true) : datOf B p = .list [.int (numAt B p : Nat), .int (cntAt B p : Nat)] := by
  obtain ⟨j, hj⟩ := Option.isSome_iff_exists.mp h
  unfold numAt cntAt datOf
  rw [hj]; rfl
theorem datOf_no {B : Array UInt8} {p : Nat} (h : (stopB B p).isSome = false) : datOf B p = .none := by
  unfold datOf
  cases e : stopB B p with
  | none => rfl
  | some j => rw [e] at h; cases h
theorem cnt_le {B : Array UInt8} {p : Nat} (h : (stopB B p).isSome = true) : p + cntAt B p ≤ B.size ∧ 1 ≤ cntAt B p := by
  obtain ⟨j, hj⟩ := Option.isSome_iff_exists.mp h
  have := stopB_spec hj
  unfold cntAt
  rw [hj]
  simp only [Option.getD_some]
  omega
theorem datOf_ok (B : Array UInt8) (p : Nat) : kqdOk 8 (datOf B p) = true := by
  unfold datOf
  cases stopB B p <;> rfl
end Mine
namespace Mine
theorem pair_of {news : List (Addr × Obj)} {v : Value} {a b : Int} (h : DatIn news v (.list [.int a, .int b])) : ∃ (x : Addr) (c : Nat) (t u : Tok), v = .ref x ∧ (x, PySem.W.listOf #[.int a t, .int b u] c) ∈ news := by
  cases h with
  | list hm hda =>
  cases hda with
  | cons hda1 hda =>
  cases hda with
  | cons hda2 hda =>
  cases hda
  cases hda1
  cases hda2
  exact ⟨_, _, _, _, rfl, hm⟩
theorem toldL_mem {B : Array UInt8} {n : Nat} (h : n ∈ toldL B) : n < B.size ∧ (stopB B n).isSome = true := by
  have := List.mem_filter.mp h
  exact ⟨List.mem_range.mp this.1, this.2⟩
theorem pair_at {B : Array UInt8} {add : List (Addr × Obj)} {ys : List Value} {n : Nat} (hd : DatAll add ys ((List.range (B.size + 1)).map (datOf B))) (h : n ∈ toldL B) :
    ∃ (x : Addr) (c : Nat) (t u : Tok), ys[n]? = some (.ref x) ∧ (x, PySem.W.listOf #[.int (numAt B n : Nat) t, .int (cntAt B n : Nat) u] c) ∈ add := by
  have hn := toldL_mem h
  obtain ⟨v, hv, hdv⟩ := hd.get (k := n) (by simp; omega)
  simp only [List.getElem_map, List.getElem_range] at hdv
  rw [datOf_at hn.2] at hdv
  obtain ⟨x, c, t, u, rfl, hm⟩ := pair_of hdv
  exact ⟨x, c, t, u, hv, hm⟩
end Mine
namespace Mine
theorem dat_strs {news : List (Addr × Obj)} : ∀ {qs : List (PySem.Str × Tok)} {l : List PySem.Str}, qs.map (·.1) = l → DatAll news (strValues qs) (l.map Dat.str)
  | [], _, h => by subst h; exact .nil
  | (x, t) :: qs, _, h => by
    subst h
    exact .cons (.str x t) (dat_strs rfl)
theorem esc_small {x : Nat} (h : x < 128) : ∀ c ∈ esc x, c < 256 := by
  intro c hc
  unfold esc at hc
  split at hc
  · simp only [List.mem_cons, List.not_mem_nil, or_false] at hc; omega
  · simp only [List.mem_cons, List.not_mem_nil, or_false] at hc; omega
theorem piece_small {x : Nat} (h : x < 128) : ∀ c ∈ pieceL x, c < 256 := by
  intro c hc
  unfold pieceL at hc
  split at hc
  · simp only [List.mem_cons, List.not_mem_nil, or_false] at hc; omega
  · simp only [List.mem_cons, List.mem_append, List.not_mem_nil, or_false] at hc
    rcases hc with h1 | h1 | h1 | h1
    · omega
    · omega
    · exact esc_small h c h1
    · omega
theorem textOf_ok {xs : List Nat} (h : ∀ x ∈ xs, x < 128) : kqdOk 8 (.str (textOf xs)) = true := by
  show PyData.strOk (textOf xs) = true
  unfold PyData.strOk
  rw [← Array.all_toList, List.all_eq_true]
  intro c hc
  unfold textOf at hc
  rw [cps_app, cps_app, join_cps] at hc
  have : c < 256 := by
    simp only [List.mem_append, List.mem_flatMap, List.mem_map] at hc
    rcases hc with (h1 | ⟨y, ⟨x, hx, rfl⟩, h1⟩) | h1
    · have e : (PySem.Str.ofString "(?s:").cps.toList = [40, 63, 115, 58] := by decide
      rw [e] at h1
      simp only [List.mem_cons, List.not_mem_nil, or_false] at h1; omega
    · exact piece_small (h x hx) c (by unfold pieceS at h1; simpa using h1)
    · have e : (PySem.Str.ofString ")\\Z").cps.toList = [41, 92, 90] := by decide
      rw [e] at h1
      simp only [List.mem_cons, List.not_mem_nil, or_false] at h1; omega
  exact decide_eq_true (by omega)
theorem lowL_lt {T : Array UInt8} : ∀ x ∈ lowL T, x < 128 := by
  intro x hx
  unfold lowL at hx
  obtain ⟨o, _, rfl⟩ := List.mem_map.mp hx
  exact Nat.mod_lt _ (by decide)
end Mine
end
section
open PySem PySem.W PySem.Calls PyProof.Rows
set_option Elab.async false
set_option maxRecDepth 100000
namespace Mine
def TrueEnd (h₀ : Heap) (os : OsState) (r : Result) (s' : Shared) : Prop := r = .ok (.ret (.bool true)) ∧ (∀ b o, h₀.get? b = some o → s'.heap.get? b = some o) ∧ s'.os = os ∧ AllBare s'.gens
theorem kn_postB {M : Model} {A : Around} {cd : Code} {s s₁ : Shared} {cw : ClaimW} {cl : PySem.Str → Option Addr} {mean : ExcName → Option Value} {args : List WData} {tabs : List (Addr × Addr)} (hT : TabsAt tabs s₁.heap) (hr : ∀ a x, cw.raises a x = false)
    (hp : cw.post args (.bool true) args = true)
    (h : codeAny M A cd (fun r s' => TrueEnd (ghostOf s₁.heap tabs) s₁.os r s' ∧ GrownAll tabs s'.heap) s) : codeAny M A cd (GoodWG cw cl mean args s₁) s := by
  refine codeAny_mono h fun r s' ⟨⟨hc, hk, hos, hg⟩, hgr⟩ => ?_
  subst hc
  have tabGrown : ∀ b o, b ∈ tabs.map (·.2) → s₁.heap.get? b = some o → isCodeTable s₁.heap b ∧ o = tabObj #[] ∧ ∃ ps, s'.heap.get? b = some (tabObj ps) := by
    intro b o hb e
    obtain ⟨q, hq, rfl⟩ := List.mem_map.mp hb
    have e2 := (hT q hq).2
    rw [e] at e2
    exact ⟨((hT q hq).1.tab (hT q hq).2).isCodeTable, Option.some.inj e2, hgr.get q hq⟩
  refine ⟨.inl ⟨_, _, [], rfl, fun x => hr _ x, ReadsW.bool true, hp, fun _ => ⟨List.nodup_nil, fun _ hm => nomatch hm⟩⟩, ⟨fun b o e => ?_, fun b o e => ?_⟩, hos, hg⟩
  · by_cases hb : b ∈ tabs.map (·.2)
    · obtain ⟨ht, rfl, ps, hP⟩ := tabGrown b o hb e
      exact .inr (.inl ⟨ht, rfl, #[], ps, rfl, by rw [Array.empty_append]; exact hP⟩)
    · exact .inl (hk b o (ghost_ne e hb))
  · by_cases hb : b ∈ tabs.map (·.2)
    · obtain ⟨_, _, ps, hP⟩ := tabGrown b o hb e
      exact ⟨_, hP⟩
    · exact ⟨o, hk b o (ghost_ne e hb)⟩
end Mine
end
open PySem PySem.W PyProof.Rows Mine
set_option Elab.async false
set_option maxRecDepth 100000
set_option maxHeartbeats 1000000
local macro_rules | `(tactic| walk_at "eval ListComp") => `(tactic| (k_here; refine Halt.intro ?_))
local macro_rules | `(tactic| walk_at "exec Assign cons ListComp") => `(tactic| (k_here; first | (k_dflt (refine wpAny_Assign_Name ?_ (by with_unfolding_all rfl))) | refine Halt.intro ?_))
local macro_rules | `(tactic| walk_at "pyIter ref") => `(tactic| (refine Halt.intro ?_))
local macro_rules | `(tactic| walk_at "call ref") => `(tactic| (k_here; refine Halt.intro ?_))
local macro_rules | `(tactic| wrow_close) => `(tactic| ((with_reducible show CEnd _ _ _ _ _ _ _ _ _ _); refine Halt.intro ?_))
local macro_rules | `(tactic| wrow_close) => `(tactic| ((with_reducible show IEnd _ _ _ _ _ _ _); refine Halt.intro ?_))
local macro_rules | `(tactic| wrow_close) => `(tactic| ((with_reducible show BEnd _ _ _ _ _ _ _); refine Halt.intro ?_))
local macro_rules | `(tactic| wrow_close) => `(tactic| ((with_reducible show DEnd _ _ _ _ _ _ _ _ _ _); refine Halt.intro ?_))
local macro_rules | `(tactic| wrow_close) => `(tactic| ((with_reducible show TEnd _ _ _ _ _ _ _ _ _); refine Halt.intro ?_))
local macro_rules | `(tactic| walk_at "compareOp NotEq ref ref") => `(tactic| (refine Halt.intro ?_))
local macro_rules | `(tactic| walk_at "compareOp Eq ref ref") => `(tactic| (refine Halt.intro ?_))
local macro_rules | `(tactic| walk_at "subscriptTail Name Name ref int") => `(tactic| (refine Halt.intro ?_))
local macro_rules | `(tactic| walk_at "subscriptTail Name Slice bytes ref") => `(tactic| (refine Halt.intro ?_))
local macro_rules | `(tactic| kn_posts) => do `(tactic| refine kn_postB $(Lean.mkIdent `hT9) (fun _ _ => rfl) (by first | rfl | wrow_post) ?_)
theorem PySem.Challenge.cw_qw0005_01_holds : PySem.Challenge.rw_qw0005_01.Holds := by
  w_on
  refine holds_law law_said fun said => ?_
  refine PySem.W.holds_open (q := viewV) (loose := looseN) (Xt := Xt0) (XP := XL viewV []) (Yf := Hook.obs HK) (Ya := Hook.val HK) (YP := Hook.says HK) (N := 3506) head_left (Hook.of HK) (Hook.keeps HK) (fun s e => xl_of s (Bool.and_eq_true_iff.mp e).1) XL.keeps (by rfl) (by rfl) (by rfl) (fun s e => recFacts_of (Bool.and_eq_true_iff.mp e).2) (by rfl) (by first | assumption | decide +kernel) (by decide +kernel) ⟨rfl, rfl, rfl, rfl, rfl, by decide +kernel⟩ ?hw ?hc
  case hw => w_witness2
  clear said; unfold HK
  (k_go0; (all_goals try k_fold); k_steps; all_goals (try (show wpAny _ _ _ _ _ _)))
  rename_i wW s0 s1 mg mb GG YY fa oo pm cd doc ho hcd hgens XX VV T0 B0 TE TW w7 hs hlay hL1 hr1 hl2 w6 w5 w4 w3 w2 hL ra w1 r0 hI hr hc1 hc2 hD h1 tk1 oA oB dA dB X0 XI TT KB l0 l11 h2 F2 N2 ll1
  have hAB := AllBare.of_eq hgens
  refine compExpr F2 rfl (by decide) rfl (by decide) rfl ?_
  k_steps
  show wpAny _ _ _ _ _ _
  rename_i sl ws h3 F3 N3 hI3 hC3 _ ll3
  refine comp_intsL rfl F3 N3 (by k_mem) hI3 (by have := hI3.length; omega) (fun n => n % 256) ?_ ?_
  · clear F3 N3
    intro n u I oI C oC D m₂ ys h tk E' _ hC hx F N _ _
    k_steps
    show IEnd _ _ _ _ _ _ _
    exact IEnd.intro (Int.fmod_eq_emod_of_nonneg _ (by decide))
  · intro D h tk ys hys F N lD
    clear F3 N3
    dsimp only
    k_steps
    show wpAny _ _ _ _ _ _
    rename_i al ws4 h4 F4 N4 hI4 _
    have hlen : ws4.length ≤ 15 := by
      have a := hI4.length
      have b := hys.length
      simp only [List.length_append, List.length_map, List.length_cons, List.length_nil] at a b
      omega
    refine bytes_any F4 (newsSub (news' := [(_, oA), (_, oB), (64, tabObj #[])]) N4 (by simp only [List.forall_mem_cons, List.not_mem_nil, false_implies, implies_true, and_true]; exact ⟨by k_mem, by k_mem, by k_mem⟩)) (News.isList N4 (by k_mem)) hI4 ?hr (by rw [sizeLine_eq]; omega) rfl ?_
    case hr =>
      intro n hn
      rcases List.mem_append.mp hn with hn | hn
      · simp only [List.mem_cons, List.not_mem_nil, or_false] at hn
        omega
      · obtain ⟨z, _, rfl⟩ := List.mem_map.mp hn
        exact ⟨Int.emod_nonneg _ (by decide), Int.emod_lt_of_pos _ (by decide)⟩
    intro h' tB k5 B hBs F5 N5
    rw [← hBs] at hlen
    clear F4 N4 hI4 hys hBs
    k_steps
    show wpAny _ _ _ _ _ _
    rename_i oR F6 N6 dR
    refine compExpr F6 rfl (by decide) rfl (by decide) rfl ?_
    k_steps
    show wpAny _ _ _ _ _ _
    rename_i hR7 F7 N7 _
    refine comp_dat (n := B.size + 1) ?hz rfl F7 N7 hR7 (by omega) (datOf B) ?_ ?_
    case hz => omega
    · clear F7 N7 hR7
      intro i t C oC m₂ all h tk E' hi hC hx F N mC mA
      dsimp only
      have NA : Halt (News _ _ _ all) := N
      replace N := newsSub (news' := [(C, oC), (_, oR)]) N (by simp only [List.forall_mem_cons, List.not_mem_nil, false_implies, implies_true, and_true]; exact ⟨mC, mA _ (by k_mem)⟩)
      k_steps
      show wpAny _ _ _ _ _ _
      refine reading_spec _ _ B tB t i (by omega) (by omega) _ _ _ _ _ _ _ _ _ _ _ _ _ _ _ _ _ _ _ _ KB F XI NA TT rfl (by decide) (by decide) ?_
      intro v news' h' tk' F' N' hP
      exact ⟨h', tk', news', rfl, F', N', hP⟩
    · intro DR h tk ys add hd1 ho1 hoD F N lD
      clear F7 N7 hR7
      dsimp only
      simp only [List.cons_append, List.nil_append] at N
      k_steps
      refine storeX_C F N rfl (UpdF.tail ?ne2 (UpdF.head ?up2)) dA ?_
      case ne2 => exact Nat.ne_of_gt (lD _ List.mem_cons_self)
      case up2 =>
        intro p hp
        rcases List.mem_cons.mp hp with rfl | hp
        · exact Nat.ne_of_lt (Nat.lt_succ_self _)
        rcases List.mem_cons.mp hp with rfl | hp
        · exact Nat.ne_of_lt (Nat.lt_succ_of_lt (Nat.lt_succ_of_lt l0))
        · exact ho1 p hp _ List.mem_cons_self
      intro h8 oS F8 N8 dS
      clear F N
      k_steps
      show wpAny _ _ _ _ _ _
      refine compExpr (by k_asm) rfl (by decide) rfl (by decide) rfl ?_
      k_steps
      show wpAny _ _ _ _ _ _
      rename_i hR9 F9 N9 _
      refine comp_dat (n := B.size + 1) ?hz rfl F9 N9 hR9 (by omega) (datOf B) ?_ ?_
      case hz => omega
      · clear F9 N9 hR9
        intro i t C oC m₂ all h tk E' hi hC hx F N mC mA
        dsimp only
        have NA : Halt (News _ _ _ all) := N
        replace N := newsSub (news' := [(C, oC), (_, oR)]) N (by simp only [List.forall_mem_cons, List.not_mem_nil, false_implies, implies_true, and_true]; exact ⟨mC, mA _ (by k_mem)⟩)
        k_steps
        show wpAny _ _ _ _ _ _
        refine due_spec _ _ B tB t i (by omega) (by omega) _ _ _ _ _ _ _ _ _ _ _ _ _ _ _ _ _ _ _ _ _ _ KB F XI NA TT ⟨codeHd, trivial⟩ rfl (by decide) (by decide) hAB ?_
        intro v news' h' tk' F' N' hP
        exact ⟨h', tk', news', rfl, F', N', hP⟩
      · intro DU h tk ys2 add2 hd2 ho2 hoD2 F N lD2
        clear F9 N9 hR9
        have NA : Halt (News _ _ _ _) := N
        replace N := newsSub (news' := [(DU, LCg.lst ys2), (DR, LCg.lst ys), (s1.heap.objs.size + 1 + 1, oS), (s1.heap.objs.size + 1, oR), (64, tabObj #[])]) N (by simp)
        dsimp only
        k_steps
        show wpAny _ _ _ _ _ _
        refine kqd_ne (n₁ := add) (n₂ := add2) NA (a := DR) (oa := LCg.lst ys) (by simp) rfl rfl hd1 (fun p hp => by simp [hp]) (b := DU) (ob := LCg.lst ys2) (by simp) rfl rfl hd2 (fun p hp => by simp [hp]) ?okA ?okB (by ke_room) ?_
        case okA => intro d hd; obtain ⟨i, _, rfl⟩ := List.mem_map.mp hd; exact datOf_ok B i
        case okB => intro d hd; obtain ⟨i, _, rfl⟩ := List.mem_map.mp hd; exact datOf_ok B i
        simp only [decide_true, Bool.not_true]
        replace N := newsSub (news' := (DR, LCg.lst ys) :: (s1.heap.objs.size + 1 + 1, oS) :: (s1.heap.objs.size + 1, oR) :: (64, tabObj #[]) :: add) NA (by intro p hp; simp only [List.mem_cons, List.mem_append, List.cons_append] at hp ⊢; rcases hp with h | h | h | h | h <;> simp [h])
        clear NA
        k_steps
        show wpAny _ _ _ _ _ _
        refine compAssign F rfl (by with_unfolding_all rfl) rfl (by decide) rfl (by decide) rfl rfl rfl ?_
        k_steps
        show wpAny _ _ _ _ _ _
        rename_i hRt Ft Nt _
        refine comp_filt (n := B.size) ?hz rfl Ft Nt hRt (by omega) (fun p => (stopB B p).isSome) ?_ ?_ ?_
        case hz => omega
        · clear Ft Nt hRt
          intro i t I oI C oC D m₂ ys3 h tk E' hi hC hx F N
          obtain ⟨v, hv, hdv⟩ := hd1.get (k := i) (by simp; omega)
          simp only [List.getElem_map, List.getElem_range] at hdv
          dsimp only
          k_steps
          show wpAny _ _ _ _ _ _
          refine itemL (v := v) (vs := ys) (News.isList (by k_asm) (by k_mem)) (by omega) (by omega) (by simpa using hv) ?_
          cases hp : (stopB B i).isSome with
          | true =>
            rw [datOf_at hp] at hdv
            cases hdv with
            | list hm hda =>
              k_steps
              show BEnd _ _ _ _ _ _ _
              exact BEnd.intro rfl
          | false =>
            rw [datOf_no hp] at hdv
            cases hdv
            k_steps
            show BEnd _ _ _ _ _ _ _
            exact BEnd.intro rfl
        · clear Ft Nt hRt
          intro i t I oI C oC D m₂ ys3 h tk E' hi hC hx F N
          dsimp only
          k_steps
          show IEnd _ _ _ _ _ _ _
          exact IEnd.intro rfl
        · intro DT h tk yt hyt F N lDT
          clear Ft Nt hRt
          dsimp only
          k_steps
          show wpAny _ _ _ _ _ _
          have K0 : TabOk #[] ((DT, LCg.lst yt) :: (DR, LCg.lst ys) :: (s1.heap.objs.size + 1 + 1, oS) :: (s1.heap.objs.size + 1, oR) :: add) := by
            refine ⟨trivial, .inl rfl, fun p hp => ?_⟩
            simp only [List.mem_cons] at hp
            rcases hp with rfl | rfl | rfl | rfl | hp
            · exact Nat.ne_of_gt (lDT (64, tabObj #[]) (by simp))
            · exact Nat.ne_of_gt (lD (64, tabObj #[]) (by simp))
            · exact Nat.ne_of_gt (Nat.lt_succ_of_lt (Nat.lt_succ_of_lt l0))
            · exact Nat.ne_of_gt (Nat.lt_succ_of_lt l0)
            · exact ho1 p hp (64, tabObj #[]) (by simp)
          have hylen : yt.length ≤ 1000 := by
            have := hyt.length
            rw [List.length_map] at this
            have h2 := List.length_filter_le (fun p => (stopB B p).isSome) (List.range B.size)
            rw [List.length_range] at h2
            omega
          refine compAssign F rfl (by with_unfolding_all rfl) rfl (by decide) rfl (by decide) rfl rfl rfl ?_
          k_steps
          show wpAny _ _ _ _ _ _
          refine comp_trans (ns := toldL B) (tab := #[]) hyt rfl F (newsSub N (by intro p hp; simp only [List.mem_cons] at hp ⊢; rcases hp with h | h | h | h | h | h <;> simp [h])) List.mem_cons_self K0 hAB hylen (fun n => textOf (lowL (takeB B n (cntAt B n)))) ?_ ?_
          · intro n u I oI C oC D m₂ yt2 tab rest h tk g E' hn hC hx hG K hk F N
            have hcnt := cnt_le (toldL_mem hn).2
            obtain ⟨x, c, t1, t2, hv, hmx⟩ := pair_at hd1 hn
            have NA : Halt (News _ _ _ _) := N
            replace N := newsSub (news' := [(C, oC), (x, PySem.W.listOf #[.int (Mine.numAt B n : Nat) t1, .int (cntAt B n : Nat) t2] c), (DR, LCg.lst ys), (s1.heap.objs.size + 1 + 1, oS)]) N (by
              simp only [List.forall_mem_cons, List.not_mem_nil, false_implies, implies_true, and_true]
              exact ⟨by simp, by simp [hk _ (List.mem_cons_of_mem _ (List.mem_cons_of_mem _ (List.mem_cons_of_mem _ (List.mem_cons_of_mem _ hmx))))], by simp [hk (DR, LCg.lst ys) (by simp)], by simp [hk (s1.heap.objs.size + 1 + 1, oS) (by simp)]⟩)
            dsimp only
            k_steps
            show wpAny _ _ _ _ _ _
            refine itemL (v := .ref x) (vs := ys) (News.isList (by k_asm) (by k_mem)) (by omega) (by omega) (by simpa using hv) ?_
            k_steps
            show wpAny _ _ _ _ _ _
            refine itemL (v := .ref x) (vs := ys) (News.isList (by k_asm) (by k_mem)) (by omega) (by omega) (by simpa using hv) ?_
            k_steps
            show wpAny _ _ _ _ _ _
            refine pattern_spec _ _ (Mine.numAt B n) (cntAt B n) t1 t2 (by omega) _ _ _ _ _ _ _ _ _ _ _ _ _ _ _ _ _ _ _ _ _ _ KB F XI NA TT ⟨codeHd, trivial⟩ rfl (by decide) (by decide) hG ?_
            rintro v _ h' tk' F' N' ⟨rfl, tp, rfl⟩
            clear N NA F
            have NA : Halt (News _ _ _ _) := N'
            replace N' := newsSub (news' := [(64, tabObj tab)]) N' (by simp)
            have hxl : (octL (Mine.numAt B n) (cntAt B n)).length ≤ 16 := by rw [octL_len]; omega
            have hPl := patText_len (octL (Mine.numAt B n) (cntAt B n))
            have hBr : ∀ k (hk : k < (octL (Mine.numAt B n) (cntAt B n)).length), Brk (patText (octL (Mine.numAt B n) (cntAt B n))) (4 * k) (Mine.s1 (octL (Mine.numAt B n) (cntAt B n))[k]) (Mine.s2 (octL (Mine.numAt B n) (cntAt B n))[k]) := fun k hk =>
              let z := brk_at (octL (Mine.numAt B n) (cntAt B n)) k hk
              ⟨z.1, z.2.1, z.2.2.1, z.2.2.2, by omega⟩
            k_steps
            show wpAny _ _ _ _ _ _
            refine translate_spec _ _ _ tp tab K (octL (Mine.numAt B n) (cntAt B n)) octL_lt hxl hPl hBr _ _ _ _ _ _ _ _ _ _ _ _ _ _ _ _ _ _ _ _ _ _ KB F' XI NA TT ⟨codeHd, trivial⟩ rfl (by decide) (by decide) hG ?_
            rintro v _ h2 tk2 g2 F2 N2 ⟨tab', rest', ⟨t, rfl⟩, rfl, hsub, K2⟩ hG2
            have e9 : transText (octL (Mine.numAt B n) (cntAt B n)) = textOf (lowL (takeB B n (cntAt B n))) := by rw [digits_at (toldL_mem hn).2]; rfl
            exact ⟨t, h2, tk2, g2, tab', rest', by rw [e9], rfl, F2, N2, hG2, K2, hsub⟩
          · intro DX h tk g qs tab1 rest hqs hG K1 hk oX hX64 F N
            have NA : Halt (News _ _ _ _) := N
            have hDT : (DT, LCg.lst yt) ∈ rest := hk _ List.mem_cons_self
            replace N := newsSub (news' := [(DX, LCg.lst (strValues qs)), (DT, LCg.lst yt), (DR, LCg.lst ys), (s1.heap.objs.size + 1 + 1, oS), (s1.heap.objs.size + 1, oR), (64, tabObj tab1)]) N (by
              simp only [List.forall_mem_cons, List.not_mem_nil, false_implies, implies_true, and_true]
              exact ⟨by simp, by simp [hDT], by simp [hk (DR, LCg.lst ys) (by simp)], by simp [hk (s1.heap.objs.size + 1 + 1, oS) (by simp)], by simp [hk (s1.heap.objs.size + 1, oR) (by simp)], by simp⟩)
            dsimp only
            k_steps
            show wpAny _ _ _ _ _ _
            refine compExpr F rfl (by decide) rfl (by decide) rfl ?_
            k_steps
            show wpAny _ _ _ _ _ _
            have K2 : TabOk tab1 ((DX, LCg.lst (strValues qs)) :: rest) := K1.mono (fun p hp => .tail _ hp) (fun p hp => by
              rcases List.mem_cons.mp hp with rfl | hp
              · exact hX64
              · exact K1.apart p hp)
            refine comp_trans (ns := toldL B) (tab := tab1) hyt rfl F (newsSub NA (by intro p hp; simp only [List.mem_cons] at hp ⊢; rcases hp with h | h | h <;> simp [h])) (.tail _ hDT) K2 hG hylen (fun n => textOf (lowL (takeB B n (cntAt B n)))) ?_ ?_
            · intro n u I oI C oC D m₂ yt2 tab rest2 h tk g E' hn hC hx hG K hk2 F N
              have hcnt := cnt_le (toldL_mem hn).2
              obtain ⟨x, c, t1, t2, hv, hmx⟩ := pair_at hd1 hn
              have up : ∀ p, p ∈ (DT, LCg.lst yt) :: (DR, LCg.lst ys) :: (s1.heap.objs.size + 1 + 1, oS) :: (s1.heap.objs.size + 1, oR) :: add → p ∈ rest2 := fun p hp => hk2 p (.tail _ (hk p hp))
              have NB : Halt (News _ _ _ _) := N
              replace N := newsSub (news' := [(C, oC), (x, PySem.W.listOf #[.int (Mine.numAt B n : Nat) t1, .int (cntAt B n : Nat) t2] c), (DR, LCg.lst ys), (s1.heap.objs.size + 1 + 1, oS), (s1.heap.objs.size + 1, oR)]) N (by
                simp only [List.forall_mem_cons, List.not_mem_nil, false_implies, implies_true, and_true]
                exact ⟨by simp, by simp [up _ (List.mem_cons_of_mem _ (List.mem_cons_of_mem _ (List.mem_cons_of_mem _ (List.mem_cons_of_mem _ hmx))))], by simp [up (DR, LCg.lst ys) (by simp)], by simp [up (s1.heap.objs.size + 1 + 1, oS) (by simp)], by simp [up (s1.heap.objs.size + 1, oR) (by simp)]⟩)
              dsimp only
              k_steps
              show wpAny _ _ _ _ _ _
              refine itemL (v := .ref x) (vs := ys) (News.isList (by k_asm) (by k_mem)) (by omega) (by omega) (by simpa using hv) ?_
              k_steps
              show wpAny _ _ _ _ _ _
              refine cut_range (s := ⟨_, _, _, _, _⟩) F NB hcnt.1 (by omega) ?_
              intro h' t' k' F' NB'
              clear N NB F
              have NB : Halt (News _ _ _ _) := NB'
              replace NB' := newsSub (news' := [(64, tabObj tab)]) NB' (by simp)
              have hTs : (takeB B n (cntAt B n)).size ≤ 16 := by rw [takeB_size]; omega
              k_steps
              show wpAny _ _ _ _ _ _
              refine text_spec _ _ (takeB B n (cntAt B n)) t' hTs _ _ _ _ _ _ _ _ _ _ _ _ _ _ _ _ _ _ _ _ _ _ KB F' XI NB TT ⟨codeHd, trivial⟩ rfl (by decide) (by decide) hG ?_
              rintro v _ h2 tk2 F2 N2 ⟨rfl, t, rfl⟩
              exact ⟨t, h2, tk2, g, tab, _, rfl, rfl, F2, N2, hG, K, fun _ h => h⟩
            · intro DY h tk g2 qs2 tab2 rest2 hqs2 hG2 K3 hk2 oY hY64 F N
              have NB : Halt (News _ _ _ _) := N
              have hDX : (DX, LCg.lst (strValues qs)) ∈ rest2 := hk2 _ List.mem_cons_self
              replace N := newsSub (news' := [(DX, LCg.lst (strValues qs)), (DY, LCg.lst (strValues qs2)), (64, tabObj tab2)]) N (by
                simp only [List.forall_mem_cons, List.not_mem_nil, false_implies, implies_true, and_true]
                exact ⟨by simp [hDX], by simp, by simp⟩)
              dsimp only
              k_steps
              show wpAny _ _ _ _ _ _
              have hok : ∀ d ∈ ((toldL B).map (fun n => textOf (lowL (takeB B n (cntAt B n))))).map Dat.str, kqdOk 8 d = true := by
                intro d hd
                obtain ⟨x, hx, rfl⟩ := List.mem_map.mp hd
                obtain ⟨n, _, rfl⟩ := List.mem_map.mp hx
                exact textOf_ok lowL_lt
              refine kqd_eq (n₁ := []) (n₂ := []) N (a := DX) (oa := LCg.lst (strValues qs)) (by simp) rfl rfl (dat_strs hqs) (by intro p hp; cases hp) (b := DY) (ob := LCg.lst (strValues qs2)) (by simp) rfl rfl (dat_strs hqs2) (by intro p hp; cases hp) hok hok (by ke_room) ?_
              simp only [decide_true]
              k_steps
              exact ⟨rfl, F.keep, rfl, hG2⟩
