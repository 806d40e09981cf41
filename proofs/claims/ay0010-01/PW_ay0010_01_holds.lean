import PyProof.Rows.All
import Wide.All
import OpenK.AllK
import Wide.FinOn
import Lean
import PySem.Challenge.RW_ay0010_01
set_option Elab.async false
set_option maxRecDepth 100000
set_option maxHeartbeats 0
set_option linter.unusedVariables false
set_option linter.all false
set_option compiler.extract_closed false
namespace Hd
section
open PySem PySem.W PySem.W.X PyProof.Rows PySem.W.Fast
theorem said : PySem.Challenge.rw_ay0010_01.wellSaid = true := by kernel_rfl
theorem held (h : PySem.Challenge.rw_ay0010_01.row.wellSaid = true → PySem.Challenge.rw_ay0010_01.row.Holds) : PySem.Challenge.rw_ay0010_01.Holds := holds_law said h
noncomputable abbrev pgO : Program := PySem.Challenge.rw_ay0010_01.row.toRowW.1
noncomputable abbrev pgT : Program := pgO
theorem e_pg : pgO = pgT := rfl
noncomputable abbrev o_820 (P : Params) : Obj := (Obj.mk (Value.type W.SL.s2766695959194262286x5) Option.none (Data.seq (List.toArray []) (0 : Nat)) (List.toArray []))
noncomputable abbrev o_821 (P : Params) : Obj := (Obj.mk Value.none Option.none (Data.fields (List.toArray [])) (List.toArray []))
noncomputable abbrev s0 : Str := ⟨⟨[nat_lit 60, nat_lit 109, nat_lit 111, nat_lit 100, nat_lit 117, nat_lit 108, nat_lit 101, nat_lit 62]⟩⟩
noncomputable abbrev s1 : Str := ⟨⟨[nat_lit 47, nat_lit 99, nat_lit 108, nat_lit 97, nat_lit 105, nat_lit 109, nat_lit 47, nat_lit 99, nat_lit 117, nat_lit 116, nat_lit 46, nat_lit 112, nat_lit 121]⟩⟩
noncomputable abbrev o_822 (P : Params) : Obj := (Obj.mk (Value.type W.SL.s5856160107412720595x4) Option.none (Data.fields (List.toArray [(Value.str s0 (182 : Nat)), (Value.str s0 (183 : Nat)), (Value.str s1 (184 : Nat)), (Value.int (1 : Int) (0 : Nat)), (Value.int (0 : Int) (0 : Nat)), (Value.int (0 : Int) (0 : Nat)), (Value.int (0 : Int) (0 : Nat)), (Value.int (0 : Int) (0 : Nat)), (Value.ref (11 : Nat)), (Value.bool Bool.false), (Value.int (181 : Int) (0 : Nat)), (Value.ref (12 : Nat)), Value.none, Value.none, Value.none, Value.none, (Value.int (185 : Int) (0 : Nat)), (Value.int (1 : Int) (0 : Nat)), (Value.str s1 (186 : Nat))])) (List.toArray []))
noncomputable abbrev s2 : Str := ⟨⟨[nat_lit 95, nat_lit 95, nat_lit 109, nat_lit 97, nat_lit 105, nat_lit 110, nat_lit 95, nat_lit 95]⟩⟩
noncomputable abbrev o_823 (P : Params) : Obj := (Obj.mk (Value.type W.SL.s658472552662922059x5) Option.none Data.plain (List.toArray [(Option.some (Value.ref (13 : Nat))), (Option.some (Value.ref (3 : Nat))), (Option.some (Value.ref (3 : Nat))), Option.none, (Option.some (Value.str s2 (164 : Nat))), Option.none, (Option.some (Value.ref (0 : Nat)))]))
noncomputable abbrev s3 : Str := ⟨⟨[nat_lit 95, nat_lit 95, nat_lit 110, nat_lit 97, nat_lit 109, nat_lit 101, nat_lit 95, nat_lit 95]⟩⟩
noncomputable abbrev s4 : Str := ⟨⟨[nat_lit 108, nat_lit 97, nat_lit 119, nat_lit 95, nat_lit 97, nat_lit 121, nat_lit 48, nat_lit 48, nat_lit 49, nat_lit 48, nat_lit 95, nat_lit 48, nat_lit 49]⟩⟩
noncomputable abbrev s5 : Str := ⟨⟨[nat_lit 95, nat_lit 95, nat_lit 100, nat_lit 111, nat_lit 99, nat_lit 95, nat_lit 95]⟩⟩
noncomputable abbrev s6 : Str := ⟨⟨[nat_lit 95, nat_lit 95, nat_lit 112, nat_lit 97, nat_lit 99, nat_lit 107, nat_lit 97, nat_lit 103, nat_lit 101, nat_lit 95, nat_lit 95]⟩⟩
noncomputable abbrev s7 : Str := ⟨⟨[nat_lit 95, nat_lit 95, nat_lit 108, nat_lit 111, nat_lit 97, nat_lit 100, nat_lit 101, nat_lit 114, nat_lit 95, nat_lit 95]⟩⟩
noncomputable abbrev s8 : Str := ⟨⟨[nat_lit 95, nat_lit 95, nat_lit 115, nat_lit 112, nat_lit 101, nat_lit 99, nat_lit 95, nat_lit 95]⟩⟩
noncomputable abbrev s9 : Str := ⟨⟨[nat_lit 95, nat_lit 95, nat_lit 97, nat_lit 110, nat_lit 110, nat_lit 111, nat_lit 116, nat_lit 97, nat_lit 116, nat_lit 105, nat_lit 111, nat_lit 110, nat_lit 115, nat_lit 95, nat_lit 95]⟩⟩
noncomputable abbrev s10 : Str := ⟨⟨[nat_lit 95, nat_lit 95, nat_lit 98, nat_lit 117, nat_lit 105, nat_lit 108, nat_lit 116, nat_lit 105, nat_lit 110, nat_lit 115, nat_lit 95, nat_lit 95]⟩⟩
noncomputable abbrev s11 : Str := ⟨⟨[nat_lit 95, nat_lit 95, nat_lit 102, nat_lit 105, nat_lit 108, nat_lit 101, nat_lit 95, nat_lit 95]⟩⟩
noncomputable abbrev s12 : Str := ⟨⟨[nat_lit 95, nat_lit 95, nat_lit 99, nat_lit 97, nat_lit 99, nat_lit 104, nat_lit 101, nat_lit 100, nat_lit 95, nat_lit 95]⟩⟩
noncomputable abbrev s13 : Str := ⟨⟨[nat_lit 95, nat_lit 119, nat_lit 97, nat_lit 108, nat_lit 108]⟩⟩
noncomputable abbrev s14 : Str := ⟨⟨[nat_lit 77, nat_lit 97, nat_lit 116, nat_lit 114, nat_lit 105, nat_lit 120, nat_lit 71, nat_lit 101, nat_lit 110, nat_lit 101, nat_lit 114, nat_lit 105, nat_lit 99]⟩⟩
noncomputable abbrev s15 : Str := ⟨⟨[nat_lit 77, nat_lit 111, nat_lit 100, nat_lit 117, nat_lit 108, nat_lit 101, nat_lit 71, nat_lit 101, nat_lit 110, nat_lit 101, nat_lit 114, nat_lit 105, nat_lit 99]⟩⟩
noncomputable abbrev s16 : Str := ⟨⟨[nat_lit 80, nat_lit 111, nat_lit 108, nat_lit 121, nat_lit 110, nat_lit 111, nat_lit 109, nat_lit 105, nat_lit 97, nat_lit 108, nat_lit 82, nat_lit 105, nat_lit 110, nat_lit 103, nat_lit 71, nat_lit 101, nat_lit 110, nat_lit 101, nat_lit 114, nat_lit 105, nat_lit 99]⟩⟩
noncomputable abbrev s17 : Str := ⟨⟨[nat_lit 80, nat_lit 111, nat_lit 108, nat_lit 121, nat_lit 110, nat_lit 111, nat_lit 109, nat_lit 105, nat_lit 97, nat_lit 108, nat_lit 71, nat_lit 101, nat_lit 110, nat_lit 101, nat_lit 114, nat_lit 105, nat_lit 99]⟩⟩
noncomputable abbrev s18 : Str := ⟨⟨[nat_lit 95, nat_lit 108, nat_lit 97, nat_lit 119, nat_lit 95, nat_lit 100, nat_lit 101, nat_lit 116]⟩⟩
noncomputable abbrev s19 : Str := ⟨⟨[nat_lit 108, nat_lit 97, nat_lit 119]⟩⟩
noncomputable abbrev o_1376 (P : Params) : Obj := (Obj.mk (Value.type W.SL.s14018661285674007319x4) Option.none (Data.dict (List.toArray [(DictEntry.mk (PyData.keyHash P s3) (Value.str s3 (165 : Nat)) (Value.str s4 (660 : Nat))), (DictEntry.mk (PyData.keyHash P s5) (Value.str s5 (166 : Nat)) Value.none), (DictEntry.mk (PyData.keyHash P s6) (Value.str s6 (167 : Nat)) Value.none), (DictEntry.mk (PyData.keyHash P s7) (Value.str s7 (168 : Nat)) (Value.builtin W.SL.s7097527257260152453x26)), (DictEntry.mk (PyData.keyHash P s8) (Value.str s8 (169 : Nat)) Value.none), (DictEntry.mk (PyData.keyHash P s9) (Value.str s9 (170 : Nat)) (Value.ref (6 : Nat))), (DictEntry.mk (PyData.keyHash P s10) (Value.str s10 (171 : Nat)) (Value.ref (4 : Nat))), (DictEntry.mk (PyData.keyHash P s11) (Value.str s11 (173 : Nat)) (Value.str s1 (172 : Nat))), (DictEntry.mk (PyData.keyHash P s12) (Value.str s12 (174 : Nat)) Value.none), (DictEntry.mk (PyData.keyHash P s13) (Value.str s13 (193 : Nat)) (Value.ref (21 : Nat))), (DictEntry.mk (PyData.keyHash P s14) (Value.str s14 (348 : Nat)) (Value.ref (142 : Nat))), (DictEntry.mk (PyData.keyHash P s15) (Value.str s15 (397 : Nat)) (Value.ref (179 : Nat))), (DictEntry.mk (PyData.keyHash P s16) (Value.str s16 (460 : Nat)) (Value.ref (228 : Nat))), (DictEntry.mk (PyData.keyHash P s17) (Value.str s17 (659 : Nat)) (Value.ref (391 : Nat))), (DictEntry.mk (PyData.keyHash P s18) (Value.str s18 (668 : Nat)) (Value.ref (402 : Nat))), (DictEntry.mk (PyData.keyHash P s19) (Value.str s19 (674 : Nat)) (Value.ref (407 : Nat)))]) (16 : Nat)) (List.toArray []))
noncomputable abbrev o_1377 (P : Params) : Obj := (Obj.mk Value.none Option.none (Data.fields (List.toArray [(Value.int (1 : Int) (0 : Nat)), (Value.int (0 : Int) (0 : Nat)), (Value.ref (20 : Nat)), (Value.int (5 : Int) (0 : Nat)), (Value.int (0 : Int) (0 : Nat)), (Value.ref (27 : Nat)), (Value.int (98 : Int) (0 : Nat)), (Value.int (0 : Int) (0 : Nat)), (Value.ref (152 : Nat)), (Value.int (121 : Int) (0 : Nat)), (Value.int (0 : Int) (0 : Nat)), (Value.ref (189 : Nat)), (Value.int (142 : Int) (0 : Nat)), (Value.int (0 : Int) (0 : Nat)), (Value.ref (238 : Nat)), (Value.int (267 : Int) (0 : Nat)), (Value.int (0 : Int) (0 : Nat)), (Value.ref (401 : Nat)), (Value.int (269 : Int) (0 : Nat)), (Value.int (0 : Int) (0 : Nat)), (Value.ref (406 : Nat))])) (List.toArray []))
noncomputable abbrev o_828 (P : Params) : Obj := (Obj.mk (Value.type W.SL.s2766695959194262286x5) Option.none (Data.seq (List.toArray []) (0 : Nat)) (List.toArray []))
noncomputable abbrev o_829 (P : Params) : Obj := (Obj.mk Value.none Option.none (Data.fields (List.toArray [])) (List.toArray []))
noncomputable abbrev s20 : Str := ⟨⟨[nat_lit 107]⟩⟩
noncomputable abbrev o_830 (P : Params) : Obj := (Obj.mk (Value.type W.SL.s2766695959194262286x5) Option.none (Data.seq (List.toArray [(Value.str s20 (190 : Nat))]) (0 : Nat)) (List.toArray []))
noncomputable abbrev o_831 (P : Params) : Obj := (Obj.mk (Value.type W.SL.s2766695959194262286x5) Option.none (Data.seq (List.toArray []) (0 : Nat)) (List.toArray []))
noncomputable abbrev d21 : FuncBody := (FuncBody.stmts [(Stmt.While (Expr.Constant (Const.bool Bool.true) 0 (Pos.mk 2 10 2 14)) [(Stmt.Pass (Pos.mk 3 8 3 12))] [] (Pos.mk 2 4 3 12))])
noncomputable abbrev o_832 (P : Params) : Obj := (Obj.mk Value.none Option.none (Data.func (FuncData.mk s13 s13 (Arguments.mk [] [(Arg.mk s20 Option.none (Pos.mk 1 10 1 11))] Option.none [] [] Option.none []) d21 (Scope.mk ScopeKind.function [(Prod.mk s20 NameKind.local)] Bool.false Bool.false []) (0 : Nat) [] Value.none Value.none Value.none Value.none Option.none Value.none Value.none (0 : Nat))) (List.toArray []))
noncomputable abbrev o_833 (P : Params) : Obj := (Obj.mk (Value.type W.SL.s5856160107412720595x4) Option.none (Data.fields (List.toArray [(Value.str s13 (187 : Nat)), (Value.str s13 (188 : Nat)), (Value.str s1 (189 : Nat)), (Value.int (1 : Int) (0 : Nat)), (Value.int (1 : Int) (0 : Nat)), (Value.int (0 : Int) (0 : Nat)), (Value.int (0 : Int) (0 : Nat)), (Value.int (3 : Int) (0 : Nat)), (Value.ref (15 : Nat)), (Value.bool Bool.true), (Value.int (181 : Int) (0 : Nat)), (Value.ref (16 : Nat)), Value.none, (Value.ref (17 : Nat)), (Value.ref (18 : Nat)), (Value.ref (19 : Nat)), (Value.int (191 : Int) (0 : Nat)), (Value.int (1 : Int) (0 : Nat)), (Value.str s1 (192 : Nat))])) (List.toArray []))
noncomputable abbrev o_834 (P : Params) : Obj := (Obj.mk (Value.type W.SL.s7174869446012820540x8) Option.none (Data.func (FuncData.mk s13 s13 (Arguments.mk [] [(Arg.mk s20 Option.none (Pos.mk 1 10 1 11))] Option.none [] [] Option.none []) d21 (Scope.mk ScopeKind.function [(Prod.mk s20 NameKind.local)] Bool.false Bool.false []) (3 : Nat) [] Value.none Value.none Value.none (Value.str s2 (164 : Nat)) Option.none (Value.ref (20 : Nat)) Value.none (0 : Nat))) (List.toArray []))
noncomputable abbrev o_837 (P : Params) : Obj := (Obj.mk (Value.type W.SL.s2766695959194262286x5) Option.none (Data.seq (List.toArray []) (0 : Nat)) (List.toArray []))
noncomputable abbrev o_838 (P : Params) : Obj := (Obj.mk (Value.type W.SL.s11030030927630378310x26) Option.none (Data.fields (List.toArray [(Value.builtin W.SL.s10062305145149207511x16), (Value.type W.SL.s17162191345867700912x4)])) (List.toArray []))
noncomputable abbrev s22 : Str := ⟨⟨[nat_lit 95, nat_lit 95, nat_lit 109, nat_lit 111, nat_lit 100, nat_lit 117, nat_lit 108, nat_lit 101, nat_lit 95, nat_lit 95]⟩⟩
noncomputable abbrev s23 : Str := ⟨⟨[nat_lit 100, nat_lit 105, nat_lit 108, nat_lit 105, nat_lit 116, nat_lit 104, nat_lit 105, nat_lit 117, nat_lit 109, nat_lit 95, nat_lit 112, nat_lit 121, nat_lit 46, nat_lit 109, nat_lit 111, nat_lit 100, nat_lit 117, nat_lit 108, nat_lit 101, nat_lit 115, nat_lit 46, nat_lit 109, nat_lit 111, nat_lit 100, nat_lit 117, nat_lit 108, nat_lit 101, nat_lit 115, nat_lit 95, nat_lit 103, nat_lit 101, nat_lit 110, nat_lit 101, nat_lit 114, nat_lit 105, nat_lit 99]⟩⟩
noncomputable abbrev s24 : Str := ⟨⟨[nat_lit 95, nat_lit 95, nat_lit 113, nat_lit 117, nat_lit 97, nat_lit 108, nat_lit 110, nat_lit 97, nat_lit 109, nat_lit 101, nat_lit 95, nat_lit 95]⟩⟩
noncomputable abbrev s25 : Str := ⟨⟨[nat_lit 95, nat_lit 95, nat_lit 102, nat_lit 105, nat_lit 114, nat_lit 115, nat_lit 116, nat_lit 108, nat_lit 105, nat_lit 110, nat_lit 101, nat_lit 110, nat_lit 111, nat_lit 95, nat_lit 95]⟩⟩
noncomputable abbrev s26 : Str := ⟨⟨[nat_lit 95, nat_lit 95, nat_lit 105, nat_lit 110, nat_lit 105, nat_lit 116, nat_lit 95, nat_lit 95]⟩⟩
noncomputable abbrev s27 : Str := ⟨⟨[nat_lit 95, nat_lit 99, nat_lit 104, nat_lit 101, nat_lit 99, nat_lit 107, nat_lit 95, nat_lit 100, nat_lit 105, nat_lit 109, nat_lit 101, nat_lit 110, nat_lit 115, nat_lit 105, nat_lit 111, nat_lit 110, nat_lit 115]⟩⟩
noncomputable abbrev s28 : Str := ⟨⟨[nat_lit 100, nat_lit 105, nat_lit 109]⟩⟩
noncomputable abbrev s29 : Str := ⟨⟨[nat_lit 116, nat_lit 114, nat_lit 97, nat_lit 110, nat_lit 115, nat_lit 112, nat_lit 111, nat_lit 115, nat_lit 101]⟩⟩
noncomputable abbrev s30 : Str := ⟨⟨[nat_lit 116, nat_lit 114, nat_lit 97, nat_lit 110, nat_lit 115, nat_lit 112, nat_lit 111, nat_lit 115, nat_lit 101, nat_lit 95, nat_lit 115, nat_lit 101, nat_lit 108, nat_lit 102]⟩⟩
noncomputable abbrev s31 : Str := ⟨⟨[nat_lit 84]⟩⟩
noncomputable abbrev s32 : Str := ⟨⟨[nat_lit 114, nat_lit 101, nat_lit 100, nat_lit 117, nat_lit 99, nat_lit 101, nat_lit 95, nat_lit 99, nat_lit 111, nat_lit 101, nat_lit 102, nat_lit 102, nat_lit 105, nat_lit 99, nat_lit 105, nat_lit 101, nat_lit 110, nat_lit 116, nat_lit 115]⟩⟩
noncomputable abbrev s33 : Str := ⟨⟨[nat_lit 95, nat_lit 95, nat_lit 103, nat_lit 101, nat_lit 116, nat_lit 105, nat_lit 116, nat_lit 101, nat_lit 109, nat_lit 95, nat_lit 95]⟩⟩
noncomputable abbrev s34 : Str := ⟨⟨[nat_lit 114, nat_lit 111, nat_lit 119, nat_lit 115]⟩⟩
noncomputable abbrev s35 : Str := ⟨⟨[nat_lit 95, nat_lit 95, nat_lit 101, nat_lit 113, nat_lit 95, nat_lit 95]⟩⟩
noncomputable abbrev s36 : Str := ⟨⟨[nat_lit 95, nat_lit 95, nat_lit 110, nat_lit 101, nat_lit 103, nat_lit 95, nat_lit 95]⟩⟩
noncomputable abbrev s37 : Str := ⟨⟨[nat_lit 95, nat_lit 95, nat_lit 97, nat_lit 100, nat_lit 100, nat_lit 95, nat_lit 95]⟩⟩
noncomputable abbrev s38 : Str := ⟨⟨[nat_lit 95, nat_lit 95, nat_lit 105, nat_lit 97, nat_lit 100, nat_lit 100, nat_lit 95, nat_lit 95]⟩⟩
noncomputable abbrev s39 : Str := ⟨⟨[nat_lit 95, nat_lit 95, nat_lit 115, nat_lit 117, nat_lit 98, nat_lit 95, nat_lit 95]⟩⟩
noncomputable abbrev s40 : Str := ⟨⟨[nat_lit 95, nat_lit 95, nat_lit 105, nat_lit 115, nat_lit 117, nat_lit 98, nat_lit 95, nat_lit 95]⟩⟩
noncomputable abbrev s41 : Str := ⟨⟨[nat_lit 95, nat_lit 95, nat_lit 109, nat_lit 97, nat_lit 116, nat_lit 109, nat_lit 117, nat_lit 108, nat_lit 95, nat_lit 95]⟩⟩
noncomputable abbrev s42 : Str := ⟨⟨[nat_lit 115, nat_lit 99, nat_lit 97, nat_lit 108, nat_lit 101]⟩⟩
noncomputable abbrev s43 : Str := ⟨⟨[nat_lit 100, nat_lit 111, nat_lit 116]⟩⟩
noncomputable abbrev s44 : Str := ⟨⟨[nat_lit 95, nat_lit 95, nat_lit 115, nat_lit 116, nat_lit 97, nat_lit 116, nat_lit 105, nat_lit 99, nat_lit 95, nat_lit 97, nat_lit 116, nat_lit 116, nat_lit 114, nat_lit 105, nat_lit 98, nat_lit 117, nat_lit 116, nat_lit 101, nat_lit 115, nat_lit 95, nat_lit 95]⟩⟩
noncomputable abbrev o_839 (P : Params) : Obj := (Obj.mk (Value.type W.SL.s14018661285674007319x4) Option.none (Data.dict (List.toArray [(DictEntry.mk (PyData.keyHash P s22) (Value.str s22 (203 : Nat)) (Value.str s23 (194 : Nat))), (DictEntry.mk (PyData.keyHash P s24) (Value.str s24 (205 : Nat)) (Value.str s14 (204 : Nat))), (DictEntry.mk (PyData.keyHash P s25) (Value.str s25 (207 : Nat)) (Value.int (5 : Int) (206 : Nat))), (DictEntry.mk (PyData.keyHash P s26) (Value.str s26 (217 : Nat)) (Value.ref (36 : Nat))), (DictEntry.mk (PyData.keyHash P s27) (Value.str s27 (223 : Nat)) (Value.ref (41 : Nat))), (DictEntry.mk (PyData.keyHash P s28) (Value.str s28 (230 : Nat)) (Value.ref (48 : Nat))), (DictEntry.mk (PyData.keyHash P s29) (Value.str s29 (237 : Nat)) (Value.ref (55 : Nat))), (DictEntry.mk (PyData.keyHash P s30) (Value.str s30 (244 : Nat)) (Value.ref (62 : Nat))), (DictEntry.mk (PyData.keyHash P s31) (Value.str s31 (246 : Nat)) (Value.ref (63 : Nat))), (DictEntry.mk (PyData.keyHash P s32) (Value.str s32 (253 : Nat)) (Value.ref (70 : Nat))), (DictEntry.mk (PyData.keyHash P s33) (Value.str s33 (261 : Nat)) (Value.ref (77 : Nat))), (DictEntry.mk (PyData.keyHash P s34) (Value.str s34 (268 : Nat)) (Value.ref (84 : Nat))), (DictEntry.mk (PyData.keyHash P s35) (Value.str s35 (280 : Nat)) (Value.ref (91 : Nat))), (DictEntry.mk (PyData.keyHash P s36) (Value.str s36 (286 : Nat)) (Value.ref (96 : Nat))), (DictEntry.mk (PyData.keyHash P s37) (Value.str s37 (292 : Nat)) (Value.ref (101 : Nat))), (DictEntry.mk (PyData.keyHash P s38) (Value.str s38 (300 : Nat)) (Value.ref (108 : Nat))), (DictEntry.mk (PyData.keyHash P s39) (Value.str s39 (306 : Nat)) (Value.ref (113 : Nat))), (DictEntry.mk (PyData.keyHash P s40) (Value.str s40 (314 : Nat)) (Value.ref (120 : Nat))), (DictEntry.mk (PyData.keyHash P s41) (Value.str s41 (320 : Nat)) (Value.ref (125 : Nat))), (DictEntry.mk (PyData.keyHash P s42) (Value.str s42 (328 : Nat)) (Value.ref (132 : Nat))), (DictEntry.mk (PyData.keyHash P s43) (Value.str s43 (336 : Nat)) (Value.ref (139 : Nat))), (DictEntry.mk (PyData.keyHash P s44) (Value.str s44 (340 : Nat)) (Value.ref (140 : Nat)))]) (22 : Nat)) (List.toArray []))
noncomputable abbrev o_840 (P : Params) : Obj := (Obj.mk (Value.type W.SL.s2766695959194262286x5) Option.none (Data.seq (List.toArray []) (0 : Nat)) (List.toArray []))
noncomputable abbrev o_841 (P : Params) : Obj := (Obj.mk Value.none Option.none (Data.fields (List.toArray [(Value.int (7 : Int) (0 : Nat)), (Value.int (4 : Int) (0 : Nat)), (Value.ref (35 : Nat)), (Value.int (14 : Int) (0 : Nat)), (Value.int (4 : Int) (0 : Nat)), (Value.ref (40 : Nat)), (Value.int (17 : Int) (0 : Nat)), (Value.int (4 : Int) (0 : Nat)), (Value.ref (47 : Nat)), (Value.int (23 : Int) (0 : Nat)), (Value.int (4 : Int) (0 : Nat)), (Value.ref (54 : Nat)), (Value.int (26 : Int) (0 : Nat)), (Value.int (4 : Int) (0 : Nat)), (Value.ref (61 : Nat)), (Value.int (30 : Int) (0 : Nat)), (Value.int (4 : Int) (0 : Nat)), (Value.ref (69 : Nat)), (Value.int (33 : Int) (0 : Nat)), (Value.int (4 : Int) (0 : Nat)), (Value.ref (76 : Nat)), (Value.int (40 : Int) (0 : Nat)), (Value.int (4 : Int) (0 : Nat)), (Value.ref (83 : Nat)), (Value.int (46 : Int) (0 : Nat)), (Value.int (4 : Int) (0 : Nat)), (Value.ref (90 : Nat)), (Value.int (52 : Int) (0 : Nat)), (Value.int (4 : Int) (0 : Nat)), (Value.ref (95 : Nat)), (Value.int (56 : Int) (0 : Nat)), (Value.int (4 : Int) (0 : Nat)), (Value.ref (100 : Nat)), (Value.int (66 : Int) (0 : Nat)), (Value.int (4 : Int) (0 : Nat)), (Value.ref (107 : Nat)), (Value.int (69 : Int) (0 : Nat)), (Value.int (4 : Int) (0 : Nat)), (Value.ref (112 : Nat)), (Value.int (79 : Int) (0 : Nat)), (Value.int (4 : Int) (0 : Nat)), (Value.ref (119 : Nat)), (Value.int (82 : Int) (0 : Nat)), (Value.int (4 : Int) (0 : Nat)), (Value.ref (124 : Nat)), (Value.int (93 : Int) (0 : Nat)), (Value.int (4 : Int) (0 : Nat)), (Value.ref (131 : Nat)), (Value.int (96 : Int) (0 : Nat)), (Value.int (4 : Int) (0 : Nat)), (Value.ref (138 : Nat))])) (List.toArray []))
noncomputable abbrev o_842 (P : Params) : Obj := (Obj.mk (Value.type W.SL.s5856160107412720595x4) Option.none (Data.fields (List.toArray [(Value.str s14 (198 : Nat)), (Value.str s14 (199 : Nat)), (Value.str s1 (200 : Nat)), (Value.int (5 : Int) (0 : Nat)), (Value.int (0 : Int) (0 : Nat)), (Value.int (0 : Int) (0 : Nat)), (Value.int (0 : Int) (0 : Nat)), (Value.int (0 : Int) (0 : Nat)), (Value.ref (25 : Nat)), (Value.bool Bool.false), (Value.int (181 : Int) (0 : Nat)), (Value.ref (26 : Nat)), Value.none, Value.none, Value.none, Value.none, (Value.int (201 : Int) (0 : Nat)), (Value.int (5 : Int) (0 : Nat)), (Value.str s1 (202 : Nat))])) (List.toArray []))
noncomputable abbrev o_843 (P : Params) : Obj := (Obj.mk (Value.type W.SL.s658472552662922059x5) Option.none Data.plain (List.toArray [(Option.some (Value.ref (27 : Nat))), (Option.some (Value.ref (3 : Nat))), (Option.some (Value.ref (24 : Nat))), Option.none, (Option.some (Value.str s23 (194 : Nat))), Option.none, (Option.some (Value.ref (0 : Nat)))]))
noncomputable abbrev o_844 (P : Params) : Obj := (Obj.mk (Value.type W.SL.s2766695959194262286x5) Option.none (Data.seq (List.toArray [(Value.bool Bool.false)]) (0 : Nat)) (List.toArray []))
noncomputable abbrev o_845 (P : Params) : Obj := (Obj.mk (Value.type W.SL.s2766695959194262286x5) Option.none (Data.seq (List.toArray []) (0 : Nat)) (List.toArray []))
noncomputable abbrev o_846 (P : Params) : Obj := (Obj.mk Value.none Option.none (Data.fields (List.toArray [])) (List.toArray []))
noncomputable abbrev s45 : Str := ⟨⟨[nat_lit 115, nat_lit 101, nat_lit 108, nat_lit 102]⟩⟩
noncomputable abbrev s46 : Str := ⟨⟨[nat_lit 112, nat_lit 97, nat_lit 114, nat_lit 101, nat_lit 110, nat_lit 116]⟩⟩
noncomputable abbrev s47 : Str := ⟨⟨[nat_lit 109, nat_lit 97, nat_lit 116, nat_lit 114, nat_lit 105, nat_lit 120, nat_lit 95, nat_lit 100, nat_lit 97, nat_lit 116, nat_lit 97]⟩⟩
noncomputable abbrev o_847 (P : Params) : Obj := (Obj.mk (Value.type W.SL.s2766695959194262286x5) Option.none (Data.seq (List.toArray [(Value.str s45 (211 : Nat)), (Value.str s46 (212 : Nat)), (Value.str s47 (213 : Nat)), (Value.str s29 (214 : Nat))]) (0 : Nat)) (List.toArray []))
noncomputable abbrev o_848 (P : Params) : Obj := (Obj.mk (Value.type W.SL.s2766695959194262286x5) Option.none (Data.seq (List.toArray []) (0 : Nat)) (List.toArray []))
noncomputable abbrev s48 : Str := ⟨⟨[nat_lit 77, nat_lit 97, nat_lit 116, nat_lit 114, nat_lit 105, nat_lit 120, nat_lit 71, nat_lit 101, nat_lit 110, nat_lit 101, nat_lit 114, nat_lit 105, nat_lit 99, nat_lit 46, nat_lit 95, nat_lit 95, nat_lit 105, nat_lit 110, nat_lit 105, nat_lit 116, nat_lit 95, nat_lit 95]⟩⟩
noncomputable abbrev s49 : Str := ⟨⟨[nat_lit 95, nat_lit 100, nat_lit 97, nat_lit 116, nat_lit 97]⟩⟩
noncomputable abbrev s50 : Str := ⟨⟨[nat_lit 95, nat_lit 116, nat_lit 114, nat_lit 97, nat_lit 110, nat_lit 115, nat_lit 112, nat_lit 111, nat_lit 115, nat_lit 101]⟩⟩
noncomputable abbrev s51 : Str := ⟨⟨[nat_lit 86, nat_lit 97, nat_lit 108, nat_lit 117, nat_lit 101, nat_lit 69, nat_lit 114, nat_lit 114, nat_lit 111, nat_lit 114]⟩⟩
noncomputable abbrev s52 : Str := ⟨⟨[nat_lit 73, nat_lit 110, nat_lit 99, nat_lit 111, nat_lit 110, nat_lit 115, nat_lit 105, nat_lit 115, nat_lit 116, nat_lit 101, nat_lit 110, nat_lit 116, nat_lit 32, nat_lit 114, nat_lit 111, nat_lit 119, nat_lit 32, nat_lit 108, nat_lit 101, nat_lit 110, nat_lit 103, nat_lit 116, nat_lit 104, nat_lit 115, nat_lit 32, nat_lit 105, nat_lit 110, nat_lit 32, nat_lit 109, nat_lit 97, nat_lit 116, nat_lit 114, nat_lit 105, nat_lit 120]⟩⟩
noncomputable abbrev d53 : FuncBody := (FuncBody.stmts [(Stmt.Assign [(Expr.Attribute (Expr.Name s45 (Pos.mk 8 8 8 12)) s46 (Pos.mk 8 8 8 19))] (Expr.Name s46 (Pos.mk 8 22 8 28)) (Pos.mk 8 8 8 28)), (Stmt.Assign [(Expr.Attribute (Expr.Name s45 (Pos.mk 9 8 9 12)) s49 (Pos.mk 9 8 9 18))] (Expr.Name s47 (Pos.mk 9 21 9 32)) (Pos.mk 9 8 9 32)), (Stmt.Assign [(Expr.Attribute (Expr.Name s45 (Pos.mk 10 8 10 12)) s50 (Pos.mk 10 8 10 23))] (Expr.Name s29 (Pos.mk 10 26 10 35)) (Pos.mk 10 8 10 35)), (Stmt.If (Expr.UnaryOp UnaryOp.Not (Expr.Call (Expr.Attribute (Expr.Name s45 (Pos.mk 11 15 11 19)) s27 (Pos.mk 11 15 11 37)) [] [] (Pos.mk 11 15 11 39)) (Pos.mk 11 11 11 39)) [(Stmt.Raise (Option.some (Expr.Call (Expr.Name s51 (Pos.mk 12 18 12 28)) [(Expr.Constant (Const.str s52) 0 (Pos.mk 12 29 12 65))] [] (Pos.mk 12 18 12 66))) Option.none (Pos.mk 12 12 12 66))] [] (Pos.mk 11 8 12 66))])
noncomputable abbrev o_849 (P : Params) : Obj := (Obj.mk Value.none Option.none (Data.func (FuncData.mk s26 s48 (Arguments.mk [] [(Arg.mk s45 Option.none (Pos.mk 7 17 7 21)), (Arg.mk s46 Option.none (Pos.mk 7 23 7 29)), (Arg.mk s47 Option.none (Pos.mk 7 31 7 42)), (Arg.mk s29 Option.none (Pos.mk 7 44 7 53))] Option.none [] [] Option.none [(Expr.Constant (Const.bool Bool.false) 0 (Pos.mk 7 54 7 59))]) d53 (Scope.mk ScopeKind.function [(Prod.mk s45 NameKind.local), (Prod.mk s46 NameKind.local), (Prod.mk s47 NameKind.local), (Prod.mk s29 NameKind.local), (Prod.mk s51 NameKind.globalImplicit)] Bool.false Bool.false []) (0 : Nat) [] Value.none Value.none Value.none Value.none Option.none Value.none Value.none (0 : Nat))) (List.toArray []))
noncomputable abbrev o_850 (P : Params) : Obj := (Obj.mk (Value.type W.SL.s5856160107412720595x4) Option.none (Data.fields (List.toArray [(Value.str s26 (208 : Nat)), (Value.str s48 (209 : Nat)), (Value.str s1 (210 : Nat)), (Value.int (7 : Int) (0 : Nat)), (Value.int (4 : Int) (0 : Nat)), (Value.int (0 : Int) (0 : Nat)), (Value.int (0 : Int) (0 : Nat)), (Value.int (3 : Int) (0 : Nat)), (Value.ref (30 : Nat)), (Value.bool Bool.true), (Value.int (181 : Int) (0 : Nat)), (Value.ref (31 : Nat)), Value.none, (Value.ref (32 : Nat)), (Value.ref (33 : Nat)), (Value.ref (34 : Nat)), (Value.int (215 : Int) (0 : Nat)), (Value.int (7 : Int) (0 : Nat)), (Value.str s1 (216 : Nat))])) (List.toArray []))
noncomputable abbrev o_851 (P : Params) : Obj := (Obj.mk (Value.type W.SL.s7174869446012820540x8) Option.none (Data.func (FuncData.mk s26 s48 (Arguments.mk [] [(Arg.mk s45 Option.none (Pos.mk 7 17 7 21)), (Arg.mk s46 Option.none (Pos.mk 7 23 7 29)), (Arg.mk s47 Option.none (Pos.mk 7 31 7 42)), (Arg.mk s29 Option.none (Pos.mk 7 44 7 53))] Option.none [] [] Option.none [(Expr.Constant (Const.bool Bool.false) 0 (Pos.mk 7 54 7 59))]) d53 (Scope.mk ScopeKind.function [(Prod.mk s45 NameKind.local), (Prod.mk s46 NameKind.local), (Prod.mk s47 NameKind.local), (Prod.mk s29 NameKind.local), (Prod.mk s51 NameKind.globalImplicit)] Bool.false Bool.false []) (3 : Nat) [] (Value.ref (29 : Nat)) Value.none Value.none (Value.str s23 (194 : Nat)) Option.none (Value.ref (35 : Nat)) Value.none (0 : Nat))) (List.toArray []))
noncomputable abbrev o_852 (P : Params) : Obj := (Obj.mk (Value.type W.SL.s2766695959194262286x5) Option.none (Data.seq (List.toArray []) (0 : Nat)) (List.toArray []))
noncomputable abbrev o_853 (P : Params) : Obj := (Obj.mk Value.none Option.none (Data.fields (List.toArray [])) (List.toArray []))
noncomputable abbrev s54 : Str := ⟨⟨[nat_lit 77, nat_lit 97, nat_lit 116, nat_lit 114, nat_lit 105, nat_lit 120, nat_lit 71, nat_lit 101, nat_lit 110, nat_lit 101, nat_lit 114, nat_lit 105, nat_lit 99, nat_lit 46, nat_lit 95, nat_lit 99, nat_lit 104, nat_lit 101, nat_lit 99, nat_lit 107, nat_lit 95, nat_lit 100, nat_lit 105, nat_lit 109, nat_lit 101, nat_lit 110, nat_lit 115, nat_lit 105, nat_lit 111, nat_lit 110, nat_lit 115]⟩⟩
noncomputable abbrev s55 : Str := ⟨⟨[nat_lit 108, nat_lit 101, nat_lit 110]⟩⟩
noncomputable abbrev s56 : Str := ⟨⟨[nat_lit 115, nat_lit 101, nat_lit 116]⟩⟩
noncomputable abbrev s57 : Str := ⟨⟨[nat_lit 114, nat_lit 111, nat_lit 119]⟩⟩
noncomputable abbrev s58 : Str := ⟨⟨[nat_lit 46, nat_lit 48]⟩⟩
noncomputable abbrev d59 : FuncBody := (FuncBody.stmts [(Stmt.Return (Option.some (Expr.Compare (Expr.Call (Expr.Name s55 (Pos.mk 15 15 15 18)) [(Expr.Call (Expr.Name s56 (Pos.mk 15 19 15 22)) [(Expr.ListComp (Expr.Call (Expr.Name s55 (Pos.mk 15 24 15 27)) [(Expr.Name s57 (Pos.mk 15 28 15 31))] [] (Pos.mk 15 24 15 32)) [(Comprehension.mk (Expr.Name s57 (Pos.mk 15 37 15 40)) (Expr.Attribute (Expr.Name s45 (Pos.mk 15 44 15 48)) s49 (Pos.mk 15 44 15 54)) [] (0 : Int))] (Scope.mk ScopeKind.function [(Prod.mk s58 NameKind.local), (Prod.mk s57 NameKind.local), (Prod.mk s55 NameKind.globalImplicit)] Bool.false Bool.false []) (Pos.mk 15 23 15 55))] [] (Pos.mk 15 19 15 56))] [] (Pos.mk 15 15 15 57)) [CmpOp.Eq] [(Expr.Constant (Const.int (1 : Int)) 0 (Pos.mk 15 61 15 62))] (Pos.mk 15 15 15 62))) (Pos.mk 15 8 15 62))])
noncomputable abbrev s60 : Str := ⟨⟨[nat_lit 102, nat_lit 97, nat_lit 115, nat_lit 116]⟩⟩
noncomputable abbrev o_854 (P : Params) : Obj := (Obj.mk Value.none Option.none (Data.func (FuncData.mk s27 s54 (Arguments.mk [] [(Arg.mk s45 Option.none (Pos.mk 14 26 14 30))] Option.none [] [] Option.none []) d59 (Scope.mk ScopeKind.function [(Prod.mk s45 NameKind.local), (Prod.mk s55 NameKind.globalImplicit), (Prod.mk s56 NameKind.globalImplicit)] Bool.false Bool.false [(Prod.mk s60 (Const.str s45)), (Prod.mk s60 (Const.str s57))]) (0 : Nat) [] Value.none Value.none Value.none Value.none Option.none Value.none Value.none (0 : Nat))) (List.toArray []))
noncomputable abbrev o_855 (P : Params) : Obj := (Obj.mk (Value.type W.SL.s5856160107412720595x4) Option.none (Data.fields (List.toArray [(Value.str s27 (218 : Nat)), (Value.str s54 (219 : Nat)), (Value.str s1 (220 : Nat)), (Value.int (14 : Int) (0 : Nat)), (Value.int (1 : Int) (0 : Nat)), (Value.int (0 : Int) (0 : Nat)), (Value.int (0 : Int) (0 : Nat)), (Value.int (3 : Int) (0 : Nat)), (Value.ref (37 : Nat)), (Value.bool Bool.true), (Value.int (181 : Int) (0 : Nat)), (Value.ref (38 : Nat)), Value.none, Value.none, Value.none, (Value.ref (39 : Nat)), (Value.int (221 : Int) (0 : Nat)), (Value.int (14 : Int) (0 : Nat)), (Value.str s1 (222 : Nat))])) (List.toArray []))
noncomputable abbrev o_856 (P : Params) : Obj := (Obj.mk (Value.type W.SL.s7174869446012820540x8) Option.none (Data.func (FuncData.mk s27 s54 (Arguments.mk [] [(Arg.mk s45 Option.none (Pos.mk 14 26 14 30))] Option.none [] [] Option.none []) d59 (Scope.mk ScopeKind.function [(Prod.mk s45 NameKind.local), (Prod.mk s55 NameKind.globalImplicit), (Prod.mk s56 NameKind.globalImplicit)] Bool.false Bool.false [(Prod.mk s60 (Const.str s45)), (Prod.mk s60 (Const.str s57))]) (3 : Nat) [] Value.none Value.none Value.none (Value.str s23 (194 : Nat)) Option.none (Value.ref (40 : Nat)) Value.none (0 : Nat))) (List.toArray []))
noncomputable abbrev o_857 (P : Params) : Obj := (Obj.mk (Value.type W.SL.s2766695959194262286x5) Option.none (Data.seq (List.toArray []) (0 : Nat)) (List.toArray []))
noncomputable abbrev o_858 (P : Params) : Obj := (Obj.mk Value.none Option.none (Data.fields (List.toArray [])) (List.toArray []))
noncomputable abbrev o_859 (P : Params) : Obj := (Obj.mk (Value.type W.SL.s2766695959194262286x5) Option.none (Data.seq (List.toArray [(Value.str s45 (227 : Nat))]) (0 : Nat)) (List.toArray []))
noncomputable abbrev o_860 (P : Params) : Obj := (Obj.mk (Value.type W.SL.s2766695959194262286x5) Option.none (Data.seq (List.toArray []) (0 : Nat)) (List.toArray []))
noncomputable abbrev s61 : Str := ⟨⟨[nat_lit 77, nat_lit 97, nat_lit 116, nat_lit 114, nat_lit 105, nat_lit 120, nat_lit 71, nat_lit 101, nat_lit 110, nat_lit 101, nat_lit 114, nat_lit 105, nat_lit 99, nat_lit 46, nat_lit 100, nat_lit 105, nat_lit 109]⟩⟩
noncomputable abbrev d62 : FuncBody := (FuncBody.stmts [(Stmt.If (Expr.UnaryOp UnaryOp.Not (Expr.Attribute (Expr.Name s45 (Pos.mk 18 15 18 19)) s50 (Pos.mk 18 15 18 30)) (Pos.mk 18 11 18 30)) [(Stmt.Return (Option.some (Expr.Tuple [(Expr.Call (Expr.Name s55 (Pos.mk 19 20 19 23)) [(Expr.Attribute (Expr.Name s45 (Pos.mk 19 24 19 28)) s49 (Pos.mk 19 24 19 34))] [] (Pos.mk 19 20 19 35)), (Expr.Call (Expr.Name s55 (Pos.mk 19 37 19 40)) [(Expr.Subscript (Expr.Attribute (Expr.Name s45 (Pos.mk 19 41 19 45)) s49 (Pos.mk 19 41 19 51)) (Expr.Constant (Const.int (0 : Int)) 0 (Pos.mk 19 52 19 53)) (Pos.mk 19 41 19 54))] [] (Pos.mk 19 37 19 55))] 0 (Pos.mk 19 19 19 56))) (Pos.mk 19 12 19 56))] [(Stmt.Return (Option.some (Expr.Tuple [(Expr.Call (Expr.Name s55 (Pos.mk 21 20 21 23)) [(Expr.Subscript (Expr.Attribute (Expr.Name s45 (Pos.mk 21 24 21 28)) s49 (Pos.mk 21 24 21 34)) (Expr.Constant (Const.int (0 : Int)) 0 (Pos.mk 21 35 21 36)) (Pos.mk 21 24 21 37))] [] (Pos.mk 21 20 21 38)), (Expr.Call (Expr.Name s55 (Pos.mk 21 40 21 43)) [(Expr.Attribute (Expr.Name s45 (Pos.mk 21 44 21 48)) s49 (Pos.mk 21 44 21 54))] [] (Pos.mk 21 40 21 55))] 0 (Pos.mk 21 19 21 56))) (Pos.mk 21 12 21 56))] (Pos.mk 18 8 21 56))])
noncomputable abbrev o_861 (P : Params) : Obj := (Obj.mk Value.none Option.none (Data.func (FuncData.mk s28 s61 (Arguments.mk [] [(Arg.mk s45 Option.none (Pos.mk 17 12 17 16))] Option.none [] [] Option.none []) d62 (Scope.mk ScopeKind.function [(Prod.mk s45 NameKind.local), (Prod.mk s55 NameKind.globalImplicit)] Bool.false Bool.false []) (0 : Nat) [] Value.none Value.none Value.none Value.none Option.none Value.none Value.none (0 : Nat))) (List.toArray []))
noncomputable abbrev o_862 (P : Params) : Obj := (Obj.mk (Value.type W.SL.s5856160107412720595x4) Option.none (Data.fields (List.toArray [(Value.str s28 (224 : Nat)), (Value.str s61 (225 : Nat)), (Value.str s1 (226 : Nat)), (Value.int (17 : Int) (0 : Nat)), (Value.int (1 : Int) (0 : Nat)), (Value.int (0 : Int) (0 : Nat)), (Value.int (0 : Int) (0 : Nat)), (Value.int (3 : Int) (0 : Nat)), (Value.ref (42 : Nat)), (Value.bool Bool.true), (Value.int (181 : Int) (0 : Nat)), (Value.ref (43 : Nat)), Value.none, (Value.ref (44 : Nat)), (Value.ref (45 : Nat)), (Value.ref (46 : Nat)), (Value.int (228 : Int) (0 : Nat)), (Value.int (17 : Int) (0 : Nat)), (Value.str s1 (229 : Nat))])) (List.toArray []))
noncomputable abbrev o_863 (P : Params) : Obj := (Obj.mk (Value.type W.SL.s7174869446012820540x8) Option.none (Data.func (FuncData.mk s28 s61 (Arguments.mk [] [(Arg.mk s45 Option.none (Pos.mk 17 12 17 16))] Option.none [] [] Option.none []) d62 (Scope.mk ScopeKind.function [(Prod.mk s45 NameKind.local), (Prod.mk s55 NameKind.globalImplicit)] Bool.false Bool.false []) (3 : Nat) [] Value.none Value.none Value.none (Value.str s23 (194 : Nat)) Option.none (Value.ref (47 : Nat)) Value.none (0 : Nat))) (List.toArray []))
noncomputable abbrev o_864 (P : Params) : Obj := (Obj.mk (Value.type W.SL.s2766695959194262286x5) Option.none (Data.seq (List.toArray []) (0 : Nat)) (List.toArray []))
noncomputable abbrev o_865 (P : Params) : Obj := (Obj.mk Value.none Option.none (Data.fields (List.toArray [])) (List.toArray []))
noncomputable abbrev o_866 (P : Params) : Obj := (Obj.mk (Value.type W.SL.s2766695959194262286x5) Option.none (Data.seq (List.toArray [(Value.str s45 (234 : Nat))]) (0 : Nat)) (List.toArray []))
noncomputable abbrev o_867 (P : Params) : Obj := (Obj.mk (Value.type W.SL.s2766695959194262286x5) Option.none (Data.seq (List.toArray []) (0 : Nat)) (List.toArray []))
noncomputable abbrev s63 : Str := ⟨⟨[nat_lit 77, nat_lit 97, nat_lit 116, nat_lit 114, nat_lit 105, nat_lit 120, nat_lit 71, nat_lit 101, nat_lit 110, nat_lit 101, nat_lit 114, nat_lit 105, nat_lit 99, nat_lit 46, nat_lit 116, nat_lit 114, nat_lit 97, nat_lit 110, nat_lit 115, nat_lit 112, nat_lit 111, nat_lit 115, nat_lit 101]⟩⟩
noncomputable abbrev d64 : FuncBody := (FuncBody.stmts [(Stmt.Return (Option.some (Expr.Call (Expr.Attribute (Expr.Name s45 (Pos.mk 24 15 24 19)) s46 (Pos.mk 24 15 24 26)) [(Expr.Attribute (Expr.Name s45 (Pos.mk 24 27 24 31)) s49 (Pos.mk 24 27 24 37)), (Expr.UnaryOp UnaryOp.Not (Expr.Attribute (Expr.Name s45 (Pos.mk 24 43 24 47)) s50 (Pos.mk 24 43 24 58)) (Pos.mk 24 39 24 58))] [] (Pos.mk 24 15 24 59))) (Pos.mk 24 8 24 59))])
noncomputable abbrev d65 : Scope := (Scope.mk ScopeKind.function [(Prod.mk s45 NameKind.local)] Bool.false Bool.false [])
noncomputable abbrev o_868 (P : Params) : Obj := (Obj.mk Value.none Option.none (Data.func (FuncData.mk s29 s63 (Arguments.mk [] [(Arg.mk s45 Option.none (Pos.mk 23 18 23 22))] Option.none [] [] Option.none []) d64 d65 (0 : Nat) [] Value.none Value.none Value.none Value.none Option.none Value.none Value.none (0 : Nat))) (List.toArray []))
noncomputable abbrev o_869 (P : Params) : Obj := (Obj.mk (Value.type W.SL.s5856160107412720595x4) Option.none (Data.fields (List.toArray [(Value.str s29 (231 : Nat)), (Value.str s63 (232 : Nat)), (Value.str s1 (233 : Nat)), (Value.int (23 : Int) (0 : Nat)), (Value.int (1 : Int) (0 : Nat)), (Value.int (0 : Int) (0 : Nat)), (Value.int (0 : Int) (0 : Nat)), (Value.int (3 : Int) (0 : Nat)), (Value.ref (49 : Nat)), (Value.bool Bool.true), (Value.int (181 : Int) (0 : Nat)), (Value.ref (50 : Nat)), Value.none, (Value.ref (51 : Nat)), (Value.ref (52 : Nat)), (Value.ref (53 : Nat)), (Value.int (235 : Int) (0 : Nat)), (Value.int (23 : Int) (0 : Nat)), (Value.str s1 (236 : Nat))])) (List.toArray []))
noncomputable abbrev o_870 (P : Params) : Obj := (Obj.mk (Value.type W.SL.s7174869446012820540x8) Option.none (Data.func (FuncData.mk s29 s63 (Arguments.mk [] [(Arg.mk s45 Option.none (Pos.mk 23 18 23 22))] Option.none [] [] Option.none []) d64 d65 (3 : Nat) [] Value.none Value.none Value.none (Value.str s23 (194 : Nat)) Option.none (Value.ref (54 : Nat)) Value.none (0 : Nat))) (List.toArray []))
noncomputable abbrev o_871 (P : Params) : Obj := (Obj.mk (Value.type W.SL.s2766695959194262286x5) Option.none (Data.seq (List.toArray []) (0 : Nat)) (List.toArray []))
noncomputable abbrev o_872 (P : Params) : Obj := (Obj.mk Value.none Option.none (Data.fields (List.toArray [])) (List.toArray []))
noncomputable abbrev o_873 (P : Params) : Obj := (Obj.mk (Value.type W.SL.s2766695959194262286x5) Option.none (Data.seq (List.toArray [(Value.str s45 (241 : Nat))]) (0 : Nat)) (List.toArray []))
noncomputable abbrev o_874 (P : Params) : Obj := (Obj.mk (Value.type W.SL.s2766695959194262286x5) Option.none (Data.seq (List.toArray []) (0 : Nat)) (List.toArray []))
noncomputable abbrev s66 : Str := ⟨⟨[nat_lit 77, nat_lit 97, nat_lit 116, nat_lit 114, nat_lit 105, nat_lit 120, nat_lit 71, nat_lit 101, nat_lit 110, nat_lit 101, nat_lit 114, nat_lit 105, nat_lit 99, nat_lit 46, nat_lit 116, nat_lit 114, nat_lit 97, nat_lit 110, nat_lit 115, nat_lit 112, nat_lit 111, nat_lit 115, nat_lit 101, nat_lit 95, nat_lit 115, nat_lit 101, nat_lit 108, nat_lit 102]⟩⟩
noncomputable abbrev d67 : Pos := (Pos.mk 27 8 27 16)
noncomputable abbrev d68 : FuncBody := (FuncBody.stmts [(Stmt.Expr (Expr.Call (Expr.Name s13 (Pos.mk 27 8 27 13)) [(Expr.Constant (Const.int (0 : Int)) 0 (Pos.mk 27 14 27 15))] [] d67) d67)])
noncomputable abbrev d69 : Scope := (Scope.mk ScopeKind.function [(Prod.mk s45 NameKind.local), (Prod.mk s13 NameKind.globalImplicit)] Bool.false Bool.false [])
noncomputable abbrev o_875 (P : Params) : Obj := (Obj.mk Value.none Option.none (Data.func (FuncData.mk s30 s66 (Arguments.mk [] [(Arg.mk s45 Option.none (Pos.mk 26 23 26 27))] Option.none [] [] Option.none []) d68 d69 (0 : Nat) [] Value.none Value.none Value.none Value.none Option.none Value.none Value.none (0 : Nat))) (List.toArray []))
noncomputable abbrev o_876 (P : Params) : Obj := (Obj.mk (Value.type W.SL.s5856160107412720595x4) Option.none (Data.fields (List.toArray [(Value.str s30 (238 : Nat)), (Value.str s66 (239 : Nat)), (Value.str s1 (240 : Nat)), (Value.int (26 : Int) (0 : Nat)), (Value.int (1 : Int) (0 : Nat)), (Value.int (0 : Int) (0 : Nat)), (Value.int (0 : Int) (0 : Nat)), (Value.int (3 : Int) (0 : Nat)), (Value.ref (56 : Nat)), (Value.bool Bool.true), (Value.int (181 : Int) (0 : Nat)), (Value.ref (57 : Nat)), Value.none, (Value.ref (58 : Nat)), (Value.ref (59 : Nat)), (Value.ref (60 : Nat)), (Value.int (242 : Int) (0 : Nat)), (Value.int (26 : Int) (0 : Nat)), (Value.str s1 (243 : Nat))])) (List.toArray []))
noncomputable abbrev o_877 (P : Params) : Obj := (Obj.mk (Value.type W.SL.s7174869446012820540x8) Option.none (Data.func (FuncData.mk s30 s66 (Arguments.mk [] [(Arg.mk s45 Option.none (Pos.mk 26 23 26 27))] Option.none [] [] Option.none []) d68 d69 (3 : Nat) [] Value.none Value.none Value.none (Value.str s23 (194 : Nat)) Option.none (Value.ref (61 : Nat)) Value.none (0 : Nat))) (List.toArray []))
noncomputable abbrev o_878 (P : Params) : Obj := (Obj.mk (Value.type W.SL.s8101838861749082086x8) Option.none (Data.fields (List.toArray [(Value.ref (55 : Nat)), Value.none, Value.none, Value.none, (Value.str s31 (246 : Nat)), (Value.bool Bool.false)])) (List.toArray []))
noncomputable abbrev o_879 (P : Params) : Obj := (Obj.mk (Value.type W.SL.s2766695959194262286x5) Option.none (Data.seq (List.toArray []) (0 : Nat)) (List.toArray []))
noncomputable abbrev o_880 (P : Params) : Obj := (Obj.mk Value.none Option.none (Data.fields (List.toArray [])) (List.toArray []))
noncomputable abbrev o_881 (P : Params) : Obj := (Obj.mk (Value.type W.SL.s2766695959194262286x5) Option.none (Data.seq (List.toArray [(Value.str s45 (250 : Nat))]) (0 : Nat)) (List.toArray []))
noncomputable abbrev o_882 (P : Params) : Obj := (Obj.mk (Value.type W.SL.s2766695959194262286x5) Option.none (Data.seq (List.toArray []) (0 : Nat)) (List.toArray []))
noncomputable abbrev s70 : Str := ⟨⟨[nat_lit 77, nat_lit 97, nat_lit 116, nat_lit 114, nat_lit 105, nat_lit 120, nat_lit 71, nat_lit 101, nat_lit 110, nat_lit 101, nat_lit 114, nat_lit 105, nat_lit 99, nat_lit 46, nat_lit 114, nat_lit 101, nat_lit 100, nat_lit 117, nat_lit 99, nat_lit 101, nat_lit 95, nat_lit 99, nat_lit 111, nat_lit 101, nat_lit 102, nat_lit 102, nat_lit 105, nat_lit 99, nat_lit 105, nat_lit 101, nat_lit 110, nat_lit 116, nat_lit 115]⟩⟩
noncomputable abbrev d71 : Pos := (Pos.mk 31 8 31 16)
noncomputable abbrev d72 : FuncBody := (FuncBody.stmts [(Stmt.Expr (Expr.Call (Expr.Name s13 (Pos.mk 31 8 31 13)) [(Expr.Constant (Const.int (1 : Int)) 0 (Pos.mk 31 14 31 15))] [] d71) d71)])
noncomputable abbrev o_883 (P : Params) : Obj := (Obj.mk Value.none Option.none (Data.func (FuncData.mk s32 s70 (Arguments.mk [] [(Arg.mk s45 Option.none (Pos.mk 30 28 30 32))] Option.none [] [] Option.none []) d72 d69 (0 : Nat) [] Value.none Value.none Value.none Value.none Option.none Value.none Value.none (0 : Nat))) (List.toArray []))
noncomputable abbrev o_884 (P : Params) : Obj := (Obj.mk (Value.type W.SL.s5856160107412720595x4) Option.none (Data.fields (List.toArray [(Value.str s32 (247 : Nat)), (Value.str s70 (248 : Nat)), (Value.str s1 (249 : Nat)), (Value.int (30 : Int) (0 : Nat)), (Value.int (1 : Int) (0 : Nat)), (Value.int (0 : Int) (0 : Nat)), (Value.int (0 : Int) (0 : Nat)), (Value.int (3 : Int) (0 : Nat)), (Value.ref (64 : Nat)), (Value.bool Bool.true), (Value.int (181 : Int) (0 : Nat)), (Value.ref (65 : Nat)), Value.none, (Value.ref (66 : Nat)), (Value.ref (67 : Nat)), (Value.ref (68 : Nat)), (Value.int (251 : Int) (0 : Nat)), (Value.int (30 : Int) (0 : Nat)), (Value.str s1 (252 : Nat))])) (List.toArray []))
noncomputable abbrev o_885 (P : Params) : Obj := (Obj.mk (Value.type W.SL.s7174869446012820540x8) Option.none (Data.func (FuncData.mk s32 s70 (Arguments.mk [] [(Arg.mk s45 Option.none (Pos.mk 30 28 30 32))] Option.none [] [] Option.none []) d72 d69 (3 : Nat) [] Value.none Value.none Value.none (Value.str s23 (194 : Nat)) Option.none (Value.ref (69 : Nat)) Value.none (0 : Nat))) (List.toArray []))
noncomputable abbrev o_886 (P : Params) : Obj := (Obj.mk (Value.type W.SL.s2766695959194262286x5) Option.none (Data.seq (List.toArray []) (0 : Nat)) (List.toArray []))
noncomputable abbrev o_887 (P : Params) : Obj := (Obj.mk Value.none Option.none (Data.fields (List.toArray [])) (List.toArray []))
noncomputable abbrev s73 : Str := ⟨⟨[nat_lit 105, nat_lit 100, nat_lit 120]⟩⟩
noncomputable abbrev o_888 (P : Params) : Obj := (Obj.mk (Value.type W.SL.s2766695959194262286x5) Option.none (Data.seq (List.toArray [(Value.str s45 (257 : Nat)), (Value.str s73 (258 : Nat))]) (0 : Nat)) (List.toArray []))
noncomputable abbrev o_889 (P : Params) : Obj := (Obj.mk (Value.type W.SL.s2766695959194262286x5) Option.none (Data.seq (List.toArray []) (0 : Nat)) (List.toArray []))
noncomputable abbrev s74 : Str := ⟨⟨[nat_lit 77, nat_lit 97, nat_lit 116, nat_lit 114, nat_lit 105, nat_lit 120, nat_lit 71, nat_lit 101, nat_lit 110, nat_lit 101, nat_lit 114, nat_lit 105, nat_lit 99, nat_lit 46, nat_lit 95, nat_lit 95, nat_lit 103, nat_lit 101, nat_lit 116, nat_lit 105, nat_lit 116, nat_lit 101, nat_lit 109, nat_lit 95, nat_lit 95]⟩⟩
noncomputable abbrev s75 : Str := ⟨⟨[nat_lit 105, nat_lit 115, nat_lit 105, nat_lit 110, nat_lit 115, nat_lit 116, nat_lit 97, nat_lit 110, nat_lit 99, nat_lit 101]⟩⟩
noncomputable abbrev s76 : Str := ⟨⟨[nat_lit 116, nat_lit 117, nat_lit 112, nat_lit 108, nat_lit 101]⟩⟩
noncomputable abbrev s77 : Str := ⟨⟨[nat_lit 67, nat_lit 97, nat_lit 110, nat_lit 39, nat_lit 116, nat_lit 32, nat_lit 97, nat_lit 99, nat_lit 99, nat_lit 101, nat_lit 115, nat_lit 115, nat_lit 32, nat_lit 105, nat_lit 110, nat_lit 100, nat_lit 105, nat_lit 118, nat_lit 105, nat_lit 100, nat_lit 117, nat_lit 97, nat_lit 108, nat_lit 32, nat_lit 114, nat_lit 111, nat_lit 119, nat_lit 115]⟩⟩
noncomputable abbrev d78 : FuncBody := (FuncBody.stmts [(Stmt.Assert (Expr.BoolOp BoolOp.And [(Expr.Call (Expr.Name s75 (Pos.mk 34 15 34 25)) [(Expr.Name s73 (Pos.mk 34 26 34 29)), (Expr.Name s76 (Pos.mk 34 31 34 36))] [] (Pos.mk 34 15 34 37)), (Expr.Compare (Expr.Call (Expr.Name s55 (Pos.mk 34 42 34 45)) [(Expr.Name s73 (Pos.mk 34 46 34 49))] [] (Pos.mk 34 42 34 50)) [CmpOp.Eq] [(Expr.Constant (Const.int (2 : Int)) 0 (Pos.mk 34 54 34 55))] (Pos.mk 34 42 34 55))] (Pos.mk 34 15 34 55)) (Option.some (Expr.Constant (Const.str s77) 0 (Pos.mk 34 57 34 87))) (Pos.mk 34 8 34 87)), (Stmt.If (Expr.UnaryOp UnaryOp.Not (Expr.Attribute (Expr.Name s45 (Pos.mk 35 15 35 19)) s50 (Pos.mk 35 15 35 30)) (Pos.mk 35 11 35 30)) [(Stmt.Return (Option.some (Expr.Subscript (Expr.Subscript (Expr.Attribute (Expr.Name s45 (Pos.mk 36 19 36 23)) s49 (Pos.mk 36 19 36 29)) (Expr.Subscript (Expr.Name s73 (Pos.mk 36 30 36 33)) (Expr.Constant (Const.int (0 : Int)) 0 (Pos.mk 36 34 36 35)) (Pos.mk 36 30 36 36)) (Pos.mk 36 19 36 37)) (Expr.Subscript (Expr.Name s73 (Pos.mk 36 38 36 41)) (Expr.Constant (Const.int (1 : Int)) 0 (Pos.mk 36 42 36 43)) (Pos.mk 36 38 36 44)) (Pos.mk 36 19 36 45))) (Pos.mk 36 12 36 45))] [(Stmt.Return (Option.some (Expr.Subscript (Expr.Subscript (Expr.Attribute (Expr.Name s45 (Pos.mk 38 19 38 23)) s49 (Pos.mk 38 19 38 29)) (Expr.Subscript (Expr.Name s73 (Pos.mk 38 30 38 33)) (Expr.Constant (Const.int (1 : Int)) 0 (Pos.mk 38 34 38 35)) (Pos.mk 38 30 38 36)) (Pos.mk 38 19 38 37)) (Expr.Subscript (Expr.Name s73 (Pos.mk 38 38 38 41)) (Expr.Constant (Const.int (0 : Int)) 0 (Pos.mk 38 42 38 43)) (Pos.mk 38 38 38 44)) (Pos.mk 38 19 38 45))) (Pos.mk 38 12 38 45))] (Pos.mk 35 8 38 45))])
noncomputable abbrev o_890 (P : Params) : Obj := (Obj.mk Value.none Option.none (Data.func (FuncData.mk s33 s74 (Arguments.mk [] [(Arg.mk s45 Option.none (Pos.mk 33 20 33 24)), (Arg.mk s73 Option.none (Pos.mk 33 26 33 29))] Option.none [] [] Option.none []) d78 (Scope.mk ScopeKind.function [(Prod.mk s45 NameKind.local), (Prod.mk s73 NameKind.local), (Prod.mk s75 NameKind.globalImplicit), (Prod.mk s76 NameKind.globalImplicit), (Prod.mk s55 NameKind.globalImplicit)] Bool.false Bool.false []) (0 : Nat) [] Value.none Value.none Value.none Value.none Option.none Value.none Value.none (0 : Nat))) (List.toArray []))
noncomputable abbrev o_891 (P : Params) : Obj := (Obj.mk (Value.type W.SL.s5856160107412720595x4) Option.none (Data.fields (List.toArray [(Value.str s33 (254 : Nat)), (Value.str s74 (255 : Nat)), (Value.str s1 (256 : Nat)), (Value.int (33 : Int) (0 : Nat)), (Value.int (2 : Int) (0 : Nat)), (Value.int (0 : Int) (0 : Nat)), (Value.int (0 : Int) (0 : Nat)), (Value.int (3 : Int) (0 : Nat)), (Value.ref (71 : Nat)), (Value.bool Bool.true), (Value.int (181 : Int) (0 : Nat)), (Value.ref (72 : Nat)), Value.none, (Value.ref (73 : Nat)), (Value.ref (74 : Nat)), (Value.ref (75 : Nat)), (Value.int (259 : Int) (0 : Nat)), (Value.int (33 : Int) (0 : Nat)), (Value.str s1 (260 : Nat))])) (List.toArray []))
noncomputable abbrev o_892 (P : Params) : Obj := (Obj.mk (Value.type W.SL.s7174869446012820540x8) Option.none (Data.func (FuncData.mk s33 s74 (Arguments.mk [] [(Arg.mk s45 Option.none (Pos.mk 33 20 33 24)), (Arg.mk s73 Option.none (Pos.mk 33 26 33 29))] Option.none [] [] Option.none []) d78 (Scope.mk ScopeKind.function [(Prod.mk s45 NameKind.local), (Prod.mk s73 NameKind.local), (Prod.mk s75 NameKind.globalImplicit), (Prod.mk s76 NameKind.globalImplicit), (Prod.mk s55 NameKind.globalImplicit)] Bool.false Bool.false []) (3 : Nat) [] Value.none Value.none Value.none (Value.str s23 (194 : Nat)) Option.none (Value.ref (76 : Nat)) Value.none (0 : Nat))) (List.toArray []))
noncomputable abbrev o_893 (P : Params) : Obj := (Obj.mk (Value.type W.SL.s2766695959194262286x5) Option.none (Data.seq (List.toArray []) (0 : Nat)) (List.toArray []))
noncomputable abbrev o_894 (P : Params) : Obj := (Obj.mk Value.none Option.none (Data.fields (List.toArray [])) (List.toArray []))
noncomputable abbrev o_895 (P : Params) : Obj := (Obj.mk (Value.type W.SL.s2766695959194262286x5) Option.none (Data.seq (List.toArray [(Value.str s45 (265 : Nat))]) (0 : Nat)) (List.toArray []))
noncomputable abbrev o_896 (P : Params) : Obj := (Obj.mk (Value.type W.SL.s2766695959194262286x5) Option.none (Data.seq (List.toArray []) (0 : Nat)) (List.toArray []))
noncomputable abbrev s79 : Str := ⟨⟨[nat_lit 77, nat_lit 97, nat_lit 116, nat_lit 114, nat_lit 105, nat_lit 120, nat_lit 71, nat_lit 101, nat_lit 110, nat_lit 101, nat_lit 114, nat_lit 105, nat_lit 99, nat_lit 46, nat_lit 114, nat_lit 111, nat_lit 119, nat_lit 115]⟩⟩
noncomputable abbrev s80 : Str := ⟨⟨[nat_lit 122, nat_lit 105, nat_lit 112]⟩⟩
noncomputable abbrev d81 : FuncBody := (FuncBody.stmts [(Stmt.If (Expr.UnaryOp UnaryOp.Not (Expr.Attribute (Expr.Name s45 (Pos.mk 41 15 41 19)) s50 (Pos.mk 41 15 41 30)) (Pos.mk 41 11 41 30)) [(Stmt.Return (Option.some (Expr.Call (Expr.Name s80 (Pos.mk 42 19 42 22)) [(Expr.Starred (Expr.Attribute (Expr.Name s45 (Pos.mk 42 24 42 28)) s49 (Pos.mk 42 24 42 34)) (Pos.mk 42 23 42 34))] [] (Pos.mk 42 19 42 35))) (Pos.mk 42 12 42 35))] [(Stmt.Return (Option.some (Expr.Attribute (Expr.Name s45 (Pos.mk 44 19 44 23)) s49 (Pos.mk 44 19 44 29))) (Pos.mk 44 12 44 29))] (Pos.mk 41 8 44 29))])
noncomputable abbrev o_897 (P : Params) : Obj := (Obj.mk Value.none Option.none (Data.func (FuncData.mk s34 s79 (Arguments.mk [] [(Arg.mk s45 Option.none (Pos.mk 40 13 40 17))] Option.none [] [] Option.none []) d81 (Scope.mk ScopeKind.function [(Prod.mk s45 NameKind.local), (Prod.mk s80 NameKind.globalImplicit)] Bool.false Bool.false []) (0 : Nat) [] Value.none Value.none Value.none Value.none Option.none Value.none Value.none (0 : Nat))) (List.toArray []))
noncomputable abbrev o_898 (P : Params) : Obj := (Obj.mk (Value.type W.SL.s5856160107412720595x4) Option.none (Data.fields (List.toArray [(Value.str s34 (262 : Nat)), (Value.str s79 (263 : Nat)), (Value.str s1 (264 : Nat)), (Value.int (40 : Int) (0 : Nat)), (Value.int (1 : Int) (0 : Nat)), (Value.int (0 : Int) (0 : Nat)), (Value.int (0 : Int) (0 : Nat)), (Value.int (3 : Int) (0 : Nat)), (Value.ref (78 : Nat)), (Value.bool Bool.true), (Value.int (181 : Int) (0 : Nat)), (Value.ref (79 : Nat)), Value.none, (Value.ref (80 : Nat)), (Value.ref (81 : Nat)), (Value.ref (82 : Nat)), (Value.int (266 : Int) (0 : Nat)), (Value.int (40 : Int) (0 : Nat)), (Value.str s1 (267 : Nat))])) (List.toArray []))
noncomputable abbrev o_899 (P : Params) : Obj := (Obj.mk (Value.type W.SL.s7174869446012820540x8) Option.none (Data.func (FuncData.mk s34 s79 (Arguments.mk [] [(Arg.mk s45 Option.none (Pos.mk 40 13 40 17))] Option.none [] [] Option.none []) d81 (Scope.mk ScopeKind.function [(Prod.mk s45 NameKind.local), (Prod.mk s80 NameKind.globalImplicit)] Bool.false Bool.false []) (3 : Nat) [] Value.none Value.none Value.none (Value.str s23 (194 : Nat)) Option.none (Value.ref (83 : Nat)) Value.none (0 : Nat))) (List.toArray []))
noncomputable abbrev o_900 (P : Params) : Obj := (Obj.mk (Value.type W.SL.s2766695959194262286x5) Option.none (Data.seq (List.toArray []) (0 : Nat)) (List.toArray []))
noncomputable abbrev o_901 (P : Params) : Obj := (Obj.mk Value.none Option.none (Data.fields (List.toArray [])) (List.toArray []))
noncomputable abbrev s82 : Str := ⟨⟨[nat_lit 111, nat_lit 116, nat_lit 104, nat_lit 101, nat_lit 114]⟩⟩
noncomputable abbrev s83 : Str := ⟨⟨[nat_lit 109]⟩⟩
noncomputable abbrev o_902 (P : Params) : Obj := (Obj.mk (Value.type W.SL.s2766695959194262286x5) Option.none (Data.seq (List.toArray [(Value.str s45 (272 : Nat)), (Value.str s82 (273 : Nat)), (Value.str s83 (274 : Nat))]) (0 : Nat)) (List.toArray []))
noncomputable abbrev s84 : Str := ⟨⟨[nat_lit 110]⟩⟩
noncomputable abbrev o_903 (P : Params) : Obj := (Obj.mk (Value.type W.SL.s2766695959194262286x5) Option.none (Data.seq (List.toArray [(Value.str s45 (275 : Nat)), (Value.str s82 (276 : Nat)), (Value.str s84 (277 : Nat))]) (0 : Nat)) (List.toArray []))
noncomputable abbrev s85 : Str := ⟨⟨[nat_lit 77, nat_lit 97, nat_lit 116, nat_lit 114, nat_lit 105, nat_lit 120, nat_lit 71, nat_lit 101, nat_lit 110, nat_lit 101, nat_lit 114, nat_lit 105, nat_lit 99, nat_lit 46, nat_lit 95, nat_lit 95, nat_lit 101, nat_lit 113, nat_lit 95, nat_lit 95]⟩⟩
noncomputable abbrev s86 : Str := ⟨⟨[nat_lit 97, nat_lit 108, nat_lit 108]⟩⟩
noncomputable abbrev s87 : Str := ⟨⟨[nat_lit 105]⟩⟩
noncomputable abbrev s88 : Str := ⟨⟨[nat_lit 106]⟩⟩
noncomputable abbrev s89 : Str := ⟨⟨[nat_lit 114, nat_lit 97, nat_lit 110, nat_lit 103, nat_lit 101]⟩⟩
noncomputable abbrev d90 : FuncBody := (FuncBody.stmts [(Stmt.If (Expr.Compare (Expr.Call (Expr.Attribute (Expr.Name s45 (Pos.mk 47 11 47 15)) s28 (Pos.mk 47 11 47 19)) [] [] (Pos.mk 47 11 47 21)) [CmpOp.NotEq] [(Expr.Call (Expr.Attribute (Expr.Name s82 (Pos.mk 47 25 47 30)) s28 (Pos.mk 47 25 47 34)) [] [] (Pos.mk 47 25 47 36))] (Pos.mk 47 11 47 36)) [(Stmt.Return (Option.some (Expr.Constant (Const.bool Bool.false) 0 (Pos.mk 48 19 48 24))) (Pos.mk 48 12 48 24))] [] (Pos.mk 47 8 48 24)), (Stmt.Assign [(Expr.Tuple [(Expr.Name s83 (Pos.mk 49 8 49 9)), (Expr.Name s84 (Pos.mk 49 11 49 12))] 0 (Pos.mk 49 8 49 12))] (Expr.Call (Expr.Attribute (Expr.Name s45 (Pos.mk 49 15 49 19)) s28 (Pos.mk 49 15 49 23)) [] [] (Pos.mk 49 15 49 25)) (Pos.mk 49 8 49 25)), (Stmt.Return (Option.some (Expr.Call (Expr.Name s86 (Pos.mk 50 15 50 18)) [(Expr.GeneratorExp (Expr.Compare (Expr.Subscript (Expr.Name s45 (Pos.mk 50 20 50 24)) (Expr.Tuple [(Expr.Name s87 (Pos.mk 50 25 50 26)), (Expr.Name s88 (Pos.mk 50 28 50 29))] 0 (Pos.mk 50 25 50 29)) (Pos.mk 50 20 50 30)) [CmpOp.Eq] [(Expr.Subscript (Expr.Name s82 (Pos.mk 50 34 50 39)) (Expr.Tuple [(Expr.Name s87 (Pos.mk 50 40 50 41)), (Expr.Name s88 (Pos.mk 50 43 50 44))] 0 (Pos.mk 50 40 50 44)) (Pos.mk 50 34 50 45))] (Pos.mk 50 20 50 45)) [(Comprehension.mk (Expr.Name s87 (Pos.mk 50 50 50 51)) (Expr.Call (Expr.Name s89 (Pos.mk 50 55 50 60)) [(Expr.Name s83 (Pos.mk 50 61 50 62))] [] (Pos.mk 50 55 50 63)) [] (0 : Int)), (Comprehension.mk (Expr.Name s88 (Pos.mk 50 68 50 69)) (Expr.Call (Expr.Name s89 (Pos.mk 50 73 50 78)) [(Expr.Name s84 (Pos.mk 50 79 50 80))] [] (Pos.mk 50 73 50 81)) [] (0 : Int))] (Scope.mk ScopeKind.function [(Prod.mk s58 NameKind.local), (Prod.mk s87 NameKind.local), (Prod.mk s88 NameKind.local), (Prod.mk s84 NameKind.free), (Prod.mk s82 NameKind.free), (Prod.mk s45 NameKind.free), (Prod.mk s89 NameKind.globalImplicit)] Bool.true Bool.false []) (Pos.mk 50 19 50 82))] [] (Pos.mk 50 15 50 83))) (Pos.mk 50 8 50 83))])
noncomputable abbrev o_904 (P : Params) : Obj := (Obj.mk Value.none Option.none (Data.func (FuncData.mk s35 s85 (Arguments.mk [] [(Arg.mk s45 Option.none (Pos.mk 46 15 46 19)), (Arg.mk s82 Option.none (Pos.mk 46 21 46 26))] Option.none [] [] Option.none []) d90 (Scope.mk ScopeKind.function [(Prod.mk s45 NameKind.cell), (Prod.mk s82 NameKind.cell), (Prod.mk s83 NameKind.local), (Prod.mk s84 NameKind.cell), (Prod.mk s86 NameKind.globalImplicit), (Prod.mk s89 NameKind.globalImplicit)] Bool.false Bool.false []) (0 : Nat) [] Value.none Value.none Value.none Value.none Option.none Value.none Value.none (0 : Nat))) (List.toArray []))
noncomputable abbrev o_905 (P : Params) : Obj := (Obj.mk (Value.type W.SL.s5856160107412720595x4) Option.none (Data.fields (List.toArray [(Value.str s35 (269 : Nat)), (Value.str s85 (270 : Nat)), (Value.str s1 (271 : Nat)), (Value.int (46 : Int) (0 : Nat)), (Value.int (2 : Int) (0 : Nat)), (Value.int (0 : Int) (0 : Nat)), (Value.int (0 : Int) (0 : Nat)), (Value.int (3 : Int) (0 : Nat)), (Value.ref (85 : Nat)), (Value.bool Bool.true), (Value.int (181 : Int) (0 : Nat)), (Value.ref (86 : Nat)), Value.none, (Value.ref (87 : Nat)), (Value.ref (88 : Nat)), (Value.ref (89 : Nat)), (Value.int (278 : Int) (0 : Nat)), (Value.int (46 : Int) (0 : Nat)), (Value.str s1 (279 : Nat))])) (List.toArray []))
noncomputable abbrev o_906 (P : Params) : Obj := (Obj.mk (Value.type W.SL.s7174869446012820540x8) Option.none (Data.func (FuncData.mk s35 s85 (Arguments.mk [] [(Arg.mk s45 Option.none (Pos.mk 46 15 46 19)), (Arg.mk s82 Option.none (Pos.mk 46 21 46 26))] Option.none [] [] Option.none []) d90 (Scope.mk ScopeKind.function [(Prod.mk s45 NameKind.cell), (Prod.mk s82 NameKind.cell), (Prod.mk s83 NameKind.local), (Prod.mk s84 NameKind.cell), (Prod.mk s86 NameKind.globalImplicit), (Prod.mk s89 NameKind.globalImplicit)] Bool.false Bool.false []) (3 : Nat) [] Value.none Value.none Value.none (Value.str s23 (194 : Nat)) Option.none (Value.ref (90 : Nat)) Value.none (0 : Nat))) (List.toArray []))
noncomputable abbrev o_907 (P : Params) : Obj := (Obj.mk (Value.type W.SL.s2766695959194262286x5) Option.none (Data.seq (List.toArray []) (0 : Nat)) (List.toArray []))
noncomputable abbrev o_908 (P : Params) : Obj := (Obj.mk Value.none Option.none (Data.fields (List.toArray [])) (List.toArray []))
noncomputable abbrev s91 : Str := ⟨⟨[nat_lit 77, nat_lit 97, nat_lit 116, nat_lit 114, nat_lit 105, nat_lit 120, nat_lit 71, nat_lit 101, nat_lit 110, nat_lit 101, nat_lit 114, nat_lit 105, nat_lit 99, nat_lit 46, nat_lit 95, nat_lit 95, nat_lit 110, nat_lit 101, nat_lit 103, nat_lit 95, nat_lit 95]⟩⟩
noncomputable abbrev d92 : FuncBody := (FuncBody.stmts [(Stmt.Assign [(Expr.Tuple [(Expr.Name s83 (Pos.mk 53 8 53 9)), (Expr.Name s84 (Pos.mk 53 11 53 12))] 0 (Pos.mk 53 8 53 12))] (Expr.Call (Expr.Attribute (Expr.Name s45 (Pos.mk 53 15 53 19)) s28 (Pos.mk 53 15 53 23)) [] [] (Pos.mk 53 15 53 25)) (Pos.mk 53 8 53 25)), (Stmt.Return (Option.some (Expr.Call (Expr.Attribute (Expr.Name s45 (Pos.mk 54 15 54 19)) s46 (Pos.mk 54 15 54 26)) [(Expr.ListComp (Expr.ListComp (Expr.UnaryOp UnaryOp.USub (Expr.Subscript (Expr.Name s45 (Pos.mk 54 30 54 34)) (Expr.Tuple [(Expr.Name s87 (Pos.mk 54 35 54 36)), (Expr.Name s88 (Pos.mk 54 38 54 39))] 0 (Pos.mk 54 35 54 39)) (Pos.mk 54 30 54 40)) (Pos.mk 54 29 54 40)) [(Comprehension.mk (Expr.Name s88 (Pos.mk 54 45 54 46)) (Expr.Call (Expr.Name s89 (Pos.mk 54 50 54 55)) [(Expr.Name s84 (Pos.mk 54 56 54 57))] [] (Pos.mk 54 50 54 58)) [] (0 : Int))] (Scope.mk ScopeKind.function [(Prod.mk s58 NameKind.local), (Prod.mk s88 NameKind.local), (Prod.mk s87 NameKind.free), (Prod.mk s45 NameKind.free)] Bool.false Bool.false []) (Pos.mk 54 28 54 59)) [(Comprehension.mk (Expr.Name s87 (Pos.mk 54 64 54 65)) (Expr.Call (Expr.Name s89 (Pos.mk 54 69 54 74)) [(Expr.Name s83 (Pos.mk 54 75 54 76))] [] (Pos.mk 54 69 54 77)) [] (0 : Int))] (Scope.mk ScopeKind.function [(Prod.mk s58 NameKind.local), (Prod.mk s87 NameKind.cell), (Prod.mk s89 NameKind.globalImplicit), (Prod.mk s84 NameKind.free), (Prod.mk s45 NameKind.free)] Bool.false Bool.false []) (Pos.mk 54 27 54 78)), (Expr.Constant (Const.bool Bool.false) 0 (Pos.mk 54 80 54 85))] [] (Pos.mk 54 15 54 86))) (Pos.mk 54 8 54 86))])
noncomputable abbrev o_909 (P : Params) : Obj := (Obj.mk Value.none Option.none (Data.func (FuncData.mk s36 s91 (Arguments.mk [] [(Arg.mk s45 Option.none (Pos.mk 52 16 52 20))] Option.none [] [] Option.none []) d92 (Scope.mk ScopeKind.function [(Prod.mk s45 NameKind.cell), (Prod.mk s83 NameKind.local), (Prod.mk s84 NameKind.cell), (Prod.mk s89 NameKind.globalImplicit)] Bool.false Bool.false [(Prod.mk s60 (Const.str s45)), (Prod.mk s60 (Const.str s83)), (Prod.mk s60 (Const.str s84)), (Prod.mk s60 (Const.str s87)), (Prod.mk s60 (Const.str s88))]) (0 : Nat) [] Value.none Value.none Value.none Value.none Option.none Value.none Value.none (0 : Nat))) (List.toArray []))
noncomputable abbrev o_910 (P : Params) : Obj := (Obj.mk (Value.type W.SL.s5856160107412720595x4) Option.none (Data.fields (List.toArray [(Value.str s36 (281 : Nat)), (Value.str s91 (282 : Nat)), (Value.str s1 (283 : Nat)), (Value.int (52 : Int) (0 : Nat)), (Value.int (1 : Int) (0 : Nat)), (Value.int (0 : Int) (0 : Nat)), (Value.int (0 : Int) (0 : Nat)), (Value.int (3 : Int) (0 : Nat)), (Value.ref (92 : Nat)), (Value.bool Bool.true), (Value.int (181 : Int) (0 : Nat)), (Value.ref (93 : Nat)), Value.none, Value.none, Value.none, (Value.ref (94 : Nat)), (Value.int (284 : Int) (0 : Nat)), (Value.int (52 : Int) (0 : Nat)), (Value.str s1 (285 : Nat))])) (List.toArray []))
noncomputable abbrev o_911 (P : Params) : Obj := (Obj.mk (Value.type W.SL.s7174869446012820540x8) Option.none (Data.func (FuncData.mk s36 s91 (Arguments.mk [] [(Arg.mk s45 Option.none (Pos.mk 52 16 52 20))] Option.none [] [] Option.none []) d92 (Scope.mk ScopeKind.function [(Prod.mk s45 NameKind.cell), (Prod.mk s83 NameKind.local), (Prod.mk s84 NameKind.cell), (Prod.mk s89 NameKind.globalImplicit)] Bool.false Bool.false [(Prod.mk s60 (Const.str s45)), (Prod.mk s60 (Const.str s83)), (Prod.mk s60 (Const.str s84)), (Prod.mk s60 (Const.str s87)), (Prod.mk s60 (Const.str s88))]) (3 : Nat) [] Value.none Value.none Value.none (Value.str s23 (194 : Nat)) Option.none (Value.ref (95 : Nat)) Value.none (0 : Nat))) (List.toArray []))
noncomputable abbrev o_912 (P : Params) : Obj := (Obj.mk (Value.type W.SL.s2766695959194262286x5) Option.none (Data.seq (List.toArray []) (0 : Nat)) (List.toArray []))
noncomputable abbrev o_913 (P : Params) : Obj := (Obj.mk Value.none Option.none (Data.fields (List.toArray [])) (List.toArray []))
noncomputable abbrev s93 : Str := ⟨⟨[nat_lit 77, nat_lit 97, nat_lit 116, nat_lit 114, nat_lit 105, nat_lit 120, nat_lit 71, nat_lit 101, nat_lit 110, nat_lit 101, nat_lit 114, nat_lit 105, nat_lit 99, nat_lit 46, nat_lit 95, nat_lit 95, nat_lit 97, nat_lit 100, nat_lit 100, nat_lit 95, nat_lit 95]⟩⟩
noncomputable abbrev s94 : Str := ⟨⟨[nat_lit 84, nat_lit 121, nat_lit 112, nat_lit 101, nat_lit 69, nat_lit 114, nat_lit 114, nat_lit 111, nat_lit 114]⟩⟩
noncomputable abbrev s95 : Str := ⟨⟨[nat_lit 67, nat_lit 97, nat_lit 110, nat_lit 32, nat_lit 111, nat_lit 110, nat_lit 108, nat_lit 121, nat_lit 32, nat_lit 97, nat_lit 100, nat_lit 100, nat_lit 32, nat_lit 109, nat_lit 97, nat_lit 116, nat_lit 114, nat_lit 105, nat_lit 99, nat_lit 101, nat_lit 115, nat_lit 32, nat_lit 116, nat_lit 111, nat_lit 32, nat_lit 111, nat_lit 116, nat_lit 104, nat_lit 101, nat_lit 114, nat_lit 32, nat_lit 109, nat_lit 97, nat_lit 116, nat_lit 114, nat_lit 105, nat_lit 99, nat_lit 101, nat_lit 115]⟩⟩
noncomputable abbrev s96 : Str := ⟨⟨[nat_lit 77, nat_lit 97, nat_lit 116, nat_lit 114, nat_lit 105, nat_lit 99, nat_lit 101, nat_lit 115, nat_lit 32, nat_lit 109, nat_lit 117, nat_lit 115, nat_lit 116, nat_lit 32, nat_lit 104, nat_lit 97, nat_lit 118, nat_lit 101, nat_lit 32, nat_lit 116, nat_lit 104, nat_lit 101, nat_lit 32, nat_lit 115, nat_lit 97, nat_lit 109, nat_lit 101, nat_lit 32, nat_lit 98, nat_lit 97, nat_lit 115, nat_lit 101, nat_lit 32, nat_lit 114, nat_lit 105, nat_lit 110, nat_lit 103]⟩⟩
noncomputable abbrev s97 : Str := ⟨⟨[nat_lit 77, nat_lit 97, nat_lit 116, nat_lit 114, nat_lit 105, nat_lit 99, nat_lit 101, nat_lit 115, nat_lit 32, nat_lit 97, nat_lit 114, nat_lit 101, nat_lit 32, nat_lit 110, nat_lit 111, nat_lit 116, nat_lit 32, nat_lit 111, nat_lit 102, nat_lit 32, nat_lit 116, nat_lit 104, nat_lit 101, nat_lit 32, nat_lit 115, nat_lit 97, nat_lit 109, nat_lit 101, nat_lit 32, nat_lit 100, nat_lit 105, nat_lit 109, nat_lit 101, nat_lit 110, nat_lit 115, nat_lit 105, nat_lit 111, nat_lit 110, nat_lit 115]⟩⟩
noncomputable abbrev d98 : Scope := (Scope.mk ScopeKind.function [(Prod.mk s58 NameKind.local), (Prod.mk s88 NameKind.local), (Prod.mk s87 NameKind.free), (Prod.mk s82 NameKind.free), (Prod.mk s45 NameKind.free)] Bool.false Bool.false [])
noncomputable abbrev d99 : Scope := (Scope.mk ScopeKind.function [(Prod.mk s58 NameKind.local), (Prod.mk s87 NameKind.cell), (Prod.mk s89 NameKind.globalImplicit), (Prod.mk s84 NameKind.free), (Prod.mk s82 NameKind.free), (Prod.mk s45 NameKind.free)] Bool.false Bool.false [])
noncomputable abbrev d100 : FuncBody := (FuncBody.stmts [(Stmt.If (Expr.UnaryOp UnaryOp.Not (Expr.Call (Expr.Name s75 (Pos.mk 57 15 57 25)) [(Expr.Name s82 (Pos.mk 57 26 57 31)), (Expr.Name s14 (Pos.mk 57 33 57 46))] [] (Pos.mk 57 15 57 47)) (Pos.mk 57 11 57 47)) [(Stmt.Raise (Option.some (Expr.Call (Expr.Name s94 (Pos.mk 58 18 58 27)) [(Expr.Constant (Const.str s95) 0 (Pos.mk 58 28 58 69))] [] (Pos.mk 58 18 58 70))) Option.none (Pos.mk 58 12 58 70))] [] (Pos.mk 57 8 58 70)), (Stmt.If (Expr.Compare (Expr.Attribute (Expr.Name s45 (Pos.mk 59 11 59 15)) s46 (Pos.mk 59 11 59 22)) [CmpOp.NotEq] [(Expr.Attribute (Expr.Name s82 (Pos.mk 59 26 59 31)) s46 (Pos.mk 59 26 59 38))] (Pos.mk 59 11 59 38)) [(Stmt.Raise (Option.some (Expr.Call (Expr.Name s94 (Pos.mk 60 18 60 27)) [(Expr.Constant (Const.str s96) 0 (Pos.mk 60 28 60 67))] [] (Pos.mk 60 18 60 68))) Option.none (Pos.mk 60 12 60 68))] [] (Pos.mk 59 8 60 68)), (Stmt.If (Expr.Compare (Expr.Call (Expr.Attribute (Expr.Name s45 (Pos.mk 61 11 61 15)) s28 (Pos.mk 61 11 61 19)) [] [] (Pos.mk 61 11 61 21)) [CmpOp.NotEq] [(Expr.Call (Expr.Attribute (Expr.Name s82 (Pos.mk 61 25 61 30)) s28 (Pos.mk 61 25 61 34)) [] [] (Pos.mk 61 25 61 36))] (Pos.mk 61 11 61 36)) [(Stmt.Raise (Option.some (Expr.Call (Expr.Name s51 (Pos.mk 62 18 62 28)) [(Expr.Constant (Const.str s97) 0 (Pos.mk 62 29 62 70))] [] (Pos.mk 62 18 62 71))) Option.none (Pos.mk 62 12 62 71))] [] (Pos.mk 61 8 62 71)), (Stmt.Assign [(Expr.Tuple [(Expr.Name s83 (Pos.mk 63 8 63 9)), (Expr.Name s84 (Pos.mk 63 11 63 12))] 0 (Pos.mk 63 8 63 12))] (Expr.Call (Expr.Attribute (Expr.Name s45 (Pos.mk 63 15 63 19)) s28 (Pos.mk 63 15 63 23)) [] [] (Pos.mk 63 15 63 25)) (Pos.mk 63 8 63 25)), (Stmt.Return (Option.some (Expr.Call (Expr.Attribute (Expr.Name s45 (Pos.mk 64 15 64 19)) s46 (Pos.mk 64 15 64 26)) [(Expr.ListComp (Expr.ListComp (Expr.BinOp (Expr.Subscript (Expr.Name s45 (Pos.mk 64 29 64 33)) (Expr.Tuple [(Expr.Name s87 (Pos.mk 64 34 64 35)), (Expr.Name s88 (Pos.mk 64 37 64 38))] 0 (Pos.mk 64 34 64 38)) (Pos.mk 64 29 64 39)) Operator.Add (Expr.Subscript (Expr.Name s82 (Pos.mk 64 42 64 47)) (Expr.Tuple [(Expr.Name s87 (Pos.mk 64 48 64 49)), (Expr.Name s88 (Pos.mk 64 51 64 52))] 0 (Pos.mk 64 48 64 52)) (Pos.mk 64 42 64 53)) (Pos.mk 64 29 64 53)) [(Comprehension.mk (Expr.Name s88 (Pos.mk 64 58 64 59)) (Expr.Call (Expr.Name s89 (Pos.mk 64 63 64 68)) [(Expr.Name s84 (Pos.mk 64 69 64 70))] [] (Pos.mk 64 63 64 71)) [] (0 : Int))] d98 (Pos.mk 64 28 64 72)) [(Comprehension.mk (Expr.Name s87 (Pos.mk 64 77 64 78)) (Expr.Call (Expr.Name s89 (Pos.mk 64 82 64 87)) [(Expr.Name s83 (Pos.mk 64 88 64 89))] [] (Pos.mk 64 82 64 90)) [] (0 : Int))] d99 (Pos.mk 64 27 64 91)), (Expr.Constant (Const.bool Bool.false) 0 (Pos.mk 64 93 64 98))] [] (Pos.mk 64 15 64 99))) (Pos.mk 64 8 64 99))])
noncomputable abbrev d101 : Scope := (Scope.mk ScopeKind.function [(Prod.mk s45 NameKind.cell), (Prod.mk s82 NameKind.cell), (Prod.mk s83 NameKind.local), (Prod.mk s84 NameKind.cell), (Prod.mk s75 NameKind.globalImplicit), (Prod.mk s14 NameKind.globalImplicit), (Prod.mk s94 NameKind.globalImplicit), (Prod.mk s51 NameKind.globalImplicit), (Prod.mk s89 NameKind.globalImplicit)] Bool.false Bool.false [(Prod.mk s60 (Const.str s45)), (Prod.mk s60 (Const.str s82)), (Prod.mk s60 (Const.str s83)), (Prod.mk s60 (Const.str s84)), (Prod.mk s60 (Const.str s87)), (Prod.mk s60 (Const.str s88))])
noncomputable abbrev o_914 (P : Params) : Obj := (Obj.mk Value.none Option.none (Data.func (FuncData.mk s37 s93 (Arguments.mk [] [(Arg.mk s45 Option.none (Pos.mk 56 16 56 20)), (Arg.mk s82 Option.none (Pos.mk 56 22 56 27))] Option.none [] [] Option.none []) d100 d101 (0 : Nat) [] Value.none Value.none Value.none Value.none Option.none Value.none Value.none (0 : Nat))) (List.toArray []))
noncomputable abbrev o_915 (P : Params) : Obj := (Obj.mk (Value.type W.SL.s5856160107412720595x4) Option.none (Data.fields (List.toArray [(Value.str s37 (287 : Nat)), (Value.str s93 (288 : Nat)), (Value.str s1 (289 : Nat)), (Value.int (56 : Int) (0 : Nat)), (Value.int (2 : Int) (0 : Nat)), (Value.int (0 : Int) (0 : Nat)), (Value.int (0 : Int) (0 : Nat)), (Value.int (3 : Int) (0 : Nat)), (Value.ref (97 : Nat)), (Value.bool Bool.true), (Value.int (181 : Int) (0 : Nat)), (Value.ref (98 : Nat)), Value.none, Value.none, Value.none, (Value.ref (99 : Nat)), (Value.int (290 : Int) (0 : Nat)), (Value.int (56 : Int) (0 : Nat)), (Value.str s1 (291 : Nat))])) (List.toArray []))
noncomputable abbrev o_916 (P : Params) : Obj := (Obj.mk (Value.type W.SL.s7174869446012820540x8) Option.none (Data.func (FuncData.mk s37 s93 (Arguments.mk [] [(Arg.mk s45 Option.none (Pos.mk 56 16 56 20)), (Arg.mk s82 Option.none (Pos.mk 56 22 56 27))] Option.none [] [] Option.none []) d100 d101 (3 : Nat) [] Value.none Value.none Value.none (Value.str s23 (194 : Nat)) Option.none (Value.ref (100 : Nat)) Value.none (0 : Nat))) (List.toArray []))
noncomputable abbrev o_917 (P : Params) : Obj := (Obj.mk (Value.type W.SL.s2766695959194262286x5) Option.none (Data.seq (List.toArray []) (0 : Nat)) (List.toArray []))
noncomputable abbrev o_918 (P : Params) : Obj := (Obj.mk Value.none Option.none (Data.fields (List.toArray [])) (List.toArray []))
noncomputable abbrev o_919 (P : Params) : Obj := (Obj.mk (Value.type W.SL.s2766695959194262286x5) Option.none (Data.seq (List.toArray [(Value.str s45 (296 : Nat)), (Value.str s82 (297 : Nat))]) (0 : Nat)) (List.toArray []))
noncomputable abbrev o_920 (P : Params) : Obj := (Obj.mk (Value.type W.SL.s2766695959194262286x5) Option.none (Data.seq (List.toArray []) (0 : Nat)) (List.toArray []))
noncomputable abbrev s102 : Str := ⟨⟨[nat_lit 77, nat_lit 97, nat_lit 116, nat_lit 114, nat_lit 105, nat_lit 120, nat_lit 71, nat_lit 101, nat_lit 110, nat_lit 101, nat_lit 114, nat_lit 105, nat_lit 99, nat_lit 46, nat_lit 95, nat_lit 95, nat_lit 105, nat_lit 97, nat_lit 100, nat_lit 100, nat_lit 95, nat_lit 95]⟩⟩
noncomputable abbrev d103 : FuncBody := (FuncBody.stmts [(Stmt.Return (Option.some (Expr.BinOp (Expr.Name s45 (Pos.mk 67 15 67 19)) Operator.Add (Expr.Name s82 (Pos.mk 67 22 67 27)) (Pos.mk 67 15 67 27))) (Pos.mk 67 8 67 27))])
noncomputable abbrev d104 : Scope := (Scope.mk ScopeKind.function [(Prod.mk s45 NameKind.local), (Prod.mk s82 NameKind.local)] Bool.false Bool.false [])
noncomputable abbrev o_921 (P : Params) : Obj := (Obj.mk Value.none Option.none (Data.func (FuncData.mk s38 s102 (Arguments.mk [] [(Arg.mk s45 Option.none (Pos.mk 66 17 66 21)), (Arg.mk s82 Option.none (Pos.mk 66 23 66 28))] Option.none [] [] Option.none []) d103 d104 (0 : Nat) [] Value.none Value.none Value.none Value.none Option.none Value.none Value.none (0 : Nat))) (List.toArray []))
noncomputable abbrev o_922 (P : Params) : Obj := (Obj.mk (Value.type W.SL.s5856160107412720595x4) Option.none (Data.fields (List.toArray [(Value.str s38 (293 : Nat)), (Value.str s102 (294 : Nat)), (Value.str s1 (295 : Nat)), (Value.int (66 : Int) (0 : Nat)), (Value.int (2 : Int) (0 : Nat)), (Value.int (0 : Int) (0 : Nat)), (Value.int (0 : Int) (0 : Nat)), (Value.int (3 : Int) (0 : Nat)), (Value.ref (102 : Nat)), (Value.bool Bool.true), (Value.int (181 : Int) (0 : Nat)), (Value.ref (103 : Nat)), Value.none, (Value.ref (104 : Nat)), (Value.ref (105 : Nat)), (Value.ref (106 : Nat)), (Value.int (298 : Int) (0 : Nat)), (Value.int (66 : Int) (0 : Nat)), (Value.str s1 (299 : Nat))])) (List.toArray []))
noncomputable abbrev o_923 (P : Params) : Obj := (Obj.mk (Value.type W.SL.s7174869446012820540x8) Option.none (Data.func (FuncData.mk s38 s102 (Arguments.mk [] [(Arg.mk s45 Option.none (Pos.mk 66 17 66 21)), (Arg.mk s82 Option.none (Pos.mk 66 23 66 28))] Option.none [] [] Option.none []) d103 d104 (3 : Nat) [] Value.none Value.none Value.none (Value.str s23 (194 : Nat)) Option.none (Value.ref (107 : Nat)) Value.none (0 : Nat))) (List.toArray []))
noncomputable abbrev o_924 (P : Params) : Obj := (Obj.mk (Value.type W.SL.s2766695959194262286x5) Option.none (Data.seq (List.toArray []) (0 : Nat)) (List.toArray []))
noncomputable abbrev o_925 (P : Params) : Obj := (Obj.mk Value.none Option.none (Data.fields (List.toArray [])) (List.toArray []))
noncomputable abbrev s105 : Str := ⟨⟨[nat_lit 77, nat_lit 97, nat_lit 116, nat_lit 114, nat_lit 105, nat_lit 120, nat_lit 71, nat_lit 101, nat_lit 110, nat_lit 101, nat_lit 114, nat_lit 105, nat_lit 99, nat_lit 46, nat_lit 95, nat_lit 95, nat_lit 115, nat_lit 117, nat_lit 98, nat_lit 95, nat_lit 95]⟩⟩
noncomputable abbrev d106 : FuncBody := (FuncBody.stmts [(Stmt.If (Expr.UnaryOp UnaryOp.Not (Expr.Call (Expr.Name s75 (Pos.mk 70 15 70 25)) [(Expr.Name s82 (Pos.mk 70 26 70 31)), (Expr.Name s14 (Pos.mk 70 33 70 46))] [] (Pos.mk 70 15 70 47)) (Pos.mk 70 11 70 47)) [(Stmt.Raise (Option.some (Expr.Call (Expr.Name s94 (Pos.mk 71 18 71 27)) [(Expr.Constant (Const.str s95) 0 (Pos.mk 71 28 71 69))] [] (Pos.mk 71 18 71 70))) Option.none (Pos.mk 71 12 71 70))] [] (Pos.mk 70 8 71 70)), (Stmt.If (Expr.Compare (Expr.Attribute (Expr.Name s45 (Pos.mk 72 11 72 15)) s46 (Pos.mk 72 11 72 22)) [CmpOp.NotEq] [(Expr.Attribute (Expr.Name s82 (Pos.mk 72 26 72 31)) s46 (Pos.mk 72 26 72 38))] (Pos.mk 72 11 72 38)) [(Stmt.Raise (Option.some (Expr.Call (Expr.Name s94 (Pos.mk 73 18 73 27)) [(Expr.Constant (Const.str s96) 0 (Pos.mk 73 28 73 67))] [] (Pos.mk 73 18 73 68))) Option.none (Pos.mk 73 12 73 68))] [] (Pos.mk 72 8 73 68)), (Stmt.If (Expr.Compare (Expr.Call (Expr.Attribute (Expr.Name s45 (Pos.mk 74 11 74 15)) s28 (Pos.mk 74 11 74 19)) [] [] (Pos.mk 74 11 74 21)) [CmpOp.NotEq] [(Expr.Call (Expr.Attribute (Expr.Name s82 (Pos.mk 74 25 74 30)) s28 (Pos.mk 74 25 74 34)) [] [] (Pos.mk 74 25 74 36))] (Pos.mk 74 11 74 36)) [(Stmt.Raise (Option.some (Expr.Call (Expr.Name s51 (Pos.mk 75 18 75 28)) [(Expr.Constant (Const.str s97) 0 (Pos.mk 75 29 75 70))] [] (Pos.mk 75 18 75 71))) Option.none (Pos.mk 75 12 75 71))] [] (Pos.mk 74 8 75 71)), (Stmt.Assign [(Expr.Tuple [(Expr.Name s83 (Pos.mk 76 8 76 9)), (Expr.Name s84 (Pos.mk 76 11 76 12))] 0 (Pos.mk 76 8 76 12))] (Expr.Call (Expr.Attribute (Expr.Name s45 (Pos.mk 76 15 76 19)) s28 (Pos.mk 76 15 76 23)) [] [] (Pos.mk 76 15 76 25)) (Pos.mk 76 8 76 25)), (Stmt.Return (Option.some (Expr.Call (Expr.Attribute (Expr.Name s45 (Pos.mk 77 15 77 19)) s46 (Pos.mk 77 15 77 26)) [(Expr.ListComp (Expr.ListComp (Expr.BinOp (Expr.Subscript (Expr.Name s45 (Pos.mk 77 29 77 33)) (Expr.Tuple [(Expr.Name s87 (Pos.mk 77 34 77 35)), (Expr.Name s88 (Pos.mk 77 37 77 38))] 0 (Pos.mk 77 34 77 38)) (Pos.mk 77 29 77 39)) Operator.Sub (Expr.Subscript (Expr.Name s82 (Pos.mk 77 42 77 47)) (Expr.Tuple [(Expr.Name s87 (Pos.mk 77 48 77 49)), (Expr.Name s88 (Pos.mk 77 51 77 52))] 0 (Pos.mk 77 48 77 52)) (Pos.mk 77 42 77 53)) (Pos.mk 77 29 77 53)) [(Comprehension.mk (Expr.Name s88 (Pos.mk 77 58 77 59)) (Expr.Call (Expr.Name s89 (Pos.mk 77 63 77 68)) [(Expr.Name s84 (Pos.mk 77 69 77 70))] [] (Pos.mk 77 63 77 71)) [] (0 : Int))] d98 (Pos.mk 77 28 77 72)) [(Comprehension.mk (Expr.Name s87 (Pos.mk 77 77 77 78)) (Expr.Call (Expr.Name s89 (Pos.mk 77 82 77 87)) [(Expr.Name s83 (Pos.mk 77 88 77 89))] [] (Pos.mk 77 82 77 90)) [] (0 : Int))] d99 (Pos.mk 77 27 77 91)), (Expr.Constant (Const.bool Bool.false) 0 (Pos.mk 77 93 77 98))] [] (Pos.mk 77 15 77 99))) (Pos.mk 77 8 77 99))])
noncomputable abbrev o_926 (P : Params) : Obj := (Obj.mk Value.none Option.none (Data.func (FuncData.mk s39 s105 (Arguments.mk [] [(Arg.mk s45 Option.none (Pos.mk 69 16 69 20)), (Arg.mk s82 Option.none (Pos.mk 69 22 69 27))] Option.none [] [] Option.none []) d106 d101 (0 : Nat) [] Value.none Value.none Value.none Value.none Option.none Value.none Value.none (0 : Nat))) (List.toArray []))
noncomputable abbrev o_927 (P : Params) : Obj := (Obj.mk (Value.type W.SL.s5856160107412720595x4) Option.none (Data.fields (List.toArray [(Value.str s39 (301 : Nat)), (Value.str s105 (302 : Nat)), (Value.str s1 (303 : Nat)), (Value.int (69 : Int) (0 : Nat)), (Value.int (2 : Int) (0 : Nat)), (Value.int (0 : Int) (0 : Nat)), (Value.int (0 : Int) (0 : Nat)), (Value.int (3 : Int) (0 : Nat)), (Value.ref (109 : Nat)), (Value.bool Bool.true), (Value.int (181 : Int) (0 : Nat)), (Value.ref (110 : Nat)), Value.none, Value.none, Value.none, (Value.ref (111 : Nat)), (Value.int (304 : Int) (0 : Nat)), (Value.int (69 : Int) (0 : Nat)), (Value.str s1 (305 : Nat))])) (List.toArray []))
noncomputable abbrev o_928 (P : Params) : Obj := (Obj.mk (Value.type W.SL.s7174869446012820540x8) Option.none (Data.func (FuncData.mk s39 s105 (Arguments.mk [] [(Arg.mk s45 Option.none (Pos.mk 69 16 69 20)), (Arg.mk s82 Option.none (Pos.mk 69 22 69 27))] Option.none [] [] Option.none []) d106 d101 (3 : Nat) [] Value.none Value.none Value.none (Value.str s23 (194 : Nat)) Option.none (Value.ref (112 : Nat)) Value.none (0 : Nat))) (List.toArray []))
noncomputable abbrev o_929 (P : Params) : Obj := (Obj.mk (Value.type W.SL.s2766695959194262286x5) Option.none (Data.seq (List.toArray []) (0 : Nat)) (List.toArray []))
noncomputable abbrev o_930 (P : Params) : Obj := (Obj.mk Value.none Option.none (Data.fields (List.toArray [])) (List.toArray []))
noncomputable abbrev o_931 (P : Params) : Obj := (Obj.mk (Value.type W.SL.s2766695959194262286x5) Option.none (Data.seq (List.toArray [(Value.str s45 (310 : Nat)), (Value.str s82 (311 : Nat))]) (0 : Nat)) (List.toArray []))
noncomputable abbrev o_932 (P : Params) : Obj := (Obj.mk (Value.type W.SL.s2766695959194262286x5) Option.none (Data.seq (List.toArray []) (0 : Nat)) (List.toArray []))
noncomputable abbrev s107 : Str := ⟨⟨[nat_lit 77, nat_lit 97, nat_lit 116, nat_lit 114, nat_lit 105, nat_lit 120, nat_lit 71, nat_lit 101, nat_lit 110, nat_lit 101, nat_lit 114, nat_lit 105, nat_lit 99, nat_lit 46, nat_lit 95, nat_lit 95, nat_lit 105, nat_lit 115, nat_lit 117, nat_lit 98, nat_lit 95, nat_lit 95]⟩⟩
noncomputable abbrev d108 : FuncBody := (FuncBody.stmts [(Stmt.Return (Option.some (Expr.BinOp (Expr.Name s45 (Pos.mk 80 15 80 19)) Operator.Sub (Expr.Name s82 (Pos.mk 80 22 80 27)) (Pos.mk 80 15 80 27))) (Pos.mk 80 8 80 27))])
noncomputable abbrev o_933 (P : Params) : Obj := (Obj.mk Value.none Option.none (Data.func (FuncData.mk s40 s107 (Arguments.mk [] [(Arg.mk s45 Option.none (Pos.mk 79 17 79 21)), (Arg.mk s82 Option.none (Pos.mk 79 23 79 28))] Option.none [] [] Option.none []) d108 d104 (0 : Nat) [] Value.none Value.none Value.none Value.none Option.none Value.none Value.none (0 : Nat))) (List.toArray []))
noncomputable abbrev o_934 (P : Params) : Obj := (Obj.mk (Value.type W.SL.s5856160107412720595x4) Option.none (Data.fields (List.toArray [(Value.str s40 (307 : Nat)), (Value.str s107 (308 : Nat)), (Value.str s1 (309 : Nat)), (Value.int (79 : Int) (0 : Nat)), (Value.int (2 : Int) (0 : Nat)), (Value.int (0 : Int) (0 : Nat)), (Value.int (0 : Int) (0 : Nat)), (Value.int (3 : Int) (0 : Nat)), (Value.ref (114 : Nat)), (Value.bool Bool.true), (Value.int (181 : Int) (0 : Nat)), (Value.ref (115 : Nat)), Value.none, (Value.ref (116 : Nat)), (Value.ref (117 : Nat)), (Value.ref (118 : Nat)), (Value.int (312 : Int) (0 : Nat)), (Value.int (79 : Int) (0 : Nat)), (Value.str s1 (313 : Nat))])) (List.toArray []))
noncomputable abbrev o_935 (P : Params) : Obj := (Obj.mk (Value.type W.SL.s7174869446012820540x8) Option.none (Data.func (FuncData.mk s40 s107 (Arguments.mk [] [(Arg.mk s45 Option.none (Pos.mk 79 17 79 21)), (Arg.mk s82 Option.none (Pos.mk 79 23 79 28))] Option.none [] [] Option.none []) d108 d104 (3 : Nat) [] Value.none Value.none Value.none (Value.str s23 (194 : Nat)) Option.none (Value.ref (119 : Nat)) Value.none (0 : Nat))) (List.toArray []))
noncomputable abbrev o_936 (P : Params) : Obj := (Obj.mk (Value.type W.SL.s2766695959194262286x5) Option.none (Data.seq (List.toArray []) (0 : Nat)) (List.toArray []))
noncomputable abbrev o_937 (P : Params) : Obj := (Obj.mk Value.none Option.none (Data.fields (List.toArray [])) (List.toArray []))
noncomputable abbrev s109 : Str := ⟨⟨[nat_lit 77, nat_lit 97, nat_lit 116, nat_lit 114, nat_lit 105, nat_lit 120, nat_lit 71, nat_lit 101, nat_lit 110, nat_lit 101, nat_lit 114, nat_lit 105, nat_lit 99, nat_lit 46, nat_lit 95, nat_lit 95, nat_lit 109, nat_lit 97, nat_lit 116, nat_lit 109, nat_lit 117, nat_lit 108, nat_lit 95, nat_lit 95]⟩⟩
noncomputable abbrev s110 : Str := ⟨⟨[nat_lit 67, nat_lit 97, nat_lit 110, nat_lit 32, nat_lit 111, nat_lit 110, nat_lit 108, nat_lit 121, nat_lit 32, nat_lit 109, nat_lit 117, nat_lit 108, nat_lit 116, nat_lit 105, nat_lit 112, nat_lit 108, nat_lit 121, nat_lit 32, nat_lit 109, nat_lit 97, nat_lit 116, nat_lit 114, nat_lit 99, nat_lit 105, nat_lit 101, nat_lit 115, nat_lit 32, nat_lit 119, nat_lit 105, nat_lit 116, nat_lit 104, nat_lit 32, nat_lit 111, nat_lit 116, nat_lit 104, nat_lit 101, nat_lit 114, nat_lit 32, nat_lit 109, nat_lit 97, nat_lit 116, nat_lit 114, nat_lit 105, nat_lit 99, nat_lit 101, nat_lit 115]⟩⟩
noncomputable abbrev s111 : Str := ⟨⟨[nat_lit 110, nat_lit 95]⟩⟩
noncomputable abbrev s112 : Str := ⟨⟨[nat_lit 108]⟩⟩
noncomputable abbrev s113 : Str := ⟨⟨[nat_lit 77, nat_lit 97, nat_lit 116, nat_lit 114, nat_lit 105, nat_lit 99, nat_lit 101, nat_lit 115, nat_lit 32, nat_lit 97, nat_lit 114, nat_lit 101, nat_lit 32, nat_lit 111, nat_lit 102, nat_lit 32, nat_lit 105, nat_lit 110, nat_lit 99, nat_lit 111, nat_lit 109, nat_lit 112, nat_lit 97, nat_lit 116, nat_lit 105, nat_lit 98, nat_lit 108, nat_lit 101, nat_lit 32, nat_lit 100, nat_lit 105, nat_lit 109, nat_lit 101, nat_lit 110, nat_lit 115, nat_lit 105, nat_lit 111, nat_lit 110, nat_lit 115]⟩⟩
noncomputable abbrev s114 : Str := ⟨⟨[nat_lit 115, nat_lit 117, nat_lit 109]⟩⟩
noncomputable abbrev d115 : FuncBody := (FuncBody.stmts [(Stmt.If (Expr.UnaryOp UnaryOp.Not (Expr.Call (Expr.Name s75 (Pos.mk 83 15 83 25)) [(Expr.Name s82 (Pos.mk 83 26 83 31)), (Expr.Name s14 (Pos.mk 83 33 83 46))] [] (Pos.mk 83 15 83 47)) (Pos.mk 83 11 83 47)) [(Stmt.Raise (Option.some (Expr.Call (Expr.Name s94 (Pos.mk 84 18 84 27)) [(Expr.Constant (Const.str s110) 0 (Pos.mk 84 28 84 76))] [] (Pos.mk 84 18 84 77))) Option.none (Pos.mk 84 12 84 77))] [] (Pos.mk 83 8 84 77)), (Stmt.If (Expr.Compare (Expr.Attribute (Expr.Name s45 (Pos.mk 85 11 85 15)) s46 (Pos.mk 85 11 85 22)) [CmpOp.NotEq] [(Expr.Attribute (Expr.Name s82 (Pos.mk 85 26 85 31)) s46 (Pos.mk 85 26 85 38))] (Pos.mk 85 11 85 38)) [(Stmt.Raise (Option.some (Expr.Call (Expr.Name s94 (Pos.mk 86 18 86 27)) [(Expr.Constant (Const.str s96) 0 (Pos.mk 86 28 86 67))] [] (Pos.mk 86 18 86 68))) Option.none (Pos.mk 86 12 86 68))] [] (Pos.mk 85 8 86 68)), (Stmt.Assign [(Expr.Tuple [(Expr.Name s83 (Pos.mk 87 8 87 9)), (Expr.Name s84 (Pos.mk 87 11 87 12))] 0 (Pos.mk 87 8 87 12))] (Expr.Call (Expr.Attribute (Expr.Name s45 (Pos.mk 87 15 87 19)) s28 (Pos.mk 87 15 87 23)) [] [] (Pos.mk 87 15 87 25)) (Pos.mk 87 8 87 25)), (Stmt.Assign [(Expr.Tuple [(Expr.Name s111 (Pos.mk 88 8 88 10)), (Expr.Name s112 (Pos.mk 88 12 88 13))] 0 (Pos.mk 88 8 88 13))] (Expr.Call (Expr.Attribute (Expr.Name s82 (Pos.mk 88 16 88 21)) s28 (Pos.mk 88 16 88 25)) [] [] (Pos.mk 88 16 88 27)) (Pos.mk 88 8 88 27)), (Stmt.If (Expr.UnaryOp UnaryOp.Not (Expr.Compare (Expr.Name s84 (Pos.mk 89 15 89 16)) [CmpOp.Eq] [(Expr.Name s111 (Pos.mk 89 20 89 22))] (Pos.mk 89 15 89 22)) (Pos.mk 89 11 89 22)) [(Stmt.Raise (Option.some (Expr.Call (Expr.Name s51 (Pos.mk 90 18 90 28)) [(Expr.Constant (Const.str s113) 0 (Pos.mk 90 29 90 70))] [] (Pos.mk 90 18 90 71))) Option.none (Pos.mk 90 12 90 71))] [] (Pos.mk 89 8 90 71)), (Stmt.Return (Option.some (Expr.Call (Expr.Attribute (Expr.Name s45 (Pos.mk 91 15 91 19)) s46 (Pos.mk 91 15 91 26)) [(Expr.ListComp (Expr.ListComp (Expr.Call (Expr.Name s114 (Pos.mk 91 29 91 32)) [(Expr.GeneratorExp (Expr.BinOp (Expr.Subscript (Expr.Name s45 (Pos.mk 91 34 91 38)) (Expr.Tuple [(Expr.Name s87 (Pos.mk 91 39 91 40)), (Expr.Name s20 (Pos.mk 91 42 91 43))] 0 (Pos.mk 91 39 91 43)) (Pos.mk 91 34 91 44)) Operator.Mult (Expr.Subscript (Expr.Name s82 (Pos.mk 91 47 91 52)) (Expr.Tuple [(Expr.Name s20 (Pos.mk 91 53 91 54)), (Expr.Name s88 (Pos.mk 91 56 91 57))] 0 (Pos.mk 91 53 91 57)) (Pos.mk 91 47 91 58)) (Pos.mk 91 34 91 58)) [(Comprehension.mk (Expr.Name s20 (Pos.mk 91 63 91 64)) (Expr.Call (Expr.Name s89 (Pos.mk 91 68 91 73)) [(Expr.Name s84 (Pos.mk 91 74 91 75))] [] (Pos.mk 91 68 91 76)) [] (0 : Int))] (Scope.mk ScopeKind.function [(Prod.mk s58 NameKind.local), (Prod.mk s20 NameKind.local), (Prod.mk s87 NameKind.free), (Prod.mk s88 NameKind.free), (Prod.mk s82 NameKind.free), (Prod.mk s45 NameKind.free)] Bool.true Bool.false []) (Pos.mk 91 33 91 77))] [] (Pos.mk 91 29 91 78)) [(Comprehension.mk (Expr.Name s88 (Pos.mk 91 83 91 84)) (Expr.Call (Expr.Name s89 (Pos.mk 91 88 91 93)) [(Expr.Name s112 (Pos.mk 91 94 91 95))] [] (Pos.mk 91 88 91 96)) [] (0 : Int))] (Scope.mk ScopeKind.function [(Prod.mk s58 NameKind.local), (Prod.mk s88 NameKind.cell), (Prod.mk s114 NameKind.globalImplicit), (Prod.mk s89 NameKind.globalImplicit), (Prod.mk s87 NameKind.free), (Prod.mk s84 NameKind.free), (Prod.mk s82 NameKind.free), (Prod.mk s45 NameKind.free)] Bool.false Bool.false []) (Pos.mk 91 28 91 97)) [(Comprehension.mk (Expr.Name s87 (Pos.mk 91 102 91 103)) (Expr.Call (Expr.Name s89 (Pos.mk 91 107 91 112)) [(Expr.Name s83 (Pos.mk 91 113 91 114))] [] (Pos.mk 91 107 91 115)) [] (0 : Int))] (Scope.mk ScopeKind.function [(Prod.mk s58 NameKind.local), (Prod.mk s87 NameKind.cell), (Prod.mk s89 NameKind.globalImplicit), (Prod.mk s112 NameKind.free), (Prod.mk s84 NameKind.free), (Prod.mk s82 NameKind.free), (Prod.mk s45 NameKind.free)] Bool.false Bool.false []) (Pos.mk 91 27 91 116))] [] (Pos.mk 91 15 91 117))) (Pos.mk 91 8 91 117))])
noncomputable abbrev o_938 (P : Params) : Obj := (Obj.mk Value.none Option.none (Data.func (FuncData.mk s41 s109 (Arguments.mk [] [(Arg.mk s45 Option.none (Pos.mk 82 19 82 23)), (Arg.mk s82 Option.none (Pos.mk 82 25 82 30))] Option.none [] [] Option.none []) d115 (Scope.mk ScopeKind.function [(Prod.mk s45 NameKind.cell), (Prod.mk s82 NameKind.cell), (Prod.mk s83 NameKind.local), (Prod.mk s84 NameKind.cell), (Prod.mk s111 NameKind.local), (Prod.mk s112 NameKind.cell), (Prod.mk s75 NameKind.globalImplicit), (Prod.mk s14 NameKind.globalImplicit), (Prod.mk s94 NameKind.globalImplicit), (Prod.mk s51 NameKind.globalImplicit), (Prod.mk s89 NameKind.globalImplicit)] Bool.false Bool.false [(Prod.mk s60 (Const.str s45)), (Prod.mk s60 (Const.str s82)), (Prod.mk s60 (Const.str s83)), (Prod.mk s60 (Const.str s84)), (Prod.mk s60 (Const.str s111)), (Prod.mk s60 (Const.str s112)), (Prod.mk s60 (Const.str s87)), (Prod.mk s60 (Const.str s88))]) (0 : Nat) [] Value.none Value.none Value.none Value.none Option.none Value.none Value.none (0 : Nat))) (List.toArray []))
noncomputable abbrev o_939 (P : Params) : Obj := (Obj.mk (Value.type W.SL.s5856160107412720595x4) Option.none (Data.fields (List.toArray [(Value.str s41 (315 : Nat)), (Value.str s109 (316 : Nat)), (Value.str s1 (317 : Nat)), (Value.int (82 : Int) (0 : Nat)), (Value.int (2 : Int) (0 : Nat)), (Value.int (0 : Int) (0 : Nat)), (Value.int (0 : Int) (0 : Nat)), (Value.int (3 : Int) (0 : Nat)), (Value.ref (121 : Nat)), (Value.bool Bool.true), (Value.int (181 : Int) (0 : Nat)), (Value.ref (122 : Nat)), Value.none, Value.none, Value.none, (Value.ref (123 : Nat)), (Value.int (318 : Int) (0 : Nat)), (Value.int (82 : Int) (0 : Nat)), (Value.str s1 (319 : Nat))])) (List.toArray []))
noncomputable abbrev o_940 (P : Params) : Obj := (Obj.mk (Value.type W.SL.s7174869446012820540x8) Option.none (Data.func (FuncData.mk s41 s109 (Arguments.mk [] [(Arg.mk s45 Option.none (Pos.mk 82 19 82 23)), (Arg.mk s82 Option.none (Pos.mk 82 25 82 30))] Option.none [] [] Option.none []) d115 (Scope.mk ScopeKind.function [(Prod.mk s45 NameKind.cell), (Prod.mk s82 NameKind.cell), (Prod.mk s83 NameKind.local), (Prod.mk s84 NameKind.cell), (Prod.mk s111 NameKind.local), (Prod.mk s112 NameKind.cell), (Prod.mk s75 NameKind.globalImplicit), (Prod.mk s14 NameKind.globalImplicit), (Prod.mk s94 NameKind.globalImplicit), (Prod.mk s51 NameKind.globalImplicit), (Prod.mk s89 NameKind.globalImplicit)] Bool.false Bool.false [(Prod.mk s60 (Const.str s45)), (Prod.mk s60 (Const.str s82)), (Prod.mk s60 (Const.str s83)), (Prod.mk s60 (Const.str s84)), (Prod.mk s60 (Const.str s111)), (Prod.mk s60 (Const.str s112)), (Prod.mk s60 (Const.str s87)), (Prod.mk s60 (Const.str s88))]) (3 : Nat) [] Value.none Value.none Value.none (Value.str s23 (194 : Nat)) Option.none (Value.ref (124 : Nat)) Value.none (0 : Nat))) (List.toArray []))
noncomputable abbrev o_941 (P : Params) : Obj := (Obj.mk (Value.type W.SL.s2766695959194262286x5) Option.none (Data.seq (List.toArray []) (0 : Nat)) (List.toArray []))
noncomputable abbrev o_942 (P : Params) : Obj := (Obj.mk Value.none Option.none (Data.fields (List.toArray [])) (List.toArray []))
noncomputable abbrev o_943 (P : Params) : Obj := (Obj.mk (Value.type W.SL.s2766695959194262286x5) Option.none (Data.seq (List.toArray [(Value.str s45 (324 : Nat)), (Value.str s82 (325 : Nat))]) (0 : Nat)) (List.toArray []))
noncomputable abbrev o_944 (P : Params) : Obj := (Obj.mk (Value.type W.SL.s2766695959194262286x5) Option.none (Data.seq (List.toArray []) (0 : Nat)) (List.toArray []))
noncomputable abbrev s116 : Str := ⟨⟨[nat_lit 77, nat_lit 97, nat_lit 116, nat_lit 114, nat_lit 105, nat_lit 120, nat_lit 71, nat_lit 101, nat_lit 110, nat_lit 101, nat_lit 114, nat_lit 105, nat_lit 99, nat_lit 46, nat_lit 115, nat_lit 99, nat_lit 97, nat_lit 108, nat_lit 101]⟩⟩
noncomputable abbrev d117 : Pos := (Pos.mk 94 8 94 16)
noncomputable abbrev d118 : FuncBody := (FuncBody.stmts [(Stmt.Expr (Expr.Call (Expr.Name s13 (Pos.mk 94 8 94 13)) [(Expr.Constant (Const.int (2 : Int)) 0 (Pos.mk 94 14 94 15))] [] d117) d117)])
noncomputable abbrev d119 : Scope := (Scope.mk ScopeKind.function [(Prod.mk s45 NameKind.local), (Prod.mk s82 NameKind.local), (Prod.mk s13 NameKind.globalImplicit)] Bool.false Bool.false [])
noncomputable abbrev o_945 (P : Params) : Obj := (Obj.mk Value.none Option.none (Data.func (FuncData.mk s42 s116 (Arguments.mk [] [(Arg.mk s45 Option.none (Pos.mk 93 14 93 18)), (Arg.mk s82 Option.none (Pos.mk 93 20 93 25))] Option.none [] [] Option.none []) d118 d119 (0 : Nat) [] Value.none Value.none Value.none Value.none Option.none Value.none Value.none (0 : Nat))) (List.toArray []))
noncomputable abbrev o_946 (P : Params) : Obj := (Obj.mk (Value.type W.SL.s5856160107412720595x4) Option.none (Data.fields (List.toArray [(Value.str s42 (321 : Nat)), (Value.str s116 (322 : Nat)), (Value.str s1 (323 : Nat)), (Value.int (93 : Int) (0 : Nat)), (Value.int (2 : Int) (0 : Nat)), (Value.int (0 : Int) (0 : Nat)), (Value.int (0 : Int) (0 : Nat)), (Value.int (3 : Int) (0 : Nat)), (Value.ref (126 : Nat)), (Value.bool Bool.true), (Value.int (181 : Int) (0 : Nat)), (Value.ref (127 : Nat)), Value.none, (Value.ref (128 : Nat)), (Value.ref (129 : Nat)), (Value.ref (130 : Nat)), (Value.int (326 : Int) (0 : Nat)), (Value.int (93 : Int) (0 : Nat)), (Value.str s1 (327 : Nat))])) (List.toArray []))
noncomputable abbrev o_947 (P : Params) : Obj := (Obj.mk (Value.type W.SL.s7174869446012820540x8) Option.none (Data.func (FuncData.mk s42 s116 (Arguments.mk [] [(Arg.mk s45 Option.none (Pos.mk 93 14 93 18)), (Arg.mk s82 Option.none (Pos.mk 93 20 93 25))] Option.none [] [] Option.none []) d118 d119 (3 : Nat) [] Value.none Value.none Value.none (Value.str s23 (194 : Nat)) Option.none (Value.ref (131 : Nat)) Value.none (0 : Nat))) (List.toArray []))
noncomputable abbrev o_948 (P : Params) : Obj := (Obj.mk (Value.type W.SL.s2766695959194262286x5) Option.none (Data.seq (List.toArray []) (0 : Nat)) (List.toArray []))
noncomputable abbrev o_949 (P : Params) : Obj := (Obj.mk Value.none Option.none (Data.fields (List.toArray [])) (List.toArray []))
noncomputable abbrev o_950 (P : Params) : Obj := (Obj.mk (Value.type W.SL.s2766695959194262286x5) Option.none (Data.seq (List.toArray [(Value.str s45 (332 : Nat)), (Value.str s82 (333 : Nat))]) (0 : Nat)) (List.toArray []))
noncomputable abbrev o_951 (P : Params) : Obj := (Obj.mk (Value.type W.SL.s2766695959194262286x5) Option.none (Data.seq (List.toArray []) (0 : Nat)) (List.toArray []))
noncomputable abbrev s120 : Str := ⟨⟨[nat_lit 77, nat_lit 97, nat_lit 116, nat_lit 114, nat_lit 105, nat_lit 120, nat_lit 71, nat_lit 101, nat_lit 110, nat_lit 101, nat_lit 114, nat_lit 105, nat_lit 99, nat_lit 46, nat_lit 100, nat_lit 111, nat_lit 116]⟩⟩
noncomputable abbrev d121 : Pos := (Pos.mk 97 8 97 16)
noncomputable abbrev d122 : FuncBody := (FuncBody.stmts [(Stmt.Expr (Expr.Call (Expr.Name s13 (Pos.mk 97 8 97 13)) [(Expr.Constant (Const.int (3 : Int)) 0 (Pos.mk 97 14 97 15))] [] d121) d121)])
noncomputable abbrev o_952 (P : Params) : Obj := (Obj.mk Value.none Option.none (Data.func (FuncData.mk s43 s120 (Arguments.mk [] [(Arg.mk s45 Option.none (Pos.mk 96 12 96 16)), (Arg.mk s82 Option.none (Pos.mk 96 18 96 23))] Option.none [] [] Option.none []) d122 d119 (0 : Nat) [] Value.none Value.none Value.none Value.none Option.none Value.none Value.none (0 : Nat))) (List.toArray []))
noncomputable abbrev o_953 (P : Params) : Obj := (Obj.mk (Value.type W.SL.s5856160107412720595x4) Option.none (Data.fields (List.toArray [(Value.str s43 (329 : Nat)), (Value.str s120 (330 : Nat)), (Value.str s1 (331 : Nat)), (Value.int (96 : Int) (0 : Nat)), (Value.int (2 : Int) (0 : Nat)), (Value.int (0 : Int) (0 : Nat)), (Value.int (0 : Int) (0 : Nat)), (Value.int (3 : Int) (0 : Nat)), (Value.ref (133 : Nat)), (Value.bool Bool.true), (Value.int (181 : Int) (0 : Nat)), (Value.ref (134 : Nat)), Value.none, (Value.ref (135 : Nat)), (Value.ref (136 : Nat)), (Value.ref (137 : Nat)), (Value.int (334 : Int) (0 : Nat)), (Value.int (96 : Int) (0 : Nat)), (Value.str s1 (335 : Nat))])) (List.toArray []))
noncomputable abbrev o_954 (P : Params) : Obj := (Obj.mk (Value.type W.SL.s7174869446012820540x8) Option.none (Data.func (FuncData.mk s43 s120 (Arguments.mk [] [(Arg.mk s45 Option.none (Pos.mk 96 12 96 16)), (Arg.mk s82 Option.none (Pos.mk 96 18 96 23))] Option.none [] [] Option.none []) d122 d119 (3 : Nat) [] Value.none Value.none Value.none (Value.str s23 (194 : Nat)) Option.none (Value.ref (138 : Nat)) Value.none (0 : Nat))) (List.toArray []))
noncomputable abbrev o_955 (P : Params) : Obj := (Obj.mk (Value.type W.SL.s2766695959194262286x5) Option.none (Data.seq (List.toArray [(Value.str s49 (337 : Nat)), (Value.str s50 (338 : Nat)), (Value.str s46 (339 : Nat))]) (0 : Nat)) (List.toArray []))
noncomputable abbrev s123 : Str := ⟨⟨[nat_lit 95, nat_lit 95, nat_lit 100, nat_lit 105, nat_lit 99, nat_lit 116, nat_lit 95, nat_lit 95]⟩⟩
noncomputable abbrev s124 : Str := ⟨⟨[nat_lit 95, nat_lit 95, nat_lit 119, nat_lit 101, nat_lit 97, nat_lit 107, nat_lit 114, nat_lit 101, nat_lit 102, nat_lit 95, nat_lit 95]⟩⟩
noncomputable abbrev s125 : Str := ⟨⟨[nat_lit 95, nat_lit 95, nat_lit 104, nat_lit 97, nat_lit 115, nat_lit 104, nat_lit 95, nat_lit 95]⟩⟩
noncomputable abbrev o_956 (P : Params) : Obj := (Obj.mk (Value.type W.SL.s14018661285674007319x4) Option.none (Data.dict (List.toArray [(DictEntry.mk (PyData.keyHash P s22) (Value.str s22 (203 : Nat)) (Value.str s23 (194 : Nat))), (DictEntry.mk (PyData.keyHash P s25) (Value.str s25 (207 : Nat)) (Value.int (5 : Int) (206 : Nat))), (DictEntry.mk (PyData.keyHash P s26) (Value.str s26 (217 : Nat)) (Value.ref (36 : Nat))), (DictEntry.mk (PyData.keyHash P s27) (Value.str s27 (223 : Nat)) (Value.ref (41 : Nat))), (DictEntry.mk (PyData.keyHash P s28) (Value.str s28 (230 : Nat)) (Value.ref (48 : Nat))), (DictEntry.mk (PyData.keyHash P s29) (Value.str s29 (237 : Nat)) (Value.ref (55 : Nat))), (DictEntry.mk (PyData.keyHash P s30) (Value.str s30 (244 : Nat)) (Value.ref (62 : Nat))), (DictEntry.mk (PyData.keyHash P s31) (Value.str s31 (246 : Nat)) (Value.ref (63 : Nat))), (DictEntry.mk (PyData.keyHash P s32) (Value.str s32 (253 : Nat)) (Value.ref (70 : Nat))), (DictEntry.mk (PyData.keyHash P s33) (Value.str s33 (261 : Nat)) (Value.ref (77 : Nat))), (DictEntry.mk (PyData.keyHash P s34) (Value.str s34 (268 : Nat)) (Value.ref (84 : Nat))), (DictEntry.mk (PyData.keyHash P s35) (Value.str s35 (280 : Nat)) (Value.ref (91 : Nat))), (DictEntry.mk (PyData.keyHash P s36) (Value.str s36 (286 : Nat)) (Value.ref (96 : Nat))), (DictEntry.mk (PyData.keyHash P s37) (Value.str s37 (292 : Nat)) (Value.ref (101 : Nat))), (DictEntry.mk (PyData.keyHash P s38) (Value.str s38 (300 : Nat)) (Value.ref (108 : Nat))), (DictEntry.mk (PyData.keyHash P s39) (Value.str s39 (306 : Nat)) (Value.ref (113 : Nat))), (DictEntry.mk (PyData.keyHash P s40) (Value.str s40 (314 : Nat)) (Value.ref (120 : Nat))), (DictEntry.mk (PyData.keyHash P s41) (Value.str s41 (320 : Nat)) (Value.ref (125 : Nat))), (DictEntry.mk (PyData.keyHash P s42) (Value.str s42 (328 : Nat)) (Value.ref (132 : Nat))), (DictEntry.mk (PyData.keyHash P s43) (Value.str s43 (336 : Nat)) (Value.ref (139 : Nat))), (DictEntry.mk (PyData.keyHash P s44) (Value.str s44 (340 : Nat)) (Value.ref (140 : Nat))), (DictEntry.mk (PyData.keyHash P s123) (Value.str s123 (342 : Nat)) (Value.ref (143 : Nat))), (DictEntry.mk (PyData.keyHash P s124) (Value.str s124 (344 : Nat)) (Value.ref (144 : Nat))), (DictEntry.mk (PyData.keyHash P s5) (Value.str s5 (345 : Nat)) Value.none), (DictEntry.mk (PyData.keyHash P s125) (Value.str s125 (346 : Nat)) Value.none)]) (5 : Nat)) (List.toArray []))
noncomputable abbrev o_957 (P : Params) : Obj := (Obj.mk (Value.type W.SL.s17162191345867700912x4) Option.none (Data.cls (ClassData.mk s14 [(Value.type W.SL.s2742458400755230247x6)] [(Value.ref (142 : Nat)), (Value.type W.SL.s2742458400755230247x6)] (141 : Nat) s14 Bool.true [] [] Bool.false Option.none Bool.false)) (List.toArray [Option.none, Option.none, (Option.some (Value.str s14 (196 : Nat))), (Option.some (Value.str s14 (204 : Nat))), (Option.some (Value.builtin W.SL.s11443829558043349243x14)), (Option.some (Value.bool Bool.true))]))
noncomputable abbrev o_958 (P : Params) : Obj := (Obj.mk (Value.type W.SL.s14755015743595814543x17) Option.none (Data.fields (List.toArray [(Value.str s123 (341 : Nat)), (Value.ref (142 : Nat)), (Value.builtin W.SL.s6511155373996960695x17), (Value.builtin W.SL.s12411053484034534018x21)])) (List.toArray []))
noncomputable abbrev o_959 (P : Params) : Obj := (Obj.mk (Value.type W.SL.s14755015743595814543x17) Option.none (Data.fields (List.toArray [(Value.str s124 (343 : Nat)), (Value.ref (142 : Nat)), (Value.builtin W.SL.s10220274742760427390x26), Value.none])) (List.toArray []))
noncomputable abbrev o_960 (P : Params) : Obj := (Obj.mk (Value.type W.SL.s4290257624100764138x5) Option.none (Data.fields (List.toArray [(Value.ref (142 : Nat)), (Value.ref (142 : Nat)), (Value.ref (142 : Nat))])) (List.toArray []))
noncomputable abbrev o_961 (P : Params) : Obj := (Obj.mk (Value.type W.SL.s11030030927630378310x26) Option.none (Data.fields (List.toArray [(Value.builtin W.SL.s4860613602091757760x24), (Value.ref (142 : Nat))])) (List.toArray []))
noncomputable abbrev o_1038 (P : Params) : Obj := (Obj.mk (Value.type W.SL.s2766695959194262286x5) Option.none (Data.seq (List.toArray []) (0 : Nat)) (List.toArray []))
noncomputable abbrev o_1039 (P : Params) : Obj := (Obj.mk (Value.type W.SL.s11030030927630378310x26) Option.none (Data.fields (List.toArray [(Value.builtin W.SL.s10062305145149207511x16), (Value.type W.SL.s17162191345867700912x4)])) (List.toArray []))
noncomputable abbrev s126 : Str := ⟨⟨[nat_lit 109, nat_lit 97, nat_lit 116, nat_lit 114, nat_lit 105, nat_lit 120, nat_lit 95, nat_lit 111, nat_lit 102]⟩⟩
noncomputable abbrev s127 : Str := ⟨⟨[nat_lit 95, nat_lit 95, nat_lit 99, nat_lit 97, nat_lit 108, nat_lit 108, nat_lit 95, nat_lit 95]⟩⟩
noncomputable abbrev o_1040 (P : Params) : Obj := (Obj.mk (Value.type W.SL.s14018661285674007319x4) Option.none (Data.dict (List.toArray [(DictEntry.mk (PyData.keyHash P s22) (Value.str s22 (356 : Nat)) (Value.str s23 (194 : Nat))), (DictEntry.mk (PyData.keyHash P s24) (Value.str s24 (358 : Nat)) (Value.str s15 (357 : Nat))), (DictEntry.mk (PyData.keyHash P s25) (Value.str s25 (360 : Nat)) (Value.int (98 : Int) (359 : Nat))), (DictEntry.mk (PyData.keyHash P s26) (Value.str s26 (368 : Nat)) (Value.ref (160 : Nat))), (DictEntry.mk (PyData.keyHash P s126) (Value.str s126 (377 : Nat)) (Value.ref (168 : Nat))), (DictEntry.mk (PyData.keyHash P s127) (Value.str s127 (388 : Nat)) (Value.ref (176 : Nat))), (DictEntry.mk (PyData.keyHash P s44) (Value.str s44 (390 : Nat)) (Value.ref (177 : Nat)))]) (7 : Nat)) (List.toArray []))
noncomputable abbrev o_1041 (P : Params) : Obj := (Obj.mk (Value.type W.SL.s2766695959194262286x5) Option.none (Data.seq (List.toArray []) (0 : Nat)) (List.toArray []))
noncomputable abbrev o_1042 (P : Params) : Obj := (Obj.mk Value.none Option.none (Data.fields (List.toArray [(Value.int (100 : Int) (0 : Nat)), (Value.int (4 : Int) (0 : Nat)), (Value.ref (159 : Nat)), (Value.int (103 : Int) (0 : Nat)), (Value.int (4 : Int) (0 : Nat)), (Value.ref (167 : Nat)), (Value.int (106 : Int) (0 : Nat)), (Value.int (4 : Int) (0 : Nat)), (Value.ref (175 : Nat))])) (List.toArray []))
noncomputable abbrev o_1043 (P : Params) : Obj := (Obj.mk (Value.type W.SL.s5856160107412720595x4) Option.none (Data.fields (List.toArray [(Value.str s15 (351 : Nat)), (Value.str s15 (352 : Nat)), (Value.str s1 (353 : Nat)), (Value.int (98 : Int) (0 : Nat)), (Value.int (0 : Int) (0 : Nat)), (Value.int (0 : Int) (0 : Nat)), (Value.int (0 : Int) (0 : Nat)), (Value.int (0 : Int) (0 : Nat)), (Value.ref (150 : Nat)), (Value.bool Bool.false), (Value.int (181 : Int) (0 : Nat)), (Value.ref (151 : Nat)), Value.none, Value.none, Value.none, Value.none, (Value.int (354 : Int) (0 : Nat)), (Value.int (98 : Int) (0 : Nat)), (Value.str s1 (355 : Nat))])) (List.toArray []))
noncomputable abbrev o_1044 (P : Params) : Obj := (Obj.mk (Value.type W.SL.s658472552662922059x5) Option.none Data.plain (List.toArray [(Option.some (Value.ref (152 : Nat))), (Option.some (Value.ref (3 : Nat))), (Option.some (Value.ref (149 : Nat))), Option.none, (Option.some (Value.str s23 (194 : Nat))), Option.none, (Option.some (Value.ref (0 : Nat)))]))
noncomputable abbrev o_1045 (P : Params) : Obj := (Obj.mk (Value.type W.SL.s2766695959194262286x5) Option.none (Data.seq (List.toArray []) (0 : Nat)) (List.toArray []))
noncomputable abbrev o_1046 (P : Params) : Obj := (Obj.mk Value.none Option.none (Data.fields (List.toArray [])) (List.toArray []))
noncomputable abbrev s128 : Str := ⟨⟨[nat_lit 114, nat_lit 105, nat_lit 110, nat_lit 103]⟩⟩
noncomputable abbrev o_1047 (P : Params) : Obj := (Obj.mk (Value.type W.SL.s2766695959194262286x5) Option.none (Data.seq (List.toArray [(Value.str s45 (364 : Nat)), (Value.str s128 (365 : Nat))]) (0 : Nat)) (List.toArray []))
noncomputable abbrev o_1048 (P : Params) : Obj := (Obj.mk (Value.type W.SL.s2766695959194262286x5) Option.none (Data.seq (List.toArray []) (0 : Nat)) (List.toArray []))
noncomputable abbrev s129 : Str := ⟨⟨[nat_lit 77, nat_lit 111, nat_lit 100, nat_lit 117, nat_lit 108, nat_lit 101, nat_lit 71, nat_lit 101, nat_lit 110, nat_lit 101, nat_lit 114, nat_lit 105, nat_lit 99, nat_lit 46, nat_lit 95, nat_lit 95, nat_lit 105, nat_lit 110, nat_lit 105, nat_lit 116, nat_lit 95, nat_lit 95]⟩⟩
noncomputable abbrev d130 : FuncBody := (FuncBody.stmts [(Stmt.Assign [(Expr.Attribute (Expr.Name s45 (Pos.mk 101 8 101 12)) s128 (Pos.mk 101 8 101 17))] (Expr.Name s128 (Pos.mk 101 20 101 24)) (Pos.mk 101 8 101 24))])
noncomputable abbrev o_1049 (P : Params) : Obj := (Obj.mk Value.none Option.none (Data.func (FuncData.mk s26 s129 (Arguments.mk [] [(Arg.mk s45 Option.none (Pos.mk 100 17 100 21)), (Arg.mk s128 Option.none (Pos.mk 100 23 100 27))] Option.none [] [] Option.none []) d130 (Scope.mk ScopeKind.function [(Prod.mk s45 NameKind.local), (Prod.mk s128 NameKind.local)] Bool.false Bool.false []) (0 : Nat) [] Value.none Value.none Value.none Value.none Option.none Value.none Value.none (0 : Nat))) (List.toArray []))
noncomputable abbrev o_1050 (P : Params) : Obj := (Obj.mk (Value.type W.SL.s5856160107412720595x4) Option.none (Data.fields (List.toArray [(Value.str s26 (361 : Nat)), (Value.str s129 (362 : Nat)), (Value.str s1 (363 : Nat)), (Value.int (100 : Int) (0 : Nat)), (Value.int (2 : Int) (0 : Nat)), (Value.int (0 : Int) (0 : Nat)), (Value.int (0 : Int) (0 : Nat)), (Value.int (3 : Int) (0 : Nat)), (Value.ref (154 : Nat)), (Value.bool Bool.true), (Value.int (181 : Int) (0 : Nat)), (Value.ref (155 : Nat)), Value.none, (Value.ref (156 : Nat)), (Value.ref (157 : Nat)), (Value.ref (158 : Nat)), (Value.int (366 : Int) (0 : Nat)), (Value.int (100 : Int) (0 : Nat)), (Value.str s1 (367 : Nat))])) (List.toArray []))
noncomputable abbrev o_1051 (P : Params) : Obj := (Obj.mk (Value.type W.SL.s7174869446012820540x8) Option.none (Data.func (FuncData.mk s26 s129 (Arguments.mk [] [(Arg.mk s45 Option.none (Pos.mk 100 17 100 21)), (Arg.mk s128 Option.none (Pos.mk 100 23 100 27))] Option.none [] [] Option.none []) d130 (Scope.mk ScopeKind.function [(Prod.mk s45 NameKind.local), (Prod.mk s128 NameKind.local)] Bool.false Bool.false []) (3 : Nat) [] Value.none Value.none Value.none (Value.str s23 (194 : Nat)) Option.none (Value.ref (159 : Nat)) Value.none (0 : Nat))) (List.toArray []))
noncomputable abbrev o_1052 (P : Params) : Obj := (Obj.mk (Value.type W.SL.s2766695959194262286x5) Option.none (Data.seq (List.toArray [(Value.bool Bool.false)]) (0 : Nat)) (List.toArray []))
noncomputable abbrev o_1053 (P : Params) : Obj := (Obj.mk (Value.type W.SL.s2766695959194262286x5) Option.none (Data.seq (List.toArray []) (0 : Nat)) (List.toArray []))
noncomputable abbrev o_1054 (P : Params) : Obj := (Obj.mk Value.none Option.none (Data.fields (List.toArray [])) (List.toArray []))
noncomputable abbrev s131 : Str := ⟨⟨[nat_lit 100, nat_lit 97, nat_lit 116, nat_lit 97]⟩⟩
noncomputable abbrev o_1055 (P : Params) : Obj := (Obj.mk (Value.type W.SL.s2766695959194262286x5) Option.none (Data.seq (List.toArray [(Value.str s45 (372 : Nat)), (Value.str s131 (373 : Nat)), (Value.str s29 (374 : Nat))]) (0 : Nat)) (List.toArray []))
noncomputable abbrev o_1056 (P : Params) : Obj := (Obj.mk (Value.type W.SL.s2766695959194262286x5) Option.none (Data.seq (List.toArray []) (0 : Nat)) (List.toArray []))
noncomputable abbrev s132 : Str := ⟨⟨[nat_lit 77, nat_lit 111, nat_lit 100, nat_lit 117, nat_lit 108, nat_lit 101, nat_lit 71, nat_lit 101, nat_lit 110, nat_lit 101, nat_lit 114, nat_lit 105, nat_lit 99, nat_lit 46, nat_lit 109, nat_lit 97, nat_lit 116, nat_lit 114, nat_lit 105, nat_lit 120, nat_lit 95, nat_lit 111, nat_lit 102]⟩⟩
noncomputable abbrev d133 : FuncBody := (FuncBody.stmts [(Stmt.Return (Option.some (Expr.Call (Expr.Name s14 (Pos.mk 104 15 104 28)) [(Expr.Name s45 (Pos.mk 104 29 104 33)), (Expr.Name s131 (Pos.mk 104 35 104 39))] [(Keyword.mk (Option.some s29) (Expr.Name s29 (Pos.mk 104 51 104 60)) (Pos.mk 104 41 104 60))] (Pos.mk 104 15 104 61))) (Pos.mk 104 8 104 61))])
noncomputable abbrev o_1057 (P : Params) : Obj := (Obj.mk Value.none Option.none (Data.func (FuncData.mk s126 s132 (Arguments.mk [] [(Arg.mk s45 Option.none (Pos.mk 103 18 103 22)), (Arg.mk s131 Option.none (Pos.mk 103 24 103 28)), (Arg.mk s29 Option.none (Pos.mk 103 30 103 39))] Option.none [] [] Option.none [(Expr.Constant (Const.bool Bool.false) 0 (Pos.mk 103 40 103 45))]) d133 (Scope.mk ScopeKind.function [(Prod.mk s45 NameKind.local), (Prod.mk s131 NameKind.local), (Prod.mk s29 NameKind.local), (Prod.mk s14 NameKind.globalImplicit)] Bool.false Bool.false []) (0 : Nat) [] Value.none Value.none Value.none Value.none Option.none Value.none Value.none (0 : Nat))) (List.toArray []))
noncomputable abbrev o_1058 (P : Params) : Obj := (Obj.mk (Value.type W.SL.s5856160107412720595x4) Option.none (Data.fields (List.toArray [(Value.str s126 (369 : Nat)), (Value.str s132 (370 : Nat)), (Value.str s1 (371 : Nat)), (Value.int (103 : Int) (0 : Nat)), (Value.int (3 : Int) (0 : Nat)), (Value.int (0 : Int) (0 : Nat)), (Value.int (0 : Int) (0 : Nat)), (Value.int (3 : Int) (0 : Nat)), (Value.ref (162 : Nat)), (Value.bool Bool.true), (Value.int (181 : Int) (0 : Nat)), (Value.ref (163 : Nat)), Value.none, (Value.ref (164 : Nat)), (Value.ref (165 : Nat)), (Value.ref (166 : Nat)), (Value.int (375 : Int) (0 : Nat)), (Value.int (103 : Int) (0 : Nat)), (Value.str s1 (376 : Nat))])) (List.toArray []))
noncomputable abbrev o_1059 (P : Params) : Obj := (Obj.mk (Value.type W.SL.s7174869446012820540x8) Option.none (Data.func (FuncData.mk s126 s132 (Arguments.mk [] [(Arg.mk s45 Option.none (Pos.mk 103 18 103 22)), (Arg.mk s131 Option.none (Pos.mk 103 24 103 28)), (Arg.mk s29 Option.none (Pos.mk 103 30 103 39))] Option.none [] [] Option.none [(Expr.Constant (Const.bool Bool.false) 0 (Pos.mk 103 40 103 45))]) d133 (Scope.mk ScopeKind.function [(Prod.mk s45 NameKind.local), (Prod.mk s131 NameKind.local), (Prod.mk s29 NameKind.local), (Prod.mk s14 NameKind.globalImplicit)] Bool.false Bool.false []) (3 : Nat) [] (Value.ref (161 : Nat)) Value.none Value.none (Value.str s23 (194 : Nat)) Option.none (Value.ref (167 : Nat)) Value.none (0 : Nat))) (List.toArray []))
noncomputable abbrev o_1060 (P : Params) : Obj := (Obj.mk (Value.type W.SL.s2766695959194262286x5) Option.none (Data.seq (List.toArray [(Value.bool Bool.false)]) (0 : Nat)) (List.toArray []))
noncomputable abbrev o_1061 (P : Params) : Obj := (Obj.mk (Value.type W.SL.s2766695959194262286x5) Option.none (Data.seq (List.toArray []) (0 : Nat)) (List.toArray []))
noncomputable abbrev o_1062 (P : Params) : Obj := (Obj.mk Value.none Option.none (Data.fields (List.toArray [])) (List.toArray []))
noncomputable abbrev s134 : Str := ⟨⟨[nat_lit 109, nat_lit 97, nat_lit 116, nat_lit 114, nat_lit 105, nat_lit 120, nat_lit 95, nat_lit 101, nat_lit 108, nat_lit 101, nat_lit 109, nat_lit 101, nat_lit 110, nat_lit 116, nat_lit 115]⟩⟩
noncomputable abbrev s135 : Str := ⟨⟨[nat_lit 101, nat_lit 108, nat_lit 101, nat_lit 109, nat_lit 101, nat_lit 110, nat_lit 116, nat_lit 95, nat_lit 108, nat_lit 105, nat_lit 115, nat_lit 116]⟩⟩
noncomputable abbrev o_1063 (P : Params) : Obj := (Obj.mk (Value.type W.SL.s2766695959194262286x5) Option.none (Data.seq (List.toArray [(Value.str s45 (381 : Nat)), (Value.str s134 (382 : Nat)), (Value.str s29 (383 : Nat)), (Value.str s135 (384 : Nat))]) (0 : Nat)) (List.toArray []))
noncomputable abbrev o_1064 (P : Params) : Obj := (Obj.mk (Value.type W.SL.s2766695959194262286x5) Option.none (Data.seq (List.toArray [(Value.str s45 (385 : Nat))]) (0 : Nat)) (List.toArray []))
noncomputable abbrev s136 : Str := ⟨⟨[nat_lit 77, nat_lit 111, nat_lit 100, nat_lit 117, nat_lit 108, nat_lit 101, nat_lit 71, nat_lit 101, nat_lit 110, nat_lit 101, nat_lit 114, nat_lit 105, nat_lit 99, nat_lit 46, nat_lit 95, nat_lit 95, nat_lit 99, nat_lit 97, nat_lit 108, nat_lit 108, nat_lit 95, nat_lit 95]⟩⟩
noncomputable abbrev s137 : Str := ⟨⟨[nat_lit 108, nat_lit 105, nat_lit 115, nat_lit 116]⟩⟩
noncomputable abbrev s138 : Str := ⟨⟨[nat_lit 101, nat_lit 108, nat_lit 101, nat_lit 109, nat_lit 101, nat_lit 110, nat_lit 116, nat_lit 115, nat_lit 32, nat_lit 111, nat_lit 102, nat_lit 32, nat_lit 97, nat_lit 32, nat_lit 109, nat_lit 111, nat_lit 100, nat_lit 117, nat_lit 108, nat_lit 101, nat_lit 32, nat_lit 97, nat_lit 114, nat_lit 101, nat_lit 32, nat_lit 109, nat_lit 97, nat_lit 116, nat_lit 114, nat_lit 105, nat_lit 99, nat_lit 101, nat_lit 115, nat_lit 44, nat_lit 32, nat_lit 98, nat_lit 117, nat_lit 105, nat_lit 108, nat_lit 116, nat_lit 32, nat_lit 102, nat_lit 114, nat_lit 111, nat_lit 109, nat_lit 32, nat_lit 101, nat_lit 108, nat_lit 101, nat_lit 109, nat_lit 101, nat_lit 110, nat_lit 116, nat_lit 115, nat_lit 32, nat_lit 111, nat_lit 102, nat_lit 32, nat_lit 116, nat_lit 104, nat_lit 101, nat_lit 32, nat_lit 98, nat_lit 97, nat_lit 115, nat_lit 101, nat_lit 32, nat_lit 114, nat_lit 105, nat_lit 110, nat_lit 103]⟩⟩
noncomputable abbrev s139 : Str := ⟨⟨[nat_lit 105, nat_lit 115, nat_lit 95, nat_lit 101, nat_lit 108, nat_lit 101, nat_lit 109, nat_lit 101, nat_lit 110, nat_lit 116]⟩⟩
noncomputable abbrev s140 : Str := ⟨⟨[nat_lit 97, nat_lit 105, nat_lit 106]⟩⟩
noncomputable abbrev d141 : Scope := (Scope.mk ScopeKind.function [(Prod.mk s58 NameKind.local), (Prod.mk s140 NameKind.local), (Prod.mk s45 NameKind.free)] Bool.true Bool.false [])
noncomputable abbrev s142 : Str := ⟨⟨[nat_lit 65, nat_lit 108, nat_lit 108, nat_lit 32, nat_lit 101, nat_lit 108, nat_lit 101, nat_lit 109, nat_lit 101, nat_lit 110, nat_lit 116, nat_lit 115, nat_lit 32, nat_lit 111, nat_lit 102, nat_lit 32, nat_lit 116, nat_lit 104, nat_lit 101, nat_lit 32, nat_lit 109, nat_lit 97, nat_lit 116, nat_lit 114, nat_lit 105, nat_lit 120, nat_lit 32, nat_lit 109, nat_lit 117, nat_lit 115, nat_lit 116, nat_lit 32, nat_lit 98, nat_lit 101, nat_lit 32, nat_lit 101, nat_lit 108, nat_lit 101, nat_lit 109, nat_lit 101, nat_lit 110, nat_lit 116, nat_lit 115, nat_lit 32, nat_lit 111, nat_lit 102, nat_lit 32, nat_lit 116, nat_lit 104, nat_lit 101, nat_lit 32, nat_lit 114, nat_lit 105, nat_lit 110, nat_lit 103]⟩⟩
noncomputable abbrev d143 : FuncBody := (FuncBody.stmts [(Stmt.If (Expr.UnaryOp UnaryOp.Not (Expr.Call (Expr.Name s75 (Pos.mk 107 15 107 25)) [(Expr.Name s134 (Pos.mk 107 26 107 41)), (Expr.Name s137 (Pos.mk 107 43 107 47))] [] (Pos.mk 107 15 107 48)) (Pos.mk 107 11 107 48)) [(Stmt.Raise (Option.some (Expr.Call (Expr.Name s94 (Pos.mk 108 18 108 27)) [(Expr.Constant (Const.str s138) 0 (Pos.mk 108 28 108 101))] [] (Pos.mk 108 18 108 102))) Option.none (Pos.mk 108 12 108 102))] [] (Pos.mk 107 8 108 102)), (Stmt.If (Expr.Call (Expr.Name s75 (Pos.mk 109 11 109 21)) [(Expr.Subscript (Expr.Name s134 (Pos.mk 109 22 109 37)) (Expr.Constant (Const.int (0 : Int)) 0 (Pos.mk 109 38 109 39)) (Pos.mk 109 22 109 40)), (Expr.Name s137 (Pos.mk 109 42 109 46))] [] (Pos.mk 109 11 109 47)) [(Stmt.For (Expr.Name s135 (Pos.mk 110 16 110 28)) (Expr.Name s134 (Pos.mk 110 32 110 47)) [(Stmt.If (Expr.UnaryOp UnaryOp.Not (Expr.Call (Expr.Name s86 (Pos.mk 111 23 111 26)) [(Expr.GeneratorExp (Expr.Call (Expr.Attribute (Expr.Attribute (Expr.Name s45 (Pos.mk 111 28 111 32)) s128 (Pos.mk 111 28 111 37)) s139 (Pos.mk 111 28 111 48)) [(Expr.Name s140 (Pos.mk 111 49 111 52))] [] (Pos.mk 111 28 111 53)) [(Comprehension.mk (Expr.Name s140 (Pos.mk 111 58 111 61)) (Expr.Name s135 (Pos.mk 111 65 111 77)) [] (0 : Int))] d141 (Pos.mk 111 27 111 78))] [] (Pos.mk 111 23 111 79)) (Pos.mk 111 19 111 79)) [(Stmt.Raise (Option.some (Expr.Call (Expr.Name s94 (Pos.mk 112 26 112 35)) [(Expr.Constant (Const.str s142) 0 (Pos.mk 112 36 112 93))] [] (Pos.mk 112 26 112 94))) Option.none (Pos.mk 112 20 112 94))] [] (Pos.mk 111 16 112 94))] [] (Pos.mk 110 12 112 94)), (Stmt.Return (Option.some (Expr.Call (Expr.Attribute (Expr.Name s45 (Pos.mk 113 19 113 23)) s126 (Pos.mk 113 19 113 33)) [(Expr.Name s134 (Pos.mk 113 34 113 49))] [(Keyword.mk (Option.some s29) (Expr.Name s29 (Pos.mk 113 61 113 70)) (Pos.mk 113 51 113 70))] (Pos.mk 113 19 113 71))) (Pos.mk 113 12 113 71))] [(Stmt.If (Expr.Call (Expr.Attribute (Expr.Attribute (Expr.Name s45 (Pos.mk 114 13 114 17)) s128 (Pos.mk 114 13 114 22)) s139 (Pos.mk 114 13 114 33)) [(Expr.Subscript (Expr.Name s134 (Pos.mk 114 34 114 49)) (Expr.Constant (Const.int (0 : Int)) 0 (Pos.mk 114 50 114 51)) (Pos.mk 114 34 114 52))] [] (Pos.mk 114 13 114 53)) [(Stmt.If (Expr.UnaryOp UnaryOp.Not (Expr.Call (Expr.Name s86 (Pos.mk 115 19 115 22)) [(Expr.GeneratorExp (Expr.Call (Expr.Attribute (Expr.Attribute (Expr.Name s45 (Pos.mk 115 24 115 28)) s128 (Pos.mk 115 24 115 33)) s139 (Pos.mk 115 24 115 44)) [(Expr.Name s140 (Pos.mk 115 45 115 48))] [] (Pos.mk 115 24 115 49)) [(Comprehension.mk (Expr.Name s140 (Pos.mk 115 54 115 57)) (Expr.Name s134 (Pos.mk 115 61 115 76)) [] (0 : Int))] d141 (Pos.mk 115 23 115 77))] [] (Pos.mk 115 19 115 78)) (Pos.mk 115 15 115 78)) [(Stmt.Raise (Option.some (Expr.Call (Expr.Name s94 (Pos.mk 116 22 116 31)) [(Expr.Constant (Const.str s142) 0 (Pos.mk 116 32 116 89))] [] (Pos.mk 116 22 116 90))) Option.none (Pos.mk 116 16 116 90))] [] (Pos.mk 115 12 116 90)), (Stmt.Return (Option.some (Expr.Call (Expr.Attribute (Expr.Name s45 (Pos.mk 117 19 117 23)) s126 (Pos.mk 117 19 117 33)) [(Expr.List [(Expr.Name s134 (Pos.mk 117 35 117 50))] (Pos.mk 117 34 117 51))] [(Keyword.mk (Option.some s29) (Expr.Name s29 (Pos.mk 117 63 117 72)) (Pos.mk 117 53 117 72))] (Pos.mk 117 19 117 73))) (Pos.mk 117 12 117 73))] [(Stmt.Raise (Option.some (Expr.Call (Expr.Name s94 (Pos.mk 119 18 119 27)) [(Expr.Constant (Const.str s138) 0 (Pos.mk 119 28 119 101))] [] (Pos.mk 119 18 119 102))) Option.none (Pos.mk 119 12 119 102))] (Pos.mk 114 8 119 102))] (Pos.mk 109 8 119 102))])
noncomputable abbrev o_1065 (P : Params) : Obj := (Obj.mk Value.none Option.none (Data.func (FuncData.mk s127 s136 (Arguments.mk [] [(Arg.mk s45 Option.none (Pos.mk 106 17 106 21)), (Arg.mk s134 Option.none (Pos.mk 106 23 106 38)), (Arg.mk s29 Option.none (Pos.mk 106 40 106 49))] Option.none [] [] Option.none [(Expr.Constant (Const.bool Bool.false) 0 (Pos.mk 106 50 106 55))]) d143 (Scope.mk ScopeKind.function [(Prod.mk s45 NameKind.cell), (Prod.mk s134 NameKind.local), (Prod.mk s29 NameKind.local), (Prod.mk s135 NameKind.local), (Prod.mk s75 NameKind.globalImplicit), (Prod.mk s137 NameKind.globalImplicit), (Prod.mk s94 NameKind.globalImplicit), (Prod.mk s86 NameKind.globalImplicit)] Bool.false Bool.false []) (0 : Nat) [] Value.none Value.none Value.none Value.none Option.none Value.none Value.none (0 : Nat))) (List.toArray []))
noncomputable abbrev o_1066 (P : Params) : Obj := (Obj.mk (Value.type W.SL.s5856160107412720595x4) Option.none (Data.fields (List.toArray [(Value.str s127 (378 : Nat)), (Value.str s136 (379 : Nat)), (Value.str s1 (380 : Nat)), (Value.int (106 : Int) (0 : Nat)), (Value.int (3 : Int) (0 : Nat)), (Value.int (0 : Int) (0 : Nat)), (Value.int (0 : Int) (0 : Nat)), (Value.int (3 : Int) (0 : Nat)), (Value.ref (170 : Nat)), (Value.bool Bool.true), (Value.int (181 : Int) (0 : Nat)), (Value.ref (171 : Nat)), Value.none, (Value.ref (172 : Nat)), (Value.ref (173 : Nat)), (Value.ref (174 : Nat)), (Value.int (386 : Int) (0 : Nat)), (Value.int (106 : Int) (0 : Nat)), (Value.str s1 (387 : Nat))])) (List.toArray []))
noncomputable abbrev o_1067 (P : Params) : Obj := (Obj.mk (Value.type W.SL.s7174869446012820540x8) Option.none (Data.func (FuncData.mk s127 s136 (Arguments.mk [] [(Arg.mk s45 Option.none (Pos.mk 106 17 106 21)), (Arg.mk s134 Option.none (Pos.mk 106 23 106 38)), (Arg.mk s29 Option.none (Pos.mk 106 40 106 49))] Option.none [] [] Option.none [(Expr.Constant (Const.bool Bool.false) 0 (Pos.mk 106 50 106 55))]) d143 (Scope.mk ScopeKind.function [(Prod.mk s45 NameKind.cell), (Prod.mk s134 NameKind.local), (Prod.mk s29 NameKind.local), (Prod.mk s135 NameKind.local), (Prod.mk s75 NameKind.globalImplicit), (Prod.mk s137 NameKind.globalImplicit), (Prod.mk s94 NameKind.globalImplicit), (Prod.mk s86 NameKind.globalImplicit)] Bool.false Bool.false []) (3 : Nat) [] (Value.ref (169 : Nat)) Value.none Value.none (Value.str s23 (194 : Nat)) Option.none (Value.ref (175 : Nat)) Value.none (0 : Nat))) (List.toArray []))
noncomputable abbrev o_1068 (P : Params) : Obj := (Obj.mk (Value.type W.SL.s2766695959194262286x5) Option.none (Data.seq (List.toArray [(Value.str s128 (389 : Nat))]) (0 : Nat)) (List.toArray []))
noncomputable abbrev o_1069 (P : Params) : Obj := (Obj.mk (Value.type W.SL.s14018661285674007319x4) Option.none (Data.dict (List.toArray [(DictEntry.mk (PyData.keyHash P s22) (Value.str s22 (356 : Nat)) (Value.str s23 (194 : Nat))), (DictEntry.mk (PyData.keyHash P s25) (Value.str s25 (360 : Nat)) (Value.int (98 : Int) (359 : Nat))), (DictEntry.mk (PyData.keyHash P s26) (Value.str s26 (368 : Nat)) (Value.ref (160 : Nat))), (DictEntry.mk (PyData.keyHash P s126) (Value.str s126 (377 : Nat)) (Value.ref (168 : Nat))), (DictEntry.mk (PyData.keyHash P s127) (Value.str s127 (388 : Nat)) (Value.ref (176 : Nat))), (DictEntry.mk (PyData.keyHash P s44) (Value.str s44 (390 : Nat)) (Value.ref (177 : Nat))), (DictEntry.mk (PyData.keyHash P s123) (Value.str s123 (392 : Nat)) (Value.ref (180 : Nat))), (DictEntry.mk (PyData.keyHash P s124) (Value.str s124 (394 : Nat)) (Value.ref (181 : Nat))), (DictEntry.mk (PyData.keyHash P s5) (Value.str s5 (395 : Nat)) Value.none)]) (4 : Nat)) (List.toArray []))
noncomputable abbrev o_1070 (P : Params) : Obj := (Obj.mk (Value.type W.SL.s17162191345867700912x4) Option.none (Data.cls (ClassData.mk s15 [(Value.type W.SL.s2742458400755230247x6)] [(Value.ref (179 : Nat)), (Value.type W.SL.s2742458400755230247x6)] (178 : Nat) s15 Bool.true [] [] Bool.false Option.none Bool.false)) (List.toArray [Option.none, Option.none, (Option.some (Value.str s15 (349 : Nat))), (Option.some (Value.str s15 (357 : Nat))), (Option.some (Value.builtin W.SL.s11443829558043349243x14)), (Option.some (Value.bool Bool.true))]))
noncomputable abbrev o_1071 (P : Params) : Obj := (Obj.mk (Value.type W.SL.s14755015743595814543x17) Option.none (Data.fields (List.toArray [(Value.str s123 (391 : Nat)), (Value.ref (179 : Nat)), (Value.builtin W.SL.s6511155373996960695x17), (Value.builtin W.SL.s12411053484034534018x21)])) (List.toArray []))
noncomputable abbrev o_1072 (P : Params) : Obj := (Obj.mk (Value.type W.SL.s14755015743595814543x17) Option.none (Data.fields (List.toArray [(Value.str s124 (393 : Nat)), (Value.ref (179 : Nat)), (Value.builtin W.SL.s10220274742760427390x26), Value.none])) (List.toArray []))
noncomputable abbrev o_1073 (P : Params) : Obj := (Obj.mk (Value.type W.SL.s4290257624100764138x5) Option.none (Data.fields (List.toArray [(Value.ref (179 : Nat)), (Value.ref (179 : Nat)), (Value.ref (179 : Nat))])) (List.toArray []))
noncomputable abbrev o_1074 (P : Params) : Obj := (Obj.mk (Value.type W.SL.s11030030927630378310x26) Option.none (Data.fields (List.toArray [(Value.builtin W.SL.s4860613602091757760x24), (Value.ref (179 : Nat))])) (List.toArray []))
noncomputable abbrev o_1077 (P : Params) : Obj := (Obj.mk (Value.type W.SL.s2766695959194262286x5) Option.none (Data.seq (List.toArray []) (0 : Nat)) (List.toArray []))
noncomputable abbrev o_1078 (P : Params) : Obj := (Obj.mk (Value.type W.SL.s11030030927630378310x26) Option.none (Data.fields (List.toArray [(Value.builtin W.SL.s10062305145149207511x16), (Value.type W.SL.s17162191345867700912x4)])) (List.toArray []))
noncomputable abbrev s144 : Str := ⟨⟨[nat_lit 100, nat_lit 105, nat_lit 108, nat_lit 105, nat_lit 116, nat_lit 104, nat_lit 105, nat_lit 117, nat_lit 109, nat_lit 95, nat_lit 112, nat_lit 121, nat_lit 46, nat_lit 112, nat_lit 111, nat_lit 108, nat_lit 121, nat_lit 110, nat_lit 111, nat_lit 109, nat_lit 105, nat_lit 97, nat_lit 108, nat_lit 115, nat_lit 46, nat_lit 112, nat_lit 111, nat_lit 108, nat_lit 121, nat_lit 110, nat_lit 111, nat_lit 109, nat_lit 105, nat_lit 97, nat_lit 108, nat_lit 115, nat_lit 95, nat_lit 103, nat_lit 101, nat_lit 110, nat_lit 101, nat_lit 114, nat_lit 105, nat_lit 99]⟩⟩
noncomputable abbrev s145 : Str := ⟨⟨[nat_lit 122, nat_lit 101, nat_lit 114, nat_lit 111]⟩⟩
noncomputable abbrev s146 : Str := ⟨⟨[nat_lit 103, nat_lit 101, nat_lit 110]⟩⟩
noncomputable abbrev o_1079 (P : Params) : Obj := (Obj.mk (Value.type W.SL.s14018661285674007319x4) Option.none (Data.dict (List.toArray [(DictEntry.mk (PyData.keyHash P s22) (Value.str s22 (407 : Nat)) (Value.str s144 (398 : Nat))), (DictEntry.mk (PyData.keyHash P s24) (Value.str s24 (409 : Nat)) (Value.str s16 (408 : Nat))), (DictEntry.mk (PyData.keyHash P s25) (Value.str s25 (411 : Nat)) (Value.int (121 : Int) (410 : Nat))), (DictEntry.mk (PyData.keyHash P s26) (Value.str s26 (420 : Nat)) (Value.ref (197 : Nat))), (DictEntry.mk (PyData.keyHash P s145) (Value.str s145 (427 : Nat)) (Value.ref (204 : Nat))), (DictEntry.mk (PyData.keyHash P s146) (Value.str s146 (434 : Nat)) (Value.ref (211 : Nat))), (DictEntry.mk (PyData.keyHash P s127) (Value.str s127 (442 : Nat)) (Value.ref (218 : Nat))), (DictEntry.mk (PyData.keyHash P s139) (Value.str s139 (450 : Nat)) (Value.ref (225 : Nat))), (DictEntry.mk (PyData.keyHash P s44) (Value.str s44 (453 : Nat)) (Value.ref (226 : Nat)))]) (9 : Nat)) (List.toArray []))
noncomputable abbrev o_1080 (P : Params) : Obj := (Obj.mk (Value.type W.SL.s2766695959194262286x5) Option.none (Data.seq (List.toArray []) (0 : Nat)) (List.toArray []))
noncomputable abbrev o_1081 (P : Params) : Obj := (Obj.mk Value.none Option.none (Data.fields (List.toArray [(Value.int (123 : Int) (0 : Nat)), (Value.int (4 : Int) (0 : Nat)), (Value.ref (196 : Nat)), (Value.int (127 : Int) (0 : Nat)), (Value.int (4 : Int) (0 : Nat)), (Value.ref (203 : Nat)), (Value.int (130 : Int) (0 : Nat)), (Value.int (4 : Int) (0 : Nat)), (Value.ref (210 : Nat)), (Value.int (133 : Int) (0 : Nat)), (Value.int (4 : Int) (0 : Nat)), (Value.ref (217 : Nat)), (Value.int (140 : Int) (0 : Nat)), (Value.int (4 : Int) (0 : Nat)), (Value.ref (224 : Nat))])) (List.toArray []))
noncomputable abbrev o_1082 (P : Params) : Obj := (Obj.mk (Value.type W.SL.s5856160107412720595x4) Option.none (Data.fields (List.toArray [(Value.str s16 (402 : Nat)), (Value.str s16 (403 : Nat)), (Value.str s1 (404 : Nat)), (Value.int (121 : Int) (0 : Nat)), (Value.int (0 : Int) (0 : Nat)), (Value.int (0 : Int) (0 : Nat)), (Value.int (0 : Int) (0 : Nat)), (Value.int (0 : Int) (0 : Nat)), (Value.ref (187 : Nat)), (Value.bool Bool.false), (Value.int (181 : Int) (0 : Nat)), (Value.ref (188 : Nat)), Value.none, Value.none, Value.none, Value.none, (Value.int (405 : Int) (0 : Nat)), (Value.int (121 : Int) (0 : Nat)), (Value.str s1 (406 : Nat))])) (List.toArray []))
noncomputable abbrev o_1083 (P : Params) : Obj := (Obj.mk (Value.type W.SL.s658472552662922059x5) Option.none Data.plain (List.toArray [(Option.some (Value.ref (189 : Nat))), (Option.some (Value.ref (3 : Nat))), (Option.some (Value.ref (186 : Nat))), Option.none, (Option.some (Value.str s144 (398 : Nat))), Option.none, (Option.some (Value.ref (0 : Nat)))]))
noncomputable abbrev o_1084 (P : Params) : Obj := (Obj.mk (Value.type W.SL.s2766695959194262286x5) Option.none (Data.seq (List.toArray []) (0 : Nat)) (List.toArray []))
noncomputable abbrev o_1085 (P : Params) : Obj := (Obj.mk Value.none Option.none (Data.fields (List.toArray [])) (List.toArray []))
noncomputable abbrev s147 : Str := ⟨⟨[nat_lit 113]⟩⟩
noncomputable abbrev o_1086 (P : Params) : Obj := (Obj.mk (Value.type W.SL.s2766695959194262286x5) Option.none (Data.seq (List.toArray [(Value.str s45 (415 : Nat)), (Value.str s147 (416 : Nat)), (Value.str s84 (417 : Nat))]) (0 : Nat)) (List.toArray []))
noncomputable abbrev o_1087 (P : Params) : Obj := (Obj.mk (Value.type W.SL.s2766695959194262286x5) Option.none (Data.seq (List.toArray []) (0 : Nat)) (List.toArray []))
noncomputable abbrev s148 : Str := ⟨⟨[nat_lit 80, nat_lit 111, nat_lit 108, nat_lit 121, nat_lit 110, nat_lit 111, nat_lit 109, nat_lit 105, nat_lit 97, nat_lit 108, nat_lit 82, nat_lit 105, nat_lit 110, nat_lit 103, nat_lit 71, nat_lit 101, nat_lit 110, nat_lit 101, nat_lit 114, nat_lit 105, nat_lit 99, nat_lit 46, nat_lit 95, nat_lit 95, nat_lit 105, nat_lit 110, nat_lit 105, nat_lit 116, nat_lit 95, nat_lit 95]⟩⟩
noncomputable abbrev d149 : FuncBody := (FuncBody.stmts [(Stmt.Assign [(Expr.Attribute (Expr.Name s45 (Pos.mk 124 8 124 12)) s147 (Pos.mk 124 8 124 14))] (Expr.Name s147 (Pos.mk 124 17 124 18)) (Pos.mk 124 8 124 18)), (Stmt.Assign [(Expr.Attribute (Expr.Name s45 (Pos.mk 125 8 125 12)) s84 (Pos.mk 125 8 125 14))] (Expr.Name s84 (Pos.mk 125 17 125 18)) (Pos.mk 125 8 125 18))])
noncomputable abbrev o_1088 (P : Params) : Obj := (Obj.mk Value.none Option.none (Data.func (FuncData.mk s26 s148 (Arguments.mk [] [(Arg.mk s45 Option.none (Pos.mk 123 17 123 21)), (Arg.mk s147 Option.none (Pos.mk 123 23 123 24)), (Arg.mk s84 Option.none (Pos.mk 123 26 123 27))] Option.none [] [] Option.none []) d149 (Scope.mk ScopeKind.function [(Prod.mk s45 NameKind.local), (Prod.mk s147 NameKind.local), (Prod.mk s84 NameKind.local)] Bool.false Bool.false []) (0 : Nat) [] Value.none Value.none Value.none Value.none Option.none Value.none Value.none (0 : Nat))) (List.toArray []))
noncomputable abbrev o_1089 (P : Params) : Obj := (Obj.mk (Value.type W.SL.s5856160107412720595x4) Option.none (Data.fields (List.toArray [(Value.str s26 (412 : Nat)), (Value.str s148 (413 : Nat)), (Value.str s1 (414 : Nat)), (Value.int (123 : Int) (0 : Nat)), (Value.int (3 : Int) (0 : Nat)), (Value.int (0 : Int) (0 : Nat)), (Value.int (0 : Int) (0 : Nat)), (Value.int (3 : Int) (0 : Nat)), (Value.ref (191 : Nat)), (Value.bool Bool.true), (Value.int (181 : Int) (0 : Nat)), (Value.ref (192 : Nat)), Value.none, (Value.ref (193 : Nat)), (Value.ref (194 : Nat)), (Value.ref (195 : Nat)), (Value.int (418 : Int) (0 : Nat)), (Value.int (123 : Int) (0 : Nat)), (Value.str s1 (419 : Nat))])) (List.toArray []))
noncomputable abbrev o_1090 (P : Params) : Obj := (Obj.mk (Value.type W.SL.s7174869446012820540x8) Option.none (Data.func (FuncData.mk s26 s148 (Arguments.mk [] [(Arg.mk s45 Option.none (Pos.mk 123 17 123 21)), (Arg.mk s147 Option.none (Pos.mk 123 23 123 24)), (Arg.mk s84 Option.none (Pos.mk 123 26 123 27))] Option.none [] [] Option.none []) d149 (Scope.mk ScopeKind.function [(Prod.mk s45 NameKind.local), (Prod.mk s147 NameKind.local), (Prod.mk s84 NameKind.local)] Bool.false Bool.false []) (3 : Nat) [] Value.none Value.none Value.none (Value.str s144 (398 : Nat)) Option.none (Value.ref (196 : Nat)) Value.none (0 : Nat))) (List.toArray []))
noncomputable abbrev o_1091 (P : Params) : Obj := (Obj.mk (Value.type W.SL.s2766695959194262286x5) Option.none (Data.seq (List.toArray []) (0 : Nat)) (List.toArray []))
noncomputable abbrev o_1092 (P : Params) : Obj := (Obj.mk Value.none Option.none (Data.fields (List.toArray [])) (List.toArray []))
noncomputable abbrev o_1093 (P : Params) : Obj := (Obj.mk (Value.type W.SL.s2766695959194262286x5) Option.none (Data.seq (List.toArray [(Value.str s45 (424 : Nat))]) (0 : Nat)) (List.toArray []))
noncomputable abbrev o_1094 (P : Params) : Obj := (Obj.mk (Value.type W.SL.s2766695959194262286x5) Option.none (Data.seq (List.toArray []) (0 : Nat)) (List.toArray []))
noncomputable abbrev s150 : Str := ⟨⟨[nat_lit 80, nat_lit 111, nat_lit 108, nat_lit 121, nat_lit 110, nat_lit 111, nat_lit 109, nat_lit 105, nat_lit 97, nat_lit 108, nat_lit 82, nat_lit 105, nat_lit 110, nat_lit 103, nat_lit 71, nat_lit 101, nat_lit 110, nat_lit 101, nat_lit 114, nat_lit 105, nat_lit 99, nat_lit 46, nat_lit 122, nat_lit 101, nat_lit 114, nat_lit 111]⟩⟩
noncomputable abbrev d151 : FuncBody := (FuncBody.stmts [(Stmt.Return (Option.some (Expr.Call (Expr.Name s45 (Pos.mk 128 15 128 19)) [(Expr.List [(Expr.Constant (Const.int (0 : Int)) 0 (Pos.mk 128 21 128 22))] (Pos.mk 128 20 128 23))] [] (Pos.mk 128 15 128 24))) (Pos.mk 128 8 128 24))])
noncomputable abbrev o_1095 (P : Params) : Obj := (Obj.mk Value.none Option.none (Data.func (FuncData.mk s145 s150 (Arguments.mk [] [(Arg.mk s45 Option.none (Pos.mk 127 13 127 17))] Option.none [] [] Option.none []) d151 d65 (0 : Nat) [] Value.none Value.none Value.none Value.none Option.none Value.none Value.none (0 : Nat))) (List.toArray []))
noncomputable abbrev o_1096 (P : Params) : Obj := (Obj.mk (Value.type W.SL.s5856160107412720595x4) Option.none (Data.fields (List.toArray [(Value.str s145 (421 : Nat)), (Value.str s150 (422 : Nat)), (Value.str s1 (423 : Nat)), (Value.int (127 : Int) (0 : Nat)), (Value.int (1 : Int) (0 : Nat)), (Value.int (0 : Int) (0 : Nat)), (Value.int (0 : Int) (0 : Nat)), (Value.int (3 : Int) (0 : Nat)), (Value.ref (198 : Nat)), (Value.bool Bool.true), (Value.int (181 : Int) (0 : Nat)), (Value.ref (199 : Nat)), Value.none, (Value.ref (200 : Nat)), (Value.ref (201 : Nat)), (Value.ref (202 : Nat)), (Value.int (425 : Int) (0 : Nat)), (Value.int (127 : Int) (0 : Nat)), (Value.str s1 (426 : Nat))])) (List.toArray []))
noncomputable abbrev o_1097 (P : Params) : Obj := (Obj.mk (Value.type W.SL.s7174869446012820540x8) Option.none (Data.func (FuncData.mk s145 s150 (Arguments.mk [] [(Arg.mk s45 Option.none (Pos.mk 127 13 127 17))] Option.none [] [] Option.none []) d151 d65 (3 : Nat) [] Value.none Value.none Value.none (Value.str s144 (398 : Nat)) Option.none (Value.ref (203 : Nat)) Value.none (0 : Nat))) (List.toArray []))
noncomputable abbrev o_1098 (P : Params) : Obj := (Obj.mk (Value.type W.SL.s2766695959194262286x5) Option.none (Data.seq (List.toArray []) (0 : Nat)) (List.toArray []))
noncomputable abbrev o_1099 (P : Params) : Obj := (Obj.mk Value.none Option.none (Data.fields (List.toArray [])) (List.toArray []))
noncomputable abbrev o_1100 (P : Params) : Obj := (Obj.mk (Value.type W.SL.s2766695959194262286x5) Option.none (Data.seq (List.toArray [(Value.str s45 (431 : Nat))]) (0 : Nat)) (List.toArray []))
noncomputable abbrev o_1101 (P : Params) : Obj := (Obj.mk (Value.type W.SL.s2766695959194262286x5) Option.none (Data.seq (List.toArray []) (0 : Nat)) (List.toArray []))
noncomputable abbrev s152 : Str := ⟨⟨[nat_lit 80, nat_lit 111, nat_lit 108, nat_lit 121, nat_lit 110, nat_lit 111, nat_lit 109, nat_lit 105, nat_lit 97, nat_lit 108, nat_lit 82, nat_lit 105, nat_lit 110, nat_lit 103, nat_lit 71, nat_lit 101, nat_lit 110, nat_lit 101, nat_lit 114, nat_lit 105, nat_lit 99, nat_lit 46, nat_lit 103, nat_lit 101, nat_lit 110]⟩⟩
noncomputable abbrev d153 : FuncBody := (FuncBody.stmts [(Stmt.Return (Option.some (Expr.Call (Expr.Name s45 (Pos.mk 131 15 131 19)) [(Expr.List [(Expr.Constant (Const.int (0 : Int)) 0 (Pos.mk 131 21 131 22)), (Expr.Constant (Const.int (1 : Int)) 0 (Pos.mk 131 24 131 25))] (Pos.mk 131 20 131 26))] [] (Pos.mk 131 15 131 27))) (Pos.mk 131 8 131 27))])
noncomputable abbrev o_1102 (P : Params) : Obj := (Obj.mk Value.none Option.none (Data.func (FuncData.mk s146 s152 (Arguments.mk [] [(Arg.mk s45 Option.none (Pos.mk 130 12 130 16))] Option.none [] [] Option.none []) d153 d65 (0 : Nat) [] Value.none Value.none Value.none Value.none Option.none Value.none Value.none (0 : Nat))) (List.toArray []))
noncomputable abbrev o_1103 (P : Params) : Obj := (Obj.mk (Value.type W.SL.s5856160107412720595x4) Option.none (Data.fields (List.toArray [(Value.str s146 (428 : Nat)), (Value.str s152 (429 : Nat)), (Value.str s1 (430 : Nat)), (Value.int (130 : Int) (0 : Nat)), (Value.int (1 : Int) (0 : Nat)), (Value.int (0 : Int) (0 : Nat)), (Value.int (0 : Int) (0 : Nat)), (Value.int (3 : Int) (0 : Nat)), (Value.ref (205 : Nat)), (Value.bool Bool.true), (Value.int (181 : Int) (0 : Nat)), (Value.ref (206 : Nat)), Value.none, (Value.ref (207 : Nat)), (Value.ref (208 : Nat)), (Value.ref (209 : Nat)), (Value.int (432 : Int) (0 : Nat)), (Value.int (130 : Int) (0 : Nat)), (Value.str s1 (433 : Nat))])) (List.toArray []))
noncomputable abbrev o_1104 (P : Params) : Obj := (Obj.mk (Value.type W.SL.s7174869446012820540x8) Option.none (Data.func (FuncData.mk s146 s152 (Arguments.mk [] [(Arg.mk s45 Option.none (Pos.mk 130 12 130 16))] Option.none [] [] Option.none []) d153 d65 (3 : Nat) [] Value.none Value.none Value.none (Value.str s144 (398 : Nat)) Option.none (Value.ref (210 : Nat)) Value.none (0 : Nat))) (List.toArray []))
noncomputable abbrev o_1105 (P : Params) : Obj := (Obj.mk (Value.type W.SL.s2766695959194262286x5) Option.none (Data.seq (List.toArray []) (0 : Nat)) (List.toArray []))
noncomputable abbrev o_1106 (P : Params) : Obj := (Obj.mk Value.none Option.none (Data.fields (List.toArray [])) (List.toArray []))
noncomputable abbrev s154 : Str := ⟨⟨[nat_lit 99, nat_lit 111, nat_lit 101, nat_lit 102, nat_lit 102, nat_lit 105, nat_lit 99, nat_lit 105, nat_lit 101, nat_lit 110, nat_lit 116, nat_lit 115]⟩⟩
noncomputable abbrev o_1107 (P : Params) : Obj := (Obj.mk (Value.type W.SL.s2766695959194262286x5) Option.none (Data.seq (List.toArray [(Value.str s45 (438 : Nat)), (Value.str s154 (439 : Nat))]) (0 : Nat)) (List.toArray []))
noncomputable abbrev o_1108 (P : Params) : Obj := (Obj.mk (Value.type W.SL.s2766695959194262286x5) Option.none (Data.seq (List.toArray []) (0 : Nat)) (List.toArray []))
noncomputable abbrev s155 : Str := ⟨⟨[nat_lit 80, nat_lit 111, nat_lit 108, nat_lit 121, nat_lit 110, nat_lit 111, nat_lit 109, nat_lit 105, nat_lit 97, nat_lit 108, nat_lit 82, nat_lit 105, nat_lit 110, nat_lit 103, nat_lit 71, nat_lit 101, nat_lit 110, nat_lit 101, nat_lit 114, nat_lit 105, nat_lit 99, nat_lit 46, nat_lit 95, nat_lit 95, nat_lit 99, nat_lit 97, nat_lit 108, nat_lit 108, nat_lit 95, nat_lit 95]⟩⟩
noncomputable abbrev s156 : Str := ⟨⟨[nat_lit 105, nat_lit 110, nat_lit 116]⟩⟩
noncomputable abbrev s157 : Str := ⟨⟨[nat_lit 80, nat_lit 111, nat_lit 108, nat_lit 121, nat_lit 110, nat_lit 111, nat_lit 109, nat_lit 105, nat_lit 97, nat_lit 108, nat_lit 115, nat_lit 32, nat_lit 115, nat_lit 104, nat_lit 111, nat_lit 117, nat_lit 108, nat_lit 100, nat_lit 32, nat_lit 98, nat_lit 101, nat_lit 32, nat_lit 99, nat_lit 111, nat_lit 110, nat_lit 115, nat_lit 116, nat_lit 114, nat_lit 117, nat_lit 99, nat_lit 116, nat_lit 101, nat_lit 100, nat_lit 32, nat_lit 102, nat_lit 114, nat_lit 111, nat_lit 109, nat_lit 32, nat_lit 97, nat_lit 32, nat_lit 108, nat_lit 105, nat_lit 115, nat_lit 116, nat_lit 32, nat_lit 111, nat_lit 102, nat_lit 32, nat_lit 105, nat_lit 110, nat_lit 116, nat_lit 101, nat_lit 103, nat_lit 101, nat_lit 114, nat_lit 115, nat_lit 44, nat_lit 32, nat_lit 111, nat_lit 102, nat_lit 32, nat_lit 108, nat_lit 101, nat_lit 110, nat_lit 103, nat_lit 116, nat_lit 104, nat_lit 32, nat_lit 97, nat_lit 116, nat_lit 32, nat_lit 109, nat_lit 111, nat_lit 115, nat_lit 116, nat_lit 32, nat_lit 100, nat_lit 32, nat_lit 61, nat_lit 32]⟩⟩
noncomputable abbrev d158 : FuncBody := (FuncBody.stmts [(Stmt.If (Expr.Call (Expr.Name s75 (Pos.mk 134 11 134 21)) [(Expr.Name s154 (Pos.mk 134 22 134 34)), (Expr.Name s156 (Pos.mk 134 36 134 39))] [] (Pos.mk 134 11 134 40)) [(Stmt.Return (Option.some (Expr.Call (Expr.Name s17 (Pos.mk 135 19 135 36)) [(Expr.Name s45 (Pos.mk 135 37 135 41)), (Expr.List [(Expr.Name s154 (Pos.mk 135 44 135 56))] (Pos.mk 135 43 135 57))] [] (Pos.mk 135 19 135 58))) (Pos.mk 135 12 135 58))] [] (Pos.mk 134 8 135 58)), (Stmt.If (Expr.UnaryOp UnaryOp.Not (Expr.Call (Expr.Name s75 (Pos.mk 136 15 136 25)) [(Expr.Name s154 (Pos.mk 136 26 136 38)), (Expr.Name s137 (Pos.mk 136 40 136 44))] [] (Pos.mk 136 15 136 45)) (Pos.mk 136 11 136 45)) [(Stmt.Raise (Option.some (Expr.Call (Expr.Name s94 (Pos.mk 137 18 137 27)) [(Expr.JoinedStr [(Expr.Constant (Const.str s157) 0 (Pos.mk 137 30 137 111)), (Expr.FormattedValue (Expr.Attribute (Expr.Name s45 (Pos.mk 137 112 137 116)) s84 (Pos.mk 137 112 137 118)) (Neg.neg (1 : Int)) Option.none (Pos.mk 137 111 137 119))] (Pos.mk 137 28 137 120))] [] (Pos.mk 137 18 137 121))) Option.none (Pos.mk 137 12 137 121))] [] (Pos.mk 136 8 137 121)), (Stmt.Return (Option.some (Expr.Call (Expr.Name s17 (Pos.mk 138 15 138 32)) [(Expr.Name s45 (Pos.mk 138 33 138 37)), (Expr.Name s154 (Pos.mk 138 39 138 51))] [] (Pos.mk 138 15 138 52))) (Pos.mk 138 8 138 52))])
noncomputable abbrev o_1109 (P : Params) : Obj := (Obj.mk Value.none Option.none (Data.func (FuncData.mk s127 s155 (Arguments.mk [] [(Arg.mk s45 Option.none (Pos.mk 133 17 133 21)), (Arg.mk s154 Option.none (Pos.mk 133 23 133 35))] Option.none [] [] Option.none []) d158 (Scope.mk ScopeKind.function [(Prod.mk s45 NameKind.local), (Prod.mk s154 NameKind.local), (Prod.mk s75 NameKind.globalImplicit), (Prod.mk s156 NameKind.globalImplicit), (Prod.mk s17 NameKind.globalImplicit), (Prod.mk s137 NameKind.globalImplicit), (Prod.mk s94 NameKind.globalImplicit)] Bool.false Bool.false []) (0 : Nat) [] Value.none Value.none Value.none Value.none Option.none Value.none Value.none (0 : Nat))) (List.toArray []))
noncomputable abbrev o_1110 (P : Params) : Obj := (Obj.mk (Value.type W.SL.s5856160107412720595x4) Option.none (Data.fields (List.toArray [(Value.str s127 (435 : Nat)), (Value.str s155 (436 : Nat)), (Value.str s1 (437 : Nat)), (Value.int (133 : Int) (0 : Nat)), (Value.int (2 : Int) (0 : Nat)), (Value.int (0 : Int) (0 : Nat)), (Value.int (0 : Int) (0 : Nat)), (Value.int (3 : Int) (0 : Nat)), (Value.ref (212 : Nat)), (Value.bool Bool.true), (Value.int (181 : Int) (0 : Nat)), (Value.ref (213 : Nat)), Value.none, (Value.ref (214 : Nat)), (Value.ref (215 : Nat)), (Value.ref (216 : Nat)), (Value.int (440 : Int) (0 : Nat)), (Value.int (133 : Int) (0 : Nat)), (Value.str s1 (441 : Nat))])) (List.toArray []))
noncomputable abbrev o_1111 (P : Params) : Obj := (Obj.mk (Value.type W.SL.s7174869446012820540x8) Option.none (Data.func (FuncData.mk s127 s155 (Arguments.mk [] [(Arg.mk s45 Option.none (Pos.mk 133 17 133 21)), (Arg.mk s154 Option.none (Pos.mk 133 23 133 35))] Option.none [] [] Option.none []) d158 (Scope.mk ScopeKind.function [(Prod.mk s45 NameKind.local), (Prod.mk s154 NameKind.local), (Prod.mk s75 NameKind.globalImplicit), (Prod.mk s156 NameKind.globalImplicit), (Prod.mk s17 NameKind.globalImplicit), (Prod.mk s137 NameKind.globalImplicit), (Prod.mk s94 NameKind.globalImplicit)] Bool.false Bool.false []) (3 : Nat) [] Value.none Value.none Value.none (Value.str s144 (398 : Nat)) Option.none (Value.ref (217 : Nat)) Value.none (0 : Nat))) (List.toArray []))
noncomputable abbrev o_1112 (P : Params) : Obj := (Obj.mk (Value.type W.SL.s2766695959194262286x5) Option.none (Data.seq (List.toArray []) (0 : Nat)) (List.toArray []))
noncomputable abbrev o_1113 (P : Params) : Obj := (Obj.mk Value.none Option.none (Data.fields (List.toArray [])) (List.toArray []))
noncomputable abbrev s159 : Str := ⟨⟨[nat_lit 118, nat_lit 97, nat_lit 108, nat_lit 117, nat_lit 101]⟩⟩
noncomputable abbrev o_1114 (P : Params) : Obj := (Obj.mk (Value.type W.SL.s2766695959194262286x5) Option.none (Data.seq (List.toArray [(Value.str s45 (446 : Nat)), (Value.str s159 (447 : Nat))]) (0 : Nat)) (List.toArray []))
noncomputable abbrev o_1115 (P : Params) : Obj := (Obj.mk (Value.type W.SL.s2766695959194262286x5) Option.none (Data.seq (List.toArray []) (0 : Nat)) (List.toArray []))
noncomputable abbrev s160 : Str := ⟨⟨[nat_lit 80, nat_lit 111, nat_lit 108, nat_lit 121, nat_lit 110, nat_lit 111, nat_lit 109, nat_lit 105, nat_lit 97, nat_lit 108, nat_lit 82, nat_lit 105, nat_lit 110, nat_lit 103, nat_lit 71, nat_lit 101, nat_lit 110, nat_lit 101, nat_lit 114, nat_lit 105, nat_lit 99, nat_lit 46, nat_lit 105, nat_lit 115, nat_lit 95, nat_lit 101, nat_lit 108, nat_lit 101, nat_lit 109, nat_lit 101, nat_lit 110, nat_lit 116]⟩⟩
noncomputable abbrev d161 : FuncBody := (FuncBody.stmts [(Stmt.Return (Option.some (Expr.Call (Expr.Name s75 (Pos.mk 141 15 141 25)) [(Expr.Name s159 (Pos.mk 141 26 141 31)), (Expr.Name s17 (Pos.mk 141 33 141 50))] [] (Pos.mk 141 15 141 51))) (Pos.mk 141 8 141 51))])
noncomputable abbrev o_1116 (P : Params) : Obj := (Obj.mk Value.none Option.none (Data.func (FuncData.mk s139 s160 (Arguments.mk [] [(Arg.mk s45 Option.none (Pos.mk 140 19 140 23)), (Arg.mk s159 Option.none (Pos.mk 140 25 140 30))] Option.none [] [] Option.none []) d161 (Scope.mk ScopeKind.function [(Prod.mk s45 NameKind.local), (Prod.mk s159 NameKind.local), (Prod.mk s75 NameKind.globalImplicit), (Prod.mk s17 NameKind.globalImplicit)] Bool.false Bool.false []) (0 : Nat) [] Value.none Value.none Value.none Value.none Option.none Value.none Value.none (0 : Nat))) (List.toArray []))
noncomputable abbrev o_1117 (P : Params) : Obj := (Obj.mk (Value.type W.SL.s5856160107412720595x4) Option.none (Data.fields (List.toArray [(Value.str s139 (443 : Nat)), (Value.str s160 (444 : Nat)), (Value.str s1 (445 : Nat)), (Value.int (140 : Int) (0 : Nat)), (Value.int (2 : Int) (0 : Nat)), (Value.int (0 : Int) (0 : Nat)), (Value.int (0 : Int) (0 : Nat)), (Value.int (3 : Int) (0 : Nat)), (Value.ref (219 : Nat)), (Value.bool Bool.true), (Value.int (181 : Int) (0 : Nat)), (Value.ref (220 : Nat)), Value.none, (Value.ref (221 : Nat)), (Value.ref (222 : Nat)), (Value.ref (223 : Nat)), (Value.int (448 : Int) (0 : Nat)), (Value.int (140 : Int) (0 : Nat)), (Value.str s1 (449 : Nat))])) (List.toArray []))
noncomputable abbrev o_1118 (P : Params) : Obj := (Obj.mk (Value.type W.SL.s7174869446012820540x8) Option.none (Data.func (FuncData.mk s139 s160 (Arguments.mk [] [(Arg.mk s45 Option.none (Pos.mk 140 19 140 23)), (Arg.mk s159 Option.none (Pos.mk 140 25 140 30))] Option.none [] [] Option.none []) d161 (Scope.mk ScopeKind.function [(Prod.mk s45 NameKind.local), (Prod.mk s159 NameKind.local), (Prod.mk s75 NameKind.globalImplicit), (Prod.mk s17 NameKind.globalImplicit)] Bool.false Bool.false []) (3 : Nat) [] Value.none Value.none Value.none (Value.str s144 (398 : Nat)) Option.none (Value.ref (224 : Nat)) Value.none (0 : Nat))) (List.toArray []))
noncomputable abbrev o_1119 (P : Params) : Obj := (Obj.mk (Value.type W.SL.s2766695959194262286x5) Option.none (Data.seq (List.toArray [(Value.str s84 (451 : Nat)), (Value.str s147 (452 : Nat))]) (0 : Nat)) (List.toArray []))
noncomputable abbrev o_1120 (P : Params) : Obj := (Obj.mk (Value.type W.SL.s14018661285674007319x4) Option.none (Data.dict (List.toArray [(DictEntry.mk (PyData.keyHash P s22) (Value.str s22 (407 : Nat)) (Value.str s144 (398 : Nat))), (DictEntry.mk (PyData.keyHash P s25) (Value.str s25 (411 : Nat)) (Value.int (121 : Int) (410 : Nat))), (DictEntry.mk (PyData.keyHash P s26) (Value.str s26 (420 : Nat)) (Value.ref (197 : Nat))), (DictEntry.mk (PyData.keyHash P s145) (Value.str s145 (427 : Nat)) (Value.ref (204 : Nat))), (DictEntry.mk (PyData.keyHash P s146) (Value.str s146 (434 : Nat)) (Value.ref (211 : Nat))), (DictEntry.mk (PyData.keyHash P s127) (Value.str s127 (442 : Nat)) (Value.ref (218 : Nat))), (DictEntry.mk (PyData.keyHash P s139) (Value.str s139 (450 : Nat)) (Value.ref (225 : Nat))), (DictEntry.mk (PyData.keyHash P s44) (Value.str s44 (453 : Nat)) (Value.ref (226 : Nat))), (DictEntry.mk (PyData.keyHash P s123) (Value.str s123 (455 : Nat)) (Value.ref (229 : Nat))), (DictEntry.mk (PyData.keyHash P s124) (Value.str s124 (457 : Nat)) (Value.ref (230 : Nat))), (DictEntry.mk (PyData.keyHash P s5) (Value.str s5 (458 : Nat)) Value.none)]) (4 : Nat)) (List.toArray []))
noncomputable abbrev o_1121 (P : Params) : Obj := (Obj.mk (Value.type W.SL.s17162191345867700912x4) Option.none (Data.cls (ClassData.mk s16 [(Value.type W.SL.s2742458400755230247x6)] [(Value.ref (228 : Nat)), (Value.type W.SL.s2742458400755230247x6)] (227 : Nat) s16 Bool.true [] [] Bool.false Option.none Bool.false)) (List.toArray [Option.none, Option.none, (Option.some (Value.str s16 (400 : Nat))), (Option.some (Value.str s16 (408 : Nat))), (Option.some (Value.builtin W.SL.s11443829558043349243x14)), (Option.some (Value.bool Bool.true))]))
noncomputable abbrev o_1122 (P : Params) : Obj := (Obj.mk (Value.type W.SL.s14755015743595814543x17) Option.none (Data.fields (List.toArray [(Value.str s123 (454 : Nat)), (Value.ref (228 : Nat)), (Value.builtin W.SL.s6511155373996960695x17), (Value.builtin W.SL.s12411053484034534018x21)])) (List.toArray []))
noncomputable abbrev o_1123 (P : Params) : Obj := (Obj.mk (Value.type W.SL.s14755015743595814543x17) Option.none (Data.fields (List.toArray [(Value.str s124 (456 : Nat)), (Value.ref (228 : Nat)), (Value.builtin W.SL.s10220274742760427390x26), Value.none])) (List.toArray []))
noncomputable abbrev o_1124 (P : Params) : Obj := (Obj.mk (Value.type W.SL.s4290257624100764138x5) Option.none (Data.fields (List.toArray [(Value.ref (228 : Nat)), (Value.ref (228 : Nat)), (Value.ref (228 : Nat))])) (List.toArray []))
noncomputable abbrev o_1125 (P : Params) : Obj := (Obj.mk (Value.type W.SL.s11030030927630378310x26) Option.none (Data.fields (List.toArray [(Value.builtin W.SL.s4860613602091757760x24), (Value.ref (228 : Nat))])) (List.toArray []))
noncomputable abbrev o_1128 (P : Params) : Obj := (Obj.mk (Value.type W.SL.s2766695959194262286x5) Option.none (Data.seq (List.toArray []) (0 : Nat)) (List.toArray []))
noncomputable abbrev o_1129 (P : Params) : Obj := (Obj.mk (Value.type W.SL.s11030030927630378310x26) Option.none (Data.fields (List.toArray [(Value.builtin W.SL.s10062305145149207511x16), (Value.type W.SL.s17162191345867700912x4)])) (List.toArray []))
noncomputable abbrev s162 : Str := ⟨⟨[nat_lit 105, nat_lit 115, nat_lit 95, nat_lit 122, nat_lit 101, nat_lit 114, nat_lit 111]⟩⟩
noncomputable abbrev s163 : Str := ⟨⟨[nat_lit 105, nat_lit 115, nat_lit 95, nat_lit 99, nat_lit 111, nat_lit 110, nat_lit 115, nat_lit 116, nat_lit 97, nat_lit 110, nat_lit 116]⟩⟩
noncomputable abbrev s164 : Str := ⟨⟨[nat_lit 95, nat_lit 112, nat_lit 97, nat_lit 114, nat_lit 115, nat_lit 101, nat_lit 95, nat_lit 99, nat_lit 111, nat_lit 101, nat_lit 102, nat_lit 102, nat_lit 105, nat_lit 99, nat_lit 105, nat_lit 101, nat_lit 110, nat_lit 116, nat_lit 115]⟩⟩
noncomputable abbrev s165 : Str := ⟨⟨[nat_lit 95, nat_lit 97, nat_lit 100, nat_lit 100, nat_lit 95, nat_lit 109, nat_lit 111, nat_lit 100, nat_lit 95, nat_lit 113]⟩⟩
noncomputable abbrev s166 : Str := ⟨⟨[nat_lit 95, nat_lit 115, nat_lit 117, nat_lit 98, nat_lit 95, nat_lit 109, nat_lit 111, nat_lit 100, nat_lit 95, nat_lit 113]⟩⟩
noncomputable abbrev s167 : Str := ⟨⟨[nat_lit 95, nat_lit 115, nat_lit 99, nat_lit 104, nat_lit 111, nat_lit 111, nat_lit 108, nat_lit 98, nat_lit 111, nat_lit 111, nat_lit 107, nat_lit 95, nat_lit 109, nat_lit 117, nat_lit 108, nat_lit 116, nat_lit 105, nat_lit 112, nat_lit 108, nat_lit 105, nat_lit 99, nat_lit 97, nat_lit 116, nat_lit 105, nat_lit 111, nat_lit 110]⟩⟩
noncomputable abbrev s168 : Str := ⟨⟨[nat_lit 95, nat_lit 97, nat_lit 100, nat_lit 100, nat_lit 95]⟩⟩
noncomputable abbrev s169 : Str := ⟨⟨[nat_lit 95, nat_lit 95, nat_lit 114, nat_lit 97, nat_lit 100, nat_lit 100, nat_lit 95, nat_lit 95]⟩⟩
noncomputable abbrev s170 : Str := ⟨⟨[nat_lit 95, nat_lit 115, nat_lit 117, nat_lit 98, nat_lit 95]⟩⟩
noncomputable abbrev s171 : Str := ⟨⟨[nat_lit 95, nat_lit 95, nat_lit 114, nat_lit 115, nat_lit 117, nat_lit 98, nat_lit 95, nat_lit 95]⟩⟩
noncomputable abbrev s172 : Str := ⟨⟨[nat_lit 95, nat_lit 95, nat_lit 109, nat_lit 117, nat_lit 108, nat_lit 95, nat_lit 95]⟩⟩
noncomputable abbrev s173 : Str := ⟨⟨[nat_lit 95, nat_lit 95, nat_lit 114, nat_lit 109, nat_lit 117, nat_lit 108, nat_lit 95, nat_lit 95]⟩⟩
noncomputable abbrev s174 : Str := ⟨⟨[nat_lit 95, nat_lit 95, nat_lit 105, nat_lit 109, nat_lit 117, nat_lit 108, nat_lit 95, nat_lit 95]⟩⟩
noncomputable abbrev s175 : Str := ⟨⟨[nat_lit 95, nat_lit 95, nat_lit 112, nat_lit 111, nat_lit 119, nat_lit 95, nat_lit 95]⟩⟩
noncomputable abbrev o_1130 (P : Params) : Obj := (Obj.mk (Value.type W.SL.s14018661285674007319x4) Option.none (Data.dict (List.toArray [(DictEntry.mk (PyData.keyHash P s22) (Value.str s22 (468 : Nat)) (Value.str s144 (398 : Nat))), (DictEntry.mk (PyData.keyHash P s24) (Value.str s24 (470 : Nat)) (Value.str s17 (469 : Nat))), (DictEntry.mk (PyData.keyHash P s25) (Value.str s25 (472 : Nat)) (Value.int (142 : Int) (471 : Nat))), (DictEntry.mk (PyData.keyHash P s26) (Value.str s26 (481 : Nat)) (Value.ref (246 : Nat))), (DictEntry.mk (PyData.keyHash P s162) (Value.str s162 (488 : Nat)) (Value.ref (253 : Nat))), (DictEntry.mk (PyData.keyHash P s163) (Value.str s163 (495 : Nat)) (Value.ref (260 : Nat))), (DictEntry.mk (PyData.keyHash P s164) (Value.str s164 (501 : Nat)) (Value.ref (265 : Nat))), (DictEntry.mk (PyData.keyHash P s32) (Value.str s32 (508 : Nat)) (Value.ref (272 : Nat))), (DictEntry.mk (PyData.keyHash P s165) (Value.str s165 (517 : Nat)) (Value.ref (279 : Nat))), (DictEntry.mk (PyData.keyHash P s166) (Value.str s166 (526 : Nat)) (Value.ref (286 : Nat))), (DictEntry.mk (PyData.keyHash P s167) (Value.str s167 (532 : Nat)) (Value.ref (291 : Nat))), (DictEntry.mk (PyData.keyHash P s36) (Value.str s36 (538 : Nat)) (Value.ref (296 : Nat))), (DictEntry.mk (PyData.keyHash P s168) (Value.str s168 (544 : Nat)) (Value.ref (301 : Nat))), (DictEntry.mk (PyData.keyHash P s37) (Value.str s37 (553 : Nat)) (Value.ref (308 : Nat))), (DictEntry.mk (PyData.keyHash P s169) (Value.str s169 (561 : Nat)) (Value.ref (315 : Nat))), (DictEntry.mk (PyData.keyHash P s38) (Value.str s38 (569 : Nat)) (Value.ref (322 : Nat))), (DictEntry.mk (PyData.keyHash P s170) (Value.str s170 (575 : Nat)) (Value.ref (327 : Nat))), (DictEntry.mk (PyData.keyHash P s39) (Value.str s39 (584 : Nat)) (Value.ref (334 : Nat))), (DictEntry.mk (PyData.keyHash P s171) (Value.str s171 (592 : Nat)) (Value.ref (341 : Nat))), (DictEntry.mk (PyData.keyHash P s40) (Value.str s40 (600 : Nat)) (Value.ref (348 : Nat))), (DictEntry.mk (PyData.keyHash P s172) (Value.str s172 (606 : Nat)) (Value.ref (353 : Nat))), (DictEntry.mk (PyData.keyHash P s173) (Value.str s173 (614 : Nat)) (Value.ref (360 : Nat))), (DictEntry.mk (PyData.keyHash P s174) (Value.str s174 (622 : Nat)) (Value.ref (367 : Nat))), (DictEntry.mk (PyData.keyHash P s175) (Value.str s175 (632 : Nat)) (Value.ref (374 : Nat))), (DictEntry.mk (PyData.keyHash P s35) (Value.str s35 (640 : Nat)) (Value.ref (381 : Nat))), (DictEntry.mk (PyData.keyHash P s33) (Value.str s33 (648 : Nat)) (Value.ref (388 : Nat))), (DictEntry.mk (PyData.keyHash P s44) (Value.str s44 (651 : Nat)) (Value.ref (389 : Nat)))]) (27 : Nat)) (List.toArray []))
noncomputable abbrev o_1131 (P : Params) : Obj := (Obj.mk (Value.type W.SL.s2766695959194262286x5) Option.none (Data.seq (List.toArray []) (0 : Nat)) (List.toArray []))
noncomputable abbrev o_1132 (P : Params) : Obj := (Obj.mk Value.none Option.none (Data.fields (List.toArray [(Value.int (144 : Int) (0 : Nat)), (Value.int (4 : Int) (0 : Nat)), (Value.ref (245 : Nat)), (Value.int (148 : Int) (0 : Nat)), (Value.int (4 : Int) (0 : Nat)), (Value.ref (252 : Nat)), (Value.int (151 : Int) (0 : Nat)), (Value.int (4 : Int) (0 : Nat)), (Value.ref (259 : Nat)), (Value.int (154 : Int) (0 : Nat)), (Value.int (4 : Int) (0 : Nat)), (Value.ref (264 : Nat)), (Value.int (162 : Int) (0 : Nat)), (Value.int (4 : Int) (0 : Nat)), (Value.ref (271 : Nat)), (Value.int (165 : Int) (0 : Nat)), (Value.int (4 : Int) (0 : Nat)), (Value.ref (278 : Nat)), (Value.int (168 : Int) (0 : Nat)), (Value.int (4 : Int) (0 : Nat)), (Value.ref (285 : Nat)), (Value.int (171 : Int) (0 : Nat)), (Value.int (4 : Int) (0 : Nat)), (Value.ref (290 : Nat)), (Value.int (184 : Int) (0 : Nat)), (Value.int (4 : Int) (0 : Nat)), (Value.ref (295 : Nat)), (Value.int (188 : Int) (0 : Nat)), (Value.int (4 : Int) (0 : Nat)), (Value.ref (300 : Nat)), (Value.int (198 : Int) (0 : Nat)), (Value.int (4 : Int) (0 : Nat)), (Value.ref (307 : Nat)), (Value.int (202 : Int) (0 : Nat)), (Value.int (4 : Int) (0 : Nat)), (Value.ref (314 : Nat)), (Value.int (205 : Int) (0 : Nat)), (Value.int (4 : Int) (0 : Nat)), (Value.ref (321 : Nat)), (Value.int (208 : Int) (0 : Nat)), (Value.int (4 : Int) (0 : Nat)), (Value.ref (326 : Nat)), (Value.int (218 : Int) (0 : Nat)), (Value.int (4 : Int) (0 : Nat)), (Value.ref (333 : Nat)), (Value.int (222 : Int) (0 : Nat)), (Value.int (4 : Int) (0 : Nat)), (Value.ref (340 : Nat)), (Value.int (225 : Int) (0 : Nat)), (Value.int (4 : Int) (0 : Nat)), (Value.ref (347 : Nat)), (Value.int (228 : Int) (0 : Nat)), (Value.int (4 : Int) (0 : Nat)), (Value.ref (352 : Nat)), (Value.int (237 : Int) (0 : Nat)), (Value.int (4 : Int) (0 : Nat)), (Value.ref (359 : Nat)), (Value.int (240 : Int) (0 : Nat)), (Value.int (4 : Int) (0 : Nat)), (Value.ref (366 : Nat)), (Value.int (243 : Int) (0 : Nat)), (Value.int (4 : Int) (0 : Nat)), (Value.ref (373 : Nat)), (Value.int (257 : Int) (0 : Nat)), (Value.int (4 : Int) (0 : Nat)), (Value.ref (380 : Nat)), (Value.int (264 : Int) (0 : Nat)), (Value.int (4 : Int) (0 : Nat)), (Value.ref (387 : Nat))])) (List.toArray []))
noncomputable abbrev o_1133 (P : Params) : Obj := (Obj.mk (Value.type W.SL.s5856160107412720595x4) Option.none (Data.fields (List.toArray [(Value.str s17 (463 : Nat)), (Value.str s17 (464 : Nat)), (Value.str s1 (465 : Nat)), (Value.int (142 : Int) (0 : Nat)), (Value.int (0 : Int) (0 : Nat)), (Value.int (0 : Int) (0 : Nat)), (Value.int (0 : Int) (0 : Nat)), (Value.int (0 : Int) (0 : Nat)), (Value.ref (236 : Nat)), (Value.bool Bool.false), (Value.int (181 : Int) (0 : Nat)), (Value.ref (237 : Nat)), Value.none, Value.none, Value.none, Value.none, (Value.int (466 : Int) (0 : Nat)), (Value.int (142 : Int) (0 : Nat)), (Value.str s1 (467 : Nat))])) (List.toArray []))
noncomputable abbrev o_1134 (P : Params) : Obj := (Obj.mk (Value.type W.SL.s658472552662922059x5) Option.none Data.plain (List.toArray [(Option.some (Value.ref (238 : Nat))), (Option.some (Value.ref (3 : Nat))), (Option.some (Value.ref (235 : Nat))), Option.none, (Option.some (Value.str s144 (398 : Nat))), Option.none, (Option.some (Value.ref (0 : Nat)))]))
noncomputable abbrev o_1135 (P : Params) : Obj := (Obj.mk (Value.type W.SL.s2766695959194262286x5) Option.none (Data.seq (List.toArray []) (0 : Nat)) (List.toArray []))
noncomputable abbrev o_1136 (P : Params) : Obj := (Obj.mk Value.none Option.none (Data.fields (List.toArray [])) (List.toArray []))
noncomputable abbrev o_1137 (P : Params) : Obj := (Obj.mk (Value.type W.SL.s2766695959194262286x5) Option.none (Data.seq (List.toArray [(Value.str s45 (476 : Nat)), (Value.str s46 (477 : Nat)), (Value.str s154 (478 : Nat))]) (0 : Nat)) (List.toArray []))
noncomputable abbrev o_1138 (P : Params) : Obj := (Obj.mk (Value.type W.SL.s2766695959194262286x5) Option.none (Data.seq (List.toArray []) (0 : Nat)) (List.toArray []))
noncomputable abbrev s176 : Str := ⟨⟨[nat_lit 80, nat_lit 111, nat_lit 108, nat_lit 121, nat_lit 110, nat_lit 111, nat_lit 109, nat_lit 105, nat_lit 97, nat_lit 108, nat_lit 71, nat_lit 101, nat_lit 110, nat_lit 101, nat_lit 114, nat_lit 105, nat_lit 99, nat_lit 46, nat_lit 95, nat_lit 95, nat_lit 105, nat_lit 110, nat_lit 105, nat_lit 116, nat_lit 95, nat_lit 95]⟩⟩
noncomputable abbrev s177 : Str := ⟨⟨[nat_lit 99, nat_lit 111, nat_lit 101, nat_lit 102, nat_lit 102, nat_lit 115]⟩⟩
noncomputable abbrev d178 : FuncBody := (FuncBody.stmts [(Stmt.Assign [(Expr.Attribute (Expr.Name s45 (Pos.mk 145 8 145 12)) s46 (Pos.mk 145 8 145 19))] (Expr.Name s46 (Pos.mk 145 22 145 28)) (Pos.mk 145 8 145 28)), (Stmt.Assign [(Expr.Attribute (Expr.Name s45 (Pos.mk 146 8 146 12)) s177 (Pos.mk 146 8 146 19))] (Expr.Call (Expr.Attribute (Expr.Name s45 (Pos.mk 146 22 146 26)) s164 (Pos.mk 146 22 146 46)) [(Expr.Name s154 (Pos.mk 146 47 146 59))] [] (Pos.mk 146 22 146 60)) (Pos.mk 146 8 146 60))])
noncomputable abbrev o_1139 (P : Params) : Obj := (Obj.mk Value.none Option.none (Data.func (FuncData.mk s26 s176 (Arguments.mk [] [(Arg.mk s45 Option.none (Pos.mk 144 17 144 21)), (Arg.mk s46 Option.none (Pos.mk 144 23 144 29)), (Arg.mk s154 Option.none (Pos.mk 144 31 144 43))] Option.none [] [] Option.none []) d178 (Scope.mk ScopeKind.function [(Prod.mk s45 NameKind.local), (Prod.mk s46 NameKind.local), (Prod.mk s154 NameKind.local)] Bool.false Bool.false []) (0 : Nat) [] Value.none Value.none Value.none Value.none Option.none Value.none Value.none (0 : Nat))) (List.toArray []))
noncomputable abbrev o_1140 (P : Params) : Obj := (Obj.mk (Value.type W.SL.s5856160107412720595x4) Option.none (Data.fields (List.toArray [(Value.str s26 (473 : Nat)), (Value.str s176 (474 : Nat)), (Value.str s1 (475 : Nat)), (Value.int (144 : Int) (0 : Nat)), (Value.int (3 : Int) (0 : Nat)), (Value.int (0 : Int) (0 : Nat)), (Value.int (0 : Int) (0 : Nat)), (Value.int (3 : Int) (0 : Nat)), (Value.ref (240 : Nat)), (Value.bool Bool.true), (Value.int (181 : Int) (0 : Nat)), (Value.ref (241 : Nat)), Value.none, (Value.ref (242 : Nat)), (Value.ref (243 : Nat)), (Value.ref (244 : Nat)), (Value.int (479 : Int) (0 : Nat)), (Value.int (144 : Int) (0 : Nat)), (Value.str s1 (480 : Nat))])) (List.toArray []))
noncomputable abbrev o_1141 (P : Params) : Obj := (Obj.mk (Value.type W.SL.s7174869446012820540x8) Option.none (Data.func (FuncData.mk s26 s176 (Arguments.mk [] [(Arg.mk s45 Option.none (Pos.mk 144 17 144 21)), (Arg.mk s46 Option.none (Pos.mk 144 23 144 29)), (Arg.mk s154 Option.none (Pos.mk 144 31 144 43))] Option.none [] [] Option.none []) d178 (Scope.mk ScopeKind.function [(Prod.mk s45 NameKind.local), (Prod.mk s46 NameKind.local), (Prod.mk s154 NameKind.local)] Bool.false Bool.false []) (3 : Nat) [] Value.none Value.none Value.none (Value.str s144 (398 : Nat)) Option.none (Value.ref (245 : Nat)) Value.none (0 : Nat))) (List.toArray []))
noncomputable abbrev o_1142 (P : Params) : Obj := (Obj.mk (Value.type W.SL.s2766695959194262286x5) Option.none (Data.seq (List.toArray []) (0 : Nat)) (List.toArray []))
noncomputable abbrev o_1143 (P : Params) : Obj := (Obj.mk Value.none Option.none (Data.fields (List.toArray [])) (List.toArray []))
noncomputable abbrev o_1144 (P : Params) : Obj := (Obj.mk (Value.type W.SL.s2766695959194262286x5) Option.none (Data.seq (List.toArray [(Value.str s45 (485 : Nat))]) (0 : Nat)) (List.toArray []))
noncomputable abbrev o_1145 (P : Params) : Obj := (Obj.mk (Value.type W.SL.s2766695959194262286x5) Option.none (Data.seq (List.toArray []) (0 : Nat)) (List.toArray []))
noncomputable abbrev s179 : Str := ⟨⟨[nat_lit 80, nat_lit 111, nat_lit 108, nat_lit 121, nat_lit 110, nat_lit 111, nat_lit 109, nat_lit 105, nat_lit 97, nat_lit 108, nat_lit 71, nat_lit 101, nat_lit 110, nat_lit 101, nat_lit 114, nat_lit 105, nat_lit 99, nat_lit 46, nat_lit 105, nat_lit 115, nat_lit 95, nat_lit 122, nat_lit 101, nat_lit 114, nat_lit 111]⟩⟩
noncomputable abbrev s180 : Str := ⟨⟨[nat_lit 99]⟩⟩
noncomputable abbrev d181 : Scope := (Scope.mk ScopeKind.function [(Prod.mk s58 NameKind.local), (Prod.mk s180 NameKind.local)] Bool.true Bool.false [])
noncomputable abbrev d182 : FuncBody := (FuncBody.stmts [(Stmt.Return (Option.some (Expr.Call (Expr.Name s86 (Pos.mk 149 15 149 18)) [(Expr.GeneratorExp (Expr.Compare (Expr.Name s180 (Pos.mk 149 20 149 21)) [CmpOp.Eq] [(Expr.Constant (Const.int (0 : Int)) 0 (Pos.mk 149 25 149 26))] (Pos.mk 149 20 149 26)) [(Comprehension.mk (Expr.Name s180 (Pos.mk 149 31 149 32)) (Expr.Attribute (Expr.Name s45 (Pos.mk 149 36 149 40)) s177 (Pos.mk 149 36 149 47)) [] (0 : Int))] d181 (Pos.mk 149 19 149 48))] [] (Pos.mk 149 15 149 49))) (Pos.mk 149 8 149 49))])
noncomputable abbrev d183 : Scope := (Scope.mk ScopeKind.function [(Prod.mk s45 NameKind.local), (Prod.mk s86 NameKind.globalImplicit)] Bool.false Bool.false [])
noncomputable abbrev o_1146 (P : Params) : Obj := (Obj.mk Value.none Option.none (Data.func (FuncData.mk s162 s179 (Arguments.mk [] [(Arg.mk s45 Option.none (Pos.mk 148 16 148 20))] Option.none [] [] Option.none []) d182 d183 (0 : Nat) [] Value.none Value.none Value.none Value.none Option.none Value.none Value.none (0 : Nat))) (List.toArray []))
noncomputable abbrev o_1147 (P : Params) : Obj := (Obj.mk (Value.type W.SL.s5856160107412720595x4) Option.none (Data.fields (List.toArray [(Value.str s162 (482 : Nat)), (Value.str s179 (483 : Nat)), (Value.str s1 (484 : Nat)), (Value.int (148 : Int) (0 : Nat)), (Value.int (1 : Int) (0 : Nat)), (Value.int (0 : Int) (0 : Nat)), (Value.int (0 : Int) (0 : Nat)), (Value.int (3 : Int) (0 : Nat)), (Value.ref (247 : Nat)), (Value.bool Bool.true), (Value.int (181 : Int) (0 : Nat)), (Value.ref (248 : Nat)), Value.none, (Value.ref (249 : Nat)), (Value.ref (250 : Nat)), (Value.ref (251 : Nat)), (Value.int (486 : Int) (0 : Nat)), (Value.int (148 : Int) (0 : Nat)), (Value.str s1 (487 : Nat))])) (List.toArray []))
noncomputable abbrev o_1148 (P : Params) : Obj := (Obj.mk (Value.type W.SL.s7174869446012820540x8) Option.none (Data.func (FuncData.mk s162 s179 (Arguments.mk [] [(Arg.mk s45 Option.none (Pos.mk 148 16 148 20))] Option.none [] [] Option.none []) d182 d183 (3 : Nat) [] Value.none Value.none Value.none (Value.str s144 (398 : Nat)) Option.none (Value.ref (252 : Nat)) Value.none (0 : Nat))) (List.toArray []))
noncomputable abbrev o_1149 (P : Params) : Obj := (Obj.mk (Value.type W.SL.s2766695959194262286x5) Option.none (Data.seq (List.toArray []) (0 : Nat)) (List.toArray []))
noncomputable abbrev o_1150 (P : Params) : Obj := (Obj.mk Value.none Option.none (Data.fields (List.toArray [])) (List.toArray []))
noncomputable abbrev o_1151 (P : Params) : Obj := (Obj.mk (Value.type W.SL.s2766695959194262286x5) Option.none (Data.seq (List.toArray [(Value.str s45 (492 : Nat))]) (0 : Nat)) (List.toArray []))
noncomputable abbrev o_1152 (P : Params) : Obj := (Obj.mk (Value.type W.SL.s2766695959194262286x5) Option.none (Data.seq (List.toArray []) (0 : Nat)) (List.toArray []))
noncomputable abbrev s184 : Str := ⟨⟨[nat_lit 80, nat_lit 111, nat_lit 108, nat_lit 121, nat_lit 110, nat_lit 111, nat_lit 109, nat_lit 105, nat_lit 97, nat_lit 108, nat_lit 71, nat_lit 101, nat_lit 110, nat_lit 101, nat_lit 114, nat_lit 105, nat_lit 99, nat_lit 46, nat_lit 105, nat_lit 115, nat_lit 95, nat_lit 99, nat_lit 111, nat_lit 110, nat_lit 115, nat_lit 116, nat_lit 97, nat_lit 110, nat_lit 116]⟩⟩
noncomputable abbrev d185 : FuncBody := (FuncBody.stmts [(Stmt.Return (Option.some (Expr.Call (Expr.Name s86 (Pos.mk 152 15 152 18)) [(Expr.GeneratorExp (Expr.Compare (Expr.Name s180 (Pos.mk 152 20 152 21)) [CmpOp.Eq] [(Expr.Constant (Const.int (0 : Int)) 0 (Pos.mk 152 25 152 26))] (Pos.mk 152 20 152 26)) [(Comprehension.mk (Expr.Name s180 (Pos.mk 152 31 152 32)) (Expr.Subscript (Expr.Attribute (Expr.Name s45 (Pos.mk 152 36 152 40)) s177 (Pos.mk 152 36 152 47)) (Expr.Slice (Option.some (Expr.Constant (Const.int (1 : Int)) 0 (Pos.mk 152 48 152 49))) Option.none Option.none (Pos.mk 152 48 152 50)) (Pos.mk 152 36 152 51)) [] (0 : Int))] d181 (Pos.mk 152 19 152 52))] [] (Pos.mk 152 15 152 53))) (Pos.mk 152 8 152 53))])
noncomputable abbrev o_1153 (P : Params) : Obj := (Obj.mk Value.none Option.none (Data.func (FuncData.mk s163 s184 (Arguments.mk [] [(Arg.mk s45 Option.none (Pos.mk 151 20 151 24))] Option.none [] [] Option.none []) d185 d183 (0 : Nat) [] Value.none Value.none Value.none Value.none Option.none Value.none Value.none (0 : Nat))) (List.toArray []))
noncomputable abbrev o_1154 (P : Params) : Obj := (Obj.mk (Value.type W.SL.s5856160107412720595x4) Option.none (Data.fields (List.toArray [(Value.str s163 (489 : Nat)), (Value.str s184 (490 : Nat)), (Value.str s1 (491 : Nat)), (Value.int (151 : Int) (0 : Nat)), (Value.int (1 : Int) (0 : Nat)), (Value.int (0 : Int) (0 : Nat)), (Value.int (0 : Int) (0 : Nat)), (Value.int (3 : Int) (0 : Nat)), (Value.ref (254 : Nat)), (Value.bool Bool.true), (Value.int (181 : Int) (0 : Nat)), (Value.ref (255 : Nat)), Value.none, (Value.ref (256 : Nat)), (Value.ref (257 : Nat)), (Value.ref (258 : Nat)), (Value.int (493 : Int) (0 : Nat)), (Value.int (151 : Int) (0 : Nat)), (Value.str s1 (494 : Nat))])) (List.toArray []))
noncomputable abbrev o_1155 (P : Params) : Obj := (Obj.mk (Value.type W.SL.s7174869446012820540x8) Option.none (Data.func (FuncData.mk s163 s184 (Arguments.mk [] [(Arg.mk s45 Option.none (Pos.mk 151 20 151 24))] Option.none [] [] Option.none []) d185 d183 (3 : Nat) [] Value.none Value.none Value.none (Value.str s144 (398 : Nat)) Option.none (Value.ref (259 : Nat)) Value.none (0 : Nat))) (List.toArray []))
noncomputable abbrev o_1156 (P : Params) : Obj := (Obj.mk (Value.type W.SL.s2766695959194262286x5) Option.none (Data.seq (List.toArray []) (0 : Nat)) (List.toArray []))
noncomputable abbrev o_1157 (P : Params) : Obj := (Obj.mk Value.none Option.none (Data.fields (List.toArray [])) (List.toArray []))
noncomputable abbrev s186 : Str := ⟨⟨[nat_lit 80, nat_lit 111, nat_lit 108, nat_lit 121, nat_lit 110, nat_lit 111, nat_lit 109, nat_lit 105, nat_lit 97, nat_lit 108, nat_lit 71, nat_lit 101, nat_lit 110, nat_lit 101, nat_lit 114, nat_lit 105, nat_lit 99, nat_lit 46, nat_lit 95, nat_lit 112, nat_lit 97, nat_lit 114, nat_lit 115, nat_lit 101, nat_lit 95, nat_lit 99, nat_lit 111, nat_lit 101, nat_lit 102, nat_lit 102, nat_lit 105, nat_lit 99, nat_lit 105, nat_lit 101, nat_lit 110, nat_lit 116, nat_lit 115]⟩⟩
noncomputable abbrev s187 : Str := ⟨⟨[nat_lit 67, nat_lit 111, nat_lit 101, nat_lit 102, nat_lit 102, nat_lit 105, nat_lit 99, nat_lit 105, nat_lit 101, nat_lit 110, nat_lit 116, nat_lit 115, nat_lit 32, nat_lit 100, nat_lit 101, nat_lit 115, nat_lit 99, nat_lit 114, nat_lit 105, nat_lit 98, nat_lit 101, nat_lit 32, nat_lit 112, nat_lit 111, nat_lit 108, nat_lit 121, nat_lit 110, nat_lit 111, nat_lit 109, nat_lit 105, nat_lit 97, nat_lit 108, nat_lit 32, nat_lit 111, nat_lit 102, nat_lit 32, nat_lit 100, nat_lit 101, nat_lit 103, nat_lit 114, nat_lit 101, nat_lit 101, nat_lit 32, nat_lit 103, nat_lit 114, nat_lit 101, nat_lit 97, nat_lit 116, nat_lit 101, nat_lit 114, nat_lit 32, nat_lit 116, nat_lit 104, nat_lit 97, nat_lit 110, nat_lit 32, nat_lit 109, nat_lit 97, nat_lit 120, nat_lit 105, nat_lit 109, nat_lit 117, nat_lit 109, nat_lit 32, nat_lit 100, nat_lit 101, nat_lit 103, nat_lit 114, nat_lit 101, nat_lit 101, nat_lit 32]⟩⟩
noncomputable abbrev s188 : Str := ⟨⟨[nat_lit 95]⟩⟩
noncomputable abbrev d189 : Scope := (Scope.mk ScopeKind.function [(Prod.mk s58 NameKind.local), (Prod.mk s188 NameKind.local)] Bool.false Bool.false [])
noncomputable abbrev d190 : FuncBody := (FuncBody.stmts [(Stmt.Assign [(Expr.Name s112 (Pos.mk 155 8 155 9))] (Expr.Call (Expr.Name s55 (Pos.mk 155 12 155 15)) [(Expr.Name s154 (Pos.mk 155 16 155 28))] [] (Pos.mk 155 12 155 29)) (Pos.mk 155 8 155 29)), (Stmt.If (Expr.Compare (Expr.Name s112 (Pos.mk 156 11 156 12)) [CmpOp.Gt] [(Expr.Attribute (Expr.Attribute (Expr.Name s45 (Pos.mk 156 15 156 19)) s46 (Pos.mk 156 15 156 26)) s84 (Pos.mk 156 15 156 28))] (Pos.mk 156 11 156 28)) [(Stmt.Raise (Option.some (Expr.Call (Expr.Name s51 (Pos.mk 157 18 157 28)) [(Expr.JoinedStr [(Expr.Constant (Const.str s187) 0 (Pos.mk 157 31 157 102)), (Expr.FormattedValue (Expr.Attribute (Expr.Attribute (Expr.Name s45 (Pos.mk 157 103 157 107)) s46 (Pos.mk 157 103 157 114)) s84 (Pos.mk 157 103 157 116)) (Neg.neg (1 : Int)) Option.none (Pos.mk 157 102 157 117))] (Pos.mk 157 29 157 118))] [] (Pos.mk 157 18 157 119))) Option.none (Pos.mk 157 12 157 119))] [(Stmt.If (Expr.Compare (Expr.Name s112 (Pos.mk 158 13 158 14)) [CmpOp.Lt] [(Expr.Attribute (Expr.Attribute (Expr.Name s45 (Pos.mk 158 17 158 21)) s46 (Pos.mk 158 17 158 28)) s84 (Pos.mk 158 17 158 30))] (Pos.mk 158 13 158 30)) [(Stmt.Assign [(Expr.Name s154 (Pos.mk 159 12 159 24))] (Expr.BinOp (Expr.Name s154 (Pos.mk 159 27 159 39)) Operator.Add (Expr.ListComp (Expr.Constant (Const.int (0 : Int)) 0 (Pos.mk 159 43 159 44)) [(Comprehension.mk (Expr.Name s188 (Pos.mk 159 49 159 50)) (Expr.Call (Expr.Name s89 (Pos.mk 159 54 159 59)) [(Expr.BinOp (Expr.Attribute (Expr.Attribute (Expr.Name s45 (Pos.mk 159 60 159 64)) s46 (Pos.mk 159 60 159 71)) s84 (Pos.mk 159 60 159 73)) Operator.Sub (Expr.Name s112 (Pos.mk 159 76 159 77)) (Pos.mk 159 60 159 77))] [] (Pos.mk 159 54 159 78)) [] (0 : Int))] d189 (Pos.mk 159 42 159 79)) (Pos.mk 159 27 159 79)) (Pos.mk 159 12 159 79))] [] (Pos.mk 158 8 159 79))] (Pos.mk 156 8 159 79)), (Stmt.Return (Option.some (Expr.Name s154 (Pos.mk 160 15 160 27))) (Pos.mk 160 8 160 27))])
noncomputable abbrev o_1158 (P : Params) : Obj := (Obj.mk Value.none Option.none (Data.func (FuncData.mk s164 s186 (Arguments.mk [] [(Arg.mk s45 Option.none (Pos.mk 154 28 154 32)), (Arg.mk s154 Option.none (Pos.mk 154 34 154 46))] Option.none [] [] Option.none []) d190 (Scope.mk ScopeKind.function [(Prod.mk s45 NameKind.local), (Prod.mk s154 NameKind.local), (Prod.mk s112 NameKind.local), (Prod.mk s55 NameKind.globalImplicit), (Prod.mk s51 NameKind.globalImplicit), (Prod.mk s89 NameKind.globalImplicit)] Bool.false Bool.false [(Prod.mk s60 (Const.str s45)), (Prod.mk s60 (Const.str s154)), (Prod.mk s60 (Const.str s112)), (Prod.mk s60 (Const.str s188))]) (0 : Nat) [] Value.none Value.none Value.none Value.none Option.none Value.none Value.none (0 : Nat))) (List.toArray []))
noncomputable abbrev o_1159 (P : Params) : Obj := (Obj.mk (Value.type W.SL.s5856160107412720595x4) Option.none (Data.fields (List.toArray [(Value.str s164 (496 : Nat)), (Value.str s186 (497 : Nat)), (Value.str s1 (498 : Nat)), (Value.int (154 : Int) (0 : Nat)), (Value.int (2 : Int) (0 : Nat)), (Value.int (0 : Int) (0 : Nat)), (Value.int (0 : Int) (0 : Nat)), (Value.int (3 : Int) (0 : Nat)), (Value.ref (261 : Nat)), (Value.bool Bool.true), (Value.int (181 : Int) (0 : Nat)), (Value.ref (262 : Nat)), Value.none, Value.none, Value.none, (Value.ref (263 : Nat)), (Value.int (499 : Int) (0 : Nat)), (Value.int (154 : Int) (0 : Nat)), (Value.str s1 (500 : Nat))])) (List.toArray []))
noncomputable abbrev o_1160 (P : Params) : Obj := (Obj.mk (Value.type W.SL.s7174869446012820540x8) Option.none (Data.func (FuncData.mk s164 s186 (Arguments.mk [] [(Arg.mk s45 Option.none (Pos.mk 154 28 154 32)), (Arg.mk s154 Option.none (Pos.mk 154 34 154 46))] Option.none [] [] Option.none []) d190 (Scope.mk ScopeKind.function [(Prod.mk s45 NameKind.local), (Prod.mk s154 NameKind.local), (Prod.mk s112 NameKind.local), (Prod.mk s55 NameKind.globalImplicit), (Prod.mk s51 NameKind.globalImplicit), (Prod.mk s89 NameKind.globalImplicit)] Bool.false Bool.false [(Prod.mk s60 (Const.str s45)), (Prod.mk s60 (Const.str s154)), (Prod.mk s60 (Const.str s112)), (Prod.mk s60 (Const.str s188))]) (3 : Nat) [] Value.none Value.none Value.none (Value.str s144 (398 : Nat)) Option.none (Value.ref (264 : Nat)) Value.none (0 : Nat))) (List.toArray []))
noncomputable abbrev o_1161 (P : Params) : Obj := (Obj.mk (Value.type W.SL.s2766695959194262286x5) Option.none (Data.seq (List.toArray []) (0 : Nat)) (List.toArray []))
noncomputable abbrev o_1162 (P : Params) : Obj := (Obj.mk Value.none Option.none (Data.fields (List.toArray [])) (List.toArray []))
noncomputable abbrev o_1163 (P : Params) : Obj := (Obj.mk (Value.type W.SL.s2766695959194262286x5) Option.none (Data.seq (List.toArray [(Value.str s45 (505 : Nat))]) (0 : Nat)) (List.toArray []))
noncomputable abbrev o_1164 (P : Params) : Obj := (Obj.mk (Value.type W.SL.s2766695959194262286x5) Option.none (Data.seq (List.toArray []) (0 : Nat)) (List.toArray []))
noncomputable abbrev s191 : Str := ⟨⟨[nat_lit 80, nat_lit 111, nat_lit 108, nat_lit 121, nat_lit 110, nat_lit 111, nat_lit 109, nat_lit 105, nat_lit 97, nat_lit 108, nat_lit 71, nat_lit 101, nat_lit 110, nat_lit 101, nat_lit 114, nat_lit 105, nat_lit 99, nat_lit 46, nat_lit 114, nat_lit 101, nat_lit 100, nat_lit 117, nat_lit 99, nat_lit 101, nat_lit 95, nat_lit 99, nat_lit 111, nat_lit 101, nat_lit 102, nat_lit 102, nat_lit 105, nat_lit 99, nat_lit 105, nat_lit 101, nat_lit 110, nat_lit 116, nat_lit 115]⟩⟩
noncomputable abbrev d192 : Pos := (Pos.mk 163 8 163 16)
noncomputable abbrev d193 : FuncBody := (FuncBody.stmts [(Stmt.Expr (Expr.Call (Expr.Name s13 (Pos.mk 163 8 163 13)) [(Expr.Constant (Const.int (4 : Int)) 0 (Pos.mk 163 14 163 15))] [] d192) d192)])
noncomputable abbrev o_1165 (P : Params) : Obj := (Obj.mk Value.none Option.none (Data.func (FuncData.mk s32 s191 (Arguments.mk [] [(Arg.mk s45 Option.none (Pos.mk 162 28 162 32))] Option.none [] [] Option.none []) d193 d69 (0 : Nat) [] Value.none Value.none Value.none Value.none Option.none Value.none Value.none (0 : Nat))) (List.toArray []))
noncomputable abbrev o_1166 (P : Params) : Obj := (Obj.mk (Value.type W.SL.s5856160107412720595x4) Option.none (Data.fields (List.toArray [(Value.str s32 (502 : Nat)), (Value.str s191 (503 : Nat)), (Value.str s1 (504 : Nat)), (Value.int (162 : Int) (0 : Nat)), (Value.int (1 : Int) (0 : Nat)), (Value.int (0 : Int) (0 : Nat)), (Value.int (0 : Int) (0 : Nat)), (Value.int (3 : Int) (0 : Nat)), (Value.ref (266 : Nat)), (Value.bool Bool.true), (Value.int (181 : Int) (0 : Nat)), (Value.ref (267 : Nat)), Value.none, (Value.ref (268 : Nat)), (Value.ref (269 : Nat)), (Value.ref (270 : Nat)), (Value.int (506 : Int) (0 : Nat)), (Value.int (162 : Int) (0 : Nat)), (Value.str s1 (507 : Nat))])) (List.toArray []))
noncomputable abbrev o_1167 (P : Params) : Obj := (Obj.mk (Value.type W.SL.s7174869446012820540x8) Option.none (Data.func (FuncData.mk s32 s191 (Arguments.mk [] [(Arg.mk s45 Option.none (Pos.mk 162 28 162 32))] Option.none [] [] Option.none []) d193 d69 (3 : Nat) [] Value.none Value.none Value.none (Value.str s144 (398 : Nat)) Option.none (Value.ref (271 : Nat)) Value.none (0 : Nat))) (List.toArray []))
noncomputable abbrev o_1168 (P : Params) : Obj := (Obj.mk (Value.type W.SL.s2766695959194262286x5) Option.none (Data.seq (List.toArray []) (0 : Nat)) (List.toArray []))
noncomputable abbrev o_1169 (P : Params) : Obj := (Obj.mk Value.none Option.none (Data.fields (List.toArray [])) (List.toArray []))
noncomputable abbrev s194 : Str := ⟨⟨[nat_lit 120]⟩⟩
noncomputable abbrev s195 : Str := ⟨⟨[nat_lit 121]⟩⟩
noncomputable abbrev o_1170 (P : Params) : Obj := (Obj.mk (Value.type W.SL.s2766695959194262286x5) Option.none (Data.seq (List.toArray [(Value.str s45 (512 : Nat)), (Value.str s194 (513 : Nat)), (Value.str s195 (514 : Nat))]) (0 : Nat)) (List.toArray []))
noncomputable abbrev o_1171 (P : Params) : Obj := (Obj.mk (Value.type W.SL.s2766695959194262286x5) Option.none (Data.seq (List.toArray []) (0 : Nat)) (List.toArray []))
noncomputable abbrev s196 : Str := ⟨⟨[nat_lit 80, nat_lit 111, nat_lit 108, nat_lit 121, nat_lit 110, nat_lit 111, nat_lit 109, nat_lit 105, nat_lit 97, nat_lit 108, nat_lit 71, nat_lit 101, nat_lit 110, nat_lit 101, nat_lit 114, nat_lit 105, nat_lit 99, nat_lit 46, nat_lit 95, nat_lit 97, nat_lit 100, nat_lit 100, nat_lit 95, nat_lit 109, nat_lit 111, nat_lit 100, nat_lit 95, nat_lit 113]⟩⟩
noncomputable abbrev d197 : FuncBody := (FuncBody.stmts [(Stmt.Return (Option.some (Expr.BinOp (Expr.BinOp (Expr.Name s194 (Pos.mk 166 16 166 17)) Operator.Add (Expr.Name s195 (Pos.mk 166 20 166 21)) (Pos.mk 166 16 166 21)) Operator.Mod (Expr.Attribute (Expr.Attribute (Expr.Name s45 (Pos.mk 166 25 166 29)) s46 (Pos.mk 166 25 166 36)) s147 (Pos.mk 166 25 166 38)) (Pos.mk 166 15 166 38))) (Pos.mk 166 8 166 38))])
noncomputable abbrev d198 : Scope := (Scope.mk ScopeKind.function [(Prod.mk s45 NameKind.local), (Prod.mk s194 NameKind.local), (Prod.mk s195 NameKind.local)] Bool.false Bool.false [])
noncomputable abbrev o_1172 (P : Params) : Obj := (Obj.mk Value.none Option.none (Data.func (FuncData.mk s165 s196 (Arguments.mk [] [(Arg.mk s45 Option.none (Pos.mk 165 19 165 23)), (Arg.mk s194 Option.none (Pos.mk 165 25 165 26)), (Arg.mk s195 Option.none (Pos.mk 165 28 165 29))] Option.none [] [] Option.none []) d197 d198 (0 : Nat) [] Value.none Value.none Value.none Value.none Option.none Value.none Value.none (0 : Nat))) (List.toArray []))
noncomputable abbrev o_1173 (P : Params) : Obj := (Obj.mk (Value.type W.SL.s5856160107412720595x4) Option.none (Data.fields (List.toArray [(Value.str s165 (509 : Nat)), (Value.str s196 (510 : Nat)), (Value.str s1 (511 : Nat)), (Value.int (165 : Int) (0 : Nat)), (Value.int (3 : Int) (0 : Nat)), (Value.int (0 : Int) (0 : Nat)), (Value.int (0 : Int) (0 : Nat)), (Value.int (3 : Int) (0 : Nat)), (Value.ref (273 : Nat)), (Value.bool Bool.true), (Value.int (181 : Int) (0 : Nat)), (Value.ref (274 : Nat)), Value.none, (Value.ref (275 : Nat)), (Value.ref (276 : Nat)), (Value.ref (277 : Nat)), (Value.int (515 : Int) (0 : Nat)), (Value.int (165 : Int) (0 : Nat)), (Value.str s1 (516 : Nat))])) (List.toArray []))
noncomputable abbrev o_1174 (P : Params) : Obj := (Obj.mk (Value.type W.SL.s7174869446012820540x8) Option.none (Data.func (FuncData.mk s165 s196 (Arguments.mk [] [(Arg.mk s45 Option.none (Pos.mk 165 19 165 23)), (Arg.mk s194 Option.none (Pos.mk 165 25 165 26)), (Arg.mk s195 Option.none (Pos.mk 165 28 165 29))] Option.none [] [] Option.none []) d197 d198 (3 : Nat) [] Value.none Value.none Value.none (Value.str s144 (398 : Nat)) Option.none (Value.ref (278 : Nat)) Value.none (0 : Nat))) (List.toArray []))
noncomputable abbrev o_1175 (P : Params) : Obj := (Obj.mk (Value.type W.SL.s2766695959194262286x5) Option.none (Data.seq (List.toArray []) (0 : Nat)) (List.toArray []))
noncomputable abbrev o_1176 (P : Params) : Obj := (Obj.mk Value.none Option.none (Data.fields (List.toArray [])) (List.toArray []))
noncomputable abbrev o_1177 (P : Params) : Obj := (Obj.mk (Value.type W.SL.s2766695959194262286x5) Option.none (Data.seq (List.toArray [(Value.str s45 (521 : Nat)), (Value.str s194 (522 : Nat)), (Value.str s195 (523 : Nat))]) (0 : Nat)) (List.toArray []))
noncomputable abbrev o_1178 (P : Params) : Obj := (Obj.mk (Value.type W.SL.s2766695959194262286x5) Option.none (Data.seq (List.toArray []) (0 : Nat)) (List.toArray []))
noncomputable abbrev s199 : Str := ⟨⟨[nat_lit 80, nat_lit 111, nat_lit 108, nat_lit 121, nat_lit 110, nat_lit 111, nat_lit 109, nat_lit 105, nat_lit 97, nat_lit 108, nat_lit 71, nat_lit 101, nat_lit 110, nat_lit 101, nat_lit 114, nat_lit 105, nat_lit 99, nat_lit 46, nat_lit 95, nat_lit 115, nat_lit 117, nat_lit 98, nat_lit 95, nat_lit 109, nat_lit 111, nat_lit 100, nat_lit 95, nat_lit 113]⟩⟩
noncomputable abbrev d200 : FuncBody := (FuncBody.stmts [(Stmt.Return (Option.some (Expr.BinOp (Expr.BinOp (Expr.Name s194 (Pos.mk 169 16 169 17)) Operator.Sub (Expr.Name s195 (Pos.mk 169 20 169 21)) (Pos.mk 169 16 169 21)) Operator.Mod (Expr.Attribute (Expr.Attribute (Expr.Name s45 (Pos.mk 169 25 169 29)) s46 (Pos.mk 169 25 169 36)) s147 (Pos.mk 169 25 169 38)) (Pos.mk 169 15 169 38))) (Pos.mk 169 8 169 38))])
noncomputable abbrev o_1179 (P : Params) : Obj := (Obj.mk Value.none Option.none (Data.func (FuncData.mk s166 s199 (Arguments.mk [] [(Arg.mk s45 Option.none (Pos.mk 168 19 168 23)), (Arg.mk s194 Option.none (Pos.mk 168 25 168 26)), (Arg.mk s195 Option.none (Pos.mk 168 28 168 29))] Option.none [] [] Option.none []) d200 d198 (0 : Nat) [] Value.none Value.none Value.none Value.none Option.none Value.none Value.none (0 : Nat))) (List.toArray []))
noncomputable abbrev o_1180 (P : Params) : Obj := (Obj.mk (Value.type W.SL.s5856160107412720595x4) Option.none (Data.fields (List.toArray [(Value.str s166 (518 : Nat)), (Value.str s199 (519 : Nat)), (Value.str s1 (520 : Nat)), (Value.int (168 : Int) (0 : Nat)), (Value.int (3 : Int) (0 : Nat)), (Value.int (0 : Int) (0 : Nat)), (Value.int (0 : Int) (0 : Nat)), (Value.int (3 : Int) (0 : Nat)), (Value.ref (280 : Nat)), (Value.bool Bool.true), (Value.int (181 : Int) (0 : Nat)), (Value.ref (281 : Nat)), Value.none, (Value.ref (282 : Nat)), (Value.ref (283 : Nat)), (Value.ref (284 : Nat)), (Value.int (524 : Int) (0 : Nat)), (Value.int (168 : Int) (0 : Nat)), (Value.str s1 (525 : Nat))])) (List.toArray []))
noncomputable abbrev o_1181 (P : Params) : Obj := (Obj.mk (Value.type W.SL.s7174869446012820540x8) Option.none (Data.func (FuncData.mk s166 s199 (Arguments.mk [] [(Arg.mk s45 Option.none (Pos.mk 168 19 168 23)), (Arg.mk s194 Option.none (Pos.mk 168 25 168 26)), (Arg.mk s195 Option.none (Pos.mk 168 28 168 29))] Option.none [] [] Option.none []) d200 d198 (3 : Nat) [] Value.none Value.none Value.none (Value.str s144 (398 : Nat)) Option.none (Value.ref (285 : Nat)) Value.none (0 : Nat))) (List.toArray []))
noncomputable abbrev o_1182 (P : Params) : Obj := (Obj.mk (Value.type W.SL.s2766695959194262286x5) Option.none (Data.seq (List.toArray []) (0 : Nat)) (List.toArray []))
noncomputable abbrev o_1183 (P : Params) : Obj := (Obj.mk Value.none Option.none (Data.fields (List.toArray [])) (List.toArray []))
noncomputable abbrev s201 : Str := ⟨⟨[nat_lit 80, nat_lit 111, nat_lit 108, nat_lit 121, nat_lit 110, nat_lit 111, nat_lit 109, nat_lit 105, nat_lit 97, nat_lit 108, nat_lit 71, nat_lit 101, nat_lit 110, nat_lit 101, nat_lit 114, nat_lit 105, nat_lit 99, nat_lit 46, nat_lit 95, nat_lit 115, nat_lit 99, nat_lit 104, nat_lit 111, nat_lit 111, nat_lit 108, nat_lit 98, nat_lit 111, nat_lit 111, nat_lit 107, nat_lit 95, nat_lit 109, nat_lit 117, nat_lit 108, nat_lit 116, nat_lit 105, nat_lit 112, nat_lit 108, nat_lit 105, nat_lit 99, nat_lit 97, nat_lit 116, nat_lit 105, nat_lit 111, nat_lit 110]⟩⟩
noncomputable abbrev s202 : Str := ⟨⟨[nat_lit 97]⟩⟩
noncomputable abbrev s203 : Str := ⟨⟨[nat_lit 98]⟩⟩
noncomputable abbrev s204 : Str := ⟨⟨[nat_lit 110, nat_lit 101, nat_lit 119, nat_lit 95, nat_lit 99, nat_lit 111, nat_lit 101, nat_lit 102, nat_lit 102, nat_lit 115]⟩⟩
noncomputable abbrev d205 : FuncBody := (FuncBody.stmts [(Stmt.Assign [(Expr.Name s84 (Pos.mk 172 8 172 9))] (Expr.Attribute (Expr.Attribute (Expr.Name s45 (Pos.mk 172 12 172 16)) s46 (Pos.mk 172 12 172 23)) s84 (Pos.mk 172 12 172 25)) (Pos.mk 172 8 172 25)), (Stmt.Assign [(Expr.Name s202 (Pos.mk 173 8 173 9))] (Expr.Attribute (Expr.Name s45 (Pos.mk 173 12 173 16)) s177 (Pos.mk 173 12 173 23)) (Pos.mk 173 8 173 23)), (Stmt.Assign [(Expr.Name s203 (Pos.mk 174 8 174 9))] (Expr.Attribute (Expr.Name s82 (Pos.mk 174 12 174 17)) s177 (Pos.mk 174 12 174 24)) (Pos.mk 174 8 174 24)), (Stmt.Assign [(Expr.Name s204 (Pos.mk 175 8 175 18))] (Expr.ListComp (Expr.Constant (Const.int (0 : Int)) 0 (Pos.mk 175 22 175 23)) [(Comprehension.mk (Expr.Name s188 (Pos.mk 175 28 175 29)) (Expr.Call (Expr.Name s89 (Pos.mk 175 33 175 38)) [(Expr.Name s84 (Pos.mk 175 39 175 40))] [] (Pos.mk 175 33 175 41)) [] (0 : Int))] d189 (Pos.mk 175 21 175 42)) (Pos.mk 175 8 175 42)), (Stmt.For (Expr.Name s87 (Pos.mk 176 12 176 13)) (Expr.Call (Expr.Name s89 (Pos.mk 176 17 176 22)) [(Expr.Name s84 (Pos.mk 176 23 176 24))] [] (Pos.mk 176 17 176 25)) [(Stmt.For (Expr.Name s88 (Pos.mk 177 16 177 17)) (Expr.Call (Expr.Name s89 (Pos.mk 177 21 177 26)) [(Expr.BinOp (Expr.Name s84 (Pos.mk 177 27 177 28)) Operator.Sub (Expr.Name s87 (Pos.mk 177 31 177 32)) (Pos.mk 177 27 177 32))] [] (Pos.mk 177 21 177 33)) [(Stmt.AugAssign (Expr.Subscript (Expr.Name s204 (Pos.mk 178 16 178 26)) (Expr.BinOp (Expr.Name s87 (Pos.mk 178 27 178 28)) Operator.Add (Expr.Name s88 (Pos.mk 178 31 178 32)) (Pos.mk 178 27 178 32)) (Pos.mk 178 16 178 33)) Operator.Add (Expr.BinOp (Expr.Subscript (Expr.Name s202 (Pos.mk 178 37 178 38)) (Expr.Name s87 (Pos.mk 178 39 178 40)) (Pos.mk 178 37 178 41)) Operator.Mult (Expr.Subscript (Expr.Name s203 (Pos.mk 178 44 178 45)) (Expr.Name s88 (Pos.mk 178 46 178 47)) (Pos.mk 178 44 178 48)) (Pos.mk 178 37 178 48)) (Pos.mk 178 16 178 48))] [] (Pos.mk 177 12 178 48))] [] (Pos.mk 176 8 178 48)), (Stmt.For (Expr.Name s88 (Pos.mk 179 12 179 13)) (Expr.Call (Expr.Name s89 (Pos.mk 179 17 179 22)) [(Expr.Constant (Const.int (1 : Int)) 0 (Pos.mk 179 23 179 24)), (Expr.Name s84 (Pos.mk 179 26 179 27))] [] (Pos.mk 179 17 179 28)) [(Stmt.For (Expr.Name s87 (Pos.mk 180 16 180 17)) (Expr.Call (Expr.Name s89 (Pos.mk 180 21 180 26)) [(Expr.BinOp (Expr.Name s84 (Pos.mk 180 27 180 28)) Operator.Sub (Expr.Name s88 (Pos.mk 180 31 180 32)) (Pos.mk 180 27 180 32)), (Expr.Name s84 (Pos.mk 180 34 180 35))] [] (Pos.mk 180 21 180 36)) [(Stmt.AugAssign (Expr.Subscript (Expr.Name s204 (Pos.mk 181 16 181 26)) (Expr.BinOp (Expr.BinOp (Expr.Name s87 (Pos.mk 181 27 181 28)) Operator.Add (Expr.Name s88 (Pos.mk 181 31 181 32)) (Pos.mk 181 27 181 32)) Operator.Sub (Expr.Name s84 (Pos.mk 181 35 181 36)) (Pos.mk 181 27 181 36)) (Pos.mk 181 16 181 37)) Operator.Sub (Expr.BinOp (Expr.Subscript (Expr.Name s202 (Pos.mk 181 41 181 42)) (Expr.Name s87 (Pos.mk 181 43 181 44)) (Pos.mk 181 41 181 45)) Operator.Mult (Expr.Subscript (Expr.Name s203 (Pos.mk 181 48 181 49)) (Expr.Name s88 (Pos.mk 181 50 181 51)) (Pos.mk 181 48 181 52)) (Pos.mk 181 41 181 52)) (Pos.mk 181 16 181 52))] [] (Pos.mk 180 12 181 52))] [] (Pos.mk 179 8 181 52)), (Stmt.Return (Option.some (Expr.ListComp (Expr.BinOp (Expr.Name s180 (Pos.mk 182 16 182 17)) Operator.Mod (Expr.Attribute (Expr.Attribute (Expr.Name s45 (Pos.mk 182 20 182 24)) s46 (Pos.mk 182 20 182 31)) s147 (Pos.mk 182 20 182 33)) (Pos.mk 182 16 182 33)) [(Comprehension.mk (Expr.Name s180 (Pos.mk 182 38 182 39)) (Expr.Name s204 (Pos.mk 182 43 182 53)) [] (0 : Int))] (Scope.mk ScopeKind.function [(Prod.mk s58 NameKind.local), (Prod.mk s180 NameKind.local), (Prod.mk s45 NameKind.free)] Bool.false Bool.false []) (Pos.mk 182 15 182 54))) (Pos.mk 182 8 182 54))])
noncomputable abbrev o_1184 (P : Params) : Obj := (Obj.mk Value.none Option.none (Data.func (FuncData.mk s167 s201 (Arguments.mk [] [(Arg.mk s45 Option.none (Pos.mk 171 35 171 39)), (Arg.mk s82 Option.none (Pos.mk 171 41 171 46))] Option.none [] [] Option.none []) d205 (Scope.mk ScopeKind.function [(Prod.mk s45 NameKind.cell), (Prod.mk s82 NameKind.local), (Prod.mk s84 NameKind.local), (Prod.mk s202 NameKind.local), (Prod.mk s203 NameKind.local), (Prod.mk s204 NameKind.local), (Prod.mk s87 NameKind.local), (Prod.mk s88 NameKind.local), (Prod.mk s89 NameKind.globalImplicit)] Bool.false Bool.false [(Prod.mk s60 (Const.str s45)), (Prod.mk s60 (Const.str s82)), (Prod.mk s60 (Const.str s84)), (Prod.mk s60 (Const.str s202)), (Prod.mk s60 (Const.str s203)), (Prod.mk s60 (Const.str s188)), (Prod.mk s60 (Const.str s204)), (Prod.mk s60 (Const.str s87)), (Prod.mk s60 (Const.str s88)), (Prod.mk s60 (Const.str s180))]) (0 : Nat) [] Value.none Value.none Value.none Value.none Option.none Value.none Value.none (0 : Nat))) (List.toArray []))
noncomputable abbrev o_1185 (P : Params) : Obj := (Obj.mk (Value.type W.SL.s5856160107412720595x4) Option.none (Data.fields (List.toArray [(Value.str s167 (527 : Nat)), (Value.str s201 (528 : Nat)), (Value.str s1 (529 : Nat)), (Value.int (171 : Int) (0 : Nat)), (Value.int (2 : Int) (0 : Nat)), (Value.int (0 : Int) (0 : Nat)), (Value.int (0 : Int) (0 : Nat)), (Value.int (3 : Int) (0 : Nat)), (Value.ref (287 : Nat)), (Value.bool Bool.true), (Value.int (181 : Int) (0 : Nat)), (Value.ref (288 : Nat)), Value.none, Value.none, Value.none, (Value.ref (289 : Nat)), (Value.int (530 : Int) (0 : Nat)), (Value.int (171 : Int) (0 : Nat)), (Value.str s1 (531 : Nat))])) (List.toArray []))
noncomputable abbrev o_1186 (P : Params) : Obj := (Obj.mk (Value.type W.SL.s7174869446012820540x8) Option.none (Data.func (FuncData.mk s167 s201 (Arguments.mk [] [(Arg.mk s45 Option.none (Pos.mk 171 35 171 39)), (Arg.mk s82 Option.none (Pos.mk 171 41 171 46))] Option.none [] [] Option.none []) d205 (Scope.mk ScopeKind.function [(Prod.mk s45 NameKind.cell), (Prod.mk s82 NameKind.local), (Prod.mk s84 NameKind.local), (Prod.mk s202 NameKind.local), (Prod.mk s203 NameKind.local), (Prod.mk s204 NameKind.local), (Prod.mk s87 NameKind.local), (Prod.mk s88 NameKind.local), (Prod.mk s89 NameKind.globalImplicit)] Bool.false Bool.false [(Prod.mk s60 (Const.str s45)), (Prod.mk s60 (Const.str s82)), (Prod.mk s60 (Const.str s84)), (Prod.mk s60 (Const.str s202)), (Prod.mk s60 (Const.str s203)), (Prod.mk s60 (Const.str s188)), (Prod.mk s60 (Const.str s204)), (Prod.mk s60 (Const.str s87)), (Prod.mk s60 (Const.str s88)), (Prod.mk s60 (Const.str s180))]) (3 : Nat) [] Value.none Value.none Value.none (Value.str s144 (398 : Nat)) Option.none (Value.ref (290 : Nat)) Value.none (0 : Nat))) (List.toArray []))
noncomputable abbrev o_1187 (P : Params) : Obj := (Obj.mk (Value.type W.SL.s2766695959194262286x5) Option.none (Data.seq (List.toArray []) (0 : Nat)) (List.toArray []))
noncomputable abbrev o_1188 (P : Params) : Obj := (Obj.mk Value.none Option.none (Data.fields (List.toArray [])) (List.toArray []))
noncomputable abbrev s206 : Str := ⟨⟨[nat_lit 80, nat_lit 111, nat_lit 108, nat_lit 121, nat_lit 110, nat_lit 111, nat_lit 109, nat_lit 105, nat_lit 97, nat_lit 108, nat_lit 71, nat_lit 101, nat_lit 110, nat_lit 101, nat_lit 114, nat_lit 105, nat_lit 99, nat_lit 46, nat_lit 95, nat_lit 95, nat_lit 110, nat_lit 101, nat_lit 103, nat_lit 95, nat_lit 95]⟩⟩
noncomputable abbrev s207 : Str := ⟨⟨[nat_lit 110, nat_lit 101, nat_lit 103, nat_lit 95, nat_lit 99, nat_lit 111, nat_lit 101, nat_lit 102, nat_lit 102, nat_lit 115]⟩⟩
noncomputable abbrev d208 : FuncBody := (FuncBody.stmts [(Stmt.Assign [(Expr.Name s207 (Pos.mk 185 8 185 18))] (Expr.ListComp (Expr.BinOp (Expr.UnaryOp UnaryOp.USub (Expr.Name s194 (Pos.mk 185 23 185 24)) (Pos.mk 185 22 185 24)) Operator.Mod (Expr.Attribute (Expr.Attribute (Expr.Name s45 (Pos.mk 185 27 185 31)) s46 (Pos.mk 185 27 185 38)) s147 (Pos.mk 185 27 185 40)) (Pos.mk 185 22 185 40)) [(Comprehension.mk (Expr.Name s194 (Pos.mk 185 45 185 46)) (Expr.Attribute (Expr.Name s45 (Pos.mk 185 50 185 54)) s177 (Pos.mk 185 50 185 61)) [] (0 : Int))] (Scope.mk ScopeKind.function [(Prod.mk s58 NameKind.local), (Prod.mk s194 NameKind.local), (Prod.mk s45 NameKind.free)] Bool.false Bool.false []) (Pos.mk 185 21 185 62)) (Pos.mk 185 8 185 62)), (Stmt.Return (Option.some (Expr.Call (Expr.Attribute (Expr.Name s45 (Pos.mk 186 15 186 19)) s46 (Pos.mk 186 15 186 26)) [(Expr.Name s207 (Pos.mk 186 27 186 37))] [] (Pos.mk 186 15 186 38))) (Pos.mk 186 8 186 38))])
noncomputable abbrev o_1189 (P : Params) : Obj := (Obj.mk Value.none Option.none (Data.func (FuncData.mk s36 s206 (Arguments.mk [] [(Arg.mk s45 Option.none (Pos.mk 184 16 184 20))] Option.none [] [] Option.none []) d208 (Scope.mk ScopeKind.function [(Prod.mk s45 NameKind.cell), (Prod.mk s207 NameKind.local)] Bool.false Bool.false [(Prod.mk s60 (Const.str s45)), (Prod.mk s60 (Const.str s194)), (Prod.mk s60 (Const.str s207))]) (0 : Nat) [] Value.none Value.none Value.none Value.none Option.none Value.none Value.none (0 : Nat))) (List.toArray []))
noncomputable abbrev o_1190 (P : Params) : Obj := (Obj.mk (Value.type W.SL.s5856160107412720595x4) Option.none (Data.fields (List.toArray [(Value.str s36 (533 : Nat)), (Value.str s206 (534 : Nat)), (Value.str s1 (535 : Nat)), (Value.int (184 : Int) (0 : Nat)), (Value.int (1 : Int) (0 : Nat)), (Value.int (0 : Int) (0 : Nat)), (Value.int (0 : Int) (0 : Nat)), (Value.int (3 : Int) (0 : Nat)), (Value.ref (292 : Nat)), (Value.bool Bool.true), (Value.int (181 : Int) (0 : Nat)), (Value.ref (293 : Nat)), Value.none, Value.none, Value.none, (Value.ref (294 : Nat)), (Value.int (536 : Int) (0 : Nat)), (Value.int (184 : Int) (0 : Nat)), (Value.str s1 (537 : Nat))])) (List.toArray []))
noncomputable abbrev o_1191 (P : Params) : Obj := (Obj.mk (Value.type W.SL.s7174869446012820540x8) Option.none (Data.func (FuncData.mk s36 s206 (Arguments.mk [] [(Arg.mk s45 Option.none (Pos.mk 184 16 184 20))] Option.none [] [] Option.none []) d208 (Scope.mk ScopeKind.function [(Prod.mk s45 NameKind.cell), (Prod.mk s207 NameKind.local)] Bool.false Bool.false [(Prod.mk s60 (Const.str s45)), (Prod.mk s60 (Const.str s194)), (Prod.mk s60 (Const.str s207))]) (3 : Nat) [] Value.none Value.none Value.none (Value.str s144 (398 : Nat)) Option.none (Value.ref (295 : Nat)) Value.none (0 : Nat))) (List.toArray []))
noncomputable abbrev o_1192 (P : Params) : Obj := (Obj.mk (Value.type W.SL.s2766695959194262286x5) Option.none (Data.seq (List.toArray []) (0 : Nat)) (List.toArray []))
noncomputable abbrev o_1193 (P : Params) : Obj := (Obj.mk Value.none Option.none (Data.fields (List.toArray [])) (List.toArray []))
noncomputable abbrev s209 : Str := ⟨⟨[nat_lit 80, nat_lit 111, nat_lit 108, nat_lit 121, nat_lit 110, nat_lit 111, nat_lit 109, nat_lit 105, nat_lit 97, nat_lit 108, nat_lit 71, nat_lit 101, nat_lit 110, nat_lit 101, nat_lit 114, nat_lit 105, nat_lit 99, nat_lit 46, nat_lit 95, nat_lit 97, nat_lit 100, nat_lit 100, nat_lit 95]⟩⟩
noncomputable abbrev s210 : Str := ⟨⟨[nat_lit 116, nat_lit 121, nat_lit 112, nat_lit 101]⟩⟩
noncomputable abbrev d211 : Scope := (Scope.mk ScopeKind.function [(Prod.mk s58 NameKind.local), (Prod.mk s194 NameKind.local), (Prod.mk s195 NameKind.local), (Prod.mk s45 NameKind.free)] Bool.false Bool.false [])
noncomputable abbrev s212 : Str := ⟨⟨[nat_lit 99, nat_lit 111, nat_lit 112, nat_lit 121]⟩⟩
noncomputable abbrev s213 : Str := ⟨⟨[nat_lit 78, nat_lit 111, nat_lit 116, nat_lit 73, nat_lit 109, nat_lit 112, nat_lit 108, nat_lit 101, nat_lit 109, nat_lit 101, nat_lit 110, nat_lit 116, nat_lit 101, nat_lit 100, nat_lit 69, nat_lit 114, nat_lit 114, nat_lit 111, nat_lit 114]⟩⟩
noncomputable abbrev s214 : Str := ⟨⟨[nat_lit 80, nat_lit 111, nat_lit 108, nat_lit 121, nat_lit 110, nat_lit 111, nat_lit 109, nat_lit 105, nat_lit 97, nat_lit 108, nat_lit 115, nat_lit 32, nat_lit 99, nat_lit 97, nat_lit 110, nat_lit 32, nat_lit 111, nat_lit 110, nat_lit 108, nat_lit 121, nat_lit 32, nat_lit 98, nat_lit 101, nat_lit 32, nat_lit 97, nat_lit 100, nat_lit 100, nat_lit 101, nat_lit 100, nat_lit 32, nat_lit 116, nat_lit 111, nat_lit 32, nat_lit 101, nat_lit 97, nat_lit 99, nat_lit 104, nat_lit 32, nat_lit 111, nat_lit 116, nat_lit 104, nat_lit 101, nat_lit 114]⟩⟩
noncomputable abbrev d215 : FuncBody := (FuncBody.stmts [(Stmt.If (Expr.Call (Expr.Name s75 (Pos.mk 189 11 189 21)) [(Expr.Name s82 (Pos.mk 189 22 189 27)), (Expr.Call (Expr.Name s210 (Pos.mk 189 29 189 33)) [(Expr.Name s45 (Pos.mk 189 34 189 38))] [] (Pos.mk 189 29 189 39))] [] (Pos.mk 189 11 189 40)) [(Stmt.Assign [(Expr.Name s204 (Pos.mk 190 12 190 22))] (Expr.ListComp (Expr.Call (Expr.Attribute (Expr.Name s45 (Pos.mk 190 26 190 30)) s165 (Pos.mk 190 26 190 41)) [(Expr.Name s194 (Pos.mk 190 42 190 43)), (Expr.Name s195 (Pos.mk 190 45 190 46))] [] (Pos.mk 190 26 190 47)) [(Comprehension.mk (Expr.Tuple [(Expr.Name s194 (Pos.mk 190 52 190 53)), (Expr.Name s195 (Pos.mk 190 55 190 56))] 0 (Pos.mk 190 52 190 56)) (Expr.Call (Expr.Name s80 (Pos.mk 190 60 190 63)) [(Expr.Attribute (Expr.Name s45 (Pos.mk 190 64 190 68)) s177 (Pos.mk 190 64 190 75)), (Expr.Attribute (Expr.Name s82 (Pos.mk 190 77 190 82)) s177 (Pos.mk 190 77 190 89))] [] (Pos.mk 190 60 190 90)) [] (0 : Int))] d211 (Pos.mk 190 25 190 91)) (Pos.mk 190 12 190 91))] [(Stmt.If (Expr.Call (Expr.Name s75 (Pos.mk 191 13 191 23)) [(Expr.Name s82 (Pos.mk 191 24 191 29)), (Expr.Name s156 (Pos.mk 191 31 191 34))] [] (Pos.mk 191 13 191 35)) [(Stmt.Assign [(Expr.Name s204 (Pos.mk 192 12 192 22))] (Expr.Call (Expr.Attribute (Expr.Attribute (Expr.Name s45 (Pos.mk 192 25 192 29)) s177 (Pos.mk 192 25 192 36)) s212 (Pos.mk 192 25 192 41)) [] [] (Pos.mk 192 25 192 43)) (Pos.mk 192 12 192 43)), (Stmt.Assign [(Expr.Subscript (Expr.Name s204 (Pos.mk 193 12 193 22)) (Expr.Constant (Const.int (0 : Int)) 0 (Pos.mk 193 23 193 24)) (Pos.mk 193 12 193 25))] (Expr.Call (Expr.Attribute (Expr.Name s45 (Pos.mk 193 28 193 32)) s165 (Pos.mk 193 28 193 43)) [(Expr.Subscript (Expr.Name s204 (Pos.mk 193 44 193 54)) (Expr.Constant (Const.int (0 : Int)) 0 (Pos.mk 193 55 193 56)) (Pos.mk 193 44 193 57)), (Expr.Name s82 (Pos.mk 193 59 193 64))] [] (Pos.mk 193 28 193 65)) (Pos.mk 193 12 193 65))] [(Stmt.Raise (Option.some (Expr.Call (Expr.Name s213 (Pos.mk 195 18 195 37)) [(Expr.Constant (Const.str s214) 0 (Pos.mk 195 38 195 83))] [] (Pos.mk 195 18 195 84))) Option.none (Pos.mk 195 12 195 84))] (Pos.mk 191 8 195 84))] (Pos.mk 189 8 195 84)), (Stmt.Return (Option.some (Expr.Name s204 (Pos.mk 196 15 196 25))) (Pos.mk 196 8 196 25))])
noncomputable abbrev d216 : Scope := (Scope.mk ScopeKind.function [(Prod.mk s45 NameKind.cell), (Prod.mk s82 NameKind.local), (Prod.mk s204 NameKind.local), (Prod.mk s75 NameKind.globalImplicit), (Prod.mk s210 NameKind.globalImplicit), (Prod.mk s80 NameKind.globalImplicit), (Prod.mk s156 NameKind.globalImplicit), (Prod.mk s213 NameKind.globalImplicit)] Bool.false Bool.false [(Prod.mk s60 (Const.str s45)), (Prod.mk s60 (Const.str s82)), (Prod.mk s60 (Const.str s194)), (Prod.mk s60 (Const.str s195)), (Prod.mk s60 (Const.str s204))])
noncomputable abbrev o_1194 (P : Params) : Obj := (Obj.mk Value.none Option.none (Data.func (FuncData.mk s168 s209 (Arguments.mk [] [(Arg.mk s45 Option.none (Pos.mk 188 14 188 18)), (Arg.mk s82 Option.none (Pos.mk 188 20 188 25))] Option.none [] [] Option.none []) d215 d216 (0 : Nat) [] Value.none Value.none Value.none Value.none Option.none Value.none Value.none (0 : Nat))) (List.toArray []))
noncomputable abbrev o_1195 (P : Params) : Obj := (Obj.mk (Value.type W.SL.s5856160107412720595x4) Option.none (Data.fields (List.toArray [(Value.str s168 (539 : Nat)), (Value.str s209 (540 : Nat)), (Value.str s1 (541 : Nat)), (Value.int (188 : Int) (0 : Nat)), (Value.int (2 : Int) (0 : Nat)), (Value.int (0 : Int) (0 : Nat)), (Value.int (0 : Int) (0 : Nat)), (Value.int (3 : Int) (0 : Nat)), (Value.ref (297 : Nat)), (Value.bool Bool.true), (Value.int (181 : Int) (0 : Nat)), (Value.ref (298 : Nat)), Value.none, Value.none, Value.none, (Value.ref (299 : Nat)), (Value.int (542 : Int) (0 : Nat)), (Value.int (188 : Int) (0 : Nat)), (Value.str s1 (543 : Nat))])) (List.toArray []))
noncomputable abbrev o_1196 (P : Params) : Obj := (Obj.mk (Value.type W.SL.s7174869446012820540x8) Option.none (Data.func (FuncData.mk s168 s209 (Arguments.mk [] [(Arg.mk s45 Option.none (Pos.mk 188 14 188 18)), (Arg.mk s82 Option.none (Pos.mk 188 20 188 25))] Option.none [] [] Option.none []) d215 d216 (3 : Nat) [] Value.none Value.none Value.none (Value.str s144 (398 : Nat)) Option.none (Value.ref (300 : Nat)) Value.none (0 : Nat))) (List.toArray []))
noncomputable abbrev o_1197 (P : Params) : Obj := (Obj.mk (Value.type W.SL.s2766695959194262286x5) Option.none (Data.seq (List.toArray []) (0 : Nat)) (List.toArray []))
noncomputable abbrev o_1198 (P : Params) : Obj := (Obj.mk Value.none Option.none (Data.fields (List.toArray [])) (List.toArray []))
noncomputable abbrev o_1199 (P : Params) : Obj := (Obj.mk (Value.type W.SL.s2766695959194262286x5) Option.none (Data.seq (List.toArray [(Value.str s45 (548 : Nat)), (Value.str s82 (549 : Nat)), (Value.str s204 (550 : Nat))]) (0 : Nat)) (List.toArray []))
noncomputable abbrev o_1200 (P : Params) : Obj := (Obj.mk (Value.type W.SL.s2766695959194262286x5) Option.none (Data.seq (List.toArray []) (0 : Nat)) (List.toArray []))
noncomputable abbrev s217 : Str := ⟨⟨[nat_lit 80, nat_lit 111, nat_lit 108, nat_lit 121, nat_lit 110, nat_lit 111, nat_lit 109, nat_lit 105, nat_lit 97, nat_lit 108, nat_lit 71, nat_lit 101, nat_lit 110, nat_lit 101, nat_lit 114, nat_lit 105, nat_lit 99, nat_lit 46, nat_lit 95, nat_lit 95, nat_lit 97, nat_lit 100, nat_lit 100, nat_lit 95, nat_lit 95]⟩⟩
noncomputable abbrev d218 : FuncBody := (FuncBody.stmts [(Stmt.Assign [(Expr.Name s204 (Pos.mk 199 8 199 18))] (Expr.Call (Expr.Attribute (Expr.Name s45 (Pos.mk 199 21 199 25)) s168 (Pos.mk 199 21 199 31)) [(Expr.Name s82 (Pos.mk 199 32 199 37))] [] (Pos.mk 199 21 199 38)) (Pos.mk 199 8 199 38)), (Stmt.Return (Option.some (Expr.Call (Expr.Attribute (Expr.Name s45 (Pos.mk 200 15 200 19)) s46 (Pos.mk 200 15 200 26)) [(Expr.Name s204 (Pos.mk 200 27 200 37))] [] (Pos.mk 200 15 200 38))) (Pos.mk 200 8 200 38))])
noncomputable abbrev d219 : Scope := (Scope.mk ScopeKind.function [(Prod.mk s45 NameKind.local), (Prod.mk s82 NameKind.local), (Prod.mk s204 NameKind.local)] Bool.false Bool.false [])
noncomputable abbrev o_1201 (P : Params) : Obj := (Obj.mk Value.none Option.none (Data.func (FuncData.mk s37 s217 (Arguments.mk [] [(Arg.mk s45 Option.none (Pos.mk 198 16 198 20)), (Arg.mk s82 Option.none (Pos.mk 198 22 198 27))] Option.none [] [] Option.none []) d218 d219 (0 : Nat) [] Value.none Value.none Value.none Value.none Option.none Value.none Value.none (0 : Nat))) (List.toArray []))
noncomputable abbrev o_1202 (P : Params) : Obj := (Obj.mk (Value.type W.SL.s5856160107412720595x4) Option.none (Data.fields (List.toArray [(Value.str s37 (545 : Nat)), (Value.str s217 (546 : Nat)), (Value.str s1 (547 : Nat)), (Value.int (198 : Int) (0 : Nat)), (Value.int (2 : Int) (0 : Nat)), (Value.int (0 : Int) (0 : Nat)), (Value.int (0 : Int) (0 : Nat)), (Value.int (3 : Int) (0 : Nat)), (Value.ref (302 : Nat)), (Value.bool Bool.true), (Value.int (181 : Int) (0 : Nat)), (Value.ref (303 : Nat)), Value.none, (Value.ref (304 : Nat)), (Value.ref (305 : Nat)), (Value.ref (306 : Nat)), (Value.int (551 : Int) (0 : Nat)), (Value.int (198 : Int) (0 : Nat)), (Value.str s1 (552 : Nat))])) (List.toArray []))
noncomputable abbrev o_1203 (P : Params) : Obj := (Obj.mk (Value.type W.SL.s7174869446012820540x8) Option.none (Data.func (FuncData.mk s37 s217 (Arguments.mk [] [(Arg.mk s45 Option.none (Pos.mk 198 16 198 20)), (Arg.mk s82 Option.none (Pos.mk 198 22 198 27))] Option.none [] [] Option.none []) d218 d219 (3 : Nat) [] Value.none Value.none Value.none (Value.str s144 (398 : Nat)) Option.none (Value.ref (307 : Nat)) Value.none (0 : Nat))) (List.toArray []))
noncomputable abbrev o_1204 (P : Params) : Obj := (Obj.mk (Value.type W.SL.s2766695959194262286x5) Option.none (Data.seq (List.toArray []) (0 : Nat)) (List.toArray []))
noncomputable abbrev o_1205 (P : Params) : Obj := (Obj.mk Value.none Option.none (Data.fields (List.toArray [])) (List.toArray []))
noncomputable abbrev o_1206 (P : Params) : Obj := (Obj.mk (Value.type W.SL.s2766695959194262286x5) Option.none (Data.seq (List.toArray [(Value.str s45 (557 : Nat)), (Value.str s82 (558 : Nat))]) (0 : Nat)) (List.toArray []))
noncomputable abbrev o_1207 (P : Params) : Obj := (Obj.mk (Value.type W.SL.s2766695959194262286x5) Option.none (Data.seq (List.toArray []) (0 : Nat)) (List.toArray []))
noncomputable abbrev s220 : Str := ⟨⟨[nat_lit 80, nat_lit 111, nat_lit 108, nat_lit 121, nat_lit 110, nat_lit 111, nat_lit 109, nat_lit 105, nat_lit 97, nat_lit 108, nat_lit 71, nat_lit 101, nat_lit 110, nat_lit 101, nat_lit 114, nat_lit 105, nat_lit 99, nat_lit 46, nat_lit 95, nat_lit 95, nat_lit 114, nat_lit 97, nat_lit 100, nat_lit 100, nat_lit 95, nat_lit 95]⟩⟩
noncomputable abbrev d221 : FuncBody := (FuncBody.stmts [(Stmt.Return (Option.some (Expr.Call (Expr.Attribute (Expr.Name s45 (Pos.mk 203 15 203 19)) s37 (Pos.mk 203 15 203 27)) [(Expr.Name s82 (Pos.mk 203 28 203 33))] [] (Pos.mk 203 15 203 34))) (Pos.mk 203 8 203 34))])
noncomputable abbrev o_1208 (P : Params) : Obj := (Obj.mk Value.none Option.none (Data.func (FuncData.mk s169 s220 (Arguments.mk [] [(Arg.mk s45 Option.none (Pos.mk 202 17 202 21)), (Arg.mk s82 Option.none (Pos.mk 202 23 202 28))] Option.none [] [] Option.none []) d221 d104 (0 : Nat) [] Value.none Value.none Value.none Value.none Option.none Value.none Value.none (0 : Nat))) (List.toArray []))
noncomputable abbrev o_1209 (P : Params) : Obj := (Obj.mk (Value.type W.SL.s5856160107412720595x4) Option.none (Data.fields (List.toArray [(Value.str s169 (554 : Nat)), (Value.str s220 (555 : Nat)), (Value.str s1 (556 : Nat)), (Value.int (202 : Int) (0 : Nat)), (Value.int (2 : Int) (0 : Nat)), (Value.int (0 : Int) (0 : Nat)), (Value.int (0 : Int) (0 : Nat)), (Value.int (3 : Int) (0 : Nat)), (Value.ref (309 : Nat)), (Value.bool Bool.true), (Value.int (181 : Int) (0 : Nat)), (Value.ref (310 : Nat)), Value.none, (Value.ref (311 : Nat)), (Value.ref (312 : Nat)), (Value.ref (313 : Nat)), (Value.int (559 : Int) (0 : Nat)), (Value.int (202 : Int) (0 : Nat)), (Value.str s1 (560 : Nat))])) (List.toArray []))
noncomputable abbrev o_1210 (P : Params) : Obj := (Obj.mk (Value.type W.SL.s7174869446012820540x8) Option.none (Data.func (FuncData.mk s169 s220 (Arguments.mk [] [(Arg.mk s45 Option.none (Pos.mk 202 17 202 21)), (Arg.mk s82 Option.none (Pos.mk 202 23 202 28))] Option.none [] [] Option.none []) d221 d104 (3 : Nat) [] Value.none Value.none Value.none (Value.str s144 (398 : Nat)) Option.none (Value.ref (314 : Nat)) Value.none (0 : Nat))) (List.toArray []))
noncomputable abbrev o_1211 (P : Params) : Obj := (Obj.mk (Value.type W.SL.s2766695959194262286x5) Option.none (Data.seq (List.toArray []) (0 : Nat)) (List.toArray []))
noncomputable abbrev o_1212 (P : Params) : Obj := (Obj.mk Value.none Option.none (Data.fields (List.toArray [])) (List.toArray []))
noncomputable abbrev o_1213 (P : Params) : Obj := (Obj.mk (Value.type W.SL.s2766695959194262286x5) Option.none (Data.seq (List.toArray [(Value.str s45 (565 : Nat)), (Value.str s82 (566 : Nat))]) (0 : Nat)) (List.toArray []))
noncomputable abbrev o_1214 (P : Params) : Obj := (Obj.mk (Value.type W.SL.s2766695959194262286x5) Option.none (Data.seq (List.toArray []) (0 : Nat)) (List.toArray []))
noncomputable abbrev s222 : Str := ⟨⟨[nat_lit 80, nat_lit 111, nat_lit 108, nat_lit 121, nat_lit 110, nat_lit 111, nat_lit 109, nat_lit 105, nat_lit 97, nat_lit 108, nat_lit 71, nat_lit 101, nat_lit 110, nat_lit 101, nat_lit 114, nat_lit 105, nat_lit 99, nat_lit 46, nat_lit 95, nat_lit 95, nat_lit 105, nat_lit 97, nat_lit 100, nat_lit 100, nat_lit 95, nat_lit 95]⟩⟩
noncomputable abbrev d223 : FuncBody := (FuncBody.stmts [(Stmt.Return (Option.some (Expr.BinOp (Expr.Name s45 (Pos.mk 206 15 206 19)) Operator.Add (Expr.Name s82 (Pos.mk 206 22 206 27)) (Pos.mk 206 15 206 27))) (Pos.mk 206 8 206 27))])
noncomputable abbrev o_1215 (P : Params) : Obj := (Obj.mk Value.none Option.none (Data.func (FuncData.mk s38 s222 (Arguments.mk [] [(Arg.mk s45 Option.none (Pos.mk 205 17 205 21)), (Arg.mk s82 Option.none (Pos.mk 205 23 205 28))] Option.none [] [] Option.none []) d223 d104 (0 : Nat) [] Value.none Value.none Value.none Value.none Option.none Value.none Value.none (0 : Nat))) (List.toArray []))
noncomputable abbrev o_1216 (P : Params) : Obj := (Obj.mk (Value.type W.SL.s5856160107412720595x4) Option.none (Data.fields (List.toArray [(Value.str s38 (562 : Nat)), (Value.str s222 (563 : Nat)), (Value.str s1 (564 : Nat)), (Value.int (205 : Int) (0 : Nat)), (Value.int (2 : Int) (0 : Nat)), (Value.int (0 : Int) (0 : Nat)), (Value.int (0 : Int) (0 : Nat)), (Value.int (3 : Int) (0 : Nat)), (Value.ref (316 : Nat)), (Value.bool Bool.true), (Value.int (181 : Int) (0 : Nat)), (Value.ref (317 : Nat)), Value.none, (Value.ref (318 : Nat)), (Value.ref (319 : Nat)), (Value.ref (320 : Nat)), (Value.int (567 : Int) (0 : Nat)), (Value.int (205 : Int) (0 : Nat)), (Value.str s1 (568 : Nat))])) (List.toArray []))
noncomputable abbrev o_1217 (P : Params) : Obj := (Obj.mk (Value.type W.SL.s7174869446012820540x8) Option.none (Data.func (FuncData.mk s38 s222 (Arguments.mk [] [(Arg.mk s45 Option.none (Pos.mk 205 17 205 21)), (Arg.mk s82 Option.none (Pos.mk 205 23 205 28))] Option.none [] [] Option.none []) d223 d104 (3 : Nat) [] Value.none Value.none Value.none (Value.str s144 (398 : Nat)) Option.none (Value.ref (321 : Nat)) Value.none (0 : Nat))) (List.toArray []))
noncomputable abbrev o_1218 (P : Params) : Obj := (Obj.mk (Value.type W.SL.s2766695959194262286x5) Option.none (Data.seq (List.toArray []) (0 : Nat)) (List.toArray []))
noncomputable abbrev o_1219 (P : Params) : Obj := (Obj.mk Value.none Option.none (Data.fields (List.toArray [])) (List.toArray []))
noncomputable abbrev s224 : Str := ⟨⟨[nat_lit 80, nat_lit 111, nat_lit 108, nat_lit 121, nat_lit 110, nat_lit 111, nat_lit 109, nat_lit 105, nat_lit 97, nat_lit 108, nat_lit 71, nat_lit 101, nat_lit 110, nat_lit 101, nat_lit 114, nat_lit 105, nat_lit 99, nat_lit 46, nat_lit 95, nat_lit 115, nat_lit 117, nat_lit 98, nat_lit 95]⟩⟩
noncomputable abbrev s225 : Str := ⟨⟨[nat_lit 80, nat_lit 111, nat_lit 108, nat_lit 121, nat_lit 110, nat_lit 111, nat_lit 109, nat_lit 105, nat_lit 97, nat_lit 108, nat_lit 115, nat_lit 32, nat_lit 99, nat_lit 97, nat_lit 110, nat_lit 32, nat_lit 111, nat_lit 110, nat_lit 108, nat_lit 121, nat_lit 32, nat_lit 98, nat_lit 101, nat_lit 32, nat_lit 115, nat_lit 117, nat_lit 98, nat_lit 116, nat_lit 114, nat_lit 97, nat_lit 99, nat_lit 116, nat_lit 101, nat_lit 100, nat_lit 32, nat_lit 102, nat_lit 114, nat_lit 111, nat_lit 109, nat_lit 32, nat_lit 101, nat_lit 97, nat_lit 99, nat_lit 104, nat_lit 32, nat_lit 111, nat_lit 116, nat_lit 104, nat_lit 101, nat_lit 114]⟩⟩
noncomputable abbrev d226 : FuncBody := (FuncBody.stmts [(Stmt.If (Expr.Call (Expr.Name s75 (Pos.mk 209 11 209 21)) [(Expr.Name s82 (Pos.mk 209 22 209 27)), (Expr.Call (Expr.Name s210 (Pos.mk 209 29 209 33)) [(Expr.Name s45 (Pos.mk 209 34 209 38))] [] (Pos.mk 209 29 209 39))] [] (Pos.mk 209 11 209 40)) [(Stmt.Assign [(Expr.Name s204 (Pos.mk 210 12 210 22))] (Expr.ListComp (Expr.Call (Expr.Attribute (Expr.Name s45 (Pos.mk 210 26 210 30)) s166 (Pos.mk 210 26 210 41)) [(Expr.Name s194 (Pos.mk 210 42 210 43)), (Expr.Name s195 (Pos.mk 210 45 210 46))] [] (Pos.mk 210 26 210 47)) [(Comprehension.mk (Expr.Tuple [(Expr.Name s194 (Pos.mk 210 52 210 53)), (Expr.Name s195 (Pos.mk 210 55 210 56))] 0 (Pos.mk 210 52 210 56)) (Expr.Call (Expr.Name s80 (Pos.mk 210 60 210 63)) [(Expr.Attribute (Expr.Name s45 (Pos.mk 210 64 210 68)) s177 (Pos.mk 210 64 210 75)), (Expr.Attribute (Expr.Name s82 (Pos.mk 210 77 210 82)) s177 (Pos.mk 210 77 210 89))] [] (Pos.mk 210 60 210 90)) [] (0 : Int))] d211 (Pos.mk 210 25 210 91)) (Pos.mk 210 12 210 91))] [(Stmt.If (Expr.Call (Expr.Name s75 (Pos.mk 211 13 211 23)) [(Expr.Name s82 (Pos.mk 211 24 211 29)), (Expr.Name s156 (Pos.mk 211 31 211 34))] [] (Pos.mk 211 13 211 35)) [(Stmt.Assign [(Expr.Name s204 (Pos.mk 212 12 212 22))] (Expr.Call (Expr.Attribute (Expr.Attribute (Expr.Name s45 (Pos.mk 212 25 212 29)) s177 (Pos.mk 212 25 212 36)) s212 (Pos.mk 212 25 212 41)) [] [] (Pos.mk 212 25 212 43)) (Pos.mk 212 12 212 43)), (Stmt.Assign [(Expr.Subscript (Expr.Name s204 (Pos.mk 213 12 213 22)) (Expr.Constant (Const.int (0 : Int)) 0 (Pos.mk 213 23 213 24)) (Pos.mk 213 12 213 25))] (Expr.Call (Expr.Attribute (Expr.Name s45 (Pos.mk 213 28 213 32)) s166 (Pos.mk 213 28 213 43)) [(Expr.Subscript (Expr.Name s204 (Pos.mk 213 44 213 54)) (Expr.Constant (Const.int (0 : Int)) 0 (Pos.mk 213 55 213 56)) (Pos.mk 213 44 213 57)), (Expr.Name s82 (Pos.mk 213 59 213 64))] [] (Pos.mk 213 28 213 65)) (Pos.mk 213 12 213 65))] [(Stmt.Raise (Option.some (Expr.Call (Expr.Name s213 (Pos.mk 215 18 215 37)) [(Expr.Constant (Const.str s225) 0 (Pos.mk 215 38 215 90))] [] (Pos.mk 215 18 215 91))) Option.none (Pos.mk 215 12 215 91))] (Pos.mk 211 8 215 91))] (Pos.mk 209 8 215 91)), (Stmt.Return (Option.some (Expr.Name s204 (Pos.mk 216 15 216 25))) (Pos.mk 216 8 216 25))])
noncomputable abbrev o_1220 (P : Params) : Obj := (Obj.mk Value.none Option.none (Data.func (FuncData.mk s170 s224 (Arguments.mk [] [(Arg.mk s45 Option.none (Pos.mk 208 14 208 18)), (Arg.mk s82 Option.none (Pos.mk 208 20 208 25))] Option.none [] [] Option.none []) d226 d216 (0 : Nat) [] Value.none Value.none Value.none Value.none Option.none Value.none Value.none (0 : Nat))) (List.toArray []))
noncomputable abbrev o_1221 (P : Params) : Obj := (Obj.mk (Value.type W.SL.s5856160107412720595x4) Option.none (Data.fields (List.toArray [(Value.str s170 (570 : Nat)), (Value.str s224 (571 : Nat)), (Value.str s1 (572 : Nat)), (Value.int (208 : Int) (0 : Nat)), (Value.int (2 : Int) (0 : Nat)), (Value.int (0 : Int) (0 : Nat)), (Value.int (0 : Int) (0 : Nat)), (Value.int (3 : Int) (0 : Nat)), (Value.ref (323 : Nat)), (Value.bool Bool.true), (Value.int (181 : Int) (0 : Nat)), (Value.ref (324 : Nat)), Value.none, Value.none, Value.none, (Value.ref (325 : Nat)), (Value.int (573 : Int) (0 : Nat)), (Value.int (208 : Int) (0 : Nat)), (Value.str s1 (574 : Nat))])) (List.toArray []))
noncomputable abbrev o_1222 (P : Params) : Obj := (Obj.mk (Value.type W.SL.s7174869446012820540x8) Option.none (Data.func (FuncData.mk s170 s224 (Arguments.mk [] [(Arg.mk s45 Option.none (Pos.mk 208 14 208 18)), (Arg.mk s82 Option.none (Pos.mk 208 20 208 25))] Option.none [] [] Option.none []) d226 d216 (3 : Nat) [] Value.none Value.none Value.none (Value.str s144 (398 : Nat)) Option.none (Value.ref (326 : Nat)) Value.none (0 : Nat))) (List.toArray []))
noncomputable abbrev o_1223 (P : Params) : Obj := (Obj.mk (Value.type W.SL.s2766695959194262286x5) Option.none (Data.seq (List.toArray []) (0 : Nat)) (List.toArray []))
noncomputable abbrev o_1224 (P : Params) : Obj := (Obj.mk Value.none Option.none (Data.fields (List.toArray [])) (List.toArray []))
noncomputable abbrev o_1225 (P : Params) : Obj := (Obj.mk (Value.type W.SL.s2766695959194262286x5) Option.none (Data.seq (List.toArray [(Value.str s45 (579 : Nat)), (Value.str s82 (580 : Nat)), (Value.str s204 (581 : Nat))]) (0 : Nat)) (List.toArray []))
noncomputable abbrev o_1226 (P : Params) : Obj := (Obj.mk (Value.type W.SL.s2766695959194262286x5) Option.none (Data.seq (List.toArray []) (0 : Nat)) (List.toArray []))
noncomputable abbrev s227 : Str := ⟨⟨[nat_lit 80, nat_lit 111, nat_lit 108, nat_lit 121, nat_lit 110, nat_lit 111, nat_lit 109, nat_lit 105, nat_lit 97, nat_lit 108, nat_lit 71, nat_lit 101, nat_lit 110, nat_lit 101, nat_lit 114, nat_lit 105, nat_lit 99, nat_lit 46, nat_lit 95, nat_lit 95, nat_lit 115, nat_lit 117, nat_lit 98, nat_lit 95, nat_lit 95]⟩⟩
noncomputable abbrev d228 : FuncBody := (FuncBody.stmts [(Stmt.Assign [(Expr.Name s204 (Pos.mk 219 8 219 18))] (Expr.Call (Expr.Attribute (Expr.Name s45 (Pos.mk 219 21 219 25)) s170 (Pos.mk 219 21 219 31)) [(Expr.Name s82 (Pos.mk 219 32 219 37))] [] (Pos.mk 219 21 219 38)) (Pos.mk 219 8 219 38)), (Stmt.Return (Option.some (Expr.Call (Expr.Attribute (Expr.Name s45 (Pos.mk 220 15 220 19)) s46 (Pos.mk 220 15 220 26)) [(Expr.Name s204 (Pos.mk 220 27 220 37))] [] (Pos.mk 220 15 220 38))) (Pos.mk 220 8 220 38))])
noncomputable abbrev o_1227 (P : Params) : Obj := (Obj.mk Value.none Option.none (Data.func (FuncData.mk s39 s227 (Arguments.mk [] [(Arg.mk s45 Option.none (Pos.mk 218 16 218 20)), (Arg.mk s82 Option.none (Pos.mk 218 22 218 27))] Option.none [] [] Option.none []) d228 d219 (0 : Nat) [] Value.none Value.none Value.none Value.none Option.none Value.none Value.none (0 : Nat))) (List.toArray []))
noncomputable abbrev o_1228 (P : Params) : Obj := (Obj.mk (Value.type W.SL.s5856160107412720595x4) Option.none (Data.fields (List.toArray [(Value.str s39 (576 : Nat)), (Value.str s227 (577 : Nat)), (Value.str s1 (578 : Nat)), (Value.int (218 : Int) (0 : Nat)), (Value.int (2 : Int) (0 : Nat)), (Value.int (0 : Int) (0 : Nat)), (Value.int (0 : Int) (0 : Nat)), (Value.int (3 : Int) (0 : Nat)), (Value.ref (328 : Nat)), (Value.bool Bool.true), (Value.int (181 : Int) (0 : Nat)), (Value.ref (329 : Nat)), Value.none, (Value.ref (330 : Nat)), (Value.ref (331 : Nat)), (Value.ref (332 : Nat)), (Value.int (582 : Int) (0 : Nat)), (Value.int (218 : Int) (0 : Nat)), (Value.str s1 (583 : Nat))])) (List.toArray []))
noncomputable abbrev o_1229 (P : Params) : Obj := (Obj.mk (Value.type W.SL.s7174869446012820540x8) Option.none (Data.func (FuncData.mk s39 s227 (Arguments.mk [] [(Arg.mk s45 Option.none (Pos.mk 218 16 218 20)), (Arg.mk s82 Option.none (Pos.mk 218 22 218 27))] Option.none [] [] Option.none []) d228 d219 (3 : Nat) [] Value.none Value.none Value.none (Value.str s144 (398 : Nat)) Option.none (Value.ref (333 : Nat)) Value.none (0 : Nat))) (List.toArray []))
noncomputable abbrev o_1230 (P : Params) : Obj := (Obj.mk (Value.type W.SL.s2766695959194262286x5) Option.none (Data.seq (List.toArray []) (0 : Nat)) (List.toArray []))
noncomputable abbrev o_1231 (P : Params) : Obj := (Obj.mk Value.none Option.none (Data.fields (List.toArray [])) (List.toArray []))
noncomputable abbrev o_1232 (P : Params) : Obj := (Obj.mk (Value.type W.SL.s2766695959194262286x5) Option.none (Data.seq (List.toArray [(Value.str s45 (588 : Nat)), (Value.str s82 (589 : Nat))]) (0 : Nat)) (List.toArray []))
noncomputable abbrev o_1233 (P : Params) : Obj := (Obj.mk (Value.type W.SL.s2766695959194262286x5) Option.none (Data.seq (List.toArray []) (0 : Nat)) (List.toArray []))
noncomputable abbrev s229 : Str := ⟨⟨[nat_lit 80, nat_lit 111, nat_lit 108, nat_lit 121, nat_lit 110, nat_lit 111, nat_lit 109, nat_lit 105, nat_lit 97, nat_lit 108, nat_lit 71, nat_lit 101, nat_lit 110, nat_lit 101, nat_lit 114, nat_lit 105, nat_lit 99, nat_lit 46, nat_lit 95, nat_lit 95, nat_lit 114, nat_lit 115, nat_lit 117, nat_lit 98, nat_lit 95, nat_lit 95]⟩⟩
noncomputable abbrev d230 : FuncBody := (FuncBody.stmts [(Stmt.Return (Option.some (Expr.UnaryOp UnaryOp.USub (Expr.Call (Expr.Attribute (Expr.Name s45 (Pos.mk 223 16 223 20)) s39 (Pos.mk 223 16 223 28)) [(Expr.Name s82 (Pos.mk 223 29 223 34))] [] (Pos.mk 223 16 223 35)) (Pos.mk 223 15 223 35))) (Pos.mk 223 8 223 35))])
noncomputable abbrev o_1234 (P : Params) : Obj := (Obj.mk Value.none Option.none (Data.func (FuncData.mk s171 s229 (Arguments.mk [] [(Arg.mk s45 Option.none (Pos.mk 222 17 222 21)), (Arg.mk s82 Option.none (Pos.mk 222 23 222 28))] Option.none [] [] Option.none []) d230 d104 (0 : Nat) [] Value.none Value.none Value.none Value.none Option.none Value.none Value.none (0 : Nat))) (List.toArray []))
noncomputable abbrev o_1235 (P : Params) : Obj := (Obj.mk (Value.type W.SL.s5856160107412720595x4) Option.none (Data.fields (List.toArray [(Value.str s171 (585 : Nat)), (Value.str s229 (586 : Nat)), (Value.str s1 (587 : Nat)), (Value.int (222 : Int) (0 : Nat)), (Value.int (2 : Int) (0 : Nat)), (Value.int (0 : Int) (0 : Nat)), (Value.int (0 : Int) (0 : Nat)), (Value.int (3 : Int) (0 : Nat)), (Value.ref (335 : Nat)), (Value.bool Bool.true), (Value.int (181 : Int) (0 : Nat)), (Value.ref (336 : Nat)), Value.none, (Value.ref (337 : Nat)), (Value.ref (338 : Nat)), (Value.ref (339 : Nat)), (Value.int (590 : Int) (0 : Nat)), (Value.int (222 : Int) (0 : Nat)), (Value.str s1 (591 : Nat))])) (List.toArray []))
noncomputable abbrev o_1236 (P : Params) : Obj := (Obj.mk (Value.type W.SL.s7174869446012820540x8) Option.none (Data.func (FuncData.mk s171 s229 (Arguments.mk [] [(Arg.mk s45 Option.none (Pos.mk 222 17 222 21)), (Arg.mk s82 Option.none (Pos.mk 222 23 222 28))] Option.none [] [] Option.none []) d230 d104 (3 : Nat) [] Value.none Value.none Value.none (Value.str s144 (398 : Nat)) Option.none (Value.ref (340 : Nat)) Value.none (0 : Nat))) (List.toArray []))
noncomputable abbrev o_1237 (P : Params) : Obj := (Obj.mk (Value.type W.SL.s2766695959194262286x5) Option.none (Data.seq (List.toArray []) (0 : Nat)) (List.toArray []))
noncomputable abbrev o_1238 (P : Params) : Obj := (Obj.mk Value.none Option.none (Data.fields (List.toArray [])) (List.toArray []))
noncomputable abbrev o_1239 (P : Params) : Obj := (Obj.mk (Value.type W.SL.s2766695959194262286x5) Option.none (Data.seq (List.toArray [(Value.str s45 (596 : Nat)), (Value.str s82 (597 : Nat))]) (0 : Nat)) (List.toArray []))
noncomputable abbrev o_1240 (P : Params) : Obj := (Obj.mk (Value.type W.SL.s2766695959194262286x5) Option.none (Data.seq (List.toArray []) (0 : Nat)) (List.toArray []))
noncomputable abbrev s231 : Str := ⟨⟨[nat_lit 80, nat_lit 111, nat_lit 108, nat_lit 121, nat_lit 110, nat_lit 111, nat_lit 109, nat_lit 105, nat_lit 97, nat_lit 108, nat_lit 71, nat_lit 101, nat_lit 110, nat_lit 101, nat_lit 114, nat_lit 105, nat_lit 99, nat_lit 46, nat_lit 95, nat_lit 95, nat_lit 105, nat_lit 115, nat_lit 117, nat_lit 98, nat_lit 95, nat_lit 95]⟩⟩
noncomputable abbrev d232 : FuncBody := (FuncBody.stmts [(Stmt.Return (Option.some (Expr.BinOp (Expr.Name s45 (Pos.mk 226 15 226 19)) Operator.Sub (Expr.Name s82 (Pos.mk 226 22 226 27)) (Pos.mk 226 15 226 27))) (Pos.mk 226 8 226 27))])
noncomputable abbrev o_1241 (P : Params) : Obj := (Obj.mk Value.none Option.none (Data.func (FuncData.mk s40 s231 (Arguments.mk [] [(Arg.mk s45 Option.none (Pos.mk 225 17 225 21)), (Arg.mk s82 Option.none (Pos.mk 225 23 225 28))] Option.none [] [] Option.none []) d232 d104 (0 : Nat) [] Value.none Value.none Value.none Value.none Option.none Value.none Value.none (0 : Nat))) (List.toArray []))
noncomputable abbrev o_1242 (P : Params) : Obj := (Obj.mk (Value.type W.SL.s5856160107412720595x4) Option.none (Data.fields (List.toArray [(Value.str s40 (593 : Nat)), (Value.str s231 (594 : Nat)), (Value.str s1 (595 : Nat)), (Value.int (225 : Int) (0 : Nat)), (Value.int (2 : Int) (0 : Nat)), (Value.int (0 : Int) (0 : Nat)), (Value.int (0 : Int) (0 : Nat)), (Value.int (3 : Int) (0 : Nat)), (Value.ref (342 : Nat)), (Value.bool Bool.true), (Value.int (181 : Int) (0 : Nat)), (Value.ref (343 : Nat)), Value.none, (Value.ref (344 : Nat)), (Value.ref (345 : Nat)), (Value.ref (346 : Nat)), (Value.int (598 : Int) (0 : Nat)), (Value.int (225 : Int) (0 : Nat)), (Value.str s1 (599 : Nat))])) (List.toArray []))
noncomputable abbrev o_1243 (P : Params) : Obj := (Obj.mk (Value.type W.SL.s7174869446012820540x8) Option.none (Data.func (FuncData.mk s40 s231 (Arguments.mk [] [(Arg.mk s45 Option.none (Pos.mk 225 17 225 21)), (Arg.mk s82 Option.none (Pos.mk 225 23 225 28))] Option.none [] [] Option.none []) d232 d104 (3 : Nat) [] Value.none Value.none Value.none (Value.str s144 (398 : Nat)) Option.none (Value.ref (347 : Nat)) Value.none (0 : Nat))) (List.toArray []))
noncomputable abbrev o_1244 (P : Params) : Obj := (Obj.mk (Value.type W.SL.s2766695959194262286x5) Option.none (Data.seq (List.toArray []) (0 : Nat)) (List.toArray []))
noncomputable abbrev o_1245 (P : Params) : Obj := (Obj.mk Value.none Option.none (Data.fields (List.toArray [])) (List.toArray []))
noncomputable abbrev s233 : Str := ⟨⟨[nat_lit 80, nat_lit 111, nat_lit 108, nat_lit 121, nat_lit 110, nat_lit 111, nat_lit 109, nat_lit 105, nat_lit 97, nat_lit 108, nat_lit 71, nat_lit 101, nat_lit 110, nat_lit 101, nat_lit 114, nat_lit 105, nat_lit 99, nat_lit 46, nat_lit 95, nat_lit 95, nat_lit 109, nat_lit 117, nat_lit 108, nat_lit 95, nat_lit 95]⟩⟩
noncomputable abbrev s234 : Str := ⟨⟨[nat_lit 80, nat_lit 111, nat_lit 108, nat_lit 121, nat_lit 110, nat_lit 111, nat_lit 109, nat_lit 105, nat_lit 97, nat_lit 108, nat_lit 115, nat_lit 32, nat_lit 99, nat_lit 97, nat_lit 110, nat_lit 32, nat_lit 111, nat_lit 110, nat_lit 108, nat_lit 121, nat_lit 32, nat_lit 98, nat_lit 101, nat_lit 32, nat_lit 109, nat_lit 117, nat_lit 108, nat_lit 116, nat_lit 105, nat_lit 112, nat_lit 108, nat_lit 105, nat_lit 101, nat_lit 100, nat_lit 32, nat_lit 98, nat_lit 121, nat_lit 32, nat_lit 101, nat_lit 97, nat_lit 99, nat_lit 104, nat_lit 32, nat_lit 111, nat_lit 116, nat_lit 104, nat_lit 101, nat_lit 114, nat_lit 44, nat_lit 32, nat_lit 111, nat_lit 114, nat_lit 32, nat_lit 115, nat_lit 99, nat_lit 97, nat_lit 108, nat_lit 101, nat_lit 100, nat_lit 32, nat_lit 98, nat_lit 121, nat_lit 32, nat_lit 105, nat_lit 110, nat_lit 116, nat_lit 101, nat_lit 103, nat_lit 101, nat_lit 114, nat_lit 115]⟩⟩
noncomputable abbrev d235 : FuncBody := (FuncBody.stmts [(Stmt.If (Expr.Call (Expr.Name s75 (Pos.mk 229 11 229 21)) [(Expr.Name s82 (Pos.mk 229 22 229 27)), (Expr.Call (Expr.Name s210 (Pos.mk 229 29 229 33)) [(Expr.Name s45 (Pos.mk 229 34 229 38))] [] (Pos.mk 229 29 229 39))] [] (Pos.mk 229 11 229 40)) [(Stmt.Assign [(Expr.Name s204 (Pos.mk 230 12 230 22))] (Expr.Call (Expr.Attribute (Expr.Name s45 (Pos.mk 230 25 230 29)) s167 (Pos.mk 230 25 230 56)) [(Expr.Name s82 (Pos.mk 230 57 230 62))] [] (Pos.mk 230 25 230 63)) (Pos.mk 230 12 230 63))] [(Stmt.If (Expr.Call (Expr.Name s75 (Pos.mk 231 13 231 23)) [(Expr.Name s82 (Pos.mk 231 24 231 29)), (Expr.Name s156 (Pos.mk 231 31 231 34))] [] (Pos.mk 231 13 231 35)) [(Stmt.Assign [(Expr.Name s204 (Pos.mk 232 12 232 22))] (Expr.ListComp (Expr.BinOp (Expr.BinOp (Expr.Name s180 (Pos.mk 232 26 232 27)) Operator.Mult (Expr.Name s82 (Pos.mk 232 30 232 35)) (Pos.mk 232 26 232 35)) Operator.Mod (Expr.Attribute (Expr.Attribute (Expr.Name s45 (Pos.mk 232 38 232 42)) s46 (Pos.mk 232 38 232 49)) s147 (Pos.mk 232 38 232 51)) (Pos.mk 232 26 232 51)) [(Comprehension.mk (Expr.Name s180 (Pos.mk 232 56 232 57)) (Expr.Attribute (Expr.Name s45 (Pos.mk 232 61 232 65)) s177 (Pos.mk 232 61 232 72)) [] (0 : Int))] (Scope.mk ScopeKind.function [(Prod.mk s58 NameKind.local), (Prod.mk s180 NameKind.local), (Prod.mk s82 NameKind.free), (Prod.mk s45 NameKind.free)] Bool.false Bool.false []) (Pos.mk 232 25 232 73)) (Pos.mk 232 12 232 73))] [(Stmt.Raise (Option.some (Expr.Call (Expr.Name s213 (Pos.mk 234 18 234 37)) [(Expr.Constant (Const.str s234) 0 (Pos.mk 234 38 234 111))] [] (Pos.mk 234 18 234 112))) Option.none (Pos.mk 234 12 234 112))] (Pos.mk 231 8 234 112))] (Pos.mk 229 8 234 112)), (Stmt.Return (Option.some (Expr.Call (Expr.Attribute (Expr.Name s45 (Pos.mk 235 15 235 19)) s46 (Pos.mk 235 15 235 26)) [(Expr.Name s204 (Pos.mk 235 27 235 37))] [] (Pos.mk 235 15 235 38))) (Pos.mk 235 8 235 38))])
noncomputable abbrev o_1246 (P : Params) : Obj := (Obj.mk Value.none Option.none (Data.func (FuncData.mk s172 s233 (Arguments.mk [] [(Arg.mk s45 Option.none (Pos.mk 228 16 228 20)), (Arg.mk s82 Option.none (Pos.mk 228 22 228 27))] Option.none [] [] Option.none []) d235 (Scope.mk ScopeKind.function [(Prod.mk s45 NameKind.cell), (Prod.mk s82 NameKind.cell), (Prod.mk s204 NameKind.local), (Prod.mk s75 NameKind.globalImplicit), (Prod.mk s210 NameKind.globalImplicit), (Prod.mk s156 NameKind.globalImplicit), (Prod.mk s213 NameKind.globalImplicit)] Bool.false Bool.false [(Prod.mk s60 (Const.str s45)), (Prod.mk s60 (Const.str s82)), (Prod.mk s60 (Const.str s204)), (Prod.mk s60 (Const.str s180))]) (0 : Nat) [] Value.none Value.none Value.none Value.none Option.none Value.none Value.none (0 : Nat))) (List.toArray []))
noncomputable abbrev o_1247 (P : Params) : Obj := (Obj.mk (Value.type W.SL.s5856160107412720595x4) Option.none (Data.fields (List.toArray [(Value.str s172 (601 : Nat)), (Value.str s233 (602 : Nat)), (Value.str s1 (603 : Nat)), (Value.int (228 : Int) (0 : Nat)), (Value.int (2 : Int) (0 : Nat)), (Value.int (0 : Int) (0 : Nat)), (Value.int (0 : Int) (0 : Nat)), (Value.int (3 : Int) (0 : Nat)), (Value.ref (349 : Nat)), (Value.bool Bool.true), (Value.int (181 : Int) (0 : Nat)), (Value.ref (350 : Nat)), Value.none, Value.none, Value.none, (Value.ref (351 : Nat)), (Value.int (604 : Int) (0 : Nat)), (Value.int (228 : Int) (0 : Nat)), (Value.str s1 (605 : Nat))])) (List.toArray []))
noncomputable abbrev o_1248 (P : Params) : Obj := (Obj.mk (Value.type W.SL.s7174869446012820540x8) Option.none (Data.func (FuncData.mk s172 s233 (Arguments.mk [] [(Arg.mk s45 Option.none (Pos.mk 228 16 228 20)), (Arg.mk s82 Option.none (Pos.mk 228 22 228 27))] Option.none [] [] Option.none []) d235 (Scope.mk ScopeKind.function [(Prod.mk s45 NameKind.cell), (Prod.mk s82 NameKind.cell), (Prod.mk s204 NameKind.local), (Prod.mk s75 NameKind.globalImplicit), (Prod.mk s210 NameKind.globalImplicit), (Prod.mk s156 NameKind.globalImplicit), (Prod.mk s213 NameKind.globalImplicit)] Bool.false Bool.false [(Prod.mk s60 (Const.str s45)), (Prod.mk s60 (Const.str s82)), (Prod.mk s60 (Const.str s204)), (Prod.mk s60 (Const.str s180))]) (3 : Nat) [] Value.none Value.none Value.none (Value.str s144 (398 : Nat)) Option.none (Value.ref (352 : Nat)) Value.none (0 : Nat))) (List.toArray []))
noncomputable abbrev o_1249 (P : Params) : Obj := (Obj.mk (Value.type W.SL.s2766695959194262286x5) Option.none (Data.seq (List.toArray []) (0 : Nat)) (List.toArray []))
noncomputable abbrev o_1250 (P : Params) : Obj := (Obj.mk Value.none Option.none (Data.fields (List.toArray [])) (List.toArray []))
noncomputable abbrev o_1251 (P : Params) : Obj := (Obj.mk (Value.type W.SL.s2766695959194262286x5) Option.none (Data.seq (List.toArray [(Value.str s45 (610 : Nat)), (Value.str s82 (611 : Nat))]) (0 : Nat)) (List.toArray []))
noncomputable abbrev o_1252 (P : Params) : Obj := (Obj.mk (Value.type W.SL.s2766695959194262286x5) Option.none (Data.seq (List.toArray []) (0 : Nat)) (List.toArray []))
noncomputable abbrev s236 : Str := ⟨⟨[nat_lit 80, nat_lit 111, nat_lit 108, nat_lit 121, nat_lit 110, nat_lit 111, nat_lit 109, nat_lit 105, nat_lit 97, nat_lit 108, nat_lit 71, nat_lit 101, nat_lit 110, nat_lit 101, nat_lit 114, nat_lit 105, nat_lit 99, nat_lit 46, nat_lit 95, nat_lit 95, nat_lit 114, nat_lit 109, nat_lit 117, nat_lit 108, nat_lit 95, nat_lit 95]⟩⟩
noncomputable abbrev d237 : FuncBody := (FuncBody.stmts [(Stmt.Return (Option.some (Expr.Call (Expr.Attribute (Expr.Name s45 (Pos.mk 238 15 238 19)) s172 (Pos.mk 238 15 238 27)) [(Expr.Name s82 (Pos.mk 238 28 238 33))] [] (Pos.mk 238 15 238 34))) (Pos.mk 238 8 238 34))])
noncomputable abbrev o_1253 (P : Params) : Obj := (Obj.mk Value.none Option.none (Data.func (FuncData.mk s173 s236 (Arguments.mk [] [(Arg.mk s45 Option.none (Pos.mk 237 17 237 21)), (Arg.mk s82 Option.none (Pos.mk 237 23 237 28))] Option.none [] [] Option.none []) d237 d104 (0 : Nat) [] Value.none Value.none Value.none Value.none Option.none Value.none Value.none (0 : Nat))) (List.toArray []))
noncomputable abbrev o_1254 (P : Params) : Obj := (Obj.mk (Value.type W.SL.s5856160107412720595x4) Option.none (Data.fields (List.toArray [(Value.str s173 (607 : Nat)), (Value.str s236 (608 : Nat)), (Value.str s1 (609 : Nat)), (Value.int (237 : Int) (0 : Nat)), (Value.int (2 : Int) (0 : Nat)), (Value.int (0 : Int) (0 : Nat)), (Value.int (0 : Int) (0 : Nat)), (Value.int (3 : Int) (0 : Nat)), (Value.ref (354 : Nat)), (Value.bool Bool.true), (Value.int (181 : Int) (0 : Nat)), (Value.ref (355 : Nat)), Value.none, (Value.ref (356 : Nat)), (Value.ref (357 : Nat)), (Value.ref (358 : Nat)), (Value.int (612 : Int) (0 : Nat)), (Value.int (237 : Int) (0 : Nat)), (Value.str s1 (613 : Nat))])) (List.toArray []))
noncomputable abbrev o_1255 (P : Params) : Obj := (Obj.mk (Value.type W.SL.s7174869446012820540x8) Option.none (Data.func (FuncData.mk s173 s236 (Arguments.mk [] [(Arg.mk s45 Option.none (Pos.mk 237 17 237 21)), (Arg.mk s82 Option.none (Pos.mk 237 23 237 28))] Option.none [] [] Option.none []) d237 d104 (3 : Nat) [] Value.none Value.none Value.none (Value.str s144 (398 : Nat)) Option.none (Value.ref (359 : Nat)) Value.none (0 : Nat))) (List.toArray []))
noncomputable abbrev o_1256 (P : Params) : Obj := (Obj.mk (Value.type W.SL.s2766695959194262286x5) Option.none (Data.seq (List.toArray []) (0 : Nat)) (List.toArray []))
noncomputable abbrev o_1257 (P : Params) : Obj := (Obj.mk Value.none Option.none (Data.fields (List.toArray [])) (List.toArray []))
noncomputable abbrev o_1258 (P : Params) : Obj := (Obj.mk (Value.type W.SL.s2766695959194262286x5) Option.none (Data.seq (List.toArray [(Value.str s45 (618 : Nat)), (Value.str s82 (619 : Nat))]) (0 : Nat)) (List.toArray []))
noncomputable abbrev o_1259 (P : Params) : Obj := (Obj.mk (Value.type W.SL.s2766695959194262286x5) Option.none (Data.seq (List.toArray []) (0 : Nat)) (List.toArray []))
noncomputable abbrev s238 : Str := ⟨⟨[nat_lit 80, nat_lit 111, nat_lit 108, nat_lit 121, nat_lit 110, nat_lit 111, nat_lit 109, nat_lit 105, nat_lit 97, nat_lit 108, nat_lit 71, nat_lit 101, nat_lit 110, nat_lit 101, nat_lit 114, nat_lit 105, nat_lit 99, nat_lit 46, nat_lit 95, nat_lit 95, nat_lit 105, nat_lit 109, nat_lit 117, nat_lit 108, nat_lit 95, nat_lit 95]⟩⟩
noncomputable abbrev d239 : FuncBody := (FuncBody.stmts [(Stmt.Return (Option.some (Expr.BinOp (Expr.Name s45 (Pos.mk 241 15 241 19)) Operator.Mult (Expr.Name s82 (Pos.mk 241 22 241 27)) (Pos.mk 241 15 241 27))) (Pos.mk 241 8 241 27))])
noncomputable abbrev o_1260 (P : Params) : Obj := (Obj.mk Value.none Option.none (Data.func (FuncData.mk s174 s238 (Arguments.mk [] [(Arg.mk s45 Option.none (Pos.mk 240 17 240 21)), (Arg.mk s82 Option.none (Pos.mk 240 23 240 28))] Option.none [] [] Option.none []) d239 d104 (0 : Nat) [] Value.none Value.none Value.none Value.none Option.none Value.none Value.none (0 : Nat))) (List.toArray []))
noncomputable abbrev o_1261 (P : Params) : Obj := (Obj.mk (Value.type W.SL.s5856160107412720595x4) Option.none (Data.fields (List.toArray [(Value.str s174 (615 : Nat)), (Value.str s238 (616 : Nat)), (Value.str s1 (617 : Nat)), (Value.int (240 : Int) (0 : Nat)), (Value.int (2 : Int) (0 : Nat)), (Value.int (0 : Int) (0 : Nat)), (Value.int (0 : Int) (0 : Nat)), (Value.int (3 : Int) (0 : Nat)), (Value.ref (361 : Nat)), (Value.bool Bool.true), (Value.int (181 : Int) (0 : Nat)), (Value.ref (362 : Nat)), Value.none, (Value.ref (363 : Nat)), (Value.ref (364 : Nat)), (Value.ref (365 : Nat)), (Value.int (620 : Int) (0 : Nat)), (Value.int (240 : Int) (0 : Nat)), (Value.str s1 (621 : Nat))])) (List.toArray []))
noncomputable abbrev o_1262 (P : Params) : Obj := (Obj.mk (Value.type W.SL.s7174869446012820540x8) Option.none (Data.func (FuncData.mk s174 s238 (Arguments.mk [] [(Arg.mk s45 Option.none (Pos.mk 240 17 240 21)), (Arg.mk s82 Option.none (Pos.mk 240 23 240 28))] Option.none [] [] Option.none []) d239 d104 (3 : Nat) [] Value.none Value.none Value.none (Value.str s144 (398 : Nat)) Option.none (Value.ref (366 : Nat)) Value.none (0 : Nat))) (List.toArray []))
noncomputable abbrev o_1263 (P : Params) : Obj := (Obj.mk (Value.type W.SL.s2766695959194262286x5) Option.none (Data.seq (List.toArray []) (0 : Nat)) (List.toArray []))
noncomputable abbrev o_1264 (P : Params) : Obj := (Obj.mk Value.none Option.none (Data.fields (List.toArray [])) (List.toArray []))
noncomputable abbrev s240 : Str := ⟨⟨[nat_lit 102]⟩⟩
noncomputable abbrev s241 : Str := ⟨⟨[nat_lit 103]⟩⟩
noncomputable abbrev o_1265 (P : Params) : Obj := (Obj.mk (Value.type W.SL.s2766695959194262286x5) Option.none (Data.seq (List.toArray [(Value.str s45 (626 : Nat)), (Value.str s84 (627 : Nat)), (Value.str s240 (628 : Nat)), (Value.str s241 (629 : Nat))]) (0 : Nat)) (List.toArray []))
noncomputable abbrev o_1266 (P : Params) : Obj := (Obj.mk (Value.type W.SL.s2766695959194262286x5) Option.none (Data.seq (List.toArray []) (0 : Nat)) (List.toArray []))
noncomputable abbrev s242 : Str := ⟨⟨[nat_lit 80, nat_lit 111, nat_lit 108, nat_lit 121, nat_lit 110, nat_lit 111, nat_lit 109, nat_lit 105, nat_lit 97, nat_lit 108, nat_lit 71, nat_lit 101, nat_lit 110, nat_lit 101, nat_lit 114, nat_lit 105, nat_lit 99, nat_lit 46, nat_lit 95, nat_lit 95, nat_lit 112, nat_lit 111, nat_lit 119, nat_lit 95, nat_lit 95]⟩⟩
noncomputable abbrev s243 : Str := ⟨⟨[nat_lit 69, nat_lit 120, nat_lit 112, nat_lit 111, nat_lit 110, nat_lit 101, nat_lit 110, nat_lit 116, nat_lit 105, nat_lit 97, nat_lit 116, nat_lit 105, nat_lit 111, nat_lit 110, nat_lit 32, nat_lit 111, nat_lit 102, nat_lit 32, nat_lit 97, nat_lit 32, nat_lit 112, nat_lit 111, nat_lit 108, nat_lit 121, nat_lit 110, nat_lit 111, nat_lit 109, nat_lit 105, nat_lit 97, nat_lit 108, nat_lit 32, nat_lit 109, nat_lit 117, nat_lit 115, nat_lit 116, nat_lit 32, nat_lit 98, nat_lit 101, nat_lit 32, nat_lit 100, nat_lit 111, nat_lit 110, nat_lit 101, nat_lit 32, nat_lit 117, nat_lit 115, nat_lit 105, nat_lit 110, nat_lit 103, nat_lit 32, nat_lit 97, nat_lit 110, nat_lit 32, nat_lit 105, nat_lit 110, nat_lit 116, nat_lit 101, nat_lit 103, nat_lit 101, nat_lit 114, nat_lit 46]⟩⟩
noncomputable abbrev s244 : Str := ⟨⟨[nat_lit 78, nat_lit 101, nat_lit 103, nat_lit 97, nat_lit 116, nat_lit 105, nat_lit 118, nat_lit 101, nat_lit 32, nat_lit 112, nat_lit 111, nat_lit 119, nat_lit 101, nat_lit 114, nat_lit 115, nat_lit 32, nat_lit 97, nat_lit 114, nat_lit 101, nat_lit 32, nat_lit 110, nat_lit 111, nat_lit 116, nat_lit 32, nat_lit 115, nat_lit 117, nat_lit 112, nat_lit 112, nat_lit 111, nat_lit 114, nat_lit 116, nat_lit 101, nat_lit 100, nat_lit 32, nat_lit 102, nat_lit 111, nat_lit 114, nat_lit 32, nat_lit 101, nat_lit 108, nat_lit 101, nat_lit 109, nat_lit 101, nat_lit 110, nat_lit 116, nat_lit 115, nat_lit 32, nat_lit 111, nat_lit 102, nat_lit 32, nat_lit 97, nat_lit 32, nat_lit 80, nat_lit 111, nat_lit 108, nat_lit 121, nat_lit 110, nat_lit 111, nat_lit 109, nat_lit 105, nat_lit 97, nat_lit 108, nat_lit 32, nat_lit 82, nat_lit 105, nat_lit 110, nat_lit 103]⟩⟩
noncomputable abbrev d245 : FuncBody := (FuncBody.stmts [(Stmt.If (Expr.UnaryOp UnaryOp.Not (Expr.Call (Expr.Name s75 (Pos.mk 244 15 244 25)) [(Expr.Name s84 (Pos.mk 244 26 244 27)), (Expr.Name s156 (Pos.mk 244 29 244 32))] [] (Pos.mk 244 15 244 33)) (Pos.mk 244 11 244 33)) [(Stmt.Raise (Option.some (Expr.Call (Expr.Name s94 (Pos.mk 245 18 245 27)) [(Expr.Constant (Const.str s243) 0 (Pos.mk 245 28 245 91))] [] (Pos.mk 245 18 245 92))) Option.none (Pos.mk 245 12 245 92))] [] (Pos.mk 244 8 245 92)), (Stmt.If (Expr.Compare (Expr.Name s84 (Pos.mk 246 11 246 12)) [CmpOp.Lt] [(Expr.Constant (Const.int (0 : Int)) 0 (Pos.mk 246 15 246 16))] (Pos.mk 246 11 246 16)) [(Stmt.Raise (Option.some (Expr.Call (Expr.Name s51 (Pos.mk 247 18 247 28)) [(Expr.Constant (Const.str s244) 0 (Pos.mk 247 29 247 98))] [] (Pos.mk 247 18 247 99))) Option.none (Pos.mk 247 12 247 99))] [] (Pos.mk 246 8 247 99)), (Stmt.Assign [(Expr.Name s240 (Pos.mk 248 8 248 9))] (Expr.Name s45 (Pos.mk 248 12 248 16)) (Pos.mk 248 8 248 16)), (Stmt.Assign [(Expr.Name s241 (Pos.mk 249 8 249 9))] (Expr.Call (Expr.Attribute (Expr.Name s45 (Pos.mk 249 12 249 16)) s46 (Pos.mk 249 12 249 23)) [(Expr.Constant (Const.int (1 : Int)) 0 (Pos.mk 249 24 249 25))] [] (Pos.mk 249 12 249 26)) (Pos.mk 249 8 249 26)), (Stmt.While (Expr.Compare (Expr.Name s84 (Pos.mk 250 14 250 15)) [CmpOp.Gt] [(Expr.Constant (Const.int (0 : Int)) 0 (Pos.mk 250 18 250 19))] (Pos.mk 250 14 250 19)) [(Stmt.If (Expr.Compare (Expr.BinOp (Expr.Name s84 (Pos.mk 251 15 251 16)) Operator.Mod (Expr.Constant (Const.int (2 : Int)) 0 (Pos.mk 251 19 251 20)) (Pos.mk 251 15 251 20)) [CmpOp.Eq] [(Expr.Constant (Const.int (1 : Int)) 0 (Pos.mk 251 24 251 25))] (Pos.mk 251 15 251 25)) [(Stmt.Assign [(Expr.Name s241 (Pos.mk 252 16 252 17))] (Expr.BinOp (Expr.Name s241 (Pos.mk 252 20 252 21)) Operator.Mult (Expr.Name s240 (Pos.mk 252 24 252 25)) (Pos.mk 252 20 252 25)) (Pos.mk 252 16 252 25))] [] (Pos.mk 251 12 252 25)), (Stmt.Assign [(Expr.Name s240 (Pos.mk 253 12 253 13))] (Expr.BinOp (Expr.Name s240 (Pos.mk 253 16 253 17)) Operator.Mult (Expr.Name s240 (Pos.mk 253 20 253 21)) (Pos.mk 253 16 253 21)) (Pos.mk 253 12 253 21)), (Stmt.Assign [(Expr.Name s84 (Pos.mk 254 12 254 13))] (Expr.BinOp (Expr.Name s84 (Pos.mk 254 16 254 17)) Operator.FloorDiv (Expr.Constant (Const.int (2 : Int)) 0 (Pos.mk 254 21 254 22)) (Pos.mk 254 16 254 22)) (Pos.mk 254 12 254 22))] [] (Pos.mk 250 8 254 22)), (Stmt.Return (Option.some (Expr.Name s241 (Pos.mk 255 15 255 16))) (Pos.mk 255 8 255 16))])
noncomputable abbrev o_1267 (P : Params) : Obj := (Obj.mk Value.none Option.none (Data.func (FuncData.mk s175 s242 (Arguments.mk [] [(Arg.mk s45 Option.none (Pos.mk 243 16 243 20)), (Arg.mk s84 Option.none (Pos.mk 243 22 243 23))] Option.none [] [] Option.none []) d245 (Scope.mk ScopeKind.function [(Prod.mk s45 NameKind.local), (Prod.mk s84 NameKind.local), (Prod.mk s240 NameKind.local), (Prod.mk s241 NameKind.local), (Prod.mk s75 NameKind.globalImplicit), (Prod.mk s156 NameKind.globalImplicit), (Prod.mk s94 NameKind.globalImplicit), (Prod.mk s51 NameKind.globalImplicit)] Bool.false Bool.false []) (0 : Nat) [] Value.none Value.none Value.none Value.none Option.none Value.none Value.none (0 : Nat))) (List.toArray []))
noncomputable abbrev o_1268 (P : Params) : Obj := (Obj.mk (Value.type W.SL.s5856160107412720595x4) Option.none (Data.fields (List.toArray [(Value.str s175 (623 : Nat)), (Value.str s242 (624 : Nat)), (Value.str s1 (625 : Nat)), (Value.int (243 : Int) (0 : Nat)), (Value.int (2 : Int) (0 : Nat)), (Value.int (0 : Int) (0 : Nat)), (Value.int (0 : Int) (0 : Nat)), (Value.int (3 : Int) (0 : Nat)), (Value.ref (368 : Nat)), (Value.bool Bool.true), (Value.int (181 : Int) (0 : Nat)), (Value.ref (369 : Nat)), Value.none, (Value.ref (370 : Nat)), (Value.ref (371 : Nat)), (Value.ref (372 : Nat)), (Value.int (630 : Int) (0 : Nat)), (Value.int (243 : Int) (0 : Nat)), (Value.str s1 (631 : Nat))])) (List.toArray []))
noncomputable abbrev o_1269 (P : Params) : Obj := (Obj.mk (Value.type W.SL.s7174869446012820540x8) Option.none (Data.func (FuncData.mk s175 s242 (Arguments.mk [] [(Arg.mk s45 Option.none (Pos.mk 243 16 243 20)), (Arg.mk s84 Option.none (Pos.mk 243 22 243 23))] Option.none [] [] Option.none []) d245 (Scope.mk ScopeKind.function [(Prod.mk s45 NameKind.local), (Prod.mk s84 NameKind.local), (Prod.mk s240 NameKind.local), (Prod.mk s241 NameKind.local), (Prod.mk s75 NameKind.globalImplicit), (Prod.mk s156 NameKind.globalImplicit), (Prod.mk s94 NameKind.globalImplicit), (Prod.mk s51 NameKind.globalImplicit)] Bool.false Bool.false []) (3 : Nat) [] Value.none Value.none Value.none (Value.str s144 (398 : Nat)) Option.none (Value.ref (373 : Nat)) Value.none (0 : Nat))) (List.toArray []))
noncomputable abbrev o_1270 (P : Params) : Obj := (Obj.mk (Value.type W.SL.s2766695959194262286x5) Option.none (Data.seq (List.toArray []) (0 : Nat)) (List.toArray []))
noncomputable abbrev o_1271 (P : Params) : Obj := (Obj.mk Value.none Option.none (Data.fields (List.toArray [])) (List.toArray []))
noncomputable abbrev o_1272 (P : Params) : Obj := (Obj.mk (Value.type W.SL.s2766695959194262286x5) Option.none (Data.seq (List.toArray [(Value.str s45 (636 : Nat)), (Value.str s82 (637 : Nat))]) (0 : Nat)) (List.toArray []))
noncomputable abbrev o_1273 (P : Params) : Obj := (Obj.mk (Value.type W.SL.s2766695959194262286x5) Option.none (Data.seq (List.toArray []) (0 : Nat)) (List.toArray []))
noncomputable abbrev s246 : Str := ⟨⟨[nat_lit 80, nat_lit 111, nat_lit 108, nat_lit 121, nat_lit 110, nat_lit 111, nat_lit 109, nat_lit 105, nat_lit 97, nat_lit 108, nat_lit 71, nat_lit 101, nat_lit 110, nat_lit 101, nat_lit 114, nat_lit 105, nat_lit 99, nat_lit 46, nat_lit 95, nat_lit 95, nat_lit 101, nat_lit 113, nat_lit 95, nat_lit 95]⟩⟩
noncomputable abbrev d247 : FuncBody := (FuncBody.stmts [(Stmt.If (Expr.Call (Expr.Name s75 (Pos.mk 258 11 258 21)) [(Expr.Name s82 (Pos.mk 258 22 258 27)), (Expr.Call (Expr.Name s210 (Pos.mk 258 29 258 33)) [(Expr.Name s45 (Pos.mk 258 34 258 38))] [] (Pos.mk 258 29 258 39))] [] (Pos.mk 258 11 258 40)) [(Stmt.Return (Option.some (Expr.Compare (Expr.Attribute (Expr.Name s45 (Pos.mk 259 19 259 23)) s177 (Pos.mk 259 19 259 30)) [CmpOp.Eq] [(Expr.Attribute (Expr.Name s82 (Pos.mk 259 34 259 39)) s177 (Pos.mk 259 34 259 46))] (Pos.mk 259 19 259 46))) (Pos.mk 259 12 259 46))] [(Stmt.If (Expr.BoolOp BoolOp.And [(Expr.Call (Expr.Name s75 (Pos.mk 260 13 260 23)) [(Expr.Name s82 (Pos.mk 260 24 260 29)), (Expr.Name s156 (Pos.mk 260 31 260 34))] [] (Pos.mk 260 13 260 35)), (Expr.Call (Expr.Attribute (Expr.Name s45 (Pos.mk 260 40 260 44)) s163 (Pos.mk 260 40 260 56)) [] [] (Pos.mk 260 40 260 58)), (Expr.Compare (Expr.BinOp (Expr.Name s82 (Pos.mk 260 64 260 69)) Operator.Mod (Expr.Attribute (Expr.Attribute (Expr.Name s45 (Pos.mk 260 72 260 76)) s46 (Pos.mk 260 72 260 83)) s147 (Pos.mk 260 72 260 85)) (Pos.mk 260 64 260 85)) [CmpOp.Eq] [(Expr.Subscript (Expr.Attribute (Expr.Name s45 (Pos.mk 260 89 260 93)) s177 (Pos.mk 260 89 260 100)) (Expr.Constant (Const.int (0 : Int)) 0 (Pos.mk 260 101 260 102)) (Pos.mk 260 89 260 103))] (Pos.mk 260 64 260 103))] (Pos.mk 260 13 260 104)) [(Stmt.Return (Option.some (Expr.Constant (Const.bool Bool.true) 0 (Pos.mk 261 19 261 23))) (Pos.mk 261 12 261 23))] [] (Pos.mk 260 8 261 23))] (Pos.mk 258 8 261 23)), (Stmt.Return (Option.some (Expr.Constant (Const.bool Bool.false) 0 (Pos.mk 262 15 262 20))) (Pos.mk 262 8 262 20))])
noncomputable abbrev o_1274 (P : Params) : Obj := (Obj.mk Value.none Option.none (Data.func (FuncData.mk s35 s246 (Arguments.mk [] [(Arg.mk s45 Option.none (Pos.mk 257 15 257 19)), (Arg.mk s82 Option.none (Pos.mk 257 21 257 26))] Option.none [] [] Option.none []) d247 (Scope.mk ScopeKind.function [(Prod.mk s45 NameKind.local), (Prod.mk s82 NameKind.local), (Prod.mk s75 NameKind.globalImplicit), (Prod.mk s210 NameKind.globalImplicit), (Prod.mk s156 NameKind.globalImplicit)] Bool.false Bool.false []) (0 : Nat) [] Value.none Value.none Value.none Value.none Option.none Value.none Value.none (0 : Nat))) (List.toArray []))
noncomputable abbrev o_1275 (P : Params) : Obj := (Obj.mk (Value.type W.SL.s5856160107412720595x4) Option.none (Data.fields (List.toArray [(Value.str s35 (633 : Nat)), (Value.str s246 (634 : Nat)), (Value.str s1 (635 : Nat)), (Value.int (257 : Int) (0 : Nat)), (Value.int (2 : Int) (0 : Nat)), (Value.int (0 : Int) (0 : Nat)), (Value.int (0 : Int) (0 : Nat)), (Value.int (3 : Int) (0 : Nat)), (Value.ref (375 : Nat)), (Value.bool Bool.true), (Value.int (181 : Int) (0 : Nat)), (Value.ref (376 : Nat)), Value.none, (Value.ref (377 : Nat)), (Value.ref (378 : Nat)), (Value.ref (379 : Nat)), (Value.int (638 : Int) (0 : Nat)), (Value.int (257 : Int) (0 : Nat)), (Value.str s1 (639 : Nat))])) (List.toArray []))
noncomputable abbrev o_1276 (P : Params) : Obj := (Obj.mk (Value.type W.SL.s7174869446012820540x8) Option.none (Data.func (FuncData.mk s35 s246 (Arguments.mk [] [(Arg.mk s45 Option.none (Pos.mk 257 15 257 19)), (Arg.mk s82 Option.none (Pos.mk 257 21 257 26))] Option.none [] [] Option.none []) d247 (Scope.mk ScopeKind.function [(Prod.mk s45 NameKind.local), (Prod.mk s82 NameKind.local), (Prod.mk s75 NameKind.globalImplicit), (Prod.mk s210 NameKind.globalImplicit), (Prod.mk s156 NameKind.globalImplicit)] Bool.false Bool.false []) (3 : Nat) [] Value.none Value.none Value.none (Value.str s144 (398 : Nat)) Option.none (Value.ref (380 : Nat)) Value.none (0 : Nat))) (List.toArray []))
noncomputable abbrev o_1277 (P : Params) : Obj := (Obj.mk (Value.type W.SL.s2766695959194262286x5) Option.none (Data.seq (List.toArray []) (0 : Nat)) (List.toArray []))
noncomputable abbrev o_1278 (P : Params) : Obj := (Obj.mk Value.none Option.none (Data.fields (List.toArray [])) (List.toArray []))
noncomputable abbrev o_1279 (P : Params) : Obj := (Obj.mk (Value.type W.SL.s2766695959194262286x5) Option.none (Data.seq (List.toArray [(Value.str s45 (644 : Nat)), (Value.str s73 (645 : Nat))]) (0 : Nat)) (List.toArray []))
noncomputable abbrev o_1280 (P : Params) : Obj := (Obj.mk (Value.type W.SL.s2766695959194262286x5) Option.none (Data.seq (List.toArray []) (0 : Nat)) (List.toArray []))
noncomputable abbrev s248 : Str := ⟨⟨[nat_lit 80, nat_lit 111, nat_lit 108, nat_lit 121, nat_lit 110, nat_lit 111, nat_lit 109, nat_lit 105, nat_lit 97, nat_lit 108, nat_lit 71, nat_lit 101, nat_lit 110, nat_lit 101, nat_lit 114, nat_lit 105, nat_lit 99, nat_lit 46, nat_lit 95, nat_lit 95, nat_lit 103, nat_lit 101, nat_lit 116, nat_lit 105, nat_lit 116, nat_lit 101, nat_lit 109, nat_lit 95, nat_lit 95]⟩⟩
noncomputable abbrev d249 : FuncBody := (FuncBody.stmts [(Stmt.Return (Option.some (Expr.Subscript (Expr.Attribute (Expr.Name s45 (Pos.mk 265 15 265 19)) s177 (Pos.mk 265 15 265 26)) (Expr.Name s73 (Pos.mk 265 27 265 30)) (Pos.mk 265 15 265 31))) (Pos.mk 265 8 265 31))])
noncomputable abbrev o_1281 (P : Params) : Obj := (Obj.mk Value.none Option.none (Data.func (FuncData.mk s33 s248 (Arguments.mk [] [(Arg.mk s45 Option.none (Pos.mk 264 20 264 24)), (Arg.mk s73 Option.none (Pos.mk 264 26 264 29))] Option.none [] [] Option.none []) d249 (Scope.mk ScopeKind.function [(Prod.mk s45 NameKind.local), (Prod.mk s73 NameKind.local)] Bool.false Bool.false []) (0 : Nat) [] Value.none Value.none Value.none Value.none Option.none Value.none Value.none (0 : Nat))) (List.toArray []))
noncomputable abbrev o_1282 (P : Params) : Obj := (Obj.mk (Value.type W.SL.s5856160107412720595x4) Option.none (Data.fields (List.toArray [(Value.str s33 (641 : Nat)), (Value.str s248 (642 : Nat)), (Value.str s1 (643 : Nat)), (Value.int (264 : Int) (0 : Nat)), (Value.int (2 : Int) (0 : Nat)), (Value.int (0 : Int) (0 : Nat)), (Value.int (0 : Int) (0 : Nat)), (Value.int (3 : Int) (0 : Nat)), (Value.ref (382 : Nat)), (Value.bool Bool.true), (Value.int (181 : Int) (0 : Nat)), (Value.ref (383 : Nat)), Value.none, (Value.ref (384 : Nat)), (Value.ref (385 : Nat)), (Value.ref (386 : Nat)), (Value.int (646 : Int) (0 : Nat)), (Value.int (264 : Int) (0 : Nat)), (Value.str s1 (647 : Nat))])) (List.toArray []))
noncomputable abbrev o_1283 (P : Params) : Obj := (Obj.mk (Value.type W.SL.s7174869446012820540x8) Option.none (Data.func (FuncData.mk s33 s248 (Arguments.mk [] [(Arg.mk s45 Option.none (Pos.mk 264 20 264 24)), (Arg.mk s73 Option.none (Pos.mk 264 26 264 29))] Option.none [] [] Option.none []) d249 (Scope.mk ScopeKind.function [(Prod.mk s45 NameKind.local), (Prod.mk s73 NameKind.local)] Bool.false Bool.false []) (3 : Nat) [] Value.none Value.none Value.none (Value.str s144 (398 : Nat)) Option.none (Value.ref (387 : Nat)) Value.none (0 : Nat))) (List.toArray []))
noncomputable abbrev o_1284 (P : Params) : Obj := (Obj.mk (Value.type W.SL.s2766695959194262286x5) Option.none (Data.seq (List.toArray [(Value.str s177 (649 : Nat)), (Value.str s46 (650 : Nat))]) (0 : Nat)) (List.toArray []))
noncomputable abbrev o_1285 (P : Params) : Obj := (Obj.mk (Value.type W.SL.s14018661285674007319x4) Option.none (Data.dict (List.toArray [(DictEntry.mk (PyData.keyHash P s22) (Value.str s22 (468 : Nat)) (Value.str s144 (398 : Nat))), (DictEntry.mk (PyData.keyHash P s25) (Value.str s25 (472 : Nat)) (Value.int (142 : Int) (471 : Nat))), (DictEntry.mk (PyData.keyHash P s26) (Value.str s26 (481 : Nat)) (Value.ref (246 : Nat))), (DictEntry.mk (PyData.keyHash P s162) (Value.str s162 (488 : Nat)) (Value.ref (253 : Nat))), (DictEntry.mk (PyData.keyHash P s163) (Value.str s163 (495 : Nat)) (Value.ref (260 : Nat))), (DictEntry.mk (PyData.keyHash P s164) (Value.str s164 (501 : Nat)) (Value.ref (265 : Nat))), (DictEntry.mk (PyData.keyHash P s32) (Value.str s32 (508 : Nat)) (Value.ref (272 : Nat))), (DictEntry.mk (PyData.keyHash P s165) (Value.str s165 (517 : Nat)) (Value.ref (279 : Nat))), (DictEntry.mk (PyData.keyHash P s166) (Value.str s166 (526 : Nat)) (Value.ref (286 : Nat))), (DictEntry.mk (PyData.keyHash P s167) (Value.str s167 (532 : Nat)) (Value.ref (291 : Nat))), (DictEntry.mk (PyData.keyHash P s36) (Value.str s36 (538 : Nat)) (Value.ref (296 : Nat))), (DictEntry.mk (PyData.keyHash P s168) (Value.str s168 (544 : Nat)) (Value.ref (301 : Nat))), (DictEntry.mk (PyData.keyHash P s37) (Value.str s37 (553 : Nat)) (Value.ref (308 : Nat))), (DictEntry.mk (PyData.keyHash P s169) (Value.str s169 (561 : Nat)) (Value.ref (315 : Nat))), (DictEntry.mk (PyData.keyHash P s38) (Value.str s38 (569 : Nat)) (Value.ref (322 : Nat))), (DictEntry.mk (PyData.keyHash P s170) (Value.str s170 (575 : Nat)) (Value.ref (327 : Nat))), (DictEntry.mk (PyData.keyHash P s39) (Value.str s39 (584 : Nat)) (Value.ref (334 : Nat))), (DictEntry.mk (PyData.keyHash P s171) (Value.str s171 (592 : Nat)) (Value.ref (341 : Nat))), (DictEntry.mk (PyData.keyHash P s40) (Value.str s40 (600 : Nat)) (Value.ref (348 : Nat))), (DictEntry.mk (PyData.keyHash P s172) (Value.str s172 (606 : Nat)) (Value.ref (353 : Nat))), (DictEntry.mk (PyData.keyHash P s173) (Value.str s173 (614 : Nat)) (Value.ref (360 : Nat))), (DictEntry.mk (PyData.keyHash P s174) (Value.str s174 (622 : Nat)) (Value.ref (367 : Nat))), (DictEntry.mk (PyData.keyHash P s175) (Value.str s175 (632 : Nat)) (Value.ref (374 : Nat))), (DictEntry.mk (PyData.keyHash P s35) (Value.str s35 (640 : Nat)) (Value.ref (381 : Nat))), (DictEntry.mk (PyData.keyHash P s33) (Value.str s33 (648 : Nat)) (Value.ref (388 : Nat))), (DictEntry.mk (PyData.keyHash P s44) (Value.str s44 (651 : Nat)) (Value.ref (389 : Nat))), (DictEntry.mk (PyData.keyHash P s123) (Value.str s123 (653 : Nat)) (Value.ref (392 : Nat))), (DictEntry.mk (PyData.keyHash P s124) (Value.str s124 (655 : Nat)) (Value.ref (393 : Nat))), (DictEntry.mk (PyData.keyHash P s5) (Value.str s5 (656 : Nat)) Value.none), (DictEntry.mk (PyData.keyHash P s125) (Value.str s125 (657 : Nat)) Value.none)]) (5 : Nat)) (List.toArray []))
noncomputable abbrev o_1286 (P : Params) : Obj := (Obj.mk (Value.type W.SL.s17162191345867700912x4) Option.none (Data.cls (ClassData.mk s17 [(Value.type W.SL.s2742458400755230247x6)] [(Value.ref (391 : Nat)), (Value.type W.SL.s2742458400755230247x6)] (390 : Nat) s17 Bool.true [] [] Bool.false Option.none Bool.false)) (List.toArray [Option.none, Option.none, (Option.some (Value.str s17 (461 : Nat))), (Option.some (Value.str s17 (469 : Nat))), (Option.some (Value.builtin W.SL.s11443829558043349243x14)), (Option.some (Value.bool Bool.true))]))
noncomputable abbrev o_1287 (P : Params) : Obj := (Obj.mk (Value.type W.SL.s14755015743595814543x17) Option.none (Data.fields (List.toArray [(Value.str s123 (652 : Nat)), (Value.ref (391 : Nat)), (Value.builtin W.SL.s6511155373996960695x17), (Value.builtin W.SL.s12411053484034534018x21)])) (List.toArray []))
noncomputable abbrev o_1288 (P : Params) : Obj := (Obj.mk (Value.type W.SL.s14755015743595814543x17) Option.none (Data.fields (List.toArray [(Value.str s124 (654 : Nat)), (Value.ref (391 : Nat)), (Value.builtin W.SL.s10220274742760427390x26), Value.none])) (List.toArray []))
noncomputable abbrev o_1289 (P : Params) : Obj := (Obj.mk (Value.type W.SL.s4290257624100764138x5) Option.none (Data.fields (List.toArray [(Value.ref (391 : Nat)), (Value.ref (391 : Nat)), (Value.ref (391 : Nat))])) (List.toArray []))
noncomputable abbrev o_1290 (P : Params) : Obj := (Obj.mk (Value.type W.SL.s11030030927630378310x26) Option.none (Data.fields (List.toArray [(Value.builtin W.SL.s4860613602091757760x24), (Value.ref (391 : Nat))])) (List.toArray []))
noncomputable abbrev o_1378 (P : Params) : Obj := (Obj.mk (Value.type W.SL.s2766695959194262286x5) Option.none (Data.seq (List.toArray []) (0 : Nat)) (List.toArray []))
noncomputable abbrev o_1379 (P : Params) : Obj := (Obj.mk Value.none Option.none (Data.fields (List.toArray [])) (List.toArray []))
noncomputable abbrev o_1380 (P : Params) : Obj := (Obj.mk (Value.type W.SL.s2766695959194262286x5) Option.none (Data.seq (List.toArray [(Value.str s34 (665 : Nat))]) (0 : Nat)) (List.toArray []))
noncomputable abbrev o_1381 (P : Params) : Obj := (Obj.mk (Value.type W.SL.s2766695959194262286x5) Option.none (Data.seq (List.toArray []) (0 : Nat)) (List.toArray []))
noncomputable abbrev d250 : FuncBody := (FuncBody.stmts [(Stmt.Return (Option.some (Expr.IfExp (Expr.Compare (Expr.Call (Expr.Name s55 (Pos.mk 268 25 268 28)) [(Expr.Name s34 (Pos.mk 268 29 268 33))] [] (Pos.mk 268 25 268 34)) [CmpOp.Eq] [(Expr.Constant (Const.int (1 : Int)) 0 (Pos.mk 268 38 268 39))] (Pos.mk 268 25 268 39)) (Expr.Subscript (Expr.Subscript (Expr.Name s34 (Pos.mk 268 11 268 15)) (Expr.Constant (Const.int (0 : Int)) 0 (Pos.mk 268 16 268 17)) (Pos.mk 268 11 268 18)) (Expr.Constant (Const.int (0 : Int)) 0 (Pos.mk 268 19 268 20)) (Pos.mk 268 11 268 21)) (Expr.BinOp (Expr.BinOp (Expr.Subscript (Expr.Subscript (Expr.Name s34 (Pos.mk 268 45 268 49)) (Expr.Constant (Const.int (0 : Int)) 0 (Pos.mk 268 50 268 51)) (Pos.mk 268 45 268 52)) (Expr.Constant (Const.int (0 : Int)) 0 (Pos.mk 268 53 268 54)) (Pos.mk 268 45 268 55)) Operator.Mult (Expr.Subscript (Expr.Subscript (Expr.Name s34 (Pos.mk 268 58 268 62)) (Expr.Constant (Const.int (1 : Int)) 0 (Pos.mk 268 63 268 64)) (Pos.mk 268 58 268 65)) (Expr.Constant (Const.int (1 : Int)) 0 (Pos.mk 268 66 268 67)) (Pos.mk 268 58 268 68)) (Pos.mk 268 45 268 68)) Operator.Sub (Expr.BinOp (Expr.Subscript (Expr.Subscript (Expr.Name s34 (Pos.mk 268 71 268 75)) (Expr.Constant (Const.int (0 : Int)) 0 (Pos.mk 268 76 268 77)) (Pos.mk 268 71 268 78)) (Expr.Constant (Const.int (1 : Int)) 0 (Pos.mk 268 79 268 80)) (Pos.mk 268 71 268 81)) Operator.Mult (Expr.Subscript (Expr.Subscript (Expr.Name s34 (Pos.mk 268 84 268 88)) (Expr.Constant (Const.int (1 : Int)) 0 (Pos.mk 268 89 268 90)) (Pos.mk 268 84 268 91)) (Expr.Constant (Const.int (0 : Int)) 0 (Pos.mk 268 92 268 93)) (Pos.mk 268 84 268 94)) (Pos.mk 268 71 268 94)) (Pos.mk 268 45 268 94)) (Pos.mk 268 11 268 94))) (Pos.mk 268 4 268 94))])
noncomputable abbrev o_1382 (P : Params) : Obj := (Obj.mk Value.none Option.none (Data.func (FuncData.mk s18 s18 (Arguments.mk [] [(Arg.mk s34 Option.none (Pos.mk 267 13 267 17))] Option.none [] [] Option.none []) d250 (Scope.mk ScopeKind.function [(Prod.mk s34 NameKind.local), (Prod.mk s55 NameKind.globalImplicit)] Bool.false Bool.false []) (0 : Nat) [] Value.none Value.none Value.none Value.none Option.none Value.none Value.none (0 : Nat))) (List.toArray []))
noncomputable abbrev o_1383 (P : Params) : Obj := (Obj.mk (Value.type W.SL.s5856160107412720595x4) Option.none (Data.fields (List.toArray [(Value.str s18 (662 : Nat)), (Value.str s18 (663 : Nat)), (Value.str s1 (664 : Nat)), (Value.int (267 : Int) (0 : Nat)), (Value.int (1 : Int) (0 : Nat)), (Value.int (0 : Int) (0 : Nat)), (Value.int (0 : Int) (0 : Nat)), (Value.int (3 : Int) (0 : Nat)), (Value.ref (396 : Nat)), (Value.bool Bool.true), (Value.int (181 : Int) (0 : Nat)), (Value.ref (397 : Nat)), Value.none, (Value.ref (398 : Nat)), (Value.ref (399 : Nat)), (Value.ref (400 : Nat)), (Value.int (666 : Int) (0 : Nat)), (Value.int (267 : Int) (0 : Nat)), (Value.str s1 (667 : Nat))])) (List.toArray []))
noncomputable abbrev o_1384 (P : Params) : Obj := (Obj.mk (Value.type W.SL.s7174869446012820540x8) Option.none (Data.func (FuncData.mk s18 s18 (Arguments.mk [] [(Arg.mk s34 Option.none (Pos.mk 267 13 267 17))] Option.none [] [] Option.none []) d250 (Scope.mk ScopeKind.function [(Prod.mk s34 NameKind.local), (Prod.mk s55 NameKind.globalImplicit)] Bool.false Bool.false []) (3 : Nat) [] Value.none Value.none Value.none (Value.str s4 (660 : Nat)) Option.none (Value.ref (401 : Nat)) Value.none (0 : Nat))) (List.toArray []))
noncomputable abbrev o_1385 (P : Params) : Obj := (Obj.mk (Value.type W.SL.s2766695959194262286x5) Option.none (Data.seq (List.toArray []) (0 : Nat)) (List.toArray []))
noncomputable abbrev o_1386 (P : Params) : Obj := (Obj.mk Value.none Option.none (Data.fields (List.toArray [])) (List.toArray []))
noncomputable abbrev s251 : Str := ⟨⟨[nat_lit 115, nat_lit 99, nat_lit 114, nat_lit 105, nat_lit 112, nat_lit 116]⟩⟩
noncomputable abbrev s252 : Str := ⟨⟨[nat_lit 110, nat_lit 117, nat_lit 109, nat_lit 98, nat_lit 101, nat_lit 114, nat_lit 115]⟩⟩
noncomputable abbrev s253 : Str := ⟨⟨[nat_lit 97, nat_lit 98, nat_lit 115]⟩⟩
noncomputable abbrev s254 : Str := ⟨⟨[nat_lit 115, nat_lit 105, nat_lit 122, nat_lit 101]⟩⟩
noncomputable abbrev s255 : Str := ⟨⟨[nat_lit 109, nat_lit 111, nat_lit 100, nat_lit 117, nat_lit 108, nat_lit 101]⟩⟩
noncomputable abbrev s256 : Str := ⟨⟨[nat_lit 112, nat_lit 111, nat_lit 108, nat_lit 121, nat_lit 115]⟩⟩
noncomputable abbrev s257 : Str := ⟨⟨[nat_lit 110, nat_lit 117, nat_lit 109, nat_lit 98, nat_lit 101, nat_lit 114]⟩⟩
noncomputable abbrev s258 : Str := ⟨⟨[nat_lit 99, nat_lit 111, nat_lit 102, nat_lit 97, nat_lit 99, nat_lit 116, nat_lit 111, nat_lit 114, nat_lit 115]⟩⟩
noncomputable abbrev s259 : Str := ⟨⟨[nat_lit 111, nat_lit 116, nat_lit 104, nat_lit 101, nat_lit 114, nat_lit 115]⟩⟩
noncomputable abbrev s260 : Str := ⟨⟨[nat_lit 97, nat_lit 112, nat_lit 112, nat_lit 101, nat_lit 110, nat_lit 100]⟩⟩
noncomputable abbrev d261 : Pos := (Pos.mk 280 8 280 118)
noncomputable abbrev s262 : Str := ⟨⟨[nat_lit 109, nat_lit 97, nat_lit 116, nat_lit 114, nat_lit 105, nat_lit 120]⟩⟩
noncomputable abbrev s263 : Str := ⟨⟨[nat_lit 97, nat_lit 100, nat_lit 106, nat_lit 117, nat_lit 103, nat_lit 97, nat_lit 116, nat_lit 101]⟩⟩
noncomputable abbrev s264 : Str := ⟨⟨[nat_lit 116, nat_lit 114, nat_lit 97, nat_lit 99, nat_lit 101]⟩⟩
noncomputable abbrev s265 : Str := ⟨⟨[nat_lit 115, nat_lit 101, nat_lit 99, nat_lit 111, nat_lit 110, nat_lit 100]⟩⟩
noncomputable abbrev s266 : Str := ⟨⟨[nat_lit 119, nat_lit 104, nat_lit 111, nat_lit 108, nat_lit 101]⟩⟩
noncomputable abbrev s267 : Str := ⟨⟨[nat_lit 119, nat_lit 97, nat_lit 121, nat_lit 115]⟩⟩
noncomputable abbrev s268 : Str := ⟨⟨[nat_lit 115, nat_lit 113, nat_lit 117, nat_lit 97, nat_lit 114, nat_lit 101, nat_lit 100]⟩⟩
noncomputable abbrev s269 : Str := ⟨⟨[nat_lit 104, nat_lit 101, nat_lit 114, nat_lit 101]⟩⟩
noncomputable abbrev s270 : Str := ⟨⟨[nat_lit 100, nat_lit 117, nat_lit 101]⟩⟩
noncomputable abbrev s271 : Str := ⟨⟨[nat_lit 97, nat_lit 110, nat_lit 121]⟩⟩
noncomputable abbrev s272 : Str := ⟨⟨[nat_lit 119, nat_lit 97, nat_lit 121]⟩⟩
noncomputable abbrev d273 : FuncBody := (FuncBody.stmts [(Stmt.Assign [(Expr.Name s252 (Pos.mk 270 4 270 11))] (Expr.Subscript (Expr.BinOp (Expr.Name s251 (Pos.mk 270 15 270 21)) Operator.Add (Expr.ListComp (Expr.BinOp (Expr.Name s20 (Pos.mk 270 25 270 26)) Operator.Mult (Expr.Name s20 (Pos.mk 270 29 270 30)) (Pos.mk 270 25 270 30)) [(Comprehension.mk (Expr.Name s20 (Pos.mk 270 35 270 36)) (Expr.Call (Expr.Name s89 (Pos.mk 270 40 270 45)) [(Expr.Constant (Const.int (20 : Int)) 0 (Pos.mk 270 46 270 48))] [] (Pos.mk 270 40 270 49)) [] (0 : Int))] (Scope.mk ScopeKind.function [(Prod.mk s58 NameKind.local), (Prod.mk s20 NameKind.local)] Bool.false Bool.false []) (Pos.mk 270 24 270 50)) (Pos.mk 270 15 270 50)) (Expr.Slice Option.none (Option.some (Expr.Constant (Const.int (20 : Int)) 0 (Pos.mk 270 53 270 55))) Option.none (Pos.mk 270 52 270 55)) (Pos.mk 270 14 270 56)) (Pos.mk 270 4 270 56)), (Stmt.Assign [(Expr.Name s147 (Pos.mk 271 4 271 5))] (Expr.BinOp (Expr.Constant (Const.int (2 : Int)) 0 (Pos.mk 271 8 271 9)) Operator.Add (Expr.BinOp (Expr.Call (Expr.Name s253 (Pos.mk 271 12 271 15)) [(Expr.Subscript (Expr.Name s252 (Pos.mk 271 16 271 23)) (Expr.Constant (Const.int (0 : Int)) 0 (Pos.mk 271 24 271 25)) (Pos.mk 271 16 271 26))] [] (Pos.mk 271 12 271 27)) Operator.Mod (Expr.BinOp (Expr.Constant (Const.int (2 : Int)) 0 (Pos.mk 271 30 271 31)) Operator.Pow (Expr.Constant (Const.int (32 : Int)) 0 (Pos.mk 271 35 271 37)) (Pos.mk 271 30 271 37)) (Pos.mk 271 12 271 37)) (Pos.mk 271 8 271 37)) (Pos.mk 271 4 271 37)), (Stmt.Assign [(Expr.Tuple [(Expr.Name s254 (Pos.mk 272 4 272 8)), (Expr.Name s84 (Pos.mk 272 10 272 11))] 0 (Pos.mk 272 4 272 11))] (Expr.Subscript (Expr.List [(Expr.Tuple [(Expr.Constant (Const.int (2 : Int)) 0 (Pos.mk 272 16 272 17)), (Expr.Constant (Const.int (2 : Int)) 0 (Pos.mk 272 19 272 20))] 0 (Pos.mk 272 15 272 21)), (Expr.Tuple [(Expr.Constant (Const.int (2 : Int)) 0 (Pos.mk 272 24 272 25)), (Expr.Constant (Const.int (3 : Int)) 0 (Pos.mk 272 27 272 28))] 0 (Pos.mk 272 23 272 29)), (Expr.Tuple [(Expr.Constant (Const.int (3 : Int)) 0 (Pos.mk 272 32 272 33)), (Expr.Constant (Const.int (2 : Int)) 0 (Pos.mk 272 35 272 36))] 0 (Pos.mk 272 31 272 37))] (Pos.mk 272 14 272 38)) (Expr.BinOp (Expr.Subscript (Expr.Name s252 (Pos.mk 272 39 272 46)) (Expr.Constant (Const.int (1 : Int)) 0 (Pos.mk 272 47 272 48)) (Pos.mk 272 39 272 49)) Operator.Mod (Expr.Constant (Const.int (3 : Int)) 0 (Pos.mk 272 52 272 53)) (Pos.mk 272 39 272 53)) (Pos.mk 272 14 272 54)) (Pos.mk 272 4 272 54)), (Stmt.Assign [(Expr.Name s128 (Pos.mk 273 4 273 8))] (Expr.Call (Expr.Name s16 (Pos.mk 273 11 273 32)) [(Expr.Name s147 (Pos.mk 273 33 273 34)), (Expr.Name s84 (Pos.mk 273 36 273 37))] [] (Pos.mk 273 11 273 38)) (Pos.mk 273 4 273 38)), (Stmt.Assign [(Expr.Name s255 (Pos.mk 274 4 274 10))] (Expr.Call (Expr.Name s15 (Pos.mk 274 13 274 26)) [(Expr.Name s128 (Pos.mk 274 27 274 31))] [] (Pos.mk 274 13 274 32)) (Pos.mk 274 4 274 32)), (Stmt.Assign [(Expr.Name s256 (Pos.mk 275 4 275 9))] (Expr.ListComp (Expr.Call (Expr.Name s128 (Pos.mk 275 13 275 17)) [(Expr.ListComp (Expr.BinOp (Expr.Name s257 (Pos.mk 275 19 275 25)) Operator.Mod (Expr.Name s147 (Pos.mk 275 28 275 29)) (Pos.mk 275 19 275 29)) [(Comprehension.mk (Expr.Name s257 (Pos.mk 275 34 275 40)) (Expr.Subscript (Expr.Name s252 (Pos.mk 275 44 275 51)) (Expr.Slice (Option.some (Expr.BinOp (Expr.Constant (Const.int (2 : Int)) 0 (Pos.mk 275 52 275 53)) Operator.Add (Expr.BinOp (Expr.Name s20 (Pos.mk 275 56 275 57)) Operator.Mult (Expr.Name s84 (Pos.mk 275 60 275 61)) (Pos.mk 275 56 275 61)) (Pos.mk 275 52 275 61))) (Option.some (Expr.BinOp (Expr.BinOp (Expr.Constant (Const.int (2 : Int)) 0 (Pos.mk 275 62 275 63)) Operator.Add (Expr.BinOp (Expr.Name s20 (Pos.mk 275 66 275 67)) Operator.Mult (Expr.Name s84 (Pos.mk 275 70 275 71)) (Pos.mk 275 66 275 71)) (Pos.mk 275 62 275 71)) Operator.Add (Expr.Name s84 (Pos.mk 275 74 275 75)) (Pos.mk 275 62 275 75))) Option.none (Pos.mk 275 52 275 75)) (Pos.mk 275 44 275 76)) [] (0 : Int))] (Scope.mk ScopeKind.function [(Prod.mk s58 NameKind.local), (Prod.mk s257 NameKind.local), (Prod.mk s147 NameKind.free)] Bool.false Bool.false []) (Pos.mk 275 18 275 77))] [] (Pos.mk 275 13 275 78)) [(Comprehension.mk (Expr.Name s20 (Pos.mk 275 83 275 84)) (Expr.Call (Expr.Name s89 (Pos.mk 275 88 275 93)) [(Expr.BinOp (Expr.Name s254 (Pos.mk 275 94 275 98)) Operator.Mult (Expr.Name s254 (Pos.mk 275 101 275 105)) (Pos.mk 275 94 275 105))] [] (Pos.mk 275 88 275 106)) [] (0 : Int))] (Scope.mk ScopeKind.function [(Prod.mk s58 NameKind.local), (Prod.mk s20 NameKind.local), (Prod.mk s84 NameKind.free), (Prod.mk s252 NameKind.free), (Prod.mk s147 NameKind.free), (Prod.mk s128 NameKind.free)] Bool.false Bool.false []) (Pos.mk 275 12 275 107)) (Pos.mk 275 4 275 107)), (Stmt.Assign [(Expr.Name s34 (Pos.mk 276 4 276 8))] (Expr.ListComp (Expr.Subscript (Expr.Name s256 (Pos.mk 276 12 276 17)) (Expr.Slice (Option.some (Expr.BinOp (Expr.Name s87 (Pos.mk 276 18 276 19)) Operator.Mult (Expr.Name s254 (Pos.mk 276 22 276 26)) (Pos.mk 276 18 276 26))) (Option.some (Expr.BinOp (Expr.BinOp (Expr.Name s87 (Pos.mk 276 27 276 28)) Operator.Mult (Expr.Name s254 (Pos.mk 276 31 276 35)) (Pos.mk 276 27 276 35)) Operator.Add (Expr.Name s254 (Pos.mk 276 38 276 42)) (Pos.mk 276 27 276 42))) Option.none (Pos.mk 276 18 276 42)) (Pos.mk 276 12 276 43)) [(Comprehension.mk (Expr.Name s87 (Pos.mk 276 48 276 49)) (Expr.Call (Expr.Name s89 (Pos.mk 276 53 276 58)) [(Expr.Name s254 (Pos.mk 276 59 276 63))] [] (Pos.mk 276 53 276 64)) [] (0 : Int))] (Scope.mk ScopeKind.function [(Prod.mk s58 NameKind.local), (Prod.mk s87 NameKind.local), (Prod.mk s256 NameKind.free), (Prod.mk s254 NameKind.free)] Bool.false Bool.false []) (Pos.mk 276 11 276 65)) (Pos.mk 276 4 276 65)), (Stmt.Assign [(Expr.Name s258 (Pos.mk 277 4 277 13))] (Expr.List [] (Pos.mk 277 16 277 18)) (Pos.mk 277 4 277 18)), (Stmt.For (Expr.Name s87 (Pos.mk 278 8 278 9)) (Expr.Call (Expr.Name s89 (Pos.mk 278 13 278 18)) [(Expr.Name s254 (Pos.mk 278 19 278 23))] [] (Pos.mk 278 13 278 24)) [(Stmt.Assign [(Expr.Name s259 (Pos.mk 279 8 279 14))] (Expr.BinOp (Expr.Subscript (Expr.Name s34 (Pos.mk 279 17 279 21)) (Expr.Slice Option.none (Option.some (Expr.Name s87 (Pos.mk 279 23 279 24))) Option.none (Pos.mk 279 22 279 24)) (Pos.mk 279 17 279 25)) Operator.Add (Expr.Subscript (Expr.Name s34 (Pos.mk 279 28 279 32)) (Expr.Slice (Option.some (Expr.BinOp (Expr.Name s87 (Pos.mk 279 33 279 34)) Operator.Add (Expr.Constant (Const.int (1 : Int)) 0 (Pos.mk 279 37 279 38)) (Pos.mk 279 33 279 38))) Option.none Option.none (Pos.mk 279 33 279 39)) (Pos.mk 279 28 279 40)) (Pos.mk 279 17 279 40)) (Pos.mk 279 8 279 40)), (Stmt.Expr (Expr.Call (Expr.Attribute (Expr.Name s258 (Pos.mk 280 8 280 17)) s260 (Pos.mk 280 8 280 24)) [(Expr.ListComp (Expr.BinOp (Expr.BinOp (Expr.UnaryOp UnaryOp.USub (Expr.Constant (Const.int (1 : Int)) 0 (Pos.mk 280 28 280 29)) (Pos.mk 280 27 280 29)) Operator.Pow (Expr.BinOp (Expr.Name s87 (Pos.mk 280 35 280 36)) Operator.Add (Expr.Name s88 (Pos.mk 280 39 280 40)) (Pos.mk 280 35 280 40)) (Pos.mk 280 26 280 41)) Operator.Mult (Expr.Call (Expr.Name s18 (Pos.mk 280 44 280 52)) [(Expr.ListComp (Expr.BinOp (Expr.Subscript (Expr.Name s57 (Pos.mk 280 54 280 57)) (Expr.Slice Option.none (Option.some (Expr.Name s88 (Pos.mk 280 59 280 60))) Option.none (Pos.mk 280 58 280 60)) (Pos.mk 280 54 280 61)) Operator.Add (Expr.Subscript (Expr.Name s57 (Pos.mk 280 64 280 67)) (Expr.Slice (Option.some (Expr.BinOp (Expr.Name s88 (Pos.mk 280 68 280 69)) Operator.Add (Expr.Constant (Const.int (1 : Int)) 0 (Pos.mk 280 72 280 73)) (Pos.mk 280 68 280 73))) Option.none Option.none (Pos.mk 280 68 280 74)) (Pos.mk 280 64 280 75)) (Pos.mk 280 54 280 75)) [(Comprehension.mk (Expr.Name s57 (Pos.mk 280 80 280 83)) (Expr.Name s259 (Pos.mk 280 87 280 93)) [] (0 : Int))] (Scope.mk ScopeKind.function [(Prod.mk s58 NameKind.local), (Prod.mk s57 NameKind.local), (Prod.mk s88 NameKind.free)] Bool.false Bool.false []) (Pos.mk 280 53 280 94))] [] (Pos.mk 280 44 280 95)) (Pos.mk 280 26 280 95)) [(Comprehension.mk (Expr.Name s88 (Pos.mk 280 100 280 101)) (Expr.Call (Expr.Name s89 (Pos.mk 280 105 280 110)) [(Expr.Name s254 (Pos.mk 280 111 280 115))] [] (Pos.mk 280 105 280 116)) [] (0 : Int))] (Scope.mk ScopeKind.function [(Prod.mk s58 NameKind.local), (Prod.mk s88 NameKind.cell), (Prod.mk s18 NameKind.globalImplicit), (Prod.mk s87 NameKind.free), (Prod.mk s259 NameKind.free)] Bool.false Bool.false []) (Pos.mk 280 25 280 117))] [] d261) d261)] [] (Pos.mk 278 4 280 118)), (Stmt.Assign [(Expr.Name s262 (Pos.mk 281 4 281 10))] (Expr.Call (Expr.Name s255 (Pos.mk 281 13 281 19)) [(Expr.Name s34 (Pos.mk 281 20 281 24))] [] (Pos.mk 281 13 281 25)) (Pos.mk 281 4 281 25)), (Stmt.Assign [(Expr.Name s263 (Pos.mk 282 4 282 12))] (Expr.Call (Expr.Attribute (Expr.Call (Expr.Name s255 (Pos.mk 282 15 282 21)) [(Expr.Name s258 (Pos.mk 282 22 282 31))] [] (Pos.mk 282 15 282 32)) s29 (Pos.mk 282 15 282 42)) [] [] (Pos.mk 282 15 282 44)) (Pos.mk 282 4 282 44)), (Stmt.Assign [(Expr.Name s264 (Pos.mk 283 4 283 9))] (Expr.Call (Expr.Name s114 (Pos.mk 283 12 283 15)) [(Expr.ListComp (Expr.Subscript (Expr.Subscript (Expr.Name s34 (Pos.mk 283 17 283 21)) (Expr.Name s87 (Pos.mk 283 22 283 23)) (Pos.mk 283 17 283 24)) (Expr.Name s87 (Pos.mk 283 25 283 26)) (Pos.mk 283 17 283 27)) [(Comprehension.mk (Expr.Name s87 (Pos.mk 283 32 283 33)) (Expr.Call (Expr.Name s89 (Pos.mk 283 37 283 42)) [(Expr.Name s254 (Pos.mk 283 43 283 47))] [] (Pos.mk 283 37 283 48)) [] (0 : Int))] (Scope.mk ScopeKind.function [(Prod.mk s58 NameKind.local), (Prod.mk s87 NameKind.local), (Prod.mk s34 NameKind.free)] Bool.false Bool.false []) (Pos.mk 283 16 283 49))] [] (Pos.mk 283 12 283 50)) (Pos.mk 283 4 283 50)), (Stmt.Assign [(Expr.Name s265 (Pos.mk 284 4 284 10))] (Expr.Call (Expr.Name s114 (Pos.mk 284 13 284 16)) [(Expr.ListComp (Expr.Subscript (Expr.Subscript (Expr.Name s258 (Pos.mk 284 18 284 27)) (Expr.Name s87 (Pos.mk 284 28 284 29)) (Pos.mk 284 18 284 30)) (Expr.Name s87 (Pos.mk 284 31 284 32)) (Pos.mk 284 18 284 33)) [(Comprehension.mk (Expr.Name s87 (Pos.mk 284 38 284 39)) (Expr.Call (Expr.Name s89 (Pos.mk 284 43 284 48)) [(Expr.Name s254 (Pos.mk 284 49 284 53))] [] (Pos.mk 284 43 284 54)) [] (0 : Int))] (Scope.mk ScopeKind.function [(Prod.mk s58 NameKind.local), (Prod.mk s87 NameKind.local), (Prod.mk s258 NameKind.free)] Bool.false Bool.false []) (Pos.mk 284 17 284 55))] [] (Pos.mk 284 13 284 56)) (Pos.mk 284 4 284 56)), (Stmt.Assign [(Expr.Name s266 (Pos.mk 285 4 285 9))] (Expr.Call (Expr.Name s114 (Pos.mk 285 12 285 15)) [(Expr.ListComp (Expr.BinOp (Expr.Subscript (Expr.Subscript (Expr.Name s34 (Pos.mk 285 17 285 21)) (Expr.Constant (Const.int (0 : Int)) 0 (Pos.mk 285 22 285 23)) (Pos.mk 285 17 285 24)) (Expr.Name s88 (Pos.mk 285 25 285 26)) (Pos.mk 285 17 285 27)) Operator.Mult (Expr.Subscript (Expr.Subscript (Expr.Name s258 (Pos.mk 285 30 285 39)) (Expr.Constant (Const.int (0 : Int)) 0 (Pos.mk 285 40 285 41)) (Pos.mk 285 30 285 42)) (Expr.Name s88 (Pos.mk 285 43 285 44)) (Pos.mk 285 30 285 45)) (Pos.mk 285 17 285 45)) [(Comprehension.mk (Expr.Name s88 (Pos.mk 285 50 285 51)) (Expr.Call (Expr.Name s89 (Pos.mk 285 55 285 60)) [(Expr.Name s254 (Pos.mk 285 61 285 65))] [] (Pos.mk 285 55 285 66)) [] (0 : Int))] (Scope.mk ScopeKind.function [(Prod.mk s58 NameKind.local), (Prod.mk s88 NameKind.local), (Prod.mk s258 NameKind.free), (Prod.mk s34 NameKind.free)] Bool.false Bool.false []) (Pos.mk 285 16 285 67))] [] (Pos.mk 285 12 285 68)) (Pos.mk 285 4 285 68)), (Stmt.Assign [(Expr.Name s267 (Pos.mk 286 4 286 8))] (Expr.IfExp (Expr.Compare (Expr.Name s254 (Pos.mk 286 53 286 57)) [CmpOp.Eq] [(Expr.Constant (Const.int (2 : Int)) 0 (Pos.mk 286 61 286 62))] (Pos.mk 286 53 286 62)) (Expr.List [(Expr.BinOp (Expr.Name s262 (Pos.mk 286 12 286 18)) Operator.MatMult (Expr.Name s263 (Pos.mk 286 21 286 29)) (Pos.mk 286 12 286 29)), (Expr.BinOp (Expr.Name s263 (Pos.mk 286 31 286 39)) Operator.MatMult (Expr.Name s262 (Pos.mk 286 42 286 48)) (Pos.mk 286 31 286 48))] (Pos.mk 286 11 286 49)) (Expr.List [(Expr.BinOp (Expr.Name s262 (Pos.mk 286 69 286 75)) Operator.MatMult (Expr.Name s263 (Pos.mk 286 78 286 86)) (Pos.mk 286 69 286 86))] (Pos.mk 286 68 286 87)) (Pos.mk 286 11 286 87)) (Pos.mk 286 4 286 87)), (Stmt.Assign [(Expr.Name s268 (Pos.mk 287 4 287 11))] (Expr.BinOp (Expr.Name s262 (Pos.mk 287 14 287 20)) Operator.MatMult (Expr.Name s262 (Pos.mk 287 23 287 29)) (Pos.mk 287 14 287 29)) (Pos.mk 287 4 287 29)), (Stmt.For (Expr.Name s87 (Pos.mk 288 8 288 9)) (Expr.Call (Expr.Name s89 (Pos.mk 288 13 288 18)) [(Expr.Name s254 (Pos.mk 288 19 288 23))] [] (Pos.mk 288 13 288 24)) [(Stmt.For (Expr.Name s88 (Pos.mk 289 12 289 13)) (Expr.Call (Expr.Name s89 (Pos.mk 289 17 289 22)) [(Expr.Name s254 (Pos.mk 289 23 289 27))] [] (Pos.mk 289 17 289 28)) [(Stmt.Assign [(Expr.Name s269 (Pos.mk 290 12 290 16))] (Expr.IfExp (Expr.Compare (Expr.Name s87 (Pos.mk 290 24 290 25)) [CmpOp.Eq] [(Expr.Name s88 (Pos.mk 290 29 290 30))] (Pos.mk 290 24 290 30)) (Expr.Constant (Const.int (1 : Int)) 0 (Pos.mk 290 19 290 20)) (Expr.Constant (Const.int (0 : Int)) 0 (Pos.mk 290 36 290 37)) (Pos.mk 290 19 290 37)) (Pos.mk 290 12 290 37)), (Stmt.Assign [(Expr.Name s270 (Pos.mk 291 12 291 15))] (Expr.BinOp (Expr.BinOp (Expr.Name s264 (Pos.mk 291 18 291 23)) Operator.Mult (Expr.Name s269 (Pos.mk 291 26 291 30)) (Pos.mk 291 18 291 30)) Operator.Sub (Expr.Subscript (Expr.Name s262 (Pos.mk 291 33 291 39)) (Expr.Tuple [(Expr.Name s87 (Pos.mk 291 40 291 41)), (Expr.Name s88 (Pos.mk 291 43 291 44))] 0 (Pos.mk 291 40 291 44)) (Pos.mk 291 33 291 45)) (Pos.mk 291 18 291 45)) (Pos.mk 291 12 291 45)), (Stmt.If (Expr.Compare (Expr.Name s254 (Pos.mk 292 15 292 19)) [CmpOp.Eq] [(Expr.Constant (Const.int (3 : Int)) 0 (Pos.mk 292 23 292 24))] (Pos.mk 292 15 292 24)) [(Stmt.Assign [(Expr.Name s270 (Pos.mk 293 16 293 19))] (Expr.BinOp (Expr.BinOp (Expr.Subscript (Expr.Name s268 (Pos.mk 293 22 293 29)) (Expr.Tuple [(Expr.Name s87 (Pos.mk 293 30 293 31)), (Expr.Name s88 (Pos.mk 293 33 293 34))] 0 (Pos.mk 293 30 293 34)) (Pos.mk 293 22 293 35)) Operator.Sub (Expr.BinOp (Expr.Name s264 (Pos.mk 293 38 293 43)) Operator.Mult (Expr.Subscript (Expr.Name s262 (Pos.mk 293 46 293 52)) (Expr.Tuple [(Expr.Name s87 (Pos.mk 293 53 293 54)), (Expr.Name s88 (Pos.mk 293 56 293 57))] 0 (Pos.mk 293 53 293 57)) (Pos.mk 293 46 293 58)) (Pos.mk 293 38 293 58)) (Pos.mk 293 22 293 58)) Operator.Add (Expr.BinOp (Expr.Name s265 (Pos.mk 293 61 293 67)) Operator.Mult (Expr.Name s269 (Pos.mk 293 70 293 74)) (Pos.mk 293 61 293 74)) (Pos.mk 293 22 293 74)) (Pos.mk 293 16 293 74))] [] (Pos.mk 292 12 293 74)), (Stmt.If (Expr.BoolOp BoolOp.Or [(Expr.Compare (Expr.Subscript (Expr.Name s263 (Pos.mk 294 15 294 23)) (Expr.Tuple [(Expr.Name s87 (Pos.mk 294 24 294 25)), (Expr.Name s88 (Pos.mk 294 27 294 28))] 0 (Pos.mk 294 24 294 28)) (Pos.mk 294 15 294 29)) [CmpOp.NotEq] [(Expr.Name s270 (Pos.mk 294 33 294 36))] (Pos.mk 294 15 294 36)), (Expr.Call (Expr.Name s271 (Pos.mk 294 40 294 43)) [(Expr.ListComp (Expr.Compare (Expr.Subscript (Expr.Name s272 (Pos.mk 294 45 294 48)) (Expr.Tuple [(Expr.Name s87 (Pos.mk 294 49 294 50)), (Expr.Name s88 (Pos.mk 294 52 294 53))] 0 (Pos.mk 294 49 294 53)) (Pos.mk 294 45 294 54)) [CmpOp.NotEq] [(Expr.BinOp (Expr.Name s266 (Pos.mk 294 58 294 63)) Operator.Mult (Expr.Name s269 (Pos.mk 294 66 294 70)) (Pos.mk 294 58 294 70))] (Pos.mk 294 45 294 70)) [(Comprehension.mk (Expr.Name s272 (Pos.mk 294 75 294 78)) (Expr.Name s267 (Pos.mk 294 82 294 86)) [] (0 : Int))] (Scope.mk ScopeKind.function [(Prod.mk s58 NameKind.local), (Prod.mk s272 NameKind.local), (Prod.mk s269 NameKind.free), (Prod.mk s87 NameKind.free), (Prod.mk s88 NameKind.free), (Prod.mk s266 NameKind.free)] Bool.false Bool.false []) (Pos.mk 294 44 294 87))] [] (Pos.mk 294 40 294 88))] (Pos.mk 294 15 294 88)) [(Stmt.Return (Option.some (Expr.Constant (Const.bool Bool.false) 0 (Pos.mk 295 23 295 28))) (Pos.mk 295 16 295 28))] [] (Pos.mk 294 12 295 28))] [] (Pos.mk 289 8 295 28))] [] (Pos.mk 288 4 295 28)), (Stmt.Return (Option.some (Expr.Call (Expr.Attribute (Expr.BinOp (Expr.BinOp (Expr.Call (Expr.Attribute (Expr.Name s128 (Pos.mk 296 12 296 16)) s146 (Pos.mk 296 12 296 20)) [] [] (Pos.mk 296 12 296 22)) Operator.Pow (Expr.Name s84 (Pos.mk 296 26 296 27)) (Pos.mk 296 12 296 27)) Operator.Add (Expr.Constant (Const.int (1 : Int)) 0 (Pos.mk 296 30 296 31)) (Pos.mk 296 12 296 31)) s162 (Pos.mk 296 11 296 40)) [] [] (Pos.mk 296 11 296 42))) (Pos.mk 296 4 296 42))])
noncomputable abbrev o_1387 (P : Params) : Obj := (Obj.mk Value.none Option.none (Data.func (FuncData.mk s19 s19 (Arguments.mk [] [(Arg.mk s251 Option.none (Pos.mk 269 8 269 14))] Option.none [] [] Option.none []) d273 (Scope.mk ScopeKind.function [(Prod.mk s251 NameKind.local), (Prod.mk s252 NameKind.cell), (Prod.mk s147 NameKind.cell), (Prod.mk s254 NameKind.cell), (Prod.mk s84 NameKind.cell), (Prod.mk s128 NameKind.cell), (Prod.mk s255 NameKind.local), (Prod.mk s256 NameKind.cell), (Prod.mk s87 NameKind.cell), (Prod.mk s34 NameKind.cell), (Prod.mk s258 NameKind.cell), (Prod.mk s259 NameKind.cell), (Prod.mk s88 NameKind.cell), (Prod.mk s262 NameKind.local), (Prod.mk s263 NameKind.local), (Prod.mk s264 NameKind.local), (Prod.mk s265 NameKind.local), (Prod.mk s266 NameKind.cell), (Prod.mk s267 NameKind.local), (Prod.mk s268 NameKind.local), (Prod.mk s269 NameKind.cell), (Prod.mk s270 NameKind.local), (Prod.mk s89 NameKind.globalImplicit), (Prod.mk s253 NameKind.globalImplicit), (Prod.mk s16 NameKind.globalImplicit), (Prod.mk s15 NameKind.globalImplicit), (Prod.mk s114 NameKind.globalImplicit), (Prod.mk s271 NameKind.globalImplicit)] Bool.false Bool.false [(Prod.mk s60 (Const.str s251)), (Prod.mk s60 (Const.str s20)), (Prod.mk s60 (Const.str s252)), (Prod.mk s60 (Const.str s147)), (Prod.mk s60 (Const.str s254)), (Prod.mk s60 (Const.str s84)), (Prod.mk s60 (Const.str s128)), (Prod.mk s60 (Const.str s255)), (Prod.mk s60 (Const.str s257)), (Prod.mk s60 (Const.str s256)), (Prod.mk s60 (Const.str s87)), (Prod.mk s60 (Const.str s34)), (Prod.mk s60 (Const.str s258)), (Prod.mk s60 (Const.str s259)), (Prod.mk s60 (Const.str s88)), (Prod.mk s60 (Const.str s57)), (Prod.mk s60 (Const.str s262)), (Prod.mk s60 (Const.str s263)), (Prod.mk s60 (Const.str s264)), (Prod.mk s60 (Const.str s265)), (Prod.mk s60 (Const.str s266)), (Prod.mk s60 (Const.str s267)), (Prod.mk s60 (Const.str s268)), (Prod.mk s60 (Const.str s269)), (Prod.mk s60 (Const.str s270)), (Prod.mk s60 (Const.str s272))]) (0 : Nat) [] Value.none Value.none Value.none Value.none Option.none Value.none Value.none (0 : Nat))) (List.toArray []))
noncomputable abbrev o_1388 (P : Params) : Obj := (Obj.mk (Value.type W.SL.s5856160107412720595x4) Option.none (Data.fields (List.toArray [(Value.str s19 (669 : Nat)), (Value.str s19 (670 : Nat)), (Value.str s1 (671 : Nat)), (Value.int (269 : Int) (0 : Nat)), (Value.int (1 : Int) (0 : Nat)), (Value.int (0 : Int) (0 : Nat)), (Value.int (0 : Int) (0 : Nat)), (Value.int (3 : Int) (0 : Nat)), (Value.ref (403 : Nat)), (Value.bool Bool.true), (Value.int (181 : Int) (0 : Nat)), (Value.ref (404 : Nat)), Value.none, Value.none, Value.none, (Value.ref (405 : Nat)), (Value.int (672 : Int) (0 : Nat)), (Value.int (269 : Int) (0 : Nat)), (Value.str s1 (673 : Nat))])) (List.toArray []))
noncomputable abbrev o_1389 (P : Params) : Obj := (Obj.mk (Value.type W.SL.s7174869446012820540x8) Option.none (Data.func (FuncData.mk s19 s19 (Arguments.mk [] [(Arg.mk s251 Option.none (Pos.mk 269 8 269 14))] Option.none [] [] Option.none []) d273 (Scope.mk ScopeKind.function [(Prod.mk s251 NameKind.local), (Prod.mk s252 NameKind.cell), (Prod.mk s147 NameKind.cell), (Prod.mk s254 NameKind.cell), (Prod.mk s84 NameKind.cell), (Prod.mk s128 NameKind.cell), (Prod.mk s255 NameKind.local), (Prod.mk s256 NameKind.cell), (Prod.mk s87 NameKind.cell), (Prod.mk s34 NameKind.cell), (Prod.mk s258 NameKind.cell), (Prod.mk s259 NameKind.cell), (Prod.mk s88 NameKind.cell), (Prod.mk s262 NameKind.local), (Prod.mk s263 NameKind.local), (Prod.mk s264 NameKind.local), (Prod.mk s265 NameKind.local), (Prod.mk s266 NameKind.cell), (Prod.mk s267 NameKind.local), (Prod.mk s268 NameKind.local), (Prod.mk s269 NameKind.cell), (Prod.mk s270 NameKind.local), (Prod.mk s89 NameKind.globalImplicit), (Prod.mk s253 NameKind.globalImplicit), (Prod.mk s16 NameKind.globalImplicit), (Prod.mk s15 NameKind.globalImplicit), (Prod.mk s114 NameKind.globalImplicit), (Prod.mk s271 NameKind.globalImplicit)] Bool.false Bool.false [(Prod.mk s60 (Const.str s251)), (Prod.mk s60 (Const.str s20)), (Prod.mk s60 (Const.str s252)), (Prod.mk s60 (Const.str s147)), (Prod.mk s60 (Const.str s254)), (Prod.mk s60 (Const.str s84)), (Prod.mk s60 (Const.str s128)), (Prod.mk s60 (Const.str s255)), (Prod.mk s60 (Const.str s257)), (Prod.mk s60 (Const.str s256)), (Prod.mk s60 (Const.str s87)), (Prod.mk s60 (Const.str s34)), (Prod.mk s60 (Const.str s258)), (Prod.mk s60 (Const.str s259)), (Prod.mk s60 (Const.str s88)), (Prod.mk s60 (Const.str s57)), (Prod.mk s60 (Const.str s262)), (Prod.mk s60 (Const.str s263)), (Prod.mk s60 (Const.str s264)), (Prod.mk s60 (Const.str s265)), (Prod.mk s60 (Const.str s266)), (Prod.mk s60 (Const.str s267)), (Prod.mk s60 (Const.str s268)), (Prod.mk s60 (Const.str s269)), (Prod.mk s60 (Const.str s270)), (Prod.mk s60 (Const.str s272))]) (3 : Nat) [] Value.none Value.none Value.none (Value.str s4 (660 : Nat)) Option.none (Value.ref (406 : Nat)) Value.none (0 : Nat))) (List.toArray []))
noncomputable def hpA (P : Params) : Heap := ⟨⟨[W.boot_o_0 P, W.boot_o_1 P, W.boot_o_2 P, W.boot_o_3 P, W.boot_o_4 P, W.boot_o_5 P, W.boot_o_6 P, W.boot_o_7 P, W.boot_o_8 P, W.boot_o_9 P, W.boot_o_10 P, o_820 P, o_821 P, o_822 P, o_823 P]⟩, {}⟩
noncomputable def hpZ (P : Params) : Heap := ⟨⟨[W.boot_o_0 P, W.boot_o_1 P, W.boot_o_2 P, o_1376 P, W.boot_o_4 P, W.boot_o_5 P, W.boot_o_6 P, W.boot_o_7 P, W.boot_o_8 P, W.boot_o_9 P, W.boot_o_10 P, o_820 P, o_1377 P, o_822 P, o_823 P, o_828 P, o_829 P, o_830 P, o_831 P, o_832 P, o_833 P, o_834 P, o_837 P, o_838 P, o_839 P, o_840 P, o_841 P, o_842 P, o_843 P, o_844 P, o_845 P, o_846 P, o_847 P, o_848 P, o_849 P, o_850 P, o_851 P, o_852 P, o_853 P, o_854 P, o_855 P, o_856 P, o_857 P, o_858 P, o_859 P, o_860 P, o_861 P, o_862 P, o_863 P, o_864 P, o_865 P, o_866 P, o_867 P, o_868 P, o_869 P, o_870 P, o_871 P, o_872 P, o_873 P, o_874 P, o_875 P, o_876 P, o_877 P, o_878 P, o_879 P, o_880 P, o_881 P, o_882 P, o_883 P, o_884 P, o_885 P, o_886 P, o_887 P, o_888 P, o_889 P, o_890 P, o_891 P, o_892 P, o_893 P, o_894 P, o_895 P, o_896 P, o_897 P, o_898 P, o_899 P, o_900 P, o_901 P, o_902 P, o_903 P, o_904 P, o_905 P, o_906 P, o_907 P, o_908 P, o_909 P, o_910 P, o_911 P, o_912 P, o_913 P, o_914 P, o_915 P, o_916 P, o_917 P, o_918 P, o_919 P, o_920 P, o_921 P, o_922 P, o_923 P, o_924 P, o_925 P, o_926 P, o_927 P, o_928 P, o_929 P, o_930 P, o_931 P, o_932 P, o_933 P, o_934 P, o_935 P, o_936 P, o_937 P, o_938 P, o_939 P, o_940 P, o_941 P, o_942 P, o_943 P, o_944 P, o_945 P, o_946 P, o_947 P, o_948 P, o_949 P, o_950 P, o_951 P, o_952 P, o_953 P, o_954 P, o_955 P, o_956 P, o_957 P, o_958 P, o_959 P, o_960 P, o_961 P, o_1038 P, o_1039 P, o_1040 P, o_1041 P, o_1042 P, o_1043 P, o_1044 P, o_1045 P, o_1046 P, o_1047 P, o_1048 P, o_1049 P, o_1050 P, o_1051 P, o_1052 P, o_1053 P, o_1054 P, o_1055 P, o_1056 P, o_1057 P, o_1058 P, o_1059 P, o_1060 P, o_1061 P, o_1062 P, o_1063 P, o_1064 P, o_1065 P, o_1066 P, o_1067 P, o_1068 P, o_1069 P, o_1070 P, o_1071 P, o_1072 P, o_1073 P, o_1074 P, o_1077 P, o_1078 P, o_1079 P, o_1080 P, o_1081 P, o_1082 P, o_1083 P, o_1084 P, o_1085 P, o_1086 P, o_1087 P, o_1088 P, o_1089 P, o_1090 P, o_1091 P, o_1092 P, o_1093 P, o_1094 P, o_1095 P, o_1096 P, o_1097 P, o_1098 P, o_1099 P, o_1100 P, o_1101 P, o_1102 P, o_1103 P, o_1104 P, o_1105 P, o_1106 P, o_1107 P, o_1108 P, o_1109 P, o_1110 P, o_1111 P, o_1112 P, o_1113 P, o_1114 P, o_1115 P, o_1116 P, o_1117 P, o_1118 P, o_1119 P, o_1120 P, o_1121 P, o_1122 P, o_1123 P, o_1124 P, o_1125 P, o_1128 P, o_1129 P, o_1130 P, o_1131 P, o_1132 P, o_1133 P, o_1134 P, o_1135 P, o_1136 P, o_1137 P, o_1138 P, o_1139 P, o_1140 P, o_1141 P, o_1142 P, o_1143 P, o_1144 P, o_1145 P, o_1146 P, o_1147 P, o_1148 P, o_1149 P, o_1150 P, o_1151 P, o_1152 P, o_1153 P, o_1154 P, o_1155 P, o_1156 P, o_1157 P, o_1158 P, o_1159 P, o_1160 P, o_1161 P, o_1162 P, o_1163 P, o_1164 P, o_1165 P, o_1166 P, o_1167 P, o_1168 P, o_1169 P, o_1170 P, o_1171 P, o_1172 P, o_1173 P, o_1174 P, o_1175 P, o_1176 P, o_1177 P, o_1178 P, o_1179 P, o_1180 P, o_1181 P, o_1182 P, o_1183 P, o_1184 P, o_1185 P, o_1186 P, o_1187 P, o_1188 P, o_1189 P, o_1190 P, o_1191 P, o_1192 P, o_1193 P, o_1194 P, o_1195 P, o_1196 P, o_1197 P, o_1198 P, o_1199 P, o_1200 P, o_1201 P, o_1202 P, o_1203 P, o_1204 P, o_1205 P, o_1206 P, o_1207 P, o_1208 P, o_1209 P, o_1210 P, o_1211 P, o_1212 P, o_1213 P, o_1214 P, o_1215 P, o_1216 P, o_1217 P, o_1218 P, o_1219 P, o_1220 P, o_1221 P, o_1222 P, o_1223 P, o_1224 P, o_1225 P, o_1226 P, o_1227 P, o_1228 P, o_1229 P, o_1230 P, o_1231 P, o_1232 P, o_1233 P, o_1234 P, o_1235 P, o_1236 P, o_1237 P, o_1238 P, o_1239 P, o_1240 P, o_1241 P, o_1242 P, o_1243 P, o_1244 P, o_1245 P, o_1246 P, o_1247 P, o_1248 P, o_1249 P, o_1250 P, o_1251 P, o_1252 P, o_1253 P, o_1254 P, o_1255 P, o_1256 P, o_1257 P, o_1258 P, o_1259 P, o_1260 P, o_1261 P, o_1262 P, o_1263 P, o_1264 P, o_1265 P, o_1266 P, o_1267 P, o_1268 P, o_1269 P, o_1270 P, o_1271 P, o_1272 P, o_1273 P, o_1274 P, o_1275 P, o_1276 P, o_1277 P, o_1278 P, o_1279 P, o_1280 P, o_1281 P, o_1282 P, o_1283 P, o_1284 P, o_1285 P, o_1286 P, o_1287 P, o_1288 P, o_1289 P, o_1290 P, o_1378 P, o_1379 P, o_1380 P, o_1381 P, o_1382 P, o_1383 P, o_1384 P, o_1385 P, o_1386 P, o_1387 P, o_1388 P, o_1389 P]⟩, {}⟩
noncomputable def trA (P : Params) : BT := (BT.node (W.boot_o_0 P) (BT.node (W.boot_o_1 P) (BT.node (W.boot_o_3 P) (BT.node (W.boot_o_7 P) BT.nil BT.nil) (BT.node (o_820 P) BT.nil BT.nil)) (BT.node (W.boot_o_5 P) (BT.node (W.boot_o_9 P) BT.nil BT.nil) (BT.node (o_822 P) BT.nil BT.nil))) (BT.node (W.boot_o_2 P) (BT.node (W.boot_o_4 P) (BT.node (W.boot_o_8 P) BT.nil BT.nil) (BT.node (o_821 P) BT.nil BT.nil)) (BT.node (W.boot_o_6 P) (BT.node (W.boot_o_10 P) BT.nil BT.nil) (BT.node (o_823 P) BT.nil BT.nil))))
noncomputable def trZ (P : Params) : BT := (BT.node (W.boot_o_0 P) (BT.node (W.boot_o_1 P) (BT.node (o_1376 P) (BT.node (W.boot_o_7 P) (BT.node (o_828 P) (BT.node (o_846 P) (BT.node (o_878 P) (BT.node (o_942 P) (BT.node (o_1150 P) BT.nil BT.nil) (BT.node (o_1278 P) BT.nil BT.nil)) (BT.node (o_1084 P) (BT.node (o_1214 P) BT.nil BT.nil) BT.nil)) (BT.node (o_910 P) (BT.node (o_1050 P) (BT.node (o_1182 P) BT.nil BT.nil) BT.nil) (BT.node (o_1116 P) (BT.node (o_1246 P) BT.nil BT.nil) BT.nil))) (BT.node (o_862 P) (BT.node (o_894 P) (BT.node (o_958 P) (BT.node (o_1166 P) BT.nil BT.nil) (BT.node (o_1381 P) BT.nil BT.nil)) (BT.node (o_1100 P) (BT.node (o_1230 P) BT.nil BT.nil) BT.nil)) (BT.node (o_926 P) (BT.node (o_1066 P) (BT.node (o_1198 P) BT.nil BT.nil) BT.nil) (BT.node (o_1134 P) (BT.node (o_1262 P) BT.nil BT.nil) BT.nil)))) (BT.node (o_838 P) (BT.node (o_854 P) (BT.node (o_886 P) (BT.node (o_950 P) (BT.node (o_1158 P) BT.nil BT.nil) (BT.node (o_1286 P) BT.nil BT.nil)) (BT.node (o_1092 P) (BT.node (o_1222 P) BT.nil BT.nil) BT.nil)) (BT.node (o_918 P) (BT.node (o_1058 P) (BT.node (o_1190 P) BT.nil BT.nil) BT.nil) (BT.node (o_1124 P) (BT.node (o_1254 P) BT.nil BT.nil) BT.nil))) (BT.node (o_870 P) (BT.node (o_902 P) (BT.node (o_1042 P) (BT.node (o_1174 P) BT.nil BT.nil) (BT.node (o_1389 P) BT.nil BT.nil)) (BT.node (o_1108 P) (BT.node (o_1238 P) BT.nil BT.nil) BT.nil)) (BT.node (o_934 P) (BT.node (o_1074 P) (BT.node (o_1206 P) BT.nil BT.nil) BT.nil) (BT.node (o_1142 P) (BT.node (o_1270 P) BT.nil BT.nil) BT.nil))))) (BT.node (o_820 P) (BT.node (o_832 P) (BT.node (o_850 P) (BT.node (o_882 P) (BT.node (o_946 P) (BT.node (o_1154 P) BT.nil BT.nil) (BT.node (o_1282 P) BT.nil BT.nil)) (BT.node (o_1088 P) (BT.node (o_1218 P) BT.nil BT.nil) BT.nil)) (BT.node (o_914 P) (BT.node (o_1054 P) (BT.node (o_1186 P) BT.nil BT.nil) BT.nil) (BT.node (o_1120 P) (BT.node (o_1250 P) BT.nil BT.nil) BT.nil))) (BT.node (o_866 P) (BT.node (o_898 P) (BT.node (o_1038 P) (BT.node (o_1170 P) BT.nil BT.nil) (BT.node (o_1385 P) BT.nil BT.nil)) (BT.node (o_1104 P) (BT.node (o_1234 P) BT.nil BT.nil) BT.nil)) (BT.node (o_930 P) (BT.node (o_1070 P) (BT.node (o_1202 P) BT.nil BT.nil) BT.nil) (BT.node (o_1138 P) (BT.node (o_1266 P) BT.nil BT.nil) BT.nil)))) (BT.node (o_842 P) (BT.node (o_858 P) (BT.node (o_890 P) (BT.node (o_954 P) (BT.node (o_1162 P) BT.nil BT.nil) (BT.node (o_1290 P) BT.nil BT.nil)) (BT.node (o_1096 P) (BT.node (o_1226 P) BT.nil BT.nil) BT.nil)) (BT.node (o_922 P) (BT.node (o_1062 P) (BT.node (o_1194 P) BT.nil BT.nil) BT.nil) (BT.node (o_1130 P) (BT.node (o_1258 P) BT.nil BT.nil) BT.nil))) (BT.node (o_874 P) (BT.node (o_906 P) (BT.node (o_1046 P) (BT.node (o_1178 P) BT.nil BT.nil) BT.nil) (BT.node (o_1112 P) (BT.node (o_1242 P) BT.nil BT.nil) BT.nil)) (BT.node (o_938 P) (BT.node (o_1080 P) (BT.node (o_1210 P) BT.nil BT.nil) BT.nil) (BT.node (o_1146 P) (BT.node (o_1274 P) BT.nil BT.nil) BT.nil)))))) (BT.node (W.boot_o_5 P) (BT.node (W.boot_o_9 P) (BT.node (o_830 P) (BT.node (o_848 P) (BT.node (o_880 P) (BT.node (o_944 P) (BT.node (o_1152 P) BT.nil BT.nil) (BT.node (o_1280 P) BT.nil BT.nil)) (BT.node (o_1086 P) (BT.node (o_1216 P) BT.nil BT.nil) BT.nil)) (BT.node (o_912 P) (BT.node (o_1052 P) (BT.node (o_1184 P) BT.nil BT.nil) BT.nil) (BT.node (o_1118 P) (BT.node (o_1248 P) BT.nil BT.nil) BT.nil))) (BT.node (o_864 P) (BT.node (o_896 P) (BT.node (o_960 P) (BT.node (o_1168 P) BT.nil BT.nil) (BT.node (o_1383 P) BT.nil BT.nil)) (BT.node (o_1102 P) (BT.node (o_1232 P) BT.nil BT.nil) BT.nil)) (BT.node (o_928 P) (BT.node (o_1068 P) (BT.node (o_1200 P) BT.nil BT.nil) BT.nil) (BT.node (o_1136 P) (BT.node (o_1264 P) BT.nil BT.nil) BT.nil)))) (BT.node (o_840 P) (BT.node (o_856 P) (BT.node (o_888 P) (BT.node (o_952 P) (BT.node (o_1160 P) BT.nil BT.nil) (BT.node (o_1288 P) BT.nil BT.nil)) (BT.node (o_1094 P) (BT.node (o_1224 P) BT.nil BT.nil) BT.nil)) (BT.node (o_920 P) (BT.node (o_1060 P) (BT.node (o_1192 P) BT.nil BT.nil) BT.nil) (BT.node (o_1128 P) (BT.node (o_1256 P) BT.nil BT.nil) BT.nil))) (BT.node (o_872 P) (BT.node (o_904 P) (BT.node (o_1044 P) (BT.node (o_1176 P) BT.nil BT.nil) BT.nil) (BT.node (o_1110 P) (BT.node (o_1240 P) BT.nil BT.nil) BT.nil)) (BT.node (o_936 P) (BT.node (o_1078 P) (BT.node (o_1208 P) BT.nil BT.nil) BT.nil) (BT.node (o_1144 P) (BT.node (o_1272 P) BT.nil BT.nil) BT.nil))))) (BT.node (o_822 P) (BT.node (o_834 P) (BT.node (o_852 P) (BT.node (o_884 P) (BT.node (o_948 P) (BT.node (o_1156 P) BT.nil BT.nil) (BT.node (o_1284 P) BT.nil BT.nil)) (BT.node (o_1090 P) (BT.node (o_1220 P) BT.nil BT.nil) BT.nil)) (BT.node (o_916 P) (BT.node (o_1056 P) (BT.node (o_1188 P) BT.nil BT.nil) BT.nil) (BT.node (o_1122 P) (BT.node (o_1252 P) BT.nil BT.nil) BT.nil))) (BT.node (o_868 P) (BT.node (o_900 P) (BT.node (o_1040 P) (BT.node (o_1172 P) BT.nil BT.nil) (BT.node (o_1387 P) BT.nil BT.nil)) (BT.node (o_1106 P) (BT.node (o_1236 P) BT.nil BT.nil) BT.nil)) (BT.node (o_932 P) (BT.node (o_1072 P) (BT.node (o_1204 P) BT.nil BT.nil) BT.nil) (BT.node (o_1140 P) (BT.node (o_1268 P) BT.nil BT.nil) BT.nil)))) (BT.node (o_844 P) (BT.node (o_860 P) (BT.node (o_892 P) (BT.node (o_956 P) (BT.node (o_1164 P) BT.nil BT.nil) (BT.node (o_1379 P) BT.nil BT.nil)) (BT.node (o_1098 P) (BT.node (o_1228 P) BT.nil BT.nil) BT.nil)) (BT.node (o_924 P) (BT.node (o_1064 P) (BT.node (o_1196 P) BT.nil BT.nil) BT.nil) (BT.node (o_1132 P) (BT.node (o_1260 P) BT.nil BT.nil) BT.nil))) (BT.node (o_876 P) (BT.node (o_908 P) (BT.node (o_1048 P) (BT.node (o_1180 P) BT.nil BT.nil) BT.nil) (BT.node (o_1114 P) (BT.node (o_1244 P) BT.nil BT.nil) BT.nil)) (BT.node (o_940 P) (BT.node (o_1082 P) (BT.node (o_1212 P) BT.nil BT.nil) BT.nil) (BT.node (o_1148 P) (BT.node (o_1276 P) BT.nil BT.nil) BT.nil))))))) (BT.node (W.boot_o_2 P) (BT.node (W.boot_o_4 P) (BT.node (W.boot_o_8 P) (BT.node (o_829 P) (BT.node (o_847 P) (BT.node (o_879 P) (BT.node (o_943 P) (BT.node (o_1151 P) BT.nil BT.nil) (BT.node (o_1279 P) BT.nil BT.nil)) (BT.node (o_1085 P) (BT.node (o_1215 P) BT.nil BT.nil) BT.nil)) (BT.node (o_911 P) (BT.node (o_1051 P) (BT.node (o_1183 P) BT.nil BT.nil) BT.nil) (BT.node (o_1117 P) (BT.node (o_1247 P) BT.nil BT.nil) BT.nil))) (BT.node (o_863 P) (BT.node (o_895 P) (BT.node (o_959 P) (BT.node (o_1167 P) BT.nil BT.nil) (BT.node (o_1382 P) BT.nil BT.nil)) (BT.node (o_1101 P) (BT.node (o_1231 P) BT.nil BT.nil) BT.nil)) (BT.node (o_927 P) (BT.node (o_1067 P) (BT.node (o_1199 P) BT.nil BT.nil) BT.nil) (BT.node (o_1135 P) (BT.node (o_1263 P) BT.nil BT.nil) BT.nil)))) (BT.node (o_839 P) (BT.node (o_855 P) (BT.node (o_887 P) (BT.node (o_951 P) (BT.node (o_1159 P) BT.nil BT.nil) (BT.node (o_1287 P) BT.nil BT.nil)) (BT.node (o_1093 P) (BT.node (o_1223 P) BT.nil BT.nil) BT.nil)) (BT.node (o_919 P) (BT.node (o_1059 P) (BT.node (o_1191 P) BT.nil BT.nil) BT.nil) (BT.node (o_1125 P) (BT.node (o_1255 P) BT.nil BT.nil) BT.nil))) (BT.node (o_871 P) (BT.node (o_903 P) (BT.node (o_1043 P) (BT.node (o_1175 P) BT.nil BT.nil) BT.nil) (BT.node (o_1109 P) (BT.node (o_1239 P) BT.nil BT.nil) BT.nil)) (BT.node (o_935 P) (BT.node (o_1077 P) (BT.node (o_1207 P) BT.nil BT.nil) BT.nil) (BT.node (o_1143 P) (BT.node (o_1271 P) BT.nil BT.nil) BT.nil))))) (BT.node (o_1377 P) (BT.node (o_833 P) (BT.node (o_851 P) (BT.node (o_883 P) (BT.node (o_947 P) (BT.node (o_1155 P) BT.nil BT.nil) (BT.node (o_1283 P) BT.nil BT.nil)) (BT.node (o_1089 P) (BT.node (o_1219 P) BT.nil BT.nil) BT.nil)) (BT.node (o_915 P) (BT.node (o_1055 P) (BT.node (o_1187 P) BT.nil BT.nil) BT.nil) (BT.node (o_1121 P) (BT.node (o_1251 P) BT.nil BT.nil) BT.nil))) (BT.node (o_867 P) (BT.node (o_899 P) (BT.node (o_1039 P) (BT.node (o_1171 P) BT.nil BT.nil) (BT.node (o_1386 P) BT.nil BT.nil)) (BT.node (o_1105 P) (BT.node (o_1235 P) BT.nil BT.nil) BT.nil)) (BT.node (o_931 P) (BT.node (o_1071 P) (BT.node (o_1203 P) BT.nil BT.nil) BT.nil) (BT.node (o_1139 P) (BT.node (o_1267 P) BT.nil BT.nil) BT.nil)))) (BT.node (o_843 P) (BT.node (o_859 P) (BT.node (o_891 P) (BT.node (o_955 P) (BT.node (o_1163 P) BT.nil BT.nil) (BT.node (o_1378 P) BT.nil BT.nil)) (BT.node (o_1097 P) (BT.node (o_1227 P) BT.nil BT.nil) BT.nil)) (BT.node (o_923 P) (BT.node (o_1063 P) (BT.node (o_1195 P) BT.nil BT.nil) BT.nil) (BT.node (o_1131 P) (BT.node (o_1259 P) BT.nil BT.nil) BT.nil))) (BT.node (o_875 P) (BT.node (o_907 P) (BT.node (o_1047 P) (BT.node (o_1179 P) BT.nil BT.nil) BT.nil) (BT.node (o_1113 P) (BT.node (o_1243 P) BT.nil BT.nil) BT.nil)) (BT.node (o_939 P) (BT.node (o_1081 P) (BT.node (o_1211 P) BT.nil BT.nil) BT.nil) (BT.node (o_1147 P) (BT.node (o_1275 P) BT.nil BT.nil) BT.nil)))))) (BT.node (W.boot_o_6 P) (BT.node (W.boot_o_10 P) (BT.node (o_831 P) (BT.node (o_849 P) (BT.node (o_881 P) (BT.node (o_945 P) (BT.node (o_1153 P) BT.nil BT.nil) (BT.node (o_1281 P) BT.nil BT.nil)) (BT.node (o_1087 P) (BT.node (o_1217 P) BT.nil BT.nil) BT.nil)) (BT.node (o_913 P) (BT.node (o_1053 P) (BT.node (o_1185 P) BT.nil BT.nil) BT.nil) (BT.node (o_1119 P) (BT.node (o_1249 P) BT.nil BT.nil) BT.nil))) (BT.node (o_865 P) (BT.node (o_897 P) (BT.node (o_961 P) (BT.node (o_1169 P) BT.nil BT.nil) (BT.node (o_1384 P) BT.nil BT.nil)) (BT.node (o_1103 P) (BT.node (o_1233 P) BT.nil BT.nil) BT.nil)) (BT.node (o_929 P) (BT.node (o_1069 P) (BT.node (o_1201 P) BT.nil BT.nil) BT.nil) (BT.node (o_1137 P) (BT.node (o_1265 P) BT.nil BT.nil) BT.nil)))) (BT.node (o_841 P) (BT.node (o_857 P) (BT.node (o_889 P) (BT.node (o_953 P) (BT.node (o_1161 P) BT.nil BT.nil) (BT.node (o_1289 P) BT.nil BT.nil)) (BT.node (o_1095 P) (BT.node (o_1225 P) BT.nil BT.nil) BT.nil)) (BT.node (o_921 P) (BT.node (o_1061 P) (BT.node (o_1193 P) BT.nil BT.nil) BT.nil) (BT.node (o_1129 P) (BT.node (o_1257 P) BT.nil BT.nil) BT.nil))) (BT.node (o_873 P) (BT.node (o_905 P) (BT.node (o_1045 P) (BT.node (o_1177 P) BT.nil BT.nil) BT.nil) (BT.node (o_1111 P) (BT.node (o_1241 P) BT.nil BT.nil) BT.nil)) (BT.node (o_937 P) (BT.node (o_1079 P) (BT.node (o_1209 P) BT.nil BT.nil) BT.nil) (BT.node (o_1145 P) (BT.node (o_1273 P) BT.nil BT.nil) BT.nil))))) (BT.node (o_823 P) (BT.node (o_837 P) (BT.node (o_853 P) (BT.node (o_885 P) (BT.node (o_949 P) (BT.node (o_1157 P) BT.nil BT.nil) (BT.node (o_1285 P) BT.nil BT.nil)) (BT.node (o_1091 P) (BT.node (o_1221 P) BT.nil BT.nil) BT.nil)) (BT.node (o_917 P) (BT.node (o_1057 P) (BT.node (o_1189 P) BT.nil BT.nil) BT.nil) (BT.node (o_1123 P) (BT.node (o_1253 P) BT.nil BT.nil) BT.nil))) (BT.node (o_869 P) (BT.node (o_901 P) (BT.node (o_1041 P) (BT.node (o_1173 P) BT.nil BT.nil) (BT.node (o_1388 P) BT.nil BT.nil)) (BT.node (o_1107 P) (BT.node (o_1237 P) BT.nil BT.nil) BT.nil)) (BT.node (o_933 P) (BT.node (o_1073 P) (BT.node (o_1205 P) BT.nil BT.nil) BT.nil) (BT.node (o_1141 P) (BT.node (o_1269 P) BT.nil BT.nil) BT.nil)))) (BT.node (o_845 P) (BT.node (o_861 P) (BT.node (o_893 P) (BT.node (o_957 P) (BT.node (o_1165 P) BT.nil BT.nil) (BT.node (o_1380 P) BT.nil BT.nil)) (BT.node (o_1099 P) (BT.node (o_1229 P) BT.nil BT.nil) BT.nil)) (BT.node (o_925 P) (BT.node (o_1065 P) (BT.node (o_1197 P) BT.nil BT.nil) BT.nil) (BT.node (o_1133 P) (BT.node (o_1261 P) BT.nil BT.nil) BT.nil))) (BT.node (o_877 P) (BT.node (o_909 P) (BT.node (o_1049 P) (BT.node (o_1181 P) BT.nil BT.nil) BT.nil) (BT.node (o_1115 P) (BT.node (o_1245 P) BT.nil BT.nil) BT.nil)) (BT.node (o_941 P) (BT.node (o_1083 P) (BT.node (o_1213 P) BT.nil BT.nil) BT.nil) (BT.node (o_1149 P) (BT.node (o_1277 P) BT.nil BT.nil) BT.nil))))))))
noncomputable def frK (P : Params) : Frag := [(0, W.boot_o_0 P), (1, W.boot_o_1 P), (2, W.boot_o_2 P), (3, o_1376 P), (4, W.boot_o_4 P), (5, W.boot_o_5 P), (6, W.boot_o_6 P), (7, W.boot_o_7 P), (8, W.boot_o_8 P), (9, W.boot_o_9 P), (10, W.boot_o_10 P), (11, o_820 P), (12, o_1377 P), (13, o_822 P), (14, o_823 P), (15, o_828 P), (16, o_829 P), (17, o_830 P), (18, o_831 P), (19, o_832 P), (20, o_833 P), (21, o_834 P), (22, o_837 P), (23, o_838 P), (24, o_839 P), (25, o_840 P), (26, o_841 P), (27, o_842 P), (28, o_843 P), (29, o_844 P), (30, o_845 P), (31, o_846 P), (32, o_847 P), (33, o_848 P), (34, o_849 P), (35, o_850 P), (36, o_851 P), (37, o_852 P), (38, o_853 P), (39, o_854 P), (40, o_855 P), (41, o_856 P), (42, o_857 P), (43, o_858 P), (44, o_859 P), (45, o_860 P), (46, o_861 P), (47, o_862 P), (48, o_863 P), (49, o_864 P), (50, o_865 P), (51, o_866 P), (52, o_867 P), (53, o_868 P), (54, o_869 P), (55, o_870 P), (56, o_871 P), (57, o_872 P), (58, o_873 P), (59, o_874 P), (60, o_875 P), (61, o_876 P), (62, o_877 P), (63, o_878 P), (64, o_879 P), (65, o_880 P), (66, o_881 P), (67, o_882 P), (68, o_883 P), (69, o_884 P), (70, o_885 P), (71, o_886 P), (72, o_887 P), (73, o_888 P), (74, o_889 P), (75, o_890 P), (76, o_891 P), (77, o_892 P), (78, o_893 P), (79, o_894 P), (80, o_895 P), (81, o_896 P), (82, o_897 P), (83, o_898 P), (84, o_899 P), (85, o_900 P), (86, o_901 P), (87, o_902 P), (88, o_903 P), (89, o_904 P), (90, o_905 P), (91, o_906 P), (92, o_907 P), (93, o_908 P), (94, o_909 P), (95, o_910 P), (96, o_911 P), (97, o_912 P), (98, o_913 P), (99, o_914 P), (100, o_915 P), (101, o_916 P), (102, o_917 P), (103, o_918 P), (104, o_919 P), (105, o_920 P), (106, o_921 P), (107, o_922 P), (108, o_923 P), (109, o_924 P), (110, o_925 P), (111, o_926 P), (112, o_927 P), (113, o_928 P), (114, o_929 P), (115, o_930 P), (116, o_931 P), (117, o_932 P), (118, o_933 P), (119, o_934 P), (120, o_935 P), (121, o_936 P), (122, o_937 P), (123, o_938 P), (124, o_939 P), (125, o_940 P), (126, o_941 P), (127, o_942 P), (128, o_943 P), (129, o_944 P), (130, o_945 P), (131, o_946 P), (132, o_947 P), (133, o_948 P), (134, o_949 P), (135, o_950 P), (136, o_951 P), (137, o_952 P), (138, o_953 P), (139, o_954 P), (140, o_955 P), (141, o_956 P), (142, o_957 P), (143, o_958 P), (144, o_959 P), (145, o_960 P), (146, o_961 P), (147, o_1038 P), (148, o_1039 P), (149, o_1040 P), (150, o_1041 P), (151, o_1042 P), (152, o_1043 P), (153, o_1044 P), (154, o_1045 P), (155, o_1046 P), (156, o_1047 P), (157, o_1048 P), (158, o_1049 P), (159, o_1050 P), (160, o_1051 P), (161, o_1052 P), (162, o_1053 P), (163, o_1054 P), (164, o_1055 P), (165, o_1056 P), (166, o_1057 P), (167, o_1058 P), (168, o_1059 P), (169, o_1060 P), (170, o_1061 P), (171, o_1062 P), (172, o_1063 P), (173, o_1064 P), (174, o_1065 P), (175, o_1066 P), (176, o_1067 P), (177, o_1068 P), (178, o_1069 P), (179, o_1070 P), (180, o_1071 P), (181, o_1072 P), (182, o_1073 P), (183, o_1074 P), (184, o_1077 P), (185, o_1078 P), (186, o_1079 P), (187, o_1080 P), (188, o_1081 P), (189, o_1082 P), (190, o_1083 P), (191, o_1084 P), (192, o_1085 P), (193, o_1086 P), (194, o_1087 P), (195, o_1088 P), (196, o_1089 P), (197, o_1090 P), (198, o_1091 P), (199, o_1092 P), (200, o_1093 P), (201, o_1094 P), (202, o_1095 P), (203, o_1096 P), (204, o_1097 P), (205, o_1098 P), (206, o_1099 P), (207, o_1100 P), (208, o_1101 P), (209, o_1102 P), (210, o_1103 P), (211, o_1104 P), (212, o_1105 P), (213, o_1106 P), (214, o_1107 P), (215, o_1108 P), (216, o_1109 P), (217, o_1110 P), (218, o_1111 P), (219, o_1112 P), (220, o_1113 P), (221, o_1114 P), (222, o_1115 P), (223, o_1116 P), (224, o_1117 P), (225, o_1118 P), (226, o_1119 P), (227, o_1120 P), (228, o_1121 P), (229, o_1122 P), (230, o_1123 P), (231, o_1124 P), (232, o_1125 P), (233, o_1128 P), (234, o_1129 P), (235, o_1130 P), (236, o_1131 P), (237, o_1132 P), (238, o_1133 P), (239, o_1134 P), (240, o_1135 P), (241, o_1136 P), (242, o_1137 P), (243, o_1138 P), (244, o_1139 P), (245, o_1140 P), (246, o_1141 P), (247, o_1142 P), (248, o_1143 P), (249, o_1144 P), (250, o_1145 P), (251, o_1146 P), (252, o_1147 P), (253, o_1148 P), (254, o_1149 P), (255, o_1150 P), (256, o_1151 P), (257, o_1152 P), (258, o_1153 P), (259, o_1154 P), (260, o_1155 P), (261, o_1156 P), (262, o_1157 P), (263, o_1158 P), (264, o_1159 P), (265, o_1160 P), (266, o_1161 P), (267, o_1162 P), (268, o_1163 P), (269, o_1164 P), (270, o_1165 P), (271, o_1166 P), (272, o_1167 P), (273, o_1168 P), (274, o_1169 P), (275, o_1170 P), (276, o_1171 P), (277, o_1172 P), (278, o_1173 P), (279, o_1174 P), (280, o_1175 P), (281, o_1176 P), (282, o_1177 P), (283, o_1178 P), (284, o_1179 P), (285, o_1180 P), (286, o_1181 P), (287, o_1182 P), (288, o_1183 P), (289, o_1184 P), (290, o_1185 P), (291, o_1186 P), (292, o_1187 P), (293, o_1188 P), (294, o_1189 P), (295, o_1190 P), (296, o_1191 P), (297, o_1192 P), (298, o_1193 P), (299, o_1194 P), (300, o_1195 P), (301, o_1196 P), (302, o_1197 P), (303, o_1198 P), (304, o_1199 P), (305, o_1200 P), (306, o_1201 P), (307, o_1202 P), (308, o_1203 P), (309, o_1204 P), (310, o_1205 P), (311, o_1206 P), (312, o_1207 P), (313, o_1208 P), (314, o_1209 P), (315, o_1210 P), (316, o_1211 P), (317, o_1212 P), (318, o_1213 P), (319, o_1214 P), (320, o_1215 P), (321, o_1216 P), (322, o_1217 P), (323, o_1218 P), (324, o_1219 P), (325, o_1220 P), (326, o_1221 P), (327, o_1222 P), (328, o_1223 P), (329, o_1224 P), (330, o_1225 P), (331, o_1226 P), (332, o_1227 P), (333, o_1228 P), (334, o_1229 P), (335, o_1230 P), (336, o_1231 P), (337, o_1232 P), (338, o_1233 P), (339, o_1234 P), (340, o_1235 P), (341, o_1236 P), (342, o_1237 P), (343, o_1238 P), (344, o_1239 P), (345, o_1240 P), (346, o_1241 P), (347, o_1242 P), (348, o_1243 P), (349, o_1244 P), (350, o_1245 P), (351, o_1246 P), (352, o_1247 P), (353, o_1248 P), (354, o_1249 P), (355, o_1250 P), (356, o_1251 P), (357, o_1252 P), (358, o_1253 P), (359, o_1254 P), (360, o_1255 P), (361, o_1256 P), (362, o_1257 P), (363, o_1258 P), (364, o_1259 P), (365, o_1260 P), (366, o_1261 P), (367, o_1262 P), (368, o_1263 P), (369, o_1264 P), (370, o_1265 P), (371, o_1266 P), (372, o_1267 P), (373, o_1268 P), (374, o_1269 P), (375, o_1270 P), (376, o_1271 P), (377, o_1272 P), (378, o_1273 P), (379, o_1274 P), (380, o_1275 P), (381, o_1276 P), (382, o_1277 P), (383, o_1278 P), (384, o_1279 P), (385, o_1280 P), (386, o_1281 P), (387, o_1282 P), (388, o_1283 P), (389, o_1284 P), (390, o_1285 P), (391, o_1286 P), (392, o_1287 P), (393, o_1288 P), (394, o_1289 P), (395, o_1290 P), (396, o_1378 P), (397, o_1379 P), (398, o_1380 P), (399, o_1381 P), (400, o_1382 P), (401, o_1383 P), (402, o_1384 P), (403, o_1385 P), (404, o_1386 P), (405, o_1387 P), (406, o_1388 P), (407, o_1389 P)]
noncomputable def frA : List Nat := [0, 1, 2, 3, 4, 5, 6, 7, 8, 9, 10, 11, 12, 13, 14, 15, 16, 17, 18, 19, 20, 21, 22, 23, 24, 25, 26, 27, 28, 29, 30, 31, 32, 33, 34, 35, 36, 37, 38, 39, 40, 41, 42, 43, 44, 45, 46, 47, 48, 49, 50, 51, 52, 53, 54, 55, 56, 57, 58, 59, 60, 61, 62, 63, 64, 65, 66, 67, 68, 69, 70, 71, 72, 73, 74, 75, 76, 77, 78, 79, 80, 81, 82, 83, 84, 85, 86, 87, 88, 89, 90, 91, 92, 93, 94, 95, 96, 97, 98, 99, 100, 101, 102, 103, 104, 105, 106, 107, 108, 109, 110, 111, 112, 113, 114, 115, 116, 117, 118, 119, 120, 121, 122, 123, 124, 125, 126, 127, 128, 129, 130, 131, 132, 133, 134, 135, 136, 137, 138, 139, 140, 141, 142, 143, 144, 145, 146, 147, 148, 149, 150, 151, 152, 153, 154, 155, 156, 157, 158, 159, 160, 161, 162, 163, 164, 165, 166, 167, 168, 169, 170, 171, 172, 173, 174, 175, 176, 177, 178, 179, 180, 181, 182, 183, 184, 185, 186, 187, 188, 189, 190, 191, 192, 193, 194, 195, 196, 197, 198, 199, 200, 201, 202, 203, 204, 205, 206, 207, 208, 209, 210, 211, 212, 213, 214, 215, 216, 217, 218, 219, 220, 221, 222, 223, 224, 225, 226, 227, 228, 229, 230, 231, 232, 233, 234, 235, 236, 237, 238, 239, 240, 241, 242, 243, 244, 245, 246, 247, 248, 249, 250, 251, 252, 253, 254, 255, 256, 257, 258, 259, 260, 261, 262, 263, 264, 265, 266, 267, 268, 269, 270, 271, 272, 273, 274, 275, 276, 277, 278, 279, 280, 281, 282, 283, 284, 285, 286, 287, 288, 289, 290, 291, 292, 293, 294, 295, 296, 297, 298, 299, 300, 301, 302, 303, 304, 305, 306, 307, 308, 309, 310, 311, 312, 313, 314, 315, 316, 317, 318, 319, 320, 321, 322, 323, 324, 325, 326, 327, 328, 329, 330, 331, 332, 333, 334, 335, 336, 337, 338, 339, 340, 341, 342, 343, 344, 345, 346, 347, 348, 349, 350, 351, 352, 353, 354, 355, 356, 357, 358, 359, 360, 361, 362, 363, 364, 365, 366, 367, 368, 369, 370, 371, 372, 373, 374, 375, 376, 377, 378, 379, 380, 381, 382, 383, 384, 385, 386, 387, 388, 389, 390, 391, 392, 393, 394, 395, 396, 397, 398, 399, 400, 401, 402, 403, 404, 405, 406, 407]
noncomputable def frS (P : Params) : Frag := [(142, o_957 P), (179, o_1070 P), (228, o_1121 P), (391, o_1286 P), (3, o_1376 P), (24, o_839 P), (141, o_956 P), (149, o_1040 P), (178, o_1069 P), (186, o_1079 P), (227, o_1120 P), (235, o_1130 P), (390, o_1285 P), (36, o_851 P), (41, o_856 P), (48, o_863 P), (55, o_870 P), (77, o_892 P), (125, o_940 P), (160, o_1051 P), (168, o_1059 P), (176, o_1067 P), (197, o_1090 P), (204, o_1097 P), (211, o_1104 P), (218, o_1111 P), (225, o_1118 P), (246, o_1141 P), (253, o_1148 P), (265, o_1160 P), (279, o_1174 P), (286, o_1181 P), (291, o_1186 P), (296, o_1191 P), (301, o_1196 P), (308, o_1203 P), (315, o_1210 P), (327, o_1222 P), (334, o_1229 P), (353, o_1248 P), (360, o_1255 P), (374, o_1269 P), (381, o_1276 P), (402, o_1384 P), (407, o_1389 P), (35, o_850 P), (40, o_855 P), (47, o_862 P), (54, o_869 P), (76, o_891 P), (124, o_939 P), (159, o_1050 P), (167, o_1058 P), (175, o_1066 P), (196, o_1089 P), (203, o_1096 P), (210, o_1103 P), (217, o_1110 P), (224, o_1117 P), (245, o_1140 P), (252, o_1147 P), (264, o_1159 P), (278, o_1173 P), (285, o_1180 P), (290, o_1185 P), (295, o_1190 P), (300, o_1195 P), (307, o_1202 P), (314, o_1209 P), (326, o_1221 P), (333, o_1228 P), (352, o_1247 P), (359, o_1254 P), (373, o_1268 P), (380, o_1275 P), (401, o_1383 P), (406, o_1388 P), (29, o_844 P), (161, o_1052 P), (169, o_1060 P), (0, W.boot_o_0 P), (1, W.boot_o_1 P), (2, W.boot_o_2 P), (4, W.boot_o_4 P), (5, W.boot_o_5 P), (6, W.boot_o_6 P), (7, W.boot_o_7 P), (9, W.boot_o_9 P), (10, W.boot_o_10 P), (13, o_822 P), (14, o_823 P), (23, o_838 P), (27, o_842 P), (28, o_843 P), (63, o_878 P), (143, o_958 P), (144, o_959 P), (145, o_960 P), (146, o_961 P), (148, o_1039 P), (152, o_1043 P), (153, o_1044 P), (180, o_1071 P), (181, o_1072 P), (182, o_1073 P), (183, o_1074 P), (185, o_1078 P), (189, o_1082 P), (190, o_1083 P), (229, o_1122 P), (230, o_1123 P), (231, o_1124 P), (232, o_1125 P), (234, o_1129 P), (238, o_1133 P), (239, o_1134 P), (392, o_1287 P), (393, o_1288 P), (394, o_1289 P), (395, o_1290 P)]
def frSa : List Nat := [142, 179, 228, 391, 3, 24, 141, 149, 178, 186, 227, 235, 390, 36, 41, 48, 55, 77, 125, 160, 168, 176, 197, 204, 211, 218, 225, 246, 253, 265, 279, 286, 291, 296, 301, 308, 315, 327, 334, 353, 360, 374, 381, 402, 407, 35, 40, 47, 54, 76, 124, 159, 167, 175, 196, 203, 210, 217, 224, 245, 252, 264, 278, 285, 290, 295, 300, 307, 314, 326, 333, 352, 359, 373, 380, 401, 406, 29, 161, 169, 0, 1, 2, 4, 5, 6, 7, 9, 10, 13, 14, 23, 27, 28, 63, 143, 144, 145, 146, 148, 152, 153, 180, 181, 182, 183, 185, 189, 190, 229, 230, 231, 232, 234, 238, 239, 392, 393, 394, 395]
noncomputable def envO : Env := { scope := pgT.main.scope, locals := mainNs, globals := mainNs, cells := [], code := .ref 13, frame := some 14 }
abbrev ann0 : Option Value := some (.ref 6)
abbrev p0 : Pos := ⟨0, 0, 0, 0⟩
noncomputable abbrev cE : Code := Code.body (behindTheImports pgT) envO
noncomputable abbrev S0 (w : World) (os : OsState) : Shared := ⟨boot_heap w.params, Array.mk [], boot_drawn, boot_toks, os⟩
noncomputable abbrev SA (w : World) (os : OsState) : Shared := ⟨hpA w.params, Array.mk [], {}, 187, os⟩
noncomputable abbrev TA (w : World) (os : OsState) : SharedT := ⟨trA w.params, 15, {}, Array.mk [], {}, 187, os⟩
noncomputable abbrev TZ (w : World) (os : OsState) : SharedT := ⟨trZ w.params, 408, {}, Array.mk [], {}, 675, os⟩
noncomputable abbrev SZ (w : World) (os : OsState) : Shared := ⟨hpZ w.params, Array.mk [], {}, 675, os⟩
theorem r_pre : ∀ w, (fun os => topGo treeTable pgT w 11 ann0 12 (S0 w os) (topStub pgT)) = fun os => some (SA w os, ⟨denote treeTable cE, cE, p0, [topFrame p0]⟩) := by
  rw [te15667345088766844465, te14364793385576792824, te11892475500146522536]
  intro w; kernel_rfl
theorem r_block : ∀ w, (fun os => segRun treeTable pgT w 11 ann0 1 1 (SA w os) (blockOf (behindTheImports pgT) envO cE p0 [topFrame p0])) = fun os => some (Flow.next, (TA w os).abs, cE, p0) := by
  rw [te14374325043358763698, te14364793385576792824]
  intro w; kernel_rfl
theorem r_seg : ∀ w, (fun os => segRunT treeTable pgT w 11 ann0 1 2463 (TA w os) (piecesOf (behindTheImports pgT) envO cE p0 [topFrame p0])) = fun os => some (Flow.next, TZ w os, cE, ⟨269, 0, 296, 42⟩) := by
  rw [te10110043849684766642, te14364793385576792824]
  intro w; kernel_rfl
theorem r_fin : ∀ w, (fun os => topRun treeTable pgT w 11 ann0 2 (TZ w os).abs ⟨doneF Flow.next, cE, ⟨269, 0, 296, 42⟩, [topFrame p0]⟩) = fun os => some (SZ w os) := by
  rw [te14082659384304107361, te14364793385576792824]
  intro w; kernel_rfl
theorem app_nil : behindTheImports pgT ++ [] = behindTheImports pgT := List.append_nil _
theorem runT (w : World) (os : OsState) : topRun treeTable pgT w 11 ann0 (12 + (1 + (2463 + 2))) (S0 w os) (topStub pgT) = some (SZ w os) :=
  go_top (congrFun (r_pre w) os) (piece_block (congrFun (r_block w) os) (by
    have h := piece_app (rest := []) (segRun_of (congrFun (r_seg w) os)) (congrFun (r_fin w) os)
    rw [app_nil] at h
    exact h))
theorem runO (w : World) (os : OsState) : topRun treeTable pgO w 11 ann0 (12 + (1 + (2463 + 2))) (S0 w os) (topStub pgO) = some (SZ w os) := by
  rw [e_pg]; exact runT w os
noncomputable def keepsB (s : Stmt) : Bool := match s with | .Assign .. => false | _ => true
noncomputable def vwOf (p : Program) : Program := { p with main := { p.main with body := p.main.body.filter keepsB } }
noncomputable abbrev vwO : Program := vwOf pgO
noncomputable abbrev vwT : Program := vwOf pgT
theorem e_vw : vwO = vwT := congrArg vwOf e_pg
noncomputable abbrev loose : List Str := [⟨⟨[nat_lit 77, nat_lit 97, nat_lit 116, nat_lit 114, nat_lit 105, nat_lit 120, nat_lit 71, nat_lit 101, nat_lit 110, nat_lit 101, nat_lit 114, nat_lit 105, nat_lit 99]⟩⟩]
theorem k_size : ∀ w : World, ((boot_heap w.params).isNs mainGlobals && (Array.mk [] : Array GenState).size == 0, (boot_heap w.params).objs.size, (boot_heap w.params).nsMap mainGlobals (Str.ofString "__annotations__")) = (true, 11, ann0) := by
  rw [te8920871248978507458]
  intro w; kernel_rfl
theorem k_stat : ∀ w : World, (fun os => staticsOk (importedModules pgT.main.body) (boot_heap w.params) (hpZ w.params) && namesBound pgT (hpZ w.params) && gensDone (SZ w os) && laidKept (boot_heap w.params) (hpZ w.params)) = fun os => true := by
  rw [te5923862056798008813]
  intro w; kernel_rfl
theorem k_seen : ∀ w : World, (fun os => seen ((recsOf vwT).map (·.name)) (ownsOf vwT) [] { SZ w os with gens := #[] }) = fun os => expectedOf vwT := by
  rw [te5160383126252970620, te3399658132070893891, te5991557255702980513]
  intro w; kernel_rfl
theorem k_blt : ∀ w : World, (fun os => (SZ w os).heap.bltView) = fun os => bltViewBooted := by
  intro w; kernel_rfl
noncomputable abbrev XtT (s : Shared) : Bool := xlAt vwT [] s && recOk PySem.Challenge.rw_ay0010_01.row.toRowW.records s
noncomputable abbrev XtO (s : Shared) : Bool := xlAt vwO [] s && recOk PySem.Challenge.rw_ay0010_01.row.toRowW.records s
theorem k_keys : ∀ w : World, (fun os => (SZ w os).heap.keysOk (looseW vwT loose) ((recsOf vwT).map (·.name)) ((litsOf vwT).map (·.1)) ((clssOf vwT (looseW vwT loose)).map (·.name)) && (SZ w os).heap.accountedOkI (importedModules pgT.main.body) && (SZ w os).heap.isNs mainGlobals && (SZ w os).heap.isNs builtinsNs && tablesOk vwT (SZ w os).heap && XtT (SZ w os) && (if true then (SZ w os).gens.size == 0 else !leftWithCleanup (SZ w os).gens)) = fun os => true := by
  unfold XtT
  rw [te10880121769531294198, te821141287760084731, te3399658132070893891, te7409074990110511671, te13664370479719496447, te14722251495701143533, te5923862056798008813, te10994771534591457954]
  intro w; kernel_rfl
theorem k_tabs : ∀ w : World, (fun os => tabsOk vwT (SZ w os)) = fun os => true := by
  rw [te479339242167458305]
  intro w; kernel_rfl
theorem k_pin : ∀ w : World, (fun os => pinSeenD vwT (drecsOf vwT) (SZ w os)) = fun os => pinGoodD (drecsOf vwT) := by
  rw [te16090120013241838585, te3247288618530077131]
  intro w; kernel_rfl
theorem k_plE : ∀ w : World, (fun os => plainSeenE vwT (looseW vwT loose) (SZ w os)) = fun os => plainGoodE vwT (looseW vwT loose) := by
  rw [te2386780881361962483, te821141287760084731]
  intro w; kernel_rfl
theorem k_plD : ∀ w : World, (fun os => plainSeenD vwT loose (SZ w os)) = fun os => plainGoodD vwT loose := by
  rw [te11698064438423848299]
  intro w; kernel_rfl
theorem k_wide : ∀ w : World, (fun os => wideSeen vwT (SZ w os)) = fun os => wideGood vwT := by
  rw [te7317090234206586261]
  intro w; kernel_rfl
theorem k_cls : ∀ w : World, (fun os => clsSeenW vwT loose (SZ w os)) = fun os => clsGoodW vwT loose := by
  rw [te7369524293546568484]
  intro w; kernel_rfl
theorem k_obs : ∀ w : World, (fun os => obsZ frA (SZ w os)) = fun os => valZ frK 408 675 w := by
  intro w; kernel_rfl
noncomputable def tblOk (o : Obj) : Bool := match o.cls, o.data with
  | .none, .fields _ => o.dict.isNone && o.slots.isEmpty
  | _, _ => true
theorem k_tbl : ∀ P, ((frK P).all fun x => tblOk x.2) = true := by
  intro P; kernel_rfl
theorem k_frS : ∀ P, frS P = frSa.filterMap (fun a => (frK P)[a]?) := by
  intro P; kernel_rfl
theorem frS_mem {P : Params} {x : Nat × Obj} (h : x ∈ frS P) : x ∈ frK P := by
  rw [k_frS] at h
  obtain ⟨a, _, e⟩ := List.mem_filterMap.mp h
  exact List.mem_of_getElem? e
theorem k_frA : ∀ P, frA = (frK P).map (·.1) := by
  intro P; kernel_rfl
theorem looks (w : World) : (fun os => ((staticsOk (importedModules pgO.main.body) (boot_heap w.params) (hpZ w.params) && namesBound pgO (hpZ w.params) && gensDone (SZ w os) && laidKept (boot_heap w.params) (hpZ w.params)),
      openSeen vwO loose (importedModules pgO.main.body) XtO true (SZ w os), obsZ frA (SZ w os))) = fun _ => (true, openGood vwO loose, valZ frK 408 675 w) := by
  unfold XtO
  rw [e_vw, e_pg]
  funext os
  exact looks_pair (congrFun (k_stat w) os) (looks_pair (looks_pair (congrFun (k_seen w) os) (looks_pair (congrFun (k_blt w) os) (looks_pair (congrFun (k_keys w) os) (looks_pair (congrFun (k_tabs w) os) (looks_pair (congrFun (k_pin w) os) (looks_pair (congrFun (k_plE w) os) (looks_pair (congrFun (k_plD w) os) (looks_pair (congrFun (k_wide w) os) (congrFun (k_cls w) os))))))))) (congrFun (k_obs w) os))
theorem left : LeftO pgO vwO loose XtO (obsZ frA) (valZ frK 408 675) 5050 true :=
  LeftO.of_pieces (m₀ := 11) (ann := ann0) (M := 12 + (1 + (2463 + 2))) (boot_open (by kernel_rfl) (by kernel_rfl) (by intro s; kernel_rfl)) k_size runO (by kernel_rfl) looks
theorem defd : ∃ d kwd, defOf vwO PySem.Challenge.rw_ay0010_01.row.name = some (d, kwd) ∧ PySem.Challenge.rw_ay0010_01.row.prog.theDef PySem.Challenge.rw_ay0010_01.row.name = some (d.params, d.body, d.scope) ∧ kwWritten? d.params.kwonlyargs d.params.kw_defaults = some kwd := by
  have h1 : (defOf vwO PySem.Challenge.rw_ay0010_01.row.name).isSome = true := by kernel_rfl
  have h2 : PySem.Challenge.rw_ay0010_01.row.prog.theDef PySem.Challenge.rw_ay0010_01.row.name = (defOf vwO PySem.Challenge.rw_ay0010_01.row.name).map (fun x => (x.1.params, x.1.body, x.1.scope)) := by kernel_rfl
  have h3 : (defOf vwO PySem.Challenge.rw_ay0010_01.row.name).bind (fun x => kwWritten? x.1.params.kwonlyargs x.1.params.kw_defaults) = (defOf vwO PySem.Challenge.rw_ay0010_01.row.name).map (·.2) := by kernel_rfl
  obtain ⟨⟨d, kwd⟩, e⟩ := Option.isSome_iff_exists.mp h1
  rw [e] at h2 h3
  exact ⟨d, kwd, e, h2, h3⟩
theorem hd (walk : ∀ d kwd, defOf vwO PySem.Challenge.rw_ay0010_01.row.name = some (d, kwd) → WalkX vwO loose (XL vwO []) (obsZ frA) (valZ frK 408 675) PySem.Challenge.rw_ay0010_01.row.toRowW d kwd fun f vs => PySem.call f vs) : PySem.Challenge.rw_ay0010_01.Holds := by
  refine held fun said => ?_
  obtain ⟨d, kwd, hdef, hp, hk⟩ := defd
  refine holds_openX (q := vwO) (loose := loose) (Xt := XtO) (XP := XL vwO []) (Yf := obsZ frA) (Ya := valZ frK 408 675) (N := 5050) left (fun s e => xl_of s (Bool.and_eq_true_iff.mp e).1) XL.keeps hdef hp hk (fun s e => recFacts_of (Bool.and_eq_true_iff.mp e).2) (by kernel_rfl) said (by kernel_rfl) ⟨rfl, rfl, rfl, rfl, rfl, by kernel_rfl⟩ ⟨[WData.list []], by kernel_rfl, by kernel_rfl⟩ (walk d kwd hdef)
end
end Hd
namespace Mine
open PySem PySem.Spec PySem.Calls PyProof.Rows PySem.W
section
open PySem PySem.Spec PySem.Calls PyProof.Rows PySem.W
/-- abstract values -/
inductive AV where
  | int (i : Int)
  | bool (b : Bool)
  | none
  | val (v : Value)
  | lst (l : List AV)
  | tup (l : List AV)
  | inst (C : Addr) (fs : List (Str × AV))
  | obj (a : Addr) (C : Addr) (fs : List (Str × AV))
abbrev tbl (ps : Array Value) : Obj := { cls := .none, data := .fields ps }
def notTbl (o : Obj) : Bool := match o.cls, o.data with
  | .none, .fields _ => false
  | _, _ => true
abbrev lstO (vs : List Value) (n : Nat) : Obj := { cls := .type "list", data := .seq vs.toArray n }
abbrev tupO (vs : List Value) (n : Nat) : Obj := { cls := .type "tuple", data := .seq vs.toArray n }
abbrev insO (C d : Addr) : Obj := { cls := .ref C, dict := some d, data := .plain }
/-- an instance's own dict, as a map; of at most b entries -/
def DictN (h : Heap) (d : Addr) (m : Str → Option Value) (b : Nat) : Prop :=
  ∃ es n, h.get? d = some { cls := .type "dict", data := .dict es n } ∧ StrKeys es ∧ es.size ≤ b ∧ ∀ k, nsFind es k = m k
abbrev DictAt (h : Heap) (d : Addr) (m : Str → Option Value) : Prop := DictN h d m 100
/-- the value v stands for the abstract value a in the heap h; no object that it leans on is in Z -/
inductive Val (Z : Addr → Prop) (h : Heap) : Value → AV → Prop
  | int (i t) : Val Z h (.int i t) (.int i)
  | bool (b) : Val Z h (.bool b) (.bool b)
  | none : Val Z h .none .none
  | val (v) : Val Z h v (.val v)
  | lst {a vs as n} : ¬ Z a → h.get? a = some (lstO vs n) → vs.length = as.length → vs.length ≤ 1000 →
      (∀ (i : Nat) v x, vs[i]? = some v → as[i]? = some x → Val Z h v x) → Val Z h (.ref a) (.lst as)
  | tup {a vs as n} : ¬ Z a → h.get? a = some (tupO vs n) → vs.length = as.length → vs.length ≤ 1000 →
      (∀ (i : Nat) v x, vs[i]? = some v → as[i]? = some x → Val Z h v x) → Val Z h (.ref a) (.tup as)
  | inst {x d C m fs} (f : Str → Value) : ¬ Z x → ¬ Z d → h.get? x = some (insO C d) → DictAt h d m →
      (∀ k, fs.lookup k = .none → m k = .none) → (∀ k y, fs.lookup k = some y → m k = some (f k)) →
      (∀ k y, fs.lookup k = some y → Val Z h (f k) y) → Val Z h (.ref x) (.inst C fs)
  | obj {x d C m fs} (f : Str → Value) : ¬ Z x → ¬ Z d → h.get? x = some (insO C d) → DictAt h d m →
      (∀ k, fs.lookup k = .none → m k = .none) → (∀ k y, fs.lookup k = some y → m k = some (f k)) →
      (∀ k y, fs.lookup k = some y → Val Z h (f k) y) → Val Z h (.ref x) (.obj x C fs)
structure Sys where
  prog : Program
  w : World
  K : Frag
  h₁ : Heap
  os : OsState
  tabs : List (Addr × Addr)
  mg : Str → Option Value
  mb : Str → Option Value
/-- the heap grows: objects are kept, but for the code tables, which may be lengthened -/
structure Keep (S : Sys) (h h' : Heap) : Prop where
  get : ∀ a o, h.get? a = some o → notTbl o = true → h'.get? a = some o
  tab : ∀ a ps, h.get? a = some (tbl ps) → h'.get? a = some (tbl ps) ∨ ((∃ c, (c, a) ∈ S.tabs) ∧ ∃ more, h'.get? a = some (tbl (ps ++ more)))
  here : ∀ a o, h.get? a = some o → ∃ o', h'.get? a = some o'
theorem Keep.refl (S : Sys) (h : Heap) : Keep S h h := ⟨fun _ _ e _ => e, fun _ _ e => .inl e, fun _ o e => ⟨o, e⟩⟩
theorem Keep.trans {S : Sys} {h h' h'' : Heap} (x : Keep S h h') (y : Keep S h' h'') : Keep S h h'' where
  get := fun a o e q => y.get a o (x.get a o e q) q
  tab := fun a ps e => by
    rcases x.tab a ps e with e1 | ⟨hc, more, e1⟩
    · exact y.tab a ps e1
    · rcases y.tab a _ e1 with e2 | ⟨_, more', e2⟩
      · exact .inr ⟨hc, more, e2⟩
      · exact .inr ⟨hc, more ++ more', by rw [e2, Array.append_assoc]⟩
  here := fun a o e => let ⟨o', e'⟩ := x.here a o e; y.here a o' e'
theorem Keep.of_all {S : Sys} {h h' : Heap} (hk : ∀ a o, h.get? a = some o → h'.get? a = some o) : Keep S h h' :=
  ⟨fun a o e _ => hk a o e, fun a ps e => .inl (hk a _ e), fun a o e => ⟨o, hk a o e⟩⟩
theorem Keep.push (S : Sys) (h : Heap) (o : Obj) : Keep S h (h.push o) := Keep.of_all fun _ _ e => Heap.get?_push_of_some o e
theorem DictN.keep {S : Sys} {h h' : Heap} {d m b} (k : Keep S h h') (x : DictN h d m b) : DictN h' d m b :=
  let ⟨es, n, e, r⟩ := x; ⟨es, n, k.get _ _ e rfl, r⟩
theorem Val.keep {S : Sys} {h h' : Heap} {Z v a} (k : Keep S h h') (x : Val Z h v a) : Val Z h' v a := by
  induction x with
  | int i t => exact .int i t
  | bool b => exact .bool b
  | none => exact .none
  | val v => exact .val v
  | lst hz hg hl hb _ ih => exact .lst hz (k.get _ _ hg rfl) hl hb ih
  | tup hz hg hl hb _ ih => exact .tup hz (k.get _ _ hg rfl) hl hb ih
  | inst f hz hzd hg hd h1 h2 _ ih => exact .inst f hz hzd (k.get _ _ hg rfl) (hd.keep k) h1 h2 ih
  | obj f hz hzd hg hd h1 h2 _ ih => exact .obj f hz hzd (k.get _ _ hg rfl) (hd.keep k) h1 h2 ih
theorem Val.anti {h : Heap} {Z Z' : Addr → Prop} {v a} (k : ∀ b, Z' b → Z b) (x : Val Z h v a) : Val Z' h v a := by
  induction x with
  | int i t => exact .int i t
  | bool b => exact .bool b
  | none => exact .none
  | val v => exact .val v
  | lst hz hg hl hb _ ih => exact .lst (fun q => hz (k _ q)) hg hl hb ih
  | tup hz hg hl hb _ ih => exact .tup (fun q => hz (k _ q)) hg hl hb ih
  | inst f hz hzd hg hd h1 h2 _ ih => exact .inst f (fun q => hz (k _ q)) (fun q => hzd (k _ q)) hg hd h1 h2 ih
  | obj f hz hzd hg hd h1 h2 _ ih => exact .obj f (fun q => hz (k _ q)) (fun q => hzd (k _ q)) hg hd h1 h2 ih
theorem DictN.some {h : Heap} {d m b} (x : DictN h d m b) : ∃ o, h.get? d = some o := let ⟨_, _, e, _⟩ := x; ⟨_, e⟩
/-- what is not yet there may be shut out -/
theorem Val.more {h : Heap} {Z Z' : Addr → Prop} {v a} (k : ∀ b, Z' b → Z b ∨ h.get? b = .none) (x : Val Z h v a) : Val Z' h v a := by
  induction x with
  | int i t => exact .int i t
  | bool b => exact .bool b
  | none => exact .none
  | val v => exact .val v
  | lst hz hg hl hb _ ih => exact .lst (fun q => (k _ q).elim hz fun e => by rw [hg] at e; cases e) hg hl hb ih
  | tup hz hg hl hb _ ih => exact .tup (fun q => (k _ q).elim hz fun e => by rw [hg] at e; cases e) hg hl hb ih
  | inst f hz hzd hg hd h1 h2 _ ih => exact .inst f (fun q => (k _ q).elim hz fun e => by rw [hg] at e; cases e) (fun q => (k _ q).elim hzd fun e => by obtain ⟨o, ho⟩ := hd.some; rw [ho] at e; cases e) hg hd h1 h2 ih
  | obj f hz hzd hg hd h1 h2 _ ih => exact .obj f (fun q => (k _ q).elim hz fun e => by rw [hg] at e; cases e) (fun q => (k _ q).elim hzd fun e => by obtain ⟨o, ho⟩ := hd.some; rw [ho] at e; cases e) hg hd h1 h2 ih
/-- a change at a place that is shut out -/
theorem Val.same {h h' : Heap} {Z : Addr → Prop} {v a} (k : ∀ b o, ¬ Z b → notTbl o = true → h.get? b = some o → h'.get? b = some o) (x : Val Z h v a) : Val Z h' v a := by
  induction x with
  | int i t => exact .int i t
  | bool b => exact .bool b
  | none => exact .none
  | val v => exact .val v
  | lst hz hg hl hb _ ih => exact .lst hz (k _ _ hz rfl hg) hl hb ih
  | tup hz hg hl hb _ ih => exact .tup hz (k _ _ hz rfl hg) hl hb ih
  | inst f hz hzd hg hd h1 h2 _ ih => exact .inst f hz hzd (k _ _ hz rfl hg) (let ⟨es, n, e, r⟩ := hd; ⟨es, n, k _ _ hzd rfl e, r⟩) h1 h2 ih
  | obj f hz hzd hg hd h1 h2 _ ih => exact .obj f hz hzd (k _ _ hz rfl hg) (let ⟨es, n, e, r⟩ := hd; ⟨es, n, k _ _ hzd rfl e, r⟩) h1 h2 ih
def Vals (Z : Addr → Prop) (h : Heap) (vs : List Value) (as : List AV) : Prop :=
  vs.length = as.length ∧ ∀ (i : Nat) v x, vs[i]? = some v → as[i]? = some x → Val Z h v x
theorem Vals.nil {Z h} : Vals Z h [] [] := ⟨rfl, fun i v x e => by simp at e⟩
theorem Vals.cons {Z h v vs a as} (x : Val Z h v a) (y : Vals Z h vs as) : Vals Z h (v :: vs) (a :: as) :=
  ⟨by rw [List.length_cons, List.length_cons, y.1], fun i u b e e' => by
    cases i with
    | zero => simp at e e'; subst e; subst e'; exact x
    | succ i => simp at e e'; exact y.2 i u b e e'⟩
theorem Vals.keep {S : Sys} {h h' : Heap} {Z vs as} (k : Keep S h h') (x : Vals Z h vs as) : Vals Z h' vs as := ⟨x.1, fun i v a e e' => (x.2 i v a e e').keep k⟩
theorem Vals.anti {h : Heap} {Z Z' : Addr → Prop} {vs as} (k : ∀ b, Z' b → Z b) (x : Vals Z h vs as) : Vals Z' h vs as := ⟨x.1, fun i v a e e' => (x.2 i v a e e').anti k⟩
theorem Vals.more {h : Heap} {Z Z' : Addr → Prop} {vs as} (k : ∀ b, Z' b → Z b ∨ h.get? b = .none) (x : Vals Z h vs as) : Vals Z' h vs as := ⟨x.1, fun i v a e e' => (x.2 i v a e e').more k⟩
theorem Vals.same {h h' : Heap} {Z : Addr → Prop} {vs as} (k : ∀ b o, ¬ Z b → notTbl o = true → h.get? b = some o → h'.get? b = some o) (x : Vals Z h vs as) : Vals Z h' vs as := ⟨x.1, fun i v a e e' => (x.2 i v a e e').same k⟩
theorem Vals.uncons {Z h v vs a as} (y : Vals Z h (v :: vs) (a :: as)) : Val Z h v a ∧ Vals Z h vs as :=
  ⟨y.2 0 v a rfl rfl, by have := y.1; simpa using this, fun i u b e e' => y.2 (i + 1) u b (by simpa using e) (by simpa using e')⟩
theorem Vals.length_nil {Z h vs} (y : Vals Z h vs []) : vs = [] := List.length_eq_zero_iff.mp y.1
theorem Vals.of_cons {Z h vs a as} (y : Vals Z h vs (a :: as)) : ∃ v r, vs = v :: r ∧ Val Z h v a ∧ Vals Z h r as := by
  cases vs with
  | nil => exact absurd y.1 (by simp)
  | cons v r => exact ⟨v, r, rfl, y.uncons⟩
theorem Vals.append {Z h vs as vs' as'} (x : Vals Z h vs as) (y : Vals Z h vs' as') : Vals Z h (vs ++ vs') (as ++ as') := by
  induction as generalizing vs with
  | nil => rw [x.length_nil]; exact y
  | cons a as ih =>
    obtain ⟨v, r, rfl, hv, hr⟩ := x.of_cons
    exact .cons hv (ih hr)
def TabOk (h : Heap) (c P : Addr) : Prop := ∃ ps, h.IsCode c P ps ∧ h.TableAt c P ps
/-- what holds at the start -/
structure Stat (S : Sys) : Prop where
  K : S.K.In S.h₁
  g : S.h₁.Ns mainGlobals S.mg
  b : S.h₁.Ns builtinsNs S.mb
  bm : ∃ bm ob, S.mg "__builtins__" = some (.ref bm) ∧ bm ≠ builtinsNs ∧ S.h₁.get? bm = some ob ∧ ob.cls = .type "module" ∧ ob.dict = some builtinsNs ∧ ob.data = .plain
  builtins : ∀ x : Str, x ≠ "__name__" → S.mb x = bootBuiltins x
  lim : S.h₁.NoLimit
  Kt : ∀ p ∈ S.K, notTbl p.2 = true
  tabs : ∀ p ∈ S.tabs, TabOk S.h₁ p.1 p.2
theorem mem_of_klookup {K : Frag} {a : Addr} {o : Obj} (e : K.lookup a = some o) : (a, o) ∈ K := by
  induction K with
  | nil => cases e
  | cons p r ih =>
    obtain ⟨b, x⟩ := p
    rw [List.lookup_cons] at e
    cases hb : a == b with
    | true => rw [hb] at e; cases e; rw [beq_iff_eq.mp hb]; exact List.mem_cons_self
    | false => rw [hb] at e; exact List.mem_cons_of_mem _ (ih e)
theorem Ns.keep {S : Sys} {h h' : Heap} {a m} (k : Keep S h h') (x : h.Ns a m) : h'.Ns a m :=
  let ⟨o, es, ep, e, d, r⟩ := x; ⟨o, es, ep, k.get _ _ e (by unfold notTbl; rw [d]; cases o.cls <;> rfl), d, r⟩
theorem NoLimit.keep {S : Sys} {h h' : Heap} (k : Keep S h h') (x : h.NoLimit) : h'.NoLimit := let ⟨mc, p, q⟩ := x; ⟨mc, Ns.keep k p, q⟩
theorem IsCell.keep {S : Sys} {h h' : Heap} {c v} (k : Keep S h h') (x : h.IsCell c v) : h'.IsCell c v :=
  let ⟨o, e, d⟩ := x; ⟨o, k.get _ _ e (by unfold notTbl; rw [d]; cases o.cls <;> rfl), d⟩
/-- what holds of every state -/
structure Inv (S : Sys) (s : Shared) : Prop where
  stat : Stat S
  tabs : ∀ p ∈ S.tabs, TabOk s.heap p.1 p.2
  keep : Keep S S.h₁ s.heap
  bare : AllBare s.gens
  os : s.os = S.os
theorem Inv.K {S : Sys} {s : Shared} (i : Inv S s) : S.K.In s.heap := fun a o e => i.keep.get a o (i.stat.K a o e) (i.stat.Kt _ (mem_of_klookup e))
theorem Inv.g {S : Sys} {s : Shared} (i : Inv S s) : s.heap.Ns mainGlobals S.mg := Ns.keep i.keep i.stat.g
theorem Inv.b {S : Sys} {s : Shared} (i : Inv S s) : s.heap.Ns builtinsNs S.mb := Ns.keep i.keep i.stat.b
theorem Inv.lim {S : Sys} {s : Shared} (i : Inv S s) : s.heap.NoLimit := NoLimit.keep i.keep i.stat.lim
theorem Inv.builtins {S : Sys} {s : Shared} (i : Inv S s) : ∀ x : Str, x ≠ "__name__" → S.mb x = bootBuiltins x := i.stat.builtins
def GensKeep (g g' : Array GenState) : Prop := g.size ≤ g'.size ∧ ∀ i, i < g.size → g'[i]? = g[i]?
theorem GensKeep.refl (g) : GensKeep g g := ⟨Nat.le_refl _, fun _ _ => rfl⟩
theorem GensKeep.trans {g g' g''} (x : GensKeep g g') (y : GensKeep g' g'') : GensKeep g g'' :=
  ⟨Nat.le_trans x.1 y.1, fun i hi => (y.2 i (Nat.lt_of_lt_of_le hi x.1)).trans (x.2 i hi)⟩
structure Later (S : Sys) (s s' : Shared) : Prop where
  keep : Keep S s.heap s'.heap
  inv : Inv S s'
  gens : GensKeep s.gens s'.gens
theorem Later.refl {S s} (i : Inv S s) : Later S s s := ⟨.refl _ _, i, .refl _⟩
theorem Later.trans {S s s' s''} (x : Later S s s') (y : Later S s' s'') : Later S s s'' := ⟨x.keep.trans y.keep, y.inv, x.gens.trans y.gens⟩
theorem Inv.tok {S : Sys} {s : Shared} (i : Inv S s) (t : Nat) : Inv S { s with toks := t } := ⟨i.stat, i.tabs, i.keep, i.bare, i.os⟩
theorem Later.tok {S : Sys} {s : Shared} (i : Inv S s) (t : Nat) : Later S s { s with toks := t } := ⟨.refl _ _, i.tok t, .refl _⟩
/-- a step that keeps every object -/
theorem Inv.grow {S : Sys} {s : Shared} {h' : Heap} {t : Nat} (i : Inv S s) (k : ∀ a o, s.heap.get? a = some o → h'.get? a = some o) : Inv S { s with heap := h', toks := t } where
  stat := i.stat
  tabs := fun p hp => let ⟨ps, x, y⟩ := i.tabs p hp; ⟨ps, x.keeps k, y.keeps k⟩
  keep := i.keep.trans (Keep.of_all k)
  bare := i.bare
  os := i.os
theorem Later.grow {S : Sys} {s : Shared} {h' : Heap} {t : Nat} (i : Inv S s) (k : ∀ a o, s.heap.get? a = some o → h'.get? a = some o) : Later S s { s with heap := h', toks := t } :=
  ⟨Keep.of_all k, i.grow k, .refl _⟩
/-- a change at one place that is new -/
theorem Keep.new {S : Sys} {h h₀ h' : Heap} {a : Addr} (k : Keep S h₀ h) (hp : h₀.get? a = .none) (hs : Heap.SameBut a h h') : Keep S h₀ h' :=
  have ne : ∀ b o, h₀.get? b = some o → b ≠ a := fun b o e q => by rw [q, hp] at e; cases e
  { get := fun b o e q => (hs.2 b (ne b o e)).trans (k.get b o e q)
    tab := fun b ps e => by
      have hb := hs.2 b (ne b _ e)
      rcases k.tab b ps e with x | ⟨x, m, y⟩
      · exact .inl (hb.trans x)
      · exact .inr ⟨x, m, hb.trans y⟩
    here := fun b o e => let ⟨o', e'⟩ := k.here b o e; ⟨o', (hs.2 b (ne b o e)).trans e'⟩ }
theorem TabOk.some {h : Heap} {c P : Addr} (x : TabOk h c P) : (∃ o, h.get? c = some o) ∧ ∃ o, h.get? P = some o :=
  let ⟨ps, _, ⟨o, vs, e, _⟩, e'⟩ := x; ⟨⟨o, e⟩, _, e'⟩
theorem Inv.new {S : Sys} {s : Shared} {h' : Heap} {a : Addr} {t : Nat} (i : Inv S s) (hp : S.h₁.get? a = .none) (hs : Heap.SameBut a s.heap h') : Inv S { s with heap := h', toks := t } where
  stat := i.stat
  tabs := fun p hp' => by
    obtain ⟨⟨o1, h1⟩, o2, h2⟩ := (i.stat.tabs p hp').some
    obtain ⟨ps, x, y⟩ := i.tabs p hp'
    have n1 : p.1 ≠ a := fun q => by rw [q, hp] at h1; cases h1
    have n2 : p.2 ≠ a := fun q => by rw [q, hp] at h2; cases h2
    exact ⟨ps, x.sameBut hs n1 n2, y.sameBut hs n1 n2⟩
  keep := i.keep.new hp hs
  bare := i.bare
  os := i.os
theorem fresh (h : Heap) : h.get? h.objs.size = .none := by
  cases q : h.get? h.objs.size with
  | none => rfl
  | some o => exact absurd (Heap.lt_size q) (Nat.lt_irrefl _)
/-- what is not there now was not there before -/
theorem Keep.none {S : Sys} {h h' : Heap} {a : Addr} (k : Keep S h h') (e : h'.get? a = .none) : h.get? a = .none := by
  cases q : h.get? a with
  | none => rfl
  | some o => obtain ⟨o', e'⟩ := k.here a o q; rw [e] at e'; cases e'
end
section
open PySem PySem.Spec PySem.Calls PyProof.Rows PySem.W
/-- room on the stack: n calls more -/
structure Room (n : Nat) (A : Around) : Prop where
  hd : A.handled = none
  depth : A.depth + 2 * n + 4 < 1000
  units : A.units + 30 * n + 60 < 9900
theorem Room.mono {n m : Nat} {A : Around} (h : Room n A) (k : m ≤ n) : Room m A := ⟨h.hd, by have := h.depth; omega, by have := h.units; omega⟩
theorem Room.lt {n : Nat} {A : Around} (h : Room n A) : A.depth < recursionLimit := by have := h.depth; unfold recursionLimit; omega
theorem Room.u {n : Nat} {A : Around} (h : Room n A) : A.units < cLine := by have := h.units; unfold cLine; omega
/-- the frame's scope and code -/
structure EnvIs (env : Env) (sc : Scope) (c : Addr) : Prop where
  scope : env.scope = sc
  globals : env.globals = mainGlobals
  builtins : env.builtins = builtinsNs
  code : env.code = .ref c ∨ c = (0 : Nat)
  kind : sc.kind = .function
  co : sc.isCoroutine = false
/-- the name x holds v -/
def Res (env : Env) (h : Heap) (x : Str) (v : Value) : Prop :=
  (env.kindOf x = some .local ∧ ∃ m, h.Ns env.locals m ∧ m x = some v) ∨
  ((env.kindOf x = some .cell ∨ env.kindOf x = some .free) ∧ ∃ c, env.cells.lookup x = some c ∧ h.IsCell c (some v))
abbrev Rho := List (Str × AV)
structure Frame (S : Sys) (Z : Addr → Prop) (env : Env) (h : Heap) (ρ : Rho) : Prop where
  zb : ∀ a, Z a → S.h₁.get? a = .none ∧ ∃ o, h.get? a = some o
  zl : Z env.locals
  zc : ∀ x c, env.cells.lookup x = some c → Z c
  ns : ∃ m, h.Ns env.locals m
  res : ∀ x a, ρ.lookup x = some a → ∃ v, Res env h x v ∧ Val Z h v a
theorem Res.keep {S : Sys} {h h' : Heap} {env x v} (k : Keep S h h') (r : Res env h x v) : Res env h' x v := by
  rcases r with ⟨a, m, n, e⟩ | ⟨a, c, l, e⟩
  · exact .inl ⟨a, m, Ns.keep k n, e⟩
  · exact .inr ⟨a, c, l, IsCell.keep k e⟩
theorem Frame.keep {S : Sys} {h h' : Heap} {Z env ρ} (k : Keep S h h') (F : Frame S Z env h ρ) : Frame S Z env h' ρ where
  zb := fun a z => ⟨(F.zb a z).1, let ⟨o, e⟩ := (F.zb a z).2; k.here a o e⟩
  zl := F.zl
  zc := F.zc
  ns := let ⟨m, n⟩ := F.ns; ⟨m, Ns.keep k n⟩
  res := fun x a e => let ⟨v, r, y⟩ := F.res x a e; ⟨v, r.keep k, y.keep k⟩
theorem Frame.sub {S : Sys} {h : Heap} {Z env} {ρ ρ' : Rho} (F : Frame S Z env h ρ) (k : ∀ x a, ρ'.lookup x = some a → ρ.lookup x = some a) : Frame S Z env h ρ' :=
  ⟨F.zb, F.zl, F.zc, F.ns, fun x a e => F.res x a (k x a e)⟩
/-- bounded: what is shut out lies in the heap -/
def Bd (S : Sys) (Z : Addr → Prop) (h : Heap) : Prop := ∀ a, Z a → S.h₁.get? a = .none ∧ ∃ o, h.get? a = some o
theorem Bd.keep {S : Sys} {h h' : Heap} {Z} (k : Keep S h h') (b : Bd S Z h) : Bd S Z h' := fun a z => ⟨(b a z).1, let ⟨o, e⟩ := (b a z).2; k.here a o e⟩
theorem Bd.not {S : Sys} {h : Heap} {Z} {a : Addr} (b : Bd S Z h) (e : h.get? a = .none) : ¬ Z a := fun z => by obtain ⟨o, q⟩ := (b a z).2; rw [e] at q; cases q
theorem Frame.bd {S : Sys} {h : Heap} {Z env ρ} (F : Frame S Z env h ρ) : Bd S Z h := F.zb
/-- the tree t ends in a value that stands for a -/
def Gives (S : Sys) (A : Around) (Z : Addr → Prop) (s : Shared) (t : Sem Value) (a : AV) : Prop :=
  ∀ (Q : Value → Shared → Prop) (E : Value → Shared → Prop), (∀ v s', Later S s s' → Val Z s'.heap v a → Q v s') → wpAny (model S.prog S.w) A t Q E s
def GivesB (S : Sys) (A : Around) (s : Shared) (t : Sem Bool) (b : Bool) : Prop :=
  ∀ (Q : Bool → Shared → Prop) (E : Value → Shared → Prop), (∀ s', Later S s s' → Q b s') → wpAny (model S.prog S.w) A t Q E s
def GivesL (S : Sys) (A : Around) (Z : Addr → Prop) (s : Shared) (t : Sem (List Value)) (as : List AV) : Prop :=
  ∀ (Q : List Value → Shared → Prop) (E : Value → Shared → Prop), (∀ vs s', Later S s s' → Vals Z s'.heap vs as → Q vs s') → wpAny (model S.prog S.w) A t Q E s
def Ev (S : Sys) (n : Nat) (sc : Scope) (c : Addr) (ρ : Rho) (e : Expr) (a : AV) : Prop :=
  ∀ A env Z s, Room n A → EnvIs env sc c → Frame S Z env s.heap ρ → Inv S s → Gives S A Z s (eval e env) a
def EvT (S : Sys) (n : Nat) (sc : Scope) (c : Addr) (ρ : Rho) (e : Expr) (b : Bool) : Prop :=
  ∀ A env Z s, Room n A → EnvIs env sc c → Frame S Z env s.heap ρ → Inv S s → GivesB S A s (isTrue e env (eval e env)) b
def EvL (S : Sys) (n : Nat) (sc : Scope) (c : Addr) (ρ : Rho) (es : List Expr) (as : List AV) : Prop :=
  ∀ A env Z s pos, Room n A → EnvIs env sc c → Frame S Z env s.heap ρ → Inv S s → GivesL S A Z s (spliced (backTo pos (starEach es env))) as
def BinSem (S : Sys) (n : Nat) (op : Operator) (a b r : AV) : Prop :=
  ∀ A Z s v w, Room n A → Inv S s → Bd S Z s.heap → Val Z s.heap v a → Val Z s.heap w b → Gives S A Z s (binaryOp op v w) r
def CmpSem (S : Sys) (n : Nat) (op : CmpOp) (a b r : AV) : Prop :=
  ∀ A Z s v w, Room n A → Inv S s → Bd S Z s.heap → Val Z s.heap v a → Val Z s.heap w b → Gives S A Z s (compareOp op v w) r
def UnSem (S : Sys) (n : Nat) (op : UnaryOp) (a r : AV) : Prop :=
  ∀ A Z s v, Room n A → Inv S s → Bd S Z s.heap → Val Z s.heap v a → Gives S A Z s (unaryOp op v) r
def TruthSem (S : Sys) (n : Nat) (a : AV) (b : Bool) : Prop :=
  ∀ A Z s v, Room n A → Inv S s → Bd S Z s.heap → Val Z s.heap v a → GivesB S A s (truthy v) b
def CallSem (S : Sys) (n : Nat) (f : AV) (as : List AV) (kw : List (Str × AV)) (r : AV) : Prop :=
  ∀ A Z s v vs kvs, Room n A → Inv S s → Bd S Z s.heap → Val Z s.heap v f → Vals Z s.heap vs as → kvs.map (·.1) = kw.map (·.1) → Vals Z s.heap (kvs.map (·.2)) (kw.map (·.2)) →
    Gives S A Z s (call v vs kvs) r
variable {S : Sys} {n : Nat} {sc : Scope} {c : Addr} {ρ : Rho}
theorem Ev.int {i k pos} : Ev S n sc c ρ (.Constant (.int i) k pos) (.int i) :=
  fun A env Z s _ _ _ I Q E h => wpAny_Constant_int (h _ _ (Later.tok I _) (.int _ _))
theorem Ev.name {x pos a} (hx : ρ.lookup x = some a) (hd : (x == ("__debug__" : Str)) = false := by decide) (hd2 : (x == ("__classdict__" : Str)) = false := by decide) : Ev S n sc c ρ (.Name x pos) a :=
  fun A env Z s _ e F I Q E h => by
    obtain ⟨v, r, hv⟩ := F.res x a hx
    have hk : env.scope.kind = .function := e.scope ▸ e.kind
    refine wpAny_Name ?_ hd
    rcases r with ⟨hl, m, hm, hmx⟩ | ⟨hl | hl, cc, hc, hcv⟩
    · exact wpAny_loadName_local hk hl hm hmx (h _ _ (Later.refl I) hv)
    · exact wpAny_loadName_cell hk hl hc hcv (h _ _ (Later.refl I) hv)
    · exact wpAny_loadName_free hk hl hc hcv (h _ _ (Later.refl I) hv) hd2
theorem Ev.glob {x pos v} (hk : sc.names.lookup x = some .globalImplicit) (hv : nsIn S.K mainGlobals x = some (some v)) (hd : (x == ("__debug__" : Str)) = false := by decide) : Ev S n sc c ρ (.Name x pos) (.val v) :=
  fun A env Z s _ e F I Q E h => by
    refine Name_function_global (by rw [e.scope]; exact e.kind) (by show env.scope.names.lookup x = _; rw [e.scope]; exact hk) ?_ hd
    exact loadGlobal_global (e.globals ▸ I.g) (mg_of I.K I.g hv) (h _ _ (Later.refl I) (.val v))
theorem Ev.builtin {x pos v} (hk : sc.names.lookup x = some .globalImplicit) (hv : nsIn S.K mainGlobals x = some Option.none) (hb : bootBuiltins x = some v) (hn : x ≠ "__name__") (hd : (x == ("__debug__" : Str)) = false := by decide) :
    Ev S n sc c ρ (.Name x pos) (.val v) :=
  fun A env Z s _ e F I Q E h => by
    refine Name_function_global (by rw [e.scope]; exact e.kind) (by show env.scope.names.lookup x = _; rw [e.scope]; exact hk) ?_ hd
    exact loadGlobal_builtin (e.globals ▸ I.g) (mg_none_of I.K I.g hv) (e.builtins ▸ I.b) ((I.builtins x hn).trans hb) (h _ _ (Later.refl I) (.val v))
theorem Ev.binop {l op r pos a b x} (h1 : Ev S n sc c ρ l a) (h2 : Ev S n sc c ρ r b) (h3 : BinSem S n op a b x) : Ev S n sc c ρ (.BinOp l op r pos) x :=
  fun A env Z s R e F I Q E h => wpAny_BinOp (h1 A env Z s R e F I _ _ fun v s1 L1 v1 => h2 A env Z s1 R e (F.keep L1.keep) L1.inv _ _ fun w s2 L2 v2 =>
    h3 A Z s2 v w R L2.inv (F.bd.keep (L1.trans L2).keep) (v1.keep L2.keep) v2 _ _ fun y s3 L3 v3 => h y s3 ((L1.trans L2).trans L3) v3)
theorem Ev.unop {op x pos a r} (h1 : Ev S n sc c ρ x a) (h3 : UnSem S n op a r) : Ev S n sc c ρ (.UnaryOp op x pos) r :=
  fun A env Z s R e F I Q E h => wpAny_UnaryOp (h1 A env Z s R e F I _ _ fun v s1 L1 v1 =>
    h3 A Z s1 v R L1.inv (F.bd.keep L1.keep) v1 _ _ fun y s3 L3 v3 => h y s3 (L1.trans L3) v3)
theorem Ev.cmp {l op r pos a b x} (h1 : Ev S n sc c ρ l a) (h2 : Ev S n sc c ρ r b) (h3 : CmpSem S n op a b x) (hm : behindInMarks op r = false := by with_unfolding_all rfl) : Ev S n sc c ρ (.Compare l [op] [r] pos) x :=
  fun A env Z s R e F I Q E h => wpAny_Compare1 (h1 A env Z s R e F I _ _ fun v s1 L1 v1 => h2 A env Z s1 R e (F.keep L1.keep) L1.inv _ _ fun w s2 L2 v2 =>
    h3 A Z s2 v w R L2.inv (F.bd.keep (L1.trans L2).keep) (v1.keep L2.keep) v2 _ _ fun y s3 L3 v3 => h y s3 ((L1.trans L2).trans L3) v3) hm
theorem Ev.ifexp_t {t e1 e2 pos a} (h1 : EvT S n sc c ρ t true) (h2 : Ev S n sc c ρ e1 a) : Ev S n sc c ρ (.IfExp t e1 e2 pos) a :=
  fun A env Z s R e F I Q E h => wpAny_IfExp (h1 A env Z s R e F I _ _ fun s1 L1 => h2 A env Z s1 R e (F.keep L1.keep) L1.inv _ _ fun w s2 L2 v2 => h w s2 (L1.trans L2) v2)
theorem Ev.ifexp_f {t e1 e2 pos a} (h1 : EvT S n sc c ρ t false) (h2 : Ev S n sc c ρ e2 a) : Ev S n sc c ρ (.IfExp t e1 e2 pos) a :=
  fun A env Z s R e F I Q E h => wpAny_IfExp (h1 A env Z s R e F I _ _ fun s1 L1 => h2 A env Z s1 R e (F.keep L1.keep) L1.inv _ _ fun w s2 L2 v2 => h w s2 (L1.trans L2) v2)
theorem EvT.cmp {l op r pos a b x} (h1 : Ev S n sc c ρ l a) (h2 : Ev S n sc c ρ r b) (h3 : CmpSem S n op a b (.bool x)) (hm : behindInMarks op r = false := by with_unfolding_all rfl) : EvT S n sc c ρ (.Compare l [op] [r] pos) x :=
  fun A env Z s R e F I Q E h => wpAny_isTrue_Compare1 (h1 A env Z s R e F I _ _ fun v s1 L1 v1 => h2 A env Z s1 R e (F.keep L1.keep) L1.inv _ _ fun w s2 L2 v2 =>
    h3 A Z s2 v w R L2.inv (F.bd.keep (L1.trans L2).keep) (v1.keep L2.keep) v2 _ _ fun y s3 L3 v3 => by
      cases v3
      exact wpAny_truthy_bool (h s3 ((L1.trans L2).trans L3))) hm
theorem EvT.not {x pos b} (h1 : EvT S n sc c ρ x b) : EvT S n sc c ρ (.UnaryOp .Not x pos) (!b) :=
  fun A env Z s R e F I Q E h => wpAny_isTrue_Not (h1 A env Z s R e F I _ _ fun s1 L1 => h s1 L1)
theorem EvT.value {e a b} (h1 : Ev S n sc c ρ e a) (h2 : TruthSem S n a b) (he : ∀ env whole, isTrue e env whole = (do let v ← whole; standAt e.pos; holding [v] (truthy v)) := by intro _ _; rfl) : EvT S n sc c ρ e b :=
  fun A env Z s R ei F I Q E h => wpAny_isTrue_value (h1 A env Z s R ei F I _ _ fun v s1 L1 v1 => h2 A Z s1 v R L1.inv (F.bd.keep L1.keep) v1 _ _ fun s2 L2 => h s2 (L1.trans L2)) (he env _)
theorem EvT.bool {e b} (h1 : Ev S n sc c ρ e (.bool b)) (he : ∀ env whole, isTrue e env whole = (do let v ← whole; standAt e.pos; holding [v] (truthy v)) := by intro _ _; rfl) : EvT S n sc c ρ e b :=
  EvT.value h1 (fun A Z s v R I B hv Q E h => by cases hv; exact wpAny_truthy_bool (h s (Later.refl I))) he
theorem EvT.or_t {x xs pos} (h : EvT S n sc c ρ x true) : EvT S n sc c ρ (.BoolOp .Or (x :: xs) pos) true :=
  fun A env Z s R e F I Q E k => wpAny_isTrue_BoolOp (wpAny_allTrue_Or_cons (h A env Z s R e F I _ _ fun s1 L1 => k s1 L1))
theorem EvT.or_nil {pos} : EvT S n sc c ρ (.BoolOp .Or [] pos) false :=
  fun A env Z s R e F I Q E k => wpAny_isTrue_BoolOp (wpAny_allTrue_Or_nil (k s (Later.refl I)))
theorem allTrue_of {op xs pos b} {A : Around} {env : Env} {s : Shared} {Q : Bool → Shared → Prop} {E : Value → Shared → Prop} (h : wpAny (model S.prog S.w) A (isTrue (.BoolOp op xs pos) env b) Q E s) : wpAny (model S.prog S.w) A (allTrue op xs env) Q E s := by
  rw [arm_isTrue_BoolOp] at h; exact h
theorem EvT.or_f {x xs pos b} (h : EvT S n sc c ρ x false) (h2 : EvT S n sc c ρ (.BoolOp .Or xs pos) b) : EvT S n sc c ρ (.BoolOp .Or (x :: xs) pos) b :=
  fun A env Z s R e F I Q E k => wpAny_isTrue_BoolOp (wpAny_allTrue_Or_cons (h A env Z s R e F I _ _ fun s1 L1 => by
    simp only [Bool.false_eq_true, if_false]
    exact allTrue_of (h2 A env Z s1 R e (F.keep L1.keep) L1.inv _ _ fun s2 L2 => k s2 (L1.trans L2))))
theorem EvT.and_f {x xs pos} (h : EvT S n sc c ρ x false) : EvT S n sc c ρ (.BoolOp .And (x :: xs) pos) false :=
  fun A env Z s R e F I Q E k => wpAny_isTrue_BoolOp (wpAny_allTrue_And_cons (h A env Z s R e F I _ _ fun s1 L1 => k s1 L1))
theorem EvT.and_nil {pos} : EvT S n sc c ρ (.BoolOp .And [] pos) true :=
  fun A env Z s R e F I Q E k => wpAny_isTrue_BoolOp (wpAny_allTrue_And_nil (k s (Later.refl I)))
theorem EvT.and_t {x xs pos b} (h : EvT S n sc c ρ x true) (h2 : EvT S n sc c ρ (.BoolOp .And xs pos) b) : EvT S n sc c ρ (.BoolOp .And (x :: xs) pos) b :=
  fun A env Z s R e F I Q E k => wpAny_isTrue_BoolOp (wpAny_allTrue_And_cons (h A env Z s R e F I _ _ fun s1 L1 => by
    simp only [if_true]
    exact allTrue_of (h2 A env Z s1 R e (F.keep L1.keep) L1.inv _ _ fun s2 L2 => k s2 (L1.trans L2))))
theorem EvL.nil : EvL S n sc c ρ [] [] := fun A env Z s pos R e F I Q E h => wpAny_items_nil (h _ _ (Later.refl I) .nil)
theorem EvL.cons {e es a as} (h1 : Ev S n sc c ρ e a) (h2 : EvL S n sc c ρ es as) (he : ∀ env, starEach (e :: es) env = (false, eval e env) :: starEach es env := by intro _; rfl) : EvL S n sc c ρ (e :: es) (a :: as) :=
  fun A env Z s pos R ei F I Q E h => wpAny_items_cons (h1 A env Z s R ei F I _ _ fun v s1 L1 v1 => h2 A env Z s1 pos R ei (F.keep L1.keep) L1.inv _ _ fun vs s2 L2 v2 =>
    h (v :: vs) s2 (L1.trans L2) (.cons (v1.keep L2.keep) v2)) (he env)
/-- a fresh list, at a place that holds nothing else -/
def GivesF (S : Sys) (A : Around) (Z : Addr → Prop) (s : Shared) (t : Sem Value) (as : List AV) : Prop :=
  ∀ (Q : Value → Shared → Prop) (E : Value → Shared → Prop), (∀ d vs k s', Later S s s' → s.heap.get? d = .none → s'.heap.get? d = some (lstO vs k) → Vals (fun a => Z a ∨ a = d) s'.heap vs as → Q (.ref d) s') → wpAny (model S.prog S.w) A t Q E s
def EvF (S : Sys) (n : Nat) (sc : Scope) (c : Addr) (ρ : Rho) (e : Expr) (as : List AV) : Prop :=
  ∀ A env Z s, Room n A → EnvIs env sc c → Frame S Z env s.heap ρ → Inv S s → GivesF S A Z s (eval e env) as
theorem val_of_fresh {Z : Addr → Prop} {h : Heap} {d : Addr} {vs as k} (hd : ¬ Z d) (hg : h.get? d = some (lstO vs k)) (hv : Vals (fun a => Z a ∨ a = d) h vs as) (hl : as.length ≤ 1000) : Val Z h (.ref d) (.lst as) :=
  .lst hd hg hv.1 (hv.1 ▸ hl) fun i v x e e' => (hv.2 i v x e e').anti fun b z => .inl z
theorem EvF.ev {e as} (h : EvF S n sc c ρ e as) (hl : as.length ≤ 1000) : Ev S n sc c ρ e (.lst as) :=
  fun A env Z s R ei F I Q E k => h A env Z s R ei F I Q E fun d vs kk s' L hd hg hv => k _ s' L (val_of_fresh (F.bd.not hd) hg hv hl)
theorem newTuple_eq (vs : List Value) : newTuple vs = newObj (.type "tuple") (.seq vs.toArray) := rfl
theorem EvF.list {es pos as} (h : EvL S n sc c ρ es as) (hl : as.length ≤ 1000) : EvF S n sc c ρ (.List es pos) as :=
  fun A env Z s R ei F I Q E k => wpAny_List (h A env Z s pos R ei F I _ _ fun vs s1 L1 hv => ⟨by rw [hv.1]; unfold sizeLine; omega, by
    refine k _ vs 0 _ (L1.trans (Later.grow L1.inv fun _ _ e => Heap.get?_push_of_some _ e)) (L1.keep.none (fresh _)) (Heap.get?_push_size _ rfl) ?_
    exact (hv.more fun b z => z.elim .inl fun e => .inr (e ▸ fresh _)).keep (Keep.push S _ _)⟩)
theorem Ev.list {es pos as} (h : EvL S n sc c ρ es as) (hl : as.length ≤ 1000 := by decide) : Ev S n sc c ρ (.List es pos) (.lst as) := (EvF.list h hl).ev hl
theorem Ev.tuple {es k pos as} (h : EvL S n sc c ρ es as) (hl : as.length ≤ 1000 := by decide) : Ev S n sc c ρ (.Tuple es k pos) (.tup as) :=
  fun A env Z s R ei F I Q E k => wpAny_Tuple (h A env Z s pos R ei F I _ _ fun vs s1 L1 hv => ⟨by rw [hv.1]; unfold sizeLine; omega, by
    have hb := F.bd.keep L1.keep
    refine k _ _ (L1.trans (Later.grow L1.inv fun _ _ e => Heap.get?_push_of_some _ e)) ?_
    exact .tup (hb.not (fresh _)) (Heap.get?_push_size _ rfl) hv.1 (hv.1 ▸ hl) (hv.keep (Keep.push S _ _)).2⟩)
/-! int operators -/
theorem BinSem.add {i j} : BinSem S n .Add (.int i) (.int j) (.int (i + j)) := fun A Z s v w R I B hv hw Q E h => by
  cases hv; cases hw; exact add_int (h _ _ (Later.tok I _) (.int _ _))
theorem BinSem.sub {i j} : BinSem S n .Sub (.int i) (.int j) (.int (i - j)) := fun A Z s v w R I B hv hw Q E h => by
  cases hv; cases hw; exact sub_int (h _ _ (Later.tok I _) (.int _ _))
theorem BinSem.mod {i j} (hj : 0 < j) : BinSem S n .Mod (.int i) (.int j) (.int (i % j)) := fun A Z s v w R I B hv hw Q E h => by
  cases hv; cases hw; exact mod_int (by omega) (h _ _ (Later.tok I _) (by rw [Int.fmod_eq_emod_of_nonneg _ (Int.le_of_lt hj)]; exact .int _ _))
theorem BinSem.floordiv {i j} (hj : 0 < j) (hp : Builtin.divisionGoesByPylong i j = false) : BinSem S n .FloorDiv (.int i) (.int j) (.int (i / j)) := fun A Z s v w R I B hv hw Q E h => by
  cases hv; cases hw; exact floordiv_int (by omega) (h _ _ (Later.tok I _) (by rw [Int.fdiv_eq_ediv_of_nonneg _ (Int.le_of_lt hj)]; exact .int _ _)) (.inl hp)
theorem CmpSem.eq {i j} : CmpSem S n .Eq (.int i) (.int j) (.bool (i == j)) := fun A Z s v w R I B hv hw Q E h => by
  cases hv; cases hw; exact eq_int (h _ _ (Later.refl I) (.bool _))
theorem CmpSem.lt {i j} : CmpSem S n .Lt (.int i) (.int j) (.bool (decide (i < j))) := fun A Z s v w R I B hv hw Q E h => by
  cases hv; cases hw; exact lt_int (h _ _ (Later.refl I) (.bool _))
theorem CmpSem.gt {i j} : CmpSem S n .Gt (.int i) (.int j) (.bool (decide (i > j))) := fun A Z s v w R I B hv hw Q E h => by
  cases hv; cases hw; exact gt_int (h _ _ (Later.refl I) (.bool _))
end
section
open PySem PySem.Spec PySem.Calls PyProof.Rows PySem.W
/-- the one thing that the frame may still change: a list or an instance that nothing else holds -/
inductive Own where
  | no
  | lst (x : Str) (l : List AV)
  | ins (x : Str) (C : Addr) (fs : List (Str × AV))
def Own.name? : Own → Option Str
  | .no => .none
  | .lst x _ => .some x
  | .ins x _ _ => .some x
def OwnAt (S : Sys) (h₀ : Heap) (Z M : Addr → Prop) (env : Env) (h : Heap) : Own → Prop
  | .no => True
  | .lst x l => ∃ d vs k, Res env h x (.ref d) ∧ M d ∧ h₀.get? d = .none ∧ d ≠ env.locals ∧ (∀ y c, env.cells.lookup y = some c → c ≠ d) ∧ h.get? d = some (lstO vs k) ∧ Vals Z h vs l
  | .ins x C fs => ∃ (d dd : Addr) (m : Str → Option Value) (f : Str → Value), Res env h x (.ref d) ∧ M d ∧ M dd ∧ h₀.get? d = .none ∧ h₀.get? dd = .none ∧ d ≠ env.locals ∧ dd ≠ env.locals ∧ (∀ y c, env.cells.lookup y = some c → c ≠ d ∧ c ≠ dd) ∧ h.get? d = some (insO C dd) ∧ DictN h dd m fs.length ∧
      (∀ k, fs.lookup k = .none → m k = .none) ∧ (∀ k y, fs.lookup k = some y → m k = some (f k)) ∧ (∀ k y, fs.lookup k = some y → Val Z h (f k) y)
structure FrameS (S : Sys) (Y : Addr → Prop) (h₀ : Heap) (Z M : Addr → Prop) (env : Env) (h : Heap) (ρ : Rho) (ow : Own) : Prop where
  F : Frame S Z env h ρ
  own : OwnAt S h₀ Z M env h ow
  mz : ∀ a, M a → Z a
  ml : M env.locals
  mc : ∀ x c, env.cells.lookup x = some c → M c
  sub : ∀ a, Y a → Z a
  yb : ∀ a, Y a → ∃ o, h₀.get? a = some o
  k0 : Keep S h₀ h
  newL : h₀.get? env.locals = .none
  newC : ∀ x c, env.cells.lookup x = some c → h₀.get? c = .none
  apart : env.cells.Pairwise fun x y => x.2 ≠ y.2
  start : Keep S S.h₁ h₀
  cellOk : ∀ x, env.scope.names.lookup x = some .cell → ∃ cc v₀, env.cells.lookup x = some cc ∧ h.IsCell cc v₀
/-- what lies between two states of one frame -/
structure Step (S : Sys) (Z : Addr → Prop) (s s' : Shared) : Prop where
  keep : ∀ a o, ¬ Z a → s.heap.get? a = some o → notTbl o = true → s'.heap.get? a = some o
  here : ∀ a o, s.heap.get? a = some o → ∃ o', s'.heap.get? a = some o'
  gens : GensKeep s.gens s'.gens
  inv : Inv S s'
theorem Step.refl {S Z s} (I : Inv S s) : Step S Z s s := ⟨fun _ _ _ e _ => e, fun _ o e => ⟨o, e⟩, .refl _, I⟩
theorem Step.trans {S : Sys} {Z Z' s s' s''} (x : Step S Z s s') (y : Step S Z' s' s'') (k : ∀ a, Z' a → Z a ∨ s.heap.get? a = .none) : Step S Z s s'' where
  keep := fun a o z e q => y.keep a o (fun z' => (k a z').elim z fun h => by rw [h] at e; cases e) (x.keep a o z e q) q
  here := fun a o e => let ⟨o', e'⟩ := x.here a o e; y.here a o' e'
  gens := x.gens.trans y.gens
  inv := y.inv
theorem Later.step {S : Sys} {Z : Addr → Prop} {s s' : Shared} (L : Later S s s') : Step S Z s s' := ⟨fun a o _ e q => L.keep.get a o e q, L.keep.here, L.gens, L.inv⟩
theorem Step.none {S : Sys} {Z : Addr → Prop} {s s' : Shared} (L : Step S Z s s') {a : Addr} (e : s'.heap.get? a = .none) : s.heap.get? a = .none := by
  cases q : s.heap.get? a with
  | none => rfl
  | some o => obtain ⟨o', e'⟩ := L.here a o q; rw [e] at e'; cases e'
inductive Out where
  | next (ρ : Rho) (ow : Own)
  | ret (a : AV)
def Post (S : Sys) (env : Env) (Y : Addr → Prop) (h₀ : Heap) (Z M : Addr → Prop) (s : Shared) (o : Out) (Q : Flow → Shared → Prop) : Prop := match o with
  | .next ρ ow => ∀ Z' M' s', FrameS S Y h₀ Z' M' env s'.heap ρ ow → (∀ a, Z' a → Z a ∨ s.heap.get? a = .none) → (∀ a, M' a → M a ∨ s.heap.get? a = .none) → (∀ a, Z a → ¬ M a → (∃ o, s.heap.get? a = some o) → Z' a) → Step S M s s' → Q .next s'
  | .ret a => ∀ v s', Keep S h₀ s'.heap → Step S M s s' → Val Y s'.heap v a → Q (.ret v) s'
def Ex (S : Sys) (n : Nat) (sc : Scope) (c : Addr) (ρ : Rho) (ow : Own) (ss : List Stmt) (o : Out) : Prop :=
  ∀ A env Y h₀ Z M s (Q : Flow → Shared → Prop) (E : Value → Shared → Prop), Room n A → EnvIs env sc c → FrameS S Y h₀ Z M env s.heap ρ ow → Inv S s →
    Post S env Y h₀ Z M s o Q → wpAny (model S.prog S.w) A (execs ss env) Q E s
variable {S : Sys} {n : Nat} {sc : Scope} {c : Addr} {ρ : Rho} {ow : Own}
theorem OwnAt.keep {h₀ h h' : Heap} {Z M env ow} (k : Keep S h h') (x : OwnAt S h₀ Z M env h ow) : OwnAt S h₀ Z M env h' ow := by
  cases ow with
  | no => exact trivial
  | lst y l => obtain ⟨d, vs, kk, r, z, hd, hl, hc, g, v⟩ := x; exact ⟨d, vs, kk, r.keep k, z, hd, hl, hc, k.get _ _ g rfl, v.keep k⟩
  | ins y C fs => obtain ⟨d, dd, m, f, r, z, zz, hd, hd2, hl, hl2, hc, g, hm, a1, a2, a3⟩ := x; exact ⟨d, dd, m, f, r.keep k, z, zz, hd, hd2, hl, hl2, hc, k.get _ _ g rfl, hm.keep k, a1, a2, fun q y e => (a3 q y e).keep k⟩
theorem FrameS.keep {Y h₀ Z M env h h' ρ ow} (k : Keep S h h') (F : FrameS S Y h₀ Z M env h ρ ow) : FrameS S Y h₀ Z M env h' ρ ow where
  mz := F.mz
  ml := F.ml
  mc := F.mc
  F := F.F.keep k
  own := F.own.keep k
  sub := F.sub
  yb := F.yb
  k0 := F.k0.trans k
  newL := F.newL
  newC := F.newC
  apart := F.apart
  start := F.start
  cellOk := fun x hx => let ⟨cc, v, a, b⟩ := F.cellOk x hx; ⟨cc, v, a, IsCell.keep k b⟩
theorem FrameS.sub' {Y h₀ Z M env h ρ ρ' ow} (F : FrameS S Y h₀ Z M env h ρ ow) (k : ∀ x a, ρ'.lookup x = some a → ρ.lookup x = some a) : FrameS S Y h₀ Z M env h ρ' ow :=
  ⟨F.F.sub k, F.own, F.mz, F.ml, F.mc, F.sub, F.yb, F.k0, F.newL, F.newC, F.apart, F.start, F.cellOk⟩
theorem Post.trans {env Y h₀ Z Z' M M' s s' o Q} (p : Post S env Y h₀ Z M s o Q) (st : Step S M s s') (k : ∀ a, Z' a → Z a ∨ s.heap.get? a = .none) (k2 : ∀ a, M' a → M a ∨ s.heap.get? a = .none)
    (k3 : ∀ a, Z a → ¬ M a → (∃ o, s.heap.get? a = some o) → Z' a) : Post S env Y h₀ Z' M' s' o Q := by
  cases o with
  | next ρ ow =>
    intro Z'' M'' s'' F q q2 q3 st2
    refine p Z'' M'' s'' F (fun a z => (q a z).elim (k a) fun h => .inr (st.none h)) (fun a z => (q2 a z).elim (k2 a) fun h => .inr (st.none h)) (fun a z m e => ?_) (st.trans st2 k2)
    obtain ⟨o, e⟩ := e
    exact q3 a (k3 a z m ⟨o, e⟩) (fun m' => (k2 a m').elim m fun h => by rw [h] at e; cases e) (st.here a o e)
  | ret a => exact fun v s'' k0 st2 hv => p v s'' k0 (st.trans st2 k2) hv
theorem Ex.nil : Ex S n sc c ρ ow [] (.next ρ ow) := fun A env Y h₀ Z M s Q E R e F I p => wpAny_execs_nil (p Z M s F (fun _ z => .inl z) (fun _ z => .inl z) (fun _ z _ _ => z) (Step.refl I))
/-- one statement -/
def St (S : Sys) (n : Nat) (sc : Scope) (c : Addr) (ρ : Rho) (ow : Own) (st : Stmt) (o : Out) : Prop :=
  ∀ A env Y h₀ Z M s (Q : Flow → Shared → Prop) (E : Value → Shared → Prop), Room n A → EnvIs env sc c → FrameS S Y h₀ Z M env s.heap ρ ow → Inv S s →
    Post S env Y h₀ Z M s o Q → wpAny (model S.prog S.w) A (exec st env) Q E s
theorem Ex.step {st rest ρ' ow' o} (h1 : St S n sc c ρ ow st (.next ρ' ow')) (h2 : Ex S n sc c ρ' ow' rest o) : Ex S n sc c ρ ow (st :: rest) o :=
  fun A env Y h₀ Z M s Q E R e F I p => wpAny_execs_cons (h1 A env Y h₀ Z M s _ E R e F I fun Z' M' s' F' k k2 k3 st => h2 A env Y h₀ Z' M' s' Q E R e F' st.inv (p.trans st k k2 k3))
theorem Ex.stop {st rest a} (h1 : St S n sc c ρ ow st (.ret a)) : Ex S n sc c ρ ow (st :: rest) (.ret a) :=
  fun A env Y h₀ Z M s Q E R e F I p => wpAny_execs_cons (h1 A env Y h₀ Z M s _ E R e F I fun v s' k st hv => p v s' k st hv)
theorem lookup_cons_some {ρ : Rho} {x y : Str} {a b : AV} (e : ((x, a) :: ρ).lookup y = some b) : (y = x ∧ b = a) ∨ (y ≠ x ∧ ρ.lookup y = some b) := by
  rw [List.lookup_cons] at e
  cases h : y == x with
  | true => rw [h] at e; exact .inl ⟨beq_iff_eq.mp h, (Option.some.inj e).symm⟩
  | false => rw [h] at e; exact .inr ⟨fun q => (beq_eq_false_iff_ne.mp h) q, e⟩
theorem hereS {h h' : Heap} {a : Addr} (hs : Heap.SameBut a h h') (ha : ∃ o, h'.get? a = some o) (b : Addr) (e : ∃ o, h.get? b = some o) : ∃ o, h'.get? b = some o := by
  by_cases q : b = a
  · rw [q]; exact ha
  · rw [hs.2 b q]; exact e
/-- a store to a name of the frame's own -/
theorem store {A : Around} {env : Env} {Y : Addr → Prop} {h₀ : Heap} {Z M : Addr → Prop} {s : Shared} {x : Str} {v : Value} {a : AV} {Q : Unit → Shared → Prop} {E : Value → Shared → Prop}
    (e : EnvIs env sc c) (F : FrameS S Y h₀ Z M env s.heap ρ ow) (I : Inv S s) (hv : Val Z s.heap v a)
    (hk : sc.names.lookup x = some .local ∨ sc.names.lookup x = some .cell) (hne : ow.name? ≠ some x)
    (h : ∀ s', FrameS S Y h₀ Z M env s'.heap ((x, a) :: ρ) ow → Step S M s s' → (∀ b o, b ≠ env.locals → (∀ v, o.data ≠ .cell v) → s.heap.get? b = some o → s'.heap.get? b = some o) → (∀ b o, ¬ M b → s.heap.get? b = some o → s'.heap.get? b = some o) → Q () s') : wpAny (model S.prog S.w) A (storeName env x v) Q E s := by
  have hkind : env.scope.kind = .function := e.scope ▸ e.kind
  rcases hk with hl | hl
  · have hl' : env.kindOf x = some .local := by show env.scope.names.lookup x = _; rw [e.scope]; exact hl
    obtain ⟨m, hm⟩ := F.F.ns
    refine wpAny_storeName_local hl' hm (fun h' hn hs => ?_) (by rw [hkind]; rfl)
    have sm' : ∀ b o, ¬ M b → s.heap.get? b = some o → h'.get? b = some o := fun b o z e' => (hs.2 b (fun q => z (q ▸ F.ml))).trans e'
    have sm : ∀ b o, ¬ Z b → s.heap.get? b = some o → h'.get? b = some o := fun b o z e' => sm' b o (fun m => z (F.mz _ m)) e'
    have hne' : ∀ y u, y ≠ x → Res env s.heap y u → Res env h' y u := by
      intro y u hy r
      rcases r with ⟨r1, m1, r2, r3⟩ | ⟨r1, c1, r2, r3⟩
      · refine .inl ⟨r1, _, hn, ?_⟩
        show (if y = x then some v else m y) = some u
        rw [if_neg hy]
        obtain ⟨o1, es1, ep1, g1, d1, k1, f1⟩ := r2
        obtain ⟨o2, es2, ep2, g2, d2, k2, f2⟩ := hm
        rw [g1] at g2; cases g2; rw [d1] at d2; cases d2
        rw [← f2, f1, r3]
      · refine .inr ⟨r1, c1, r2, r3.sameBut hs fun q => ?_⟩
        obtain ⟨oc, hoc, hd⟩ := r3
        obtain ⟨oL, esL, epL, hoL, hdL, _⟩ := hm
        rw [q, hoL] at hoc; cases hoc; rw [hdL] at hd; cases hd
    refine h _ ⟨⟨fun b z => ?_, F.F.zl, F.F.zc, ⟨_, hn⟩, fun y b hy => ?_⟩, ?_, F.mz, F.ml, F.mc, F.sub, F.yb, F.k0.new F.newL hs, F.newL, F.newC, F.apart, F.start, ?_⟩ ?_ (fun b o hb _ e' => (hs.2 b hb).trans e') sm'
    · exact ⟨(F.F.zb b z).1, hereS hs (let ⟨oL, _, _, hoL, _⟩ := hn; ⟨oL, hoL⟩) b (F.F.zb b z).2⟩
    · rcases lookup_cons_some hy with ⟨rfl, rfl⟩ | ⟨hyx, hy'⟩
      · exact ⟨v, .inl ⟨hl', _, hn, by simp⟩, hv.same fun b o z _ e => sm b o z e⟩
      · obtain ⟨u, r, hu⟩ := F.F.res y b hy'
        exact ⟨u, hne' y u hyx r, hu.same fun b o z _ e => sm b o z e⟩
    · have ho := F.own
      cases ow with
      | no => exact trivial
      | lst z l =>
        obtain ⟨d, vs, kk, r, zd, hd, hdl, hcl, g, vv⟩ := ho
        exact ⟨d, vs, kk, hne' z _ (fun q => hne (by rw [← q]; rfl)) r, zd, hd, hdl, hcl, (hs.2 d hdl).trans g, vv.same fun b o z _ e => sm b o z e⟩
      | ins z C fs =>
        obtain ⟨d, dd, m1, f, r, zd, zdd, hd, hd2, hdl, hddl, hcl, g, hm1, a1, a2, a3⟩ := ho
        refine ⟨d, dd, m1, f, hne' z _ (fun q => hne (by rw [← q]; rfl)) r, zd, zdd, hd, hd2, hdl, hddl, hcl, (hs.2 d hdl).trans g, ?_, a1, a2, fun k y e' => (a3 k y e').same fun b o z _ e => sm b o z e⟩
        obtain ⟨es, nn, g1, r1⟩ := hm1
        exact ⟨es, nn, (hs.2 dd hddl).trans g1, r1⟩
    · intro y hy
      obtain ⟨c1, v1, r2, r3⟩ := F.cellOk y hy
      refine ⟨c1, v1, r2, r3.sameBut hs fun q => ?_⟩
      obtain ⟨oc, hoc, hd⟩ := r3
      obtain ⟨oL, esL, epL, hoL, hdL, _⟩ := hm
      rw [q, hoL] at hoc; cases hoc; rw [hdL] at hd; cases hd
    · exact ⟨fun b o z e' _ => sm' b o z e', fun b o e' => hereS hs (let ⟨oL, _, _, hoL, _⟩ := hn; ⟨oL, hoL⟩) b ⟨o, e'⟩, .refl _, I.new (F.F.zb _ F.F.zl).1 hs⟩
  · have hl' : env.kindOf x = some .cell := by show env.scope.names.lookup x = _; rw [e.scope]; exact hl
    obtain ⟨m, hm⟩ := F.F.ns
    obtain ⟨cc, v₀, hcc, hcell⟩ := F.cellOk x hl'
    obtain ⟨oc, hoc, hocd⟩ := id hcell
    refine wpAny_storeName_cell hkind hl' hcc hcell fun h' hc' hs => ?_
    have zc := F.F.zc x cc hcc
    have sm' : ∀ b o, ¬ M b → s.heap.get? b = some o → h'.get? b = some o := fun b o z e' => (hs.2 b (fun q => z (q ▸ F.mc x cc hcc))).trans e'
    have sm : ∀ b o, ¬ Z b → s.heap.get? b = some o → h'.get? b = some o := fun b o z e' => sm' b o (fun m => z (F.mz _ m)) e'
    have hLc : env.locals ≠ cc := fun q => by
      obtain ⟨oL, esL, epL, hoL, hdL, _⟩ := hm
      rw [q, hoc] at hoL; cases hoL; rw [hocd] at hdL; cases hdL
    have hn := hm.sameBut hs hLc
    have hne' : ∀ y u, y ≠ x → Res env s.heap y u → Res env h' y u := by
      intro y u hy r
      rcases r with ⟨r1, m1, r2, r3⟩ | ⟨r1, c1, r2, r3⟩
      · exact .inl ⟨r1, m1, r2.sameBut hs hLc, r3⟩
      · exact .inr ⟨r1, c1, r2, r3.sameBut hs fun q => hy (name_of_addr F.apart (mem_of_lookup r2) (q ▸ mem_of_lookup hcc))⟩
    have hsh : ∀ b o, s.heap.get? b = some o → (∀ v, o.data ≠ .cell v) → h'.get? b = some o := fun b o g q => (hs.2 b (fun q' => by rw [q', hoc] at g; cases g; exact q _ hocd)).trans g
    refine h _ ⟨⟨fun b z => ?_, F.F.zl, F.F.zc, ⟨_, hn⟩, fun y b hy => ?_⟩, ?_, F.mz, F.ml, F.mc, F.sub, F.yb, F.k0.new (F.newC x cc hcc) hs, F.newL, F.newC, F.apart, F.start, ?_⟩ ?_ (fun b o _ hd e' => hsh b o e' hd) sm'
    · exact ⟨(F.F.zb b z).1, hereS hs (let ⟨oL, hoL, _⟩ := hc'; ⟨oL, hoL⟩) b (F.F.zb b z).2⟩
    · rcases lookup_cons_some hy with ⟨rfl, rfl⟩ | ⟨hyx, hy'⟩
      · exact ⟨v, .inr ⟨.inl hl', cc, hcc, hc'⟩, hv.same fun b o z _ e => sm b o z e⟩
      · obtain ⟨u, r, hu⟩ := F.F.res y b hy'
        exact ⟨u, hne' y u hyx r, hu.same fun b o z _ e => sm b o z e⟩
    · have ho := F.own
      cases ow with
      | no => exact trivial
      | lst z l =>
        obtain ⟨d, vs, kk, r, zd, hd, hdl, hcl, g, vv⟩ := ho
        exact ⟨d, vs, kk, hne' z _ (fun q => hne (by rw [← q]; rfl)) r, zd, hd, hdl, hcl, hsh _ _ g (by intro v q; cases q), vv.same fun b o z _ e => sm b o z e⟩
      | ins z C fs =>
        obtain ⟨d, dd, m1, f, r, zd, zdd, hd, hd2, hdl, hddl, hcl, g, hm1, a1, a2, a3⟩ := ho
        refine ⟨d, dd, m1, f, hne' z _ (fun q => hne (by rw [← q]; rfl)) r, zd, zdd, hd, hd2, hdl, hddl, hcl, hsh _ _ g (by intro v q; cases q), ?_, a1, a2, fun k y e' => (a3 k y e').same fun b o z _ e => sm b o z e⟩
        obtain ⟨es, nn, g1, r1⟩ := hm1
        exact ⟨es, nn, hsh _ _ g1 (by intro v q; cases q), r1⟩
    · intro y hy
      by_cases hyx : y = x
      · rw [hyx]; exact ⟨cc, some v, hcc, hc'⟩
      · obtain ⟨c1, v1, r2, r3⟩ := F.cellOk y hy
        exact ⟨c1, v1, r2, r3.sameBut hs fun q => hyx (name_of_addr F.apart (mem_of_lookup r2) (q ▸ mem_of_lookup hcc))⟩
    · exact ⟨fun b o z e' _ => sm' b o z e', fun b o e' => hereS hs (let ⟨oL, hoL, _⟩ := hc'; ⟨oL, hoL⟩) b ⟨o, e'⟩, .refl _, I.new (F.F.zb _ zc).1 hs⟩
end
section
open PySem PySem.Spec PySem.Calls PyProof.Rows PySem.W
variable {S : Sys} {n : Nat} {sc : Scope} {c : Addr} {ρ : Rho} {ow : Own}
abbrev Stores (sc : Scope) (x : Str) : Prop := sc.names.lookup x = some .local ∨ sc.names.lookup x = some .cell
theorem St.assign {x pos' e pos a} (h : Ev S n sc c ρ e a) (hk : Stores sc x) (hne : ow.name? ≠ some x)
    (hs : ∀ env : Env, env.scope = sc → swapsWith e (some (.Name x pos')) pos.line env = pure false) : St S n sc c ρ ow (.Assign [.Name x pos'] e pos) (.next ((x, a) :: ρ) ow) :=
  fun A env Y h₀ Z M s Q E R ei F I p => wpAny_Assign_Name (h A env Z s R ei F.F I _ _ fun v s1 L1 v1 =>
    store ei (F.keep L1.keep) L1.inv v1 hk hne fun s2 F2 st2 _ _ => p Z M s2 F2 (fun _ z => .inl z) (fun _ z => .inl z) (fun _ z _ _ => z) (L1.step.trans st2 fun _ z => .inl z)) (hs env ei.scope)
theorem cellNe {Y h₀ Z M env h ρ ow} (F : FrameS S Y h₀ Z M env h ρ ow) {d : Addr} (e : h.get? d = .none) : ∀ y cc, env.cells.lookup y = some cc → cc ≠ d := fun y cc hc q => by
  obtain ⟨o, ho⟩ := (F.F.zb _ (F.F.zc y cc hc)).2
  rw [q, e] at ho; cases ho
theorem locNe {Y h₀ Z M env h ρ ow} (F : FrameS S Y h₀ Z M env h ρ ow) {d : Addr} (e : h.get? d = .none) : d ≠ env.locals := fun q => by
  obtain ⟨o, ho⟩ := (F.F.zb _ F.F.zl).2
  rw [← q, e] at ho; cases ho
/-- shut out more places that are new -/
theorem FrameS.widen {Y h₀ Z M env ρ} {s s1 : Shared} {D D' : Addr → Prop} (F : FrameS S Y h₀ Z M env s.heap ρ ow) (L1 : Later S s s1) (hd : ∀ a, D a → s.heap.get? a = .none) (hd1 : ∀ a, D a → ∃ o, s1.heap.get? a = some o) (hD : ∀ a, D' a → D a) :
    FrameS S Y h₀ (fun a => Z a ∨ D a) (fun a => M a ∨ D' a) env s1.heap ρ ow := by
  have K := F.keep L1.keep
  have vm : ∀ {v a}, Val Z s.heap v a → Val (fun a => Z a ∨ D a) s1.heap v a := fun hv => (hv.more fun b' z => z.elim .inl fun q => .inr (hd _ q)).keep L1.keep
  refine ⟨⟨fun a z => ?_, .inl F.F.zl, fun y cc e => .inl (F.F.zc y cc e), K.F.ns, fun y b e => ?_⟩, ?_, fun a z => z.elim (fun q => .inl (F.mz a q)) fun q => .inr (hD a q), .inl F.ml, fun y cc e => .inl (F.mc y cc e), fun a y => .inl (F.sub a y), F.yb, K.k0, F.newL, F.newC, F.apart, F.start, K.cellOk⟩
  · rcases z with z | z
    · exact K.F.zb a z
    · exact ⟨F.start.none (F.k0.none (hd a z)), hd1 a z⟩
  · obtain ⟨v, r, hv'⟩ := F.F.res y b e
    exact ⟨v, r.keep L1.keep, vm hv'⟩
  · have ho := F.own
    cases ow with
    | no => exact trivial
    | lst y l => obtain ⟨d, vs, kk, r, z, hd, hl, hc, g, v⟩ := ho; exact ⟨d, vs, kk, r.keep L1.keep, .inl z, hd, hl, hc, L1.keep.get _ _ g rfl, v.1, fun i u x e e' => vm (v.2 i u x e e')⟩
    | ins y C fs => obtain ⟨d, dd, m, f, r, z, zz, hd, hd2, hl, hl2, hc, g, hm, a1, a2, a3⟩ := ho; exact ⟨d, dd, m, f, r.keep L1.keep, .inl z, .inl zz, hd, hd2, hl, hl2, hc, L1.keep.get _ _ g rfl, hm.keep L1.keep, a1, a2, fun q y e => vm (a3 q y e)⟩
theorem base_lookup {ρ : Rho} {x : Str} {u : AV} (hx : ρ.lookup x = .none) : ∀ y b, ρ.lookup y = some b → ((x, u) :: ρ).lookup y = some b := fun y b e => by
  rw [List.lookup_cons]
  cases q : y == x with
  | true => rw [beq_iff_eq.mp q, hx] at e; cases e
  | false => exact e
/-- a fresh list under a name: owned -/
theorem own_store {A : Around} {env : Env} {Y : Addr → Prop} {h₀ : Heap} {Z M : Addr → Prop} {s s1 : Shared} {x : Str} {d : Addr} {vs : List Value} {k : Nat} {as : List AV} {Q : Unit → Shared → Prop} {E : Value → Shared → Prop}
    (ei : EnvIs env sc c) (F : FrameS S Y h₀ Z M env s.heap ρ .no) (L1 : Later S s s1) (hd : s.heap.get? d = .none) (hg : s1.heap.get? d = some (lstO vs k)) (hv : Vals (fun a => Z a ∨ a = d) s1.heap vs as)
    (hk : Stores sc x) (hx : ρ.lookup x = .none)
    (h : ∀ s', FrameS S Y h₀ (fun a => Z a ∨ a = d) (fun a => M a ∨ a = d) env s'.heap ρ (.lst x as) → Step S M s s' → Q () s') : wpAny (model S.prog S.w) A (storeName env x (.ref d)) Q E s1 := by
  have dl := locNe F hd
  have dc := cellNe F hd
  have F1 := F.widen (D := fun a => a = d) (D' := fun a => False) L1 (fun a q => q ▸ hd) (fun a q => q ▸ ⟨_, hg⟩) (fun a q => q.elim)
  refine store ei F1 L1.inv (.val (.ref d)) hk (by intro q; cases q) fun s' F' st' hk' sm => ?_
  have F2 := F'.sub' (base_lookup hx)
  obtain ⟨v, r, hv'⟩ := F'.F.res x (.val (.ref d)) (by rw [List.lookup_cons, beq_self_eq_true])
  cases hv'
  refine h s' ⟨F2.F, ?_, fun a z => z.elim (fun q => F2.mz a (.inl q)) .inr, .inl F.ml, fun y cc e => .inl (F.mc y cc e), F2.sub, F2.yb, F2.k0, F2.newL, F2.newC, F2.apart, F2.start, F2.cellOk⟩ (L1.step.trans st' fun a z => z.elim .inl fun q => q.elim)
  exact ⟨d, vs, k, r, .inr rfl, F.k0.none hd, dl, dc, hk' d _ dl (by intro v q; cases q) hg, hv.same fun b o z _ e' => sm b o (fun m => z (m.elim (fun q => .inl (F.mz b q)) fun q => q.elim)) e'⟩
theorem St.assignF {x pos' e pos as} (h : EvF S n sc c ρ e as) (hk : Stores sc x) (hx : ρ.lookup x = .none)
    (hs : ∀ env : Env, env.scope = sc → swapsWith e (some (.Name x pos')) pos.line env = pure false) : St S n sc c ρ .no (.Assign [.Name x pos'] e pos) (.next ρ (.lst x as)) :=
  fun A env Y h₀ Z M s Q E R ei F I p => wpAny_Assign_Name (h A env Z s R ei F.F I _ _ fun d vs k s1 L1 hd hg hv =>
    own_store ei F L1 hd hg hv hk hx fun s' F' st => p _ _ s' F' (fun a z => z.elim .inl fun q => .inr (q ▸ hd)) (fun a z => z.elim .inl fun q => .inr (q ▸ hd)) (fun _ z _ _ => .inl z) st) (hs env ei.scope)
/-- from now on the owned list does not change -/
theorem Ex.freeze {x l ss o} (hl : l.length ≤ 1000) (h : Ex S n sc c ((x, .lst l) :: ρ) .no ss o) : Ex S n sc c ρ (.lst x l) ss o :=
  fun A env Y h₀ Z M s Q E R ei F I p => by
    obtain ⟨d, vs, kk, r, zm, hd, hdl, hc, g, v⟩ := F.own
    have kz : ∀ a, (Z a ∧ a ≠ d) → Z a := fun a z => z.1
    refine h A env Y h₀ (fun a => Z a ∧ a ≠ d) (fun a => M a ∧ a ≠ d) s Q E R ei ?_ I (p.trans (Step.refl I) (fun a z => .inl z.1) (fun a z => .inl z.1) fun a z m _ => ⟨z, fun q => m (q ▸ zm)⟩)
    refine ⟨⟨fun a z => F.F.zb a z.1, ⟨F.F.zl, fun q => hdl q.symm⟩, fun y cc e => ⟨F.F.zc y cc e, hc y cc e⟩, F.F.ns, fun y b e => ?_⟩, trivial, fun a z => ⟨F.mz a z.1, z.2⟩, ⟨F.ml, fun q => hdl q.symm⟩, fun y cc e => ⟨F.mc y cc e, hc y cc e⟩, fun a y => ⟨F.sub a y, fun q => ?_⟩, F.yb, F.k0, F.newL, F.newC, F.apart, F.start, F.cellOk⟩
    · rcases lookup_cons_some e with ⟨rfl, rfl⟩ | ⟨_, e'⟩
      · exact ⟨_, r, .lst (fun q => q.2 rfl) g v.1 (v.1 ▸ hl) fun i u a e1 e2 => (v.2 i u a e1 e2).anti kz⟩
      · obtain ⟨u, r', hu⟩ := F.F.res y b e'
        exact ⟨u, r', hu.anti kz⟩
    · obtain ⟨o, ho⟩ := F.yb a y
      rw [q, hd] at ho; cases ho
theorem St.ret {e pos a} (h : Ev S n sc c ρ e a) : St S n sc c ρ ow (.Return (some e) pos) (.ret a) :=
  fun A env Y h₀ Z M s Q E R ei F I p => wpAny_Return_some (h A env Z s R ei F.F I _ _ fun v s1 L1 v1 => p v s1 (F.k0.trans L1.keep) L1.step (v1.anti F.sub))
theorem St.if_t {t b e pos o} (h1 : EvT S n sc c ρ t true) (h2 : Ex S n sc c ρ ow b o) : St S n sc c ρ ow (.If t b e pos) o :=
  fun A env Y h₀ Z M s Q E R ei F I p => wpAny_If (h1 A env Z s R ei F.F I _ _ fun s1 L1 => by
    simp only [if_true]
    exact h2 A env Y h₀ Z M s1 Q E R ei (F.keep L1.keep) L1.inv (p.trans L1.step (fun _ z => .inl z) (fun _ z => .inl z) fun _ z _ _ => z))
theorem St.if_f {t b e pos o} (h1 : EvT S n sc c ρ t false) (h2 : Ex S n sc c ρ ow e o) : St S n sc c ρ ow (.If t b e pos) o :=
  fun A env Y h₀ Z M s Q E R ei F I p => wpAny_If (h1 A env Z s R ei F.F I _ _ fun s1 L1 => by
    simp only [Bool.false_eq_true, if_false]
    exact h2 A env Y h₀ Z M s1 Q E R ei (F.keep L1.keep) L1.inv (p.trans L1.step (fun _ z => .inl z) (fun _ z => .inl z) fun _ z _ _ => z))
theorem St.assert {t m pos} (h1 : EvT S n sc c ρ t true) : St S n sc c ρ ow (.Assert t m pos) (.next ρ ow) :=
  fun A env Y h₀ Z M s Q E R ei F I p => wpAny_Assert_holds (h1 A env Z s R ei F.F I _ _ fun s1 L1 =>
    ⟨rfl, p Z M s1 (F.keep L1.keep) (fun _ z => .inl z) (fun _ z => .inl z) (fun _ z _ _ => z) L1.step⟩)
/-! loops -/
structure IterOk (S : Sys) (Z : Addr → Prop) (s s' : Shared) (it : Value) (as : List AV) (I : Addr) (fp wr : List Addr) (P : Nat → Value → Prop) (St : Nat → Heap → Prop) : Prop where
  it : it = .ref I
  walks : ∀ A' : Around, A'.handled = none → Walks S.prog S.w A' I fp wr as.length P St
  st : St 0 s'.heap
  there : ∀ i h, St i h → ∀ b ∈ fp, ∃ o, h.get? b = some o ∧ notTbl o = true
  apart : ∀ b ∈ fp, ¬ Z b
  new : ∀ b ∈ wr, s.heap.get? b = .none
  val : ∀ (i : Nat) v a, P i v → as[i]? = some a → Val (fun b => Z b ∨ b ∈ wr) s'.heap v a
/-- the source of a loop -/
def EvI (S : Sys) (n : Nat) (sc : Scope) (c : Addr) (ρ : Rho) (e : Expr) (as : List AV) : Prop :=
  ∀ A env Z s (Q : Value → Shared → Prop) (E : Value → Shared → Prop), Room n A → EnvIs env sc c → Frame S Z env s.heap ρ → Inv S s →
    (∀ it s' I fp wr P St, Later S s s' → IterOk S Z s s' it as I fp wr P St → Q it s') →
    wpAny (model S.prog S.w) A (eval e env) (fun x s₁ => wpAny (model S.prog S.w) A (pyIter x) Q E s₁) E s
theorem list_sub {Z : Addr → Prop} {h : Heap} {v as} (x : Val Z h v (.lst as)) : ∃ a vs k, v = .ref a ∧ ¬ Z a ∧ h.get? a = some (lstO vs k) ∧ Vals Z h vs as ∧ as.length ≤ 1000 := by
  cases x with
  | lst hz hg hl hb hv => exact ⟨_, _, _, rfl, hz, hg, ⟨hl, hv⟩, hl ▸ hb⟩
theorem EvI.lst {e as} (h : Ev S n sc c ρ e (.lst as)) : EvI S n sc c ρ e as :=
  fun A env Z s Q E R ei F I p => h A env Z s R ei F I _ _ fun v s1 L1 v1 => by
    obtain ⟨a, vs, k, rfl, hz, hg, hv, hb⟩ := list_sub v1
    have hl : s1.heap.IsList a vs.toArray := ⟨_, hg, rfl, k, rfl⟩
    refine wpAny_pyIter_list hl ?_
    have ne : a ≠ s1.heap.objs.size := Nat.ne_of_lt (Heap.lt_size hg)
    have L2 := Later.grow (t := s1.toks) L1.inv (h' := s1.heap.push { cls := .type "list_iterator", data := .fields #[.ref a, .int 0 0] }) fun _ _ e => Heap.get?_push_of_some _ e
    refine p _ _ s1.heap.objs.size [s1.heap.objs.size, a] [s1.heap.objs.size] (fun i v => vs.toArray[i]? = some v) (fun i h => h.IsListIter s1.heap.objs.size a i ∧ h.IsList a vs.toArray) (L1.trans L2) ⟨rfl, fun A' hA => by
      have W := Walks.list (prog := S.prog) (w := S.w) hA s1.heap.objs.size a ne vs.toArray
      have e1 : vs.toArray.size = as.length := by simp [hv.1]
      rw [e1] at W; exact W, ⟨⟨_, Heap.get?_push_size _ rfl, rfl, rfl⟩, hl.push _⟩, ?_, ?_, ?_, ?_⟩
    · rintro i h ⟨⟨o, ho, hc, _⟩, o2, ho2, hc2, _⟩ b hb
      rcases List.mem_cons.mp hb with rfl | hb
      · exact ⟨o, ho, by unfold notTbl; rw [hc]⟩
      · rcases List.mem_cons.mp hb with rfl | hb
        · exact ⟨o2, ho2, by unfold notTbl; rw [hc2]⟩
        · cases hb
    · intro b hb
      rcases List.mem_cons.mp hb with rfl | hb
      · exact (F.keep L1.keep).bd.not (fresh _)
      · rcases List.mem_cons.mp hb with rfl | hb
        · exact hz
        · cases hb
    · intro b hb
      rw [List.mem_singleton.mp hb]; exact L1.keep.none (fresh _)
    · intro i v a' hP ha
      refine ((hv.2 i v a' (by simpa using hP) ha).more fun b z => ?_).keep L2.keep
      exact z.elim .inl fun q => .inr (by rw [List.mem_singleton.mp q]; exact fresh _)
/-- a step of an iterator, which turns its own places alone -/
theorem FrameS.turn {Y h₀ Z M env ρ ow} {s : Shared} {h' : Heap} {wr : List Addr} (Z' : Addr → Prop) (F : FrameS S Y h₀ Z M env s.heap ρ ow) (hk : ∀ b o, b ∉ wr → s.heap.get? b = some o → h'.get? b = some o)
    (hz : ∀ a, Z' a → Z a) (hz' : ∀ a, Z a → a ∉ wr → Z' a) (hb : ∀ b ∈ wr, Z' b → ∃ o, h'.get? b = some o)
    (hw : ∀ b ∈ wr, h₀.get? b = .none ∧ Z b ∧ ¬ M b) : FrameS S Y h₀ Z' M env h' ρ ow := by
  have sm : ∀ b o, ¬ Z b → notTbl o = true → s.heap.get? b = some o → h'.get? b = some o := fun b o z _ e => hk b o (fun q => z (hw b q).2.1) e
  have mk : ∀ b o, M b → s.heap.get? b = some o → h'.get? b = some o := fun b o z e => hk b o (fun q => (hw b q).2.2 z) e
  have vk : ∀ {v a}, Val Z s.heap v a → Val Z' h' v a := fun hv => (hv.same sm).anti hz
  have mw : ∀ a, M a → Z' a := fun a m => hz' a (F.mz a m) fun q => (hw a q).2.2 m
  have rk : ∀ x v, Res env s.heap x v → Res env h' x v := fun x v r => by
    rcases r with ⟨r1, m1, r2, r3⟩ | ⟨r1, c1, r2, o, r3, r4⟩
    · exact .inl ⟨r1, m1, r2.at' fun o e => mk _ o F.ml e, r3⟩
    · exact .inr ⟨r1, c1, r2, o, mk _ _ (F.mc x c1 r2) r3, r4⟩
  refine ⟨⟨fun a z => ⟨(F.F.zb a (hz a z)).1, ?_⟩, mw _ F.ml, fun x cc e => mw _ (F.mc x cc e), ?_, fun x a e => ?_⟩, ?_, mw, F.ml, F.mc, fun a y => hz' a (F.sub a y) (fun q => ?_), F.yb, ⟨fun a o e q => ?_, fun a ps e => ?_, fun a o e => ?_⟩, F.newL, F.newC, F.apart, F.start, fun x hx => ?_⟩
  · obtain ⟨o, e⟩ := (F.F.zb a (hz a z)).2
    by_cases q : a ∈ wr
    · exact hb a q z
    · exact ⟨o, hk a o q e⟩
  · obtain ⟨m, hm⟩ := F.F.ns
    exact ⟨m, hm.at' fun o e => mk _ o F.ml e⟩
  · obtain ⟨v, r, hv⟩ := F.F.res x a e
    exact ⟨v, rk x v r, vk hv⟩
  · have ho := F.own
    cases ow with
    | no => exact trivial
    | lst y l => obtain ⟨d, vs, kk, r, z, hd, hl, hc, g, v⟩ := ho; exact ⟨d, vs, kk, rk _ _ r, z, hd, hl, hc, mk _ _ z g, v.1, fun i u x e e' => vk (v.2 i u x e e')⟩
    | ins y C fs => obtain ⟨d, dd, m, f, r, z, zz, hd, hd2, hl, hl2, hc, g, ⟨es, nn, g2, r2⟩, a1, a2, a3⟩ := ho; exact ⟨d, dd, m, f, rk _ _ r, z, zz, hd, hd2, hl, hl2, hc, mk _ _ z g, ⟨es, nn, mk _ _ zz g2, r2⟩, a1, a2, fun q y e => vk (a3 q y e)⟩
  · obtain ⟨o, e⟩ := F.yb a y
    rw [(hw a q).1] at e; cases e
  · exact hk a o (fun m => by rw [(hw a m).1] at e; cases e) (F.k0.get a o e q)
  · have hn : a ∉ wr := fun m => by rw [(hw a m).1] at e; cases e
    rcases F.k0.tab a ps e with x | ⟨x, m, y⟩
    · exact .inl (hk a _ hn x)
    · exact .inr ⟨x, m, hk a _ hn y⟩
  · have hn : a ∉ wr := fun m => by rw [(hw a m).1] at e; cases e
    obtain ⟨o', e'⟩ := F.k0.here a o e
    exact ⟨o', hk a _ hn e'⟩
  · obtain ⟨cc, v, r1, o, r3, r4⟩ := F.cellOk x hx
    exact ⟨cc, v, r1, o, mk _ _ (F.mc x cc r1) r3, r4⟩
theorem Step.turn {M : Addr → Prop} {s t : Shared} {h' : Heap} {tk : Nat} {wr : List Addr} (st : Step S M s t) (hk : ∀ b o, b ∉ wr → t.heap.get? b = some o → h'.get? b = some o) (hw : ∀ b ∈ wr, S.h₁.get? b = .none)
    (hs : ∀ b ∈ wr, s.heap.get? b = .none ∨ (M b ∧ ∃ o, h'.get? b = some o)) (I : Inv S { t with heap := h', toks := tk }) : Step S M s { t with heap := h', toks := tk } where
  keep := fun a o z e q => hk a o (fun m => (hs a m).elim (fun q => by rw [q] at e; cases e) fun q => z q.1) (st.keep a o z e q)
  here := fun a o e => by
    by_cases m : a ∈ wr
    · rcases hs a m with q | q
      · rw [q] at e; cases e
      · exact q.2
    · obtain ⟨o', e'⟩ := st.here a o e
      exact ⟨o', hk a o' m e'⟩
  gens := st.gens
  inv := I
theorem Inv.turn {s : Shared} {h' : Heap} {tk : Nat} {wr : List Addr} (I : Inv S s) (hk : ∀ b o, b ∉ wr → s.heap.get? b = some o → h'.get? b = some o) (hw : ∀ b ∈ wr, S.h₁.get? b = .none) : Inv S { s with heap := h', toks := tk } where
  stat := I.stat
  tabs := fun p hp => by
    obtain ⟨⟨o1, h1⟩, o2, h2⟩ := (I.stat.tabs p hp).some
    have n1 : p.1 ∉ wr := fun m => by rw [hw _ m] at h1; cases h1
    have n2 : p.2 ∉ wr := fun m => by rw [hw _ m] at h2; cases h2
    obtain ⟨ps, ⟨o, vs, file, tf, flags, tg, inF, text, tt, op, a, r1, r2, r3, r4, r5, r6, b, r⟩, ⟨o', vs', a', r'⟩, b'⟩ := I.tabs p hp
    exact ⟨ps, ⟨o, vs, file, tf, flags, tg, inF, text, tt, op, hk _ _ n1 a, r1, r2, r3, r4, r5, r6, hk _ _ n2 b, r⟩, ⟨o', vs', hk _ _ n1 a', r'⟩, hk _ _ n2 b'⟩
  keep := by
    refine ⟨fun a o e q => ?_, fun a ps e => ?_, fun a o e => ?_⟩
    · exact hk a o (fun m => by rw [hw a m] at e; cases e) (I.keep.get a o e q)
    · have hn : a ∉ wr := fun m => by rw [hw a m] at e; cases e
      rcases I.keep.tab a ps e with x | ⟨x, m, y⟩
      · exact .inl (hk a _ hn x)
      · exact .inr ⟨x, m, hk a _ hn y⟩
    · have hn : a ∉ wr := fun m => by rw [hw a m] at e; cases e
      obtain ⟨o', e'⟩ := I.keep.here a o e
      exact ⟨o', hk a _ hn e'⟩
  bare := I.bare
  os := I.os
inductive Loop (S : Sys) (n : Nat) (sc : Scope) (c : Addr) (x : Str) (body : List Stmt) : Rho → Own → List AV → Out → Prop
  | nil (r : Rho) (w : Own) : Loop S n sc c x body r w [] (.next r w)
  | next (r : Rho) (w : Own) (a : AV) (as : List AV) (r' : Rho) (w' : Own) (o : Out) : w.name? ≠ some x → Ex S n sc c ((x, a) :: r) w body (.next r' w') → Loop S n sc c x body r' w' as o → Loop S n sc c x body r w (a :: as) o
  | ret (r : Rho) (w : Own) (a : AV) (as : List AV) (b : AV) : w.name? ≠ some x → Ex S n sc c ((x, a) :: r) w body (.ret b) → Loop S n sc c x body r w (a :: as) (.ret b)
theorem St.for_ {x px iter body pos as o} (h1 : EvI S n sc c ρ iter as) (hl : Loop S n sc c x body ρ ow as o) (hk : Stores sc x) (hs : ∀ env x, foldedSetIterable iter env x = pure x := by intro _ _; rfl) :
    St S n sc c ρ ow (.For (.Name x px) iter body [] pos) o :=
  fun A env Y h₀ Z M s Q E R ei F I p => wpAny_For (h1 A env Z s _ _ R ei F.F I fun it s1 I1 fp wr P Stt L1 ok => by
    obtain ⟨rfl, W, hst, there, hap, hnew, hval⟩ := ok
    have W0 := W A R.hd
    have hfp1 : ∀ b ∈ fp, ∃ o, s1.heap.get? b = some o := fun b hb => let ⟨o, e, _⟩ := there 0 _ hst b hb; ⟨o, e⟩
    have hwr1 : ∀ b ∈ wr, ∃ o, s1.heap.get? b = some o := fun b hb => hfp1 b (W0.sub b hb)
    have F1 := F.widen (D := fun a => a ∈ wr) (D' := fun _ => False) L1 hnew hwr1 (fun _ q => q.elim)
    have hw1 : ∀ b ∈ wr, S.h₁.get? b = .none := fun b hb => I.keep.none (hnew b hb)
    have hw0 : ∀ b ∈ wr, h₀.get? b = .none := fun b hb => F.k0.none (hnew b hb)
    let J : Nat → Shared → Prop := fun k t => ∃ (r : Rho) (w : Own) (rest : List AV) (i : Nat) (Zi Mi : Addr → Prop), Loop S n sc c x body r w rest o ∧ as.drop i = rest ∧ i ≤ as.length ∧ k = rest.length + 1 ∧
      FrameS S Y h₀ Zi Mi env t.heap r w ∧ Step S (fun b => Z b ∨ b ∈ wr) s1 t ∧ Step S M s t ∧ (∀ a, Zi a → (Z a ∨ a ∈ wr) ∨ s1.heap.get? a = .none) ∧ (∀ a, Mi a → M a ∨ s1.heap.get? a = .none) ∧
      (∀ b ∈ wr, Zi b) ∧ Stt i t.heap ∧ (∀ a, Z a → ¬ M a → (∃ o, s.heap.get? a = some o) → Zi a)
    have start : J (as.length + 1) s1 := ⟨ρ, ow, as, 0, _, _, hl, rfl, Nat.zero_le _, rfl, F1, Step.refl L1.inv, L1.step, fun a z => .inl z, fun a z => .inl (z.elim id fun q => q.elim), fun b hb => .inr hb, hst, fun _ z _ _ => .inl z⟩
    refine codeAny_forLoop J (fun k t hJ => ?_) (as.length + 1) start
    obtain ⟨r, w, rest, i, Zi, Mi, hL, hrest, hi, rfl, Fi, st1, st0, zz, mm, zw, hsti, keepZ⟩ := hJ
    have notM : ∀ b ∈ fp, ¬ Mi b := fun b hb q => by
      rcases mm b q with m | m
      · exact hap b hb (F.mz b m)
      · obtain ⟨o, e⟩ := hfp1 b hb; rw [m] at e; cases e
    have hwi : ∀ b ∈ wr, h₀.get? b = .none ∧ Zi b ∧ ¬ Mi b := fun b hb => ⟨hw0 b hb, zw b hb, notM b (W0.sub b hb)⟩
    have turn : ∀ a as' , as.drop i = a :: as' → i < as.length → ∀ (Q' : Option Value → Shared → Prop) (E' : Value → Shared → Prop), (∀ v t', FrameS S Y h₀ Zi Mi env t'.heap r w → Inv S t' → Step S (fun b => Z b ∨ b ∈ wr) s1 t' → Step S M s t' → Stt (i + 1) t'.heap →
        Val Zi t'.heap v a → Q' (some v) t') → wpAny (model S.prog S.w) A (pyNext (.ref I1)) Q' E' t := by
      intro a as' hd hlt Q' E' hQ
      refine W0.item i t _ _ hlt hsti fun v h' tk hP hst' hk' => ?_
      have hb : ∀ b ∈ wr, ∃ o, h'.get? b = some o := fun b hb => let ⟨o, e, _⟩ := there (i + 1) _ hst' b (W0.sub b hb); ⟨o, e⟩
      have I' := Inv.turn (tk := tk) st0.inv hk' hw1
      have F' := Fi.turn Zi hk' (fun _ z => z) (fun _ z _ => z) (fun b q _ => hb b q) hwi
      have S1 := st1.turn (tk := tk) hk' hw1 (fun b q => .inr ⟨.inr q, hb b q⟩) I'
      have S0 := st0.turn (tk := tk) hk' hw1 (fun b q => .inl (hnew b q)) I'
      refine hQ v _ F' I' S1 S0 hst' ?_
      have ha : as[i]? = some a := by
        have := congrArg (fun l => l[0]?) hd
        simpa using this
      have v1 := hval i v a hP ha
      exact ((v1.more (Z' := fun b => (Z b ∨ b ∈ wr) ∨ Zi b) fun b z => z.elim .inl (zz b)).same fun b o z q e => S1.keep b o (fun q' => z (.inl q')) e q).anti fun b z => .inr z
    cases hL with
    | nil =>
      have hin : i = as.length := by have := congrArg List.length hrest; simp at this; omega
      refine W0.done t _ _ (hin ▸ hsti) fun h' tk hk' => ?_
      have I' := Inv.turn (tk := tk) st0.inv hk' hw1
      have F' := Fi.turn (fun a => Zi a ∧ a ∉ wr) hk' (fun _ z => z.1) (fun _ z q => ⟨z, q⟩) (fun b q z => absurd q z.2) hwi
      have S0 := st0.turn (tk := tk) hk' hw1 (fun b q => .inl (hnew b q)) I'
      refine wpAny_execs_nil (p _ _ _ F' (fun a z => ?_) (fun a z => ?_) (fun a z m e => ⟨keepZ a z m e, fun q => by obtain ⟨o, e⟩ := e; rw [hnew a q] at e; cases e⟩) S0)
      · rcases zz a z.1 with (q | q) | q
        · exact .inl q
        · exact absurd q z.2
        · exact .inr (L1.keep.none q)
      · exact (mm a z).elim .inl fun q => .inr (L1.keep.none q)
    | next _ _ a as' r' w' _ hne hx hrec =>
      have hlt : i < as.length := by have := congrArg List.length hrest; simp at this; omega
      refine turn a as' hrest hlt _ _ fun v t' F' I' S1 S0 hst' hv => ?_
      refine wpAny_assign_Name (store ei F' I' hv hk hne fun t2 F2 st2 _ sm => ?_)
      refine hx A env Y h₀ Zi Mi t2 _ _ R ei F2 st2.inv fun Z' M' t3 F3 zz3 mm3 kz3 st3 => ?_
      have nw2 : ∀ b, t2.heap.get? b = .none → s1.heap.get? b = .none := fun b q => S1.none (st2.none q)
      have hMs : ∀ b, Mi b → (Z b ∨ b ∈ wr) ∨ s1.heap.get? b = .none := fun b q => (mm b q).elim (fun q => .inl (.inl (F.mz b q))) .inr
      have hM0 : ∀ b, Mi b → M b ∨ s.heap.get? b = .none := fun b q => (mm b q).elim .inl fun q => .inr (L1.keep.none q)
      refine ⟨as'.length + 1, by simp, r', w', as', i + 1, Z', M', hrec, ?_, hlt, rfl, F3, ?_, ?_, fun b z => ?_, fun b z => ?_, fun b q => ?_, ?_, fun b z m e => ?_⟩
      · have := congrArg (List.drop 1) hrest; rw [List.drop_drop] at this; simpa [Nat.add_comm] using this
      · exact (S1.trans st2 hMs).trans st3 hMs
      · exact (S0.trans st2 hM0).trans st3 hM0
      · exact (zz3 b z).elim (zz b) fun q => .inr (nw2 b q)
      · exact (mm3 b z).elim (mm b) fun q => .inr (nw2 b q)
      · obtain ⟨o, e, _⟩ := there _ _ hst' b (W0.sub b q)
        exact kz3 b (zw b q) (notM b (W0.sub b q)) ⟨o, sm b o (notM b (W0.sub b q)) e⟩
      · refine W0.frame _ _ _ hst' fun b q o e => ?_
        obtain ⟨o', e', nt⟩ := there _ _ hst' b q
        rw [e] at e'; cases e'
        exact st3.keep b o (notM b q) (sm b o (notM b q) e) nt
      · have hz := keepZ b z m e
        have hm : ¬ Mi b := fun q => (hM0 b q).elim m fun q => by obtain ⟨o, e⟩ := e; rw [q] at e; cases e
        obtain ⟨o, e⟩ := e
        obtain ⟨o', e'⟩ := (S0.trans st2 hM0).here b o e
        exact kz3 b hz hm ⟨o', e'⟩
    | ret _ _ a as' b hne hx =>
      have hlt : i < as.length := by have := congrArg List.length hrest; simp at this; omega
      refine turn a as' hrest hlt _ _ fun v t' F' I' S1 S0 hst' hv => ?_
      refine wpAny_assign_Name (store ei F' I' hv hk hne fun t2 F2 st2 _ sm => ?_)
      have hM0 : ∀ b, Mi b → M b ∨ s.heap.get? b = .none := fun b q => (mm b q).elim .inl fun q => .inr (L1.keep.none q)
      exact hx A env Y h₀ Zi Mi t2 _ _ R ei F2 st2.inv fun v t3 k3 st3 hv3 => p v t3 k3 ((S0.trans st2 hM0).trans st3 hM0) hv3) (hs env)
end
section
open PySem PySem.Spec PySem.Calls PyProof.Rows PySem.W
variable {S : Sys} {n : Nat} {sc : Scope} {c : Addr} {ρ : Rho} {ow : Own}
theorem Ev.up {m n e a} (h : Ev S m sc c ρ e a) (k : m ≤ n) : Ev S n sc c ρ e a := fun A env Z s R => h A env Z s (R.mono k)
def AV.cls? : AV → Option (Addr × List (Str × AV))
  | .inst C fs => some (C, fs)
  | .obj _ C fs => some (C, fs)
  | _ => Option.none
abbrev dObj (es : Array DictEntry) (n : Nat) : Obj := { cls := .type "dict", data := .dict es n }
theorem lookIn_of {es : Array DictEntry} {n : Nat} {k : Str} {r : Option Value} (hk : StrKeys es) (e : nsFind es k = r) : lookIn k (dObj es n) = some r := by
  unfold lookIn
  unfold nsFind findBy at e
  obtain ⟨l⟩ := es
  simp only [List.find?_toArray] at e
  simp only
  cases q : l.find? (·.key.isStr k) with
  | some x => rw [q] at e; rw [← e]; rfl
  | none =>
    rw [q] at e
    have : (l.any (·.refKey)) = false := by
      rw [List.any_eq_false]
      intro x hx
      obtain ⟨n, t, hn⟩ := hk x (by simpa using hx)
      simp [DictEntry.refKey, hn]
    rw [this, ← e]; rfl
/-- what stands behind an instance -/
structure InsAt (h : Heap) (Z : Addr → Prop) (x d C : Addr) (es : Array DictEntry) (n : Nat) (fs : List (Str × AV)) (f : Str → Value) : Prop where
  I : InstAt h x (insO C d) C (some (dObj es n))
  no : ∀ k, fs.lookup k = .none → lookIn k (dObj es n) = some .none
  yes : ∀ k y, fs.lookup k = some y → lookIn k (dObj es n) = some (some (f k))
  val : ∀ k y, fs.lookup k = some y → Val Z h (f k) y
theorem inst_at {Z h v a C fs} (hv : Val Z h v a) (ha : a.cls? = some (C, fs)) : ∃ x d es n f, v = .ref x ∧ InsAt h Z x d C es n fs f := by
  cases hv with
  | inst f hz hzd hg hd h1 h2 h3 =>
    cases ha
    obtain ⟨es, n, e, hk, _, hm⟩ := hd
    exact ⟨_, _, es, n, f, rfl, ⟨⟨hg, rfl, rfl, e⟩, fun k q => lookIn_of hk ((hm k).trans (h1 k q)), fun k y q => lookIn_of hk ((hm k).trans (h2 k y q)), h3⟩⟩
  | obj f hz hzd hg hd h1 h2 h3 =>
    cases ha
    obtain ⟨es, n, e, hk, _, hm⟩ := hd
    exact ⟨_, _, es, n, f, rfl, ⟨⟨hg, rfl, rfl, e⟩, fun k q => lookIn_of hk ((hm k).trans (h1 k q)), fun k y q => lookIn_of hk ((hm k).trans (h2 k y q)), h3⟩⟩
  | _ => cases ha
/-- a plain attribute of an instance: read from its own dict -/
def ownGet (K : Frag) (C : Addr) (name : Str) : Bool :=
  plainGet K C name && hasDictIn K C && (match findIn K (.ref C) name with | some attr => noGet K attr | none => false)
theorem handed_val {Z h v a} (hv : Val Z h v a) (ha : ∀ i, a ≠ .val (.builtin i)) : handedIn v = true := by
  cases hv with
  | val v => cases v <;> first | rfl | exact absurd rfl (ha _)
  | _ => rfl
theorem Ev.attr {e name pos a C fs y} (h : Ev S n sc c ρ e a) (ha : a.cls? = some (C, fs)) (hf : fs.lookup name = some y) (hg : ownGet S.K C name = true) (hy : ∀ i, y ≠ .val (.builtin i) := by intro i q; cases q)
    (hb : ∀ env, attributeBase e name env (eval e env) = eval e env := by intro _; rfl) : Ev S n sc c ρ (.Attribute e name pos) y :=
  fun A env Z s R ei F I Q E k => Attribute_any_ (by
    refine h A env Z s R ei F I _ _ fun v s1 L1 v1 => ?_
    obtain ⟨x, d, es, nn, f, rfl, J⟩ := inst_at v1 ha
    simp only [ownGet, Bool.and_eq_true] at hg
    obtain ⟨⟨g1, g2⟩, g3⟩ := hg
    cases q : findIn S.K (.ref C) name with
    | none => rw [q] at g3; cases g3
    | some attr =>
      rw [q] at g3
      exact get_value L1.inv.K J.I (plainGet_of g1).1 (findObj_own g2 q g3 (J.yes _ _ hf)) (handed_val (J.val _ _ hf) hy) (k _ _ (L1.trans (Later.tok L1.inv _)) (J.val _ _ hf))) (by rw [arm_eval_Attribute, hb])
/-! functions -/
def FnSem (S : Sys) (n : Nat) (f : Addr) (as : List AV) (kas : List (Str × AV)) (r : AV) : Prop :=
  ∀ A Z s vs kvs (R : Result → Shared → Prop), Room n A → Inv S s → Bd S Z s.heap → Vals Z s.heap vs as → kvs.map (·.1) = kas.map (·.1) → Vals Z s.heap (kvs.map (·.2)) (kas.map (·.2)) →
    (∀ v s', Later S s s' → Val Z s'.heap v r → R (.ok (.ret v)) s') → codeAny (model S.prog S.w) A (.call (.ref f) ⟨vs, kvs⟩) R s
theorem FnSem.up {m f as kas r} (h : FnSem S m f as kas r) (k : m ≤ n) : FnSem S n f as kas r := fun A Z s vs kvs R hR => h A Z s vs kvs R (hR.mono k)
theorem FnSem.call {f as kas r} (h : FnSem S n f as kas r) : CallSem S n (.val (.ref f)) as kas r :=
  fun A Z s v vs kvs hR I B hv hvs hk hkv Q E k => by
    cases hv
    exact wpAny_call (h A Z s vs kvs _ hR I B hvs hk hkv fun v s' L hv => k v s' L hv)
theorem bind_res {Z h} : ∀ {bs : List (Str × AV)} {binds : List (Str × Value)} {x a}, binds.map (·.1) = bs.map (·.1) → Vals Z h (binds.map (·.2)) (bs.map (·.2)) → bs.lookup x = some a → ∃ v, (x, v) ∈ binds ∧ Val Z h v a
  | [], _, x, a, _, _, e => by cases e
  | (y, b) :: bs, [], x, a, e, _, _ => by cases e
  | (y, b) :: bs, (y', v) :: binds, x, a, e, hv, hl => by
    simp only [List.map_cons, List.cons.injEq] at e
    obtain ⟨rfl, e⟩ := e
    obtain ⟨h1, h2⟩ := hv.uncons
    rw [List.lookup_cons] at hl
    cases q : x == y' with
    | true => rw [q] at hl; cases hl; exact ⟨v, by rw [beq_iff_eq.mp q]; exact List.mem_cons_self, h1⟩
    | false =>
      rw [q] at hl
      obtain ⟨u, hu, hu'⟩ := bind_res e h2 hl
      exact ⟨u, List.mem_cons_of_mem _ hu, hu'⟩
theorem bindL_other {kindOf : Str → Option NameKind} {x : Str} : ∀ {binds : List (Str × Value)} {m : Str → Option Value}, x ∉ binds.map (·.1) → bindL kindOf binds m x = m x
  | [], _, _ => rfl
  | (y, v) :: r, m, h => by
    unfold bindL
    simp only [List.map_cons, List.mem_cons, not_or] at h
    rw [bindL_other h.2]
    split
    · exact if_neg h.1
    · rfl
theorem bindC_other {kindOf : Str → Option NameKind} {x : Str} : ∀ {binds : List (Str × Value)} {m : Str → Option Value}, x ∉ binds.map (·.1) → bindC kindOf binds m x = m x
  | [], _, _ => rfl
  | (y, v) :: r, m, h => by
    unfold bindC
    simp only [List.map_cons, List.mem_cons, not_or] at h
    rw [bindC_other h.2]
    split
    · rfl
    · exact if_neg h.1
theorem bindL_mem {kindOf : Str → Option NameKind} {x : Str} {v : Value} (hk : kindOf x = some .local) : ∀ {binds : List (Str × Value)} {m : Str → Option Value}, (binds.map (·.1)).Nodup → (x, v) ∈ binds → bindL kindOf binds m x = some v
  | [], _, _, h => by cases h
  | (y, u) :: r, m, hd, h => by
    unfold bindL
    rw [List.map_cons, List.nodup_cons] at hd
    rcases List.mem_cons.mp h with q | q
    · cases q
      rw [bindL_other hd.1, if_pos hk, if_pos rfl]
    · exact bindL_mem hk hd.2 q
theorem bindC_mem {kindOf : Str → Option NameKind} {x : Str} {v : Value} (hk : kindOf x ≠ some .local) : ∀ {binds : List (Str × Value)} {m : Str → Option Value}, (binds.map (·.1)).Nodup → (x, v) ∈ binds → bindC kindOf binds m x = some v
  | [], _, _, h => by cases h
  | (y, u) :: r, m, hd, h => by
    unfold bindC
    rw [List.map_cons, List.nodup_cons] at hd
    rcases List.mem_cons.mp h with q | q
    · cases q
      rw [bindC_other hd.1, if_neg hk, if_pos rfl]
    · exact bindC_mem hk hd.2 q
theorem lookup_some_of_mem {α : Type} : ∀ {l : List (Str × α)} {x : Str} {c : α}, (x, c) ∈ l → (l.lookup x).isSome = true
  | (y, d) :: l, x, c, h => by
    rw [List.lookup_cons]
    cases q : x == y with
    | true => rfl
    | false =>
      rcases List.mem_cons.mp h with e | e
      · cases e; rw [beq_self_eq_true] at q; cases q
      · exact lookup_some_of_mem e
theorem cellsFrom_acc : ∀ (names : List (Str × NameKind)) (n : Nat) (acc : List (Str × Addr)) {p}, p ∈ acc → p ∈ cellsFrom n names acc
  | [], _, _, _, h => h
  | (y, k) :: r, n, acc, p, h => by
    unfold cellsFrom
    split
    · exact cellsFrom_acc r _ _ (List.mem_cons_of_mem _ h)
    · exact cellsFrom_acc r _ _ h
theorem cellsFrom_has : ∀ (names : List (Str × NameKind)) (n : Nat) (acc : List (Str × Addr)) {x}, (x, NameKind.cell) ∈ names → ∃ c, (x, c) ∈ cellsFrom n names acc
  | (y, k) :: r, n, acc, x, h => by
    unfold cellsFrom
    rcases List.mem_cons.mp h with e | e
    · cases e
      rw [if_pos (by rfl)]
      exact ⟨n, cellsFrom_acc r _ _ List.mem_cons_self⟩
    · split
      · exact cellsFrom_has r _ _ e
      · exact cellsFrom_has r _ _ e
theorem mem_names {l : List (Str × NameKind)} {x k} (h : l.lookup x = some k) : (x, k) ∈ l := mem_of_lookup h
theorem cells_some {names : List (Str × NameKind)} {x : Str} (n : Nat) (h : names.lookup x = some .cell) : ((cellsFrom n names []).lookup x).isSome = true := by
  obtain ⟨c, hc⟩ := cellsFrom_has names n [] (mem_names h)
  exact lookup_some_of_mem hc
/-- entering a function's frame -/
theorem enter {env : Env} {s s₁ : Shared} {Z : Addr → Prop} {bs : List (Str × AV)} {binds : List (Str × Value)} (I : Inv S s) (B : Bd S Z s.heap)
    (X : InCallC s env.locals (bindL env.kindOf binds fun _ => .none) env.cells (bindC env.kindOf binds fun _ => .none) s₁)
    (hn : binds.map (·.1) = bs.map (·.1)) (hv : Vals Z s.heap (binds.map (·.2)) (bs.map (·.2))) (hnd : (bs.map (·.1)).Nodup)
    (hk : ∀ x a, bs.lookup x = some a → env.kindOf x = some .local ∨ env.kindOf x = some .cell)
    (hc : ∀ x, env.kindOf x = some .cell → (env.cells.lookup x).isSome = true) :
    FrameS S Z s.heap (fun a => Z a ∨ a = env.locals ∨ ∃ x, env.cells.lookup x = some a) (fun a => a = env.locals ∨ ∃ x, env.cells.lookup x = some a) env s₁.heap bs .no ∧ Later S s s₁ := by
  have hL : s.heap.get? env.locals = .none := by
    cases q : s.heap.get? env.locals with
    | none => rfl
    | some o => exact absurd (Nat.lt_of_lt_of_le (Heap.lt_size q) X.toInCall.fresh) (Nat.lt_irrefl _)
  have hC : ∀ x a, env.cells.lookup x = some a → s.heap.get? a = .none := by
    intro x a e
    cases q : s.heap.get? a with
    | none => rfl
    | some o => exact absurd (Nat.lt_trans (Nat.lt_of_lt_of_le (Heap.lt_size q) X.toInCall.fresh) (X.above x a (mem_of_lookup e))) (Nat.lt_irrefl _)
  obtain ⟨h', tk, rfl, hkeep⟩ := X.done
  have L : Later S s { s with heap := h', toks := tk } := Later.grow I hkeep
  refine ⟨⟨⟨fun a z => ?_, .inr (.inl rfl), fun x cc e => .inr (.inr ⟨x, e⟩), ⟨_, X.toInCall.ns⟩, fun x a e => ?_⟩, trivial, fun a m => .inr m, .inl rfl, fun x cc e => .inr ⟨x, e⟩, fun a y => .inl y, fun a y => (B a y).2, L.keep, hL, hC, X.apart, I.keep, fun x hx => ?_⟩, L⟩
  · rcases z with z | rfl | ⟨x, e⟩
    · exact B.keep L.keep a z
    · refine ⟨I.keep.none hL, ?_⟩
      obtain ⟨o, _, _, ho, _⟩ := X.toInCall.ns
      exact ⟨o, ho⟩
    · refine ⟨I.keep.none (hC x a e), ?_⟩
      obtain ⟨o, ho, _⟩ := X.cell x a e
      exact ⟨o, ho⟩
  · obtain ⟨v, hm, hv'⟩ := bind_res hn hv e
    refine ⟨v, ?_, (hv'.more fun b z => ?_).keep L.keep⟩
    · rw [← hn] at hnd
      rcases hk x a e with q | q
      · exact .inl ⟨q, _, X.toInCall.ns, bindL_mem q hnd hm⟩
      · obtain ⟨cc, hcc⟩ := Option.isSome_iff_exists.mp (hc x q)
        refine .inr ⟨.inl q, cc, hcc, ?_⟩
        have := X.cell x cc hcc
        rwa [bindC_mem (by rw [q]; decide) hnd hm] at this
    · rcases z with z | rfl | ⟨y, e'⟩
      · exact .inl z
      · exact .inr hL
      · exact .inr (hC y b e')
  · obtain ⟨cc, hcc⟩ := Option.isSome_iff_exists.mp (hc x hx)
    exact ⟨cc, _, hcc, X.cell x cc hcc⟩
/-- how a call's arguments are bound -/
def Binds (S : Sys) (fd : FuncData) (as : List AV) (kas : List (Str × AV)) (bs : List (Str × AV)) : Prop :=
  ∀ Z h vs kvs, Vals Z h vs as → kvs.map (·.1) = kas.map (·.1) → Vals Z h (kvs.map (·.2)) (kas.map (·.2)) →
    ∃ binds, (∀ S', peek S.K S' (bindArgs fd ⟨vs, kvs⟩) = some binds) ∧ binds.map (·.1) = bs.map (·.1) ∧ Vals Z h (binds.map (·.2)) (bs.map (·.2))
structure FnOk (S : Sys) (f : Addr) (o : Obj) (fd : FuncData) (sc : Scope) (cd : Addr) (body : List Stmt) : Prop where
  look : S.K.lookup f = some o
  data : o.data = .func fd
  scope : fd.scope = sc
  body : fd.body = .stmts body
  code : fd.code = .ref cd
  codeIn : codeIn S.K fd.code fd.qualname = true
  clo : fd.closure = []
  glob : fd.globals = mainGlobals
  bi : fd.builtins = builtinsNs
  kind : sc.kind = .function
  co : sc.isCoroutine = false
  gen : sc.isGenerator = false
/-- the call, down to the body -/
theorem fn_open {f o fd cd body as kas bs} (K : FnOk S f o fd sc cd body) (hb : Binds S fd as kas bs) (hnm : (bs.all fun p => sc.names.lookup p.1 == some .local || sc.names.lookup p.1 == some .cell) = true) (hnd : (bs.map (·.1)).Nodup)
    {A Z s vs kvs} {R : Result → Shared → Prop} (hR : Room (n + 1) A) (I : Inv S s) (B : Bd S Z s.heap) (hv : Vals Z s.heap vs as) (hk : kvs.map (·.1) = kas.map (·.1)) (hkv : Vals Z s.heap (kvs.map (·.2)) (kas.map (·.2)))
    (h : ∀ A' env s₁ Z' M, Room n A' → EnvIs env sc cd → FrameS S Z s.heap Z' M env s₁.heap bs .no → Later S s s₁ → (∀ a, M a → s.heap.get? a = .none) → (∀ a, Z' a → Z a ∨ s.heap.get? a = .none) →
      ∀ E, wpAny (model S.prog S.w) A' (execs body env) (fun fl s' => R (.ok (.ret (match fl with | .ret v => v | _ => .none))) s') E s₁) :
    codeAny (model S.prog S.w) A (.call (.ref f) ⟨vs, kvs⟩) R s := by
  obtain ⟨hK, hd, rfl, hbody, hcode, hci, hclo, hg, hbi, hkind, hco, hgen⟩ := K
  obtain ⟨binds, hp, e1, e2⟩ := hb Z s.heap vs kvs hv hk hkv
  have hkk : ∀ x a, bs.lookup x = some a → fd.scope.names.lookup x = some .local ∨ fd.scope.names.lookup x = some .cell := by
    intro x a e
    have := List.all_eq_true.mp hnm _ (mem_of_lookup e)
    simpa using this
  have hkk' : ∀ p ∈ bs.map (·.1), fd.scope.names.lookup p = some .local ∨ fd.scope.names.lookup p = some .cell := by
    intro p hp
    obtain ⟨q, hq, rfl⟩ := List.mem_map.mp hp
    have := List.all_eq_true.mp hnm _ hq
    simpa using this
  refine codeAny_call_function hR.lt (I.K _ _ hK) hd hco hgen hbody (codeRec_of I.K hci) (kp_binds I.K hp _ _ _ _ ?_)
  rw [hclo]
  refine wpAny_newFunctionEnv_cells hkind (fun x hx => ?_) fun env he s₁ X => ?_
  · rcases hkk' x.1 (e1 ▸ List.mem_map_of_mem hx) with q | q
    · exact .inl q
    · exact .inr ⟨q, cells_some _ q⟩
  · have hks : env.kindOf = fun x => fd.scope.names.lookup x := by rw [he]; rfl
    obtain ⟨FS, L⟩ := enter I B X e1 e2 hnd (fun x a e => by rw [hks]; exact hkk x a e) (fun x hx => by rw [he]; rw [hks] at hx; exact cells_some _ hx)
    have hCn : ∀ a, (a = env.locals ∨ ∃ x, env.cells.lookup x = some a) → s.heap.get? a = .none := fun a m => m.elim (fun q => q ▸ FS.newL) fun ⟨x, e⟩ => FS.newC x a e
    refine ⟨L.inv.lim, codeAny_func (h (A.deeper env) env s₁ _ _ ⟨hR.hd, ?_, ?_⟩ ?_ FS L hCn (fun a z => z.elim .inl fun q => .inr (hCn a q)) _)⟩
    · have := hR.depth; show A.depth + 1 + 2 * n + 4 < 1000; omega
    · have := hR.units; show A.units + 3 + 30 * n + 60 < 9900; omega
    · rw [he]
      exact ⟨rfl, hg, hbi, .inl hcode, hkind, hco⟩
theorem FnSem.of {f o fd cd body as kas bs r} (K : FnOk S f o fd sc cd body) (hb : Binds S fd as kas bs) (hnm : (bs.all fun p => sc.names.lookup p.1 == some .local || sc.names.lookup p.1 == some .cell) = true) (hnd : (bs.map (·.1)).Nodup)
    (hx : Ex S n sc cd bs .no body (.ret r)) : FnSem S (n + 1) f as kas r :=
  fun A Z s vs kvs R hR I B hv hk hkv h => fn_open K hb hnm hnd hR I B hv hk hkv fun A' env s₁ Z' M R' ei FS L hM hZ E =>
    hx A' env Z s.heap Z' M s₁ _ E R' ei FS L.inv fun v s' k st hv' => h v s' ⟨k, st.inv, L.gens.trans st.gens⟩ hv'
end
section
open PySem PySem.Spec PySem.Calls PyProof.Rows PySem.W
variable {S : Sys} {n : Nat} {sc : Scope} {c : Addr} {ρ : Rho} {ow : Own}
/-! arguments of a call -/
def EvA (S : Sys) (n : Nat) (sc : Scope) (c : Addr) (ρ : Rho) (es : List Expr) (kws : List Keyword) (as : List AV) (kas : List (Str × AV)) : Prop :=
  ∀ A env Z s pos f (Q : Args → Shared → Prop) (E : Value → Shared → Prop), Room n A → EnvIs env sc c → Frame S Z env s.heap ρ → Inv S s →
    ((backTo pos (starEach es env)).any (·.1) || (backToKw pos (keywordEach kws env)).any (·.1.isNone)) = false ∧
    ((∀ a s', Later S s s' → Vals Z s'.heap a.pos as → a.kw.map (·.1) = kas.map (·.1) → Vals Z s'.heap (a.kw.map (·.2)) (kas.map (·.2)) → Q a s') →
      wpAny (model S.prog S.w) A (evalArgs f true (backTo pos (starEach es env)) (backToKw pos (keywordEach kws env))) Q E s)
theorem EvA.nil : EvA S n sc c ρ [] [] [] [] :=
  fun A env Z s pos f Q E R ei F I => ⟨rfl, fun k => evalArgs_kw2_nil rfl (kwAll_nil (k _ s (Later.refl I) .nil rfl .nil))⟩
theorem EvA.pos {e es as} (h : EvL S n sc c ρ (e :: es) as) (he : ∀ env, starEach (e :: es) env = (false, eval e env) :: starEach es env := by intro _; rfl)
    (hp : ∀ env pos, (backTo pos (starEach (e :: es) env)).any (·.1) = false := by intro _ _; rfl) : EvA S n sc c ρ (e :: es) [] as [] :=
  fun A env Z s pos f Q E R ei F I => ⟨by rw [hp]; rfl, fun k => evalArgs_kw2 rfl (h A env Z s pos R ei F I _ _ fun vs s1 L1 v1 => kwAll_nil (k ⟨vs, _⟩ s1 L1 v1 rfl .nil)) (he env)⟩
theorem EvA.kw1 {e es as x v p a} (h : EvL S n sc c ρ (e :: es) as) (h2 : Ev S n sc c ρ v a) (he : ∀ env, starEach (e :: es) env = (false, eval e env) :: starEach es env := by intro _; rfl)
    (hp : ∀ env pos, (backTo pos (starEach (e :: es) env)).any (·.1) = false := by intro _ _; rfl) : EvA S n sc c ρ (e :: es) [⟨some x, v, p⟩] as [(x, a)] :=
  fun A env Z s pos f Q E R ei F I => ⟨by rw [hp]; rfl, fun k => evalArgs_kw2 rfl (h A env Z s pos R ei F I _ _ fun vs s1 L1 v1 =>
    kwAll_cons (h2 A env Z s1 R ei (F.keep L1.keep) L1.inv _ _ fun u s2 L2 v2 => kwAll_nil (k ⟨vs, [(x, u)]⟩ s2 (L1.trans L2) (v1.keep L2.keep) rfl (.cons v2 .nil)))) (he env)⟩
/-! what may be called, and how the call is laid -/
def KeepsV (S : Sys) (fa : AV) : Prop :=
  ∀ A Z h v pos first args kws (Q : Value → Shared → Prop) (E : Value → Shared → Prop) s, Val Z h v fa → (args.any (·.1) || kws.any (·.1.isNone)) = false →
    wpAny (model S.prog S.w) A (evalArgs v true args kws) (fun a s₁ => S.K.In s₁.heap ∧ Val Z s₁.heap v fa ∧ wpAny (model S.prog S.w) A (call v (first ++ a.pos) a.kw) Q E s₁) E s →
    wpAny (model S.prog S.w) A (callWith pos v first args kws) Q E s
theorem KeepsV.ref {f} (hk : keepIn S.K (.ref f) = true) : KeepsV S (.val (.ref f)) :=
  fun A Z h v pos first args kws Q E s hv hp hq => by
    cases hv
    exact callWith_of hp (keeps_K hk) (wpAny_mono hq (fun a s1 z => ⟨z.1, z.2.2⟩) fun _ _ z => z)
theorem KeepsV.builtin {id} : KeepsV S (.val (.builtin id)) :=
  fun A Z h v pos first args kws Q E s hv hp hq => by
    cases hv
    rw [Bool.or_eq_false_iff] at hp
    exact callWith_builtin_kwB hp.1 hp.2 (wpAny_mono hq (fun a s1 z => z.2.2) fun _ _ z => z)
theorem KeepsV.type {T} : KeepsV S (.val (.type T)) :=
  fun A Z h v pos first args kws Q E s hv hp hq => by
    cases hv
    unfold callWith
    refine wpAny_bind (wpAny_holding (wpAny_mono hq (fun a s₁ h₁ => wpAny_bind (wpAny_standAt ?_)) fun _ _ x => x))
    simp only [hp]
    refine wpAny_bind (wpAny_pure ?_)
    exact wpAny_bind (wpAny_mono h₁.2.2 (fun r s₂ hr => wpAny_bind (wpAny_holding (wpAny_point (wpAny_pure hr)))) fun _ _ x => x)
theorem KeepsV.inst {a C fs} (ha : a.cls? = some (C, fs)) : KeepsV S a :=
  fun A Z h v pos first args kws Q E s hv hp hq => by
    obtain ⟨x, d, es, nn, f, rfl, J⟩ := inst_at hv ha
    have : ∀ h', Val Z h' (.ref x) a → ∃ o, h'.get? x = some o ∧ o.data = .plain := by
      intro h' hv'
      obtain ⟨x', d', es', nn', f', e, J'⟩ := inst_at hv' ha
      cases e
      exact ⟨_, J'.I.at_, rfl⟩
    unfold callWith
    refine wpAny_bind (wpAny_holding (wpAny_mono hq (fun a s₁ h₁ => wpAny_bind (wpAny_standAt ?_)) fun _ _ y => y))
    obtain ⟨o, ho, hd⟩ := this _ h₁.2.1
    have L : Looks (model S.prog S.w) s₁.heap (keeperOf (.ref x)) .caller := by
      refine (Looks.ld (part := .none) ho).andThen ?_
      simp only [hd]
      exact .now
    simp only [hp]
    refine wpAny_bind (L.here ?_)
    exact wpAny_bind (wpAny_mono (wpAny_operateT h₁.2.2) (fun r s₂ hr => wpAny_bind (wpAny_holding (wpAny_point (wpAny_pure hr)))) fun _ _ y => y)
theorem CallSem.up {m f as kas r} (h : CallSem S m f as kas r) (k : m ≤ n) : CallSem S n f as kas r := fun A Z s v vs kvs R => h A Z s v vs kvs (R.mono k)
theorem Ev.call {id p args kws pos fa as kas r} (h1 : Ev S n sc c ρ (.Name id p) fa) (ha : EvA S n sc c ρ args kws as kas) (hk : KeepsV S fa) (hc : CallSem S n fa as kas r) : Ev S n sc c ρ (.Call (.Name id p) args kws pos) r :=
  fun A env Z s R ei F I Q E k => wpAny_Call_Name_kw (h1 A env Z s R ei F I _ _ fun v s1 L1 v1 => by
    refine hk A Z _ v pos [] _ _ Q E s1 v1 (ha A env Z s1 pos v (fun _ _ => True) E R ei (F.keep L1.keep) L1.inv).1 ?_
    refine (ha A env Z s1 pos v _ E R ei (F.keep L1.keep) L1.inv).2 fun a s2 L2 h2 h3 h4 => ⟨L2.inv.K, v1.keep L2.keep, ?_⟩
    exact hc A Z s2 v _ _ R L2.inv (F.bd.keep (L1.trans L2).keep) (v1.keep L2.keep) h2 h3 h4 _ _ fun y s3 L3 v3 => k y s3 ((L1.trans L2).trans L3) v3)
/-- what a method's name gives -/
def MethSem (S : Sys) (n : Nat) (a : AV) (name : Str) (fa : AV) (firsts : List AV) : Prop :=
  ∀ A Z s v pl (Q : Value × List Value → Shared → Prop) (E : Value → Shared → Prop), Room n A → Inv S s → Bd S Z s.heap → Val Z s.heap v a →
    (∀ f vs s', Later S s s' → Val Z s'.heap f fa → Vals Z s'.heap vs firsts → Q (f, vs) s') → wpAny (model S.prog S.w) A (getMethod v name pl) Q E s
theorem Ev.mcall {o name apos args kws pos a fa firsts as kas r} {pl : Env → Sem Bool} (h1 : Ev S n sc c ρ o a) (hm : MethSem S n a name fa firsts) (ha : EvA S n sc c ρ args kws as kas) (hk : KeepsV S fa) (hc : CallSem S n fa (firsts ++ as) kas r)
    (he : ∀ env, eval (.Call (.Attribute o name apos) args kws pos) env = (do
      let ov ← eval o env
      standAt apos.atName
      let (f, first) ← holding [ov] (getMethod ov name (pl env))
      callWith pos f first (backTo pos (starEach args env)) (backToKw pos (keywordEach kws env))) := by intro _; rfl) : Ev S n sc c ρ (.Call (.Attribute o name apos) args kws pos) r :=
  fun A env Z s R ei F I Q E k => by
    rw [he]
    refine wpAny_bind (h1 A env Z s R ei F I _ _ fun v s1 L1 v1 => wpAny_bind (wpAny_standAt (wpAny_bind (wpAny_holding (hm A Z s1 v _ _ _ R L1.inv (F.bd.keep L1.keep) v1 fun f vs s2 L2 hf hvs => ?_)))))
    have L12 := L1.trans L2
    refine hk A Z _ f pos vs _ _ Q E s2 hf (ha A env Z s2 pos f (fun _ _ => True) E R ei (F.keep L12.keep) L12.inv).1 ?_
    refine (ha A env Z s2 pos f _ E R ei (F.keep L12.keep) L12.inv).2 fun a s3 L3 h2 h3 h4 => ⟨L3.inv.K, hf.keep L3.keep, ?_⟩
    exact hc A Z s3 f _ _ R L3.inv (F.bd.keep (L12.trans L3).keep) (hf.keep L3.keep) ((hvs.keep L3.keep).append h2) h3 h4 _ _ fun y s4 L4 v4 => k y s4 ((L12.trans L3).trans L4) v4
/-- a method of the class -/
def clsFn (K : Frag) (C : Addr) (name : Str) (f : Addr) : Bool := findIn K (.ref C) name == some (some (.ref f)) && isFn K (.ref f)
theorem MethSem.fn {a C fs name f} (ha : a.cls? = some (C, fs)) (hf : clsFn S.K C name f = true) (hg : plainGet S.K C name = true) (hl : fs.lookup name = .none) : MethSem S n a name (.val (.ref f)) [a] :=
  fun A Z s v pl Q E R I B hv k => by
    obtain ⟨x, d, es, nn, g, rfl, J⟩ := inst_at hv ha
    simp only [clsFn, Bool.and_eq_true, beq_iff_eq] at hf
    refine method_fn I.K J.I (plainGet_of hg).1 (plainGet_of hg).2 hf.1 (beq_iff_eq.mp hf.2) ?_ (k _ _ s (Later.refl I) (.val _) (.cons hv .nil))
    show (lookIn name _).map _ = _
    rw [J.no _ hl]; rfl
/-- an attribute of the instance's own, that is called -/
theorem MethSem.own {a C fs name y} (ha : a.cls? = some (C, fs)) (hy : fs.lookup name = some y) (hg : ownGet S.K C name = true) (hn : findIn S.K (.ref C) name = some Option.none) (hyb : ∀ i, y ≠ .val (.builtin i) := by intro i q; cases q) : MethSem S n a name y [] :=
  fun A Z s v pl Q E R I B hv k => by
    obtain ⟨x, d, es, nn, g, rfl, J⟩ := inst_at hv ha
    simp only [ownGet, Bool.and_eq_true] at hg
    obtain ⟨⟨g1, g2⟩, g3⟩ := hg
    rw [hn] at g3
    refine method_usual I.K J.I (plainGet_of g1).1 (plainGet_of g1).2 hn rfl ?_
    exact get_value I.K J.I (plainGet_of g1).1 (findObj_own g2 hn g3 (J.yes _ _ hy)) (handed_val (J.val _ _ hy) hyb) (k _ _ _ (Later.tok I _) (J.val _ _ hy) .nil)
/-- an instance is called -/
theorem CallSem.inst {a C fs f as kas r} (ha : a.cls? = some (C, fs)) (hf : clsFn S.K C "__call__" f = true) (hfn : fnIn S.K f = true) (h : FnSem S n f (a :: as) kas r) : CallSem S n a as kas r :=
  fun A Z s v vs kvs R I B hv hvs hk hkv Q E k => by
    obtain ⟨x, d, es, nn, g, rfl, J⟩ := inst_at hv ha
    simp only [clsFn, Bool.and_eq_true, beq_iff_eq] at hf
    exact wpAny_call (kco_code I.K J.I rfl hf.1 hf.2 hfn (h A Z s _ _ _ R I B (.cons hv hvs) hk hkv fun v s' L hv' => k v s' L hv'))
end
section
open PySem PySem.Spec PySem.Calls PyProof.Rows PySem.W
variable {S : Sys} {n : Nat} {sc : Scope} {c : Addr} {ρ : Rho} {ow : Own}
/-- a special method that the class defines -/
theorem special_of {a C fs name f as r} (ha : a.cls? = some (C, fs)) (hf : clsFn S.K C name f = true) (h : FnSem S n f (a :: as) [] r) {A : Around} {Z : Addr → Prop} {s : Shared} {x : Addr} {d : Addr} {es : Array DictEntry} {nn : Nat} {g : Str → Value}
    (R : Room n A) (I : Inv S s) (B : Bd S Z s.heap) (J : InsAt s.heap Z x d C es nn fs g) (hv : Val Z s.heap (.ref x) a) {vs : List Value} (hvs : Vals Z s.heap vs as) {Q : Option Value → Shared → Prop} {E : Value → Shared → Prop}
    (k : ∀ v s', Later S s s' → Val Z s'.heap v r → Q (some v) s') : wpAny (model S.prog S.w) A (callSpecial? (.ref x) name vs) Q E s := by
  simp only [clsFn, Bool.and_eq_true, beq_iff_eq] at hf
  exact special_fn I.K J.I hf.1 (beq_iff_eq.mp hf.2) (wpAny_call (h A Z s _ _ _ R I B (.cons hv hvs) rfl .nil fun v s' L hv' => k v s' L hv'))
theorem bound_of {a C fs name f as r} (ha : a.cls? = some (C, fs)) (hf : clsFn S.K C name f = true) (h : FnSem S n f (a :: as) [] r) {A : Around} {Z : Addr → Prop} {s : Shared} {x : Addr} {d : Addr} {es : Array DictEntry} {nn : Nat} {g : Str → Value}
    (R : Room n A) (I : Inv S s) (B : Bd S Z s.heap) (J : InsAt s.heap Z x d C es nn fs g) (hv : Val Z s.heap (.ref x) a) {vs : List Value} (hvs : Vals Z s.heap vs as) {Q : Option Value → Shared → Prop} {E : Value → Shared → Prop}
    (k : ∀ v s', Later S s s' → Val Z s'.heap v r → Q (some v) s') : wpAny (model S.prog S.w) A (callSpecialIfBound? (.ref x) name vs) Q E s := by
  simp only [clsFn, Bool.and_eq_true, beq_iff_eq] at hf
  exact ifBound_K I.K J.I hf.1 hf.2 (wpAny_call (h A Z s _ _ _ R I B (.cons hv hvs) rfl .nil fun v s' L hv' => k v s' L hv'))
def AV.notNI : AV → Bool
  | .val .notImplemented => false
  | _ => true
theorem not_ni {Z h v a} (hv : Val Z h v a) (ha : a.notNI = true) : v ≠ .notImplemented := by
  cases hv with
  | val v => intro q; rw [q] at ha; cases ha
  | _ => intro q; cases q
theorem try_of {a C fs name f b r} (ha : a.cls? = some (C, fs)) (hf : clsFn S.K C name f = true) (h : FnSem S n f [a, b] [] r) (hr : r.notNI = true) {A : Around} {Z : Addr → Prop} {s : Shared} {x : Addr} {d : Addr} {es : Array DictEntry} {nn : Nat} {g : Str → Value}
    (R : Room n A) (I : Inv S s) (B : Bd S Z s.heap) (J : InsAt s.heap Z x d C es nn fs g) (hv : Val Z s.heap (.ref x) a) {v : Value} (hw : Val Z s.heap v b) {Q : Option Value → Shared → Prop} {E : Value → Shared → Prop}
    (k : ∀ v s', Later S s s' → Val Z s'.heap v r → Q (some v) s') : wpAny (model S.prog S.w) A (tryMethod (.ref x) name v) Q E s := by
  unfold tryMethod
  refine wpAny_bind (special_of ha hf h R I B J hv (.cons hw .nil) fun v s' L hv' => ?_)
  have := not_ni hv' hr
  cases v <;> first | exact absurd rfl this | exact wpAny_pure (k _ s' L hv')
/-- both of one class -/
theorem BinSem.same {op a b C fs gs f r} (ha : a.cls? = some (C, fs)) (hb : b.cls? = some (C, gs)) (hc : selfFirst S.K C = true) (hf : clsFn S.K C (PySem.dunder op.info.2) f = true) (h : FnSem S n f [a, b] [] r) (hr : r.notNI = true) : BinSem S n op a b r :=
  fun A Z s v w R I B hv hw Q E k => by
    obtain ⟨x, d, es, nn, g, rfl, J⟩ := inst_at hv ha
    obtain ⟨y, d', es', nn', g', rfl, J'⟩ := inst_at hw hb
    obtain ⟨cd, rest, hcd, hm⟩ := ksp_first hc
    have hf' := hf
    simp only [clsFn, Bool.and_eq_true, beq_iff_eq] at hf'
    unfold binaryOp
    refine wpAny_holding (wpAny_bind ?_)
    unfold binaryOp1
    refine wpAny_bind (J.I.type.here (wpAny_bind (J'.I.type.here (wpAny_bind ((fills_K I.K hcd hm hf'.1).here ?_)))))
    simp only [beq_self_eq_true, if_true]
    refine wpAny_bind (wpAny_pure ?_)
    simp only [Bool.and_false, Bool.false_eq_true, if_false, Bool.false_and]
    refine wpAny_bind (wpAny_pure ?_)
    simp only [Bool.false_eq_true, if_false]
    refine wpAny_bind (m := tryMethod (.ref x) _ _) ?_
    exact try_of ha hf h hr R I B J hv hw fun v s' L hv' => wpAny_pure (wpAny_pure (k v s' L hv'))
/-- what a class and a builtin type say of an operator -/
def opT (K : Frag) (C : Addr) (T nm : String) : Bool :=
  selfFirst K C && (match findIn K (.ref C) (dunderR nm) with | some none => true | some (some (.ref _)) => true | _ => false) &&
  (match findIn K (.type T) (PySem.dunder nm), findIn K (.type T) (dunderR nm) with | some _, some _ => true | _, _ => false) && subIn K (.type T) (.ref C) == some false && subIn K (.ref C) (.type T) == some false
theorem type_int {M : Model} {h : Heap} {i t} : Looks M h (typeOf (.int i t)) (.type "int") := Looks.of_pure rfl
/-- an instance and an int -/
theorem BinSem.instInt {op a i C fs f r} (ha : a.cls? = some (C, fs)) (hc : opT S.K C "int" op.info.2 = true) (hf : clsFn S.K C (PySem.dunder op.info.2) f = true) (h : FnSem S n f [a, .int i] [] r) (hr : r.notNI = true) : BinSem S n op a (.int i) r :=
  fun A Z s v w R I B hv hw Q E k => by
    obtain ⟨x, d, es, nn, g, rfl, J⟩ := inst_at hv ha
    have hw' := hw
    cases hw with | int _ t => ?_
    have hf' := hf
    simp only [clsFn, Bool.and_eq_true, beq_iff_eq] at hf'
    simp only [opT, Bool.and_eq_true, beq_iff_eq] at hc
    obtain ⟨⟨⟨⟨c1, c2⟩, c3⟩, c4⟩, c5⟩ := hc
    obtain ⟨cd, rest, hcd, hm⟩ := ksp_first c1
    obtain ⟨rc, hrc, hp⟩ : ∃ rc, findIn S.K (.ref C) (dunderR op.info.2) = some rc ∧ (rc = .none ∨ ∃ g : Addr, rc = some (.ref g)) := by
      split at c2
      · rename_i e; exact ⟨_, e, .inl rfl⟩
      · rename_i e; exact ⟨_, e, .inr ⟨_, rfl⟩⟩
      · cases c2
    obtain ⟨fo, ro, hfo, hro⟩ : ∃ fo ro, findIn S.K (.type "int") (PySem.dunder op.info.2) = some fo ∧ findIn S.K (.type "int") (dunderR op.info.2) = some ro := by
      split at c3
      · rename_i e1 e2; exact ⟨_, _, e1, e2⟩
      · cases c3
    have one : wpAny (model S.prog S.w) A (tryMethod (.ref x) (PySem.dunder op.info.2) (.int i t)) (fun r s' => ∃ v, r = some v ∧ Q v s') E s := try_of ha hf h hr R I B J hv hw' fun v s' L hv' => ⟨v, rfl, k v s' L hv'⟩
    rcases hi : op.info with ⟨sym, nm'⟩
    rw [hi] at hf' hrc hfo hro one
    dsimp only at hf' hrc hfo hro one
    have X := I.K
    obtain ⟨hh, gg, dd, tt, os⟩ := s
    have L1 : Looks (model S.prog S.w) hh (typeOf (.ref x)) (.ref C) := J.I.type
    have L2 : Looks (model S.prog S.w) hh (typeOf (.int i t)) (.type "int") := type_int
    have L3 : Looks (model S.prog S.w) hh (fillsNumberSlot (.ref C) nm') true := fills_K X hcd hm hf'.1
    have L4 : Looks (model S.prog S.w) hh (fillsNumberSlot (.type "int") nm') ((fo.isSome && !isSeqSlot fo) || (ro.isSome && !isSeqSlot ro)) := ksp_fillsT X hfo hro
    have L5 : Looks (model S.prog S.w) hh (isSubtype (.type "int") (.ref C)) false := looks_subIn X c4
    have L6 : Looks (model S.prog S.w) hh (numberSlotInPython (.ref C) nm') true := ksp_inPy X hf'.1 hrc hp
    have L7 : Looks (model S.prog S.w) hh (numberSlotInPython (.type "int") nm') false := Looks.of_pure rfl
    have L8 : Looks (model S.prog S.w) hh (typeLookup (.type "int") (dunderR nm')) ro := looks_findIn X hro
    generalize ((fo.isSome && !isSeqSlot fo) || (ro.isSome && !isSeqSlot ro)) = right at L4
    have hne : (Value.ref C == Value.type "int") = false := Bool.eq_false_iff.mpr fun q => by cases beq_iff_eq.mp q
    simp only [binaryOp, hi]
    refine wpAny_holding (wpAny_bind ?_)
    unfold binaryOp1
    refine wpAny_bind (L1.at (wpAny_bind (L2.at (wpAny_bind (L3.at ?_)))))
    simp only [hne, Bool.false_eq_true, if_false]
    cases right with
    | false =>
      ksp_lk
      refine wpAny_mono one (fun r s' hr' => ?_) fun _ _ e => e
      obtain ⟨v, rfl, hq⟩ := hr'
      ksp_lk
      exact hq
    | true =>
      ksp_lk
      refine wpAny_mono one (fun r s' hr' => ?_) fun _ _ e => e
      obtain ⟨v, rfl, hq⟩ := hr'
      ksp_lk
      exact hq
end
section
open PySem PySem.Spec PySem.Calls PyProof.Rows PySem.W
variable {S : Sys} {n : Nat} {sc : Scope} {c : Addr} {ρ : Rho} {ow : Own}
theorem int_add_ni {prog : Program} {w : World} {A : Around} {s : Shared} {E : Value → Shared → Prop} {i : Int} {t : Tok} {x : Addr} {o : Obj} {Q : Option Value → Shared → Prop} (hx : s.heap.get? x = some o) (hd : o.data = .plain) (k : Q .none s) :
    wpAny (model prog w) A (tryMethod (.int i t) (PySem.dunder "add") (.ref x)) Q E s := by
  unfold tryMethod
  refine wpAny_bind (m := callSpecial? (.int i t) (PySem.dunder "add") [.ref x]) ?_
  have hT : s.TypeIs (.int i t) "int" := typeIs_int s i t
  refine wpAny_callSpecial?_slot (T := "int") (id := "int.__add__") (name := PySem.dunder "add") hT F.slot_int_add ?_
  refine wpAny_call_entry (T := "int") (id := "int.__add__") (name := PySem.dunder "add") F.slot_int_add hT F.entry_int_add ?_ (F.args_int_add_2 _ _)
  unfold Builtin.«int.__add__» Builtin.Int.intBinary
  refine wpAny_bind (m := slotArgs _ _ _) (wpAny_of_eq (a := (.int i t, [.ref x])) rfl ?_)
  refine wpAny_bind (m := Builtin.Int.intOfSelf _) (wpAny_of_eq (a := i) rfl ?_)
  refine wpAny_bind (m := asInt? _) ?_
  unfold asInt?
  refine wpAny_bind (m := load x) (wpAny_load hx ?_)
  rw [hd]
  exact wpAny_pure (wpAny_bind (wpAny_rule (wpAny_pure ⟨_, rfl, wpAny_pure k⟩)))
theorem int_mul_ni {prog : Program} {w : World} {A : Around} {s : Shared} {E : Value → Shared → Prop} {i : Int} {t : Tok} {x : Addr} {o : Obj} {Q : Option Value → Shared → Prop} (hx : s.heap.get? x = some o) (hd : o.data = .plain) (k : Q .none s) :
    wpAny (model prog w) A (tryMethod (.int i t) (PySem.dunder "mul") (.ref x)) Q E s := by
  unfold tryMethod
  refine wpAny_bind (m := callSpecial? (.int i t) (PySem.dunder "mul") [.ref x]) ?_
  have hT : s.TypeIs (.int i t) "int" := typeIs_int s i t
  refine wpAny_callSpecial?_slot (T := "int") (id := "int.__mul__") (name := PySem.dunder "mul") hT F.slot_int_mul ?_
  refine wpAny_call_entry (T := "int") (id := "int.__mul__") (name := PySem.dunder "mul") F.slot_int_mul hT F.entry_int_mul ?_ (F.args_int_mul_2 _ _)
  unfold Builtin.«int.__mul__» Builtin.Int.intBinary
  refine wpAny_bind (m := slotArgs _ _ _) (wpAny_of_eq (a := (.int i t, [.ref x])) rfl ?_)
  refine wpAny_bind (m := Builtin.Int.intOfSelf _) (wpAny_of_eq (a := i) rfl ?_)
  refine wpAny_bind (m := asInt? _) ?_
  unfold asInt?
  refine wpAny_bind (m := load x) (wpAny_load hx ?_)
  rw [hd]
  exact wpAny_pure (wpAny_bind (wpAny_rule (wpAny_pure ⟨_, rfl, wpAny_pure k⟩)))
/-- an int and an instance: the reflected method -/
theorem refl_int {op : Operator} {sym nm : String} {i : Int} {a : AV} {C fs f r} (hi : op.info = (sym, nm)) (ha : a.cls? = some (C, fs)) (hc : opT S.K C "int" nm = true) (hcf : ∃ f', findIn S.K (.ref C) (PySem.dunder nm) = some (some (.ref f'))) (hf : clsFn S.K C (dunderR nm) f = true) (h : FnSem S n f [a, .int i] [] r) (hr : r.notNI = true)
    (hfi : fillsNumberSlot (.type "int") nm = pure true)
    (ni : ∀ {A : Around} {s : Shared} {E : Value → Shared → Prop} {t : Tok} {x : Addr} {o : Obj} {Q : Option Value → Shared → Prop}, s.heap.get? x = some o → o.data = .plain → Q .none s → wpAny (model S.prog S.w) A (tryMethod (.int i t) (PySem.dunder nm) (.ref x)) Q E s) : BinSem S n op (.int i) a r :=
  fun A Z s v w R I B hv hw Q E k => by
    obtain ⟨x, d, es, nn, g, rfl, J⟩ := inst_at hw ha
    have hv' := hv
    cases hv with | int _ t => ?_
    simp only [opT, Bool.and_eq_true, beq_iff_eq] at hc
    obtain ⟨⟨⟨⟨c1, c2⟩, c3⟩, c4⟩, c5⟩ := hc
    obtain ⟨cd, rest, hcd, hm⟩ := ksp_first c1
    obtain ⟨f', hcf⟩ := hcf
    have two : wpAny (model S.prog S.w) A (tryMethod (.ref x) (dunderR nm) (.int i t)) (fun r s' => ∃ v, r = some v ∧ Q v s') E s := try_of ha hf h hr R I B J hw hv' fun v s' L hv' => ⟨v, rfl, k v s' L hv'⟩
    have X := I.K
    obtain ⟨hh, gg, dd, tt, os⟩ := s
    have one : wpAny (model S.prog S.w) A (tryMethod (.int i t) (PySem.dunder nm) (.ref x)) (fun r s' => r = .none ∧ s' = ⟨hh, gg, dd, tt, os⟩) E ⟨hh, gg, dd, tt, os⟩ := ni J.I.at_ rfl ⟨rfl, rfl⟩
    have L1 : Looks (model S.prog S.w) hh (typeOf (.ref x)) (.ref C) := J.I.type
    have L2 : Looks (model S.prog S.w) hh (typeOf (.int i t)) (.type "int") := type_int
    have L3 : Looks (model S.prog S.w) hh (fillsNumberSlot (.ref C) nm) true := fills_K X hcd hm hcf
    have L4 : Looks (model S.prog S.w) hh (fillsNumberSlot (.type "int") nm) true := Looks.of_pure hfi
    have L5 : Looks (model S.prog S.w) hh (isSubtype (.ref C) (.type "int")) false := looks_subIn X c5
    have L7 : Looks (model S.prog S.w) hh (numberSlotInPython (.type "int") nm) false := Looks.of_pure rfl
    have hne : (Value.type "int" == Value.ref C) = false := Bool.eq_false_iff.mpr fun q => by cases beq_iff_eq.mp q
    simp only [binaryOp, hi]
    refine wpAny_holding (wpAny_bind ?_)
    unfold binaryOp1
    refine wpAny_bind (L2.at (wpAny_bind (L1.at (wpAny_bind (L4.at ?_)))))
    simp only [hne, Bool.false_eq_true, if_false]
    ksp_lk
    refine wpAny_mono one (fun r s' hr' => ?_) fun _ _ e => e
    obtain ⟨rfl, rfl⟩ := hr'
    ksp_lk
    refine wpAny_mono two (fun r s' hr' => ?_) fun _ _ e => e
    obtain ⟨v, rfl, hq⟩ := hr'
    ksp_lk
    first | exact hq | (refine wpAny_rule ?_; ksp_lk; exact hq)
theorem BinSem.intMul {i a C fs f r} (ha : a.cls? = some (C, fs)) (hc : opT S.K C "int" "mul" = true) (hcf : ∃ f', findIn S.K (.ref C) (PySem.dunder "mul") = some (some (.ref f'))) (hf : clsFn S.K C (dunderR "mul") f = true) (h : FnSem S n f [a, .int i] [] r) (hr : r.notNI = true) : BinSem S n .Mult (.int i) a r :=
  refl_int (sym := _) rfl ha hc hcf hf h hr F.fills_int_mul int_mul_ni
theorem BinSem.intAdd {i a C fs f r} (ha : a.cls? = some (C, fs)) (hc : opT S.K C "int" "add" = true) (hcf : ∃ f', findIn S.K (.ref C) (PySem.dunder "add") = some (some (.ref f'))) (hf : clsFn S.K C (dunderR "add") f = true) (h : FnSem S n f [a, .int i] [] r) (hr : r.notNI = true) : BinSem S n .Add (.int i) a r :=
  refl_int (sym := _) rfl ha hc hcf hf h hr F.fills_int_add int_add_ni
end
section
open PySem PySem.Spec PySem.Calls PyProof.Rows PySem.W
variable {S : Sys} {n : Nat} {sc : Scope} {c : Addr} {ρ : Rho} {ow : Own}
theorem Room.in1 {A : Around} (h : Room (n + 1) A) : Room n A.in1 := ⟨h.hd, by have := h.depth; simp; omega, by have := h.units; simp; omega⟩
theorem compare_same {op : CmpOp} {A : Around} {s : Shared} {x y C d d' : Addr} {es es' nn nn' fs gs g g' Z Z'} {Q : Value → Shared → Prop} {E : Value → Shared → Prop} (hop : ∀ a b, compareOp op a b = richCompare op a b) (hu : A.units < cLine) (J : InsAt s.heap Z x d C es nn fs g) (J' : InsAt s.heap Z' y d' C es' nn' gs g')
    (h : wpAny (model S.prog S.w) A (tryCompare (.ref x) (cmpInfo op).2.1 (.ref y)) (fun r s' => ∃ v, r = some v ∧ Q v s') E s) : wpAny (model S.prog S.w) A (compareOp op (.ref x) (.ref y)) Q E s := by
  rw [hop]
  unfold richCompare
  simp only [oneThing_ref]
  refine wpAny_holding (wpAny_bind (wpAny_cRoomFor hu ?_))
  refine wpAny_bind (J.I.type.here (wpAny_bind (J'.I.type.here ?_)))
  rw [show (Value.ref C != Value.ref C) = false from by simp]
  simp only [Bool.false_eq_true, if_false]
  refine wpAny_bind (wpAny_pure ?_)
  simp only [Bool.false_eq_true, if_false]
  refine wpAny_bind (wpAny_mono h (fun r s' z => ?_) fun _ _ e => e)
  obtain ⟨v, rfl, hq⟩ := z
  exact wpAny_pure hq
/-- an instance whose class leaves != to object -/
def neObj (K : Frag) (C : Addr) : Bool := findIn K (.ref C) "__ne__" == some (some (.builtin "object.__ne__")) && mroIn K C (.type "object") == some true
theorem ne_open {a : AV} {C : Addr} {fs : List (Str × AV)} (ha : a.cls? = some (C, fs)) (hn : neObj S.K C = true) {A : Around} {s : Shared} {x y d : Addr} {es nn g Z} {Q : Option Value → Shared → Prop} {E : Value → Shared → Prop} (I : Inv S s) (hu : A.units + 1 < cLine) (J : InsAt s.heap Z x d C es nn fs g)
    (h : wpAny (model S.prog S.w) A.in1 (callSpecialIfBound? (.ref x) "__eq__" [.ref y]) (fun v s' => ∃ b, v = some (.bool b) ∧ Q (some (.bool (!b))) s') E s) : wpAny (model S.prog S.w) A (tryCompare (.ref x) "__ne__" (.ref y)) Q E s := by
  simp only [neObj, Bool.and_eq_true, beq_iff_eq] at hn
  unfold tryCompare
  refine wpAny_bind ?_
  simp only [callSpecialIfBound?, bindSpecialIfBound?]
  refine wpAny_holding (wpAny_bind (wpAny_bind (wpAny_bind (J.I.type.here ((looks_findIn I.K hn.1).here ?_)))))
  simp only [PySem.F.cmp_object.ne.bind]
  refine wpAny_bind (wpAny_askSetting (wpAny_ite ?_))
  have go : wpAny (model S.prog S.w) A (call (.builtin "object.__ne__") ([.ref x] ++ [.ref y])) (fun v s' => ∃ b, v = .bool b ∧ Q (some (.bool b)) s') E s := by
    refine wpAny_call (codeAny_call_builtin PySem.F.cmp_object.ne.plain PySem.F.cmpEntry_ne (check_slot PySem.F.cmpKind_ne PySem.F.cmpSplit_ne (J.I.type.andThen (looks_mroIn I.K hn.2)) (PySem.F.cmpArgs_ne _ _) ?_))
    unfold Builtin.«object.__ne__»
    refine wpAny_bind (m := slotArgs _ _ _) (wpAny_of_eq (a := (.ref x, [.ref y])) rfl ?_)
    refine wpAny_bind (wpAny_cRoomFor hu ?_)
    refine wpAny_bind (m := callSpecialIfBound? (.ref x) (Str.ofString "__eq__") [.ref y]) (wpAny_mono h (fun v s' hv => ?_) fun _ _ e => e)
    obtain ⟨b, rfl, hq⟩ := hv
    exact wpAny_bind (wpAny_truthy_bool (wpAny_pure ⟨_, rfl, hq⟩))
  have fin : wpAny (model S.prog S.w) A (call (.builtin "object.__ne__") ([.ref x] ++ [.ref y]) >>= fun v => pure (some v)) (fun r s₁ => wpAny (model S.prog S.w) A (match r with | some .notImplemented | .none => pure .none | some v => pure (some v) : Sem (Option Value)) Q E s₁) E s := by
    refine wpAny_bind (wpAny_mono go (fun v s' z => ?_) fun _ _ z => z)
    obtain ⟨b, rfl, hq⟩ := z
    exact wpAny_pure (wpAny_pure hq)
  split
  · exact wpAny_bind (wpAny_pure (wpAny_pure fin))
  · exact wpAny_tryCatch (wpAny_bind (wpAny_pure (wpAny_pure fin)))
theorem CmpSem.instNe {a b C fs gs f r} (ha : a.cls? = some (C, fs)) (hb : b.cls? = some (C, gs)) (hf : clsFn S.K C "__eq__" f = true) (hn : neObj S.K C = true) (h : FnSem S n f [a, b] [] (.bool r)) : CmpSem S (n + 1) .NotEq a b (.bool (!r)) :=
  fun A Z s v w R I B hv hw Q E k => by
    obtain ⟨x, d, es, nn, g, rfl, J⟩ := inst_at hv ha
    obtain ⟨y, d', es', nn', g', rfl, J'⟩ := inst_at hw hb
    refine compare_same (fun _ _ => rfl) R.u J J' ?_
    refine ne_open ha hn I (by have := R.units; unfold cLine; omega) J ?_
    refine bound_of ha hf h R.in1 I B J hv (.cons hw .nil) fun v s' L hv' => ?_
    cases hv'
    exact ⟨_, rfl, _, rfl, k _ s' L (.bool _)⟩
/-- one and the same object, of a class that leaves == and != to object -/
theorem CmpSem.selfNe {x C fs} (hn : neObj S.K C = true) (he : findIn S.K (.ref C) "__eq__" = some (some (.builtin "object.__eq__"))) : CmpSem S (n + 1) .NotEq (.obj x C fs) (.obj x C fs) (.bool false) :=
  fun A Z s v w R I B hv hw Q E k => by
    have ha : (AV.obj x C fs).cls? = some (C, fs) := rfl
    cases hv with | obj f _ _ hg hd h1 h2 h3 => ?_
    cases hw with | obj f' b1 b2 hg' hd' h1' h2' h3' => ?_
    obtain ⟨x', d, es, nn, g, e, J⟩ := inst_at (Val.obj f' b1 b2 hg' hd' h1' h2' h3') ha
    cases e
    refine compare_same (fun _ _ => rfl) R.u J J ?_
    refine ne_open ha hn I (by have := R.units; unfold cLine; omega) J ?_
    have hn' := hn
    simp only [neObj, Bool.and_eq_true, beq_iff_eq] at hn'
    simp only [callSpecialIfBound?, bindSpecialIfBound?]
    refine wpAny_holding (wpAny_bind (wpAny_bind (wpAny_bind (J.I.type.here ((looks_findIn I.K he).here ?_)))))
    simp only [PySem.F.cmp_object.eq.bind]
    refine wpAny_bind (wpAny_askSetting (wpAny_ite ?_))
    have go : wpAny (model S.prog S.w) A.in1 (call (.builtin "object.__eq__") ([.ref x] ++ [.ref x])) (fun v s' => v = .bool true ∧ s' = s) E s := by
      refine wpAny_call (codeAny_call_builtin PySem.F.cmp_object.eq.plain PySem.F.cmpEntry_eq (check_slot PySem.F.cmpKind_eq PySem.F.cmpSplit_eq (J.I.type.andThen (looks_mroIn I.K hn'.2)) (PySem.F.cmpArgs_eq _ _) ?_))
      exact objEq_entry_same ⟨rfl, rfl⟩
    have fin : wpAny (model S.prog S.w) A.in1 (call (.builtin "object.__eq__") ([.ref x] ++ [.ref x]) >>= fun v => pure (some v)) (fun v s' => ∃ b, v = some (Value.bool b) ∧ (∃ v, some (Value.bool (!b)) = some v ∧ Q v s')) E s := by
      refine wpAny_bind (wpAny_mono go (fun v s' z => ?_) fun _ _ z => z)
      obtain ⟨rfl, rfl⟩ := z
      exact wpAny_pure ⟨_, rfl, _, rfl, k _ _ (Later.refl I) (.bool _)⟩
    split
    · exact wpAny_bind (wpAny_pure (wpAny_pure fin))
    · exact wpAny_tryCatch (wpAny_bind (wpAny_pure (wpAny_pure fin)))
end
section
open PySem PySem.Spec PySem.Calls PyProof.Rows PySem.W
variable {S : Sys} {n : Nat} {sc : Scope} {c : Addr} {ρ : Rho} {ow : Own}
/-! subscripts -/
/-- the subscript is no slice -/
abbrev NoSlice (slice : Expr) : Prop := ∀ b o i, subscripted slice b o i = if b then runValue (.builtin "lifetime.subscript" ⟨[o, i], []⟩) else operate [o, i] (getItem o i)
def SubSem (S : Sys) (n : Nat) (a i r : AV) : Prop :=
  ∀ A Z s v w value slice, NoSlice slice → Room n A → Inv S s → Bd S Z s.heap → Val Z s.heap v a → Val Z s.heap w i → Gives S A Z s (subscriptTail value slice v w) r
theorem Ev.sub' {value slice pos a i r} (h1 : Ev S n sc c ρ value a) (h2 : Ev S n sc c ρ slice i) (h3 : SubSem S n a i r) (hs : NoSlice slice := by intro b _ _; cases b <;> rfl) : Ev S n sc c ρ (.Subscript value slice pos) r :=
  fun A env Z s R ei F I Q E k => Subscript_ (h1 A env Z s R ei F I _ _ fun v s1 L1 v1 => h2 A env Z s1 R ei (F.keep L1.keep) L1.inv _ _ fun w s2 L2 v2 =>
    h3 A Z s2 v w _ _ hs R L2.inv (F.bd.keep (L1.trans L2).keep) (v1.keep L2.keep) v2 _ _ fun y s3 L3 v3 => k y s3 ((L1.trans L2).trans L3) v3)
def atI {α : Type} (l : List α) (k : Int) : Option α := if 0 ≤ k then l[k.toNat]? else if -(l.length : Int) ≤ k then l[(k + l.length).toNat]? else none
theorem vals_at {Z h vs as} (hv : Vals Z h vs as) {i : Nat} {x} (hx : as[i]? = some x) : ∃ v, vs[i]? = some v ∧ Val Z h v x := by
  have hi : i < as.length := (List.getElem?_eq_some_iff.mp hx).1
  have : i < vs.length := by rw [hv.1]; exact hi
  exact ⟨vs[i], List.getElem?_eq_getElem this, hv.2 i _ x (List.getElem?_eq_getElem this) hx⟩
theorem SubSem.list {l k x} (hx : atI l k = some x) : SubSem S n (.lst l) (.int k) x :=
  fun A Z s v w value slice hs R I B hv hw Q E h => by
    obtain ⟨a, vs, kk, rfl, hz, hg, hvs, hb⟩ := list_sub hv
    cases hw with | int _ t => ?_
    have hl : s.heap.IsList a vs.toArray := ⟨_, hg, rfl, kk, rfl⟩
    unfold atI at hx
    have hs' : subscripted slice false (.ref a) (.int k t) = operate [.ref a, .int k t] (getItem (.ref a) (.int k t)) := hs _ _ _
    split at hx
    · rename_i h0
      obtain ⟨u, hu, hu'⟩ := vals_at hvs hx
      have hlt := (List.getElem?_eq_some_iff.mp hx).1
      exact item_listR hl h0 (by omega) (by simpa using hu) (h u s (Later.refl I) hu') hs'
    · rename_i h0
      split at hx
      · rename_i h1
        obtain ⟨u, hu, hu'⟩ := vals_at hvs hx
        have hsz : vs.toArray.size = l.length := by simp [hvs.1]
        exact subscriptTail_builtinR hl.typeIs slot_list_getitem.lookup (wpAny_getItem_list_neg (Q := fun r s' => r = u ∧ Q r s') hl (by omega) (by rw [hsz]; exact h1) (by omega) (by rw [hsz]; simpa using hu) ⟨rfl, h u s (Later.refl I) hu'⟩) hs'
      · cases hx
theorem tup_sub {Z : Addr → Prop} {h : Heap} {v as} (x : Val Z h v (.tup as)) : ∃ a vs k, v = .ref a ∧ ¬ Z a ∧ h.get? a = some (tupO vs k) ∧ Vals Z h vs as ∧ as.length ≤ 1000 := by
  cases x with
  | tup hz hg hl hb hv => exact ⟨_, _, _, rfl, hz, hg, ⟨hl, hv⟩, hl ▸ hb⟩
theorem SubSem.tup {l k x} (h0 : 0 ≤ k) (hx : l[k.toNat]? = some x) : SubSem S n (.tup l) (.int k) x :=
  fun A Z s v w value slice hs R I B hv hw Q E h => by
    obtain ⟨a, vs, kk, rfl, hz, hg, hvs, hb⟩ := tup_sub hv
    cases hw with | int _ t => ?_
    have ht : IsTup s.heap a vs.toArray := ⟨_, hg, rfl, kk, rfl⟩
    have hs' : subscripted slice false (.ref a) (.int k t) = operate [.ref a, .int k t] (getItem (.ref a) (.int k t)) := hs _ _ _
    obtain ⟨u, hu, hu'⟩ := vals_at hvs hx
    have hlt := (List.getElem?_eq_some_iff.mp hx).1
    refine subscriptTail_builtinR ht.typeIs slot_tuple_getitem.lookup (getItem_tuple (Q := fun r s' => r = u ∧ Q r s') (j := k.toNat) ht (by omega) (by omega) ?_ (by simpa using hu) ⟨rfl, h u s (Later.refl I) hu'⟩) hs'
    unfold seqIndex?
    have e1 : ¬ k < 0 := by omega
    have e2 : vs.toArray.size = l.length := by simp [hvs.1]
    rw [if_neg e1, e2, if_pos (by simp; omega)]
theorem SubSem.inst {a C fs f i r} (ha : a.cls? = some (C, fs)) (hf : clsFn S.K C "__getitem__" f = true) (hfn : fnIn S.K f = true) (h : FnSem S n f [a, i] [] r) : SubSem S (n + 1) a i r :=
  fun A Z s v w value slice hs R I B hv hw Q E k => by
    obtain ⟨x, d, es, nn, g, rfl, J⟩ := inst_at hv ha
    have hf' := hf
    simp only [clsFn, Bool.and_eq_true, beq_iff_eq] at hf'
    unfold fnIn at hfn
    split at hfn
    · rename_i e
      unfold subscriptTail getitemInPython
      refine wpAny_bind (wpAny_bind (wpAny_bind (J.I.type.here ((looks_findIn I.K hf'.1).here ?_))))
      dsimp only
      refine wpAny_bind (wpAny_load (I.K _ _ e) (wpAny_pure ?_))
      dsimp only
      rw [hs]
      simp only [if_true]
      refine wpAny_bind (wpAny_runValue (codeAny_builtin entry_sub ?_))
      rw [Around.under_plain (by kernel_rfl) (by kernel_rfl)]
      unfold Builtin.«lifetime.subscript»
      refine wpAny_bind (special_of ha hf h R.in1 I B J hv (.cons hw .nil) fun v s' L hv' => ?_)
      refine wpAny_pure ?_
      show wpAny _ A (letTemporaryGo value (.ref x) v >>= fun _ => pure v) Q E s'
      exact wpAny_bind (wpAny_letTemporaryGo (wpAny_pure (k v s' L hv')))
    · cases hfn
/-! slices -/
inductive EvPart (S : Sys) (n : Nat) (sc : Scope) (c : Addr) (ρ : Rho) : Option Expr → Option Int → Prop
  | none : EvPart S n sc c ρ none none
  | some {e i} : Ev S n sc c ρ e (.int i) → EvPart S n sc c ρ (some e) (some i)
theorem EvPart.run {e lo} (h : EvPart S n sc c ρ e lo) {A env Z s} (R : Room n A) (ei : EnvIs env sc c) (F : Frame S Z env s.heap ρ) (I : Inv S s) {Q : Value → Shared → Prop} {E : Value → Shared → Prop} (k : ∀ v s', Later S s s' → IsPart v lo → Q v s') :
    wpAny (model S.prog S.w) A (evalPart e env) Q E s := by
  cases h with
  | none => rw [evalPart_none]; exact wpAny_pure (k _ s (Later.refl I) .none)
  | some h => rw [evalPart_some]; exact h A env Z s R ei F I _ _ fun v s' L hv => by cases hv; exact k _ s' L (.int _ _)
def pickI {α : Type} (l : List α) (lo hi : Option Int) : List α :=
  (sliceRange (sliceBounds lo hi Option.none l.length).1 (sliceBounds lo hi Option.none l.length).2.1 (sliceBounds lo hi Option.none l.length).2.2).filterMap (l[·]?)
theorem vals_pick {Z h vs as} (hv : Vals Z h vs as) : ∀ (is : List Nat), Vals Z h (is.filterMap (vs.toArray[·]?)) (is.filterMap (as[·]?))
  | [] => .nil
  | i :: is => by
    have ih := vals_pick hv is
    simp only [List.filterMap_cons, List.getElem?_toArray] at ih ⊢
    cases q : as[i]? with
    | none =>
      have : vs[i]? = .none := by rw [List.getElem?_eq_none_iff] at q ⊢; rw [hv.1]; exact q
      rw [this]; exact ih
    | some x =>
      obtain ⟨u, hu, hu'⟩ := vals_at hv q
      rw [hu]; exact .cons hu' ih
theorem Ev.slice {value lower upper p pos l lo hi} (h1 : Ev S n sc c ρ value (.lst l)) (h2 : EvPart S n sc c ρ lower lo) (h3 : EvPart S n sc c ρ upper hi) :
    Ev S n sc c ρ (.Subscript value (.Slice lower upper Option.none p) pos) (.lst (pickI l lo hi)) :=
  fun A env Z s R ei F I Q E k => by
    rw [eval_Subscript]
    refine wpAny_bind (h1 A env Z s R ei F I _ _ fun v s1 L1 v1 => wpAny_bind (wpAny_holding (wpAny_Slice ?_)))
    refine h2.run R ei (F.keep L1.keep) L1.inv fun vl s2 L2 p2 => h3.run R ei (F.keep (L1.trans L2).keep) L2.inv fun vu s3 L3 p3 => ?_
    rw [evalPart_none]
    refine wpAny_pure (wpAny_bind (wpAny_standAt ?_))
    obtain ⟨a, vs, kk, rfl, hz, hg, hvs, hb⟩ := list_sub ((v1.keep L2.keep).keep L3.keep)
    have hl : s3.heap.IsList a vs.toArray := ⟨_, hg, rfl, kk, rfl⟩
    have L4 := Later.grow (t := s3.toks) L3.inv (h' := s3.heap.push { cls := .type "slice", data := .fields #[vl, vu, .none] }) fun _ _ e => Heap.get?_push_of_some _ e
    rw [getitemInPython_of_ne (Heap.IsList.typeIs (s := { s3 with heap := s3.heap.push { cls := .type "slice", data := .fields #[vl, vu, .none] } }) (hl.push _)).not_modules]
    refine wpAny_bind (wpAny_bind (wpAny_specialOf (Heap.IsList.typeIs (s := { s3 with heap := s3.heap.push { cls := .type "slice", data := .fields #[vl, vu, .none] } }) (hl.push _)) list_getitem_lookup ?_))
    refine wpAny_pure ?_
    show wpAny _ A (operate [_, _] (getItem _ _) >>= _) _ _ _
    have L5 := Later.grow (t := s3.toks) L4.inv (h' := (s3.heap.push { cls := .type "slice", data := .fields #[vl, vu, .none] }).push { cls := .type "list", data := .seq (slicePick vs.toArray lo hi Option.none) }) fun _ _ e => Heap.get?_push_of_some _ e
    refine wpAny_bind (wpAny_operating (wpAny_getItem_list_slice (hl.push _) (Heap.IsSliceOf.new ..) p2 p3 .none (by simp) (wpAny_bind (wpAny_letTemporaryGo (wpAny_pure (k _ _ ((((L1.trans L2).trans L3).trans L4).trans L5) ?_))))
      (by have := hvs.1; unfold sizeLine; simp; omega)))
    have hpk : Vals Z s3.heap (slicePick vs.toArray lo hi Option.none).toList (pickI l lo hi) := by
      unfold slicePick pickI
      have e : vs.toArray.size = l.length := by simp [hvs.1]
      rw [e]
      exact vals_pick hvs _
    have hlen : (pickI l lo hi).length ≤ 1000 := by
      have := slicePick_size_le vs.toArray lo hi Option.none
      have e := hpk.1
      have e2 := hvs.1
      simp at this e; omega
    have := (F.keep ((((L1.trans L2).trans L3).trans L4)).keep).bd.not (fresh _)
    refine .lst (vs := (slicePick vs.toArray lo hi Option.none).toList) (n := 0) this ?_ hpk.1 (hpk.1 ▸ hlen) ((hpk.keep L4.keep).keep L5.keep).2
    rw [Heap.get?_push_size _ rfl]
end
section
open PySem PySem.Spec PySem.Calls PyProof.Rows PySem.W
variable {S : Sys} {n : Nat} {sc : Scope} {c : Addr} {ρ : Rho} {ow : Own}
theorem call_open {id p args kws pos fa as kas} (h1 : Ev S n sc c ρ (.Name id p) fa) (ha : EvA S n sc c ρ args kws as kas) (hk : KeepsV S fa) {A env Z s} {Q : Value → Shared → Prop} {E : Value → Shared → Prop} (R : Room n A) (ei : EnvIs env sc c) (F : Frame S Z env s.heap ρ) (I : Inv S s)
    (k : ∀ v (a : Args) s', Later S s s' → Val Z s'.heap v fa → Vals Z s'.heap a.pos as → a.kw.map (·.1) = kas.map (·.1) → Vals Z s'.heap (a.kw.map (·.2)) (kas.map (·.2)) → wpAny (model S.prog S.w) A (call v a.pos a.kw) Q E s') :
    wpAny (model S.prog S.w) A (eval (.Call (.Name id p) args kws pos) env) Q E s :=
  wpAny_Call_Name_kw (h1 A env Z s R ei F I _ _ fun v s1 L1 v1 => by
    refine hk A Z _ v pos [] _ _ Q E s1 v1 (ha A env Z s1 pos v (fun _ _ => True) E R ei (F.keep L1.keep) L1.inv).1 ?_
    refine (ha A env Z s1 pos v _ E R ei (F.keep L1.keep) L1.inv).2 fun a s2 L2 h2 h3 h4 => ⟨L2.inv.K, v1.keep L2.keep, ?_⟩
    exact k v a s2 (L1.trans L2) (v1.keep L2.keep) h2 h3 h4)
theorem vals_one {Z h vs a} (h1 : Vals Z h vs [a]) : ∃ v, vs = [v] ∧ Val Z h v a := by
  obtain ⟨v, r, rfl, hv, hr⟩ := h1.of_cons
  rw [hr.length_nil]; exact ⟨v, rfl, hv⟩
theorem vals_two {Z h vs a b} (h1 : Vals Z h vs [a, b]) : ∃ v w, vs = [v, w] ∧ Val Z h v a ∧ Val Z h w b := by
  obtain ⟨v, r, rfl, hv, hr⟩ := h1.of_cons
  obtain ⟨w, rfl, hw⟩ := vals_one hr
  exact ⟨v, w, rfl, hv, hw⟩
theorem nil_of {kvs : List (Str × Value)} (h : kvs.map (·.1) = ([] : List (Str × AV)).map (·.1)) : kvs = [] := by
  cases kvs with
  | nil => rfl
  | cons => simp at h
theorem CallSem.len {l} : CallSem S n (.val (.builtin "len")) [.lst l] [] (.int l.length) :=
  fun A Z s v vs kvs R I B hv hvs hk hkv Q E h => by
    cases hv
    obtain ⟨u, rfl, hu⟩ := vals_one hvs
    cases nil_of hk
    obtain ⟨a, ws, kk, rfl, hz, hg, hws, hb⟩ := list_sub hu
    have hl : s.heap.IsList a ws.toArray := ⟨_, hg, rfl, kk, rfl⟩
    have e : ws.toArray.size = l.length := by simp [hws.1]
    refine call_len_list hl (by rw [e]; omega) (h _ _ (Later.tok I _) ?_)
    rw [e]; exact .int _ _
theorem CallSem.abs {i} : CallSem S n (.val (.builtin "abs")) [.int i] [] (.int (if i < 0 then -i else i)) :=
  fun A Z s v vs kvs R I B hv hvs hk hkv Q E h => by
    cases hv
    obtain ⟨u, rfl, hu⟩ := vals_one hvs
    cases nil_of hk
    cases hu
    exact call_abs_int fun u tk => h _ _ (Later.tok I _) (.int _ _)
/-! isinstance -/
theorem CallSem.isList {l} : CallSem S n (.val (.builtin "isinstance")) [.lst l, .val (.type "list")] [] (.bool true) :=
  fun A Z s v vs kvs R I B hv hvs hk hkv Q E h => by
    cases hv
    obtain ⟨u, t, rfl, hu, ht⟩ := vals_two hvs
    cases nil_of hk
    cases ht
    obtain ⟨a, ws, kk, rfl, hz, hg, hws, hb⟩ := list_sub hu
    exact call_isinstance_yes (Tx := "list") ⟨_, hg, rfl⟩ (by kernel_rfl) (by rw [isSubtype_type]; kernel_rfl) (h _ _ (Later.refl I) (.bool _))
theorem CallSem.isTuple {l} : CallSem S n (.val (.builtin "isinstance")) [.tup l, .val (.type "tuple")] [] (.bool true) :=
  fun A Z s v vs kvs R I B hv hvs hk hkv Q E h => by
    cases hv
    obtain ⟨u, t, rfl, hu, ht⟩ := vals_two hvs
    cases nil_of hk
    cases ht
    obtain ⟨a, ws, kk, rfl, hz, hg, hws, hb⟩ := tup_sub hu
    exact call_isinstance_yes (Tx := "tuple") ⟨_, hg, rfl⟩ (by kernel_rfl) (by rw [isSubtype_type]; kernel_rfl) (h _ _ (Later.refl I) (.bool _))
theorem CallSem.isInt {i} : CallSem S n (.val (.builtin "isinstance")) [.int i, .val (.type "int")] [] (.bool true) :=
  fun A Z s v vs kvs R I B hv hvs hk hkv Q E h => by
    cases hv
    obtain ⟨u, t, rfl, hu, ht⟩ := vals_two hvs
    cases nil_of hk
    cases ht
    cases hu
    exact call_isinstance_yes (Tx := "int") (typeIs_int s _ _) (by kernel_rfl) (by rw [isSubtype_type]; kernel_rfl) (h _ _ (Later.refl I) (.bool _))
theorem CallSem.listInt {l} : CallSem S n (.val (.builtin "isinstance")) [.lst l, .val (.type "int")] [] (.bool false) :=
  fun A Z s v vs kvs R I B hv hvs hk hkv Q E h => by
    cases hv
    obtain ⟨u, t, rfl, hu, ht⟩ := vals_two hvs
    cases nil_of hk
    cases ht
    obtain ⟨a, ws, kk, rfl, hz, hg, hws, hb⟩ := list_sub hu
    exact PySem.call_isinstance (isinstance_false_list (by decide) (by kernel_rfl) (by rw [isSubtype_type]; kernel_rfl)) ⟨⟨_, hg, rfl⟩, h _ _ (Later.tok I _) (.bool _)⟩
theorem CallSem.isInst {a C D fs} (ha : a.cls? = some (C, fs)) (e : isIn S.K (.ref C) D = true) : CallSem S n (.val (.builtin "isinstance")) [a, .val (.ref D)] [] (.bool true) :=
  fun A Z s v vs kvs R I B hv hvs hk hkv Q E h => by
    cases hv
    obtain ⟨u, t, rfl, hu, ht⟩ := vals_two hvs
    cases nil_of hk
    cases ht
    obtain ⟨x, d, es, nn, g, rfl, J⟩ := inst_at hu ha
    exact isi_call I.K (fun M => J.I.type) e (by intro q; cases q) (h _ _ (Later.refl I) (.bool _))
theorem CallSem.intInst {i D} (e : isNotIn S.K "int" D = true) : CallSem S n (.val (.builtin "isinstance")) [.int i, .val (.ref D)] [] (.bool false) :=
  fun A Z s v vs kvs R I B hv hvs hk hkv Q E h => by
    cases hv
    obtain ⟨u, t, rfl, hu, ht⟩ := vals_two hvs
    cases nil_of hk
    cases ht
    cases hu
    exact isn_call (P := fun _ => True) I.K (fun M => Looks.of_pure rfl) e (by intro q; cases q) trivial int_cls (h _ _ (Later.tok I _) (.bool _))
theorem CallSem.typeOf {a C fs} (ha : a.cls? = some (C, fs)) : CallSem S n (.val (.type "type")) [a] [] (.val (.ref C)) :=
  fun A Z s v vs kvs R I B hv hvs hk hkv Q E h => by
    cases hv
    obtain ⟨u, rfl, hu⟩ := vals_one hvs
    cases nil_of hk
    obtain ⟨x, d, es, nn, g, rfl, J⟩ := inst_at hu ha
    obtain ⟨hh, gg, dd, tt, os⟩ := s
    exact call_type_obj J.I.at_ rfl (h _ _ (Later.refl I) (.val _))
/-! range -/
theorem rangeSize_nat {a b : Int} (h : a ≤ b) : Builtin.Range.rangeSize a b 1 = ((b - a).toNat : Int) := by
  rw [rangeSize_one]; split <;> omega
theorem iter_range {A : Around} {Z : Addr → Prop} {s s1 : Shared} {r : Addr} {a b : Int} {t u v : Tok} {as : List AV} {Q : Value → Shared → Prop} {E : Value → Shared → Prop} (L1 : Later S s s1) (B : Bd S Z s1.heap) (hr : IsRange s1.heap r a b 1 t u v) (hab : a ≤ b) (ha : -(2 ^ 62) ≤ a) (hb : b < 2 ^ 62)
    (hlen : as.length = (b - a).toNat) (has : ∀ (i : Nat) x, as[i]? = some x → x = .int (a + i))
    (p : ∀ it s' I fp wr P St, Later S s s' → IterOk S Z s s' it as I fp wr P St → Q it s') : wpAny (model S.prog S.w) A (pyIter (.ref r)) Q E s1 := by
  refine wpAny_pyIter_range hr (small_one ha (by omega) (by omega) hb) ?_
  have L2 := Later.grow (t := s1.toks) L1.inv (h' := s1.heap.push { cls := .type "range_iterator", data := .fields #[rawInt a, rawInt (Builtin.Range.rangeSize a b 1), rawInt 1] }) fun _ _ e => Heap.get?_push_of_some _ e
  refine p _ _ s1.heap.objs.size [s1.heap.objs.size] [s1.heap.objs.size] (fun i v => ∃ t, v = .int (a + i * 1) t) (fun i h => IsRangeIter h s1.heap.objs.size (a + (i : Nat) * 1) (((b - a).toNat : Int) - (i : Nat)) 1) (L1.trans L2) ⟨rfl, fun A' hA => ?_, ?_, ?_, ?_, ?_, ?_⟩
  · rw [hlen]; exact Walks.range hA _ a 1 _
  · have : s1.heap.push { cls := .type "range_iterator", data := .fields #[rawInt a, rawInt (Builtin.Range.rangeSize a b 1), rawInt 1] } = s1.heap.push { cls := .type "range_iterator", data := .fields #[rawInt (a + (0 : Nat) * 1), rawInt (((b - a).toNat : Int) - (0 : Nat)), rawInt 1] } := by
      rw [rangeSize_nat hab]; simp
    show IsRangeIter _ _ _ _ _
    rw [this]
    exact Heap.get?_push_size _ rfl
  · rintro i h st b' hb'
    rw [List.mem_singleton.mp hb']
    exact ⟨_, st, rfl⟩
  · intro b' hb' z
    rw [List.mem_singleton.mp hb'] at z
    exact B.not (fresh _) z
  · intro b' hb'
    rw [List.mem_singleton.mp hb']; exact L1.keep.none (fresh _)
  · rintro i v x ⟨t, rfl⟩ hx
    rw [has i x hx, Int.mul_one]; exact .int _ _
def rng (a : Int) (n : Nat) : List AV := (List.range n).map fun i => .int (a + (i : Nat))
theorem rng_len (a n) : (rng a n).length = n := by simp [rng]
theorem rng_at {a : Int} {n i : Nat} {x : AV} (h : (rng a n)[i]? = some x) : x = .int (a + i) := by
  unfold rng at h
  rw [List.getElem?_map, Option.map_eq_some_iff] at h
  obtain ⟨j, h1, rfl⟩ := h
  obtain ⟨_, h2⟩ := List.getElem?_eq_some_iff.mp h1
  rw [List.getElem_range] at h2; rw [h2]
theorem EvI.range1 {id p args pos m} (h1 : Ev S n sc c ρ (.Name id p) (.val (.type "range"))) (ha : EvA S n sc c ρ args [] [.int m] []) (h0 : 0 ≤ m) (hm : m < 2 ^ 62) : EvI S n sc c ρ (.Call (.Name id p) args [] pos) (rng 0 m.toNat) :=
  fun A env Z s Q E R ei F I k => call_open h1 ha KeepsV.type R ei F I fun v a s1 L1 hv h2 h3 _ => by
    cases hv
    obtain ⟨u, e, hu⟩ := vals_one h2
    rw [e, nil_of h3]
    cases hu with | int _ tk => ?_
    refine call_range_1 ?_
    have L2 := Later.grow (t := s1.toks + 1 + 1) L1.inv (h' := s1.heap.push { cls := .type "range", data := .fields #[.int 0 s1.toks, .int m tk, .int 1 (s1.toks + 1)] }) fun _ _ e => Heap.get?_push_of_some _ e
    refine iter_range (L1.trans L2) (F.keep (L1.trans L2).keep).bd (IsRange.new _ 0 m 1 _ _ _) h0 (by omega) hm (by rw [rng_len]; omega) (fun i x hx => rng_at hx) k
theorem EvI.range2 {id p args pos l m} (h1 : Ev S n sc c ρ (.Name id p) (.val (.type "range"))) (ha : EvA S n sc c ρ args [] [.int l, .int m] []) (h0 : 0 ≤ l) (h0' : l ≤ m) (hm : m < 2 ^ 62) : EvI S n sc c ρ (.Call (.Name id p) args [] pos) (rng l (m - l).toNat) :=
  fun A env Z s Q E R ei F I k => call_open h1 ha KeepsV.type R ei F I fun v a s1 L1 hv h2 h3 _ => by
    cases hv
    obtain ⟨u, u', e, hu, hu'⟩ := vals_two h2
    rw [e, nil_of h3]
    cases hu with | int _ tk => ?_
    cases hu' with | int _ tk' => ?_
    refine call_range_2 ?_
    have L2 := Later.grow (t := s1.toks + 1) L1.inv (h' := s1.heap.push { cls := .type "range", data := .fields #[.int l tk, .int m tk', .int 1 s1.toks] }) fun _ _ e => Heap.get?_push_of_some _ e
    refine iter_range (L1.trans L2) (F.keep (L1.trans L2).keep).bd (IsRange.new _ l m 1 _ _ _) h0' (by omega) hm (by rw [rng_len]) (fun i x hx => rng_at hx) k
/-! more int operators; lists -/
theorem BinSem.mul {i j} (h : IntMulOk i j) : BinSem S n .Mult (.int i) (.int j) (.int (i * j)) := fun A Z s v w R I B hv hw Q E k => by
  cases hv; cases hw; exact mul_int (k _ _ (Later.tok I _) (.int _ _)) h
theorem BinSem.pow {i j : Int} (hn : 0 ≤ j) (hn2 : j ≤ 1000000) (ha : i.natAbs < 2 ^ 64) : BinSem S n .Pow (.int i) (.int j) (.int (i ^ j.toNat)) := fun A Z s v w R I B hv hw Q E k => by
  cases hv; cases hw; exact pow_int_small hn hn2 ha (k _ _ (Later.tok I _) (.int _ _))
theorem UnSem.neg {i} : UnSem S n .USub (.int i) (.int (-i)) := fun A Z s v R I B hv Q E k => by
  cases hv; exact PyProof.Rows.neg_int (k _ _ (Later.tok I _) (.int _ _))
theorem BinSem.cat {l m} (hl : l.length + m.length ≤ 1000) : BinSem S n .Add (.lst l) (.lst m) (.lst (l ++ m)) := fun A Z s v w R I B hv hw Q E k => by
  obtain ⟨a, vs, kk, rfl, hz, hg, hvs, hb⟩ := list_sub hv
  obtain ⟨a', vs', kk', rfl, hz', hg', hvs', hb'⟩ := list_sub hw
  have L := Later.grow (t := s.toks) I (h' := s.heap.push { cls := .type "list", data := .seq (vs.toArray ++ vs'.toArray) }) fun _ _ e => Heap.get?_push_of_some _ e
  refine P.add_list hg hg' (k _ _ L ?_) (by have := hvs.1; have := hvs'.1; unfold sizeLine; simp; omega)
  have hv2 := (hvs.append hvs').keep L.keep
  refine .lst (vs := vs ++ vs') (n := 0) (B.not (fresh _)) ?_ hv2.1 (by rw [hv2.1]; simpa using hl) hv2.2
  rw [Heap.get?_push_size _ rfl]; simp
end
section
open PySem PySem.Spec PySem.Calls PyProof.Rows PySem.W
variable {S : Sys} {n : Nat} {sc : Scope} {c : Addr} {ρ : Rho} {ow : Own}
/-! comprehensions: the inner scope -/
def inner (scope sc : Scope) : Scope := { scope with names := scope.names.map fun (n, k) => if (k == .free && sc.kind == .function && sc.names.lookup n == some .cell) then (n, .cell) else (n, k) }
theorem relabel_eq {env : Env} (e : EnvIs env sc c) (scope : Scope) : relabel scope env = inner scope sc := by
  obtain rfl := e.scope; rfl
theorem inner_lookup {scope sc : Scope} {y : Str} : (inner scope sc).names.lookup y = (scope.names.lookup y).map fun k => if (k == .free && sc.kind == .function && sc.names.lookup y == some .cell) then .cell else k := by
  show List.lookup y (scope.names.map _) = _
  induction scope.names with
  | nil => rfl
  | cons p r ih =>
    obtain ⟨m, k⟩ := p
    show List.lookup y ((if (k == NameKind.free && sc.kind == .function && sc.names.lookup m == some .cell) = true then (m, NameKind.cell) else (m, k)) :: _) = _
    rw [List.lookup_cons (b := k)]
    cases q : y == m with
    | true =>
      have := beq_iff_eq.mp q
      subst this
      by_cases hc : (k == NameKind.free && sc.kind == .function && sc.names.lookup y == some .cell) = true
      · rw [if_pos hc, List.lookup_cons, q]; simp only [Option.map_some]; rw [if_pos hc]
      · rw [if_neg hc, List.lookup_cons, q]; simp only [Option.map_some]; rw [if_neg hc]
    | false =>
      by_cases hc : (k == NameKind.free && sc.kind == .function && sc.names.lookup m == some .cell) = true
      · rw [if_pos hc, List.lookup_cons, q]; exact ih
      · rw [if_neg hc, List.lookup_cons, q]; exact ih
def fre (scope : Scope) (ρ : Rho) : Rho := ρ.filter fun p => scope.names.lookup p.1 == some .free
theorem fre_lookup {scope : Scope} {y : Str} {b : AV} : ∀ {ρ : Rho}, (fre scope ρ).lookup y = some b → ρ.lookup y = some b ∧ scope.names.lookup y = some .free
  | [], h => by cases h
  | (m, a) :: r, h => by
    unfold fre at h
    rw [List.filter_cons] at h
    split at h
    · rename_i hq
      rw [List.lookup_cons] at h ⊢
      cases q : y == m with
      | true =>
        rw [q] at h
        rw [beq_iff_eq.mp q]
        exact ⟨h, beq_iff_eq.mp hq⟩
      | false => rw [q] at h; exact fre_lookup h
    · rename_i hq
      have ih := fre_lookup (ρ := r) h
      rw [List.lookup_cons]
      cases q : y == m with
      | true =>
        have := beq_iff_eq.mp q
        subst this
        rw [ih.2] at hq
        exact absurd (by rfl) hq
      | false => exact ih
structure CompOk (scope sc : Scope) (x : Str) (ρ : Rho) : Prop where
  kind : scope.kind = .function
  co : scope.isCoroutine = false
  tgt : scope.names.lookup x = some .local ∨ scope.names.lookup x = some .cell
  names : (scope.names.all fun p => scope.names.lookup p.1 == some p.2) = true
  frees : (scope.names.all fun p => p.2 != .free || ((ρ.lookup p.1).isSome && (sc.names.lookup p.1 == some .cell || sc.names.lookup p.1 == some .free))) = true
theorem CompOk.nm {scope sc : Scope} {x ρ} (h : CompOk scope sc x ρ) {y k} (hy : (y, k) ∈ scope.names) : scope.names.lookup y = some k := by
  have := List.all_eq_true.mp h.names _ hy
  simpa using this
theorem CompOk.fr {scope sc : Scope} {x ρ} (h : CompOk scope sc x ρ) {y} (hy : (y, NameKind.free) ∈ scope.names) : (∃ b, ρ.lookup y = some b) ∧ (sc.names.lookup y = some .cell ∨ sc.names.lookup y = some .free) := by
  have := List.all_eq_true.mp h.frees _ hy
  simp only [bne_self_eq_false, Bool.false_or, Bool.and_eq_true, Bool.or_eq_true, beq_iff_eq] at this
  exact ⟨Option.isSome_iff_exists.mp this.1, this.2⟩
/-- the cell of a name -/
theorem res_cell {S : Sys} {Z : Addr → Prop} {env : Env} {h : Heap} {ρ : Rho} (F : Frame S Z env h ρ) {y b} (hb : ρ.lookup y = some b) (hk : env.kindOf y = some .cell ∨ env.kindOf y = some .free) : ∃ v cc, env.cells.lookup y = some cc ∧ h.IsCell cc (some v) ∧ Val Z h v b := by
  obtain ⟨v, r, hv⟩ := F.res y b hb
  rcases r with ⟨q, _⟩ | ⟨_, cc, h1, h2⟩
  · rcases hk with k | k <;> rw [q] at k <;> cases k
  · exact ⟨v, cc, h1, h2, hv⟩
theorem closure_loop {env : Env} (f : Str × NameKind → List (Str × Addr) → Sem (ForInStep (List (Str × Addr)))) (hf : ∀ name kind acc, f (name, kind) acc = if kind == .free then (do let a ← cellOf env name; pure (.yield ((name, a) :: acc))) else pure (.yield acc)) :
    ∀ (names : List (Str × NameKind)) (acc : List (Str × Addr)), (∀ x, (x, NameKind.free) ∈ names → (env.cells.lookup x).isSome = true) → (∀ p ∈ acc, env.cells.lookup p.1 = some p.2) →
      ∃ cl, (forIn names acc f : Sem _) = pure cl ∧ (∀ p ∈ cl, env.cells.lookup p.1 = some p.2) ∧ (∀ p ∈ acc, p ∈ cl) ∧ ∀ x, (x, NameKind.free) ∈ names → ∃ a, (x, a) ∈ cl
  | [], acc, _, ha => ⟨acc, by rw [List.forIn_nil], ha, fun _ h => h, fun _ h => by cases h⟩
  | (m, k) :: r, acc, h, ha => by
    rw [List.forIn_cons, hf]
    by_cases q : k == .free
    · have hk := beq_iff_eq.mp q
      subst hk
      obtain ⟨a, hm⟩ := Option.isSome_iff_exists.mp (h m List.mem_cons_self)
      obtain ⟨cl, e, h1, h2, h3⟩ := closure_loop f hf r ((m, a) :: acc) (fun x hx => h x (List.mem_cons_of_mem _ hx)) (fun p hp => by
        rcases List.mem_cons.mp hp with rfl | hp
        · exact hm
        · exact ha p hp)
      refine ⟨cl, ?_, h1, fun p hp => h2 p (List.mem_cons_of_mem _ hp), fun x hx => ?_⟩
      · rw [if_pos q]
        have : cellOf env m = pure a := by unfold cellOf; rw [hm]
        rw [this]
        exact e
      · rcases List.mem_cons.mp hx with e' | hx
        · cases e'; exact ⟨a, h2 _ List.mem_cons_self⟩
        · exact h3 x hx
    · obtain ⟨cl, e, h1, h2, h3⟩ := closure_loop f hf r acc (fun x hx => h x (List.mem_cons_of_mem _ hx)) ha
      refine ⟨cl, ?_, h1, h2, fun x hx => ?_⟩
      · rw [if_neg q]; exact e
      · rcases List.mem_cons.mp hx with e' | hx
        · cases e'; exact absurd rfl q
        · exact h3 x hx
theorem closure_of {scope : Scope} {env : Env} (h : ∀ x, (x, NameKind.free) ∈ scope.names → (env.cells.lookup x).isSome = true) :
    ∃ cl, closureFor scope env = pure cl ∧ (∀ p ∈ cl, env.cells.lookup p.1 = some p.2) ∧ ∀ x, (x, NameKind.free) ∈ scope.names → cl.lookup x = env.cells.lookup x := by
  obtain ⟨cl, e, h1, _, h3⟩ := closure_loop (env := env) (fun (name, kind) cs => if kind == .free then (do let a ← cellOf env name; pure (.yield ((name, a) :: cs))) else pure (.yield cs)) (fun _ _ _ => rfl) scope.names [] h (by intro p hp; cases hp)
  refine ⟨cl, ?_, h1, fun x hx => ?_⟩
  · unfold closureFor
    rw [← e]
    simp only [bind_pure]
  · obtain ⟨a, ha⟩ := h3 x hx
    obtain ⟨a', ha'⟩ := Option.isSome_iff_exists.mp (lookup_some_of_mem ha)
    rw [ha', h1 _ (mem_of_lookup ha')]
theorem cellsFrom_app : ∀ (names : List (Str × NameKind)) (m : Nat) (acc : List (Str × Addr)), cellsFrom m names acc = cellsFrom m names [] ++ acc
  | [], _, _ => rfl
  | (y, k) :: r, m, acc => by
    unfold cellsFrom
    split
    · rw [cellsFrom_app r (m + 1) ((y, m) :: acc), cellsFrom_app r (m + 1) [(y, m)], List.append_assoc]; rfl
    · exact cellsFrom_app r m acc
theorem cellsFrom_kind : ∀ (names : List (Str × NameKind)) (m : Nat) (acc : List (Str × Addr)) {y a}, (y, a) ∈ cellsFrom m names acc → (y, NameKind.cell) ∈ names ∨ (y, a) ∈ acc
  | [], _, _, _, _, h => .inr h
  | (z, k) :: r, m, acc, y, a, h => by
    unfold cellsFrom at h
    split at h
    · rename_i q
      rcases cellsFrom_kind r _ _ h with h | h
      · exact .inl (List.mem_cons_of_mem _ h)
      · rcases List.mem_cons.mp h with e | h
        · cases e; rw [beq_iff_eq.mp q]; exact .inl List.mem_cons_self
        · exact .inr h
    · rcases cellsFrom_kind r _ _ h with h | h
      · exact .inl (List.mem_cons_of_mem _ h)
      · exact .inr h
theorem lookup_app {α : Type} : ∀ {l m : List (Str × α)} {y : Str}, l.lookup y = .none → (l ++ m).lookup y = m.lookup y
  | [], _, _, _ => rfl
  | (z, a) :: l, m, y, h => by
    rw [List.cons_append, List.lookup_cons]
    rw [List.lookup_cons] at h
    cases q : y == z with
    | true => rw [q] at h; cases h
    | false => rw [q] at h; exact lookup_app h
theorem lookup_app' {α : Type} : ∀ {l m : List (Str × α)} {y : Str} {a : α}, l.lookup y = some a → (l ++ m).lookup y = some a
  | [], _, _, _, h => by cases h
  | (z, b) :: l, m, y, a, h => by
    rw [List.cons_append, List.lookup_cons]
    rw [List.lookup_cons] at h
    cases q : y == z with
    | true => rw [q] at h; exact h
    | false => rw [q] at h; exact lookup_app' h
/-- a comprehension's frame -/
theorem comp_env {M : Model} {A : Around} {E : Value → Shared → Prop} {s : Shared} {scope : Scope} {env : Env} {cl : List (Str × Addr)} {q : Str} {Q : Env → Shared → Prop}
    (h : ∀ h', h'.Ns s.heap.objs.size (fun _ => .none) → (∀ m a, (m, a) ∈ cellsFrom (s.heap.objs.size + 1) scope.names [] → h'.IsCell a .none ∧ s.heap.objs.size + 1 ≤ a) → (cellsFrom (s.heap.objs.size + 1) scope.names []).Pairwise (fun x y => x.2 ≠ y.2) →
      (∀ b o, s.heap.get? b = some o → h'.get? b = some o) →
      Q { scope := scope, locals := s.heap.objs.size, globals := env.globals, cells := cellsFrom (s.heap.objs.size + 1) scope.names [] ++ cl, qual := q, func := .none, code := env.code, frame := env.frame, builtins := env.builtins } { s with heap := h' }) :
    wpAny M A (newFunctionEnv scope env.globals cl [] q .none .none (some env)) Q E s := by
  simp only [newFunctionEnv, Option.isSome_some, if_true]
  refine wpAny_bind (wpAny_alloc ?_)
  refine wpAny_bind (wpAny_layCells _ (fun name kind cells => by cases hkc : kind == NameKind.cell <;> simp [hkc]) _ _ _ _ ?_)
  have ok := cellsFrom_ok scope.names (s.heap.push { cls := .type "dict", data := .dict #[] }) (s.heap.objs.size + 1) [] ⟨fun _ _ hm => (nomatch hm), List.Pairwise.nil⟩ (by rw [Heap.size_push]; exact Nat.le_refl _)
  rw [Heap.size_push] at ok
  rw [show ({ s with heap := s.heap.push { cls := .type "dict", data := .dict #[] } } : Shared).heap.objs.size = s.heap.objs.size + 1 from Heap.size_push ..]
  refine wpAny_bind ?_
  rw [List.forIn_nil]
  refine wpAny_pure (wpAny_pure ?_)
  rw [cellsFrom_app]
  exact h _ ((Heap.Ns.new s.heap (.type "dict")).keeps (pushCells_keeps _ _)) (fun m a hm => ok.empty m a hm) ok.apart fun b o e => pushCells_keeps _ _ b o (Heap.get?_push_of_some _ e)
end
section
open PySem PySem.Spec PySem.Calls PyProof.Rows PySem.W
variable {S : Sys} {n : Nat} {sc : Scope} {c : Addr} {ρ : Rho} {ow : Own}
theorem Keep.turn {S : Sys} {h₀ h h' : Heap} {wr : List Addr} (k : Keep S h₀ h) (hk : ∀ b o, b ∉ wr → h.get? b = some o → h'.get? b = some o) (hw : ∀ b ∈ wr, h₀.get? b = .none) : Keep S h₀ h' := by
  refine ⟨fun a o e q => ?_, fun a ps e => ?_, fun a o e => ?_⟩
  · exact hk a o (fun m => by rw [hw a m] at e; cases e) (k.get a o e q)
  · have hn : a ∉ wr := fun m => by rw [hw a m] at e; cases e
    rcases k.tab a ps e with x | ⟨x, m, y⟩
    · exact .inl (hk a _ hn x)
    · exact .inr ⟨x, m, hk a _ hn y⟩
  · have hn : a ∉ wr := fun m => by rw [hw a m] at e; cases e
    obtain ⟨o', e'⟩ := k.here a o e
    exact ⟨o', hk a _ hn e'⟩
theorem Later.turn {S : Sys} {s t : Shared} {h' : Heap} {tk : Nat} {wr : List Addr} (L : Later S s t) (hk : ∀ b o, b ∉ wr → t.heap.get? b = some o → h'.get? b = some o) (hw : ∀ b ∈ wr, s.heap.get? b = .none) (h0 : ∀ b ∈ wr, S.h₁.get? b = .none) : Later S s { t with heap := h', toks := tk } :=
  ⟨L.keep.turn hk hw, Inv.turn L.inv hk h0, L.gens⟩
/-- the places that a comprehension works on -/
structure CCtx (S : Sys) (wr : List Addr) (C D : Addr) (own : List (Str × Addr)) (s s1 : Shared) : Prop where
  L1 : Later S s s1
  I0 : Inv S s
  newWr : ∀ b ∈ wr, s.heap.get? b = .none
  off : ∀ b ∈ wr, b ≠ C ∧ b ≠ D ∧ ∀ y a, (y, a) ∈ own → a ≠ b
  newC : s1.heap.get? C = .none
  newD : s1.heap.get? D = .none
  newO : ∀ y a, (y, a) ∈ own → s1.heap.get? a = .none
  CD : C ≠ D
  CO : ∀ y a, (y, a) ∈ own → a ≠ C ∧ a ≠ D
theorem CCtx.of {S : Sys} {wr : List Addr} {C D : Addr} {own : List (Str × Addr)} {s s1 : Shared} (L1 : Later S s s1) (I0 : Inv S s) (newWr : ∀ b ∈ wr, s.heap.get? b = .none) (wr1 : ∀ b ∈ wr, ∃ o, s1.heap.get? b = some o)
    (newC : s1.heap.get? C = .none) (newD : s1.heap.get? D = .none) (newO : ∀ y a, (y, a) ∈ own → s1.heap.get? a = .none) (CD : C ≠ D) (CO : ∀ y a, (y, a) ∈ own → a ≠ C ∧ a ≠ D) : CCtx S wr C D own s s1 :=
  have off : ∀ b ∈ wr, b ≠ C ∧ b ≠ D ∧ ∀ y a, (y, a) ∈ own → a ≠ b := fun b hb => by
    obtain ⟨o, e⟩ := wr1 b hb
    refine ⟨fun q => ?_, fun q => ?_, fun y a h q => ?_⟩
    · rw [q, newC] at e; cases e
    · rw [q, newD] at e; cases e
    · rw [← q, newO y a h] at e; cases e
  ⟨L1, I0, newWr, off, newC, newD, newO, CD, CO⟩
def NN (wr : List Addr) (C D : Addr) (own : List (Str × Addr)) (a : Addr) : Prop := a ∈ wr ∨ a = C ∨ a = D ∨ ∃ y, (y, a) ∈ own
structure CInv (S : Sys) (wr : List Addr) (C D : Addr) (own : List (Str × Addr)) (s s1 t : Shared) (ys : List Value) : Prop where
  later : Later S s t
  one : ∀ b o, b ∉ wr → notTbl o = true → s1.heap.get? b = some o → t.heap.get? b = some o
  loc : ∃ m, t.heap.Ns C m
  cells : ∀ y a, (y, a) ∈ own → ∃ v, t.heap.IsCell a v
  wrs : ∀ b ∈ wr, ∃ o, t.heap.get? b = some o
  acc : t.heap.PlainList D ys.toArray
variable {wr : List Addr} {C D : Addr} {own : List (Str × Addr)} {s s1 t : Shared} {ys : List Value}
theorem CCtx.new0 (X : CCtx S wr C D own s s1) {a} (h : NN wr C D own a) : s.heap.get? a = .none := by
  rcases h with h | rfl | rfl | ⟨y, h⟩
  · exact X.newWr a h
  · exact X.L1.keep.none X.newC
  · exact X.L1.keep.none X.newD
  · exact X.L1.keep.none (X.newO y a h)
theorem CInv.ex (K : CInv S wr C D own s s1 t ys) {a} (h : NN wr C D own a) : ∃ o, t.heap.get? a = some o := by
  rcases h with h | rfl | rfl | ⟨y, h⟩
  · exact K.wrs a h
  · obtain ⟨m, o, _, _, e, _⟩ := K.loc; exact ⟨o, e⟩
  · obtain ⟨m, e⟩ := K.acc; exact ⟨_, e⟩
  · obtain ⟨v, o, e, _⟩ := K.cells y a h; exact ⟨o, e⟩
theorem CInv.grow {t'} (K : CInv S wr C D own s s1 t ys) (L : Later S t t') : CInv S wr C D own s s1 t' ys where
  later := K.later.trans L
  one := fun b o h q e => L.keep.get b o (K.one b o h q e) q
  loc := let ⟨m, x⟩ := K.loc; ⟨m, Ns.keep L.keep x⟩
  cells := fun y a h => let ⟨v, x⟩ := K.cells y a h; ⟨v, IsCell.keep L.keep x⟩
  wrs := fun b h => let ⟨o, x⟩ := K.wrs b h; L.keep.here b o x
  acc := let ⟨m, x⟩ := K.acc; ⟨m, L.keep.get _ _ x rfl⟩
theorem CCtx.offC (X : CCtx S wr C D own s s1) : C ∉ wr := fun h => (X.off C h).1 rfl
theorem CCtx.offD (X : CCtx S wr C D own s s1) : D ∉ wr := fun h => (X.off D h).2.1 rfl
theorem CCtx.offO (X : CCtx S wr C D own s s1) {y a} (h : (y, a) ∈ own) : a ∉ wr := fun h' => (X.off a h').2.2 y a h rfl
theorem CInv.turn {h' : Heap} {tk : Nat} (X : CCtx S wr C D own s s1) (K : CInv S wr C D own s s1 t ys) (hk : ∀ b o, b ∉ wr → t.heap.get? b = some o → h'.get? b = some o) (he : ∀ b ∈ wr, ∃ o, h'.get? b = some o) : CInv S wr C D own s s1 { t with heap := h', toks := tk } ys where
  later := K.later.turn hk X.newWr fun b h => X.I0.keep.none (X.newWr b h)
  one := fun b o h q e => hk b o h (K.one b o h q e)
  loc := let ⟨m, x⟩ := K.loc; ⟨m, x.at' fun o e => hk _ o X.offC e⟩
  cells := fun y a h => let ⟨v, o, x, r⟩ := K.cells y a h; ⟨v, o, hk _ _ (X.offO h) x, r⟩
  wrs := he
  acc := let ⟨m, x⟩ := K.acc; ⟨m, hk _ _ X.offD x⟩
theorem CInv.setC {h' : Heap} {tk : Nat} {m} (X : CCtx S wr C D own s s1) (K : CInv S wr C D own s s1 t ys) (hn : h'.Ns C m) (hs : Heap.SameBut C t.heap h') : CInv S wr C D own s s1 { t with heap := h', toks := tk } ys where
  later := ⟨K.later.keep.new (X.new0 (.inr (.inl rfl))) hs, K.later.inv.new (X.I0.keep.none (X.new0 (.inr (.inl rfl)))) hs, K.later.gens⟩
  one := fun b o h q e => (hs.2 b fun z => by rw [z, X.newC] at e; cases e).trans (K.one b o h q e)
  loc := ⟨m, hn⟩
  cells := fun y a h => let ⟨v, x⟩ := K.cells y a h; ⟨v, x.sameBut hs fun z => (X.CO y a h).1 z⟩
  wrs := fun b h => let ⟨o, e⟩ := K.wrs b h; ⟨o, (hs.2 b fun z => X.offC (z ▸ h)).trans e⟩
  acc := let ⟨k, x⟩ := K.acc; ⟨k, (hs.2 D fun z => X.CD z.symm).trans x⟩
theorem CInv.setD {h' : Heap} {tk : Nat} {y : Value} (X : CCtx S wr C D own s s1) (K : CInv S wr C D own s s1 t ys) (hn : h'.PlainList D (ys ++ [y]).toArray) (hs : Heap.SameBut D t.heap h') : CInv S wr C D own s s1 { t with heap := h', toks := tk } (ys ++ [y]) where
  later := ⟨K.later.keep.new (X.new0 (.inr (.inr (.inl rfl)))) hs, K.later.inv.new (X.I0.keep.none (X.new0 (.inr (.inr (.inl rfl))))) hs, K.later.gens⟩
  one := fun b o h q e => (hs.2 b fun z => by rw [z, X.newD] at e; cases e).trans (K.one b o h q e)
  loc := let ⟨m, x⟩ := K.loc; ⟨m, x.sameBut hs X.CD⟩
  cells := fun y a h => let ⟨v, x⟩ := K.cells y a h; ⟨v, x.sameBut hs fun z => (X.CO y a h).2 z⟩
  wrs := fun b h => let ⟨o, e⟩ := K.wrs b h; ⟨o, (hs.2 b fun z => X.offD (z ▸ h)).trans e⟩
  acc := hn
theorem CInv.setO {h' : Heap} {tk : Nat} {y : Str} {a : Addr} {v} (X : CCtx S wr C D own s s1) (K : CInv S wr C D own s s1 t ys) (ho : (y, a) ∈ own) (hn : h'.IsCell a v) (hs : Heap.SameBut a t.heap h') : CInv S wr C D own s s1 { t with heap := h', toks := tk } ys where
  later := ⟨K.later.keep.new (X.new0 (.inr (.inr (.inr ⟨y, ho⟩)))) hs, K.later.inv.new (X.I0.keep.none (X.new0 (.inr (.inr (.inr ⟨y, ho⟩))))) hs, K.later.gens⟩
  one := fun b o h q e => (hs.2 b fun z => by rw [z, X.newO y a ho] at e; cases e).trans (K.one b o h q e)
  loc := let ⟨m, x⟩ := K.loc; ⟨m, x.sameBut hs fun z => (X.CO y a ho).1 z.symm⟩
  cells := fun y' a' h => by
    by_cases q : a' = a
    · exact ⟨v, q ▸ hn⟩
    · obtain ⟨u, x⟩ := K.cells y' a' h; exact ⟨u, x.sameBut hs q⟩
  wrs := fun b h => let ⟨o, e⟩ := K.wrs b h; ⟨o, (hs.2 b fun z => X.offO ho (z ▸ h)).trans e⟩
  acc := let ⟨k, x⟩ := K.acc; ⟨k, (hs.2 D fun z => (X.CO y a ho).2 z.symm).trans x⟩
/-- the frame of the comprehension's own names -/
theorem CInv.frame {Z : Addr → Prop} {env : Env} {scope : Scope} {cl : List (Str × Addr)} {x : Str} (X : CCtx S wr C D own s s1) (K : CInv S wr C D own s s1 t ys) (F : Frame S Z env s.heap ρ) (ei : EnvIs env sc c) (ok : CompOk scope sc x ρ)
    (hcl : ∀ y, (y, NameKind.free) ∈ scope.names → cl.lookup y = env.cells.lookup y) (hcl2 : ∀ p ∈ cl, env.cells.lookup p.1 = some p.2) (hown : ∀ y a, (y, a) ∈ own → (y, NameKind.cell) ∈ scope.names) :
    Frame S (fun a => Z a ∨ NN wr C D own a) (compEnvC scope (own ++ cl) C env) t.heap (fre scope ρ) where
  zb := fun a z => by
    rcases z with z | z
    · exact (F.bd.keep K.later.keep) a z
    · exact ⟨X.I0.keep.none (X.new0 z), K.ex z⟩
  zl := .inr (.inr (.inl rfl))
  zc := fun y a e => by
    rcases List.mem_append.mp (mem_of_lookup e) with h | h
    · exact .inr (.inr (.inr (.inr ⟨y, h⟩)))
    · exact .inl (F.zc y a (hcl2 _ h))
  ns := K.loc
  res := fun y b e => by
    obtain ⟨hb, hf⟩ := fre_lookup e
    have hmem := mem_names hf
    obtain ⟨_, hk⟩ := ok.fr hmem
    have hk' : env.kindOf y = some .cell ∨ env.kindOf y = some .free := by
      show env.scope.names.lookup y = _ ∨ env.scope.names.lookup y = _
      rw [ei.scope]; exact hk
    obtain ⟨v, cc, h1, h2, h3⟩ := res_cell F hb hk'
    refine ⟨v, .inr ⟨?_, cc, ?_, IsCell.keep K.later.keep h2⟩, (h3.more fun a z => z.elim .inl fun z => .inr (X.new0 z)).keep K.later.keep⟩
    · have : (compEnvC scope (own ++ cl) C env).kindOf y = (inner scope sc).names.lookup y := by
        show (relabel scope env).names.lookup y = _
        rw [relabel_eq ei]
      rw [this, inner_lookup, hf, Option.map_some]
      split
      · exact .inl rfl
      · exact .inr rfl
    · show (own ++ cl).lookup y = some cc
      have hn : own.lookup y = .none := by
        cases q : own.lookup y with
        | none => rfl
        | some a =>
          have := ok.nm (hown y a (mem_of_lookup q))
          rw [hf] at this; cases this
      rw [lookup_app hn, hcl y hmem, h1]
theorem Frame.cons {S : Sys} {Z : Addr → Prop} {env : Env} {h : Heap} {ρ : Rho} {x : Str} {v : Value} {a : AV} (F : Frame S Z env h ρ) (r : Res env h x v) (hv : Val Z h v a) : Frame S Z env h ((x, a) :: ρ) where
  zb := F.zb
  zl := F.zl
  zc := F.zc
  ns := F.ns
  res := fun y b e => by
    rcases lookup_cons_some e with ⟨rfl, rfl⟩ | ⟨_, e'⟩
    · exact ⟨v, r, hv⟩
    · exact F.res y b e'
/-- a store to a name of the comprehension -/
theorem comp_store {env : Env} {scope : Scope} {cl : List (Str × Addr)} {x : Str} {A : Around} {v : Value} {Q : Unit → Shared → Prop} {E : Value → Shared → Prop} (X : CCtx S wr C D own s s1) (K : CInv S wr C D own s s1 t ys) (ei : EnvIs env sc c) (hkind : scope.kind = .function)
    (tgt : scope.names.lookup x = some .local ∨ scope.names.lookup x = some .cell) (hownx : scope.names.lookup x = some .cell → ∃ a, (x, a) ∈ own)
    (h : ∀ t', CInv S wr C D own s s1 t' ys → Res (compEnvC scope (own ++ cl) C env) t'.heap x v → (∀ b o, ¬ (b = C ∨ ∃ y, (y, b) ∈ own) → t.heap.get? b = some o → t'.heap.get? b = some o) → (∀ y u, y ≠ x → own.Pairwise (fun x y => x.2 ≠ y.2) → Res (compEnvC scope (own ++ cl) C env) t.heap y u → (∃ cc, (compEnvC scope (own ++ cl) C env).cells.lookup y = some cc ∧ (∀ z, (z, cc) ∈ own → z ≠ x) ) ∨ (compEnvC scope (own ++ cl) C env).kindOf y = some .local → Res (compEnvC scope (own ++ cl) C env) t'.heap y u) → Q () t') :
    wpAny (model S.prog S.w) A (storeName (compEnvC scope (own ++ cl) C env) x v) Q E t := by
  have hkd : (compEnvC scope (own ++ cl) C env).scope.kind = .function := by show (relabel scope env).kind = _; exact hkind
  have hrel : (compEnvC scope (own ++ cl) C env).kindOf x = (inner scope sc).names.lookup x := by
    show (relabel scope env).names.lookup x = _
    rw [relabel_eq ei]
  obtain ⟨m, hm⟩ := K.loc
  rcases tgt with hl | hl
  · have hl' : (compEnvC scope (own ++ cl) C env).kindOf x = some .local := by rw [hrel, inner_lookup, hl]; rfl
    refine wpAny_storeName_local hl' hm (fun h' hn hs => ?_) (by rw [hkd]; rfl)
    refine h _ (K.setC X hn hs) (.inl ⟨hl', _, hn, by simp⟩) (fun b o hb e => (hs.2 b fun q => hb (.inl q)).trans e) fun y u hy _ r _ => ?_
    rcases r with ⟨r1, m1, r2, r3⟩ | ⟨r1, c1, r2, r3⟩
    · refine .inl ⟨r1, _, hn, ?_⟩
      show (if y = x then some v else m y) = some u
      rw [if_neg hy]
      obtain ⟨o1, es1, ep1, g1, d1, k1, f1⟩ := r2
      obtain ⟨o2, es2, ep2, g2, d2, k2, f2⟩ := hm
      have : some o1 = some o2 := g1.symm.trans g2
      cases this; rw [d1] at d2; cases d2
      rw [← f2, f1, r3]
    · refine .inr ⟨r1, c1, r2, r3.sameBut hs fun q => ?_⟩
      obtain ⟨oc, hoc, hd⟩ := r3
      obtain ⟨oL, esL, epL, hoL, hdL, _⟩ := hm
      rw [q] at hoc
      have : some oL = some oc := hoL.symm.trans hoc
      cases this; rw [hdL] at hd; cases hd
  · obtain ⟨a₀, ha₀⟩ := hownx hl
    obtain ⟨a, ha⟩ := Option.isSome_iff_exists.mp (lookup_some_of_mem ha₀)
    have hmem := mem_of_lookup ha
    obtain ⟨v₀, hcell⟩ := K.cells x a hmem
    have hl' : (compEnvC scope (own ++ cl) C env).kindOf x = some .cell := by rw [hrel, inner_lookup, hl]; rfl
    have hcc : (compEnvC scope (own ++ cl) C env).cells.lookup x = some a := lookup_app' ha
    refine wpAny_storeName_cell hkd hl' hcc hcell fun h' hc' hs => ?_
    refine h _ (K.setO (tk := t.toks) X hmem hc' hs) (.inr ⟨.inl hl', a, hcc, hc'⟩) (fun b o hb e => (hs.2 b fun q => hb (.inr ⟨x, q ▸ hmem⟩)).trans e) fun y u hy hap r hor => ?_
    rcases r with ⟨r1, m1, r2, r3⟩ | ⟨r1, c1, r2, r3⟩
    · refine .inl ⟨r1, m1, r2.sameBut hs ?_, r3⟩
      exact fun q => (X.CO x a hmem).1 q.symm
    · refine .inr ⟨r1, c1, r2, r3.sameBut hs fun q => ?_⟩
      rcases hor with ⟨cc, e1, e2⟩ | q'
      · rw [r2] at e1; cases e1
        exact e2 x (q ▸ hmem) rfl
      · rcases r1 with k | k <;> rw [q'] at k <;> cases k
end
section
open PySem PySem.Spec PySem.Calls PyProof.Rows PySem.W
variable {S : Sys} {n : Nat} {sc : Scope} {c : Addr} {ρ : Rho} {ow : Own}
theorem paired_at {α β : Type} {P : α → β → Prop} {as : List α} {bs : List β} (h : Paired P as bs) : ∀ {i : Nat} {a : α}, as[i]? = some a → ∃ b, bs[i]? = some b ∧ P a b := by
  induction h with
  | nil => intro i a e; simp at e
  | cons h1 _ ih =>
    intro i a e
    cases i with
    | zero => simp at e; subst e; exact ⟨_, by simp, h1⟩
    | succ i => simp at e; obtain ⟨b, e', p⟩ := ih e; exact ⟨b, by simpa using e', p⟩
theorem none_ge {h : Heap} {a : Addr} (e : h.objs.size ≤ a) : h.get? a = .none := by
  cases q : h.get? a with
  | none => rfl
  | some o' => exact absurd (Heap.lt_size q) (Nat.not_lt.mpr e)
theorem vals_snoc {Z h vs as v a} (x : Vals Z h vs as) (y : Val Z h v a) : Vals Z h (vs ++ [v]) (as ++ [a]) := x.append (.cons y .nil)
theorem take_snoc {α : Type} {l : List α} {i : Nat} {a : α} (h : l[i]? = some a) : l.take (i + 1) = l.take i ++ [a] := by rw [List.take_add_one, h]; rfl
theorem paired_len {α β : Type} {P : α → β → Prop} {as : List α} {bs : List β} (h : Paired P as bs) : as.length = bs.length := h.length
theorem comp_run {elt iter : Expr} {x : Str} {px : Pos} {scope : Scope} {pos ps : Pos} {as rs : List AV} {use : Option (Value → Sem Unit)} (h1 : EvI S n sc c ρ iter as) (ok : CompOk scope sc x ρ) (hel : Paired (fun a r => Ev S n (inner scope sc) c ((x, a) :: fre scope ρ) elt r) as rs) (hlen : rs.length ≤ 1000)
    (hs : ∀ env x, foldedSetIterable iter env x = pure x) {A env Z s} {Q : Value → Shared → Prop} {E : Value → Shared → Prop} (R : Room n A) (ei : EnvIs env sc c) (F : Frame S Z env s.heap ρ) (I : Inv S s)
    (k : ∀ D C vs kk m t, Later S s t → s.heap.get? D = .none → s.heap.get? C = .none → D ≠ C → t.heap.get? D = some (lstO vs kk) → t.heap.Ns C m → Vals (fun a => Z a ∨ a = D ∨ a = C) t.heap vs rs → compPost (model S.prog S.w) A E use Q (.ref D) C (.ok .next) t) :
    wpAny (model S.prog S.w) A (comprehension (.ListComp elt [⟨.Name x px, iter, [], 0⟩] scope pos) scope env ps (newList []) false (eval iter env) use) Q E s := by
  obtain ⟨cl, hclos, hcl2, hcl⟩ := closure_of (scope := scope) (env := env) fun y hy => by
    obtain ⟨⟨b, hb⟩, hk⟩ := ok.fr hy
    have hk' : env.kindOf y = some .cell ∨ env.kindOf y = some .free := by
      show env.scope.names.lookup y = _ ∨ env.scope.names.lookup y = _
      rw [ei.scope]; exact hk
    obtain ⟨v, cc, e, _⟩ := res_cell F hb hk'
    rw [e]; rfl
  refine wpAny_comprehension_free rfl (hs env) hclos ok.kind (fun y hy hl => ok.nm (k := .local) (by rw [← hl]; exact hy)) (h1 A env Z s _ _ R ei F I fun it s1 Ia fp wr P Stt L1 okI => ?_)
  obtain ⟨rfl, W, hst, there, hap, hnew, hval⟩ := okI
  have W0 := W A R.hd
  refine wpAny_newObj_type (comp_env fun h' hns hown hapt hkeep => ?_)
  dsimp only at hns hown hapt hkeep ⊢
  generalize hH2 : s1.heap.push { cls := .type "list", dict := .none, data := .seq ([] : List Value).toArray } = H2 at hns hown hapt hkeep ⊢
  generalize hO : cellsFrom (H2.objs.size + 1) scope.names [] = own at hown hapt ⊢
  have hsz2 : H2.objs.size = s1.heap.objs.size + 1 := by rw [← hH2, Heap.size_push]
  have hfp1 : ∀ b ∈ fp, ∃ o, s1.heap.get? b = some o := fun b hb => let ⟨o, e, _⟩ := there 0 _ hst b hb; ⟨o, e⟩
  have hk1 : ∀ b o, s1.heap.get? b = some o → h'.get? b = some o := fun b o e => hkeep b o (hH2 ▸ Heap.get?_push_of_some _ e)
  have X : CCtx S wr H2.objs.size s1.heap.objs.size own s s1 := by
    refine CCtx.of L1 I hnew (fun b hb => hfp1 b (W0.sub b hb)) (none_ge (by rw [hsz2]; exact Nat.le_succ _)) (fresh _) (fun y a h => none_ge ?_) (by rw [hsz2]; exact Nat.succ_ne_self _) (fun y a h => ?_)
    · have := (hown y a h).2
      rw [hsz2] at this
      exact Nat.le_trans (Nat.le_trans (Nat.le_succ _) (Nat.le_succ _)) this
    · have := (hown y a h).2
      refine ⟨fun q => ?_, fun q => ?_⟩
      · rw [q] at this; exact absurd this (Nat.not_succ_le_self _)
      · rw [q, hsz2] at this; exact absurd (Nat.le_trans (Nat.le_succ _) this) (Nat.not_succ_le_self _)
  have K0 : CInv S wr H2.objs.size s1.heap.objs.size own s s1 { s1 with heap := h' } [] := by
    refine ⟨L1.trans (Later.grow L1.inv hk1), fun b o _ _ e => hk1 b o e, ⟨_, hns⟩, fun y a h => ⟨_, (hown y a h).1⟩, fun b hb => ?_, ⟨_, hkeep _ _ (hH2 ▸ Heap.get?_push_size _ rfl)⟩⟩
    obtain ⟨o, e⟩ := hfp1 b (W0.sub b hb); exact ⟨o, hk1 b o e⟩
  have hownk : ∀ y a, (y, a) ∈ own → (y, NameKind.cell) ∈ scope.names := fun y a h => by
    rcases cellsFrom_kind _ _ _ (hO ▸ h) with q | q
    · exact q
    · cases q
  have hownx : scope.names.lookup x = some .cell → ∃ a, (x, a) ∈ own := fun h => hO ▸ cellsFrom_has _ _ _ (mem_names h)
  generalize H2.objs.size = C at *
  generalize s1.heap.objs.size = D at *
  have hfpo : ∀ b ∈ fp, b ≠ D ∧ ¬ (b = C ∨ ∃ y, (y, b) ∈ own) := fun b hb => by
    obtain ⟨o, e⟩ := hfp1 b hb
    refine ⟨fun q => ?_, fun q => ?_⟩
    · rw [q, X.newD] at e; cases e
    · rcases q with q | ⟨y, q⟩
      · rw [q, X.newC] at e; cases e
      · rw [X.newO y b q] at e; cases e
  have hplen := paired_len hel
  let J : Nat → Shared → Prop := fun q t => ∃ i ys, i ≤ as.length ∧ q = as.length - i + 1 ∧ CInv S wr C D own s s1 t ys ∧ Stt i t.heap ∧ Vals (fun a => Z a ∨ NN wr C D own a) t.heap ys (rs.take i)
  have start : J (as.length + 1) { s1 with heap := h' } := ⟨0, [], Nat.zero_le _, rfl, K0, W0.frame _ _ _ hst fun b _ o e => hk1 b o e, by rw [List.take_zero]; exact .nil⟩
  have loop : codeAny (model S.prog S.w) A (.compLoop (.ListComp elt [⟨.Name x px, iter, [], 0⟩] scope pos) 0 (.ref Ia) (.ref D) (compEnvC scope (own ++ cl) C env)) (compPost (model S.prog S.w) A E use Q (.ref D) C) { s1 with heap := h' } := by
    refine codeAny_compLoop_list J (fun q t hJ => ?_) (as.length + 1) start
    obtain ⟨i, ys, hi, rfl, K, hsti, hys⟩ := hJ
    by_cases hlt : i < as.length
    · obtain ⟨a, ha⟩ : ∃ a, as[i]? = some a := ⟨as[i], List.getElem?_eq_getElem hlt⟩
      obtain ⟨r, hr, hev⟩ := paired_at hel ha
      refine W0.item i t _ _ hlt hsti fun v h₂ tk hP hst₂ hk₂ => ?_
      have K2 := K.turn (tk := tk) X hk₂ fun b hb => let ⟨o, e, _⟩ := there _ _ hst₂ b (W0.sub b hb); ⟨o, e⟩
      refine wpAny_assign_Name (comp_store X K2 ei ok.kind ok.tgt hownx fun t3 K3 r3 sm3 _ => ?_)
      have hv0 := (hval i v a hP ha).more (Z' := fun a => Z a ∨ NN wr C D own a) fun b z => by
        rcases z with z | z | rfl | rfl | ⟨y, z⟩
        · exact .inl (.inl z)
        · exact .inl (.inr z)
        · exact .inr X.newC
        · exact .inr X.newD
        · exact .inr (X.newO y b z)
      have hv3 : Val (fun a => Z a ∨ NN wr C D own a) t3.heap v a := hv0.same fun b o z nt e => K3.one b o (fun q => z (.inr (.inl q))) nt e
      have Fr3 := (K3.frame X F ei ok hcl hcl2 hownk).cons r3 hv3
      have ei3 : EnvIs (compEnvC scope (own ++ cl) C env) (inner scope sc) c := ⟨relabel_eq ei scope, ei.globals, ei.builtins, ei.code, ok.kind, ok.co⟩
      refine hev A _ _ t3 R ei3 Fr3 K3.later.inv _ _ fun y t4 L4 hy => ?_
      have K4 := K3.grow L4
      have hys4 : Vals (fun a => Z a ∨ NN wr C D own a) t4.heap ys (rs.take i) := ((hys.same fun b o z _ e => hk₂ b o (fun q => z (.inr (.inl q))) e).same (h' := t3.heap) fun b o z nt e => sm3 b o (fun q => z (.inr (q.elim (fun q => .inr (.inl q)) fun q => .inr (.inr (.inr q))))) e).keep L4.keep
      have hlen2 : ys.toArray.size ≤ sizeLine := by
        have := hys4.1
        rw [List.length_take] at this
        unfold sizeLine; simp; omega
      refine wpAny_list_append_plain K4.acc (fun h₅ hp₅ hs₅ => ?_) hlen2
      have K5 := K4.setD (y := y) (tk := t4.toks) X (by simpa using hp₅) hs₅
      refine ⟨as.length - (i + 1) + 1, by omega, i + 1, ys ++ [y], hlt, rfl, K5, ?_, ?_⟩
      · refine W0.frame _ _ _ hst₂ fun b hb o e => ?_
        obtain ⟨o', e', nt⟩ := there _ _ hst₂ b hb
        rw [e] at e'; cases e'
        exact (hs₅.2 b (hfpo b hb).1).trans (L4.keep.get b o (sm3 b o (hfpo b hb).2 e) nt)
      · rw [take_snoc hr]
        exact (vals_snoc hys4 hy).same fun b o z _ e => (hs₅.2 b fun q => z (.inr (.inr (.inr (.inl q))))).trans e
    · have hin : i = as.length := Nat.le_antisymm hi (Nat.not_lt.mp hlt)
      subst hin
      refine W0.done t _ _ hsti fun h₂ tk hk₂ => ?_
      obtain ⟨kk, hacc⟩ := K.acc
      obtain ⟨m, hm⟩ := K.loc
      have Lf := K.later.turn (tk := tk) hk₂ X.newWr fun b h => I.keep.none (X.newWr b h)
      refine k D C ys kk m _ Lf (X.new0 (.inr (.inr (.inl rfl)))) (X.new0 (.inr (.inl rfl))) X.CD.symm (hk₂ _ _ X.offD hacc) (hm.at' fun o e => hk₂ _ o X.offC e) ?_
      rw [show rs.take as.length = rs from by rw [hplen, List.take_length]] at hys
      refine (hys.same (h' := h₂) fun b o z _ e => hk₂ b o (fun q => z (.inr (.inl q))) e).anti fun b z => ?_
      rcases z with z | rfl | rfl
      · exact .inl z
      · exact .inr (.inr (.inr (.inl rfl)))
      · exact .inr (.inr (.inl rfl))
  exact codeAny_compStart_list loop (W0.self 0 _ _ _ (W0.frame _ _ _ hst fun b _ o e => hk1 b o e) loop)
theorem EvF.comp {elt iter : Expr} {x : Str} {px : Pos} {scope : Scope} {pos : Pos} {as rs : List AV} (h1 : EvI S n sc c ρ iter as) (ok : CompOk scope sc x ρ) (hel : Paired (fun a r => Ev S n (inner scope sc) c ((x, a) :: fre scope ρ) elt r) as rs) (hlen : rs.length ≤ 1000 := by decide)
    (hs : ∀ env x, foldedSetIterable iter env x = pure x := by intro _ _; rfl) : EvF S n sc c ρ (.ListComp elt [⟨.Name x px, iter, [], 0⟩] scope pos) rs :=
  fun A env Z s R ei F I Q E k => by
    rw [eval_ListComp]
    refine comp_run (use := .none) h1 ok hel hlen hs R ei F I fun D C vs kk m t L hD hC hDC hg hn hv => ?_
    refine ⟨m, hn, fun h' hs' => ?_⟩
    refine k D vs kk _ ⟨L.keep.new hC hs', L.inv.new (I.keep.none hC) hs', L.gens⟩ hD ((hs'.2 D hDC).trans hg) ?_
    exact (hv.same fun b o z _ e => (hs'.2 b fun q => z (.inr (.inr q))).trans e).anti fun b z => z.elim .inl fun q => .inr (.inl q)
end
section
open PySem PySem.Spec PySem.Calls PyProof.Rows PySem.W
variable {S : Sys} {n : Nat} {sc : Scope} {c : Addr} {ρ : Rho} {ow : Own}
theorem post_next {env Y h₀ Z M s s' ρ ow} {Q : Flow → Shared → Prop} (p : Post S env Y h₀ Z M s (.next ρ ow) Q) (F : FrameS S Y h₀ Z M env s'.heap ρ ow) (st : Step S M s s') : Q .next s' :=
  p Z M s' F (fun _ z => .inl z) (fun _ z => .inl z) (fun _ z _ _ => z) st
/-- x = [..], the list under its name before its variables go -/
theorem St.compF {elt iter : Expr} {x y : Str} {px py : Pos} {scope : Scope} {pos spos : Pos} {as rs : List AV} (h1 : EvI S n sc c ρ iter as) (ok : CompOk scope sc x ρ) (hel : Paired (fun a r => Ev S n (inner scope sc) c ((x, a) :: fre scope ρ) elt r) as rs)
    (hk : Stores sc y) (hy : ρ.lookup y = .none) (hsw : ∀ env : Env, env.scope = sc → swapsWith (.ListComp elt [⟨.Name x px, iter, [], 0⟩] scope pos) (some (.Name y py)) spos.line env = pure true) (hlen : rs.length ≤ 1000 := by decide)
    (hs : ∀ env x, foldedSetIterable iter env x = pure x := by intro _ _; rfl) : St S n sc c ρ .no (.Assign [.Name y py] (.ListComp elt [⟨.Name x px, iter, [], 0⟩] scope pos) spos) (.next ρ (.lst y rs)) :=
  fun A env Y h₀ Z M s Q E R ei F I p => by
    rw [exec_Assign_Name_used _ _ _ _ (hsw env ei.scope)]
    refine wpAny_bind (wpAny_standAt (wpAny_bind ?_))
    show wpAny _ A (do let _ ← comprehension (.ListComp elt [⟨.Name x px, iter, [], 0⟩] scope pos) scope env _ (newList []) false (eval iter env) (some (PySem.assign (.Name y py) env))) _ _ s
    refine wpAny_bind (wpAny_mono (comp_run (use := some (PySem.assign (.Name y py) env)) (Q := fun _ s' => Q .next s') h1 ok hel hlen hs R ei F.F I fun D C vs kk m t L hD hC hDC hg hn hv => ?_) (fun _ s' hq => wpAny_pure (wpAny_pure hq)) fun _ _ e => e)
    show wpAny _ A (PySem.assign (.Name y py) env (.ref D)) _ _ _
    have F1 := F.widen (D := fun a => a = D ∨ a = C) (D' := fun a => False) L (fun a q => by rcases q with rfl | rfl <;> assumption) (fun a q => by
      rcases q with rfl | rfl
      · exact ⟨_, hg⟩
      · obtain ⟨o, _, _, e, _⟩ := hn; exact ⟨o, e⟩) (fun a q => q.elim)
    have dl := locNe F hD
    have cl := locNe F hC
    have dc := cellNe F hD
    have cc := cellNe F hC
    refine wpAny_assign_Name (store ei F1 L.inv (.val (.ref D)) hk (by intro q; cases q) fun s' F' st' hk' sm => ⟨m, ?_, fun h'' hs'' => ?_⟩)
    · obtain ⟨o, es, ep, e, d, r⟩ := hn
      exact ⟨o, es, ep, hk' C o cl (by intro v q; rw [d] at q; cases q) e, d, r⟩
    · have F2 := F'.sub' (base_lookup hy)
      obtain ⟨v, r, hv'⟩ := F'.F.res y (.val (.ref D)) (by rw [List.lookup_cons, beq_self_eq_true])
      cases hv'
      have F3 : FrameS S Y h₀ (fun a => Z a ∨ a = D ∨ a = C) (fun a => M a ∨ a = D) env s'.heap ρ (.lst y rs) := by
        refine ⟨F2.F, ?_, fun a z => z.elim (fun q => F2.mz a (.inl q)) fun q => .inr (.inl q), .inl F.ml, fun y cc e => .inl (F.mc y cc e), F2.sub, F2.yb, F2.k0, F2.newL, F2.newC, F2.apart, F2.start, F2.cellOk⟩
        refine ⟨D, vs, kk, r, .inr rfl, F.k0.none hD, dl, dc, hk' D _ dl (by intro v q; cases q) hg, hv.same fun b o z _ e' => sm b o (fun q => z (q.elim (fun q => .inl (F.mz b q)) fun q => q.elim)) e'⟩
      have hCM : ¬ (M C ∨ C = D) := fun q => q.elim (fun q => by obtain ⟨o, e⟩ := (F.F.zb C (F.mz C q)).2; rw [hC] at e; cases e) fun q => hDC q.symm
      have hx : ∀ b o, b ∉ [C] → s'.heap.get? b = some o → h''.get? b = some o := fun b o q e => (hs''.2 b fun z => q (z ▸ List.mem_singleton.mpr rfl)).trans e
      have F4 := F3.turn (h' := h'') (wr := [C]) (fun a => Z a ∨ a = D) hx (fun a z => z.elim .inl fun q => .inr (.inl q)) (fun a z q => z.elim .inl fun z => z.elim .inr fun z => absurd (List.mem_singleton.mpr z) q) (fun b hb z => by
        rw [List.mem_singleton.mp hb] at z ⊢
        rcases z with z | z
        · obtain ⟨o, e⟩ := (F.F.zb C z).2; rw [hC] at e; cases e
        · exact absurd z.symm hDC) fun b hb => by
          rw [List.mem_singleton.mp hb]
          exact ⟨F.k0.none hC, .inr (.inr rfl), hCM⟩
      have st : Step S M s { s' with heap := h'' } := (L.step.trans (Z := M) st' fun a z => z.elim .inl fun q => q.elim).turn (wr := [C]) hx (fun b hb => by rw [List.mem_singleton.mp hb]; exact I.keep.none hC) (fun b hb => .inl (by rw [List.mem_singleton.mp hb]; exact hC)) (Inv.turn (wr := [C]) st'.inv hx fun b hb => by rw [List.mem_singleton.mp hb]; exact I.keep.none hC)
      exact p _ _ _ F4 (fun a z => z.elim .inl fun q => .inr (q ▸ hD)) (fun a z => z.elim .inl fun q => .inr (q ▸ hD)) (fun _ z _ _ => .inl z) st
/-! several targets -/
theorem tup_iter {Z : Addr → Prop} {h : Heap} {t : Addr} {vs : List Value} {k : Nat} (hg : h.get? t = some (tupO vs k)) : IsTup h t vs.toArray := ⟨_, hg, rfl, k, rfl⟩
/-- stores, one after the other -/
theorem stores {env : Env} {Y : Addr → Prop} {h₀ : Heap} {Z M : Addr → Prop} {A : Around} {E : Value → Shared → Prop} (ei : EnvIs env sc c) (as : List AV) : ∀ (ts : List (Value → Sem Unit)) (xs : List Str) (vs : List Value) (ρ : Rho) (s : Shared) (Q : Unit → Shared → Prop), ts.length = xs.length → xs.length = as.length →
    (∀ (i : Nat) f x, ts[i]? = some f → xs[i]? = some x → ∀ v s Q, wpAny (model S.prog S.w) A (storeName env x v) Q E s → wpAny (model S.prog S.w) A (f v) Q E s) →
    (∀ x ∈ xs, Stores sc x ∧ ow.name? ≠ some x) → FrameS S Y h₀ Z M env s.heap ρ ow → Inv S s → Vals Z s.heap vs as →
    (∀ s', FrameS S Y h₀ Z M env s'.heap ((xs.zip as).reverse ++ ρ) ow → Step S M s s' → Q () s') → wpAny (model S.prog S.w) A (assignInOrder ts vs) Q E s := by
  induction as with
  | nil =>
    intro ts xs vs ρ s Q e1 e2 hf hx F I hv h
    have hx0 : xs = [] := List.length_eq_zero_iff.mp e2
    subst hx0
    have ht0 : ts = [] := List.length_eq_zero_iff.mp e1
    subst ht0
    exact assignInOrder_nil (h s F (Step.refl I))
  | cons a as ih =>
    intro ts xs vs ρ s Q e1 e2 hf hx F I hv h
    cases xs with
    | nil => cases e2
    | cons x xs =>
      cases ts with
      | nil => cases e1
      | cons f ts =>
        obtain ⟨v, r, rfl, hv1, hvr⟩ := hv.of_cons
        refine assignInOrder_cons (hf 0 f x rfl rfl v s _ (store ei F I hv1 (hx x List.mem_cons_self).1 (hx x List.mem_cons_self).2 fun s' F' st _ sm => ?_))
        refine ih ts xs r ((x, a) :: ρ) s' Q (by simpa using e1) (by simpa using e2) (fun i f x h1 h2 => hf (i + 1) f x (by simpa using h1) (by simpa using h2)) (fun y hy => hx y (List.mem_cons_of_mem _ hy)) F' st.inv (hvr.same fun b o z _ e => sm b o (fun q => z (F.mz b q)) e) fun s'' F'' st' => ?_
        refine h s'' ?_ (st.trans st' fun _ z => .inl z)
        rw [List.zip_cons_cons, List.reverse_cons, List.append_assoc]
        exact F''
theorem St.unpack {xs : List Str} {ps : List Pos} {k tpos value pos as} (h : Ev S n sc c ρ value (.tup as)) (hn : xs.length = as.length) (hp : ps.length = xs.length) (hx : ∀ x ∈ xs, Stores sc x ∧ ow.name? ≠ some x)
    (hs : ∀ env : Env, env.scope = sc → swapsWithSole [.Tuple ((xs.zip ps).map fun p => .Name p.1 p.2) k tpos] value pos.line env = pure false)
    (hw : ∀ env : Env, env.scope = sc → swappedStores [.Tuple ((xs.zip ps).map fun p => .Name p.1 p.2) k tpos] value env = pure none)
    (he : ∀ env, assignEach ((xs.zip ps).map fun p => Expr.Name p.1 p.2) env = (xs.zip ps).map fun p => (false, PySem.assign (.Name p.1 p.2) env)) :
    St S n sc c ρ ow (.Assign [.Tuple ((xs.zip ps).map fun p => .Name p.1 p.2) k tpos] value pos) (.next ((xs.zip as).reverse ++ ρ) ow) :=
  fun A env Y h₀ Z M s Q E R ei F I p => Assign_Tuple (h A env Z s R ei F.F I _ _ fun v s1 L1 v1 => by
    obtain ⟨t, vs, kk, rfl, hz, hg, hvs, hb⟩ := tup_sub v1
    have hlen : (assignEach ((xs.zip ps).map fun p => Expr.Name p.1 p.2) env).length = vs.toArray.size := by rw [he]; simp [hvs.1, ← hn, hp]
    refine assign_Tuple_tuple R.hd (tup_iter (Z := Z) hg) hlen (by rw [he]; simp [List.findIdx?_eq_none_iff]) fun h' he' => ?_
    have hk' : ∀ a o, s1.heap.get? a = some o → h'.get? a = some o := fun a o e => he' a o (Nat.ne_of_lt (Heap.lt_size e)) e
    have L2 := Later.grow (t := s1.toks) L1.inv hk'
    have L12 := L1.trans L2
    refine stores (sc := sc) (ow := ow) ei as _ xs vs ρ _ _ (by rw [he]; simp [hp]) hn (fun i f x h1 h2 => ?_) hx (F.keep L12.keep) L12.inv (hvs.keep L2.keep) fun s' F' st => post_next p F' (L12.step.trans st fun _ z => .inl z)
    rw [he, List.map_map] at h1
    simp only [List.getElem?_map, Option.map_eq_some_iff] at h1
    obtain ⟨⟨y, q⟩, hyq, rfl⟩ := h1
    have : y = x := by
      have := List.getElem?_zip_eq_some.mp hyq
      rw [h2] at this; exact (Option.some.inj this.1).symm
    subst this
    exact fun v s Q h => PySem.wpAny_assign_Name h) (hs env ei.scope) (hw env ei.scope)
/-! while -/
inductive LoopW (S : Sys) (n : Nat) (sc : Scope) (c : Addr) (test : Expr) (body : List Stmt) : Nat → Rho → Own → Out → Prop
  | done (r w) : EvT S n sc c r test false → LoopW S n sc c test body 0 r w (.next r w)
  | next (k r w r' w' o) : EvT S n sc c r test true → Ex S n sc c r w body (.next r' w') → LoopW S n sc c test body k r' w' o → LoopW S n sc c test body (k + 1) r w o
theorem St.while_ {test body pos k o} (hl : LoopW S n sc c test body k ρ ow o) : St S n sc c ρ ow (.While test body [] pos) o :=
  fun A env Y h₀ Z M s Q E R ei F I p => PySem.wpAny_While (by
    let J : Nat → Shared → Prop := fun k t => ∃ (r : Rho) (w : Own) (Zi Mi : Addr → Prop), LoopW S n sc c test body k r w o ∧ FrameS S Y h₀ Zi Mi env t.heap r w ∧ Inv S t ∧ Post S env Y h₀ Zi Mi t o Q
    refine codeAny_whileLoop J (fun q t hJ => ?_) k ⟨ρ, ow, Z, M, hl, F, I, p⟩
    obtain ⟨r, w, Zi, Mi, hL, Fi, Ii, pi⟩ := hJ
    cases hL with
    | done _ _ ht =>
      refine ht A env Zi t R ei Fi.F Ii _ _ fun s1 L1 => ?_
      simp only [Bool.false_eq_true, if_false]
      exact wpAny_execs_nil (post_next (pi.trans L1.step (fun _ z => .inl z) (fun _ z => .inl z) fun _ z _ _ => z) (Fi.keep L1.keep) (Step.refl L1.inv))
    | next k _ _ r' w' _ ht hb hr =>
      refine ht A env Zi t R ei Fi.F Ii _ _ fun s1 L1 => ?_
      simp only [if_true]
      refine hb A env Y h₀ Zi Mi s1 _ _ R ei (Fi.keep L1.keep) L1.inv fun Z' M' s2 F2 k1 k2 k3 st => ⟨k, Nat.lt_succ_self _, r', w', Z', M', hr, F2, st.inv, ?_⟩
      exact (pi.trans L1.step (fun _ z => .inl z) (fun _ z => .inl z) fun _ z _ _ => z).trans st k1 k2 k3)
end
section
open PySem PySem.Spec PySem.Calls PyProof.Rows PySem.W
variable {S : Sys} {n : Nat} {sc : Scope} {c : Addr} {ρ : Rho} {ow : Own}
/-! expressions beside an owned thing -/
def EvO (S : Sys) (n : Nat) (sc : Scope) (c : Addr) (ρ : Rho) (ow : Own) (e : Expr) (a : AV) : Prop :=
  ∀ A env Y h₀ Z M s, Room n A → EnvIs env sc c → FrameS S Y h₀ Z M env s.heap ρ ow → Inv S s → Gives S A Z s (eval e env) a
def EvTO (S : Sys) (n : Nat) (sc : Scope) (c : Addr) (ρ : Rho) (ow : Own) (e : Expr) (b : Bool) : Prop :=
  ∀ A env Y h₀ Z M s, Room n A → EnvIs env sc c → FrameS S Y h₀ Z M env s.heap ρ ow → Inv S s → GivesB S A s (isTrue e env (eval e env)) b
theorem Ev.o {e a} (h : Ev S n sc c ρ e a) : EvO S n sc c ρ ow e a := fun A env Y h₀ Z M s R ei F I => h A env Z s R ei F.F I
theorem FrameS.lend {x l Y h₀ Z M env h} (F : FrameS S Y h₀ Z M env h ρ (.lst x l)) (hl : l.length ≤ 1000) : ∃ d, ¬ d = env.locals ∧ Frame S (fun a => Z a ∧ a ≠ d) env h ((x, .lst l) :: ρ) := by
  obtain ⟨d, vs, kk, r, zm, hd, hdl, hc, g, v⟩ := F.own
  have kz : ∀ a, (Z a ∧ a ≠ d) → Z a := fun a z => z.1
  refine ⟨d, hdl, fun a z => F.F.zb a z.1, ⟨F.F.zl, fun q => hdl q.symm⟩, fun y cc e => ⟨F.F.zc y cc e, hc y cc e⟩, F.F.ns, fun y b e => ?_⟩
  rcases lookup_cons_some e with ⟨rfl, rfl⟩ | ⟨_, e'⟩
  · exact ⟨_, r, .lst (fun q => q.2 rfl) g v.1 (v.1 ▸ hl) fun i u a e1 e2 => (v.2 i u a e1 e2).anti kz⟩
  · obtain ⟨u, r', hu⟩ := F.F.res y b e'
    exact ⟨u, r', hu.anti kz⟩
/-- the owned list, at its name -/
theorem own_name {x l px Y h₀ Z M env s A} {Q : Value → Shared → Prop} {E : Value → Shared → Prop} (hx : (x == ("__debug__" : Str)) = false) (hx2 : (x == ("__classdict__" : Str)) = false) (ei : EnvIs env sc c) (F : FrameS S Y h₀ Z M env s.heap ρ (.lst x l))
    (h : ∀ d vs kk, Res env s.heap x (.ref d) → M d → h₀.get? d = .none → d ≠ env.locals → (∀ y c, env.cells.lookup y = some c → c ≠ d) → s.heap.get? d = some (lstO vs kk) → Vals Z s.heap vs l → Q (.ref d) s) :
    wpAny (model S.prog S.w) A (eval (.Name x px) env) Q E s := by
  obtain ⟨d, vs, kk, r, zm, hd, hdl, hc, g, v⟩ := F.own
  have hk : env.scope.kind = .function := ei.scope ▸ ei.kind
  have hq := h d vs kk r zm hd hdl hc g v
  refine wpAny_Name ?_ hx
  rcases r with ⟨hl, m, hm, hmx⟩ | ⟨hl | hl, cc, hc, hcv⟩
  · exact wpAny_loadName_local hk hl hm hmx hq
  · exact wpAny_loadName_cell hk hl hc hcv hq
  · exact wpAny_loadName_free hk hl hc hcv hq hx2
/-- the owned list has changed -/
theorem own_set {x l l' Y h₀ Z M env} {s : Shared} {h' : Heap} {tk : Nat} {d : Addr} {vs' : List Value} {kk' : Nat} (F : FrameS S Y h₀ Z M env s.heap ρ (.lst x l)) (I : Inv S s) (r : Res env s.heap x (.ref d)) (zm : M d) (hd : h₀.get? d = .none) (hdl : d ≠ env.locals) (hc : ∀ y c, env.cells.lookup y = some c → c ≠ d)
    (hs : Heap.SameBut d s.heap h') (hg : h'.get? d = some (lstO vs' kk')) (hv : Vals Z s.heap vs' l') : FrameS S Y h₀ Z M env h' ρ (.lst x l') ∧ Step S M s { s with heap := h', toks := tk } := by
  have sm : ∀ b o, ¬ Z b → notTbl o = true → s.heap.get? b = some o → h'.get? b = some o := fun b o z _ e => (hs.2 b fun q => z (q ▸ F.mz d zm)).trans e
  have rk : ∀ y v, Res env s.heap y v → Res env h' y v := fun y v r => by
    rcases r with ⟨r1, m1, r2, r3⟩ | ⟨r1, c1, r2, r3⟩
    · exact .inl ⟨r1, m1, r2.sameBut hs hdl.symm, r3⟩
    · exact .inr ⟨r1, c1, r2, r3.sameBut hs (hc y c1 r2)⟩
  refine ⟨⟨⟨fun a z => ⟨(F.F.zb a z).1, hereS hs ⟨_, hg⟩ a (F.F.zb a z).2⟩, F.F.zl, F.F.zc, let ⟨m, hm⟩ := F.F.ns; ⟨m, hm.sameBut hs hdl.symm⟩, fun y a e => ?_⟩, ?_, F.mz, F.ml, F.mc, F.sub, F.yb, F.k0.new hd hs, F.newL, F.newC, F.apart, F.start, fun y hy => ?_⟩, ?_⟩
  · obtain ⟨v, r, hv⟩ := F.F.res y a e
    exact ⟨v, rk _ _ r, hv.same sm⟩
  · exact ⟨d, vs', kk', rk _ _ r, zm, hd, hdl, hc, hg, hv.same sm⟩
  · obtain ⟨cc, v, r1, r2⟩ := F.cellOk y hy
    exact ⟨cc, v, r1, r2.sameBut hs (hc y cc r1)⟩
  · exact ⟨fun b o z e _ => (hs.2 b fun q => z (q ▸ zm)).trans e, fun b o e => hereS hs ⟨_, hg⟩ b ⟨o, e⟩, .refl _, I.new (F.start.none hd) hs⟩
theorem St.append {x l px apos e cpos pos a} {pl : Env → Sem Bool} (hx : (x == ("__debug__" : Str)) = false) (hx2 : (x == ("__classdict__" : Str)) = false) (h : EvO S n sc c ρ (.lst x l) e a) (hl : l.length ≤ 1000)
    (hi : ∀ env : Env, env.scope = sc → interactive env = false) (hs : ∀ env : Env, env.scope = sc → swapsWith (.Call (.Attribute (.Name x px) "append" apos) [e] [] cpos) none pos.line env = pure false)
    (he : ∀ env, eval (.Call (.Attribute (.Name x px) "append" apos) [e] [] cpos) env = (do
      let ov ← eval (.Name x px) env
      standAt apos.atName
      let (f, first) ← holding [ov] (getMethod ov "append" (pl env))
      callWith cpos f first (backTo cpos (starEach [e] env)) (backToKw cpos (keywordEach [] env))) := by intro _; rfl)
    (hst : ∀ env, starEach [e] env = [(false, eval e env)] := by intro _; rfl) :
    St S n sc c ρ (.lst x l) (.Expr (.Call (.Attribute (.Name x px) "append" apos) [e] [] cpos) pos) (.next ρ (.lst x (l ++ [a]))) :=
  fun A env Y h₀ Z M s Q E R ei F I p => PySem.wpAny_Expr (by
    rw [he]
    refine wpAny_bind (own_name hx hx2 ei F fun d vs kk r zm hd hdl hc g v => wpAny_bind (wpAny_standAt (wpAny_bind (wpAny_holding ?_))))
    refine getMethod_list_append g rfl rfl ?_
    refine callWith_builtin_kwB (by rw [hst]; rfl) rfl ?_
    rw [hst]
    refine evalArgs_plain (spliced_cons (h A env Y h₀ Z M s R ei F I _ _ fun y s1 L1 hy => spliced_nil ?_))
    refine wpAny_list_append_plain ⟨kk, L1.keep.get _ _ g rfl⟩ (fun h' hp hs => ?_) (by have := v.1; unfold sizeLine; simp; omega)
    obtain ⟨kk', hp⟩ := hp
    obtain ⟨F', st⟩ := own_set (tk := s1.toks) (F.keep L1.keep) L1.inv (r.keep L1.keep) zm hd hdl hc hs (vs' := vs ++ [y]) (by simpa using hp) (vals_snoc (v.keep L1.keep) hy)
    exact post_next p F' (L1.step.trans st fun _ z => .inl z)) (hi env ei.scope) (hs env ei.scope)
theorem setItem_plain {prog : Program} {w : World} {A : Around} {E : Value → Shared → Prop} {s : Shared} {l : Addr} {vs : List Value} {n : Nat} {k : Int} {t : Tok} {v : Value} {Q : Unit → Shared → Prop} (ho : s.heap.get? l = some (lstO vs n))
    (h0 : 0 ≤ k) (hfit : k < 2 ^ 63) (hn : k < vs.length)
    (hQ : ∀ h' n', h'.get? l = some (lstO (vs.set k.toNat v) n') → Heap.SameBut l s.heap h' → Q () { s with heap := h' }) :
    wpAny (model prog w) A (setItem (.ref l) (.int k t) v) Q E s := by
  have hl : s.heap.IsList l vs.toArray := ⟨_, ho, rfl, n, rfl⟩
  unfold setItem
  try with_reducible refine wpAny_holding ?_
  first | refine wpAny_bind (wpAny_pure ?_) | skip
  refine wpAny_bind (wpAny_sequenceKey hl.typeIs (by decide) ?_)
  refine wpAny_bind (wpAny_callSpecial?_slot (name := Str.ofString "__setitem__") hl.typeIs slot_list_setitem
    (wpAny_call_entry slot_list_setitem hl.typeIs entry_list_setitem ?_ (args_list_setitem _ _ _)))
  show wpAny _ _ (Builtin.List.listSubscript? (.int k t) >>= _) _ _ s
  refine wpAny_bind (wpAny_listSubscript_int (fitsIndex_of h0 hfit) ?_)
  clear hfit
  obtain ⟨j, rfl⟩ := Int.eq_ofNat_of_zero_le h0
  have hj : j < vs.toArray.size := by simp; omega
  have hx' : vs.toArray[j]? = some vs.toArray[j] := Array.getElem?_eq_getElem hj
  show wpAny _ _ ((seqItemAt l j >>= fun r => pure (r.map (j, ·))) >>= _) _ _ s
  refine wpAny_bind (wpAny_bind (wpAny_seqItemAt ho rfl (wpAny_pure ?_)))
  rw [hx']
  show wpAny _ _ (setSeqItemAt l j v >>= _) _ _ s
  have e : Obj.mapSeq (·.setIfInBounds j v) (lstO vs n) = lstO (vs.set j v) (n + 1) ∨ Obj.mapSeq (·.setIfInBounds j v) (lstO vs n) = lstO (vs.set j v) n := by
    unfold Obj.mapSeq
    first
      | (left; simp; done)
      | (right; simp; done)
  obtain ⟨n', e⟩ : ∃ n', Obj.mapSeq (·.setIfInBounds j v) (lstO vs n) = lstO (vs.set j v) n' := e.elim (fun q => ⟨_, q⟩) fun q => ⟨_, q⟩
  have hfin : (s.heap.update l (Obj.mapSeq (·.setIfInBounds j v))).get? l = some (lstO (vs.set j v) n') := by
    rw [Heap.get?_update_self _ ho (by rw [e]; rfl), e]
  refine wpAny_bind (wpAny_setSeqItemAt ho rfl ?_)
  first
    | exact wpAny_bind (wpAny_pure (wpAny_pure ⟨.none, rfl, wpAny_pure (hQ _ _ hfin (Heap.SameBut.update ..))⟩))
    | exact wpAny_pure ⟨.none, rfl, wpAny_pure (hQ _ _ hfin (Heap.SameBut.update ..))⟩
theorem vals_set {Z h vs as v a} (x : Vals Z h vs as) (y : Val Z h v a) (i : Nat) : Vals Z h (vs.set i v) (as.set i a) := by
  refine ⟨by simp [x.1], fun j u b e1 e2 => ?_⟩
  rw [List.getElem?_set] at e1 e2
  split at e1
  · rename_i q
    rw [if_pos q] at e2
    split at e1 <;> split at e2 <;> first | (cases e2; done) | (cases e1; done) | (cases e1; cases e2; exact y)
  · rename_i q
    rw [if_neg q] at e2
    exact x.2 j u b e1 e2
theorem St.setItem {x l px i spos e pos a k} (hx : (x == ("__debug__" : Str)) = false) (hx2 : (x == ("__classdict__" : Str)) = false) (h : EvO S n sc c ρ (.lst x l) e a) (h2 : Ev S n sc c ρ i (.int k)) (h0 : 0 ≤ k) (hn : k < l.length) (hl : l.length ≤ 1000)
    (hs : ∀ env : Env, env.scope = sc → swapsWith e (some (.Subscript (.Name x px) i spos)) pos.line env = pure false) :
    St S n sc c ρ (.lst x l) (.Assign [.Subscript (.Name x px) i spos] e pos) (.next ρ (.lst x (l.set k.toNat a))) :=
  fun A env Y h₀ Z M s Q E R ei F I p => wpAny_Assign_Subscript (h A env Y h₀ Z M s R ei F I _ _ fun y s1 L1 hy =>
    own_name hx hx2 ei (F.keep L1.keep) fun d vs kk r zm hd hdl hc g v => h2 A env Z s1 R ei (F.keep L1.keep).F L1.inv _ _ fun w s2 L2 hw => by
      cases hw
      refine setItem_plain (L2.keep.get _ _ g rfl) h0 (by omega) (by rw [v.1]; exact hn) fun h' n' hg' hs' => ?_
      have L12 := L1.trans L2
      obtain ⟨F', st⟩ := own_set (tk := s2.toks) (F.keep L12.keep) L2.inv (r.keep L2.keep) zm hd hdl hc hs' hg' (vals_set (v.keep L2.keep) (hy.keep L2.keep) k.toNat)
      exact post_next p F' (L12.step.trans st fun _ z => .inl z)) (hs env ei.scope)
def InpSem (S : Sys) (n : Nat) (op : Operator) (a b r : AV) : Prop :=
  ∀ A Z s v w, Room n A → Inv S s → Bd S Z s.heap → Val Z s.heap v a → Val Z s.heap w b → Gives S A Z s (inplaceOp op v w) r
theorem InpSem.add {i j} : InpSem S n .Add (.int i) (.int j) (.int (i + j)) := fun A Z s v w R I B hv hw Q E h => by
  cases hv; cases hw; exact wpAny_iadd_int (h _ _ (Later.tok I _) (.int _ _))
theorem St.augItem {x l px i spos op e pos a b r k} (hx : (x == ("__debug__" : Str)) = false) (hx2 : (x == ("__classdict__" : Str)) = false) (h2 : Ev S n sc c ρ i (.int k)) (h0 : 0 ≤ k) (ha : l[k.toNat]? = some a) (h : Ev S n sc c ρ e b) (h3 : InpSem S n op a b r) (hl : l.length ≤ 1000)
    (hi : ∀ ov iv new, augStore i ov iv new = (do holding [new, ov, iv] (PySem.setItem ov iv new); release [new, ov, iv] []; pure .next) := by intros; rfl) :
    St S n sc c ρ (.lst x l) (.AugAssign (.Subscript (.Name x px) i spos) op e pos) (.next ρ (.lst x (l.set k.toNat r))) :=
  fun A env Y h₀ Z M s Q E R ei F I p => wpAny_AugAssign_SubscriptAny (own_name hx hx2 ei F fun d vs kk r' zm hd hdl hc g v => h2 A env Z s R ei F.F I _ _ fun w s1 L1 hw => by
      cases hw
      have v1 := v.keep L1.keep
      obtain ⟨u, hu, hu'⟩ := vals_at v1 ha
      have hlt := (List.getElem?_eq_some_iff.mp ha).1
      have hl1 : s1.heap.IsList d vs.toArray := ⟨_, L1.keep.get _ _ g rfl, rfl, kk, rfl⟩
      refine wpAny_getItem_list hl1 h0 (by omega) (by simpa using hu) ?_
      refine h A env Z s1 R ei (F.keep L1.keep).F L1.inv _ _ fun y s2 L2 hy => ?_
      have L12 := L1.trans L2
      refine h3 A Z s2 u y R L2.inv (F.keep L12.keep).F.bd (hu'.keep L2.keep) hy _ _ fun z s3 L3 hz => ?_
      have L13 := L12.trans L3
      refine setItem_plain (L13.keep.get _ _ g rfl) h0 (by omega) (by rw [v.1]; omega) fun h' n' hg' hs' => ?_
      obtain ⟨F', st⟩ := own_set (tk := s3.toks) (F.keep L13.keep) L3.inv (r'.keep L13.keep) zm hd hdl hc hs' hg' (vals_set (v.keep L13.keep) hz k.toNat)
      exact post_next p F' (L13.step.trans st fun _ z => .inl z)) hi
end
section
open PySem PySem.Spec PySem.Calls PyProof.Rows PySem.W
variable {S : Sys} {n : Nat} {sc : Scope} {c : Addr} {ρ : Rho} {ow : Own}
/-! attributes of an owned instance -/
theorem putL_keys {name : Str} {hsh : Int} {t : Tok} {v : Value} : ∀ {l : List DictEntry}, (∀ e ∈ l, ∃ n t, e.key = .str n t) → ∀ e ∈ putL name hsh (.str name t) v l, ∃ n t, e.key = .str n t
  | [], _, e, he => by
    unfold putL at he
    rw [List.mem_singleton.mp he]; exact ⟨_, _, rfl⟩
  | d :: r, h, e, he => by
    unfold putL at he
    split at he
    · rcases List.mem_cons.mp he with rfl | he
      · exact h d List.mem_cons_self
      · exact h e (List.mem_cons_of_mem _ he)
    · rcases List.mem_cons.mp he with rfl | he
      · exact h e List.mem_cons_self
      · exact putL_keys (fun e he => h e (List.mem_cons_of_mem _ he)) e he
theorem putL_len {name : Str} {hsh : Int} {k v : Value} : ∀ {l : List DictEntry}, (putL name hsh k v l).length ≤ l.length + 1
  | [] => Nat.le_refl _
  | d :: r => by
    unfold putL
    split
    · simp
    · have := putL_len (name := name) (hsh := hsh) (k := k) (v := v) (l := r); simp; omega
theorem isStr_self (name : Str) (t : Tok) : (Value.str name t).isStr name = true := by simp [Value.isStr]
theorem isStr_ne {name x : Str} {e : Value} (h : e.isStr name = true) (hx : x ≠ name) : e.isStr x = false := by
  cases e <;> simp_all [Value.isStr]
  exact fun q => hx (q ▸ rfl)
theorem putL_get {name : Str} {hsh : Int} {t : Tok} {v : Value} {x : Str} : ∀ {l : List DictEntry}, ((putL name hsh (.str name t) v l).find? (·.key.isStr x)).map (·.val) = if x = name then some v else (l.find? (·.key.isStr x)).map (·.val)
  | [] => by
    unfold putL
    by_cases q : x = name
    · subst q; rw [if_pos rfl, List.find?_cons]; simp only [isStr_self, if_true]; rfl
    · rw [if_neg q, List.find?_cons]
      have : (Value.str name t).isStr x = false := isStr_ne (isStr_self name t) q
      simp [this]
  | d :: r => by
    unfold putL
    by_cases hd : d.key.isStr name = true
    · rw [if_pos hd]
      by_cases q : x = name
      · subst q; rw [if_pos rfl, List.find?_cons]; simp [hd]
      · rw [if_neg q]
        have := isStr_ne hd q
        rw [List.find?_cons, List.find?_cons]; simp [this]
    · rw [if_neg hd]
      have ih := putL_get (name := name) (hsh := hsh) (t := t) (v := v) (x := x) (l := r)
      by_cases q : x = name
      · subst q
        rw [if_pos rfl] at ih ⊢
        rw [List.find?_cons]; simp only [hd]; exact ih
      · rw [if_neg q] at ih ⊢
        rw [List.find?_cons, List.find?_cons]
        cases hx : d.key.isStr x with
        | true => rfl
        | false => exact ih
/-- what a class must say for a plain store -/
def ownSet (K : Frag) (C : Addr) (name : Str) : Bool :=
  findIn K (.ref C) "__setattr__" == some (some (.builtin "object.__setattr__")) && plainOver K C && takerIn K C name == some none && hasDictIn K C
theorem setAttr_own {A : Around} {s : Shared} {x d C : Addr} {m : Str → Option Value} {name : Str} {v : Value} {Q : Unit → Shared → Prop} {E : Value → Shared → Prop} (I : Inv S s) (hx : s.heap.get? x = some (insO C d)) {b : Nat} (hd : DictN s.heap d m b) (hb : b < 50) (hg : ownSet S.K C name = true)
    (h : ∀ h' tk, DictN h' d (fun y => if y = name then some v else m y) (b + 1) → Heap.SameBut d s.heap h' → Q () { s with heap := h', toks := tk }) :
    wpAny (model S.prog S.w) A (setAttr (.ref x) name v) Q E s := by
  simp only [ownSet, Bool.and_eq_true, beq_iff_eq] at hg
  obtain ⟨⟨⟨g1, g2⟩, g3⟩, g4⟩ := hg
  obtain ⟨⟨l⟩, nn, hdo, hk, hsz, hm⟩ := hd
  have J : InstAt s.heap x (insO C d) C (some (dObj ⟨l⟩ nn)) := ⟨hx, rfl, rfl, hdo⟩
  simp only [List.size_toArray] at hsz
  refine set_plain I.K J g1 ?_
  refine osa_open (s := { s with toks := s.toks + 1 }) I.K J g2 g3 fun _ => ?_
  obtain ⟨cd, hc, hd'⟩ := any_some g4
  have hkl : ∀ e ∈ l, ∃ n t, e.key = .str n t := fun e he => hk e (by simpa using he)
  have hany : l.any (·.refKey) = false := by
    rw [List.any_eq_false]
    intro e he
    obtain ⟨n, t, hn⟩ := hkl e he
    simp [DictEntry.refKey, hn]
  have K := I.K
  obtain ⟨hh, g, dr, t, os⟩ := s
  dsimp only at *
  let tk1 := t + 1
  let od' := dictOf (putL name (PyData.keyHash S.w.params name) (.str name tk1) v l) (putN name l nn)
  have e0 : Obj.putName name (PyData.keyHash S.w.params name) (.str name tk1) v (dObj ⟨l⟩ nn) = od' := putName_dict _ _ _ _ _ _
  have D' : (hh.update d (Obj.putName name (PyData.keyHash S.w.params name) (.str name tk1) v)).get? d = some od' := by
    rw [Heap.get?_update_self _ hdo (by rw [e0]; rfl), e0]
  have hlen' : (putL name (PyData.keyHash S.w.params name) (.str name tk1) v l).length ≤ l.length + 1 := putL_len
  refine wpAny_bind (wpAny_pure (wpAny_bind (wpAny_bind (wpAny_loadPart hx (wpAny_bind ((looks_clsIn K hc).here ?_))))))
  rw [hd']
  refine wpAny_pure (a := some d) (wpAny_bind (wpAny_pure (wpAny_bind ?_)))
  unfold nsSet
  refine wpAny_bind (wpAny_bind (wpAny_askSetting (wpAny_pure (wpAny_bind (wpAny_mkText (wpAny_bind (wpAny_loadPart hdo ?_)))))))
  dsimp only
  have c' : (!((⟨l⟩ : Array DictEntry).any (·.key.isStr name)) && (⟨l⟩ : Array DictEntry).any (·.refKey)) = false := by
    rw [← Array.any_toList, ← Array.any_toList]
    show (_ && l.any (·.refKey)) = false
    rw [hany, Bool.and_false]
  rw [aRefKeyMayBeTheName_at, c']
  refine wpAny_updatePart hdo ?_
  refine wpAny_bind (wpAny_lookBehind D' (pastItsLine_dict (by rw [List.size_toArray, sizeLine_eq]; omega)) ?_)
  refine wpAny_pure (h _ _ ⟨_, _, D', ?_, ?_, fun y => ?_⟩ (Heap.SameBut.update ..))
  · intro e he
    exact putL_keys hkl e (by simpa using he)
  · simp; omega
  · have := putL_get (name := name) (hsh := PyData.keyHash S.w.params name) (t := tk1) (v := v) (x := y) (l := l)
    unfold nsFind findBy
    simp only [List.find?_toArray]
    rw [this]
    have h2 := hm y
    unfold nsFind findBy at h2
    simp only [List.find?_toArray] at h2
    rw [h2]
end
section
open PySem PySem.Spec PySem.Calls PyProof.Rows PySem.W
variable {S : Sys} {n : Nat} {sc : Scope} {c : Addr} {ρ : Rho} {ow : Own}
/-- values that lean on no instance -/
def AV.isInt : AV → Bool
  | .int _ => true
  | _ => false
def AV.flat : AV → Bool
  | .int _ => true
  | .bool _ => true
  | .none => true
  | .lst l => l.all AV.isInt
  | _ => false
theorem val_isInt {Z Z' : Addr → Prop} {h : Heap} {v a} (hv : Val Z h v a) (ha : a.isInt = true) : Val Z' h v a := by
  cases hv with
  | int i t => exact .int i t
  | _ => cases ha
theorem val_flat {Z : Addr → Prop} {h : Heap} {v a} {d dd C : Addr} {es : Array DictEntry} {k : Nat} (hv : Val (fun a => Z a ∧ a ≠ d ∧ a ≠ dd) h v a) (ha : a.flat = true) (hd : h.get? d = some (insO C dd)) (hdd : h.get? dd = some (dObj es k)) : Val Z h v a := by
  cases hv with
  | int i t => exact .int i t
  | bool b => exact .bool b
  | none => exact .none
  | val => cases ha
  | tup => cases ha
  | inst => cases ha
  | obj => cases ha
  | lst hz hg hl hb hv =>
    have ha := List.all_eq_true.mp ha
    refine .lst (fun z => hz ⟨z, fun q => ?_, fun q => ?_⟩) hg hl hb fun i u x e1 e2 => val_isInt (hv i u x e1 e2) (ha x (List.mem_of_getElem? e2))
    · rw [q, hd] at hg; cases hg
    · rw [q, hdd] at hg; have := congrArg (Option.map (·.cls)) hg; simp at this
theorem FrameS.lendI {x C fs Y h₀ Z M env h} (F : FrameS S Y h₀ Z M env h ρ (.ins x C fs)) (hl : fs.length ≤ 100) : ∃ d dd es k, h.get? d = some (insO C dd) ∧ h.get? dd = some (dObj es k) ∧ Frame S (fun a => Z a ∧ a ≠ d ∧ a ≠ dd) env h ((x, .inst C fs) :: ρ) := by
  obtain ⟨d, dd, m, f, r, zm, zmm, hd, hd2, hdl, hddl, hc, g, hm, a1, a2, a3⟩ := F.own
  have kz : ∀ a, (Z a ∧ a ≠ d ∧ a ≠ dd) → Z a := fun a z => z.1
  obtain ⟨es, nn, g2, r1, r2, r3⟩ := id hm
  refine ⟨d, dd, es, nn, g, g2, fun a z => F.F.zb a z.1, ⟨F.F.zl, fun q => hdl q.symm, fun q => hddl q.symm⟩, fun y cc e => ⟨F.F.zc y cc e, (hc y cc e).1, (hc y cc e).2⟩, F.F.ns, fun y b e => ?_⟩
  rcases lookup_cons_some e with ⟨rfl, rfl⟩ | ⟨_, e'⟩
  · exact ⟨_, r, .inst f (fun q => q.2.1 rfl) (fun q => q.2.2 rfl) g ⟨es, nn, g2, r1, Nat.le_trans r2 hl, r3⟩ a1 a2 fun k y e => (a3 k y e).anti kz⟩
  · obtain ⟨u, r', hu⟩ := F.F.res y b e'
    exact ⟨u, r', hu.anti kz⟩
theorem EvO.lendI {x C fs e a} (hl : fs.length ≤ 100) (ha : a.flat = true) (h : Ev S n sc c ((x, .inst C fs) :: ρ) e a) : EvO S n sc c ρ (.ins x C fs) e a :=
  fun A env Y h₀ Z M s R ei F I Q E k => by
    obtain ⟨d, dd, es, nn, g, g2, F'⟩ := F.lendI hl
    exact h A env _ s R ei F' I Q E fun v s' L hv => k v s' L (val_flat hv ha (L.keep.get _ _ g rfl) (L.keep.get _ _ g2 rfl))
theorem EvTO.lendI {x C fs e b} (hl : fs.length ≤ 100) (h : EvT S n sc c ((x, .inst C fs) :: ρ) e b) : EvTO S n sc c ρ (.ins x C fs) e b :=
  fun A env Y h₀ Z M s R ei F I => by
    obtain ⟨d, dd, es, nn, g, g2, F'⟩ := F.lendI hl
    exact h A env _ s R ei F' I
theorem St.ifO_f {t b e pos o} (h1 : EvTO S n sc c ρ ow t false) (h2 : Ex S n sc c ρ ow e o) : St S n sc c ρ ow (.If t b e pos) o :=
  fun A env Y h₀ Z M s Q E R ei F I p => wpAny_If (h1 A env Y h₀ Z M s R ei F I _ _ fun s1 L1 => by
    simp only [Bool.false_eq_true, if_false]
    exact h2 A env Y h₀ Z M s1 Q E R ei (F.keep L1.keep) L1.inv (p.trans L1.step (fun _ z => .inl z) (fun _ z => .inl z) fun _ z _ _ => z))
/-- self.attr = e -/
theorem St.attr {x C fs px name apos e pos a} (hx : (x == ("__debug__" : Str)) = false) (hx2 : (x == ("__classdict__" : Str)) = false) (h : EvO S n sc c ρ (.ins x C fs) e a) (hl : fs.length < 40) (hg : ownSet S.K C name = true)
    (hs : ∀ env : Env, env.scope = sc → swapsWith e (some (.Attribute (.Name x px) name apos)) pos.line env = pure false) :
    St S n sc c ρ (.ins x C fs) (.Assign [.Attribute (.Name x px) name apos] e pos) (.next ρ (.ins x C ((name, a) :: fs))) :=
  fun A env Y h₀ Z M s Q E R ei F I p => plainObj_wpAny_Assign_Attribute (h A env Y h₀ Z M s R ei F I _ _ fun v s1 L1 hv => by
    have F1 := F.keep L1.keep
    obtain ⟨d, dd, m, f, r, zm, zmm, hd, hd2, hdl, hddl, hc, g, hm, a1, a2, a3⟩ := F1.own
    have hk : env.scope.kind = .function := ei.scope ▸ ei.kind
    have go : ∀ (Q : Value → Shared → Prop), Q (.ref d) s1 → wpAny (model S.prog S.w) A (eval (.Name x px) env) Q E s1 := fun Q hq => by
      refine wpAny_Name ?_ hx
      rcases r with ⟨hl, m, hm, hmx⟩ | ⟨hl | hl, cc, hc, hcv⟩
      · exact wpAny_loadName_local hk hl hm hmx hq
      · exact wpAny_loadName_cell hk hl hc hcv hq
      · exact wpAny_loadName_free hk hl hc hcv hq hx2
    refine go _ (setAttr_own L1.inv g hm (by omega) hg fun h' tk hm' hsb => ?_)
    have hne : d ≠ dd := fun q => by
      obtain ⟨es, nn, g2, _⟩ := hm
      rw [q, g2] at g; cases g
    have sm : ∀ b o, ¬ Z b → notTbl o = true → s1.heap.get? b = some o → h'.get? b = some o := fun b o z _ e => (hsb.2 b fun q => z (q ▸ F.mz dd zmm)).trans e
    have rk : ∀ y v, Res env s1.heap y v → Res env h' y v := fun y v r => by
      rcases r with ⟨r1, m1, r2, r3⟩ | ⟨r1, c1, r2, r3⟩
      · exact .inl ⟨r1, m1, r2.sameBut hsb hddl.symm, r3⟩
      · exact .inr ⟨r1, c1, r2, r3.sameBut hsb (hc y c1 r2).2⟩
    have hex : ∃ o, h'.get? dd = some o := let ⟨es, nn, e, _⟩ := hm'; ⟨_, e⟩
    have F2 : FrameS S Y h₀ Z M env h' ρ (.ins x C ((name, a) :: fs)) := by
      refine ⟨⟨fun a z => ⟨(F1.F.zb a z).1, hereS hsb hex a (F1.F.zb a z).2⟩, F.F.zl, F.F.zc, let ⟨m, hm⟩ := F1.F.ns; ⟨m, hm.sameBut hsb hddl.symm⟩, fun y a e => ?_⟩, ?_, F.mz, F.ml, F.mc, F.sub, F.yb, F1.k0.new hd2 hsb, F.newL, F.newC, F.apart, F.start, fun y hy => ?_⟩
      · obtain ⟨v, r, hv⟩ := F1.F.res y a e
        exact ⟨v, rk _ _ r, hv.same sm⟩
      · refine ⟨d, dd, _, fun k => if k = name then v else f k, rk _ _ r, zm, zmm, hd, hd2, hdl, hddl, hc, (hsb.2 d hne).trans g, hm', fun k q => ?_, fun k y q => ?_, fun k y q => ?_⟩
        · rw [List.lookup_cons] at q
          cases hq : k == name with
          | true => rw [hq] at q; cases q
          | false => rw [hq] at q; show (if k = name then some v else m k) = _; rw [if_neg (beq_eq_false_iff_ne.mp hq)]; exact a1 k q
        · show (if k = name then some v else m k) = some (if k = name then v else f k)
          rcases lookup_cons_some q with ⟨h1, _⟩ | ⟨h1, h2⟩
          · rw [if_pos h1, if_pos h1]
          · rw [if_neg h1, if_neg h1]; exact a2 k y h2
        · show Val Z h' (if k = name then v else f k) y
          rcases lookup_cons_some q with ⟨h1, h2⟩ | ⟨h1, h2⟩
          · rw [if_pos h1, h2]; exact hv.same sm
          · rw [if_neg h1]; exact (a3 k y h2).same sm
      · obtain ⟨cc, v, r1, r2⟩ := F1.cellOk y hy
        exact ⟨cc, v, r1, r2.sameBut hsb (hc y cc r1).2⟩
    exact post_next p F2 (L1.step.trans (Z' := M) ⟨fun b o z e _ => (hsb.2 b fun q => z (q ▸ zmm)).trans e, fun b o e => hereS hsb hex b ⟨o, e⟩, .refl _, L1.inv.new (F.start.none hd2) hsb⟩ fun _ z => .inl z)) (hs env ei.scope)
/-! making an instance -/
theorem Room.under {A : Around} {C : Addr} {vals : List Value} {kw : List (Str × Value)} (h : Room (n + 2) A) : Room (n + 1) (A.under (.builtin "type.__call__" ⟨.ref C :: vals, kw⟩)) := ⟨h.hd, by
  have := h.depth
  rw [depth_under_kw]; omega, by
  have := h.units
  show A.units + (Code.builtin "type.__call__" ⟨.ref C :: vals, kw⟩).cUnits + 30 * (n + 1) + 60 < 9900
  have e : (Code.builtin "type.__call__" ⟨.ref C :: vals, kw⟩).cUnits ≤ 10 := by
    have : (Code.builtin "type.__call__" ⟨.ref C :: vals, kw⟩).cUnits = (Code.builtin "type.__call__" ⟨[], []⟩).cUnits := rfl
    rw [this]; decide +kernel
  omega⟩
theorem res_det {env : Env} {h : Heap} {x : Str} {v v' : Value} (r : Res env h x v) (r' : Res env h x v') : v = v' := by
  rcases r with ⟨a, m, ⟨o, es, ep, g, d, k, f⟩, e⟩ | ⟨a, cc, l, o, g, d⟩
  · rcases r' with ⟨a', m', ⟨o', es', ep', g', d', k', f'⟩, e'⟩ | ⟨a', cc', l', o', g', d'⟩
    · rw [g] at g'; cases g'; rw [d] at d'; cases d'
      rw [← f, f', e'] at e
      exact (Option.some.inj e).symm
    · rcases a' with q | q <;> rw [a] at q <;> cases q
  · rcases r' with ⟨a', m', ⟨o', es', ep', g', d', k', f'⟩, e'⟩ | ⟨a', cc', l', o', g', d'⟩
    · rcases a with q | q <;> rw [a'] at q <;> cases q
    · rw [l] at l'; cases l'; rw [g] at g'; cases g'; rw [d] at d'; cases d'; rfl
theorem CallSem.make {C f o fd cd body as kas bs fs'} (hm : makesIn S.K C = true) (hi : clsFn S.K C "__init__" f = true) (K : FnOk S f o fd sc cd body)
    (hb : ∀ x : Addr, Binds S fd (.val (.ref x) :: as) kas (((("self" : Str), AV.val (.ref x)) : Str × AV) :: bs)) (hnm : ((((("self" : Str), AV.none) : Str × AV) :: bs).all fun p => sc.names.lookup p.1 == some .local || sc.names.lookup p.1 == some .cell) = true) (hnd : (((("self" : Str)) :: bs.map (·.1))).Nodup)
    (hx : ∀ x : Addr, Ex S n sc cd (((("self" : Str), AV.val (.ref x)) : Str × AV) :: bs) (.ins "self" C []) body (.next (((("self" : Str), AV.val (.ref x)) : Str × AV) :: bs) (.ins "self" C fs'))) (hl : fs'.length ≤ 100) : CallSem S (n + 2) (.val (.ref C)) as kas (.inst C fs') :=
  fun A Z s v vs kvs R I B hv hvs hk hkv Q E k => by
    cases hv
    refine wpAny_call ?_
    simp only [clsFn, Bool.and_eq_true, beq_iff_eq] at hi
    obtain ⟨h, g, d, t, os⟩ := s
    dsimp only at *
    refine make_core (makes_of I.K hm) (looks_findIn I.K hi.1) (fun self => bind_fn I.K self (beq_iff_eq.mp hi.2)) (.inl rfl) ?_
    have k1 : ∀ a o, h.get? a = some o → ((h.push emptyDict).push (instObj C h.objs.size)).get? a = some o := fun a o e => Heap.get?_push_of_some _ (Heap.get?_push_of_some _ e)
    have L0 : Later S ⟨h, g, d, t, os⟩ ⟨(h.push emptyDict).push (instObj C h.objs.size), g, d, t, os⟩ := Later.grow (t := t) I k1
    have hxo : ((h.push emptyDict).push (instObj C h.objs.size)).get? (h.objs.size + 1) = some (insO C h.objs.size) := by
      have : (h.push emptyDict).objs.size = h.objs.size + 1 := Heap.size_push ..
      rw [← this]; exact Heap.get?_push_size _ rfl
    have hdo : ((h.push emptyDict).push (instObj C h.objs.size)).get? h.objs.size = some (dObj #[] 0) := Heap.get?_push_of_some _ (Heap.get?_push_size _ rfl)
    have nx : h.get? (h.objs.size + 1) = .none := none_ge (Nat.le_succ _)
    have nd : h.get? h.objs.size = .none := fresh h
    generalize h.objs.size = dd at *
    generalize hx' : dd + 1 = xx at *
    have hB : Bd S (fun a => Z a ∨ a = xx ∨ a = dd) ((h.push emptyDict).push (instObj C dd)) := by
      intro a z
      rcases z with z | rfl | rfl
      · exact (B.keep L0.keep) a z
      · exact ⟨I.keep.none nx, _, hxo⟩
      · exact ⟨I.keep.none nd, _, hdo⟩
    have vw : ∀ {vs as}, Vals Z h vs as → Vals (fun a => Z a ∨ a = xx ∨ a = dd) ((h.push emptyDict).push (instObj C dd)) vs as := fun hv => (hv.more fun b z => by
      rcases z with z | rfl | rfl
      · exact .inl z
      · exact .inr nx
      · exact .inr nd).keep L0.keep
    refine fn_open (n := n) K (hb xx) (by simpa using hnm) (by simpa using hnd) R.under L0.inv hB (.cons (.val _) (vw hvs)) hk (vw hkv) fun A' env s₁ Z' M R' ei FS L hM hZ E' => ?_
    have L1 := L0.trans L
    have hself := FS.F.res "self" (.val (.ref xx)) (by rw [List.lookup_cons, beq_self_eq_true])
    obtain ⟨u, r, hu⟩ := hself
    cases hu
    have FI : FrameS S Z h Z' (fun a => M a ∨ a = xx ∨ a = dd) env s₁.heap (((("self" : Str), AV.val (.ref xx)) : Str × AV) :: bs) (.ins "self" C []) := by
      refine ⟨FS.F, ?_, fun a m => m.elim (FS.mz a) fun q => FS.sub a (.inr q), .inl FS.ml, fun y cc e => .inl (FS.mc y cc e), fun a y => FS.sub a (.inl y), fun a y => (B a y).2, L0.keep.trans FS.k0, L0.keep.none FS.newL, fun y cc e => L0.keep.none (FS.newC y cc e), FS.apart, I.keep, FS.cellOk⟩
      refine ⟨xx, dd, fun _ => .none, fun _ => .none, r, .inr (.inl rfl), .inr (.inr rfl), nx, nd, fun q => ?_, fun q => ?_, fun y cc e => ⟨fun q => ?_, fun q => ?_⟩, FS.k0.get _ _ hxo rfl, ⟨#[], 0, FS.k0.get _ _ hdo rfl, ?_, Nat.le_refl _, fun _ => rfl⟩, fun _ _ => rfl, fun k y q => (nomatch q), fun k y q => (nomatch q)⟩
      · have := FS.newL; rw [← q, hxo] at this; cases this
      · have := FS.newL; rw [← q, hdo] at this; cases this
      · have := FS.newC y cc e; rw [q, hxo] at this; cases this
      · have := FS.newC y cc e; rw [q, hdo] at this; cases this
      · intro e he; simp at he
    refine hx xx A' env Z h Z' _ s₁ _ E' R' ei FI L.inv fun Z'' M'' s' F'' _ _ _ st => ?_
    refine ⟨rfl, ?_⟩
    obtain ⟨u2, r3, hu2⟩ := F''.F.res "self" (.val (.ref xx)) (by rw [List.lookup_cons, beq_self_eq_true])
    cases hu2
    obtain ⟨x2, dd2, m2, f2, r2, zm2, zmm2, e1, e2, hdl, hddl, hc, g2, hm2, a1, a2, a3⟩ := F''.own
    cases res_det r3 r2
    refine k _ s' ⟨F''.k0, st.inv, L1.gens.trans st.gens⟩ ?_
    refine .inst f2 (fun z => B.not nx z) (fun z => ?_) g2 (let ⟨es, nn, q1, q2, q3, q4⟩ := hm2; ⟨es, nn, q1, q2, Nat.le_trans q3 hl, q4⟩) a1 a2 fun k y e => (a3 k y e).anti F''.sub
    obtain ⟨o, eo⟩ := (B dd2 z).2
    rw [e2] at eo; cases eo
/-- which instance it is -/
theorem Ex.obj {m C fs ss o} (h : ∀ a, Ex S n sc c ((m, .obj a C fs) :: ρ) ow ss o) : Ex S n sc c ((m, .inst C fs) :: ρ) ow ss o :=
  fun A env Y h₀ Z M s Q E R ei F I p => by
    obtain ⟨v, r, hv⟩ := F.F.res m (.inst C fs) (by rw [List.lookup_cons, beq_self_eq_true])
    cases hv with | @inst x d _ mm _ f hz hzd hg hd h1 h2 h3 => ?_
    refine h x A env Y h₀ Z M s Q E R ei ⟨⟨F.F.zb, F.F.zl, F.F.zc, F.F.ns, fun y b e => ?_⟩, F.own, F.mz, F.ml, F.mc, F.sub, F.yb, F.k0, F.newL, F.newC, F.apart, F.start, F.cellOk⟩ I p
    rcases lookup_cons_some e with ⟨rfl, rfl⟩ | ⟨hy, e'⟩
    · exact ⟨_, r, .obj f hz hzd hg hd h1 h2 h3⟩
    · refine F.F.res y b ?_
      rw [List.lookup_cons, beq_eq_false_iff_ne.mpr hy]; exact e'
end
section
open PySem PySem.Spec PySem.Calls PyProof.Rows PySem.W
variable {S : Sys} {n : Nat} {sc : Scope} {c : Addr} {ρ : Rho} {ow : Own}
/-! iterators whose turns change the heap -/
structure KeepX (S : Sys) (X : Addr → Prop) (h h' : Heap) : Prop where
  get : ∀ a o, ¬ X a → h.get? a = some o → notTbl o = true → h'.get? a = some o
  tab : ∀ a ps, ¬ X a → h.get? a = some (tbl ps) → h'.get? a = some (tbl ps) ∨ ((∃ c, (c, a) ∈ S.tabs) ∧ ∃ more, h'.get? a = some (tbl (ps ++ more)))
  here : ∀ a o, ¬ X a → h.get? a = some o → ∃ o', h'.get? a = some o'
theorem Keep.x {X : Addr → Prop} {h h' : Heap} (k : Keep S h h') : KeepX S X h h' := ⟨fun a o _ e q => k.get a o e q, fun a ps _ e => k.tab a ps e, fun a o _ e => k.here a o e⟩
theorem KeepX.mono {X Y : Addr → Prop} {h h' : Heap} (k : KeepX S X h h') (i : ∀ a, X a → Y a) : KeepX S Y h h' := ⟨fun a o n e q => k.get a o (fun x => n (i a x)) e q, fun a ps n e => k.tab a ps (fun x => n (i a x)) e, fun a o n e => k.here a o (fun x => n (i a x)) e⟩
theorem KeepX.trans {X : Addr → Prop} {h h' h'' : Heap} (x : KeepX S X h h') (y : KeepX S X h' h'') : KeepX S X h h'' where
  get := fun a o n e q => y.get a o n (x.get a o n e q) q
  tab := fun a ps n e => by
    rcases x.tab a ps n e with e1 | ⟨hc, more, e1⟩
    · exact y.tab a ps n e1
    · rcases y.tab a _ n e1 with e2 | ⟨_, more', e2⟩
      · exact .inr ⟨hc, more, e2⟩
      · exact .inr ⟨hc, more ++ more', by rw [e2, Array.append_assoc]⟩
  here := fun a o n e => let ⟨o', e'⟩ := x.here a o n e; y.here a o' n e'
theorem Keep.thenX {X : Addr → Prop} {h₀ h h' : Heap} (k : Keep S h₀ h) (x : KeepX S X h h') (hX : ∀ a, X a → h₀.get? a = .none) : Keep S h₀ h' := by
  have ne : ∀ a o, h₀.get? a = some o → ¬ X a := fun a o e q => by rw [hX a q] at e; cases e
  refine ⟨fun a o e q => x.get a o (ne a o e) (k.get a o e q) q, fun a ps e => ?_, fun a o e => let ⟨o', e'⟩ := k.here a o e; x.here a o' (ne a o e) e'⟩
  rcases k.tab a ps e with e1 | ⟨hc, more, e1⟩
  · exact x.tab a ps (ne a _ e) e1
  · rcases x.tab a _ (ne a _ e) e1 with e2 | ⟨_, more', e2⟩
    · exact .inr ⟨hc, more, e2⟩
    · exact .inr ⟨hc, more ++ more', by rw [e2, Array.append_assoc]⟩
theorem KeepX.new {X : Addr → Prop} {h h' : Heap} {a : Addr} (hs : Heap.SameBut a h h') (ha : X a) : KeepX S X h h' :=
  have ne : ∀ b, ¬ X b → b ≠ a := fun b n q => n (q ▸ ha)
  ⟨fun b o n e _ => (hs.2 b (ne b n)).trans e, fun b ps n e => .inl ((hs.2 b (ne b n)).trans e), fun b o n e => ⟨o, (hs.2 b (ne b n)).trans e⟩⟩
def GensTo (N : Nat) (g g' : Array GenState) : Prop := g.size ≤ g'.size ∧ ∀ i, i < N → g'[i]? = g[i]?
theorem GensTo.trans {N} {g g' g''} (x : GensTo N g g') (y : GensTo N g' g'') : GensTo N g g'' := ⟨Nat.le_trans x.1 y.1, fun i hi => (y.2 i hi).trans (x.2 i hi)⟩
theorem GensKeep.to {N} {g g'} (x : GensKeep g g') (h : N ≤ g.size) : GensTo N g g' := ⟨x.1, fun i hi => x.2 i (Nat.lt_of_lt_of_le hi h)⟩
structure Stay (S : Sys) (W : Addr → Prop) (t t' : Shared) : Prop where
  keep : KeepX S W t.heap t'.heap
  inv : Inv S t'
  gens : GensKeep t.gens t'.gens
structure Moved (S : Sys) (It : Addr → Prop) (N : Nat) (t t' : Shared) : Prop where
  keep : KeepX S It t.heap t'.heap
  inv : Inv S t'
  gens : GensTo N t.gens t'.gens
theorem Later.stay {W : Addr → Prop} {t t' : Shared} (L : Later S t t') : Stay S W t t' := ⟨L.keep.x, L.inv, L.gens⟩
theorem Stay.trans {W : Addr → Prop} {t t' t'' : Shared} (x : Stay S W t t') (y : Stay S W t' t'') : Stay S W t t'' := ⟨x.keep.trans y.keep, y.inv, x.gens.trans y.gens⟩
theorem Stay.refl {W : Addr → Prop} {t : Shared} (I : Inv S t) : Stay S W t t := (Later.refl I).stay
/-- what lies between the start of the expression and now -/
structure Past (S : Sys) (X : Addr → Prop) (s t : Shared) : Prop where
  L : Later S s t
  new : ∀ a, X a → s.heap.get? a = .none
theorem Past.moved {X It : Addr → Prop} {s t t' : Shared} (P : Past S X s t) (m : Moved S It s.gens.size t t') (h : ∀ a, It a → X a) : Past S X s t' :=
  ⟨⟨P.L.keep.thenX m.keep fun a q => P.new a (h a q), m.inv, ⟨Nat.le_trans P.L.gens.1 m.gens.1, fun i hi => (m.gens.2 i hi).trans (P.L.gens.2 i hi)⟩⟩, P.new⟩
theorem Past.stay {X W : Addr → Prop} {s t t' : Shared} (P : Past S X s t) (m : Stay S W t t') (h : ∀ a, W a → X a) : Past S X s t' :=
  ⟨⟨P.L.keep.thenX m.keep fun a q => P.new a (h a q), m.inv, P.L.gens.trans m.gens⟩, P.new⟩
/-- the iterator I will give these, one by one -/
def Ready (S : Sys) (A : Around) (Zc It W : Addr → Prop) (N : Nat) (I : Addr) : List AV → Shared → Prop
  | [], t => ∀ (Q : Option Value → Shared → Prop) (E : Value → Shared → Prop) t', Stay S W t t' → Bd S Zc t'.heap → (∀ t₂, Moved S It N t' t₂ → Q .none t₂) → wpAny (model S.prog S.w) A (pyNext (.ref I)) Q E t'
  | r :: rs, t => ∀ (Q : Option Value → Shared → Prop) (E : Value → Shared → Prop) t', Stay S W t t' → Bd S Zc t'.heap →
      (∀ v t₂, Moved S It N t' t₂ → (∀ a, It a → ∃ o, t₂.heap.get? a = some o) → Val Zc t₂.heap v r → Ready S A Zc It W N I rs t₂ → Q (some v) t₂) → wpAny (model S.prog S.w) A (pyNext (.ref I)) Q E t'
/-- an iterable -/
def IterV (S : Sys) (n : Nat) (Z : Addr → Prop) (s s₁ : Shared) (x : Value) (rs : List AV) : Prop :=
  ∀ A (Q : Value → Shared → Prop) (E : Value → Shared → Prop) s₂, Room n A → Later S s₁ s₂ →
    (∀ I It s₃, Later S s s₃ → (∀ a, It a → s.heap.get? a = .none) → (∀ a, It a → ∃ o, s₃.heap.get? a = some o) →
      (∀ (A' : Around) (W : Addr → Prop), Room n A' → (∀ a, W a → s₃.heap.get? a = .none) → Ready S A' (fun a => Z a ∨ It a ∨ W a) It W s.gens.size I rs s₃) → Q (.ref I) s₃) →
    wpAny (model S.prog S.w) A (pyIter x) Q E s₂
theorem KeepX.turn {wr : List Addr} {h h' : Heap} (hk : ∀ b o, b ∉ wr → h.get? b = some o → h'.get? b = some o) : KeepX S (fun b => b ∈ wr) h h' :=
  ⟨fun a o n e _ => hk a o n e, fun a ps n e => .inl (hk a _ n e), fun a o n e => ⟨o, hk a o n e⟩⟩
theorem Ready.walks {A : Around} (R : Room n A) {Z W : Addr → Prop} {s s1 : Shared} {Ia : Addr} {as : List AV} {fp wr : List Addr} {P : Nat → Value → Prop} {Stt : Nat → Heap → Prop} (I : Inv S s) (ok : IterOk S Z s s1 (.ref Ia) as Ia fp wr P Stt) (hW : ∀ b, W b → s1.heap.get? b = .none) :
    ∀ (rest : List AV) (i : Nat) (t : Shared), as.drop i = rest → i ≤ as.length → Inv S t → (∀ b o, ¬ (Z b ∨ b ∈ wr ∨ W b) → notTbl o = true → s1.heap.get? b = some o → t.heap.get? b = some o) → Stt i t.heap →
      Ready S A (fun a => Z a ∨ a ∈ wr ∨ W a) (fun b => b ∈ wr) W s.gens.size Ia rest t := by
  obtain ⟨_, W0, hst, there, hap, hnew, hval⟩ := ok
  have hfp : ∀ b ∈ fp, ¬ W b := fun b hb q => by obtain ⟨o, e, _⟩ := there 0 _ hst b hb; rw [hW b q] at e; cases e
  have hw1 : ∀ b ∈ wr, S.h₁.get? b = .none := fun b hb => I.keep.none (hnew b hb)
  intro rest
  induction rest with
  | nil =>
    intro i t hr hi It one hs Q E t' st B hQ
    have hin : i = as.length := by have := congrArg List.length hr; simp at this; omega
    subst hin
    have WA := W0 A R.hd
    have hs' : Stt as.length t'.heap := WA.frame _ _ _ hs fun b hb o e => by
      obtain ⟨o', e', nt⟩ := there _ _ hs b hb
      rw [e] at e'; cases e'
      exact st.keep.get b o (hfp b hb) e nt
    refine WA.done t' _ _ hs' fun h' tk hk => hQ _ ⟨KeepX.turn hk, Inv.turn st.inv hk hw1, Nat.le_refl _, fun _ _ => rfl⟩
  | cons r rs ih =>
    intro i t hr hi It one hs Q E t' st B hQ
    have hlt : i < as.length := by have := congrArg List.length hr; simp at this; omega
    have WA := W0 A R.hd
    have hs' : Stt i t'.heap := WA.frame _ _ _ hs fun b hb o e => by
      obtain ⟨o', e', nt⟩ := there _ _ hs b hb
      rw [e] at e'; cases e'
      exact st.keep.get b o (hfp b hb) e nt
    have one' : ∀ b o, ¬ (Z b ∨ b ∈ wr ∨ W b) → notTbl o = true → s1.heap.get? b = some o → t'.heap.get? b = some o := fun b o z q e => st.keep.get b o (fun w => z (.inr (.inr w))) (one b o z q e) q
    refine WA.item i t' _ _ hlt hs' fun v h' tk hP hst' hk => ?_
    have ha : as[i]? = some r := by
      have := congrArg (fun l => l[0]?) hr
      simpa using this
    have I' := Inv.turn (tk := tk) st.inv hk hw1
    have one2 : ∀ b o, ¬ (Z b ∨ b ∈ wr ∨ W b) → notTbl o = true → s1.heap.get? b = some o → h'.get? b = some o := fun b o z q e => hk b o (fun w => z (.inr (.inl w))) (one' b o z q e)
    refine hQ v _ ⟨KeepX.turn hk, I', Nat.le_refl _, fun _ _ => rfl⟩ (fun b hb => let ⟨o, e, _⟩ := there _ _ hst' b (WA.sub b hb); ⟨o, e⟩) ?_ ?_
    · refine Val.same (fun b o z q e => one2 b o z q e) ((hval i v r hP ha).more fun b z => ?_)
      rcases z with z | z | z
      · exact .inl (.inl z)
      · exact .inl (.inr z)
      · exact .inr (hW b z)
    · refine ih (i + 1) _ ?_ hlt I' one2 hst'
      have := congrArg (List.drop 1) hr; rw [List.drop_drop] at this; simpa [Nat.add_comm] using this
/-- a list, as an iterable -/
theorem IterV.list {Z : Addr → Prop} {s s₁ : Shared} {x : Value} {rs : List AV} (I : Inv S s) (L : Later S s s₁) (hb : Bd S Z s₁.heap) (hx : Val Z s₁.heap x (.lst rs)) : IterV S n Z s s₁ x rs := by
  intro A Q E s₂ R L2 k
  have L02 := L.trans L2
  obtain ⟨a, vs, kk, rfl, hz, hg, hv, hbl⟩ := list_sub (hx.keep L2.keep)
  have hl : s₂.heap.IsList a vs.toArray := ⟨_, hg, rfl, kk, rfl⟩
  refine wpAny_pyIter_list hl ?_
  have ne : a ≠ s₂.heap.objs.size := Nat.ne_of_lt (Heap.lt_size hg)
  have L3 := Later.grow (t := s₂.toks) L2.inv (h' := s₂.heap.push { cls := .type "list_iterator", data := .fields #[.ref a, .int 0 0] }) fun _ _ e => Heap.get?_push_of_some _ e
  have hb2 := (hb.keep L2.keep)
  have ok : IterOk S Z s { s₂ with heap := s₂.heap.push { cls := .type "list_iterator", data := .fields #[.ref a, .int 0 0] } } (.ref s₂.heap.objs.size) rs s₂.heap.objs.size [s₂.heap.objs.size, a] [s₂.heap.objs.size] (fun i v => vs.toArray[i]? = some v) (fun i h => h.IsListIter s₂.heap.objs.size a i ∧ h.IsList a vs.toArray) := by
    refine ⟨rfl, fun A' hA => by
      have W := Walks.list (prog := S.prog) (w := S.w) hA s₂.heap.objs.size a ne vs.toArray
      have e1 : vs.toArray.size = rs.length := by simp [hv.1]
      rw [e1] at W; exact W, ⟨⟨_, Heap.get?_push_size _ rfl, rfl, rfl⟩, hl.push _⟩, ?_, ?_, ?_, ?_⟩
    · rintro i h ⟨⟨o, ho, hc, _⟩, o2, ho2, hc2, _⟩ b hb
      rcases List.mem_cons.mp hb with rfl | hb
      · exact ⟨o, ho, by unfold notTbl; rw [hc]⟩
      · rcases List.mem_cons.mp hb with rfl | hb
        · exact ⟨o2, ho2, by unfold notTbl; rw [hc2]⟩
        · cases hb
    · intro b hb
      rcases List.mem_cons.mp hb with rfl | hb
      · exact hb2.not (fresh _)
      · rcases List.mem_cons.mp hb with rfl | hb
        · exact hz
        · cases hb
    · intro b hb
      rw [List.mem_singleton.mp hb]; exact L02.keep.none (fresh _)
    · intro i v a' hP ha
      refine ((hv.2 i v a' (by simpa using hP) ha).more fun b z => ?_).keep L3.keep
      exact z.elim .inl fun q => .inr (by rw [List.mem_singleton.mp q]; exact fresh _)
  refine k _ (fun b => b ∈ [s₂.heap.objs.size]) _ (L02.trans L3) ok.new (fun b hb => ?_) fun A' W R' hW => Ready.walks R' I ok hW rs 0 _ rfl (Nat.zero_le _) L3.inv (fun _ _ _ _ e => e) ok.st
  rw [List.mem_singleton.mp hb]; exact ⟨_, Heap.get?_push_size _ rfl⟩
/-! all, any -/
theorem all_loop {Zc It : Addr → Prop} {s : Shared} {I : Addr} : ∀ (bs : List Bool) (t : Shared) (A : Around) (R : Result → Shared → Prop), Ready S A.in1 Zc It (fun _ => False) s.gens.size I (bs.map AV.bool) t → Past S It s t → Bd S Zc t.heap → (∀ a, It a → Zc a) →
    (∀ t', Later S s t' → R (.ok (.ret (.bool (bs.all id)))) t') → codeAny (model S.prog S.w) A (.builtin "all.loop" ⟨[.ref I], []⟩) R t
  | [], t, A, R, rd, P, B, hIt, h => by
    refine codeAny_builtin F.entry_all_loop ?_
    rw [Around.under_plainId F.plain_all_loop _]
    show wpAny _ A.in1 (pyNext (.ref I) >>= _) _ _ t
    refine wpAny_bind (rd _ _ t (Stay.refl P.L.inv) B fun t₂ m => ?_)
    exact wpAny_bind (wpAny_rule (wpAny_pure (h _ (P.moved m fun _ q => q).L)))
  | b :: bs, t, A, R, rd, P, B, hIt, h => by
    refine codeAny_builtin F.entry_all_loop ?_
    rw [Around.under_plainId F.plain_all_loop _]
    show wpAny _ A.in1 (pyNext (.ref I) >>= _) _ _ t
    refine wpAny_bind (rd _ _ t (Stay.refl P.L.inv) B fun v t₂ m hex hv rd' => ?_)
    cases hv
    refine wpAny_bind (wpAny_holding (wpAny_truthy_bool (wpAny_bind (wpAny_letGo ?_))))
    have P2 := P.moved m fun _ q => q
    cases b with
    | true =>
      simp only [if_true]
      have B2 : Bd S Zc t₂.heap := fun a z => ⟨(B a z).1, by
        by_cases q : It a
        · exact hex a q
        · obtain ⟨o, e⟩ := (B a z).2; exact m.keep.here a o q e⟩
      exact wpAny_pure ⟨plainId_quiet F.plain_all_loop _, all_loop bs t₂ A R rd' P2 B2 hIt h⟩
    | false =>
      simp only [Bool.false_eq_true, if_false]
      exact wpAny_bind (wpAny_rule (wpAny_pure (h _ P2.L)))
theorem any_loop {Zc It : Addr → Prop} {s : Shared} {I : Addr} : ∀ (bs : List Bool) (t : Shared) (A : Around) (R : Result → Shared → Prop), Ready S A.in1 Zc It (fun _ => False) s.gens.size I (bs.map AV.bool) t → Past S It s t → Bd S Zc t.heap → (∀ a, It a → Zc a) →
    (∀ t', Later S s t' → R (.ok (.ret (.bool (bs.any id)))) t') → codeAny (model S.prog S.w) A (.builtin "any.loop" ⟨[.ref I], []⟩) R t
  | [], t, A, R, rd, P, B, hIt, h => by
    refine codeAny_builtin F.entry_any_loop ?_
    rw [Around.under_plainId F.plain_any_loop _]
    show wpAny _ A.in1 (pyNext (.ref I) >>= _) _ _ t
    refine wpAny_bind (rd _ _ t (Stay.refl P.L.inv) B fun t₂ m => ?_)
    exact wpAny_bind (wpAny_rule (wpAny_pure (h _ (P.moved m fun _ q => q).L)))
  | b :: bs, t, A, R, rd, P, B, hIt, h => by
    refine codeAny_builtin F.entry_any_loop ?_
    rw [Around.under_plainId F.plain_any_loop _]
    show wpAny _ A.in1 (pyNext (.ref I) >>= _) _ _ t
    refine wpAny_bind (rd _ _ t (Stay.refl P.L.inv) B fun v t₂ m hex hv rd' => ?_)
    cases hv
    refine wpAny_bind (wpAny_holding (wpAny_truthy_bool (wpAny_bind (wpAny_letGo ?_))))
    have P2 := P.moved m fun _ q => q
    cases b with
    | false =>
      simp only [Bool.false_eq_true, if_false]
      have B2 : Bd S Zc t₂.heap := fun a z => ⟨(B a z).1, by
        by_cases q : It a
        · exact hex a q
        · obtain ⟨o, e⟩ := (B a z).2; exact m.keep.here a o q e⟩
      exact wpAny_pure ⟨plainId_quiet F.plain_any_loop _, any_loop bs t₂ A R rd' P2 B2 hIt h⟩
    | true =>
      simp only [if_true]
      exact wpAny_bind (wpAny_rule (wpAny_pure (h _ P2.L)))
theorem bd_it {Z It W : Addr → Prop} {s t : Shared} (I : Inv S s) (B : Bd S Z s.heap) (L : Later S s t) (hnew : ∀ a, It a → s.heap.get? a = .none) (hex : ∀ a, It a → ∃ o, t.heap.get? a = some o) (hw : ∀ a, W a → s.heap.get? a = .none ∧ ∃ o, t.heap.get? a = some o) : Bd S (fun a => Z a ∨ It a ∨ W a) t.heap := by
  intro a z
  rcases z with z | z | z
  · exact (B.keep L.keep) a z
  · exact ⟨I.keep.none (hnew a z), hex a z⟩
  · exact ⟨I.keep.none (hw a z).1, (hw a z).2⟩
theorem call_all {Z : Addr → Prop} {s s₁ : Shared} {x : Value} {bs : List Bool} {A : Around} {Q : Value → Shared → Prop} {E : Value → Shared → Prop} (hR : Room (n + 2) A) (I : Inv S s) (B : Bd S Z s.heap) (L : Later S s s₁) (hx : IterV S n Z s s₁ x (bs.map AV.bool)) (h : ∀ t, Later S s t → Q (.bool (bs.all id)) t) :
    wpAny (model S.prog S.w) A (call (.builtin "all") [x]) Q E s₁ := by
  refine call_function_tree F.kind_all F.plain_all F.entry_all (F.args_all1 _) ?_
  unfold Builtin.«all»
  refine wpAny_bind (m := oneArg "all" _) (wpAny_pure ?_)
  refine wpAny_bind (hx A.in1 _ _ s₁ (hR.in1.mono (Nat.le_succ _)) (Later.refl L.inv) fun I₁ It s₃ L3 hnew hex rd => ?_)
  exact wpAny_pure ⟨plainId_quiet F.plain_all_loop _, all_loop bs s₃ A _ (rd A.in1 (fun _ => False) (hR.in1.mono (Nat.le_succ _)) fun _ q => q.elim) ⟨L3, hnew⟩ (bd_it I B L3 hnew hex fun _ q => q.elim) (fun a q => .inr (.inl q)) fun t' L' => h t' L'⟩
theorem call_any {Z : Addr → Prop} {s s₁ : Shared} {x : Value} {bs : List Bool} {A : Around} {Q : Value → Shared → Prop} {E : Value → Shared → Prop} (hR : Room (n + 2) A) (I : Inv S s) (B : Bd S Z s.heap) (L : Later S s s₁) (hx : IterV S n Z s s₁ x (bs.map AV.bool)) (h : ∀ t, Later S s t → Q (.bool (bs.any id)) t) :
    wpAny (model S.prog S.w) A (call (.builtin "any") [x]) Q E s₁ := by
  refine call_function_tree F.kind_any F.plain_any F.entry_any (F.args_any1 _) ?_
  unfold Builtin.«any»
  refine wpAny_bind (m := oneArg "any" _) (wpAny_pure ?_)
  refine wpAny_bind (hx A.in1 _ _ s₁ (hR.in1.mono (Nat.le_succ _)) (Later.refl L.inv) fun I₁ It s₃ L3 hnew hex rd => ?_)
  exact wpAny_pure ⟨plainId_quiet F.plain_any_loop _, any_loop bs s₃ A _ (rd A.in1 (fun _ => False) (hR.in1.mono (Nat.le_succ _)) fun _ q => q.elim) ⟨L3, hnew⟩ (bd_it I B L3 hnew hex fun _ q => q.elim) (fun a q => .inr (.inl q)) fun t' L' => h t' L'⟩
/-! sum -/
inductive Sums (S : Sys) (n : Nat) : AV → List AV → AV → Prop
  | nil (a) : Sums S n a [] a
  | int (i j rs r) : Sums S n (.int (i + j)) rs r → Sums S n (.int i) (.int j :: rs) r
  | inst (a b c rs r) : b.cls?.isSome = true → c.cls?.isSome = true → BinSem S n .Add a b c → Sums S n c rs r → Sums S n a (b :: rs) r
theorem inst_ref {Z h v a} (hv : Val Z h v a) (ha : a.cls?.isSome = true) : ∃ x, v = .ref x := by
  obtain ⟨p, hp⟩ := Option.isSome_iff_exists.mp ha
  obtain ⟨x, _, _, _, _, e, _⟩ := inst_at hv (C := p.1) (fs := p.2) hp
  exact ⟨x, e⟩
theorem upd_D {t : Shared} {D : Addr} {total r : Value} {k : Nat} (hD : t.heap.get? D = some (lstO [total] k)) (I : Inv S t) (h0 : S.h₁.get? D = .none) :
    Stay S (fun a => a = D) t { t with heap := t.heap.update D (Obj.mapSeq fun _ => #[r]) } ∧ ∃ k', (t.heap.update D (Obj.mapSeq fun _ => #[r])).get? D = some (lstO [r] k') := by
  have e : ∃ k', Obj.mapSeq (fun _ => #[r]) (lstO [total] k) = lstO [r] k' := by
    unfold Obj.mapSeq
    exact ⟨_, rfl⟩
  obtain ⟨k', e⟩ := e
  refine ⟨⟨KeepX.new (Heap.SameBut.update ..) rfl, I.new (t := t.toks) h0 (Heap.SameBut.update ..), .refl _⟩, k', ?_⟩
  rw [Heap.get?_update_self _ hD (by rw [e]; rfl), e]
theorem sum_loop {Zc It : Addr → Prop} {s : Shared} {I D : Addr} (hD0 : S.h₁.get? D = .none) (hItD : ¬ It D) (hIt : ∀ a, It a → Zc a) (hDz : Zc D) {acc out : AV} {rs : List AV} (hs : Sums S n acc rs out) :
    ∀ (t : Shared) (A : Around) (R : Result → Shared → Prop) (total : Value) (k : Nat) (st : Int), (st = 0 ∨ st = 2) → Room (n + 1) A → Ready S A.in1 Zc It (fun a => a = D) s.gens.size I rs t → Past S (fun a => It a ∨ a = D) s t → Bd S Zc t.heap →
      t.heap.get? D = some (lstO [total] k) → Val Zc t.heap total acc → ((∃ i u, total = .int i u) ∨ ∃ x, total = .ref x) →
    (∀ v t', Later S s t' → Val Zc t'.heap v out → R (.ok (.ret v)) t') → codeAny (model S.prog S.w) A (.builtin "sum.loop" ⟨[.ref I, .ref D, rawInt st, rawInt 0], []⟩) R t := by
  have bd2 : ∀ {t t₂ : Shared}, Bd S Zc t.heap → KeepX S It t.heap t₂.heap → (∀ a, It a → ∃ o, t₂.heap.get? a = some o) → Bd S Zc t₂.heap := fun B m hex a z => ⟨(B a z).1, by
    by_cases q : It a
    · exact hex a q
    · obtain ⟨o, e⟩ := (B a z).2; exact m.here a o q e⟩
  have bd3 : ∀ {t t₂ : Shared} {r k}, Bd S Zc t.heap → Stay S (fun a => a = D) t t₂ → t₂.heap.get? D = some (lstO [r] k) → Bd S Zc t₂.heap := fun B m hd a z => ⟨(B a z).1, by
    by_cases q : a = D
    · exact ⟨_, q ▸ hd⟩
    · obtain ⟨o, e⟩ := (B a z).2; exact m.keep.here a o q e⟩
  have vk : ∀ {t t₂ : Shared} {v a}, Val Zc t.heap v a → KeepX S It t.heap t₂.heap → Val Zc t₂.heap v a := fun hv m => hv.same fun b o z q e => m.get b o (fun w => z (hIt b w)) e q
  have vk3 : ∀ {t t₂ : Shared} {v a}, Val Zc t.heap v a → Stay S (fun a => a = D) t t₂ → Val Zc t₂.heap v a := fun hv m => hv.same fun b o z q e => m.keep.get b o (fun w => z (w ▸ hDz)) e q
  induction hs with
  | nil a =>
    intro t A R total k st hst hR rd P B hD hv htot h
    refine codeAny_builtin F.entry_sum_loop ?_
    rw [Around.under_plainId F.plain_sum_loop _]
    show wpAny _ A.in1 (seqItems? (.ref D) >>= _) _ _ t
    refine wpAny_bind (wpAny_seqItems hD rfl ?_)
    show wpAny _ A.in1 (tryCatch (pyNext (.ref I)) _ >>= _) _ _ t
    refine wpAny_bind (wpAny_tryCatch (rd _ _ t (Stay.refl P.L.inv) B fun t₂ m => ?_))
    have fin := h total t₂ (P.moved m fun _ q => .inl q).L (vk hv m.keep)
    rcases htot with ⟨i, u, rfl⟩ | ⟨x, rfl⟩
    · exact wpAny_pure fin
    · exact wpAny_pure fin
  | int i j rs r hsum ih =>
    intro t A R total k st hst hR rd P B hD hv htot h
    have hv' := hv
    cases hv with | int _ tA => ?_
    refine codeAny_builtin F.entry_sum_loop ?_
    rw [Around.under_plainId F.plain_sum_loop _]
    show wpAny _ A.in1 (seqItems? (.ref D) >>= _) _ _ t
    refine wpAny_bind (wpAny_seqItems hD rfl ?_)
    show wpAny _ A.in1 (tryCatch (pyNext (.ref I)) _ >>= _) _ _ t
    refine wpAny_bind (wpAny_tryCatch (rd _ _ t (Stay.refl P.L.inv) B fun v t₂ m hex hv2 rd2 => ?_))
    cases hv2 with | int _ tv => ?_
    have P2 := P.moved m fun _ q => .inl q
    have B2 := bd2 B m.keep hex
    have hD2 : t₂.heap.get? D = some (lstO [.int i tA] k) := m.keep.get _ _ hItD hD rfl
    have go : ∀ (t₃ : Shared) (u : Tok) (st' : Int) k₃, (st' = 0 ∨ st' = 2) → Later S t₂ t₃ → t₃.heap.get? D = some (lstO [Value.int (i + j) u] k₃) ∨ True → True := fun _ _ _ _ _ _ _ => trivial
    -- one more round, from any state in which the sum lies there
    have next : ∀ (t₃ : Shared) (u : Tok) (st' : Int) (k₃ : Nat), (st' = 0 ∨ st' = 2) → Stay S (fun a => a = D) t₂ t₃ → t₃.heap.get? D = some (lstO [Value.int (i + j) u] k₃) →
        codeAny (model S.prog S.w) A (.builtin "sum.loop" ⟨[.ref I, .ref D, rawInt st', rawInt 0], []⟩) R t₃ := by
      intro t₃ u st' k₃ hst' sy hd3
      refine ih t₃ A R (.int (i + j) u) k₃ st' hst' hR ?_ (P2.stay sy fun _ q => .inr q) (bd3 B2 sy hd3) hd3 (.int _ _) (.inl ⟨_, _, rfl⟩) h
      cases rs with
      | nil => exact fun Q E t' st'' B' hq => rd2 Q E t' (sy.trans st'') B' hq
      | cons r' rs' => exact fun Q E t' st'' B' hq => rd2 Q E t' (sy.trans st'') B' hq
    have plain : ∀ st' : Int, (st' = 0 ∨ st' = 2) → wpAny (model S.prog S.w) A.in1 (do
        match ← (holding [Value.int j tv] (binaryOp .Add (.int i tA) (.int j tv))).attempt with
        | .ok r => do
          updateSeq D fun _ => #[r]
          letGo [Value.int i tA, Value.int j tv]
          updateSeq D fun _ => #[r]
          again (.builtin "sum.loop" ⟨[.ref I, .ref D, rawInt 2, rawInt 0], []⟩)
        | .error e => do updateSeq D fun _ => #[]; letGo [Value.int i tA, Value.int j tv] [e]; throw e : Sem Fin) (fun fin s' => match fin with | .done f => R (.ok f) s' | .again c' => c'.quiet = true ∧ codeAny (model S.prog S.w) A c' R s') (fun e s' => R (.error e) s') t₂ := by
      intro st' _
      refine wpAny_bind (wpAny_attempt (wpAny_holding (wpAny_add_int ?_)))
      have Lt := Later.tok m.inv (t₂.toks + 1)
      show wpAny _ A.in1 (updateSeq D (fun _ => #[.int (i + j) t₂.toks]) >>= _) _ _ _
      refine wpAny_bind (wpAny_updateSeq hD2 rfl ?_)
      obtain ⟨s1, k1, e1⟩ := upd_D (t := { t₂ with toks := t₂.toks + 1 }) (r := .int (i + j) t₂.toks) hD2 Lt.inv hD0
      refine wpAny_bind (wpAny_letGo ?_)
      refine wpAny_bind (wpAny_updateSeq e1 rfl ?_)
      obtain ⟨s2, k2, e2⟩ := upd_D (r := .int (i + j) t₂.toks) e1 s1.inv hD0
      exact wpAny_pure ⟨plainId_quiet F.plain_sum_loop _, next _ _ 2 k2 (.inr rfl) ((Lt.stay.trans s1).trans s2) e2⟩
    rcases hst with rfl | rfl
    · show wpAny _ A.in1 (if (_ : Bool) = true then (mkInt (i + j) >>= _) else _) _ _ _
      split
      · refine wpAny_bind (wpAny_mkInt ?_)
        have Lt := Later.tok m.inv (t₂.toks + 1)
        show wpAny _ A.in1 (updateSeq D (fun _ => #[.int (i + j) t₂.toks]) >>= _) _ _ _
        refine wpAny_bind (wpAny_updateSeq hD2 rfl ?_)
        obtain ⟨s1, k1, e1⟩ := upd_D (t := { t₂ with toks := t₂.toks + 1 }) (r := .int (i + j) t₂.toks) hD2 Lt.inv hD0
        exact wpAny_pure ⟨plainId_quiet F.plain_sum_loop _, next _ _ 0 k1 (.inl rfl) (Lt.stay.trans s1) e1⟩
      · exact wpAny_bind (wpAny_rule (plain 2 (.inr rfl)))
    · exact plain 2 (.inr rfl)
  | inst a b c rs r hb hcs hadd hsum ih =>
    intro t A R total k st hst hR rd P B hD hv htot h
    refine codeAny_builtin F.entry_sum_loop ?_
    rw [Around.under_plainId F.plain_sum_loop _]
    show wpAny _ A.in1 (seqItems? (.ref D) >>= _) _ _ t
    refine wpAny_bind (wpAny_seqItems hD rfl ?_)
    show wpAny _ A.in1 (tryCatch (pyNext (.ref I)) _ >>= _) _ _ t
    refine wpAny_bind (wpAny_tryCatch (rd _ _ t (Stay.refl P.L.inv) B fun v t₂ m hex hv2 rd2 => ?_))
    obtain ⟨x, rfl⟩ := inst_ref hv2 hb
    have P2 := P.moved m fun _ q => .inl q
    have B2 := bd2 B m.keep hex
    have hD2 : t₂.heap.get? D = some (lstO [total] k) := m.keep.get _ _ hItD hD rfl
    have hv3 := vk hv m.keep
    have plain : ∀ next : Value → Int, (∀ y, next (.ref y) = 2) → wpAny (model S.prog S.w) A.in1 (do
        match ← (holding [Value.ref x] (binaryOp .Add total (.ref x))).attempt with
        | .ok r => do
          updateSeq D fun _ => #[r]
          letGo [total, Value.ref x]
          updateSeq D fun _ => #[r]
          again (.builtin "sum.loop" ⟨[.ref I, .ref D, rawInt (next r), rawInt 0], []⟩)
        | .error e => do updateSeq D fun _ => #[]; letGo [total, Value.ref x] [e]; throw e : Sem Fin) (fun fin s' => match fin with | .done f => R (.ok f) s' | .again c' => c'.quiet = true ∧ codeAny (model S.prog S.w) A c' R s') (fun e s' => R (.error e) s') t₂ := by
      intro next hnext
      refine wpAny_bind (wpAny_attempt (wpAny_holding (hadd A.in1 Zc t₂ total (.ref x) hR.in1 m.inv B2 hv3 hv2 _ _ fun r₁ t₃ L3 hr => ?_)))
      obtain ⟨y, rfl⟩ := inst_ref hr hcs
      have hD3 := L3.keep.get _ _ hD2 rfl
      show wpAny _ A.in1 (updateSeq D (fun _ => #[.ref y]) >>= _) _ _ _
      refine wpAny_bind (wpAny_updateSeq hD3 rfl ?_)
      obtain ⟨s1, k1, e1⟩ := upd_D (r := .ref y) hD3 L3.inv hD0
      refine wpAny_bind (wpAny_letGo ?_)
      refine wpAny_bind (wpAny_updateSeq e1 rfl ?_)
      obtain ⟨s2, k2, e2⟩ := upd_D (r := .ref y) e1 s1.inv hD0
      have sy := (L3.stay.trans s1).trans s2
      refine wpAny_pure ⟨plainId_quiet F.plain_sum_loop _, ?_⟩
      rw [hnext]
      refine ih _ A R (.ref y) k2 2 (.inr rfl) hR ?_ (P2.stay sy fun _ q => .inr q) (bd3 B2 sy e2) e2 (vk3 hr (s1.trans s2)) (.inr ⟨_, rfl⟩) h
      cases rs with
      | nil => exact fun Q E t' st'' B' hq => rd2 Q E t' (sy.trans st'') B' hq
      | cons r' rs' => exact fun Q E t' st'' B' hq => rd2 Q E t' (sy.trans st'') B' hq
    rcases htot with ⟨i, u, rfl⟩ | ⟨z, rfl⟩
    · rcases hst with rfl | rfl
      · exact wpAny_bind (wpAny_rule (plain (fun | .float .. => 1 | _ => 2) fun _ => rfl))
      · exact plain (fun _ => 2) fun _ => rfl
    · rcases hst with rfl | rfl
      · exact plain (fun _ => 2) fun _ => rfl
      · exact plain (fun _ => 2) fun _ => rfl
theorem call_sum {Z : Addr → Prop} {s s₁ : Shared} {x : Value} {rs : List AV} {out : AV} {A : Around} {Q : Value → Shared → Prop} {E : Value → Shared → Prop} (hR : Room (n + 2) A) (I : Inv S s) (B : Bd S Z s.heap) (L : Later S s s₁) (hx : IterV S n Z s s₁ x rs) (hs : Sums S n (.int 0) rs out)
    (h : ∀ v t, Later S s t → Val Z t.heap v out → Q v t) : wpAny (model S.prog S.w) A (call (.builtin "sum") [x]) Q E s₁ := by
  refine call_function_tree F.kind_sum F.plain_sum F.entry_sum (F.args_sum1 _) ?_
  unfold Builtin.«sum»
  simp only [List.length_cons, List.length_nil]
  rw [if_neg (by decide)]
  refine wpAny_bind (wpAny_of_eq (show Builtin.Builtins.bindParams "sum" ["start"] 0 { } = pure [none] from rfl) ?_)
  refine wpAny_bind (hx A.in1 _ _ s₁ (hR.in1.mono (Nat.le_succ _)) (Later.refl L.inv) fun I₁ It s₃ L3 hnew hex rd => ?_)
  refine wpAny_bind (wpAny_mkInt ?_)
  refine wpAny_bind (wpAny_pure ?_)
  simp only [List.forIn_cons, List.forIn_nil]
  refine wpAny_bind (wpAny_bind (wpAny_bind (wpAny_isInstance (T := "int") (b := false) (typeIs_int _ _ _) PySem.sub_int_str ?_)))
  simp only [Bool.false_eq_true, if_false]
  refine wpAny_pure (wpAny_bind (wpAny_bind (wpAny_isInstance (T := "int") (b := false) (typeIs_int _ _ _) PySem.sub_int_bytes ?_)))
  simp only [Bool.false_eq_true, if_false]
  refine wpAny_pure (wpAny_bind (wpAny_bind (wpAny_isInstance (T := "int") (b := false) (typeIs_int _ _ _) PySem.sub_int_bytearray ?_)))
  simp only [Bool.false_eq_true, if_false]
  refine wpAny_pure (wpAny_pure ?_)
  refine wpAny_bind (wpAny_newObj_type ?_)
  have hDf : s₃.heap.get? s₃.heap.objs.size = .none := fresh _
  have hDs := L3.keep.none hDf
  have L4 := Later.grow (t := s₃.toks + 1) L3.inv (h' := s₃.heap.push { cls := .type "list", data := .seq ([Value.int 0 s₃.toks] : List Value).toArray }) fun _ _ e => Heap.get?_push_of_some _ e
  have hg : (s₃.heap.push { cls := .type "list", data := .seq ([Value.int 0 s₃.toks] : List Value).toArray }).get? s₃.heap.objs.size = some (lstO [.int 0 s₃.toks] 0) := Heap.get?_push_size _ rfl
  have L34 := L3.trans L4
  refine wpAny_pure ⟨plainId_quiet F.plain_sum_loop _, sum_loop (Zc := fun a => Z a ∨ It a ∨ a = s₃.heap.objs.size) (It := It) (s := s) (I.keep.none hDs) (fun q => by obtain ⟨o, e⟩ := hex _ q; rw [hDf] at e; cases e) (fun a q => .inr (.inl q)) (.inr (.inr rfl)) hs
    _ A _ (.int 0 s₃.toks) 0 0 (.inl rfl) (hR.mono (Nat.le_succ _)) ?_ ⟨L34, fun a q => q.elim (hnew a) fun q => q ▸ hDs⟩ (bd_it I B L34 hnew (fun a q => let ⟨o, e⟩ := hex a q; ⟨o, Heap.get?_push_of_some _ e⟩) fun a q => q ▸ ⟨hDs, _, hg⟩) hg (.int _ _) (.inl ⟨_, _, rfl⟩) fun v t' L' hv => h v t' L' (hv.anti fun b z => .inl z)⟩
  have rd' := rd A.in1 (fun a => a = s₃.heap.objs.size) (hR.in1.mono (Nat.le_succ _)) (fun a q => q ▸ hDf)
  cases rs with
  | nil => exact fun Q E t' st'' B' hq => rd' Q E t' (L4.stay.trans st'') B' hq
  | cons r' rs' => exact fun Q E t' st'' B' hq => rd' Q E t' (L4.stay.trans st'') B' hq
/-! of lists -/
theorem CallSem.sum {rs out} (hs : Sums S n (.int 0) rs out) : CallSem S (n + 2) (.val (.builtin "sum")) [.lst rs] [] out :=
  fun A Z s v vs kvs R I B hv hvs hk hkv Q E h => by
    cases hv
    obtain ⟨u, rfl, hu⟩ := vals_one hvs
    cases nil_of hk
    exact call_sum R I B (Later.refl I) (IterV.list I (Later.refl I) B hu) hs h
theorem CallSem.any {bs : List Bool} : CallSem S (n + 2) (.val (.builtin "any")) [.lst (bs.map AV.bool)] [] (.bool (bs.any id)) :=
  fun A Z s v vs kvs R I B hv hvs hk hkv Q E h => by
    cases hv
    obtain ⟨u, rfl, hu⟩ := vals_one hvs
    cases nil_of hk
    exact call_any R I B (Later.refl I) (IterV.list (n := n) I (Later.refl I) B hu) fun t L => h _ t L (.bool _)
end
section
open PySem PySem.Spec PySem.Calls PyProof.Rows PySem.W
variable {S : Sys} {n : Nat} {sc : Scope} {c : Addr} {ρ : Rho} {ow : Own}
/-! generator expressions: the code object, the builtins -/
theorem genexpr_code {A : Around} {E : Value → Shared → Prop} {s : Shared} {env : Env} {P : Addr} {pos : Pos} {q : Str} {scope : Scope} {Q : Value → Shared → Prop} (hc : env.code = .ref c) (I : Inv S s) (hP : (c, P) ∈ S.tabs)
    (h : ∀ code s', Later S s s' → Q code s') : wpAny (model S.prog S.w) A (genexprCode env pos q scope) Q E s := by
  obtain ⟨ps, hcode, htab⟩ := I.tabs _ hP
  dsimp only at hcode htab
  cases hnf : codeAmong pos ps.toList with
  | some cv =>
    obtain ⟨o, vs, file, tf, flags, tg, inF, text, tt, op, ho, hd, h11, h2, h7, h9, h10, hop, hpd, htr, hne⟩ := id hcode
    unfold genexprCode codeAt
    rw [hc, if_neg (show ¬ ((Value.ref c == Value.none) = true) from Bool.false_ne_true)]
    refine wpAny_bind (wpAny_fieldsOf ho hd ?_)
    rw [h11]
    refine wpAny_bind (wpAny_fieldsOf hop hpd ?_)
    rw [hnf]
    exact wpAny_pure (h cv s (Later.refl I))
  | none =>
    refine wpAny_genexprCodeX hc hcode htab hnf fun c' h' tk hx _ _ hcode' _ htab' _ => h _ _ ?_
    have hold := htab.2
    have hnew := htab'.2
    have k : Keep S s.heap h' := by
      refine ⟨fun a o e q => ?_, fun a ps' e => ?_, fun a o e => ?_⟩
      · by_cases ha : a = P
        · rw [ha, hold] at e; cases e; cases q
        · exact hx a o ha e
      · by_cases ha : a = P
        · subst ha
          rw [hold] at e
          have e := congrArg (fun o => match o with | some (⟨_, _, .fields x, _⟩ : Obj) => x | _ => #[]) e
          dsimp only at e
          subst e
          exact .inr ⟨⟨c, hP⟩, _, hnew⟩
        · exact .inl (hx a _ ha e)
      · by_cases ha : a = P
        · exact ⟨_, ha ▸ hnew⟩
        · exact ⟨o, hx a o ha e⟩
    refine ⟨k, ⟨I.stat, fun p hp => ?_, I.keep.trans k, I.bare, I.os⟩, .refl _⟩
    obtain ⟨c2, P2⟩ := p
    obtain ⟨ps2, x, y⟩ := I.tabs _ hp
    dsimp only at x y ⊢
    have hc2 : c2 ≠ P := fun q => by
      obtain ⟨⟨o, vs, e, hcls, _⟩, _⟩ := y
      rw [q, hold] at e; cases e; cases hcls
    by_cases hP2 : P2 = P
    · subst hP2
      obtain ⟨o, vs, file, tf, flags, tg, inF, text, tt, op, ho, hd, h11, h2, h7, h9, h10, hop, hpd, htr, hne⟩ := x
      obtain ⟨_, _, _, _, _, _, _, _, _, op', _, _, _, _, _, _, _, hop', hpd', htr', _⟩ := hcode'
      obtain ⟨⟨o3, vs3, e3, r3⟩, _⟩ := y
      exact ⟨_, ⟨o, vs, file, tf, flags, tg, inF, text, tt, op', hx _ _ hc2 ho, hd, h11, h2, h7, h9, h10, hop', hpd', htr', hne⟩, ⟨o3, vs3, hx _ _ hc2 e3, r3⟩, hnew⟩
    · exact ⟨ps2, x.extBut hx hc2 hP2, y.extBut hx hc2 hP2⟩
theorem builtins_for {A : Around} {E : Value → Shared → Prop} {s : Shared} {running : Addr} {Q : Addr → Shared → Prop} (I : Inv S s) (h : Q builtinsNs s) : wpAny (model S.prog S.w) A (builtinsFor mainGlobals running) Q E s := by
  obtain ⟨bm, ob, e1, e2, e3, e4, e5, e6⟩ := I.stat.bm
  have e3' : s.heap.get? bm = some ob := I.keep.get _ _ e3 (by unfold notTbl; rw [e4])
  unfold builtinsFor
  refine wpAny_bind (wpAny_nsGet I.g ?_)
  rw [e1]
  dsimp only
  rw [if_neg (by simpa using e2)]
  refine wpAny_bind (wpAny_load e3' ?_)
  rw [e6, e5]
  dsimp only
  rw [e4, if_pos (by decide)]
  exact wpAny_pure h
end
section
open PySem PySem.Spec PySem.Calls PyProof.Rows PySem.W
variable {S : Sys} {n : Nat} {sc : Scope} {c : Addr} {ρ : Rho} {ow : Own}
/-! generator expressions: the frame -/
structure GCtx (S : Sys) (wr : List Addr) (C : Addr) (s s1 : Shared) : Prop where
  L1 : Later S s s1
  I0 : Inv S s
  newWr : ∀ b ∈ wr, s.heap.get? b = .none
  off : ∀ b ∈ wr, b ≠ C
  newC : s1.heap.get? C = .none
structure GInv (S : Sys) (wr : List Addr) (C : Addr) (s s1 t : Shared) : Prop where
  later : Later S s t
  one : ∀ b o, b ∉ wr → notTbl o = true → s1.heap.get? b = some o → t.heap.get? b = some o
  loc : ∃ m, t.heap.Ns C m
  wrs : ∀ b ∈ wr, ∃ o, t.heap.get? b = some o
abbrev GIt (wr : List Addr) (C : Addr) (a : Addr) : Prop := a ∈ wr ∨ a = C
variable {wr : List Addr} {C : Addr} {s s1 t : Shared}
theorem GCtx.new0 (X : GCtx S wr C s s1) {a} (h : GIt wr C a) : s.heap.get? a = .none := by
  rcases h with h | rfl
  · exact X.newWr a h
  · exact X.L1.keep.none X.newC
theorem GCtx.offC (X : GCtx S wr C s s1) : C ∉ wr := fun h => X.off C h rfl
theorem GInv.ex (K : GInv S wr C s s1 t) {a} (h : GIt wr C a) : ∃ o, t.heap.get? a = some o := by
  rcases h with h | rfl
  · exact K.wrs a h
  · obtain ⟨m, o, _, _, e, _⟩ := K.loc; exact ⟨o, e⟩
theorem GInv.grow {t'} (K : GInv S wr C s s1 t) (L : Later S t t') : GInv S wr C s s1 t' where
  later := K.later.trans L
  one := fun b o h q e => L.keep.get b o (K.one b o h q e) q
  loc := let ⟨m, x⟩ := K.loc; ⟨m, Ns.keep L.keep x⟩
  wrs := fun b h => let ⟨o, x⟩ := K.wrs b h; L.keep.here b o x
theorem GInv.turn {h' : Heap} {tk : Nat} (X : GCtx S wr C s s1) (K : GInv S wr C s s1 t) (hk : ∀ b o, b ∉ wr → t.heap.get? b = some o → h'.get? b = some o) (he : ∀ b ∈ wr, ∃ o, h'.get? b = some o) : GInv S wr C s s1 { t with heap := h', toks := tk } where
  later := K.later.turn hk X.newWr fun b h => X.I0.keep.none (X.newWr b h)
  one := fun b o h q e => hk b o h (K.one b o h q e)
  loc := let ⟨m, x⟩ := K.loc; ⟨m, x.at' fun o e => hk _ o X.offC e⟩
  wrs := he
theorem GInv.setC {h' : Heap} {tk : Nat} {m} (X : GCtx S wr C s s1) (K : GInv S wr C s s1 t) (hn : h'.Ns C m) (hs : Heap.SameBut C t.heap h') : GInv S wr C s s1 { t with heap := h', toks := tk } where
  later := ⟨K.later.keep.new (X.new0 (.inr rfl)) hs, K.later.inv.new (X.I0.keep.none (X.new0 (.inr rfl))) hs, K.later.gens⟩
  one := fun b o h q e => (hs.2 b fun z => by rw [z, X.newC] at e; cases e).trans (K.one b o h q e)
  loc := ⟨m, hn⟩
  wrs := fun b h => let ⟨o, e⟩ := K.wrs b h; ⟨o, (hs.2 b fun z => X.offC (z ▸ h)).trans e⟩
/-- what the consumer leaves as it was -/
structure GH (S : Sys) (W : Addr → Prop) (N : Nat) (Zc : Addr → Prop) (t t' : Shared) : Prop where
  keep : KeepX S W t.heap t'.heap
  inv : Inv S t'
  gens : GensTo N t.gens t'.gens
  bd : Bd S Zc t'.heap
theorem GInv.gh {W : Addr → Prop} {Zc : Addr → Prop} {t'} (X : GCtx S wr C s s1) (K : GInv S wr C s s1 t) (hW : ∀ a, W a → s1.heap.get? a = .none ∧ ¬ GIt wr C a) (g : GH S W s.gens.size Zc t t') : GInv S wr C s s1 t' where
  later := ⟨K.later.keep.thenX g.keep fun a w => X.L1.keep.none (hW a w).1, g.inv, ⟨Nat.le_trans K.later.gens.1 g.gens.1, fun i hi => (g.gens.2 i hi).trans (K.later.gens.2 i hi)⟩⟩
  one := fun b o h q e => g.keep.get b o (fun w => by rw [(hW b w).1] at e; cases e) (K.one b o h q e) q
  loc := let ⟨m, x⟩ := K.loc; ⟨m, by
    obtain ⟨o, es, ep, e, d, r⟩ := x
    exact ⟨o, es, ep, g.keep.get _ _ (fun w => (hW C w).2 (.inr rfl)) e (by unfold notTbl; rw [d]; cases o.cls <;> rfl), d, r⟩⟩
  wrs := fun b h => let ⟨o, x⟩ := K.wrs b h; g.keep.here b o (fun w => (hW b w).2 (.inl h)) x
structure GenOk (scope sc : Scope) (x : Str) (ρ : Rho) : Prop where
  kind : scope.kind = .function
  co : scope.isCoroutine = false
  tgt : scope.names.lookup x = some .local
  zero : scope.names.lookup (".0" : Str) = some .local
  nocell : (scope.names.all fun p => p.2 != .cell) = true
  frees : (scope.names.all fun p => p.2 != .free || ((ρ.lookup p.1).isSome && (sc.names.lookup p.1 == some .cell || sc.names.lookup p.1 == some .free))) = true
theorem GenOk.fr {scope sc : Scope} {x ρ} (h : GenOk scope sc x ρ) {y} (hy : (y, NameKind.free) ∈ scope.names) : (∃ b, ρ.lookup y = some b) ∧ (sc.names.lookup y = some .cell ∨ sc.names.lookup y = some .free) := by
  have := List.all_eq_true.mp h.frees _ hy
  simp only [bne_self_eq_false, Bool.false_or, Bool.and_eq_true, Bool.or_eq_true, beq_iff_eq] at this
  exact ⟨Option.isSome_iff_exists.mp this.1, this.2⟩
theorem GInv.frame {Z W : Addr → Prop} {env : Env} {scope : Scope} {cl : List (Str × Addr)} {code : Value} {x : Str} (X : GCtx S wr C s s1) (K : GInv S wr C s s1 t) (F : Frame S Z env s.heap ρ) (ei : EnvIs env sc c) (ok : GenOk scope sc x ρ)
    (hcl : ∀ y, (y, NameKind.free) ∈ scope.names → cl.lookup y = env.cells.lookup y) (hcl2 : ∀ p ∈ cl, env.cells.lookup p.1 = some p.2) (hW : ∀ a, W a → s1.heap.get? a = .none) (B : Bd S (fun a => Z a ∨ GIt wr C a ∨ W a) t.heap) :
    Frame S (fun a => Z a ∨ GIt wr C a ∨ W a) (genEnv scope cl C code builtinsNs env) t.heap (fre scope ρ) where
  zb := B
  zl := .inr (.inl (.inr rfl))
  zc := fun y a e => .inl (F.zc y a (hcl2 _ (mem_of_lookup e)))
  ns := K.loc
  res := fun y b e => by
    obtain ⟨hb, hf⟩ := fre_lookup e
    have hmem := mem_names hf
    obtain ⟨_, hk⟩ := ok.fr hmem
    have hk' : env.kindOf y = some .cell ∨ env.kindOf y = some .free := by
      show env.scope.names.lookup y = _ ∨ env.scope.names.lookup y = _
      rw [ei.scope]; exact hk
    obtain ⟨v, cc, h1, h2, h3⟩ := res_cell F hb hk'
    refine ⟨v, .inr ⟨.inr hf, cc, ?_, IsCell.keep K.later.keep h2⟩, (h3.more fun a z => ?_).keep K.later.keep⟩
    · show cl.lookup y = some cc
      rw [hcl y hmem, h1]
    · rcases z with z | z | z
      · exact .inl z
      · exact .inr (X.new0 z)
      · exact .inr (X.L1.keep.none (hW a z))
/-- what lies between a waking and the next yield -/
structure GL (S : Sys) (It : Addr → Prop) (N : Nat) (s₀ t : Shared) : Prop where
  keep : KeepX S It s₀.heap t.heap
  gens : GensTo N s₀.gens t.gens
  all : s₀.gens.size ≤ t.gens.size
theorem GL.refl {It : Addr → Prop} {N} (t : Shared) : GL S It N t t := ⟨(Keep.refl S t.heap).x, ⟨Nat.le_refl _, fun _ _ => rfl⟩, Nat.le_refl _⟩
theorem GL.later {It : Addr → Prop} {N} {s₀ t t' : Shared} (x : GL S It N s₀ t) (L : Later S t t') (h : N ≤ t.gens.size) : GL S It N s₀ t' := ⟨x.keep.trans L.keep.x, x.gens.trans (L.gens.to h), Nat.le_trans x.all L.gens.1⟩
theorem GL.heap {It : Addr → Prop} {N} {s₀ t : Shared} {h' : Heap} {tk : Nat} (x : GL S It N s₀ t) (k : KeepX S It t.heap h') : GL S It N s₀ { t with heap := h', toks := tk } := ⟨x.keep.trans k, x.gens, x.all⟩
def GProto (S : Sys) (wr : List Addr) (C : Addr) (W Zc : Addr → Prop) (s s1 : Shared) (rs : List AV) : Protocol := fun m s₀ v t kap =>
  (∃ r, rs[rs.length - 1 - m]? = some r ∧ Val Zc t.heap v r) ∧ GL S (GIt wr C) s.gens.size s₀ t ∧ GInv S wr C s s1 t ∧ ∀ t', GH S W s.gens.size Zc t t' → kap (.send .none) t'
def GEnd (S : Sys) (wr : List Addr) (C : Addr) (s s1 : Shared) : GenEnd := fun n s₀ r t => r = .ok .next ∧ (n = 0 ∧ GL S (GIt wr C) s.gens.size s₀ t ∧ Inv S t)
theorem seg_loop {A₀ : Around} {Z W : Addr → Prop} {env : Env} {scope : Scope} {cl : List (Str × Addr)} {code : Value} {x : Str} {px pos : Pos} {elt iter : Expr} {as rs : List AV} {Ia : Addr} {fp : List Addr} {P : Nat → Value → Prop} {Stt : Nat → Heap → Prop}
    (hroom : ∀ e i a b en, Room n (A₀.over (.compLoop e i a b en) [])) (X : GCtx S wr C s s1) (F : Frame S Z env s.heap ρ) (ei : EnvIs env sc c) (ok : GenOk scope sc x ρ)
    (hcl : ∀ y, (y, NameKind.free) ∈ scope.names → cl.lookup y = env.cells.lookup y) (hcl2 : ∀ p ∈ cl, env.cells.lookup p.1 = some p.2) (hW : ∀ a, W a → s1.heap.get? a = .none ∧ ¬ GIt wr C a)
    (oki : IterOk S Z s s1 (.ref Ia) as Ia fp wr P Stt) (hel : Paired (fun a r => Ev S n scope 0 ((x, a) :: fre scope ρ) elt r) as rs) :
    ∀ (k i : Nat) (s₀ t : Shared), as.length - i = k → i ≤ as.length → GInv S wr C s s1 t → Stt i t.heap → GL S (GIt wr C) s.gens.size s₀ t → Bd S (fun a => Z a ∨ GIt wr C a ∨ W a) t.heap →
      Seg (model S.prog S.w) A₀ (GEnd S wr C s s1) (GProto S wr C W (fun a => Z a ∨ GIt wr C a ∨ W a) s s1 rs) (rs.length - i) s₀
        (.compLoop (.GeneratorExp elt [⟨.Name x px, iter, [], 0⟩] scope pos) 0 (.ref Ia) .none (genEnv scope cl C code builtinsNs env))
        ((model S.prog S.w).den (.compLoop (.GeneratorExp elt [⟨.Name x px, iter, [], 0⟩] scope pos) 0 (.ref Ia) .none (genEnv scope cl C code builtinsNs env))) [] t := by
  have hRo := hroom (.GeneratorExp elt [⟨.Name x px, iter, [], 0⟩] scope pos) 0 (.ref Ia) .none (genEnv scope cl C code builtinsNs env)
  obtain ⟨_, W0, hst, there, hap, hnew, hval⟩ := oki
  have hplen := paired_len hel
  have WA := W0 _ hRo.hd
  have hfp1 : ∀ b ∈ fp, ∃ o, s1.heap.get? b = some o := fun b hb => let ⟨o, e, _⟩ := there 0 _ hst b hb; ⟨o, e⟩
  have hfpC : ∀ b ∈ fp, b ≠ C := fun b hb q => by obtain ⟨o, e⟩ := hfp1 b hb; rw [q, X.newC] at e; cases e
  have hfpW : ∀ b ∈ fp, ¬ W b := fun b hb q => by obtain ⟨o, e⟩ := hfp1 b hb; rw [(hW b q).1] at e; cases e
  have ei3 : EnvIs (genEnv scope cl C code builtinsNs env) scope 0 := ⟨rfl, ei.globals, rfl, .inr rfl, ok.kind, ok.co⟩
  have hN : ∀ {t}, GInv S wr C s s1 t → s.gens.size ≤ t.gens.size := fun K => K.later.gens.1
  intro k
  induction k with
  | zero =>
    intro i s₀ t hk hi K hsti gl B
    have hin : i = as.length := by omega
    subst hin
    show Seg _ A₀ _ _ _ s₀ _ ((compTurn (.GeneratorExp elt [⟨.Name x px, iter, [], 0⟩] scope pos) 0 (.ref Ia) .none (genEnv scope cl C code builtinsNs env)).onRaise (leaving (genEnv scope cl C code builtinsNs env))) [] t
    rw [compTurn_gen, Sem.onRaise_eq_wrap]
    refine seg_bind_wrap (wpAny_standAt ?_)
    refine seg_bind_wrap (WA.done t _ _ hsti fun h' tk hk' => ?_)
    refine seg_end (.ok .next) ⟨rfl, by omega, gl.heap ((KeepX.turn hk').mono fun a q => .inl q), Inv.turn K.later.inv hk' fun b hb => X.I0.keep.none (X.newWr b hb)⟩
  | succ k ih =>
    intro i s₀ t hk hi K hsti gl B
    have hlt : i < as.length := by omega
    obtain ⟨a, ha⟩ : ∃ a, as[i]? = some a := ⟨as[i], List.getElem?_eq_getElem hlt⟩
    obtain ⟨r, hr, hev⟩ := paired_at hel ha
    show Seg _ A₀ _ _ _ s₀ _ ((compTurn (.GeneratorExp elt [⟨.Name x px, iter, [], 0⟩] scope pos) 0 (.ref Ia) .none (genEnv scope cl C code builtinsNs env)).onRaise (leaving (genEnv scope cl C code builtinsNs env))) [] t
    rw [compTurn_gen, Sem.onRaise_eq_wrap]
    refine seg_bind_wrap (wpAny_standAt ?_)
    refine seg_bind_wrap (WA.item i t _ _ hlt hsti fun v h₂ tk hP hst₂ hk₂ => ?_)
    have K2 := K.turn (tk := tk) X hk₂ fun b hb => let ⟨o, e, _⟩ := there _ _ hst₂ b (WA.sub b hb); ⟨o, e⟩
    refine seg_bind_wrap (wpAny_of_eq (rfl : letOwnedTupleGo (.Name x px) (.ref Ia) v = pure ()) ?_)
    obtain ⟨m, hm⟩ := K2.loc
    have hl' : (genEnv scope cl C code builtinsNs env).kindOf x = some .local := ok.tgt
    refine seg_bind_wrap (wpAny_assign_Name (wpAny_storeName_local hl' hm (fun h₃ hn₃ hs₃ => ?_) (by show (scope.kind == .class || (scope.kind == .module && _)) = false; rw [ok.kind]; rfl)))
    have K3 := K2.setC (tk := tk + 1) X hn₃ hs₃
    have gl3 : GL S (GIt wr C) s.gens.size s₀ { t with heap := h₃, toks := tk + 1 } := (gl.heap (tk := tk) ((KeepX.turn hk₂).mono fun a q => .inl q)).heap (KeepX.new hs₃ (.inr rfl))
    have B3 : Bd S (fun a => Z a ∨ GIt wr C a ∨ W a) h₃ := fun b z => ⟨(B b z).1, by
      by_cases q : GIt wr C b
      · exact K3.ex q
      · obtain ⟨o, e⟩ := (B b z).2
        exact ⟨o, (hs₃.2 b fun z => q (.inr z)).trans (hk₂ b o (fun z => q (.inl z)) e)⟩⟩
    have hv0 := (hval i v a hP ha).more (Z' := fun a => Z a ∨ GIt wr C a ∨ W a) fun b z => by
      rcases z with z | (z | rfl) | z
      · exact .inl (.inl z)
      · exact .inl (.inr z)
      · exact .inr X.newC
      · exact .inr (hW b z).1
    have hv3 : Val (fun a => Z a ∨ GIt wr C a ∨ W a) h₃ v a := hv0.same fun b o z nt e => K3.one b o (fun q => z (.inr (.inl (.inl q)))) nt e
    have Fr3 := (K3.frame (code := code) X F ei ok hcl hcl2 (fun a w => (hW a w).1) B3).cons (x := x) (v := v) (.inl ⟨hl', _, hn₃, by simp⟩) hv3
    refine seg_bind_wrap ?_
    rw [List.forIn_nil]
    refine wpAny_pure ?_
    simp only [if_true]
    have hco : (genEnv scope cl C code builtinsNs env).scope.isCoroutine = false := ok.co
    have hy : ∀ v, yieldOut (genEnv scope cl C code builtinsNs env) v = yieldValue v := fun v => by simp only [yieldOut, hco, Bool.false_eq_true, if_false]
    simp only [hy]
    rw [Sem.bind_eq_wrap', Sem.bind_eq_wrap', Sem.wrap_wrap, Sem.wrap_wrap]
    refine seg_wrap (hev _ _ _ _ hRo ei3 Fr3 K3.later.inv _ _ fun y t4 L4 hy => ?_)
    have K4 := K3.grow L4
    have gl4 := gl3.later L4 (hN K3)
    have hst4 : Stt (i + 1) t4.heap := WA.frame _ _ _ hst₂ fun b hb o e => by
      obtain ⟨o', e', nt⟩ := there _ _ hst₂ b hb
      rw [e] at e'; cases e'
      exact L4.keep.get b o ((hs₃.2 b (hfpC b hb)).trans e) nt
    obtain ⟨q, hq⟩ : ∃ q, rs.length - i = q + 1 := ⟨rs.length - i - 1, by omega⟩
    rw [hq]
    refine seg_at (seg_yield rfl rfl rfl ⟨⟨r, ?_, hy⟩, gl4, K4, fun t' gh => ?_⟩)
    · rw [show rs.length - 1 - q = i by omega]; exact hr
    · have K5 := K4.gh X hW gh
      have := ih (i + 1) t' t' (by omega) hlt K5 (WA.frame _ _ _ hst4 fun b hb o e => by
        obtain ⟨o', e', nt⟩ := there _ _ hst4 b hb
        rw [e] at e'; cases e'
        exact gh.keep.get b o (hfpW b hb) e nt) (GL.refl t') gh.bd
      rw [show rs.length - (i + 1) = q by omega] at this
      exact seg_again rfl this
end
section
open PySem PySem.Spec PySem.Calls PyProof.Rows PySem.W
variable {S : Sys} {n : Nat} {sc : Scope} {c : Addr} {ρ : Rho} {ow : Own}
variable {wr : List Addr} {C : Addr} {s s1 t : Shared}
theorem room_over {A : Around} (h : Room (n + 1) A) (e i a b en) : Room n (A.over (.compLoop e i a b en) []) := by
  have hf : (Code.compLoop e i a b en).frames ≤ 1 := by
    show (if _ then 1 else 0) ≤ 1
    split <;> omega
  have hw : (Code.compLoop e i a b en).weight ≤ 1 := hf
  have hc : (Code.compLoop e i a b en).cUnits ≤ 3 := by
    show 3 * (Code.compLoop e i a b en).frames ≤ 3
    omega
  refine ⟨h.hd, ?_, ?_⟩
  · have := h.depth; show A.depth + 0 + (Code.compLoop e i a b en).weight + 2 * n + 4 < 1000; omega
  · have := h.units; show A.units + 0 + (Code.compLoop e i a b en).cUnits + 30 * n + 60 < 9900; omega
theorem seg_start {A₀ : Around} {Z W : Addr → Prop} {env : Env} {scope : Scope} {cl : List (Str × Addr)} {code : Value} {x : Str} {px pos : Pos} {elt iter : Expr} {as rs : List AV} {Ia : Addr} {fp : List Addr} {P : Nat → Value → Prop} {Stt : Nat → Heap → Prop}
    (hroom : ∀ e i a b en, Room n (A₀.over (.compLoop e i a b en) [])) (X : GCtx S wr C s s1) (F : Frame S Z env s.heap ρ) (ei : EnvIs env sc c) (ok : GenOk scope sc x ρ)
    (hcl : ∀ y, (y, NameKind.free) ∈ scope.names → cl.lookup y = env.cells.lookup y) (hcl2 : ∀ p ∈ cl, env.cells.lookup p.1 = some p.2) (hW : ∀ a, W a → s1.heap.get? a = .none ∧ ¬ GIt wr C a)
    (oki : IterOk S Z s s1 (.ref Ia) as Ia fp wr P Stt) (hel : Paired (fun a r => Ev S n scope 0 ((x, a) :: fre scope ρ) elt r) as rs) (s₀ t : Shared) (K : GInv S wr C s s1 t) (hst : Stt 0 t.heap) (gl : GL S (GIt wr C) s.gens.size s₀ t) (B : Bd S (fun a => Z a ∨ GIt wr C a ∨ W a) t.heap) :
    Seg (model S.prog S.w) A₀ (GEnd S wr C s s1) (GProto S wr C W (fun a => Z a ∨ GIt wr C a ∨ W a) s s1 rs) rs.length s₀
      (.compStart (.GeneratorExp elt [⟨.Name x px, iter, [], 0⟩] scope pos) 0 (.ref Ia) .none (genEnv scope cl C code builtinsNs env))
      ((model S.prog S.w).den (.compStart (.GeneratorExp elt [⟨.Name x px, iter, [], 0⟩] scope pos) 0 (.ref Ia) .none (genEnv scope cl C code builtinsNs env))) [] t := by
  have hh : A₀.handled = none := (hroom (.GeneratorExp elt [] scope pos) 0 .none .none env).hd
  have hh' : (A₀.over (.compStart (.GeneratorExp elt [⟨.Name x px, iter, [], 0⟩] scope pos) 0 (.ref Ia) .none (genEnv scope cl C code builtinsNs env)) []).handled = none := hh
  have loop := seg_loop (iter := iter) (px := px) (pos := pos) (code := code) hroom X F ei ok hcl hcl2 hW oki hel as.length 0 s₀ t (Nat.sub_zero _) (Nat.zero_le _) K hst gl B
  rw [Nat.sub_zero] at loop
  have W0 := oki.walks _ hh'
  show Seg _ A₀ _ _ _ s₀ _ ((compStart (.GeneratorExp elt [⟨.Name x px, iter, [], 0⟩] scope pos) 0 (.ref Ia) .none (genEnv scope cl C code builtinsNs env)).onRaise (leaving (genEnv scope cl C code builtinsNs env))) [] t
  unfold compStart
  rw [Sem.onRaise_eq_wrap]
  show Seg _ A₀ _ _ _ s₀ _ ((ask >>= _).wrap _ _ _ _) [] t
  refine seg_bind_wrap (wpAny_askSetting ?_)
  split
  · exact seg_again rfl loop
  · first
      | exact seg_bind_wrap (wpAny_rule (seg_bind_wrap (wpAny_standAt (seg_bind_wrap (W0.self 0 t _ _ hst (seg_again rfl loop))))))
      | (refine seg_bind_wrap (wpAny_rule ?_); show Seg _ A₀ _ _ _ s₀ _ ((standAt iter.pos >>= _).wrap _ _ _ _) [] t; exact seg_bind_wrap (wpAny_standAt (seg_bind_wrap (W0.self 0 t _ _ hst (seg_again rfl loop)))))
theorem Inv.setGen {t : Shared} {g : Nat} {gs : GenState} (I : Inv S t) (h : gs.bare = true) : Inv S (t.setGen g gs) where
  stat := I.stat
  tabs := I.tabs
  keep := I.keep
  bare := fun y hy => by
    obtain ⟨i, hi⟩ := Array.mem_iff_getElem?.mp hy
    simp only [Shared.setGen, Array.getElem?_setIfInBounds] at hi
    split at hi
    · split at hi
      · cases hi; exact h
      · cases hi
    · exact I.bare y (Array.mem_iff_getElem?.mpr ⟨i, hi⟩)
  os := I.os
theorem gens_set {t : Shared} {g N : Nat} {gs : GenState} (h : N ≤ g) : GensTo N t.gens (t.setGen g gs).gens :=
  ⟨by simp [Shared.setGen], fun i hi => by
    have : g ≠ i := by omega
    simp [Shared.setGen, this]⟩
theorem GInv.setGen {g : Nat} {gs : GenState} (K : GInv S wr C s s1 t) (hg : s.gens.size ≤ g) (h : gs.bare = true) : GInv S wr C s s1 (t.setGen g gs) where
  later := ⟨K.later.keep, K.later.inv.setGen h, ⟨Nat.le_trans K.later.gens.1 (gens_set hg).1, fun i hi => ((gens_set hg).2 i hi).trans (K.later.gens.2 i hi)⟩⟩
  one := K.one
  loc := K.loc
  wrs := K.wrs
theorem ready_gen {A : Around} {Z W : Addr → Prop} {rs : List AV} {a g : Nat} (hR : Room n A) (hgN : s.gens.size ≤ g) (hWa : ¬ W a) (hIta : ¬ GIt wr C a) :
    ∀ (k j : Nat) (t : Shared) (gs : GenState), rs.length - j = k → j ≤ rs.length → t.heap.IsGen a g → t.gens[g]? = some gs → GInv S wr C s s1 t → 
      (∀ t', GH S W s.gens.size (fun a => Z a ∨ GIt wr C a ∨ W a) t t' → gs.Goes (model S.prog S.w) A.in1 (GEnd S wr C s s1) (GProto S wr C W (fun a => Z a ∨ GIt wr C a ∨ W a) s s1 rs) (rs.length - j) (.send .none) t') →
      Ready S A (fun a => Z a ∨ GIt wr C a ∨ W a) (GIt wr C) W s.gens.size a (rs.drop j) t := by
  have isg : ∀ {X : Addr → Prop} {t t' : Shared}, t.heap.IsGen a g → KeepX S X t.heap t'.heap → ¬ X a → t'.heap.IsGen a g := fun h m hn => by
    obtain ⟨o, nm, qn, ho, hc, hd, hs⟩ := h
    exact ⟨o, nm, qn, m.get _ _ hn ho (by unfold notTbl; rw [hc]), hc, hd, hs⟩
  have bdm : ∀ {t t₂ : Shared}, Bd S (fun a => Z a ∨ GIt wr C a ∨ W a) t.heap → KeepX S (GIt wr C) t.heap t₂.heap → (∀ a, GIt wr C a → ∃ o, t₂.heap.get? a = some o) → Bd S (fun a => Z a ∨ GIt wr C a ∨ W a) t₂.heap := fun B m hex a z => ⟨(B a z).1, by
    by_cases q : GIt wr C a
    · exact hex a q
    · obtain ⟨o, e⟩ := (B a z).2; exact m.here a o q e⟩
  intro k
  induction k with
  | zero =>
    intro j t gs hk hj hg hgs K hgo
    have hjn : j = rs.length := by omega
    subst hjn
    rw [List.drop_length]
    intro Q E t' st B hq
    have hgs' : t'.gens[g]? = some gs := by
      have hlt : g < t.gens.size := by
        rcases Nat.lt_or_ge g t.gens.size with h | h
        · exact h
        · rw [Array.getElem?_eq_none h] at hgs; cases hgs
      rw [st.gens.2 g hlt]; exact hgs
    have hgo' := hgo (t'.setGen g .running) ⟨st.keep, st.inv.setGen rfl, (st.gens.to K.later.gens.1).trans (gens_set hgN), B⟩
    rw [Nat.sub_self] at hgo'
    refine wpAny_pyNext_genexpQ (P := fun n s₀ s₁ => n = 0 ∧ GL S (GIt wr C) s.gens.size s₀ s₁ ∧ Inv S s₁) hR.hd st.inv.lim hR.lt (isg hg st.keep hWa) hgs' hgo' (fun v s₁ gs' hb hv => ?_) (fun s₁ hp h' hk' => ?_)
    · obtain ⟨_, gl, K₁, hkap⟩ := hv
      exact False.elim (hkap s₁ ⟨(Keep.refl S s₁.heap).x, K₁.later.inv, ⟨Nat.le_refl _, fun _ _ => rfl⟩, bdm B gl.keep fun a q => K₁.ex q⟩)
    · obtain ⟨_, gl, I₁⟩ := hp
      refine hq _ ⟨gl.keep.trans (Keep.of_all hk').x, ?_, ?_⟩
      · exact (I₁.setGen (g := g) (gs := .finished) rfl).grow (t := s₁.toks) hk'
      · exact ((gens_set (gs := .running) hgN).trans gl.gens).trans (gens_set hgN)
  | succ k ih =>
    intro j t gs hk hj hg hgs K hgo
    have hlt : j < rs.length := by omega
    obtain ⟨m, hm⟩ : ∃ m, rs.length - j = m + 1 := ⟨rs.length - j - 1, by omega⟩
    rw [List.drop_eq_getElem_cons hlt]
    intro Q E t' st B hq
    have hgs' : t'.gens[g]? = some gs := by
      have hlt : g < t.gens.size := by
        rcases Nat.lt_or_ge g t.gens.size with h | h
        · exact h
        · rw [Array.getElem?_eq_none h] at hgs; cases hgs
      rw [st.gens.2 g hlt]; exact hgs
    have hgo' := hgo (t'.setGen g .running) ⟨st.keep, st.inv.setGen rfl, (st.gens.to K.later.gens.1).trans (gens_set hgN), B⟩
    rw [hm] at hgo'
    refine wpAny_pyNext_genexpQ (P := fun n s₀ s₁ => n = 0 ∧ GL S (GIt wr C) s.gens.size s₀ s₁ ∧ Inv S s₁) hR.hd st.inv.lim hR.lt (isg hg st.keep hWa) hgs' hgo' (fun v s₁ gs' hb hv => ?_) (fun s₁ hp h' hk' => absurd hp.1 (Nat.succ_ne_zero m))
    obtain ⟨⟨r, hr, hval⟩, gl, K₁, hkap⟩ := hv
    have e1 : rs.length - 1 - (m + 1 - 1) = j := by omega
    rw [e1, List.getElem?_eq_getElem hlt] at hr
    cases hr
    have hgl : g < s₁.gens.size := by
      have h1 : g < t'.gens.size := by
        rcases Nat.lt_or_ge g t'.gens.size with h | h
        · exact h
        · rw [Array.getElem?_eq_none h] at hgs'; cases hgs'
      have h2 := gl.all
      simp only [Shared.setGen, Array.size_setIfInBounds] at h2
      omega
    refine hq v (s₁.setGen g gs') ⟨gl.keep, K₁.later.inv.setGen hb, ((gens_set (gs := .running) hgN).trans gl.gens).trans (gens_set hgN)⟩ (fun b q => K₁.ex q) hval ?_
    refine ih (j + 1) _ gs' (by omega) hlt (isg (isg hg st.keep hWa) gl.keep hIta) (by simp [Shared.setGen, hgl]) (K₁.setGen hgN hb) fun t'' gh => ?_
    have e2 : rs.length - (j + 1) = m := by omega
    rw [e2]
    exact hkap t'' ⟨gh.keep, gh.inv, (gens_set hgN).trans gh.gens, gh.bd⟩
end
section
open PySem PySem.Spec PySem.Calls PyProof.Rows PySem.W
variable {S : Sys} {n : Nat} {sc : Scope} {c : Addr} {ρ : Rho} {ow : Own}
/-- an expression that gives an iterable -/
def EvG (S : Sys) (n : Nat) (sc : Scope) (c : Addr) (ρ : Rho) (e : Expr) (rs : List AV) : Prop :=
  ∀ A env Z s (Q : Value → Shared → Prop) (E : Value → Shared → Prop), Room n A → EnvIs env sc c → Frame S Z env s.heap ρ → Inv S s → (∀ x s₁, Later S s s₁ → IterV S n Z s s₁ x rs → Q x s₁) → wpAny (model S.prog S.w) A (eval e env) Q E s
theorem closure_env {env : Env} {scope : Scope} {Z : Addr → Prop} {h : Heap} (ei : EnvIs env sc c) (F : Frame S Z env h ρ) (hf : ∀ y, (y, NameKind.free) ∈ scope.names → (∃ b, ρ.lookup y = some b) ∧ (sc.names.lookup y = some .cell ∨ sc.names.lookup y = some .free)) :
    ∃ cl, closureFor scope env = pure cl ∧ (∀ p ∈ cl, env.cells.lookup p.1 = some p.2) ∧ ∀ x, (x, NameKind.free) ∈ scope.names → cl.lookup x = env.cells.lookup x :=
  closure_of (scope := scope) (env := env) fun y hy => by
    obtain ⟨⟨b, hb⟩, hk⟩ := hf y hy
    have hk' : env.kindOf y = some .cell ∨ env.kindOf y = some .free := by
      show env.scope.names.lookup y = _ ∨ env.scope.names.lookup y = _
      rw [ei.scope]; exact hk
    obtain ⟨v, cc, e, _⟩ := res_cell F hb hk'
    rw [e]; rfl
theorem EvG.gen {elt iter : Expr} {x : Str} {px : Pos} {scope : Scope} {pos : Pos} {as rs : List AV} {P0 : Addr} (hP : (c, P0) ∈ S.tabs) (hc0 : c ≠ (0 : Nat)) (h1 : EvI S (n + 2) sc c ρ iter as) (ok : GenOk scope sc x ρ) (hel : Paired (fun a r => Ev S n scope 0 ((x, a) :: fre scope ρ) elt r) as rs)
    (hs : ∀ env x, genFold iter env x = pure x := by intro _ _; rfl) : EvG S (n + 2) sc c ρ (.GeneratorExp elt [⟨.Name x px, iter, [], 0⟩] scope pos) rs :=
  fun A env Z s Q E R ei F I k => by
    obtain ⟨cl, hclos, hcl2, hcl⟩ := closure_env (scope := scope) ei F fun y hy => ok.fr hy
    refine wpAny_GeneratorExp_make ok.co hclos (fun y hy => by have := List.all_eq_true.mp ok.nocell y hy; simpa using this) ok.zero ok.kind R.lt (h1 A env Z s _ _ R ei F I fun it s1 Ia fp wr P Stt L1 okI => ?_) (hs env)
    have okI' := okI
    obtain ⟨rfl, W, hst, there, hap, hnew, hval⟩ := okI'
    refine ⟨L1.inv.lim, genexpr_code (ei.code.resolve_right hc0) L1.inv hP fun code s3 L3 => ?_⟩
    rw [ei.globals]
    refine builtins_for L3.inv fun h' hn' hs' => ?_
    have hfp1 : ∀ b ∈ fp, ∃ o, s1.heap.get? b = some o := fun b hb => let ⟨o, e, _⟩ := there 0 _ hst b hb; ⟨o, e⟩
    have keep' : ∀ b o, s3.heap.get? b = some o → h'.get? b = some o := fun b o e => hs'.extBut b o (Nat.ne_of_lt (Heap.lt_size e)) (Heap.get?_push_of_some _ e)
    have hsz : h'.objs.size = s3.heap.objs.size + 1 := by rw [hs'.1, Heap.size_push]
    generalize hs5 : ({ s3 with gens := s3.gens.push (.fresh (.compStart (.GeneratorExp elt [⟨.Name x px, iter, [], 0⟩] scope pos) 0 (.ref Ia) .none (genEnv scope cl s3.heap.objs.size code builtinsNs env))), toks := s3.toks + 1 + 1 + 1, heap := h'.push { cls := .type "generator", data := .fields #[.int s3.gens.size 0, .str "<genexpr>" (s3.toks + 1), .str (env.qual ++ "<genexpr>") (s3.toks + 1 + 1)] } } : Shared) = s5
    have hh5 : s5.heap = h'.push { cls := .type "generator", data := .fields #[.int s3.gens.size 0, .str "<genexpr>" (s3.toks + 1), .str (env.qual ++ "<genexpr>") (s3.toks + 1 + 1)] } := by rw [← hs5]
    have hg5 : s5.gens = s3.gens.push (.fresh (.compStart (.GeneratorExp elt [⟨.Name x px, iter, [], 0⟩] scope pos) 0 (.ref Ia) .none (genEnv scope cl s3.heap.objs.size code builtinsNs env))) := by rw [← hs5]
    have ho5 : s5.os = s3.os := by rw [← hs5]
    have k35 : ∀ b o, s3.heap.get? b = some o → s5.heap.get? b = some o := fun b o e => by rw [hh5]; exact Heap.get?_push_of_some _ (keep' b o e)
    have L35 : Later S s3 s5 := by
      refine ⟨Keep.of_all k35, ⟨I.stat, fun p hp => let ⟨ps, x, y⟩ := L3.inv.tabs p hp; ⟨ps, x.keeps k35, y.keeps k35⟩, L3.inv.keep.trans (Keep.of_all k35), ?_, ho5.trans L3.inv.os⟩, ?_⟩
      · rw [hg5]; exact AllBare.push L3.inv.bare rfl
      · rw [hg5]; exact ⟨by simp, fun i hi => by rw [Array.getElem?_push_lt hi, Array.getElem?_eq_getElem hi]⟩
    have L15 := L3.trans L35
    have L05 := L1.trans L15
    have hCs3 : s3.heap.get? s3.heap.objs.size = .none := fresh _
    have X : GCtx S wr s3.heap.objs.size s s1 := ⟨L1, I, hnew, fun b hb q => (by obtain ⟨o, e⟩ := hfp1 b ((W A R.hd).sub b hb); rw [q, L3.keep.none hCs3] at e; cases e), L3.keep.none hCs3⟩
    have K5 : GInv S wr s3.heap.objs.size s s1 s5 := by
      refine ⟨L05, fun b o _ q e => L15.keep.get b o e q, ⟨_, by rw [hh5]; exact hn'.push _⟩, fun b hb => ?_⟩
      obtain ⟨o, e⟩ := hfp1 b ((W A R.hd).sub b hb); exact L15.keep.here b o e
    have hgen : s5.heap.IsGen h'.objs.size s3.gens.size := by rw [hh5]; exact ⟨_, _, _, Heap.get?_push_size _ rfl, rfl, rfl, rfl⟩
    have hgs : s5.gens[s3.gens.size]? = some (.fresh (.compStart (.GeneratorExp elt [⟨.Name x px, iter, [], 0⟩] scope pos) 0 (.ref Ia) .none (genEnv scope cl s3.heap.objs.size code builtinsNs env))) := by rw [hg5]; exact Array.getElem?_push_size ..
    have hgN : s.gens.size ≤ s3.gens.size := (L1.trans L3).gens.1
    refine k _ s5 L05 fun A' Q' E' s6 R' L56 k' => ?_
    have hgen6 : s6.heap.IsGen h'.objs.size s3.gens.size := by
      obtain ⟨o, nm, qn, ho, hc, hd, hsl⟩ := hgen
      exact ⟨o, nm, qn, L56.keep.get _ _ ho (by unfold notTbl; rw [hc]), hc, hd, hsl⟩
    have K6 := K5.grow L56
    refine wpAny_pyIter_gen hgen6 (k' _ (GIt wr s3.heap.objs.size) s6 (L05.trans L56) (fun a q => X.new0 q) (fun a q => K6.ex q) fun A'' W' R'' hW' => ?_)
    have hW : ∀ a, W' a → s1.heap.get? a = .none ∧ ¬ GIt wr s3.heap.objs.size a := fun a w => ⟨(L15.trans L56).keep.none (hW' a w), fun q => by obtain ⟨o, e⟩ := K6.ex q; rw [hW' a w] at e; cases e⟩
    have hgs6 : s6.gens[s3.gens.size]? = some (.fresh (.compStart (.GeneratorExp elt [⟨.Name x px, iter, [], 0⟩] scope pos) 0 (.ref Ia) .none (genEnv scope cl s3.heap.objs.size code builtinsNs env))) := by
      rw [L56.gens.2 _ (by rw [hg5]; simp), hgs]
    have hst6 : Stt 0 s6.heap := (W A R.hd).frame _ _ _ hst fun b hb o e => by
      obtain ⟨o', e', nt⟩ := there 0 _ hst b hb
      rw [e] at e'; cases e'
      exact (L15.trans L56).keep.get b o e nt
    have rd := ready_gen (A := A'') (W := W') (Z := Z) (rs := rs) (a := h'.objs.size) (g := s3.gens.size) R'' hgN (fun w => ?_) (fun q => ?_) (rs.length - 0) 0 s6 _ rfl (Nat.zero_le _) hgen6 hgs6 K6 (fun t' gh => ?_)
    · rw [List.drop_zero] at rd; exact rd
    · obtain ⟨o, _, _, ho, _⟩ := hgen6
      rw [hW' _ w] at ho; cases ho
    · rcases q with q | q
      · obtain ⟨o, e⟩ := hfp1 _ ((W A R.hd).sub _ q)
        have := Heap.lt_size (keep' _ _ ((L3.keep.here _ _ e).choose_spec))
        exact absurd this (Nat.lt_irrefl _)
      · rw [hsz] at q; exact Nat.succ_ne_self _ q
    · have hr1 : Room (n + 1) A''.in1 := R''.in1
      refine ⟨rfl, ?_⟩
      rw [Nat.sub_zero]
      refine seg_start (A₀ := A''.in1) (fun e i a b en => room_over hr1 e i a b en) X F ei ok hcl hcl2 hW okI hel t' t' (K6.gh X hW gh) ?_ (GL.refl t') gh.bd
      refine (W A R.hd).frame _ _ _ hst6 fun b hb o e => ?_
      obtain ⟨o', e', nt⟩ := there 0 _ hst6 b hb
      rw [e] at e'; cases e'
      refine gh.keep.get b o (fun w => ?_) e nt
      rw [hW' b w] at e; cases e
theorem Ev.all {id p e pos} {bs : List Bool} (h0 : Ev S (n + 2) sc c ρ (.Name id p) (.val (.builtin "all"))) (h : EvG S n sc c ρ e (bs.map AV.bool)) (he : ∀ env, starEach [e] env = [(false, eval e env)] := by intro _; rfl) : Ev S (n + 2) sc c ρ (.Call (.Name id p) [e] [] pos) (.bool (bs.all (fun b => b))) :=
  fun A env Z s R ei F I Q E k => wpAny_Call_Name_kw (h0 A env Z s R ei F I _ _ fun v s1 L1 v1 => by
    cases v1
    refine callWith_builtin_kwB (by rw [he]; rfl) rfl ?_
    rw [he]
    refine evalArgs_plain (spliced_cons (h A env Z s1 _ _ (R.mono (Nat.le_succ_of_le (Nat.le_succ _))) ei (F.keep L1.keep) L1.inv fun y s2 L2 hy => spliced_nil ?_))
    exact call_all R L1.inv (F.keep L1.keep).bd L2 hy fun t L => k _ t (L1.trans L) (.bool _))
theorem Ev.sumG {id p e pos} {rs : List AV} {out : AV} (h0 : Ev S (n + 2) sc c ρ (.Name id p) (.val (.builtin "sum"))) (h : EvG S n sc c ρ e rs) (hsum : Sums S n (.int 0) rs out) (he : ∀ env, starEach [e] env = [(false, eval e env)] := by intro _; rfl) : Ev S (n + 2) sc c ρ (.Call (.Name id p) [e] [] pos) out :=
  fun A env Z s R ei F I Q E k => wpAny_Call_Name_kw (h0 A env Z s R ei F I _ _ fun v s1 L1 v1 => by
    cases v1
    refine callWith_builtin_kwB (by rw [he]; rfl) rfl ?_
    rw [he]
    refine evalArgs_plain (spliced_cons (h A env Z s1 _ _ (R.mono (Nat.le_succ_of_le (Nat.le_succ _))) ei (F.keep L1.keep) L1.inv fun y s2 L2 hy => spliced_nil ?_))
    exact call_sum R L1.inv (F.keep L1.keep).bd L2 hy hsum fun v t L hv => k _ t (L1.trans L) hv)
end
section
open PySem PySem.Spec PySem.Calls PyProof.Rows PySem.W
variable {S : Sys} {n : Nat} {sc : Scope} {c : Addr} {ρ : Rho} {ow : Own}
/-! [.. for x, y in zip(..)] -/
structure ZSt (z TI TO i1 i2 l1 l2 : Addr) (xs ys : List Value) (k1 k2 i : Nat) (h : Heap) : Prop where
  zip : IsZip h z TI TO .none
  pI : IsPair h TI (.ref i1) (.ref i2)
  pO : ∃ a b, IsPair h TO a b
  it1 : h.IsListIter i1 l1 i
  it2 : h.IsListIter i2 l2 i
  li1 : h.get? l1 = some (lstO xs k1)
  li2 : h.get? l2 = some (lstO ys k2)
theorem ZSt.mono {z TI TO i1 i2 l1 l2 xs ys k1 k2 i} {h h' : Heap} (x : ZSt z TI TO i1 i2 l1 l2 xs ys k1 k2 i h) (k : ∀ b ∈ [z, TI, TO, i1, i2, l1, l2], ∀ o, notTbl o = true → h.get? b = some o → h'.get? b = some o) : ZSt z TI TO i1 i2 l1 l2 xs ys k1 k2 i h' := by
  obtain ⟨a, b, ⟨p, q, d⟩, ⟨o1, e1, e2, e3⟩, ⟨o2, f1, f2, f3⟩, g1, g2⟩ := x
  exact ⟨k _ (by simp) _ rfl a, k _ (by simp) _ rfl b, ⟨p, q, k _ (by simp) _ rfl d⟩, ⟨o1, k _ (by simp) _ (by unfold notTbl; rw [e2]) e1, e2, e3⟩, ⟨o2, k _ (by simp) _ (by unfold notTbl; rw [f2]) f1, f2, f3⟩, k _ (by simp) _ rfl g1, k _ (by simp) _ rfl g2⟩
theorem zip_run {elt : Expr} {x y zid : Str} {px py tp zp ipos ps : Pos} {kk0 : Nat} {args : List Expr} {scope : Scope} {pos : Pos} {as1 as2 rs : List AV} {use : Option (Value → Sem Unit)}
    (h0 : Ev S n sc c ρ (.Name zid zp) (.val (.type "zip"))) (ha : EvA S n sc c ρ args [] [.lst as1, .lst as2] []) (hlen12 : as1.length = as2.length) (ok : CompOk scope sc x ρ) (okx : scope.names.lookup x = some .local) (oky : scope.names.lookup y = some .local) (hxy : x ≠ y)
    (hel : Paired (fun (p : AV × AV) r => Ev S n (inner scope sc) c ((y, p.2) :: (x, p.1) :: fre scope ρ) elt r) (as1.zip as2) rs) (hlen : rs.length ≤ 1000)
    (hs : ∀ env x, foldedSetIterable (.Call (.Name zid zp) args [] ipos) env x = pure x) {A env Z s} {Q : Value → Shared → Prop} {E : Value → Shared → Prop} (R : Room n A) (ei : EnvIs env sc c) (F : Frame S Z env s.heap ρ) (I : Inv S s)
    (k : ∀ D C vs kk m t, Later S s t → s.heap.get? D = .none → s.heap.get? C = .none → D ≠ C → t.heap.get? D = some (lstO vs kk) → t.heap.Ns C m → Vals (fun a => Z a ∨ a = D ∨ a = C) t.heap vs rs → compPost (model S.prog S.w) A E use Q (.ref D) C (.ok .next) t) :
    wpAny (model S.prog S.w) A (comprehension (.ListComp elt [⟨.Tuple [.Name x px, .Name y py] kk0 tp, .Call (.Name zid zp) args [] ipos, [], 0⟩] scope pos) scope env ps (newList []) false (eval (.Call (.Name zid zp) args [] ipos) env) use) Q E s := by
    obtain ⟨cl, hclos, hcl2, hcl⟩ := closure_env (scope := scope) ei F fun y hy => ok.fr hy
    refine wpAny_comprehension_free rfl (hs env) hclos ok.kind (fun y hy hl => ok.nm (k := .local) (by rw [← hl]; exact hy)) ?_
    refine call_open h0 ha KeepsV.type R ei F I fun v a s0 L0 hv hvs hk _ => ?_
    cases hv
    obtain ⟨u1, u2, e, hu1, hu2⟩ := vals_two hvs
    rw [e, nil_of hk]
    obtain ⟨l1, vs1, kk1, rfl, hz1, hg1, hv1, hb1⟩ := list_sub hu1
    obtain ⟨l2, vs2, kk2, rfl, hz2, hg2, hv2, hb2⟩ := list_sub hu2
    refine call_zip_2 ⟨_, hg1, rfl, kk1, rfl⟩ ⟨_, hg2, rfl, kk2, rfl⟩ fun h1 hzip hTI hTO hi1 hi2 hsz hk01 => ?_
    refine wpAny_pyIter_zip hzip ?_
    have nw : ∀ q, s0.heap.get? (s0.heap.objs.size + q) = .none := fun q => none_ge (Nat.le_add_right _ _)
    have L1 : Later S s0 { s0 with heap := h1 } := Later.grow (t := s0.toks) L0.inv hk01
    generalize hs1 : ({ s0 with heap := h1 } : Shared) = s1 at L1 ⊢
    have hh1 : s1.heap = h1 := by rw [← hs1]
    have L01 := L0.trans L1
    have hlt1 := Heap.lt_size hg1
    have hlt2 := Heap.lt_size hg2
    have D := zipApart_new (n := s0.heap.objs.size) hlt1 hlt2
    have n0 := nw 0
    have n1 := nw 1
    have n2 := nw 2
    have n3 := nw 3
    have n4 := nw 4
    rw [Nat.add_zero] at n0
    generalize s0.heap.objs.size + 4 = z at *
    generalize s0.heap.objs.size + 3 = TO at *
    generalize s0.heap.objs.size + 2 = TI at *
    generalize s0.heap.objs.size + 1 = i2 at *
    generalize s0.heap.objs.size = i1 at *
    have Z1 : ZSt z TI TO i1 i2 l1 l2 vs1 vs2 kk1 kk2 0 s1.heap := by
      rw [hh1]; exact ⟨hzip, hTI, ⟨_, _, hTO⟩, hi1, hi2, hk01 _ _ hg1, hk01 _ _ hg2⟩
    refine wpAny_newObj_type (comp_env fun h' hns hown hapt hkeep => ?_)
    dsimp only at hns hown hapt hkeep ⊢
    generalize hH2 : s1.heap.push { cls := .type "list", dict := .none, data := .seq ([] : List Value).toArray } = H2 at hns hown hapt hkeep ⊢
    generalize hO : cellsFrom (H2.objs.size + 1) scope.names [] = own at hown hapt ⊢
    have hsz2 : H2.objs.size = s1.heap.objs.size + 1 := by rw [← hH2, Heap.size_push]
    have hk1 : ∀ b o, s1.heap.get? b = some o → h'.get? b = some o := fun b o e => hkeep b o (hH2 ▸ Heap.get?_push_of_some _ e)
    have hwn : ∀ b ∈ [z, TO, i1, i2], s0.heap.get? b = .none := fun b hb => by
      simp only [List.mem_cons, List.not_mem_nil, or_false] at hb
      rcases hb with rfl | rfl | rfl | rfl <;> assumption
    have hwe : ∀ {h : Heap} {i}, ZSt z TI TO i1 i2 l1 l2 vs1 vs2 kk1 kk2 i h → ∀ b ∈ [z, TO, i1, i2], ∃ o, h.get? b = some o := fun X b hb => by
      simp only [List.mem_cons, List.not_mem_nil, or_false] at hb
      obtain ⟨a1, a2, ⟨p, q, a3⟩, ⟨o1, a4, _⟩, ⟨o2, a5, _⟩, _, _⟩ := X
      rcases hb with rfl | rfl | rfl | rfl
      · exact ⟨_, a1⟩
      · exact ⟨_, a3⟩
      · exact ⟨_, a4⟩
      · exact ⟨_, a5⟩
    have X : CCtx S [z, TO, i1, i2] H2.objs.size s1.heap.objs.size own s s1 := by
      refine CCtx.of L01 I (fun b hb => L0.keep.none (hwn b hb)) (hwe Z1) (none_ge (by rw [hsz2]; exact Nat.le_succ _)) (fresh _) (fun y a h => none_ge ?_) (by rw [hsz2]; exact Nat.succ_ne_self _) (fun y a h => ?_)
      · have := (hown y a h).2
        rw [hsz2] at this
        exact Nat.le_trans (Nat.le_trans (Nat.le_succ _) (Nat.le_succ _)) this
      · have := (hown y a h).2
        refine ⟨fun q => ?_, fun q => ?_⟩
        · rw [q] at this; exact absurd this (Nat.not_succ_le_self _)
        · rw [q, hsz2] at this; exact absurd (Nat.le_trans (Nat.le_succ _) this) (Nat.not_succ_le_self _)
    have K0 : CInv S [z, TO, i1, i2] H2.objs.size s1.heap.objs.size own s s1 { s1 with heap := h' } [] := by
      refine ⟨L01.trans (Later.grow L1.inv hk1), fun b o _ _ e => hk1 b o e, ⟨_, hns⟩, fun y a h => ⟨_, (hown y a h).1⟩, fun b hb => ?_, ⟨_, hkeep _ _ (hH2 ▸ Heap.get?_push_size _ rfl)⟩⟩
      obtain ⟨o, e⟩ := hwe Z1 b hb; exact ⟨o, hk1 b o e⟩
    have hownk : ∀ y a, (y, a) ∈ own → (y, NameKind.cell) ∈ scope.names := fun y a h => by
      rcases cellsFrom_kind _ _ _ (hO ▸ h) with q | q
      · exact q
      · cases q
    have hownx : ∀ {x : Str}, scope.names.lookup x = some .cell → ∃ a, (x, a) ∈ own := fun h => hO ▸ cellsFrom_has _ _ _ (mem_names h)
    generalize H2.objs.size = C at *
    generalize s1.heap.objs.size = D0 at *
    have seven : ∀ {h : Heap} {i}, ZSt z TI TO i1 i2 l1 l2 vs1 vs2 kk1 kk2 i h → ∀ b ∈ [z, TI, TO, i1, i2, l1, l2], ∃ o, h.get? b = some o := fun X b hb => by
      simp only [List.mem_cons, List.not_mem_nil, or_false] at hb
      obtain ⟨a1, a2, ⟨p, q, a3⟩, ⟨o1, a4, _⟩, ⟨o2, a5, _⟩, a6, a7⟩ := X
      rcases hb with rfl | rfl | rfl | rfl | rfl | rfl | rfl
      · exact ⟨_, a1⟩
      · exact ⟨_, a2⟩
      · exact ⟨_, a3⟩
      · exact ⟨_, a4⟩
      · exact ⟨_, a5⟩
      · exact ⟨_, a6⟩
      · exact ⟨_, a7⟩
    have hfpo : ∀ b ∈ [z, TI, TO, i1, i2, l1, l2], b ≠ D0 ∧ ¬ (b = C ∨ ∃ y, (y, b) ∈ own) := fun b hb => by
      obtain ⟨o, e⟩ := seven Z1 b hb
      refine ⟨fun q => ?_, fun q => ?_⟩
      · rw [q, X.newD] at e; cases e
      · rcases q with q | ⟨y, q⟩
        · rw [q, X.newC] at e; cases e
        · rw [X.newO y b q] at e; cases e
    have hplen := paired_len hel
    rw [List.length_zip, ← hlen12, Nat.min_self] at hplen
    let J : Nat → Shared → Prop := fun q t => ∃ i ys, i ≤ as1.length ∧ q = as1.length - i + 1 ∧ CInv S [z, TO, i1, i2] C D0 own s s1 t ys ∧ ZSt z TI TO i1 i2 l1 l2 vs1 vs2 kk1 kk2 i t.heap ∧ Vals (fun a => Z a ∨ NN [z, TO, i1, i2] C D0 own a) t.heap ys (rs.take i)
    have start : J (as1.length + 1) { s1 with heap := h' } := ⟨0, [], Nat.zero_le _, rfl, K0, Z1.mono fun b _ o _ e => hk1 b o e, by rw [List.take_zero]; exact .nil⟩
    have vup : ∀ {v a}, Val Z s0.heap v a → Val (fun a => Z a ∨ NN [z, TO, i1, i2] C D0 own a) s1.heap v a := fun hv => (hv.more fun b q => by
      rcases q with q | q | rfl | rfl | ⟨y, q⟩
      · exact .inl q
      · exact .inr (hwn b q)
      · exact .inr (L1.keep.none X.newC)
      · exact .inr (L1.keep.none X.newD)
      · exact .inr (L1.keep.none (X.newO y b q))).keep L1.keep
    have loop : codeAny (model S.prog S.w) A (.compLoop (.ListComp elt [⟨.Tuple [.Name x px, .Name y py] kk0 tp, .Call (.Name zid zp) args [] ipos, [], 0⟩] scope pos) 0 (.ref z) (.ref D0) (compEnvC scope (own ++ cl) C env)) (compPost (model S.prog S.w) A E use Q (.ref D0) C) { s1 with heap := h' } := by
      refine kcp_loop J (fun q t hJ => ?_) (as1.length + 1) start
      obtain ⟨i, ys, hi, rfl, K, hz, hys⟩ := hJ
      by_cases hlt : i < as1.length
      · obtain ⟨a1, ha1⟩ : ∃ a, as1[i]? = some a := ⟨as1[i], List.getElem?_eq_getElem hlt⟩
        obtain ⟨a2, ha2⟩ : ∃ a, as2[i]? = some a := ⟨as2[i]'(hlen12 ▸ hlt), List.getElem?_eq_getElem (hlen12 ▸ hlt)⟩
        obtain ⟨r, hr, hev⟩ := paired_at hel (i := i) (a := (a1, a2)) (List.getElem?_zip_eq_some.mpr ⟨ha1, ha2⟩)
        obtain ⟨w1, hw1, hwv1⟩ := vals_at hv1 ha1
        obtain ⟨w2, hw2, hwv2⟩ := vals_at hv2 ha2
        obtain ⟨z1, z2, ⟨p, q, z3⟩, z4, z5, z6, z7⟩ := hz
        refine wpAny_pyNext_zip_item D z1 z2 z3 z4 z5 ⟨_, z6, rfl, kk1, rfl⟩ ⟨_, z7, rfl, kk2, rfl⟩ (x := w1) (y := w2) (by simpa using hw1) (by simpa using hw2) fun h₂ b1 b2 b3 b4 b5 _ bk => ?_
        refine wpAny_letOwnedTupleGo_zip b1 fun h₃ c1 cs => ?_
        have hTne : t.heap.objs.size ≠ z := fun q => by have := Heap.lt_size z1; rw [← q] at this; exact Nat.lt_irrefl _ this
        have k3 : ∀ b o, b ∉ [z, TO, i1, i2] → t.heap.get? b = some o → h₃.get? b = some o := fun b o hb e => by
          simp only [List.mem_cons, List.not_mem_nil, or_false, not_or] at hb
          exact (cs.2 b hb.1).trans (bk b o hb.1 hb.2.1 hb.2.2.1 hb.2.2.2 e)
        have Z3 : ZSt z TI TO i1 i2 l1 l2 vs1 vs2 kk1 kk2 (i + 1) h₃ := by
          refine ⟨c1, k3 _ _ ?_ z2, ⟨w1, w2, (cs.2 _ D.TOz).trans b2⟩, b3.extBut cs.extBut D.i1z, b4.extBut cs.extBut D.i2z, k3 _ _ ?_ z6, k3 _ _ ?_ z7⟩
          · simp [D.TIz, D.TITO, D.TIi1, D.TIi2]
          · simp [D.l1z, D.l1TO, D.l1i1, D.l1i2]
          · simp [D.l2z, D.l2TO, D.l2i1, D.l2i2]
        have K3 := K.turn (tk := t.toks) X k3 (hwe Z3)
        have hT3 : IsTup h₃ t.heap.objs.size #[w1, w2] := ⟨_, (cs.2 _ hTne).trans b5, rfl, 0, rfl⟩
        refine assign_Tuple_tuple R.hd hT3 rfl rfl fun h₄ he₄ => ?_
        have k34 : ∀ b o, h₃.get? b = some o → h₄.get? b = some o := fun b o e => he₄ b o (Nat.ne_of_lt (Heap.lt_size e)) e
        have L34 : Later S { t with heap := h₃ } { t with heap := h₄ } := Later.grow (s := { t with heap := h₃ }) (t := t.toks) K3.later.inv k34
        have K4 := K3.grow L34
        refine assignInOrder_cons (PySem.wpAny_assign_Name (comp_store X K4 ei ok.kind (.inl okx) hownx fun t5 K5 r5 sm5 _ => ?_))
        refine assignInOrder_cons (PySem.wpAny_assign_Name (comp_store X K5 ei ok.kind (.inl oky) hownx fun t6 K6 r6 sm6 oth6 => assignInOrder_nil ?_))
        have hkx : (compEnvC scope (own ++ cl) C env).kindOf x = some .local := lookup_relabel_local okx
        have r5' := oth6 x w1 hxy hapt r5 (.inr hkx)
        have hva : Val (fun a => Z a ∨ NN [z, TO, i1, i2] C D0 own a) t6.heap w1 a1 := (vup hwv1).same fun b o q nt e => K6.one b o (fun w => q (.inr (.inl w))) nt e
        have hvb : Val (fun a => Z a ∨ NN [z, TO, i1, i2] C D0 own a) t6.heap w2 a2 := (vup hwv2).same fun b o q nt e => K6.one b o (fun w => q (.inr (.inl w))) nt e
        have Fr6 := ((K6.frame X F ei ok hcl hcl2 hownk).cons r5' hva).cons r6 hvb
        have ei3 : EnvIs (compEnvC scope (own ++ cl) C env) (inner scope sc) c := ⟨relabel_eq ei scope, ei.globals, ei.builtins, ei.code, ok.kind, ok.co⟩
        refine hev A _ _ t6 R ei3 Fr6 K6.later.inv _ _ fun yv t7 L7 hy => ?_
        have K7 := K6.grow L7
        have nnn : ∀ {b}, ¬ (Z b ∨ NN [z, TO, i1, i2] C D0 own b) → ¬ (b = C ∨ ∃ y, (y, b) ∈ own) := fun q w => q (.inr (w.elim (fun w => .inr (.inl w)) fun w => .inr (.inr (.inr w))))
        have hys7 : Vals (fun a => Z a ∨ NN [z, TO, i1, i2] C D0 own a) t7.heap ys (rs.take i) := (hys.same (h' := t6.heap) fun b o q nt e => sm6 b o (nnn q) (sm5 b o (nnn q) (k34 b o (k3 b o (fun w => q (.inr (.inl w))) e)))).keep L7.keep
        have hlen2 : ys.toArray.size ≤ sizeLine := by
          have := hys7.1
          rw [List.length_take] at this
          unfold sizeLine; simp; omega
        refine wpAny_list_append_plain K7.acc (fun h₅ hp₅ hs₅ => ?_) hlen2
        have K8 := K7.setD (y := yv) (tk := t7.toks) X (by simpa using hp₅) hs₅
        refine ⟨as1.length - (i + 1) + 1, by omega, i + 1, ys ++ [yv], hlt, rfl, K8, ?_, ?_⟩
        · refine Z3.mono fun b hb o nt e => ?_
          exact (hs₅.2 b (hfpo b hb).1).trans (L7.keep.get b o (sm6 b o (hfpo b hb).2 (sm5 b o (hfpo b hb).2 (k34 b o e))) nt)
        · rw [take_snoc hr]
          exact (vals_snoc hys7 hy).same fun b o q _ e => (hs₅.2 b fun w => q (.inr (.inr (.inr (.inl w))))).trans e
      · have hin : i = as1.length := Nat.le_antisymm hi (Nat.not_lt.mp hlt)
        subst hin
        obtain ⟨z1, z2, ⟨p, q, z3⟩, z4, z5, z6, z7⟩ := hz
        refine wpAny_pyNext_zip_end R.hd D z1 z2 z3 z4 z5 ⟨_, z6, rfl, kk1, rfl⟩ ⟨_, z7, rfl, kk2, rfl⟩ (.inl (by simp [hv1.1])) fun h₂ bk => ?_
        have hk₂ : ∀ b o, b ∉ [z, TO, i1, i2] → t.heap.get? b = some o → h₂.get? b = some o := fun b o hb e => by
          simp only [List.mem_cons, List.not_mem_nil, or_false, not_or] at hb
          exact bk b o hb.1 hb.2.1 hb.2.2.1 hb.2.2.2 e
        obtain ⟨kk, hacc⟩ := K.acc
        obtain ⟨m, hm⟩ := K.loc
        have Lf := K.later.turn (tk := t.toks) hk₂ X.newWr fun b h => I.keep.none (X.newWr b h)
        rw [show rs.take as1.length = rs from by rw [hplen, List.take_length]] at hys
        refine k D0 C ys kk m _ Lf (X.new0 (.inr (.inr (.inl rfl)))) (X.new0 (.inr (.inl rfl))) X.CD.symm (hk₂ _ _ X.offD hacc) (hm.at' fun o e => hk₂ _ o X.offC e) ?_
        refine (hys.same (h' := h₂) fun b o q _ e => hk₂ b o (fun w => q (.inr (.inl w))) e).anti fun b q => ?_
        rcases q with q | rfl | rfl
        · exact .inl q
        · exact .inr (.inr (.inr (.inl rfl)))
        · exact .inr (.inr (.inl rfl))
    exact codeAny_compStart_list loop (wpAny_pyIter_zip (hk1 _ _ Z1.zip) loop)
end
section
open PySem PySem.Spec PySem.Calls PyProof.Rows PySem.W
variable {S : Sys} {n : Nat} {sc : Scope} {c : Addr} {ρ : Rho} {ow : Own}
theorem InpSem.sub {i j} : InpSem S n .Sub (.int i) (.int j) (.int (i - j)) := fun A Z s v w R I B hv hw Q E h => by
  cases hv; cases hw; exact PyProof.Rows.isub_int (h _ _ (Later.tok I _) (.int _ _))
theorem intsAre_of {Z h} : ∀ {ns : List Int} {vs : List Value}, Vals Z h vs (ns.map AV.int) → IntsAre vs ns
  | [], vs, hv => by rw [hv.length_nil]; exact .nil
  | i :: ns, vs, hv => by
    obtain ⟨v, r, rfl, h1, h2⟩ := hv.of_cons
    cases h1
    exact .cons _ _ (intsAre_of h2)
/-- len(set(..)) of ints -/
def distinct (ns : List Int) : Int := (firstMet (fun i => ns.getD i 0) ns.length).length
theorem Ev.lenSet {lid sid lp sp e pos1 pos2} {ns : List Int} (h0 : Ev S n sc c ρ (.Name lid lp) (.val (.builtin "len"))) (h1 : Ev S n sc c ρ (.Name sid sp) (.val (.type "set"))) (h : Ev S n sc c ρ e (.lst (ns.map AV.int)))
    (he : ∀ env, starEach [e] env = [(false, eval e env)] := by intro _; rfl) (he2 : ∀ env, starEach [.Call (.Name sid sp) [e] [] pos2] env = [(false, eval (.Call (.Name sid sp) [e] [] pos2) env)] := by intro _; rfl) :
    Ev S n sc c ρ (.Call (.Name lid lp) [.Call (.Name sid sp) [e] [] pos2] [] pos1) (.int (distinct ns)) :=
  fun A env Z s R ei F I Q E k => wpAny_Call_Name_kw (h0 A env Z s R ei F I _ _ fun v s1 L1 v1 => by
    cases v1
    refine callWith_builtin_kwB (by rw [he2]; rfl) rfl ?_
    rw [he2]
    refine evalArgs_plain (spliced_cons (wpAny_Call_Name_kw (h1 A env Z s1 R ei (F.keep L1.keep) L1.inv _ _ fun v s2 L2 v2 => ?_)))
    cases v2
    have L12 := L1.trans L2
    refine KeepsV.type A Z s2.heap _ pos2 [] _ _ _ _ s2 (.val (.type "set")) (by rw [he]; rfl) ?_
    rw [he]
    refine evalArgs_plain (spliced_cons (h A env Z s2 R ei (F.keep L12.keep) L12.inv _ _ fun y s3 L3 hy => spliced_nil ⟨L3.inv.K, .val _, ?_⟩))
    obtain ⟨a, vs, kk, rfl, hz, hg, hvs, hb⟩ := list_sub hy
    have hi := intsAre_of hvs
    have hlen : vs.length = ns.length := by rw [hvs.1]; simp
    refine call_set_list (items := vs.toArray) (ns := ns) R.hd ⟨_, hg, rfl, kk, rfl⟩ (by simpa using hi) (by have := hvs.1; simp at hb ⊢; unfold scanBound; omega) fun h' tk hset hk => ?_
    have hk' : ∀ b o, s3.heap.get? b = some o → h'.get? b = some o := fun b o e => hk b o (Heap.lt_size e) e
    have L4 := Later.grow (t := tk) L3.inv hk'
    obtain ⟨o, es, ep, t, ho, hex, hd, _, _, hsc, hfit, hcnt⟩ := hset
    refine spliced_nil ?_
    refine call_len_set ho hex hd hfit (by unfold scanBound at hsc; omega) (k _ _ (((L12.trans L3).trans L4).trans (Later.tok L4.inv _)) ?_)
    rw [hcnt]
    have : vs.toArray.size = ns.length := by simp [hlen]
    rw [this]
    exact .int _ _)
theorem all_eq : ∀ (as bs : List Int), as.length = bs.length → ((List.range as.length).all fun j => as.getD j 0 == bs.getD j 0) = decide (as = bs) := by
  intro as bs h
  rw [Bool.eq_iff_iff, List.all_eq_true, decide_eq_true_eq]
  constructor
  · intro hj
    refine List.ext_getElem h fun i h1 h2 => ?_
    have := hj i (List.mem_range.mpr h1)
    simpa [List.getD_eq_getElem?_getD, h1, h2] using this
  · rintro rfl j _
    simp
theorem CmpSem.eqInts {as bs : List Int} (h : as.length = bs.length) : CmpSem S n .Eq (.lst (as.map AV.int)) (.lst (bs.map AV.int)) (.bool (decide (as = bs))) :=
  fun A Z s v w R I B hv hw Q E k => by
    obtain ⟨a, vs, kk, rfl, hz, hg, hvs, hb⟩ := list_sub hv
    obtain ⟨a', vs', kk', rfl, hz', hg', hvs', hb'⟩ := list_sub hw
    have i1 := intsAre_of hvs
    have i2 := intsAre_of hvs'
    have e1 : vs.length = as.length := by rw [hvs.1]; simp
    have e2 : vs'.length = bs.length := by rw [hvs'.1]; simp
    refine PySem.SeqAt.eq_listAt (e := fun j => as.getD j 0 == bs.getD j 0) ⟨_, hg, rfl, kk, rfl⟩ ⟨_, hg', rfl, kk', rfl⟩ (by simp [e1, e2, h]) R.u (fun j h1 h2 => ?_) ?_
    · have h1' : j < as.length := by simpa [e1] using h1
      have h2' : j < bs.length := by simpa [e2] using h2
      obtain ⟨t, ht⟩ := i1.get j as[j] (List.getElem?_eq_getElem h1')
      obtain ⟨t', ht'⟩ := i2.get j bs[j] (List.getElem?_eq_getElem h2')
      have x1 : vs.toArray[j] = .int as[j] t := by
        have : vs.toArray[j]? = some (.int as[j] t) := by simpa using ht
        rw [Array.getElem?_eq_getElem h1] at this; exact Option.some.inj this
      have x2 : vs'.toArray[j] = .int bs[j] t' := by
        have : vs'.toArray[j]? = some (.int bs[j] t') := by simpa using ht'
        rw [Array.getElem?_eq_getElem h2] at this; exact Option.some.inj this
      rw [x1, x2]
      have y1 : as.getD j 0 = as[j] := by simp [List.getD_eq_getElem?_getD, h1']
      have y2 : bs.getD j 0 = bs[j] := by simp [List.getD_eq_getElem?_getD, h2']
      rw [y1, y2]
      exact PySem.SeqAt.EqAt.int_int _ _ _ _
    · have : vs.toArray.size = as.length := by simp [e1]
      rw [this, all_eq _ _ h]
      exact k _ _ (Later.refl I) (.bool _)
theorem EvF.copy {o apos pos l} {pl : Env → Sem Bool} (h1 : Ev S n sc c ρ o (.lst l))
    (he : ∀ env, eval (.Call (.Attribute o "copy" apos) [] [] pos) env = (do
      let ov ← eval o env
      standAt apos.atName
      let (f, first) ← holding [ov] (getMethod ov "copy" (pl env))
      callWith pos f first [] []) := by intro _; rfl) : EvF S n sc c ρ (.Call (.Attribute o "copy" apos) [] [] pos) l :=
  fun A env Z s R ei F I Q E k => by
    rw [he]
    refine wpAny_bind (h1 A env Z s R ei F I _ _ fun v s1 L1 v1 => wpAny_bind (wpAny_standAt (wpAny_bind (wpAny_holding ?_))))
    obtain ⟨a, vs, kk, rfl, hz, hg, hvs, hb⟩ := list_sub v1
    refine getMethod_list_of PySem.F.slot_list_copy (by kernel_rfl) ⟨_, hg, rfl, kk, rfl⟩ ⟨_, hg, rfl⟩ ?_
    · refine P.copy_list hg ?_ (by have := hvs.1; unfold sizeLine; simp; omega)
      have L2 := Later.grow (t := s1.toks) L1.inv (h' := s1.heap.push { cls := .type "list", data := .seq vs.toArray }) fun _ _ e => Heap.get?_push_of_some _ e
      exact k _ vs 0 _ (L1.trans L2) (L1.keep.none (fresh _)) (Heap.get?_push_size _ rfl) ((hvs.more fun b z => z.elim .inl fun q => .inr (q ▸ fresh _)).keep L2.keep)
end
section
open PySem PySem.Spec PySem.Calls PyProof.Rows PySem.W
variable {S : Sys} {n : Nat} {sc : Scope} {c : Addr} {ρ : Rho} {ow : Own}
theorem kws_one {Z h} {kvs : List (Str × Value)} {x : Str} {a : AV} (h1 : kvs.map (·.1) = [(x, a)].map (·.1)) (h2 : Vals Z h (kvs.map (·.2)) ([(x, a)].map (·.2))) : ∃ v, kvs = [(x, v)] ∧ Val Z h v a := by
  match kvs, h1 with
  | [(y, v)], h1 =>
    simp at h1
    subst h1
    obtain ⟨u, e, hu⟩ := vals_one h2
    cases e
    exact ⟨v, rfl, hu⟩
  | [], h1 => simp at h1
  | _ :: _ :: _, h1 => simp at h1
theorem Binds.p1 {fd} {x : Str} {a : AV} (h : ∀ v S', peek S.K S' (bindArgs fd ⟨[v], []⟩) = some [(x, v)]) : Binds S fd [a] [] [(x, a)] := fun Z hh vs kvs hv hk hkv => by
  obtain ⟨v, rfl, h1⟩ := vals_one hv
  cases nil_of hk
  exact ⟨_, h v, rfl, .cons h1 .nil⟩
theorem Binds.p2 {fd} {x y : Str} {a b : AV} (h : ∀ v w S', peek S.K S' (bindArgs fd ⟨[v, w], []⟩) = some [(x, v), (y, w)]) : Binds S fd [a, b] [] [(x, a), (y, b)] := fun Z hh vs kvs hv hk hkv => by
  obtain ⟨v, w, rfl, h1, h2⟩ := vals_two hv
  cases nil_of hk
  exact ⟨_, h v w, rfl, .cons h1 (.cons h2 .nil)⟩
theorem Binds.p3 {fd} {x y z : Str} {a b c : AV} (h : ∀ v w u S', peek S.K S' (bindArgs fd ⟨[v, w, u], []⟩) = some [(x, v), (y, w), (z, u)]) : Binds S fd [a, b, c] [] [(x, a), (y, b), (z, c)] := fun Z hh vs kvs hv hk hkv => by
  obtain ⟨v, r, rfl, h1, hr⟩ := hv.of_cons
  obtain ⟨w, u, rfl, h2, h3⟩ := vals_two hr
  cases nil_of hk
  exact ⟨_, h v w u, rfl, .cons h1 (.cons h2 (.cons h3 .nil))⟩
theorem Binds.p2k {fd} {x y z : Str} {a b c : AV} (h : ∀ v w u S', peek S.K S' (bindArgs fd ⟨[v, w], [(z, u)]⟩) = some [(x, v), (y, w), (z, u)]) : Binds S fd [a, b] [(z, c)] [(x, a), (y, b), (z, c)] := fun Z hh vs kvs hv hk hkv => by
  obtain ⟨v, w, rfl, h1, h2⟩ := vals_two hv
  obtain ⟨u, rfl, h3⟩ := kws_one hk hkv
  exact ⟨_, h v w u, rfl, .cons h1 (.cons h2 (.cons h3 .nil))⟩
theorem Binds.p3k {fd} {x y z t : Str} {a b c d : AV} (h : ∀ v w u q S', peek S.K S' (bindArgs fd ⟨[v, w, u], [(t, q)]⟩) = some [(x, v), (y, w), (z, u), (t, q)]) : Binds S fd [a, b, c] [(t, d)] [(x, a), (y, b), (z, c), (t, d)] := fun Z hh vs kvs hv hk hkv => by
  obtain ⟨v, r, rfl, h1, hr⟩ := hv.of_cons
  obtain ⟨w, u, rfl, h2, h3⟩ := vals_two hr
  obtain ⟨q, rfl, h4⟩ := kws_one hk hkv
  exact ⟨_, h v w u q, rfl, .cons h1 (.cons h2 (.cons h3 (.cons h4 .nil)))⟩
theorem Binds.p2d {fd} {x y z : Str} {a b : AV} {d : Bool} (h : ∀ v w S', peek S.K S' (bindArgs fd ⟨[v, w], []⟩) = some [(x, v), (y, w), (z, .bool d)]) : Binds S fd [a, b] [] [(x, a), (y, b), (z, .bool d)] := fun Z hh vs kvs hv hk hkv => by
  obtain ⟨v, w, rfl, h1, h2⟩ := vals_two hv
  cases nil_of hk
  exact ⟨_, h v w, rfl, .cons h1 (.cons h2 (.cons (.bool d) .nil))⟩
end
section
open PySem PySem.Spec PySem.Calls PyProof.Rows PySem.W
variable {S : Sys} {n : Nat} {sc : Scope} {c : Addr} {ρ : Rho} {ow : Own}
theorem FnSem.cast {f as kas r r'} (h : FnSem S n f as kas r) (e : r = r') : FnSem S n f as kas r' := e ▸ h
theorem CallSem.cast {f as kas r r'} (h : CallSem S n f as kas r) (e : r = r') : CallSem S n f as kas r' := e ▸ h
theorem BinSem.up {m op a b r} (h : BinSem S m op a b r) (k : m ≤ n) : BinSem S n op a b r := fun A Z s v w R => h A Z s v w (R.mono k)
theorem CmpSem.up {m op a b r} (h : CmpSem S m op a b r) (k : m ≤ n) : CmpSem S n op a b r := fun A Z s v w R => h A Z s v w (R.mono k)
theorem SubSem.up {m a i r} (h : SubSem S m a i r) (k : m ≤ n) : SubSem S n a i r := fun A Z s v w value slice hs R => h A Z s v w value slice hs (R.mono k)
/-! congruences -/
theorem cg_red {q a : Int} : (a % q) % q = a % q := Int.emod_emod_of_dvd _ (Int.dvd_refl q)
theorem cg_sub {q a b a' b' : Int} (h1 : a % q = a' % q) (h2 : b % q = b' % q) : (a - b) % q = (a' - b') % q := by rw [Int.sub_emod, h1, h2, ← Int.sub_emod]
theorem cg_neg {q a a' : Int} (h1 : a % q = a' % q) : (-a) % q = (-a') % q := by
  have := cg_sub (q := q) (a := 0) (a' := 0) rfl h1
  simpa using this
theorem bits_small {x q : Int} (h0 : 0 < q) (h1 : q < 2 ^ 63) : Builtin.Int.intBits (x % q) ≤ 64 := by
  have a := Int.emod_nonneg x (Int.ne_of_gt h0)
  have b := Int.emod_lt_of_pos x h0
  have : (x % q).natAbs < 2 ^ 64 := by omega
  exact intBits_le this
theorem mulOk {x q b : Int} (h0 : 0 < q) (h1 : q < 2 ^ 63) : IntMulOk (x % q) b := IntMulOk.of_left (bits_small h0 h1)
end
section
open PySem PySem.Spec PySem.Calls PyProof.Rows PySem.W
variable {S : Sys} {n : Nat} {sc : Scope} {c : Addr} {ρ : Rho} {ow : Own}
theorem St.ifB {t b e pos o v} (h1 : EvT S n sc c ρ t v) (h2 : Ex S n sc c ρ ow (bif v then b else e) o) : St S n sc c ρ ow (.If t b e pos) o := by
  cases v
  · exact St.if_f h1 h2
  · exact St.if_t h1 h2
theorem Ev.ifB {t e1 e2 pos a v} (h1 : EvT S n sc c ρ t v) (h2 : Ev S n sc c ρ (bif v then e1 else e2) a) : Ev S n sc c ρ (.IfExp t e1 e2 pos) a := by
  cases v
  · exact Ev.ifexp_f h1 h2
  · exact Ev.ifexp_t h1 h2
theorem EvT.orB {x y pos v r} (h1 : EvT S n sc c ρ x v) (h2 : v = false → EvT S n sc c ρ y r) (hr : (bif v then true else r) = r') : EvT S n sc c ρ (.BoolOp .Or [x, y] pos) r' := by
  cases v
  · subst hr
    refine EvT.or_f h1 ?_
    cases r
    · exact EvT.or_f (h2 rfl) EvT.or_nil
    · exact EvT.or_t (h2 rfl)
  · subst hr; exact EvT.or_t h1
theorem EvT.andB {x y pos v r} (h1 : EvT S n sc c ρ x v) (h2 : v = true → EvT S n sc c ρ y r) (hr : (bif v then r else false) = r') : EvT S n sc c ρ (.BoolOp .And [x, y] pos) r' := by
  cases v
  · subst hr; exact EvT.and_f h1
  · subst hr
    refine EvT.and_t h1 ?_
    cases r
    · exact EvT.and_f (h2 rfl)
    · exact EvT.and_t (h2 rfl) EvT.and_nil
theorem MethSem.fnQ {a C fs name f} (ha : a.cls? = some (C, fs)) (hl : fs.lookup name = .none) (hq : findIn S.K (.ref C) name = some (some (.ref f))) (hf : isFn S.K (.ref f) = true) (hg : plainGet S.K C name = true) : MethSem S n a name (.val (.ref f)) [a] :=
  MethSem.fn ha (by unfold clsFn; rw [hq, hf, Bool.and_true]; exact beq_self_eq_true _) hg hl
theorem Ev.builtinF {x pos nm} (hk : sc.names.lookup x = some .globalImplicit) (hv : nsIn S.K mainGlobals x = some Option.none) (hb : bootBuiltins x = some (.builtin nm)) (hn : x ≠ "__name__") (hd : (x == ("__debug__" : Str)) = false) : Ev S n sc c ρ (.Name x pos) (.val (.builtin nm)) := Ev.builtin hk hv hb hn hd
theorem Ev.builtinT {x pos nm} (hk : sc.names.lookup x = some .globalImplicit) (hv : nsIn S.K mainGlobals x = some Option.none) (hb : bootBuiltins x = some (.type nm)) (hn : x ≠ "__name__") (hd : (x == ("__debug__" : Str)) = false) : Ev S n sc c ρ (.Name x pos) (.val (.type nm)) := Ev.builtin hk hv hb hn hd
theorem Ev.globR {x pos v} (hk : sc.names.lookup x = some .globalImplicit) (hv : nsIn S.K mainGlobals x = some (some (.ref v))) (hd : (x == ("__debug__" : Str)) = false) : Ev S n sc c ρ (.Name x pos) (.val (.ref v)) := Ev.glob hk hv hd
theorem St.compU {elt iter tgt : Expr} {y : Str} {py : Pos} {scope : Scope} {pos spos : Pos} {rs : List AV}
    (run : ∀ {use : Option (Value → Sem Unit)} {ps : Pos} {A : Around} {env : Env} {Z : Addr → Prop} {s : Shared} {Q : Value → Shared → Prop} {E : Value → Shared → Prop}, Room n A → EnvIs env sc c → Frame S Z env s.heap ρ → Inv S s →
      (∀ D C vs kk m t, Later S s t → s.heap.get? D = .none → s.heap.get? C = .none → D ≠ C → t.heap.get? D = some (lstO vs kk) → t.heap.Ns C m → Vals (fun a => Z a ∨ a = D ∨ a = C) t.heap vs rs → compPost (model S.prog S.w) A E use Q (.ref D) C (.ok .next) t) →
      wpAny (model S.prog S.w) A (comprehension (.ListComp elt [⟨tgt, iter, [], 0⟩] scope pos) scope env ps (newList []) false (eval iter env) use) Q E s)
    (hk : Stores sc y) (hy : ρ.lookup y = .none) (hsw : ∀ env : Env, env.scope = sc → swapsWith (.ListComp elt [⟨tgt, iter, [], 0⟩] scope pos) (some (.Name y py)) spos.line env = pure true) : St S n sc c ρ .no (.Assign [.Name y py] (.ListComp elt [⟨tgt, iter, [], 0⟩] scope pos) spos) (.next ρ (.lst y rs)) :=
  fun A env Y h₀ Z M s Q E R ei F I p => by
    rw [exec_Assign_Name_used _ _ _ _ (hsw env ei.scope)]
    refine wpAny_bind (wpAny_standAt (wpAny_bind ?_))
    show wpAny _ A (do let _ ← comprehension (.ListComp elt [⟨tgt, iter, [], 0⟩] scope pos) scope env _ (newList []) false (eval iter env) (some (PySem.assign (.Name y py) env))) _ _ s
    refine wpAny_bind (wpAny_mono (run (use := some (PySem.assign (.Name y py) env)) (Q := fun _ s' => Q .next s') R ei F.F I fun D C vs kk m t L hD hC hDC hg hn hv => ?_) (fun _ s' hq => wpAny_pure (wpAny_pure hq)) fun _ _ e => e)
    show wpAny _ A (PySem.assign (.Name y py) env (.ref D)) _ _ _
    have F1 := F.widen (D := fun a => a = D ∨ a = C) (D' := fun a => False) L (fun a q => by rcases q with rfl | rfl <;> assumption) (fun a q => by
      rcases q with rfl | rfl
      · exact ⟨_, hg⟩
      · obtain ⟨o, _, _, e, _⟩ := hn; exact ⟨o, e⟩) (fun a q => q.elim)
    have dl := locNe F hD
    have cl := locNe F hC
    have dc := cellNe F hD
    have cc := cellNe F hC
    refine wpAny_assign_Name (store ei F1 L.inv (.val (.ref D)) hk (by intro q; cases q) fun s' F' st' hk' sm => ⟨m, ?_, fun h'' hs'' => ?_⟩)
    · obtain ⟨o, es, ep, e, d, r⟩ := hn
      exact ⟨o, es, ep, hk' C o cl (by intro v q; rw [d] at q; cases q) e, d, r⟩
    · have F2 := F'.sub' (base_lookup hy)
      obtain ⟨v, r, hv'⟩ := F'.F.res y (.val (.ref D)) (by rw [List.lookup_cons, beq_self_eq_true])
      cases hv'
      have F3 : FrameS S Y h₀ (fun a => Z a ∨ a = D ∨ a = C) (fun a => M a ∨ a = D) env s'.heap ρ (.lst y rs) := by
        refine ⟨F2.F, ?_, fun a z => z.elim (fun q => F2.mz a (.inl q)) fun q => .inr (.inl q), .inl F.ml, fun y cc e => .inl (F.mc y cc e), F2.sub, F2.yb, F2.k0, F2.newL, F2.newC, F2.apart, F2.start, F2.cellOk⟩
        refine ⟨D, vs, kk, r, .inr rfl, F.k0.none hD, dl, dc, hk' D _ dl (by intro v q; cases q) hg, hv.same fun b o z _ e' => sm b o (fun q => z (q.elim (fun q => .inl (F.mz b q)) fun q => q.elim)) e'⟩
      have hCM : ¬ (M C ∨ C = D) := fun q => q.elim (fun q => by obtain ⟨o, e⟩ := (F.F.zb C (F.mz C q)).2; rw [hC] at e; cases e) fun q => hDC q.symm
      have hx : ∀ b o, b ∉ [C] → s'.heap.get? b = some o → h''.get? b = some o := fun b o q e => (hs''.2 b fun z => q (z ▸ List.mem_singleton.mpr rfl)).trans e
      have F4 := F3.turn (h' := h'') (wr := [C]) (fun a => Z a ∨ a = D) hx (fun a z => z.elim .inl fun q => .inr (.inl q)) (fun a z q => z.elim .inl fun z => z.elim .inr fun z => absurd (List.mem_singleton.mpr z) q) (fun b hb z => by
        rw [List.mem_singleton.mp hb] at z ⊢
        rcases z with z | z
        · obtain ⟨o, e⟩ := (F.F.zb C z).2; rw [hC] at e; cases e
        · exact absurd z.symm hDC) fun b hb => by
          rw [List.mem_singleton.mp hb]
          exact ⟨F.k0.none hC, .inr (.inr rfl), hCM⟩
      have st : Step S M s { s' with heap := h'' } := (L.step.trans (Z := M) st' fun a z => z.elim .inl fun q => q.elim).turn (wr := [C]) hx (fun b hb => by rw [List.mem_singleton.mp hb]; exact I.keep.none hC) (fun b hb => .inl (by rw [List.mem_singleton.mp hb]; exact hC)) (Inv.turn (wr := [C]) st'.inv hx fun b hb => by rw [List.mem_singleton.mp hb]; exact I.keep.none hC)
      exact p _ _ _ F4 (fun a z => z.elim .inl fun q => .inr (q ▸ hD)) (fun a z => z.elim .inl fun q => .inr (q ▸ hD)) (fun _ z _ _ => .inl z) st
theorem Ex.asgZip {elt : Expr} {x y zid nm : Str} {px py tp zp ipos pn spos : Pos} {kk0 : Nat} {args : List Expr} {scope : Scope} {pos : Pos} {as1 as2 rs : List AV} {rest o}
    (h0 : Ev S n sc c ρ (.Name zid zp) (.val (.type "zip"))) (ha : EvA S n sc c ρ args [] [.lst as1, .lst as2] []) (hlen12 : as1.length = as2.length) (ok : CompOk scope sc x ρ) (okx : scope.names.lookup x = some .local) (oky : scope.names.lookup y = some .local) (hxy : x ≠ y)
    (hel : Paired (fun (p : AV × AV) r => Ev S n (inner scope sc) c ((y, p.2) :: (x, p.1) :: fre scope ρ) elt r) (as1.zip as2) rs) (hlen : rs.length ≤ 1000)
    (hs : ∀ env x, foldedSetIterable (.Call (.Name zid zp) args [] ipos) env x = pure x) (hk : Stores sc nm) (hy : ρ.lookup nm = .none)
    (hsw : ∀ env : Env, env.scope = sc → swapsWith (.ListComp elt [⟨.Tuple [.Name x px, .Name y py] kk0 tp, .Call (.Name zid zp) args [] ipos, [], 0⟩] scope pos) (some (.Name nm pn)) spos.line env = pure true)
    (h2 : Ex S n sc c ((nm, .lst rs) :: ρ) .no rest o) : Ex S n sc c ρ .no (.Assign [.Name nm pn] (.ListComp elt [⟨.Tuple [.Name x px, .Name y py] kk0 tp, .Call (.Name zid zp) args [] ipos, [], 0⟩] scope pos) spos :: rest) o :=
  Ex.step (St.compU (fun R ei F I k => zip_run h0 ha hlen12 ok okx oky hxy hel hlen hs R ei F I k) hk hy hsw) (Ex.freeze hlen h2)
theorem Ex.asgCopy {o : Expr} {name : Str} {apos cpos x px pos l rest out} {pl : Env → Sem Bool} (hname : name = "copy") (h1 : Ev S n sc c ρ o (.lst l))
    (he : ∀ env, eval (.Call (.Attribute o name apos) [] [] cpos) env = (do
      let ov ← eval o env
      standAt apos.atName
      let (f, first) ← holding [ov] (getMethod ov name (pl env))
      callWith cpos f first [] [])) (hk : Stores sc x) (hx : ρ.lookup x = .none)
    (hs : ∀ env : Env, env.scope = sc → swapsWith (.Call (.Attribute o name apos) [] [] cpos) (some (.Name x px)) pos.line env = pure false) (h2 : Ex S n sc c ρ (.lst x l) rest out) :
    Ex S n sc c ρ .no (.Assign [.Name x px] (.Call (.Attribute o name apos) [] [] cpos) pos :: rest) out := by
  subst hname
  exact Ex.step (St.assignF (EvF.copy h1 he) hk hx hs) h2
theorem LoopW.doneQ {test body r w v} (h : EvT S n sc c r test v) (hv : v = false) : LoopW S n sc c test body 0 r w (.next r w) := by subst hv; exact LoopW.done r w h
theorem LoopW.nextQ {test body k r w r' w' o v} (h : EvT S n sc c r test v) (hv : v = true) (h2 : Ex S n sc c r w body (.next r' w')) (h3 : LoopW S n sc c test body k r' w' o) : LoopW S n sc c test body (k + 1) r w o := by subst hv; exact LoopW.next k r w r' w' o h h2 h3
theorem neg_red (a q : Int) : (-(a % q)) % q = (-a) % q := cg_neg cg_red
theorem UnSem.not {b} : UnSem S n .Not (.bool b) (.bool (!b)) := fun A Z s v R I B hv Q E k => by
  cases hv
  exact wpAny_holding (wpAny_bind (wpAny_truthy_bool (wpAny_pure (k _ _ (Later.refl I) (.bool _)))))
theorem CallSem.lenTup {l} : CallSem S n (.val (.builtin "len")) [.tup l] [] (.int l.length) :=
  fun A Z s v vs kvs R I B hv hvs hk hkv Q E h => by
    cases hv
    obtain ⟨u, rfl, hu⟩ := vals_one hvs
    cases nil_of hk
    obtain ⟨a, ws, kk, rfl, hz, hg, hws, hb⟩ := tup_sub hu
    have e : ws.toArray.size = l.length := by simp [hws.1]
    refine PySem.P.len_tuple hg (by rw [e]; omega) (h _ _ (Later.tok I _) ?_)
    rw [e]; exact .int _ _
theorem ints_of {rs : List AV} {bs : List Int} (h : Paired (fun r b => r = AV.int b) rs bs) : rs = bs.map AV.int := by
  induction h with
  | nil => rfl
  | cons h _ ih => rw [h, ih]; rfl
theorem Ev.lenSetQ {lid sid lp sp e pos1 pos2} {as : List AV} {ns : List Int} (h0 : Ev S n sc c ρ (.Name lid lp) (.val (.builtin "len"))) (h1 : Ev S n sc c ρ (.Name sid sp) (.val (.type "set"))) (h : Ev S n sc c ρ e (.lst as)) (hp : Paired (fun r b => r = AV.int b) as ns)
    (he : ∀ env, starEach [e] env = [(false, eval e env)]) (he2 : ∀ env, starEach [.Call (.Name sid sp) [e] [] pos2] env = [(false, eval (.Call (.Name sid sp) [e] [] pos2) env)]) :
    Ev S n sc c ρ (.Call (.Name lid lp) [.Call (.Name sid sp) [e] [] pos2] [] pos1) (.int (distinct ns)) := by
  have := ints_of hp
  subst this
  exact Ev.lenSet h0 h1 h he he2
theorem Ex.unpack2 {x y : Str} {p1 p2 k tpos value pos a b rest o} (h : Ev S n sc c ρ value (.tup [a, b])) (hx : Stores sc x) (hx2 : ow.name? ≠ some x) (hy : Stores sc y) (hy2 : ow.name? ≠ some y)
    (hs : ∀ env : Env, env.scope = sc → swapsWithSole [.Tuple [.Name x p1, .Name y p2] k tpos] value pos.line env = pure false)
    (hw : ∀ env : Env, env.scope = sc → swappedStores [.Tuple [.Name x p1, .Name y p2] k tpos] value env = pure none)
    (h2 : Ex S n sc c ((y, b) :: (x, a) :: ρ) ow rest o) : Ex S n sc c ρ ow (.Assign [.Tuple [.Name x p1, .Name y p2] k tpos] value pos :: rest) o :=
  Ex.step (St.unpack (xs := [x, y]) (ps := [p1, p2]) h rfl rfl (by intro z hz; simp only [List.mem_cons, List.not_mem_nil, or_false] at hz; rcases hz with rfl | rfl <;> exact ⟨by assumption, by assumption⟩) hs hw (fun env => rfl)) h2
theorem FnSem.ofE {r0 : AV} {f o fd cd body as kas bs r} (K : FnOk S f o fd sc cd body) (hb : Binds S fd as kas bs) (hnm : (bs.all fun p => sc.names.lookup p.1 == some .local || sc.names.lookup p.1 == some .cell) = true) (hnd : (bs.map (·.1)).Nodup)
    (hx : Ex S n sc cd bs .no body (.ret r0)) (e : r0 = r) : FnSem S (n + 1) f as kas r := e ▸ FnSem.of K hb hnm hnd hx
theorem EvO.lendInt {x l e a} (hl : l.length ≤ 1000) (h : Ev S n sc c ((x, .lst l) :: ρ) e (.int a)) : EvO S n sc c ρ (.lst x l) e (.int a) :=
  fun A env Y h₀ Z M s R ei F I Q E k => by
    obtain ⟨d, _, F'⟩ := F.lend hl
    exact h A env _ s R ei F' I Q E fun v s' L hv => k v s' L (by cases hv; exact .int _ _)
theorem Ex.aug {x l px i spos op e pos a b r k rest o} (hx : (x == ("__debug__" : Str)) = false) (hx2 : (x == ("__classdict__" : Str)) = false) (h2 : Ev S n sc c ρ i (.int k)) (h0 : 0 ≤ k) (ha : l[k.toNat]? = some a) (h : Ev S n sc c ρ e b) (h3 : InpSem S n op a b r) (hl : l.length ≤ 1000)
    (hi : ∀ ov iv new, augStore i ov iv new = (do holding [new, ov, iv] (PySem.setItem ov iv new); release [new, ov, iv] []; pure .next)) (hr : Ex S n sc c ρ (.lst x (l.set k.toNat r)) rest o) : Ex S n sc c ρ (.lst x l) (.AugAssign (.Subscript (.Name x px) i spos) op e pos :: rest) o := Ex.step (St.augItem hx hx2 h2 h0 ha h h3 hl hi) hr
theorem Ex.retO {x l e pos rest a} (hl : l.length ≤ 1000) (h : Ev S n sc c ((x, .lst l) :: ρ) e a) : Ex S n sc c ρ (.lst x l) (.Return (some e) pos :: rest) (.ret a) := Ex.freeze hl (Ex.stop (St.ret h))
theorem Ex.setI {x l px i spos e pos a k rest o} (hx : (x == ("__debug__" : Str)) = false) (hx2 : (x == ("__classdict__" : Str)) = false) (h : Ev S n sc c ((x, .lst l) :: ρ) e (.int a)) (h2 : Ev S n sc c ρ i (.int k)) (h0 : 0 ≤ k) (hn : k < l.length) (hl : l.length ≤ 1000)
    (hs : ∀ env : Env, env.scope = sc → swapsWith e (some (.Subscript (.Name x px) i spos)) pos.line env = pure false) (hr : Ex S n sc c ρ (.lst x (l.set k.toNat (.int a))) rest o) : Ex S n sc c ρ (.lst x l) (.Assign [.Subscript (.Name x px) i spos] e pos :: rest) o := Ex.step (St.setItem hx hx2 (EvO.lendInt hl h) h2 h0 hn hl hs) hr
theorem Ex.condT {v b e o} (hv : v = true) (h : Ex S n sc c ρ ow b o) : Ex S n sc c ρ ow (bif v then b else e) o := by subst hv; exact h
theorem Ex.condF {v b e o} (hv : v = false) (h : Ex S n sc c ρ ow e o) : Ex S n sc c ρ ow (bif v then b else e) o := by subst hv; exact h
theorem Ev.condT {v b e a} (hv : v = true) (h : Ev S n sc c ρ b a) : Ev S n sc c ρ (bif v then b else e) a := by subst hv; exact h
theorem Ev.condF {v b e a} (hv : v = false) (h : Ev S n sc c ρ e a) : Ev S n sc c ρ (bif v then b else e) a := by subst hv; exact h
theorem Ex.ifLast {t b e pos a v} (h1 : EvT S n sc c ρ t v) (h2 : Ex S n sc c ρ ow (bif v then b else e) (.ret a)) : Ex S n sc c ρ ow [.If t b e pos] (.ret a) := Ex.stop (St.ifB h1 h2)
theorem Ex.ifStop {t b e pos a v rest} (h1 : EvT S n sc c ρ t v) (h2 : Ex S n sc c ρ ow (bif v then b else e) (.ret a)) : Ex S n sc c ρ ow (.If t b e pos :: rest) (.ret a) := Ex.stop (St.ifB h1 h2)
theorem Ex.ifNext {t b e pos o v rest ρ' ow'} (h1 : EvT S n sc c ρ t v) (h2 : Ex S n sc c ρ ow (bif v then b else e) (.next ρ' ow')) (h3 : Ex S n sc c ρ' ow' rest o) : Ex S n sc c ρ ow (.If t b e pos :: rest) o := Ex.step (St.ifB h1 h2) h3
theorem Ex.skipRaise {t p q x pos o v rest} (h1 : EvT S n sc c ρ t v) (hv : v = false) (h3 : Ex S n sc c ρ ow rest o) : Ex S n sc c ρ ow (.If t [.Raise p q x] [] pos :: rest) o := by
  subst hv; exact Ex.step (St.if_f h1 Ex.nil) h3
theorem Ex.skipRet {t p q pos o v rest} (h1 : EvT S n sc c ρ t v) (hv : v = false) (h3 : Ex S n sc c ρ ow rest o) : Ex S n sc c ρ ow (.If t [.Return p q] [] pos :: rest) o := by
  subst hv; exact Ex.step (St.if_f h1 Ex.nil) h3
theorem Ex.asg {x pos' e pos a rest o} (h : Ev S n sc c ρ e a) (hk : Stores sc x) (hne : ow.name? ≠ some x)
    (hs : ∀ env : Env, env.scope = sc → swapsWith e (some (.Name x pos')) pos.line env = pure false) (h2 : Ex S n sc c ((x, a) :: ρ) ow rest o) : Ex S n sc c ρ ow (.Assign [.Name x pos'] e pos :: rest) o := Ex.step (St.assign h hk hne hs) h2
theorem Ex.asgComp {elt iter : Expr} {x y : Str} {px py : Pos} {scope : Scope} {pos spos : Pos} {as rs : List AV} {rest o} (h1 : EvI S n sc c ρ iter as) (ok : CompOk scope sc x ρ) (hel : Paired (fun a r => Ev S n (inner scope sc) c ((x, a) :: fre scope ρ) elt r) as rs)
    (hk : Stores sc y) (hy : ρ.lookup y = .none) (hsw : ∀ env : Env, env.scope = sc → swapsWith (.ListComp elt [⟨.Name x px, iter, [], 0⟩] scope pos) (some (.Name y py)) spos.line env = pure true) (hlen : rs.length ≤ 1000)
    (hs : ∀ env x, foldedSetIterable iter env x = pure x) (h2 : Ex S n sc c ((y, .lst rs) :: ρ) .no rest o) : Ex S n sc c ρ .no (.Assign [.Name y py] (.ListComp elt [⟨.Name x px, iter, [], 0⟩] scope pos) spos :: rest) o :=
  Ex.step (St.compF h1 ok hel hk hy hsw hlen hs) (Ex.freeze hlen h2)
theorem Ex.assertQ {t m pos rest o v} (h1 : EvT S n sc c ρ t v) (hv : v = true) (h2 : Ex S n sc c ρ ow rest o) : Ex S n sc c ρ ow (.Assert t m pos :: rest) o := by
  subst hv; exact Ex.step (St.assert h1) h2
theorem Ex.forQ {x px iter body pos as ρ' ow' rest o} (h1 : EvI S n sc c ρ iter as) (hk : Stores sc x) (hs : ∀ env x, foldedSetIterable iter env x = pure x) (hl : Loop S n sc c x body ρ ow as (.next ρ' ow')) (h2 : Ex S n sc c ρ' ow' rest o) :
    Ex S n sc c ρ ow (.For (.Name x px) iter body [] pos :: rest) o := Ex.step (St.for_ h1 hl hk hs) h2
theorem Loop.nextQ {x body} {r : Rho} {w : Own} {a : AV} {as : List AV} {r' w' o} (hw : w.name? ≠ some x) (h1 : Ex S n sc c ((x, a) :: r) w body (.next r' w')) (h2 : Loop S n sc c x body r' w' as o) : Loop S n sc c x body r w (a :: as) o := Loop.next r w a as r' w' o hw h1 h2
theorem Ex.while1 {test body pos k ρ' ow' rest o} (hl : LoopW S n sc c test body k ρ ow (.next ρ' ow')) (h2 : Ex S n sc c ρ' ow' rest o) : Ex S n sc c ρ ow (.While test body [] pos :: rest) o := Ex.step (St.while_ hl) h2
theorem bools_of {rs : List AV} {bs : List Bool} (h : Paired (fun r b => r = AV.bool b) rs bs) : rs = bs.map AV.bool := by
  induction h with
  | nil => rfl
  | cons h _ ih => rw [h, ih]; rfl
theorem Ev.allGen {id p gpos pos} {elt iter : Expr} {x : Str} {px : Pos} {scope : Scope} {as rs : List AV} {bs : List Bool} {P0 : Addr} (h0 : Ev S (n + 2) sc c ρ (.Name id p) (.val (.builtin "all"))) (hP : (c, P0) ∈ S.tabs) (hc0 : c ≠ (0 : Nat)) (h1 : EvI S (n + 2) sc c ρ iter as) (ok : GenOk scope sc x ρ)
    (hel : Paired (fun a r => Ev S n scope 0 ((x, a) :: fre scope ρ) elt r) as rs) (hb : Paired (fun r b => r = AV.bool b) rs bs) (hs : ∀ env x, genFold iter env x = pure x)
    (he : ∀ env, starEach [.GeneratorExp elt [⟨.Name x px, iter, [], 0⟩] scope gpos] env = [(false, eval (.GeneratorExp elt [⟨.Name x px, iter, [], 0⟩] scope gpos) env)]) : Ev S (n + 2 + 2) sc c ρ (.Call (.Name id p) [.GeneratorExp elt [⟨.Name x px, iter, [], 0⟩] scope gpos] [] pos) (.bool (bs.all (fun b => b))) := by
  have := bools_of hb
  subst this
  exact Ev.all (h0.up (by omega)) (EvG.gen hP hc0 h1 ok hel hs) he
theorem Ev.sumGen {id p gpos pos} {elt iter : Expr} {x : Str} {px : Pos} {scope : Scope} {as rs : List AV} {out : AV} {P0 : Addr} (h0 : Ev S (n + 2) sc c ρ (.Name id p) (.val (.builtin "sum"))) (hP : (c, P0) ∈ S.tabs) (hc0 : c ≠ (0 : Nat)) (h1 : EvI S (n + 2) sc c ρ iter as) (ok : GenOk scope sc x ρ)
    (hel : Paired (fun a r => Ev S n scope 0 ((x, a) :: fre scope ρ) elt r) as rs) (hb : Sums S (n + 2) (.int 0) rs out) (hs : ∀ env x, genFold iter env x = pure x)
    (he : ∀ env, starEach [.GeneratorExp elt [⟨.Name x px, iter, [], 0⟩] scope gpos] env = [(false, eval (.GeneratorExp elt [⟨.Name x px, iter, [], 0⟩] scope gpos) env)]) : Ev S (n + 2 + 2) sc c ρ (.Call (.Name id p) [.GeneratorExp elt [⟨.Name x px, iter, [], 0⟩] scope gpos] [] pos) out :=
  Ev.sumG (h0.up (by omega)) (EvG.gen hP hc0 h1 ok hel hs) hb he
theorem rngQ2 : rng 0 (2 : Int).toNat = [.int 0, .int 1] := rfl
def lit (a m : Int) : List AV := rng a (m - a).toNat
theorem EvI.r1 {id p e1 pos m as} (h1 : Ev S n sc c ρ (.Name id p) (.val (.type "range"))) (ha : EvA S n sc c ρ [e1] [] [.int m] []) (hq : 0 ≤ m ∧ m < 1000) (hr : lit 0 m = as) : EvI S n sc c ρ (.Call (.Name id p) [e1] [] pos) as := by
  have := EvI.range1 (pos := pos) h1 ha hq.1 (by omega)
  subst hr
  unfold lit
  rw [Int.sub_zero]
  exact this
theorem EvI.r2 {id p e1 e2 pos l m as} (h1 : Ev S n sc c ρ (.Name id p) (.val (.type "range"))) (ha : EvA S n sc c ρ [e1, e2] [] [.int l, .int m] []) (hq : 0 ≤ l ∧ l ≤ m ∧ m < 1000) (hr : lit l m = as) : EvI S n sc c ρ (.Call (.Name id p) [e1, e2] [] pos) as := by
  subst hr
  exact EvI.range2 (pos := pos) h1 ha hq.1 hq.2.1 (by omega)
end
section
open PySem PySem.Spec PySem.Calls PyProof.Rows PySem.W
theorem lit_0_0 : lit 0 0 = [] := rfl
theorem lit_0_1 : lit 0 1 = [.int 0] := rfl
theorem lit_0_2 : lit 0 2 = [.int 0, .int 1] := rfl
theorem lit_0_3 : lit 0 3 = [.int 0, .int 1, .int 2] := rfl
theorem lit_1_2 : lit 1 2 = [.int 1] := rfl
theorem lit_1_3 : lit 1 3 = [.int 1, .int 2] := rfl
theorem lit_2_3 : lit 2 3 = [.int 2] := rfl
theorem lit_1_1 : lit 1 1 = [] := rfl
end
section
open PySem PySem.Spec PySem.Calls PyProof.Rows PySem.W
variable {S : Sys} {n : Nat} {sc : Scope} {c : Addr} {ρ : Rho} {ow : Own}
theorem Ex.appendQ {x l px apos e cpos pos a rest o} {pl : Env → Sem Bool} (hx : (x == ("__debug__" : Str)) = false) (hx2 : (x == ("__classdict__" : Str)) = false) (h : Ev S n sc c ρ e a) (hl : l.length ≤ 1000)
    (hi : ∀ env : Env, env.scope = sc → interactive env = false) (hs : ∀ env : Env, env.scope = sc → swapsWith (.Call (.Attribute (.Name x px) "append" apos) [e] [] cpos) none pos.line env = pure false)
    (he : ∀ env, eval (.Call (.Attribute (.Name x px) "append" apos) [e] [] cpos) env = (do
      let ov ← eval (.Name x px) env
      standAt apos.atName
      let (f, first) ← holding [ov] (getMethod ov "append" (pl env))
      callWith cpos f first (backTo cpos (starEach [e] env)) (backToKw cpos (keywordEach [] env))))
    (hst : ∀ env, starEach [e] env = [(false, eval e env)]) (hr : Ex S n sc c ρ (.lst x (l ++ [a])) rest o) : Ex S n sc c ρ (.lst x l) (.Expr (.Call (.Attribute (.Name x px) "append" apos) [e] [] cpos) pos :: rest) o :=
  Ex.step (St.append hx hx2 h.o hl hi hs he hst) hr
theorem Ex.asgNil {x px p pos rest o} (hk : Stores sc x) (hx : ρ.lookup x = .none) (hs : ∀ env : Env, env.scope = sc → swapsWith (.List [] p) (some (.Name x px)) pos.line env = pure false) (hr : Ex S n sc c ρ (.lst x []) rest o) :
    Ex S n sc c ρ .no (.Assign [.Name x px] (.List [] p) pos :: rest) o := Ex.step (St.assignF (EvF.list EvL.nil (by decide)) hk hx hs) hr
theorem BinSem.addQ {i j r : Int} (h : i + j = r) : BinSem S n .Add (.int i) (.int j) (.int r) := h ▸ BinSem.add
theorem BinSem.subQ {i j r : Int} (h : i - j = r) : BinSem S n .Sub (.int i) (.int j) (.int r) := h ▸ BinSem.sub
theorem BinSem.mulQ {i j r : Int} (h0 : IntMulOk i j) (h : i * j = r) : BinSem S n .Mult (.int i) (.int j) (.int r) := h ▸ BinSem.mul h0
theorem BinSem.catQ {l m r : List AV} (hl : l.length + m.length ≤ 1000) (h : l ++ m = r) : BinSem S n .Add (.lst l) (.lst m) (.lst r) := h ▸ BinSem.cat hl
theorem Ev.sliceQ {value lower upper p pos l lo hi r} (h1 : Ev S n sc c ρ value (.lst l)) (h2 : EvPart S n sc c ρ lower lo) (h3 : EvPart S n sc c ρ upper hi) (h : pickI l lo hi = r) :
    Ev S n sc c ρ (.Subscript value (.Slice lower upper Option.none p) pos) (.lst r) := h ▸ Ev.slice h1 h2 h3
theorem CallSem.anyQ {rs : List AV} {bs : List Bool} (h : Paired (fun r b => r = AV.bool b) rs bs) : CallSem S (n + 2) (.val (.builtin "any")) [.lst rs] [] (.bool (bs.any id)) := by
  have := bools_of h; subst this; exact CallSem.any
theorem Sums.step {a b c rs r} (h3 : BinSem S n .Add a b c) (h4 : Sums S n c rs r) (h1 : b.cls?.isSome = true) (h2 : c.cls?.isSome = true) : Sums S n a (b :: rs) r := Sums.inst _ _ _ _ _ h1 h2 h3 h4
theorem pk2_0 {a b : AV} : pickI [a, b] none (some 0) = [] := rfl
theorem pk2_1 {a b : AV} : pickI [a, b] none (some 1) = [a] := rfl
theorem pk2_2 {a b : AV} : pickI [a, b] none (some 2) = [a, b] := rfl
theorem pk2_1' {a b : AV} : pickI [a, b] (some 1) none = [b] := by kernel_rfl
theorem pk2_2' {a b : AV} : pickI [a, b] (some 2) none = [] := by kernel_rfl
theorem pk3_0 {a b c : AV} : pickI [a, b, c] none (some 0) = [] := rfl
theorem pk3_1 {a b c : AV} : pickI [a, b, c] none (some 1) = [a] := rfl
theorem pk3_2 {a b c : AV} : pickI [a, b, c] none (some 2) = [a, b] := rfl
theorem pk3_1' {a b c : AV} : pickI [a, b, c] (some 1) none = [b, c] := by kernel_rfl
theorem pk3_2' {a b c : AV} : pickI [a, b, c] (some 2) none = [c] := by kernel_rfl
theorem pk3_3' {a b c : AV} : pickI [a, b, c] (some 3) none = [] := by kernel_rfl
theorem ct0 {l : List AV} : [] ++ l = l := rfl
theorem ct1 {a : AV} {l : List AV} : [a] ++ l = a :: l := rfl
theorem ct2 {a b : AV} {l : List AV} : [a, b] ++ l = a :: b :: l := rfl
theorem ct3 {a b c : AV} {l : List AV} : [a, b, c] ++ l = a :: b :: c :: l := rfl
end
section
open PySem PySem.Spec PySem.Calls PyProof.Rows PySem.W PySem.W.X
/-- an object is either no code table, or one and nothing else -/
def tblOk (o : Obj) : Bool := match o.cls, o.data with
  | .none, .fields _ => o.dict.isNone && o.slots.isEmpty
  | _, _ => true
theorem tblOk_of {o : Obj} (h : tblOk o = true) : notTbl o = true ∨ ∃ ps, o = tbl ps := by
  unfold tblOk at h
  split at h
  · rename_i vs h1 h2
    obtain ⟨c, d, dt, sl⟩ := o
    simp only [Bool.and_eq_true, Option.isNone_iff_eq_none, Array.isEmpty_iff] at h h1 h2
    obtain ⟨rfl, rfl⟩ := h
    subst h1; subst h2
    exact .inr ⟨vs, rfl⟩
  · rename_i h1
    left
    unfold notTbl
    split
    · rename_i vs h2 h3; exact absurd h3 (h1 vs h2)
    · rfl
theorem oldK_of {S : Sys} {h : Heap} (k : Keep S S.h₁ h) (ht : ∀ b o, S.h₁.get? b = some o → tblOk o = true) (htab : ∀ p ∈ S.tabs, TabOk S.h₁ p.1 p.2) : OldK S.h₁ h where
  old := fun b o e => by
    rcases tblOk_of (ht b o e) with q | ⟨ps, rfl⟩
    · exact .inl (k.get b o e q)
    · rcases k.tab b ps e with q | ⟨⟨c, hc⟩, more, q⟩
      · exact .inl q
      · obtain ⟨ps', _, t⟩ := htab _ hc
        exact .inr (.inl ⟨t.isCodeTable, rfl, ps, more, rfl, q⟩)
  there := fun b o e => k.here b o e
theorem vals_ints {Z h} : ∀ {ns : List Int} {vs : List Value}, IntsAre vs ns → Vals Z h vs (ns.map AV.int)
  | _, _, .nil => .nil
  | _, _, .cons n t r => .cons (.int n t) (vals_ints r)
theorem allIn_mem {h : Heap} {K : Frag} (A : AllIn h K) {p} (hp : p ∈ K) : h.get? p.1 = some p.2 := by
  induction K with
  | nil => cases hp
  | cons q K ih =>
    have A' : h.get? q.1 = some q.2 ∧ AllIn h K := A
    rcases List.mem_cons.mp hp with e | hp
    · rw [e]; exact A'.1
    · exact ih A'.2 hp
theorem tab_of {K : Frag} {h : Heap} (A : AllIn h K) {c P : Addr} {o : Obj} {vs : Array Value} {file tf flags tg inF text tt} (h1 : K.lookup c = some o) (hc : o.cls = .type "code") (hd : o.data = .fields vs) (g1 : vs[11]? = some (.ref P)) (g2 : vs[18]? = some (.str file tf))
    (g3 : vs[7]? = some (.int flags tg)) (g4 : vs[9]? = some (.bool inF)) (g5 : vs[10]? = some (.int text tt)) (h2 : K.lookup P = some (tbl #[])) (hne : c ≠ P) : TabOk h c P := by
  have o1 := allIn_mem A (mem_of_klookup h1)
  have o2 := allIn_mem A (mem_of_klookup h2)
  have gd : ∀ (i : Nat) (x : Value), vs[i]? = some x → vs.getD i .none = x := fun i x e => by rw [Array.getD_eq_getD_getElem?, e]; rfl
  exact ⟨#[], ⟨_, vs, file, tf, flags, tg, inF, text, tt, _, o1, hd, gd _ _ g1, gd _ _ g2, gd _ _ g3, gd _ _ g4, gd _ _ g5, o2, rfl, trivial, hne⟩, ⟨⟨_, vs, o1, hc, hd, g1⟩, o2⟩⟩
theorem law_end {S : Sys} {n : Nat} {f : Addr} {ns : List Int} (st : Stat S) (hf : FnSem S n f [.lst (ns.map .int)] [] (.bool true)) (hn : n ≤ 100) {s₁ : Shared} (h1 : s₁.heap = S.h₁) (hos : s₁.os = S.os) (hg : s₁.gens = #[])
    {l : Addr} {vs : List Value} (hL : s₁.heap.get? l = some { cls := .type "list", data := .seq vs.toArray }) (hI : IntsAre vs ns) (hlen : ns.length ≤ 63) (ht : ∀ b o, S.h₁.get? b = some o → tblOk o = true) {Q E : Value → Shared → Prop}
    (k : ∀ s', OldK s₁.heap s'.heap → s'.os = s₁.os → AllBare s'.gens → Q (.bool true) s') : wpAny (model S.prog S.w) callerA (call (.ref f) [.ref l]) Q E s₁ := by
  have I : Inv S s₁ := ⟨st, by rw [h1]; exact st.tabs, by rw [h1]; exact .refl _ _, by rw [hg]; exact AllBare.empty, hos⟩
  have hv := vals_ints (Z := fun _ => False) (h := s₁.heap) hI
  have R : Room n callerA := ⟨rfl, by show 1 + claimMargin + 2 * n + 4 < 1000; unfold claimMargin; omega, by show 4 + 30 * n + 60 < 9900; omega⟩
  have hlv : vs.length = ns.length := by have := hv.1; simpa using this
  refine hf.call callerA (fun _ => False) s₁ (.ref f) [.ref l] [] R I (fun _ z => z.elim) (.val _) (.cons (.lst (n := 0) (fun z => z) hL hv.1 (by omega) hv.2) .nil) rfl .nil _ _ fun v s' L hv' => ?_
  cases hv'
  exact k s' (h1 ▸ oldK_of L.inv.keep ht st.tabs) (L.inv.os.trans hos.symm) L.inv.bare
end
section
open PySem PySem.Spec PySem.Calls PyProof.Rows PySem.W
variable {S : Sys} {n : Nat} {sc : Scope} {c : Addr} {ρ : Rho} {ow : Own}
theorem range_pick {α : Type} (l : List α) : ∀ m, (List.range m).filterMap (l[·]?) = l.take m
  | 0 => rfl
  | m + 1 => by
    rw [List.range_succ, List.filterMap_append, range_pick l m, List.take_add_one]
    congr 1
theorem pick_take {α : Type} (l : List α) (k : Nat) : pickI l none (some (k : Int)) = l.take k := by
  have e : sliceBounds none (some (k : Int)) none l.length = (((0 : Nat) : Int), ((min k l.length : Nat) : Int), 1) := by
    refine Prod.ext ?_ (Prod.ext ?_ ?_)
    · simp [sliceBounds]
    · have h1 : (1 : Int) > 0 := by decide
      have h : ¬ (k : Int) < 0 := by omega
      simp only [sliceBounds, Option.getD_none, h1, if_true, if_neg h]
      omega
    · rfl
  unfold pickI
  rw [e]
  show (sliceRange ((0 : Nat) : Int) ((min k l.length : Nat) : Int) 1).filterMap (l[·]?) = _
  rw [sliceRange_one, Nat.sub_zero]
  have : (List.range (min k l.length)).map (0 + ·) = List.range (min k l.length) := by
    have : (fun x : Nat => 0 + x) = id := by funext x; simp
    rw [this, List.map_id]
  rw [this, range_pick, ← List.take_take, List.take_length]
theorem cons_of {α : Type} {l : List α} {k : Nat} (h : l.length = k + 1) : ∃ x t, l = x :: t ∧ t.length = k := by
  cases l with
  | nil => cases h
  | cons x t => exact ⟨x, t, rfl, by simpa using h⟩
theorem first_of (ns sq : List Int) (k : Nat) (h : k ≤ sq.length) : ∃ xs : List Int, xs.length = k ∧ pickI (ns.map AV.int ++ sq.map AV.int) none (some (k : Int)) = xs.map AV.int := by
  refine ⟨(ns ++ sq).take k, ?_, ?_⟩
  · rw [List.length_take, List.length_append]; omega
  · rw [pick_take, ← List.map_append, List.map_take]
theorem Ex.asgE {α : Type} {f : α → AV} {x pos' e pos rest o} (h : ∃ y, Ev S n sc c ρ e (f y)) (hk : Stores sc x) (hne : ow.name? ≠ some x)
    (hs : ∀ env : Env, env.scope = sc → swapsWith e (some (.Name x pos')) pos.line env = pure false) (h2 : ∀ y, Ex S n sc c ((x, f y) :: ρ) ow rest o) : Ex S n sc c ρ ow (.Assign [.Name x pos'] e pos :: rest) o :=
  let ⟨y, hy⟩ := h; Ex.asg hy hk hne hs (h2 y)
theorem BinSem.powQ {i j r : Int} (hn : 0 ≤ j) (hn2 : j ≤ 1000000) (ha : i.natAbs < 2 ^ 64) (h : i ^ j.toNat = r) : BinSem S n .Pow (.int i) (.int j) (.int r) := h ▸ BinSem.pow hn hn2 ha
theorem Ex.freezeQ {x l l' ss o} (hl : l.length ≤ 1000) (e : l = l') (h : Ex S n sc c ((x, .lst l') :: ρ) .no ss o) : Ex S n sc c ρ (.lst x l) ss o := by subst e; exact Ex.freeze hl h
theorem Ev.castQ {e a b} (h : Ev S n sc c ρ e a) (q : a = b) : Ev S n sc c ρ e b := q ▸ h
theorem ap2 {α : Type} {a b : α} : ([] ++ [a]) ++ [b] = [a, b] := rfl
theorem ap3 {α : Type} {a b c : α} : (([] ++ [a]) ++ [b]) ++ [c] = [a, b, c] := rfl
theorem pw0 : (-1 : Int) ^ (0 : Int).toNat = 1 := rfl
theorem pw1 : (-1 : Int) ^ (1 : Int).toNat = -1 := rfl
theorem pw2 : (-1 : Int) ^ (2 : Int).toNat = 1 := rfl
theorem pw3 : (-1 : Int) ^ (3 : Int).toNat = -1 := rfl
theorem pw4 : (-1 : Int) ^ (4 : Int).toNat = 1 := rfl
theorem pw32 : (2 : Int) ^ (32 : Int).toNat = 4294967296 := rfl
theorem pk4_0 {a b c d : AV} : pickI [a, b, c, d] (some 0) (some 2) = [a, b] := by kernel_rfl
theorem pk4_2 {a b c d : AV} : pickI [a, b, c, d] (some 2) (some 4) = [c, d] := by kernel_rfl
theorem pk9_0 {a b c d e f g h i : AV} : pickI [a, b, c, d, e, f, g, h, i] (some 0) (some 3) = [a, b, c] := by kernel_rfl
theorem pk9_3 {a b c d e f g h i : AV} : pickI [a, b, c, d, e, f, g, h, i] (some 3) (some 6) = [d, e, f] := by kernel_rfl
theorem pk9_6 {a b c d e f g h i : AV} : pickI [a, b, c, d, e, f, g, h, i] (some 6) (some 9) = [g, h, i] := by kernel_rfl
theorem lit_0_4 : lit 0 4 = [.int 0, .int 1, .int 2, .int 3] := rfl
theorem lit_0_9 : lit 0 9 = [.int 0, .int 1, .int 2, .int 3, .int 4, .int 5, .int 6, .int 7, .int 8] := rfl
theorem lit_0_20 : lit 0 20 = [.int 0, .int 1, .int 2, .int 3, .int 4, .int 5, .int 6, .int 7, .int 8, .int 9, .int 10, .int 11, .int 12, .int 13, .int 14, .int 15, .int 16, .int 17, .int 18, .int 19] := rfl
end
section
open PySem PySem.Spec PySem.Calls PyProof.Rows PySem.W
variable {S : Sys} {n : Nat} {sc : Scope} {c : Addr} {ρ : Rho} {ow : Own}
theorem gate {p : Prop} (h : p) : p := h
theorem Ex.ret1 {e pos rest a} (h : Ev S n sc c ρ e a) : Ex S n sc c ρ ow (.Return (some e) pos :: rest) (.ret a) := Ex.stop (St.ret h)
theorem Ex.asgCell {x pos' e pos a rest o} (hk : sc.names.lookup x = some .cell) (h : Ev S n sc c ρ e a) (hne : ow.name? ≠ some x)
    (hs : ∀ env : Env, env.scope = sc → swapsWith e (some (.Name x pos')) pos.line env = pure false) (h2 : Ex S n sc c ((x, a) :: ρ) ow rest o) : Ex S n sc c ρ ow (.Assign [.Name x pos'] e pos :: rest) o := Ex.asg h (.inr hk) hne hs h2
theorem Ev.mcallQ {o name apos args kws pos a fa firsts as as' kas r} {pl : Env → Sem Bool} (h1 : Ev S n sc c ρ o a) (hm : MethSem S n a name fa firsts) (ha : EvA S n sc c ρ args kws as kas) (e : firsts ++ as = as') (hk : KeepsV S fa) (hc : CallSem S n fa as' kas r)
    (he : ∀ env, eval (.Call (.Attribute o name apos) args kws pos) env = (do
      let ov ← eval o env
      standAt apos.atName
      let (f, first) ← holding [ov] (getMethod ov name (pl env))
      callWith pos f first (backTo pos (starEach args env)) (backToKw pos (keywordEach kws env)))) : Ev S n sc c ρ (.Call (.Attribute o name apos) args kws pos) r := Ev.mcall h1 hm ha hk (e ▸ hc) he
theorem UnSem.notF : UnSem S n .Not (.bool false) (.bool true) := UnSem.not
theorem nx {ow : Own} {x : Str} (h : decide (ow.name? ≠ some x) = true) : ow.name? ≠ some x := of_decide_eq_true h
end
local macro_rules | `(tactic| walk_at "mlit") => `(tactic| (first | (simp only [Int.reduceAdd, Int.reduceSub, Int.reduceMul, Int.reduceNeg]; with_reducible exact rfl) | with_reducible exact rfl))
local macro_rules | `(tactic| walk_at "mk") => `(tactic| first | (fail_if_success refine gate ?_) | (walk_at "mk1"; all_goals walk_at "mk"))
local macro_rules | `(tactic| walk_at "mk1") => `(tactic| (first
  | ((with_reducible show Ev _ _ _ _ _ _ _); walk_at "mev")
  | ((with_reducible show EvT _ _ _ _ _ _ _); walk_at "mevt")
  | ((with_reducible show Ex _ _ _ _ _ _ _ _); walk_at "mex")
  | ((with_reducible show BinSem _ _ _ _ _ _); walk_at "mbs")
  | ((with_reducible show EvL _ _ _ _ _ [] _); exact EvL.nil)
  | ((with_reducible show EvL _ _ _ _ _ _ _); refine' EvL.cons _ _ (by (intros; rfl)))
  | ((with_reducible show EvA _ _ _ _ _ [] [] _ _); exact EvA.nil)
  | ((with_reducible show EvA _ _ _ _ _ _ [] _ _); refine' EvA.pos _ (by (intros; rfl)) (by (intros; rfl)))
  | ((with_reducible show EvA _ _ _ _ _ _ _ _ _); refine' EvA.kw1 _ _ (by (intros; rfl)) (by (intros; rfl)))
  | ((with_reducible show EvI _ _ _ _ _ _ _); with_reducible first | refine' EvI.r1 _ _ _ _ | refine' EvI.r2 _ _ _ _ | refine' EvI.lst _)
  | ((with_reducible show Paired _ _ _); first | exact Paired.nil | refine' Paired.cons _ _)
  | ((with_reducible show CallSem _ _ (.val (.type "type")) _ _ _); exact CallSem.typeOf (by rfl))
  | ((with_reducible show CallSem _ _ _ _ _ _); first | walk_at "mcall" | (with_reducible first | exact CallSem.len | exact CallSem.lenTup | exact CallSem.isList | exact CallSem.isTuple | exact CallSem.isInt | exact CallSem.listInt | exact CallSem.abs | refine' CallSem.sum _ | refine' CallSem.anyQ _) | walk_at "mbin")
  | ((with_reducible show MethSem _ _ _ _ _ _); walk_at "mmeth")
  | ((with_reducible show KeepsV _ _); first | (with_reducible first | exact KeepsV.builtin | exact KeepsV.type) | walk_at "mfact" | exact KeepsV.inst (by rfl))
  | ((with_reducible show SubSem _ _ _ _ _); first | exact SubSem.list rfl | exact SubSem.tup (by decide) rfl | walk_at "mbin")
  | ((with_reducible show UnSem _ _ _ _ _); first | (with_reducible first | exact UnSem.neg | exact UnSem.notF | exact UnSem.notT | exact UnSem.not) | walk_at "mbin")
  | ((with_reducible show CmpSem _ _ _ _ _ _); first | (with_reducible first | exact CmpSem.eq | exact CmpSem.ne | exact CmpSem.lt | exact CmpSem.gt) | walk_at "mbin")
  | ((with_reducible show Sums _ _ _ _ _); first | exact Sums.nil _ | refine' Sums.step _ _ _ _)
  | ((with_reducible show EvPart _ _ _ _ _ _ _); first | exact EvPart.none | refine' EvPart.some _)
  | ((with_reducible show Loop _ _ _ _ _ _ _ _ _ _); first | exact Loop.nil _ _ | refine' Loop.nextQ (nx (by kernel_rfl)) _ _)
  | walk_at "mmisc"
  | fail "walk: no rule"))
local macro_rules | `(tactic| walk_at "mev") => `(tactic| (first
  | ((with_reducible show Ev _ _ _ _ _ (.Name _ _) _); first | exact Ev.name rfl (by kernel_rfl) (by kernel_rfl) | walk_at "mname")
  | ((with_reducible show Ev _ _ _ _ _ (.Constant _ _ _) _); with_reducible first | exact Ev.int | exact Ev.none | exact Ev.bool)
  | ((with_reducible show Ev _ _ _ _ _ (.BinOp _ _ _ _) _); refine' Ev.binop _ _ _)
  | ((with_reducible show Ev _ _ _ _ _ (.Attribute _ _ _) _); refine' Ev.attr _ _ _ _ _ (by (intros; rfl)))
  | ((with_reducible show Ev _ _ _ _ _ (.Subscript _ (.Slice _ _ _ _) _) _); refine' Ev.sliceQ _ _ _ _)
  | ((with_reducible show Ev _ _ _ _ _ (.Subscript _ _ _) _); refine' Ev.sub' _ _ _ (by (intro b _ _; cases b <;> rfl)))
  | ((with_reducible show Ev _ _ _ _ _ (.Call (.Attribute _ _ _) _ _ _) _); refine' Ev.mcallQ _ _ _ _ _ _ (by (intros; rfl)))
  | ((with_reducible show Ev _ _ _ _ _ (.Call _ [.GeneratorExp _ _ _ _] _ _) _); first
    | (refine' Ev.allGen (by exact Ev.builtin rfl (by kernel_rfl) rfl (of_decide_eq_true (by kernel_rfl)) (by kernel_rfl)) (by walk_at "mmem") (of_decide_eq_true (by kernel_rfl)) _ (by exact ⟨rfl, rfl, rfl, rfl, by kernel_rfl, by kernel_rfl⟩) _ _ (by (intros; rfl)) (by (intros; rfl)))
    | (refine' Ev.sumGen (by exact Ev.builtin rfl (by kernel_rfl) rfl (of_decide_eq_true (by kernel_rfl)) (by kernel_rfl)) (by walk_at "mmem") (of_decide_eq_true (by kernel_rfl)) _ (by exact ⟨rfl, rfl, rfl, rfl, by kernel_rfl, by kernel_rfl⟩) _ _ (by (intros; rfl)) (by (intros; rfl))))
  | ((with_reducible show Ev _ _ _ _ _ (.Call (.Name _ _) [.Call _ [.ListComp _ _ _ _] _ _] _ _) _); refine' Ev.lenSetQ (by walk_at "mk") (by walk_at "mk") _ _ (by (intros; rfl)) (by (intros; rfl)))
  | ((with_reducible show Ev _ _ _ _ _ (.Call _ _ _ _) _); refine' Ev.call _ _ _ _)
  | ((with_reducible show Ev _ _ _ _ _ (.UnaryOp _ _ _) _); refine' Ev.unop _ _)
  | ((with_reducible show Ev _ _ _ _ _ (.Compare _ _ _ _) _); refine' Ev.cmp _ _ _ (by with_unfolding_all rfl))
  | ((with_reducible show Ev _ _ _ _ _ (.List _ _) _); refine' Ev.list _ _)
  | ((with_reducible show Ev _ _ _ _ _ (.Tuple _ _ _) _); refine' Ev.tuple _ _)
  | ((with_reducible show Ev _ _ _ _ _ (.ListComp _ _ _ _) _); refine' EvF.ev (EvF.comp _ (by walk_at "mcomp") _ _ (by (intros; rfl))) _)
  | ((with_reducible show Ev _ _ _ _ _ (.IfExp _ _ _ _) _); refine' Ev.ifB _ _)
  | ((with_reducible show Ev _ _ _ _ _ (cond _ _ _) _); first | refine' Ev.condF (by first | assumption | rfl) _ | refine' Ev.condT (by first | assumption | rfl) _)))
local macro_rules | `(tactic| walk_at "mevt") => `(tactic| (first
  | ((with_reducible show EvT _ _ _ _ _ (.Compare _ _ _ _) _); refine' EvT.cmp _ _ _ (by with_unfolding_all rfl))
  | ((with_reducible show EvT _ _ _ _ _ (.UnaryOp .Not _ _) _); refine' EvT.not _)
  | ((with_reducible show EvT _ _ _ _ _ (.BoolOp .Or _ _) _); refine' EvT.orB _ _ _)
  | ((with_reducible show EvT _ _ _ _ _ (.BoolOp .And _ _) _); refine' EvT.andB _ _ _)
  | ((with_reducible show EvT _ _ _ _ _ _ _); refine' EvT.bool _ (by (intros; rfl)))))
local macro_rules | `(tactic| walk_at "mex") => `(tactic| (first
  | ((with_reducible show Ex _ _ _ _ _ _ (.If _ [.Raise _ _ _] _ _ :: _) _); refine' Ex.skipRaise _ _ _)
  | ((with_reducible show Ex _ _ _ _ _ _ (.If _ [.Return _ _] [] _ :: _) (.next _ _)); refine' Ex.skipRet _ _ _)
  | ((with_reducible show Ex _ _ _ _ _ _ [.If _ _ _ _] (.ret _)); refine' Ex.ifLast _ _)
  | ((with_reducible show Ex _ _ _ _ _ _ (.If _ [.Return _ _] [] _ :: _) _); refine' Ex.skipRet _ _ _)
  | ((with_reducible show Ex _ _ _ _ _ _ (.If _ _ _ _ :: _) _); refine' Ex.ifNext _ _ _)
  | ((with_reducible show Ex _ _ _ _ _ _ (cond _ _ _) _); first | refine' Ex.condF (by first | assumption | rfl) _ | refine' Ex.condT (by first | assumption | rfl) _)
  | ((with_reducible show Ex _ _ _ _ _ _ [] _); exact Ex.nil)
  | ((with_reducible show Ex _ _ _ _ _ _ (.Return _ _ :: _) _); with_reducible first | refine' Ex.retO _ _ | refine' Ex.ret1 _)
  | ((with_reducible show Ex _ _ _ _ _ _ (.Assign [.Name _ _] _ _ :: _) _); first
    | refine' Ex.asgCell (by rfl) _ (nx (by kernel_rfl)) (by (intro env h; cases env; cases h; rfl)) _
    | ((with_reducible show Ex _ _ _ _ _ .no (.Assign _ (.ListComp _ [⟨.Name _ _, _, _, _⟩] _ _) _ :: _) _); refine' Ex.asgComp _ (by walk_at "mcomp") _ (by first | exact .inl rfl | exact .inr rfl) (by rfl) (by (intro env h; cases env; cases h; rfl)) _ (by (intros; rfl)) _)
    | ((with_reducible show Ex _ _ _ _ _ .no (.Assign _ (.ListComp _ _ _ _) _ :: _) _); refine' Ex.asgZip _ _ _ _ _ _ _ _ _ _ _ _ _ _)
    | ((with_reducible show Ex _ _ _ _ _ .no (.Assign _ (.List [] _) _ :: _) _); refine' Ex.asgNil (by first | exact .inl rfl | exact .inr rfl) (by rfl) (by (intro env h; cases env; cases h; rfl)) _)
    | ((with_reducible show Ex _ _ _ _ _ .no (.Assign _ (.Call (.Attribute _ _ _) [] [] _) _ :: _) _); refine' Ex.asgCopy (by rfl) _ _ _ _ _ _)
    | refine' Ex.asg _ (by first | exact .inl rfl | exact .inr rfl) (nx (by kernel_rfl)) (by (intro env h; cases env; cases h; rfl)) _)
  | ((with_reducible show Ex _ _ _ _ _ _ (.Assign [.Tuple _ _ _] _ _ :: _) _); refine' Ex.unpack2 _ _ _ _ _ _ _ _)
  | ((with_reducible show Ex _ _ _ _ _ _ (.Assign _ _ _ :: _) _); refine' Ex.setI _ _ _ _ _ _ _ _ _)
  | ((with_reducible show Ex _ _ _ _ _ _ (.AugAssign _ _ _ _ :: _) _); refine' Ex.aug _ _ _ _ _ _ _ _ _ _)
  | ((with_reducible show Ex _ _ _ _ _ _ (.Expr _ _ :: _) _); refine' Ex.appendQ _ _ _ _ _ _ _ _ _)
  | ((with_reducible show Ex _ _ _ _ _ _ (.For _ _ _ _ _ :: _) _); refine' Ex.forQ _ (by first | exact .inl rfl | exact .inr rfl) (by (intros; rfl)) _ _)
  | ((with_reducible show Ex _ _ _ _ _ _ (.While _ _ _ _ :: _) _); refine' Ex.while1 _ _)
  | ((with_reducible show Ex _ _ _ _ _ _ (.Assert _ _ _ :: _) _); refine' Ex.assertQ _ _ _)))
local macro_rules | `(tactic| walk_at "mbs") => `(tactic| (first
  | ((with_reducible show BinSem _ _ .Add (.int _) (.int _) _); exact BinSem.addQ (by walk_at "mlit"))
  | ((with_reducible show BinSem _ _ .Sub (.int _) (.int _) _); exact BinSem.subQ (by walk_at "mlit"))
  | ((with_reducible show BinSem _ _ .Mod (.int _) (.int _) _); exact BinSem.mod (by first | assumption | decide))
  | ((with_reducible show BinSem _ _ .FloorDiv (.int _) (.int _) _); exact BinSem.floordiv (by decide) (by rfl))
  | ((with_reducible show BinSem _ _ .Pow (.int _) (.int _) _); refine' BinSem.powQ (of_decide_eq_true (by kernel_rfl)) (of_decide_eq_true (by kernel_rfl)) (of_decide_eq_true (by kernel_rfl)) _)
  | ((with_reducible show BinSem _ _ .Mult (.int (_ % _)) (.int _) _); exact BinSem.mul (mulOk (by assumption) (by assumption)))
  | ((with_reducible show BinSem _ _ .Mult (.int _) (.int _) _); exact BinSem.mulQ (IntMulOk.of_left (intBits_le (by decide))) (by walk_at "mlit"))
  | ((with_reducible show BinSem _ _ .Add (.lst _) (.lst _) _); refine' BinSem.catQ (of_decide_eq_true (by kernel_rfl)) _)
  | ((with_reducible show BinSem _ _ _ _ _ _); walk_at "mbin")))
local macro_rules | `(tactic| walk_at "mmisc") => `(tactic| (first
  | ((with_reducible show lit _ _ = _); first | exact lit_0_2 | exact lit_0_3 | exact lit_0_1 | exact lit_1_2 | exact lit_1_3 | exact lit_2_3 | exact lit_0_0 | exact lit_1_1 | exact lit_0_4 | exact lit_0_9 | exact lit_0_20)
  | ((with_reducible show pickI _ _ _ = _); with_reducible first | walk_at "mfact" | assumption | exact pk2_0 | exact pk2_1 | exact pk2_2 | exact pk2_1' | exact pk2_2' | exact pk3_0 | exact pk3_1 | exact pk3_2 | exact pk3_1' | exact pk3_2' | exact pk3_3' | exact pk4_0 | exact pk4_2 | exact pk9_0 | exact pk9_3 | exact pk9_6)
  | ((with_reducible show _ ++ _ = _); with_reducible first | exact ct0 | exact ct1 | exact ct2 | exact ct3)
  | ((with_reducible show (_ : Int) = _); with_reducible first | exact pw0 | exact pw1 | exact pw2 | exact pw3 | exact pw4 | exact pw32)
  | ((with_reducible show AV.cls? _ = _); rfl)
  | ((with_reducible show ownGet _ _ _ = true); walk_at "mfact")
  | ((with_reducible show ∀ (i : String), _ ≠ AV.val (.builtin i)); (intro i q; cases q))
  | ((with_reducible show (_ : Option AV) = _); rfl)
  | ((with_reducible show _ ≤ _); exact of_decide_eq_true (by kernel_rfl))
  | ((with_reducible show 0 ≤ _ ∧ _); exact of_decide_eq_true (by kernel_rfl))
  | ((with_reducible show _ < _); exact of_decide_eq_true (by kernel_rfl))
  | ((with_reducible show (_ : Bool) = _); first | assumption | rfl)
  | ((with_reducible show (_ : AV) = _); rfl)
  | ((with_reducible show (_ : Nat) = _); rfl)
  | ((with_reducible show CompOk _ _ _ _); walk_at "mcomp")
  | ((with_reducible show Stores _ _); first | exact .inl rfl | exact .inr rfl)
  | ((with_reducible show InpSem _ _ _ _ _ _); first | exact InpSem.add | exact InpSem.sub)
  | ((with_reducible show (_ : Option NameKind) = _); rfl)
  | ((with_reducible show (_ : Option Str) ≠ _); exact of_decide_eq_true (by kernel_rfl))
  | ((with_reducible show (_ : Str) ≠ _); exact of_decide_eq_true (by kernel_rfl))
  | ((with_reducible show _ = true → EvT _ _ _ _ _ _ _); first | (intro h; exact absurd h (by decide)) | intro _)
  | ((with_reducible show _ = false → EvT _ _ _ _ _ _ _); first | (intro h; exact absurd h (by decide)) | intro _)
  | ((with_reducible show ∀ (env : Env), env.scope = _ → _); (intro env h; cases env; cases h; rfl))
  | ((with_reducible show ∀ (env : Env), _); (intros; rfl))
  | ((with_reducible show ∀ (_ : Value) (_ : Value) (_ : Value), _); (intros; rfl))))
local macro_rules | `(tactic| walk_at "mcomp") => `(tactic| first | exact ⟨rfl, rfl, .inl rfl, by kernel_rfl, by kernel_rfl⟩ | exact ⟨rfl, rfl, .inr rfl, by kernel_rfl, by kernel_rfl⟩)
local macro_rules | `(tactic| walk_at "mmem") => `(tactic| repeat (first | exact List.Mem.head _ | apply List.Mem.tail))
local macro_rules | `(tactic| walk_at "mbin") => `(tactic| (with_reducible first | assumption | exact CmpSem.selfNe (by kernel_rfl) (by kernel_rfl) | exact CallSem.up (by assumption) (by decide) | exact FnSem.call (FnSem.up (by assumption) (by decide)) | fail "no such operation"))
section
open PySem PySem.Spec PySem.Calls PyProof.Rows PySem.W
noncomputable def KK (p : Params) : Frag := Hd.frS p
noncomputable abbrev sys (w : World) (h₁ : Heap) (os : OsState) (mg mb : Str → Option Value) : Sys := ⟨PySem.Challenge.rw_ay0010_01.row.prog, w, KK w.params, h₁, os, [(252, 248), (124, 122), (175, 171)], mg, mb⟩
noncomputable abbrev rngV (q n : Int) : AV := .inst 228 [(Hd.s84, .int n), (Hd.s147, .int q)]
noncomputable abbrev polV (q n : Int) (l : List AV) : AV := .inst 391 [(Hd.s177, .lst l), (Hd.s46, rngV q n)]
noncomputable abbrev pol0 (q n : Int) : AV := .inst 391 [(Hd.s46, rngV q n)]
noncomputable abbrev P2 (q x y : Int) : AV := polV q 2 [.int (x % q), .int (y % q)]
noncomputable abbrev P3 (q x y z : Int) : AV := polV q 3 [.int (x % q), .int (y % q), .int (z % q)]
section
variable {w : World} {h₁ : Heap} {os : OsState} {mg mb : Str → Option Value}
theorem ev_MatrixGeneric {n sc c ρ pos} (hk : sc.names.lookup Hd.s14 = some .globalImplicit) : Ev (sys w h₁ os mg mb) n sc c ρ (.Name Hd.s14 pos) (.val (.ref 142)) := Ev.globR hk (by kernel_rfl) (by kernel_rfl)
theorem ev_ModuleGeneric {n sc c ρ pos} (hk : sc.names.lookup Hd.s15 = some .globalImplicit) : Ev (sys w h₁ os mg mb) n sc c ρ (.Name Hd.s15 pos) (.val (.ref 179)) := Ev.globR hk (by kernel_rfl) (by kernel_rfl)
theorem ev_PolynomialRingGeneric {n sc c ρ pos} (hk : sc.names.lookup Hd.s16 = some .globalImplicit) : Ev (sys w h₁ os mg mb) n sc c ρ (.Name Hd.s16 pos) (.val (.ref 228)) := Ev.globR hk (by kernel_rfl) (by kernel_rfl)
theorem ev_PolynomialGeneric {n sc c ρ pos} (hk : sc.names.lookup Hd.s17 = some .globalImplicit) : Ev (sys w h₁ os mg mb) n sc c ρ (.Name Hd.s17 pos) (.val (.ref 391)) := Ev.globR hk (by kernel_rfl) (by kernel_rfl)
theorem ev__law_det {n sc c ρ pos} (hk : sc.names.lookup Hd.s18 = some .globalImplicit) : Ev (sys w h₁ os mg mb) n sc c ρ (.Name Hd.s18 pos) (.val (.ref 402)) := Ev.globR hk (by kernel_rfl) (by kernel_rfl)
theorem ev_isinstance {n sc c ρ pos} (hk : sc.names.lookup Hd.s75 = some .globalImplicit) : Ev (sys w h₁ os mg mb) n sc c ρ (.Name Hd.s75 pos) (.val (.builtin "isinstance")) := Ev.builtinF hk (by kernel_rfl) (by kernel_rfl) (of_decide_eq_true (by kernel_rfl)) (by kernel_rfl)
theorem ev_len {n sc c ρ pos} (hk : sc.names.lookup Hd.s55 = some .globalImplicit) : Ev (sys w h₁ os mg mb) n sc c ρ (.Name Hd.s55 pos) (.val (.builtin "len")) := Ev.builtinF hk (by kernel_rfl) (by kernel_rfl) (of_decide_eq_true (by kernel_rfl)) (by kernel_rfl)
theorem ev_sum {n sc c ρ pos} (hk : sc.names.lookup Hd.s114 = some .globalImplicit) : Ev (sys w h₁ os mg mb) n sc c ρ (.Name Hd.s114 pos) (.val (.builtin "sum")) := Ev.builtinF hk (by kernel_rfl) (by kernel_rfl) (of_decide_eq_true (by kernel_rfl)) (by kernel_rfl)
theorem ev_any {n sc c ρ pos} (hk : sc.names.lookup Hd.s271 = some .globalImplicit) : Ev (sys w h₁ os mg mb) n sc c ρ (.Name Hd.s271 pos) (.val (.builtin "any")) := Ev.builtinF hk (by kernel_rfl) (by kernel_rfl) (of_decide_eq_true (by kernel_rfl)) (by kernel_rfl)
theorem ev_abs {n sc c ρ pos} (hk : sc.names.lookup Hd.s253 = some .globalImplicit) : Ev (sys w h₁ os mg mb) n sc c ρ (.Name Hd.s253 pos) (.val (.builtin "abs")) := Ev.builtinF hk (by kernel_rfl) (by kernel_rfl) (of_decide_eq_true (by kernel_rfl)) (by kernel_rfl)
theorem ev_range {n sc c ρ pos} (hk : sc.names.lookup Hd.s89 = some .globalImplicit) : Ev (sys w h₁ os mg mb) n sc c ρ (.Name Hd.s89 pos) (.val (.type "range")) := Ev.builtinT hk (by kernel_rfl) (by kernel_rfl) (of_decide_eq_true (by kernel_rfl)) (by kernel_rfl)
theorem ev_zip {n sc c ρ pos} (hk : sc.names.lookup Hd.s80 = some .globalImplicit) : Ev (sys w h₁ os mg mb) n sc c ρ (.Name Hd.s80 pos) (.val (.type "zip")) := Ev.builtinT hk (by kernel_rfl) (by kernel_rfl) (of_decide_eq_true (by kernel_rfl)) (by kernel_rfl)
theorem ev_list {n sc c ρ pos} (hk : sc.names.lookup Hd.s137 = some .globalImplicit) : Ev (sys w h₁ os mg mb) n sc c ρ (.Name Hd.s137 pos) (.val (.type "list")) := Ev.builtinT hk (by kernel_rfl) (by kernel_rfl) (of_decide_eq_true (by kernel_rfl)) (by kernel_rfl)
theorem ev_int {n sc c ρ pos} (hk : sc.names.lookup Hd.s156 = some .globalImplicit) : Ev (sys w h₁ os mg mb) n sc c ρ (.Name Hd.s156 pos) (.val (.type "int")) := Ev.builtinT hk (by kernel_rfl) (by kernel_rfl) (of_decide_eq_true (by kernel_rfl)) (by kernel_rfl)
theorem ev_tuple {n sc c ρ pos} (hk : sc.names.lookup Hd.s76 = some .globalImplicit) : Ev (sys w h₁ os mg mb) n sc c ρ (.Name Hd.s76 pos) (.val (.type "tuple")) := Ev.builtinT hk (by kernel_rfl) (by kernel_rfl) (of_decide_eq_true (by kernel_rfl)) (by kernel_rfl)
theorem ev_set {n sc c ρ pos} (hk : sc.names.lookup Hd.s56 = some .globalImplicit) : Ev (sys w h₁ os mg mb) n sc c ρ (.Name Hd.s56 pos) (.val (.type "set")) := Ev.builtinT hk (by kernel_rfl) (by kernel_rfl) (of_decide_eq_true (by kernel_rfl)) (by kernel_rfl)
theorem ev_type {n sc c ρ pos} (hk : sc.names.lookup Hd.s210 = some .globalImplicit) : Ev (sys w h₁ os mg mb) n sc c ρ (.Name Hd.s210 pos) (.val (.type "type")) := Ev.builtinT hk (by kernel_rfl) (by kernel_rfl) (of_decide_eq_true (by kernel_rfl)) (by kernel_rfl)
theorem me_Mat_check_dimensions {n a fs} (ha : AV.cls? a = some (142, fs)) (hl : fs.lookup Hd.s27 = .none) : MethSem (sys w h₁ os mg mb) n a Hd.s27 (.val (.ref 41)) [a] := MethSem.fnQ ha hl (by kernel_rfl) (by kernel_rfl) (by kernel_rfl)
theorem me_Matdim {n a fs} (ha : AV.cls? a = some (142, fs)) (hl : fs.lookup Hd.s28 = .none) : MethSem (sys w h₁ os mg mb) n a Hd.s28 (.val (.ref 48)) [a] := MethSem.fnQ ha hl (by kernel_rfl) (by kernel_rfl) (by kernel_rfl)
theorem me_Mattranspose {n a fs} (ha : AV.cls? a = some (142, fs)) (hl : fs.lookup Hd.s29 = .none) : MethSem (sys w h₁ os mg mb) n a Hd.s29 (.val (.ref 55)) [a] := MethSem.fnQ ha hl (by kernel_rfl) (by kernel_rfl) (by kernel_rfl)
theorem me_Modmatrix_of {n a fs} (ha : AV.cls? a = some (179, fs)) (hl : fs.lookup Hd.s126 = .none) : MethSem (sys w h₁ os mg mb) n a Hd.s126 (.val (.ref 168)) [a] := MethSem.fnQ ha hl (by kernel_rfl) (by kernel_rfl) (by kernel_rfl)
theorem me_Rnggen {n a fs} (ha : AV.cls? a = some (228, fs)) (hl : fs.lookup Hd.s146 = .none) : MethSem (sys w h₁ os mg mb) n a Hd.s146 (.val (.ref 211)) [a] := MethSem.fnQ ha hl (by kernel_rfl) (by kernel_rfl) (by kernel_rfl)
theorem me_Rngis_element {n a fs} (ha : AV.cls? a = some (228, fs)) (hl : fs.lookup Hd.s139 = .none) : MethSem (sys w h₁ os mg mb) n a Hd.s139 (.val (.ref 225)) [a] := MethSem.fnQ ha hl (by kernel_rfl) (by kernel_rfl) (by kernel_rfl)
theorem me_Polis_zero {n a fs} (ha : AV.cls? a = some (391, fs)) (hl : fs.lookup Hd.s162 = .none) : MethSem (sys w h₁ os mg mb) n a Hd.s162 (.val (.ref 253)) [a] := MethSem.fnQ ha hl (by kernel_rfl) (by kernel_rfl) (by kernel_rfl)
theorem me_Pol_parse_coefficients {n a fs} (ha : AV.cls? a = some (391, fs)) (hl : fs.lookup Hd.s164 = .none) : MethSem (sys w h₁ os mg mb) n a Hd.s164 (.val (.ref 265)) [a] := MethSem.fnQ ha hl (by kernel_rfl) (by kernel_rfl) (by kernel_rfl)
theorem me_Pol_add_mod_q {n a fs} (ha : AV.cls? a = some (391, fs)) (hl : fs.lookup Hd.s165 = .none) : MethSem (sys w h₁ os mg mb) n a Hd.s165 (.val (.ref 279)) [a] := MethSem.fnQ ha hl (by kernel_rfl) (by kernel_rfl) (by kernel_rfl)
theorem me_Pol_sub_mod_q {n a fs} (ha : AV.cls? a = some (391, fs)) (hl : fs.lookup Hd.s166 = .none) : MethSem (sys w h₁ os mg mb) n a Hd.s166 (.val (.ref 286)) [a] := MethSem.fnQ ha hl (by kernel_rfl) (by kernel_rfl) (by kernel_rfl)
theorem me_Pol_schoolbook_multiplication {n a fs} (ha : AV.cls? a = some (391, fs)) (hl : fs.lookup Hd.s167 = .none) : MethSem (sys w h₁ os mg mb) n a Hd.s167 (.val (.ref 291)) [a] := MethSem.fnQ ha hl (by kernel_rfl) (by kernel_rfl) (by kernel_rfl)
theorem me_Pol_add_ {n a fs} (ha : AV.cls? a = some (391, fs)) (hl : fs.lookup Hd.s168 = .none) : MethSem (sys w h₁ os mg mb) n a Hd.s168 (.val (.ref 301)) [a] := MethSem.fnQ ha hl (by kernel_rfl) (by kernel_rfl) (by kernel_rfl)
theorem me_Pol_sub_ {n a fs} (ha : AV.cls? a = some (391, fs)) (hl : fs.lookup Hd.s170 = .none) : MethSem (sys w h₁ os mg mb) n a Hd.s170 (.val (.ref 327)) [a] := MethSem.fnQ ha hl (by kernel_rfl) (by kernel_rfl) (by kernel_rfl)
theorem me_Pol__add__ {n a fs} (ha : AV.cls? a = some (391, fs)) (hl : fs.lookup Hd.s37 = .none) : MethSem (sys w h₁ os mg mb) n a Hd.s37 (.val (.ref 308)) [a] := MethSem.fnQ ha hl (by kernel_rfl) (by kernel_rfl) (by kernel_rfl)
theorem me_Pol__mul__ {n a fs} (ha : AV.cls? a = some (391, fs)) (hl : fs.lookup Hd.s172 = .none) : MethSem (sys w h₁ os mg mb) n a Hd.s172 (.val (.ref 353)) [a] := MethSem.fnQ ha hl (by kernel_rfl) (by kernel_rfl) (by kernel_rfl)
theorem mo_Matparent {n a fs y} (ha : AV.cls? a = some (142, fs)) (hy : fs.lookup Hd.s46 = some y) (hyb : ∀ i, y ≠ .val (.builtin i)) : MethSem (sys w h₁ os mg mb) n a Hd.s46 y [] := MethSem.own ha hy (by kernel_rfl) (by kernel_rfl) hyb
theorem mo_Polparent {n a fs y} (ha : AV.cls? a = some (391, fs)) (hy : fs.lookup Hd.s46 = some y) (hyb : ∀ i, y ≠ .val (.builtin i)) : MethSem (sys w h₁ os mg mb) n a Hd.s46 y [] := MethSem.own ha hy (by kernel_rfl) (by kernel_rfl) hyb
theorem ow_Matparent : ownGet (sys w h₁ os mg mb).K 142 Hd.s46 = true := by kernel_rfl
theorem ow_Mat_data : ownGet (sys w h₁ os mg mb).K 142 Hd.s49 = true := by kernel_rfl
theorem ow_Mat_transpose : ownGet (sys w h₁ os mg mb).K 142 Hd.s50 = true := by kernel_rfl
theorem ow_Polparent : ownGet (sys w h₁ os mg mb).K 391 Hd.s46 = true := by kernel_rfl
theorem ow_Polcoeffs : ownGet (sys w h₁ os mg mb).K 391 Hd.s177 = true := by kernel_rfl
theorem ow_Rngq : ownGet (sys w h₁ os mg mb).K 228 Hd.s147 = true := by kernel_rfl
theorem ow_Rngn : ownGet (sys w h₁ os mg mb).K 228 Hd.s84 = true := by kernel_rfl
theorem ow_Modring : ownGet (sys w h₁ os mg mb).K 179 Hd.s128 = true := by kernel_rfl
theorem kv_41 : KeepsV (sys w h₁ os mg mb) (.val (.ref 41)) := KeepsV.ref (by kernel_rfl)
theorem kv_48 : KeepsV (sys w h₁ os mg mb) (.val (.ref 48)) := KeepsV.ref (by kernel_rfl)
theorem kv_55 : KeepsV (sys w h₁ os mg mb) (.val (.ref 55)) := KeepsV.ref (by kernel_rfl)
theorem kv_142 : KeepsV (sys w h₁ os mg mb) (.val (.ref 142)) := KeepsV.ref (by kernel_rfl)
theorem kv_168 : KeepsV (sys w h₁ os mg mb) (.val (.ref 168)) := KeepsV.ref (by kernel_rfl)
theorem kv_179 : KeepsV (sys w h₁ os mg mb) (.val (.ref 179)) := KeepsV.ref (by kernel_rfl)
theorem kv_211 : KeepsV (sys w h₁ os mg mb) (.val (.ref 211)) := KeepsV.ref (by kernel_rfl)
theorem kv_225 : KeepsV (sys w h₁ os mg mb) (.val (.ref 225)) := KeepsV.ref (by kernel_rfl)
theorem kv_228 : KeepsV (sys w h₁ os mg mb) (.val (.ref 228)) := KeepsV.ref (by kernel_rfl)
theorem kv_253 : KeepsV (sys w h₁ os mg mb) (.val (.ref 253)) := KeepsV.ref (by kernel_rfl)
theorem kv_265 : KeepsV (sys w h₁ os mg mb) (.val (.ref 265)) := KeepsV.ref (by kernel_rfl)
theorem kv_279 : KeepsV (sys w h₁ os mg mb) (.val (.ref 279)) := KeepsV.ref (by kernel_rfl)
theorem kv_286 : KeepsV (sys w h₁ os mg mb) (.val (.ref 286)) := KeepsV.ref (by kernel_rfl)
theorem kv_291 : KeepsV (sys w h₁ os mg mb) (.val (.ref 291)) := KeepsV.ref (by kernel_rfl)
theorem kv_301 : KeepsV (sys w h₁ os mg mb) (.val (.ref 301)) := KeepsV.ref (by kernel_rfl)
theorem kv_308 : KeepsV (sys w h₁ os mg mb) (.val (.ref 308)) := KeepsV.ref (by kernel_rfl)
theorem kv_327 : KeepsV (sys w h₁ os mg mb) (.val (.ref 327)) := KeepsV.ref (by kernel_rfl)
theorem kv_353 : KeepsV (sys w h₁ os mg mb) (.val (.ref 353)) := KeepsV.ref (by kernel_rfl)
theorem kv_391 : KeepsV (sys w h₁ os mg mb) (.val (.ref 391)) := KeepsV.ref (by kernel_rfl)
theorem kv_402 : KeepsV (sys w h₁ os mg mb) (.val (.ref 402)) := KeepsV.ref (by kernel_rfl)
theorem ii_Pol {n q m l} : CallSem (sys w h₁ os mg mb) n (.val (.builtin "isinstance")) [polV q m l, .val (.ref 391)] [] (.bool true) := CallSem.isInst rfl (by kernel_rfl)
theorem ii_Mat {n m D T} : CallSem (sys w h₁ os mg mb) n (.val (.builtin "isinstance")) [.inst 142 [(Hd.s50, T), (Hd.s49, D), (Hd.s46, m)], .val (.ref 142)] [] (.bool true) := CallSem.isInst rfl (by kernel_rfl)
theorem ni_Pol {n i} : CallSem (sys w h₁ os mg mb) n (.val (.builtin "isinstance")) [.int i, .val (.ref 391)] [] (.bool false) := CallSem.intInst (by kernel_rfl)
end
end
local macro_rules | `(tactic| walk_at "mname") => `(tactic| ((with_reducible first | refine' ev_MatrixGeneric _ | refine' ev_ModuleGeneric _ | refine' ev_PolynomialRingGeneric _ | refine' ev_PolynomialGeneric _ | refine' ev__law_det _ | refine' ev_isinstance _ | refine' ev_len _ | refine' ev_sum _ | refine' ev_all _ | refine' ev_any _ | refine' ev_abs _ | refine' ev_range _ | refine' ev_zip _ | refine' ev_list _ | refine' ev_int _ | refine' ev_tuple _ | refine' ev_set _ | refine' ev_type _); rfl))
local macro_rules | `(tactic| walk_at "mmeth") => `(tactic| (first | ((with_reducible first | refine' me_Mat_check_dimensions _ _ | refine' me_Matdim _ _ | refine' me_Mattranspose _ _ | refine' me_Modmatrix_of _ _ | refine' me_Rnggen _ _ | refine' me_Rngis_element _ _ | refine' me_Polis_zero _ _ | refine' me_Pol_parse_coefficients _ _ | refine' me_Pol_add_mod_q _ _ | refine' me_Pol_sub_mod_q _ _ | refine' me_Pol_schoolbook_multiplication _ _ | refine' me_Pol_add_ _ _ | refine' me_Pol_sub_ _ _ | refine' me_Pol__add__ _ _ | refine' me_Pol__mul__ _ _) <;> (first | rfl | skip)) | exact mo_Matparent rfl rfl (by intro i q; cases q) | exact mo_Polparent rfl rfl (by intro i q; cases q)))
local macro_rules | `(tactic| walk_at "mfact") => `(tactic| (with_reducible first | exact ow_Matparent | exact ow_Mat_data | exact ow_Mat_transpose | exact ow_Polparent | exact ow_Polcoeffs | exact ow_Rngq | exact ow_Rngn | exact ow_Modring | exact kv_41 | exact kv_48 | exact kv_55 | exact kv_142 | exact kv_168 | exact kv_179 | exact kv_211 | exact kv_225 | exact kv_228 | exact kv_253 | exact kv_265 | exact kv_279 | exact kv_286 | exact kv_291 | exact kv_301 | exact kv_308 | exact kv_327 | exact kv_353 | exact kv_391 | exact kv_402))
local macro_rules | `(tactic| walk_at "mcall") => `(tactic| (with_reducible first | exact ii_Pol | exact ii_Mat | exact ni_Pol))
section
open PySem PySem.Spec PySem.Calls PyProof.Rows PySem.W
variable {w : World} {h₁ : Heap} {os : OsState} {mg mb : Str → Option Value}
section
variable {w : World} {h₁ : Heap} {os : OsState} {mg mb : Str → Option Value}
theorem c_addmod {q n x y : Int} {l} (hq : 0 < q) : FnSem (sys w h₁ os mg mb) 1 279 [polV q n l, .int x, .int y] [] (.int ((x + y) % q)) := by
  refine FnSem.of (n := 0) (f := 279) ⟨rfl, rfl, rfl, rfl, rfl, ?_, rfl, rfl, rfl, rfl, rfl, rfl⟩ (Binds.p3 (x := Hd.s45) (y := Hd.s194) (z := Hd.s195) ?_) ?_ ?_ ?_
  · kernel_rfl
  · intro v u t S'; kernel_rfl
  · kernel_rfl
  · exact of_decide_eq_true (by kernel_rfl)
  · walk_at "mk"
theorem c_submod {q n x y : Int} {l} (hq : 0 < q) : FnSem (sys w h₁ os mg mb) 1 286 [polV q n l, .int x, .int y] [] (.int ((x - y) % q)) := by
  refine FnSem.of (n := 0) (f := 286) ⟨rfl, rfl, rfl, rfl, rfl, ?_, rfl, rfl, rfl, rfl, rfl, rfl⟩ (Binds.p3 (x := Hd.s45) (y := Hd.s194) (z := Hd.s195) ?_) ?_ ?_ ?_
  · kernel_rfl
  · intro v u t S'; kernel_rfl
  · kernel_rfl
  · exact of_decide_eq_true (by kernel_rfl)
  · walk_at "mk"
theorem c_parse21 {q a : Int} : FnSem (sys w h₁ os mg mb) 1 265 [pol0 q 2, .lst [.int a]] [] (.lst [.int a, .int 0]) := by
  refine FnSem.of (n := 0) (f := 265) ⟨rfl, rfl, rfl, rfl, rfl, ?_, rfl, rfl, rfl, rfl, rfl, rfl⟩ (Binds.p2 (x := Hd.s45) (y := Hd.s154) ?_) ?_ ?_ ?_
  · kernel_rfl
  · intro v u S'; kernel_rfl
  · kernel_rfl
  · exact of_decide_eq_true (by kernel_rfl)
  · walk_at "mk"
theorem c_parse22 {q a b : Int} : FnSem (sys w h₁ os mg mb) 1 265 [pol0 q 2, .lst [.int a, .int b]] [] (.lst [.int a, .int b]) := by
  refine FnSem.of (n := 0) (f := 265) ⟨rfl, rfl, rfl, rfl, rfl, ?_, rfl, rfl, rfl, rfl, rfl, rfl⟩ (Binds.p2 (x := Hd.s45) (y := Hd.s154) ?_) ?_ ?_ ?_
  · kernel_rfl
  · intro v u S'; kernel_rfl
  · kernel_rfl
  · exact of_decide_eq_true (by kernel_rfl)
  · walk_at "mk"
theorem c_parse31 {q a : Int} : FnSem (sys w h₁ os mg mb) 1 265 [pol0 q 3, .lst [.int a]] [] (.lst [.int a, .int 0, .int 0]) := by
  refine FnSem.of (n := 0) (f := 265) ⟨rfl, rfl, rfl, rfl, rfl, ?_, rfl, rfl, rfl, rfl, rfl, rfl⟩ (Binds.p2 (x := Hd.s45) (y := Hd.s154) ?_) ?_ ?_ ?_
  · kernel_rfl
  · intro v u S'; kernel_rfl
  · kernel_rfl
  · exact of_decide_eq_true (by kernel_rfl)
  · walk_at "mk"
theorem c_parse32 {q a b : Int} : FnSem (sys w h₁ os mg mb) 1 265 [pol0 q 3, .lst [.int a, .int b]] [] (.lst [.int a, .int b, .int 0]) := by
  refine FnSem.of (n := 0) (f := 265) ⟨rfl, rfl, rfl, rfl, rfl, ?_, rfl, rfl, rfl, rfl, rfl, rfl⟩ (Binds.p2 (x := Hd.s45) (y := Hd.s154) ?_) ?_ ?_ ?_
  · kernel_rfl
  · intro v u S'; kernel_rfl
  · kernel_rfl
  · exact of_decide_eq_true (by kernel_rfl)
  · walk_at "mk"
theorem c_parse33 {q a b c : Int} : FnSem (sys w h₁ os mg mb) 1 265 [pol0 q 3, .lst [.int a, .int b, .int c]] [] (.lst [.int a, .int b, .int c]) := by
  refine FnSem.of (n := 0) (f := 265) ⟨rfl, rfl, rfl, rfl, rfl, ?_, rfl, rfl, rfl, rfl, rfl, rfl⟩ (Binds.p2 (x := Hd.s45) (y := Hd.s154) ?_) ?_ ?_ ?_
  · kernel_rfl
  · intro v u S'; kernel_rfl
  · kernel_rfl
  · exact of_decide_eq_true (by kernel_rfl)
  · walk_at "mk"
end
end
section
open PySem PySem.Spec PySem.Calls PyProof.Rows PySem.W
section
variable {w : World} {h₁ : Heap} {os : OsState} {mg mb : Str → Option Value}
theorem c_mkpoly21 {q a : Int} : CallSem (sys w h₁ os mg mb) 3 (.val (.ref 391)) [rngV q 2, .lst [.int a]] [] (polV q 2 [.int a, .int 0]) := by
  refine CallSem.make (n := 1) (f := 246) (by kernel_rfl) (by kernel_rfl) ⟨rfl, rfl, rfl, rfl, rfl, ?_, rfl, rfl, rfl, rfl, rfl, rfl⟩ (fun x => (Binds.p3 (x := Hd.s45) (y := Hd.s46) (z := Hd.s154) ?_)) ?_ ?_ (fun x => ?_) ?_
  · kernel_rfl
  · intro v u t S'; kernel_rfl
  · kernel_rfl
  · exact of_decide_eq_true (by kernel_rfl)
  · have h0 := @c_parse21 w h₁ os mg mb q a
    refine Ex.step (St.attr rfl rfl (Ev.o ?_) (of_decide_eq_true (by kernel_rfl)) (by kernel_rfl) ?_) (Ex.step (St.attr rfl rfl (EvO.lendI (of_decide_eq_true (by kernel_rfl)) rfl ?_) (of_decide_eq_true (by kernel_rfl)) (by kernel_rfl) ?_) Ex.nil)
    · walk_at "mk"
    · walk_at "mk"
    · walk_at "mk"
    · walk_at "mk"
  · exact of_decide_eq_true (by kernel_rfl)
theorem c_mkpoly22 {q a b : Int} : CallSem (sys w h₁ os mg mb) 3 (.val (.ref 391)) [rngV q 2, .lst [.int a, .int b]] [] (polV q 2 [.int a, .int b]) := by
  refine CallSem.make (n := 1) (f := 246) (by kernel_rfl) (by kernel_rfl) ⟨rfl, rfl, rfl, rfl, rfl, ?_, rfl, rfl, rfl, rfl, rfl, rfl⟩ (fun x => (Binds.p3 (x := Hd.s45) (y := Hd.s46) (z := Hd.s154) ?_)) ?_ ?_ (fun x => ?_) ?_
  · kernel_rfl
  · intro v u t S'; kernel_rfl
  · kernel_rfl
  · exact of_decide_eq_true (by kernel_rfl)
  · have h0 := @c_parse22 w h₁ os mg mb q a b
    refine Ex.step (St.attr rfl rfl (Ev.o ?_) (of_decide_eq_true (by kernel_rfl)) (by kernel_rfl) ?_) (Ex.step (St.attr rfl rfl (EvO.lendI (of_decide_eq_true (by kernel_rfl)) rfl ?_) (of_decide_eq_true (by kernel_rfl)) (by kernel_rfl) ?_) Ex.nil)
    · walk_at "mk"
    · walk_at "mk"
    · walk_at "mk"
    · walk_at "mk"
  · exact of_decide_eq_true (by kernel_rfl)
theorem c_mkpoly31 {q a : Int} : CallSem (sys w h₁ os mg mb) 3 (.val (.ref 391)) [rngV q 3, .lst [.int a]] [] (polV q 3 [.int a, .int 0, .int 0]) := by
  refine CallSem.make (n := 1) (f := 246) (by kernel_rfl) (by kernel_rfl) ⟨rfl, rfl, rfl, rfl, rfl, ?_, rfl, rfl, rfl, rfl, rfl, rfl⟩ (fun x => (Binds.p3 (x := Hd.s45) (y := Hd.s46) (z := Hd.s154) ?_)) ?_ ?_ (fun x => ?_) ?_
  · kernel_rfl
  · intro v u t S'; kernel_rfl
  · kernel_rfl
  · exact of_decide_eq_true (by kernel_rfl)
  · have h0 := @c_parse31 w h₁ os mg mb q a
    refine Ex.step (St.attr rfl rfl (Ev.o ?_) (of_decide_eq_true (by kernel_rfl)) (by kernel_rfl) ?_) (Ex.step (St.attr rfl rfl (EvO.lendI (of_decide_eq_true (by kernel_rfl)) rfl ?_) (of_decide_eq_true (by kernel_rfl)) (by kernel_rfl) ?_) Ex.nil)
    · walk_at "mk"
    · walk_at "mk"
    · walk_at "mk"
    · walk_at "mk"
  · exact of_decide_eq_true (by kernel_rfl)
theorem c_mkpoly32 {q a b : Int} : CallSem (sys w h₁ os mg mb) 3 (.val (.ref 391)) [rngV q 3, .lst [.int a, .int b]] [] (polV q 3 [.int a, .int b, .int 0]) := by
  refine CallSem.make (n := 1) (f := 246) (by kernel_rfl) (by kernel_rfl) ⟨rfl, rfl, rfl, rfl, rfl, ?_, rfl, rfl, rfl, rfl, rfl, rfl⟩ (fun x => (Binds.p3 (x := Hd.s45) (y := Hd.s46) (z := Hd.s154) ?_)) ?_ ?_ (fun x => ?_) ?_
  · kernel_rfl
  · intro v u t S'; kernel_rfl
  · kernel_rfl
  · exact of_decide_eq_true (by kernel_rfl)
  · have h0 := @c_parse32 w h₁ os mg mb q a b
    refine Ex.step (St.attr rfl rfl (Ev.o ?_) (of_decide_eq_true (by kernel_rfl)) (by kernel_rfl) ?_) (Ex.step (St.attr rfl rfl (EvO.lendI (of_decide_eq_true (by kernel_rfl)) rfl ?_) (of_decide_eq_true (by kernel_rfl)) (by kernel_rfl) ?_) Ex.nil)
    · walk_at "mk"
    · walk_at "mk"
    · walk_at "mk"
    · walk_at "mk"
  · exact of_decide_eq_true (by kernel_rfl)
theorem c_mkpoly33 {q a b c : Int} : CallSem (sys w h₁ os mg mb) 3 (.val (.ref 391)) [rngV q 3, .lst [.int a, .int b, .int c]] [] (polV q 3 [.int a, .int b, .int c]) := by
  refine CallSem.make (n := 1) (f := 246) (by kernel_rfl) (by kernel_rfl) ⟨rfl, rfl, rfl, rfl, rfl, ?_, rfl, rfl, rfl, rfl, rfl, rfl⟩ (fun x => (Binds.p3 (x := Hd.s45) (y := Hd.s46) (z := Hd.s154) ?_)) ?_ ?_ (fun x => ?_) ?_
  · kernel_rfl
  · intro v u t S'; kernel_rfl
  · kernel_rfl
  · exact of_decide_eq_true (by kernel_rfl)
  · have h0 := @c_parse33 w h₁ os mg mb q a b c
    refine Ex.step (St.attr rfl rfl (Ev.o ?_) (of_decide_eq_true (by kernel_rfl)) (by kernel_rfl) ?_) (Ex.step (St.attr rfl rfl (EvO.lendI (of_decide_eq_true (by kernel_rfl)) rfl ?_) (of_decide_eq_true (by kernel_rfl)) (by kernel_rfl) ?_) Ex.nil)
    · walk_at "mk"
    · walk_at "mk"
    · walk_at "mk"
    · walk_at "mk"
  · exact of_decide_eq_true (by kernel_rfl)
end
end
section
open PySem PySem.Spec PySem.Calls PyProof.Rows PySem.W
section
variable {w : World} {h₁ : Heap} {os : OsState} {mg mb : Str → Option Value}
theorem c_ring22 {q a b : Int} : FnSem (sys w h₁ os mg mb) 4 218 [rngV q 2, .lst [.int a, .int b]] [] (polV q 2 [.int a, .int b]) := by
  refine FnSem.of (n := 3) (f := 218) ⟨rfl, rfl, rfl, rfl, rfl, ?_, rfl, rfl, rfl, rfl, rfl, rfl⟩ (Binds.p2 (x := Hd.s45) (y := Hd.s154) ?_) ?_ ?_ ?_
  · kernel_rfl
  · intro v u S'; kernel_rfl
  · kernel_rfl
  · exact of_decide_eq_true (by kernel_rfl)
  · have h0 := @c_mkpoly22 w h₁ os mg mb q a b
    refine Ex.step (St.if_f (EvT.bool (b := false) (by walk_at "mk")) Ex.nil) ?_
    walk_at "mk"
theorem c_rc22 {q a b : Int} : CallSem (sys w h₁ os mg mb) 4 (rngV q 2) [.lst [.int a, .int b]] [] (polV q 2 [.int a, .int b]) := CallSem.inst rfl (by kernel_rfl) (by kernel_rfl) c_ring22
theorem c_ringi2 {q a : Int} : FnSem (sys w h₁ os mg mb) 4 218 [rngV q 2, .int a] [] (polV q 2 [.int a, .int 0]) := by
  refine FnSem.of (n := 3) (f := 218) ⟨rfl, rfl, rfl, rfl, rfl, ?_, rfl, rfl, rfl, rfl, rfl, rfl⟩ (Binds.p2 (x := Hd.s45) (y := Hd.s154) ?_) ?_ ?_ ?_
  · kernel_rfl
  · intro v u S'; kernel_rfl
  · kernel_rfl
  · exact of_decide_eq_true (by kernel_rfl)
  · have h0 := @c_mkpoly21 w h₁ os mg mb q a
    refine Ex.ifStop (v := true) (by walk_at "mk") ?_
    walk_at "mk"
theorem c_rci2 {q a : Int} : CallSem (sys w h₁ os mg mb) 4 (rngV q 2) [.int a] [] (polV q 2 [.int a, .int 0]) := CallSem.inst rfl (by kernel_rfl) (by kernel_rfl) c_ringi2
theorem c_gen2 {q : Int} : FnSem (sys w h₁ os mg mb) 5 211 [rngV q 2] [] (polV q 2 [.int 0, .int 1]) := by
  refine FnSem.of (n := 4) (f := 211) ⟨rfl, rfl, rfl, rfl, rfl, ?_, rfl, rfl, rfl, rfl, rfl, rfl⟩ (Binds.p1 (x := Hd.s45) ?_) ?_ ?_ ?_
  · kernel_rfl
  · intro v S'; kernel_rfl
  · kernel_rfl
  · exact of_decide_eq_true (by kernel_rfl)
  · have h0 := @c_rc22 w h₁ os mg mb q 0 1
    walk_at "mk"
theorem c_ring32 {q a b : Int} : FnSem (sys w h₁ os mg mb) 4 218 [rngV q 3, .lst [.int a, .int b]] [] (polV q 3 [.int a, .int b, .int 0]) := by
  refine FnSem.of (n := 3) (f := 218) ⟨rfl, rfl, rfl, rfl, rfl, ?_, rfl, rfl, rfl, rfl, rfl, rfl⟩ (Binds.p2 (x := Hd.s45) (y := Hd.s154) ?_) ?_ ?_ ?_
  · kernel_rfl
  · intro v u S'; kernel_rfl
  · kernel_rfl
  · exact of_decide_eq_true (by kernel_rfl)
  · have h0 := @c_mkpoly32 w h₁ os mg mb q a b
    refine Ex.step (St.if_f (EvT.bool (b := false) (by walk_at "mk")) Ex.nil) ?_
    walk_at "mk"
theorem c_rc32 {q a b : Int} : CallSem (sys w h₁ os mg mb) 4 (rngV q 3) [.lst [.int a, .int b]] [] (polV q 3 [.int a, .int b, .int 0]) := CallSem.inst rfl (by kernel_rfl) (by kernel_rfl) c_ring32
theorem c_ring33 {q a b c : Int} : FnSem (sys w h₁ os mg mb) 4 218 [rngV q 3, .lst [.int a, .int b, .int c]] [] (polV q 3 [.int a, .int b, .int c]) := by
  refine FnSem.of (n := 3) (f := 218) ⟨rfl, rfl, rfl, rfl, rfl, ?_, rfl, rfl, rfl, rfl, rfl, rfl⟩ (Binds.p2 (x := Hd.s45) (y := Hd.s154) ?_) ?_ ?_ ?_
  · kernel_rfl
  · intro v u S'; kernel_rfl
  · kernel_rfl
  · exact of_decide_eq_true (by kernel_rfl)
  · have h0 := @c_mkpoly33 w h₁ os mg mb q a b c
    refine Ex.step (St.if_f (EvT.bool (b := false) (by walk_at "mk")) Ex.nil) ?_
    walk_at "mk"
theorem c_rc33 {q a b c : Int} : CallSem (sys w h₁ os mg mb) 4 (rngV q 3) [.lst [.int a, .int b, .int c]] [] (polV q 3 [.int a, .int b, .int c]) := CallSem.inst rfl (by kernel_rfl) (by kernel_rfl) c_ring33
theorem c_ringi3 {q a : Int} : FnSem (sys w h₁ os mg mb) 4 218 [rngV q 3, .int a] [] (polV q 3 [.int a, .int 0, .int 0]) := by
  refine FnSem.of (n := 3) (f := 218) ⟨rfl, rfl, rfl, rfl, rfl, ?_, rfl, rfl, rfl, rfl, rfl, rfl⟩ (Binds.p2 (x := Hd.s45) (y := Hd.s154) ?_) ?_ ?_ ?_
  · kernel_rfl
  · intro v u S'; kernel_rfl
  · kernel_rfl
  · exact of_decide_eq_true (by kernel_rfl)
  · have h0 := @c_mkpoly31 w h₁ os mg mb q a
    refine Ex.ifStop (v := true) (by walk_at "mk") ?_
    walk_at "mk"
theorem c_rci3 {q a : Int} : CallSem (sys w h₁ os mg mb) 4 (rngV q 3) [.int a] [] (polV q 3 [.int a, .int 0, .int 0]) := CallSem.inst rfl (by kernel_rfl) (by kernel_rfl) c_ringi3
theorem c_gen3 {q : Int} : FnSem (sys w h₁ os mg mb) 5 211 [rngV q 3] [] (polV q 3 [.int 0, .int 1, .int 0]) := by
  refine FnSem.of (n := 4) (f := 211) ⟨rfl, rfl, rfl, rfl, rfl, ?_, rfl, rfl, rfl, rfl, rfl, rfl⟩ (Binds.p1 (x := Hd.s45) ?_) ?_ ?_ ?_
  · kernel_rfl
  · intro v S'; kernel_rfl
  · kernel_rfl
  · exact of_decide_eq_true (by kernel_rfl)
  · have h0 := @c_rc32 w h₁ os mg mb q 0 1
    walk_at "mk"
theorem c_isel {q n m : Int} {l : List AV} : FnSem (sys w h₁ os mg mb) 1 225 [rngV q n, polV q m l] [] (.bool true) := by
  refine FnSem.of (n := 0) (f := 225) ⟨rfl, rfl, rfl, rfl, rfl, ?_, rfl, rfl, rfl, rfl, rfl, rfl⟩ (Binds.p2 (x := Hd.s45) (y := Hd.s159) ?_) ?_ ?_ ?_
  · kernel_rfl
  · intro v u S'; kernel_rfl
  · kernel_rfl
  · exact of_decide_eq_true (by kernel_rfl)
  · walk_at "mk"
end
end
section
open PySem PySem.Spec PySem.Calls PyProof.Rows PySem.W
section
variable {w : World} {h₁ : Heap} {os : OsState} {mg mb : Str → Option Value}
theorem c_sch2 {q x0 x1 y0 y1 : Int} (hq : 0 < q) (hq2 : q < 2 ^ 63) : FnSem (sys w h₁ os mg mb) 1 291 [P2 q x0 x1, P2 q y0 y1] [] (.lst [.int ((0 + (x0 % q) * (y0 % q) - (x1 % q) * (y1 % q)) % q), .int ((0 + (x0 % q) * (y1 % q) + (x1 % q) * (y0 % q)) % q)]) := by
  refine FnSem.of (n := 0) (f := 291) ⟨rfl, rfl, rfl, rfl, rfl, ?_, rfl, rfl, rfl, rfl, rfl, rfl⟩ (Binds.p2 (x := Hd.s45) (y := Hd.s82) ?_) ?_ ?_ ?_
  · kernel_rfl
  · intro v u S'; kernel_rfl
  · kernel_rfl
  · exact of_decide_eq_true (by kernel_rfl)
  · refine Ex.asg (a := .int 2) (by walk_at "mk") (by walk_at "mk") (by walk_at "mk") (by walk_at "mk") ?_
    refine Ex.asg (a := .lst [.int (x0 % q), .int (x1 % q)]) (by walk_at "mk") (by walk_at "mk") (by walk_at "mk") (by walk_at "mk") ?_
    refine Ex.asg (a := .lst [.int (y0 % q), .int (y1 % q)]) (by walk_at "mk") (by walk_at "mk") (by walk_at "mk") (by walk_at "mk") ?_
    refine Ex.step (St.compF (as := [.int 0, .int 1]) (rs := [.int 0, .int 0]) (by walk_at "mk") (by walk_at "mk") (by walk_at "mk") (by walk_at "mk") rfl (by walk_at "mk")) ?_
    walk_at "mk"
theorem c_sch3 {q x0 x1 x2 y0 y1 y2 : Int} (hq : 0 < q) (hq2 : q < 2 ^ 63) : FnSem (sys w h₁ os mg mb) 1 291 [P3 q x0 x1 x2, P3 q y0 y1 y2] [] (.lst [.int ((0 + (x0 % q) * (y0 % q) - (x2 % q) * (y1 % q) - (x1 % q) * (y2 % q)) % q), .int ((0 + (x0 % q) * (y1 % q) + (x1 % q) * (y0 % q) - (x2 % q) * (y2 % q)) % q), .int ((0 + (x0 % q) * (y2 % q) + (x1 % q) * (y1 % q) + (x2 % q) * (y0 % q)) % q)]) := by
  refine FnSem.of (n := 0) (f := 291) ⟨rfl, rfl, rfl, rfl, rfl, ?_, rfl, rfl, rfl, rfl, rfl, rfl⟩ (Binds.p2 (x := Hd.s45) (y := Hd.s82) ?_) ?_ ?_ ?_
  · kernel_rfl
  · intro v u S'; kernel_rfl
  · kernel_rfl
  · exact of_decide_eq_true (by kernel_rfl)
  · refine Ex.asg (a := .int 3) (by walk_at "mk") (by walk_at "mk") (by walk_at "mk") (by walk_at "mk") ?_
    refine Ex.asg (a := .lst [.int (x0 % q), .int (x1 % q), .int (x2 % q)]) (by walk_at "mk") (by walk_at "mk") (by walk_at "mk") (by walk_at "mk") ?_
    refine Ex.asg (a := .lst [.int (y0 % q), .int (y1 % q), .int (y2 % q)]) (by walk_at "mk") (by walk_at "mk") (by walk_at "mk") (by walk_at "mk") ?_
    refine Ex.step (St.compF (as := [.int 0, .int 1, .int 2]) (rs := [.int 0, .int 0, .int 0]) (by walk_at "mk") (by walk_at "mk") (by walk_at "mk") (by walk_at "mk") rfl (by walk_at "mk")) ?_
    walk_at "mk"
end
end
section
open PySem PySem.Spec PySem.Calls PyProof.Rows PySem.W
section
variable {w : World} {h₁ : Heap} {os : OsState} {mg mb : Str → Option Value}
theorem c_mulR2 {q x0 x1 y0 y1 : Int} (hq : 0 < q) (hq2 : q < 2 ^ 63) : FnSem (sys w h₁ os mg mb) 5 353 [P2 q x0 x1, P2 q y0 y1] [] (polV q 2 [.int ((0 + (x0 % q) * (y0 % q) - (x1 % q) * (y1 % q)) % q), .int ((0 + (x0 % q) * (y1 % q) + (x1 % q) * (y0 % q)) % q)]) := by
  refine FnSem.of (n := 4) (f := 353) ⟨rfl, rfl, rfl, rfl, rfl, ?_, rfl, rfl, rfl, rfl, rfl, rfl⟩ (Binds.p2 (x := Hd.s45) (y := Hd.s82) ?_) ?_ ?_ ?_
  · kernel_rfl
  · intro v u S'; kernel_rfl
  · kernel_rfl
  · exact of_decide_eq_true (by kernel_rfl)
  · have h0 := @c_sch2 w h₁ os mg mb q x0 x1 y0 y1 hq hq2
    have h1 := @c_rc22 w h₁ os mg mb q ((0 + (x0 % q) * (y0 % q) - (x1 % q) * (y1 % q)) % q) ((0 + (x0 % q) * (y1 % q) + (x1 % q) * (y0 % q)) % q)
    walk_at "mk"
theorem mulE2 {q x0 x1 y0 y1 : Int} : polV q 2 [.int ((0 + (x0 % q) * (y0 % q) - (x1 % q) * (y1 % q)) % q), .int ((0 + (x0 % q) * (y1 % q) + (x1 % q) * (y0 % q)) % q)] = P2 q (x0 * y0 - x1 * y1) (x0 * y1 + x1 * y0) := by
  have h : ∀ a b : Int, a = b → AV.int a = AV.int b := fun a b e => congrArg _ e
  simp only [polV, P2, P3, Int.zero_add, Int.sub_emod, Int.add_emod, Int.mul_emod, Int.emod_emod_of_dvd _ (Int.dvd_refl q)]
theorem c_mul2 {q x0 x1 y0 y1 : Int} (hq : 0 < q) (hq2 : q < 2 ^ 63) : FnSem (sys w h₁ os mg mb) 5 353 [P2 q x0 x1, P2 q y0 y1] [] (P2 q (x0 * y0 - x1 * y1) (x0 * y1 + x1 * y0)) := FnSem.cast (c_mulR2 hq hq2) mulE2
theorem c_muliR2 {q x0 x1 k : Int} (hq : 0 < q) (hq2 : q < 2 ^ 63) : FnSem (sys w h₁ os mg mb) 5 353 [P2 q x0 x1, .int k] [] (polV q 2 [.int (((x0 % q) * k) % q), .int (((x1 % q) * k) % q)]) := by
  refine FnSem.of (n := 4) (f := 353) ⟨rfl, rfl, rfl, rfl, rfl, ?_, rfl, rfl, rfl, rfl, rfl, rfl⟩ (Binds.p2 (x := Hd.s45) (y := Hd.s82) ?_) ?_ ?_ ?_
  · kernel_rfl
  · intro v u S'; kernel_rfl
  · kernel_rfl
  · exact of_decide_eq_true (by kernel_rfl)
  · have h0 := @c_rc22 w h₁ os mg mb q (((x0 % q) * k) % q) (((x1 % q) * k) % q)
    walk_at "mk"
theorem c_muliE2 {q x0 x1 k : Int} : polV q 2 [.int (((x0 % q) * k) % q), .int (((x1 % q) * k) % q)] = P2 q (x0 * k) (x1 * k) := by
  simp only [polV, P2, P3, Int.zero_add, Int.sub_emod, Int.add_emod, Int.mul_emod, neg_red, Int.emod_emod_of_dvd _ (Int.dvd_refl q)]
theorem c_muli2 {q x0 x1 k : Int} (hq : 0 < q) (hq2 : q < 2 ^ 63) : FnSem (sys w h₁ os mg mb) 5 353 [P2 q x0 x1, .int k] [] (P2 q (x0 * k) (x1 * k)) := FnSem.cast (c_muliR2 hq hq2) c_muliE2
theorem c_add_2 {q x0 x1 y0 y1 : Int} (hq : 0 < q) : FnSem (sys w h₁ os mg mb) 2 301 [P2 q x0 x1, P2 q y0 y1] [] (.lst [.int (((x0 % q) + (y0 % q)) % q), .int (((x1 % q) + (y1 % q)) % q)]) := by
  refine FnSem.of (n := 1) (f := 301) ⟨rfl, rfl, rfl, rfl, rfl, ?_, rfl, rfl, rfl, rfl, rfl, rfl⟩ (Binds.p2 (x := Hd.s45) (y := Hd.s82) ?_) ?_ ?_ ?_
  · kernel_rfl
  · intro v u S'; kernel_rfl
  · kernel_rfl
  · exact of_decide_eq_true (by kernel_rfl)
  · have h0 := @c_addmod w h₁ os mg mb q 2 (x0 % q) (y0 % q) [.int (x0 % q), .int (x1 % q)] hq
    have h1 := @c_addmod w h₁ os mg mb q 2 (x1 % q) (y1 % q) [.int (x0 % q), .int (x1 % q)] hq
    walk_at "mk"
theorem c_addR2 {q x0 x1 y0 y1 : Int} (hq : 0 < q) : FnSem (sys w h₁ os mg mb) 5 308 [P2 q x0 x1, P2 q y0 y1] [] (polV q 2 [.int (((x0 % q) + (y0 % q)) % q), .int (((x1 % q) + (y1 % q)) % q)]) := by
  refine FnSem.of (n := 4) (f := 308) ⟨rfl, rfl, rfl, rfl, rfl, ?_, rfl, rfl, rfl, rfl, rfl, rfl⟩ (Binds.p2 (x := Hd.s45) (y := Hd.s82) ?_) ?_ ?_ ?_
  · kernel_rfl
  · intro v u S'; kernel_rfl
  · kernel_rfl
  · exact of_decide_eq_true (by kernel_rfl)
  · have h0 := @c_add_2 w h₁ os mg mb q x0 x1 y0 y1 hq
    have h1 := @c_rc22 w h₁ os mg mb q (((x0 % q) + (y0 % q)) % q) (((x1 % q) + (y1 % q)) % q)
    walk_at "mk"
theorem c_addE2 {q x0 x1 y0 y1 : Int} : polV q 2 [.int (((x0 % q) + (y0 % q)) % q), .int (((x1 % q) + (y1 % q)) % q)] = P2 q (x0 + y0) (x1 + y1) := by
  simp only [polV, P2, P3, Int.zero_add, Int.sub_emod, Int.add_emod, Int.mul_emod, neg_red, Int.emod_emod_of_dvd _ (Int.dvd_refl q)]
theorem c_add2 {q x0 x1 y0 y1 : Int} (hq : 0 < q) : FnSem (sys w h₁ os mg mb) 5 308 [P2 q x0 x1, P2 q y0 y1] [] (P2 q (x0 + y0) (x1 + y1)) := FnSem.cast (c_addR2 hq) c_addE2
theorem c_addi_2 {q x0 x1 k : Int} (hq : 0 < q) : FnSem (sys w h₁ os mg mb) 2 301 [P2 q x0 x1, .int k] [] (.lst [.int (((x0 % q) + k) % q), .int (x1 % q)]) := by
  refine FnSem.of (n := 1) (f := 301) ⟨rfl, rfl, rfl, rfl, rfl, ?_, rfl, rfl, rfl, rfl, rfl, rfl⟩ (Binds.p2 (x := Hd.s45) (y := Hd.s82) ?_) ?_ ?_ ?_
  · kernel_rfl
  · intro v u S'; kernel_rfl
  · kernel_rfl
  · exact of_decide_eq_true (by kernel_rfl)
  · have h0 := @c_addmod w h₁ os mg mb q 2 (x0 % q) k [.int (x0 % q), .int (x1 % q)] hq
    walk_at "mk"
theorem c_sub_2 {q x0 x1 y0 y1 : Int} (hq : 0 < q) : FnSem (sys w h₁ os mg mb) 2 327 [P2 q x0 x1, P2 q y0 y1] [] (.lst [.int (((x0 % q) - (y0 % q)) % q), .int (((x1 % q) - (y1 % q)) % q)]) := by
  refine FnSem.of (n := 1) (f := 327) ⟨rfl, rfl, rfl, rfl, rfl, ?_, rfl, rfl, rfl, rfl, rfl, rfl⟩ (Binds.p2 (x := Hd.s45) (y := Hd.s82) ?_) ?_ ?_ ?_
  · kernel_rfl
  · intro v u S'; kernel_rfl
  · kernel_rfl
  · exact of_decide_eq_true (by kernel_rfl)
  · have h0 := @c_submod w h₁ os mg mb q 2 (x0 % q) (y0 % q) [.int (x0 % q), .int (x1 % q)] hq
    have h1 := @c_submod w h₁ os mg mb q 2 (x1 % q) (y1 % q) [.int (x0 % q), .int (x1 % q)] hq
    walk_at "mk"
theorem c_subR2 {q x0 x1 y0 y1 : Int} (hq : 0 < q) : FnSem (sys w h₁ os mg mb) 5 334 [P2 q x0 x1, P2 q y0 y1] [] (polV q 2 [.int (((x0 % q) - (y0 % q)) % q), .int (((x1 % q) - (y1 % q)) % q)]) := by
  refine FnSem.of (n := 4) (f := 334) ⟨rfl, rfl, rfl, rfl, rfl, ?_, rfl, rfl, rfl, rfl, rfl, rfl⟩ (Binds.p2 (x := Hd.s45) (y := Hd.s82) ?_) ?_ ?_ ?_
  · kernel_rfl
  · intro v u S'; kernel_rfl
  · kernel_rfl
  · exact of_decide_eq_true (by kernel_rfl)
  · have h0 := @c_sub_2 w h₁ os mg mb q x0 x1 y0 y1 hq
    have h1 := @c_rc22 w h₁ os mg mb q (((x0 % q) - (y0 % q)) % q) (((x1 % q) - (y1 % q)) % q)
    walk_at "mk"
theorem c_subE2 {q x0 x1 y0 y1 : Int} : polV q 2 [.int (((x0 % q) - (y0 % q)) % q), .int (((x1 % q) - (y1 % q)) % q)] = P2 q (x0 - y0) (x1 - y1) := by
  simp only [polV, P2, P3, Int.zero_add, Int.sub_emod, Int.add_emod, Int.mul_emod, neg_red, Int.emod_emod_of_dvd _ (Int.dvd_refl q)]
theorem c_sub2 {q x0 x1 y0 y1 : Int} (hq : 0 < q) : FnSem (sys w h₁ os mg mb) 5 334 [P2 q x0 x1, P2 q y0 y1] [] (P2 q (x0 - y0) (x1 - y1)) := FnSem.cast (c_subR2 hq) c_subE2
theorem c_mulR3 {q x0 x1 x2 y0 y1 y2 : Int} (hq : 0 < q) (hq2 : q < 2 ^ 63) : FnSem (sys w h₁ os mg mb) 5 353 [P3 q x0 x1 x2, P3 q y0 y1 y2] [] (polV q 3 [.int ((0 + (x0 % q) * (y0 % q) - (x2 % q) * (y1 % q) - (x1 % q) * (y2 % q)) % q), .int ((0 + (x0 % q) * (y1 % q) + (x1 % q) * (y0 % q) - (x2 % q) * (y2 % q)) % q), .int ((0 + (x0 % q) * (y2 % q) + (x1 % q) * (y1 % q) + (x2 % q) * (y0 % q)) % q)]) := by
  refine FnSem.of (n := 4) (f := 353) ⟨rfl, rfl, rfl, rfl, rfl, ?_, rfl, rfl, rfl, rfl, rfl, rfl⟩ (Binds.p2 (x := Hd.s45) (y := Hd.s82) ?_) ?_ ?_ ?_
  · kernel_rfl
  · intro v u S'; kernel_rfl
  · kernel_rfl
  · exact of_decide_eq_true (by kernel_rfl)
  · have h0 := @c_sch3 w h₁ os mg mb q x0 x1 x2 y0 y1 y2 hq hq2
    have h1 := @c_rc33 w h₁ os mg mb q ((0 + (x0 % q) * (y0 % q) - (x2 % q) * (y1 % q) - (x1 % q) * (y2 % q)) % q) ((0 + (x0 % q) * (y1 % q) + (x1 % q) * (y0 % q) - (x2 % q) * (y2 % q)) % q) ((0 + (x0 % q) * (y2 % q) + (x1 % q) * (y1 % q) + (x2 % q) * (y0 % q)) % q)
    walk_at "mk"
theorem mulE3 {q x0 x1 x2 y0 y1 y2 : Int} : polV q 3 [.int ((0 + (x0 % q) * (y0 % q) - (x2 % q) * (y1 % q) - (x1 % q) * (y2 % q)) % q), .int ((0 + (x0 % q) * (y1 % q) + (x1 % q) * (y0 % q) - (x2 % q) * (y2 % q)) % q), .int ((0 + (x0 % q) * (y2 % q) + (x1 % q) * (y1 % q) + (x2 % q) * (y0 % q)) % q)] = P3 q (x0 * y0 - x2 * y1 - x1 * y2) (x0 * y1 + x1 * y0 - x2 * y2) (x0 * y2 + x1 * y1 + x2 * y0) := by
  have h : ∀ a b : Int, a = b → AV.int a = AV.int b := fun a b e => congrArg _ e
  simp only [polV, P2, P3, Int.zero_add, Int.sub_emod, Int.add_emod, Int.mul_emod, Int.emod_emod_of_dvd _ (Int.dvd_refl q)]
theorem c_mul3 {q x0 x1 x2 y0 y1 y2 : Int} (hq : 0 < q) (hq2 : q < 2 ^ 63) : FnSem (sys w h₁ os mg mb) 5 353 [P3 q x0 x1 x2, P3 q y0 y1 y2] [] (P3 q (x0 * y0 - x2 * y1 - x1 * y2) (x0 * y1 + x1 * y0 - x2 * y2) (x0 * y2 + x1 * y1 + x2 * y0)) := FnSem.cast (c_mulR3 hq hq2) mulE3
theorem c_muliR3 {q x0 x1 x2 k : Int} (hq : 0 < q) (hq2 : q < 2 ^ 63) : FnSem (sys w h₁ os mg mb) 5 353 [P3 q x0 x1 x2, .int k] [] (polV q 3 [.int (((x0 % q) * k) % q), .int (((x1 % q) * k) % q), .int (((x2 % q) * k) % q)]) := by
  refine FnSem.of (n := 4) (f := 353) ⟨rfl, rfl, rfl, rfl, rfl, ?_, rfl, rfl, rfl, rfl, rfl, rfl⟩ (Binds.p2 (x := Hd.s45) (y := Hd.s82) ?_) ?_ ?_ ?_
  · kernel_rfl
  · intro v u S'; kernel_rfl
  · kernel_rfl
  · exact of_decide_eq_true (by kernel_rfl)
  · have h0 := @c_rc33 w h₁ os mg mb q (((x0 % q) * k) % q) (((x1 % q) * k) % q) (((x2 % q) * k) % q)
    walk_at "mk"
theorem c_muliE3 {q x0 x1 x2 k : Int} : polV q 3 [.int (((x0 % q) * k) % q), .int (((x1 % q) * k) % q), .int (((x2 % q) * k) % q)] = P3 q (x0 * k) (x1 * k) (x2 * k) := by
  simp only [polV, P2, P3, Int.zero_add, Int.sub_emod, Int.add_emod, Int.mul_emod, neg_red, Int.emod_emod_of_dvd _ (Int.dvd_refl q)]
theorem c_muli3 {q x0 x1 x2 k : Int} (hq : 0 < q) (hq2 : q < 2 ^ 63) : FnSem (sys w h₁ os mg mb) 5 353 [P3 q x0 x1 x2, .int k] [] (P3 q (x0 * k) (x1 * k) (x2 * k)) := FnSem.cast (c_muliR3 hq hq2) c_muliE3
theorem c_add_3 {q x0 x1 x2 y0 y1 y2 : Int} (hq : 0 < q) : FnSem (sys w h₁ os mg mb) 2 301 [P3 q x0 x1 x2, P3 q y0 y1 y2] [] (.lst [.int (((x0 % q) + (y0 % q)) % q), .int (((x1 % q) + (y1 % q)) % q), .int (((x2 % q) + (y2 % q)) % q)]) := by
  refine FnSem.of (n := 1) (f := 301) ⟨rfl, rfl, rfl, rfl, rfl, ?_, rfl, rfl, rfl, rfl, rfl, rfl⟩ (Binds.p2 (x := Hd.s45) (y := Hd.s82) ?_) ?_ ?_ ?_
  · kernel_rfl
  · intro v u S'; kernel_rfl
  · kernel_rfl
  · exact of_decide_eq_true (by kernel_rfl)
  · have h0 := @c_addmod w h₁ os mg mb q 3 (x0 % q) (y0 % q) [.int (x0 % q), .int (x1 % q), .int (x2 % q)] hq
    have h1 := @c_addmod w h₁ os mg mb q 3 (x1 % q) (y1 % q) [.int (x0 % q), .int (x1 % q), .int (x2 % q)] hq
    have h2 := @c_addmod w h₁ os mg mb q 3 (x2 % q) (y2 % q) [.int (x0 % q), .int (x1 % q), .int (x2 % q)] hq
    walk_at "mk"
theorem c_addR3 {q x0 x1 x2 y0 y1 y2 : Int} (hq : 0 < q) : FnSem (sys w h₁ os mg mb) 5 308 [P3 q x0 x1 x2, P3 q y0 y1 y2] [] (polV q 3 [.int (((x0 % q) + (y0 % q)) % q), .int (((x1 % q) + (y1 % q)) % q), .int (((x2 % q) + (y2 % q)) % q)]) := by
  refine FnSem.of (n := 4) (f := 308) ⟨rfl, rfl, rfl, rfl, rfl, ?_, rfl, rfl, rfl, rfl, rfl, rfl⟩ (Binds.p2 (x := Hd.s45) (y := Hd.s82) ?_) ?_ ?_ ?_
  · kernel_rfl
  · intro v u S'; kernel_rfl
  · kernel_rfl
  · exact of_decide_eq_true (by kernel_rfl)
  · have h0 := @c_add_3 w h₁ os mg mb q x0 x1 x2 y0 y1 y2 hq
    have h1 := @c_rc33 w h₁ os mg mb q (((x0 % q) + (y0 % q)) % q) (((x1 % q) + (y1 % q)) % q) (((x2 % q) + (y2 % q)) % q)
    walk_at "mk"
theorem c_addE3 {q x0 x1 x2 y0 y1 y2 : Int} : polV q 3 [.int (((x0 % q) + (y0 % q)) % q), .int (((x1 % q) + (y1 % q)) % q), .int (((x2 % q) + (y2 % q)) % q)] = P3 q (x0 + y0) (x1 + y1) (x2 + y2) := by
  simp only [polV, P2, P3, Int.zero_add, Int.sub_emod, Int.add_emod, Int.mul_emod, neg_red, Int.emod_emod_of_dvd _ (Int.dvd_refl q)]
theorem c_add3 {q x0 x1 x2 y0 y1 y2 : Int} (hq : 0 < q) : FnSem (sys w h₁ os mg mb) 5 308 [P3 q x0 x1 x2, P3 q y0 y1 y2] [] (P3 q (x0 + y0) (x1 + y1) (x2 + y2)) := FnSem.cast (c_addR3 hq) c_addE3
theorem c_addi_3 {q x0 x1 x2 k : Int} (hq : 0 < q) : FnSem (sys w h₁ os mg mb) 2 301 [P3 q x0 x1 x2, .int k] [] (.lst [.int (((x0 % q) + k) % q), .int (x1 % q), .int (x2 % q)]) := by
  refine FnSem.of (n := 1) (f := 301) ⟨rfl, rfl, rfl, rfl, rfl, ?_, rfl, rfl, rfl, rfl, rfl, rfl⟩ (Binds.p2 (x := Hd.s45) (y := Hd.s82) ?_) ?_ ?_ ?_
  · kernel_rfl
  · intro v u S'; kernel_rfl
  · kernel_rfl
  · exact of_decide_eq_true (by kernel_rfl)
  · have h0 := @c_addmod w h₁ os mg mb q 3 (x0 % q) k [.int (x0 % q), .int (x1 % q), .int (x2 % q)] hq
    walk_at "mk"
theorem c_sub_3 {q x0 x1 x2 y0 y1 y2 : Int} (hq : 0 < q) : FnSem (sys w h₁ os mg mb) 2 327 [P3 q x0 x1 x2, P3 q y0 y1 y2] [] (.lst [.int (((x0 % q) - (y0 % q)) % q), .int (((x1 % q) - (y1 % q)) % q), .int (((x2 % q) - (y2 % q)) % q)]) := by
  refine FnSem.of (n := 1) (f := 327) ⟨rfl, rfl, rfl, rfl, rfl, ?_, rfl, rfl, rfl, rfl, rfl, rfl⟩ (Binds.p2 (x := Hd.s45) (y := Hd.s82) ?_) ?_ ?_ ?_
  · kernel_rfl
  · intro v u S'; kernel_rfl
  · kernel_rfl
  · exact of_decide_eq_true (by kernel_rfl)
  · have h0 := @c_submod w h₁ os mg mb q 3 (x0 % q) (y0 % q) [.int (x0 % q), .int (x1 % q), .int (x2 % q)] hq
    have h1 := @c_submod w h₁ os mg mb q 3 (x1 % q) (y1 % q) [.int (x0 % q), .int (x1 % q), .int (x2 % q)] hq
    have h2 := @c_submod w h₁ os mg mb q 3 (x2 % q) (y2 % q) [.int (x0 % q), .int (x1 % q), .int (x2 % q)] hq
    walk_at "mk"
theorem c_subR3 {q x0 x1 x2 y0 y1 y2 : Int} (hq : 0 < q) : FnSem (sys w h₁ os mg mb) 5 334 [P3 q x0 x1 x2, P3 q y0 y1 y2] [] (polV q 3 [.int (((x0 % q) - (y0 % q)) % q), .int (((x1 % q) - (y1 % q)) % q), .int (((x2 % q) - (y2 % q)) % q)]) := by
  refine FnSem.of (n := 4) (f := 334) ⟨rfl, rfl, rfl, rfl, rfl, ?_, rfl, rfl, rfl, rfl, rfl, rfl⟩ (Binds.p2 (x := Hd.s45) (y := Hd.s82) ?_) ?_ ?_ ?_
  · kernel_rfl
  · intro v u S'; kernel_rfl
  · kernel_rfl
  · exact of_decide_eq_true (by kernel_rfl)
  · have h0 := @c_sub_3 w h₁ os mg mb q x0 x1 x2 y0 y1 y2 hq
    have h1 := @c_rc33 w h₁ os mg mb q (((x0 % q) - (y0 % q)) % q) (((x1 % q) - (y1 % q)) % q) (((x2 % q) - (y2 % q)) % q)
    walk_at "mk"
theorem c_subE3 {q x0 x1 x2 y0 y1 y2 : Int} : polV q 3 [.int (((x0 % q) - (y0 % q)) % q), .int (((x1 % q) - (y1 % q)) % q), .int (((x2 % q) - (y2 % q)) % q)] = P3 q (x0 - y0) (x1 - y1) (x2 - y2) := by
  simp only [polV, P2, P3, Int.zero_add, Int.sub_emod, Int.add_emod, Int.mul_emod, neg_red, Int.emod_emod_of_dvd _ (Int.dvd_refl q)]
theorem c_sub3 {q x0 x1 x2 y0 y1 y2 : Int} (hq : 0 < q) : FnSem (sys w h₁ os mg mb) 5 334 [P3 q x0 x1 x2, P3 q y0 y1 y2] [] (P3 q (x0 - y0) (x1 - y1) (x2 - y2)) := FnSem.cast (c_subR3 hq) c_subE3
end
end
section
open PySem PySem.Spec PySem.Calls PyProof.Rows PySem.W
section
variable {w : World} {h₁ : Heap} {os : OsState} {mg mb : Str → Option Value}
theorem c_addiR2 {q x0 x1 k : Int} (hq : 0 < q) : FnSem (sys w h₁ os mg mb) 5 308 [P2 q x0 x1, .int k] [] (polV q 2 [.int ((((x0 % q)) + k) % q), .int (x1 % q)]) := by
  refine FnSem.of (n := 4) (f := 308) ⟨rfl, rfl, rfl, rfl, rfl, ?_, rfl, rfl, rfl, rfl, rfl, rfl⟩ (Binds.p2 (x := Hd.s45) (y := Hd.s82) ?_) ?_ ?_ ?_
  · kernel_rfl
  · intro v u S'; kernel_rfl
  · kernel_rfl
  · exact of_decide_eq_true (by kernel_rfl)
  · have h0 := @c_addi_2 w h₁ os mg mb q x0 x1 k hq
    have h1 := @c_rc22 w h₁ os mg mb q ((((x0 % q)) + k) % q) (x1 % q)
    walk_at "mk"
theorem c_addi2 {q x0 x1 k : Int} (hq : 0 < q) : FnSem (sys w h₁ os mg mb) 5 308 [P2 q x0 x1, .int k] [] (P2 q (x0 + k) x1) := FnSem.cast (c_addiR2 hq) (by
  simp only [polV, P2, P3, Int.add_emod, Int.emod_emod_of_dvd _ (Int.dvd_refl q)])
theorem c_radd2 {q x0 x1 k : Int} (hq : 0 < q) : FnSem (sys w h₁ os mg mb) 6 315 [P2 q x0 x1, .int k] [] (P2 q (x0 + k) x1) := by
  refine FnSem.of (n := 5) (f := 315) ⟨rfl, rfl, rfl, rfl, rfl, ?_, rfl, rfl, rfl, rfl, rfl, rfl⟩ (Binds.p2 (x := Hd.s45) (y := Hd.s82) ?_) ?_ ?_ ?_
  · kernel_rfl
  · intro v u S'; kernel_rfl
  · kernel_rfl
  · exact of_decide_eq_true (by kernel_rfl)
  · have h0 := @c_addi2 w h₁ os mg mb q x0 x1 k hq
    walk_at "mk"
theorem c_rmul2 {q x0 x1 k : Int} (hq : 0 < q) (hq2 : q < 2 ^ 63) : FnSem (sys w h₁ os mg mb) 6 360 [P2 q x0 x1, .int k] [] (P2 q (x0 * k) (x1 * k)) := by
  refine FnSem.of (n := 5) (f := 360) ⟨rfl, rfl, rfl, rfl, rfl, ?_, rfl, rfl, rfl, rfl, rfl, rfl⟩ (Binds.p2 (x := Hd.s45) (y := Hd.s82) ?_) ?_ ?_ ?_
  · kernel_rfl
  · intro v u S'; kernel_rfl
  · kernel_rfl
  · exact of_decide_eq_true (by kernel_rfl)
  · have h0 := @c_muli2 w h₁ os mg mb q x0 x1 k hq hq2
    walk_at "mk"
theorem c_isz2 {q x0 x1 : Int} : FnSem (sys w h₁ os mg mb) 5 253 [P2 q x0 x1] [] (.bool ([(x0 % q) == 0, (x1 % q) == 0].all fun b => b)) := by
  refine FnSem.of (n := 4) (f := 253) ⟨rfl, rfl, rfl, rfl, rfl, ?_, rfl, rfl, rfl, rfl, rfl, rfl⟩ (Binds.p1 (x := Hd.s45) ?_) ?_ ?_ ?_
  · kernel_rfl
  · intro v S'; kernel_rfl
  · kernel_rfl
  · exact of_decide_eq_true (by kernel_rfl)
  · walk_at "mk"
theorem c_eq2 {q x0 x1 y0 y1 : Int} : FnSem (sys w h₁ os mg mb) 1 381 [P2 q x0 x1, P2 q y0 y1] [] (.bool (decide (([(x0 % q), (x1 % q)] : List Int) = [(y0 % q), (y1 % q)]))) := by
  refine FnSem.of (n := 0) (f := 381) ⟨rfl, rfl, rfl, rfl, rfl, ?_, rfl, rfl, rfl, rfl, rfl, rfl⟩ (Binds.p2 (x := Hd.s45) (y := Hd.s82) ?_) ?_ ?_ ?_
  · kernel_rfl
  · intro v u S'; kernel_rfl
  · kernel_rfl
  · exact of_decide_eq_true (by kernel_rfl)
  · have h0 := @CmpSem.eqInts (sys w h₁ os mg mb) 0 [(x0 % q), (x1 % q)] [(y0 % q), (y1 % q)] rfl
    refine Ex.ifStop (v := true) (by walk_at "mk") ?_
    apply Ex.condT rfl
    apply Ex.stop
    apply St.ret
    apply Ev.cmp
    · walk_at "mk"
    · walk_at "mk"
    · exact h0
    · walk_at "mk"
theorem c_one2 {q : Int} (h1 : 1 < q) : CallSem (sys w h₁ os mg mb) 4 (rngV q 2) [.int 1] [] (P2 q 1 0) := CallSem.cast c_rci2 (by
  have e1 : (1 : Int) % q = 1 := Int.emod_eq_of_lt (by decide) h1
  have e0 : (0 : Int) % q = 0 := Int.zero_emod q
  simp only [polV, P2, P3, e1, e0])
theorem c_X2 {q : Int} (h1 : 1 < q) : FnSem (sys w h₁ os mg mb) 5 211 [rngV q 2] [] (P2 q 0 1) := FnSem.cast c_gen2 (by
  have e1 : (1 : Int) % q = 1 := Int.emod_eq_of_lt (by decide) h1
  have e0 : (0 : Int) % q = 0 := Int.zero_emod q
  simp only [polV, P2, P3, e1, e0])
theorem b_mul2 {q x0 x1 y0 y1 : Int} (hq : 0 < q) (hq2 : q < 2 ^ 63) : BinSem (sys w h₁ os mg mb) 5 .Mult (P2 q x0 x1) (P2 q y0 y1) (P2 q (x0 * y0 - x1 * y1) (x0 * y1 + x1 * y0)) := BinSem.same rfl rfl (by kernel_rfl) (by kernel_rfl) (c_mul2 hq hq2) rfl
theorem b_add2 {q x0 x1 y0 y1 : Int} (hq : 0 < q) : BinSem (sys w h₁ os mg mb) 5 .Add (P2 q x0 x1) (P2 q y0 y1) (P2 q (x0 + y0) (x1 + y1)) := BinSem.same rfl rfl (by kernel_rfl) (by kernel_rfl) (c_add2 hq) rfl
theorem b_sub2 {q x0 x1 y0 y1 : Int} (hq : 0 < q) : BinSem (sys w h₁ os mg mb) 5 .Sub (P2 q x0 x1) (P2 q y0 y1) (P2 q (x0 - y0) (x1 - y1)) := BinSem.same rfl rfl (by kernel_rfl) (by kernel_rfl) (c_sub2 hq) rfl
theorem b_muli2 {q x0 x1 k : Int} (hq : 0 < q) (hq2 : q < 2 ^ 63) : BinSem (sys w h₁ os mg mb) 5 .Mult (P2 q x0 x1) (.int k) (P2 q (x0 * k) (x1 * k)) := BinSem.instInt rfl (by kernel_rfl) (by kernel_rfl) (c_muli2 hq hq2) rfl
theorem b_addi2 {q x0 x1 k : Int} (hq : 0 < q) : BinSem (sys w h₁ os mg mb) 5 .Add (P2 q x0 x1) (.int k) (P2 q (x0 + k) x1) := BinSem.instInt rfl (by kernel_rfl) (by kernel_rfl) (c_addi2 hq) rfl
theorem b_imul2 {q x0 x1 k : Int} (hq : 0 < q) (hq2 : q < 2 ^ 63) : BinSem (sys w h₁ os mg mb) 6 .Mult (.int k) (P2 q x0 x1) (P2 q (x0 * k) (x1 * k)) := BinSem.intMul rfl (by kernel_rfl) ⟨353, rfl⟩ (by kernel_rfl) (c_rmul2 hq hq2) rfl
theorem b_iadd2 {q x0 x1 k : Int} (hq : 0 < q) : BinSem (sys w h₁ os mg mb) 6 .Add (.int k) (P2 q x0 x1) (P2 q (x0 + k) x1) := BinSem.intAdd rfl (by kernel_rfl) ⟨308, rfl⟩ (by kernel_rfl) (c_radd2 hq) rfl
theorem b_ne2 {q x0 x1 y0 y1 : Int} : CmpSem (sys w h₁ os mg mb) 2 .NotEq (P2 q x0 x1) (P2 q y0 y1) (.bool (!decide (([(x0 % q), (x1 % q)] : List Int) = [(y0 % q), (y1 % q)]))) := CmpSem.instNe rfl rfl (by kernel_rfl) (by kernel_rfl) c_eq2
theorem c_addiR3 {q x0 x1 x2 k : Int} (hq : 0 < q) : FnSem (sys w h₁ os mg mb) 5 308 [P3 q x0 x1 x2, .int k] [] (polV q 3 [.int ((((x0 % q)) + k) % q), .int (x1 % q), .int (x2 % q)]) := by
  refine FnSem.of (n := 4) (f := 308) ⟨rfl, rfl, rfl, rfl, rfl, ?_, rfl, rfl, rfl, rfl, rfl, rfl⟩ (Binds.p2 (x := Hd.s45) (y := Hd.s82) ?_) ?_ ?_ ?_
  · kernel_rfl
  · intro v u S'; kernel_rfl
  · kernel_rfl
  · exact of_decide_eq_true (by kernel_rfl)
  · have h0 := @c_addi_3 w h₁ os mg mb q x0 x1 x2 k hq
    have h1 := @c_rc33 w h₁ os mg mb q ((((x0 % q)) + k) % q) (x1 % q) (x2 % q)
    walk_at "mk"
theorem c_addi3 {q x0 x1 x2 k : Int} (hq : 0 < q) : FnSem (sys w h₁ os mg mb) 5 308 [P3 q x0 x1 x2, .int k] [] (P3 q (x0 + k) x1 x2) := FnSem.cast (c_addiR3 hq) (by
  simp only [polV, P2, P3, Int.add_emod, Int.emod_emod_of_dvd _ (Int.dvd_refl q)])
theorem c_radd3 {q x0 x1 x2 k : Int} (hq : 0 < q) : FnSem (sys w h₁ os mg mb) 6 315 [P3 q x0 x1 x2, .int k] [] (P3 q (x0 + k) x1 x2) := by
  refine FnSem.of (n := 5) (f := 315) ⟨rfl, rfl, rfl, rfl, rfl, ?_, rfl, rfl, rfl, rfl, rfl, rfl⟩ (Binds.p2 (x := Hd.s45) (y := Hd.s82) ?_) ?_ ?_ ?_
  · kernel_rfl
  · intro v u S'; kernel_rfl
  · kernel_rfl
  · exact of_decide_eq_true (by kernel_rfl)
  · have h0 := @c_addi3 w h₁ os mg mb q x0 x1 x2 k hq
    walk_at "mk"
theorem c_rmul3 {q x0 x1 x2 k : Int} (hq : 0 < q) (hq2 : q < 2 ^ 63) : FnSem (sys w h₁ os mg mb) 6 360 [P3 q x0 x1 x2, .int k] [] (P3 q (x0 * k) (x1 * k) (x2 * k)) := by
  refine FnSem.of (n := 5) (f := 360) ⟨rfl, rfl, rfl, rfl, rfl, ?_, rfl, rfl, rfl, rfl, rfl, rfl⟩ (Binds.p2 (x := Hd.s45) (y := Hd.s82) ?_) ?_ ?_ ?_
  · kernel_rfl
  · intro v u S'; kernel_rfl
  · kernel_rfl
  · exact of_decide_eq_true (by kernel_rfl)
  · have h0 := @c_muli3 w h₁ os mg mb q x0 x1 x2 k hq hq2
    walk_at "mk"
theorem c_isz3 {q x0 x1 x2 : Int} : FnSem (sys w h₁ os mg mb) 5 253 [P3 q x0 x1 x2] [] (.bool ([(x0 % q) == 0, (x1 % q) == 0, (x2 % q) == 0].all fun b => b)) := by
  refine FnSem.of (n := 4) (f := 253) ⟨rfl, rfl, rfl, rfl, rfl, ?_, rfl, rfl, rfl, rfl, rfl, rfl⟩ (Binds.p1 (x := Hd.s45) ?_) ?_ ?_ ?_
  · kernel_rfl
  · intro v S'; kernel_rfl
  · kernel_rfl
  · exact of_decide_eq_true (by kernel_rfl)
  · walk_at "mk"
theorem c_eq3 {q x0 x1 x2 y0 y1 y2 : Int} : FnSem (sys w h₁ os mg mb) 1 381 [P3 q x0 x1 x2, P3 q y0 y1 y2] [] (.bool (decide (([(x0 % q), (x1 % q), (x2 % q)] : List Int) = [(y0 % q), (y1 % q), (y2 % q)]))) := by
  refine FnSem.of (n := 0) (f := 381) ⟨rfl, rfl, rfl, rfl, rfl, ?_, rfl, rfl, rfl, rfl, rfl, rfl⟩ (Binds.p2 (x := Hd.s45) (y := Hd.s82) ?_) ?_ ?_ ?_
  · kernel_rfl
  · intro v u S'; kernel_rfl
  · kernel_rfl
  · exact of_decide_eq_true (by kernel_rfl)
  · have h0 := @CmpSem.eqInts (sys w h₁ os mg mb) 0 [(x0 % q), (x1 % q), (x2 % q)] [(y0 % q), (y1 % q), (y2 % q)] rfl
    refine Ex.ifStop (v := true) (by walk_at "mk") ?_
    apply Ex.condT rfl
    apply Ex.stop
    apply St.ret
    apply Ev.cmp
    · walk_at "mk"
    · walk_at "mk"
    · exact h0
    · walk_at "mk"
theorem c_one3 {q : Int} (h1 : 1 < q) : CallSem (sys w h₁ os mg mb) 4 (rngV q 3) [.int 1] [] (P3 q 1 0 0) := CallSem.cast c_rci3 (by
  have e1 : (1 : Int) % q = 1 := Int.emod_eq_of_lt (by decide) h1
  have e0 : (0 : Int) % q = 0 := Int.zero_emod q
  simp only [polV, P2, P3, e1, e0])
theorem c_X3 {q : Int} (h1 : 1 < q) : FnSem (sys w h₁ os mg mb) 5 211 [rngV q 3] [] (P3 q 0 1 0) := FnSem.cast c_gen3 (by
  have e1 : (1 : Int) % q = 1 := Int.emod_eq_of_lt (by decide) h1
  have e0 : (0 : Int) % q = 0 := Int.zero_emod q
  simp only [polV, P2, P3, e1, e0])
theorem b_mul3 {q x0 x1 x2 y0 y1 y2 : Int} (hq : 0 < q) (hq2 : q < 2 ^ 63) : BinSem (sys w h₁ os mg mb) 5 .Mult (P3 q x0 x1 x2) (P3 q y0 y1 y2) (P3 q (x0 * y0 - x2 * y1 - x1 * y2) (x0 * y1 + x1 * y0 - x2 * y2) (x0 * y2 + x1 * y1 + x2 * y0)) := BinSem.same rfl rfl (by kernel_rfl) (by kernel_rfl) (c_mul3 hq hq2) rfl
theorem b_add3 {q x0 x1 x2 y0 y1 y2 : Int} (hq : 0 < q) : BinSem (sys w h₁ os mg mb) 5 .Add (P3 q x0 x1 x2) (P3 q y0 y1 y2) (P3 q (x0 + y0) (x1 + y1) (x2 + y2)) := BinSem.same rfl rfl (by kernel_rfl) (by kernel_rfl) (c_add3 hq) rfl
theorem b_sub3 {q x0 x1 x2 y0 y1 y2 : Int} (hq : 0 < q) : BinSem (sys w h₁ os mg mb) 5 .Sub (P3 q x0 x1 x2) (P3 q y0 y1 y2) (P3 q (x0 - y0) (x1 - y1) (x2 - y2)) := BinSem.same rfl rfl (by kernel_rfl) (by kernel_rfl) (c_sub3 hq) rfl
theorem b_muli3 {q x0 x1 x2 k : Int} (hq : 0 < q) (hq2 : q < 2 ^ 63) : BinSem (sys w h₁ os mg mb) 5 .Mult (P3 q x0 x1 x2) (.int k) (P3 q (x0 * k) (x1 * k) (x2 * k)) := BinSem.instInt rfl (by kernel_rfl) (by kernel_rfl) (c_muli3 hq hq2) rfl
theorem b_addi3 {q x0 x1 x2 k : Int} (hq : 0 < q) : BinSem (sys w h₁ os mg mb) 5 .Add (P3 q x0 x1 x2) (.int k) (P3 q (x0 + k) x1 x2) := BinSem.instInt rfl (by kernel_rfl) (by kernel_rfl) (c_addi3 hq) rfl
theorem b_imul3 {q x0 x1 x2 k : Int} (hq : 0 < q) (hq2 : q < 2 ^ 63) : BinSem (sys w h₁ os mg mb) 6 .Mult (.int k) (P3 q x0 x1 x2) (P3 q (x0 * k) (x1 * k) (x2 * k)) := BinSem.intMul rfl (by kernel_rfl) ⟨353, rfl⟩ (by kernel_rfl) (c_rmul3 hq hq2) rfl
theorem b_iadd3 {q x0 x1 x2 k : Int} (hq : 0 < q) : BinSem (sys w h₁ os mg mb) 6 .Add (.int k) (P3 q x0 x1 x2) (P3 q (x0 + k) x1 x2) := BinSem.intAdd rfl (by kernel_rfl) ⟨308, rfl⟩ (by kernel_rfl) (c_radd3 hq) rfl
theorem b_ne3 {q x0 x1 x2 y0 y1 y2 : Int} : CmpSem (sys w h₁ os mg mb) 2 .NotEq (P3 q x0 x1 x2) (P3 q y0 y1 y2) (.bool (!decide (([(x0 % q), (x1 % q), (x2 % q)] : List Int) = [(y0 % q), (y1 % q), (y2 % q)]))) := CmpSem.instNe rfl rfl (by kernel_rfl) (by kernel_rfl) c_eq3
end
end
local macro_rules | `(tactic| walk_at "mbin") => `(tactic| (with_reducible first
  | exact BinSem.up (b_mul2 (by assumption) (by assumption)) (by decide)
  | exact BinSem.up (b_add2 (by assumption)) (by decide)
  | exact BinSem.up (b_sub2 (by assumption)) (by decide)
  | exact BinSem.up (b_muli2 (by assumption) (by assumption)) (by decide)
  | exact BinSem.up (b_addi2 (by assumption)) (by decide)
  | exact BinSem.up (b_imul2 (by assumption) (by assumption)) (by decide)
  | exact BinSem.up (b_iadd2 (by assumption)) (by decide)
  | exact BinSem.up (b_mul3 (by assumption) (by assumption)) (by decide)
  | exact BinSem.up (b_add3 (by assumption)) (by decide)
  | exact BinSem.up (b_sub3 (by assumption)) (by decide)
  | exact BinSem.up (b_muli3 (by assumption) (by assumption)) (by decide)
  | exact BinSem.up (b_addi3 (by assumption)) (by decide)
  | exact BinSem.up (b_imul3 (by assumption) (by assumption)) (by decide)
  | exact BinSem.up (b_iadd3 (by assumption)) (by decide)
  | exact UnSem.up (b_neg2 (by assumption)) (by decide)
  | exact UnSem.up (b_neg3 (by assumption)) (by decide)
  | exact CmpSem.up b_ne2 (by decide)
  | exact CmpSem.up b_eq2 (by decide)
  | exact CmpSem.up b_ne3 (by decide)
  | exact CmpSem.up b_eq3 (by decide)))
section
open PySem PySem.Spec PySem.Calls PyProof.Rows PySem.W
section
variable {w : World} {h₁ : Heap} {os : OsState} {mg mb : Str → Option Value}
theorem c_powX2 {q : Int} (hq : 0 < q) (hq2 : q < 2 ^ 63) (h1 : 1 < q) : FnSem (sys w h₁ os mg mb) 6 374 [P2 q 0 1, .int 2] [] (P2 q (-1) 0) := by
  refine FnSem.of (n := 5) (f := 374) ⟨rfl, rfl, rfl, rfl, rfl, ?_, rfl, rfl, rfl, rfl, rfl, rfl⟩ (Binds.p2 (x := Hd.s45) (y := Hd.s84) ?_) ?_ ?_ ?_
  · kernel_rfl
  · intro v u S'; kernel_rfl
  · kernel_rfl
  · exact of_decide_eq_true (by kernel_rfl)
  · have h0 := @c_one2 w h₁ os mg mb q h1
    apply Ex.skipRaise
    · walk_at "mk"
    · walk_at "mk"
    apply Ex.skipRaise
    · walk_at "mk"
    · walk_at "mk"
    refine Ex.asg (a := P2 q 0 1) (by walk_at "mk") (by walk_at "mk") (by walk_at "mk") (by walk_at "mk") ?_
    refine Ex.asg (a := P2 q 1 0) (by walk_at "mk") (by walk_at "mk") (by walk_at "mk") (by walk_at "mk") ?_
    apply Ex.while1
    · apply LoopW.nextQ
      · walk_at "mk"
      · rfl
      · walk_at "mk"
      apply LoopW.nextQ
      · walk_at "mk"
      · rfl
      · walk_at "mk"
      apply LoopW.doneQ
      · walk_at "mk"
      · rfl
    · walk_at "mk"
theorem c_powX3 {q : Int} (hq : 0 < q) (hq2 : q < 2 ^ 63) (h1 : 1 < q) : FnSem (sys w h₁ os mg mb) 6 374 [P3 q 0 1 0, .int 3] [] (P3 q (-1) 0 0) := by
  refine FnSem.of (n := 5) (f := 374) ⟨rfl, rfl, rfl, rfl, rfl, ?_, rfl, rfl, rfl, rfl, rfl, rfl⟩ (Binds.p2 (x := Hd.s45) (y := Hd.s84) ?_) ?_ ?_ ?_
  · kernel_rfl
  · intro v u S'; kernel_rfl
  · kernel_rfl
  · exact of_decide_eq_true (by kernel_rfl)
  · have h0 := @c_one3 w h₁ os mg mb q h1
    apply Ex.skipRaise
    · walk_at "mk"
    · walk_at "mk"
    apply Ex.skipRaise
    · walk_at "mk"
    · walk_at "mk"
    refine Ex.asg (a := P3 q 0 1 0) (by walk_at "mk") (by walk_at "mk") (by walk_at "mk") (by walk_at "mk") ?_
    refine Ex.asg (a := P3 q 1 0 0) (by walk_at "mk") (by walk_at "mk") (by walk_at "mk") (by walk_at "mk") ?_
    apply Ex.while1
    · apply LoopW.nextQ
      · walk_at "mk"
      · rfl
      · walk_at "mk"
      apply LoopW.nextQ
      · walk_at "mk"
      · rfl
      · walk_at "mk"
      apply LoopW.doneQ
      · walk_at "mk"
      · rfl
    · walk_at "mk"
end
end
section
open PySem PySem.Spec PySem.Calls PyProof.Rows PySem.W
noncomputable abbrev modV (a : Addr) (r : AV) : AV := .obj a 179 [(Hd.s128, r)]
noncomputable abbrev matV (t : Bool) (rows : List AV) (m : AV) : AV := .inst 142 [(Hd.s50, .bool t), (Hd.s49, .lst rows), (Hd.s46, m)]
section
variable {w : World} {h₁ : Heap} {os : OsState} {mg mb : Str → Option Value}
theorem c_chk22 {t : Bool} {pv a00 a01 a10 a11 : AV} : FnSem (sys w h₁ os mg mb) 1 41 [matV t [.lst [a00, a01], .lst [a10, a11]] pv] [] (.bool true) := by
  apply FnSem.ofE (n := 0) (f := 41)
  · exact ⟨rfl, rfl, rfl, rfl, rfl, by kernel_rfl, rfl, rfl, rfl, rfl, rfl, rfl⟩
  · exact (Binds.p1 (x := Hd.s45) (by intro v S'; kernel_rfl))
  · kernel_rfl
  · exact of_decide_eq_true (by kernel_rfl)
  · walk_at "mk"
  · rfl
theorem c_mkmat22 {t : Bool} {pv a00 a01 a10 a11 : AV} : CallSem (sys w h₁ os mg mb) 3 (.val (.ref 142)) [pv, .lst [.lst [a00, a01], .lst [a10, a11]]] [(Hd.s29, .bool t)] (matV t [.lst [a00, a01], .lst [a10, a11]] pv) := by
  refine CallSem.make (n := 1) (f := 36) (by kernel_rfl) (by kernel_rfl) ⟨rfl, rfl, rfl, rfl, rfl, ?_, rfl, rfl, rfl, rfl, rfl, rfl⟩ (fun x => (Binds.p3k (x := Hd.s45) (y := Hd.s46) (z := Hd.s47) (t := Hd.s29) ?_)) ?_ ?_ (fun x => ?_) ?_
  · kernel_rfl
  · intro v u t r S'; kernel_rfl
  · kernel_rfl
  · exact of_decide_eq_true (by kernel_rfl)
  · have h0 := @c_chk22 w h₁ os mg mb t pv a00 a01 a10 a11
    refine Ex.step (St.attr rfl rfl (Ev.o ?_) (of_decide_eq_true (by kernel_rfl)) (by kernel_rfl) ?_) (Ex.step (St.attr rfl rfl (Ev.o ?_) (of_decide_eq_true (by kernel_rfl)) (by kernel_rfl) ?_) (Ex.step (St.attr rfl rfl (Ev.o ?_) (of_decide_eq_true (by kernel_rfl)) (by kernel_rfl) ?_) (Ex.step (St.ifO_f (EvTO.lendI (of_decide_eq_true (by kernel_rfl)) (EvT.not (b := true) ?_)) Ex.nil) Ex.nil)))
    · walk_at "mk"
    · walk_at "mk"
    · walk_at "mk"
    · walk_at "mk"
    · walk_at "mk"
    · walk_at "mk"
    · walk_at "mk"
  · exact of_decide_eq_true (by kernel_rfl)
theorem c_dim22f {pv a00 a01 a10 a11 : AV} : FnSem (sys w h₁ os mg mb) 1 48 [matV false [.lst [a00, a01], .lst [a10, a11]] pv] [] (.tup [.int 2, .int 2]) := by
  apply FnSem.ofE (n := 0) (f := 48)
  · exact ⟨rfl, rfl, rfl, rfl, rfl, by kernel_rfl, rfl, rfl, rfl, rfl, rfl, rfl⟩
  · exact (Binds.p1 (x := Hd.s45) (by intro v S'; kernel_rfl))
  · kernel_rfl
  · exact of_decide_eq_true (by kernel_rfl)
  · walk_at "mk"
  · rfl
theorem c_dim22t {pv a00 a01 a10 a11 : AV} : FnSem (sys w h₁ os mg mb) 1 48 [matV true [.lst [a00, a01], .lst [a10, a11]] pv] [] (.tup [.int 2, .int 2]) := by
  apply FnSem.ofE (n := 0) (f := 48)
  · exact ⟨rfl, rfl, rfl, rfl, rfl, by kernel_rfl, rfl, rfl, rfl, rfl, rfl, rfl⟩
  · exact (Binds.p1 (x := Hd.s45) (by intro v S'; kernel_rfl))
  · kernel_rfl
  · exact of_decide_eq_true (by kernel_rfl)
  · walk_at "mk"
  · rfl
theorem c_matof22 {t : Bool} {a : Addr} {r a00 a01 a10 a11 : AV} : FnSem (sys w h₁ os mg mb) 4 168 [modV a r, .lst [.lst [a00, a01], .lst [a10, a11]]] [(Hd.s29, .bool t)] (matV t [.lst [a00, a01], .lst [a10, a11]] (modV a r)) := by
  refine FnSem.of (n := 3) (f := 168) ⟨rfl, rfl, rfl, rfl, rfl, ?_, rfl, rfl, rfl, rfl, rfl, rfl⟩ (Binds.p2k (x := Hd.s45) (y := Hd.s131) (z := Hd.s29) ?_) ?_ ?_ ?_
  · kernel_rfl
  · intro v u t S'; kernel_rfl
  · kernel_rfl
  · exact of_decide_eq_true (by kernel_rfl)
  · have h0 := @c_mkmat22 w h₁ os mg mb t (modV a r) a00 a01 a10 a11
    walk_at "mk"
theorem c_chk33 {t : Bool} {pv a00 a01 a02 a10 a11 a12 a20 a21 a22 : AV} : FnSem (sys w h₁ os mg mb) 1 41 [matV t [.lst [a00, a01, a02], .lst [a10, a11, a12], .lst [a20, a21, a22]] pv] [] (.bool true) := by
  apply FnSem.ofE (n := 0) (f := 41)
  · exact ⟨rfl, rfl, rfl, rfl, rfl, by kernel_rfl, rfl, rfl, rfl, rfl, rfl, rfl⟩
  · exact (Binds.p1 (x := Hd.s45) (by intro v S'; kernel_rfl))
  · kernel_rfl
  · exact of_decide_eq_true (by kernel_rfl)
  · walk_at "mk"
  · rfl
theorem c_mkmat33 {t : Bool} {pv a00 a01 a02 a10 a11 a12 a20 a21 a22 : AV} : CallSem (sys w h₁ os mg mb) 3 (.val (.ref 142)) [pv, .lst [.lst [a00, a01, a02], .lst [a10, a11, a12], .lst [a20, a21, a22]]] [(Hd.s29, .bool t)] (matV t [.lst [a00, a01, a02], .lst [a10, a11, a12], .lst [a20, a21, a22]] pv) := by
  refine CallSem.make (n := 1) (f := 36) (by kernel_rfl) (by kernel_rfl) ⟨rfl, rfl, rfl, rfl, rfl, ?_, rfl, rfl, rfl, rfl, rfl, rfl⟩ (fun x => (Binds.p3k (x := Hd.s45) (y := Hd.s46) (z := Hd.s47) (t := Hd.s29) ?_)) ?_ ?_ (fun x => ?_) ?_
  · kernel_rfl
  · intro v u t r S'; kernel_rfl
  · kernel_rfl
  · exact of_decide_eq_true (by kernel_rfl)
  · have h0 := @c_chk33 w h₁ os mg mb t pv a00 a01 a02 a10 a11 a12 a20 a21 a22
    refine Ex.step (St.attr rfl rfl (Ev.o ?_) (of_decide_eq_true (by kernel_rfl)) (by kernel_rfl) ?_) (Ex.step (St.attr rfl rfl (Ev.o ?_) (of_decide_eq_true (by kernel_rfl)) (by kernel_rfl) ?_) (Ex.step (St.attr rfl rfl (Ev.o ?_) (of_decide_eq_true (by kernel_rfl)) (by kernel_rfl) ?_) (Ex.step (St.ifO_f (EvTO.lendI (of_decide_eq_true (by kernel_rfl)) (EvT.not (b := true) ?_)) Ex.nil) Ex.nil)))
    · walk_at "mk"
    · walk_at "mk"
    · walk_at "mk"
    · walk_at "mk"
    · walk_at "mk"
    · walk_at "mk"
    · walk_at "mk"
  · exact of_decide_eq_true (by kernel_rfl)
theorem c_dim33f {pv a00 a01 a02 a10 a11 a12 a20 a21 a22 : AV} : FnSem (sys w h₁ os mg mb) 1 48 [matV false [.lst [a00, a01, a02], .lst [a10, a11, a12], .lst [a20, a21, a22]] pv] [] (.tup [.int 3, .int 3]) := by
  apply FnSem.ofE (n := 0) (f := 48)
  · exact ⟨rfl, rfl, rfl, rfl, rfl, by kernel_rfl, rfl, rfl, rfl, rfl, rfl, rfl⟩
  · exact (Binds.p1 (x := Hd.s45) (by intro v S'; kernel_rfl))
  · kernel_rfl
  · exact of_decide_eq_true (by kernel_rfl)
  · walk_at "mk"
  · rfl
theorem c_dim33t {pv a00 a01 a02 a10 a11 a12 a20 a21 a22 : AV} : FnSem (sys w h₁ os mg mb) 1 48 [matV true [.lst [a00, a01, a02], .lst [a10, a11, a12], .lst [a20, a21, a22]] pv] [] (.tup [.int 3, .int 3]) := by
  apply FnSem.ofE (n := 0) (f := 48)
  · exact ⟨rfl, rfl, rfl, rfl, rfl, by kernel_rfl, rfl, rfl, rfl, rfl, rfl, rfl⟩
  · exact (Binds.p1 (x := Hd.s45) (by intro v S'; kernel_rfl))
  · kernel_rfl
  · exact of_decide_eq_true (by kernel_rfl)
  · walk_at "mk"
  · rfl
theorem c_matof33 {t : Bool} {a : Addr} {r a00 a01 a02 a10 a11 a12 a20 a21 a22 : AV} : FnSem (sys w h₁ os mg mb) 4 168 [modV a r, .lst [.lst [a00, a01, a02], .lst [a10, a11, a12], .lst [a20, a21, a22]]] [(Hd.s29, .bool t)] (matV t [.lst [a00, a01, a02], .lst [a10, a11, a12], .lst [a20, a21, a22]] (modV a r)) := by
  refine FnSem.of (n := 3) (f := 168) ⟨rfl, rfl, rfl, rfl, rfl, ?_, rfl, rfl, rfl, rfl, rfl, rfl⟩ (Binds.p2k (x := Hd.s45) (y := Hd.s131) (z := Hd.s29) ?_) ?_ ?_ ?_
  · kernel_rfl
  · intro v u t S'; kernel_rfl
  · kernel_rfl
  · exact of_decide_eq_true (by kernel_rfl)
  · have h0 := @c_mkmat33 w h₁ os mg mb t (modV a r) a00 a01 a02 a10 a11 a12 a20 a21 a22
    walk_at "mk"
theorem c_itemf {rows r : List AV} {pv x : AV} {i j : Int} (h1 : atI rows i = some (.lst r)) (h2 : atI r j = some x) : FnSem (sys w h₁ os mg mb) 1 77 [matV false rows pv, .tup [.int i, .int j]] [] x := by
  refine FnSem.of (n := 0) (f := 77) ⟨rfl, rfl, rfl, rfl, rfl, ?_, rfl, rfl, rfl, rfl, rfl, rfl⟩ (Binds.p2 (x := Hd.s45) (y := Hd.s73) ?_) ?_ ?_ ?_
  · kernel_rfl
  · intro v u S'; kernel_rfl
  · kernel_rfl
  · exact of_decide_eq_true (by kernel_rfl)
  · have h3 := @SubSem.list (sys w h₁ os mg mb) 0 _ _ _ h1
    have h4 := @SubSem.list (sys w h₁ os mg mb) 0 _ _ _ h2
    walk_at "mk"
theorem si_f {rows r : List AV} {pv x : AV} {i j : Int} (h1 : atI rows i = some (.lst r)) (h2 : atI r j = some x) : SubSem (sys w h₁ os mg mb) 2 (matV false rows pv) (.tup [.int i, .int j]) x := SubSem.inst (f := 77) rfl (by kernel_rfl) (by kernel_rfl) (c_itemf h1 h2)
theorem c_itemt {rows r : List AV} {pv x : AV} {i j : Int} (h1 : atI rows j = some (.lst r)) (h2 : atI r i = some x) : FnSem (sys w h₁ os mg mb) 1 77 [matV true rows pv, .tup [.int i, .int j]] [] x := by
  refine FnSem.of (n := 0) (f := 77) ⟨rfl, rfl, rfl, rfl, rfl, ?_, rfl, rfl, rfl, rfl, rfl, rfl⟩ (Binds.p2 (x := Hd.s45) (y := Hd.s73) ?_) ?_ ?_ ?_
  · kernel_rfl
  · intro v u S'; kernel_rfl
  · kernel_rfl
  · exact of_decide_eq_true (by kernel_rfl)
  · have h3 := @SubSem.list (sys w h₁ os mg mb) 0 _ _ _ h1
    have h4 := @SubSem.list (sys w h₁ os mg mb) 0 _ _ _ h2
    walk_at "mk"
theorem si_t {rows r : List AV} {pv x : AV} {i j : Int} (h1 : atI rows j = some (.lst r)) (h2 : atI r i = some x) : SubSem (sys w h₁ os mg mb) 2 (matV true rows pv) (.tup [.int i, .int j]) x := SubSem.inst (f := 77) rfl (by kernel_rfl) (by kernel_rfl) (c_itemt h1 h2)
end
end
section
open PySem PySem.Spec PySem.Calls PyProof.Rows PySem.W
section
variable {w : World} {h₁ : Heap} {os : OsState} {mg mb : Str → Option Value}
theorem c_modcall22 {q n : Int} {a : Addr} {t : Bool} {a00 a01 a10 a11 : List AV} : FnSem (sys w h₁ os mg mb) 6 176 [modV a (rngV q n), .lst [.lst [polV q n a00, polV q n a01], .lst [polV q n a10, polV q n a11]], .bool t] [] (matV t [.lst [polV q n a00, polV q n a01], .lst [polV q n a10, polV q n a11]] (modV a (rngV q n))) := by
  refine FnSem.of (n := 5) (f := 176) ⟨rfl, rfl, rfl, rfl, rfl, ?_, rfl, rfl, rfl, rfl, rfl, rfl⟩ (Binds.p3 (x := Hd.s45) (y := Hd.s134) (z := Hd.s29) ?_) ?_ ?_ ?_
  · kernel_rfl
  · intro v u t S'; kernel_rfl
  · kernel_rfl
  · exact of_decide_eq_true (by kernel_rfl)
  · have h0 := @c_matof22 w h₁ os mg mb t a (rngV q n) (polV q n a00) (polV q n a01) (polV q n a10) (polV q n a11)
    have h1 := @c_isel w h₁ os mg mb q n n a00
    have h2 := @c_isel w h₁ os mg mb q n n a01
    have h3 := @c_isel w h₁ os mg mb q n n a10
    have h4 := @c_isel w h₁ os mg mb q n n a11
    walk_at "mk"
theorem cm_22 {q n : Int} {a : Addr} {t : Bool} {a00 a01 a10 a11 : List AV} : CallSem (sys w h₁ os mg mb) 6 (modV a (rngV q n)) [.lst [.lst [polV q n a00, polV q n a01], .lst [polV q n a10, polV q n a11]], .bool t] [] (matV t [.lst [polV q n a00, polV q n a01], .lst [polV q n a10, polV q n a11]] (modV a (rngV q n))) := CallSem.inst rfl (by kernel_rfl) (by kernel_rfl) c_modcall22
theorem c_modcall22d {q n : Int} {a : Addr} {a00 a01 a10 a11 : List AV} : FnSem (sys w h₁ os mg mb) 6 176 [modV a (rngV q n), .lst [.lst [polV q n a00, polV q n a01], .lst [polV q n a10, polV q n a11]]] [] (matV false [.lst [polV q n a00, polV q n a01], .lst [polV q n a10, polV q n a11]] (modV a (rngV q n))) := by
  refine FnSem.of (n := 5) (f := 176) ⟨rfl, rfl, rfl, rfl, rfl, ?_, rfl, rfl, rfl, rfl, rfl, rfl⟩ (Binds.p2d (d := false) (x := Hd.s45) (y := Hd.s134) (z := Hd.s29) ?_) ?_ ?_ ?_
  · kernel_rfl
  · intro v u S'; kernel_rfl
  · kernel_rfl
  · exact of_decide_eq_true (by kernel_rfl)
  · have h0 := @c_matof22 w h₁ os mg mb false a (rngV q n) (polV q n a00) (polV q n a01) (polV q n a10) (polV q n a11)
    have h1 := @c_isel w h₁ os mg mb q n n a00
    have h2 := @c_isel w h₁ os mg mb q n n a01
    have h3 := @c_isel w h₁ os mg mb q n n a10
    have h4 := @c_isel w h₁ os mg mb q n n a11
    walk_at "mk"
theorem cm_22d {q n : Int} {a : Addr} {a00 a01 a10 a11 : List AV} : CallSem (sys w h₁ os mg mb) 6 (modV a (rngV q n)) [.lst [.lst [polV q n a00, polV q n a01], .lst [polV q n a10, polV q n a11]]] [] (matV false [.lst [polV q n a00, polV q n a01], .lst [polV q n a10, polV q n a11]] (modV a (rngV q n))) := CallSem.inst rfl (by kernel_rfl) (by kernel_rfl) c_modcall22d
theorem c_modcall33 {q n : Int} {a : Addr} {t : Bool} {a00 a01 a02 a10 a11 a12 a20 a21 a22 : List AV} : FnSem (sys w h₁ os mg mb) 6 176 [modV a (rngV q n), .lst [.lst [polV q n a00, polV q n a01, polV q n a02], .lst [polV q n a10, polV q n a11, polV q n a12], .lst [polV q n a20, polV q n a21, polV q n a22]], .bool t] [] (matV t [.lst [polV q n a00, polV q n a01, polV q n a02], .lst [polV q n a10, polV q n a11, polV q n a12], .lst [polV q n a20, polV q n a21, polV q n a22]] (modV a (rngV q n))) := by
  refine FnSem.of (n := 5) (f := 176) ⟨rfl, rfl, rfl, rfl, rfl, ?_, rfl, rfl, rfl, rfl, rfl, rfl⟩ (Binds.p3 (x := Hd.s45) (y := Hd.s134) (z := Hd.s29) ?_) ?_ ?_ ?_
  · kernel_rfl
  · intro v u t S'; kernel_rfl
  · kernel_rfl
  · exact of_decide_eq_true (by kernel_rfl)
  · have h0 := @c_matof33 w h₁ os mg mb t a (rngV q n) (polV q n a00) (polV q n a01) (polV q n a02) (polV q n a10) (polV q n a11) (polV q n a12) (polV q n a20) (polV q n a21) (polV q n a22)
    have h1 := @c_isel w h₁ os mg mb q n n a00
    have h2 := @c_isel w h₁ os mg mb q n n a01
    have h3 := @c_isel w h₁ os mg mb q n n a02
    have h4 := @c_isel w h₁ os mg mb q n n a10
    have h5 := @c_isel w h₁ os mg mb q n n a11
    have h6 := @c_isel w h₁ os mg mb q n n a12
    have h7 := @c_isel w h₁ os mg mb q n n a20
    have h8 := @c_isel w h₁ os mg mb q n n a21
    have h9 := @c_isel w h₁ os mg mb q n n a22
    walk_at "mk"
theorem cm_33 {q n : Int} {a : Addr} {t : Bool} {a00 a01 a02 a10 a11 a12 a20 a21 a22 : List AV} : CallSem (sys w h₁ os mg mb) 6 (modV a (rngV q n)) [.lst [.lst [polV q n a00, polV q n a01, polV q n a02], .lst [polV q n a10, polV q n a11, polV q n a12], .lst [polV q n a20, polV q n a21, polV q n a22]], .bool t] [] (matV t [.lst [polV q n a00, polV q n a01, polV q n a02], .lst [polV q n a10, polV q n a11, polV q n a12], .lst [polV q n a20, polV q n a21, polV q n a22]] (modV a (rngV q n))) := CallSem.inst rfl (by kernel_rfl) (by kernel_rfl) c_modcall33
theorem c_modcall33d {q n : Int} {a : Addr} {a00 a01 a02 a10 a11 a12 a20 a21 a22 : List AV} : FnSem (sys w h₁ os mg mb) 6 176 [modV a (rngV q n), .lst [.lst [polV q n a00, polV q n a01, polV q n a02], .lst [polV q n a10, polV q n a11, polV q n a12], .lst [polV q n a20, polV q n a21, polV q n a22]]] [] (matV false [.lst [polV q n a00, polV q n a01, polV q n a02], .lst [polV q n a10, polV q n a11, polV q n a12], .lst [polV q n a20, polV q n a21, polV q n a22]] (modV a (rngV q n))) := by
  refine FnSem.of (n := 5) (f := 176) ⟨rfl, rfl, rfl, rfl, rfl, ?_, rfl, rfl, rfl, rfl, rfl, rfl⟩ (Binds.p2d (d := false) (x := Hd.s45) (y := Hd.s134) (z := Hd.s29) ?_) ?_ ?_ ?_
  · kernel_rfl
  · intro v u S'; kernel_rfl
  · kernel_rfl
  · exact of_decide_eq_true (by kernel_rfl)
  · have h0 := @c_matof33 w h₁ os mg mb false a (rngV q n) (polV q n a00) (polV q n a01) (polV q n a02) (polV q n a10) (polV q n a11) (polV q n a12) (polV q n a20) (polV q n a21) (polV q n a22)
    have h1 := @c_isel w h₁ os mg mb q n n a00
    have h2 := @c_isel w h₁ os mg mb q n n a01
    have h3 := @c_isel w h₁ os mg mb q n n a02
    have h4 := @c_isel w h₁ os mg mb q n n a10
    have h5 := @c_isel w h₁ os mg mb q n n a11
    have h6 := @c_isel w h₁ os mg mb q n n a12
    have h7 := @c_isel w h₁ os mg mb q n n a20
    have h8 := @c_isel w h₁ os mg mb q n n a21
    have h9 := @c_isel w h₁ os mg mb q n n a22
    walk_at "mk"
theorem cm_33d {q n : Int} {a : Addr} {a00 a01 a02 a10 a11 a12 a20 a21 a22 : List AV} : CallSem (sys w h₁ os mg mb) 6 (modV a (rngV q n)) [.lst [.lst [polV q n a00, polV q n a01, polV q n a02], .lst [polV q n a10, polV q n a11, polV q n a12], .lst [polV q n a20, polV q n a21, polV q n a22]]] [] (matV false [.lst [polV q n a00, polV q n a01, polV q n a02], .lst [polV q n a10, polV q n a11, polV q n a12], .lst [polV q n a20, polV q n a21, polV q n a22]] (modV a (rngV q n))) := CallSem.inst rfl (by kernel_rfl) (by kernel_rfl) c_modcall33d
end
end
section
open PySem PySem.Spec PySem.Calls PyProof.Rows PySem.W
structure C3 where
  x : Int
  y : Int
  z : Int
noncomputable def cs (q n : Int) (p : C3) : List AV := bif n == 2 then [.int (p.x % q), .int (p.y % q)] else [.int (p.x % q), .int (p.y % q), .int (p.z % q)]
noncomputable abbrev PV (q n : Int) (p : C3) : AV := polV q n (cs q n p)
noncomputable def mulC (n : Int) (p r : C3) : C3 := bif n == 2 then ⟨p.x * r.x - p.y * r.y, p.x * r.y + p.y * r.x, 0⟩ else ⟨p.x * r.x - p.z * r.y - p.y * r.z, p.x * r.y + p.y * r.x - p.z * r.z, p.x * r.z + p.y * r.y + p.z * r.x⟩
noncomputable def addC (p r : C3) : C3 := ⟨p.x + r.x, p.y + r.y, p.z + r.z⟩
noncomputable def subC (p r : C3) : C3 := ⟨p.x - r.x, p.y - r.y, p.z - r.z⟩
noncomputable def negC (p : C3) : C3 := ⟨-p.x, -p.y, -p.z⟩
noncomputable def scaC (p : C3) (k : Int) : C3 := ⟨p.x * k, p.y * k, p.z * k⟩
noncomputable def shC (p : C3) (k : Int) : C3 := ⟨p.x + k, p.y, p.z⟩
theorem cs_congr {q n : Int} {p r : C3} (hx : p.x = r.x) (hy : p.y = r.y) (hz : n = 2 ∨ p.z = r.z) : cs q n p = cs q n r := by
  unfold cs
  rw [hx, hy]
  rcases hz with rfl | h
  · rfl
  · rw [h]
theorem cs_dec {q n : Int} {p r : C3} (hx : p.x = r.x) (hy : p.y = r.y) (hz : n = 2 ∨ p.z = r.z) : (bif n == 2 then decide ([p.x % q, p.y % q] = [r.x % q, r.y % q]) else decide ([p.x % q, p.y % q, p.z % q] = [r.x % q, r.y % q, r.z % q])) = true := by
  rw [hx, hy]
  rcases hz with rfl | h
  · exact decide_eq_true rfl
  · rw [h]; cases n == 2 <;> exact decide_eq_true rfl
section
variable {w : World} {h₁ : Heap} {os : OsState} {mg mb : Str → Option Value}
theorem bP_mul {q n : Int} {p r : C3} (hn : n = 2 ∨ n = 3) (hq : 0 < q) (hq2 : q < 2 ^ 63) : BinSem (sys w h₁ os mg mb) 5 .Mult (PV q n p) (PV q n r) (PV q n (mulC n p r)) := by
  rcases hn with rfl | rfl
  · exact b_mul2 hq hq2
  · exact b_mul3 hq hq2
theorem bP_add {q n : Int} {p r : C3} (hn : n = 2 ∨ n = 3) (hq : 0 < q) : BinSem (sys w h₁ os mg mb) 5 .Add (PV q n p) (PV q n r) (PV q n (addC p r)) := by
  rcases hn with rfl | rfl
  · exact b_add2 hq
  · exact b_add3 hq
theorem bP_sub {q n : Int} {p r : C3} (hn : n = 2 ∨ n = 3) (hq : 0 < q) : BinSem (sys w h₁ os mg mb) 5 .Sub (PV q n p) (PV q n r) (PV q n (subC p r)) := by
  rcases hn with rfl | rfl
  · exact b_sub2 hq
  · exact b_sub3 hq
theorem bP_muli {q n : Int} {p : C3} {k : Int} (hn : n = 2 ∨ n = 3) (hq : 0 < q) (hq2 : q < 2 ^ 63) : BinSem (sys w h₁ os mg mb) 5 .Mult (PV q n p) (.int k) (PV q n (scaC p k)) := by
  rcases hn with rfl | rfl
  · exact b_muli2 hq hq2
  · exact b_muli3 hq hq2
theorem bP_addi {q n : Int} {p : C3} {k : Int} (hn : n = 2 ∨ n = 3) (hq : 0 < q) : BinSem (sys w h₁ os mg mb) 5 .Add (PV q n p) (.int k) (PV q n (shC p k)) := by
  rcases hn with rfl | rfl
  · exact b_addi2 hq
  · exact b_addi3 hq
theorem bP_imul {q n : Int} {p : C3} {k : Int} (hn : n = 2 ∨ n = 3) (hq : 0 < q) (hq2 : q < 2 ^ 63) : BinSem (sys w h₁ os mg mb) 6 .Mult (.int k) (PV q n p) (PV q n (scaC p k)) := by
  rcases hn with rfl | rfl
  · exact b_imul2 hq hq2
  · exact b_imul3 hq hq2
theorem bP_iadd {q n : Int} {p : C3} {k : Int} (hn : n = 2 ∨ n = 3) (hq : 0 < q) : BinSem (sys w h₁ os mg mb) 6 .Add (.int k) (PV q n p) (PV q n (shC p k)) := by
  rcases hn with rfl | rfl
  · exact b_iadd2 hq
  · exact b_iadd3 hq
theorem bP_0add {q n : Int} {p : C3} (hn : n = 2 ∨ n = 3) (hq : 0 < q) : BinSem (sys w h₁ os mg mb) 6 .Add (.int 0) (PV q n p) (PV q n p) := by
  have h := @bP_iadd w h₁ os mg mb q n p 0 hn hq
  have e : cs q n (shC p 0) = cs q n p := cs_congr (Int.add_zero _) rfl (.inr rfl)
  rw [show PV q n (shC p 0) = PV q n p by unfold PV; rw [e]] at h
  exact h
theorem bP_ne {q n : Int} {p r : C3} (hn : n = 2 ∨ n = 3) (hx : p.x = r.x) (hy : p.y = r.y) (hz : n = 2 ∨ p.z = r.z) : CmpSem (sys w h₁ os mg mb) 2 .NotEq (PV q n p) (PV q n r) (.bool false) := by
  have e := cs_dec (q := q) hx hy hz
  rcases hn with rfl | rfl
  · have h := @b_ne2 w h₁ os mg mb q p.x p.y r.x r.y
    rw [show decide (([(p.x % q), (p.y % q)] : List Int) = [(r.x % q), (r.y % q)]) = true from e] at h
    exact h
  · have h := @b_ne3 w h₁ os mg mb q p.x p.y p.z r.x r.y r.z
    rw [show decide (([(p.x % q), (p.y % q), (p.z % q)] : List Int) = [(r.x % q), (r.y % q), (r.z % q)]) = true from e] at h
    exact h
theorem bP_pow {q n : Int} (hn : n = 2 ∨ n = 3) (hq : 0 < q) (hq2 : q < 2 ^ 63) (h1 : 1 < q) : FnSem (sys w h₁ os mg mb) 6 374 [PV q n ⟨0, 1, 0⟩, .int n] [] (PV q n ⟨-1, 0, 0⟩) := by
  rcases hn with rfl | rfl
  · exact c_powX2 hq hq2 h1
  · exact c_powX3 hq hq2 h1
theorem cP_gen {q n : Int} (hn : n = 2 ∨ n = 3) (h1 : 1 < q) : FnSem (sys w h₁ os mg mb) 5 211 [rngV q n] [] (PV q n ⟨0, 1, 0⟩) := by
  rcases hn with rfl | rfl
  · exact c_X2 h1
  · exact c_X3 h1
theorem cP_isz {q n : Int} (hn : n = 2 ∨ n = 3) : FnSem (sys w h₁ os mg mb) 5 253 [PV q n ⟨0, 0, 0⟩] [] (.bool true) := by
  have e0 : (0 : Int) % q = 0 := Int.zero_emod q
  rcases hn with rfl | rfl
  · have h := @c_isz2 w h₁ os mg mb q 0 0
    rw [e0] at h
    show FnSem _ _ _ [polV q 2 [.int (0 % q), .int (0 % q)]] _ _
    rw [e0]
    exact h
  · have h := @c_isz3 w h₁ os mg mb q 0 0 0
    rw [e0] at h
    show FnSem _ _ _ [polV q 3 [.int (0 % q), .int (0 % q), .int (0 % q)]] _ _
    rw [e0]
    exact h
end
end
local macro_rules | `(tactic| walk_at "mbin") => `(tactic| (with_reducible first
  | exact BinSem.up (bP_mul (by assumption) (by assumption) (by assumption)) (by decide)
  | exact BinSem.up (bP_add (by assumption) (by assumption)) (by decide)
  | exact BinSem.up (bP_sub (by assumption) (by assumption)) (by decide)
  | exact BinSem.up (bP_muli (by assumption) (by assumption) (by assumption)) (by decide)
  | exact BinSem.up (bP_addi (by assumption) (by assumption)) (by decide)
  | exact BinSem.up (bP_0add (by assumption) (by assumption)) (by decide)
  | exact BinSem.up (bP_imul (by assumption) (by assumption) (by assumption)) (by decide)
  | exact BinSem.up (bP_iadd (by assumption) (by assumption)) (by decide)
  | exact UnSem.up (bP_neg (by assumption) (by assumption)) (by decide)))
local macro_rules | `(tactic| walk_at "mbin") => `(tactic| (first
  | ((apply SubSem.up (m := 2)); (· ((apply si_f); (· rfl); (· rfl))); (· decide))
  | ((apply SubSem.up (m := 2)); (· ((apply si_t); (· rfl); (· rfl))); (· decide))))
section
open PySem PySem.Spec PySem.Calls PyProof.Rows PySem.W
section
variable {w : World} {h₁ : Heap} {os : OsState} {mg mb : Str → Option Value}
theorem c_trans22 {q n : Int} {a : Addr} {a00 a01 a10 a11 : List AV} : FnSem (sys w h₁ os mg mb) 7 55 [matV false [.lst [polV q n a00, polV q n a01], .lst [polV q n a10, polV q n a11]] (modV a (rngV q n))] [] (matV true [.lst [polV q n a00, polV q n a01], .lst [polV q n a10, polV q n a11]] (modV a (rngV q n))) := by
  refine FnSem.of (n := 6) (f := 55) ⟨rfl, rfl, rfl, rfl, rfl, ?_, rfl, rfl, rfl, rfl, rfl, rfl⟩ (Binds.p1 (x := Hd.s45) ?_) ?_ ?_ ?_
  · kernel_rfl
  · intro v S'; kernel_rfl
  · kernel_rfl
  · exact of_decide_eq_true (by kernel_rfl)
  · have h0 := @cm_22 w h₁ os mg mb q n a true a00 a01 a10 a11
    walk_at "mk"
theorem c_trans33 {q n : Int} {a : Addr} {a00 a01 a02 a10 a11 a12 a20 a21 a22 : List AV} : FnSem (sys w h₁ os mg mb) 7 55 [matV false [.lst [polV q n a00, polV q n a01, polV q n a02], .lst [polV q n a10, polV q n a11, polV q n a12], .lst [polV q n a20, polV q n a21, polV q n a22]] (modV a (rngV q n))] [] (matV true [.lst [polV q n a00, polV q n a01, polV q n a02], .lst [polV q n a10, polV q n a11, polV q n a12], .lst [polV q n a20, polV q n a21, polV q n a22]] (modV a (rngV q n))) := by
  refine FnSem.of (n := 6) (f := 55) ⟨rfl, rfl, rfl, rfl, rfl, ?_, rfl, rfl, rfl, rfl, rfl, rfl⟩ (Binds.p1 (x := Hd.s45) ?_) ?_ ?_ ?_
  · kernel_rfl
  · intro v S'; kernel_rfl
  · kernel_rfl
  · exact of_decide_eq_true (by kernel_rfl)
  · have h0 := @cm_33 w h₁ os mg mb q n a true a00 a01 a02 a10 a11 a12 a20 a21 a22
    walk_at "mk"
theorem c_mm222ft {q n : Int} {a : Addr} {a00 a01 a10 a11 b00 b01 b10 b11 : C3} (hn : n = 2 ∨ n = 3) (hq : 0 < q) (hq2 : q < 2 ^ 63) : FnSem (sys w h₁ os mg mb) 12 125 [matV false [.lst [PV q n a00, PV q n a01], .lst [PV q n a10, PV q n a11]] (modV a (rngV q n)), matV true [.lst [PV q n b00, PV q n b10], .lst [PV q n b01, PV q n b11]] (modV a (rngV q n))] [] (matV false [.lst [PV q n (addC (mulC n a00 b00) (mulC n a01 b10)), PV q n (addC (mulC n a00 b01) (mulC n a01 b11))], .lst [PV q n (addC (mulC n a10 b00) (mulC n a11 b10)), PV q n (addC (mulC n a10 b01) (mulC n a11 b11))]] (modV a (rngV q n))) := by
  refine FnSem.of (n := 11) (f := 125) ⟨rfl, rfl, rfl, rfl, rfl, ?_, rfl, rfl, rfl, rfl, rfl, rfl⟩ (Binds.p2 (x := Hd.s45) (y := Hd.s82) ?_) ?_ ?_ ?_
  · kernel_rfl
  · intro v u S'; kernel_rfl
  · kernel_rfl
  · exact of_decide_eq_true (by kernel_rfl)
  · have h0 := @c_dim22f w h₁ os mg mb (modV a (rngV q n)) (PV q n a00) (PV q n a01) (PV q n a10) (PV q n a11)
    have h1 := @c_dim22t w h₁ os mg mb (modV a (rngV q n)) (PV q n b00) (PV q n b10) (PV q n b01) (PV q n b11)
    have h2 := @cm_22d w h₁ os mg mb q n a (cs q n (addC (mulC n a00 b00) (mulC n a01 b10))) (cs q n (addC (mulC n a00 b01) (mulC n a01 b11))) (cs q n (addC (mulC n a10 b00) (mulC n a11 b10))) (cs q n (addC (mulC n a10 b01) (mulC n a11 b11)))
    walk_at "mk"
theorem b_mm222ft {q n : Int} {a : Addr} {a00 a01 a10 a11 b00 b01 b10 b11 : C3} (hn : n = 2 ∨ n = 3) (hq : 0 < q) (hq2 : q < 2 ^ 63) : BinSem (sys w h₁ os mg mb) 12 .MatMult (matV false [.lst [PV q n a00, PV q n a01], .lst [PV q n a10, PV q n a11]] (modV a (rngV q n))) (matV true [.lst [PV q n b00, PV q n b10], .lst [PV q n b01, PV q n b11]] (modV a (rngV q n))) (matV false [.lst [PV q n (addC (mulC n a00 b00) (mulC n a01 b10)), PV q n (addC (mulC n a00 b01) (mulC n a01 b11))], .lst [PV q n (addC (mulC n a10 b00) (mulC n a11 b10)), PV q n (addC (mulC n a10 b01) (mulC n a11 b11))]] (modV a (rngV q n))) := BinSem.same rfl rfl (by kernel_rfl) (by kernel_rfl) (c_mm222ft hn hq hq2) rfl
theorem c_mm222tf {q n : Int} {a : Addr} {a00 a01 a10 a11 b00 b01 b10 b11 : C3} (hn : n = 2 ∨ n = 3) (hq : 0 < q) (hq2 : q < 2 ^ 63) : FnSem (sys w h₁ os mg mb) 12 125 [matV true [.lst [PV q n a00, PV q n a10], .lst [PV q n a01, PV q n a11]] (modV a (rngV q n)), matV false [.lst [PV q n b00, PV q n b01], .lst [PV q n b10, PV q n b11]] (modV a (rngV q n))] [] (matV false [.lst [PV q n (addC (mulC n a00 b00) (mulC n a01 b10)), PV q n (addC (mulC n a00 b01) (mulC n a01 b11))], .lst [PV q n (addC (mulC n a10 b00) (mulC n a11 b10)), PV q n (addC (mulC n a10 b01) (mulC n a11 b11))]] (modV a (rngV q n))) := by
  refine FnSem.of (n := 11) (f := 125) ⟨rfl, rfl, rfl, rfl, rfl, ?_, rfl, rfl, rfl, rfl, rfl, rfl⟩ (Binds.p2 (x := Hd.s45) (y := Hd.s82) ?_) ?_ ?_ ?_
  · kernel_rfl
  · intro v u S'; kernel_rfl
  · kernel_rfl
  · exact of_decide_eq_true (by kernel_rfl)
  · have h0 := @c_dim22t w h₁ os mg mb (modV a (rngV q n)) (PV q n a00) (PV q n a10) (PV q n a01) (PV q n a11)
    have h1 := @c_dim22f w h₁ os mg mb (modV a (rngV q n)) (PV q n b00) (PV q n b01) (PV q n b10) (PV q n b11)
    have h2 := @cm_22d w h₁ os mg mb q n a (cs q n (addC (mulC n a00 b00) (mulC n a01 b10))) (cs q n (addC (mulC n a00 b01) (mulC n a01 b11))) (cs q n (addC (mulC n a10 b00) (mulC n a11 b10))) (cs q n (addC (mulC n a10 b01) (mulC n a11 b11)))
    walk_at "mk"
theorem b_mm222tf {q n : Int} {a : Addr} {a00 a01 a10 a11 b00 b01 b10 b11 : C3} (hn : n = 2 ∨ n = 3) (hq : 0 < q) (hq2 : q < 2 ^ 63) : BinSem (sys w h₁ os mg mb) 12 .MatMult (matV true [.lst [PV q n a00, PV q n a10], .lst [PV q n a01, PV q n a11]] (modV a (rngV q n))) (matV false [.lst [PV q n b00, PV q n b01], .lst [PV q n b10, PV q n b11]] (modV a (rngV q n))) (matV false [.lst [PV q n (addC (mulC n a00 b00) (mulC n a01 b10)), PV q n (addC (mulC n a00 b01) (mulC n a01 b11))], .lst [PV q n (addC (mulC n a10 b00) (mulC n a11 b10)), PV q n (addC (mulC n a10 b01) (mulC n a11 b11))]] (modV a (rngV q n))) := BinSem.same rfl rfl (by kernel_rfl) (by kernel_rfl) (c_mm222tf hn hq hq2) rfl
theorem c_mm222ff {q n : Int} {a : Addr} {a00 a01 a10 a11 b00 b01 b10 b11 : C3} (hn : n = 2 ∨ n = 3) (hq : 0 < q) (hq2 : q < 2 ^ 63) : FnSem (sys w h₁ os mg mb) 12 125 [matV false [.lst [PV q n a00, PV q n a01], .lst [PV q n a10, PV q n a11]] (modV a (rngV q n)), matV false [.lst [PV q n b00, PV q n b01], .lst [PV q n b10, PV q n b11]] (modV a (rngV q n))] [] (matV false [.lst [PV q n (addC (mulC n a00 b00) (mulC n a01 b10)), PV q n (addC (mulC n a00 b01) (mulC n a01 b11))], .lst [PV q n (addC (mulC n a10 b00) (mulC n a11 b10)), PV q n (addC (mulC n a10 b01) (mulC n a11 b11))]] (modV a (rngV q n))) := by
  refine FnSem.of (n := 11) (f := 125) ⟨rfl, rfl, rfl, rfl, rfl, ?_, rfl, rfl, rfl, rfl, rfl, rfl⟩ (Binds.p2 (x := Hd.s45) (y := Hd.s82) ?_) ?_ ?_ ?_
  · kernel_rfl
  · intro v u S'; kernel_rfl
  · kernel_rfl
  · exact of_decide_eq_true (by kernel_rfl)
  · have h0 := @c_dim22f w h₁ os mg mb (modV a (rngV q n)) (PV q n a00) (PV q n a01) (PV q n a10) (PV q n a11)
    have h1 := @c_dim22f w h₁ os mg mb (modV a (rngV q n)) (PV q n b00) (PV q n b01) (PV q n b10) (PV q n b11)
    have h2 := @cm_22d w h₁ os mg mb q n a (cs q n (addC (mulC n a00 b00) (mulC n a01 b10))) (cs q n (addC (mulC n a00 b01) (mulC n a01 b11))) (cs q n (addC (mulC n a10 b00) (mulC n a11 b10))) (cs q n (addC (mulC n a10 b01) (mulC n a11 b11)))
    walk_at "mk"
theorem b_mm222ff {q n : Int} {a : Addr} {a00 a01 a10 a11 b00 b01 b10 b11 : C3} (hn : n = 2 ∨ n = 3) (hq : 0 < q) (hq2 : q < 2 ^ 63) : BinSem (sys w h₁ os mg mb) 12 .MatMult (matV false [.lst [PV q n a00, PV q n a01], .lst [PV q n a10, PV q n a11]] (modV a (rngV q n))) (matV false [.lst [PV q n b00, PV q n b01], .lst [PV q n b10, PV q n b11]] (modV a (rngV q n))) (matV false [.lst [PV q n (addC (mulC n a00 b00) (mulC n a01 b10)), PV q n (addC (mulC n a00 b01) (mulC n a01 b11))], .lst [PV q n (addC (mulC n a10 b00) (mulC n a11 b10)), PV q n (addC (mulC n a10 b01) (mulC n a11 b11))]] (modV a (rngV q n))) := BinSem.same rfl rfl (by kernel_rfl) (by kernel_rfl) (c_mm222ff hn hq hq2) rfl
end
end
section
open PySem PySem.Spec PySem.Calls PyProof.Rows PySem.W
section
variable {w : World} {h₁ : Heap} {os : OsState} {mg mb : Str → Option Value}
theorem c_mm333ft {q n : Int} {a : Addr} {a00 a01 a02 a10 a11 a12 a20 a21 a22 b00 b01 b02 b10 b11 b12 b20 b21 b22 : C3} (hn : n = 2 ∨ n = 3) (hq : 0 < q) (hq2 : q < 2 ^ 63) : FnSem (sys w h₁ os mg mb) 12 125 [matV false [.lst [PV q n a00, PV q n a01, PV q n a02], .lst [PV q n a10, PV q n a11, PV q n a12], .lst [PV q n a20, PV q n a21, PV q n a22]] (modV a (rngV q n)), matV true [.lst [PV q n b00, PV q n b10, PV q n b20], .lst [PV q n b01, PV q n b11, PV q n b21], .lst [PV q n b02, PV q n b12, PV q n b22]] (modV a (rngV q n))] [] (matV false [.lst [PV q n (addC (addC (mulC n a00 b00) (mulC n a01 b10)) (mulC n a02 b20)), PV q n (addC (addC (mulC n a00 b01) (mulC n a01 b11)) (mulC n a02 b21)), PV q n (addC (addC (mulC n a00 b02) (mulC n a01 b12)) (mulC n a02 b22))], .lst [PV q n (addC (addC (mulC n a10 b00) (mulC n a11 b10)) (mulC n a12 b20)), PV q n (addC (addC (mulC n a10 b01) (mulC n a11 b11)) (mulC n a12 b21)), PV q n (addC (addC (mulC n a10 b02) (mulC n a11 b12)) (mulC n a12 b22))], .lst [PV q n (addC (addC (mulC n a20 b00) (mulC n a21 b10)) (mulC n a22 b20)), PV q n (addC (addC (mulC n a20 b01) (mulC n a21 b11)) (mulC n a22 b21)), PV q n (addC (addC (mulC n a20 b02) (mulC n a21 b12)) (mulC n a22 b22))]] (modV a (rngV q n))) := by
  refine FnSem.of (n := 11) (f := 125) ⟨rfl, rfl, rfl, rfl, rfl, ?_, rfl, rfl, rfl, rfl, rfl, rfl⟩ (Binds.p2 (x := Hd.s45) (y := Hd.s82) ?_) ?_ ?_ ?_
  · kernel_rfl
  · intro v u S'; kernel_rfl
  · kernel_rfl
  · exact of_decide_eq_true (by kernel_rfl)
  · have h0 := @c_dim33f w h₁ os mg mb (modV a (rngV q n)) (PV q n a00) (PV q n a01) (PV q n a02) (PV q n a10) (PV q n a11) (PV q n a12) (PV q n a20) (PV q n a21) (PV q n a22)
    have h1 := @c_dim33t w h₁ os mg mb (modV a (rngV q n)) (PV q n b00) (PV q n b10) (PV q n b20) (PV q n b01) (PV q n b11) (PV q n b21) (PV q n b02) (PV q n b12) (PV q n b22)
    have h2 := @cm_33d w h₁ os mg mb q n a (cs q n (addC (addC (mulC n a00 b00) (mulC n a01 b10)) (mulC n a02 b20))) (cs q n (addC (addC (mulC n a00 b01) (mulC n a01 b11)) (mulC n a02 b21))) (cs q n (addC (addC (mulC n a00 b02) (mulC n a01 b12)) (mulC n a02 b22))) (cs q n (addC (addC (mulC n a10 b00) (mulC n a11 b10)) (mulC n a12 b20))) (cs q n (addC (addC (mulC n a10 b01) (mulC n a11 b11)) (mulC n a12 b21))) (cs q n (addC (addC (mulC n a10 b02) (mulC n a11 b12)) (mulC n a12 b22))) (cs q n (addC (addC (mulC n a20 b00) (mulC n a21 b10)) (mulC n a22 b20))) (cs q n (addC (addC (mulC n a20 b01) (mulC n a21 b11)) (mulC n a22 b21))) (cs q n (addC (addC (mulC n a20 b02) (mulC n a21 b12)) (mulC n a22 b22)))
    walk_at "mk"
theorem b_mm333ft {q n : Int} {a : Addr} {a00 a01 a02 a10 a11 a12 a20 a21 a22 b00 b01 b02 b10 b11 b12 b20 b21 b22 : C3} (hn : n = 2 ∨ n = 3) (hq : 0 < q) (hq2 : q < 2 ^ 63) : BinSem (sys w h₁ os mg mb) 12 .MatMult (matV false [.lst [PV q n a00, PV q n a01, PV q n a02], .lst [PV q n a10, PV q n a11, PV q n a12], .lst [PV q n a20, PV q n a21, PV q n a22]] (modV a (rngV q n))) (matV true [.lst [PV q n b00, PV q n b10, PV q n b20], .lst [PV q n b01, PV q n b11, PV q n b21], .lst [PV q n b02, PV q n b12, PV q n b22]] (modV a (rngV q n))) (matV false [.lst [PV q n (addC (addC (mulC n a00 b00) (mulC n a01 b10)) (mulC n a02 b20)), PV q n (addC (addC (mulC n a00 b01) (mulC n a01 b11)) (mulC n a02 b21)), PV q n (addC (addC (mulC n a00 b02) (mulC n a01 b12)) (mulC n a02 b22))], .lst [PV q n (addC (addC (mulC n a10 b00) (mulC n a11 b10)) (mulC n a12 b20)), PV q n (addC (addC (mulC n a10 b01) (mulC n a11 b11)) (mulC n a12 b21)), PV q n (addC (addC (mulC n a10 b02) (mulC n a11 b12)) (mulC n a12 b22))], .lst [PV q n (addC (addC (mulC n a20 b00) (mulC n a21 b10)) (mulC n a22 b20)), PV q n (addC (addC (mulC n a20 b01) (mulC n a21 b11)) (mulC n a22 b21)), PV q n (addC (addC (mulC n a20 b02) (mulC n a21 b12)) (mulC n a22 b22))]] (modV a (rngV q n))) := BinSem.same rfl rfl (by kernel_rfl) (by kernel_rfl) (c_mm333ft hn hq hq2) rfl
theorem c_mm333ff {q n : Int} {a : Addr} {a00 a01 a02 a10 a11 a12 a20 a21 a22 b00 b01 b02 b10 b11 b12 b20 b21 b22 : C3} (hn : n = 2 ∨ n = 3) (hq : 0 < q) (hq2 : q < 2 ^ 63) : FnSem (sys w h₁ os mg mb) 12 125 [matV false [.lst [PV q n a00, PV q n a01, PV q n a02], .lst [PV q n a10, PV q n a11, PV q n a12], .lst [PV q n a20, PV q n a21, PV q n a22]] (modV a (rngV q n)), matV false [.lst [PV q n b00, PV q n b01, PV q n b02], .lst [PV q n b10, PV q n b11, PV q n b12], .lst [PV q n b20, PV q n b21, PV q n b22]] (modV a (rngV q n))] [] (matV false [.lst [PV q n (addC (addC (mulC n a00 b00) (mulC n a01 b10)) (mulC n a02 b20)), PV q n (addC (addC (mulC n a00 b01) (mulC n a01 b11)) (mulC n a02 b21)), PV q n (addC (addC (mulC n a00 b02) (mulC n a01 b12)) (mulC n a02 b22))], .lst [PV q n (addC (addC (mulC n a10 b00) (mulC n a11 b10)) (mulC n a12 b20)), PV q n (addC (addC (mulC n a10 b01) (mulC n a11 b11)) (mulC n a12 b21)), PV q n (addC (addC (mulC n a10 b02) (mulC n a11 b12)) (mulC n a12 b22))], .lst [PV q n (addC (addC (mulC n a20 b00) (mulC n a21 b10)) (mulC n a22 b20)), PV q n (addC (addC (mulC n a20 b01) (mulC n a21 b11)) (mulC n a22 b21)), PV q n (addC (addC (mulC n a20 b02) (mulC n a21 b12)) (mulC n a22 b22))]] (modV a (rngV q n))) := by
  refine FnSem.of (n := 11) (f := 125) ⟨rfl, rfl, rfl, rfl, rfl, ?_, rfl, rfl, rfl, rfl, rfl, rfl⟩ (Binds.p2 (x := Hd.s45) (y := Hd.s82) ?_) ?_ ?_ ?_
  · kernel_rfl
  · intro v u S'; kernel_rfl
  · kernel_rfl
  · exact of_decide_eq_true (by kernel_rfl)
  · have h0 := @c_dim33f w h₁ os mg mb (modV a (rngV q n)) (PV q n a00) (PV q n a01) (PV q n a02) (PV q n a10) (PV q n a11) (PV q n a12) (PV q n a20) (PV q n a21) (PV q n a22)
    have h1 := @c_dim33f w h₁ os mg mb (modV a (rngV q n)) (PV q n b00) (PV q n b01) (PV q n b02) (PV q n b10) (PV q n b11) (PV q n b12) (PV q n b20) (PV q n b21) (PV q n b22)
    have h2 := @cm_33d w h₁ os mg mb q n a (cs q n (addC (addC (mulC n a00 b00) (mulC n a01 b10)) (mulC n a02 b20))) (cs q n (addC (addC (mulC n a00 b01) (mulC n a01 b11)) (mulC n a02 b21))) (cs q n (addC (addC (mulC n a00 b02) (mulC n a01 b12)) (mulC n a02 b22))) (cs q n (addC (addC (mulC n a10 b00) (mulC n a11 b10)) (mulC n a12 b20))) (cs q n (addC (addC (mulC n a10 b01) (mulC n a11 b11)) (mulC n a12 b21))) (cs q n (addC (addC (mulC n a10 b02) (mulC n a11 b12)) (mulC n a12 b22))) (cs q n (addC (addC (mulC n a20 b00) (mulC n a21 b10)) (mulC n a22 b20))) (cs q n (addC (addC (mulC n a20 b01) (mulC n a21 b11)) (mulC n a22 b21))) (cs q n (addC (addC (mulC n a20 b02) (mulC n a21 b12)) (mulC n a22 b22)))
    walk_at "mk"
theorem b_mm333ff {q n : Int} {a : Addr} {a00 a01 a02 a10 a11 a12 a20 a21 a22 b00 b01 b02 b10 b11 b12 b20 b21 b22 : C3} (hn : n = 2 ∨ n = 3) (hq : 0 < q) (hq2 : q < 2 ^ 63) : BinSem (sys w h₁ os mg mb) 12 .MatMult (matV false [.lst [PV q n a00, PV q n a01, PV q n a02], .lst [PV q n a10, PV q n a11, PV q n a12], .lst [PV q n a20, PV q n a21, PV q n a22]] (modV a (rngV q n))) (matV false [.lst [PV q n b00, PV q n b01, PV q n b02], .lst [PV q n b10, PV q n b11, PV q n b12], .lst [PV q n b20, PV q n b21, PV q n b22]] (modV a (rngV q n))) (matV false [.lst [PV q n (addC (addC (mulC n a00 b00) (mulC n a01 b10)) (mulC n a02 b20)), PV q n (addC (addC (mulC n a00 b01) (mulC n a01 b11)) (mulC n a02 b21)), PV q n (addC (addC (mulC n a00 b02) (mulC n a01 b12)) (mulC n a02 b22))], .lst [PV q n (addC (addC (mulC n a10 b00) (mulC n a11 b10)) (mulC n a12 b20)), PV q n (addC (addC (mulC n a10 b01) (mulC n a11 b11)) (mulC n a12 b21)), PV q n (addC (addC (mulC n a10 b02) (mulC n a11 b12)) (mulC n a12 b22))], .lst [PV q n (addC (addC (mulC n a20 b00) (mulC n a21 b10)) (mulC n a22 b20)), PV q n (addC (addC (mulC n a20 b01) (mulC n a21 b11)) (mulC n a22 b21)), PV q n (addC (addC (mulC n a20 b02) (mulC n a21 b12)) (mulC n a22 b22))]] (modV a (rngV q n))) := BinSem.same rfl rfl (by kernel_rfl) (by kernel_rfl) (c_mm333ff hn hq hq2) rfl
end
end
section
open PySem PySem.Spec PySem.Calls PyProof.Rows PySem.W
section
variable {w : World} {h₁ : Heap} {os : OsState} {mg mb : Str → Option Value}
theorem c_mkring {q n : Int} : CallSem (sys w h₁ os mg mb) 3 (.val (.ref 228)) [.int q, .int n] [] (rngV q n) := by
  refine CallSem.make (n := 1) (f := 197) (by kernel_rfl) (by kernel_rfl) ⟨rfl, rfl, rfl, rfl, rfl, ?_, rfl, rfl, rfl, rfl, rfl, rfl⟩ (fun x => (Binds.p3 (x := Hd.s45) (y := Hd.s147) (z := Hd.s84) ?_)) ?_ ?_ (fun x => ?_) ?_
  · kernel_rfl
  · intro v u t S'; kernel_rfl
  · kernel_rfl
  · exact of_decide_eq_true (by kernel_rfl)
  · refine Ex.step (St.attr rfl rfl (Ev.o ?_) (of_decide_eq_true (by kernel_rfl)) (by kernel_rfl) ?_) (Ex.step (St.attr rfl rfl (Ev.o ?_) (of_decide_eq_true (by kernel_rfl)) (by kernel_rfl) ?_) Ex.nil)
    · walk_at "mk"
    · walk_at "mk"
    · walk_at "mk"
    · walk_at "mk"
  · exact of_decide_eq_true (by kernel_rfl)
theorem c_mkmod {q n : Int} : CallSem (sys w h₁ os mg mb) 3 (.val (.ref 179)) [rngV q n] [] (.inst 179 [(Hd.s128, rngV q n)]) := by
  refine CallSem.make (n := 1) (f := 160) (by kernel_rfl) (by kernel_rfl) ⟨rfl, rfl, rfl, rfl, rfl, ?_, rfl, rfl, rfl, rfl, rfl, rfl⟩ (fun x => (Binds.p2 (x := Hd.s45) (y := Hd.s128) ?_)) ?_ ?_ (fun x => ?_) ?_
  · kernel_rfl
  · intro v u S'; kernel_rfl
  · kernel_rfl
  · exact of_decide_eq_true (by kernel_rfl)
  · refine Ex.step (St.attr rfl rfl (Ev.o ?_) (of_decide_eq_true (by kernel_rfl)) (by kernel_rfl) ?_) Ex.nil
    · walk_at "mk"
    · walk_at "mk"
  · exact of_decide_eq_true (by kernel_rfl)
theorem c_det1 {q n : Int} {p : C3} : FnSem (sys w h₁ os mg mb) 1 402 [.lst [.lst [PV q n p]]] [] (PV q n p) := by
  refine FnSem.of (n := 0) (f := 402) ⟨rfl, rfl, rfl, rfl, rfl, ?_, rfl, rfl, rfl, rfl, rfl, rfl⟩ (Binds.p1 (x := Hd.s34) ?_) ?_ ?_ ?_
  · kernel_rfl
  · intro v S'; kernel_rfl
  · kernel_rfl
  · exact of_decide_eq_true (by kernel_rfl)
  · walk_at "mk"
theorem c_det2 {q n : Int} {a b c d : C3} (hn : n = 2 ∨ n = 3) (hq : 0 < q) (hq2 : q < 2 ^ 63) : FnSem (sys w h₁ os mg mb) 6 402 [.lst [.lst [PV q n a, PV q n b], .lst [PV q n c, PV q n d]]] [] (PV q n (subC (mulC n a d) (mulC n b c))) := by
  refine FnSem.of (n := 5) (f := 402) ⟨rfl, rfl, rfl, rfl, rfl, ?_, rfl, rfl, rfl, rfl, rfl, rfl⟩ (Binds.p1 (x := Hd.s34) ?_) ?_ ?_ ?_
  · kernel_rfl
  · intro v S'; kernel_rfl
  · kernel_rfl
  · exact of_decide_eq_true (by kernel_rfl)
  · walk_at "mk"
theorem b_pow {q n : Int} (hn : n = 2 ∨ n = 3) (hq : 0 < q) (hq2 : q < 2 ^ 63) (h1 : 1 < q) : BinSem (sys w h₁ os mg mb) 6 .Pow (PV q n ⟨0, 1, 0⟩) (.int n) (PV q n ⟨-1, 0, 0⟩) := BinSem.instInt rfl (by kernel_rfl) (by kernel_rfl) (bP_pow hn hq hq2 h1) rfl
theorem bP_neE {q n : Int} {p r : C3} (hn : n = 2 ∨ n = 3) (e : p = r) : CmpSem (sys w h₁ os mg mb) 2 .NotEq (PV q n p) (PV q n r) (.bool false) := e ▸ bP_ne hn rfl rfl (.inr rfl)
end
end
section
open PySem PySem.Spec PySem.Calls PyProof.Rows PySem.W
theorem PV2 {q x y : Int} : polV q 2 [.int (x % q), .int (y % q)] = PV q 2 ⟨x, y, 0⟩ := rfl
theorem PV3 {q x y z : Int} : polV q 3 [.int (x % q), .int (y % q), .int (z % q)] = PV q 3 ⟨x, y, z⟩ := rfl
theorem m2 (p r : C3) : mulC 2 p r = ⟨p.x * r.x - p.y * r.y, p.x * r.y + p.y * r.x, 0⟩ := rfl
theorem m3 (p r : C3) : mulC 3 p r = ⟨p.x * r.x - p.z * r.y - p.y * r.z, p.x * r.y + p.y * r.x - p.z * r.z, p.x * r.z + p.y * r.y + p.z * r.x⟩ := rfl
theorem pk20_2_4 {x0 x1 x2 x3 x4 x5 x6 x7 x8 x9 x10 x11 x12 x13 x14 x15 x16 x17 x18 x19 : AV} : pickI [x0, x1, x2, x3, x4, x5, x6, x7, x8, x9, x10, x11, x12, x13, x14, x15, x16, x17, x18, x19] (some 2) (some 4) = [x2, x3] := by kernel_rfl
theorem pk20_2_5 {x0 x1 x2 x3 x4 x5 x6 x7 x8 x9 x10 x11 x12 x13 x14 x15 x16 x17 x18 x19 : AV} : pickI [x0, x1, x2, x3, x4, x5, x6, x7, x8, x9, x10, x11, x12, x13, x14, x15, x16, x17, x18, x19] (some 2) (some 5) = [x2, x3, x4] := by kernel_rfl
theorem pk20_4_6 {x0 x1 x2 x3 x4 x5 x6 x7 x8 x9 x10 x11 x12 x13 x14 x15 x16 x17 x18 x19 : AV} : pickI [x0, x1, x2, x3, x4, x5, x6, x7, x8, x9, x10, x11, x12, x13, x14, x15, x16, x17, x18, x19] (some 4) (some 6) = [x4, x5] := by kernel_rfl
theorem pk20_5_8 {x0 x1 x2 x3 x4 x5 x6 x7 x8 x9 x10 x11 x12 x13 x14 x15 x16 x17 x18 x19 : AV} : pickI [x0, x1, x2, x3, x4, x5, x6, x7, x8, x9, x10, x11, x12, x13, x14, x15, x16, x17, x18, x19] (some 5) (some 8) = [x5, x6, x7] := by kernel_rfl
theorem pk20_6_8 {x0 x1 x2 x3 x4 x5 x6 x7 x8 x9 x10 x11 x12 x13 x14 x15 x16 x17 x18 x19 : AV} : pickI [x0, x1, x2, x3, x4, x5, x6, x7, x8, x9, x10, x11, x12, x13, x14, x15, x16, x17, x18, x19] (some 6) (some 8) = [x6, x7] := by kernel_rfl
theorem pk20_8_10 {x0 x1 x2 x3 x4 x5 x6 x7 x8 x9 x10 x11 x12 x13 x14 x15 x16 x17 x18 x19 : AV} : pickI [x0, x1, x2, x3, x4, x5, x6, x7, x8, x9, x10, x11, x12, x13, x14, x15, x16, x17, x18, x19] (some 8) (some 10) = [x8, x9] := by kernel_rfl
theorem pk20_8_11 {x0 x1 x2 x3 x4 x5 x6 x7 x8 x9 x10 x11 x12 x13 x14 x15 x16 x17 x18 x19 : AV} : pickI [x0, x1, x2, x3, x4, x5, x6, x7, x8, x9, x10, x11, x12, x13, x14, x15, x16, x17, x18, x19] (some 8) (some 11) = [x8, x9, x10] := by kernel_rfl
theorem pk20_10_12 {x0 x1 x2 x3 x4 x5 x6 x7 x8 x9 x10 x11 x12 x13 x14 x15 x16 x17 x18 x19 : AV} : pickI [x0, x1, x2, x3, x4, x5, x6, x7, x8, x9, x10, x11, x12, x13, x14, x15, x16, x17, x18, x19] (some 10) (some 12) = [x10, x11] := by kernel_rfl
theorem pk20_11_14 {x0 x1 x2 x3 x4 x5 x6 x7 x8 x9 x10 x11 x12 x13 x14 x15 x16 x17 x18 x19 : AV} : pickI [x0, x1, x2, x3, x4, x5, x6, x7, x8, x9, x10, x11, x12, x13, x14, x15, x16, x17, x18, x19] (some 11) (some 14) = [x11, x12, x13] := by kernel_rfl
theorem pk20_12_14 {x0 x1 x2 x3 x4 x5 x6 x7 x8 x9 x10 x11 x12 x13 x14 x15 x16 x17 x18 x19 : AV} : pickI [x0, x1, x2, x3, x4, x5, x6, x7, x8, x9, x10, x11, x12, x13, x14, x15, x16, x17, x18, x19] (some 12) (some 14) = [x12, x13] := by kernel_rfl
theorem pk20_14_16 {x0 x1 x2 x3 x4 x5 x6 x7 x8 x9 x10 x11 x12 x13 x14 x15 x16 x17 x18 x19 : AV} : pickI [x0, x1, x2, x3, x4, x5, x6, x7, x8, x9, x10, x11, x12, x13, x14, x15, x16, x17, x18, x19] (some 14) (some 16) = [x14, x15] := by kernel_rfl
theorem pk20_16_18 {x0 x1 x2 x3 x4 x5 x6 x7 x8 x9 x10 x11 x12 x13 x14 x15 x16 x17 x18 x19 : AV} : pickI [x0, x1, x2, x3, x4, x5, x6, x7, x8, x9, x10, x11, x12, x13, x14, x15, x16, x17, x18, x19] (some 16) (some 18) = [x16, x17] := by kernel_rfl
theorem pk20_18_20 {x0 x1 x2 x3 x4 x5 x6 x7 x8 x9 x10 x11 x12 x13 x14 x15 x16 x17 x18 x19 : AV} : pickI [x0, x1, x2, x3, x4, x5, x6, x7, x8, x9, x10, x11, x12, x13, x14, x15, x16, x17, x18, x19] (some 18) (some 20) = [x18, x19] := by kernel_rfl
end
local macro_rules | `(tactic| walk_at "mfact") => `(tactic| (with_reducible first | exact pk20_2_4 | exact pk20_2_5 | exact pk20_4_6 | exact pk20_5_8 | exact pk20_6_8 | exact pk20_8_10 | exact pk20_8_11 | exact pk20_10_12 | exact pk20_11_14 | exact pk20_12_14 | exact pk20_14_16 | exact pk20_16_18 | exact pk20_18_20))
local macro_rules | `(tactic| walk_at "mbin") => `(tactic| (with_reducible first
  | exact FnSem.call (FnSem.up (c_trans22) (by decide))
  | exact FnSem.call (FnSem.up (c_trans33) (by decide))
  | exact FnSem.call (FnSem.up (c_det1) (by decide))
  | exact FnSem.call (FnSem.up (c_det2 (by assumption) (by assumption) (by assumption)) (by decide))
  | exact FnSem.call (FnSem.up (cP_gen (by assumption) (by assumption)) (by decide))
  | exact BinSem.up (b_mm222ft (by assumption) (by assumption) (by assumption)) (by decide)
  | exact BinSem.up (b_mm222tf (by assumption) (by assumption) (by assumption)) (by decide)
  | exact BinSem.up (b_mm222ff (by assumption) (by assumption) (by assumption)) (by decide)
  | exact BinSem.up (b_mm333ft (by assumption) (by assumption) (by assumption)) (by decide)
  | exact BinSem.up (b_mm333ff (by assumption) (by assumption) (by assumption)) (by decide)
  | exact BinSem.up (b_pow (by assumption) (by assumption) (by assumption) (by assumption)) (by decide)
  | exact CallSem.up c_mkring (by decide)
  | exact CallSem.up c_mkmod (by decide)
  | exact CallSem.up c_rc22 (by decide)
  | exact CallSem.up c_rc33 (by decide)
  | exact CallSem.up cm_22d (by decide)
  | exact CallSem.up cm_33d (by decide)))
local macro_rules | `(tactic| walk_at "mbin") => `(tactic| (first
  | exact FnSem.call (FnSem.up (cP_isz (by assumption)) (by decide))
  | exact CmpSem.up (bP_neE (by assumption) (by first | rfl | (simp only [m2, addC, subC, negC, scaC, C3.mk.injEq]; grind) | (cases (by assumption : (_ : Int) = 2 ∨ (_ : Int) = 3) <;> subst_vars <;> (simp only [m2, m3, addC, subC, negC, scaC, C3.mk.injEq]; grind)))) (by decide)))
section
open PySem PySem.Spec PySem.Calls PyProof.Rows PySem.W
section
variable {w : World} {h₁ : Heap} {os : OsState} {mg mb : Str → Option Value}
theorem law_b2 {q n : Int} {a : Addr} {l0 l1 : List AV} {p0 p1 p2 p3 : C3} (hn : n = (2 : Int) ∨ n = (3 : Int)) (hq : 0 < q) (hq2 : q < 2 ^ 63) (h1 : 1 < q) : Ex (sys w h₁ os mg mb) 39 (PySem.Scope.mk PySem.ScopeKind.function [(Prod.mk Hd.s251 PySem.NameKind.local), (Prod.mk Hd.s252 PySem.NameKind.cell), (Prod.mk Hd.s147 PySem.NameKind.cell), (Prod.mk Hd.s254 PySem.NameKind.cell), (Prod.mk Hd.s84 PySem.NameKind.cell), (Prod.mk Hd.s128 PySem.NameKind.cell), (Prod.mk Hd.s255 PySem.NameKind.local), (Prod.mk Hd.s256 PySem.NameKind.cell), (Prod.mk Hd.s87 PySem.NameKind.cell), (Prod.mk Hd.s34 PySem.NameKind.cell), (Prod.mk Hd.s258 PySem.NameKind.cell), (Prod.mk Hd.s259 PySem.NameKind.cell), (Prod.mk Hd.s88 PySem.NameKind.cell), (Prod.mk Hd.s262 PySem.NameKind.local), (Prod.mk Hd.s263 PySem.NameKind.local), (Prod.mk Hd.s264 PySem.NameKind.local), (Prod.mk Hd.s265 PySem.NameKind.local), (Prod.mk Hd.s266 PySem.NameKind.cell), (Prod.mk Hd.s267 PySem.NameKind.local), (Prod.mk Hd.s268 PySem.NameKind.local), (Prod.mk Hd.s269 PySem.NameKind.cell), (Prod.mk Hd.s270 PySem.NameKind.local), (Prod.mk Hd.s89 PySem.NameKind.globalImplicit), (Prod.mk Hd.s253 PySem.NameKind.globalImplicit), (Prod.mk Hd.s16 PySem.NameKind.globalImplicit), (Prod.mk Hd.s15 PySem.NameKind.globalImplicit), (Prod.mk Hd.s114 PySem.NameKind.globalImplicit), (Prod.mk Hd.s271 PySem.NameKind.globalImplicit)] Bool.false Bool.false [(Prod.mk Hd.s60 (PySem.Const.str Hd.s251)), (Prod.mk Hd.s60 (PySem.Const.str Hd.s20)), (Prod.mk Hd.s60 (PySem.Const.str Hd.s252)), (Prod.mk Hd.s60 (PySem.Const.str Hd.s147)), (Prod.mk Hd.s60 (PySem.Const.str Hd.s254)), (Prod.mk Hd.s60 (PySem.Const.str Hd.s84)), (Prod.mk Hd.s60 (PySem.Const.str Hd.s128)), (Prod.mk Hd.s60 (PySem.Const.str Hd.s255)), (Prod.mk Hd.s60 (PySem.Const.str Hd.s257)), (Prod.mk Hd.s60 (PySem.Const.str Hd.s256)), (Prod.mk Hd.s60 (PySem.Const.str Hd.s87)), (Prod.mk Hd.s60 (PySem.Const.str Hd.s34)), (Prod.mk Hd.s60 (PySem.Const.str Hd.s258)), (Prod.mk Hd.s60 (PySem.Const.str Hd.s259)), (Prod.mk Hd.s60 (PySem.Const.str Hd.s88)), (Prod.mk Hd.s60 (PySem.Const.str Hd.s57)), (Prod.mk Hd.s60 (PySem.Const.str Hd.s262)), (Prod.mk Hd.s60 (PySem.Const.str Hd.s263)), (Prod.mk Hd.s60 (PySem.Const.str Hd.s264)), (Prod.mk Hd.s60 (PySem.Const.str Hd.s265)), (Prod.mk Hd.s60 (PySem.Const.str Hd.s266)), (Prod.mk Hd.s60 (PySem.Const.str Hd.s267)), (Prod.mk Hd.s60 (PySem.Const.str Hd.s268)), (Prod.mk Hd.s60 (PySem.Const.str Hd.s269)), (Prod.mk Hd.s60 (PySem.Const.str Hd.s270)), (Prod.mk Hd.s60 (PySem.Const.str Hd.s272))]) 406 [(Hd.s256, .lst [PV q n p0, PV q n p1, PV q n p2, PV q n p3]), (Hd.s255, modV a (rngV q n)), (Hd.s128, rngV q n), (Hd.s84, .int n), (Hd.s254, .int 2), (Hd.s147, .int q), (Hd.s252, .lst l0), (Hd.s251, .lst l1)] .no [(PySem.Stmt.Assign [(PySem.Expr.Name Hd.s34 (PySem.Pos.mk 276 4 276 8))] (PySem.Expr.ListComp (PySem.Expr.Subscript (PySem.Expr.Name Hd.s256 (PySem.Pos.mk 276 12 276 17)) (PySem.Expr.Slice (Option.some (PySem.Expr.BinOp (PySem.Expr.Name Hd.s87 (PySem.Pos.mk 276 18 276 19)) PySem.Operator.Mult (PySem.Expr.Name Hd.s254 (PySem.Pos.mk 276 22 276 26)) (PySem.Pos.mk 276 18 276 26))) (Option.some (PySem.Expr.BinOp (PySem.Expr.BinOp (PySem.Expr.Name Hd.s87 (PySem.Pos.mk 276 27 276 28)) PySem.Operator.Mult (PySem.Expr.Name Hd.s254 (PySem.Pos.mk 276 31 276 35)) (PySem.Pos.mk 276 27 276 35)) PySem.Operator.Add (PySem.Expr.Name Hd.s254 (PySem.Pos.mk 276 38 276 42)) (PySem.Pos.mk 276 27 276 42))) Option.none (PySem.Pos.mk 276 18 276 42)) (PySem.Pos.mk 276 12 276 43)) [(PySem.Comprehension.mk (PySem.Expr.Name Hd.s87 (PySem.Pos.mk 276 48 276 49)) (PySem.Expr.Call (PySem.Expr.Name Hd.s89 (PySem.Pos.mk 276 53 276 58)) [(PySem.Expr.Name Hd.s254 (PySem.Pos.mk 276 59 276 63))] [] (PySem.Pos.mk 276 53 276 64)) [] (0 : Int))] (PySem.Scope.mk PySem.ScopeKind.function [(Prod.mk Hd.s58 PySem.NameKind.local), (Prod.mk Hd.s87 PySem.NameKind.local), (Prod.mk Hd.s256 PySem.NameKind.free), (Prod.mk Hd.s254 PySem.NameKind.free)] Bool.false Bool.false []) (PySem.Pos.mk 276 11 276 65)) (PySem.Pos.mk 276 4 276 65)), (PySem.Stmt.Assign [(PySem.Expr.Name Hd.s258 (PySem.Pos.mk 277 4 277 13))] (PySem.Expr.List [] (PySem.Pos.mk 277 16 277 18)) (PySem.Pos.mk 277 4 277 18)), (PySem.Stmt.For (PySem.Expr.Name Hd.s87 (PySem.Pos.mk 278 8 278 9)) (PySem.Expr.Call (PySem.Expr.Name Hd.s89 (PySem.Pos.mk 278 13 278 18)) [(PySem.Expr.Name Hd.s254 (PySem.Pos.mk 278 19 278 23))] [] (PySem.Pos.mk 278 13 278 24)) [(PySem.Stmt.Assign [(PySem.Expr.Name Hd.s259 (PySem.Pos.mk 279 8 279 14))] (PySem.Expr.BinOp (PySem.Expr.Subscript (PySem.Expr.Name Hd.s34 (PySem.Pos.mk 279 17 279 21)) (PySem.Expr.Slice Option.none (Option.some (PySem.Expr.Name Hd.s87 (PySem.Pos.mk 279 23 279 24))) Option.none (PySem.Pos.mk 279 22 279 24)) (PySem.Pos.mk 279 17 279 25)) PySem.Operator.Add (PySem.Expr.Subscript (PySem.Expr.Name Hd.s34 (PySem.Pos.mk 279 28 279 32)) (PySem.Expr.Slice (Option.some (PySem.Expr.BinOp (PySem.Expr.Name Hd.s87 (PySem.Pos.mk 279 33 279 34)) PySem.Operator.Add (PySem.Expr.Constant (PySem.Const.int (1 : Int)) 0 (PySem.Pos.mk 279 37 279 38)) (PySem.Pos.mk 279 33 279 38))) Option.none Option.none (PySem.Pos.mk 279 33 279 39)) (PySem.Pos.mk 279 28 279 40)) (PySem.Pos.mk 279 17 279 40)) (PySem.Pos.mk 279 8 279 40)), (PySem.Stmt.Expr (PySem.Expr.Call (PySem.Expr.Attribute (PySem.Expr.Name Hd.s258 (PySem.Pos.mk 280 8 280 17)) Hd.s260 (PySem.Pos.mk 280 8 280 24)) [(PySem.Expr.ListComp (PySem.Expr.BinOp (PySem.Expr.BinOp (PySem.Expr.UnaryOp PySem.UnaryOp.USub (PySem.Expr.Constant (PySem.Const.int (1 : Int)) 0 (PySem.Pos.mk 280 28 280 29)) (PySem.Pos.mk 280 27 280 29)) PySem.Operator.Pow (PySem.Expr.BinOp (PySem.Expr.Name Hd.s87 (PySem.Pos.mk 280 35 280 36)) PySem.Operator.Add (PySem.Expr.Name Hd.s88 (PySem.Pos.mk 280 39 280 40)) (PySem.Pos.mk 280 35 280 40)) (PySem.Pos.mk 280 26 280 41)) PySem.Operator.Mult (PySem.Expr.Call (PySem.Expr.Name Hd.s18 (PySem.Pos.mk 280 44 280 52)) [(PySem.Expr.ListComp (PySem.Expr.BinOp (PySem.Expr.Subscript (PySem.Expr.Name Hd.s57 (PySem.Pos.mk 280 54 280 57)) (PySem.Expr.Slice Option.none (Option.some (PySem.Expr.Name Hd.s88 (PySem.Pos.mk 280 59 280 60))) Option.none (PySem.Pos.mk 280 58 280 60)) (PySem.Pos.mk 280 54 280 61)) PySem.Operator.Add (PySem.Expr.Subscript (PySem.Expr.Name Hd.s57 (PySem.Pos.mk 280 64 280 67)) (PySem.Expr.Slice (Option.some (PySem.Expr.BinOp (PySem.Expr.Name Hd.s88 (PySem.Pos.mk 280 68 280 69)) PySem.Operator.Add (PySem.Expr.Constant (PySem.Const.int (1 : Int)) 0 (PySem.Pos.mk 280 72 280 73)) (PySem.Pos.mk 280 68 280 73))) Option.none Option.none (PySem.Pos.mk 280 68 280 74)) (PySem.Pos.mk 280 64 280 75)) (PySem.Pos.mk 280 54 280 75)) [(PySem.Comprehension.mk (PySem.Expr.Name Hd.s57 (PySem.Pos.mk 280 80 280 83)) (PySem.Expr.Name Hd.s259 (PySem.Pos.mk 280 87 280 93)) [] (0 : Int))] (PySem.Scope.mk PySem.ScopeKind.function [(Prod.mk Hd.s58 PySem.NameKind.local), (Prod.mk Hd.s57 PySem.NameKind.local), (Prod.mk Hd.s88 PySem.NameKind.free)] Bool.false Bool.false []) (PySem.Pos.mk 280 53 280 94))] [] (PySem.Pos.mk 280 44 280 95)) (PySem.Pos.mk 280 26 280 95)) [(PySem.Comprehension.mk (PySem.Expr.Name Hd.s88 (PySem.Pos.mk 280 100 280 101)) (PySem.Expr.Call (PySem.Expr.Name Hd.s89 (PySem.Pos.mk 280 105 280 110)) [(PySem.Expr.Name Hd.s254 (PySem.Pos.mk 280 111 280 115))] [] (PySem.Pos.mk 280 105 280 116)) [] (0 : Int))] (PySem.Scope.mk PySem.ScopeKind.function [(Prod.mk Hd.s58 PySem.NameKind.local), (Prod.mk Hd.s88 PySem.NameKind.cell), (Prod.mk Hd.s18 PySem.NameKind.globalImplicit), (Prod.mk Hd.s87 PySem.NameKind.free), (Prod.mk Hd.s259 PySem.NameKind.free)] Bool.false Bool.false []) (PySem.Pos.mk 280 25 280 117))] [] Hd.d261) Hd.d261)] [] (PySem.Pos.mk 278 4 280 118)), (PySem.Stmt.Assign [(PySem.Expr.Name Hd.s262 (PySem.Pos.mk 281 4 281 10))] (PySem.Expr.Call (PySem.Expr.Name Hd.s255 (PySem.Pos.mk 281 13 281 19)) [(PySem.Expr.Name Hd.s34 (PySem.Pos.mk 281 20 281 24))] [] (PySem.Pos.mk 281 13 281 25)) (PySem.Pos.mk 281 4 281 25)), (PySem.Stmt.Assign [(PySem.Expr.Name Hd.s263 (PySem.Pos.mk 282 4 282 12))] (PySem.Expr.Call (PySem.Expr.Attribute (PySem.Expr.Call (PySem.Expr.Name Hd.s255 (PySem.Pos.mk 282 15 282 21)) [(PySem.Expr.Name Hd.s258 (PySem.Pos.mk 282 22 282 31))] [] (PySem.Pos.mk 282 15 282 32)) Hd.s29 (PySem.Pos.mk 282 15 282 42)) [] [] (PySem.Pos.mk 282 15 282 44)) (PySem.Pos.mk 282 4 282 44)), (PySem.Stmt.Assign [(PySem.Expr.Name Hd.s264 (PySem.Pos.mk 283 4 283 9))] (PySem.Expr.Call (PySem.Expr.Name Hd.s114 (PySem.Pos.mk 283 12 283 15)) [(PySem.Expr.ListComp (PySem.Expr.Subscript (PySem.Expr.Subscript (PySem.Expr.Name Hd.s34 (PySem.Pos.mk 283 17 283 21)) (PySem.Expr.Name Hd.s87 (PySem.Pos.mk 283 22 283 23)) (PySem.Pos.mk 283 17 283 24)) (PySem.Expr.Name Hd.s87 (PySem.Pos.mk 283 25 283 26)) (PySem.Pos.mk 283 17 283 27)) [(PySem.Comprehension.mk (PySem.Expr.Name Hd.s87 (PySem.Pos.mk 283 32 283 33)) (PySem.Expr.Call (PySem.Expr.Name Hd.s89 (PySem.Pos.mk 283 37 283 42)) [(PySem.Expr.Name Hd.s254 (PySem.Pos.mk 283 43 283 47))] [] (PySem.Pos.mk 283 37 283 48)) [] (0 : Int))] (PySem.Scope.mk PySem.ScopeKind.function [(Prod.mk Hd.s58 PySem.NameKind.local), (Prod.mk Hd.s87 PySem.NameKind.local), (Prod.mk Hd.s34 PySem.NameKind.free)] Bool.false Bool.false []) (PySem.Pos.mk 283 16 283 49))] [] (PySem.Pos.mk 283 12 283 50)) (PySem.Pos.mk 283 4 283 50)), (PySem.Stmt.Assign [(PySem.Expr.Name Hd.s265 (PySem.Pos.mk 284 4 284 10))] (PySem.Expr.Call (PySem.Expr.Name Hd.s114 (PySem.Pos.mk 284 13 284 16)) [(PySem.Expr.ListComp (PySem.Expr.Subscript (PySem.Expr.Subscript (PySem.Expr.Name Hd.s258 (PySem.Pos.mk 284 18 284 27)) (PySem.Expr.Name Hd.s87 (PySem.Pos.mk 284 28 284 29)) (PySem.Pos.mk 284 18 284 30)) (PySem.Expr.Name Hd.s87 (PySem.Pos.mk 284 31 284 32)) (PySem.Pos.mk 284 18 284 33)) [(PySem.Comprehension.mk (PySem.Expr.Name Hd.s87 (PySem.Pos.mk 284 38 284 39)) (PySem.Expr.Call (PySem.Expr.Name Hd.s89 (PySem.Pos.mk 284 43 284 48)) [(PySem.Expr.Name Hd.s254 (PySem.Pos.mk 284 49 284 53))] [] (PySem.Pos.mk 284 43 284 54)) [] (0 : Int))] (PySem.Scope.mk PySem.ScopeKind.function [(Prod.mk Hd.s58 PySem.NameKind.local), (Prod.mk Hd.s87 PySem.NameKind.local), (Prod.mk Hd.s258 PySem.NameKind.free)] Bool.false Bool.false []) (PySem.Pos.mk 284 17 284 55))] [] (PySem.Pos.mk 284 13 284 56)) (PySem.Pos.mk 284 4 284 56)), (PySem.Stmt.Assign [(PySem.Expr.Name Hd.s266 (PySem.Pos.mk 285 4 285 9))] (PySem.Expr.Call (PySem.Expr.Name Hd.s114 (PySem.Pos.mk 285 12 285 15)) [(PySem.Expr.ListComp (PySem.Expr.BinOp (PySem.Expr.Subscript (PySem.Expr.Subscript (PySem.Expr.Name Hd.s34 (PySem.Pos.mk 285 17 285 21)) (PySem.Expr.Constant (PySem.Const.int (0 : Int)) 0 (PySem.Pos.mk 285 22 285 23)) (PySem.Pos.mk 285 17 285 24)) (PySem.Expr.Name Hd.s88 (PySem.Pos.mk 285 25 285 26)) (PySem.Pos.mk 285 17 285 27)) PySem.Operator.Mult (PySem.Expr.Subscript (PySem.Expr.Subscript (PySem.Expr.Name Hd.s258 (PySem.Pos.mk 285 30 285 39)) (PySem.Expr.Constant (PySem.Const.int (0 : Int)) 0 (PySem.Pos.mk 285 40 285 41)) (PySem.Pos.mk 285 30 285 42)) (PySem.Expr.Name Hd.s88 (PySem.Pos.mk 285 43 285 44)) (PySem.Pos.mk 285 30 285 45)) (PySem.Pos.mk 285 17 285 45)) [(PySem.Comprehension.mk (PySem.Expr.Name Hd.s88 (PySem.Pos.mk 285 50 285 51)) (PySem.Expr.Call (PySem.Expr.Name Hd.s89 (PySem.Pos.mk 285 55 285 60)) [(PySem.Expr.Name Hd.s254 (PySem.Pos.mk 285 61 285 65))] [] (PySem.Pos.mk 285 55 285 66)) [] (0 : Int))] (PySem.Scope.mk PySem.ScopeKind.function [(Prod.mk Hd.s58 PySem.NameKind.local), (Prod.mk Hd.s88 PySem.NameKind.local), (Prod.mk Hd.s258 PySem.NameKind.free), (Prod.mk Hd.s34 PySem.NameKind.free)] Bool.false Bool.false []) (PySem.Pos.mk 285 16 285 67))] [] (PySem.Pos.mk 285 12 285 68)) (PySem.Pos.mk 285 4 285 68)), (PySem.Stmt.Assign [(PySem.Expr.Name Hd.s267 (PySem.Pos.mk 286 4 286 8))] (PySem.Expr.IfExp (PySem.Expr.Compare (PySem.Expr.Name Hd.s254 (PySem.Pos.mk 286 53 286 57)) [PySem.CmpOp.Eq] [(PySem.Expr.Constant (PySem.Const.int (2 : Int)) 0 (PySem.Pos.mk 286 61 286 62))] (PySem.Pos.mk 286 53 286 62)) (PySem.Expr.List [(PySem.Expr.BinOp (PySem.Expr.Name Hd.s262 (PySem.Pos.mk 286 12 286 18)) PySem.Operator.MatMult (PySem.Expr.Name Hd.s263 (PySem.Pos.mk 286 21 286 29)) (PySem.Pos.mk 286 12 286 29)), (PySem.Expr.BinOp (PySem.Expr.Name Hd.s263 (PySem.Pos.mk 286 31 286 39)) PySem.Operator.MatMult (PySem.Expr.Name Hd.s262 (PySem.Pos.mk 286 42 286 48)) (PySem.Pos.mk 286 31 286 48))] (PySem.Pos.mk 286 11 286 49)) (PySem.Expr.List [(PySem.Expr.BinOp (PySem.Expr.Name Hd.s262 (PySem.Pos.mk 286 69 286 75)) PySem.Operator.MatMult (PySem.Expr.Name Hd.s263 (PySem.Pos.mk 286 78 286 86)) (PySem.Pos.mk 286 69 286 86))] (PySem.Pos.mk 286 68 286 87)) (PySem.Pos.mk 286 11 286 87)) (PySem.Pos.mk 286 4 286 87)), (PySem.Stmt.Assign [(PySem.Expr.Name Hd.s268 (PySem.Pos.mk 287 4 287 11))] (PySem.Expr.BinOp (PySem.Expr.Name Hd.s262 (PySem.Pos.mk 287 14 287 20)) PySem.Operator.MatMult (PySem.Expr.Name Hd.s262 (PySem.Pos.mk 287 23 287 29)) (PySem.Pos.mk 287 14 287 29)) (PySem.Pos.mk 287 4 287 29)), (PySem.Stmt.For (PySem.Expr.Name Hd.s87 (PySem.Pos.mk 288 8 288 9)) (PySem.Expr.Call (PySem.Expr.Name Hd.s89 (PySem.Pos.mk 288 13 288 18)) [(PySem.Expr.Name Hd.s254 (PySem.Pos.mk 288 19 288 23))] [] (PySem.Pos.mk 288 13 288 24)) [(PySem.Stmt.For (PySem.Expr.Name Hd.s88 (PySem.Pos.mk 289 12 289 13)) (PySem.Expr.Call (PySem.Expr.Name Hd.s89 (PySem.Pos.mk 289 17 289 22)) [(PySem.Expr.Name Hd.s254 (PySem.Pos.mk 289 23 289 27))] [] (PySem.Pos.mk 289 17 289 28)) [(PySem.Stmt.Assign [(PySem.Expr.Name Hd.s269 (PySem.Pos.mk 290 12 290 16))] (PySem.Expr.IfExp (PySem.Expr.Compare (PySem.Expr.Name Hd.s87 (PySem.Pos.mk 290 24 290 25)) [PySem.CmpOp.Eq] [(PySem.Expr.Name Hd.s88 (PySem.Pos.mk 290 29 290 30))] (PySem.Pos.mk 290 24 290 30)) (PySem.Expr.Constant (PySem.Const.int (1 : Int)) 0 (PySem.Pos.mk 290 19 290 20)) (PySem.Expr.Constant (PySem.Const.int (0 : Int)) 0 (PySem.Pos.mk 290 36 290 37)) (PySem.Pos.mk 290 19 290 37)) (PySem.Pos.mk 290 12 290 37)), (PySem.Stmt.Assign [(PySem.Expr.Name Hd.s270 (PySem.Pos.mk 291 12 291 15))] (PySem.Expr.BinOp (PySem.Expr.BinOp (PySem.Expr.Name Hd.s264 (PySem.Pos.mk 291 18 291 23)) PySem.Operator.Mult (PySem.Expr.Name Hd.s269 (PySem.Pos.mk 291 26 291 30)) (PySem.Pos.mk 291 18 291 30)) PySem.Operator.Sub (PySem.Expr.Subscript (PySem.Expr.Name Hd.s262 (PySem.Pos.mk 291 33 291 39)) (PySem.Expr.Tuple [(PySem.Expr.Name Hd.s87 (PySem.Pos.mk 291 40 291 41)), (PySem.Expr.Name Hd.s88 (PySem.Pos.mk 291 43 291 44))] 0 (PySem.Pos.mk 291 40 291 44)) (PySem.Pos.mk 291 33 291 45)) (PySem.Pos.mk 291 18 291 45)) (PySem.Pos.mk 291 12 291 45)), (PySem.Stmt.If (PySem.Expr.Compare (PySem.Expr.Name Hd.s254 (PySem.Pos.mk 292 15 292 19)) [PySem.CmpOp.Eq] [(PySem.Expr.Constant (PySem.Const.int (3 : Int)) 0 (PySem.Pos.mk 292 23 292 24))] (PySem.Pos.mk 292 15 292 24)) [(PySem.Stmt.Assign [(PySem.Expr.Name Hd.s270 (PySem.Pos.mk 293 16 293 19))] (PySem.Expr.BinOp (PySem.Expr.BinOp (PySem.Expr.Subscript (PySem.Expr.Name Hd.s268 (PySem.Pos.mk 293 22 293 29)) (PySem.Expr.Tuple [(PySem.Expr.Name Hd.s87 (PySem.Pos.mk 293 30 293 31)), (PySem.Expr.Name Hd.s88 (PySem.Pos.mk 293 33 293 34))] 0 (PySem.Pos.mk 293 30 293 34)) (PySem.Pos.mk 293 22 293 35)) PySem.Operator.Sub (PySem.Expr.BinOp (PySem.Expr.Name Hd.s264 (PySem.Pos.mk 293 38 293 43)) PySem.Operator.Mult (PySem.Expr.Subscript (PySem.Expr.Name Hd.s262 (PySem.Pos.mk 293 46 293 52)) (PySem.Expr.Tuple [(PySem.Expr.Name Hd.s87 (PySem.Pos.mk 293 53 293 54)), (PySem.Expr.Name Hd.s88 (PySem.Pos.mk 293 56 293 57))] 0 (PySem.Pos.mk 293 53 293 57)) (PySem.Pos.mk 293 46 293 58)) (PySem.Pos.mk 293 38 293 58)) (PySem.Pos.mk 293 22 293 58)) PySem.Operator.Add (PySem.Expr.BinOp (PySem.Expr.Name Hd.s265 (PySem.Pos.mk 293 61 293 67)) PySem.Operator.Mult (PySem.Expr.Name Hd.s269 (PySem.Pos.mk 293 70 293 74)) (PySem.Pos.mk 293 61 293 74)) (PySem.Pos.mk 293 22 293 74)) (PySem.Pos.mk 293 16 293 74))] [] (PySem.Pos.mk 292 12 293 74)), (PySem.Stmt.If (PySem.Expr.BoolOp BoolOp.Or [(PySem.Expr.Compare (PySem.Expr.Subscript (PySem.Expr.Name Hd.s263 (PySem.Pos.mk 294 15 294 23)) (PySem.Expr.Tuple [(PySem.Expr.Name Hd.s87 (PySem.Pos.mk 294 24 294 25)), (PySem.Expr.Name Hd.s88 (PySem.Pos.mk 294 27 294 28))] 0 (PySem.Pos.mk 294 24 294 28)) (PySem.Pos.mk 294 15 294 29)) [PySem.CmpOp.NotEq] [(PySem.Expr.Name Hd.s270 (PySem.Pos.mk 294 33 294 36))] (PySem.Pos.mk 294 15 294 36)), (PySem.Expr.Call (PySem.Expr.Name Hd.s271 (PySem.Pos.mk 294 40 294 43)) [(PySem.Expr.ListComp (PySem.Expr.Compare (PySem.Expr.Subscript (PySem.Expr.Name Hd.s272 (PySem.Pos.mk 294 45 294 48)) (PySem.Expr.Tuple [(PySem.Expr.Name Hd.s87 (PySem.Pos.mk 294 49 294 50)), (PySem.Expr.Name Hd.s88 (PySem.Pos.mk 294 52 294 53))] 0 (PySem.Pos.mk 294 49 294 53)) (PySem.Pos.mk 294 45 294 54)) [PySem.CmpOp.NotEq] [(PySem.Expr.BinOp (PySem.Expr.Name Hd.s266 (PySem.Pos.mk 294 58 294 63)) PySem.Operator.Mult (PySem.Expr.Name Hd.s269 (PySem.Pos.mk 294 66 294 70)) (PySem.Pos.mk 294 58 294 70))] (PySem.Pos.mk 294 45 294 70)) [(PySem.Comprehension.mk (PySem.Expr.Name Hd.s272 (PySem.Pos.mk 294 75 294 78)) (PySem.Expr.Name Hd.s267 (PySem.Pos.mk 294 82 294 86)) [] (0 : Int))] (PySem.Scope.mk PySem.ScopeKind.function [(Prod.mk Hd.s58 PySem.NameKind.local), (Prod.mk Hd.s272 PySem.NameKind.local), (Prod.mk Hd.s269 PySem.NameKind.free), (Prod.mk Hd.s87 PySem.NameKind.free), (Prod.mk Hd.s88 PySem.NameKind.free), (Prod.mk Hd.s266 PySem.NameKind.free)] Bool.false Bool.false []) (PySem.Pos.mk 294 44 294 87))] [] (PySem.Pos.mk 294 40 294 88))] (PySem.Pos.mk 294 15 294 88)) [(PySem.Stmt.Return (Option.some (PySem.Expr.Constant (PySem.Const.bool Bool.false) 0 (PySem.Pos.mk 295 23 295 28))) (PySem.Pos.mk 295 16 295 28))] [] (PySem.Pos.mk 294 12 295 28))] [] (PySem.Pos.mk 289 8 295 28))] [] (PySem.Pos.mk 288 4 295 28)), (PySem.Stmt.Return (Option.some (PySem.Expr.Call (PySem.Expr.Attribute (PySem.Expr.BinOp (PySem.Expr.BinOp (PySem.Expr.Call (PySem.Expr.Attribute (PySem.Expr.Name Hd.s128 (PySem.Pos.mk 296 12 296 16)) Hd.s146 (PySem.Pos.mk 296 12 296 20)) [] [] (PySem.Pos.mk 296 12 296 22)) PySem.Operator.Pow (PySem.Expr.Name Hd.s84 (PySem.Pos.mk 296 26 296 27)) (PySem.Pos.mk 296 12 296 27)) PySem.Operator.Add (PySem.Expr.Constant (PySem.Const.int (1 : Int)) 0 (PySem.Pos.mk 296 30 296 31)) (PySem.Pos.mk 296 12 296 31)) Hd.s162 (PySem.Pos.mk 296 11 296 40)) [] [] (PySem.Pos.mk 296 11 296 42))) (PySem.Pos.mk 296 4 296 42))] (.ret (.bool true)) := by
  refine Ex.asg (a := .lst [.lst [PV q n p0, PV q n p1], .lst [PV q n p2, PV q n p3]]) (by walk_at "mk") (by walk_at "mk") (by walk_at "mk") (by walk_at "mk") ?_
  refine Ex.asgNil (by walk_at "mk") (by walk_at "mk") (by walk_at "mk") ?_
  apply Ex.forQ
  · walk_at "mk"
  · walk_at "mk"
  · walk_at "mk"
  · walk_at "mk"
  refine Ex.freezeQ (of_decide_eq_true (by kernel_rfl)) ap2 ?_
  walk_at "mk"
end
end
section
open PySem PySem.Spec PySem.Calls PyProof.Rows PySem.W
section
variable {w : World} {h₁ : Heap} {os : OsState} {mg mb : Str → Option Value}
theorem law_b3 {q : Int} {a : Addr} {l0 l1 : List AV} {p0 p1 p2 p3 p4 p5 p6 p7 p8 : C3} (hn : 2 = (2 : Int) ∨ 2 = (3 : Int)) (hq : 0 < q) (hq2 : q < 2 ^ 63) (h1 : 1 < q) : Ex (sys w h₁ os mg mb) 39 (PySem.Scope.mk PySem.ScopeKind.function [(Prod.mk Hd.s251 PySem.NameKind.local), (Prod.mk Hd.s252 PySem.NameKind.cell), (Prod.mk Hd.s147 PySem.NameKind.cell), (Prod.mk Hd.s254 PySem.NameKind.cell), (Prod.mk Hd.s84 PySem.NameKind.cell), (Prod.mk Hd.s128 PySem.NameKind.cell), (Prod.mk Hd.s255 PySem.NameKind.local), (Prod.mk Hd.s256 PySem.NameKind.cell), (Prod.mk Hd.s87 PySem.NameKind.cell), (Prod.mk Hd.s34 PySem.NameKind.cell), (Prod.mk Hd.s258 PySem.NameKind.cell), (Prod.mk Hd.s259 PySem.NameKind.cell), (Prod.mk Hd.s88 PySem.NameKind.cell), (Prod.mk Hd.s262 PySem.NameKind.local), (Prod.mk Hd.s263 PySem.NameKind.local), (Prod.mk Hd.s264 PySem.NameKind.local), (Prod.mk Hd.s265 PySem.NameKind.local), (Prod.mk Hd.s266 PySem.NameKind.cell), (Prod.mk Hd.s267 PySem.NameKind.local), (Prod.mk Hd.s268 PySem.NameKind.local), (Prod.mk Hd.s269 PySem.NameKind.cell), (Prod.mk Hd.s270 PySem.NameKind.local), (Prod.mk Hd.s89 PySem.NameKind.globalImplicit), (Prod.mk Hd.s253 PySem.NameKind.globalImplicit), (Prod.mk Hd.s16 PySem.NameKind.globalImplicit), (Prod.mk Hd.s15 PySem.NameKind.globalImplicit), (Prod.mk Hd.s114 PySem.NameKind.globalImplicit), (Prod.mk Hd.s271 PySem.NameKind.globalImplicit)] Bool.false Bool.false [(Prod.mk Hd.s60 (PySem.Const.str Hd.s251)), (Prod.mk Hd.s60 (PySem.Const.str Hd.s20)), (Prod.mk Hd.s60 (PySem.Const.str Hd.s252)), (Prod.mk Hd.s60 (PySem.Const.str Hd.s147)), (Prod.mk Hd.s60 (PySem.Const.str Hd.s254)), (Prod.mk Hd.s60 (PySem.Const.str Hd.s84)), (Prod.mk Hd.s60 (PySem.Const.str Hd.s128)), (Prod.mk Hd.s60 (PySem.Const.str Hd.s255)), (Prod.mk Hd.s60 (PySem.Const.str Hd.s257)), (Prod.mk Hd.s60 (PySem.Const.str Hd.s256)), (Prod.mk Hd.s60 (PySem.Const.str Hd.s87)), (Prod.mk Hd.s60 (PySem.Const.str Hd.s34)), (Prod.mk Hd.s60 (PySem.Const.str Hd.s258)), (Prod.mk Hd.s60 (PySem.Const.str Hd.s259)), (Prod.mk Hd.s60 (PySem.Const.str Hd.s88)), (Prod.mk Hd.s60 (PySem.Const.str Hd.s57)), (Prod.mk Hd.s60 (PySem.Const.str Hd.s262)), (Prod.mk Hd.s60 (PySem.Const.str Hd.s263)), (Prod.mk Hd.s60 (PySem.Const.str Hd.s264)), (Prod.mk Hd.s60 (PySem.Const.str Hd.s265)), (Prod.mk Hd.s60 (PySem.Const.str Hd.s266)), (Prod.mk Hd.s60 (PySem.Const.str Hd.s267)), (Prod.mk Hd.s60 (PySem.Const.str Hd.s268)), (Prod.mk Hd.s60 (PySem.Const.str Hd.s269)), (Prod.mk Hd.s60 (PySem.Const.str Hd.s270)), (Prod.mk Hd.s60 (PySem.Const.str Hd.s272))]) 406 [(Hd.s256, .lst [PV q 2 p0, PV q 2 p1, PV q 2 p2, PV q 2 p3, PV q 2 p4, PV q 2 p5, PV q 2 p6, PV q 2 p7, PV q 2 p8]), (Hd.s255, modV a (rngV q 2)), (Hd.s128, rngV q 2), (Hd.s84, .int 2), (Hd.s254, .int 3), (Hd.s147, .int q), (Hd.s252, .lst l0), (Hd.s251, .lst l1)] .no [(PySem.Stmt.Assign [(PySem.Expr.Name Hd.s34 (PySem.Pos.mk 276 4 276 8))] (PySem.Expr.ListComp (PySem.Expr.Subscript (PySem.Expr.Name Hd.s256 (PySem.Pos.mk 276 12 276 17)) (PySem.Expr.Slice (Option.some (PySem.Expr.BinOp (PySem.Expr.Name Hd.s87 (PySem.Pos.mk 276 18 276 19)) PySem.Operator.Mult (PySem.Expr.Name Hd.s254 (PySem.Pos.mk 276 22 276 26)) (PySem.Pos.mk 276 18 276 26))) (Option.some (PySem.Expr.BinOp (PySem.Expr.BinOp (PySem.Expr.Name Hd.s87 (PySem.Pos.mk 276 27 276 28)) PySem.Operator.Mult (PySem.Expr.Name Hd.s254 (PySem.Pos.mk 276 31 276 35)) (PySem.Pos.mk 276 27 276 35)) PySem.Operator.Add (PySem.Expr.Name Hd.s254 (PySem.Pos.mk 276 38 276 42)) (PySem.Pos.mk 276 27 276 42))) Option.none (PySem.Pos.mk 276 18 276 42)) (PySem.Pos.mk 276 12 276 43)) [(PySem.Comprehension.mk (PySem.Expr.Name Hd.s87 (PySem.Pos.mk 276 48 276 49)) (PySem.Expr.Call (PySem.Expr.Name Hd.s89 (PySem.Pos.mk 276 53 276 58)) [(PySem.Expr.Name Hd.s254 (PySem.Pos.mk 276 59 276 63))] [] (PySem.Pos.mk 276 53 276 64)) [] (0 : Int))] (PySem.Scope.mk PySem.ScopeKind.function [(Prod.mk Hd.s58 PySem.NameKind.local), (Prod.mk Hd.s87 PySem.NameKind.local), (Prod.mk Hd.s256 PySem.NameKind.free), (Prod.mk Hd.s254 PySem.NameKind.free)] Bool.false Bool.false []) (PySem.Pos.mk 276 11 276 65)) (PySem.Pos.mk 276 4 276 65)), (PySem.Stmt.Assign [(PySem.Expr.Name Hd.s258 (PySem.Pos.mk 277 4 277 13))] (PySem.Expr.List [] (PySem.Pos.mk 277 16 277 18)) (PySem.Pos.mk 277 4 277 18)), (PySem.Stmt.For (PySem.Expr.Name Hd.s87 (PySem.Pos.mk 278 8 278 9)) (PySem.Expr.Call (PySem.Expr.Name Hd.s89 (PySem.Pos.mk 278 13 278 18)) [(PySem.Expr.Name Hd.s254 (PySem.Pos.mk 278 19 278 23))] [] (PySem.Pos.mk 278 13 278 24)) [(PySem.Stmt.Assign [(PySem.Expr.Name Hd.s259 (PySem.Pos.mk 279 8 279 14))] (PySem.Expr.BinOp (PySem.Expr.Subscript (PySem.Expr.Name Hd.s34 (PySem.Pos.mk 279 17 279 21)) (PySem.Expr.Slice Option.none (Option.some (PySem.Expr.Name Hd.s87 (PySem.Pos.mk 279 23 279 24))) Option.none (PySem.Pos.mk 279 22 279 24)) (PySem.Pos.mk 279 17 279 25)) PySem.Operator.Add (PySem.Expr.Subscript (PySem.Expr.Name Hd.s34 (PySem.Pos.mk 279 28 279 32)) (PySem.Expr.Slice (Option.some (PySem.Expr.BinOp (PySem.Expr.Name Hd.s87 (PySem.Pos.mk 279 33 279 34)) PySem.Operator.Add (PySem.Expr.Constant (PySem.Const.int (1 : Int)) 0 (PySem.Pos.mk 279 37 279 38)) (PySem.Pos.mk 279 33 279 38))) Option.none Option.none (PySem.Pos.mk 279 33 279 39)) (PySem.Pos.mk 279 28 279 40)) (PySem.Pos.mk 279 17 279 40)) (PySem.Pos.mk 279 8 279 40)), (PySem.Stmt.Expr (PySem.Expr.Call (PySem.Expr.Attribute (PySem.Expr.Name Hd.s258 (PySem.Pos.mk 280 8 280 17)) Hd.s260 (PySem.Pos.mk 280 8 280 24)) [(PySem.Expr.ListComp (PySem.Expr.BinOp (PySem.Expr.BinOp (PySem.Expr.UnaryOp PySem.UnaryOp.USub (PySem.Expr.Constant (PySem.Const.int (1 : Int)) 0 (PySem.Pos.mk 280 28 280 29)) (PySem.Pos.mk 280 27 280 29)) PySem.Operator.Pow (PySem.Expr.BinOp (PySem.Expr.Name Hd.s87 (PySem.Pos.mk 280 35 280 36)) PySem.Operator.Add (PySem.Expr.Name Hd.s88 (PySem.Pos.mk 280 39 280 40)) (PySem.Pos.mk 280 35 280 40)) (PySem.Pos.mk 280 26 280 41)) PySem.Operator.Mult (PySem.Expr.Call (PySem.Expr.Name Hd.s18 (PySem.Pos.mk 280 44 280 52)) [(PySem.Expr.ListComp (PySem.Expr.BinOp (PySem.Expr.Subscript (PySem.Expr.Name Hd.s57 (PySem.Pos.mk 280 54 280 57)) (PySem.Expr.Slice Option.none (Option.some (PySem.Expr.Name Hd.s88 (PySem.Pos.mk 280 59 280 60))) Option.none (PySem.Pos.mk 280 58 280 60)) (PySem.Pos.mk 280 54 280 61)) PySem.Operator.Add (PySem.Expr.Subscript (PySem.Expr.Name Hd.s57 (PySem.Pos.mk 280 64 280 67)) (PySem.Expr.Slice (Option.some (PySem.Expr.BinOp (PySem.Expr.Name Hd.s88 (PySem.Pos.mk 280 68 280 69)) PySem.Operator.Add (PySem.Expr.Constant (PySem.Const.int (1 : Int)) 0 (PySem.Pos.mk 280 72 280 73)) (PySem.Pos.mk 280 68 280 73))) Option.none Option.none (PySem.Pos.mk 280 68 280 74)) (PySem.Pos.mk 280 64 280 75)) (PySem.Pos.mk 280 54 280 75)) [(PySem.Comprehension.mk (PySem.Expr.Name Hd.s57 (PySem.Pos.mk 280 80 280 83)) (PySem.Expr.Name Hd.s259 (PySem.Pos.mk 280 87 280 93)) [] (0 : Int))] (PySem.Scope.mk PySem.ScopeKind.function [(Prod.mk Hd.s58 PySem.NameKind.local), (Prod.mk Hd.s57 PySem.NameKind.local), (Prod.mk Hd.s88 PySem.NameKind.free)] Bool.false Bool.false []) (PySem.Pos.mk 280 53 280 94))] [] (PySem.Pos.mk 280 44 280 95)) (PySem.Pos.mk 280 26 280 95)) [(PySem.Comprehension.mk (PySem.Expr.Name Hd.s88 (PySem.Pos.mk 280 100 280 101)) (PySem.Expr.Call (PySem.Expr.Name Hd.s89 (PySem.Pos.mk 280 105 280 110)) [(PySem.Expr.Name Hd.s254 (PySem.Pos.mk 280 111 280 115))] [] (PySem.Pos.mk 280 105 280 116)) [] (0 : Int))] (PySem.Scope.mk PySem.ScopeKind.function [(Prod.mk Hd.s58 PySem.NameKind.local), (Prod.mk Hd.s88 PySem.NameKind.cell), (Prod.mk Hd.s18 PySem.NameKind.globalImplicit), (Prod.mk Hd.s87 PySem.NameKind.free), (Prod.mk Hd.s259 PySem.NameKind.free)] Bool.false Bool.false []) (PySem.Pos.mk 280 25 280 117))] [] Hd.d261) Hd.d261)] [] (PySem.Pos.mk 278 4 280 118)), (PySem.Stmt.Assign [(PySem.Expr.Name Hd.s262 (PySem.Pos.mk 281 4 281 10))] (PySem.Expr.Call (PySem.Expr.Name Hd.s255 (PySem.Pos.mk 281 13 281 19)) [(PySem.Expr.Name Hd.s34 (PySem.Pos.mk 281 20 281 24))] [] (PySem.Pos.mk 281 13 281 25)) (PySem.Pos.mk 281 4 281 25)), (PySem.Stmt.Assign [(PySem.Expr.Name Hd.s263 (PySem.Pos.mk 282 4 282 12))] (PySem.Expr.Call (PySem.Expr.Attribute (PySem.Expr.Call (PySem.Expr.Name Hd.s255 (PySem.Pos.mk 282 15 282 21)) [(PySem.Expr.Name Hd.s258 (PySem.Pos.mk 282 22 282 31))] [] (PySem.Pos.mk 282 15 282 32)) Hd.s29 (PySem.Pos.mk 282 15 282 42)) [] [] (PySem.Pos.mk 282 15 282 44)) (PySem.Pos.mk 282 4 282 44)), (PySem.Stmt.Assign [(PySem.Expr.Name Hd.s264 (PySem.Pos.mk 283 4 283 9))] (PySem.Expr.Call (PySem.Expr.Name Hd.s114 (PySem.Pos.mk 283 12 283 15)) [(PySem.Expr.ListComp (PySem.Expr.Subscript (PySem.Expr.Subscript (PySem.Expr.Name Hd.s34 (PySem.Pos.mk 283 17 283 21)) (PySem.Expr.Name Hd.s87 (PySem.Pos.mk 283 22 283 23)) (PySem.Pos.mk 283 17 283 24)) (PySem.Expr.Name Hd.s87 (PySem.Pos.mk 283 25 283 26)) (PySem.Pos.mk 283 17 283 27)) [(PySem.Comprehension.mk (PySem.Expr.Name Hd.s87 (PySem.Pos.mk 283 32 283 33)) (PySem.Expr.Call (PySem.Expr.Name Hd.s89 (PySem.Pos.mk 283 37 283 42)) [(PySem.Expr.Name Hd.s254 (PySem.Pos.mk 283 43 283 47))] [] (PySem.Pos.mk 283 37 283 48)) [] (0 : Int))] (PySem.Scope.mk PySem.ScopeKind.function [(Prod.mk Hd.s58 PySem.NameKind.local), (Prod.mk Hd.s87 PySem.NameKind.local), (Prod.mk Hd.s34 PySem.NameKind.free)] Bool.false Bool.false []) (PySem.Pos.mk 283 16 283 49))] [] (PySem.Pos.mk 283 12 283 50)) (PySem.Pos.mk 283 4 283 50)), (PySem.Stmt.Assign [(PySem.Expr.Name Hd.s265 (PySem.Pos.mk 284 4 284 10))] (PySem.Expr.Call (PySem.Expr.Name Hd.s114 (PySem.Pos.mk 284 13 284 16)) [(PySem.Expr.ListComp (PySem.Expr.Subscript (PySem.Expr.Subscript (PySem.Expr.Name Hd.s258 (PySem.Pos.mk 284 18 284 27)) (PySem.Expr.Name Hd.s87 (PySem.Pos.mk 284 28 284 29)) (PySem.Pos.mk 284 18 284 30)) (PySem.Expr.Name Hd.s87 (PySem.Pos.mk 284 31 284 32)) (PySem.Pos.mk 284 18 284 33)) [(PySem.Comprehension.mk (PySem.Expr.Name Hd.s87 (PySem.Pos.mk 284 38 284 39)) (PySem.Expr.Call (PySem.Expr.Name Hd.s89 (PySem.Pos.mk 284 43 284 48)) [(PySem.Expr.Name Hd.s254 (PySem.Pos.mk 284 49 284 53))] [] (PySem.Pos.mk 284 43 284 54)) [] (0 : Int))] (PySem.Scope.mk PySem.ScopeKind.function [(Prod.mk Hd.s58 PySem.NameKind.local), (Prod.mk Hd.s87 PySem.NameKind.local), (Prod.mk Hd.s258 PySem.NameKind.free)] Bool.false Bool.false []) (PySem.Pos.mk 284 17 284 55))] [] (PySem.Pos.mk 284 13 284 56)) (PySem.Pos.mk 284 4 284 56)), (PySem.Stmt.Assign [(PySem.Expr.Name Hd.s266 (PySem.Pos.mk 285 4 285 9))] (PySem.Expr.Call (PySem.Expr.Name Hd.s114 (PySem.Pos.mk 285 12 285 15)) [(PySem.Expr.ListComp (PySem.Expr.BinOp (PySem.Expr.Subscript (PySem.Expr.Subscript (PySem.Expr.Name Hd.s34 (PySem.Pos.mk 285 17 285 21)) (PySem.Expr.Constant (PySem.Const.int (0 : Int)) 0 (PySem.Pos.mk 285 22 285 23)) (PySem.Pos.mk 285 17 285 24)) (PySem.Expr.Name Hd.s88 (PySem.Pos.mk 285 25 285 26)) (PySem.Pos.mk 285 17 285 27)) PySem.Operator.Mult (PySem.Expr.Subscript (PySem.Expr.Subscript (PySem.Expr.Name Hd.s258 (PySem.Pos.mk 285 30 285 39)) (PySem.Expr.Constant (PySem.Const.int (0 : Int)) 0 (PySem.Pos.mk 285 40 285 41)) (PySem.Pos.mk 285 30 285 42)) (PySem.Expr.Name Hd.s88 (PySem.Pos.mk 285 43 285 44)) (PySem.Pos.mk 285 30 285 45)) (PySem.Pos.mk 285 17 285 45)) [(PySem.Comprehension.mk (PySem.Expr.Name Hd.s88 (PySem.Pos.mk 285 50 285 51)) (PySem.Expr.Call (PySem.Expr.Name Hd.s89 (PySem.Pos.mk 285 55 285 60)) [(PySem.Expr.Name Hd.s254 (PySem.Pos.mk 285 61 285 65))] [] (PySem.Pos.mk 285 55 285 66)) [] (0 : Int))] (PySem.Scope.mk PySem.ScopeKind.function [(Prod.mk Hd.s58 PySem.NameKind.local), (Prod.mk Hd.s88 PySem.NameKind.local), (Prod.mk Hd.s258 PySem.NameKind.free), (Prod.mk Hd.s34 PySem.NameKind.free)] Bool.false Bool.false []) (PySem.Pos.mk 285 16 285 67))] [] (PySem.Pos.mk 285 12 285 68)) (PySem.Pos.mk 285 4 285 68)), (PySem.Stmt.Assign [(PySem.Expr.Name Hd.s267 (PySem.Pos.mk 286 4 286 8))] (PySem.Expr.IfExp (PySem.Expr.Compare (PySem.Expr.Name Hd.s254 (PySem.Pos.mk 286 53 286 57)) [PySem.CmpOp.Eq] [(PySem.Expr.Constant (PySem.Const.int (2 : Int)) 0 (PySem.Pos.mk 286 61 286 62))] (PySem.Pos.mk 286 53 286 62)) (PySem.Expr.List [(PySem.Expr.BinOp (PySem.Expr.Name Hd.s262 (PySem.Pos.mk 286 12 286 18)) PySem.Operator.MatMult (PySem.Expr.Name Hd.s263 (PySem.Pos.mk 286 21 286 29)) (PySem.Pos.mk 286 12 286 29)), (PySem.Expr.BinOp (PySem.Expr.Name Hd.s263 (PySem.Pos.mk 286 31 286 39)) PySem.Operator.MatMult (PySem.Expr.Name Hd.s262 (PySem.Pos.mk 286 42 286 48)) (PySem.Pos.mk 286 31 286 48))] (PySem.Pos.mk 286 11 286 49)) (PySem.Expr.List [(PySem.Expr.BinOp (PySem.Expr.Name Hd.s262 (PySem.Pos.mk 286 69 286 75)) PySem.Operator.MatMult (PySem.Expr.Name Hd.s263 (PySem.Pos.mk 286 78 286 86)) (PySem.Pos.mk 286 69 286 86))] (PySem.Pos.mk 286 68 286 87)) (PySem.Pos.mk 286 11 286 87)) (PySem.Pos.mk 286 4 286 87)), (PySem.Stmt.Assign [(PySem.Expr.Name Hd.s268 (PySem.Pos.mk 287 4 287 11))] (PySem.Expr.BinOp (PySem.Expr.Name Hd.s262 (PySem.Pos.mk 287 14 287 20)) PySem.Operator.MatMult (PySem.Expr.Name Hd.s262 (PySem.Pos.mk 287 23 287 29)) (PySem.Pos.mk 287 14 287 29)) (PySem.Pos.mk 287 4 287 29)), (PySem.Stmt.For (PySem.Expr.Name Hd.s87 (PySem.Pos.mk 288 8 288 9)) (PySem.Expr.Call (PySem.Expr.Name Hd.s89 (PySem.Pos.mk 288 13 288 18)) [(PySem.Expr.Name Hd.s254 (PySem.Pos.mk 288 19 288 23))] [] (PySem.Pos.mk 288 13 288 24)) [(PySem.Stmt.For (PySem.Expr.Name Hd.s88 (PySem.Pos.mk 289 12 289 13)) (PySem.Expr.Call (PySem.Expr.Name Hd.s89 (PySem.Pos.mk 289 17 289 22)) [(PySem.Expr.Name Hd.s254 (PySem.Pos.mk 289 23 289 27))] [] (PySem.Pos.mk 289 17 289 28)) [(PySem.Stmt.Assign [(PySem.Expr.Name Hd.s269 (PySem.Pos.mk 290 12 290 16))] (PySem.Expr.IfExp (PySem.Expr.Compare (PySem.Expr.Name Hd.s87 (PySem.Pos.mk 290 24 290 25)) [PySem.CmpOp.Eq] [(PySem.Expr.Name Hd.s88 (PySem.Pos.mk 290 29 290 30))] (PySem.Pos.mk 290 24 290 30)) (PySem.Expr.Constant (PySem.Const.int (1 : Int)) 0 (PySem.Pos.mk 290 19 290 20)) (PySem.Expr.Constant (PySem.Const.int (0 : Int)) 0 (PySem.Pos.mk 290 36 290 37)) (PySem.Pos.mk 290 19 290 37)) (PySem.Pos.mk 290 12 290 37)), (PySem.Stmt.Assign [(PySem.Expr.Name Hd.s270 (PySem.Pos.mk 291 12 291 15))] (PySem.Expr.BinOp (PySem.Expr.BinOp (PySem.Expr.Name Hd.s264 (PySem.Pos.mk 291 18 291 23)) PySem.Operator.Mult (PySem.Expr.Name Hd.s269 (PySem.Pos.mk 291 26 291 30)) (PySem.Pos.mk 291 18 291 30)) PySem.Operator.Sub (PySem.Expr.Subscript (PySem.Expr.Name Hd.s262 (PySem.Pos.mk 291 33 291 39)) (PySem.Expr.Tuple [(PySem.Expr.Name Hd.s87 (PySem.Pos.mk 291 40 291 41)), (PySem.Expr.Name Hd.s88 (PySem.Pos.mk 291 43 291 44))] 0 (PySem.Pos.mk 291 40 291 44)) (PySem.Pos.mk 291 33 291 45)) (PySem.Pos.mk 291 18 291 45)) (PySem.Pos.mk 291 12 291 45)), (PySem.Stmt.If (PySem.Expr.Compare (PySem.Expr.Name Hd.s254 (PySem.Pos.mk 292 15 292 19)) [PySem.CmpOp.Eq] [(PySem.Expr.Constant (PySem.Const.int (3 : Int)) 0 (PySem.Pos.mk 292 23 292 24))] (PySem.Pos.mk 292 15 292 24)) [(PySem.Stmt.Assign [(PySem.Expr.Name Hd.s270 (PySem.Pos.mk 293 16 293 19))] (PySem.Expr.BinOp (PySem.Expr.BinOp (PySem.Expr.Subscript (PySem.Expr.Name Hd.s268 (PySem.Pos.mk 293 22 293 29)) (PySem.Expr.Tuple [(PySem.Expr.Name Hd.s87 (PySem.Pos.mk 293 30 293 31)), (PySem.Expr.Name Hd.s88 (PySem.Pos.mk 293 33 293 34))] 0 (PySem.Pos.mk 293 30 293 34)) (PySem.Pos.mk 293 22 293 35)) PySem.Operator.Sub (PySem.Expr.BinOp (PySem.Expr.Name Hd.s264 (PySem.Pos.mk 293 38 293 43)) PySem.Operator.Mult (PySem.Expr.Subscript (PySem.Expr.Name Hd.s262 (PySem.Pos.mk 293 46 293 52)) (PySem.Expr.Tuple [(PySem.Expr.Name Hd.s87 (PySem.Pos.mk 293 53 293 54)), (PySem.Expr.Name Hd.s88 (PySem.Pos.mk 293 56 293 57))] 0 (PySem.Pos.mk 293 53 293 57)) (PySem.Pos.mk 293 46 293 58)) (PySem.Pos.mk 293 38 293 58)) (PySem.Pos.mk 293 22 293 58)) PySem.Operator.Add (PySem.Expr.BinOp (PySem.Expr.Name Hd.s265 (PySem.Pos.mk 293 61 293 67)) PySem.Operator.Mult (PySem.Expr.Name Hd.s269 (PySem.Pos.mk 293 70 293 74)) (PySem.Pos.mk 293 61 293 74)) (PySem.Pos.mk 293 22 293 74)) (PySem.Pos.mk 293 16 293 74))] [] (PySem.Pos.mk 292 12 293 74)), (PySem.Stmt.If (PySem.Expr.BoolOp BoolOp.Or [(PySem.Expr.Compare (PySem.Expr.Subscript (PySem.Expr.Name Hd.s263 (PySem.Pos.mk 294 15 294 23)) (PySem.Expr.Tuple [(PySem.Expr.Name Hd.s87 (PySem.Pos.mk 294 24 294 25)), (PySem.Expr.Name Hd.s88 (PySem.Pos.mk 294 27 294 28))] 0 (PySem.Pos.mk 294 24 294 28)) (PySem.Pos.mk 294 15 294 29)) [PySem.CmpOp.NotEq] [(PySem.Expr.Name Hd.s270 (PySem.Pos.mk 294 33 294 36))] (PySem.Pos.mk 294 15 294 36)), (PySem.Expr.Call (PySem.Expr.Name Hd.s271 (PySem.Pos.mk 294 40 294 43)) [(PySem.Expr.ListComp (PySem.Expr.Compare (PySem.Expr.Subscript (PySem.Expr.Name Hd.s272 (PySem.Pos.mk 294 45 294 48)) (PySem.Expr.Tuple [(PySem.Expr.Name Hd.s87 (PySem.Pos.mk 294 49 294 50)), (PySem.Expr.Name Hd.s88 (PySem.Pos.mk 294 52 294 53))] 0 (PySem.Pos.mk 294 49 294 53)) (PySem.Pos.mk 294 45 294 54)) [PySem.CmpOp.NotEq] [(PySem.Expr.BinOp (PySem.Expr.Name Hd.s266 (PySem.Pos.mk 294 58 294 63)) PySem.Operator.Mult (PySem.Expr.Name Hd.s269 (PySem.Pos.mk 294 66 294 70)) (PySem.Pos.mk 294 58 294 70))] (PySem.Pos.mk 294 45 294 70)) [(PySem.Comprehension.mk (PySem.Expr.Name Hd.s272 (PySem.Pos.mk 294 75 294 78)) (PySem.Expr.Name Hd.s267 (PySem.Pos.mk 294 82 294 86)) [] (0 : Int))] (PySem.Scope.mk PySem.ScopeKind.function [(Prod.mk Hd.s58 PySem.NameKind.local), (Prod.mk Hd.s272 PySem.NameKind.local), (Prod.mk Hd.s269 PySem.NameKind.free), (Prod.mk Hd.s87 PySem.NameKind.free), (Prod.mk Hd.s88 PySem.NameKind.free), (Prod.mk Hd.s266 PySem.NameKind.free)] Bool.false Bool.false []) (PySem.Pos.mk 294 44 294 87))] [] (PySem.Pos.mk 294 40 294 88))] (PySem.Pos.mk 294 15 294 88)) [(PySem.Stmt.Return (Option.some (PySem.Expr.Constant (PySem.Const.bool Bool.false) 0 (PySem.Pos.mk 295 23 295 28))) (PySem.Pos.mk 295 16 295 28))] [] (PySem.Pos.mk 294 12 295 28))] [] (PySem.Pos.mk 289 8 295 28))] [] (PySem.Pos.mk 288 4 295 28)), (PySem.Stmt.Return (Option.some (PySem.Expr.Call (PySem.Expr.Attribute (PySem.Expr.BinOp (PySem.Expr.BinOp (PySem.Expr.Call (PySem.Expr.Attribute (PySem.Expr.Name Hd.s128 (PySem.Pos.mk 296 12 296 16)) Hd.s146 (PySem.Pos.mk 296 12 296 20)) [] [] (PySem.Pos.mk 296 12 296 22)) PySem.Operator.Pow (PySem.Expr.Name Hd.s84 (PySem.Pos.mk 296 26 296 27)) (PySem.Pos.mk 296 12 296 27)) PySem.Operator.Add (PySem.Expr.Constant (PySem.Const.int (1 : Int)) 0 (PySem.Pos.mk 296 30 296 31)) (PySem.Pos.mk 296 12 296 31)) Hd.s162 (PySem.Pos.mk 296 11 296 40)) [] [] (PySem.Pos.mk 296 11 296 42))) (PySem.Pos.mk 296 4 296 42))] (.ret (.bool true)) := by
  refine Ex.asg (a := .lst [.lst [PV q 2 p0, PV q 2 p1, PV q 2 p2], .lst [PV q 2 p3, PV q 2 p4, PV q 2 p5], .lst [PV q 2 p6, PV q 2 p7, PV q 2 p8]]) (by walk_at "mk") (by walk_at "mk") (by walk_at "mk") (by walk_at "mk") ?_
  refine Ex.asgNil (by walk_at "mk") (by walk_at "mk") (by walk_at "mk") ?_
  apply Ex.forQ
  · walk_at "mk"
  · walk_at "mk"
  · walk_at "mk"
  · walk_at "mk"
  refine Ex.freezeQ (of_decide_eq_true (by kernel_rfl)) ap3 ?_
  walk_at "mk"
end
end
section
open PySem PySem.Spec PySem.Calls PyProof.Rows PySem.W
section
variable {w : World} {h₁ : Heap} {os : OsState} {mg mb : Str → Option Value}
theorem c_law (ns : List Int) (hns : ns.length ≤ 63) : FnSem (sys w h₁ os mg mb) 40 407 [.lst (ns.map .int)] [] (.bool true) := by
  obtain ⟨xs0, hl0, hpk⟩ := first_of ns [0, 1, 4, 9, 16, 25, 36, 49, 64, 81, 100, 121, 144, 169, 196, 225, 256, 289, 324, 361] 20 (by decide)
  obtain ⟨x0, xs1, rfl, hl1⟩ := cons_of hl0
  obtain ⟨x1, xs2, rfl, hl2⟩ := cons_of hl1
  obtain ⟨x2, xs3, rfl, hl3⟩ := cons_of hl2
  obtain ⟨x3, xs4, rfl, hl4⟩ := cons_of hl3
  obtain ⟨x4, xs5, rfl, hl5⟩ := cons_of hl4
  obtain ⟨x5, xs6, rfl, hl6⟩ := cons_of hl5
  obtain ⟨x6, xs7, rfl, hl7⟩ := cons_of hl6
  obtain ⟨x7, xs8, rfl, hl8⟩ := cons_of hl7
  obtain ⟨x8, xs9, rfl, hl9⟩ := cons_of hl8
  obtain ⟨x9, xs10, rfl, hl10⟩ := cons_of hl9
  obtain ⟨x10, xs11, rfl, hl11⟩ := cons_of hl10
  obtain ⟨x11, xs12, rfl, hl12⟩ := cons_of hl11
  obtain ⟨x12, xs13, rfl, hl13⟩ := cons_of hl12
  obtain ⟨x13, xs14, rfl, hl14⟩ := cons_of hl13
  obtain ⟨x14, xs15, rfl, hl15⟩ := cons_of hl14
  obtain ⟨x15, xs16, rfl, hl16⟩ := cons_of hl15
  obtain ⟨x16, xs17, rfl, hl17⟩ := cons_of hl16
  obtain ⟨x17, xs18, rfl, hl18⟩ := cons_of hl17
  obtain ⟨x18, xs19, rfl, hl19⟩ := cons_of hl18
  obtain ⟨x19, xs20, rfl, hl20⟩ := cons_of hl19
  obtain rfl := List.length_eq_zero_iff.mp hl20
  refine FnSem.of (n := 39) (f := 407) ⟨rfl, rfl, rfl, rfl, rfl, ?_, rfl, rfl, rfl, rfl, rfl, rfl⟩ (Binds.p1 (x := Hd.s251) ?_) ?_ ?_ ?_
  · kernel_rfl
  · intro v S'; kernel_rfl
  · kernel_rfl
  · exact of_decide_eq_true (by kernel_rfl)
  · refine Ex.asg (a := .lst [.int x0, .int x1, .int x2, .int x3, .int x4, .int x5, .int x6, .int x7, .int x8, .int x9, .int x10, .int x11, .int x12, .int x13, .int x14, .int x15, .int x16, .int x17, .int x18, .int x19]) ?_ (by walk_at "mk") (by walk_at "mk") (by walk_at "mk") ?_
    · apply Ev.sliceQ
      · apply Ev.binop
        · walk_at "mk"
        · walk_at "mk"
        · refine BinSem.cat ?_
          rw [List.length_map]
          show ns.length + 20 ≤ 1000
          omega
      · walk_at "mk"
      · walk_at "mk"
      · exact hpk
    refine Ex.asg (a := .int (2 + (if x0 < 0 then -x0 else x0) % 4294967296)) (by walk_at "mk") (by walk_at "mk") (by walk_at "mk") (by walk_at "mk") ?_
    have h1 : 1 < 2 + (if x0 < 0 then -x0 else x0) % 4294967296 := by have := Int.emod_nonneg (if x0 < 0 then -x0 else x0) (b := 4294967296) (by decide); omega
    have hq2 : 2 + (if x0 < 0 then -x0 else x0) % 4294967296 < 2 ^ 63 := by have := Int.emod_lt_of_pos (if x0 < 0 then -x0 else x0) (b := 4294967296) (by decide); omega
    generalize 2 + (if x0 < 0 then -x0 else x0) % 4294967296 = q at h1 hq2 ⊢
    have hq : 0 < q := by omega
    have hsz : (∃ n, (n = 2 ∨ n = 3) ∧ atI [AV.tup [.int 2, .int 2], .tup [.int 2, .int 3], .tup [.int 3, .int 2]] (x1 % 3) = some (AV.tup [.int 2, .int n])) ∨ atI [AV.tup [.int 2, .int 2], .tup [.int 2, .int 3], .tup [.int 3, .int 2]] (x1 % 3) = some (AV.tup [.int 3, .int 2]) := by
      have h3 : x1 % 3 = 0 ∨ x1 % 3 = 1 ∨ x1 % 3 = 2 := by omega
      rcases h3 with h | h | h <;> rw [h]
      · exact .inl ⟨2, .inl rfl, rfl⟩
      · exact .inl ⟨3, .inr rfl, rfl⟩
      · exact .inr rfl
    rcases hsz with ⟨n, hn, hat⟩ | hat
    · refine Ex.unpack2 (a := .int 2) (b := .int n) ?_ (by walk_at "mk") (by walk_at "mk") (by walk_at "mk") (by walk_at "mk") (by walk_at "mk") (by walk_at "mk") ?_
      · refine' Ev.sub' _ _ _ (by intro b _ _; cases b <;> rfl)
        rotate_left 2
        · walk_at "mk"
        · walk_at "mk"
        · exact SubSem.list hat
      refine Ex.asg (a := rngV q n) (by walk_at "mk") (by walk_at "mk") (by walk_at "mk") (by walk_at "mk") ?_
      refine Ex.asg (a := .inst 179 [(Hd.s128, rngV q n)]) (by walk_at "mk") (by walk_at "mk") (by walk_at "mk") (by walk_at "mk") ?_
      apply Ex.obj
      intro a
      refine Ex.asgE (α := C3 × C3 × C3 × C3) (f := fun p => .lst [PV q n p.1, PV q n p.2.1, PV q n p.2.2.1, PV q n p.2.2.2]) ?_ (by walk_at "mk") (by walk_at "mk") (by walk_at "mk") ?_
      · rcases hn with rfl | rfl
        · refine ⟨(⟨x2, x3, 0⟩, ⟨x4, x5, 0⟩, ⟨x6, x7, 0⟩, ⟨x8, x9, 0⟩), Ev.castQ (a := .lst [polV q 2 [.int (x2 % q), .int (x3 % q)], polV q 2 [.int (x4 % q), .int (x5 % q)], polV q 2 [.int (x6 % q), .int (x7 % q)], polV q 2 [.int (x8 % q), .int (x9 % q)]]) ?_ (by rw [PV2, PV2, PV2, PV2])⟩
          walk_at "mk"
        · refine ⟨(⟨x2, x3, x4⟩, ⟨x5, x6, x7⟩, ⟨x8, x9, x10⟩, ⟨x11, x12, x13⟩), Ev.castQ (a := .lst [polV q 3 [.int (x2 % q), .int (x3 % q), .int (x4 % q)], polV q 3 [.int (x5 % q), .int (x6 % q), .int (x7 % q)], polV q 3 [.int (x8 % q), .int (x9 % q), .int (x10 % q)], polV q 3 [.int (x11 % q), .int (x12 % q), .int (x13 % q)]]) ?_ (by rw [PV3, PV3, PV3, PV3])⟩
          walk_at "mk"
      rintro ⟨p0, p1, p2, p3⟩
      exact law_b2 hn hq hq2 h1
    · have hn : (2 : Int) = 2 ∨ (2 : Int) = 3 := .inl rfl
      refine Ex.unpack2 (a := .int 3) (b := .int 2) ?_ (by walk_at "mk") (by walk_at "mk") (by walk_at "mk") (by walk_at "mk") (by walk_at "mk") (by walk_at "mk") ?_
      · refine' Ev.sub' _ _ _ (by intro b _ _; cases b <;> rfl)
        rotate_left 2
        · walk_at "mk"
        · walk_at "mk"
        · exact SubSem.list hat
      refine Ex.asg (a := rngV q 2) (by walk_at "mk") (by walk_at "mk") (by walk_at "mk") (by walk_at "mk") ?_
      refine Ex.asg (a := .inst 179 [(Hd.s128, rngV q 2)]) (by walk_at "mk") (by walk_at "mk") (by walk_at "mk") (by walk_at "mk") ?_
      apply Ex.obj
      intro a
      refine Ex.asgE (α := C3 × C3 × C3 × C3 × C3 × C3 × C3 × C3 × C3) (f := fun p => .lst [PV q 2 p.1, PV q 2 p.2.1, PV q 2 p.2.2.1, PV q 2 p.2.2.2.1, PV q 2 p.2.2.2.2.1, PV q 2 p.2.2.2.2.2.1, PV q 2 p.2.2.2.2.2.2.1, PV q 2 p.2.2.2.2.2.2.2.1, PV q 2 p.2.2.2.2.2.2.2.2]) ?_ (by walk_at "mk") (by walk_at "mk") (by walk_at "mk") ?_
      · refine ⟨(⟨x2, x3, 0⟩, ⟨x4, x5, 0⟩, ⟨x6, x7, 0⟩, ⟨x8, x9, 0⟩, ⟨x10, x11, 0⟩, ⟨x12, x13, 0⟩, ⟨x14, x15, 0⟩, ⟨x16, x17, 0⟩, ⟨x18, x19, 0⟩), Ev.castQ (a := .lst [polV q 2 [.int (x2 % q), .int (x3 % q)], polV q 2 [.int (x4 % q), .int (x5 % q)], polV q 2 [.int (x6 % q), .int (x7 % q)], polV q 2 [.int (x8 % q), .int (x9 % q)], polV q 2 [.int (x10 % q), .int (x11 % q)], polV q 2 [.int (x12 % q), .int (x13 % q)], polV q 2 [.int (x14 % q), .int (x15 % q)], polV q 2 [.int (x16 % q), .int (x17 % q)], polV q 2 [.int (x18 % q), .int (x19 % q)]]) ?_ (by rw [PV2, PV2, PV2, PV2, PV2, PV2, PV2, PV2, PV2])⟩
        walk_at "mk"
      rintro ⟨p0, p1, p2, p3, p4, p5, p6, p7, p8⟩
      exact law_b3 hn hq hq2 h1
end
end
section
open PySem PySem.Spec PySem.Calls PyProof.Rows PySem.W PySem.W.X
theorem law_stat {w : World} {s₀ s₁ : Shared} {mg mb : Str → Option Value} {p : Program} {lo : List Str} {me : ExcName → Option Value} (T : Top p lo me mg mb s₁.heap) (A : AllIn s₁.heap (Hd.frK w.params)) : Stat (sys w s₁.heap s₁.os mg mb) where
  K := fun a o e => allIn_mem A (Hd.frS_mem (mem_of_klookup e))
  g := T.g
  b := T.b
  bm := let ⟨bm, ob, h1, h2, h3, h4, h5, h6⟩ := T.bmain; ⟨bm, ob, h1, h2, h3, h4, h5, h6⟩
  builtins := T.builtins
  lim := T.nolimit
  Kt := fun p hp => List.all_eq_true.mp (show ((Hd.frS w.params).all fun x => notTbl x.2) = true by kernel_rfl) p hp
  tabs := fun p hp => by
    simp only [List.mem_cons, List.not_mem_nil, or_false] at hp
    rcases hp with rfl | rfl | rfl
    · exact tab_of A rfl rfl rfl rfl rfl rfl rfl rfl rfl (by decide)
    · exact tab_of A rfl rfl rfl rfl rfl rfl rfl rfl rfl (by decide)
    · exact tab_of A rfl rfl rfl rfl rfl rfl rfl rfl rfl (by decide)
theorem law_tbl {w : World} {s₀ s₁ : Shared} {vs} (A : AllIn s₀.heap (Hd.frK w.params)) (hk : ∀ b o, s₀.heap.get? b = some o → s₁.heap.get? b = some o) (hz : s₁.heap.objs.size = 409) (h8 : s₁.heap.get? 408 = some { cls := .type "list", data := .seq vs }) : ∀ b o, s₁.heap.get? b = some o → tblOk o = true := by
  intro b o e
  have hb := Heap.lt_size e
  rw [hz] at hb
  by_cases h : b = 408
  · subst h; rw [h8] at e; cases e; rfl
  · have hm : b ∈ (Hd.frK w.params).map (·.1) := by
      rw [← Hd.k_frA w.params]
      have : Hd.frA = List.range 408 := by kernel_rfl
      rw [this]
      exact List.mem_range.mpr (by have : b < 409 := hb; have : b ≠ 408 := h; exact Nat.lt_of_le_of_ne (Nat.le_of_lt_succ hb) h)
    obtain ⟨⟨b', o'⟩, hp, e'⟩ := List.mem_map.mp hm
    have e' : b' = b := e'
    subst e'
    have := hk _ _ (allIn_mem A hp)
    rw [this] at e
    cases e
    exact List.all_eq_true.mp (Hd.k_tbl w.params) _ hp
theorem law_done (c_law : ∀ (w : World) (h₁ : Heap) (os : OsState) (mg mb : Str → Option Value) (ns : List Int), ns.length ≤ 63 → FnSem (sys w h₁ os mg mb) 40 407 [.lst (ns.map .int)] [] (.bool true)) : PySem.Challenge.rw_ay0010_01.Holds := by
  refine Hd.hd fun d kwd hdef => ?_
  intro w s₀ s₁ mg mb G y fa o pm cd doc dV kV ho hd hcd hD hmg hg args vals as L hpre hlay hrd hwl hlo
  have ZF := z_facts Hd.k_frA y
  have ZN := ZF.2.2.1
  have hk := Laid.keeps L
  refine Ground.open G ?_
  intro T B D TE TW
  wrow_args hpre hlay hrd hwl hlo
  rename_i ns _ _ _ _ _ _ _ l vs _ hL _ _ _ hI _ hlen _
  obtain ⟨hat, hsz⟩ := script_at L
  have hobj := script_obj L hL
  rw [ZN] at hat hsz
  subst hat
  have A : AllIn s₁.heap (Hd.frK w.params) := by
    have : ∀ (K : Frag), AllIn s₀.heap K → AllIn s₁.heap K := by
      intro K
      induction K with
      | nil => exact fun _ => trivial
      | cons p K ih => exact fun h => ⟨hk _ _ h.1, ih h.2⟩
    exact this _ ZF.1
  have hfa : fa = 407 := by
    have h1 := mg_of (K := Hd.frK w.params) (v := .ref 407) (n := PySem.Challenge.rw_ay0010_01.row.name) (fun a o e => allIn_mem A (mem_of_klookup e)) T.g (by kernel_rfl)
    rw [defOf_name hdef, h1] at hmg
    cases hmg
    rfl
  subst hfa
  refine law_end (law_stat (s₀ := s₀) T A) (c_law w s₁.heap s₁.os mg mb ns (by omega)) (by omega) rfl rfl hg hobj hI (by omega) (law_tbl ZF.1 hk hsz hobj) fun s' hO hos hb => ?_
  exact ⟨.inl ⟨_, _, [], rfl, fun _ => rfl, ReadsW.bool _, (by first | rfl | wrow_post), fun _ => ⟨List.nodup_nil, fun _ hm => (nomatch hm)⟩⟩, hO, hos, hb⟩
end
end Mine
theorem PySem.Challenge.cw_ay0010_01_holds : PySem.Challenge.rw_ay0010_01.Holds :=
  Mine.law_done fun w h₁ os mg mb ns h => Mine.c_law ns h
