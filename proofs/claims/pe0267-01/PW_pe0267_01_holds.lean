import PyProof.Rows.All
import Wide.All
import OpenK.AllK
import Wide.FinOn
import PySem.Challenge.RW_pe0267_01

set_option compiler.extract_closed false

section
open PySem PySem.W PyProof.Rows
set_option Elab.async false
set_option maxRecDepth 100000
set_option maxHeartbeats 8000000
namespace Mine
/-- the text's statements, by their place -/
noncomputable def stm (i : Nat) : Stmt := (PySem.Challenge.pw_pe0267_01.main.body).getD i (.Pass ⟨0, 0, 0, 0⟩)
noncomputable def inCls (i j : Nat) : Stmt := match stm i with
  | .ClassDef _ _ _ b _ _ _ _ _ _ _ => b.getD j (.Pass ⟨0, 0, 0, 0⟩)
  | s => s
/-- the part of the heap that the top leaves and the law can come to; the defs' own parts are taken from the text -/
noncomputable def heapK : Params → Frag := fun P =>
  (fun {n0 a0 b0 d0 r0 t0 c0 e0 f0 p0} (_ : stm 1 = .FunctionDef n0 a0 b0 d0 r0 t0 c0 e0 f0 p0) {n1 a1 b1 d1 r1 t1 c1 e1 f1 p1} (_ : stm 3 = .FunctionDef n1 a1 b1 d1 r1 t1 c1 e1 f1 p1) {n2 a2 b2 d2 r2 t2 c2 e2 f2 p2} (_ : stm 4 = .FunctionDef n2 a2 b2 d2 r2 t2 c2 e2 f2 p2) {n3 a3 b3 d3 r3 t3 c3 e3 f3 p3} (_ : stm 9 = .FunctionDef n3 a3 b3 d3 r3 t3 c3 e3 f3 p3) {n4 a4 b4 d4 r4 t4 c4 e4 f4 p4} (_ : stm 10 = .FunctionDef n4 a4 b4 d4 r4 t4 c4 e4 f4 p4) {n5 a5 b5 d5 r5 t5 c5 e5 f5 p5} (_ : stm 15 = .FunctionDef n5 a5 b5 d5 r5 t5 c5 e5 f5 p5) {n6 a6 b6 d6 r6 t6 c6 e6 f6 p6} (_ : inCls 16 0 = .FunctionDef n6 a6 b6 d6 r6 t6 c6 e6 f6 p6) {n7 a7 b7 d7 r7 t7 c7 e7 f7 p7} (_ : inCls 16 1 = .FunctionDef n7 a7 b7 d7 r7 t7 c7 e7 f7 p7) {n8 a8 b8 d8 r8 t8 c8 e8 f8 p8} (_ : inCls 16 2 = .FunctionDef n8 a8 b8 d8 r8 t8 c8 e8 f8 p8) {n9 a9 b9 d9 r9 t9 c9 e9 f9 p9} (_ : inCls 16 3 = .FunctionDef n9 a9 b9 d9 r9 t9 c9 e9 f9 p9) {n10 a10 b10 d10 r10 t10 c10 e10 f10 p10} (_ : inCls 16 4 = .FunctionDef n10 a10 b10 d10 r10 t10 c10 e10 f10 p10) {n11 a11 b11 d11 r11 t11 c11 e11 f11 p11} (_ : inCls 16 5 = .FunctionDef n11 a11 b11 d11 r11 t11 c11 e11 f11 p11) {n12 a12 b12 d12 r12 t12 c12 e12 f12 p12} (_ : inCls 16 6 = .FunctionDef n12 a12 b12 d12 r12 t12 c12 e12 f12 p12) {n13 a13 b13 d13 r13 t13 c13 e13 f13 p13} (_ : inCls 16 7 = .FunctionDef n13 a13 b13 d13 r13 t13 c13 e13 f13 p13) {n14 a14 b14 d14 r14 t14 c14 e14 f14 p14} (_ : inCls 16 8 = .FunctionDef n14 a14 b14 d14 r14 t14 c14 e14 f14 p14) {n15 a15 b15 d15 r15 t15 c15 e15 f15 p15} (_ : inCls 16 9 = .FunctionDef n15 a15 b15 d15 r15 t15 c15 e15 f15 p15) {n16 a16 b16 d16 r16 t16 c16 e16 f16 p16} (_ : inCls 16 10 = .FunctionDef n16 a16 b16 d16 r16 t16 c16 e16 f16 p16) {n17 a17 b17 d17 r17 t17 c17 e17 f17 p17} (_ : inCls 16 11 = .FunctionDef n17 a17 b17 d17 r17 t17 c17 e17 f17 p17) {n18 a18 b18 d18 r18 t18 c18 e18 f18 p18} (_ : inCls 16 12 = .FunctionDef n18 a18 b18 d18 r18 t18 c18 e18 f18 p18) {n19 a19 b19 d19 r19 t19 c19 e19 f19 p19} (_ : inCls 16 13 = .FunctionDef n19 a19 b19 d19 r19 t19 c19 e19 f19 p19) {n20 a20 b20 d20 r20 t20 c20 e20 f20 p20} (_ : inCls 16 14 = .FunctionDef n20 a20 b20 d20 r20 t20 c20 e20 f20 p20) {n21 a21 b21 d21 r21 t21 c21 e21 f21 p21} (_ : inCls 16 15 = .FunctionDef n21 a21 b21 d21 r21 t21 c21 e21 f21 p21) {n22 a22 b22 d22 r22 t22 c22 e22 f22 p22} (_ : inCls 16 16 = .FunctionDef n22 a22 b22 d22 r22 t22 c22 e22 f22 p22) {n23 a23 b23 d23 r23 t23 c23 e23 f23 p23} (_ : stm 18 = .FunctionDef n23 a23 b23 d23 r23 t23 c23 e23 f23 p23) {n24 a24 b24 d24 r24 t24 c24 e24 f24 p24} (_ : stm 19 = .FunctionDef n24 a24 b24 d24 r24 t24 c24 e24 f24 p24) {n25 a25 b25 d25 r25 t25 c25 e25 f25 p25} (_ : stm 20 = .FunctionDef n25 a25 b25 d25 r25 t25 c25 e25 f25 p25) {n26 a26 b26 d26 r26 t26 c26 e26 f26 p26} (_ : stm 21 = .FunctionDef n26 a26 b26 d26 r26 t26 c26 e26 f26 p26) {n27 a27 b27 d27 r27 t27 c27 e27 f27 p27} (_ : stm 22 = .FunctionDef n27 a27 b27 d27 r27 t27 c27 e27 f27 p27) {n28 a28 b28 d28 r28 t28 c28 e28 f28 p28} (_ : stm 23 = .FunctionDef n28 a28 b28 d28 r28 t28 c28 e28 f28 p28) {n29 a29 b29 d29 r29 t29 c29 e29 f29 p29} (_ : stm 24 = .FunctionDef n29 a29 b29 d29 r29 t29 c29 e29 f29 p29) {n30 a30 b30 d30 r30 t30 c30 e30 f30 p30} (_ : stm 25 = .FunctionDef n30 a30 b30 d30 r30 t30 c30 e30 f30 p30) {n31 a31 b31 d31 r31 t31 c31 e31 f31 p31} (_ : stm 26 = .FunctionDef n31 a31 b31 d31 r31 t31 c31 e31 f31 p31) =>
    (((nat_lit 3), (PySem.Obj.mk (PySem.Value.type "dict") (Option.none) (PySem.Data.dict (List.toArray [(PySem.DictEntry.mk (PySem.PyData.keyHash P (PySem.Str.ofString "__name__")) (PySem.Value.str (PySem.Str.ofString "__name__") 165) (PySem.Value.str (PySem.Str.ofString "law_pe0267_01") 618)), (PySem.DictEntry.mk (PySem.PyData.keyHash P (PySem.Str.ofString "__doc__")) (PySem.Value.str (PySem.Str.ofString "__doc__") 166) PySem.Value.none), (PySem.DictEntry.mk (PySem.PyData.keyHash P (PySem.Str.ofString "__package__")) (PySem.Value.str (PySem.Str.ofString "__package__") 167) PySem.Value.none), (PySem.DictEntry.mk (PySem.PyData.keyHash P (PySem.Str.ofString "__loader__")) (PySem.Value.str (PySem.Str.ofString "__loader__") 168) (PySem.Value.builtin "__main__.__loader__#opaque")), (PySem.DictEntry.mk (PySem.PyData.keyHash P (PySem.Str.ofString "__spec__")) (PySem.Value.str (PySem.Str.ofString "__spec__") 169) PySem.Value.none), (PySem.DictEntry.mk (PySem.PyData.keyHash P (PySem.Str.ofString "__annotations__")) (PySem.Value.str (PySem.Str.ofString "__annotations__") 170) (PySem.Value.ref 6)), (PySem.DictEntry.mk (PySem.PyData.keyHash P (PySem.Str.ofString "__builtins__")) (PySem.Value.str (PySem.Str.ofString "__builtins__") 171) (PySem.Value.ref 4)), (PySem.DictEntry.mk (PySem.PyData.keyHash P (PySem.Str.ofString "__file__")) (PySem.Value.str (PySem.Str.ofString "__file__") 173) (PySem.Value.str (PySem.Str.ofString "/claim/cut.py") 172)), (PySem.DictEntry.mk (PySem.PyData.keyHash P (PySem.Str.ofString "__cached__")) (PySem.Value.str (PySem.Str.ofString "__cached__") 174) PySem.Value.none), (PySem.DictEntry.mk (PySem.PyData.keyHash P (PySem.Str.ofString "_sre")) (PySem.Value.str (PySem.Str.ofString "_sre") 275) (PySem.Value.ref 12)), (PySem.DictEntry.mk (PySem.PyData.keyHash P (PySem.Str.ofString "_wall")) (PySem.Value.str (PySem.Str.ofString "_wall") 288) (PySem.Value.ref 38)), (PySem.DictEntry.mk (PySem.PyData.keyHash P (PySem.Str.ofString "bisect_right")) (PySem.Value.str (PySem.Str.ofString "bisect_right") 304) (PySem.Value.ref 47)), (PySem.DictEntry.mk (PySem.PyData.keyHash P (PySem.Str.ofString "bisect_left")) (PySem.Value.str (PySem.Str.ofString "bisect_left") 318) (PySem.Value.ref 56)), (PySem.DictEntry.mk (PySem.PyData.keyHash P (PySem.Str.ofString "_MAX_STRING_SIZE")) (PySem.Value.str (PySem.Str.ofString "_MAX_STRING_SIZE") 322) (PySem.Value.int (40 : Int) 321)), (PySem.DictEntry.mk (PySem.PyData.keyHash P (PySem.Str.ofString "_MOVE_COST")) (PySem.Value.str (PySem.Str.ofString "_MOVE_COST") 324) (PySem.Value.int (2 : Int) 323)), (PySem.DictEntry.mk (PySem.PyData.keyHash P (PySem.Str.ofString "_CASE_COST")) (PySem.Value.str (PySem.Str.ofString "_CASE_COST") 326) (PySem.Value.int (1 : Int) 325)), (PySem.DictEntry.mk (PySem.PyData.keyHash P (PySem.Str.ofString "_substitution_cost")) (PySem.Value.str (PySem.Str.ofString "_substitution_cost") 334) (PySem.Value.ref 63)), (PySem.DictEntry.mk (PySem.PyData.keyHash P (PySem.Str.ofString "_levenshtein_distance")) (PySem.Value.str (PySem.Str.ofString "_levenshtein_distance") 354) (PySem.Value.ref 70)), (PySem.DictEntry.mk (PySem.PyData.keyHash P (PySem.Str.ofString "tspecials")) (PySem.Value.str (PySem.Str.ofString "tspecials") 390) (PySem.Value.ref 75)), (PySem.DictEntry.mk (PySem.PyData.keyHash P (PySem.Str.ofString "_name_disallowed_re")) (PySem.Value.str (PySem.Str.ofString "_name_disallowed_re") 416) (PySem.Value.ref 80)), (PySem.DictEntry.mk (PySem.PyData.keyHash P (PySem.Str.ofString "_value_disallowed_re")) (PySem.Value.str (PySem.Str.ofString "_value_disallowed_re") 450) (PySem.Value.ref 85)), (PySem.DictEntry.mk (PySem.PyData.keyHash P (PySem.Str.ofString "_formatparam")) (PySem.Value.str (PySem.Str.ofString "_formatparam") 460) (PySem.Value.ref 93)), (PySem.DictEntry.mk (PySem.PyData.keyHash P (PySem.Str.ofString "Headers")) (PySem.Value.str (PySem.Str.ofString "Headers") 617) (PySem.Value.ref 214)), (PySem.DictEntry.mk (PySem.PyData.keyHash P (PySem.Str.ofString "_law_table")) (PySem.Value.str (PySem.Str.ofString "_law_table") 628) (PySem.Value.ref 225)), (PySem.DictEntry.mk (PySem.PyData.keyHash P (PySem.Str.ofString "_law_places")) (PySem.Value.str (PySem.Str.ofString "_law_places") 634) (PySem.Value.ref 230)), (PySem.DictEntry.mk (PySem.PyData.keyHash P (PySem.Str.ofString "_law_ends")) (PySem.Value.str (PySem.Str.ofString "_law_ends") 647) (PySem.Value.ref 237)), (PySem.DictEntry.mk (PySem.PyData.keyHash P (PySem.Str.ofString "_law_begins")) (PySem.Value.str (PySem.Str.ofString "_law_begins") 659) (PySem.Value.ref 244)), (PySem.DictEntry.mk (PySem.PyData.keyHash P (PySem.Str.ofString "_law_within")) (PySem.Value.str (PySem.Str.ofString "_law_within") 669) (PySem.Value.ref 251)), (PySem.DictEntry.mk (PySem.PyData.keyHash P (PySem.Str.ofString "_law_halved")) (PySem.Value.str (PySem.Str.ofString "_law_halved") 683) (PySem.Value.ref 258)), (PySem.DictEntry.mk (PySem.PyData.keyHash P (PySem.Str.ofString "_law_excess")) (PySem.Value.str (PySem.Str.ofString "_law_excess") 696) (PySem.Value.ref 265)), (PySem.DictEntry.mk (PySem.PyData.keyHash P (PySem.Str.ofString "_law_first")) (PySem.Value.str (PySem.Str.ofString "_law_first") 702) (PySem.Value.ref 270)), (PySem.DictEntry.mk (PySem.PyData.keyHash P (PySem.Str.ofString "law")) (PySem.Value.str (PySem.Str.ofString "law") 708) (PySem.Value.ref 275))]) 32) (List.toArray []))) ::
    ((nat_lit 32), (PySem.Obj.mk (PySem.Value.type "tuple") (Option.none) (PySem.Data.seq (List.toArray []) 0) (List.toArray []))) ::
    ((nat_lit 34), (PySem.Obj.mk (PySem.Value.type "tuple") (Option.none) (PySem.Data.seq (List.toArray [(PySem.Value.str (PySem.Str.ofString "k") 285)]) 0) (List.toArray []))) ::
    ((nat_lit 35), (PySem.Obj.mk (PySem.Value.type "tuple") (Option.none) (PySem.Data.seq (List.toArray []) 0) (List.toArray []))) ::
    ((nat_lit 37), (PySem.Obj.mk (PySem.Value.type "code") (Option.none) (PySem.Data.fields (List.toArray [(PySem.Value.str (PySem.Str.ofString "_wall") 282), (PySem.Value.str (PySem.Str.ofString "_wall") 283), (PySem.Value.str (PySem.Str.ofString "/claim/cut.py") 284), (PySem.Value.int (2 : Int) 0), (PySem.Value.int (1 : Int) 0), (PySem.Value.int (0 : Int) 0), (PySem.Value.int (0 : Int) 0), (PySem.Value.int (3 : Int) 0), (PySem.Value.ref 32), (PySem.Value.bool Bool.true), (PySem.Value.int (276 : Int) 0), (PySem.Value.ref 33), PySem.Value.none, (PySem.Value.ref 34), (PySem.Value.ref 35), (PySem.Value.ref 36), (PySem.Value.int (286 : Int) 0), (PySem.Value.int (2 : Int) 0), (PySem.Value.str (PySem.Str.ofString "/claim/cut.py") 287)])) (List.toArray []))) ::
    ((nat_lit 38), (PySem.Obj.mk (PySem.Value.type "function") (Option.none) (PySem.Data.func (PySem.FuncData.mk (PySem.Str.ofString "_wall") (PySem.Str.ofString "_wall") a0 (PySem.FuncBody.stmts b0) c0 3 [] PySem.Value.none PySem.Value.none PySem.Value.none (PySem.Value.str (PySem.Str.ofString "__main__") 164) (Option.none) (PySem.Value.ref 37) PySem.Value.none 0)) (List.toArray []))) ::
    ((nat_lit 39), (PySem.Obj.mk (PySem.Value.type "tuple") (Option.none) (PySem.Data.seq (List.toArray [(PySem.Value.int (0 : Int) 291), PySem.Value.none]) 0) (List.toArray []))) ::
    ((nat_lit 40), (PySem.Obj.mk (PySem.Value.type "dict") (Option.none) (PySem.Data.dict (List.toArray [(PySem.DictEntry.mk (PySem.PyData.keyHash P (PySem.Str.ofString "key")) (PySem.Value.str (PySem.Str.ofString "key") 292) PySem.Value.none)]) 1) (List.toArray []))) ::
    ((nat_lit 41), (PySem.Obj.mk (PySem.Value.type "tuple") (Option.none) (PySem.Data.seq (List.toArray []) 0) (List.toArray []))) ::
    ((nat_lit 43), (PySem.Obj.mk (PySem.Value.type "tuple") (Option.none) (PySem.Data.seq (List.toArray [(PySem.Value.str (PySem.Str.ofString "a") 296), (PySem.Value.str (PySem.Str.ofString "x") 297), (PySem.Value.str (PySem.Str.ofString "lo") 298), (PySem.Value.str (PySem.Str.ofString "hi") 299), (PySem.Value.str (PySem.Str.ofString "key") 300), (PySem.Value.str (PySem.Str.ofString "mid") 301)]) 0) (List.toArray []))) ::
    ((nat_lit 44), (PySem.Obj.mk (PySem.Value.type "tuple") (Option.none) (PySem.Data.seq (List.toArray []) 0) (List.toArray []))) ::
    ((nat_lit 46), (PySem.Obj.mk (PySem.Value.type "code") (Option.none) (PySem.Data.fields (List.toArray [(PySem.Value.str (PySem.Str.ofString "bisect_right") 293), (PySem.Value.str (PySem.Str.ofString "bisect_right") 294), (PySem.Value.str (PySem.Str.ofString "/claim/cut.py") 295), (PySem.Value.int (6 : Int) 0), (PySem.Value.int (4 : Int) 0), (PySem.Value.int (0 : Int) 0), (PySem.Value.int (1 : Int) 0), (PySem.Value.int (3 : Int) 0), (PySem.Value.ref 41), (PySem.Value.bool Bool.true), (PySem.Value.int (276 : Int) 0), (PySem.Value.ref 42), PySem.Value.none, (PySem.Value.ref 43), (PySem.Value.ref 44), (PySem.Value.ref 45), (PySem.Value.int (302 : Int) 0), (PySem.Value.int (6 : Int) 0), (PySem.Value.str (PySem.Str.ofString "/claim/cut.py") 303)])) (List.toArray []))) ::
    ((nat_lit 47), (PySem.Obj.mk (PySem.Value.type "function") (Option.none) (PySem.Data.func (PySem.FuncData.mk (PySem.Str.ofString "bisect_right") (PySem.Str.ofString "bisect_right") a1 (PySem.FuncBody.stmts b1) c1 3 [] (PySem.Value.ref 39) (PySem.Value.ref 40) PySem.Value.none (PySem.Value.str (PySem.Str.ofString "cpy313.bisect") 289) (Option.none) (PySem.Value.ref 46) PySem.Value.none 0)) (List.toArray []))) ::
    ((nat_lit 48), (PySem.Obj.mk (PySem.Value.type "tuple") (Option.none) (PySem.Data.seq (List.toArray [(PySem.Value.int (0 : Int) 305), PySem.Value.none]) 0) (List.toArray []))) ::
    ((nat_lit 49), (PySem.Obj.mk (PySem.Value.type "dict") (Option.none) (PySem.Data.dict (List.toArray [(PySem.DictEntry.mk (PySem.PyData.keyHash P (PySem.Str.ofString "key")) (PySem.Value.str (PySem.Str.ofString "key") 306) PySem.Value.none)]) 1) (List.toArray []))) ::
    ((nat_lit 50), (PySem.Obj.mk (PySem.Value.type "tuple") (Option.none) (PySem.Data.seq (List.toArray []) 0) (List.toArray []))) ::
    ((nat_lit 52), (PySem.Obj.mk (PySem.Value.type "tuple") (Option.none) (PySem.Data.seq (List.toArray [(PySem.Value.str (PySem.Str.ofString "a") 310), (PySem.Value.str (PySem.Str.ofString "x") 311), (PySem.Value.str (PySem.Str.ofString "lo") 312), (PySem.Value.str (PySem.Str.ofString "hi") 313), (PySem.Value.str (PySem.Str.ofString "key") 314), (PySem.Value.str (PySem.Str.ofString "mid") 315)]) 0) (List.toArray []))) ::
    ((nat_lit 53), (PySem.Obj.mk (PySem.Value.type "tuple") (Option.none) (PySem.Data.seq (List.toArray []) 0) (List.toArray []))) ::
    ((nat_lit 55), (PySem.Obj.mk (PySem.Value.type "code") (Option.none) (PySem.Data.fields (List.toArray [(PySem.Value.str (PySem.Str.ofString "bisect_left") 307), (PySem.Value.str (PySem.Str.ofString "bisect_left") 308), (PySem.Value.str (PySem.Str.ofString "/claim/cut.py") 309), (PySem.Value.int (26 : Int) 0), (PySem.Value.int (4 : Int) 0), (PySem.Value.int (0 : Int) 0), (PySem.Value.int (1 : Int) 0), (PySem.Value.int (3 : Int) 0), (PySem.Value.ref 50), (PySem.Value.bool Bool.true), (PySem.Value.int (276 : Int) 0), (PySem.Value.ref 51), PySem.Value.none, (PySem.Value.ref 52), (PySem.Value.ref 53), (PySem.Value.ref 54), (PySem.Value.int (316 : Int) 0), (PySem.Value.int (26 : Int) 0), (PySem.Value.str (PySem.Str.ofString "/claim/cut.py") 317)])) (List.toArray []))) ::
    ((nat_lit 56), (PySem.Obj.mk (PySem.Value.type "function") (Option.none) (PySem.Data.func (PySem.FuncData.mk (PySem.Str.ofString "bisect_left") (PySem.Str.ofString "bisect_left") a2 (PySem.FuncBody.stmts b2) c2 3 [] (PySem.Value.ref 48) (PySem.Value.ref 49) PySem.Value.none (PySem.Value.str (PySem.Str.ofString "cpy313.bisect") 289) (Option.none) (PySem.Value.ref 55) PySem.Value.none 0)) (List.toArray []))) ::
    ((nat_lit 57), (PySem.Obj.mk (PySem.Value.type "tuple") (Option.none) (PySem.Data.seq (List.toArray []) 0) (List.toArray []))) ::
    ((nat_lit 59), (PySem.Obj.mk (PySem.Value.type "tuple") (Option.none) (PySem.Data.seq (List.toArray [(PySem.Value.str (PySem.Str.ofString "ch_a") 330), (PySem.Value.str (PySem.Str.ofString "ch_b") 331)]) 0) (List.toArray []))) ::
    ((nat_lit 60), (PySem.Obj.mk (PySem.Value.type "tuple") (Option.none) (PySem.Data.seq (List.toArray []) 0) (List.toArray []))) ::
    ((nat_lit 62), (PySem.Obj.mk (PySem.Value.type "code") (Option.none) (PySem.Data.fields (List.toArray [(PySem.Value.str (PySem.Str.ofString "_substitution_cost") 327), (PySem.Value.str (PySem.Str.ofString "_substitution_cost") 328), (PySem.Value.str (PySem.Str.ofString "/claim/cut.py") 329), (PySem.Value.int (50 : Int) 0), (PySem.Value.int (2 : Int) 0), (PySem.Value.int (0 : Int) 0), (PySem.Value.int (0 : Int) 0), (PySem.Value.int (3 : Int) 0), (PySem.Value.ref 57), (PySem.Value.bool Bool.true), (PySem.Value.int (276 : Int) 0), (PySem.Value.ref 58), PySem.Value.none, (PySem.Value.ref 59), (PySem.Value.ref 60), (PySem.Value.ref 61), (PySem.Value.int (332 : Int) 0), (PySem.Value.int (50 : Int) 0), (PySem.Value.str (PySem.Str.ofString "/claim/cut.py") 333)])) (List.toArray []))) ::
    ((nat_lit 63), (PySem.Obj.mk (PySem.Value.type "function") (Option.none) (PySem.Data.func (PySem.FuncData.mk (PySem.Str.ofString "_substitution_cost") (PySem.Str.ofString "_substitution_cost") a3 (PySem.FuncBody.stmts b3) c3 3 [] PySem.Value.none PySem.Value.none PySem.Value.none (PySem.Value.str (PySem.Str.ofString "cpy313.traceback") 319) (Option.none) (PySem.Value.ref 62) PySem.Value.none 0)) (List.toArray []))) ::
    ((nat_lit 64), (PySem.Obj.mk (PySem.Value.type "tuple") (Option.none) (PySem.Data.seq (List.toArray []) 0) (List.toArray []))) ::
    ((nat_lit 66), (PySem.Obj.mk (PySem.Value.type "tuple") (Option.none) (PySem.Data.seq (List.toArray [(PySem.Value.str (PySem.Str.ofString "a") 338), (PySem.Value.str (PySem.Str.ofString "b") 339), (PySem.Value.str (PySem.Str.ofString "max_cost") 340), (PySem.Value.str (PySem.Str.ofString "pre") 341), (PySem.Value.str (PySem.Str.ofString "post") 342), (PySem.Value.str (PySem.Str.ofString "row") 343), (PySem.Value.str (PySem.Str.ofString "result") 344), (PySem.Value.str (PySem.Str.ofString "bindex") 345), (PySem.Value.str (PySem.Str.ofString "bchar") 346), (PySem.Value.str (PySem.Str.ofString "distance") 347), (PySem.Value.str (PySem.Str.ofString "minimum") 348), (PySem.Value.str (PySem.Str.ofString "index") 349), (PySem.Value.str (PySem.Str.ofString "substitute") 350), (PySem.Value.str (PySem.Str.ofString "insert_delete") 351)]) 0) (List.toArray []))) ::
    ((nat_lit 67), (PySem.Obj.mk (PySem.Value.type "tuple") (Option.none) (PySem.Data.seq (List.toArray []) 0) (List.toArray []))) ::
    ((nat_lit 69), (PySem.Obj.mk (PySem.Value.type "code") (Option.none) (PySem.Data.fields (List.toArray [(PySem.Value.str (PySem.Str.ofString "_levenshtein_distance") 335), (PySem.Value.str (PySem.Str.ofString "_levenshtein_distance") 336), (PySem.Value.str (PySem.Str.ofString "/claim/cut.py") 337), (PySem.Value.int (56 : Int) 0), (PySem.Value.int (3 : Int) 0), (PySem.Value.int (0 : Int) 0), (PySem.Value.int (0 : Int) 0), (PySem.Value.int (3 : Int) 0), (PySem.Value.ref 64), (PySem.Value.bool Bool.true), (PySem.Value.int (276 : Int) 0), (PySem.Value.ref 65), PySem.Value.none, (PySem.Value.ref 66), (PySem.Value.ref 67), (PySem.Value.ref 68), (PySem.Value.int (352 : Int) 0), (PySem.Value.int (56 : Int) 0), (PySem.Value.str (PySem.Str.ofString "/claim/cut.py") 353)])) (List.toArray []))) ::
    ((nat_lit 70), (PySem.Obj.mk (PySem.Value.type "function") (Option.none) (PySem.Data.func (PySem.FuncData.mk (PySem.Str.ofString "_levenshtein_distance") (PySem.Str.ofString "_levenshtein_distance") a4 (PySem.FuncBody.stmts b4) c4 3 [] PySem.Value.none PySem.Value.none PySem.Value.none (PySem.Value.str (PySem.Str.ofString "cpy313.traceback") 319) (Option.none) (PySem.Value.ref 69) PySem.Value.none 0)) (List.toArray []))) ::
    ((nat_lit 74), (PySem.Obj.mk (PySem.Value.type "tuple") (Option.none) (PySem.Data.seq (List.toArray [(PySem.Value.int (14 : Int) 0), (PySem.Value.int (14 : Int) 0), (PySem.Value.int (4 : Int) 0), (PySem.Value.int (1 : Int) 0), (PySem.Value.int (1 : Int) 0), (PySem.Value.int (9 : Int) 0), (PySem.Value.int (0 : Int) 0), (PySem.Value.int (4227896069 : Int) 0), (PySem.Value.int (939524097 : Int) 0), (PySem.Value.int (0 : Int) 0), (PySem.Value.int (0 : Int) 0), (PySem.Value.int (0 : Int) 0), (PySem.Value.int (0 : Int) 0), (PySem.Value.int (0 : Int) 0), (PySem.Value.int (0 : Int) 0), (PySem.Value.int (13 : Int) 0), (PySem.Value.int (11 : Int) 0), (PySem.Value.int (9 : Int) 0), (PySem.Value.int (0 : Int) 0), (PySem.Value.int (4227896069 : Int) 0), (PySem.Value.int (939524097 : Int) 0), (PySem.Value.int (0 : Int) 0), (PySem.Value.int (0 : Int) 0), (PySem.Value.int (0 : Int) 0), (PySem.Value.int (0 : Int) 0), (PySem.Value.int (0 : Int) 0), (PySem.Value.int (0 : Int) 0), (PySem.Value.int (1 : Int) 0)]) 0) (List.toArray []))) ::
    ((nat_lit 75), (PySem.Obj.mk (PySem.Value.type "re.Pattern") (Option.none) (PySem.Data.fields (List.toArray [(PySem.Value.str (PySem.Str.ofString "[ \\(\\)<>@,;:\\\\\"/\\[\\]\\?=]") 358), (PySem.Value.int (32 : Int) 389), (PySem.Value.int (0 : Int) 0), PySem.Value.none, PySem.Value.none, (PySem.Value.ref 74), (PySem.Value.int (0 : Int) 0)])) (List.toArray []))) ::
    ((nat_lit 79), (PySem.Obj.mk (PySem.Value.type "tuple") (Option.none) (PySem.Data.seq (List.toArray [(PySem.Value.int (14 : Int) 0), (PySem.Value.int (10 : Int) 0), (PySem.Value.int (4 : Int) 0), (PySem.Value.int (1 : Int) 0), (PySem.Value.int (1 : Int) 0), (PySem.Value.int (22 : Int) 0), (PySem.Value.int (0 : Int) 0), (PySem.Value.int (31 : Int) 0), (PySem.Value.int (16 : Int) 0), (PySem.Value.int (127 : Int) 0), (PySem.Value.int (0 : Int) 0), (PySem.Value.int (13 : Int) 0), (PySem.Value.int (7 : Int) 0), (PySem.Value.int (22 : Int) 0), (PySem.Value.int (0 : Int) 0), (PySem.Value.int (31 : Int) 0), (PySem.Value.int (16 : Int) 0), (PySem.Value.int (127 : Int) 0), (PySem.Value.int (0 : Int) 0), (PySem.Value.int (1 : Int) 0)]) 0) (List.toArray []))) ::
    ((nat_lit 80), (PySem.Obj.mk (PySem.Value.type "re.Pattern") (Option.none) (PySem.Data.fields (List.toArray [(PySem.Value.str (PySem.Str.ofString "[\\x00-\\x1F\\x7F]") 392), (PySem.Value.int (32 : Int) 415), (PySem.Value.int (0 : Int) 0), PySem.Value.none, PySem.Value.none, (PySem.Value.ref 79), (PySem.Value.int (0 : Int) 0)])) (List.toArray []))) ::
    ((nat_lit 84), (PySem.Obj.mk (PySem.Value.type "tuple") (Option.none) (PySem.Data.seq (List.toArray [(PySem.Value.int (14 : Int) 0), (PySem.Value.int (14 : Int) 0), (PySem.Value.int (4 : Int) 0), (PySem.Value.int (1 : Int) 0), (PySem.Value.int (1 : Int) 0), (PySem.Value.int (9 : Int) 0), (PySem.Value.int (4294966783 : Int) 0), (PySem.Value.int (0 : Int) 0), (PySem.Value.int (0 : Int) 0), (PySem.Value.int (2147483648 : Int) 0), (PySem.Value.int (0 : Int) 0), (PySem.Value.int (0 : Int) 0), (PySem.Value.int (0 : Int) 0), (PySem.Value.int (0 : Int) 0), (PySem.Value.int (0 : Int) 0), (PySem.Value.int (13 : Int) 0), (PySem.Value.int (11 : Int) 0), (PySem.Value.int (9 : Int) 0), (PySem.Value.int (4294966783 : Int) 0), (PySem.Value.int (0 : Int) 0), (PySem.Value.int (0 : Int) 0), (PySem.Value.int (2147483648 : Int) 0), (PySem.Value.int (0 : Int) 0), (PySem.Value.int (0 : Int) 0), (PySem.Value.int (0 : Int) 0), (PySem.Value.int (0 : Int) 0), (PySem.Value.int (0 : Int) 0), (PySem.Value.int (1 : Int) 0)]) 0) (List.toArray []))) ::
    ((nat_lit 85), (PySem.Obj.mk (PySem.Value.type "re.Pattern") (Option.none) (PySem.Data.fields (List.toArray [(PySem.Value.str (PySem.Str.ofString "[\\x00-\\x08\\x0A-\\x1F\\x7F]") 418), (PySem.Value.int (32 : Int) 449), (PySem.Value.int (0 : Int) 0), PySem.Value.none, PySem.Value.none, (PySem.Value.ref 84), (PySem.Value.int (0 : Int) 0)])) (List.toArray []))) ::
    ((nat_lit 86), (PySem.Obj.mk (PySem.Value.type "tuple") (Option.none) (PySem.Data.seq (List.toArray [PySem.Value.none, (PySem.Value.int (1 : Int) 451)]) 0) (List.toArray []))) ::
    ((nat_lit 87), (PySem.Obj.mk (PySem.Value.type "tuple") (Option.none) (PySem.Data.seq (List.toArray []) 0) (List.toArray []))) ::
    ((nat_lit 89), (PySem.Obj.mk (PySem.Value.type "tuple") (Option.none) (PySem.Data.seq (List.toArray [(PySem.Value.str (PySem.Str.ofString "param") 455), (PySem.Value.str (PySem.Str.ofString "value") 456), (PySem.Value.str (PySem.Str.ofString "quote") 457)]) 0) (List.toArray []))) ::
    ((nat_lit 90), (PySem.Obj.mk (PySem.Value.type "tuple") (Option.none) (PySem.Data.seq (List.toArray []) 0) (List.toArray []))) ::
    ((nat_lit 92), (PySem.Obj.mk (PySem.Value.type "code") (Option.none) (PySem.Data.fields (List.toArray [(PySem.Value.str (PySem.Str.ofString "_formatparam") 452), (PySem.Value.str (PySem.Str.ofString "_formatparam") 453), (PySem.Value.str (PySem.Str.ofString "/claim/cut.py") 454), (PySem.Value.int (98 : Int) 0), (PySem.Value.int (3 : Int) 0), (PySem.Value.int (0 : Int) 0), (PySem.Value.int (0 : Int) 0), (PySem.Value.int (3 : Int) 0), (PySem.Value.ref 87), (PySem.Value.bool Bool.true), (PySem.Value.int (276 : Int) 0), (PySem.Value.ref 88), PySem.Value.none, (PySem.Value.ref 89), (PySem.Value.ref 90), (PySem.Value.ref 91), (PySem.Value.int (458 : Int) 0), (PySem.Value.int (98 : Int) 0), (PySem.Value.str (PySem.Str.ofString "/claim/cut.py") 459)])) (List.toArray []))) ::
    ((nat_lit 93), (PySem.Obj.mk (PySem.Value.type "function") (Option.none) (PySem.Data.func (PySem.FuncData.mk (PySem.Str.ofString "_formatparam") (PySem.Str.ofString "_formatparam") a5 (PySem.FuncBody.stmts b5) c5 3 [] (PySem.Value.ref 86) PySem.Value.none PySem.Value.none (PySem.Value.str (PySem.Str.ofString "cpy313.wsgiref.headers") 355) (Option.none) (PySem.Value.ref 92) PySem.Value.none 0)) (List.toArray []))) ::
    ((nat_lit 101), (PySem.Obj.mk (PySem.Value.type "tuple") (Option.none) (PySem.Data.seq (List.toArray [PySem.Value.none]) 0) (List.toArray []))) ::
    ((nat_lit 102), (PySem.Obj.mk (PySem.Value.type "tuple") (Option.none) (PySem.Data.seq (List.toArray []) 0) (List.toArray []))) ::
    ((nat_lit 104), (PySem.Obj.mk (PySem.Value.type "tuple") (Option.none) (PySem.Data.seq (List.toArray [(PySem.Value.str (PySem.Str.ofString "self") 476), (PySem.Value.str (PySem.Str.ofString "headers") 477), (PySem.Value.str (PySem.Str.ofString "k") 478), (PySem.Value.str (PySem.Str.ofString "v") 479)]) 0) (List.toArray []))) ::
    ((nat_lit 105), (PySem.Obj.mk (PySem.Value.type "tuple") (Option.none) (PySem.Data.seq (List.toArray []) 0) (List.toArray []))) ::
    ((nat_lit 107), (PySem.Obj.mk (PySem.Value.type "code") (Option.none) (PySem.Data.fields (List.toArray [(PySem.Value.str (PySem.Str.ofString "__init__") 473), (PySem.Value.str (PySem.Str.ofString "Headers.__init__") 474), (PySem.Value.str (PySem.Str.ofString "/claim/cut.py") 475), (PySem.Value.int (109 : Int) 0), (PySem.Value.int (2 : Int) 0), (PySem.Value.int (0 : Int) 0), (PySem.Value.int (0 : Int) 0), (PySem.Value.int (3 : Int) 0), (PySem.Value.ref 102), (PySem.Value.bool Bool.true), (PySem.Value.int (276 : Int) 0), (PySem.Value.ref 103), PySem.Value.none, (PySem.Value.ref 104), (PySem.Value.ref 105), (PySem.Value.ref 106), (PySem.Value.int (480 : Int) 0), (PySem.Value.int (109 : Int) 0), (PySem.Value.str (PySem.Str.ofString "/claim/cut.py") 481)])) (List.toArray []))) ::
    ((nat_lit 108), (PySem.Obj.mk (PySem.Value.type "function") (Option.none) (PySem.Data.func (PySem.FuncData.mk (PySem.Str.ofString "__init__") (PySem.Str.ofString "Headers.__init__") a6 (PySem.FuncBody.stmts b6) c6 3 [] (PySem.Value.ref 101) PySem.Value.none PySem.Value.none (PySem.Value.str (PySem.Str.ofString "cpy313.wsgiref.headers") 355) (Option.none) (PySem.Value.ref 107) PySem.Value.none 0)) (List.toArray []))) ::
    ((nat_lit 109), (PySem.Obj.mk (PySem.Value.type "tuple") (Option.none) (PySem.Data.seq (List.toArray []) 0) (List.toArray []))) ::
    ((nat_lit 111), (PySem.Obj.mk (PySem.Value.type "tuple") (Option.none) (PySem.Data.seq (List.toArray [(PySem.Value.str (PySem.Str.ofString "self") 486), (PySem.Value.str (PySem.Str.ofString "value") 487), (PySem.Value.str (PySem.Str.ofString "name") 488), (PySem.Value.str (PySem.Str.ofString "regex") 489)]) 0) (List.toArray []))) ::
    ((nat_lit 112), (PySem.Obj.mk (PySem.Value.type "tuple") (Option.none) (PySem.Data.seq (List.toArray []) 0) (List.toArray []))) ::
    ((nat_lit 114), (PySem.Obj.mk (PySem.Value.type "code") (Option.none) (PySem.Data.fields (List.toArray [(PySem.Value.str (PySem.Str.ofString "_convert_string_type") 483), (PySem.Value.str (PySem.Str.ofString "Headers._convert_string_type") 484), (PySem.Value.str (PySem.Str.ofString "/claim/cut.py") 485), (PySem.Value.int (119 : Int) 0), (PySem.Value.int (2 : Int) 0), (PySem.Value.int (0 : Int) 0), (PySem.Value.int (1 : Int) 0), (PySem.Value.int (3 : Int) 0), (PySem.Value.ref 109), (PySem.Value.bool Bool.true), (PySem.Value.int (276 : Int) 0), (PySem.Value.ref 110), PySem.Value.none, (PySem.Value.ref 111), (PySem.Value.ref 112), (PySem.Value.ref 113), (PySem.Value.int (490 : Int) 0), (PySem.Value.int (119 : Int) 0), (PySem.Value.str (PySem.Str.ofString "/claim/cut.py") 491)])) (List.toArray []))) ::
    ((nat_lit 115), (PySem.Obj.mk (PySem.Value.type "function") (Option.none) (PySem.Data.func (PySem.FuncData.mk (PySem.Str.ofString "_convert_string_type") (PySem.Str.ofString "Headers._convert_string_type") a7 (PySem.FuncBody.stmts b7) c7 3 [] PySem.Value.none PySem.Value.none PySem.Value.none (PySem.Value.str (PySem.Str.ofString "cpy313.wsgiref.headers") 355) (Option.none) (PySem.Value.ref 114) PySem.Value.none 0)) (List.toArray []))) ::
    ((nat_lit 116), (PySem.Obj.mk (PySem.Value.type "tuple") (Option.none) (PySem.Data.seq (List.toArray []) 0) (List.toArray []))) ::
    ((nat_lit 118), (PySem.Obj.mk (PySem.Value.type "tuple") (Option.none) (PySem.Data.seq (List.toArray [(PySem.Value.str (PySem.Str.ofString "self") 496)]) 0) (List.toArray []))) ::
    ((nat_lit 119), (PySem.Obj.mk (PySem.Value.type "tuple") (Option.none) (PySem.Data.seq (List.toArray []) 0) (List.toArray []))) ::
    ((nat_lit 121), (PySem.Obj.mk (PySem.Value.type "code") (Option.none) (PySem.Data.fields (List.toArray [(PySem.Value.str (PySem.Str.ofString "__len__") 493), (PySem.Value.str (PySem.Str.ofString "Headers.__len__") 494), (PySem.Value.str (PySem.Str.ofString "/claim/cut.py") 495), (PySem.Value.int (127 : Int) 0), (PySem.Value.int (1 : Int) 0), (PySem.Value.int (0 : Int) 0), (PySem.Value.int (0 : Int) 0), (PySem.Value.int (3 : Int) 0), (PySem.Value.ref 116), (PySem.Value.bool Bool.true), (PySem.Value.int (276 : Int) 0), (PySem.Value.ref 117), PySem.Value.none, (PySem.Value.ref 118), (PySem.Value.ref 119), (PySem.Value.ref 120), (PySem.Value.int (497 : Int) 0), (PySem.Value.int (127 : Int) 0), (PySem.Value.str (PySem.Str.ofString "/claim/cut.py") 498)])) (List.toArray []))) ::
    ((nat_lit 122), (PySem.Obj.mk (PySem.Value.type "function") (Option.none) (PySem.Data.func (PySem.FuncData.mk (PySem.Str.ofString "__len__") (PySem.Str.ofString "Headers.__len__") a8 (PySem.FuncBody.stmts b8) c8 3 [] PySem.Value.none PySem.Value.none PySem.Value.none (PySem.Value.str (PySem.Str.ofString "cpy313.wsgiref.headers") 355) (Option.none) (PySem.Value.ref 121) PySem.Value.none 0)) (List.toArray []))) ::
    ((nat_lit 123), (PySem.Obj.mk (PySem.Value.type "tuple") (Option.none) (PySem.Data.seq (List.toArray []) 0) (List.toArray []))) ::
    ((nat_lit 125), (PySem.Obj.mk (PySem.Value.type "tuple") (Option.none) (PySem.Data.seq (List.toArray [(PySem.Value.str (PySem.Str.ofString "self") 503), (PySem.Value.str (PySem.Str.ofString "name") 504), (PySem.Value.str (PySem.Str.ofString "val") 505)]) 0) (List.toArray []))) ::
    ((nat_lit 126), (PySem.Obj.mk (PySem.Value.type "tuple") (Option.none) (PySem.Data.seq (List.toArray []) 0) (List.toArray []))) ::
    ((nat_lit 128), (PySem.Obj.mk (PySem.Value.type "code") (Option.none) (PySem.Data.fields (List.toArray [(PySem.Value.str (PySem.Str.ofString "__setitem__") 500), (PySem.Value.str (PySem.Str.ofString "Headers.__setitem__") 501), (PySem.Value.str (PySem.Str.ofString "/claim/cut.py") 502), (PySem.Value.int (130 : Int) 0), (PySem.Value.int (3 : Int) 0), (PySem.Value.int (0 : Int) 0), (PySem.Value.int (0 : Int) 0), (PySem.Value.int (3 : Int) 0), (PySem.Value.ref 123), (PySem.Value.bool Bool.true), (PySem.Value.int (276 : Int) 0), (PySem.Value.ref 124), PySem.Value.none, (PySem.Value.ref 125), (PySem.Value.ref 126), (PySem.Value.ref 127), (PySem.Value.int (506 : Int) 0), (PySem.Value.int (130 : Int) 0), (PySem.Value.str (PySem.Str.ofString "/claim/cut.py") 507)])) (List.toArray []))) ::
    ((nat_lit 129), (PySem.Obj.mk (PySem.Value.type "function") (Option.none) (PySem.Data.func (PySem.FuncData.mk (PySem.Str.ofString "__setitem__") (PySem.Str.ofString "Headers.__setitem__") a9 (PySem.FuncBody.stmts b9) c9 3 [] PySem.Value.none PySem.Value.none PySem.Value.none (PySem.Value.str (PySem.Str.ofString "cpy313.wsgiref.headers") 355) (Option.none) (PySem.Value.ref 128) PySem.Value.none 0)) (List.toArray []))) ::
    ((nat_lit 130), (PySem.Obj.mk (PySem.Value.type "tuple") (Option.none) (PySem.Data.seq (List.toArray []) 0) (List.toArray []))) ::
    ((nat_lit 133), (PySem.Obj.mk (PySem.Value.type "code") (Option.none) (PySem.Data.fields (List.toArray [(PySem.Value.str (PySem.Str.ofString "__delitem__") 509), (PySem.Value.str (PySem.Str.ofString "Headers.__delitem__") 510), (PySem.Value.str (PySem.Str.ofString "/claim/cut.py") 511), (PySem.Value.int (134 : Int) 0), (PySem.Value.int (2 : Int) 0), (PySem.Value.int (0 : Int) 0), (PySem.Value.int (0 : Int) 0), (PySem.Value.int (3 : Int) 0), (PySem.Value.ref 130), (PySem.Value.bool Bool.true), (PySem.Value.int (276 : Int) 0), (PySem.Value.ref 131), PySem.Value.none, PySem.Value.none, PySem.Value.none, (PySem.Value.ref 132), (PySem.Value.int (512 : Int) 0), (PySem.Value.int (134 : Int) 0), (PySem.Value.str (PySem.Str.ofString "/claim/cut.py") 513)])) (List.toArray []))) ::
    ((nat_lit 134), (PySem.Obj.mk (PySem.Value.type "function") (Option.none) (PySem.Data.func (PySem.FuncData.mk (PySem.Str.ofString "__delitem__") (PySem.Str.ofString "Headers.__delitem__") a10 (PySem.FuncBody.stmts b10) c10 3 [] PySem.Value.none PySem.Value.none PySem.Value.none (PySem.Value.str (PySem.Str.ofString "cpy313.wsgiref.headers") 355) (Option.none) (PySem.Value.ref 133) PySem.Value.none 0)) (List.toArray []))) ::
    ((nat_lit 135), (PySem.Obj.mk (PySem.Value.type "tuple") (Option.none) (PySem.Data.seq (List.toArray []) 0) (List.toArray []))) ::
    ((nat_lit 137), (PySem.Obj.mk (PySem.Value.type "tuple") (Option.none) (PySem.Data.seq (List.toArray [(PySem.Value.str (PySem.Str.ofString "self") 518), (PySem.Value.str (PySem.Str.ofString "name") 519)]) 0) (List.toArray []))) ::
    ((nat_lit 138), (PySem.Obj.mk (PySem.Value.type "tuple") (Option.none) (PySem.Data.seq (List.toArray []) 0) (List.toArray []))) ::
    ((nat_lit 140), (PySem.Obj.mk (PySem.Value.type "code") (Option.none) (PySem.Data.fields (List.toArray [(PySem.Value.str (PySem.Str.ofString "__getitem__") 515), (PySem.Value.str (PySem.Str.ofString "Headers.__getitem__") 516), (PySem.Value.str (PySem.Str.ofString "/claim/cut.py") 517), (PySem.Value.int (138 : Int) 0), (PySem.Value.int (2 : Int) 0), (PySem.Value.int (0 : Int) 0), (PySem.Value.int (0 : Int) 0), (PySem.Value.int (3 : Int) 0), (PySem.Value.ref 135), (PySem.Value.bool Bool.true), (PySem.Value.int (276 : Int) 0), (PySem.Value.ref 136), PySem.Value.none, (PySem.Value.ref 137), (PySem.Value.ref 138), (PySem.Value.ref 139), (PySem.Value.int (520 : Int) 0), (PySem.Value.int (138 : Int) 0), (PySem.Value.str (PySem.Str.ofString "/claim/cut.py") 521)])) (List.toArray []))) ::
    ((nat_lit 141), (PySem.Obj.mk (PySem.Value.type "function") (Option.none) (PySem.Data.func (PySem.FuncData.mk (PySem.Str.ofString "__getitem__") (PySem.Str.ofString "Headers.__getitem__") a11 (PySem.FuncBody.stmts b11) c11 3 [] PySem.Value.none PySem.Value.none PySem.Value.none (PySem.Value.str (PySem.Str.ofString "cpy313.wsgiref.headers") 355) (Option.none) (PySem.Value.ref 140) PySem.Value.none 0)) (List.toArray []))) ::
    ((nat_lit 142), (PySem.Obj.mk (PySem.Value.type "tuple") (Option.none) (PySem.Data.seq (List.toArray []) 0) (List.toArray []))) ::
    ((nat_lit 144), (PySem.Obj.mk (PySem.Value.type "tuple") (Option.none) (PySem.Data.seq (List.toArray [(PySem.Value.str (PySem.Str.ofString "self") 526), (PySem.Value.str (PySem.Str.ofString "name") 527)]) 0) (List.toArray []))) ::
    ((nat_lit 145), (PySem.Obj.mk (PySem.Value.type "tuple") (Option.none) (PySem.Data.seq (List.toArray []) 0) (List.toArray []))) ::
    ((nat_lit 147), (PySem.Obj.mk (PySem.Value.type "code") (Option.none) (PySem.Data.fields (List.toArray [(PySem.Value.str (PySem.Str.ofString "__contains__") 523), (PySem.Value.str (PySem.Str.ofString "Headers.__contains__") 524), (PySem.Value.str (PySem.Str.ofString "/claim/cut.py") 525), (PySem.Value.int (141 : Int) 0), (PySem.Value.int (2 : Int) 0), (PySem.Value.int (0 : Int) 0), (PySem.Value.int (0 : Int) 0), (PySem.Value.int (3 : Int) 0), (PySem.Value.ref 142), (PySem.Value.bool Bool.true), (PySem.Value.int (276 : Int) 0), (PySem.Value.ref 143), PySem.Value.none, (PySem.Value.ref 144), (PySem.Value.ref 145), (PySem.Value.ref 146), (PySem.Value.int (528 : Int) 0), (PySem.Value.int (141 : Int) 0), (PySem.Value.str (PySem.Str.ofString "/claim/cut.py") 529)])) (List.toArray []))) ::
    ((nat_lit 148), (PySem.Obj.mk (PySem.Value.type "function") (Option.none) (PySem.Data.func (PySem.FuncData.mk (PySem.Str.ofString "__contains__") (PySem.Str.ofString "Headers.__contains__") a12 (PySem.FuncBody.stmts b12) c12 3 [] PySem.Value.none PySem.Value.none PySem.Value.none (PySem.Value.str (PySem.Str.ofString "cpy313.wsgiref.headers") 355) (Option.none) (PySem.Value.ref 147) PySem.Value.none 0)) (List.toArray []))) ::
    ((nat_lit 149), (PySem.Obj.mk (PySem.Value.type "tuple") (Option.none) (PySem.Data.seq (List.toArray []) 0) (List.toArray []))) ::
    ((nat_lit 152), (PySem.Obj.mk (PySem.Value.type "code") (Option.none) (PySem.Data.fields (List.toArray [(PySem.Value.str (PySem.Str.ofString "get_all") 531), (PySem.Value.str (PySem.Str.ofString "Headers.get_all") 532), (PySem.Value.str (PySem.Str.ofString "/claim/cut.py") 533), (PySem.Value.int (144 : Int) 0), (PySem.Value.int (2 : Int) 0), (PySem.Value.int (0 : Int) 0), (PySem.Value.int (0 : Int) 0), (PySem.Value.int (3 : Int) 0), (PySem.Value.ref 149), (PySem.Value.bool Bool.true), (PySem.Value.int (276 : Int) 0), (PySem.Value.ref 150), PySem.Value.none, PySem.Value.none, PySem.Value.none, (PySem.Value.ref 151), (PySem.Value.int (534 : Int) 0), (PySem.Value.int (144 : Int) 0), (PySem.Value.str (PySem.Str.ofString "/claim/cut.py") 535)])) (List.toArray []))) ::
    ((nat_lit 153), (PySem.Obj.mk (PySem.Value.type "function") (Option.none) (PySem.Data.func (PySem.FuncData.mk (PySem.Str.ofString "get_all") (PySem.Str.ofString "Headers.get_all") a13 (PySem.FuncBody.stmts b13) c13 3 [] PySem.Value.none PySem.Value.none PySem.Value.none (PySem.Value.str (PySem.Str.ofString "cpy313.wsgiref.headers") 355) (Option.none) (PySem.Value.ref 152) PySem.Value.none 0)) (List.toArray []))) ::
    ((nat_lit 154), (PySem.Obj.mk (PySem.Value.type "tuple") (Option.none) (PySem.Data.seq (List.toArray [PySem.Value.none]) 0) (List.toArray []))) ::
    ((nat_lit 155), (PySem.Obj.mk (PySem.Value.type "tuple") (Option.none) (PySem.Data.seq (List.toArray []) 0) (List.toArray []))) ::
    ((nat_lit 157), (PySem.Obj.mk (PySem.Value.type "tuple") (Option.none) (PySem.Data.seq (List.toArray [(PySem.Value.str (PySem.Str.ofString "self") 540), (PySem.Value.str (PySem.Str.ofString "name") 541), (PySem.Value.str (PySem.Str.ofString "default") 542), (PySem.Value.str (PySem.Str.ofString "k") 543), (PySem.Value.str (PySem.Str.ofString "v") 544)]) 0) (List.toArray []))) ::
    ((nat_lit 158), (PySem.Obj.mk (PySem.Value.type "tuple") (Option.none) (PySem.Data.seq (List.toArray []) 0) (List.toArray []))) ::
    ((nat_lit 160), (PySem.Obj.mk (PySem.Value.type "code") (Option.none) (PySem.Data.fields (List.toArray [(PySem.Value.str (PySem.Str.ofString "get") 537), (PySem.Value.str (PySem.Str.ofString "Headers.get") 538), (PySem.Value.str (PySem.Str.ofString "/claim/cut.py") 539), (PySem.Value.int (148 : Int) 0), (PySem.Value.int (3 : Int) 0), (PySem.Value.int (0 : Int) 0), (PySem.Value.int (0 : Int) 0), (PySem.Value.int (3 : Int) 0), (PySem.Value.ref 155), (PySem.Value.bool Bool.true), (PySem.Value.int (276 : Int) 0), (PySem.Value.ref 156), PySem.Value.none, (PySem.Value.ref 157), (PySem.Value.ref 158), (PySem.Value.ref 159), (PySem.Value.int (545 : Int) 0), (PySem.Value.int (148 : Int) 0), (PySem.Value.str (PySem.Str.ofString "/claim/cut.py") 546)])) (List.toArray []))) ::
    ((nat_lit 161), (PySem.Obj.mk (PySem.Value.type "function") (Option.none) (PySem.Data.func (PySem.FuncData.mk (PySem.Str.ofString "get") (PySem.Str.ofString "Headers.get") a14 (PySem.FuncBody.stmts b14) c14 3 [] (PySem.Value.ref 154) PySem.Value.none PySem.Value.none (PySem.Value.str (PySem.Str.ofString "cpy313.wsgiref.headers") 355) (Option.none) (PySem.Value.ref 160) PySem.Value.none 0)) (List.toArray []))) ::
    ((nat_lit 162), (PySem.Obj.mk (PySem.Value.type "tuple") (Option.none) (PySem.Data.seq (List.toArray []) 0) (List.toArray []))) ::
    ((nat_lit 165), (PySem.Obj.mk (PySem.Value.type "code") (Option.none) (PySem.Data.fields (List.toArray [(PySem.Value.str (PySem.Str.ofString "keys") 548), (PySem.Value.str (PySem.Str.ofString "Headers.keys") 549), (PySem.Value.str (PySem.Str.ofString "/claim/cut.py") 550), (PySem.Value.int (155 : Int) 0), (PySem.Value.int (1 : Int) 0), (PySem.Value.int (0 : Int) 0), (PySem.Value.int (0 : Int) 0), (PySem.Value.int (3 : Int) 0), (PySem.Value.ref 162), (PySem.Value.bool Bool.true), (PySem.Value.int (276 : Int) 0), (PySem.Value.ref 163), PySem.Value.none, PySem.Value.none, PySem.Value.none, (PySem.Value.ref 164), (PySem.Value.int (551 : Int) 0), (PySem.Value.int (155 : Int) 0), (PySem.Value.str (PySem.Str.ofString "/claim/cut.py") 552)])) (List.toArray []))) ::
    ((nat_lit 166), (PySem.Obj.mk (PySem.Value.type "function") (Option.none) (PySem.Data.func (PySem.FuncData.mk (PySem.Str.ofString "keys") (PySem.Str.ofString "Headers.keys") a15 (PySem.FuncBody.stmts b15) c15 3 [] PySem.Value.none PySem.Value.none PySem.Value.none (PySem.Value.str (PySem.Str.ofString "cpy313.wsgiref.headers") 355) (Option.none) (PySem.Value.ref 165) PySem.Value.none 0)) (List.toArray []))) ::
    ((nat_lit 167), (PySem.Obj.mk (PySem.Value.type "tuple") (Option.none) (PySem.Data.seq (List.toArray []) 0) (List.toArray []))) ::
    ((nat_lit 170), (PySem.Obj.mk (PySem.Value.type "code") (Option.none) (PySem.Data.fields (List.toArray [(PySem.Value.str (PySem.Str.ofString "values") 554), (PySem.Value.str (PySem.Str.ofString "Headers.values") 555), (PySem.Value.str (PySem.Str.ofString "/claim/cut.py") 556), (PySem.Value.int (158 : Int) 0), (PySem.Value.int (1 : Int) 0), (PySem.Value.int (0 : Int) 0), (PySem.Value.int (0 : Int) 0), (PySem.Value.int (3 : Int) 0), (PySem.Value.ref 167), (PySem.Value.bool Bool.true), (PySem.Value.int (276 : Int) 0), (PySem.Value.ref 168), PySem.Value.none, PySem.Value.none, PySem.Value.none, (PySem.Value.ref 169), (PySem.Value.int (557 : Int) 0), (PySem.Value.int (158 : Int) 0), (PySem.Value.str (PySem.Str.ofString "/claim/cut.py") 558)])) (List.toArray []))) ::
    ((nat_lit 171), (PySem.Obj.mk (PySem.Value.type "function") (Option.none) (PySem.Data.func (PySem.FuncData.mk (PySem.Str.ofString "values") (PySem.Str.ofString "Headers.values") a16 (PySem.FuncBody.stmts b16) c16 3 [] PySem.Value.none PySem.Value.none PySem.Value.none (PySem.Value.str (PySem.Str.ofString "cpy313.wsgiref.headers") 355) (Option.none) (PySem.Value.ref 170) PySem.Value.none 0)) (List.toArray []))) ::
    ((nat_lit 172), (PySem.Obj.mk (PySem.Value.type "tuple") (Option.none) (PySem.Data.seq (List.toArray []) 0) (List.toArray []))) ::
    ((nat_lit 174), (PySem.Obj.mk (PySem.Value.type "tuple") (Option.none) (PySem.Data.seq (List.toArray [(PySem.Value.str (PySem.Str.ofString "self") 563)]) 0) (List.toArray []))) ::
    ((nat_lit 175), (PySem.Obj.mk (PySem.Value.type "tuple") (Option.none) (PySem.Data.seq (List.toArray []) 0) (List.toArray []))) ::
    ((nat_lit 177), (PySem.Obj.mk (PySem.Value.type "code") (Option.none) (PySem.Data.fields (List.toArray [(PySem.Value.str (PySem.Str.ofString "items") 560), (PySem.Value.str (PySem.Str.ofString "Headers.items") 561), (PySem.Value.str (PySem.Str.ofString "/claim/cut.py") 562), (PySem.Value.int (161 : Int) 0), (PySem.Value.int (1 : Int) 0), (PySem.Value.int (0 : Int) 0), (PySem.Value.int (0 : Int) 0), (PySem.Value.int (3 : Int) 0), (PySem.Value.ref 172), (PySem.Value.bool Bool.true), (PySem.Value.int (276 : Int) 0), (PySem.Value.ref 173), PySem.Value.none, (PySem.Value.ref 174), (PySem.Value.ref 175), (PySem.Value.ref 176), (PySem.Value.int (564 : Int) 0), (PySem.Value.int (161 : Int) 0), (PySem.Value.str (PySem.Str.ofString "/claim/cut.py") 565)])) (List.toArray []))) ::
    ((nat_lit 178), (PySem.Obj.mk (PySem.Value.type "function") (Option.none) (PySem.Data.func (PySem.FuncData.mk (PySem.Str.ofString "items") (PySem.Str.ofString "Headers.items") a17 (PySem.FuncBody.stmts b17) c17 3 [] PySem.Value.none PySem.Value.none PySem.Value.none (PySem.Value.str (PySem.Str.ofString "cpy313.wsgiref.headers") 355) (Option.none) (PySem.Value.ref 177) PySem.Value.none 0)) (List.toArray []))) ::
    ((nat_lit 179), (PySem.Obj.mk (PySem.Value.type "tuple") (Option.none) (PySem.Data.seq (List.toArray []) 0) (List.toArray []))) ::
    ((nat_lit 181), (PySem.Obj.mk (PySem.Value.type "tuple") (Option.none) (PySem.Data.seq (List.toArray [(PySem.Value.str (PySem.Str.ofString "self") 570)]) 0) (List.toArray []))) ::
    ((nat_lit 182), (PySem.Obj.mk (PySem.Value.type "tuple") (Option.none) (PySem.Data.seq (List.toArray []) 0) (List.toArray []))) ::
    ((nat_lit 184), (PySem.Obj.mk (PySem.Value.type "code") (Option.none) (PySem.Data.fields (List.toArray [(PySem.Value.str (PySem.Str.ofString "__repr__") 567), (PySem.Value.str (PySem.Str.ofString "Headers.__repr__") 568), (PySem.Value.str (PySem.Str.ofString "/claim/cut.py") 569), (PySem.Value.int (164 : Int) 0), (PySem.Value.int (1 : Int) 0), (PySem.Value.int (0 : Int) 0), (PySem.Value.int (0 : Int) 0), (PySem.Value.int (3 : Int) 0), (PySem.Value.ref 179), (PySem.Value.bool Bool.true), (PySem.Value.int (276 : Int) 0), (PySem.Value.ref 180), PySem.Value.none, (PySem.Value.ref 181), (PySem.Value.ref 182), (PySem.Value.ref 183), (PySem.Value.int (571 : Int) 0), (PySem.Value.int (164 : Int) 0), (PySem.Value.str (PySem.Str.ofString "/claim/cut.py") 572)])) (List.toArray []))) ::
    ((nat_lit 185), (PySem.Obj.mk (PySem.Value.type "function") (Option.none) (PySem.Data.func (PySem.FuncData.mk (PySem.Str.ofString "__repr__") (PySem.Str.ofString "Headers.__repr__") a18 (PySem.FuncBody.stmts b18) c18 3 [] PySem.Value.none PySem.Value.none PySem.Value.none (PySem.Value.str (PySem.Str.ofString "cpy313.wsgiref.headers") 355) (Option.none) (PySem.Value.ref 184) PySem.Value.none 0)) (List.toArray []))) ::
    ((nat_lit 186), (PySem.Obj.mk (PySem.Value.type "tuple") (Option.none) (PySem.Data.seq (List.toArray []) 0) (List.toArray []))) ::
    ((nat_lit 189), (PySem.Obj.mk (PySem.Value.type "code") (Option.none) (PySem.Data.fields (List.toArray [(PySem.Value.str (PySem.Str.ofString "__str__") 574), (PySem.Value.str (PySem.Str.ofString "Headers.__str__") 575), (PySem.Value.str (PySem.Str.ofString "/claim/cut.py") 576), (PySem.Value.int (167 : Int) 0), (PySem.Value.int (1 : Int) 0), (PySem.Value.int (0 : Int) 0), (PySem.Value.int (0 : Int) 0), (PySem.Value.int (3 : Int) 0), (PySem.Value.ref 186), (PySem.Value.bool Bool.true), (PySem.Value.int (276 : Int) 0), (PySem.Value.ref 187), PySem.Value.none, PySem.Value.none, PySem.Value.none, (PySem.Value.ref 188), (PySem.Value.int (577 : Int) 0), (PySem.Value.int (167 : Int) 0), (PySem.Value.str (PySem.Str.ofString "/claim/cut.py") 578)])) (List.toArray []))) ::
    ((nat_lit 190), (PySem.Obj.mk (PySem.Value.type "function") (Option.none) (PySem.Data.func (PySem.FuncData.mk (PySem.Str.ofString "__str__") (PySem.Str.ofString "Headers.__str__") a19 (PySem.FuncBody.stmts b19) c19 3 [] PySem.Value.none PySem.Value.none PySem.Value.none (PySem.Value.str (PySem.Str.ofString "cpy313.wsgiref.headers") 355) (Option.none) (PySem.Value.ref 189) PySem.Value.none 0)) (List.toArray []))) ::
    ((nat_lit 191), (PySem.Obj.mk (PySem.Value.type "tuple") (Option.none) (PySem.Data.seq (List.toArray []) 0) (List.toArray []))) ::
    ((nat_lit 193), (PySem.Obj.mk (PySem.Value.type "tuple") (Option.none) (PySem.Data.seq (List.toArray [(PySem.Value.str (PySem.Str.ofString "self") 583)]) 0) (List.toArray []))) ::
    ((nat_lit 194), (PySem.Obj.mk (PySem.Value.type "tuple") (Option.none) (PySem.Data.seq (List.toArray []) 0) (List.toArray []))) ::
    ((nat_lit 196), (PySem.Obj.mk (PySem.Value.type "code") (Option.none) (PySem.Data.fields (List.toArray [(PySem.Value.str (PySem.Str.ofString "__bytes__") 580), (PySem.Value.str (PySem.Str.ofString "Headers.__bytes__") 581), (PySem.Value.str (PySem.Str.ofString "/claim/cut.py") 582), (PySem.Value.int (170 : Int) 0), (PySem.Value.int (1 : Int) 0), (PySem.Value.int (0 : Int) 0), (PySem.Value.int (0 : Int) 0), (PySem.Value.int (3 : Int) 0), (PySem.Value.ref 191), (PySem.Value.bool Bool.true), (PySem.Value.int (276 : Int) 0), (PySem.Value.ref 192), PySem.Value.none, (PySem.Value.ref 193), (PySem.Value.ref 194), (PySem.Value.ref 195), (PySem.Value.int (584 : Int) 0), (PySem.Value.int (170 : Int) 0), (PySem.Value.str (PySem.Str.ofString "/claim/cut.py") 585)])) (List.toArray []))) ::
    ((nat_lit 197), (PySem.Obj.mk (PySem.Value.type "function") (Option.none) (PySem.Data.func (PySem.FuncData.mk (PySem.Str.ofString "__bytes__") (PySem.Str.ofString "Headers.__bytes__") a20 (PySem.FuncBody.stmts b20) c20 3 [] PySem.Value.none PySem.Value.none PySem.Value.none (PySem.Value.str (PySem.Str.ofString "cpy313.wsgiref.headers") 355) (Option.none) (PySem.Value.ref 196) PySem.Value.none 0)) (List.toArray []))) ::
    ((nat_lit 198), (PySem.Obj.mk (PySem.Value.type "tuple") (Option.none) (PySem.Data.seq (List.toArray []) 0) (List.toArray []))) ::
    ((nat_lit 200), (PySem.Obj.mk (PySem.Value.type "tuple") (Option.none) (PySem.Data.seq (List.toArray [(PySem.Value.str (PySem.Str.ofString "self") 590), (PySem.Value.str (PySem.Str.ofString "name") 591), (PySem.Value.str (PySem.Str.ofString "value") 592)]) 0) (List.toArray []))) ::
    ((nat_lit 201), (PySem.Obj.mk (PySem.Value.type "tuple") (Option.none) (PySem.Data.seq (List.toArray []) 0) (List.toArray []))) ::
    ((nat_lit 203), (PySem.Obj.mk (PySem.Value.type "code") (Option.none) (PySem.Data.fields (List.toArray [(PySem.Value.str (PySem.Str.ofString "setdefault") 587), (PySem.Value.str (PySem.Str.ofString "Headers.setdefault") 588), (PySem.Value.str (PySem.Str.ofString "/claim/cut.py") 589), (PySem.Value.int (173 : Int) 0), (PySem.Value.int (3 : Int) 0), (PySem.Value.int (0 : Int) 0), (PySem.Value.int (0 : Int) 0), (PySem.Value.int (3 : Int) 0), (PySem.Value.ref 198), (PySem.Value.bool Bool.true), (PySem.Value.int (276 : Int) 0), (PySem.Value.ref 199), PySem.Value.none, (PySem.Value.ref 200), (PySem.Value.ref 201), (PySem.Value.ref 202), (PySem.Value.int (593 : Int) 0), (PySem.Value.int (173 : Int) 0), (PySem.Value.str (PySem.Str.ofString "/claim/cut.py") 594)])) (List.toArray []))) ::
    ((nat_lit 204), (PySem.Obj.mk (PySem.Value.type "function") (Option.none) (PySem.Data.func (PySem.FuncData.mk (PySem.Str.ofString "setdefault") (PySem.Str.ofString "Headers.setdefault") a21 (PySem.FuncBody.stmts b21) c21 3 [] PySem.Value.none PySem.Value.none PySem.Value.none (PySem.Value.str (PySem.Str.ofString "cpy313.wsgiref.headers") 355) (Option.none) (PySem.Value.ref 203) PySem.Value.none 0)) (List.toArray []))) ::
    ((nat_lit 205), (PySem.Obj.mk (PySem.Value.type "tuple") (Option.none) (PySem.Data.seq (List.toArray []) 0) (List.toArray []))) ::
    ((nat_lit 207), (PySem.Obj.mk (PySem.Value.type "tuple") (Option.none) (PySem.Data.seq (List.toArray [(PySem.Value.str (PySem.Str.ofString "self") 599), (PySem.Value.str (PySem.Str.ofString "_name") 600), (PySem.Value.str (PySem.Str.ofString "_value") 601), (PySem.Value.str (PySem.Str.ofString "_params") 602), (PySem.Value.str (PySem.Str.ofString "parts") 603), (PySem.Value.str (PySem.Str.ofString "k") 604), (PySem.Value.str (PySem.Str.ofString "v") 605)]) 0) (List.toArray []))) ::
    ((nat_lit 208), (PySem.Obj.mk (PySem.Value.type "tuple") (Option.none) (PySem.Data.seq (List.toArray []) 0) (List.toArray []))) ::
    ((nat_lit 210), (PySem.Obj.mk (PySem.Value.type "code") (Option.none) (PySem.Data.fields (List.toArray [(PySem.Value.str (PySem.Str.ofString "add_header") 596), (PySem.Value.str (PySem.Str.ofString "Headers.add_header") 597), (PySem.Value.str (PySem.Str.ofString "/claim/cut.py") 598), (PySem.Value.int (176 : Int) 0), (PySem.Value.int (3 : Int) 0), (PySem.Value.int (0 : Int) 0), (PySem.Value.int (0 : Int) 0), (PySem.Value.int (11 : Int) 0), (PySem.Value.ref 205), (PySem.Value.bool Bool.true), (PySem.Value.int (276 : Int) 0), (PySem.Value.ref 206), PySem.Value.none, (PySem.Value.ref 207), (PySem.Value.ref 208), (PySem.Value.ref 209), (PySem.Value.int (606 : Int) 0), (PySem.Value.int (176 : Int) 0), (PySem.Value.str (PySem.Str.ofString "/claim/cut.py") 607)])) (List.toArray []))) ::
    ((nat_lit 211), (PySem.Obj.mk (PySem.Value.type "function") (Option.none) (PySem.Data.func (PySem.FuncData.mk (PySem.Str.ofString "add_header") (PySem.Str.ofString "Headers.add_header") a22 (PySem.FuncBody.stmts b22) c22 3 [] PySem.Value.none PySem.Value.none PySem.Value.none (PySem.Value.str (PySem.Str.ofString "cpy313.wsgiref.headers") 355) (Option.none) (PySem.Value.ref 210) PySem.Value.none 0)) (List.toArray []))) ::
    ((nat_lit 212), (PySem.Obj.mk (PySem.Value.type "tuple") (Option.none) (PySem.Data.seq (List.toArray [(PySem.Value.str (PySem.Str.ofString "_headers") 609)]) 0) (List.toArray []))) ::
    ((nat_lit 213), (PySem.Obj.mk (PySem.Value.type "dict") (Option.none) (PySem.Data.dict (List.toArray [(PySem.DictEntry.mk (PySem.PyData.keyHash P (PySem.Str.ofString "__module__")) (PySem.Value.str (PySem.Str.ofString "__module__") 468) (PySem.Value.str (PySem.Str.ofString "cpy313.wsgiref.headers") 355)), (PySem.DictEntry.mk (PySem.PyData.keyHash P (PySem.Str.ofString "__firstlineno__")) (PySem.Value.str (PySem.Str.ofString "__firstlineno__") 472) (PySem.Value.int (107 : Int) 471)), (PySem.DictEntry.mk (PySem.PyData.keyHash P (PySem.Str.ofString "__init__")) (PySem.Value.str (PySem.Str.ofString "__init__") 482) (PySem.Value.ref 108)), (PySem.DictEntry.mk (PySem.PyData.keyHash P (PySem.Str.ofString "_convert_string_type")) (PySem.Value.str (PySem.Str.ofString "_convert_string_type") 492) (PySem.Value.ref 115)), (PySem.DictEntry.mk (PySem.PyData.keyHash P (PySem.Str.ofString "__len__")) (PySem.Value.str (PySem.Str.ofString "__len__") 499) (PySem.Value.ref 122)), (PySem.DictEntry.mk (PySem.PyData.keyHash P (PySem.Str.ofString "__setitem__")) (PySem.Value.str (PySem.Str.ofString "__setitem__") 508) (PySem.Value.ref 129)), (PySem.DictEntry.mk (PySem.PyData.keyHash P (PySem.Str.ofString "__delitem__")) (PySem.Value.str (PySem.Str.ofString "__delitem__") 514) (PySem.Value.ref 134)), (PySem.DictEntry.mk (PySem.PyData.keyHash P (PySem.Str.ofString "__getitem__")) (PySem.Value.str (PySem.Str.ofString "__getitem__") 522) (PySem.Value.ref 141)), (PySem.DictEntry.mk (PySem.PyData.keyHash P (PySem.Str.ofString "__contains__")) (PySem.Value.str (PySem.Str.ofString "__contains__") 530) (PySem.Value.ref 148)), (PySem.DictEntry.mk (PySem.PyData.keyHash P (PySem.Str.ofString "get_all")) (PySem.Value.str (PySem.Str.ofString "get_all") 536) (PySem.Value.ref 153)), (PySem.DictEntry.mk (PySem.PyData.keyHash P (PySem.Str.ofString "get")) (PySem.Value.str (PySem.Str.ofString "get") 547) (PySem.Value.ref 161)), (PySem.DictEntry.mk (PySem.PyData.keyHash P (PySem.Str.ofString "keys")) (PySem.Value.str (PySem.Str.ofString "keys") 553) (PySem.Value.ref 166)), (PySem.DictEntry.mk (PySem.PyData.keyHash P (PySem.Str.ofString "values")) (PySem.Value.str (PySem.Str.ofString "values") 559) (PySem.Value.ref 171)), (PySem.DictEntry.mk (PySem.PyData.keyHash P (PySem.Str.ofString "items")) (PySem.Value.str (PySem.Str.ofString "items") 566) (PySem.Value.ref 178)), (PySem.DictEntry.mk (PySem.PyData.keyHash P (PySem.Str.ofString "__repr__")) (PySem.Value.str (PySem.Str.ofString "__repr__") 573) (PySem.Value.ref 185)), (PySem.DictEntry.mk (PySem.PyData.keyHash P (PySem.Str.ofString "__str__")) (PySem.Value.str (PySem.Str.ofString "__str__") 579) (PySem.Value.ref 190)), (PySem.DictEntry.mk (PySem.PyData.keyHash P (PySem.Str.ofString "__bytes__")) (PySem.Value.str (PySem.Str.ofString "__bytes__") 586) (PySem.Value.ref 197)), (PySem.DictEntry.mk (PySem.PyData.keyHash P (PySem.Str.ofString "setdefault")) (PySem.Value.str (PySem.Str.ofString "setdefault") 595) (PySem.Value.ref 204)), (PySem.DictEntry.mk (PySem.PyData.keyHash P (PySem.Str.ofString "add_header")) (PySem.Value.str (PySem.Str.ofString "add_header") 608) (PySem.Value.ref 211)), (PySem.DictEntry.mk (PySem.PyData.keyHash P (PySem.Str.ofString "__static_attributes__")) (PySem.Value.str (PySem.Str.ofString "__static_attributes__") 610) (PySem.Value.ref 212)), (PySem.DictEntry.mk (PySem.PyData.keyHash P (PySem.Str.ofString "__dict__")) (PySem.Value.str (PySem.Str.ofString "__dict__") 612) (PySem.Value.ref 215)), (PySem.DictEntry.mk (PySem.PyData.keyHash P (PySem.Str.ofString "__weakref__")) (PySem.Value.str (PySem.Str.ofString "__weakref__") 614) (PySem.Value.ref 216)), (PySem.DictEntry.mk (PySem.PyData.keyHash P (PySem.Str.ofString "__doc__")) (PySem.Value.str (PySem.Str.ofString "__doc__") 615) PySem.Value.none)]) 4) (List.toArray []))) ::
    ((nat_lit 214), (PySem.Obj.mk (PySem.Value.type "type") (Option.none) (PySem.Data.cls (PySem.ClassData.mk (PySem.Str.ofString "Headers") [(PySem.Value.type "object")] [(PySem.Value.ref 214), (PySem.Value.type "object")] 213 (PySem.Str.ofString "Headers") Bool.true [] [] Bool.false (Option.none) Bool.false)) (List.toArray [(Option.none), (Option.none), (Option.some (PySem.Value.str (PySem.Str.ofString "Headers") 461)), (Option.some (PySem.Value.str (PySem.Str.ofString "Headers") 469)), (Option.some (PySem.Value.builtin "object.__new__")), (Option.some (PySem.Value.bool Bool.true))]))) ::
    ((nat_lit 215), (PySem.Obj.mk (PySem.Value.type "getset_descriptor") (Option.none) (PySem.Data.fields (List.toArray [(PySem.Value.str (PySem.Str.ofString "__dict__") 611), (PySem.Value.ref 214), (PySem.Value.builtin "function.__dict__"), (PySem.Value.builtin "function.__dict__#set")])) (List.toArray []))) ::
    ((nat_lit 216), (PySem.Obj.mk (PySem.Value.type "getset_descriptor") (Option.none) (PySem.Data.fields (List.toArray [(PySem.Value.str (PySem.Str.ofString "__weakref__") 613), (PySem.Value.ref 214), (PySem.Value.builtin "ExceptionGroup.__weakref__"), PySem.Value.none])) (List.toArray []))) ::
    ((nat_lit 219), (PySem.Obj.mk (PySem.Value.type "tuple") (Option.none) (PySem.Data.seq (List.toArray []) 0) (List.toArray []))) ::
    ((nat_lit 221), (PySem.Obj.mk (PySem.Value.type "tuple") (Option.none) (PySem.Data.seq (List.toArray [(PySem.Value.str (PySem.Str.ofString "text") 623), (PySem.Value.str (PySem.Str.ofString "table") 624), (PySem.Value.str (PySem.Str.ofString "place") 625)]) 0) (List.toArray []))) ::
    ((nat_lit 222), (PySem.Obj.mk (PySem.Value.type "tuple") (Option.none) (PySem.Data.seq (List.toArray []) 0) (List.toArray []))) ::
    ((nat_lit 224), (PySem.Obj.mk (PySem.Value.type "code") (Option.none) (PySem.Data.fields (List.toArray [(PySem.Value.str (PySem.Str.ofString "_law_table") 620), (PySem.Value.str (PySem.Str.ofString "_law_table") 621), (PySem.Value.str (PySem.Str.ofString "/claim/cut.py") 622), (PySem.Value.int (190 : Int) 0), (PySem.Value.int (1 : Int) 0), (PySem.Value.int (0 : Int) 0), (PySem.Value.int (0 : Int) 0), (PySem.Value.int (3 : Int) 0), (PySem.Value.ref 219), (PySem.Value.bool Bool.true), (PySem.Value.int (276 : Int) 0), (PySem.Value.ref 220), PySem.Value.none, (PySem.Value.ref 221), (PySem.Value.ref 222), (PySem.Value.ref 223), (PySem.Value.int (626 : Int) 0), (PySem.Value.int (190 : Int) 0), (PySem.Value.str (PySem.Str.ofString "/claim/cut.py") 627)])) (List.toArray []))) ::
    ((nat_lit 225), (PySem.Obj.mk (PySem.Value.type "function") (Option.none) (PySem.Data.func (PySem.FuncData.mk (PySem.Str.ofString "_law_table") (PySem.Str.ofString "_law_table") a23 (PySem.FuncBody.stmts b23) c23 3 [] PySem.Value.none PySem.Value.none PySem.Value.none (PySem.Value.str (PySem.Str.ofString "law_pe0267_01") 618) (Option.none) (PySem.Value.ref 224) PySem.Value.none 0)) (List.toArray []))) ::
    ((nat_lit 226), (PySem.Obj.mk (PySem.Value.type "tuple") (Option.none) (PySem.Data.seq (List.toArray []) 0) (List.toArray []))) ::
    ((nat_lit 229), (PySem.Obj.mk (PySem.Value.type "code") (Option.none) (PySem.Data.fields (List.toArray [(PySem.Value.str (PySem.Str.ofString "_law_places") 629), (PySem.Value.str (PySem.Str.ofString "_law_places") 630), (PySem.Value.str (PySem.Str.ofString "/claim/cut.py") 631), (PySem.Value.int (195 : Int) 0), (PySem.Value.int (2 : Int) 0), (PySem.Value.int (0 : Int) 0), (PySem.Value.int (0 : Int) 0), (PySem.Value.int (3 : Int) 0), (PySem.Value.ref 226), (PySem.Value.bool Bool.true), (PySem.Value.int (276 : Int) 0), (PySem.Value.ref 227), PySem.Value.none, PySem.Value.none, PySem.Value.none, (PySem.Value.ref 228), (PySem.Value.int (632 : Int) 0), (PySem.Value.int (195 : Int) 0), (PySem.Value.str (PySem.Str.ofString "/claim/cut.py") 633)])) (List.toArray []))) ::
    ((nat_lit 230), (PySem.Obj.mk (PySem.Value.type "function") (Option.none) (PySem.Data.func (PySem.FuncData.mk (PySem.Str.ofString "_law_places") (PySem.Str.ofString "_law_places") a24 (PySem.FuncBody.stmts b24) c24 3 [] PySem.Value.none PySem.Value.none PySem.Value.none (PySem.Value.str (PySem.Str.ofString "law_pe0267_01") 618) (Option.none) (PySem.Value.ref 229) PySem.Value.none 0)) (List.toArray []))) ::
    ((nat_lit 231), (PySem.Obj.mk (PySem.Value.type "tuple") (Option.none) (PySem.Data.seq (List.toArray []) 0) (List.toArray []))) ::
    ((nat_lit 233), (PySem.Obj.mk (PySem.Value.type "tuple") (Option.none) (PySem.Data.seq (List.toArray [(PySem.Value.str (PySem.Str.ofString "word") 638), (PySem.Value.str (PySem.Str.ofString "table") 639), (PySem.Value.str (PySem.Str.ofString "size") 640), (PySem.Value.str (PySem.Str.ofString "ends") 641), (PySem.Value.str (PySem.Str.ofString "sign") 642), (PySem.Value.str (PySem.Str.ofString "places") 643), (PySem.Value.str (PySem.Str.ofString "k") 644)]) 0) (List.toArray []))) ::
    ((nat_lit 234), (PySem.Obj.mk (PySem.Value.type "tuple") (Option.none) (PySem.Data.seq (List.toArray []) 0) (List.toArray []))) ::
    ((nat_lit 236), (PySem.Obj.mk (PySem.Value.type "code") (Option.none) (PySem.Data.fields (List.toArray [(PySem.Value.str (PySem.Str.ofString "_law_ends") 635), (PySem.Value.str (PySem.Str.ofString "_law_ends") 636), (PySem.Value.str (PySem.Str.ofString "/claim/cut.py") 637), (PySem.Value.int (197 : Int) 0), (PySem.Value.int (3 : Int) 0), (PySem.Value.int (0 : Int) 0), (PySem.Value.int (0 : Int) 0), (PySem.Value.int (3 : Int) 0), (PySem.Value.ref 231), (PySem.Value.bool Bool.true), (PySem.Value.int (276 : Int) 0), (PySem.Value.ref 232), PySem.Value.none, (PySem.Value.ref 233), (PySem.Value.ref 234), (PySem.Value.ref 235), (PySem.Value.int (645 : Int) 0), (PySem.Value.int (197 : Int) 0), (PySem.Value.str (PySem.Str.ofString "/claim/cut.py") 646)])) (List.toArray []))) ::
    ((nat_lit 237), (PySem.Obj.mk (PySem.Value.type "function") (Option.none) (PySem.Data.func (PySem.FuncData.mk (PySem.Str.ofString "_law_ends") (PySem.Str.ofString "_law_ends") a25 (PySem.FuncBody.stmts b25) c25 3 [] PySem.Value.none PySem.Value.none PySem.Value.none (PySem.Value.str (PySem.Str.ofString "law_pe0267_01") 618) (Option.none) (PySem.Value.ref 236) PySem.Value.none 0)) (List.toArray []))) ::
    ((nat_lit 238), (PySem.Obj.mk (PySem.Value.type "tuple") (Option.none) (PySem.Data.seq (List.toArray []) 0) (List.toArray []))) ::
    ((nat_lit 240), (PySem.Obj.mk (PySem.Value.type "tuple") (Option.none) (PySem.Data.seq (List.toArray [(PySem.Value.str (PySem.Str.ofString "word") 651), (PySem.Value.str (PySem.Str.ofString "table") 652), (PySem.Value.str (PySem.Str.ofString "begins") 653), (PySem.Value.str (PySem.Str.ofString "sign") 654), (PySem.Value.str (PySem.Str.ofString "places") 655), (PySem.Value.str (PySem.Str.ofString "k") 656)]) 0) (List.toArray []))) ::
    ((nat_lit 241), (PySem.Obj.mk (PySem.Value.type "tuple") (Option.none) (PySem.Data.seq (List.toArray []) 0) (List.toArray []))) ::
    ((nat_lit 243), (PySem.Obj.mk (PySem.Value.type "code") (Option.none) (PySem.Data.fields (List.toArray [(PySem.Value.str (PySem.Str.ofString "_law_begins") 648), (PySem.Value.str (PySem.Str.ofString "_law_begins") 649), (PySem.Value.str (PySem.Str.ofString "/claim/cut.py") 650), (PySem.Value.int (204 : Int) 0), (PySem.Value.int (2 : Int) 0), (PySem.Value.int (0 : Int) 0), (PySem.Value.int (0 : Int) 0), (PySem.Value.int (3 : Int) 0), (PySem.Value.ref 238), (PySem.Value.bool Bool.true), (PySem.Value.int (276 : Int) 0), (PySem.Value.ref 239), PySem.Value.none, (PySem.Value.ref 240), (PySem.Value.ref 241), (PySem.Value.ref 242), (PySem.Value.int (657 : Int) 0), (PySem.Value.int (204 : Int) 0), (PySem.Value.str (PySem.Str.ofString "/claim/cut.py") 658)])) (List.toArray []))) ::
    ((nat_lit 244), (PySem.Obj.mk (PySem.Value.type "function") (Option.none) (PySem.Data.func (PySem.FuncData.mk (PySem.Str.ofString "_law_begins") (PySem.Str.ofString "_law_begins") a26 (PySem.FuncBody.stmts b26) c26 3 [] PySem.Value.none PySem.Value.none PySem.Value.none (PySem.Value.str (PySem.Str.ofString "law_pe0267_01") 618) (Option.none) (PySem.Value.ref 243) PySem.Value.none 0)) (List.toArray []))) ::
    ((nat_lit 245), (PySem.Obj.mk (PySem.Value.type "tuple") (Option.none) (PySem.Data.seq (List.toArray []) 0) (List.toArray []))) ::
    ((nat_lit 247), (PySem.Obj.mk (PySem.Value.type "tuple") (Option.none) (PySem.Data.seq (List.toArray [(PySem.Value.str (PySem.Str.ofString "word") 663), (PySem.Value.str (PySem.Str.ofString "part") 664), (PySem.Value.str (PySem.Str.ofString "over") 665), (PySem.Value.str (PySem.Str.ofString "bound") 666)]) 0) (List.toArray []))) ::
    ((nat_lit 248), (PySem.Obj.mk (PySem.Value.type "tuple") (Option.none) (PySem.Data.seq (List.toArray []) 0) (List.toArray []))) ::
    ((nat_lit 250), (PySem.Obj.mk (PySem.Value.type "code") (Option.none) (PySem.Data.fields (List.toArray [(PySem.Value.str (PySem.Str.ofString "_law_within") 660), (PySem.Value.str (PySem.Str.ofString "_law_within") 661), (PySem.Value.str (PySem.Str.ofString "/claim/cut.py") 662), (PySem.Value.int (211 : Int) 0), (PySem.Value.int (3 : Int) 0), (PySem.Value.int (0 : Int) 0), (PySem.Value.int (0 : Int) 0), (PySem.Value.int (3 : Int) 0), (PySem.Value.ref 245), (PySem.Value.bool Bool.true), (PySem.Value.int (276 : Int) 0), (PySem.Value.ref 246), PySem.Value.none, (PySem.Value.ref 247), (PySem.Value.ref 248), (PySem.Value.ref 249), (PySem.Value.int (667 : Int) 0), (PySem.Value.int (211 : Int) 0), (PySem.Value.str (PySem.Str.ofString "/claim/cut.py") 668)])) (List.toArray []))) ::
    ((nat_lit 251), (PySem.Obj.mk (PySem.Value.type "function") (Option.none) (PySem.Data.func (PySem.FuncData.mk (PySem.Str.ofString "_law_within") (PySem.Str.ofString "_law_within") a27 (PySem.FuncBody.stmts b27) c27 3 [] PySem.Value.none PySem.Value.none PySem.Value.none (PySem.Value.str (PySem.Str.ofString "law_pe0267_01") 618) (Option.none) (PySem.Value.ref 250) PySem.Value.none 0)) (List.toArray []))) ::
    ((nat_lit 252), (PySem.Obj.mk (PySem.Value.type "tuple") (Option.none) (PySem.Data.seq (List.toArray []) 0) (List.toArray []))) ::
    ((nat_lit 254), (PySem.Obj.mk (PySem.Value.type "tuple") (Option.none) (PySem.Data.seq (List.toArray [(PySem.Value.str (PySem.Str.ofString "word") 673), (PySem.Value.str (PySem.Str.ofString "text") 674), (PySem.Value.str (PySem.Str.ofString "over") 675), (PySem.Value.str (PySem.Str.ofString "sizes") 676), (PySem.Value.str (PySem.Str.ofString "k") 677)]) 0) (List.toArray []))) ::
    ((nat_lit 255), (PySem.Obj.mk (PySem.Value.type "tuple") (Option.none) (PySem.Data.seq (List.toArray [(PySem.Value.str (PySem.Str.ofString "word") 678), (PySem.Value.str (PySem.Str.ofString "text") 679), (PySem.Value.str (PySem.Str.ofString "over") 680)]) 0) (List.toArray []))) ::
    ((nat_lit 257), (PySem.Obj.mk (PySem.Value.type "code") (Option.none) (PySem.Data.fields (List.toArray [(PySem.Value.str (PySem.Str.ofString "_law_halved") 670), (PySem.Value.str (PySem.Str.ofString "_law_halved") 671), (PySem.Value.str (PySem.Str.ofString "/claim/cut.py") 672), (PySem.Value.int (214 : Int) 0), (PySem.Value.int (3 : Int) 0), (PySem.Value.int (0 : Int) 0), (PySem.Value.int (0 : Int) 0), (PySem.Value.int (3 : Int) 0), (PySem.Value.ref 252), (PySem.Value.bool Bool.true), (PySem.Value.int (276 : Int) 0), (PySem.Value.ref 253), PySem.Value.none, (PySem.Value.ref 254), (PySem.Value.ref 255), (PySem.Value.ref 256), (PySem.Value.int (681 : Int) 0), (PySem.Value.int (214 : Int) 0), (PySem.Value.str (PySem.Str.ofString "/claim/cut.py") 682)])) (List.toArray []))) ::
    ((nat_lit 258), (PySem.Obj.mk (PySem.Value.type "function") (Option.none) (PySem.Data.func (PySem.FuncData.mk (PySem.Str.ofString "_law_halved") (PySem.Str.ofString "_law_halved") a28 (PySem.FuncBody.stmts b28) c28 3 [] PySem.Value.none PySem.Value.none PySem.Value.none (PySem.Value.str (PySem.Str.ofString "law_pe0267_01") 618) (Option.none) (PySem.Value.ref 257) PySem.Value.none 0)) (List.toArray []))) ::
    ((nat_lit 259), (PySem.Obj.mk (PySem.Value.type "tuple") (Option.none) (PySem.Data.seq (List.toArray []) 0) (List.toArray []))) ::
    ((nat_lit 261), (PySem.Obj.mk (PySem.Value.type "tuple") (Option.none) (PySem.Data.seq (List.toArray [(PySem.Value.str (PySem.Str.ofString "word") 687), (PySem.Value.str (PySem.Str.ofString "text") 688), (PySem.Value.str (PySem.Str.ofString "rows") 689), (PySem.Value.str (PySem.Str.ofString "sign") 690), (PySem.Value.str (PySem.Str.ofString "line") 691), (PySem.Value.str (PySem.Str.ofString "j") 692), (PySem.Value.str (PySem.Str.ofString "kept") 693)]) 0) (List.toArray []))) ::
    ((nat_lit 262), (PySem.Obj.mk (PySem.Value.type "tuple") (Option.none) (PySem.Data.seq (List.toArray []) 0) (List.toArray []))) ::
    ((nat_lit 264), (PySem.Obj.mk (PySem.Value.type "code") (Option.none) (PySem.Data.fields (List.toArray [(PySem.Value.str (PySem.Str.ofString "_law_excess") 684), (PySem.Value.str (PySem.Str.ofString "_law_excess") 685), (PySem.Value.str (PySem.Str.ofString "/claim/cut.py") 686), (PySem.Value.int (218 : Int) 0), (PySem.Value.int (2 : Int) 0), (PySem.Value.int (0 : Int) 0), (PySem.Value.int (0 : Int) 0), (PySem.Value.int (3 : Int) 0), (PySem.Value.ref 259), (PySem.Value.bool Bool.true), (PySem.Value.int (276 : Int) 0), (PySem.Value.ref 260), PySem.Value.none, (PySem.Value.ref 261), (PySem.Value.ref 262), (PySem.Value.ref 263), (PySem.Value.int (694 : Int) 0), (PySem.Value.int (218 : Int) 0), (PySem.Value.str (PySem.Str.ofString "/claim/cut.py") 695)])) (List.toArray []))) ::
    ((nat_lit 265), (PySem.Obj.mk (PySem.Value.type "function") (Option.none) (PySem.Data.func (PySem.FuncData.mk (PySem.Str.ofString "_law_excess") (PySem.Str.ofString "_law_excess") a29 (PySem.FuncBody.stmts b29) c29 3 [] PySem.Value.none PySem.Value.none PySem.Value.none (PySem.Value.str (PySem.Str.ofString "law_pe0267_01") 618) (Option.none) (PySem.Value.ref 264) PySem.Value.none 0)) (List.toArray []))) ::
    ((nat_lit 266), (PySem.Obj.mk (PySem.Value.type "tuple") (Option.none) (PySem.Data.seq (List.toArray []) 0) (List.toArray []))) ::
    ((nat_lit 269), (PySem.Obj.mk (PySem.Value.type "code") (Option.none) (PySem.Data.fields (List.toArray [(PySem.Value.str (PySem.Str.ofString "_law_first") 697), (PySem.Value.str (PySem.Str.ofString "_law_first") 698), (PySem.Value.str (PySem.Str.ofString "/claim/cut.py") 699), (PySem.Value.int (227 : Int) 0), (PySem.Value.int (3 : Int) 0), (PySem.Value.int (0 : Int) 0), (PySem.Value.int (0 : Int) 0), (PySem.Value.int (3 : Int) 0), (PySem.Value.ref 266), (PySem.Value.bool Bool.true), (PySem.Value.int (276 : Int) 0), (PySem.Value.ref 267), PySem.Value.none, PySem.Value.none, PySem.Value.none, (PySem.Value.ref 268), (PySem.Value.int (700 : Int) 0), (PySem.Value.int (227 : Int) 0), (PySem.Value.str (PySem.Str.ofString "/claim/cut.py") 701)])) (List.toArray []))) ::
    ((nat_lit 270), (PySem.Obj.mk (PySem.Value.type "function") (Option.none) (PySem.Data.func (PySem.FuncData.mk (PySem.Str.ofString "_law_first") (PySem.Str.ofString "_law_first") a30 (PySem.FuncBody.stmts b30) c30 3 [] PySem.Value.none PySem.Value.none PySem.Value.none (PySem.Value.str (PySem.Str.ofString "law_pe0267_01") 618) (Option.none) (PySem.Value.ref 269) PySem.Value.none 0)) (List.toArray []))) ::
    ((nat_lit 271), (PySem.Obj.mk (PySem.Value.type "tuple") (Option.none) (PySem.Data.seq (List.toArray []) 0) (List.toArray []))) ::
    ((nat_lit 274), (PySem.Obj.mk (PySem.Value.type "code") (Option.none) (PySem.Data.fields (List.toArray [(PySem.Value.str (PySem.Str.ofString "law") 703), (PySem.Value.str (PySem.Str.ofString "law") 704), (PySem.Value.str (PySem.Str.ofString "/claim/cut.py") 705), (PySem.Value.int (229 : Int) 0), (PySem.Value.int (1 : Int) 0), (PySem.Value.int (0 : Int) 0), (PySem.Value.int (0 : Int) 0), (PySem.Value.int (3 : Int) 0), (PySem.Value.ref 271), (PySem.Value.bool Bool.true), (PySem.Value.int (276 : Int) 0), (PySem.Value.ref 272), PySem.Value.none, PySem.Value.none, PySem.Value.none, (PySem.Value.ref 273), (PySem.Value.int (706 : Int) 0), (PySem.Value.int (229 : Int) 0), (PySem.Value.str (PySem.Str.ofString "/claim/cut.py") 707)])) (List.toArray []))) ::
    ((nat_lit 275), (PySem.Obj.mk (PySem.Value.type "function") (Option.none) (PySem.Data.func (PySem.FuncData.mk (PySem.Str.ofString "law") (PySem.Str.ofString "law") a31 (PySem.FuncBody.stmts b31) c31 3 [] PySem.Value.none PySem.Value.none PySem.Value.none (PySem.Value.str (PySem.Str.ofString "law_pe0267_01") 618) (Option.none) (PySem.Value.ref 274) PySem.Value.none 0)) (List.toArray []))) :: ([] : List (Nat × Obj))))
    rfl rfl rfl rfl rfl rfl rfl rfl rfl rfl rfl rfl rfl rfl rfl rfl rfl rfl rfl rfl rfl rfl rfl rfl rfl rfl rfl rfl rfl rfl rfl rfl

/-- the statements that the head looks at -/
noncomputable def topView : Program := { PySem.Challenge.pw_pe0267_01 with main := { PySem.Challenge.pw_pe0267_01.main with body := [0, 1, 6, 7, 8, 9, 10, 12, 13, 14, 16, 18, 19, 20, 21, 22, 23, 24, 25, 26].map stm } }
noncomputable def heapAt : List Addr := [3, 32, 34, 35, 37, 38, 39, 40, 41, 43, 44, 46, 47, 48, 49, 50, 52, 53, 55, 56, 57, 59, 60, 62, 63, 64, 66, 67, 69, 70, 74, 75, 79, 80, 84, 85, 86, 87, 89, 90, 92, 93, 101, 102, 104, 105, 107, 108, 109, 111, 112, 114, 115, 116, 118, 119, 121, 122, 123, 125, 126, 128, 129, 130, 133, 134, 135, 137, 138, 140, 141, 142, 144, 145, 147, 148, 149, 152, 153, 154, 155, 157, 158, 160, 161, 162, 165, 166, 167, 170, 171, 172, 174, 175, 177, 178, 179, 181, 182, 184, 185, 186, 189, 190, 191, 193, 194, 196, 197, 198, 200, 201, 203, 204, 205, 207, 208, 210, 211, 212, 213, 214, 215, 216, 219, 221, 222, 224, 225, 226, 229, 230, 231, 233, 234, 236, 237, 238, 240, 241, 243, 244, 245, 247, 248, 250, 251, 252, 254, 255, 257, 258, 259, 261, 262, 264, 265, 266, 269, 270, 271, 274, 275]
noncomputable def topNames : List Str := [Str.ofString "bisect_right", Str.ofString "bisect_left", Str.ofString "tspecials", Str.ofString "_name_disallowed_re", Str.ofString "_value_disallowed_re", Str.ofString "_formatparam"]
theorem heap_at : ∀ P, heapAt = (heapK P).map (·.1) := fun _ => by kernel_rfl
noncomputable abbrev topHook : Hook := kmHook heapK heapAt heap_at [253]
/-- what the top leaves, in every world -/
theorem topLeft : LeftO PySem.Challenge.rw_pe0267_01.row.prog topView topNames (fun s => xlAt topView [] s && recOk (RowW.records PySem.Challenge.rw_pe0267_01.row.toRowW) s) (Hook.obs topHook) (Hook.val topHook) 3144 := by
  intro w
  kernel_rfl
end Mine
end

section
open PySem PySem.W PyProof.Rows PySem.Calls
set_option Elab.async false
set_option maxRecDepth 100000
set_option maxHeartbeats 8000000
namespace Mine

/-- the room that a call needs -/
structure Room (A : Around) (d u : Nat) : Prop where
  hh : A.handled = none
  hd : A.depth + d < recursionLimit
  hu : A.units + u < cLine

/-- a call's end: nothing that stood is changed; what it hands back -/
def Ret (s : Shared) (R : Value → Heap → Prop) (r : Value) (s' : Shared) : Prop :=
  ∃ h' tk', s' = { s with heap := h', toks := tk' } ∧ s.heap.StaysIn h' ∧ R r h'

theorem ret_int {s : Shared} {h' : Heap} {tk' : Nat} {v x : Int} {t : Tok} (k : s.heap.StaysIn h') (e : x = v) : Ret s (fun r _ => ∃ t, r = .int v t) (.int x t) { s with heap := h', toks := tk' } :=
  ⟨h', tk', rfl, k, t, e ▸ rfl⟩

theorem Room.deeper {A : Around} {d u : Nat} {env : Env} (r : Room A (d + 1) (u + 3)) : Room (A.deeper env) d u :=
  ⟨r.hh, by have := r.hd; simp only [Around.deeper]; omega, by have := r.hu; simp only [Around.deeper]; omega⟩
theorem Room.le {A : Around} {d u d' u' : Nat} (r : Room A d u) (h1 : d' ≤ d) (h2 : u' ≤ u) : Room A d' u' :=
  ⟨r.hh, by have := r.hd; omega, by have := r.hu; omega⟩
theorem Room.in1 {A : Around} {d u : Nat} (r : Room A d (u + 1)) : Room A.in1 d u :=
  ⟨r.hh, r.hd, by have := r.hu; simp only [Around.in1]; omega⟩

theorem frGrow {h₀ h h' : Heap} {L : Addr} {m : Str → Option Value} (F : Fr h₀ L h m) (k : h.StaysIn h') : Fr h₀ L h' m :=
  ⟨F.ns.keeps k, fun b o e => k b o (F.keep b o e), F.above⟩
theorem newsGrow {h₀ h h' : Heap} {L : Addr} {news : List (Addr × Obj)} (N : News h₀ L h news) (k : h.StaysIn h') : News h₀ L h' news :=
  fun p hp => ⟨k _ _ (N p hp).1, (N p hp).2⟩

section
variable {prog : Program} {w : World} {A : Around} {s : Shared} {K : Frag} {p : Program} {loose : List Str} {mean : ExcName → Option Value} {mg mb : Str → Option Value}
  {name qual : Str} {params : Arguments} {body : List Stmt} {scope : Scope} {dV kV doc pm cdv ct oc : Value} {an od : Option Addr} {osl : Array (Option Value)} {f : Addr} {args : Args} {binds : List (Str × Value)}
  {R : Result → Shared → Prop}

theorem enterCode (X : K.In s.heap) (T : Top p loose mean mg mb s.heap) (hr : A.depth < recursionLimit)
    (ho : K.lookup f = some ⟨oc, od, .func (fnOf name qual params body scope dV kV doc pm an cdv ct), osl⟩) (hcd : codeIn K cdv qual = true)
    (hbind : BindsTo s (fnOf name qual params body scope dV kV doc pm an cdv ct) args binds) (hloc : ∀ y ∈ binds, scope.names.lookup y.1 = some .local)
    (h : ∀ L' h₁, Fr s.heap L' h₁ (fun y => binds.reverse.lookup y) → News s.heap L' h₁ [] →
      wpAny (model prog w) (A.deeper (envOf qual scope L' f cdv)) (execs body (envOf qual scope L' f cdv))
        (fun fl s' => R (.ok (.ret (match fl with | .ret v => v | _ => .none))) s') (fun _ _ => False) { s with heap := h₁, toks := s.toks + binds.length })
    (hco : scope.isCoroutine = false) (hgen : scope.isGenerator = false) (hk : scope.kind = .function) (hcell : ∀ x ∈ scope.names, x.2 ≠ .cell) :
    codeAny (model prog w) A (.call (.ref f) args) R s :=
  codeAny_call_def (fd := fnOf name qual params body scope dV kV doc pm an cdv ct) (body := body) (binds := binds) hr (X _ _ ho) rfl T.nolimit (codeRec_of X hcd) rfl hbind hcell hloc
    (fun h₁ hns hk₁ => wpAny_mono (h s.heap.objs.size h₁ ⟨hns, hk₁, Nat.le_refl _⟩ News.nil) (fun _ _ x => x) fun _ _ x => x.elim) hco hgen hk

variable {vs : List Value} {kw : List (Str × Value)} {Q E : Value → Shared → Prop}
theorem enter (X : K.In s.heap) (T : Top p loose mean mg mb s.heap) (hr : A.depth < recursionLimit)
    (ho : K.lookup f = some ⟨oc, od, .func (fnOf name qual params body scope dV kV doc pm an cdv ct), osl⟩) (hcd : codeIn K cdv qual = true)
    (hbind : BindsTo s (fnOf name qual params body scope dV kV doc pm an cdv ct) ⟨vs, kw⟩ binds) (hloc : ∀ y ∈ binds, scope.names.lookup y.1 = some .local)
    (h : ∀ L' h₁, Fr s.heap L' h₁ (fun y => binds.reverse.lookup y) → News s.heap L' h₁ [] →
      wpAny (model prog w) (A.deeper (envOf qual scope L' f cdv)) (execs body (envOf qual scope L' f cdv))
        (fun fl s' => Q (match fl with | .ret v => v | _ => .none) s') (fun _ _ => False) { s with heap := h₁, toks := s.toks + binds.length })
    (hco : scope.isCoroutine = false) (hgen : scope.isGenerator = false) (hk : scope.kind = .function) (hcell : ∀ x ∈ scope.names, x.2 ≠ .cell) :
    wpAny (model prog w) A (call (.ref f) vs kw) Q E s :=
  wpAny_call (enterCode X T hr ho hcd hbind hloc h hco hgen hk hcell)
end
end Mine

namespace Mine
section
variable {M : Model} {A : Around} {E : Value → Shared → Prop} {s : Shared} {env : Env}
theorem gWhile {a : Expr} {b c : List Stmt} {p : Pos} {Q : Flow → Shared → Prop} (h : wpAny M A (exec (.While a b c p) env) Q E s) : wpAny M A (exec (.While a b c p) env) Q E s := h
theorem gFor {x a : Expr} {b c : List Stmt} {p : Pos} {Q : Flow → Shared → Prop} (h : wpAny M A (exec (.For x a b c p) env) Q E s) : wpAny M A (exec (.For x a b c p) env) Q E s := h
theorem gIter {v : Value} {Q : Value → Shared → Prop} (h : wpAny M A (pyIter v) Q E s) : wpAny M A (pyIter v) Q E s := h
theorem gComp {a : Expr} {b : List Comprehension} {c : Scope} {p : Pos} {Q : Value → Shared → Prop} (h : wpAny M A (eval (.ListComp a b c p) env) Q E s) : wpAny M A (eval (.ListComp a b c p) env) Q E s := h
theorem gLam {a : Arguments} {b : Expr} {c : Scope} {p : Pos} {Q : Value → Shared → Prop} (h : wpAny M A (eval (.Lambda a b c p) env) Q E s) : wpAny M A (eval (.Lambda a b c p) env) Q E s := h
theorem gCall {f : Addr} {vs : List Value} {kw : List (Str × Value)} {Q : Value → Shared → Prop} (h : wpAny M A (call (.ref f) vs kw) Q E s) : wpAny M A (call (.ref f) vs kw) Q E s := h
theorem gJoin {vs : List Value} {kw : List (Str × Value)} {Q : Value → Shared → Prop} (h : wpAny M A (call (.builtin "str.join") vs kw) Q E s) : wpAny M A (call (.builtin "str.join") vs kw) Q E s := h
theorem gCmp {o : CmpOp} {a b : Addr} {Q : Value → Shared → Prop} (h : wpAny M A (compareOp o (.ref a) (.ref b)) Q E s) : wpAny M A (compareOp o (.ref a) (.ref b)) Q E s := h
theorem gMul {a : Addr} {b : Value} {Q : Value → Shared → Prop} (h : wpAny M A (binaryOp .Mult (.ref a) b) Q E s) : wpAny M A (binaryOp .Mult (.ref a) b) Q E s := h
theorem gSub {x y : Expr} {a b : Addr} {Q : Value → Shared → Prop} (h : wpAny M A (subscriptTail x y (.ref a) (.ref b)) Q E s) : wpAny M A (subscriptTail x y (.ref a) (.ref b)) Q E s := h
end
end Mine
end

section
open PySem PySem.W PyProof.Rows PySem.Calls
set_option Elab.async false
set_option maxRecDepth 100000
set_option maxHeartbeats 8000000
namespace Mine
variable {w : World} {A : Around} {s : Shared} {E : Value → Shared → Prop} {p : Program} {loose : List Str} {mean : ExcName → Option Value} {mg mb : Str → Option Value}

def sc (a b : Str) : Int := if a = b then 0 else if Txt.lower a = Txt.lower b then 1 else 2

theorem subst_cost {x y : Str} {t1 t2 : Tok} (hx : x.length ≤ 100) (hy : y.length ≤ 100) (r : Room A 1 8) (X : (heapK w.params).In s.heap) (T : Top p loose mean mg mb s.heap) :
    wpAny (model PySem.Challenge.rw_pe0267_01.row.prog w) A (call (.ref 63) [.str x t1, .str y t2]) (Ret s fun v _ => ∃ t, v = .int (sc x y) t) E s := by
  revert X; k_fill; intro X
  k_dflt (refine' enter (binds := [(Str.ofString "ch_a", .str x t1), (Str.ofString "ch_b", .str y t2)]) X T ?k8 ?k6 ?k7 ?k9 ?kB ?_ ?c2 ?c3 ?c4 ?c5; (case k6 => k_is); (case k7 => k_is); (case k8 => (have := r.hd; omega)); (case k9 => exact BindsTo.of_eq rfl); (case c5 => decide); (case kB => exact locs rfl); (case c2 => exact rfl); (case c3 => exact rfl); (case c4 => exact rfl); k_whole; intro L' h' F' N'; (try dsimp only); (try k_fold))
  k_steps
  all_goals (exact ret_int F'.keep (by simp only [sc]; simp_all))

theorem use_subst {x y : Str} {t1 t2 : Tok} {h₀ : Heap} {L : Addr} {m : Str → Option Value} {news : List (Addr × Obj)} {Q : Value → Shared → Prop} (F : Fr h₀ L s.heap m) (N : News h₀ L s.heap news) (X : (heapK w.params).In h₀) (T : Top p loose mean mg mb h₀) (r : Room A 1 8)
    (hx : x.length ≤ 100) (hy : y.length ≤ 100) (h : ∀ h' tk t, Fr h₀ L h' m → News h₀ L h' news → Q (.int (sc x y) t) { s with heap := h', toks := tk }) :
    wpAny (model PySem.Challenge.rw_pe0267_01.row.prog w) A (call (.ref 63) [.str x t1, .str y t2]) Q E s :=
  wpAny_mono (subst_cost hx hy r (X.keeps F.keep) (T.keeps F.keep)) (fun v s' ⟨h', tk, e, k, t, ev⟩ => by subst e; subst ev; exact h h' tk t (frGrow F k) (newsGrow N k)) fun _ _ e => e
end Mine
end

section
open PySem PySem.W PyProof.Rows PySem.Calls
set_option Elab.async false
set_option maxRecDepth 100000
set_option maxHeartbeats 8000000
namespace Mine

/-- a statement's end, by what is told of the frame and the ledger; Rr: where it returns -/
def Stop (s : Shared) (h₀ : Heap) (L : Addr) (P : (Str → Option Value) → List (Addr × Obj) → Prop) (Rr : Value → Shared → Prop) (f : Flow) (s' : Shared) : Prop :=
  match f with
  | .next => ∃ h tk m news, s' = { s with heap := h, toks := tk } ∧ Fr h₀ L h m ∧ News h₀ L h news ∧ P m news
  | .ret v => Rr v s'
  | _ => False

section
variable {M : Model} {A : Around} {E : Value → Shared → Prop} {s : Shared} {h₀ : Heap} {L : Addr} {P : (Str → Option Value) → List (Addr × Obj) → Prop} {Rr : Value → Shared → Prop} {Q : Flow → Shared → Prop} {t : Sem Flow}
theorem cut (P : (Str → Option Value) → List (Addr × Obj) → Prop) (Rr : Value → Shared → Prop) (h1 : wpAny M A t (Stop s h₀ L P Rr) E s)
    (h2 : ∀ h tk m news, Fr h₀ L h m → News h₀ L h news → P m news → Q .next { s with heap := h, toks := tk }) (h3 : ∀ v s', Rr v s' → Q (.ret v) s') : wpAny M A t Q E s :=
  wpAny_mono h1 (fun f s' hs => by
    cases f with
    | next => obtain ⟨h, tk, m, news, rfl, F, N, p⟩ := hs; exact h2 h tk m news F N p
    | ret v => exact h3 v s' hs
    | brk => exact hs.elim
    | cont => exact hs.elim) fun _ _ e => e
theorem Stop.next {h : Heap} {tk : Nat} {m : Str → Option Value} {news : List (Addr × Obj)} (F : Fr h₀ L h m) (N : News h₀ L h news) (p : P m news) : Stop s h₀ L P Rr .next { s with heap := h, toks := tk } :=
  ⟨h, tk, m, news, rfl, F, N, p⟩
end

theorem with_room {α : Type} {M : Model} {A : Around} {E : Value → Shared → Prop} {s : Shared} {t : Sem α} {Q : α → Shared → Prop} {d u : Nat} (r : Room A d u) (h : Room A d u → wpAny M A t Q E s) : wpAny M A t Q E s := h r

/-- a new list of a range's ints -/
theorem list_range {prog : Program} {w : World} {A : Around} {E : Value → Shared → Prop} {s : Shared} {h₀ : Heap} {L : Addr} {m : Str → Option Value} {news : List (Addr × Obj)} {Q : Value → Shared → Prop} {r : Addr} {a b c : Int} {t u v : Tok} {n : Nat}
    (hh : A.handled = none) (F : Fr h₀ L s.heap m) (N : News h₀ L s.heap news) (hr : IsRange s.heap r a b c t u v) (hsmall : Builtin.Range.small a b c = true) (hn : Builtin.Range.rangeSize a b c = (n : Int)) (hz : n ≤ 2 ^ 24)
    (h : ∀ D us c' h' tk, Fr h₀ L h' m → News h₀ L h' ((D, listOf (List.toArray us) c') :: news) → (∀ p ∈ news, p.1 < D) → us.length = n → (∀ (j : Nat) (v : Value), us[j]? = some v → ∃ t, v = .int (a + j * c) t) → Q (.ref D) { s with heap := h', toks := tk }) :
    wpAny (model prog w) A (call (.type "list") [.ref r]) Q E s := by
  refine call_list_range hh hr hsmall hn hz fun h' tk acc c' hk hD hI => ?_
  have hD' : h'.get? s.heap.objs.size = some (listOf (List.toArray acc.toList) c') := by
    rw [Array.toArray_toList]
    exact hD
  have fresh : h₀.get? s.heap.objs.size = none := Heap.get?_none_of_le (Nat.le_trans F.above (Nat.le_of_lt F.ns.lt))
  refine h _ acc.toList c' h' tk (frGrow F hk) (fun p hp => ?_) (fun p hp => Heap.lt_size (N p hp).1) (by rw [Array.length_toList]; exact hI.1) fun j v hj => hI.2 j v (by rw [← hj, Array.getElem?_toList])
  rcases List.mem_cons.mp hp with rfl | hp
  · exact ⟨hD', Nat.ne_of_gt F.ns.lt, fresh⟩
  · exact ⟨hk _ _ (N p hp).1, (N p hp).2⟩

/-- a loop's turn -/
def Turn (h₀ : Heap) (L I : Addr) (oI : Obj) (Jn : (Str → Option Value) → List (Addr × Obj) → Prop) (s : Shared) (Q : Flow → Shared → Prop) (f : Flow) (s' : Shared) : Prop :=
  match f with
  | .ret v => Q (.ret v) s'
  | .brk => Q .next s'
  | _ => ∃ h' tk m₂ news₂, s' = { s with heap := h', toks := tk } ∧ Fr h₀ L h' m₂ ∧ News h₀ L h' ((I, oI) :: news₂) ∧ (∀ p ∈ news₂, p.1 ≠ I) ∧ Jn m₂ news₂
theorem Turn.next {h₀ : Heap} {L I : Addr} {oI : Obj} {Jn : (Str → Option Value) → List (Addr × Obj) → Prop} {s : Shared} {Q : Flow → Shared → Prop} {h : Heap} {tk : Nat} {m : Str → Option Value} {news : List (Addr × Obj)}
    (F : Fr h₀ L h m) (N : News h₀ L h ((I, oI) :: news)) (hI : ∀ p ∈ news, p.1 ≠ I) (j : Jn m news) : Turn h₀ L I oI Jn s Q .next { s with heap := h, toks := tk } := ⟨h, tk, m, news, rfl, F, N, hI, j⟩

section
variable {prog : Program} {w : World} {A : Around} {s : Shared} {env : Env} {h₀ : Heap} {E : Value → Shared → Prop} {Q : Flow → Shared → Prop} {x : Str} {body : List Stmt}
theorem loop1 {I : Addr} {n : Nat} {P : Nat → Value → Prop} {St : Nat → Heap → Prop} {m : Str → Option Value} {news : List (Addr × Obj)} (W : Walks prog w A I [I] [I] n P St) (hlive : ∀ i h, St i h → ∃ o, h.get? I = some o) (hst : St 0 s.heap) (hI : h₀.get? I = none) (hIL : I ≠ env.locals)
    (F : Fr h₀ env.locals s.heap m) (N : News h₀ env.locals s.heap news) (hnew : ∀ p ∈ news, p.1 ≠ I) (J : Nat → (Str → Option Value) → List (Addr × Obj) → Prop) (h0 : J 0 m news)
    (step : ∀ i v m₁ news₁ h tk oI, i < n → P i v → J i m₁ news₁ → (∀ p ∈ news₁, p.1 ≠ I) → Fr h₀ env.locals h (fun y => if y = x then some v else m₁ y) → News h₀ env.locals h ((I, oI) :: news₁) →
      wpAny (model prog w) A (execs body env) (Turn h₀ env.locals I oI (J (i + 1)) s Q) E { s with heap := h, toks := tk })
    (done : ∀ h tk m₁ news₁, Fr h₀ env.locals h m₁ → News h₀ env.locals h news₁ → J n m₁ news₁ → Q .next { s with heap := h, toks := tk }) :
    LoopAtV prog w A h₀ env x body Q E (.ref I) s := by
  refine ⟨I, [I], [I], n, P, St, m, news, J, rfl, W, ?_, ?_, ?_, hst, F, N, h0, ?_, ?_⟩
  · intro q; exact hIL (List.mem_singleton.mp q).symm
  · intro b hb; rw [List.mem_singleton.mp hb]; exact hI
  · intro p hp q; exact hnew p hp (List.mem_singleton.mp q)
  · rintro i v m₁ news₁ s₁ own ⟨h, tk, rfl⟩ hi hP hJ hoff hown hget hall hst₁ F₁ N₁
    obtain ⟨oI, hoI⟩ := hlive _ _ hst₁
    have hmem := hall I (List.mem_singleton.mpr rfl) hI oI hoI
    have N₂ : News h₀ env.locals h ((I, oI) :: news₁) := fun p hp => by
      rcases List.mem_cons.mp hp with rfl | hp
      · exact N₁ _ (List.mem_append_left _ hmem)
      · exact N₁ p (List.mem_append_right _ hp)
    refine wpAny_mono (step i v m₁ news₁ h tk oI hi hP hJ (fun p hp q => hoff p hp (List.mem_singleton.mpr q)) F₁ N₂) (fun f s₂ ht => ?_) fun _ _ e => e
    have fin : (∃ h' tk m₂ news₂, s₂ = { s with heap := h', toks := tk } ∧ Fr h₀ env.locals h' m₂ ∧ News h₀ env.locals h' ((I, oI) :: news₂) ∧ (∀ p ∈ news₂, p.1 ≠ I) ∧ J (i + 1) m₂ news₂) → LoopStepU h₀ env.locals [I] own (J (i + 1)) { s with heap := h, toks := tk } .next s₂ := by
      rintro ⟨h', tk', m₂, news₂, rfl, F₂, N₃, hn, hj⟩
      refine ⟨rfl, h', tk', m₂, news₂, rfl, F₂, fun p hp => ?_, fun p hp q => hn p hp (List.mem_singleton.mp q), hj⟩
      rcases List.mem_append.mp hp with hp | hp
      · have e1 := List.mem_singleton.mp (hown p hp)
        have e2 := hget p hp
        rw [e1] at e2
        have e3 : some oI = some p.2 := hoI.symm.trans e2
        have e4 : p = (I, oI) := Prod.ext e1 (Option.some.inj e3).symm
        rw [e4]; exact N₃ _ (.head _)
      · exact N₃ p (.tail _ hp)
    cases f with
    | ret v => exact .ret ht
    | brk => exact .brk ht
    | next => exact .next (fin ht)
    | cont => exact .cont (fin ht)
  · intro h' tk m' news' F' N' _ hJ
    exact done h' tk m' news' F' N' hJ

/-- over a range -/
theorem loopRange {r : Addr} {a b c : Int} {t u v : Tok} {n : Nat} {m : Str → Option Value} {news : List (Addr × Obj)} (hr : IsRange s.heap r a b c t u v) (hs : Builtin.Range.small a b c = true) (hn : Builtin.Range.rangeSize a b c = (n : Int)) (hh : A.handled = none)
    (F : Fr h₀ env.locals s.heap m) (N : News h₀ env.locals s.heap news) (J : Nat → (Str → Option Value) → List (Addr × Obj) → Prop) (h0 : J 0 m news)
    (step : ∀ (i : Nat) (tv : Tok) m₁ news₁ h tk I oI, i < n → (∀ p ∈ news, p.1 < I) → J i m₁ news₁ → (∀ p ∈ news₁, p.1 ≠ I) → Fr h₀ env.locals h (fun y => if y = x then some (.int (a + i * c) tv) else m₁ y) → News h₀ env.locals h ((I, oI) :: news₁) →
      wpAny (model prog w) A (execs body env) (Turn h₀ env.locals I oI (J (i + 1)) s Q) E { s with heap := h, toks := tk })
    (done : ∀ h tk m₁ news₁, Fr h₀ env.locals h m₁ → News h₀ env.locals h news₁ → J n m₁ news₁ → Q .next { s with heap := h, toks := tk }) :
    wpAny (model prog w) A (pyIter (.ref r)) (fun it s₂ => LoopAtV prog w A h₀ env x body Q E it s₂) E s := by
  refine wpAny_pyIter_range hr hs ?_
  have hlt : ∀ p ∈ news, p.1 < s.heap.objs.size := fun p hp => Heap.lt_size (N p hp).1
  refine loop1 (s := { s with heap := s.heap.push _ }) (Walks.range hh s.heap.objs.size a c n) (fun i h q => ⟨_, q⟩) (by rw [hn]; simpa using Heap.get?_push_size _ rfl) (Heap.get?_none_of_le (Nat.le_trans F.above (Nat.le_of_lt F.ns.lt))) (Nat.ne_of_gt F.ns.lt) (F.push _) (fun p hp => ⟨Heap.get?_push_of_some _ (N p hp).1, (N p hp).2⟩)
    (fun p hp => Nat.ne_of_lt (hlt p hp)) J h0 ?_ ?_
  · rintro i v' m₁ news₁ h tk oI hi ⟨tv, rfl⟩ hJ hn₁ F₁ N₁
    exact step i tv m₁ news₁ h tk _ oI hi hlt hJ hn₁ F₁ N₁
  · intro h tk m₁ news₁ F₁ N₁ hJ
    exact done h tk m₁ news₁ F₁ N₁ hJ
/-- over a text's signs -/
theorem loopStr {z : Str} {t : Tok} {m : Str → Option Value} {news : List (Addr × Obj)} (hh : A.handled = none)
    (F : Fr h₀ env.locals s.heap m) (N : News h₀ env.locals s.heap news) (J : Nat → (Str → Option Value) → List (Addr × Obj) → Prop) (h0 : J 0 m news)
    (step : ∀ (i : Nat) (c : Nat) (tv : Tok) m₁ news₁ h tk I oI, z.cps[i]? = some c → (∀ p ∈ news, p.1 < I) → J i m₁ news₁ → (∀ p ∈ news₁, p.1 ≠ I) → Fr h₀ env.locals h (fun y => if y = x then some (.str ⟨#[c]⟩ tv) else m₁ y) → News h₀ env.locals h ((I, oI) :: news₁) →
      wpAny (model prog w) A (execs body env) (Turn h₀ env.locals I oI (J (i + 1)) s Q) E { s with heap := h, toks := tk })
    (done : ∀ h tk m₁ news₁, Fr h₀ env.locals h m₁ → News h₀ env.locals h news₁ → J z.cps.size m₁ news₁ → Q .next { s with heap := h, toks := tk }) (hz : z.cps.all (· < 128) = true) :
    wpAny (model prog w) A (pyIter (.str z t)) (fun it s₂ => LoopAtV prog w A h₀ env x body Q E it s₂) E s := by
  refine wpAny_pyIter_ascii hz ?_
  have hlt : ∀ p ∈ news, p.1 < s.heap.objs.size := fun p hp => Heap.lt_size (N p hp).1
  refine loop1 (s := { s with heap := s.heap.push _ }) (Walks.strAscii hh s.heap.objs.size z t) (fun i h ⟨o, q, _⟩ => ⟨o, q⟩) ⟨_, Heap.get?_push_size _ rfl, rfl, rfl⟩ (Heap.get?_none_of_le (Nat.le_trans F.above (Nat.le_of_lt F.ns.lt))) (Nat.ne_of_gt F.ns.lt) (F.push _) (fun p hp => ⟨Heap.get?_push_of_some _ (N p hp).1, (N p hp).2⟩)
    (fun p hp => Nat.ne_of_lt (hlt p hp)) J h0 ?_ ?_
  · rintro i v' m₁ news₁ h tk oI hi ⟨c, u, hc, rfl⟩ hJ hn₁ F₁ N₁
    exact step i c u m₁ news₁ h tk _ oI hc hlt hJ hn₁ F₁ N₁
  · intro h tk m₁ news₁ F₁ N₁ hJ
    exact done h tk m₁ news₁ F₁ N₁ hJ
end
end Mine
end

section
open PySem PySem.W PyProof.Rows PySem.Calls
set_option Elab.async false
set_option maxRecDepth 100000
set_option maxHeartbeats 8000000
namespace Mine

/-- a text by its signs' numbers -/
def S (l : List Nat) : Str := ⟨l.toArray⟩
theorem S_len (l : List Nat) : (S l).length = l.length := by simp [S, Str.length]
theorem S_cps (l : List Nat) : (S l).cps.toList = l := by simp [S]
theorem S_of (x : Str) : x = S x.cps.toList := by simp [S]
theorem S_inj {a b : List Nat} (h : S a = S b) : a = b := by have := congrArg (fun x : Str => x.cps.toList) h; simpa [S] using this
theorem S_beq (a b : List Nat) : (S a == S b) = (a == b) := by
  by_cases h : a = b
  · subst h; simp
  · have h2 : S a ≠ S b := fun q => h (S_inj q)
    rw [beq_eq_false_iff_ne.mpr h2, beq_eq_false_iff_ne.mpr h]

theorem slice_from (l : List Nat) (k : Nat) : Txt.slice (S l) (some (k : Int)) none = S (l.drop k) := by
  by_cases h : k ≤ l.length
  · rw [eq_of_beq (slice_closes_fromL (x := S l) (i := (k : Int)) (b := ((S l).length : Int)) (by omega) (by rw [S_len]; omega) rfl)]
    rw [S_cps, S_len]
    unfold S
    congr 2
    rw [show ((k : Int)).toNat = k by omega]
    exact List.take_of_length_le (by rw [List.length_drop]; omega)
  · rw [slice_from_beyond (by rw [S_len]; omega), List.drop_eq_nil_of_le (by omega)]
    rfl
theorem slice_to (l : List Nat) (k : Nat) : Txt.slice (S l) none (some (k : Int)) = S (l.take k) := by
  rw [eq_of_beq (slice_to_min_closes (x := S l) (n := (k : Int)) (by omega) rfl)]
  rw [S_cps, S_len]
  unfold S
  congr 2
  simp only [Int.toNat_zero, List.drop_zero, Int.sub_zero]
  split
  · rw [show ((l.length : Int)).toNat = l.length by omega, List.take_of_length_le (Nat.le_refl _), List.take_of_length_le (by omega)]
  · rw [show ((k : Int)).toNat = k by omega]
theorem slice_toNeg (l : List Nat) (q : Nat) (h0 : 0 < q) (h : q ≤ l.length) : Txt.slice (S l) none (some (-(q : Int))) = S (l.take (l.length - q)) := by
  have e : Txt.slice (S l) none (some (-(q : Int))) = Txt.slice (S l) none (some (-(q : Int) + ((S l).length : Nat))) := StrLaws.sliceText_neg_hi (S l) none (by omega) (by rw [S_len]; omega)
  rw [e, S_len, show (-(q : Int) + (l.length : Int)) = ((l.length - q : Nat) : Int) by omega, slice_to]
open PySem.Builtin PySem.Builtin.Str in
theorem slice_all (l : List Nat) : Txt.slice (S l) none none = S l := by
  unfold Txt.slice
  rw [if_pos]
  unfold strSliceIndices sliceRange
  simp
  split <;> omega
theorem item_S (l : List Nat) (k : Nat) (h : k < l.length) : Txt.item (S l) (k : Int) = S [l[k]] := by
  rw [item_at (n := k) (by omega) (by rw [S_len]; omega) (by omega)]
  simp [S, h]
theorem item_SNeg (l : List Nat) (q : Nat) (h0 : 0 < q) (h : q ≤ l.length) : Txt.item (S l) (-(q : Int)) = S [l[l.length - q]] := by
  have := eq_of_beq (item_closes_neg (x := S l) (i := -(q : Int)) (j := ((l.length - q : Nat) : Int)) (by omega) (by rw [S_len]; omega) (by rw [S_len]; omega))
  rw [this]
  simp [S, show l.length - q < l.length by omega]
end Mine
end

section
set_option Elab.async false
namespace Mine

/-- a sign's cost in another one's place: its own number's class by f -/
def subc (f : Nat → Nat) (x y : Nat) : Nat := if x = y then 0 else if f x = f y then 1 else 2
theorem subc_le (f : Nat → Nat) (x y : Nat) : subc f x y ≤ 2 := by unfold subc; split <;> (try split) <;> omega
theorem subc_self (f : Nat → Nat) (x : Nat) : subc f x x = 0 := by simp [subc]
theorem subc_comm (f : Nat → Nat) (x y : Nat) : subc f x y = subc f y x := by
  unfold subc
  simp only [eq_comm (a := x) (b := y), eq_comm (a := f x) (b := f y)]

/-- the distance, from the lists' heads on -/
def dist (f : Nat → Nat) : List Nat → List Nat → Nat
  | [], b => 2 * b.length
  | x :: a, [] => 2 * (a.length + 1)
  | x :: a, y :: b => min (min (dist f a (y :: b)) (dist f (x :: a) b) + 2) (dist f a b + subc f x y)
termination_by a b => a.length + b.length

variable {f : Nat → Nat}
theorem dist_nil (b : List Nat) : dist f [] b = 2 * b.length := by cases b <;> simp [dist]
theorem dist_nil_r (a : List Nat) : dist f a [] = 2 * a.length := by cases a <;> simp [dist]
theorem dist_cons (x : Nat) (a : List Nat) (y : Nat) (b : List Nat) : dist f (x :: a) (y :: b) = min (min (dist f a (y :: b)) (dist f (x :: a) b) + 2) (dist f a b + subc f x y) := by rw [dist]

theorem dist_comm : ∀ (n : Nat) (a b : List Nat), a.length + b.length ≤ n → dist f a b = dist f b a
  | _, [], b, _ => by rw [dist_nil, dist_nil_r]
  | _, x :: a, [], _ => by rw [dist_nil, dist_nil_r]
  | 0, _ :: _, _ :: _, h => by simp at h
  | n + 1, x :: a, y :: b, h => by
    simp only [List.length_cons] at h
    rw [dist_cons, dist_cons, dist_comm n a (y :: b) (by simp only [List.length_cons]; omega), dist_comm n (x :: a) b (by simp only [List.length_cons]; omega), dist_comm n a b (by omega), subc_comm]
    omega
theorem dist_sym (a b : List Nat) : dist f a b = dist f b a := dist_comm _ a b (Nat.le_refl _)

theorem dist_ins (a b : List Nat) (y : Nat) : dist f a (y :: b) ≤ dist f a b + 2 := by
  cases a with
  | nil => rw [dist_nil, dist_nil, List.length_cons]; omega
  | cons x a => rw [dist_cons]; omega
theorem dist_del (a b : List Nat) (x : Nat) : dist f (x :: a) b ≤ dist f a b + 2 := by
  rw [dist_sym, dist_sym a b]; exact dist_ins b a x

theorem dist_drop (a : List Nat) (x : Nat) : ∀ b : List Nat, dist f a b ≤ dist f (x :: a) b + 2
  | [] => by rw [dist_nil_r, dist_nil_r, List.length_cons]; omega
  | y :: b => by
    have h1 := dist_drop a x b
    have h2 := dist_ins (f := f) a b y
    have h3 := subc_le f x y
    rw [dist_cons]
    omega
theorem dist_same (a b : List Nat) (x : Nat) : dist f (x :: a) (x :: b) = dist f a b := by
  have h1 := dist_drop (f := f) a x b
  have h2 := dist_drop (f := f) b x a
  rw [dist_sym b a, dist_sym (x :: b) a] at h2
  rw [dist_cons, subc_self]
  omega

/-- an alignment and its cost -/
inductive Aln (f : Nat → Nat) : List Nat → List Nat → Nat → Prop
  | nil : Aln f [] [] 0
  | del {a b n} (x) : Aln f a b n → Aln f (x :: a) b (n + 2)
  | ins {a b n} (y) : Aln f a b n → Aln f a (y :: b) (n + 2)
  | sub {a b n} (x y) : Aln f a b n → Aln f (x :: a) (y :: b) (n + subc f x y)

theorem Aln.lower {a b : List Nat} {n : Nat} (h : Aln f a b n) : dist f a b ≤ n := by
  induction h with
  | nil => simp [dist]
  | del x _ ih => have := dist_del (f := f) _ _ x |> Nat.le_trans <| Nat.add_le_add_right ih 2; exact this
  | ins y _ ih => have := dist_ins (f := f) _ _ y |> Nat.le_trans <| Nat.add_le_add_right ih 2; exact this
  | sub x y _ ih => rw [dist_cons]; omega
theorem Aln.onlyIns : ∀ b : List Nat, Aln f [] b (2 * b.length)
  | [] => .nil
  | y :: b => by have := Aln.ins (f := f) y (Aln.onlyIns b); rw [List.length_cons]; exact this
theorem Aln.onlyDel : ∀ a : List Nat, Aln f a [] (2 * a.length)
  | [] => .nil
  | y :: b => by have := Aln.del (f := f) y (Aln.onlyDel b); rw [List.length_cons]; exact this
theorem Aln.best : ∀ (n : Nat) (a b : List Nat), a.length + b.length ≤ n → Aln f a b (dist f a b)
  | _, [], b, _ => by rw [dist_nil]; exact .onlyIns b
  | _, x :: a, [], _ => by rw [dist_nil_r]; exact .onlyDel _
  | 0, _ :: _, _ :: _, h => by simp at h
  | n + 1, x :: a, y :: b, h => by
    simp only [List.length_cons] at h
    have h1 := Aln.del x (Aln.best n a (y :: b) (by simp only [List.length_cons]; omega))
    have h2 := Aln.ins y (Aln.best n (x :: a) b (by simp only [List.length_cons]; omega))
    have h3 := Aln.sub x y (Aln.best n a b (by omega))
    have e := dist_cons (f := f) x a y b
    rcases Nat.le_total (dist f a (y :: b)) (dist f (x :: a) b) with q | q
    · rcases Nat.le_total (dist f a (y :: b) + 2) (dist f a b + subc f x y) with r | r
      · rw [show dist f (x :: a) (y :: b) = dist f a (y :: b) + 2 by omega]; exact h1
      · rw [show dist f (x :: a) (y :: b) = dist f a b + subc f x y by omega]; exact h3
    · rcases Nat.le_total (dist f (x :: a) b + 2) (dist f a b + subc f x y) with r | r
      · rw [show dist f (x :: a) (y :: b) = dist f (x :: a) b + 2 by omega]; exact h2
      · rw [show dist f (x :: a) (y :: b) = dist f a b + subc f x y by omega]; exact h3
theorem Aln.append {a b a' b' : List Nat} {n n' : Nat} (h : Aln f a b n) (h' : Aln f a' b' n') : Aln f (a ++ a') (b ++ b') (n + n') := by
  induction h with
  | nil => simpa using h'
  | del x _ ih => have := Aln.del x ih; rw [show ∀ m : Nat, m + 2 + n' = m + n' + 2 by omega]; exact this
  | ins y _ ih => have := Aln.ins y ih; rw [show ∀ m : Nat, m + 2 + n' = m + n' + 2 by omega]; exact this
  | sub x y _ ih => have := Aln.sub x y ih; rw [show ∀ m k : Nat, m + k + n' = m + n' + k by omega]; exact this
theorem Aln.rev {a b : List Nat} {n : Nat} (h : Aln f a b n) : Aln f a.reverse b.reverse n := by
  induction h with
  | nil => exact .nil
  | del x _ ih => rw [List.reverse_cons]; have := ih.append (Aln.del x (Aln.nil (f := f))); simpa using this
  | ins y _ ih => rw [List.reverse_cons]; have := ih.append (Aln.ins y (Aln.nil (f := f))); simpa using this
  | sub x y _ ih => rw [List.reverse_cons, List.reverse_cons]; have := ih.append (Aln.sub x y (Aln.nil (f := f))); simpa using this
theorem dist_rev (a b : List Nat) : dist f a.reverse b.reverse = dist f a b := by
  have h1 := (Aln.best (f := f) _ a b (Nat.le_refl _)).rev.lower
  have h2 := (Aln.best (f := f) _ a.reverse b.reverse (Nat.le_refl _)).rev.lower
  rw [List.reverse_reverse, List.reverse_reverse] at h2
  omega
theorem dist_prefix (c a b : List Nat) : dist f (c ++ a) (c ++ b) = dist f a b := by
  induction c with
  | nil => rfl
  | cons x c ih => rw [List.cons_append, List.cons_append, dist_same, ih]
theorem dist_suffix (c a b : List Nat) : dist f (a ++ c) (b ++ c) = dist f a b := by
  rw [← dist_rev, List.reverse_append, List.reverse_append, dist_prefix, dist_rev]

/-- the table's next place -/
theorem dist_snoc (a b : List Nat) (x y : Nat) : dist f (a ++ [x]) (b ++ [y]) = min (min (dist f a (b ++ [y])) (dist f (a ++ [x]) b) + 2) (dist f a b + subc f x y) := by
  have e : ∀ c d : List Nat, dist f c d = dist f c.reverse d.reverse := fun c d => (dist_rev c d).symm
  rw [e (a ++ [x]), e a (b ++ [y]), e (a ++ [x]) b, e a b]
  simp only [List.reverse_append, List.reverse_cons, List.reverse_nil, List.nil_append, List.singleton_append]
  exact dist_cons x _ y _

/-- the lengths' difference is a lower bound -/
theorem dist_len (a b : List Nat) : 2 * (b.length - a.length) ≤ dist f a b := by
  have h : ∀ {a b : List Nat} {n : Nat}, Aln f a b n → 2 * (b.length - a.length) ≤ n := by
    intro a b n h
    induction h with
    | nil => simp
    | del x _ ih => rw [List.length_cons]; omega
    | ins y _ ih => rw [List.length_cons]; omega
    | sub x y _ ih => rw [List.length_cons, List.length_cons]; omega
  exact h (Aln.best _ a b (Nat.le_refl _))
theorem dist_top (a b : List Nat) : dist f a b ≤ 2 * (a.length + b.length) := by
  have := (Aln.onlyDel (f := f) a).append (Aln.onlyIns (f := f) b)
  have := this.lower
  simp at this
  omega

/-- an alignment passes each row: a bound on a row's places is one on the end -/
theorem Aln.cut {a b : List Nat} {n : Nat} (h : Aln f a b n) : ∀ (b₁ b₂ : List Nat), b = b₁ ++ b₂ → ∃ a₁ a₂ n₁ n₂, a = a₁ ++ a₂ ∧ n = n₁ + n₂ ∧ Aln f a₁ b₁ n₁ ∧ Aln f a₂ b₂ n₂ := by
  induction h with
  | nil => intro b₁ b₂ e; obtain ⟨rfl, rfl⟩ := List.append_eq_nil_iff.mp e.symm; exact ⟨[], [], 0, 0, rfl, rfl, .nil, .nil⟩
  | del x h ih =>
    intro b₁ b₂ e
    obtain ⟨a₁, a₂, n₁, n₂, rfl, rfl, h1, h2⟩ := ih b₁ b₂ e
    exact ⟨x :: a₁, a₂, n₁ + 2, n₂, rfl, by omega, .del x h1, h2⟩
  | ins y h ih =>
    intro b₁ b₂ e
    cases b₁ with
    | nil => simp only [List.nil_append] at e; subst e; exact ⟨[], _, 0, _, rfl, (Nat.zero_add _).symm, .nil, .ins y h⟩
    | cons z b₁ =>
      obtain ⟨rfl, rfl⟩ := List.cons.inj e
      obtain ⟨a₁, a₂, n₁, n₂, rfl, rfl, h1, h2⟩ := ih b₁ b₂ rfl
      exact ⟨a₁, a₂, n₁ + 2, n₂, rfl, by omega, .ins _ h1, h2⟩
  | sub x y h ih =>
    intro b₁ b₂ e
    cases b₁ with
    | nil => simp only [List.nil_append] at e; subst e; exact ⟨[], _, 0, _, rfl, (Nat.zero_add _).symm, .nil, .sub x y h⟩
    | cons z b₁ =>
      obtain ⟨rfl, rfl⟩ := List.cons.inj e
      obtain ⟨a₁, a₂, n₁, n₂, rfl, rfl, h1, h2⟩ := ih b₁ b₂ rfl
      exact ⟨x :: a₁, a₂, n₁ + subc f x _, n₂, rfl, by omega, .sub x _ h1, h2⟩
/-- a row all of whose places (but the nought one) lie above m: so does the end -/
theorem dist_row {a b₁ b₂ : List Nat} {m : Nat} (ha : a ≠ []) (hb : b₁ ≠ []) (h : ∀ j, j < a.length → m < dist f (a.take (j + 1)) b₁) : m < dist f a (b₁ ++ b₂) := by
  obtain ⟨a₁, a₂, n₁, n₂, e, en, h1, _⟩ := (Aln.best (f := f) _ a (b₁ ++ b₂) (Nat.le_refl _)).cut b₁ b₂ rfl
  have l := h1.lower
  have key : m < dist f a₁ b₁ := by
    cases a₁ with
    | nil =>
      cases a with
      | nil => exact absurd rfl ha
      | cons x r =>
        have := h 0 (by simp)
        simp only [Nat.zero_add, List.take_succ_cons, List.take_zero] at this
        obtain ⟨y, c, rfl⟩ := List.exists_cons_of_ne_nil hb
        have h2 := subc_le f x y
        rw [dist_cons, dist_nil, dist_nil] at this
        rw [dist_nil]
        simp only [List.length_cons] at this ⊢
        omega
    | cons x r =>
      have hl : r.length < a.length := by rw [e]; simp only [List.cons_append, List.length_cons, List.length_append]; omega
      have := h r.length hl
      rw [e, show (x :: r ++ a₂).take (r.length + 1) = x :: r from by rw [List.take_append_of_le_length (by simp)]; exact List.take_of_length_le (by simp)] at this
      exact this
  omega
end Mine
end

section
open PySem PySem.W PyProof.Rows PySem.Calls
set_option Elab.async false
set_option maxRecDepth 100000
set_option maxHeartbeats 8000000
namespace Mine
/-- the four signs a, A, b, B -/
def Al (l : List Nat) : Prop := ∀ c ∈ l, c = 97 ∨ c = 65 ∨ c = 98 ∨ c = 66
def lw (c : Nat) : Nat := if c = 65 then 97 else if c = 66 then 98 else c

theorem lowerOf_al {c : Nat} (h : c = 97 ∨ c = 65 ∨ c = 98 ∨ c = 66) : Unicode.lowerOf c = [lw c] := by
  rcases h with rfl | rfl | rfl | rfl <;> decide +kernel
theorem lowerAt_al {l : List Nat} (hl : Al l) (i : Nat) (h : i < l.length) : Unicode.lowerAt l.toArray i = [lw l[i]] := by
  have h1 := hl l[i] (List.getElem_mem h)
  have h2 : (l[i] == 0x3A3) = false := by rcases h1 with q | q | q | q <;> rw [q] <;> rfl
  unfold Unicode.lowerAt
  rw [show l.toArray[i]? = some l[i] by simp [h]]
  simp only [h2, Bool.false_and, Bool.false_eq_true, if_false]
  exact lowerOf_al h1
theorem flat_single (l : List Nat) : (l.map fun c => [lw c]).flatten = l.map lw := by
  induction l with
  | nil => rfl
  | cons x l ih => simp [ih]
theorem lower_S {l : List Nat} (hl : Al l) : Txt.lower (S l) = S (l.map lw) := by
  unfold Txt.lower S placed
  congr 1
  have e : (l.toArray.mapIdx fun i _ => (Unicode.lowerAt l.toArray i).toArray) = (l.map fun c => #[lw c]).toArray := by
    apply Array.ext
    · simp
    · intro i h1 h2
      simp only [List.size_toArray, Array.size_mapIdx, List.length_map] at h1 h2
      simp only [Array.getElem_mapIdx, List.getElem_toArray, List.getElem_map]
      rw [lowerAt_al hl i (by simpa using h1)]
  show ((l.toArray.mapIdx fun i _ => (Unicode.lowerAt l.toArray i).toArray)).flatten = _
  rw [e]
  apply Array.toList_inj.mp
  simp only [Array.toList_flatten, List.map_map]
  have : (Array.toList ∘ fun c => #[lw c]) = fun c => [lw c] := rfl
  simp only [this]
  exact flat_single l
theorem al_nil : Al [] := fun _ h => nomatch h
theorem al_one {c : Nat} (h : c = 97 ∨ c = 65 ∨ c = 98 ∨ c = 66) : Al [c] := fun x hx => by rw [List.mem_singleton.mp hx]; exact h
theorem Al.sub {l l' : List Nat} (h : Al l) (k : ∀ c ∈ l', c ∈ l) : Al l' := fun c hc => h c (k c hc)
theorem Al.take {l : List Nat} (h : Al l) (n : Nat) : Al (l.take n) := h.sub fun _ q => List.mem_of_mem_take q
theorem Al.drop {l : List Nat} (h : Al l) (n : Nat) : Al (l.drop n) := h.sub fun _ q => List.mem_of_mem_drop q
theorem Al.rev {l : List Nat} (h : Al l) : Al l.reverse := h.sub fun _ q => List.mem_reverse.mp q
theorem lw_al {c : Nat} (h : c = 97 ∨ c = 65 ∨ c = 98 ∨ c = 66) : lw c = 97 ∨ lw c = 98 := by rcases h with rfl | rfl | rfl | rfl <;> decide
theorem Al.low {l : List Nat} (h : Al l) : Al (l.map lw) := fun c hc => by
  obtain ⟨x, hx, rfl⟩ := List.mem_map.mp hc
  rcases lw_al (h x hx) with q | q <;> rw [q] <;> decide
theorem Al.app {a b : List Nat} (ha : Al a) (hb : Al b) : Al (a ++ b) := fun c hc => (List.mem_append.mp hc).elim (ha c) (hb c)
theorem sc_S {x y : Nat} (hx : x = 97 ∨ x = 65 ∨ x = 98 ∨ x = 66) (hy : y = 97 ∨ y = 65 ∨ y = 98 ∨ y = 66) : sc (S [x]) (S [y]) = (subc lw x y : Nat) := by
  unfold sc
  rw [lower_S (al_one hx), lower_S (al_one hy)]
  unfold subc
  by_cases h : x = y
  · subst h; simp
  · rw [if_neg (fun q => h (by have := S_inj q; simpa using this)), if_neg h]
    by_cases h2 : lw x = lw y
    · rw [if_pos (by simp [h2]), if_pos h2]; rfl
    · rw [if_neg (fun q => h2 (by have := S_inj q; simpa using this)), if_neg h2]; rfl
end Mine
end

section
open PySem PySem.W PyProof.Rows PySem.Calls
set_option Elab.async false
set_option maxRecDepth 100000
set_option maxHeartbeats 8000000
namespace Mine

theorem ints_of : ∀ (us : List Value) (ns : List Int), us.length = ns.length → (∀ (j : Nat) (v : Value) (n : Int), us[j]? = some v → ns[j]? = some n → ∃ t, v = .int n t) → IntsAre us ns
  | [], [], _, _ => .nil
  | [], _ :: _, h, _ => by simp at h
  | _ :: _, [], h, _ => by simp at h
  | v :: us, n :: ns, h, k => by
    obtain ⟨t, rfl⟩ := k 0 v n rfl rfl
    exact .cons n t (ints_of us ns (by simpa using h) fun j v' n' h1 h2 => k (j + 1) v' n' (by simpa using h1) (by simpa using h2))

/-- a row of the table -/
def drow (a b : List Nat) : List Int := (List.range a.length).map fun j => (dist lw (a.take (j + 1)) b : Int)
/-- a row under way: its first j places are new -/
def mrow (a b1 b0 : List Nat) (j : Nat) : List Int := (List.range a.length).map fun i => if i < j then (dist lw (a.take (i + 1)) b1 : Int) else (dist lw (a.take (i + 1)) b0 : Int)
theorem drow_len (a b : List Nat) : (drow a b).length = a.length := by simp [drow]
theorem mrow_len (a b1 b0 : List Nat) (j : Nat) : (mrow a b1 b0 j).length = a.length := by simp [mrow]
theorem mrow_zero (a b1 b0 : List Nat) : mrow a b1 b0 0 = drow a b0 := by simp [mrow, drow]
theorem mrow_full (a b1 b0 : List Nat) : mrow a b1 b0 a.length = drow a b1 := by
  unfold mrow drow
  apply List.map_congr_left
  intro i hi
  rw [if_pos (List.mem_range.mp hi)]
theorem mrow_get (a b1 b0 : List Nat) (j : Nat) (h : j < a.length) : (mrow a b1 b0 j).getD j 0 = (dist lw (a.take (j + 1)) b0 : Int) := by
  simp [mrow, List.getD, h]
theorem mrow_set (a b1 b0 : List Nat) (j : Nat) (h : j < a.length) : (mrow a b1 b0 j).set j (dist lw (a.take (j + 1)) b1 : Int) = mrow a b1 b0 (j + 1) := by
  apply List.ext_getElem
  · simp [mrow]
  · intro i h1 h2
    simp only [mrow, List.length_set, List.length_map, List.length_range] at h1 h2
    simp only [mrow, List.getElem_set, List.getElem_map, List.getElem_range]
    by_cases e : j = i
    · subst e; simp
    · rw [if_neg e]
      by_cases l : i < j
      · rw [if_pos l, if_pos (by omega)]
      · rw [if_neg l, if_neg (by omega)]

theorem take_snoc {a : List Nat} {j : Nat} (h : j < a.length) : a.take (j + 1) = a.take j ++ [a[j]] := by
  rw [List.take_add_one, List.getElem?_eq_getElem h]; rfl

/-- one place of the table, as the code reckons it -/
theorem cell_val {a b : List Nat} {j r : Nat} (hj : j < a.length) (hr : r < b.length) {res sub : Int}
    (hres : res = if j = 0 then 2 * (r : Int) else (dist lw (a.take j) (b.take (r + 1)) : Int)) (hsub : sub = (dist lw (a.take j) (b.take r) : Int) + (subc lw b[r] a[j] : Nat)) :
    min (min res (dist lw (a.take (j + 1)) (b.take r) : Int) + 2) sub = (dist lw (a.take (j + 1)) (b.take (r + 1)) : Int) := by
  have e := dist_snoc (f := lw) (a.take j) (b.take r) a[j] b[r]
  rw [← take_snoc hj, ← take_snoc hr] at e
  rw [subc_comm] at e
  rcases Nat.eq_zero_or_pos j with h0 | h0
  · subst h0
    simp only [if_true] at hres
    have l := subc_le lw b[r] a[0]
    have e1 : dist lw (a.take 0) (b.take (r + 1)) = 2 * (r + 1) := by rw [List.take_zero, dist_nil, List.length_take]; omega
    have e2 : dist lw (a.take 0) (b.take r) = 2 * r := by rw [List.take_zero, dist_nil, List.length_take]; omega
    rw [e1, e2] at e
    rw [e2] at hsub
    subst hres
    subst hsub
    omega
  · rw [if_neg (by omega)] at hres
    subst hres
    subst hsub
    omega

theorem cell_code {a b : List Nat} {j r : Nat} (hA : Al a) (hB : Al b) (hj : j < a.length) (hr : r < b.length) {res dv : Int}
    (hdv : dv = (dist lw (a.take j) (b.take r) : Int)) (hres : res = if j = 0 then 2 * (r : Int) else (dist lw (a.take j) (b.take (r + 1)) : Int)) :
    (if dv + sc (S [b[r]]) (Txt.item (S a) (j : Int)) < (if (mrow a (b.take (r + 1)) (b.take r) j).getD ((j : Int)).toNat 0 < res then (mrow a (b.take (r + 1)) (b.take r) j).getD ((j : Int)).toNat 0 else res) + 2
      then dv + sc (S [b[r]]) (Txt.item (S a) (j : Int)) else (if (mrow a (b.take (r + 1)) (b.take r) j).getD ((j : Int)).toNat 0 < res then (mrow a (b.take (r + 1)) (b.take r) j).getD ((j : Int)).toNat 0 else res) + 2)
      = (dist lw (a.take (j + 1)) (b.take (r + 1)) : Int) := by
  have e := cell_val hj hr hres (sub := dv + (subc lw b[r] a[j] : Nat)) (by rw [hdv])
  rw [item_S a j hj, sc_S (hB _ (List.getElem_mem hr)) (hA _ (List.getElem_mem hj)), show ((j : Int)).toNat = j by omega, mrow_get _ _ _ _ hj]
  rw [← e]
  split <;> split <;> omega
open PySem.Builtin.Range in
theorem size_two (n : Nat) : rangeSize 2 (2 * ((n : Int) + 1)) 2 = (n : Int) := by
  unfold rangeSize
  simp only [show ((2 : Int) > 0) = True by simp, if_true]
  split <;> omega
open PySem.Builtin.Range in
theorem fits_long {i : Int} (h1 : -4000 ≤ i) (h2 : i ≤ 4000) : rangeFitsLong i = true := by
  unfold rangeFitsLong
  rw [decide_eq_true (by omega), decide_eq_true (by omega)]; rfl
open PySem.Builtin.Range in
theorem small_two (n : Nat) (h : n ≤ 1000) : small 2 (2 * ((n : Int) + 1)) 2 = true := by
  unfold small
  rw [size_two, fits_long (i := 2) (by decide) (by decide), fits_long (i := 2 * ((n : Int) + 1)) (by omega) (by omega), fits_long (i := (n : Int)) (by omega) (by omega), if_pos (by decide), fits_long (by omega) (by omega)]
  simp
end Mine
end

section
open PySem PySem.W PyProof.Rows PySem.Calls
set_option Elab.async false
set_option maxRecDepth 100000
set_option maxHeartbeats 8000000
namespace Mine
/-- a place of the law's own table -/
def ecell (w t : List Nat) (i j : Nat) : Int := (dist lw (w.take i) (t.take j) : Int) - 2 * ((j : Int) - (i : Int))
def erow (w t : List Nat) (i : Nat) : List Int := (List.range (t.length + 1)).map (ecell w t i)
theorem erow_len (w t : List Nat) (i : Nat) : (erow w t i).length = t.length + 1 := by simp [erow]
theorem erow_get (w t : List Nat) (i j : Nat) (h : j ≤ t.length) : (erow w t i).getD j 0 = ecell w t i j := by
  simp [erow, List.getD, show j < t.length + 1 by omega]
theorem erow_at (w t : List Nat) (i j : Nat) (h : j ≤ t.length) : (erow w t i)[j]? = some (ecell w t i j) := by
  simp [erow, show j < t.length + 1 by omega]
theorem erow_take (w t : List Nat) (i j : Nat) (h : j < t.length) : (erow w t i).take (j + 1 + 1) = (erow w t i).take (j + 1) ++ [ecell w t i (j + 1)] := by
  rw [List.take_add_one, erow_at _ _ _ _ (by omega)]; rfl
theorem ecell_zero (w t : List Nat) (j : Nat) (h : j ≤ t.length) : ecell w t 0 j = 0 := by
  unfold ecell; rw [List.take_zero, dist_nil, List.length_take]; omega
theorem erow_zero (w t : List Nat) : erow w t 0 = List.replicate (t.length + 1) 0 := by
  apply List.ext_getElem
  · simp [erow]
  · intro j h1 h2
    simp only [erow, List.length_map, List.length_range] at h1
    simp only [erow, List.getElem_map, List.getElem_range, List.getElem_replicate]
    exact ecell_zero w t j (by omega)
theorem ecell_col (w t : List Nat) (i : Nat) (h : i < w.length) : ecell w t (i + 1) 0 = ecell w t i 0 + 4 := by
  unfold ecell; rw [List.take_zero, dist_nil_r, dist_nil_r, List.length_take, List.length_take]; omega
theorem ecell_step (w t : List Nat) (i j : Nat) (hi : i < w.length) (hj : j < t.length) :
    ecell w t (i + 1) (j + 1) = min (min (ecell w t (i + 1) j) (ecell w t i j + (subc lw w[i] t[j] : Nat))) (ecell w t i (j + 1) + 4) := by
  have e := dist_snoc (f := lw) (w.take i) (t.take j) w[i] t[j]
  rw [← take_snoc hi, ← take_snoc hj] at e
  unfold ecell
  omega
/-- it falls along the text -/
theorem ecell_mono (w t : List Nat) (i j : Nat) (hj : j < t.length) : ecell w t i (j + 1) ≤ ecell w t i j := by
  have := dist_ins (f := lw) (w.take i).reverse (t.take j).reverse t[j]
  have e : t[j] :: (t.take j).reverse = (t.take (j + 1)).reverse := by rw [take_snoc hj, List.reverse_append]; rfl
  rw [e, dist_rev, dist_rev] at this
  unfold ecell
  omega
theorem ecell_mono' (w t : List Nat) (i : Nat) : ∀ (k j : Nat), j + k ≤ t.length → ecell w t i (j + k) ≤ ecell w t i j
  | 0, j, _ => Int.le_refl _
  | k + 1, j, h => by
    have h1 := ecell_mono' w t i k j (by omega)
    have h2 := ecell_mono w t i (j + k) (by omega)
    rw [show j + (k + 1) = j + k + 1 by omega]
    omega
end Mine
end

section
open PySem PySem.W PyProof.Rows PySem.Calls
set_option Elab.async false
set_option maxRecDepth 100000
set_option maxHeartbeats 8000000
namespace Mine
section
variable {prog : Program} {w : World} {A : Around} {s : Shared} {g : Heap} {K : Frag} {p : Program} {loose : List Str} {mean : ExcName → Option Value} {mg mb : Str → Option Value} {news : List (Addr × Obj)}
  {name qual : Str} {params : Arguments} {body : List Stmt} {scope : Scope} {dV kV doc pm cdv ct oc : Value} {an od : Option Addr} {osl : Array (Option Value)} {f : Addr} {args : Args} {binds : List (Str × Value)}
  {R : Result → Shared → Prop}

/-- a def with cells is called; its base is a part g of the heap, what is left out may stand in the ledger -/
theorem enterCodeC (hg : g.StaysIn s.heap) (hsz : g.objs.size ≤ s.heap.objs.size) (hn : ∀ q ∈ news, s.heap.get? q.1 = some q.2 ∧ g.get? q.1 = none) (X : K.In g) (T : Top p loose mean mg mb g) (hr : A.depth < recursionLimit)
    (ho : K.lookup f = some ⟨oc, od, .func (fnOf name qual params body scope dV kV doc pm an cdv ct), osl⟩) (hcd : codeIn K cdv qual = true)
    (hbind : BindsTo s (fnOf name qual params body scope dV kV doc pm an cdv ct) args binds) (hkind : (binds.all fun y => scope.names.lookup y.1 == some .local || scope.names.lookup y.1 == some .cell) = true)
    (hnd : ((cellsFrom 0 scope.names []).map (·.1)).Nodup)
    (h : ∀ L' h₁ tk cells, Fr g L' h₁ (bindL (envOfC qual scope L' f cdv).kindOf binds fun _ => none) → News g L' h₁ (cells ++ news) →
      CellsAre (bindC (envOfC qual scope L' f cdv).kindOf binds fun _ => none) (cellsFrom (L' + 1) scope.names []) cells → (∀ q ∈ news, q.1 < L') →
      wpAny (model prog w) (A.deeper (envOfC qual scope L' f cdv)) (execs body (envOfC qual scope L' f cdv))
        (fun fl s' => R (.ok (.ret (match fl with | .ret v => v | _ => .none))) s') (fun _ _ => False) { s with heap := h₁, toks := tk })
    (hco : scope.isCoroutine = false) (hgen : scope.isGenerator = false) (hk : scope.kind = .function) :
    codeAny (model prog w) A (.call (.ref f) args) R s := by
  have Xs : K.In s.heap := X.keeps hg
  refine codeAny_call_function (fd := fnOf name qual params body scope dV kV doc pm an cdv ct) (body := body) hr (Xs _ _ ho) rfl hco hgen rfl (codeRec_of Xs hcd) (hbind _ _ _ _ ?_)
  refine wpAny_newFunctionEnv_cells hk (kindsX hkind _) fun env' he s' x => ?_
  subst he
  refine ⟨(T.nolimit.keeps hg).keeps x.toInCall.keep, codeAny_func ?_⟩
  obtain ⟨h₁, tk, rfl, _⟩ := x.done
  have hk₁ := x.toInCall.keep
  obtain ⟨cells, NC, Y⟩ := Cl.news (h₀ := s.heap) (Nat.le_refl _) fun n c hm => ⟨x.cell n c (lookup_of_mem_nodup (cellsFrom_names scope.names 0 (s.heap.objs.size + 1) [] [] rfl ▸ hnd) hm), x.above n c hm⟩
  refine wpAny_mono (h s.heap.objs.size h₁ tk cells ⟨x.toInCall.ns, fun b o e => hk₁ b o (hg b o e), hsz⟩ (fun q hq => ?_) Y (fun q hq => Heap.lt_size (hn q hq).1)) (fun fl s' hl => hl) fun _ _ y => y.elim
  rcases List.mem_append.mp hq with hq | hq
  · refine ⟨(NC q hq).1, (NC q hq).2.1, ?_⟩
    cases e : g.get? q.1 with
    | none => rfl
    | some o => have := hg _ _ e; rw [(NC q hq).2.2] at this; cases this
  · exact ⟨hk₁ _ _ (hn q hq).1, Nat.ne_of_lt (Heap.lt_size (hn q hq).1), (hn q hq).2⟩

variable {vs : List Value} {kw : List (Str × Value)} {Q E : Value → Shared → Prop}
theorem enterC (hg : g.StaysIn s.heap) (hsz : g.objs.size ≤ s.heap.objs.size) (hn : ∀ q ∈ news, s.heap.get? q.1 = some q.2 ∧ g.get? q.1 = none) (X : K.In g) (T : Top p loose mean mg mb g) (hr : A.depth < recursionLimit)
    (ho : K.lookup f = some ⟨oc, od, .func (fnOf name qual params body scope dV kV doc pm an cdv ct), osl⟩) (hcd : codeIn K cdv qual = true)
    (hbind : BindsTo s (fnOf name qual params body scope dV kV doc pm an cdv ct) ⟨vs, kw⟩ binds) (hkind : (binds.all fun y => scope.names.lookup y.1 == some .local || scope.names.lookup y.1 == some .cell) = true)
    (hnd : ((cellsFrom 0 scope.names []).map (·.1)).Nodup)
    (h : ∀ L' h₁ tk cells, Fr g L' h₁ (bindL (envOfC qual scope L' f cdv).kindOf binds fun _ => none) → News g L' h₁ (cells ++ news) →
      CellsAre (bindC (envOfC qual scope L' f cdv).kindOf binds fun _ => none) (cellsFrom (L' + 1) scope.names []) cells → (∀ q ∈ news, q.1 < L') →
      wpAny (model prog w) (A.deeper (envOfC qual scope L' f cdv)) (execs body (envOfC qual scope L' f cdv))
        (fun fl s' => Q (match fl with | .ret v => v | _ => .none) s') (fun _ _ => False) { s with heap := h₁, toks := tk })
    (hco : scope.isCoroutine = false) (hgen : scope.isGenerator = false) (hk : scope.kind = .function) :
    wpAny (model prog w) A (call (.ref f) vs kw) Q E s :=
  wpAny_call (enterCodeC hg hsz hn X T hr ho hcd hbind hkind hnd h hco hgen hk)
end
end Mine
namespace Mine
section
variable {M : Model} {A : Around} {E : Value → Shared → Prop} {s : Shared} {C c : Addr} {scope : Scope} {cl : List (Str × Addr)} {env : Env} {x : Str} {pos : Pos} {v : Value} {o : Obj} {m : Str → Option Value} {Q : Value → Shared → Prop}
theorem cname_L (hn : s.heap.Ns C m) (hv : m x = some v) (h : Q v s) (hk : (compEnvC scope cl C env).scope.kind = .function) (hx : (compEnvC scope cl C env).kindOf x = some .local) (hb : (x == ("__debug__" : Str)) = false := by decide) :
    wpAny M A (eval (.Name x pos) (compEnvC scope cl C env)) Q E s := wpAny_Name (wpAny_loadName_local hk hx hn hv h) hb
theorem cname_C (hc : cl.lookup x = some c) (ho : s.heap.get? c = some o) (hd : o.data = .cell (some v)) (h : Q v s)
    (hk : (compEnvC scope cl C env).scope.kind = .function) (hx : (compEnvC scope cl C env).kindOf x = some .cell) (hb : (x == ("__debug__" : Str)) = false := by decide) :
    wpAny M A (eval (.Name x pos) (compEnvC scope cl C env)) Q E s := wpAny_Name (wpAny_loadName_cell hk hx hc ⟨o, ho, hd⟩ h) hb
theorem keeps_refl {s : Shared} : Keeps s s := ⟨s.heap, s.toks, rfl, fun _ _ e => e⟩
end
end Mine
namespace Mine
section
variable {prog : Program} {w : World} {A : Around} {E : Value → Shared → Prop} {s : Shared} {h₀ : Heap} {L : Addr} {m : Str → Option Value} {news : List (Addr × Obj)} {env : Env} {scope : Scope} {cl : List (Str × Addr)} {x : Str} {ifs : List Expr} {elt : Expr} {Q : Value → Shared → Prop}

theorem ints_of' : ∀ (us : List Value) (ns : List Int), us.length = ns.length → (∀ (j : Nat) (v : Value) (n : Int), us[j]? = some v → ns[j]? = some n → ∃ t, v = .int n t) → IntsAre us ns
  | [], [], _, _ => .nil
  | [], _ :: _, h, _ => by simp at h
  | _ :: _, [], h, _ => by simp at h
  | v :: us, n :: ns, h, k => by
    obtain ⟨t, rfl⟩ := k 0 v n rfl rfl
    exact .cons n t (ints_of' us ns (by simpa using h) fun j v' n' h1 h2 => k (j + 1) v' n' (by simpa using h1) (by simpa using h2))

/-- what a comprehension's source must show -/
def CompAt (prog : Program) (w : World) (A : Around) (env : Env) (scope : Scope) (cl : List (Str × Addr)) (x : Str) (ifs : List Expr) (elt : Expr) (p : Value → Bool) (G : Value → Value → Prop) (Q : Value → Shared → Prop) (it : Value) (s₂ : Shared) : Prop :=
  ∃ I fp wr n P St, it = .ref I ∧ Walks prog w A I fp wr n P St ∧ n ≤ sizeLine ∧ St 0 s₂.heap ∧ (∀ b ∈ fp, b < s₂.heap.objs.size) ∧
      QuietOnC prog w A env scope cl x ifs elt wr P p G s₂ ∧
      (∀ D h' tk ys (vs : List Value), s₂.heap.get? D = none → h'.IsList D ys → h'.PlainList D ys → vs.length = n → (∀ j v, vs[j]? = some v → P j v) → Paired G (vs.filter p) ys.toList →
        (∀ b o, b ∉ wr → s₂.heap.get? b = some o → h'.get? b = some o) → Q (.ref D) { s₂ with heap := h', toks := tk })

theorem compAt {I : Addr} {fp : List Addr} {n : Nat} {P : Nat → Value → Prop} {St : Nat → Heap → Prop} {p : Value → Bool} {G : Value → Value → Prop}
    (W : Walks prog w A I fp [I] n P St) (hz : n ≤ sizeLine) (hst : St 0 s.heap) (hfp : ∀ b ∈ fp, b < s.heap.objs.size) (hIL : L ≠ I) (hI : h₀.get? I = none) (hnI : ∀ q ∈ news, q.1 ≠ I) (F : Fr h₀ L s.heap m) (N : News h₀ L s.heap news)
    (tests : ∀ C i v s₃ m₃ E', P i v → s₃.heap.Ns C m₃ → m₃ x = some v → Fr h₀ L s₃.heap m → News h₀ L s₃.heap news →
      wpAny (model prog w) A (forIn ifs true fun c r => if r = true then do let ok ← isTrue c (compEnvC scope cl C env) (eval c (compEnvC scope cl C env)); pure (ForInStep.yield ok) else pure (ForInStep.yield r)) (fun ok s₄ => ok = p v ∧ Keeps s₃ s₄) E' s₃)
    (helt : ∀ C i v s₃ m₃ E', P i v → p v = true → s₃.heap.Ns C m₃ → m₃ x = some v → Fr h₀ L s₃.heap m → News h₀ L s₃.heap news →
      wpAny (model prog w) A (eval elt (compEnvC scope cl C env)) (fun y s₄ => G v y ∧ Keeps s₃ s₄) E' s₃)
    (fin : ∀ D ys c h tk (vs : List Value), Fr h₀ L h m → News h₀ L h ((D, PySem.W.listOf (List.toArray ys) c) :: news) → (∀ q ∈ news, @Ne Nat q.1 D) → vs.length = n → (∀ (j : Nat) v, vs[j]? = some v → P j v) → Paired G (vs.filter p) ys → Q (.ref D) { s with heap := h, toks := tk }) :
    CompAt prog w A env scope cl x ifs elt p G Q (.ref I) s := by
  have up : ∀ h : Heap, (∀ b o, b ∉ [I] → s.heap.get? b = some o → h.get? b = some o) → Fr h₀ L h m ∧ News h₀ L h news := fun h hk =>
    ⟨⟨F.ns.at' fun o e => hk L o (by simpa using hIL) e, fun b o e => hk b o (fun hm => by rw [List.mem_singleton.mp hm, hI] at e; cases e) (F.keep b o e), F.above⟩,
      fun q hq => ⟨hk _ _ (by simpa using hnI q hq) (N q hq).1, (N q hq).2⟩⟩
  refine ⟨I, fp, [I], n, P, St, rfl, W, hz, hst, hfp, ⟨fun C i v s₃ m₃ E' _ hP hn hm hk _ => ?_, fun C i v s₃ m₃ E' _ hP hp hn hm hk _ => ?_⟩, ?_⟩
  · obtain ⟨F₃, N₃⟩ := up _ hk
    exact tests C i v s₃ m₃ E' hP hn hm F₃ N₃
  · obtain ⟨F₃, N₃⟩ := up _ hk
    exact helt C i v s₃ m₃ E' hP hp hn hm F₃ N₃
  · rintro D h' tk ys vs hD _ ⟨c, hpl⟩ hlen hP hF hk
    obtain ⟨F₃, N₃⟩ := up _ hk
    refine fin D ys.toList c h' tk vs F₃ (fun q hq => ?_) (fun q hq e => ?_) hlen hP hF
    · rcases List.mem_cons.mp hq with rfl | hq
      · refine ⟨by rw [Array.toArray_toList]; exact hpl, fun e => ?_, ?_⟩
        · obtain ⟨o, _, _, ho, _⟩ := F.ns
          rw [← e, hD] at ho; cases ho
        · cases e : h₀.get? D with
          | none => rfl
          | some o => have := F.keep _ _ e; rw [hD] at this; cases this
      · exact N₃ q hq
    · have := (N q hq).1; rw [show q.1 = D from e, hD] at this; cases this

theorem compRange {r : Addr} {a b : Int} {t u v : Tok} {n : Nat} {p : Value → Bool} {G : Value → Value → Prop} (hr : IsRange s.heap r a b 1 t u v) (hsm : Builtin.Range.small a b 1 = true) (hn : Builtin.Range.rangeSize a b 1 = (n : Int)) (hz : n ≤ sizeLine) (hh : A.handled = none)
    (F : Fr h₀ L s.heap m) (N : News h₀ L s.heap news)
    (tests : ∀ C (i : Nat) tv s₃ m₃ E', i < n → s₃.heap.Ns C m₃ → m₃ x = some (.int (a + i) tv) → Fr h₀ L s₃.heap m → News h₀ L s₃.heap news →
      wpAny (model prog w) A (forIn ifs true fun c r => if r = true then do let ok ← isTrue c (compEnvC scope cl C env) (eval c (compEnvC scope cl C env)); pure (ForInStep.yield ok) else pure (ForInStep.yield r)) (fun ok s₄ => ok = p (.int (a + i) tv) ∧ Keeps s₃ s₄) E' s₃)
    (helt : ∀ C (i : Nat) tv s₃ m₃ E', i < n → p (.int (a + i) tv) = true → s₃.heap.Ns C m₃ → m₃ x = some (.int (a + i) tv) → Fr h₀ L s₃.heap m → News h₀ L s₃.heap news →
      wpAny (model prog w) A (eval elt (compEnvC scope cl C env)) (fun y s₄ => G (.int (a + i) tv) y ∧ Keeps s₃ s₄) E' s₃)
    (fin : ∀ D ys c h tk (vs : List Value), Fr h₀ L h m → News h₀ L h ((D, PySem.W.listOf (List.toArray ys) c) :: news) → (∀ q ∈ news, @Ne Nat q.1 D) → IntsAre vs ((List.range n).map fun (i : Nat) => a + (i : Int)) → Paired G (vs.filter p) ys → Q (.ref D) { s with heap := h, toks := tk }) :
    wpAny (model prog w) A (pyIter (.ref r)) (fun it s₂ => CompAt prog w A env scope cl x ifs elt p G Q it s₂) E s := by
  refine wpAny_pyIter_range hr hsm ?_
  have W := Walks.range (prog := prog) (w := w) hh s.heap.objs.size a 1 n
  let W' : Walks prog w A s.heap.objs.size [s.heap.objs.size] [s.heap.objs.size] n (fun i v => i < n ∧ ∃ t, v = .int (a + i) t) (fun i h => IsRangeIter h s.heap.objs.size (a + (i : Nat) * 1) ((n : Int) - (i : Nat)) 1) :=
    { sub := W.sub, frame := W.frame, done := W.done, self := W.self,
      item := fun i s' Q' E' hi st hQ => W.item i s' Q' E' hi st fun v h' tk hP => hQ v h' tk (by obtain ⟨t, rfl⟩ := hP; exact ⟨hi, t, by rw [Int.mul_one]⟩) }
  refine compAt (s := { s with heap := s.heap.push _ }) W' hz (by rw [hn]; simpa using Heap.get?_push_size _ rfl) (fun b hb => ?_) (Nat.ne_of_lt F.ns.lt) (Heap.get?_none_of_le (Nat.le_trans F.above (Nat.le_of_lt F.ns.lt))) (fun q hq => Nat.ne_of_lt (Heap.lt_size (N q hq).1))
    (F.push _) (fun q hq => ⟨Heap.get?_push_of_some _ (N q hq).1, (N q hq).2⟩) ?_ ?_ ?_
  · rw [List.mem_singleton.mp hb]
    show s.heap.objs.size < (s.heap.push _).objs.size
    rw [Heap.size_push]; exact Nat.lt_succ_self _
  · rintro C i v s₃ m₃ E' ⟨hi, tv, rfl⟩ hn' hm F₃ N₃
    exact tests C i tv s₃ m₃ E' hi hn' hm F₃ N₃
  · rintro C i v s₃ m₃ E' ⟨hi, tv, rfl⟩ hp hn' hm F₃ N₃
    exact helt C i tv s₃ m₃ E' hi hp hn' hm F₃ N₃
  · intro D ys c h tk vs F₃ N₃ hD hlen hP hG
    refine fin D ys c h tk vs F₃ N₃ hD ?_ hG
    refine Mine.ints_of' vs _ (by simp [hlen]) fun j v' n' h1 h2 => ?_
    obtain ⟨_, t, rfl⟩ := hP j v' h1
    have hj : j < n := by rw [← hlen]; exact (List.getElem?_eq_some_iff.mp h1).1
    simp only [List.getElem?_map, List.getElem?_range hj, Option.map_some, Option.some.injEq] at h2
    exact ⟨t, by rw [h2]⟩

theorem compList {l : Addr} {its : List Value} {p : Value → Bool} {G : Value → Value → Prop} (hl : s.heap.IsList l its.toArray) (hz : its.length ≤ sizeLine) (hh : A.handled = none)
    (F : Fr h₀ L s.heap m) (N : News h₀ L s.heap news)
    (tests : ∀ C (i : Nat) v s₃ m₃ E', its[i]? = some v → s₃.heap.Ns C m₃ → m₃ x = some v → Fr h₀ L s₃.heap m → News h₀ L s₃.heap news →
      wpAny (model prog w) A (forIn ifs true fun c r => if r = true then do let ok ← isTrue c (compEnvC scope cl C env) (eval c (compEnvC scope cl C env)); pure (ForInStep.yield ok) else pure (ForInStep.yield r)) (fun ok s₄ => ok = p v ∧ Keeps s₃ s₄) E' s₃)
    (helt : ∀ C (i : Nat) v s₃ m₃ E', its[i]? = some v → p v = true → s₃.heap.Ns C m₃ → m₃ x = some v → Fr h₀ L s₃.heap m → News h₀ L s₃.heap news →
      wpAny (model prog w) A (eval elt (compEnvC scope cl C env)) (fun y s₄ => G v y ∧ Keeps s₃ s₄) E' s₃)
    (fin : ∀ D ys c h tk, Fr h₀ L h m → News h₀ L h ((D, PySem.W.listOf (List.toArray ys) c) :: news) → (∀ q ∈ news, @Ne Nat q.1 D) → Paired G (its.filter p) ys → Q (.ref D) { s with heap := h, toks := tk }) :
    wpAny (model prog w) A (pyIter (.ref l)) (fun it s₂ => CompAt prog w A env scope cl x ifs elt p G Q it s₂) E s := by
  have hlt : l < s.heap.objs.size := by obtain ⟨_, e, _⟩ := hl; exact Heap.lt_size e
  refine wpAny_pyIter_list hl ?_
  refine compAt (s := { s with heap := s.heap.push _ }) (Walks.list hh s.heap.objs.size l (Nat.ne_of_lt hlt) its.toArray) (by rw [List.size_toArray]; exact hz) ⟨⟨_, Heap.get?_push_size _ rfl, rfl, rfl⟩, hl.push _⟩ (fun b hb => ?_) (Nat.ne_of_lt F.ns.lt) (Heap.get?_none_of_le (Nat.le_trans F.above (Nat.le_of_lt F.ns.lt))) (fun q hq => Nat.ne_of_lt (Heap.lt_size (N q hq).1))
    (F.push _) (fun q hq => ⟨Heap.get?_push_of_some _ (N q hq).1, (N q hq).2⟩) ?_ ?_ ?_
  · show b < (s.heap.push _).objs.size
    rw [Heap.size_push]
    rcases List.mem_cons.mp hb with rfl | hb
    · exact Nat.lt_succ_self _
    · rw [List.mem_singleton.mp hb]; exact Nat.lt_succ_of_lt hlt
  · intro C i v s₃ m₃ E' hP hn' hm F₃ N₃
    exact tests C i v s₃ m₃ E' (by simpa using hP) hn' hm F₃ N₃
  · intro C i v s₃ m₃ E' hP hp hn' hm F₃ N₃
    exact helt C i v s₃ m₃ E' (by simpa using hP) hp hn' hm F₃ N₃
  · intro D ys c h tk vs F₃ N₃ hD hlen hP hG
    refine fin D ys c h tk F₃ N₃ hD ?_
    have e : vs = its := by
      apply List.ext_getElem?
      intro j
      by_cases hj : j < vs.length
      · have := hP j vs[j] (by simp [hj])
        simp only [List.getElem?_toArray] at this
        rw [this]; simp [hj]
      · rw [List.getElem?_eq_none (by omega), List.getElem?_eq_none (by simp at hlen; omega)]
    rw [← e]; exact hG
theorem listComp {iter : Expr} {px pos : Pos} (p : Value → Bool) (G : Value → Value → Prop)
    (hclos : closureFor scope env = pure cl) (hcell : ∀ y ∈ scope.names, y.2 ≠ .cell) (hkind : scope.kind = .function)
    (hnames : ∀ y ∈ scope.names, y.2 = .local → scope.names.lookup y.1 = some .local) (hx : scope.names.lookup x = some .local)
    (h : wpAny (model prog w) A (eval iter env) (fun xv s₁ => wpAny (model prog w) A (pyIter xv) (fun it s₂ => CompAt prog w A env scope cl x ifs elt p G Q it s₂) E s₁) E s)
    (hs : ∀ x, foldedSetIterable iter env x = pure x := by intro _; rfl) :
    wpAny (model prog w) A (eval (.ListComp elt [⟨.Name x px, iter, ifs, 0⟩] scope pos) env) Q E s :=
  wpAny_ListComp_free p G hclos hcell hkind hnames hx h hs
end
end Mine
end

section
open PySem PySem.W PyProof.Rows PySem.Calls
set_option Elab.async false
set_option maxRecDepth 100000
set_option maxHeartbeats 8000000
namespace Mine
theorem plainAttrs_pat : PlainAttrs "re.Pattern" :=
  ⟨⟨"object.__getattribute__", by rw [typeLookup_type, builtinLookup_eq_fast]; kernel_rfl, by decide +kernel⟩, by rw [typeLookup_type, builtinLookup_eq_fast]; kernel_rfl⟩
theorem slot_search : Slot "re.Pattern" "search" "re.Pattern.search" :=
  .of (owner := "re.Pattern") (n := "search") (by rw [typeLookup_type, builtinLookup_eq_fast]; kernel_rfl) (by decide +kernel) (by decide +kernel) (by decide +kernel)
    (by first | exact .inl (by decide +kernel) | exact .inr (by decide +kernel)) (by rw [isSubtype_type]; kernel_rfl)
theorem type_search : typeOf (.builtin "re.Pattern.search") = pure (.type "method_descriptor") := by show builtinType _ = _; rw [builtinType_eq_fast]; kernel_rfl
theorem entry_search : entryFor table "re.Pattern.search" = some Builtin.«re.Pattern.search» := entryFor_of_tree (by kernel_rfl)
theorem args_search (a b : Value) : argsOk "re.Pattern.search" ⟨[a, b], []⟩ := by
  unfold argsOk; kernel_rfl
end Mine
end

section
open PySem PySem.W PyProof.Rows PySem.Calls
set_option Elab.async false
set_option maxRecDepth 100000
set_option maxHeartbeats 8000000
namespace Mine
theorem search_name (w : World) (S' : Setting) (t : Tok) (c : Nat) (hc : c = 97 ∨ c = 65 ∨ c = 98 ∨ c = 66) : peek (heapK w.params) S' (Builtin.«re.Pattern.search» ⟨[.ref 80, .str (S [c]) t], []⟩) = some (.done (.ret .none)) := by
  rcases hc with rfl | rfl | rfl | rfl
  · kernel_rfl
  · kernel_rfl
  · kernel_rfl
  · kernel_rfl
theorem search_value (w : World) (S' : Setting) (t : Tok) (c : Nat) (hc : 48 ≤ c ∧ c < 58) : peek (heapK w.params) S' (Builtin.«re.Pattern.search» ⟨[.ref 85, .str (S [c]) t], []⟩) = some (.done (.ret .none)) := by
  obtain ⟨h1, h2⟩ := hc
  have : c = 48 ∨ c = 49 ∨ c = 50 ∨ c = 51 ∨ c = 52 ∨ c = 53 ∨ c = 54 ∨ c = 55 ∨ c = 56 ∨ c = 57 := by omega
  rcases this with rfl | rfl | rfl | rfl | rfl | rfl | rfl | rfl | rfl | rfl
  all_goals kernel_rfl
end Mine
end

section
open PySem PySem.W PyProof.Rows PySem.Calls
set_option Elab.async false
set_option maxRecDepth 100000
set_option maxHeartbeats 8000000
namespace Mine

/-- a call's end that may have changed the part mu of the ledger -/
def LeaveM (h₀ : Heap) (L : Addr) (m : Str → Option Value) (g : Heap) (rest : List (Addr × Obj)) (R : Result → Shared → Prop) (v : Value) (s' : Shared) : Prop :=
  ∃ L' m' news', Fr g L' s'.heap m' ∧ News g L' s'.heap news' ∧ (Fr h₀ L s'.heap m → News h₀ L s'.heap (news' ++ rest) → R (.ok (.ret v)) s')

section
variable {h₀ h : Heap} {L : Addr} {m : Str → Option Value} {mu rest : List (Addr × Obj)}
theorem hide_stays (F : Fr h₀ L h m) (N : News h₀ L h (mu ++ rest)) : h₀.StaysIn (hideAll h (mu.map (·.1))) := fun b o e =>
  hideAll_get _ (F.keep b o e) fun q => by
    obtain ⟨p, hp, rfl⟩ := List.mem_map.mp q
    rw [(N p (List.mem_append_left _ hp)).2.2] at e; cases e
theorem hide_rest (N : News h₀ L h (mu ++ rest)) (hoff : ∀ q ∈ rest, ∀ p ∈ mu, q.1 ≠ p.1) : ∀ q ∈ rest, (hideAll h (mu.map (·.1))).get? q.1 = some q.2 := fun q hq =>
  hideAll_get _ (N q (List.mem_append_right _ hq)).1 fun z => by
    obtain ⟨p', hp', e⟩ := List.mem_map.mp z
    exact hoff q hq p' hp' e.symm
theorem leaveM {R : Result → Shared → Prop} {v : Value} {s' : Shared} (F : Fr h₀ L h m) (N : News h₀ L h (mu ++ rest)) (hoff : ∀ q ∈ rest, ∀ p ∈ mu, q.1 ≠ p.1)
    (x : LeaveM h₀ L m (hideAll h (mu.map (·.1))) rest R v s') : R (.ok (.ret v)) s' := by
  obtain ⟨L', m', news', F', N', k⟩ := x
  have st := hide_stays F N
  obtain ⟨oL, es, ep, hL, r⟩ := F.ns
  have nL : L ∉ mu.map (·.1) := fun q => by
    obtain ⟨p, hp, e⟩ := List.mem_map.mp q
    exact (N p (List.mem_append_left _ hp)).2.1 e
  have hLg := hideAll_get (mu.map (·.1)) hL nL
  refine k ⟨⟨oL, es, ep, F'.keep L oL hLg, r⟩, fun b o e => F'.keep b o (st b o e), F.above⟩ fun p hp => ?_
  rcases List.mem_append.mp hp with hp | hp
  · refine ⟨(N' p hp).1, fun q => ?_, ?_⟩
    · have := (N' p hp).2.2; rw [q, hLg] at this; cases this
    · cases q : h₀.get? p.1 with
      | none => rfl
      | some o => have := (N' p hp).2.2; rw [st _ _ q] at this; cases this
  · have z := N p (List.mem_append_right _ hp)
    refine ⟨F'.keep _ _ (hideAll_get _ z.1 fun q => ?_), z.2⟩
    obtain ⟨p', hp', e⟩ := List.mem_map.mp q
    exact hoff p hp p' hp' e.symm
end

section
variable {prog : Program} {w : World} {A : Around} {s : Shared} {h₀ : Heap} {L : Addr} {m : Str → Option Value} {mu rest : List (Addr × Obj)} {K : Frag} {p : Program} {loose : List Str} {mean : ExcName → Option Value} {mg mb : Str → Option Value}
  {name qual : Str} {params : Arguments} {body : List Stmt} {scope : Scope} {dV kV doc pm cdv ct oc : Value} {an od : Option Addr} {osl : Array (Option Value)} {f : Addr} {args : Args} {binds : List (Str × Value)}
  {R : Result → Shared → Prop}

theorem enterM (X : K.In h₀) (T : Top p loose mean mg mb h₀) (F : Fr h₀ L s.heap m) (N : News h₀ L s.heap (mu ++ rest)) (hoff : ∀ q ∈ rest, ∀ p ∈ mu, q.1 ≠ p.1) (hr : A.depth < recursionLimit)
    (ho : K.lookup f = some ⟨oc, od, .func (fnOf name qual params body scope dV kV doc pm an cdv ct), osl⟩) (hcd : codeIn K cdv qual = true)
    (hbind : BindsTo s (fnOf name qual params body scope dV kV doc pm an cdv ct) args binds) (hloc : ∀ y ∈ binds, scope.names.lookup y.1 = some .local)
    (h : ∀ g L' h₁, s.heap.StaysIn h₁ → g.StaysIn s.heap → h₀.StaysIn g → (∀ q ∈ rest, g.get? q.1 = some q.2) → Fr g L' h₁ (fun y => binds.reverse.lookup y) → News g L' h₁ mu → (∀ q ∈ mu ++ rest, q.1 < L') →
      wpAny (model prog w) (A.deeper (envOf qual scope L' f cdv)) (execs body (envOf qual scope L' f cdv))
        (fun fl s' => LeaveM h₀ L m g rest R (match fl with | .ret v => v | _ => .none) s') (fun _ _ => False) { s with heap := h₁, toks := s.toks + binds.length })
    (hco : scope.isCoroutine = false) (hgen : scope.isGenerator = false) (hk : scope.kind = .function) (hcell : ∀ x ∈ scope.names, x.2 ≠ .cell) :
    codeAny (model prog w) A (.call (.ref f) args) R s := by
  have Xs : K.In s.heap := X.keeps F.keep
  refine codeAny_call_def (fd := fnOf name qual params body scope dV kV doc pm an cdv ct) (body := body) (binds := binds) hr (Xs _ _ ho) rfl (T.nolimit.keeps F.keep) (codeRec_of Xs hcd) rfl hbind hcell hloc (fun h₁ hns hk₁ => ?_) hco hgen hk
  refine wpAny_mono (h (hideAll s.heap (mu.map (·.1))) s.heap.objs.size h₁ hk₁ (fun _ _ e => of_hideAll _ e) (hide_stays F N) (hide_rest N hoff) ⟨hns, fun b o e => hk₁ b o (of_hideAll _ e), Nat.le_of_eq (hideAll_size _ _)⟩
    (fun q hq => ⟨hk₁ _ _ (N q (List.mem_append_left _ hq)).1, Nat.ne_of_lt (Heap.lt_size (N q (List.mem_append_left _ hq)).1), hideAll_none _ (List.mem_map_of_mem hq)⟩) (fun q hq => Heap.lt_size (N q hq).1)) (fun fl s' hl => leaveM F N hoff hl) fun _ _ x => x.elim

/-- the same, a dict of further keywords is made on the way in -/
theorem enterMD {bindsD : Addr → List (Str × Value)} (X : K.In h₀) (T : Top p loose mean mg mb h₀) (F : Fr h₀ L s.heap m) (N : News h₀ L s.heap (mu ++ rest)) (hoff : ∀ q ∈ rest, ∀ p ∈ mu, q.1 ≠ p.1) (hr : A.depth < recursionLimit)
    (ho : K.lookup f = some ⟨oc, od, .func (fnOf name qual params body scope dV kV doc pm an cdv ct), osl⟩) (hcd : codeIn K cdv qual = true)
    (hbind : bindArgs (fnOf name qual params body scope dV kV doc pm an cdv ct) args = (alloc { cls := .type "dict", data := .dict #[] } >>= fun d => pure (bindsD d))) (hloc : ∀ d, ∀ y ∈ bindsD d, scope.names.lookup y.1 = some .local)
    (h : ∀ g L' D h₁ tk, s.heap.StaysIn h₁ → g.StaysIn s.heap → h₀.StaysIn g → (∀ q ∈ rest, g.get? q.1 = some q.2) → Fr g L' h₁ (fun y => (bindsD D).reverse.lookup y) → News g L' h₁ ((D, dictOf [] 0) :: mu) → (∀ q ∈ mu ++ rest, q.1 < D) → D < L' → h₀.objs.size ≤ D →
      wpAny (model prog w) (A.deeper (envOf qual scope L' f cdv)) (execs body (envOf qual scope L' f cdv))
        (fun fl s' => LeaveM h₀ L m g rest R (match fl with | .ret v => v | _ => .none) s') (fun _ _ => False) { s with heap := h₁, toks := tk })
    (hco : scope.isCoroutine = false) (hgen : scope.isGenerator = false) (hk : scope.kind = .function) (hcell : ∀ x ∈ scope.names, x.2 ≠ .cell) :
    codeAny (model prog w) A (.call (.ref f) args) R s := by
  have Xs : K.In s.heap := X.keeps F.keep
  refine codeAny_call_function (fd := fnOf name qual params body scope dV kV doc pm an cdv ct) (body := body) hr (Xs _ _ ho) rfl hco hgen rfl (codeRec_of Xs hcd) ?_
  rw [hbind]
  refine wpAny_bind (wpAny_alloc (wpAny_pure ?_))
  refine wpAny_newFunctionEnv hcell (hloc _) (fun h₁ hns hsb => ⟨((T.nolimit.keeps F.keep).keeps fun b o e => Heap.get?_push_of_some _ e).fresh _ hsb, codeAny_func ?_⟩) hk
  have hsz : (s.heap.push ({ cls := .type "dict", data := .dict #[] } : Obj)).objs.size = s.heap.objs.size + 1 := Heap.size_push _ _
  have up : ∀ b o, (s.heap.push ({ cls := .type "dict", data := .dict #[] } : Obj)).get? b = some o → h₁.get? b = some o := fun b o e => hsb.extBut b o (Nat.ne_of_lt (Heap.lt_size e)) (Heap.get?_push_of_some _ e)
  have hk₁ : ∀ b o, s.heap.get? b = some o → h₁.get? b = some o := fun b o e => up b o (Heap.get?_push_of_some _ e)
  refine wpAny_mono (h (hideAll s.heap (mu.map (·.1))) _ s.heap.objs.size h₁ _ hk₁ (fun _ _ e => of_hideAll _ e) (hide_stays F N) (hide_rest N hoff) ⟨hns, fun b o e => hk₁ b o (of_hideAll _ e), by rw [hideAll_size]; show s.heap.objs.size ≤ (s.heap.push _).objs.size; rw [hsz]; omega⟩
    (fun q hq => ?_) (fun q hq => Heap.lt_size (N q hq).1) (by show s.heap.objs.size < (s.heap.push _).objs.size; rw [hsz]; omega) (Nat.le_trans F.above (Nat.le_of_lt F.ns.lt))) (fun fl s' hl => leaveM F N hoff hl) fun _ _ x => x.elim
  rcases List.mem_cons.mp hq with rfl | hq
  · refine ⟨up _ _ (Heap.get?_push_size _ rfl), ?_, ?_⟩
    · show s.heap.objs.size ≠ (s.heap.push _).objs.size; rw [hsz]; omega
    · cases e : (hideAll s.heap (mu.map (·.1))).get? s.heap.objs.size with
      | none => rfl
      | some o => exact absurd (Heap.lt_size (of_hideAll _ e)) (Nat.lt_irrefl _)
  · have z := Heap.lt_size (N q (List.mem_append_left _ hq)).1
    refine ⟨hk₁ _ _ (N q (List.mem_append_left _ hq)).1, ?_, hideAll_none _ (List.mem_map_of_mem hq)⟩
    show q.1 ≠ (s.heap.push _).objs.size; rw [hsz]; exact Nat.ne_of_lt (Nat.lt_succ_of_lt z)
end
end Mine
end

section
open PySem PySem.W PyProof.Rows PySem.Calls
set_option Elab.async false
set_option maxRecDepth 100000
set_option maxHeartbeats 8000000
namespace Mine
theorem slice_rev (a : List Nat) (u : Tok) : Txt.sliceBy (S a) none none (-1, u) = S a.reverse := by
  have e : slicePicked (S a) none none (some (-1, u)) = (List.range (S a).cps.size).reverse := by
    show Builtin.Str.strSliceIndices none none (-1) (S a).length = _
    unfold Builtin.Str.strSliceIndices
    show sliceRange (((S a).length : Int) - 1) (-1) (-1) = _
    rw [krv_sliceRange, krv_range]
    rfl
  unfold Txt.sliceBy
  rw [e, if_neg (by simp)]
  unfold S
  rw [List.filterMap_reverse, krv_all]
end Mine
end

section
open PySem PySem.W PyProof.Rows PySem.Calls
set_option Elab.async false
set_option maxRecDepth 100000
set_option maxHeartbeats 8000000
namespace Mine
variable {w : World} {A : Around} {s : Shared} {E : Value → Shared → Prop} {p : Program} {loose : List Str} {mean : ExcName → Option Value} {mg mb : Str → Option Value}
local macro_rules | `(tactic| k_steps) => `(tactic| repeat' (first
  | (k_unfold; (try dsimp only))
  | ((fail_if_success (with_reducible refine gWhile ?_)); (try dsimp only); walk1)
  | fail "no step"))
local macro_rules | `(tactic| walk_at "eval Name") => `(tactic| (k_here; k_dflt (refine' ld ?k1 ?k2 ?_; (case k1 => k_asm); (case k2 => assumption); k_whole)))
/-- where x may stand in a sorted list, on the left -/
def IsLeft (ns : List Int) (x : Int) (k : Int) : Prop := 0 ≤ k ∧ k ≤ ns.length ∧ (∀ (i : Nat) (v : Int), ns[i]? = some v → (i : Int) < k → v < x) ∧ (∀ (i : Nat) (v : Int), ns[i]? = some v → k ≤ i → ¬ v < x)

theorem pair_le {ns : List Int} (hs : ns.Pairwise (· ≤ ·)) {i j : Nat} {a b : Int} (hi : ns[i]? = some a) (hj : ns[j]? = some b) (h : i ≤ j) : a ≤ b := by
  rcases Nat.lt_or_eq_of_le h with h | h
  · obtain ⟨h1, rfl⟩ := List.getElem?_eq_some_iff.mp hi
    obtain ⟨h2, rfl⟩ := List.getElem?_eq_some_iff.mp hj
    exact List.pairwise_iff_getElem.mp hs i j h1 h2 h
  · subst h; rw [hi] at hj; cases hj; exact Int.le_refl _
theorem half_in {lo hi : Int} (h : lo < hi) (_h0 : 0 ≤ lo) : lo ≤ (lo + hi).fdiv 2 ∧ (lo + hi).fdiv 2 < hi := by
  rw [Int.fdiv_eq_ediv_of_nonneg _ (by decide)]; omega
theorem getD_at {ns : List Int} {i : Nat} (h : i < ns.length) : ns[i]? = some (ns.getD i 0) := by simp [h]

theorem left_up {ns : List Int} {x lo hi : Int} (hs : ns.Pairwise (· ≤ ·)) (h : lo < hi) (h0 : 0 ≤ lo) (h2 : hi ≤ ns.length) (hx : ns.getD ((lo + hi).fdiv 2).toNat 0 < x) :
    ∀ (i : Nat) (v : Int), ns[i]? = some v → (i : Int) < (lo + hi).fdiv 2 + 1 → v < x := fun i v e l => by
  obtain ⟨a, b⟩ := half_in h h0
  have := pair_le hs e (getD_at (ns := ns) (i := ((lo + hi).fdiv 2).toNat) (by omega)) (by omega)
  omega
theorem left_down {ns : List Int} {x lo hi : Int} (hs : ns.Pairwise (· ≤ ·)) (h : lo < hi) (h0 : 0 ≤ lo) (h2 : hi ≤ ns.length) (hx : ¬ ns.getD ((lo + hi).fdiv 2).toNat 0 < x) :
    ∀ (i : Nat) (v : Int), ns[i]? = some v → (lo + hi).fdiv 2 ≤ (i : Int) → ¬ v < x := fun i v e l => by
  obtain ⟨a, b⟩ := half_in h h0
  have := pair_le hs (getD_at (ns := ns) (i := ((lo + hi).fdiv 2).toNat) (by omega)) e (by omega)
  omega

theorem bisect_left_plain {l : Addr} {vs : List Value} {ns : List Int} {x : Int} {tx : Tok} (hl : s.heap.IsList l vs.toArray) (hi : IntsAre vs ns) (hlen : ns.length ≤ 1000) (hs : ns.Pairwise (· ≤ ·))
    (r : Room A 1 8) (X : (heapK w.params).In s.heap) (T : Top p loose mean mg mb s.heap) :
    wpAny (model PySem.Challenge.rw_pe0267_01.row.prog w) A (call (.ref 56) [.ref l, .int x tx]) (Ret s fun v _ => ∃ (k : Int) (t : Tok), v = .int k t ∧ IsLeft ns x k) E s := by
  revert X; k_fill; intro X
  k_dflt (refine' enter (binds := [(Str.ofString "a", .ref l), (Str.ofString "x", .int x tx), (Str.ofString "lo", .int 0 305), (Str.ofString "hi", .none), (Str.ofString "key", .none)]) X T ?k8 ?k6 ?k7 ?k9 ?kB ?_ ?c2 ?c3 ?c4 ?c5; (case k6 => k_is); (case k7 => k_is); (case k8 => (have := r.hd; omega)); (case k9 => exact kp_binds X (fun _ => by kernel_rfl)); (case c5 => decide); (case kB => exact locs rfl); (case c2 => exact rfl); (case c3 => exact rfl); (case c4 => exact rfl); k_whole; intro L' h' F' N'; (try dsimp only))
  k_steps
  rename Fr _ _ _ _ => F1
  rename News _ _ _ _ => N1
  refine While_inv (n₀ := ((ns.length : Int) - 0).toNat) (fun n m news => news = [] ∧ m (Str.ofString "a") = some (.ref l) ∧ m (Str.ofString "x") = some (.int x tx) ∧ ∃ (lo hi : Int) (t1 t2 : Tok), m (Str.ofString "lo") = some (.int lo t1) ∧ m (Str.ofString "hi") = some (.int hi t2) ∧ n = (hi - lo).toNat ∧ 0 ≤ lo ∧ lo ≤ hi ∧ hi ≤ ns.length ∧ 
    (∀ (i : Nat) (v : Int), ns[i]? = some v → (i : Int) < lo → v < x) ∧ (∀ (i : Nat) (v : Int), ns[i]? = some v → hi ≤ i → ¬ v < x)) F1 N1 ⟨rfl, rfl, rfl, 0, ns.length, _, _, rfl, rfl, rfl, by omega, by omega, by omega, by intro i v _ h; omega, by intro i v e h; have := (List.getElem?_eq_some_iff.mp e).1; omega⟩ ?_
  rintro n m₁ news₁ h₁ tk₁ F2 N2 ⟨rfl, ea, ex, lo, hi', t1, t2, elo, ehi, en, h0, h1, h2, h3, h4⟩
  clear F1 N1
  have hhalf : lo < hi' → lo ≤ (lo + hi').fdiv 2 ∧ (lo + hi').fdiv 2 < hi' := fun q => half_in q h0
  k_steps
  · rename Fr _ _ _ _ => F3; rename News _ _ _ _ => N3; exact WhileStep.intro F3 N3 (by omega) ⟨rfl, ea, ex, _, _, _, _, rfl, ehi, rfl, by omega, by omega, by omega, left_up hs (by assumption) h0 h2 (by assumption), h4⟩
  · rename Fr _ _ _ _ => F3; rename News _ _ _ _ => N3; exact WhileStep.intro F3 N3 (by omega) ⟨rfl, ea, ex, _, _, _, _, elo, rfl, rfl, by omega, by omega, by omega, h3, left_down hs (by assumption) h0 h2 (by assumption)⟩
  · exact ⟨_, _, rfl, F2.keep, lo, t1, rfl, h0, by omega, h3, fun i v e q => h4 i v e (by omega)⟩

/-- where x may stand in a sorted list, on the right -/
def IsRight (ns : List Int) (x : Int) (k : Int) : Prop := 0 ≤ k ∧ k ≤ ns.length ∧ (∀ (i : Nat) (v : Int), ns[i]? = some v → (i : Int) < k → ¬ x < v) ∧ (∀ (i : Nat) (v : Int), ns[i]? = some v → k ≤ i → x < v)
theorem right_up {ns : List Int} {x lo hi : Int} (hs : ns.Pairwise (· ≤ ·)) (h : lo < hi) (h0 : 0 ≤ lo) (h2 : hi ≤ ns.length) (hx : ¬ x < ns.getD ((lo + hi).fdiv 2).toNat 0) :
    ∀ (i : Nat) (v : Int), ns[i]? = some v → (i : Int) < (lo + hi).fdiv 2 + 1 → ¬ x < v := fun i v e l => by
  obtain ⟨a, b⟩ := half_in h h0
  have := pair_le hs e (getD_at (ns := ns) (i := ((lo + hi).fdiv 2).toNat) (by omega)) (by omega)
  omega
theorem right_down {ns : List Int} {x lo hi : Int} (hs : ns.Pairwise (· ≤ ·)) (h : lo < hi) (h0 : 0 ≤ lo) (h2 : hi ≤ ns.length) (hx : x < ns.getD ((lo + hi).fdiv 2).toNat 0) :
    ∀ (i : Nat) (v : Int), ns[i]? = some v → (lo + hi).fdiv 2 ≤ (i : Int) → x < v := fun i v e l => by
  obtain ⟨a, b⟩ := half_in h h0
  have := pair_le hs (getD_at (ns := ns) (i := ((lo + hi).fdiv 2).toNat) (by omega)) e (by omega)
  omega

theorem bisect_right_plain {l : Addr} {vs : List Value} {ns : List Int} {x : Int} {tx : Tok} (hl : s.heap.IsList l vs.toArray) (hi : IntsAre vs ns) (hlen : ns.length ≤ 1000) (hs : ns.Pairwise (· ≤ ·))
    (r : Room A 1 8) (X : (heapK w.params).In s.heap) (T : Top p loose mean mg mb s.heap) :
    wpAny (model PySem.Challenge.rw_pe0267_01.row.prog w) A (call (.ref 47) [.ref l, .int x tx]) (Ret s fun v _ => ∃ (k : Int) (t : Tok), v = .int k t ∧ IsRight ns x k) E s := by
  revert X; k_fill; intro X
  k_dflt (refine' enter (binds := [(Str.ofString "a", .ref l), (Str.ofString "x", .int x tx), (Str.ofString "lo", .int 0 291), (Str.ofString "hi", .none), (Str.ofString "key", .none)]) X T ?k8 ?k6 ?k7 ?k9 ?kB ?_ ?c2 ?c3 ?c4 ?c5; (case k6 => k_is); (case k7 => k_is); (case k8 => (have := r.hd; omega)); (case k9 => exact kp_binds X (fun _ => by kernel_rfl)); (case c5 => decide); (case kB => exact locs rfl); (case c2 => exact rfl); (case c3 => exact rfl); (case c4 => exact rfl); k_whole; intro L' h' F' N'; (try dsimp only))
  k_steps
  rename Fr _ _ _ _ => F1
  rename News _ _ _ _ => N1
  refine While_inv (n₀ := ((ns.length : Int) - 0).toNat) (fun n m news => news = [] ∧ m (Str.ofString "a") = some (.ref l) ∧ m (Str.ofString "x") = some (.int x tx) ∧ ∃ (lo hi : Int) (t1 t2 : Tok), m (Str.ofString "lo") = some (.int lo t1) ∧ m (Str.ofString "hi") = some (.int hi t2) ∧ n = (hi - lo).toNat ∧ 0 ≤ lo ∧ lo ≤ hi ∧ hi ≤ ns.length ∧ 
    (∀ (i : Nat) (v : Int), ns[i]? = some v → (i : Int) < lo → ¬ x < v) ∧ (∀ (i : Nat) (v : Int), ns[i]? = some v → hi ≤ i → x < v)) F1 N1 ⟨rfl, rfl, rfl, 0, ns.length, _, _, rfl, rfl, rfl, by omega, by omega, by omega, by intro i v _ h; omega, by intro i v e h; have := (List.getElem?_eq_some_iff.mp e).1; omega⟩ ?_
  rintro n m₁ news₁ h₁ tk₁ F2 N2 ⟨rfl, ea, ex, lo, hi', t1, t2, elo, ehi, en, h0, h1, h2, h3, h4⟩
  clear F1 N1
  have hhalf : lo < hi' → lo ≤ (lo + hi').fdiv 2 ∧ (lo + hi').fdiv 2 < hi' := fun q => half_in q h0
  k_steps
  · rename Fr _ _ _ _ => F3; rename News _ _ _ _ => N3; exact WhileStep.intro F3 N3 (by omega) ⟨rfl, ea, ex, _, _, _, _, elo, rfl, rfl, by omega, by omega, by omega, h3, right_down hs (by assumption) h0 h2 (by assumption)⟩
  · rename Fr _ _ _ _ => F3; rename News _ _ _ _ => N3; exact WhileStep.intro F3 N3 (by omega) ⟨rfl, ea, ex, _, _, _, _, rfl, ehi, rfl, by omega, by omega, by omega, right_up hs (by assumption) h0 h2 (by assumption), h4⟩
  · exact ⟨_, _, rfl, F2.keep, lo, t1, rfl, h0, by omega, h3, fun i v e q => h4 i v e (by omega)⟩
end Mine
end

section
open PySem PySem.W PyProof.Rows PySem.Calls
set_option Elab.async false
set_option maxRecDepth 100000
set_option maxHeartbeats 8000000
namespace Mine
local macro_rules | `(tactic| k_steps) => `(tactic| repeat' (first
  | (k_unfold; (try dsimp only))
  | ((fail_if_success (with_reducible refine gWhile ?_)); (fail_if_success (with_reducible refine gFor ?_)); (fail_if_success (with_reducible refine gIter ?_)); (try dsimp only); walk1)
  | fail "no step"))
local macro_rules | `(tactic| walk_at "eval Name") => `(tactic| (k_here; k_dflt (refine' ld ?k1 ?k2 ?_; (case k1 => k_asm); (case k2 => assumption); k_whole)))
local macro_rules | `(tactic| walk_at "loadName") => `(tactic| (k_here; k_dflt (refine' ldn ?k1 ?k2 ?_; (case k1 => k_asm); (case k2 => assumption); k_whole)))
section
variable {w : World} {A : Around} {s : Shared} {E : Value → Shared → Prop} {p : Program} {loose : List Str} {mean : ExcName → Option Value} {mg mb : Str → Option Value}

local macro_rules | `(tactic| walk_at "subscriptTail Name Slice str ref") => `(tactic| ((with_reducible show wpAny _ _ (subscriptTail _ (Expr.Slice none (some _) none _) _ _) _ _ _); (with_reducible rename Fr _ _ _ _ => F'); (with_reducible rename News _ _ _ _ => N'); refine slice_strN_nn_len (s := ⟨_, _, _, _, _⟩) F' N' ?_; intro _ _ _ _ _ _))
local macro_rules | `(tactic| walk_at "ite") => `(tactic| first | with_reducible refine ite_tt ?_ | with_reducible refine ite_ff ?_ | ((with_reducible refine split_ine ?_ ?_) <;> intro _ <;> (try (exfalso; omega))) | ((with_reducible refine split_ieq ?_ ?_) <;> intro _ <;> (try (exfalso; omega))) | ((refine split_dec ?_ ?_) <;> intro _ <;> (try (exfalso; omega))))

local macro_rules | `(tactic| walk_at "call ref") => `(tactic| ((with_reducible show wpAny _ _ (call (Value.ref 63) [Value.str _ _, Value.str _ _]) _ _ _); refine use_subst (by k_asm) (by k_asm) (by k_asm) (by k_asm) (by with_reducible assumption) (by omega) (by omega) ?_; intro h' tk' t' F' N'))

def LevOk (a b : List Nat) (mx k : Int) : Prop := k = (dist lw a b : Int) ∨ (mx < (dist lw a b : Int) ∧ mx < k)
theorem dist_self (a : List Nat) : dist lw a a = 0 := by
  have := dist_prefix (f := lw) a [] []
  simpa [dist] using this
theorem take_more {a b : List Nat} {k : Nat} (h1 : k < a.length) (h2 : k < b.length) (e : a.take k = b.take k) (q : (Txt.item (S a) (k : Int) == Txt.item (S b) (k : Int)) = true) : a.take (k + 1) = b.take (k + 1) := by
  rw [item_S a k h1, item_S b k h2, S_beq] at q
  have q' : a[k] = b[k] := by simpa using q
  rw [List.take_add_one, List.take_add_one, e, List.getElem?_eq_getElem h1, List.getElem?_eq_getElem h2, q']

theorem drop_more {a b : List Nat} {q : Nat} {i : Int} (hi : i = -((q + 1 : Nat) : Int)) (h1 : q < a.length) (h2 : q < b.length) (e : a.drop (a.length - q) = b.drop (b.length - q)) (h : (Txt.item (S a) i == Txt.item (S b) i) = true) : a.drop (a.length - (q + 1)) = b.drop (b.length - (q + 1)) := by
  subst hi
  rw [item_SNeg a (q + 1) (by omega) (by omega), item_SNeg b (q + 1) (by omega) (by omega), S_beq] at h
  have h' : a[a.length - (q + 1)] = b[b.length - (q + 1)] := by simpa using h
  rw [List.drop_eq_getElem_cons (by omega), List.drop_eq_getElem_cons (i := b.length - (q + 1)) (by omega), h', show a.length - (q + 1) + 1 = a.length - q by omega, show b.length - (q + 1) + 1 = b.length - q by omega, e]

theorem row_over {a b : List Nat} {i : Nat} {mx : Int} (ha : a.length ≠ 0) (hi : i < b.length) (h : ∀ j, j < a.length → mx < (dist lw (a.take (j + 1)) (b.take (i + 1)) : Int)) : mx < (dist lw a b : Int) := by
  by_cases hm : mx < 0
  · omega
  have := dist_row (f := lw) (a := a) (b₁ := b.take (i + 1)) (b₂ := b.drop (i + 1)) (m := mx.toNat) (fun q => ha (by rw [q]; rfl)) (fun q => by have := congrArg List.length q; rw [List.length_take, List.length_nil] at this; omega) (fun j hj => by have := h j hj; omega)
  rw [List.take_append_drop] at this
  omega

theorem lev {a b : List Nat} {mx : Int} {t1 t2 t3 : Tok} (ha : a.length ≤ 40) (hb : b.length ≤ 40) (hA : Al a) (hB : Al b)
    (r : Room A 2 16) (X : (heapK w.params).In s.heap) (T : Top p loose mean mg mb s.heap) :
    wpAny (model PySem.Challenge.rw_pe0267_01.row.prog w) A (call (.ref 70) [.str (S a) t1, .str (S b) t2, .int mx t3]) (Ret s fun v _ => ∃ (k : Int) (t : Tok), v = .int k t ∧ LevOk a b mx k) E s := by
  revert X; k_fill; intro X
  obtain ⟨hdl, dp, fr, gd, un⟩ := A
  obtain rfl : hdl = none := r.hh
  have hla : (S a).length = a.length := S_len a
  have hlb : (S b).length = b.length := S_len b
  k_dflt (refine' enter (binds := [(Str.ofString "a", .str (S a) t1), (Str.ofString "b", .str (S b) t2), (Str.ofString "max_cost", .int mx t3)]) X T ?k8 ?k6 ?k7 ?k9 ?kB ?_ ?c2 ?c3 ?c4 ?c5; (case k6 => k_is); (case k7 => k_is); (case k8 => (have := r.hd; omega)); (case k9 => exact BindsTo.of_eq rfl); (case c5 => decide); (case kB => exact locs rfl); (case c2 => exact rfl); (case c3 => exact rfl); (case c4 => exact rfl); k_whole; intro L' h' F' N'; (try dsimp only))
  k_steps
  · rename (S a == S b) = true => hab
    have e : a = b := by rw [S_beq] at hab; simpa using hab
    exact ⟨_, _, rfl, F'.keep, 0, _, rfl, .inl (by rw [e, dist_self]; rfl)⟩
  rename Fr _ _ _ _ => F1
  rename News _ _ _ _ => N1
  refine cut (h₀ := s.heap) (L := L') (fun m news => news = [] ∧ m (Str.ofString "a") = some (.str (S a) t1) ∧ m (Str.ofString "b") = some (.str (S b) t2) ∧ m (Str.ofString "max_cost") = some (.int mx t3) ∧ ∃ (k : Nat) (t : Tok), m (Str.ofString "pre") = some (.int k t) ∧ k ≤ a.length ∧ k ≤ b.length ∧ a.take k = b.take k) (fun _ _ => False) ?_ ?_ (fun _ _ h => h.elim)
  · refine While_inv (n₀ := a.length) (fun n m news => news = [] ∧ m (Str.ofString "a") = some (.str (S a) t1) ∧ m (Str.ofString "b") = some (.str (S b) t2) ∧ m (Str.ofString "max_cost") = some (.int mx t3) ∧ ∃ (k : Nat) (t : Tok), m (Str.ofString "pre") = some (.int k t) ∧ n = a.length - k ∧ k ≤ a.length ∧ k ≤ b.length ∧ a.take k = b.take k) F1 N1 ⟨rfl, rfl, rfl, rfl, 0, _, rfl, rfl, Nat.zero_le _, Nat.zero_le _, rfl⟩ ?_
    rintro n m₁ news₁ h₁ tk₁ F2 N2 ⟨rfl, ea, eb, emx, k, tk, ek, en, hk1, hk2, hk⟩
    clear F1 N1
    k_steps
    · rename (Txt.item (S a) _ == Txt.item (S b) _) = true => hq
      rename Fr _ _ _ _ => F3; rename News _ _ _ _ => N3
      (try dsimp only); exact WhileStep.intro F3 N3 (n' := a.length - (k + 1)) (by omega) ⟨rfl, ea, eb, emx, k + 1, _, rfl, rfl, by omega, by omega, take_more (by omega) (by omega) hk hq⟩
    all_goals (rename Fr _ _ _ _ => F3; rename News _ _ _ _ => N3; (try dsimp only); exact Stop.next F3 N3 ⟨rfl, ea, eb, emx, k, _, ek, hk1, hk2, hk⟩)
  · rintro h tk m news F2 N2 ⟨rfl, ea, eb, emx, k, t, ek, hk1, hk2, hk⟩
    clear F1 N1
    k_steps
    rename Fr _ _ _ _ => F1
    rename News _ _ _ _ => N1
    simp only [slice_from] at F1
    generalize ha1 : a.drop k = a1 at F1
    generalize hb1 : b.drop k = b1 at F1
    have hla1 : (S a1).length = a1.length := S_len a1
    have hlb1 : (S b1).length = b1.length := S_len b1
    have hea : a = a.take k ++ a1 := by rw [← ha1, List.take_append_drop]
    have heb : b = a.take k ++ b1 := by rw [← hb1, hk, List.take_append_drop]
    have hA1 : Al a1 := ha1 ▸ hA.drop k
    have hB1 : Al b1 := hb1 ▸ hB.drop k
    have hd1 : dist lw a b = dist lw a1 b1 := by rw [hea, heb, dist_prefix]
    have hl1 : a1.length ≤ 40 := by rw [← ha1, List.length_drop]; omega
    have hl2 : b1.length ≤ 40 := by rw [← hb1, List.length_drop]; omega
    refine cut (h₀ := s.heap) (L := L') (fun m news => news = [] ∧ m (Str.ofString "max_cost") = some (.int mx t3) ∧ ∃ (ta tb tp : Tok) (q : Nat) (pv : Int), m (Str.ofString "a") = some (.str (S a1) ta) ∧ m (Str.ofString "b") = some (.str (S b1) tb) ∧ m (Str.ofString "post") = some (.int pv tp) ∧ pv = -(q : Int) ∧ q ≤ a1.length ∧ q ≤ b1.length ∧ a1.drop (a1.length - q) = b1.drop (b1.length - q)) (fun _ _ => False) ?_ ?_ (fun _ _ h => h.elim)
    · refine While_inv (n₀ := a1.length) (fun n m news => news = [] ∧ m (Str.ofString "max_cost") = some (.int mx t3) ∧ ∃ (ta tb tp : Tok) (q : Nat) (pv : Int), m (Str.ofString "a") = some (.str (S a1) ta) ∧ m (Str.ofString "b") = some (.str (S b1) tb) ∧ m (Str.ofString "post") = some (.int pv tp) ∧ pv = -(q : Int) ∧ n = a1.length - q ∧ q ≤ a1.length ∧ q ≤ b1.length ∧ a1.drop (a1.length - q) = b1.drop (b1.length - q)) F1 N1 ⟨rfl, emx, _, _, _, 0, 0, rfl, rfl, rfl, rfl, rfl, Nat.zero_le _, Nat.zero_le _, by simp⟩ ?_
      rintro n m₁ news₁ h₁ tk₁ F2 N2 ⟨rfl, emx', ta, tb, tp, q, pv, ea', eb', ep, hpv, en, hq1, hq2, hq⟩
      clear F1 N1
      have hsa : ∀ j : Nat, 0 < j → j ≤ a1.length → (Txt.slice (S a1) none (some (-(j : Int)))).length = a1.length - j := fun j h1 h2 => by rw [slice_toNeg a1 j h1 h2, S_len, List.length_take]; omega
      have hsb : ∀ j : Nat, 0 < j → j ≤ b1.length → (Txt.slice (S b1) none (some (-(j : Int)))).length = b1.length - j := fun j h1 h2 => by rw [slice_toNeg b1 j h1 h2, S_len, List.length_take]; omega
      have hsa0 : (Txt.slice (S a1) none none).length = a1.length := by rw [slice_all, S_len]
      have hsb0 : (Txt.slice (S b1) none none).length = b1.length := by rw [slice_all, S_len]
      rcases Nat.eq_zero_or_pos q with hz | hz
      · subst hz
        simp only [Int.natCast_zero, Int.neg_zero] at hpv
        subst hpv
        k_steps
        · rename (Txt.item (S a1) _ == Txt.item (S b1) _) = true => hh
          rename Fr _ _ _ _ => F3; rename News _ _ _ _ => N3
          (try dsimp only); exact WhileStep.intro F3 N3 (n' := a1.length - 1) (by omega) ⟨rfl, emx', _, _, _, 1, _, ea', eb', rfl, rfl, rfl, by omega, by omega, drop_more rfl (by omega) (by omega) hq hh⟩
        all_goals (rename Fr _ _ _ _ => F3; rename News _ _ _ _ => N3; (try dsimp only); exact Stop.next F3 N3 ⟨rfl, emx', _, _, _, 0, _, ea', eb', ep, rfl, hq1, hq2, hq⟩)
      · subst hpv
        have hsa' := hsa q hz hq1
        have hsb' := hsb q hz hq2
        k_steps
        · rename (Txt.item (S a1) _ == Txt.item (S b1) _) = true => hh
          rename Fr _ _ _ _ => F3; rename News _ _ _ _ => N3
          (try dsimp only); exact WhileStep.intro F3 N3 (n' := a1.length - (q + 1)) (by omega) ⟨rfl, emx', _, _, _, q + 1, _, ea', eb', rfl, by omega, rfl, by omega, by omega, drop_more (by omega) (by omega) (by omega) hq hh⟩
        all_goals (rename Fr _ _ _ _ => F3; rename News _ _ _ _ => N3; (try dsimp only); exact Stop.next F3 N3 ⟨rfl, emx', _, _, _, q, _, ea', eb', ep, rfl, hq1, hq2, hq⟩)
    · rintro h tk m news F2 N2 ⟨rfl, emx', ta, tb, tp, q, pv, ea', eb', ep, hpv, hq1, hq2, hq⟩
      clear F1 N1
      generalize ha2 : a1.take (a1.length - q) = a2
      generalize hb2 : b1.take (b1.length - q) = b2
      have hea2 : a1 = a2 ++ a1.drop (a1.length - q) := by rw [← ha2, List.take_append_drop]
      have heb2 : b1 = b2 ++ a1.drop (a1.length - q) := by rw [← hb2, hq, List.take_append_drop]
      have hd2 : dist lw a b = dist lw a2 b2 := by rw [hd1]; rw [hea2, heb2]; rw [dist_suffix]
      have hA2 : Al a2 := ha2 ▸ hA1.take _
      have hB2 : Al b2 := hb2 ▸ hB1.take _
      have hl3 : a2.length ≤ 40 := by rw [← ha2, List.length_take]; omega
      have hl4 : b2.length ≤ 40 := by rw [← hb2, List.length_take]; omega
      have hla2 : (S a2).length = a2.length := S_len a2
      have hlb2 : (S b2).length = b2.length := S_len b2
      have sla : Txt.slice (S a1) none (some pv) = S a2 ∨ q = 0 := by
        rcases Nat.eq_zero_or_pos q with hz | hz
        · exact .inr hz
        · left; rw [hpv, slice_toNeg a1 q hz hq1, ha2]
      have slb : Txt.slice (S b1) none (some pv) = S b2 ∨ q = 0 := by
        rcases Nat.eq_zero_or_pos q with hz | hz
        · exact .inr hz
        · left; rw [hpv, slice_toNeg b1 q hz hq2, hb2]
      dsimp only
      walk1
      refine cut (h₀ := s.heap) (L := L') (fun m news => news = [] ∧ m (Str.ofString "max_cost") = some (.int mx t3) ∧ ∃ (ta tb tp : Tok), m (Str.ofString "a") = some (.str (S a2) ta) ∧ m (Str.ofString "b") = some (.str (S b1) tb) ∧ m (Str.ofString "post") = some (.int pv tp)) (fun _ _ => False) ?_ ?_ (fun _ _ h => h.elim)
      · rcases Nat.eq_zero_or_pos q with hz | hz
        · subst hz
          simp only [Int.natCast_zero, Int.neg_zero] at hpv
          subst hpv
          k_steps
          rename Fr _ _ _ _ => F3; rename News _ _ _ _ => N3
          simp only [Nat.sub_zero, List.take_length] at ha2
          subst ha2
          rw [slice_all] at F3
          (try dsimp only); exact Stop.next F3 N3 ⟨rfl, emx', _, _, _, rfl, eb', ep⟩
        · k_steps
          rename Fr _ _ _ _ => F3; rename News _ _ _ _ => N3
          rw [sla.resolve_right (by omega)] at F3
          (try dsimp only); exact Stop.next F3 N3 ⟨rfl, emx', _, _, _, rfl, eb', ep⟩
      rintro h tk m news F2 N2 ⟨rfl, emx', ta, tb, tp, ea', eb', ep⟩
      dsimp only
      walk1
      refine cut (h₀ := s.heap) (L := L') (fun m news => news = [] ∧ m (Str.ofString "max_cost") = some (.int mx t3) ∧ ∃ (ta tb : Tok), m (Str.ofString "a") = some (.str (S a2) ta) ∧ m (Str.ofString "b") = some (.str (S b2) tb)) (fun _ _ => False) ?_ ?_ (fun _ _ h => h.elim)
      · rcases Nat.eq_zero_or_pos q with hz | hz
        · subst hz
          simp only [Int.natCast_zero, Int.neg_zero] at hpv
          subst hpv
          k_steps
          rename Fr _ _ _ _ => F3; rename News _ _ _ _ => N3
          simp only [Nat.sub_zero, List.take_length] at hb2
          subst hb2
          rw [slice_all] at F3
          (try dsimp only); exact Stop.next F3 N3 ⟨rfl, emx', _, _, ea', rfl⟩
        · k_steps
          rename Fr _ _ _ _ => F3; rename News _ _ _ _ => N3
          rw [slb.resolve_right (by omega)] at F3
          (try dsimp only); exact Stop.next F3 N3 ⟨rfl, emx', _, _, ea', rfl⟩
      rintro h tk m news F2 N2 ⟨rfl, emx', ta, tb, ea', eb'⟩
      clear hea heb hea2 heb2 sla slb hd1 hA1 hB1 hl1 hl2 hq1 hq2 hq ha2 hb2 ha1 hb1 hla1 hlb1
      dsimp only
      walk1
      refine cut (h₀ := s.heap) (L := L') (fun m news => news = [] ∧ m (Str.ofString "max_cost") = some (.int mx t3) ∧ (∃ (ta tb : Tok), m (Str.ofString "a") = some (.str (S a2) ta) ∧ m (Str.ofString "b") = some (.str (S b2) tb)) ∧ a2.length ≠ 0 ∧ b2.length ≠ 0) (Ret s fun v _ => ∃ (k : Int) (t : Tok), v = .int k t ∧ LevOk a b mx k) ?_ ?_ (fun _ _ h => h)
      · k_steps
        · exact Stop.next F2 N2 ⟨rfl, emx', ⟨_, _, ea', eb'⟩, by omega, by omega⟩
        all_goals (refine ⟨_, _, rfl, F2.keep, _, _, rfl, .inl ?_⟩; rw [hd2])
        · obtain rfl : b2 = [] := List.eq_nil_of_length_eq_zero (by omega)
          rw [dist_nil_r, S_len, S_len]; simp only [List.length_nil]; omega
        · obtain rfl : a2 = [] := List.eq_nil_of_length_eq_zero (by omega)
          rw [dist_nil, S_len, S_len]; simp only [List.length_nil]; omega
      rintro h tk m news F2 N2 ⟨rfl, emx', ⟨ta, tb, ea', eb'⟩, hn1, hn2⟩
      dsimp only
      walk1
      refine cut (h₀ := s.heap) (L := L') (fun m news => news = [] ∧ m (Str.ofString "max_cost") = some (.int mx t3) ∧ (∃ (ta tb : Tok), m (Str.ofString "a") = some (.str (S a2) ta) ∧ m (Str.ofString "b") = some (.str (S b2) tb))) (fun _ _ => False) ?_ ?_ (fun _ _ h => h.elim)
      · k_steps
        exact Stop.next F2 N2 ⟨rfl, emx', _, _, ea', eb'⟩
      rintro h tk m news F2 N2 ⟨rfl, emx', ta, tb, ea', eb'⟩
      dsimp only
      walk1
      refine cut (h₀ := s.heap) (L := L') (fun m news => news = [] ∧ m (Str.ofString "max_cost") = some (.int mx t3) ∧ (∃ (a3 b3 : List Nat) (ta tb : Tok), m (Str.ofString "a") = some (.str (S a3) ta) ∧ m (Str.ofString "b") = some (.str (S b3) tb) ∧ Al a3 ∧ Al b3 ∧ a3.length ≠ 0 ∧ a3.length ≤ b3.length ∧ b3.length ≤ 40 ∧ dist lw a b = dist lw a3 b3)) (fun _ _ => False) ?_ ?_ (fun _ _ h => h.elim)
      · k_steps
        · rename Fr _ _ _ _ => F3; (try dsimp only); exact Stop.next F3 News.nil ⟨rfl, emx', b2, a2, _, _, rfl, rfl, hB2, hA2, by omega, by omega, by omega, by rw [hd2, dist_sym]⟩
        · exact Stop.next F2 N2 ⟨rfl, emx', a2, b2, _, _, ea', eb', hA2, hB2, by omega, by omega, by omega, hd2⟩
      rintro h tk m news F2 N2 ⟨rfl, emx', a3, b3, ta, tb, ea', eb', hA3, hB3, hn3, hle, hl5, hd3⟩
      clear hd2 hA2 hB2 hl3 hl4 hn1 hn2
      have hla3 : (S a3).length = a3.length := S_len a3
      have hlb3 : (S b3).length = b3.length := S_len b3
      dsimp only
      walk1
      refine cut (h₀ := s.heap) (L := L') (fun m news => news = [] ∧ m (Str.ofString "max_cost") = some (.int mx t3) ∧ (∃ (ta tb : Tok), m (Str.ofString "a") = some (.str (S a3) ta) ∧ m (Str.ofString "b") = some (.str (S b3) tb))) (Ret s fun v _ => ∃ (k : Int) (t : Tok), v = .int k t ∧ LevOk a b mx k) ?_ ?_ (fun _ _ h => h)
      · k_steps
        · refine ⟨_, _, rfl, F2.keep, _, _, rfl, .inr ⟨?_, by omega⟩⟩
          have := dist_len (f := lw) a3 b3
          rw [hd3]; omega
        · exact Stop.next F2 N2 ⟨rfl, emx', _, _, ea', eb'⟩
      rintro h tk m news F2 N2 ⟨rfl, emx', ta, tb, ea', eb'⟩
      dsimp only
      refine with_room (Room.le (d' := 1) (u' := 8) (Room.deeper r) (by omega) (by omega)) ?_
      intro rr
      k_steps
      refine list_range (n := a3.length) rfl (by assumption) (by assumption) (by assumption) (by rw [hla3]; exact small_two _ (by omega)) (by rw [hla3]; exact size_two _) (by omega) ?_
      intro D us c' h' tk' F3 N3 _ hus1 hus2
      have hI0 : IntsAre us (drow a3 (b3.take 0)) := ints_of _ _ (by rw [drow_len, hus1]) (fun j v n hv hn => by
        obtain ⟨t, rfl⟩ := hus2 j v hv
        refine ⟨t, ?_⟩
        have hj : j < a3.length := by rw [← hus1]; exact (List.getElem?_eq_some_iff.mp hv).1
        simp only [drow, List.getElem?_map, List.getElem?_range hj, Option.map_some, Option.some.injEq] at hn
        rw [List.take_zero, dist_nil_r, List.length_take] at hn
        rw [← hn]; congr 1; omega)
      k_steps
      rename Fr _ _ _ _ => F4; rename News _ _ _ _ => N4

      refine cut (h₀ := s.heap) (L := L') (fun m news => ∃ (rv : Int) (t : Tok), m (Str.ofString "result") = some (.int rv t) ∧ rv = (dist lw a3 b3 : Int)) (Ret s fun v _ => ∃ (k : Int) (t : Tok), v = .int k t ∧ LevOk a b mx k) ?_ ?_ (fun _ _ h => h)
      · refine For_invV s.heap rfl rfl ?_
        k_steps
        rename Fr _ _ _ _ => Fx; rename News _ _ _ _ => Nx
        refine loopRange (n := b3.length) (by assumption) (small_one (by omega) (by omega) (by omega) (by omega)) (by rw [rangeSize_nat]; omega) rfl Fx Nx
          (fun i m news => ∃ (us : List Value) (c : Nat), news = [(D, W.listOf us.toArray c)] ∧ IntsAre us (drow a3 (b3.take i)) ∧ m (Str.ofString "a") = some (.str (S a3) ta) ∧ m (Str.ofString "b") = some (.str (S b3) tb) ∧ m (Str.ofString "max_cost") = some (.int mx t3) ∧ m (Str.ofString "row") = some (.ref D) ∧
            ∃ (rv : Int) (t : Tok), m (Str.ofString "result") = some (.int rv t) ∧ (i ≠ 0 → rv = (dist lw a3 (b3.take i) : Int)))
          ⟨us, c', rfl, hI0, ea', eb', emx', rfl, 0, _, rfl, fun q => absurd rfl q⟩ ?_ ?_
        · rintro i tv m₁ news₁ h₁ tk₁ I oI hi hlI ⟨us₁, c₁, rfl, hI1, ea1, eb1, emx1, erow1, rv1, tr1, eres1, hres1⟩ hoff F5 N5
          clear Fx Nx emx' ea' eb' hI0 hus1 hus2
          simp only [Int.zero_add, Int.mul_one] at F5
          change Fr s.heap L' _ _ at F5
          change News s.heap L' _ _ at N5
          have hDI : @Ne Nat D I := hoff _ (.head _)
          have hib : (i : Int) < (S b3).length := by omega
          k_steps
          rename Fr _ _ _ _ => F6; rename News _ _ _ _ => N6
          rw [item_S b3 i hi] at F6
          refine cut (h₀ := s.heap) (L := L') (fun m news => ∃ (us : List Value) (c : Nat), news = [(I, oI), (D, W.listOf us.toArray c)] ∧ IntsAre us (drow a3 (b3.take (i + 1))) ∧ m (Str.ofString "a") = some (.str (S a3) ta) ∧ m (Str.ofString "b") = some (.str (S b3) tb) ∧ m (Str.ofString "max_cost") = some (.int mx t3) ∧ m (Str.ofString "row") = some (.ref D) ∧
            ∃ (rv mn : Int) (t t' : Tok), m (Str.ofString "result") = some (.int rv t) ∧ rv = (dist lw a3 (b3.take (i + 1)) : Int) ∧ m (Str.ofString "minimum") = some (.int mn t') ∧ ∀ j, j < a3.length → mn ≤ (dist lw (a3.take (j + 1)) (b3.take (i + 1)) : Int)) (fun _ _ => False) ?_ ?_ (fun _ _ h => h.elim)
          · refine For_invV s.heap rfl rfl ?_
            k_steps
            rename Fr _ _ _ _ => Fy; rename News _ _ _ _ => Ny
            refine loopRange (n := a3.length) (by assumption) (small_one (by omega) (by omega) (by omega) (by omega)) (by rw [rangeSize_nat]; omega) rfl Fy Ny
              (fun j m news => ∃ (us : List Value) (c : Nat), news = [(I, oI), (D, W.listOf us.toArray c)] ∧ IntsAre us (mrow a3 (b3.take (i + 1)) (b3.take i) j) ∧ m (Str.ofString "a") = some (.str (S a3) ta) ∧ m (Str.ofString "b") = some (.str (S b3) tb) ∧ m (Str.ofString "max_cost") = some (.int mx t3) ∧ m (Str.ofString "row") = some (.ref D) ∧ (∃ t, m (Str.ofString "bchar") = some (.str (S [b3[i]]) t)) ∧
                ∃ (dv rv mn : Int) (td tr tm : Tok), m (Str.ofString "distance") = some (.int dv td) ∧ dv = (dist lw (a3.take j) (b3.take i) : Int) ∧ m (Str.ofString "result") = some (.int rv tr) ∧ rv = (if j = 0 then 2 * (i : Int) else (dist lw (a3.take j) (b3.take (i + 1)) : Int)) ∧
                  m (Str.ofString "minimum") = some (.int mn tm) ∧ ∀ k, k < j → mn ≤ (dist lw (a3.take (k + 1)) (b3.take (i + 1)) : Int))
              ⟨us₁, c₁, rfl, by rw [mrow_zero]; exact hI1, ea1, eb1, emx1, erow1, ⟨_, rfl⟩, _, _, _, _, _, _, rfl, by rw [List.take_zero, dist_nil, List.length_take]; omega, rfl, by rw [if_pos rfl]; omega, rfl, fun k q => absurd q (Nat.not_lt_zero _)⟩ ?_ ?_
            · rintro j tv2 m₂ news₂ h₂ tk₂ I₂ oI₂ hj hlI2 ⟨us₂, c₂, rfl, hI2, ea2, eb2, emx2, erow2, ⟨tc2, ebc2⟩, dv2, rv2, mn2, td2, tr2, tm2, edv2, hdv2, erv2, hrv2, emn2, hmn2⟩ hoff2 F7 N7
              clear Fy Ny
              simp only [Int.zero_add, Int.mul_one] at F7
              change Fr s.heap L' _ _ at F7
              change News s.heap L' _ _ at N7
              have hb1 : (S [b3[i]]).length = 1 := S_len _
              have hDI2 : @Ne Nat D I₂ := hoff2 _ (.tail _ (.head _))
              have hII2 : @Ne Nat I I₂ := hoff2 _ (.head _)
              have hja : (j : Int) < (S a3).length := by omega
              have hml := mrow_len a3 (b3.take (i + 1)) (b3.take i) j
              have hoff2' : ∀ (us : List Value) (c : Nat), ∀ p ∈ [(I, oI), (D, W.listOf us.toArray c)], p.1 ≠ I₂ := fun us c p hp => by
                rcases List.mem_cons.mp hp with rfl | hp
                · exact hII2
                · rcases List.mem_cons.mp hp with rfl | hp
                  · exact hDI2
                  · exact nomatch hp
              have hcell := cell_code hA3 hB3 hj hi hdv2 hrv2
              have hjn : ((j : Int)).toNat = j := by omega
              k_steps
              all_goals (
                rename Fr _ _ _ _ => F8; rename News _ _ _ _ => N8
                rename IntsAre (List.set _ _ _) _ => hI8)
              · rename (_ : Int) < mn2 => hlt8
                rw [hcell] at F8 N8 hI8 hlt8
                rw [hjn, mrow_set _ _ _ _ hj] at hI8
                (try dsimp only)
                exact Turn.next F8 N8 (hoff2' _ _) ⟨_, _, rfl, hI8, ea2, eb2, emx2, erow2, ⟨_, ebc2⟩, _, _, _, _, _, _, rfl, by rw [hjn, mrow_get _ _ _ _ hj], rfl, by rw [if_neg (by omega)], rfl, fun k hk => by
                  rcases Nat.lt_succ_iff_lt_or_eq.mp hk with q | q
                  · have := hmn2 k q; omega
                  · subst q; omega⟩
              · rename ¬ (_ : Int) < mn2 => hlt8
                rw [hcell] at F8 N8 hI8 hlt8
                rw [hjn, mrow_set _ _ _ _ hj] at hI8
                (try dsimp only)
                exact Turn.next F8 N8 (hoff2' _ _) ⟨_, _, rfl, hI8, ea2, eb2, emx2, erow2, ⟨_, ebc2⟩, _, _, _, _, _, _, rfl, by rw [hjn, mrow_get _ _ _ _ hj], rfl, by rw [if_neg (by omega)], emn2, fun k hk => by
                  rcases Nat.lt_succ_iff_lt_or_eq.mp hk with q | q
                  · exact hmn2 k q
                  · subst q; omega⟩
            · rintro h₂ tk₂ m₂ news₂ F7 N7 ⟨us₂, c₂, rfl, hI2, ea2, eb2, emx2, erow2, _, dv2, rv2, mn2, td2, tr2, tm2, edv2, hdv2, erv2, hrv2, emn2, hmn2⟩
              rw [mrow_full] at hI2
              rw [if_neg hn3, List.take_length] at hrv2
              exact Stop.next F7 N7 ⟨_, _, rfl, hI2, ea2, eb2, emx2, erow2, _, _, _, _, erv2, hrv2, emn2, hmn2⟩
          · rintro h₂ tk₂ m₂ news₂ F7 N7 ⟨us₂, c₂, rfl, hI2, ea2, eb2, emx2, erow2, rv2, mn2, tr2, tm2, erv2, hrv2, emn2, hmn2⟩
            clear F6 N6
            dsimp only
            k_steps
            · refine ⟨_, _, rfl, F7.keep, _, _, rfl, .inr ⟨?_, by omega⟩⟩
              rw [hd3]
              exact row_over (by omega) hi (fun j hj => by have := hmn2 j hj; omega)
            · exact Turn.next F7 N7 (fun p hp => by rcases List.mem_cons.mp hp with rfl | hp; exact hDI; exact nomatch hp) ⟨_, _, rfl, hI2, ea2, eb2, emx2, erow2, _, _, erv2, fun _ => hrv2⟩
        · rintro h₂ tk₂ m₂ news₂ F7 N7 ⟨us₂, c₂, rfl, hI2, ea2, eb2, emx2, erow2, rv2, tr2, erv2, hrv2⟩
          exact Stop.next F7 N7 ⟨_, _, erv2, by rw [hrv2 (by omega), List.take_length]⟩
      · rintro h₂ tk₂ m₂ news₂ F7 N7 ⟨rv2, tr2, erv2, hrv2⟩
        clear F4 N4
        dsimp only
        k_steps
        exact ⟨_, _, rfl, F7.keep, _, _, rfl, .inl (by rw [hrv2, hd3])⟩
end
section
variable {w : World} {A : Around} {s : Shared} {E : Value → Shared → Prop} {p : Program} {loose : List Str} {mean : ExcName → Option Value} {mg mb : Str → Option Value}

theorem use_lev {a b : List Nat} {mx : Int} {t1 t2 t3 : Tok} {h₀ : Heap} {L : Addr} {m : Str → Option Value} {news : List (Addr × Obj)} {Q : Value → Shared → Prop} (F : Fr h₀ L s.heap m) (N : News h₀ L s.heap news) (X : (heapK w.params).In h₀) (T : Top p loose mean mg mb h₀) (r : Room A 2 16)
    (ha : a.length ≤ 40) (hb : b.length ≤ 40) (hA : Al a) (hB : Al b) (h : ∀ h' tk t k, LevOk a b mx k → Fr h₀ L h' m → News h₀ L h' news → Q (.int k t) { s with heap := h', toks := tk }) :
    wpAny (model PySem.Challenge.rw_pe0267_01.row.prog w) A (call (.ref 70) [.str (S a) t1, .str (S b) t2, .int mx t3]) Q E s :=
  wpAny_mono (lev ha hb hA hB r (X.keeps F.keep) (T.keeps F.keep)) (fun v s' ⟨h', tk, e, k, c, t, ev, ho⟩ => by subst e; subst ev; exact h h' tk t c ho (frGrow F k) (newsGrow N k)) fun _ _ e => e
local macro_rules | `(tactic| walk_at "call ref") => `(tactic| ((with_reducible show wpAny _ _ (call (Value.ref 70) [Value.str _ _, Value.str _ _, Value.int _ _]) _ _ _); refine use_lev (by k_asm) (by k_asm) (by k_asm) (by k_asm) (by with_reducible assumption) (by omega) (by omega) (by assumption) (by assumption) ?_; intro h' tk' t' k' ho' F' N'))

/-- does the part stand so near to the word -/
def near (a b : List Nat) (over : Int) : Bool := decide ((dist lw a b : Int) ≤ 2 * ((b.length : Int) - a.length) + over)
theorem levOk_le {a b : List Nat} {mx k : Int} (h : LevOk a b mx k) : k ≤ mx ↔ (dist lw a b : Int) ≤ mx := by
  rcases h with h | ⟨h1, h2⟩
  · rw [h]
  · omega

theorem within {a b : List Nat} {over : Int} {t1 t2 t3 : Tok} (ha : a.length ≤ 40) (hb : b.length ≤ 40) (hA : Al a) (hB : Al b)
    (r : Room A 3 20) (X : (heapK w.params).In s.heap) (T : Top p loose mean mg mb s.heap) :
    wpAny (model PySem.Challenge.rw_pe0267_01.row.prog w) A (call (.ref 251) [.str (S a) t1, .str (S b) t2, .int over t3]) (Ret s fun v _ => ∃ t, v = .int (if near a b over then 1 else 0) t) E s := by
  revert X; k_fill; intro X
  obtain ⟨hdl, dp, fr, gd, un⟩ := A
  obtain rfl : hdl = none := r.hh
  have hla : (S a).length = a.length := S_len a
  have hlb : (S b).length = b.length := S_len b
  k_dflt (refine' enter (binds := [(Str.ofString "word", .str (S a) t1), (Str.ofString "part", .str (S b) t2), (Str.ofString "over", .int over t3)]) X T ?k8 ?k6 ?k7 ?k9 ?kB ?_ ?c2 ?c3 ?c4 ?c5; (case k6 => k_is); (case k7 => k_is); (case k8 => (have := r.hd; omega)); (case k9 => exact BindsTo.of_eq rfl); (case c5 => decide); (case kB => exact locs rfl); (case c2 => exact rfl); (case c3 => exact rfl); (case c4 => exact rfl); k_whole; intro L' h' F' N'; (try dsimp only))
  refine with_room (Room.le (d' := 2) (u' := 16) (Room.deeper r) (by omega) (by omega)) ?_
  intro rr
  k_steps
  all_goals (
    rename Fr _ _ _ _ => F3
    rename LevOk _ _ _ _ => ho
    have hle := levOk_le ho
    rw [hla, hlb] at hle
    refine ret_int F3.keep ?_)
  · rw [if_pos]; unfold near; exact decide_eq_true (by rw [← hle]; rw [hla, hlb] at *; assumption)
  · rw [if_neg]; unfold near; exact fun q => absurd (of_decide_eq_true q) (by rw [← hle]; rw [hla, hlb] at *; assumption)
end
end Mine
end

section
open PySem PySem.W PyProof.Rows PySem.Calls
set_option Elab.async false
set_option maxRecDepth 100000
set_option maxHeartbeats 8000000
namespace Mine
local macro_rules | `(tactic| k_steps) => `(tactic| repeat' (first
  | (k_unfold; (try dsimp only))
  | ((fail_if_success (with_reducible refine gWhile ?_)); (fail_if_success (with_reducible refine gFor ?_)); (fail_if_success (with_reducible refine gIter ?_)); (fail_if_success (with_reducible refine gComp ?_)); (try dsimp only); walk1)
  | fail "no step"))
section
variable {w : World} {A : Around} {s : Shared} {E : Value → Shared → Prop} {p : Program} {loose : List Str} {mean : ExcName → Option Value} {mg mb : Str → Option Value}
local macro_rules | `(tactic| walk_at "eval Name") => `(tactic| (k_here; (with_reducible show wpAny _ _ (eval (Expr.Name _ _) (compEnvC _ _ _ _)) _ _ _); k_dflt (first
  | (refine' cname_L ?N ?v ?_ ?a ?b; (case a => rfl); (case b => rfl); (case N => assumption); (case v => assumption); k_whole)
  | (refine' cname_C ?c ?m ?d ?_ ?a ?b; (case a => rfl); (case b => rfl); (case c => rfl); (case m => assumption); (case d => assumption); k_whole))))

/-- a new list of ints -/
def IntList (h₀ : Heap) (ns : List Int) (r : Value) (h : Heap) : Prop := ∃ D us c, r = .ref D ∧ h.get? D = some (W.listOf (List.toArray us) c) ∧ h₀.get? D = none ∧ IntsAre us ns

def firstOf (ns : List Int) (over : Int) (least : Nat) : List Int := (((List.range (ns.length - least)).map fun (i : Nat) => (least : Int) + (i : Int)).filter fun j => decide (ns.getD j.toNat 0 ≤ over)).take 1

def okAt (ns : List Int) (over : Int) : Value → Bool
  | .int j _ => decide (ns.getD j.toNat 0 ≤ over)
  | _ => false

theorem ints_filter {p : Value → Bool} {pz : Int → Bool} (hp : ∀ j t, p (.int j t) = pz j) : ∀ {zs : List Value} {ns : List Int}, IntsAre zs ns → IntsAre (zs.filter p) (ns.filter pz)
  | _, _, .nil => .nil
  | _, _, .cons n t h => by
    rw [List.filter_cons, List.filter_cons, hp]
    split
    · exact .cons n t (ints_filter hp h)
    · exact ints_filter hp h
theorem paired_same : ∀ {zs ys : List Value} {ns : List Int}, IntsAre zs ns → Paired (fun v y => ∃ j t t', v = Value.int j t ∧ y = Value.int j t') zs ys → IntsAre ys ns
  | _, _, _, .nil, h => by cases h; exact .nil
  | _, _, _, .cons n t h, g => by
    cases g with
    | cons e r =>
      obtain ⟨j, t1, t2, e1, rfl⟩ := e
      cases e1
      exact .cons _ _ (paired_same h r)

theorem first {l : Addr} {vs : List Value} {ns : List Int} {over : Int} {least : Nat} {t1 t2 : Tok} (hl : s.heap.IsList l vs.toArray) (hi : IntsAre vs ns) (hlen : ns.length ≤ 100) (hle2 : least ≤ 10)
    (r : Room A 3 20) (X : (heapK w.params).In s.heap) (T : Top p loose mean mg mb s.heap) :
    wpAny (model PySem.Challenge.rw_pe0267_01.row.prog w) A (call (.ref 270) [.ref l, .int over t1, .int least t2]) (Ret s (IntList s.heap (firstOf ns over least))) E s := by
  revert X; k_fill; intro X
  obtain ⟨hdl, dp, fr, gd, un⟩ := A
  obtain rfl : hdl = none := r.hh
  k_dflt (refine' enterC (news := []) (g := s.heap) (binds := [(Str.ofString "line", .ref l), (Str.ofString "over", .int over t1), (Str.ofString "least", .int least t2)]) (fun _ _ e => e) (Nat.le_refl _) (fun _ q => nomatch q) X T ?k8 ?k6 ?k7 ?k9 ?kB ?kD ?_ ?c2 ?c3 ?c4; (case k6 => k_is); (case k7 => k_is); (case k8 => (have := r.hd; omega)); (case k9 => exact BindsTo.of_eq rfl); (case kB => exact rfl); (case kD => decide +kernel); (case c2 => exact rfl); (case c3 => exact rfl); (case c4 => exact rfl); k_whole; intro L' h' tk' cells F' N' Y' _; (have hY := CellsAre.two Y'; obtain ⟨oO, oL, hE', dO, dL⟩ := hY; subst hE'; clear Y'); (change oO.data = .cell (some (.int over t1)) at dO); (change oL.data = .cell (some (.ref l)) at dL); (try simp only [List.cons_append, List.nil_append] at N'); (try dsimp only))
  k_steps
  k_dflt (refine listComp (okAt ns over) (fun v y => ∃ j t t', v = .int j t ∧ y = .int j t') rfl (by decide) rfl (by decide) rfl ?_)
  k_steps
  rename Fr _ _ _ _ => F1; rename News _ _ _ _ => N1
  rename IsRange _ _ _ _ _ _ _ _ => hr1
  refine compRange (n := ns.length - least) (a := (least : Int)) (b := (ns.length : Int)) hr1 (small_one (by omega) (by omega) (by omega) (by omega)) (by rw [rangeSize_nat]; omega) (by size_fits) rfl F1 N1 ?_ ?_ ?_
  · intro C i tv s₃ m₃ E' hi' hn hm F₃ N₃
    have gO := N₃.get (.head _)
    have gL := N₃.get (.tail _ (.head _))
    have hl3 : s₃.heap.IsList l vs.toArray := stays_list F₃.keep hl
    refine wpAny_tests_one ?_
    k_steps
    all_goals exact keeps_refl
  · intro C i tv s₃ m₃ E' hi' hp hn hm F₃ N₃
    k_steps
    all_goals first | exact keeps_refl | exact 0
  · intro D ys c h tk zs F₃ N₃ hD hzs hG
    have hI := paired_same (ints_filter (pz := fun j => decide (ns.getD j.toNat 0 ≤ over)) (fun _ _ => rfl) hzs) hG
    have hIl := hI.length
    have hfl : (List.filter (fun j => decide (ns.getD j.toNat 0 ≤ over)) (List.map (fun (i : Nat) => (least : Int) + (i : Int)) (List.range (ns.length - least)))).length ≤ 100 := Nat.le_trans (List.length_filter_le _ _) (by simp; omega)
    dsimp only
    k_steps
    k_dflt (refine kmk_slice_ints (s := ⟨_, _, _, _, _⟩) F₃ N₃ (News.isList N₃ (.head _)) IsPart.none (IsPart.int _ _) hI (kmk_upto hI (by decide)) rfl ?_ (by with_unfolding_all rfl) (by intro _; with_unfolding_all rfl) (by rw [List.size_toArray, hIl]; exact Nat.le_trans hfl (by size_fits)))
    intro D' ws h2 F4 N4 _ hI4 _ _
    exact ⟨_, _, rfl, F4.keep, D', ws, 0, rfl, N4.get (.head _), N4.fresh (.head _), hI4⟩
end
section
variable {w : World} {A : Around} {s : Shared} {E : Value → Shared → Prop} {p : Program} {loose : List Str} {mean : ExcName → Option Value} {mg mb : Str → Option Value}
local macro_rules | `(tactic| walk_at "eval Name") => `(tactic| (k_here; k_dflt (refine' ld ?k1 ?k2 ?_; (case k1 => k_asm); (case k2 => assumption); k_whole)))
local macro_rules | `(tactic| walk_at "loadName") => `(tactic| (k_here; k_dflt (refine' ldn ?k1 ?k2 ?_; (case k1 => k_asm); (case k2 => assumption); k_whole)))

section
variable {prog : Program} {h₀ : Heap} {L : Addr} {m : Str → Option Value} {news : List (Addr × Obj)} {Q : Value → Shared → Prop}
theorem min3 {a b c : Int} {t u x : Tok} (hh : A.handled = none) (F : Fr h₀ L s.heap m) (N : News h₀ L s.heap news)
    (h : ∀ h' tk t', Fr h₀ L h' m → News h₀ L h' news → Q (.int (min (min a b) c) t') { s with heap := h', toks := tk }) :
    wpAny (model prog w) A (call (.builtin "min") [.int a t, .int b u, .int c x]) Q E s := by
  refine min_three_ints hh fun h' tk hk => ?_
  have key := fun t' => h h' tk t' (frGrow F hk) (newsGrow N hk)
  by_cases hba : b < a
  · by_cases hc : c < b
    · rw [if_pos hba, if_pos hc]; have := key x; rwa [show min (min a b) c = c by omega] at this
    · rw [if_pos hba, if_neg hc]; have := key u; rwa [show min (min a b) c = b by omega] at this
  · by_cases hc : c < a
    · rw [if_neg hba, if_pos hc]; have := key x; rwa [show min (min a b) c = c by omega] at this
    · rw [if_neg hba, if_neg hc]; have := key t; rwa [show min (min a b) c = a by omega] at this
theorem item_last {value slice : Expr} {l : Addr} {vs : List Value} {x : Value} {u : Tok} (hl : s.heap.IsList l vs.toArray) (hx : vs.getLast? = some x) (h : Q x s)
    (hs : subscripted slice false (.ref l) (.int (-1) u) = operate [.ref l, .int (-1) u] (getItem (.ref l) (.int (-1) u)) := by with_unfolding_all rfl) :
    wpAny (model prog w) A (subscriptTail value slice (.ref l) (.int (-1) u)) Q E s := by
  have hne : vs ≠ [] := by rintro rfl; simp at hx
  have hpos : 0 < vs.length := List.length_pos_iff.mpr hne
  refine tail_any hl.typeIs slot_list_getitem.lookup (wpAny_getItem_list_neg hl (by decide) (by rw [List.size_toArray]; omega) (by decide) ?_ h) hs
  rw [List.getLast?_eq_getElem?] at hx
  rw [List.size_toArray, show (-1 + (vs.length : Int)).toNat = vs.length - 1 by omega]
  simpa using hx
end
local macro_rules | `(tactic| walk_at "call builtin:min") => `(tactic| ((with_reducible show wpAny _ _ (call (Value.builtin _) [Value.int _ _, Value.int _ _, Value.int _ _]) _ _ _); (refine min3 rfl (by k_asm) (by k_asm) ?_); intro h' tk' t' F' N'))
local macro_rules | `(tactic| walk_at "subscriptTail") => `(tactic| (k_here; (with_reducible show wpAny _ _ (subscriptTail _ _ (Value.ref _) (Value.int _ _)) _ _ _); k_dflt (refine' item_last ?k1 ?k2 ?_ ?k3; (case k1 => exact News.isList (by k_asm) (by k_mem)); (case k2 => with_reducible assumption); (case k3 => with_unfolding_all rfl); k_whole)))

local macro_rules | `(tactic| walk_at "subscriptTail") => `(tactic| (k_here; (with_reducible show wpAny _ _ (subscriptTail _ _ (Value.ref _) (Value.int _ _)) _ _ _); k_dflt (refine' ksa_sub ?k1 ?k2 ?k3 ?k4 ?k5 ?k6 ?_ ?k7; (case k1 => k_asm); (case k2 => k_mem); (case k3 => with_reducible assumption); (case k4 => omega); (case k5 => omega); (case k6 => omega); (case k7 => with_unfolding_all rfl); k_whole); intro _))

/-- the rows that stand in the ledger, the newest first -/
def RowsAre (a t : List Nat) (ents : List (Addr × Obj)) : Prop := ∀ (k : Nat) (q : Addr × Obj), ents.reverse[k]? = some q → ∃ us c, q.2 = W.listOf (List.toArray us) c ∧ IntsAre us (erow a t k)
def refsOf' (ents : List (Addr × Obj)) : List Value := ents.reverse.map fun q => .ref q.1

/-- the law's table as a value -/
def TableOf (a t : List Nat) (h₀ : Heap) (r : Value) (h : Heap) : Prop := ∃ R c ents, r = .ref R ∧ h.get? R = some (W.listOf (refsOf' ents).toArray c) ∧ h₀.get? R = none ∧ ents.length = a.length + 1 ∧ (∀ q ∈ ents, h.get? q.1 = some q.2 ∧ h₀.get? q.1 = none) ∧ RowsAre a t ents

theorem rows_one {a b : List Nat} {D : Addr} {us : List Value} {c : Nat} (h : IntsAre us (erow a b 0)) : RowsAre a b [(D, W.listOf us.toArray c)] := by
  intro k q hq
  cases k with
  | zero => simp at hq; subst hq; exact ⟨us, c, rfl, h⟩
  | succ k => simp at hq
theorem rows_last {a b : List Nat} {D : Addr} {o : Obj} {older : List (Addr × Obj)} {i : Nat} (hl : ((D, o) :: older).length = i + 1) (h : RowsAre a b ((D, o) :: older)) : ∃ us c, o = W.listOf (List.toArray us) c ∧ IntsAre us (erow a b i) := by
  refine h i (D, o) ?_
  rw [List.reverse_cons, List.getElem?_append_right (by simp at hl ⊢; omega)]
  simp at hl
  simp [hl]
theorem all_ascii {l : List Nat} (h : Al l) : (S l).cps.all (· < 128) = true := by
  simp only [S, List.all_toArray, List.all_eq_true, decide_eq_true_eq]
  intro c hc
  rcases h c hc with q | q | q | q <;> omega

theorem allLt_ne {d : Nat} : ∀ {l : List (Addr × Obj)}, AllLt d l → ∀ q ∈ l, @Ne Nat q.1 d
  | [], _, _, h => nomatch h
  | _ :: _, x, q, h => by
    rcases List.mem_cons.mp h with rfl | h
    · exact Nat.ne_of_lt x.1
    · exact allLt_ne x.2 q h
theorem ints_last : ∀ {us : List Value} {ns : List Int} {v : Int}, IntsAre us ns → ns.getLast? = some v → ∃ t, us.getLast? = some (.int v t)
  | _, _, v, .nil, h => by simp at h
  | _, _, v, .cons n t (vs := vs) (ns := ns) k, h => by
    cases k with
    | nil => simp at h; subst h; exact ⟨t, rfl⟩
    | cons n' t' k' =>
      rw [List.getLast?_cons_cons] at h
      obtain ⟨t2, e⟩ := ints_last (.cons n' t' k') h
      exact ⟨t2, by rw [List.getLast?_cons_cons]; exact e⟩

theorem take_getD {l : List Int} {n j : Nat} (h1 : j < l.length) (h2 : j < n) : (l.take n).getD j 0 = l.getD j 0 := by
  simp [List.getD, List.getElem?_take, h2]
theorem rows_more {a b : List Nat} {D D' : Addr} {o : Obj} {us : List Value} {c : Nat} {older : List (Addr × Obj)} {i : Nat} (hl : ((D, o) :: older).length = i + 1) (h : RowsAre a b ((D, o) :: older)) (hI : IntsAre us (erow a b (i + 1))) :
    RowsAre a b ((D', W.listOf us.toArray c) :: (D, o) :: older) := by
  intro k q hq
  rw [List.reverse_cons] at hq
  by_cases hk : k < ((D, o) :: older).reverse.length
  · rw [List.getElem?_append_left hk] at hq
    exact h k q hq
  · rw [List.getElem?_append_right (by omega)] at hq
    have hk2 : k - ((D, o) :: older).reverse.length = 0 := by
      rcases Nat.eq_zero_or_pos (k - ((D, o) :: older).reverse.length) with z | z
      · exact z
      · rw [List.getElem?_eq_none (by simp; simp at z; omega)] at hq; cases hq
    rw [hk2] at hq
    simp at hq
    subst hq
    have : k = i + 1 := by rw [List.length_reverse, hl] at hk hk2; omega
    subst this
    exact ⟨us, c, rfl, hI⟩

theorem excess {a b : List Nat} {t1 t2 : Tok} (ha : a.length ≤ 40) (hb : b.length ≤ 40) (hA : Al a) (hB : Al b)
    (r : Room A 2 16) (X : (heapK w.params).In s.heap) (T : Top p loose mean mg mb s.heap) :
    wpAny (model PySem.Challenge.rw_pe0267_01.row.prog w) A (call (.ref 265) [.str (S a) t1, .str (S b) t2]) (Ret s (TableOf a b s.heap)) E s := by
  revert X; k_fill; intro X
  obtain ⟨hdl, dp, fr, gd, un⟩ := A
  obtain rfl : hdl = none := r.hh
  have hla : (S a).length = a.length := S_len a
  have hlb : (S b).length = b.length := S_len b
  k_dflt (refine' enter (binds := [(Str.ofString "word", .str (S a) t1), (Str.ofString "text", .str (S b) t2)]) X T ?k8 ?k6 ?k7 ?k9 ?kB ?_ ?c2 ?c3 ?c4 ?c5; (case k6 => k_is); (case k7 => k_is); (case k8 => (have := r.hd; omega)); (case k9 => exact BindsTo.of_eq rfl); (case c5 => decide); (case kB => exact locs rfl); (case c2 => exact rfl); (case c3 => exact rfl); (case c4 => exact rfl); k_whole; intro L' h' F' N'; (try dsimp only))
  k_steps
  rename_i tk0 l0 _ _ D0 _ i1 n1 _ _ _ _ l1a R _ l1b _ F1 N1
  have hnn : ((S b).length + 1 : Int).toNat = b.length + 1 := by omega
  rw [hnn] at i1 N1
  have hI0 : IntsAre (List.replicate (b.length + 1) [Value.int 0 tk0]).flatten (erow a b 0) := by rw [erow_zero]; simpa using i1
  generalize hus0 : (List.replicate (b.length + 1) [Value.int 0 tk0]).flatten = us0 at N1 hI0
  clear i1
  refine cut (h₀ := s.heap) (L := L') (fun m news => m (Str.ofString "rows") = some (.ref R) ∧ ∃ c ents, news = (R, W.listOf (refsOf' ents).toArray c) :: ents ∧ ents.length = a.length + 1 ∧ RowsAre a b ents) (fun _ _ => False) ?_ ?_ (fun _ _ h => h.elim)
  · refine For_invV s.heap rfl rfl ?_
    k_steps
    refine loopStr rfl F1 (news := [(R, W.listOf #[Value.ref D0] 0), (D0, W.listOf us0.toArray 0)]) (fun q hq => N1 q (by rcases List.mem_cons.mp hq with rfl | hq; exact .head _; rcases List.mem_cons.mp hq with rfl | hq; exact .tail _ (.head _); exact nomatch hq))
      (fun i m news => m (Str.ofString "text") = some (.str (S b) t2) ∧ m (Str.ofString "rows") = some (.ref R) ∧ ∃ c ents, news = (R, W.listOf (refsOf' ents).toArray c) :: ents ∧ ents.length = i + 1 ∧ RowsAre a b ents ∧ (∀ q ∈ ents, @Ne Nat q.1 R))
      ⟨rfl, rfl, 0, [(D0, W.listOf us0.toArray 0)], rfl, rfl, rows_one hI0, fun q hq => by rcases List.mem_cons.mp hq with rfl | hq; exact Nat.ne_of_lt l1b.1; exact nomatch hq⟩ ?_ ?_ (all_ascii hA)
    · rintro i c tv m₁ news₁ h₁ tk₁ I oI hc hlI ⟨etext, erows, c1, ents, rfl, hents, hrows, hneR⟩ hoff F2 N2
      change Fr s.heap L' _ _ at F2
      change News s.heap L' _ _ at N2
      have hi : i < a.length := by have := (Array.getElem?_eq_some_iff.mp hc).1; simpa [S] using this
      have hci : c = a[i] := by have := hc; simp [S, hi] at this; exact this.symm
      change Fr s.heap L' _ (fun y => if y = Str.ofString "sign" then some (Value.str (S [c]) tv) else m₁ y) at F2
      cases ents with
      | nil => simp at hents
      | cons q older =>
        obtain ⟨lastA, lastO⟩ := q
        obtain ⟨us, cl, rfl, hI⟩ := rows_last hents hrows
        have hlast : (refsOf' ((lastA, W.listOf us.toArray cl) :: older)).getLast? = some (.ref lastA) := by simp [refsOf']
        have hIR : @Ne Nat R I := hoff _ (.head _)
        have hIl : @Ne Nat lastA I := hoff _ (.tail _ (.head _))
        have hIo : ∀ q ∈ older, @Ne Nat q.1 I := fun q hq => hoff q (.tail _ (.tail _ hq))
        have hRl : @Ne Nat lastA R := hneR _ (.head _)
        have hRo : ∀ q ∈ older, @Ne Nat q.1 R := fun q hq => hneR q (.tail _ hq)
        have hrsz : (refsOf' ((lastA, W.listOf us.toArray cl) :: older)).toArray.size ≤ sizeLine := by
          rw [List.size_toArray]; unfold refsOf'; rw [List.length_map, List.length_reverse, hents]; exact Nat.le_trans (show i + 1 ≤ 41 by omega) (by size_fits)
        generalize hrs : refsOf' ((lastA, W.listOf us.toArray cl) :: older) = rs at N2 hlast hrsz
        have hel := erow_len a b i
        have hg0 := erow_get a b i 0 (Nat.zero_le _)
        generalize herow : erow a b i = ER at hI hel hg0
        k_steps
        rename_i tq Ln _ l1 _ F3 N3
        have hLI : @Ne Nat I Ln := Nat.ne_of_lt l1.1
        have hLR : @Ne Nat R Ln := Nat.ne_of_lt l1.2.1
        have hLl : @Ne Nat lastA Ln := Nat.ne_of_lt l1.2.2.1
        have hLo : ∀ q ∈ older, @Ne Nat q.1 Ln := allLt_ne l1.2.2.2
        rw [show ER.getD (Int.toNat 0) 0 + 4 = ecell a b (i + 1) 0 by rw [show Int.toNat 0 = 0 from rfl, hg0, ecell_col _ _ _ hi]] at N3
        refine cut (h₀ := s.heap) (L := L') (fun m news => m (Str.ofString "text") = some (.str (S b) t2) ∧ m (Str.ofString "rows") = some (.ref R) ∧ m (Str.ofString "line") = some (.ref Ln) ∧ ∃ (us2 : List Value) (c2 : Nat), news = (Ln, W.listOf us2.toArray c2) :: (I, oI) :: (R, W.listOf rs.toArray c1) :: (lastA, W.listOf us.toArray cl) :: older ∧ IntsAre us2 (erow a b (i + 1))) (fun _ _ => False) ?_ ?_ (fun _ _ h => h.elim)
        · refine For_invV s.heap rfl rfl ?_
          k_steps
          rename Fr _ _ _ _ => F4; rename News _ _ _ _ => N4
          refine loopRange (n := b.length) (by assumption) (small_one (by omega) (by omega) (by omega) (by omega)) (by rw [rangeSize_nat]; omega) rfl F4 N4
            (fun j m news => m (Str.ofString "text") = some (.str (S b) t2) ∧ m (Str.ofString "rows") = some (.ref R) ∧ m (Str.ofString "line") = some (.ref Ln) ∧ m (Str.ofString "sign") = some (.str (S [c]) tv) ∧ ∃ (us2 : List Value) (c2 : Nat), news = (Ln, W.listOf us2.toArray c2) :: (I, oI) :: (R, W.listOf rs.toArray c1) :: (lastA, W.listOf us.toArray cl) :: older ∧ IntsAre us2 ((erow a b (i + 1)).take (j + 1)))
            ⟨etext, erows, rfl, rfl, _, _, rfl, by rw [show (erow a b (i + 1)).take (0 + 1) = [ecell a b (i + 1) 0] from by rw [List.take_add_one, erow_at _ _ _ _ (Nat.zero_le _)]; rfl]; exact .cons _ _ .nil⟩ ?_ ?_
          · rintro j tv2 m₂ news₂ h₂ tk₂ I₂ oI₂ hj hlI2 ⟨etext2, erows2, eline2, esign2, us2, c2, rfl, hI2⟩ hoff2 F5 N5
            simp only [Int.zero_add, Int.mul_one] at F5
            change Fr s.heap L' _ _ at F5
            change News s.heap L' _ _ at N5
            clear F4 N4
            have hI2L : @Ne Nat Ln I₂ := hoff2 _ (.head _)
            have hI2I : @Ne Nat I I₂ := hoff2 _ (.tail _ (.head _))
            have hI2R : @Ne Nat R I₂ := hoff2 _ (.tail _ (.tail _ (.head _)))
            have hI2l : @Ne Nat lastA I₂ := hoff2 _ (.tail _ (.tail _ (.tail _ (.head _))))
            have hI2o : ∀ q ∈ older, @Ne Nat q.1 I₂ := fun q hq => hoff2 q (.tail _ (.tail _ (.tail _ (.tail _ hq))))
            have hjb : (j : Int) < (S b).length := by omega
            have hc1 : (S [c]).length = 1 := S_len _
            have hcA : c = 97 ∨ c = 65 ∨ c = 98 ∨ c = 66 := hci ▸ hA _ (List.getElem_mem hi)
            have hE2 : ((erow a b (i + 1)).take (j + 1)).length = j + 1 := by rw [List.length_take, erow_len]; omega
            obtain ⟨tl, hlast2⟩ : ∃ tl, us2.getLast? = some (.int (ecell a b (i + 1) j) tl) := ints_last hI2 (by rw [List.take_add_one, erow_at _ _ _ _ (by omega)]; simp)
            have hgj := erow_get a b i j (by omega)
            have hgj1 := erow_get a b i (j + 1) (by omega)
            rw [herow] at hgj hgj1
            walk1
            refine cut (h₀ := s.heap) (L := L') (fun m news => m (Str.ofString "text") = some (.str (S b) t2) ∧ m (Str.ofString "rows") = some (.ref R) ∧ m (Str.ofString "line") = some (.ref Ln) ∧ m (Str.ofString "sign") = some (.str (S [c]) tv) ∧ (∃ t, m (Str.ofString "j") = some (.int j t)) ∧ (∃ t, m (Str.ofString "kept") = some (.int (subc lw c b[j] : Nat) t)) ∧ news = (I₂, oI₂) :: (Ln, W.listOf us2.toArray c2) :: (I, oI) :: (R, W.listOf rs.toArray c1) :: (lastA, W.listOf us.toArray cl) :: older) (fun _ _ => False) ?_ ?_ (fun _ _ h => h.elim)
            · k_steps
              all_goals (rename Fr _ _ _ _ => F6; rename News _ _ _ _ => N6; refine Stop.next F6 N6 ⟨etext2, erows2, eline2, esign2, ⟨_, rfl⟩, ⟨_, congrArg (fun z => some (Value.int z _)) ?_⟩, rfl⟩)
              · rename (S [c] == Txt.item (S b) _) = true => q1
                rw [item_S b j hj, S_beq] at q1
                have : c = b[j] := by simpa using q1
                rw [this, subc_self]; rfl
              · rename (S [c] == Txt.item (S b) _) = false => q1
                rename (Txt.lower (S [c]) == _) = true => q2
                rw [item_S b j hj, S_beq] at q1
                rw [item_S b j hj, lower_S (al_one hcA), lower_S (al_one (hB _ (List.getElem_mem hj))), S_beq] at q2
                have n1 : ¬ c = b[j] := by simpa using q1
                have n2 : lw c = lw b[j] := by simpa using q2
                unfold subc; rw [if_neg n1, if_pos n2]; rfl
              · rename (S [c] == Txt.item (S b) _) = false => q1
                rename (Txt.lower (S [c]) == _) = false => q2
                rw [item_S b j hj, S_beq] at q1
                rw [item_S b j hj, lower_S (al_one hcA), lower_S (al_one (hB _ (List.getElem_mem hj))), S_beq] at q2
                have n1 : ¬ c = b[j] := by simpa using q1
                have n2 : ¬ lw c = lw b[j] := by simpa using q2
                unfold subc; rw [if_neg n1, if_neg n2]; rfl
            · rintro h₃ tk₃ m₃ news₃ F6 N6 ⟨etext3, erows3, eline3, esign3, ⟨tj3, ej3⟩, ⟨tk3, ek3⟩, rfl⟩
              dsimp only
              k_steps
              rename Fr _ _ _ _ => F8; rename News _ _ _ _ => N8
              rw [show min (min (((erow a b (i + 1)).take (j + 1)).getD (-1 + (((erow a b (i + 1)).take (j + 1)).length : Int)).toNat 0) (ER.getD ((j : Int)).toNat 0 + (subc lw c b[j] : Nat))) (ER.getD ((j : Int) + 1).toNat 0 + 4) = ecell a b (i + 1) (j + 1) from by
                rw [hE2, show (-1 + ((j + 1 : Nat) : Int)).toNat = j by omega, take_getD (by rw [erow_len]; omega) (Nat.lt_succ_self j), erow_get _ _ _ _ (by omega), show ((j : Int)).toNat = j by omega, show ((j : Int) + 1).toNat = j + 1 by omega, hgj, hgj1, ecell_step _ _ _ _ hi hj, hci], List.push_toArray] at N8
              (try dsimp only)
              exact Turn.next F8 N8 (fun q hq => by
                rcases List.mem_cons.mp hq with rfl | hq
                · exact hI2L
                · rcases List.mem_cons.mp hq with rfl | hq
                  · exact hI2I
                  · rcases List.mem_cons.mp hq with rfl | hq
                    · exact hI2R
                    · rcases List.mem_cons.mp hq with rfl | hq
                      · exact hI2l
                      · exact hI2o q hq) ⟨etext3, erows3, eline3, esign3, _, _, rfl, by rw [erow_take _ _ _ _ hj]; exact hI2.append (.cons _ _ .nil)⟩
          · rintro h₂ tk₂ m₂ news₂ F5 N5 ⟨etext2, erows2, eline2, esign2, us2, c2, rfl, hI2⟩
            rw [List.take_of_length_le (by rw [erow_len]; omega)] at hI2
            exact Stop.next F5 N5 ⟨etext2, erows2, eline2, us2, c2, rfl, hI2⟩
        · rintro h₂ tk₂ m₂ news₂ F5 N5 ⟨etext2, erows2, eline2, us2, c2, rfl, hI2⟩
          clear F3 N3
          dsimp only
          k_steps
          refine append_K F5 N5 (.tail (Ne.symm hLR) (.tail (Ne.symm hIR) (.head (fun q hq => by rcases List.mem_cons.mp hq with rfl | hq; exact hRl; exact hRo q hq)))) ?_ hrsz
          intro h₃ F8 N8
          k_steps
          rw [List.push_toArray, ← hrs, show refsOf' ((lastA, W.listOf us.toArray cl) :: older) ++ [Value.ref Ln] = refsOf' ((Ln, W.listOf us2.toArray c2) :: (lastA, W.listOf us.toArray cl) :: older) from by simp [refsOf']] at N8
          (try dsimp only)
          refine Turn.next F8 (news := (R, W.listOf (refsOf' ((Ln, W.listOf us2.toArray c2) :: (lastA, W.listOf us.toArray cl) :: older)).toArray (c1 + 1)) :: (Ln, W.listOf us2.toArray c2) :: (lastA, W.listOf us.toArray cl) :: older) (fun q hq => N8 q ?_) (fun q hq => ?_) ⟨etext2, erows2, c1 + 1, (Ln, W.listOf us2.toArray c2) :: (lastA, W.listOf us.toArray cl) :: older, rfl, by simp only [List.length_cons] at hents ⊢; omega, rows_more hents hrows hI2, fun q hq => ?_⟩
          · rcases List.mem_cons.mp hq with rfl | hq
            · exact .tail _ (.head _)
            · rcases List.mem_cons.mp hq with rfl | hq
              · exact .tail _ (.tail _ (.head _))
              · rcases List.mem_cons.mp hq with rfl | hq
                · exact .head _
                · exact .tail _ (.tail _ (.tail _ hq))
          · rcases List.mem_cons.mp hq with rfl | hq
            · exact hIR
            · rcases List.mem_cons.mp hq with rfl | hq
              · exact Ne.symm hLI
              · rcases List.mem_cons.mp hq with rfl | hq
                · exact hIl
                · exact hIo q hq
          · rcases List.mem_cons.mp hq with rfl | hq
            · exact Ne.symm hLR
            · rcases List.mem_cons.mp hq with rfl | hq
              · exact hRl
              · exact hRo q hq
    · rintro h₂ tk₂ m₂ news₂ F5 N5 ⟨etext, erows, c1, ents, rfl, hents, hrows, _⟩
      exact Stop.next F5 N5 ⟨erows, c1, ents, rfl, by rw [hents]; simp [S], hrows⟩
  · rintro h₂ tk₂ m₂ news₂ F5 N5 ⟨erows, c1, ents, rfl, hents, hrows⟩
    clear F1 N1
    dsimp only
    k_steps
    exact ⟨_, _, rfl, F5.keep, R, c1, ents, rfl, N5.get (.head _), N5.fresh (.head _), hents, fun q hq => ⟨N5.get (.tail _ hq), N5.fresh (.tail _ hq)⟩, hrows⟩
end
section
variable {w : World} {A : Around} {s : Shared} {E : Value → Shared → Prop} {p : Program} {loose : List Str} {mean : ExcName → Option Value} {mg mb : Str → Option Value}

section
variable {h₀ : Heap} {L : Addr} {m : Str → Option Value} {P : Addr} {o : Obj} {x : Str} {t : Tok}
theorem get_search {pl : Sem Bool} {Q : Value × List Value → Shared → Prop} (F : Fr h₀ L s.heap m) (X : (heapK w.params).In h₀) (ho : (heapK w.params).lookup P = some o) (hc : o.cls = .type "re.Pattern") (hd : o.dict = none)
    (h : Q (.builtin "re.Pattern.search", [.ref P]) s) : wpAny (model PySem.Challenge.rw_pe0267_01.row.prog w) A (getMethod (.ref P) (Str.ofString "search") pl) Q E s :=
  getMethod_builtin (T := "re.Pattern") ⟨o, F.keep _ _ (X _ _ ho), hc⟩ plainAttrs_pat slot_search type_search (fun a e => by cases e; exact ⟨o, F.keep _ _ (X _ _ ho), hd⟩) h
theorem call_search {Q : Value → Shared → Prop} (F : Fr h₀ L s.heap m) (X : (heapK w.params).In h₀) (ho : (heapK w.params).lookup P = some o) (hc : o.cls = .type "re.Pattern")
    (e : ∀ S', peek (heapK w.params) S' (Builtin.«re.Pattern.search» ⟨[.ref P, .str x t], []⟩) = some (.done (.ret .none))) (h : Q .none s) :
    wpAny (model PySem.Challenge.rw_pe0267_01.row.prog w) A (call (.builtin "re.Pattern.search") [.ref P, .str x t]) Q E s :=
  wpAny_call_entry slot_search ⟨o, F.keep _ _ (X _ _ ho), hc⟩ entry_search ((Looks.of_peek (X.keeps F.keep) (e _)).here ⟨_, rfl, h⟩) (args_search _ _)
end
local macro_rules | `(tactic| walk_at "getMethod ref") => `(tactic| ((with_reducible show wpAny _ _ (getMethod (Value.ref _) (Str.ofString "search") _) _ _ _); k_dflt (refine' get_search ?k1 ?k2 ?k3 ?k4 ?k5 ?_; (case k1 => k_asm); (case k2 => k_asm); (case k3 => k_is); (case k4 => rfl); (case k5 => rfl))))
local macro_rules | `(tactic| walk_at "call builtin:re.Pattern.search") => `(tactic| (k_dflt (refine' call_search ?k1 ?k2 ?k3 ?k4 ?k5 ?_; (case k1 => k_asm); (case k2 => k_asm); (case k3 => k_is); (case k4 => rfl); (case k5 => with_reducible assumption))))

theorem convert_name {self : Value} {c : Nat} {t : Tok} (hc : c = 97 ∨ c = 65 ∨ c = 98 ∨ c = 66)
    (r : Room A 2 16) (X : (heapK w.params).In s.heap) (T : Top p loose mean mg mb s.heap) :
    wpAny (model PySem.Challenge.rw_pe0267_01.row.prog w) A (call (.ref 115) [self, .str (S [c]) t] [(Str.ofString "name", .bool true)]) (Ret s fun v _ => ∃ t, v = .str (S [c]) t) E s := by
  revert X; k_fill; intro X
  obtain ⟨hdl, dp, fr, gd, un⟩ := A
  obtain rfl : hdl = none := r.hh
  k_dflt (refine' enter (binds := [(Str.ofString "self", self), (Str.ofString "value", .str (S [c]) t), (Str.ofString "name", .bool true)]) X T ?k8 ?k6 ?k7 ?k9 ?kB ?_ ?c2 ?c3 ?c4 ?c5; (case k6 => k_is); (case k7 => k_is); (case k8 => (have := r.hd; omega)); (case k9 => exact kp_binds X (fun _ => by kernel_rfl)); (case c5 => decide); (case kB => exact locs rfl); (case c2 => exact rfl); (case c3 => exact rfl); (case c4 => exact rfl); k_whole; intro L' h' F' N'; (try dsimp only))
  have e1 : ∀ S', peek (heapK w.params) S' (Builtin.«re.Pattern.search» ⟨[.ref 80, .str (S [c]) t], []⟩) = some (.done (.ret .none)) := fun S' => search_name w S' t c hc
  k_steps
  rename Fr _ _ _ _ => F1
  exact ⟨_, _, rfl, F1.keep, _, rfl⟩

theorem convert_value {self : Value} {c : Nat} {t : Tok} (hc : 48 ≤ c ∧ c < 58)
    (r : Room A 2 16) (X : (heapK w.params).In s.heap) (T : Top p loose mean mg mb s.heap) :
    wpAny (model PySem.Challenge.rw_pe0267_01.row.prog w) A (call (.ref 115) [self, .str (S [c]) t] [(Str.ofString "name", .bool false)]) (Ret s fun v _ => ∃ t, v = .str (S [c]) t) E s := by
  revert X; k_fill; intro X
  obtain ⟨hdl, dp, fr, gd, un⟩ := A
  obtain rfl : hdl = none := r.hh
  k_dflt (refine' enter (binds := [(Str.ofString "self", self), (Str.ofString "value", .str (S [c]) t), (Str.ofString "name", .bool false)]) X T ?k8 ?k6 ?k7 ?k9 ?kB ?_ ?c2 ?c3 ?c4 ?c5; (case k6 => k_is); (case k7 => k_is); (case k8 => (have := r.hd; omega)); (case k9 => exact kp_binds X (fun _ => by kernel_rfl)); (case c5 => decide); (case kB => exact locs rfl); (case c2 => exact rfl); (case c3 => exact rfl); (case c4 => exact rfl); k_whole; intro L' h' F' N'; (try dsimp only))
  have e1 : ∀ S', peek (heapK w.params) S' (Builtin.«re.Pattern.search» ⟨[.ref 85, .str (S [c]) t], []⟩) = some (.done (.ret .none)) := fun S' => search_value w S' t c hc
  k_steps
  rename Fr _ _ _ _ => F1
  exact ⟨_, _, rfl, F1.keep, _, rfl⟩
end
section
variable {w : World} {A : Around} {s : Shared} {E : Value → Shared → Prop} {p : Program} {loose : List Str} {mean : ExcName → Option Value} {mg mb : Str → Option Value}

section
variable {h₀ : Heap} {L : Addr} {m : Str → Option Value} {news : List (Addr × Obj)} {Q : Value → Shared → Prop} {self : Value} {c : Nat} {t : Tok}
theorem use_convN (F : Fr h₀ L s.heap m) (N : News h₀ L s.heap news) (X : (heapK w.params).In h₀) (T : Top p loose mean mg mb h₀) (r : Room A 2 16) (hc : c = 97 ∨ c = 65 ∨ c = 98 ∨ c = 66)
    (h : ∀ h' tk t', Fr h₀ L h' m → News h₀ L h' news → Q (.str (S [c]) t') { s with heap := h', toks := tk }) :
    wpAny (model PySem.Challenge.rw_pe0267_01.row.prog w) A (call (.ref 115) [self, .str (S [c]) t] [(Str.ofString "name", .bool true)]) Q E s :=
  wpAny_mono (convert_name hc r (X.keeps F.keep) (T.keeps F.keep)) (fun v s' ⟨h', tk, e, k, t, ev⟩ => by subst e; subst ev; exact h h' tk t (frGrow F k) (newsGrow N k)) fun _ _ e => e
theorem use_convV (F : Fr h₀ L s.heap m) (N : News h₀ L s.heap news) (X : (heapK w.params).In h₀) (T : Top p loose mean mg mb h₀) (r : Room A 2 16) (hc : 48 ≤ c ∧ c < 58)
    (h : ∀ h' tk t', Fr h₀ L h' m → News h₀ L h' news → Q (.str (S [c]) t') { s with heap := h', toks := tk }) :
    wpAny (model PySem.Challenge.rw_pe0267_01.row.prog w) A (call (.ref 115) [self, .str (S [c]) t] [(Str.ofString "name", .bool false)]) Q E s :=
  wpAny_mono (convert_value hc r (X.keeps F.keep) (T.keeps F.keep)) (fun v s' ⟨h', tk, e, k, t, ev⟩ => by subst e; subst ev; exact h h' tk t (frGrow F k) (newsGrow N k)) fun _ _ e => e
end
local macro_rules | `(tactic| walk_at "call ref") => `(tactic| (first
  | (refine use_convN (by k_asm) (by k_asm) (by k_asm) (by k_asm) (by with_reducible assumption) (by assumption) ?_; intro h' tk' t' F' N')
  | (refine use_convV (by k_asm) (by k_asm) (by k_asm) (by k_asm) (by with_reducible assumption) (by assumption) ?_; intro h' tk' t' F' N')))
theorem inst_base {g h : Heap} {L x C dx : Addr} {m : Str → Option Value} {od : Obj} (F : Fr g L h m) (h1 : g.get? x = some (instObj C dx)) (h2 : g.get? dx = some od) : InstAt h x (instObj C dx) C (some od) :=
  ⟨F.keep _ _ h1, rfl, rfl, F.keep _ _ h2⟩
local macro_rules | `(tactic| k_inst) => `(tactic| exact inst_base (by k_asm) (by with_reducible assumption) (by with_reducible assumption))

/-- the table's dict: one name, _headers -/
abbrev hdrDict (hsh : Int) (tk : Tok) (l : Addr) : Obj := dictOf [⟨hsh, .str (Str.ofString "_headers") tk, .ref l⟩] 1
abbrev pairObj (a b : Value) : Obj := { cls := .type "tuple", data := .seq #[a, b] }

theorem add_header {h₀ : Heap} {L x d l : Addr} {m : Str → Option Value} {rest : List (Addr × Obj)} {ts : List Value} {c cn cv : Nat} {hsh : Int} {tkd u1 u2 : Tok} {Q : Value → Shared → Prop}
    (F : Fr h₀ L s.heap m) (N : News h₀ L s.heap ([(l, W.listOf ts.toArray c)] ++ rest)) (hoff : ∀ q ∈ rest, ∀ p ∈ [(l, W.listOf ts.toArray c)], q.1 ≠ p.1) (hx : (x, instObj 214 d) ∈ rest) (hdd : (d, hdrDict hsh tkd l) ∈ rest) (hts : ts.length ≤ 100)
    (hcn : cn = 97 ∨ cn = 65 ∨ cn = 98 ∨ cn = 66) (hcv : 48 ≤ cv ∧ cv < 58)
    (r : Room A 3 24) (X : (heapK w.params).In h₀) (T : Top p loose mean mg mb h₀)
    (h : ∀ h' tk tp t1 t2, Fr h₀ L h' m → News h₀ L h' ([(l, W.listOf (ts ++ [Value.ref tp]).toArray (c + 1)), (tp, pairObj (.str (S [cn]) t1) (.str (S [cv]) t2))] ++ rest) → (∀ q ∈ [(l, W.listOf ts.toArray c)] ++ rest, q.1 < tp) → Q .none { s with heap := h', toks := tk }) :
    wpAny (model PySem.Challenge.rw_pe0267_01.row.prog w) A (call (.ref 211) [.ref x, .str (S [cn]) u1, .str (S [cv]) u2]) Q E s := by
  revert X; k_fill; intro X
  obtain ⟨hdl, dp, fr, gd, un⟩ := A
  obtain rfl : hdl = none := r.hh
  refine wpAny_call ?_
  k_dflt (refine' enterMD (bindsD := fun D => [(Str.ofString "self", .ref x), (Str.ofString "_name", .str (S [cn]) u1), (Str.ofString "_value", .str (S [cv]) u2), (Str.ofString "_params", .ref D)]) X T F N hoff ?k8 ?k6 ?k7 ?k9 ?kB ?_ ?c2 ?c3 ?c4 ?c5; (case k6 => k_is); (case k7 => k_is); (case k8 => (have := r.hd; omega)); (case k9 => exact rfl); (case c5 => decide); (case kB => exact fun d => locs rfl); (case c2 => exact rfl); (case c3 => exact rfl); (case c4 => exact rfl); k_whole; intro g L' D h₁ tk₁ hs1 hgs hst hrest F' N' hlD hDL hDsz; (try dsimp only))
  have X' := X.keeps hst
  have T' := T.keeps hst
  have gx : g.get? x = some (instObj 214 d) := hrest _ hx
  have gd' : g.get? d = some (hdrDict hsh tkd l) := hrest _ hdd
  refine with_room (Room.le (d' := 2) (u' := 16) (Room.deeper r) (by omega) (by omega)) ?_
  intro rr
  k_steps
  rename Fr _ _ _ _ => F1; rename News _ _ _ _ => N1
  have hD275 : 275 < D := by
    have h275 : ∃ o, (heapK w.params).lookup 275 = some o := ⟨_, rfl⟩
    obtain ⟨o, ho⟩ := h275
    exact Nat.lt_of_lt_of_le (Heap.lt_size (X _ _ ho)) hDsz
  have hDS : (D == sysModules) = false := by
    rw [beq_eq_false_iff_ne]; intro q; rw [q] at hD275; exact absurd hD275 (by decide)
  have gD := N1.get (a := D) (o := dictOf [] 0) (.tail _ (.head _))
  refine wpAny_For_items_locals (knd := strKind _ w) (kvs := []) (ep := 0) rfl rfl rfl rfl (Nat.ne_of_lt hDL) hDS ⟨_, #[], gD, ⟨rfl, rfl, rfl⟩, rfl, ?_, .nil, .nil⟩ F1.ns rfl rfl (fun Q' q => ld F1 rfl q) (fun _ m => m = _) rfl (by intros; simp at *) ?_
  · intro e he; simp at he
  intro h2 tk2 m2 hn2 hm2 hk2
  subst hm2
  have F2 : Fr g L' h2 _ := ⟨hn2, fun b o e => hk2 b o (Nat.ne_of_lt (Nat.lt_of_lt_of_le (Heap.lt_size e) F1.above)) (F1.keep b o e), F1.above⟩
  have N2 : News g L' h2 _ := fun q hq => ⟨hk2 _ _ (N1 q hq).2.1 (N1 q hq).1, (N1 q hq).2⟩
  clear F1 N1 hn2 hk2 gD
  dsimp only
  k_steps
  rename Fr _ _ _ _ => F3; rename News _ _ _ _ => N3
  refine SC.join (l := [(S [cv], _)]) (News.isList N3 (.head _)) rfl rfl ?_
  intro t3 k3
  rw [show Txt.join (Str.ofString "; ") (List.map (fun q : Str × Tok => q.1) [(S [cv], _)]) = S [cv] from rfl]
  k_steps
  rename_i lp _ l1a _ _ _ _ _ _ _ _ _ tn Dp _ F4 N4 l1b
  have hlD0 : l < D := hlD _ (.head _)
  refine append_K F4 N4 (.tail (Nat.ne_of_gt l1b.2.2) (.tail (Nat.ne_of_gt l1a.2) (.tail (Nat.ne_of_gt hlD0) (.head (fun q hq => nomatch hq))))) ?_ (by rw [List.size_toArray]; exact Nat.le_trans hts (by size_fits))
  intro h5 F5 N5
  rw [show ts.toArray.push (Value.ref Dp) = (ts ++ [Value.ref Dp]).toArray by simp] at N5
  k_steps
  refine ⟨L', _, [(l, W.listOf (ts ++ [Value.ref Dp]).toArray (c + 1)), (Dp, pairObj (.str (S [cn]) tn) (.str (S [cv]) t3))], F5, fun q hq => N5 q ?_, fun F6 N6 => h _ _ Dp _ _ F6 N6 ?_⟩
  · rcases List.mem_cons.mp hq with rfl | hq
    · exact .tail _ (.tail _ (.tail _ (.head _)))
    · rcases List.mem_cons.mp hq with rfl | hq
      · exact .head _
      · exact nomatch hq
  · intro q hq
    exact Nat.lt_trans (hlD q hq) l1b.2.1
end
section
variable {w : World} {A : Around} {s : Shared} {E : Value → Shared → Prop} {p : Program} {loose : List Str} {mean : ExcName → Option Value} {mg mb : Str → Option Value}

theorem new_headers {h₀ : Heap} {L : Addr} {m : Str → Option Value} {news : List (Addr × Obj)} {Q : Value → Shared → Prop}
    (F : Fr h₀ L s.heap m) (N : News h₀ L s.heap news) (r : Room A 5 24) (X : (heapK w.params).In h₀) (T : Top p loose mean mg mb h₀)
    (h : ∀ x d l hsh tkd h' tk, Fr h₀ L h' m → News h₀ L h' ((l, W.listOf ([] : List Value).toArray 0) :: (x, instObj 214 d) :: (d, hdrDict hsh tkd l) :: news) → (∀ q ∈ news, q.1 < d) → d < x → x < l → Q (.ref x) { s with heap := h', toks := tk }) :
    wpAny (model PySem.Challenge.rw_pe0267_01.row.prog w) A (call (.ref 214) []) Q E s := by
  revert X; k_fill; intro X
  obtain ⟨hdl, dp, fr, gd, un⟩ := A
  obtain rfl : hdl = none := r.hh
  k_dflt (refine' call_cls F X N ?k4 ?k5 ?k6 ?_; (case k4 => k_is); (case k5 => k_is); (case k6 => k_is); k_whole; intro x d h1 F1 N1 l1 l2)
  k_dflt (refine' enterM (mu := [(x, instObj 214 d), (d, dictOf [] 0)]) (rest := news) (binds := [(Str.ofString "self", .ref x), (Str.ofString "headers", .none)]) X T F1 N1 ?ko ?k8 ?k6 ?k7 ?k9 ?kB ?_ ?c2 ?c3 ?c4 ?c5; (case k6 => k_is); (case k7 => k_is); (case k8 => (have := r.hd; dsimp only at this; simp only [depth_under_make]; omega)); (case k9 => exact kp_binds (X.keeps F1.keep) (fun _ => by kernel_rfl)); (case c5 => decide); (case kB => exact locs rfl); (case c2 => exact rfl); (case c3 => exact rfl); (case c4 => exact rfl))
  · intro q hq p' hp'
    rcases List.mem_cons.mp hp' with rfl | hp'
    · exact Nat.ne_of_lt (Nat.lt_trans (l1 q hq) l2)
    · rcases List.mem_cons.mp hp' with rfl | hp'
      · exact Nat.ne_of_lt (l1 q hq)
      · exact nomatch hp'
  intro g L' h₁ hs1 hgs hst hrest F' N' hlL
  have X' := X.keeps hst
  have T' := T.keeps hst
  have l2' : @LT.lt Nat _ d x := l2
  dsimp only
  k_steps
  all_goals (try walk1)
  all_goals (try walk1)
  all_goals (try walk1)
  all_goals (try walk1)
  all_goals (try walk1)
  dsimp only
  k_steps
  rename Fr _ _ _ _ => F9; rename News _ _ _ _ => N9
  rename_i l' _ lA _ _ _ _ _ _ _ _
  refine ⟨L', _, [(l', W.listOf #[] 0), (x, instObj 214 d), (d, hdrDict _ _ l')], F9, N9, fun F10 N10 => ⟨rfl, ?_⟩⟩
  exact h x d l' _ _ _ _ F10 N10 l1 l2 lA.1
end
end Mine
end

section
open PySem PySem.W PyProof.Rows PySem.Calls
set_option Elab.async false
set_option maxRecDepth 100000
set_option maxHeartbeats 8000000
namespace Mine
local macro_rules | `(tactic| k_steps) => `(tactic| repeat' (first
  | (k_unfold; (try dsimp only))
  | ((fail_if_success (with_reducible refine gWhile ?_)); (fail_if_success (with_reducible refine gFor ?_)); (fail_if_success (with_reducible refine gIter ?_)); (fail_if_success (with_reducible refine gComp ?_)); (fail_if_success (with_reducible refine gCall ?_)); (try dsimp only); walk1)
  | fail "no step"))
local macro_rules | `(tactic| walk_at "eval Name") => `(tactic| (k_here; k_dflt (refine' ld ?k1 ?k2 ?_; (case k1 => k_asm); (case k2 => assumption); k_whole)))
local macro_rules | `(tactic| walk_at "loadName") => `(tactic| (k_here; k_dflt (refine' ldn ?k1 ?k2 ?_; (case k1 => k_asm); (case k2 => assumption); k_whole)))
local macro_rules | `(tactic| k_inst) => `(tactic| exact inst_base (by k_asm) (by with_reducible assumption) (by with_reducible assumption))
local macro_rules | `(tactic| walk_at "eval Name") => `(tactic| (k_here; (with_reducible show wpAny _ _ (eval (Expr.Name _ _) (compEnvC _ _ _ _)) _ _ _); k_dflt (first
  | (refine' cname_L ?N ?v ?_ ?a ?b; (case a => rfl); (case b => rfl); (case N => assumption); (case v => assumption); k_whole)
  | (refine' cname_C ?c ?m ?d ?_ ?a ?b; (case a => rfl); (case b => rfl); (case c => rfl); (case m => assumption); (case d => assumption); k_whole))))
local macro_rules | `(tactic| walk_at "subscriptTail") => `(tactic| (k_here; (with_reducible show wpAny _ _ (subscriptTail _ _ (Value.ref _) (Value.int _ _)) _ _ _); k_dflt (refine' item_last ?k1 ?k2 ?_ ?k3; (case k1 => exact News.isList (by k_asm) (by k_mem)); (case k2 => with_reducible assumption); (case k3 => with_unfolding_all rfl); k_whole)))
local macro_rules | `(tactic| walk_at "subscriptTail") => `(tactic| (k_here; (with_reducible show wpAny _ _ (subscriptTail _ _ (Value.ref _) (Value.int _ _)) _ _ _); k_dflt (refine' ksa_sub ?k1 ?k2 ?k3 ?k4 ?k5 ?k6 ?_ ?k7; (case k1 => k_asm); (case k2 => k_mem); (case k3 => with_reducible assumption); (case k4 => omega); (case k5 => omega); (case k6 => omega); (case k7 => with_unfolding_all rfl); k_whole); intro _))
section
variable {w : World} {A : Around} {s : Shared} {E : Value → Shared → Prop} {p : Program} {loose : List Str} {mean : ExcName → Option Value} {mg mb : Str → Option Value}

/-- the pairs that stand in the ledger, the newest first -/
def SignsAre (t : List Nat) (ents : List (Addr × Obj)) : Prop := ∀ (k : Nat) (q : Addr × Obj), ents.reverse[k]? = some q → ∃ t1 t2, q.2 = pairObj (.str (S [t.getD k 0]) t1) (.str (S [48 + k]) t2)
/-- the law's table of signs, as a value -/
def Signs (t : List Nat) (h₀ : Heap) (r : Value) (h : Heap) : Prop := ∃ x d l hsh tkd c ents, r = .ref x ∧ ents.length = t.length ∧ SignsAre t ents ∧
  (∀ q ∈ (x, instObj 214 d) :: (d, hdrDict hsh tkd l) :: (l, W.listOf (refsOf' ents).toArray c) :: ents, h.get? q.1 = some q.2 ∧ h₀.get? q.1 = none)

theorem signs_more {t : List Nat} {ents : List (Addr × Obj)} {i : Nat} {tp : Addr} {t1 t2 : Tok} (hl : ents.length = i) (h : SignsAre t ents) : SignsAre t ((tp, pairObj (.str (S [t.getD i 0]) t1) (.str (S [48 + i]) t2)) :: ents) := by
  intro k q hq
  rw [List.reverse_cons] at hq
  by_cases hk : k < ents.reverse.length
  · rw [List.getElem?_append_left hk] at hq
    exact h k q hq
  · rw [List.getElem?_append_right (by omega)] at hq
    have hk2 : k - ents.reverse.length = 0 := by
      rcases Nat.eq_zero_or_pos (k - ents.reverse.length) with z | z
      · exact z
      · rw [List.getElem?_eq_none (by simp; simp at z; omega)] at hq; cases hq
    rw [hk2] at hq
    simp at hq
    subst hq
    have : k = i := by rw [List.length_reverse, hl] at hk hk2; omega
    subst this
    exact ⟨t1, t2, rfl⟩

theorem digit_S {i : Nat} (h : i < 10) : Str.ofString (toString (i : Int)) = S [48 + i] := by
  rcases (by omega : i = 0 ∨ i = 1 ∨ i = 2 ∨ i = 3 ∨ i = 4 ∨ i = 5 ∨ i = 6 ∨ i = 7 ∨ i = 8 ∨ i = 9) with rfl | rfl | rfl | rfl | rfl | rfl | rfl | rfl | rfl | rfl <;> decide +kernel

theorem law_table {t : List Nat} {t1 : Tok} (ht : t.length ≤ 10) (hA : Al t)
    (r : Room A 6 32) (X : (heapK w.params).In s.heap) (T : Top p loose mean mg mb s.heap) :
    wpAny (model PySem.Challenge.rw_pe0267_01.row.prog w) A (call (.ref 225) [.str (S t) t1]) (Ret s (Signs t s.heap)) E s := by
  revert X; k_fill; intro X
  obtain ⟨hdl, dp, fr, gd, un⟩ := A
  obtain rfl : hdl = none := r.hh
  have hlt : (S t).length = t.length := S_len t
  k_dflt (refine' enter (binds := [(Str.ofString "text", .str (S t) t1)]) X T ?k8 ?k6 ?k7 ?k9 ?kB ?_ ?c2 ?c3 ?c4 ?c5; (case k6 => k_is); (case k7 => k_is); (case k8 => (have := r.hd; omega)); (case k9 => exact BindsTo.of_eq rfl); (case c5 => decide); (case kB => exact locs rfl); (case c2 => exact rfl); (case c3 => exact rfl); (case c4 => exact rfl); k_whole; intro L' h' F' N'; (try dsimp only))
  refine with_room (Room.le (d' := 5) (u' := 24) (Room.deeper r) (by omega) (by omega)) ?_
  intro rr
  k_steps
  refine new_headers (by assumption) (by assumption) rr X T ?_
  intro x d l hsh tkd h₁ tk₁ F1 N1 _ hdx hxl
  have ndx : @Ne Nat d x := Nat.ne_of_lt hdx
  have nxl : @Ne Nat x l := Nat.ne_of_lt hxl
  have ndl : @Ne Nat d l := Nat.ne_of_lt (Nat.lt_trans hdx hxl)
  have N2 : News s.heap L' h₁ [(x, instObj 214 d), (d, hdrDict hsh tkd l), (l, W.listOf (refsOf' []).toArray 0)] := fun q hq => N1 q (by
    rcases List.mem_cons.mp hq with rfl | hq
    · exact .tail _ (.head _)
    · rcases List.mem_cons.mp hq with rfl | hq
      · exact .tail _ (.tail _ (.head _))
      · rcases List.mem_cons.mp hq with rfl | hq
        · exact .head _
        · exact nomatch hq)
  clear N1
  k_steps
  rename Fr _ _ _ _ => F3; rename News _ _ _ _ => N3
  refine cut (h₀ := s.heap) (L := L') (fun m news => m (Str.ofString "table") = some (.ref x) ∧ ∃ c ents, news = (x, instObj 214 d) :: (d, hdrDict hsh tkd l) :: (l, W.listOf (refsOf' ents).toArray c) :: ents ∧ ents.length = t.length ∧ SignsAre t ents) (fun _ _ => False) ?_ ?_ (fun _ _ h => h.elim)
  · refine For_invV s.heap rfl rfl ?_
    k_steps
    rename Fr _ _ _ _ => F4; rename News _ _ _ _ => N4
    rename IsRange _ _ _ _ _ _ _ _ => hr1
    refine loopRange (n := t.length) hr1 (small_one (by omega) (by omega) (by omega) (by omega)) (by rw [rangeSize_nat]; omega) rfl F4 N4
      (fun i m news => m (Str.ofString "text") = some (.str (S t) t1) ∧ m (Str.ofString "table") = some (.ref x) ∧ ∃ c ents, news = (x, instObj 214 d) :: (d, hdrDict hsh tkd l) :: (l, W.listOf (refsOf' ents).toArray c) :: ents ∧ ents.length = i ∧ SignsAre t ents ∧ (∀ q ∈ ents, @Ne Nat q.1 l))
      ⟨rfl, rfl, 0, [], rfl, rfl, (fun k q hq => by simp at hq), fun _ q => nomatch q⟩ ?_ ?_
    · rintro i tv m₁ news₁ h₂ tk₂ I oI hi hlI ⟨etext, etable, c1, ents, rfl, hents, hsigns, hnel⟩ hoff F5 N5
      simp only [Int.zero_add, Int.mul_one] at F5
      change Fr s.heap L' _ _ at F5
      change News s.heap L' _ _ at N5
      clear F4 N4
      have hIx : @Ne Nat x I := hoff _ (.head _)
      have hId : @Ne Nat d I := hoff _ (.tail _ (.head _))
      have hIl : @Ne Nat l I := hoff _ (.tail _ (.tail _ (.head _)))
      have hIe : ∀ q ∈ ents, @Ne Nat q.1 I := fun q hq => hoff q (.tail _ (.tail _ (.tail _ hq)))
      have hit : (i : Int) < (S t).length := by omega
      k_steps
      rw [digit_S (by omega : i < 10), item_S t i hi]
      have hci : t[i] = t.getD i 0 := by simp [hi]
      have hcA := hA _ (List.getElem_mem hi)
      rw [hci] at hcA ⊢
      have N6 : News s.heap L' h₂ ([(l, W.listOf (refsOf' ents).toArray c1)] ++ ((I, oI) :: (x, instObj 214 d) :: (d, hdrDict hsh tkd l) :: ents)) := fun q hq => N5 q (by
        rcases List.mem_cons.mp hq with rfl | hq
        · exact .tail _ (.tail _ (.tail _ (.head _)))
        · rcases List.mem_cons.mp hq with rfl | hq
          · exact .head _
          · rcases List.mem_cons.mp hq with rfl | hq
            · exact .tail _ (.head _)
            · rcases List.mem_cons.mp hq with rfl | hq
              · exact .tail _ (.tail _ (.head _))
              · exact .tail _ (.tail _ (.tail _ (.tail _ hq))))
      refine add_header F5 N6 ?_ (.tail _ (.head _)) (.tail _ (.tail _ (.head _))) ?_ hcA (by omega) (Room.le rr (by omega) (by omega)) X T ?_
      · intro q hq p' hp'
        rw [List.mem_singleton.mp hp']
        rcases List.mem_cons.mp hq with rfl | hq
        · exact Ne.symm hIl
        · rcases List.mem_cons.mp hq with rfl | hq
          · exact nxl
          · rcases List.mem_cons.mp hq with rfl | hq
            · exact ndl
            · exact hnel q hq
      · unfold refsOf'; rw [List.length_map, List.length_reverse, hents]; omega
      intro h₃ tk₃ tp u1 u2 F7 N7 hlt7
      have hle : l < tp := hlt7 _ (.head _)
      have hIe' : I < tp := hlt7 _ (.tail _ (.head _))
      clear N6 N5
      k_steps
      rw [show refsOf' ents ++ [Value.ref tp] = refsOf' ((tp, pairObj (.str (S [t.getD i 0]) u1) (.str (S [48 + i]) u2)) :: ents) from by simp [refsOf']] at N7
      (try dsimp only)
      refine Turn.next F7 (news := (x, instObj 214 d) :: (d, hdrDict hsh tkd l) :: (l, W.listOf (refsOf' ((tp, pairObj (.str (S [t.getD i 0]) u1) (.str (S [48 + i]) u2)) :: ents)).toArray (c1 + 1)) :: (tp, pairObj (.str (S [t.getD i 0]) u1) (.str (S [48 + i]) u2)) :: ents) (fun q hq => N7 q ?_) (fun q hq => ?_) ⟨etext, etable, c1 + 1, (tp, pairObj (.str (S [t.getD i 0]) u1) (.str (S [48 + i]) u2)) :: ents, rfl, by simp only [List.length_cons]; omega, signs_more hents hsigns, fun q hq => ?_⟩
      · rcases List.mem_cons.mp hq with rfl | hq
        · exact .tail _ (.tail _ (.head _))
        · rcases List.mem_cons.mp hq with rfl | hq
          · exact .tail _ (.tail _ (.tail _ (.head _)))
          · rcases List.mem_cons.mp hq with rfl | hq
            · exact .tail _ (.tail _ (.tail _ (.tail _ (.head _))))
            · rcases List.mem_cons.mp hq with rfl | hq
              · exact .head _
              · rcases List.mem_cons.mp hq with rfl | hq
                · exact .tail _ (.head _)
                · exact .tail _ (.tail _ (.tail _ (.tail _ (.tail _ hq))))
      · rcases List.mem_cons.mp hq with rfl | hq
        · exact hIx
        · rcases List.mem_cons.mp hq with rfl | hq
          · exact hId
          · rcases List.mem_cons.mp hq with rfl | hq
            · exact hIl
            · rcases List.mem_cons.mp hq with rfl | hq
              · exact Nat.ne_of_gt hIe'
              · exact hIe q hq
      · rcases List.mem_cons.mp hq with rfl | hq
        · exact Nat.ne_of_gt hle
        · exact hnel q hq
    · rintro h₂ tk₂ m₂ news₂ F5 N5 ⟨etext, etable, c1, ents, rfl, hents, hsigns, _⟩
      exact Stop.next F5 N5 ⟨etable, c1, ents, rfl, hents, hsigns⟩
  · rintro h₂ tk₂ m₂ news₂ F5 N5 ⟨etable, c1, ents, rfl, hents, hsigns⟩
    clear F3 N3
    dsimp only
    k_steps
    exact ⟨_, _, rfl, F5.keep, x, d, l, hsh, tkd, c1, ents, rfl, hents, hsigns, fun q hq => ⟨(N5 q hq).1, (N5 q hq).2.2⟩⟩
end
section
variable {w : World} {A : Around} {s : Shared} {E : Value → Shared → Prop} {p : Program} {loose : List Str} {mean : ExcName → Option Value} {mg mb : Str → Option Value}

/-- a table of signs that stands -/
structure TabIn (t : List Nat) (h : Heap) (x d l : Addr) (hsh : Int) (tkd : Tok) (c : Nat) (ents : List (Addr × Obj)) : Prop where
  hx : h.get? x = some (instObj 214 d)
  hd : h.get? d = some (hdrDict hsh tkd l)
  hl : h.get? l = some (W.listOf (refsOf' ents).toArray c)
  he : ∀ q ∈ ents, h.get? q.1 = some q.2
  len : ents.length = t.length
  signs : SignsAre t ents

section
variable {t : List Nat} {h : Heap} {x d l : Addr} {hsh : Int} {tkd : Tok} {c : Nat} {ents : List (Addr × Obj)}
theorem TabIn.ref_at (q : TabIn t h x d l hsh tkd c ents) {k : Nat} {v : Value} (hv : (refsOf' ents)[k]? = some v) : ∃ a t1 t2, v = .ref a ∧ k < t.length ∧ h.get? a = some (pairObj (.str (S [t.getD k 0]) t1) (.str (S [48 + k]) t2)) := by
  unfold refsOf' at hv
  rw [List.getElem?_map] at hv
  obtain ⟨e, he, rfl⟩ := Option.map_eq_some_iff.mp hv
  obtain ⟨t1, t2, ht⟩ := q.signs k e he
  have hk : k < ents.reverse.length := (List.getElem?_eq_some_iff.mp he).1
  have hm : e ∈ ents := List.mem_reverse.mp (List.mem_of_getElem? he)
  exact ⟨e.1, t1, t2, rfl, by rw [List.length_reverse, q.len] at hk; exact hk, by rw [← ht]; exact q.he e hm⟩
theorem TabIn.ref_inj (q : TabIn t h x d l hsh tkd c ents) {k k' : Nat} {v : Value} (h1 : (refsOf' ents)[k]? = some v) (h2 : (refsOf' ents)[k']? = some v) : k = k' := by
  obtain ⟨a, t1, t2, rfl, _, ha⟩ := q.ref_at h1
  obtain ⟨a', t1', t2', e, _, ha'⟩ := q.ref_at h2
  cases e
  rw [ha] at ha'
  simp only [Option.some.injEq, Obj.mk.injEq, Data.seq.injEq, true_and, and_true, pairObj, Array.mk.injEq, List.cons.injEq, Value.str.injEq] at ha'
  have := S_inj ha'.2.1
  simp at this
  exact this
end

def placesOf (t : List Nat) (c : Nat) : List Nat := (List.range' 0 t.length).filter fun k => lw (t.getD k 0) == lw c
inductive DigitsAre : List Value → List Nat → Prop
  | nil : DigitsAre [] []
  | cons (k : Nat) (t : Tok) {vs : List Value} {ks : List Nat} : DigitsAre vs ks → DigitsAre (.str (S [48 + k]) t :: vs) (k :: ks)

open Classical in
noncomputable def okRef (t : List Nat) (c : Nat) (rs : List Value) (v : Value) : Bool := decide (∃ k, rs[k]? = some v ∧ lw (t.getD k 0) = lw c)
def isDig (rs : List Value) (v y : Value) : Prop := ∃ k t, rs[k]? = some v ∧ y = .str (S [48 + k]) t

theorem okRef_at {t : List Nat} {c o : Nat} {rs : List Value} {v : Value} (inj : ∀ (k k' : Nat) v, rs[k]? = some v → rs[k']? = some v → k = k') (h0 : rs[o]? = some v) : okRef t c rs v = (lw (t.getD o 0) == lw c) := by
  unfold okRef
  rw [Bool.eq_iff_iff]
  simp only [decide_eq_true_eq, beq_iff_eq]
  constructor
  · rintro ⟨k, hk, hl⟩; rw [inj k o v hk h0] at hl; exact hl
  · intro hl; exact ⟨o, h0, hl⟩
theorem digits_of {t : List Nat} {c : Nat} {rs : List Value} (inj : ∀ (k k' : Nat) v, rs[k]? = some v → rs[k']? = some v → k = k') :
    ∀ (us : List Value) (o : Nat) (ys : List Value), (∀ i, us[i]? = rs[o + i]?) → Paired (isDig rs) (us.filter (okRef t c rs)) ys → DigitsAre ys ((List.range' o us.length).filter fun k => lw (t.getD k 0) == lw c)
  | [], o, ys, _, h => by cases h; exact .nil
  | v :: us, o, ys, he, h => by
    have h0 : rs[o]? = some v := by have := he 0; simpa using this.symm
    have he' : ∀ i, us[i]? = rs[o + 1 + i]? := fun i => by have := he (i + 1); rw [List.getElem?_cons_succ] at this; rw [this]; congr 1; omega
    have ok := okRef_at (t := t) (c := c) inj h0
    rw [List.length_cons, List.range'_succ]
    rw [List.filter_cons, ok] at h
    rw [List.filter_cons]
    split at h
    · rename_i q
      rw [if_pos q]
      cases h with
      | cons e r =>
        obtain ⟨k, tk, hk, rfl⟩ := e
        rw [inj k o v hk h0]
        exact .cons _ _ (digits_of inj us (o + 1) _ he' r)
    · rename_i q
      rw [if_neg q]
      exact digits_of inj us (o + 1) _ he' h

theorem sub_pair {prog : Program} {value slice : Expr} {a : Addr} {x y z : Value} {k : Int} {u : Tok} {Q : Value → Shared → Prop} (ht : s.heap.get? a = some (pairObj x y)) (hk : (k = 0 ∧ z = x) ∨ (k = 1 ∧ z = y)) (h : Q z s)
    (hs : subscripted slice false (.ref a) (.int k u) = operate [.ref a, .int k u] (getItem (.ref a) (.int k u)) := by with_unfolding_all rfl) :
    wpAny (model prog w) A (subscriptTail value slice (.ref a) (.int k u)) Q E s := by
  have hi : IsTup s.heap a [x, y].toArray := ⟨_, ht, rfl, ⟨_, rfl⟩⟩
  rcases hk with ⟨rfl, rfl⟩ | ⟨rfl, rfl⟩
  · exact item_tupleT (j := 0) hi (by decide) (by decide) rfl rfl h hs
  · exact item_tupleT (j := 1) hi (by decide) (by decide) rfl rfl h hs
local macro_rules | `(tactic| walk_at "subscriptTail") => `(tactic| (k_here; (with_reducible show wpAny _ _ (subscriptTail _ _ (Value.ref _) (Value.int _ _)) _ _ _); k_dflt (first
  | (refine' sub_pair ?k1 (.inl ⟨rfl, rfl⟩) ?_ ?k3; (case k1 => with_reducible assumption); (case k3 => with_unfolding_all rfl); k_whole)
  | (refine' sub_pair ?k1 (.inr ⟨rfl, rfl⟩) ?_ ?k3; (case k1 => with_reducible assumption); (case k3 => with_unfolding_all rfl); k_whole))))

theorem get_all {t : List Nat} {x d l : Addr} {hsh : Int} {tkd : Tok} {c cn : Nat} {ents : List (Addr × Obj)} {t1 : Tok} (q : TabIn t s.heap x d l hsh tkd c ents) (ht : t.length ≤ 10) (hA : Al t) (hcn : cn = 97 ∨ cn = 65 ∨ cn = 98 ∨ cn = 66)
    (r : Room A 4 24) (X : (heapK w.params).In s.heap) (T : Top p loose mean mg mb s.heap) :
    wpAny (model PySem.Challenge.rw_pe0267_01.row.prog w) A (call (.ref 153) [.ref x, .str (S [cn]) t1]) (Ret s fun v h => ∃ D ys c, v = .ref D ∧ h.get? D = some (W.listOf (List.toArray ys) c) ∧ s.heap.get? D = none ∧ DigitsAre ys (placesOf t cn)) E s := by
  revert X; k_fill; intro X
  obtain ⟨hdl, dp, fr, gd, un⟩ := A
  obtain rfl : hdl = none := r.hh
  have hc1 : (S [cn]).length = 1 := S_len _
  have gx := q.hx
  have gd' := q.hd
  k_dflt (refine' enterC (news := []) (g := s.heap) (binds := [(Str.ofString "self", .ref x), (Str.ofString "name", .str (S [cn]) t1)]) (fun _ _ e => e) (Nat.le_refl _) (fun _ q => nomatch q) X T ?k8 ?k6 ?k7 ?k9 ?kB ?kD ?_ ?c2 ?c3 ?c4; (case k6 => k_is); (case k7 => k_is); (case k8 => (have := r.hd; omega)); (case k9 => exact BindsTo.of_eq rfl); (case kB => exact rfl); (case kD => decide +kernel); (case c2 => exact rfl); (case c3 => exact rfl); (case c4 => exact rfl); k_whole; intro L' h' tk' cells F' N' Y' _; (have hY := CellsAre.one Y'; obtain ⟨oN, hE', dN⟩ := hY; subst hE'; clear Y'); (change oN.data = .cell (some (.str (S [cn]) t1)) at dN); (try simp only [List.cons_append, List.nil_append] at N'); (try dsimp only))
  refine with_room (Room.le (d' := 2) (u' := 16) (Room.deeper r) (by omega) (by omega)) ?_
  intro rr
  k_steps
  rename Fr _ _ _ _ => F1; rename News _ _ _ _ => N1
  rw [lower_S (al_one hcn)]
  simp only [List.map_cons, List.map_nil]
  refine use_convN F1 N1 X T rr ?_ ?_
  · rcases lw_al hcn with e | e <;> rw [e] <;> decide
  intro h2 tk2 t2 F2 N2
  k_steps
  k_dflt (refine listComp (okRef t cn (refsOf' ents)) (isDig (refsOf' ents)) rfl (by decide) rfl (by decide) rfl ?_)
  k_steps
  rename Fr _ _ _ _ => F3; rename News _ _ _ _ => N3
  rename_i o3 _ d3 _ _
  refine compList (its := refsOf' ents) ⟨_, F3.keep _ _ q.hl, rfl, _, rfl⟩ (by unfold refsOf'; rw [List.length_map, List.length_reverse, q.len]; exact Nat.le_trans ht (by size_fits)) rfl F3 N3 ?_ ?_ ?_
  · intro C i v s₃ m₃ E' hv hn hm F₃ N₃
    obtain ⟨a, u1, u2, rfl, hi, ha⟩ := q.ref_at hv
    have ha3 := F₃.keep _ _ ha
    have gN := N₃.get (.head _)
    have hcA := hA _ (List.getElem_mem hi)
    rw [show t[i] = t.getD i 0 by simp [hi]] at hcA
    have hok := okRef_at (t := t) (c := cn) (fun k k' v h1 h2 => q.ref_inj h1 h2) hv
    generalize t.getD i 0 = ci at ha ha3 hcA hok
    have hc2 : (S [ci]).length = 1 := S_len _
    refine wpAny_tests_one ?_
    k_steps
    · rw [hok, lower_S (al_one hcA), S_beq]; simp
    · exact ⟨s₃.heap, _, rfl, fun _ _ e => e⟩
  · intro C i v s₃ m₃ E' hv hp hn hm F₃ N₃
    obtain ⟨a, u1, u2, rfl, hi, ha⟩ := q.ref_at hv
    have ha3 := F₃.keep _ _ ha
    k_steps
    · exact ⟨i, u2, hv, rfl⟩
    · exact ⟨s₃.heap, _, rfl, fun _ _ e => e⟩
  · intro D ys c2 h tk F₃ N₃ hD hG
    k_steps
    exact ⟨_, _, rfl, F₃.keep, D, ys, c2, rfl, N₃.get (.head _), N₃.fresh (.head _), by
      have := digits_of (fun k k' v h1 h2 => q.ref_inj h1 h2) (refsOf' ents) 0 ys (fun i => by rw [Nat.zero_add]) hG
      rwa [show (refsOf' ents).length = t.length by unfold refsOf'; rw [List.length_map, List.length_reverse, q.len]] at this⟩
end
section
variable {w : World} {A : Around} {s : Shared} {E : Value → Shared → Prop} {p : Program} {loose : List Str} {mean : ExcName → Option Value} {mg mb : Str → Option Value}

/-- the table's own length -/
theorem len_table {t : List Nat} {x d l : Addr} {hsh : Int} {tkd : Tok} {c : Nat} {ents : List (Addr × Obj)} (q : TabIn t s.heap x d l hsh tkd c ents) (ht : t.length ≤ 10)
    (r : Room A 2 16) (X : (heapK w.params).In s.heap) (T : Top p loose mean mg mb s.heap) :
    wpAny (model PySem.Challenge.rw_pe0267_01.row.prog w) A (call (.ref 122) [.ref x]) (Ret s fun v _ => ∃ t', v = .int t.length t') E s := by
  revert X; k_fill; intro X
  obtain ⟨hdl, dp, fr, gd, un⟩ := A
  obtain rfl : hdl = none := r.hh
  have gx := q.hx
  have gd' := q.hd
  have gl := q.hl
  k_dflt (refine' enter (binds := [(Str.ofString "self", .ref x)]) X T ?k8 ?k6 ?k7 ?k9 ?kB ?_ ?c2 ?c3 ?c4 ?c5; (case k6 => k_is); (case k7 => k_is); (case k8 => (have := r.hd; omega)); (case k9 => exact BindsTo.of_eq rfl); (case c5 => decide); (case kB => exact locs rfl); (case c2 => exact rfl); (case c3 => exact rfl); (case c4 => exact rfl); k_whole; intro L' h' F' N'; (try dsimp only))
  k_steps
  rename Fr _ _ _ _ => F1
  have hll : (refsOf' ents).toArray.size = t.length := by rw [List.size_toArray]; unfold refsOf'; rw [List.length_map, List.length_reverse, q.len]
  refine call_len_list ⟨_, F1.keep _ _ gl, rfl, _, rfl⟩ (by rw [hll]; omega) ?_
  exact ⟨_, _, rfl, F1.keep, _, by rw [hll]⟩

theorem TabIn.keeps {t : List Nat} {h h' : Heap} {x d l : Addr} {hsh : Int} {tkd : Tok} {c : Nat} {ents : List (Addr × Obj)} (q : TabIn t h x d l hsh tkd c ents) (k : h.StaysIn h') : TabIn t h' x d l hsh tkd c ents :=
  ⟨k _ _ q.hx, k _ _ q.hd, k _ _ q.hl, fun e he => k _ _ (q.he e he), q.len, q.signs⟩
section
variable {h₀ : Heap} {L : Addr} {m : Str → Option Value} {news : List (Addr × Obj)} {Q : Value → Shared → Prop} {t : List Nat} {x d l : Addr} {hsh : Int} {tkd : Tok} {c cn : Nat} {ents : List (Addr × Obj)} {t1 : Tok}
theorem freshOf {h h' : Heap} {D : Addr} (k : h.StaysIn h') (e : h'.get? D = none) : h.get? D = none := by
  cases q : h.get? D with
  | none => rfl
  | some o => rw [k _ _ q] at e; cases e
theorem newsCons {h h' : Heap} {D : Addr} {o : Obj} (F : Fr h₀ L h m) (N : News h₀ L h news) (k : h.StaysIn h') (hD : h'.get? D = some o) (hf : h.get? D = none) : News h₀ L h' ((D, o) :: news) ∧ (∀ q ∈ news, @Ne Nat q.1 D) := by
  refine ⟨fun q hq => ?_, fun q hq e => ?_⟩
  · rcases List.mem_cons.mp hq with rfl | hq
    · refine ⟨hD, fun e => ?_, freshOf F.keep hf⟩
      obtain ⟨o, _, _, ho, _⟩ := F.ns
      have e' : D = L := e
      rw [← e', hf] at ho; cases ho
    · exact ⟨k _ _ (N q hq).1, (N q hq).2⟩
  · have := (N q hq).1; rw [show q.1 = D from e, hf] at this; cases this
theorem use_get_all (q : TabIn t s.heap x d l hsh tkd c ents) (ht : t.length ≤ 10) (hA : Al t) (hcn : cn = 97 ∨ cn = 65 ∨ cn = 98 ∨ cn = 66)
    (r : Room A 4 24) (F : Fr h₀ L s.heap m) (N : News h₀ L s.heap news) (X : (heapK w.params).In h₀) (T : Top p loose mean mg mb h₀)
    (h : ∀ h' tk D ys c', Fr h₀ L h' m → News h₀ L h' ((D, W.listOf (List.toArray ys) c') :: news) → (∀ q ∈ news, @Ne Nat q.1 D) → DigitsAre ys (placesOf t cn) → Q (.ref D) { s with heap := h', toks := tk }) :
    wpAny (model PySem.Challenge.rw_pe0267_01.row.prog w) A (call (.ref 153) [.ref x, .str (S [cn]) t1]) Q E s :=
  wpAny_mono (get_all q ht hA hcn r (X.keeps F.keep) (T.keeps F.keep)) (fun v s' ⟨h', tk, e, k, D, ys, c', ev, hD, hf, hd⟩ => by
    subst e; subst ev
    obtain ⟨N', hn⟩ := newsCons F N k hD hf
    exact h h' tk D ys c' (frGrow F k) N' hn hd) fun _ _ e => e
end
theorem DigitsAre.length : ∀ {vs : List Value} {ks : List Nat}, DigitsAre vs ks → vs.length = ks.length
  | _, _, .nil => rfl
  | _, _, .cons _ _ h => by simp [h.length]
theorem DigitsAre.at : ∀ {vs : List Value} {ks : List Nat} {i : Nat} {v : Value}, DigitsAre vs ks → vs[i]? = some v → ∃ k t, ks[i]? = some k ∧ v = .str (S [48 + k]) t
  | _, _, _, _, .nil, h => by simp at h
  | _, _, 0, _, .cons k t _, h => by simp at h; subst h; exact ⟨k, t, rfl, rfl⟩
  | _, _, i + 1, _, .cons _ _ g, h => by
    rw [List.getElem?_cons_succ] at h
    obtain ⟨k, t, e, ev⟩ := g.at h
    exact ⟨k, t, by rw [List.getElem?_cons_succ]; exact e, ev⟩
theorem placesOf_lt {t : List Nat} {c i k : Nat} (h : (placesOf t c)[i]? = some k) : k < t.length := by
  have := List.mem_of_getElem? h
  unfold placesOf at this
  have := (List.mem_filter.mp this).1
  rw [List.mem_range'_1] at this
  omega
theorem placesOf_len (t : List Nat) (c : Nat) : (placesOf t c).length ≤ t.length := by
  unfold placesOf
  exact Nat.le_trans (List.length_filter_le _ _) (by simp)
theorem filter_true : ∀ (l : List Value), l.filter (fun _ => true) = l
  | [] => rfl
  | a :: l => by rw [List.filter_cons, if_pos rfl, filter_true l]

/-- a digit's text and its number -/
def isNum (v y : Value) : Prop := ∃ k t t', k < 10 ∧ v = .str (S [48 + k]) t ∧ y = .int (k : Int) t'
theorem nums_of : ∀ {vs ys : List Value} {ks : List Nat}, DigitsAre vs ks → Paired isNum vs ys → IntsAre ys (ks.map fun (k : Nat) => (k : Int))
  | _, _, _, .nil, h => by cases h; exact .nil
  | _, _, _, .cons k t g, h => by
    cases h with
    | cons e r =>
      obtain ⟨k', t1, t2, _, e1, rfl⟩ := e
      simp only [Value.str.injEq] at e1
      have := S_inj e1.1
      simp at this
      subst this
      exact .cons _ _ (nums_of g r)
theorem int_digit {prog : Program} {k : Nat} {t : Tok} {Q : Value → Shared → Prop} (hk : k < 10) (h : Q (.int k s.toks) { s with toks := s.toks + 1 }) : wpAny (model prog w) A (call (.type "int") [.str (S [48 + k]) t]) Q E s := by
  have e : PySem.intText? (S [48 + k]) = some (k : Int) := by
    rcases (by omega : k = 0 ∨ k = 1 ∨ k = 2 ∨ k = 3 ∨ k = 4 ∨ k = 5 ∨ k = 6 ∨ k = 7 ∨ k = 8 ∨ k = 9) with rfl | rfl | rfl | rfl | rfl | rfl | rfl | rfl | rfl | rfl <;> decide +kernel
  exact PySem.W.KIN.call_text e (by rw [S_len]; exact (by decide : 1 ≤ 640)) h
theorem law_places {t : List Nat} {x d l : Addr} {hsh : Int} {tkd : Tok} {c cn : Nat} {ents : List (Addr × Obj)} {t1 : Tok} (q : TabIn t s.heap x d l hsh tkd c ents) (ht : t.length ≤ 10) (hA : Al t) (hcn : cn = 97 ∨ cn = 65 ∨ cn = 98 ∨ cn = 66)
    (r : Room A 5 28) (X : (heapK w.params).In s.heap) (T : Top p loose mean mg mb s.heap) :
    wpAny (model PySem.Challenge.rw_pe0267_01.row.prog w) A (call (.ref 230) [.ref x, .str (S [cn]) t1]) (Ret s (IntList s.heap ((placesOf t cn).map fun (k : Nat) => (k : Int)))) E s := by
  revert X; k_fill; intro X
  obtain ⟨hdl, dp, fr, gd, un⟩ := A
  obtain rfl : hdl = none := r.hh
  have gx := q.hx
  have gd' := q.hd
  k_dflt (refine' enter (binds := [(Str.ofString "table", .ref x), (Str.ofString "sign", .str (S [cn]) t1)]) X T ?k8 ?k6 ?k7 ?k9 ?kB ?_ ?c2 ?c3 ?c4 ?c5; (case k6 => k_is); (case k7 => k_is); (case k8 => (have := r.hd; omega)); (case k9 => exact BindsTo.of_eq rfl); (case c5 => decide); (case kB => exact locs rfl); (case c2 => exact rfl); (case c3 => exact rfl); (case c4 => exact rfl); k_whole; intro L' h' F' N'; (try dsimp only))
  refine with_room (Room.le (d' := 4) (u' := 24) (Room.deeper r) (by omega) (by omega)) ?_
  intro rr
  k_steps
  k_dflt (refine listComp (fun _ => true) isNum rfl (by decide) rfl (by decide) rfl ?_)
  k_steps
  rename Fr _ _ _ _ => F1; rename News _ _ _ _ => N1
  refine use_get_all (q.keeps F1.keep) ht hA hcn rr F1 N1 X T ?_
  intro h2 tk2 D2 ys2 c2 F2 N2 _ hdig
  refine compList (its := ys2) (News.isList N2 (.head _)) (by rw [hdig.length]; exact Nat.le_trans (placesOf_len t cn) (Nat.le_trans ht (by size_fits))) rfl F2 N2 ?_ ?_ ?_
  · intro C i v s₃ m₃ E' hv hn hm F₃ N₃
    exact wpAny_pure ⟨rfl, keeps_refl⟩
  · intro C i v s₃ m₃ E' hv hp hn hm F₃ N₃
    obtain ⟨k, t2, hk, rfl⟩ := hdig.at hv
    have hk10 := Nat.lt_of_lt_of_le (placesOf_lt hk) ht
    k_steps
    refine int_digit hk10 ?_
    exact ⟨⟨k, _, _, hk10, rfl, rfl⟩, s₃.heap, _, rfl, fun _ _ e => e⟩
  · intro D ys c h tk F₃ N₃ hD hG
    rw [filter_true] at hG
    k_steps
    exact ⟨_, _, rfl, F₃.keep, D, ys, c, rfl, N₃.get (.head _), N₃.fresh (.head _), nums_of hdig hG⟩
end
section
variable {w : World} {A : Around} {s : Shared} {E : Value → Shared → Prop} {p : Program} {loose : List Str} {mean : ExcName → Option Value} {mg mb : Str → Option Value}

section
variable {h₀ : Heap} {L : Addr} {m : Str → Option Value} {news : List (Addr × Obj)} {Q : Value → Shared → Prop} {t : List Nat} {x d l : Addr} {hsh : Int} {tkd : Tok} {c cn : Nat} {ents : List (Addr × Obj)} {t1 : Tok}
abbrev placesZ (t : List Nat) (c : Nat) : List Int := (placesOf t c).map fun (k : Nat) => (k : Int)
theorem use_places (q : TabIn t h₀ x d l hsh tkd c ents) (ht : t.length ≤ 10) (hA : Al t) (hcn : cn = 97 ∨ cn = 65 ∨ cn = 98 ∨ cn = 66)
    (r : Room A 5 28) (F : Fr h₀ L s.heap m) (N : News h₀ L s.heap news) (X : (heapK w.params).In h₀) (T : Top p loose mean mg mb h₀)
    (h : ∀ h' tk D ys c', Fr h₀ L h' m → News h₀ L h' ((D, W.listOf (List.toArray ys) c') :: news) → (∀ q ∈ news, @Ne Nat q.1 D) → IntsAre ys (placesZ t cn) → Q (.ref D) { s with heap := h', toks := tk }) :
    wpAny (model PySem.Challenge.rw_pe0267_01.row.prog w) A (call (.ref 230) [.ref x, .str (S [cn]) t1]) Q E s :=
  wpAny_mono (law_places (q.keeps F.keep) ht hA hcn r (X.keeps F.keep) (T.keeps F.keep)) (fun v s' ⟨h', tk, e, k, D, ys, c', ev, hD, hf, hd⟩ => by
    subst e; subst ev
    obtain ⟨N', hn⟩ := newsCons F N k hD hf
    exact h h' tk D ys c' (frGrow F k) N' hn hd) fun _ _ e => e
theorem use_left {l : Addr} {vs : List Value} {c' : Nat} {ns : List Int} {z : Int} {tx : Tok} (F : Fr h₀ L s.heap m) (N : News h₀ L s.heap ((l, W.listOf (List.toArray vs) c') :: news)) (hi : IntsAre vs ns) (hlen : ns.length ≤ 1000) (hs : ns.Pairwise (· ≤ ·))
    (r : Room A 1 8) (X : (heapK w.params).In h₀) (T : Top p loose mean mg mb h₀)
    (h : ∀ h' tk k t', Fr h₀ L h' m → News h₀ L h' ((l, W.listOf (List.toArray vs) c') :: news) → IsLeft ns z k → Q (.int k t') { s with heap := h', toks := tk }) :
    wpAny (model PySem.Challenge.rw_pe0267_01.row.prog w) A (call (.ref 56) [.ref l, .int z tx]) Q E s :=
  wpAny_mono (bisect_left_plain (News.isList N (.head _)) hi hlen hs r (X.keeps F.keep) (T.keeps F.keep)) (fun v s' ⟨h', tk, e, k, kk, t', ev, hL⟩ => by
    subst e; subst ev
    exact h h' tk kk t' (frGrow F k) (newsGrow N k) hL) fun _ _ e => e
theorem use_right {l : Addr} {vs : List Value} {c' : Nat} {ns : List Int} {z : Int} {tx : Tok} (F : Fr h₀ L s.heap m) (N : News h₀ L s.heap ((l, W.listOf (List.toArray vs) c') :: news)) (hi : IntsAre vs ns) (hlen : ns.length ≤ 1000) (hs : ns.Pairwise (· ≤ ·))
    (r : Room A 1 8) (X : (heapK w.params).In h₀) (T : Top p loose mean mg mb h₀)
    (h : ∀ h' tk k t', Fr h₀ L h' m → News h₀ L h' ((l, W.listOf (List.toArray vs) c') :: news) → IsRight ns z k → Q (.int k t') { s with heap := h', toks := tk }) :
    wpAny (model PySem.Challenge.rw_pe0267_01.row.prog w) A (call (.ref 47) [.ref l, .int z tx]) Q E s :=
  wpAny_mono (bisect_right_plain (News.isList N (.head _)) hi hlen hs r (X.keeps F.keep) (T.keeps F.keep)) (fun v s' ⟨h', tk, e, k, kk, t', ev, hL⟩ => by
    subst e; subst ev
    exact h h' tk kk t' (frGrow F k) (newsGrow N k) hL) fun _ _ e => e
end

theorem places_sorted (t : List Nat) (c : Nat) : (placesZ t c).Pairwise (· ≤ ·) := by
  unfold placesZ placesOf
  rw [List.pairwise_map]
  refine List.Pairwise.filter _ ?_
  refine List.Pairwise.imp (R := (· < ·)) ?_ (List.pairwise_lt_range' (s := 0))
  intro a b h; omega
theorem places_len (t : List Nat) (c : Nat) : (placesZ t c).length ≤ t.length := by
  unfold placesZ; rw [List.length_map]; exact placesOf_len t c

/-- the end after one more sign -/
def endStep (t : List Nat) (size e : Int) (c : Nat) : Int := match (placesZ t c).find? fun p => decide (e ≤ p) with
  | some p => p + 1
  | none => size + 1
def endAt (t : List Nat) (size : Int) (word : List Nat) : Nat → Int
  | 0 => 0
  | k + 1 => endStep t size (endAt t size word k) (word.getD k 0)
theorem left_find {ns : List Int} {x k : Int} (h : IsLeft ns x k) : ns.find? (fun p => decide (x ≤ p)) = ns[k.toNat]? := by
  obtain ⟨h0, h1, h2, h3⟩ := h
  by_cases hk : k.toNat < ns.length
  · rw [List.getElem?_eq_getElem hk, List.find?_eq_some_iff_getElem]
    refine ⟨by have := h3 k.toNat ns[k.toNat] (List.getElem?_eq_getElem hk) (by omega); simp; omega, k.toNat, hk, rfl, fun j hj => ?_⟩
    have := h2 j ns[j] (List.getElem?_eq_getElem (by omega)) (by omega)
    simp; omega
  · rw [List.getElem?_eq_none (by omega), List.find?_eq_none]
    intro v hv
    obtain ⟨i, hi, rfl⟩ := List.getElem_of_mem hv
    have := h2 i ns[i] (List.getElem?_eq_getElem hi) (by omega)
    simp; omega
theorem endStep_in {t : List Nat} {size e k : Int} {c : Nat} (h : IsLeft (placesZ t c) e k) (hk : k < (placesZ t c).length) : endStep t size e c = (placesZ t c).getD k.toNat 0 + 1 := by
  unfold endStep
  rw [left_find h, List.getElem?_eq_getElem (by have := h.1; omega)]
  simp [List.getD, List.getElem?_eq_getElem (show k.toNat < (placesZ t c).length by have := h.1; omega)]
theorem endStep_out {t : List Nat} {size e k : Int} {c : Nat} (h : IsLeft (placesZ t c) e k) (hk : ¬ k < (placesZ t c).length) : endStep t size e c = size + 1 := by
  unfold endStep
  rw [left_find h, List.getElem?_eq_none (by have := h.1; omega)]

theorem law_ends {t a : List Nat} {x d l : Addr} {hsh : Int} {tkd : Tok} {c : Nat} {ents : List (Addr × Obj)} {t1 t2 : Tok} {size : Int} (q : TabIn t s.heap x d l hsh tkd c ents) (ht : t.length ≤ 10) (hA : Al t) (ha : a.length ≤ 40) (hAa : Al a)
    (r : Room A 6 32) (X : (heapK w.params).In s.heap) (T : Top p loose mean mg mb s.heap) :
    wpAny (model PySem.Challenge.rw_pe0267_01.row.prog w) A (call (.ref 237) [.str (S a) t1, .ref x, .int size t2]) (Ret s (IntList s.heap ((List.range (a.length + 1)).map (endAt t size a)))) E s := by
  revert X; k_fill; intro X
  obtain ⟨hdl, dp, fr, gd, un⟩ := A
  obtain rfl : hdl = none := r.hh
  k_dflt (refine' enter (binds := [(Str.ofString "word", .str (S a) t1), (Str.ofString "table", .ref x), (Str.ofString "size", .int size t2)]) X T ?k8 ?k6 ?k7 ?k9 ?kB ?_ ?c2 ?c3 ?c4 ?c5; (case k6 => k_is); (case k7 => k_is); (case k8 => (have := r.hd; omega)); (case k9 => exact BindsTo.of_eq rfl); (case c5 => decide); (case kB => exact locs rfl); (case c2 => exact rfl); (case c3 => exact rfl); (case c4 => exact rfl); k_whole; intro L' h' F' N'; (try dsimp only))
  refine with_room (Room.le (d' := 5) (u' := 28) (Room.deeper r) (by omega) (by omega)) ?_
  intro rr
  k_steps
  rename_i D _ _ _ F1 N1
  refine cut (h₀ := s.heap) (L := L') (fun m news => m (Str.ofString "ends") = some (.ref D) ∧ ∃ us c, news = [(D, W.listOf (List.toArray us) c)] ∧ IntsAre us ((List.range (a.length + 1)).map (endAt t size a))) (fun _ _ => False) ?_ ?_ (fun _ _ h => h.elim)
  · refine For_invV s.heap rfl rfl ?_
    k_steps
    rename Fr _ _ _ _ => F2; rename News _ _ _ _ => N2
    refine loopStr rfl F2 N2
      (fun i m news => m (Str.ofString "table") = some (.ref x) ∧ m (Str.ofString "size") = some (.int size t2) ∧ m (Str.ofString "ends") = some (.ref D) ∧ ∃ us c, news = [(D, W.listOf (List.toArray us) c)] ∧ IntsAre us ((List.range (i + 1)).map (endAt t size a)))
      ⟨rfl, rfl, rfl, _, _, rfl, .cons _ _ .nil⟩ ?_ ?_ (all_ascii hAa)
    · rintro i cc tv m₁ news₁ h₁ tk₁ I oI hc hlI ⟨etable, esize, eends, us, c1, rfl, hI⟩ hoff F3 N3
      change Fr s.heap L' _ _ at F3
      change News s.heap L' _ _ at N3
      have hi : i < a.length := by have := (Array.getElem?_eq_some_iff.mp hc).1; simpa [S] using this
      have hci : cc = a[i] := by have := hc; simp [S, hi] at this; exact this.symm
      change Fr s.heap L' _ (fun y => if y = Str.ofString "sign" then some (Value.str (S [cc]) tv) else m₁ y) at F3
      have hccA : cc = 97 ∨ cc = 65 ∨ cc = 98 ∨ cc = 66 := hci ▸ hAa _ (List.getElem_mem hi)
      have hDI : @Ne Nat D I := hoff _ (.head _)
      obtain ⟨tl, hlast⟩ : ∃ tl, us.getLast? = some (.int (endAt t size a i) tl) := ints_last hI (by simp [List.range_succ])
      k_steps
      refine use_places q ht hA hccA rr F3 N3 X T ?_
      intro h2 tk2 Dp ys c2 F4 N4 hn4 hys
      have hpI : @Ne Nat I Dp := hn4 _ (.head _)
      have hpD : @Ne Nat D Dp := hn4 _ (.tail _ (.head _))
      k_steps
      rename_i F5 N5
      have hpl : (placesZ t cc).length ≤ 10 := Nat.le_trans (places_len t cc) ht
      refine use_left (z := endAt t size a i) F5 N5 hys (by omega) (places_sorted t cc) (Room.le rr (by omega) (by omega)) X T ?_
      intro h3 tk3 kk t3 F6 N6 hleft
      have hk0 : 0 ≤ kk := hleft.1
      have hin := fun q => endStep_in (size := size) hleft q
      have hout := fun q => endStep_out (size := size) hleft q
      generalize hPZ : placesZ t cc = PZ at hys hpl hleft hin hout
      have hysl : ys.length = PZ.length := hys.length
      have hrng : (List.range (i + 1 + 1)).map (endAt t size a) = (List.range (i + 1)).map (endAt t size a) ++ [endStep t size (endAt t size a i) cc] := by
        rw [List.range_succ, List.map_append, List.map_singleton]
        show _ ++ [endStep t size (endAt t size a i) (a.getD i 0)] = _
        rw [show a.getD i 0 = cc by rw [hci]; simp [hi]]
      have husz : us.toArray.size ≤ sizeLine := by
        rw [List.size_toArray, hI.length, List.length_map, List.length_range]; exact Nat.le_trans (show i + 1 ≤ 41 by omega) (by size_fits)
      k_steps
      all_goals (
        rename Fr _ _ _ _ => F7; rename News _ _ _ _ => N7
        rw [List.push_toArray] at N7
        (try dsimp only)
        have N8 := fun q hq => N7 q (List.mem_cons_of_mem _ hq)
        refine Turn.next F7 N8 (fun q hq => ?_) ⟨etable, esize, eends, _, _, rfl, ?_⟩
        · rw [List.mem_singleton.mp hq]; exact hDI
        · rw [hrng]; refine hI.append ?_
          first
          | (rw [hin (by assumption)]; exact .cons _ _ .nil)
          | (rw [hout (by assumption)]; exact .cons _ _ .nil))
    · rintro h₂ tk₂ m₂ news₂ F5 N5 ⟨etable, esize, eends, us, c1, rfl, hI⟩
      exact Stop.next F5 N5 ⟨eends, us, c1, rfl, by rw [show (S a).cps.size = a.length by simp [S]] at hI; exact hI⟩
  · rintro h₂ tk₂ m₂ news₂ F5 N5 ⟨eends, us, c1, rfl, hI⟩
    dsimp only
    k_steps
    exact ⟨_, _, rfl, F5.keep, D, us, c1, rfl, N5.get (.head _), N5.fresh (.head _), hI⟩
end
section
variable {w : World} {A : Around} {s : Shared} {E : Value → Shared → Prop} {p : Program} {loose : List Str} {mean : ExcName → Option Value} {mg mb : Str → Option Value}


/-- the begin ahead of one more sign -/
def beginStep (t : List Nat) (b : Int) (c : Nat) : Int := match (placesZ t c).reverse.find? fun p => decide (p ≤ b - 1) with
  | some p => p
  | none => -1
def beginAt (t : List Nat) (word : List Nat) : Nat → Int
  | 0 => t.length
  | k + 1 => beginStep t (beginAt t word k) (word.reverse.getD k 0)

theorem right_find {ns : List Int} {x k : Int} (h : IsRight ns x k) (hk : 0 < k) : ns.reverse.find? (fun p => decide (p ≤ x)) = ns[(k - 1).toNat]? := by
  obtain ⟨h0, h1, h2, h3⟩ := h
  have hl : (k - 1).toNat < ns.length := by omega
  rw [List.getElem?_eq_getElem hl, List.find?_eq_some_iff_getElem]
  refine ⟨decide_eq_true (by have := h2 (k - 1).toNat ns[(k - 1).toNat] (List.getElem?_eq_getElem hl) (by omega); omega), ns.length - k.toNat, by rw [List.length_reverse]; omega, ?_, fun j hj => ?_⟩
  · rw [List.getElem_reverse]; congr 1; omega
  · rw [List.getElem_reverse]
    have := h3 (ns.length - 1 - j) ns[ns.length - 1 - j] (List.getElem?_eq_getElem (by omega)) (by omega)
    simp; omega
theorem right_none {ns : List Int} {x k : Int} (h : IsRight ns x k) (hk : ¬ 0 < k) : ns.reverse.find? (fun p => decide (p ≤ x)) = none := by
  obtain ⟨h0, h1, h2, h3⟩ := h
  rw [List.find?_eq_none]
  intro v hv
  obtain ⟨i, hi, rfl⟩ := List.getElem_of_mem (List.mem_reverse.mp hv)
  have := h3 i ns[i] (List.getElem?_eq_getElem hi) (by omega)
  simp; omega
theorem beginStep_in {t : List Nat} {b k : Int} {c : Nat} (h : IsRight (placesZ t c) (b - 1) k) (hk : 0 < k) : beginStep t b c = (placesZ t c).getD (k - 1).toNat 0 := by
  have hl : (k - 1).toNat < (placesZ t c).length := by have := h.2.1; omega
  unfold beginStep
  rw [right_find h hk, getD_at hl]
theorem beginStep_out {t : List Nat} {b k : Int} {c : Nat} (h : IsRight (placesZ t c) (b - 1) k) (hk : ¬ 0 < k) : beginStep t b c = -1 := by
  unfold beginStep
  rw [right_none h hk]

theorem ins_zero (us : List Value) (y : Value) : kl_ins us.toArray.toList 0 y = y :: us := by simp [kl_ins]
theorem law_begins {t a : List Nat} {x d l : Addr} {hsh : Int} {tkd : Tok} {c : Nat} {ents : List (Addr × Obj)} {t1 t2 : Tok} (q : TabIn t s.heap x d l hsh tkd c ents) (ht : t.length ≤ 10) (hA : Al t) (ha : a.length ≤ 40) (hAa : Al a)
    (r : Room A 6 32) (X : (heapK w.params).In s.heap) (T : Top p loose mean mg mb s.heap) :
    wpAny (model PySem.Challenge.rw_pe0267_01.row.prog w) A (call (.ref 244) [.str (S a) t1, .ref x]) (Ret s (IntList s.heap ((List.range (a.length + 1)).map (beginAt t a)).reverse)) E s := by
  revert X; k_fill; intro X
  obtain ⟨hdl, dp, fr, gd, un⟩ := A
  obtain rfl : hdl = none := r.hh
  have hla : (S a).length = a.length := S_len a
  have gx := q.hx
  have gd' := q.hd
  k_dflt (refine' enter (binds := [(Str.ofString "word", .str (S a) t1), (Str.ofString "table", .ref x)]) X T ?k8 ?k6 ?k7 ?k9 ?kB ?_ ?c2 ?c3 ?c4 ?c5; (case k6 => k_is); (case k7 => k_is); (case k8 => (have := r.hd; omega)); (case k9 => exact BindsTo.of_eq rfl); (case c5 => decide); (case kB => exact locs rfl); (case c2 => exact rfl); (case c3 => exact rfl); (case c4 => exact rfl); k_whole; intro L' h' F' N'; (try dsimp only))
  refine with_room (Room.le (d' := 5) (u' := 28) (Room.deeper r) (by omega) (by omega)) ?_
  intro rr
  k_steps
  refine wpAny_mono (len_table (q.keeps F'.keep) ht (Room.in1 (Room.le (d' := 2) (u' := 17) rr (by omega) (by omega))) (X.keeps F'.keep) (T.keeps F'.keep)) ?_ (fun _ _ e => e)
  rintro _ _ ⟨h2, tk2, rfl, k2, tl, rfl⟩
  have F2 := frGrow F' k2
  have N2 := newsGrow N' k2
  clear F' N'
  refine ⟨⟨by omega, by omega⟩, ?_⟩
  dsimp only
  k_steps
  rename_i D _ _ _ F1 N1
  refine cut (h₀ := s.heap) (L := L') (fun m news => m (Str.ofString "begins") = some (.ref D) ∧ ∃ us c, news = [(D, W.listOf (List.toArray us) c)] ∧ IntsAre us ((List.range (a.length + 1)).map (beginAt t a)).reverse) (fun _ _ => False) ?_ ?_ (fun _ _ h => h.elim)
  · refine For_invV s.heap rfl rfl ?_
    k_steps
    rw [slice_rev]
    rename Fr _ _ _ _ => F2; rename News _ _ _ _ => N2
    refine loopStr rfl F2 N2
      (fun i m news => m (Str.ofString "table") = some (.ref x) ∧ m (Str.ofString "begins") = some (.ref D) ∧ ∃ us c, news = [(D, W.listOf (List.toArray us) c)] ∧ IntsAre us ((List.range (i + 1)).map (beginAt t a)).reverse)
      ⟨rfl, rfl, _, _, rfl, .cons _ _ .nil⟩ ?_ ?_ (all_ascii hAa.rev)
    · rintro i cc tv m₁ news₁ h₁ tk₁ I oI hc hlI ⟨etable, ebeg, us, c1, rfl, hI⟩ hoff F3 N3
      change Fr s.heap L' _ _ at F3
      change News s.heap L' _ _ at N3
      have hi : i < a.reverse.length := by have := (Array.getElem?_eq_some_iff.mp hc).1; simpa [S] using this
      have hi2 : i < a.length := by rw [List.length_reverse] at hi; exact hi
      have hci : cc = a.reverse[i] := by have := hc; simp only [S, List.getElem?_toArray, List.getElem?_eq_getElem hi, Option.some.injEq] at this; exact this.symm
      change Fr s.heap L' _ (fun y => if y = Str.ofString "sign" then some (Value.str (S [cc]) tv) else m₁ y) at F3
      have hccA : cc = 97 ∨ cc = 65 ∨ cc = 98 ∨ cc = 66 := hci ▸ hAa.rev _ (List.getElem_mem hi)
      have hDI : @Ne Nat D I := hoff _ (.head _)
      have hBl : (((List.range (i + 1)).map (beginAt t a)).reverse).length = i + 1 := by simp
      have hB0 : (((List.range (i + 1)).map (beginAt t a)).reverse).getD 0 0 = beginAt t a i := by simp [List.range_succ]
      have hrng : ((List.range (i + 1 + 1)).map (beginAt t a)).reverse = beginStep t (beginAt t a i) cc :: ((List.range (i + 1)).map (beginAt t a)).reverse := by
        rw [List.range_succ, List.map_append, List.map_singleton, List.reverse_append]
        show [beginStep t (beginAt t a i) (a.reverse.getD i 0)] ++ _ = _
        rw [show a.reverse.getD i 0 = cc by rw [hci]; simp only [List.getD, List.getElem?_eq_getElem hi, Option.getD_some]]
        rfl
      generalize hBL : ((List.range (i + 1)).map (beginAt t a)).reverse = BL at hI hBl hB0 hrng
      k_steps
      refine use_places q ht hA hccA rr F3 N3 X T ?_
      intro h2 tk2 Dp ys c2 F4 N4 hn4 hys
      have hpI : @Ne Nat I Dp := hn4 _ (.head _)
      have hpD : @Ne Nat D Dp := hn4 _ (.tail _ (.head _))
      k_steps
      rename Fr _ _ _ _ => F5; rename News _ _ _ _ => N5
      have hpl : (placesZ t cc).length ≤ 10 := Nat.le_trans (places_len t cc) ht
      rw [show Int.toNat 0 = 0 from rfl, hB0]
      refine use_right (z := beginAt t a i - 1) F5 N5 hys (by omega) (places_sorted t cc) (Room.le rr (by omega) (by omega)) X T ?_
      intro h3 tk3 kk t3 F6 N6 hleft
      have hk0 : 0 ≤ kk := hleft.1
      have hk1 : kk ≤ (placesZ t cc).length := hleft.2.1
      have hin := fun q => beginStep_in hleft q
      have hout := fun q => beginStep_out hleft q
      generalize hPZ : placesZ t cc = PZ at hys hpl hleft hin hout hk1
      have hysl : ys.length = PZ.length := hys.length
      have husz : us.toArray.size ≤ sizeLine := by
        rw [List.size_toArray, hI.length, hBl]; exact Nat.le_trans (show i + 1 ≤ 41 by omega) (by size_fits)
      k_steps
      all_goals (
        rename Fr _ _ _ _ => F7; rename News _ _ _ _ => N7
        refine kl_insert (its := us.toArray) (n := c1) F7 N7 rfl rfl (.tail (Ne.symm hpD) (.tail (Ne.symm hDI) (.head (fun q hq => nomatch hq)))) husz ?_
        intro h₃ F8 N8
        rw [ins_zero] at N8
        k_steps
        (try dsimp only)
        have N9 := fun q hq => N8 q (List.mem_cons_of_mem _ hq)
        refine Turn.next F8 N9 (fun q hq => ?_) ⟨etable, ebeg, _, _, rfl, ?_⟩
        · rw [List.mem_singleton.mp hq]; exact hDI
        · rw [hrng]
          first
          | (rw [hin (by assumption)]; exact .cons _ _ hI)
          | (rw [hout (by assumption)]; exact .cons _ _ hI))
    · rintro h₂ tk₂ m₂ news₂ F5 N5 ⟨etable, ebeg, us, c1, rfl, hI⟩
      exact Stop.next F5 N5 ⟨ebeg, us, c1, rfl, by rw [show (S a.reverse).cps.size = a.length by simp [S]] at hI; exact hI⟩
  · rintro h₂ tk₂ m₂ news₂ F5 N5 ⟨eends, us, c1, rfl, hI⟩
    dsimp only
    k_steps
    exact ⟨_, _, rfl, F5.keep, D, us, c1, rfl, N5.get (.head _), N5.fresh (.head _), hI⟩
end
end Mine
end

section
open PySem PySem.W PyProof.Rows PySem.Calls
set_option Elab.async false
set_option maxRecDepth 100000
set_option maxHeartbeats 8000000
namespace Mine
variable {w : World} {A : Around} {s : Shared} {E : Value → Shared → Prop} {p : Program} {loose : List Str} {mean : ExcName → Option Value} {mg mb : Str → Option Value}
local macro_rules | `(tactic| k_steps) => `(tactic| repeat' (first
  | (k_unfold; (try dsimp only))
  | ((fail_if_success (with_reducible refine gWhile ?_)); (fail_if_success (with_reducible refine gCall ?_)); (try dsimp only); walk1)
  | fail "no step"))
local macro_rules | `(tactic| walk_at "eval Name") => `(tactic| (k_here; k_dflt (refine' ld ?k1 ?k2 ?_; (case k1 => k_asm); (case k2 => assumption); k_whole)))
local macro_rules | `(tactic| walk_at "loadName") => `(tactic| (k_here; k_dflt (refine' ldn ?k1 ?k2 ?_; (case k1 => k_asm); (case k2 => assumption); k_whole)))

theorem fnUp {f : Addr} {h h' : Heap} (k : ∀ b o, h.get? b = some o → h'.get? b = some o) (x : FnAt f h) : FnAt f h' := let ⟨a, b, c, d, e⟩ := x; ⟨a, b, c, d, k _ _ e⟩
theorem bisect_left_key {l f : Addr} {vs : List Value} {ns : List Int} {gk : Int → Int} {x : Int} {tx : Tok} (hl : s.heap.IsList l vs.toArray) (hi : IntsAre vs ns) (hlen : ns.length ≤ 1000) (hs : (ns.map gk).Pairwise (· ≤ ·)) (hfn : FnAt f s.heap)
    (hkey : ∀ (A' : Around) (s' : Shared) (n : Int) (t : Tok) (E' : Value → Shared → Prop), Room A' 5 28 → s.heap.StaysIn s'.heap → n ∈ ns → wpAny (model PySem.Challenge.rw_pe0267_01.row.prog w) A' (call (.ref f) [.int n t]) (Ret s' fun v _ => ∃ t, v = .int (gk n) t) E' s')
    (r : Room A 6 36) (X : (heapK w.params).In s.heap) (T : Top p loose mean mg mb s.heap) :
    wpAny (model PySem.Challenge.rw_pe0267_01.row.prog w) A (call (.ref 56) [.ref l, .int x tx] [(Str.ofString "key", .ref f)]) (Ret s fun v _ => ∃ (k : Int) (t : Tok), v = .int k t ∧ IsLeft (ns.map gk) x k) E s := by
  revert X; k_fill; intro X
  obtain ⟨hdl, dp, fr, gd, un⟩ := A
  obtain rfl : hdl = none := r.hh
  k_dflt (refine' enter (binds := [(Str.ofString "a", .ref l), (Str.ofString "x", .int x tx), (Str.ofString "lo", .int 0 305), (Str.ofString "hi", .none), (Str.ofString "key", .ref f)]) X T ?k8 ?k6 ?k7 ?k9 ?kB ?_ ?c2 ?c3 ?c4 ?c5; (case k6 => k_is); (case k7 => k_is); (case k8 => (have := r.hd; omega)); (case k9 => exact kp_binds X (fun _ => by kernel_rfl)); (case c5 => decide); (case kB => exact locs rfl); (case c2 => exact rfl); (case c3 => exact rfl); (case c4 => exact rfl); k_whole; intro L' h' F' N'; (try dsimp only))
  refine with_room (Room.le (d' := 5) (u' := 28) (Room.deeper r) (by omega) (by omega)) ?_
  intro rr
  k_steps
  rename Fr _ _ _ _ => F1
  rename News _ _ _ _ => N1
  have hml : (ns.map gk).length = ns.length := List.length_map ..
  have hmg : ∀ i : Nat, i < ns.length → (ns.map gk).getD i 0 = gk (ns.getD i 0) := fun i hi => by simp [List.getD, List.getElem?_eq_getElem hi]
  have hmem : ∀ i : Nat, i < ns.length → ns.getD i 0 ∈ ns := fun i hi => by simp [List.getD, List.getElem?_eq_getElem hi]
  generalize hMS : ns.map gk = MS at hs hml hmg
  refine While_inv (n₀ := ((ns.length : Int) - 0).toNat) (fun n m news => news = [] ∧ m (Str.ofString "a") = some (.ref l) ∧ m (Str.ofString "x") = some (.int x tx) ∧ m (Str.ofString "key") = some (.ref f) ∧ ∃ (lo hi : Int) (t1 t2 : Tok), m (Str.ofString "lo") = some (.int lo t1) ∧ m (Str.ofString "hi") = some (.int hi t2) ∧ n = (hi - lo).toNat ∧ 0 ≤ lo ∧ lo ≤ hi ∧ hi ≤ ns.length ∧ 
    (∀ (i : Nat) (v : Int), MS[i]? = some v → (i : Int) < lo → v < x) ∧ (∀ (i : Nat) (v : Int), MS[i]? = some v → hi ≤ i → ¬ v < x)) F1 N1 ⟨rfl, rfl, rfl, rfl, 0, ns.length, _, _, rfl, rfl, rfl, by omega, by omega, by omega, by intro i v _ h; omega, by intro i v e h; have := (List.getElem?_eq_some_iff.mp e).1; omega⟩ ?_
  rintro n m₁ news₁ h₁ tk₁ F2 N2 ⟨rfl, ea, ex, ek, lo, hi', t1, t2, elo, ehi, en, h0, h1, h2, h3, h4⟩
  clear F1 N1
  have hhalf : lo < hi' → lo ≤ (lo + hi').fdiv 2 ∧ (lo + hi').fdiv 2 < hi' := fun q => half_in q h0
  k_steps
  · rename Fr _ _ _ _ => F3; rename News _ _ _ _ => N3
    rename lo < hi' => hlt
    obtain ⟨hm1, hm2⟩ := hhalf hlt
    k_dflt (refine callWith_F (fnUp F3.keep hfn) ?_)
    k_steps
    · exact fnUp F3.keep hfn
    refine wpAny_mono (hkey _ _ _ _ _ rr F3.keep (hmem _ (by omega))) ?_ (fun _ _ e => e)
    rintro _ _ ⟨h5, tk5, rfl, k5, t5, rfl⟩
    have F5 := frGrow F3 k5
    have N5 := newsGrow N3 k5
    clear F3 N3
    rw [← hmg _ (by omega)]
    dsimp only
    k_steps
    · rename Fr _ _ _ _ => F3; rename News _ _ _ _ => N3; exact WhileStep.intro F3 N3 (by omega) ⟨rfl, ea, ex, ek, _, _, _, _, rfl, ehi, rfl, by omega, by omega, by omega, left_up hs hlt h0 (by omega) (by assumption), h4⟩
    · rename Fr _ _ _ _ => F3; rename News _ _ _ _ => N3; exact WhileStep.intro F3 N3 (by omega) ⟨rfl, ea, ex, ek, _, _, _, _, elo, rfl, rfl, by omega, by omega, by omega, h3, left_down hs hlt h0 (by omega) (by assumption)⟩
  · exact ⟨_, _, rfl, F2.keep, lo, t1, rfl, h0, by omega, h3, fun i v e q => h4 i v e (by omega)⟩
end Mine
end

section
open PySem PySem.W PyProof.Rows PySem.Calls
set_option Elab.async false
set_option maxRecDepth 100000
set_option maxHeartbeats 8000000
namespace Mine
section
variable {prog : Program} {w : World} {A : Around} {s : Shared} {p : Program} {loose : List Str} {mean : ExcName → Option Value} {mg mb : Str → Option Value}
  {name qual : Str} {params : Arguments} {body : Expr} {scope : Scope} {pm ctv : Value} {cl : List (Str × Addr)} {f c' : Addr} {binds : List (Str × Value)} {vs : List Value} {kw : List (Str × Value)} {Q E : Value → Shared → Prop}

/-- a lambda is called -/
theorem enterL (T : Top p loose mean mg mb s.heap) (hr : A.depth < recursionLimit)
    (ho : s.heap.get? f = some (kla_obj name qual params body scope cl pm c' ctv)) (hcd : s.heap.CodeRec (.ref c') qual)
    (hbind : bindArgs (kla_fn name qual params body scope cl pm (.ref c') ctv) ⟨vs, kw⟩ = pure binds) (hloc : ∀ y ∈ binds, scope.names.lookup y.1 = some .local)
    (h : ∀ L' h₁, Fr s.heap L' h₁ (fun y => binds.reverse.lookup y) → News s.heap L' h₁ [] →
      wpAny (model prog w) (A.deeper (envX qual scope L' f (.ref c') cl)) (eval body (envX qual scope L' f (.ref c') cl)) (fun v s' => Q v s') (fun _ _ => False) { s with heap := h₁, toks := s.toks + binds.length })
    (hco : scope.isCoroutine = false) (hgen : scope.isGenerator = false) (hk : scope.kind = .function) (hcell : ∀ x ∈ scope.names, x.2 ≠ .cell) :
    wpAny (model prog w) A (call (.ref f) vs kw) Q E s := by
  refine wpAny_call (kla_callFunE hr ho rfl hco hgen rfl hcd ?_)
  rw [hbind]
  refine wpAny_pure (wpAny_newFunctionEnv hcell hloc (fun h₁ hns hsb => ⟨(T.nolimit).fresh _ hsb, ?_⟩) hk)
  show codeAny _ _ (.expr body (envX qual scope s.heap.objs.size f (.ref c') cl)) _ _
  have hk₁ : ∀ b o, s.heap.get? b = some o → h₁.get? b = some o := fun b o e => hsb.extBut b o (Nat.ne_of_lt (Heap.lt_size e)) (Heap.get?_push_of_some _ e)
  exact kla_codeExpr (wpAny_mono (h s.heap.objs.size h₁ ⟨hns, hk₁, Nat.le_refl _⟩ News.nil) (fun v s' hl => hl) fun _ _ y => y.elim)
end
section
variable {M : Model} {A : Around} {E : Value → Shared → Prop} {s : Shared} {h₀ : Heap} {L a c : Addr} {m : Str → Option Value} {cn : Str} {cs : Scope} {ccd v : Value} {cl : List (Str × Addr)} {x : Str} {pos : Pos} {o : Obj} {Q : Value → Shared → Prop}
/-- a name that the lambda has from outside; its cell stands in the base -/
theorem lname (F : Fr h₀ L s.heap m) (hc : cl.lookup x = some c) (ho : h₀.get? c = some o) (hd : o.data = .cell (some v)) (h : Q v s)
    (hk : (envX cn cs L a ccd cl).scope.kind = .function) (hx : (envX cn cs L a ccd cl).kindOf x = some .free) (hb : (x == ("__debug__" : Str)) = false := by decide) (hn : (x == ("__classdict__" : Str)) = false := by decide) :
    wpAny M A (eval (.Name x pos) (envX cn cs L a ccd cl)) Q E s := wpAny_Name (wpAny_loadName_free hk hx hc ⟨o, F.keep _ _ ho, hd⟩ h hn) hb
end

/-- a lambda's table: empty, or its code stands in it -/
def PsOk (pos : Pos) (qual : Str) (ps : Array Value) (rest : List (Addr × Obj)) : Prop :=
  ps = #[] ∨ ∃ c' oc vs t, ps = #[rawInt pos.line, rawInt pos.col, .ref c'] ∧ (c', oc) ∈ rest ∧ oc.data = .fields vs ∧ vs[1]? = some (.str qual t)
theorem PsOk.mono {pos : Pos} {qual : Str} {ps : Array Value} {rest rest' : List (Addr × Obj)} (h : PsOk pos qual ps rest) (k : ∀ q ∈ rest, q ∈ rest') : PsOk pos qual ps rest' := by
  rcases h with h | ⟨c', oc, vs, t, e, hm, r⟩
  · exact .inl h
  · exact .inr ⟨c', oc, vs, t, e, k _ hm, r⟩

section
variable {M : Model} {A : Around} {E : Value → Shared → Prop} {s : Shared} {h₀ : Heap} {L a c P : Addr} {m mg mb : Str → Option Value} {cn : Str} {cs : Scope} {cl : List (Str × Addr)} {rest : List (Addr × Obj)}
  {p : Program} {loose : List Str} {mean : ExcName → Option Value} {params : Arguments} {body : Expr} {scope : Scope} {ps : Array Value} {pos : Pos} {clos : List (Str × Addr)} {Q : Value → Shared → Prop}
theorem lam_make {qual : Str} (hqual : (envX cn cs L a (.ref c) cl).qual ++ "<lambda>" = qual) (F : Fr h₀ L s.heap m) (N : News h₀ L s.heap ((P, tabObj ps) :: rest)) (hoff : ∀ q ∈ rest, q.1 ≠ P) (T : Top p loose mean mg mb h₀) (C : CodeHd h₀ c P)
    (hok : ps = #[] ∨ ∃ c', ps = #[rawInt pos.line, rawInt pos.col, .ref c'] ∧ h₀.CodeRec (.ref c') qual)
    (hcl : closureFor scope (envX cn cs L a (.ref c) cl) = pure clos) (hdef : defaultsOf params (envX cn cs L a (.ref c) cl) = ([], []))
    (h : ∀ f c' ctv h' tk extra, Fr h₀ L h' m → News h₀ L h' ((f, kla_obj "<lambda>" qual params body scope clos ((mg "__name__").getD .none) c' ctv) :: (P, tabObj #[rawInt pos.line, rawInt pos.col, .ref c']) :: (extra ++ rest)) →
      h'.CodeRec (.ref c') qual → ((extra = [] ∧ ps = #[rawInt pos.line, rawInt pos.col, .ref c']) ∨ ∃ oc vs t, extra = [(c', oc)] ∧ oc.data = .fields vs ∧ vs[1]? = some (.str qual t)) →
      (∀ q ∈ (P, tabObj ps) :: rest, q.1 < f) → (∀ q ∈ extra, q.1 < f ∧ ∀ q' ∈ (P, tabObj ps) :: rest, q'.1 < q.1) → Q (.ref f) { s with heap := h', toks := tk }) :
    wpAny M A (eval (.Lambda params body scope pos) (envX cn cs L a (.ref c) cl)) Q E s := by
  subst hqual
  refine kla_eval hdef ?_
  rcases hok with rfl | ⟨c', rfl, hrec⟩
  · refine kla_nest F N T C rfl (.head hoff) (by exact True.intro) rfl hcl ?_
    intro f c' oc vs t ctv h' tk F' N' hd hv hlt hcf
    refine h f c' ctv h' tk [(c', oc)] F' (fun q hq => N' q ?_) ⟨c', oc, vs, t, rfl, (N' _ (.tail _ (.head _))).1, hd, hv⟩ (.inr ⟨oc, vs, t, rfl, hd, hv⟩) (fun q hq => Nat.lt_trans (hlt q hq) hcf) (fun q hq => ?_)
    · rcases List.mem_cons.mp hq with rfl | hq
      · exact .head _
      · rcases List.mem_cons.mp hq with rfl | hq
        · exact .tail _ (.tail _ (.head _))
        · rcases List.mem_cons.mp hq with rfl | hq
          · exact .tail _ (.head _)
          · exact .tail _ (.tail _ (.tail _ hq))
    · rw [List.mem_singleton.mp hq]; exact ⟨hcf, hlt⟩
  · refine kla_hit F N T C rfl (.head _) (by exact True.intro) (by simp [codeAmong, rawInt]; rfl) hcl ?_
    intro f ctv h' tk F' N' hlt
    refine h f c' ctv h' tk [] F' N' ?_ (.inl ⟨rfl, rfl⟩) hlt (fun q hq => nomatch hq)
    obtain ⟨c2, oc, vs, t, e, e1, e2, e3⟩ := hrec
    exact ⟨c2, oc, vs, t, e, F'.keep _ _ e1, e2, e3⟩
end
end Mine
end

section
open PySem PySem.W PyProof.Rows PySem.Calls
set_option Elab.async false
set_option maxRecDepth 100000
set_option maxHeartbeats 8000000
namespace Mine
variable {w : World} {A : Around} {s : Shared} {E : Value → Shared → Prop} {p : Program} {loose : List Str} {mean : ExcName → Option Value} {mg mb : Str → Option Value}
local macro_rules | `(tactic| k_steps) => `(tactic| repeat' (first
  | (k_unfold; (try dsimp only))
  | ((fail_if_success (with_reducible refine gWhile ?_)); (fail_if_success (with_reducible refine gFor ?_)); (fail_if_success (with_reducible refine gIter ?_)); (fail_if_success (with_reducible refine gComp ?_)); (fail_if_success (with_reducible refine gLam ?_)); (fail_if_success (with_reducible refine gCall ?_)); (try dsimp only); walk1)
  | fail "no step"))

local macro_rules | `(tactic| walk_at "eval Name") => `(tactic| (k_here; k_dflt (refine' lname ?F ?c ?m ?d ?_ ?a ?b; (case a => rfl); (case b => rfl); (case F => k_asm); (case c => rfl); (case m => with_reducible assumption); (case d => with_reducible assumption); k_whole)))
theorem nat_in_range {a n : Nat} {x : Int} (h : x ∈ rangeKs (a : Int) n) : ∃ j : Nat, x = (j : Int) ∧ a ≤ j ∧ j < a + n := by
  unfold rangeKs at h
  obtain ⟨i, hi, rfl⟩ := List.mem_map.mp h
  have := List.mem_range.mp hi
  exact ⟨a + i, by omega, by omega, by omega⟩

abbrev lamPos : Pos := { line := 216, col := 34, endLine := 216, endCol := 83 }
abbrev lamQual : Str := (Str.ofString "_law_halved" ++ ".<locals>.") ++ "<lambda>"

/-- near or not, as a number -/
def nearZ (a b : List Nat) (over : Int) (n : Int) : Int := if near a (b.take n.toNat) over then 1 else 0

theorem near_ecell {a b : List Nat} {over : Int} {j : Nat} (hj : j ≤ b.length) : near a (b.take j) over = decide (ecell a b a.length j ≤ over) := by
  unfold near ecell
  rw [List.take_of_length_le (Nat.le_refl _), List.length_take, Nat.min_eq_left hj]
  apply decide_eq_decide.mpr
  omega
theorem nearZ_mono {a b : List Nat} {over : Int} {i j : Nat} (h : i ≤ j) (hj : j ≤ b.length) : nearZ a b over i ≤ nearZ a b over j := by
  unfold nearZ
  rw [show ((i : Int)).toNat = i by omega, show ((j : Int)).toNat = j by omega, near_ecell (by omega), near_ecell hj]
  have hm := ecell_mono' a b a.length (j - i) i (by omega)
  rw [show i + (j - i) = j by omega] at hm
  by_cases h1 : ecell a b a.length i ≤ over
  · rw [decide_eq_true h1, decide_eq_true (by omega)]; exact Int.le_refl _
  · rw [decide_eq_false h1]; simp only [Bool.false_eq_true, if_false]; split <;> omega
theorem nearZ_sorted {a b : List Nat} {over : Int} (hab : a.length ≤ b.length) : ((rangeKs (a.length : Int) (b.length + 1 - a.length)).map (nearZ a b over)).Pairwise (· ≤ ·) := by
  unfold rangeKs
  rw [List.map_map, List.pairwise_map]
  refine List.pairwise_lt_range.imp_of_mem ?_
  intro x y hx hy hlt
  have h1 := List.mem_range.mp hy
  show nearZ a b over ((a.length : Int) + (x : Int)) ≤ nearZ a b over ((a.length : Int) + (y : Int))
  have := nearZ_mono (a := a) (b := b) (over := over) (i := a.length + x) (j := a.length + y) (by omega) (by omega)
  rw [Int.natCast_add, Int.natCast_add] at this
  exact this

/-- what the halving tells -/
def halvedOf (a b : List Nat) (over : Int) : List Int := firstOf (erow a b a.length) over a.length

theorem cut_filter {RK : List Int} {P : Int → Bool} {k : Nat} (hk : k ≤ RK.length) (h1 : ∀ i v, RK[i]? = some v → i < k → P v = false) (h2 : ∀ i v, RK[i]? = some v → k ≤ i → P v = true) :
    (RK.drop k).take (min (k + 1) RK.length - k) = (RK.filter P).take 1 := by
  have e1 : (RK.take k).filter P = [] := by
    rw [List.filter_eq_nil_iff]
    intro v hv
    obtain ⟨i, hi, rfl⟩ := List.getElem_of_mem hv
    have hi2 : i < k := by rw [List.length_take] at hi; omega
    have := h1 i RK[i] (List.getElem?_eq_getElem (by omega)) hi2
    rw [List.getElem_take, this]; decide
  have e2 : (RK.drop k).filter P = RK.drop k := by
    rw [List.filter_eq_self]
    intro v hv
    obtain ⟨i, hi, rfl⟩ := List.getElem_of_mem hv
    rw [List.length_drop] at hi
    have := h2 (k + i) RK[k + i] (List.getElem?_eq_getElem (by omega)) (by omega)
    rw [List.getElem_drop, this]
  have e3 : RK.filter P = RK.drop k := by
    conv => lhs; rw [← List.take_append_drop k RK, List.filter_append, e1, e2, List.nil_append]
  rw [e3]
  rcases Nat.lt_or_ge k RK.length with h | h
  · rw [show min (k + 1) RK.length - k = 1 by omega]
  · rw [List.drop_eq_nil_of_le h, List.take_nil, List.take_nil]

theorem halved_val {a b : List Nat} {over kk : Int} (hab : a.length ≤ b.length) (h : IsLeft ((rangeKs (a.length : Int) (b.length + 1 - a.length)).map (nearZ a b over)) 1 kk) :
    ((rangeKs (a.length : Int) (b.length + 1 - a.length)).drop kk.toNat).take (min (kk + 1).toNat (rangeKs (a.length : Int) (b.length + 1 - a.length)).length - kk.toNat) = halvedOf a b over := by
  obtain ⟨h0, h1, h2, h3⟩ := h
  rw [List.length_map] at h1
  rw [show (kk + 1).toNat = kk.toNat + 1 by omega]
  have at_ : ∀ (i : Nat) (v : Int), (rangeKs (a.length : Int) (b.length + 1 - a.length))[i]? = some v → ((rangeKs (a.length : Int) (b.length + 1 - a.length)).map (nearZ a b over))[i]? = some (nearZ a b over v) := fun i v e => by
    rw [List.getElem?_map, e]; rfl
  rw [cut_filter (P := fun v => near a (b.take v.toNat) over) (by omega) ?_ ?_]
  · unfold halvedOf firstOf
    rw [erow_len]
    show (List.filter _ (rangeKs (a.length : Int) (b.length + 1 - a.length))).take 1 = (List.filter _ (rangeKs (a.length : Int) (b.length + 1 - a.length))).take 1
    congr 1
    apply List.filter_congr
    intro v hv
    obtain ⟨j, rfl, hj1, hj2⟩ := nat_in_range hv
    rw [show ((j : Int)).toNat = j by omega, near_ecell (by omega), erow_get _ _ _ _ (by omega)]
  · intro i v e hi
    have := h2 i _ (at_ i v e) (by omega)
    unfold nearZ at this
    split at this
    · omega
    · rename_i q; simpa using q
  · intro i v e hi
    have := h3 i _ (at_ i v e) (by omega)
    unfold nearZ at this
    split at this
    · assumption
    · omega

theorem halved {h₀ : Heap} {L : Addr} {m : Str → Option Value} {ps : Array Value} {rest : List (Addr × Obj)} {a b : List Nat} {over : Int} {t1 t2 t3 : Tok} {Q : Value → Shared → Prop}
    (F : Fr h₀ L s.heap m) (N : News h₀ L s.heap ([(253, tabObj ps)] ++ rest)) (hoff : ∀ q ∈ rest, ∀ p ∈ [(253, tabObj ps)], q.1 ≠ p.1) (C : CodeHd h₀ 257 253) (hps : PsOk lamPos lamQual ps rest)
    (ha : a.length ≤ 10) (hb : b.length ≤ 10) (hab : a.length ≤ b.length) (hA : Al a) (hB : Al b)
    (r : Room A 7 40) (X : (heapK w.params).In h₀) (T : Top p loose mean mg mb h₀)
    (h : ∀ h' tk D us ps' extra, Fr h₀ L h' m → News h₀ L h' ((D, W.listOf (List.toArray us) 0) :: (253, tabObj ps') :: (extra ++ rest)) → ((extra = [] ∧ ps' = ps) ∨ PsOk lamPos lamQual ps' extra) → IntsAre us (halvedOf a b over) →
      @LE.le Nat _ s.heap.objs.size D → (∀ q ∈ extra, @LE.le Nat _ s.heap.objs.size q.1 ∧ @LT.lt Nat _ q.1 D) → Q (.ref D) { s with heap := h', toks := tk }) :
    wpAny (model PySem.Challenge.rw_pe0267_01.row.prog w) A (call (.ref 258) [.str (S a) t1, .str (S b) t2, .int over t3]) Q E s := by
  revert X; k_fill; intro X
  obtain ⟨hdl, dp, fr, gd, un⟩ := A
  obtain rfl : hdl = none := r.hh
  have hla : (S a).length = a.length := S_len a
  have hlb : (S b).length = b.length := S_len b
  have hst := hide_stays F N
  k_dflt (refine' enterC (news := [(253, tabObj ps)]) (g := hideAll s.heap ([(253, tabObj ps)].map (·.1))) (binds := [(Str.ofString "word", .str (S a) t1), (Str.ofString "text", .str (S b) t2), (Str.ofString "over", .int over t3)]) (fun _ _ e => of_hideAll _ e) (Nat.le_of_eq (hideAll_size _ _)) (fun q hq => ⟨(N q (List.mem_append_left _ hq)).1, hideAll_none _ (List.mem_map_of_mem hq)⟩) (X.keeps hst) (T.keeps hst) ?k8 ?k6 ?k7 ?k9 ?kB ?kD ?_ ?c2 ?c3 ?c4; (case k6 => k_is); (case k7 => k_is); (case k8 => (have := r.hd; omega)); (case k9 => exact BindsTo.of_eq rfl); (case kB => exact rfl); (case kD => decide +kernel); (case c2 => exact rfl); (case c3 => exact rfl); (case c4 => exact rfl); k_whole; intro L' h' tk' cells F' N' Y' hlt'; (try dsimp only))
  have hrest := hide_rest N hoff
  generalize hg : hideAll s.heap ([(253, tabObj ps)].map (·.1)) = g at hst hrest F' N'
  have X' := X.keeps hst
  have T' := T.keeps hst
  refine with_room (Room.le (d' := 6) (u' := 36) (Room.deeper r) (by omega) (by omega)) ?_
  intro rr
  have hY := CellsAre.three Y'
  obtain ⟨oO, oT, oW, hE', dO, dT, dW⟩ := hY
  subst hE'
  clear Y'
  (try simp only [List.cons_append, List.nil_append] at N')
  change oW.data = .cell (some (.str (S a) t1)) at dW
  change oT.data = .cell (some (.str (S b) t2)) at dT
  change oO.data = .cell (some (.int over t3)) at dO
  have h253 : @LT.lt Nat _ 253 L' := hlt' _ (.head _)
  clear hlt'
  have hok : ps = #[] ∨ ∃ c', ps = #[rawInt lamPos.line, rawInt lamPos.col, .ref c'] ∧ g.CodeRec (.ref c') lamQual := by
    rcases hps with h | ⟨c', oc, vs, t, e, hm, hd, hv⟩
    · exact .inl h
    · exact .inr ⟨c', e, c', oc, vs, t, rfl, hrest _ hm, hd, hv⟩
  k_steps
  rename Fr _ _ _ _ => F1; rename News _ _ _ _ => N1
  rename_i D vs1 cc1 _ _ hI1 l1 _
  rw [hla, hlb, show ((b.length : Int) + 1 - (a.length : Int)).toNat = b.length + 1 - a.length by omega] at hI1
  have N2 : News g L' _ ((253, tabObj ps) :: [(D, W.listOf vs1.toArray cc1), (L' + 1 + 1 + 1, oO), (L' + 1 + 1, oT), (L' + 1, oW)]) := fun q hq => N1 q (by
    rcases List.mem_cons.mp hq with rfl | hq
    · exact .tail _ (.tail _ (.tail _ (.tail _ (.head _))))
    · rcases List.mem_cons.mp hq with rfl | hq
      · exact .head _
      · rcases List.mem_cons.mp hq with rfl | hq
        · exact .tail _ (.head _)
        · rcases List.mem_cons.mp hq with rfl | hq
          · exact .tail _ (.tail _ (.head _))
          · rcases List.mem_cons.mp hq with rfl | hq
            · exact .tail _ (.tail _ (.tail _ (.head _)))
            · exact nomatch hq)
  clear N1
  k_dflt (refine lam_make (qual := lamQual) rfl F1 N2 ?_ T' (C.keeps hst) hok rfl rfl ?_)
  · intro q hq
    rcases List.mem_cons.mp hq with rfl | hq
    · exact Nat.ne_of_gt l1.2.2.2
    · rcases List.mem_cons.mp hq with rfl | hq
      · exact Nat.ne_of_gt (show @LT.lt Nat _ 253 (L' + 1 + 1 + 1) by omega)
      · rcases List.mem_cons.mp hq with rfl | hq
        · exact Nat.ne_of_gt (show @LT.lt Nat _ 253 (L' + 1 + 1) by omega)
        · rcases List.mem_cons.mp hq with rfl | hq
          · exact Nat.ne_of_gt (show @LT.lt Nat _ 253 (L' + 1) by omega)
          · exact nomatch hq
  intro f c' ctv h2 tk2 extra F2 N3 hrec hex hltf hltx
  have gD := N3.get (.tail _ (.tail _ (List.mem_append_right _ (.head _))))
  have gO := N3.get (.tail _ (.tail _ (List.mem_append_right _ (.tail _ (.head _)))))
  have gT := N3.get (.tail _ (.tail _ (List.mem_append_right _ (.tail _ (.tail _ (.head _))))))
  have gW := N3.get (.tail _ (.tail _ (List.mem_append_right _ (.tail _ (.tail _ (.tail _ (.head _)))))))
  have gF := N3.get (.head _)
  clear N2 F1
  k_steps
  have hkey : ∀ (A' : Around) (s' : Shared) (n : Int) (t : Tok) (E' : Value → Shared → Prop), Room A' 5 28 → h2.StaysIn s'.heap → n ∈ rangeKs (a.length : Int) (b.length + 1 - a.length) →
      wpAny (model PySem.Challenge.rw_pe0267_01.row.prog w) A' (call (.ref f) [.int n t]) (Ret s' fun v _ => ∃ t, v = .int (nearZ a b over n) t) E' s' := by
    intro A' s' n t E' rA hst' hn
    obtain ⟨j, rfl, hj1, hj2⟩ := nat_in_range hn
    obtain ⟨hdl', dp', fr', gd2, un'⟩ := A'
    obtain rfl : hdl' = none := rA.hh
    have hF' := fun b o e => hst' b o (F2.keep b o e)
    have X2 := X'.keeps hF'
    have T2 := T'.keeps hF'
    have sO := hst' _ _ gO
    have sT := hst' _ _ gT
    have sW := hst' _ _ gW
    have hrec' : s'.heap.CodeRec (.ref c') lamQual := by
      obtain ⟨c2, oc, vs, t, e, e1, e2, e3⟩ := hrec
      exact ⟨c2, oc, vs, t, e, hst' _ _ e1, e2, e3⟩
    k_dflt (refine enterL (binds := [(Str.ofString "size", .int (j : Int) t)]) T2 (by have := rA.hd; omega) (hst' _ _ gF) hrec' rfl (locs rfl) ?_ rfl rfl rfl (by decide))
    intro L2 h3 F3 N4
    refine with_room (Room.le (d' := 3) (u' := 20) (Room.deeper rA) (by omega) (by omega)) ?_
    intro rr2
    clear F2 N3 F N
    (try dsimp only)
    k_steps
    rename Fr _ _ _ _ => F6
    rw [slice_to]
    refine wpAny_mono (within (by omega) (by rw [List.length_take]; omega) hA (hB.take j) rr2 (X2.keeps F6.keep) (T2.keeps F6.keep)) ?_ (fun _ _ e => e)
    rintro _ _ ⟨h5, tk5, rfl, k5, t5, rfl⟩
    exact ⟨h5, tk5, rfl, fun b o e => k5 b o (F6.keep b o e), t5, by unfold nearZ; rw [show ((j : Int)).toNat = j by omega]⟩
  have hrl : (rangeKs (a.length : Int) (b.length + 1 - a.length)).length = b.length + 1 - a.length := by simp [rangeKs]
  k_dflt (refine wpAny_mono (bisect_left_key (s := ⟨h2, _, _, _, _⟩) (f := f) (vs := vs1) (ns := rangeKs (a.length : Int) (b.length + 1 - a.length)) (gk := nearZ a b over) ⟨_, gD, rfl, _, rfl⟩ hI1 (by omega) (nearZ_sorted hab) ⟨_, _, _, _, gF⟩ hkey (Room.le rr (by omega) (by omega)) (X'.keeps F2.keep) (T'.keeps F2.keep)) ?_ (fun _ _ e => e))
  rintro _ _ ⟨h4, tk4, rfl, k4, kk, t4, rfl, hleft⟩
  have F4 := frGrow F2 k4
  have N4 : News g L' h4 ((D, W.listOf vs1.toArray cc1) :: (253, tabObj #[rawInt lamPos.line, rawInt lamPos.col, .ref c']) :: extra) := fun q hq => newsGrow N3 k4 q (by
    rcases List.mem_cons.mp hq with rfl | hq
    · exact .tail _ (.tail _ (List.mem_append_right _ (.head _)))
    · rcases List.mem_cons.mp hq with rfl | hq
      · exact .tail _ (.head _)
      · exact .tail _ (.tail _ (List.mem_append_left _ hq)))
  clear F2 N3 gF gD
  have hk0 := hleft.1
  have hk1 := hleft.2.1
  rw [List.length_map, hrl] at hk1
  generalize hRK : rangeKs (a.length : Int) (b.length + 1 - a.length) = RK at hI1 hleft hrl hkey
  clear hkey
  dsimp only
  k_steps
  rename Fr _ _ _ _ => F5; rename News _ _ _ _ => N5
  k_dflt (refine kmk_slice_ints (s := ⟨_, _, _, _, _⟩) F5 N5 (News.isList N5 (.head _)) (IsPart.int _ _) (IsPart.int _ _) hI1 (kmk_run hI1 hk0 (by omega)) rfl ?_ (by with_unfolding_all rfl) (by intro _; with_unfolding_all rfl) (by rw [List.size_toArray, hI1.length, hrl]; exact Nat.le_trans (show b.length + 1 - a.length ≤ 41 by omega) (by size_fits)))
  intro D' ws h6 F7 N7 hlt7 hI7 _ _
  have hsz : @LE.le Nat _ s.heap.objs.size L' := by
    have := F7.above
    rw [← hg, hideAll_size] at this
    exact this
  have hDL : @LT.lt Nat _ L' D := by have := l1.2.2.1; exact Nat.lt_trans (Nat.lt_succ_self _) this
  have hDD : @LT.lt Nat _ D D' := hlt7 _ (.head _)
  have N8 : News g L' h6 ((D', W.listOf (List.toArray ws) 0) :: (253, tabObj #[rawInt lamPos.line, rawInt lamPos.col, .ref c']) :: extra) := fun q hq => N7 q (by
    rcases List.mem_cons.mp hq with rfl | hq
    · exact .head _
    · exact .tail _ (.tail _ hq))
  have fin : Fr h₀ L h6 m → News h₀ L h6 (((D', W.listOf (List.toArray ws) 0) :: (253, tabObj #[rawInt lamPos.line, rawInt lamPos.col, .ref c']) :: extra) ++ rest) → Q (.ref D') ⟨h6, s.gens, s.drawn, tk + 1 + 1, s.os⟩ := by
    intro F8 N9
    refine h h6 _ D' ws _ extra F8 N9 ?_ ?_ ?_ ?_
    · rcases hex with ⟨rfl, e⟩ | ⟨oc, vs, t, rfl, e1, e2⟩
      · exact .inl ⟨rfl, (show ps = #[rawInt lamPos.line, rawInt lamPos.col, .ref c'] from e).symm⟩
      · exact .inr (.inr ⟨c', oc, vs, t, rfl, .head _, e1, e2⟩)
    · rw [← hRK] at hleft hI7
      rw [← halved_val hab hleft]; exact hI7
    · exact Nat.le_of_lt (Nat.lt_of_le_of_lt hsz (Nat.lt_trans hDL hDD))
    · intro q hq
      have l2 := (hltx q hq).2 _ (.tail _ (.head _))
      exact ⟨Nat.le_of_lt (Nat.lt_of_le_of_lt hsz (Nat.lt_trans hDL l2)), hlt7 q (.tail _ (.tail _ hq))⟩
  subst hg
  exact leaveM (R := fun _ s' => Q (.ref D') s') (v := .ref D') (s' := ⟨h6, s.gens, s.drawn, tk + 1 + 1, s.os⟩) F N hoff ⟨L', _, _, F7, N8, fin⟩
end Mine
end

section
open PySem PySem.W PyProof.Rows PySem.Calls
set_option Elab.async false
namespace Mine

theorem mem_places {t : List Nat} {c : Nat} {p : Int} : p ∈ placesZ t c ↔ ∃ k : Nat, p = (k : Int) ∧ k < t.length ∧ lw (t.getD k 0) = lw c := by
  unfold placesZ placesOf
  rw [List.mem_map]
  constructor
  · rintro ⟨k, hk, rfl⟩
    obtain ⟨h1, h2⟩ := List.mem_filter.mp hk
    rw [List.mem_range'_1] at h1
    exact ⟨k, rfl, by omega, by simpa using h2⟩
  · rintro ⟨k, rfl, h1, h2⟩
    exact ⟨k, List.mem_filter.mpr ⟨by rw [List.mem_range'_1]; omega, by simpa using h2⟩, rfl⟩
theorem find_first {l : List Int} {P : Int → Bool} {p q : Int} (hs : l.Pairwise (· ≤ ·)) (h : l.find? P = some p) (hq : q ∈ l) (hP : P q = true) : p ≤ q := by
  obtain ⟨_, i, hi, e, hlt⟩ := List.find?_eq_some_iff_getElem.mp h
  obtain ⟨j, hj, rfl⟩ := List.getElem_of_mem hq
  have hij : i ≤ j := by
    rcases Nat.lt_or_ge j i with q | q
    · have := hlt j q; rw [hP] at this; simp at this
    · exact q
  have := pair_le hs (List.getElem?_eq_getElem hi) (List.getElem?_eq_getElem hj) hij
  rw [e] at this; exact this
theorem find_last {l : List Int} {P : Int → Bool} {p q : Int} (hs : l.Pairwise (· ≤ ·)) (h : l.reverse.find? P = some p) (hq : q ∈ l) (hP : P q = true) : q ≤ p := by
  obtain ⟨_, i, hi, e, hlt⟩ := List.find?_eq_some_iff_getElem.mp h
  rw [List.length_reverse] at hi
  rw [List.getElem_reverse] at e
  obtain ⟨j, hj, rfl⟩ := List.getElem_of_mem hq
  have hij : j ≤ l.length - 1 - i := by
    rcases Nat.lt_or_ge (l.length - 1 - i) j with q | q
    · have := hlt (l.length - 1 - j) (by omega)
      rw [List.getElem_reverse] at this
      have e2 : l[l.length - 1 - (l.length - 1 - j)] = l[j] := by congr 1; omega
      rw [e2, hP] at this; simp at this
    · exact q
  have := pair_le hs (List.getElem?_eq_getElem hj) (List.getElem?_eq_getElem (show l.length - 1 - i < l.length by omega)) hij
  rw [e] at this; exact this

theorem endStep_le {t : List Nat} {e b : Int} {c : Nat} (hb : b ≤ t.length) : endStep t t.length e c ≤ b ↔ ∃ p ∈ placesZ t c, e ≤ p ∧ p < b := by
  unfold endStep
  cases h : (placesZ t c).find? fun p => decide (e ≤ p) with
  | some p =>
    have h1 := List.find?_some h
    have h2 := List.mem_of_find?_eq_some h
    simp only [decide_eq_true_eq] at h1
    constructor
    · intro q
      have q' : p + 1 ≤ b := q
      exact ⟨p, h2, h1, by omega⟩
    · rintro ⟨q, hq, q1, q2⟩
      have := find_first (places_sorted t c) h hq (decide_eq_true q1)
      show p + 1 ≤ b
      omega
  | none =>
    rw [List.find?_eq_none] at h
    constructor
    · intro q
      have q' : (t.length : Int) + 1 ≤ b := q
      omega
    · rintro ⟨q, hq, q1, _⟩
      exact absurd (decide_eq_true q1) (h q hq)
theorem le_beginStep {t : List Nat} {e b : Int} {c : Nat} (he : 0 ≤ e) : e ≤ beginStep t b c ↔ ∃ p ∈ placesZ t c, e ≤ p ∧ p < b := by
  unfold beginStep
  cases h : (placesZ t c).reverse.find? fun p => decide (p ≤ b - 1) with
  | some p =>
    have h1 := List.find?_some h
    have h2 := List.mem_reverse.mp (List.mem_of_find?_eq_some h)
    simp only [decide_eq_true_eq] at h1
    constructor
    · intro q
      have q' : e ≤ p := q
      exact ⟨p, h2, q', by omega⟩
    · rintro ⟨q, hq, q1, q2⟩
      have := find_last (places_sorted t c) h hq (decide_eq_true (by omega))
      show e ≤ p
      omega
  | none =>
    rw [List.find?_eq_none] at h
    constructor
    · intro q
      have q' : e ≤ -1 := q
      omega
    · rintro ⟨q, hq, _, q2⟩
      exact absurd (decide_eq_true (show q ≤ b - 1 by omega)) (h q (List.mem_reverse.mpr hq))
theorem step_both {t : List Nat} {e b : Int} {c : Nat} (he : 0 ≤ e) (hb : b ≤ t.length) : e ≤ beginStep t b c ↔ endStep t t.length e c ≤ b := by
  rw [le_beginStep he, endStep_le hb]

theorem endStep_low {t : List Nat} {e : Int} {c : Nat} : endStep t t.length e c = t.length + 1 ∨ (e + 1 ≤ endStep t t.length e c ∧ 1 ≤ endStep t t.length e c ∧ endStep t t.length e c ≤ t.length) := by
  unfold endStep
  cases h : (placesZ t c).find? fun p => decide (e ≤ p) with
  | some p =>
    right
    have h1 := List.find?_some h
    obtain ⟨k, rfl, h2, _⟩ := mem_places.mp (List.mem_of_find?_eq_some h)
    simp only [decide_eq_true_eq] at h1
    show e + 1 ≤ (k : Int) + 1 ∧ 1 ≤ (k : Int) + 1 ∧ (k : Int) + 1 ≤ t.length
    omega
  | none => left; rfl
theorem beginStep_low {t : List Nat} {b : Int} {c : Nat} : beginStep t b c = -1 ∨ (0 ≤ beginStep t b c ∧ beginStep t b c ≤ t.length) := by
  unfold beginStep
  cases h : (placesZ t c).reverse.find? fun p => decide (p ≤ b - 1) with
  | some p =>
    right
    obtain ⟨k, rfl, h2, _⟩ := mem_places.mp (List.mem_reverse.mp (List.mem_of_find?_eq_some h))
    show 0 ≤ (k : Int) ∧ (k : Int) ≤ t.length
    omega
  | none => left; rfl
theorem endAt_nonneg (t w : List Nat) : ∀ i, 0 ≤ endAt t t.length w i
  | 0 => Int.le_refl _
  | i + 1 => by
    show 0 ≤ endStep t t.length (endAt t t.length w i) (w.getD i 0)
    rcases endStep_low (t := t) (e := endAt t t.length w i) (c := w.getD i 0) with h | h <;> omega
theorem endAt_ge (t w : List Nat) : ∀ i, i ≤ t.length → (i : Int) ≤ endAt t t.length w i
  | 0, _ => Int.le_refl _
  | i + 1, h => by
    have ih := endAt_ge t w i (by omega)
    show ((i + 1 : Nat) : Int) ≤ endStep t t.length (endAt t t.length w i) (w.getD i 0)
    rcases endStep_low (t := t) (e := endAt t t.length w i) (c := w.getD i 0) with q | q <;> omega
theorem beginAt_le (t w : List Nat) : ∀ i, beginAt t w i ≤ t.length
  | 0 => Int.le_refl _
  | i + 1 => by
    show beginStep t (beginAt t w i) (w.reverse.getD i 0) ≤ t.length
    rcases beginStep_low (t := t) (b := beginAt t w i) (c := w.reverse.getD i 0) with h | h <;> omega

/-- mirrored -/
theorem places_rev {t : List Nat} {c : Nat} {p : Int} : p ∈ placesZ t.reverse c ↔ (t.length : Int) - 1 - p ∈ placesZ t c := by
  rw [mem_places, mem_places]
  constructor
  · rintro ⟨k, rfl, h1, h2⟩
    rw [List.length_reverse] at h1
    refine ⟨t.length - 1 - k, by omega, by omega, ?_⟩
    rw [← h2]
    congr 1
    simp only [List.getD, List.getElem?_reverse h1]
  · rintro ⟨k, e, h1, h2⟩
    have hp : p = ((t.length - 1 - k : Nat) : Int) := by omega
    refine ⟨t.length - 1 - k, hp, by rw [List.length_reverse]; omega, ?_⟩
    rw [← h2]
    congr 1
    simp only [List.getD, List.getElem?_reverse (show t.length - 1 - k < t.length by omega)]
    rw [show t.length - 1 - (t.length - 1 - k) = k by omega]
theorem step_mirror {t : List Nat} {e : Int} {c : Nat} : beginStep t ((t.length : Int) - e) c = (t.length : Int) - endStep t.reverse t.length e c := by
  have hl : (t.reverse.length : Int) = t.length := by rw [List.length_reverse]
  have key : ∀ j : Int, 0 ≤ j → (j ≤ beginStep t ((t.length : Int) - e) c ↔ endStep t.reverse t.length e c ≤ (t.length : Int) - j) := by
    intro j hj
    rw [le_beginStep hj, ← hl, endStep_le (t := t.reverse) (by omega)]
    constructor
    · rintro ⟨p, hp, h1, h2⟩
      exact ⟨(t.length : Int) - 1 - p, places_rev.mpr (by rw [show (t.length : Int) - 1 - ((t.length : Int) - 1 - p) = p by omega]; exact hp), by omega, by omega⟩
    · rintro ⟨p, hp, h1, h2⟩
      exact ⟨(t.length : Int) - 1 - p, places_rev.mp hp, by omega, by omega⟩
  have b1 := beginStep_low (t := t) (b := (t.length : Int) - e) (c := c)
  have b2 := endStep_low (t := t.reverse) (e := e) (c := c)
  rw [hl] at b2
  have k1 := key (beginStep t ((t.length : Int) - e) c)
  have k2 := key ((t.length : Int) - endStep t.reverse t.length e c)
  omega
theorem begin_mirror (t w : List Nat) : ∀ i, beginAt t w i = (t.length : Int) - endAt t.reverse t.length w.reverse i
  | 0 => by show (t.length : Int) = t.length - 0; omega
  | i + 1 => by
    show beginStep t (beginAt t w i) (w.reverse.getD i 0) = (t.length : Int) - endStep t.reverse t.length (endAt t.reverse t.length w.reverse i) (w.reverse.getD i 0)
    rw [begin_mirror t w i]
    exact step_mirror

/-- the table and the ends -/
theorem ecell_nonneg (w t : List Nat) (i j : Nat) (hi : i ≤ w.length) (hj : j ≤ t.length) : 0 ≤ ecell w t i j := by
  have := dist_len (f := lw) (w.take i) (t.take j)
  rw [List.length_take, List.length_take, Nat.min_eq_left hi, Nat.min_eq_left hj] at this
  unfold ecell
  omega
theorem subc_zero {f : Nat → Nat} {x y : Nat} : subc f x y = 0 ↔ x = y := by
  unfold subc
  by_cases h : x = y
  · simp [h]
  · rw [if_neg h]; constructor
    · intro q; split at q <;> omega
    · intro q; exact absurd q h
theorem ecell_succ (w t : List Nat) (i : Nat) (hi : i < w.length) : ∀ j, j ≤ t.length → (ecell w t (i + 1) j ≤ 0 ↔ ∃ p, p < j ∧ ecell w t i p ≤ 0 ∧ w.getD i 0 = t.getD p 0)
  | 0, _ => by
    have h1 := ecell_col w t i hi
    have h2 := ecell_nonneg w t i 0 (by omega) (by omega)
    constructor
    · intro q; omega
    · rintro ⟨p, hp, _⟩; omega
  | j + 1, hj => by
    have ih := ecell_succ w t i hi j (by omega)
    have st := ecell_step w t i j hi (by omega)
    have n1 := ecell_nonneg w t i (j + 1) (by omega) hj
    have n2 := ecell_nonneg w t i j (by omega) (by omega)
    have sz := subc_zero (f := lw) (x := w[i]) (y := t[j])
    have e1 : w.getD i 0 = w[i] := by simp [hi]
    have e2 : t.getD j 0 = t[j] := by simp [show j < t.length by omega]
    constructor
    · intro q
      by_cases q1 : ecell w t (i + 1) j ≤ 0
      · obtain ⟨p, hp, r⟩ := ih.mp q1
        exact ⟨p, by omega, r⟩
      · refine ⟨j, by omega, by omega, ?_⟩
        rw [e1, e2]
        apply sz.mp
        omega
    · rintro ⟨p, hp, h1, h2⟩
      rcases Nat.lt_or_ge p j with q | q
      · have := ih.mpr ⟨p, q, h1, h2⟩
        omega
      · obtain rfl : p = j := by omega
        rw [e1, e2] at h2
        have := sz.mpr h2
        omega
theorem map_getD {l : List Nat} {i : Nat} (h : i < l.length) : (l.map lw).getD i 0 = lw (l.getD i 0) := by
  simp [List.getD, h]
theorem ends_char (t w : List Nat) : ∀ i, i ≤ w.length → ∀ j, j ≤ t.length → (ecell (w.map lw) (t.map lw) i j ≤ 0 ↔ endAt t t.length w i ≤ (j : Int))
  | 0, _, j, hj => by
    rw [ecell_zero _ _ _ (by rw [List.length_map]; exact hj)]
    show (0 : Int) ≤ 0 ↔ (0 : Int) ≤ j
    omega
  | i + 1, hi, j, hj => by
    rw [ecell_succ _ _ _ (by rw [List.length_map]; omega) _ (by rw [List.length_map]; exact hj)]
    show _ ↔ endStep t t.length (endAt t t.length w i) (w.getD i 0) ≤ (j : Int)
    rw [endStep_le (by omega)]
    constructor
    · rintro ⟨p, hp, h1, h2⟩
      rw [map_getD (by omega), map_getD (by omega)] at h2
      exact ⟨p, mem_places.mpr ⟨p, rfl, by omega, h2.symm⟩, (ends_char t w i (by omega) p (by omega)).mp h1, by omega⟩
    · rintro ⟨p, hp, h1, h2⟩
      obtain ⟨k, rfl, h3, h4⟩ := mem_places.mp hp
      refine ⟨k, by omega, (ends_char t w i (by omega) k (by omega)).mpr h1, ?_⟩
      rw [map_getD (by omega), map_getD (by omega)]
      exact h4.symm

/-- the first place, by a mark -/
theorem firstOf_val {ns : List Int} {over e : Int} {least : Nat} (hl : least ≤ ns.length) (h : ∀ j : Nat, least ≤ j → j < ns.length → (ns.getD j 0 ≤ over ↔ e ≤ (j : Int))) (he : (least : Int) ≤ e) : firstOf ns over least = if e < ns.length then [e] else [] := by
  have hlen : (rangeKs (least : Int) (ns.length - least)).length = ns.length - least := by simp [rangeKs]
  have hget : ∀ i, i < ns.length - least → (rangeKs (least : Int) (ns.length - least))[i]? = some ((least : Int) + (i : Int)) := fun i hi => by simp [rangeKs, hi]
  have key : ∀ k, k ≤ ns.length - least → (∀ i : Nat, i < ns.length - least → (e ≤ ((least + i : Nat) : Int) ↔ k ≤ i)) → firstOf ns over least = ((rangeKs (least : Int) (ns.length - least)).drop k).take (min (k + 1) (ns.length - least) - k) := by
    intro k hk hki
    have := cut_filter (RK := rangeKs (least : Int) (ns.length - least)) (P := fun j => decide (ns.getD j.toNat 0 ≤ over)) (k := k) (by omega) ?_ ?_
    · rw [hlen] at this; exact this.symm
    · intro i v hv hi
      have hi2 : i < ns.length - least := by rw [← hlen]; exact (List.getElem?_eq_some_iff.mp hv).1
      rw [hget i hi2] at hv
      cases hv
      apply decide_eq_false
      rw [show ((least : Int) + (i : Int)).toNat = least + i by omega, h _ (by omega) (by omega), hki i hi2]
      omega
    · intro i v hv hi
      have hi2 : i < ns.length - least := by rw [← hlen]; exact (List.getElem?_eq_some_iff.mp hv).1
      rw [hget i hi2] at hv
      cases hv
      apply decide_eq_true
      rw [show ((least : Int) + (i : Int)).toNat = least + i by omega, h _ (by omega) (by omega), hki i hi2]
      exact hi
  by_cases q : e < ns.length
  · rw [if_pos q, key (e.toNat - least) (by omega) (fun i hi => by omega), show min (e.toNat - least + 1) (ns.length - least) - (e.toNat - least) = 1 by omega]
    have := hget (e.toNat - least) (by omega)
    rw [List.take_one, List.head?_drop, this]
    simp
    omega
  · rw [if_neg q, key (ns.length - least) (Nat.le_refl _) (fun i hi => by omega), List.drop_eq_nil_of_le (by omega), List.take_nil]

theorem erow_mark (t w : List Nat) (i : Nat) (hi : i ≤ w.length) : ∀ j : Nat, j < (erow (w.map lw) (t.map lw) i).length → ((erow (w.map lw) (t.map lw) i).getD j 0 ≤ 0 ↔ endAt t t.length w i ≤ (j : Int)) := by
  intro j hj
  rw [erow_len, List.length_map] at hj
  rw [erow_get _ _ _ _ (by rw [List.length_map]; omega)]
  exact ends_char t w i hi j (by omega)
theorem endAt_top (t w : List Nat) (i : Nat) : endAt t t.length w i ≤ t.length + 1 := by
  cases i with
  | zero => show (0 : Int) ≤ _; omega
  | succ i =>
    show endStep t t.length (endAt t t.length w i) (w.getD i 0) ≤ t.length + 1
    rcases endStep_low (t := t) (e := endAt t t.length w i) (c := w.getD i 0) with q | q <;> omega
theorem endAt_out (t w : List Nat) (i : Nat) (h : ¬ endAt t t.length w i ≤ t.length) : endAt t t.length w i = t.length + 1 := by
  have := endAt_top t w i; omega

/-- C1 -/
theorem c_ends (t w : List Nat) (i : Nat) (hi : i ≤ w.length) : (firstOf (erow (w.map lw) (t.map lw) i) 0 0 ++ [(t.length : Int) + 1]).getD 0 0 = endAt t t.length w i := by
  have hl : (erow (w.map lw) (t.map lw) i).length = t.length + 1 := by rw [erow_len, List.length_map]
  rw [firstOf_val (e := endAt t t.length w i) (Nat.zero_le _) (fun j _ hj => erow_mark t w i hi j hj) (by have := endAt_nonneg t w i; omega), hl]
  by_cases q : endAt t t.length w i ≤ t.length
  · rw [if_pos (by omega)]; rfl
  · rw [if_neg (by omega), endAt_out t w i q]; rfl
/-- C2 -/
theorem c_begins (t w : List Nat) (i : Nat) (hi : i ≤ w.length) : (t.length : Int) - (firstOf (erow (w.map lw).reverse (t.map lw).reverse i) 0 0 ++ [(t.length : Int) + 1]).getD 0 0 = beginAt t w i := by
  have := c_ends t.reverse w.reverse i (by rw [List.length_reverse]; exact hi)
  rw [List.length_reverse, List.map_reverse, List.map_reverse] at this
  rw [this, begin_mirror]
/-- C3 -/
theorem erow_take_eq (w t : List Nat) (k : Nat) : erow (w.take k) t k = erow w t k := by
  unfold erow
  apply List.map_congr_left
  intro j _
  unfold ecell
  rw [List.take_take, Nat.min_self]
theorem c_halved (t w : List Nat) (k : Nat) (hk : k ≤ w.length) (hw : w.length ≤ t.length) : halvedOf ((w.map lw).take k) (t.map lw) 0 = if endAt t t.length w k ≤ t.length then [endAt t t.length w k] else [] := by
  have hl : (erow (w.map lw) (t.map lw) k).length = t.length + 1 := by rw [erow_len, List.length_map]
  unfold halvedOf
  rw [List.length_take, List.length_map, Nat.min_eq_left hk, erow_take_eq, firstOf_val (e := endAt t t.length w k) (by omega) (fun j _ hj => erow_mark t w k hk j hj) (endAt_ge t w k (by omega)), hl]
  by_cases q : endAt t t.length w k ≤ t.length
  · rw [if_pos (by omega), if_pos q]
  · rw [if_neg (by omega), if_neg q]
/-- C5 -/
theorem c_whole (t w : List Nat) (hw : w.length ≤ t.length) : dist lw (t.map lw) (w.map lw) = 2 * (t.length - w.length) ↔ endAt t t.length w w.length ≤ t.length := by
  have h := ends_char t w w.length (Nat.le_refl _) t.length (Nat.le_refl _)
  rw [← h]
  have n := ecell_nonneg (w.map lw) (t.map lw) w.length t.length (by rw [List.length_map]; exact Nat.le_refl _) (by rw [List.length_map]; exact Nat.le_refl _)
  unfold ecell at n ⊢
  rw [List.take_of_length_le (by rw [List.length_map]; exact Nat.le_refl _), List.take_of_length_le (by rw [List.length_map]; exact Nat.le_refl _)] at n ⊢
  rw [dist_sym]
  omega
theorem c_cut (t w : List Nat) (k : Nat) (hk : k ≤ w.length) : endAt t t.length w k ≤ beginAt t w (w.length - k) ↔ endAt t t.length w w.length ≤ t.length := by
  obtain ⟨d, hd⟩ : ∃ d, w.length - k = d := ⟨_, rfl⟩
  induction d generalizing k with
  | zero =>
    obtain rfl : k = w.length := by omega
    rw [Nat.sub_self]
    exact Iff.rfl
  | succ d ih =>
    rw [← ih (k + 1) (by omega) (by omega), hd, show w.length - (k + 1) = d by omega]
    have e : w.reverse.getD d 0 = w.getD k 0 := by
      simp only [List.getD, List.getElem?_reverse (show d < w.length by omega)]
      rw [show w.length - 1 - d = k by omega]
    show endAt t t.length w k ≤ beginStep t (beginAt t w d) (w.reverse.getD d 0) ↔ endStep t t.length (endAt t t.length w k) (w.getD k 0) ≤ beginAt t w d
    rw [e]
    exact step_both (endAt_nonneg t w k) (beginAt_le t w d)
end Mine
end

section
open PySem PySem.W PyProof.Rows PySem.Calls LCg
set_option Elab.async false
set_option maxRecDepth 100000
set_option maxHeartbeats 8000000
namespace Mine
theorem cells_nine {cm : Str → Option Value} {n₁ n₂ n₃ n₄ n₅ n₆ n₇ n₈ n₉ : Str} {c₁ c₂ c₃ c₄ c₅ c₆ c₇ c₈ c₉ : Addr} {cells : List (Addr × Obj)} (x : CellsAre cm [(n₁, c₁), (n₂, c₂), (n₃, c₃), (n₄, c₄), (n₅, c₅), (n₆, c₆), (n₇, c₇), (n₈, c₈), (n₉, c₉)] cells) :
    ∃ o₁ o₂ o₃ o₄ o₅ o₆ o₇ o₈ o₉, cells = [(c₁, o₁), (c₂, o₂), (c₃, o₃), (c₄, o₄), (c₅, o₅), (c₆, o₆), (c₇, o₇), (c₈, o₈), (c₉, o₉)] ∧ o₁.data = .cell (cm n₁) ∧ o₂.data = .cell (cm n₂) ∧ o₃.data = .cell (cm n₃) ∧ o₄.data = .cell (cm n₄) ∧ o₅.data = .cell (cm n₅) ∧ o₆.data = .cell (cm n₆) ∧ o₇.data = .cell (cm n₇) ∧ o₈.data = .cell (cm n₈) ∧ o₉.data = .cell (cm n₉) := by
  cases x with | cons h r => obtain ⟨o₂, o₃, o₄, o₅, o₆, o₇, o₈, o₉, rfl, r2⟩ := kc_eight r; exact ⟨_, o₂, o₃, o₄, o₅, o₆, o₇, o₈, o₉, rfl, h, r2⟩

section
variable {prog : Program} {w : World} {A : Around} {E : Value → Shared → Prop} {s : Shared} {h₀ : Heap} {L : Addr} {m : Str → Option Value} {env : Env} {elt : Expr} {x : Str} {scope : Scope} {cl : List (Str × Addr)} {news : List (Addr × Obj)} {Q : Value → Shared → Prop}

/-- a comprehension's turns, by what holds between them -/
theorem compJ {S : List (Addr × Obj) → Prop} {P : Nat → Value → Prop} {Fin : List Value → List (Addr × Obj) → Prop} {n : Nat} (J : Nat → List Value → List (Addr × Obj) → Prop)
    (step : ∀ i v ys news I oI C oC D m₂ h tk (E' : Value → Shared → Prop), i < n → P i v → J i ys news → NsObj oC m₂ → m₂ x = some v → Fr h₀ L h m → News h₀ L h ((I, oI) :: (C, oC) :: (D, lst ys) :: news) → Off3 I C D news → ((@Ne Nat I C) ∧ (@Ne Nat I D) ∧ (@Ne Nat C D)) →
      wpAny (model prog w) A (eval elt (compEnvC scope cl C env)) (CompEnd h₀ L m { s with heap := h, toks := tk } I oI C oC D (lst ys) S (fun y news' => J (i + 1) (ys ++ [y]) news')) E' { s with heap := h, toks := tk })
    (fin : ∀ ys news, J n ys news → Fin ys news) :
    ∀ k i ys news, i + k = n → J i ys news → CompRest prog w A h₀ L m env elt x scope cl s S P Fin k i ys news
  | 0, i, ys, news, e, j => .zero (fin ys news (by rw [← e]; exact j))
  | k + 1, i, ys, news, e, j => .succ fun v I oI C oC D m₂ h tk E' hP hC hx F N off ne =>
    wpAny_mono (step i v ys news I oI C oC D m₂ h tk E' (by omega) hP j hC hx F N off ne) (fun y s₂ ⟨h', tk', news', e1, F', N', off', hS, r⟩ => ⟨h', tk', news', e1, F', N', off', hS, compJ J step fin k (i + 1) (ys ++ [y]) news' (by omega) r⟩) fun _ _ e => e

/-- an element's end -/
def ElEnd (h₀ : Heap) (L : Addr) (m : Str → Option Value) (s : Shared) (keep : List (Addr × Obj)) (G : Value → Prop) (y : Value) (s₂ : Shared) : Prop :=
  ∃ h' tk' all, s₂ = { s with heap := h', toks := tk' } ∧ Fr h₀ L h' m ∧ News h₀ L h' all ∧ (∀ p ∈ keep, p ∈ all) ∧ G y
theorem elEnd {keep all : List (Addr × Obj)} {G : Value → Prop} {y : Value} {h' : Heap} {tk' : Nat} (F : Fr h₀ L h' m) (N : News h₀ L h' all) (k : ∀ p ∈ keep, p ∈ all) (g : G y) : ElEnd h₀ L m s keep G y { s with heap := h', toks := tk' } := ⟨h', tk', all, rfl, F, N, k, g⟩

theorem compQ {S : List (Addr × Obj) → Prop} {P : Nat → Value → Prop} {n : Nat} (G : Nat → Value → Prop) (hS : S news)
    (step : ∀ i v ys I oI C oC D m₂ h tk (E' : Value → Shared → Prop), i < n → P i v → NsObj oC m₂ → m₂ x = some v → Fr h₀ L h m → News h₀ L h ((I, oI) :: (C, oC) :: (D, lst ys) :: news) →
      wpAny (model prog w) A (eval elt (compEnvC scope cl C env)) (ElEnd h₀ L m s ((I, oI) :: (C, oC) :: (D, lst ys) :: news) (G i)) E' { s with heap := h, toks := tk })
    (fin : ∀ D ys h tk, Fr h₀ L h m → News h₀ L h ((D, lst ys) :: news) → (∀ q ∈ news, @Ne Nat q.1 D) → ys.length = n → (∀ (j : Nat) y, ys[j]? = some y → G j y) → Q (.ref D) { s with heap := h, toks := tk }) :
    CompRest prog w A h₀ L m env elt x scope cl s S P (FinE h₀ L m s Q) n 0 [] news := by
  refine compJ (fun i ys news' => news' = news ∧ ys.length = i ∧ ∀ (j : Nat) y, ys[j]? = some y → G j y) ?_ ?_ n 0 [] news (Nat.zero_add n) ⟨rfl, rfl, by simp⟩
  · rintro i v ys news' I oI C oC D m₂ h tk E' hi hP ⟨rfl, hl, hG⟩ hC hx F N off ne
    refine wpAny_mono (step i v ys I oI C oC D m₂ h tk E' hi hP hC hx F N) ?_ fun _ _ e => e
    rintro y _ ⟨h', tk', all, rfl, F', N', hk, g⟩
    refine ⟨h', tk', news', rfl, F', fun p hp => N' p (hk p hp), off, hS, rfl, by rw [List.length_append, List.length_singleton, hl], fun j z hz => ?_⟩
    rcases Nat.lt_trichotomy j ys.length with q | q | q
    · rw [List.getElem?_append_left q] at hz; exact hG j z hz
    · subst q; simp at hz; subst hz; rw [hl]; exact g
    · rw [List.getElem?_eq_none (by rw [List.length_append, List.length_singleton]; omega)] at hz; cases hz
  · rintro ys news' ⟨rfl, hl, hG⟩
    intro D h tk F N off
    refine fin D ys h tk F N (fun q hq => ?_) hl hG
    have : ∀ {l : List (Addr × Obj)}, Off1 D l → ∀ q ∈ l, @Ne Nat q.1 D := by
      intro l
      induction l with
      | nil => intro _ q hq; exact nomatch hq
      | cons a l ih => intro x q hq; rcases List.mem_cons.mp hq with rfl | hq; exact x.1; exact ih x.2 q hq
    exact this off q hq

theorem srcQ_list {ax : Addr} {its : Array Value} {k : Nat} (G : Nat → Value → Prop) (hh : A.handled = none) (F : Fr h₀ L s.heap m) (N : News h₀ L s.heap news) (hm : (ax, W.listOf its k) ∈ news) (hsz : its.size ≤ sizeLine)
    (step : ∀ i v ys I oI C oC D m₂ h tk (E' : Value → Shared → Prop), i < its.size → its[i]? = some v → NsObj oC m₂ → m₂ x = some v → Fr h₀ L h m → News h₀ L h ((I, oI) :: (C, oC) :: (D, lst ys) :: news) →
      wpAny (model prog w) A (eval elt (compEnvC scope cl C env)) (ElEnd h₀ L m s ((I, oI) :: (C, oC) :: (D, lst ys) :: news) (G i)) E' { s with heap := h, toks := tk })
    (fin : ∀ D ys h tk, Fr h₀ L h m → News h₀ L h ((D, lst ys) :: news) → (∀ q ∈ news, @Ne Nat q.1 D) → ys.length = its.size → (∀ (j : Nat) y, ys[j]? = some y → G j y) → Q (.ref D) { s with heap := h, toks := tk }) :
    CompSrc prog w A h₀ L m env elt x scope cl (fun s₂ => FinE h₀ L m s₂ Q) (.ref ax) s :=
  CompSrc.ledger hh F N hm hsz fun g => compQ (s := { s with heap := g }) (P := fun i v => its[i]? = some v) G (.inr ⟨_, hm, rfl, _, rfl⟩) step fin
theorem srcQ_base {ax : Addr} {its : Array Value} (G : Nat → Value → Prop) (hh : A.handled = none) (F : Fr h₀ L s.heap m) (N : News h₀ L s.heap news) (hl : h₀.IsList ax its) (hsz : its.size ≤ sizeLine)
    (step : ∀ i v ys I oI C oC D m₂ h tk (E' : Value → Shared → Prop), i < its.size → its[i]? = some v → NsObj oC m₂ → m₂ x = some v → Fr h₀ L h m → News h₀ L h ((I, oI) :: (C, oC) :: (D, lst ys) :: news) →
      wpAny (model prog w) A (eval elt (compEnvC scope cl C env)) (ElEnd h₀ L m s ((I, oI) :: (C, oC) :: (D, lst ys) :: news) (G i)) E' { s with heap := h, toks := tk })
    (fin : ∀ D ys h tk, Fr h₀ L h m → News h₀ L h ((D, lst ys) :: news) → (∀ q ∈ news, @Ne Nat q.1 D) → ys.length = its.size → (∀ (j : Nat) y, ys[j]? = some y → G j y) → Q (.ref D) { s with heap := h, toks := tk }) :
    CompSrc prog w A h₀ L m env elt x scope cl (fun s₂ => FinE h₀ L m s₂ Q) (.ref ax) s :=
  CompSrc.base hh F N hl hsz fun g => compQ (s := { s with heap := g }) (P := fun i v => its[i]? = some v) G (.inl hl) step fin
theorem srcQ_range {r : Addr} {a b : Int} {t u v : Tok} {n : Nat} (G : Nat → Value → Prop) (hh : A.handled = none) (F : Fr h₀ L s.heap m) (N : News h₀ L s.heap news) (hr : IsRange s.heap r a b 1 t u v) (hsm : Builtin.Range.small a b 1 = true) (hn : Builtin.Range.rangeSize a b 1 = ((n : Nat) : Int)) (hsz : n ≤ sizeLine)
    (step : ∀ i tv ys I oI C oC D m₂ h tk (E' : Value → Shared → Prop), i < n → NsObj oC m₂ → m₂ x = some (.int (a + (i : Int)) tv) → Fr h₀ L h m → News h₀ L h ((I, oI) :: (C, oC) :: (D, lst ys) :: news) →
      wpAny (model prog w) A (eval elt (compEnvC scope cl C env)) (ElEnd h₀ L m s ((I, oI) :: (C, oC) :: (D, lst ys) :: news) (G i)) E' { s with heap := h, toks := tk })
    (fin : ∀ D ys h tk, Fr h₀ L h m → News h₀ L h ((D, lst ys) :: news) → (∀ q ∈ news, @Ne Nat q.1 D) → ys.length = n → (∀ (j : Nat) y, ys[j]? = some y → G j y) → Q (.ref D) { s with heap := h, toks := tk }) :
    CompSrc prog w A h₀ L m env elt x scope cl (fun s₂ => FinE h₀ L m s₂ Q) (.ref r) s :=
  CompSrc.range hh F N hr hsm hn hsz fun g => compQ (s := { s with heap := g }) (P := fun i v => ∃ t, v = .int (a + (i : Int)) t) G trivial
    (fun i v' ys I oI C oC D m₂ h tk E' hi ⟨tv, hv⟩ hC hx F' N' => step i tv ys I oI C oC D m₂ h tk E' hi hC (hv ▸ hx) F' N') fin
theorem srcJ_range {r : Addr} {a b : Int} {t u v : Tok} {n : Nat} (J : Nat → List Value → List (Addr × Obj) → Prop) (h0 : J 0 [] news) (hh : A.handled = none) (F : Fr h₀ L s.heap m) (N : News h₀ L s.heap news) (hr : IsRange s.heap r a b 1 t u v) (hsm : Builtin.Range.small a b 1 = true) (hn : Builtin.Range.rangeSize a b 1 = ((n : Nat) : Int)) (hsz : n ≤ sizeLine)
    (step : ∀ i tv ys news I oI C oC D m₂ h tk (E' : Value → Shared → Prop), i < n → J i ys news → NsObj oC m₂ → m₂ x = some (.int (a + (i : Int)) tv) → Fr h₀ L h m → News h₀ L h ((I, oI) :: (C, oC) :: (D, lst ys) :: news) → Off3 I C D news → ((@Ne Nat I C) ∧ (@Ne Nat I D) ∧ (@Ne Nat C D)) →
      wpAny (model prog w) A (eval elt (compEnvC scope cl C env)) (CompEnd h₀ L m { s with heap := h, toks := tk } I oI C oC D (lst ys) (fun _ => True) (fun y news' => J (i + 1) (ys ++ [y]) news')) E' { s with heap := h, toks := tk })
    (fin : ∀ D ys news' h tk, J n ys news' → Fr h₀ L h m → News h₀ L h ((D, lst ys) :: news') → Off1 D news' → Q (.ref D) { s with heap := h, toks := tk }) :
    CompSrc prog w A h₀ L m env elt x scope cl (fun s₂ => FinE h₀ L m s₂ Q) (.ref r) s :=
  CompSrc.range hh F N hr hsm hn hsz fun g => compJ (s := { s with heap := g }) (P := fun i v => ∃ t, v = .int (a + (i : Int)) t) J
    (fun i v' ys news I oI C oC D m₂ h tk E' hi ⟨tv, hv⟩ j hC hx F' N' off ne => step i tv ys news I oI C oC D m₂ h tk E' hi j hC (hv ▸ hx) F' N' off ne)
    (fun ys news' j D h tk F' N' off => fin D ys news' h tk j F' N' off) n 0 [] news (Nat.zero_add n) h0
end
end Mine
end

section
open PySem PySem.W PyProof.Rows PySem.Calls PySem.SeqAt
set_option Elab.async false
set_option maxRecDepth 100000
set_option maxHeartbeats 8000000
namespace Mine
/-- the sign of a number -/
def sgn (z : Int) : Nat := [97, 65, 98, 66].getD (z % 4).toNat 0
theorem mod4 (z : Int) : z % 4 = 0 ∨ z % 4 = 1 ∨ z % 4 = 2 ∨ z % 4 = 3 := by
  have h1 := Int.emod_nonneg z (show (4 : Int) ≠ 0 by decide)
  have h2 := Int.emod_lt_of_pos z (show (0 : Int) < 4 by decide)
  omega
theorem sgn_al (z : Int) : sgn z = 97 ∨ sgn z = 65 ∨ sgn z = 98 ∨ sgn z = 66 := by
  unfold sgn
  rcases mod4 z with e | e | e | e <;> rw [e] <;> decide
theorem menu_S : Str.ofString "aAbB" = S [97, 65, 98, 66] := by decide +kernel
theorem menu_at (z : Int) : Txt.item (Str.ofString "aAbB") (z.fmod 4) = S [sgn z] := by
  rw [menu_S, Int.fmod_eq_emod_of_nonneg z (by decide)]
  unfold sgn
  rcases mod4 z with e | e | e | e <;> rw [e]
  · exact item_S [97, 65, 98, 66] 0 (by decide)
  · exact item_S [97, 65, 98, 66] 1 (by decide)
  · exact item_S [97, 65, 98, 66] 2 (by decide)
  · exact item_S [97, 65, 98, 66] 3 (by decide)
theorem al_sgn (l : List Int) : Al (l.map sgn) := fun c hc => by
  obtain ⟨z, _, rfl⟩ := List.mem_map.mp hc
  exact sgn_al z

theorem S_app (a b : List Nat) : S a ++ S b = S (a ++ b) := by
  show (⟨(S a).cps ++ (S b).cps⟩ : Str) = _
  simp [S]
theorem S_nil : Str.ofString "" = S [] := by decide +kernel
theorem join_S : ∀ l : List Nat, Txt.join (Str.ofString "") (l.map fun c => S [c]) = S l
  | [] => by
    show Builtin.Str.glued _ _ = _
    rw [StrLaws.glued_eq_join]; rfl
  | [x] => by
    show Builtin.Str.glued _ _ = _
    rw [StrLaws.glued_eq_join]; rfl
  | x :: y :: r => by
    have ih := join_S (y :: r)
    show Builtin.Str.glued _ _ = _
    have ih' : Builtin.Str.glued (Str.ofString "") ((y :: r).map fun c => S [c]) = S (y :: r) := ih
    rw [StrLaws.glued_eq_join] at ih' ⊢
    show S [x] ++ Str.ofString "" ++ Str.join (Str.ofString "") ((y :: r).map fun c => S [c]) = _
    rw [ih', S_nil, S_app, S_app]; rfl
theorem strs_of : ∀ (ys : List Value) (cs : List Nat), ys.length = cs.length → (∀ (j : Nat) (y : Value), ys[j]? = some y → ∃ t, y = .str (S [cs.getD j 0]) t) → StrsAre ys (cs.map fun c => S [c])
  | [], [], _, _ => .nil
  | [], _ :: _, h, _ => by simp at h
  | _ :: _, [], h, _ => by simp at h
  | v :: ys, c :: cs, h, k => by
    obtain ⟨t, rfl⟩ := k 0 v rfl
    exact .cons _ t (strs_of ys cs (by simpa using h) fun j y hj => k (j + 1) y (by simpa using hj))
section
variable {prog : Program} {w : World} {A : Around} {E : Value → Shared → Prop} {s : Shared} {Q : Value → Shared → Prop}
theorem call_joinS {D : Addr} {ys : List Value} {cs : List Nat} {t : Tok} (hl : s.heap.IsList D ys.toArray) (hlen : ys.length = cs.length) (hy : ∀ (j : Nat) (y : Value), ys[j]? = some y → ∃ t, y = .str (S [cs.getD j 0]) t) (h40 : cs.length ≤ 40)
    (h : ∀ t' k, Q (.str (S cs) t') { s with toks := k }) : wpAny (model prog w) A (call (.builtin "str.join") [.str (Str.ofString "") t, .ref D]) Q E s := by
  refine join_listC hl (strs_of ys cs hlen hy) (by decide) ?_ (fun t' k => by rw [join_S]; exact h t' k)
  have : ((cs.map fun c => S [c]).map (·.length)).sum ≤ cs.length := by
    clear h h40 hy hlen
    induction cs with
    | nil => exact Nat.le_refl _
    | cons c cs ih => simp only [List.map_cons, List.sum_cons, List.length_cons]; rw [show (S [c]).length = 1 from rfl]; omega
  rw [List.length_map]
  omega
end

/-- lists of lists of ints, read and compared -/
def RowV (h : Heap) (v : Value) (ns : List Int) : Prop := ∃ D us, v = .ref D ∧ h.IsList D (List.toArray us) ∧ IntsAre us ns
inductive RowsV (h : Heap) : List Value → List (List Int) → Prop
  | nil : RowsV h [] []
  | cons {v vs ns nss} : RowV h v ns → RowsV h vs nss → RowsV h (v :: vs) (ns :: nss)
theorem rowsV_of {h : Heap} : ∀ (ys : List Value) (nss : List (List Int)), ys.length = nss.length → (∀ (j : Nat) (y : Value), ys[j]? = some y → RowV h y (nss.getD j [])) → RowsV h ys nss
  | [], [], _, _ => .nil
  | [], _ :: _, h, _ => by simp at h
  | _ :: _, [], h, _ => by simp at h
  | v :: ys, c :: cs, hl, k => .cons (k 0 v rfl) (rowsV_of ys cs (by simpa using hl) fun j y hj => k (j + 1) y (by simpa using hj))
theorem rowsV_reads {h : Heap} : ∀ {vs : List Value} {nss : List (List Int)}, RowsV h vs nss → ∃ as, ReadsAll h vs (nss.map fun ns => PyData.list (ns.map PyData.int)) as
  | _, _, .nil => ⟨[], .nil⟩
  | _, _, .cons ⟨D, us, e, hl, hi⟩ r => by
    subst e
    obtain ⟨as, q⟩ := rowsV_reads r
    exact ⟨_, .cons (reads_of_ints hl hi) q⟩
theorem canLay_rows : ∀ nss : List (List Int), PyData.canLayAll0 (nss.map fun ns => PyData.list (ns.map PyData.int)) = true
  | [] => by simp [PyData.canLayAll0]
  | n :: r => by simp only [List.map_cons, PyData.canLayAll0, PyData.canLay0, PySem.W.canLayAll0_ints, canLay_rows r, Bool.and_self]
theorem depth_rows : ∀ nss : List (List Int), PyData.depthAll (nss.map fun ns => PyData.list (ns.map PyData.int)) ≤ 2
  | [] => by simp [PyData.depthAll]
  | n :: r => by
    have h1 := depth_rows r
    have h2 := PySem.W.depthAll_ints n
    simp only [List.map_cons, PyData.depthAll, PyData.depth]
    omega
theorem shaped_rows (nss : List (List Int)) : shaped (.list (nss.map fun ns => PyData.list (ns.map PyData.int))) = true := by
  have h1 := depth_rows nss
  have h2 : PyData.depth (.list (nss.map fun ns => PyData.list (ns.map PyData.int))) ≤ 64 := by simp only [PyData.depth]; omega
  show (PyData.canLay0 (.list (nss.map fun ns => PyData.list (ns.map PyData.int))) && decide (PyData.depth (.list (nss.map fun ns => PyData.list (ns.map PyData.int))) ≤ 64)) = true
  rw [Bool.and_eq_true]
  exact ⟨by simp only [PyData.canLay0]; exact canLay_rows nss, decide_eq_true h2⟩
theorem eqv_rows : ∀ a b : List (List Int), PyData.eqvAll (a.map fun ns => PyData.list (ns.map PyData.int)) (b.map fun ns => PyData.list (ns.map PyData.int)) = decide (a = b)
  | [], [] => by simp [PyData.eqvAll]
  | [], _ :: _ => by simp [PyData.eqvAll]
  | _ :: _, [] => by simp [PyData.eqvAll]
  | a :: r, b :: t => by
    simp only [List.map_cons, PyData.eqvAll, PyData.eqv, eqv_rows r t, ked_eqvAll]
    by_cases h : a = b <;> by_cases h' : r = t <;> simp [h, h']
theorem eqv_bools : ∀ a b : List Bool, PyData.eqvAll (a.map PyData.bool) (b.map PyData.bool) = decide (a = b)
  | [], [] => by simp [PyData.eqvAll]
  | [], _ :: _ => by simp [PyData.eqvAll]
  | _ :: _, [] => by simp [PyData.eqvAll]
  | a :: r, b :: t => by
    simp only [List.map_cons, PyData.eqvAll, PyData.eqv, eqv_bools r t]
    by_cases h : a = b <;> by_cases h' : r = t <;> simp [h, h']
theorem bools_reads {h : Heap} : ∀ {vs : List Value} {bs : List Bool}, LSm.BoolsAre vs bs → ReadsAll h vs (bs.map PyData.bool) []
  | _, _, .nil => .nil
  | _, _, .cons b r => by
    have := ReadsAll.cons (Reads.bool (h := h) b) (bools_reads (h := h) r)
    simpa using this
theorem canLay_bools : ∀ ns : List Bool, PyData.canLayAll0 (ns.map PyData.bool) = true
  | [] => by simp [PyData.canLayAll0]
  | n :: r => by simp [PyData.canLayAll0, PyData.canLay0, canLay_bools r]
theorem depth_bools : ∀ ns : List Bool, PyData.depthAll (ns.map PyData.bool) ≤ 1
  | [] => by simp [PyData.depthAll]
  | n :: r => by
    have := depth_bools r
    simp only [List.map_cons, PyData.depthAll, PyData.depth]
    omega
theorem shaped_bools (ns : List Bool) : shaped (.list (ns.map PyData.bool)) = true := by
  have h1 := depth_bools ns
  have h2 : PyData.depth (.list (ns.map PyData.bool)) ≤ 64 := by simp only [PyData.depth]; omega
  show (PyData.canLay0 (.list (ns.map PyData.bool)) && decide (PyData.depth (.list (ns.map PyData.bool)) ≤ 64)) = true
  rw [Bool.and_eq_true]
  exact ⟨by simp only [PyData.canLay0]; exact canLay_bools ns, decide_eq_true h2⟩
section
variable {prog : Program} {w : World} {A : Around} {E : Value → Shared → Prop} {s : Shared} {a b : Addr} {Q : Value → Shared → Prop} {vs us : List Value}
theorem ne_rows {ns ms : List (List Int)} (hl : s.heap.IsList a vs.toArray) (hi : RowsV s.heap vs ns) (hl' : s.heap.IsList b us.toArray) (hi' : RowsV s.heap us ms) (hu : A.units + 64 < cLine)
    (h : Q (.bool (!decide (ns = ms))) s) : wpAny (model prog w) A (compareOp .NotEq (.ref a) (.ref b)) Q E s := by
  obtain ⟨oa, ha, hca, na, hda⟩ := hl
  obtain ⟨ob, hb, hcb, nb, hdb⟩ := hl'
  obtain ⟨as, ra⟩ := rowsV_reads hi
  obtain ⟨bs, rb⟩ := rowsV_reads hi'
  refine ne_dataH (Reads.list ha hca hda ra) (Reads.list hb hcb hdb rb) (shaped_rows ns) (shaped_rows ms) hu ?_
  rw [show PyData.eqv (.list (ns.map fun ns => PyData.list (ns.map PyData.int))) (.list (ms.map fun ns => PyData.list (ns.map PyData.int))) = decide (ns = ms) by simp only [PyData.eqv]; exact eqv_rows ns ms]
  exact h
theorem eq_bools {ns ms : List Bool} (hl : s.heap.IsList a vs.toArray) (hi : LSm.BoolsAre vs ns) (hl' : s.heap.IsList b us.toArray) (hi' : LSm.BoolsAre us ms) (hu : A.units + 64 < cLine)
    (h : Q (.bool (decide (ns = ms))) s) : wpAny (model prog w) A (compareOp .Eq (.ref a) (.ref b)) Q E s := by
  obtain ⟨oa, ha, hca, na, hda⟩ := hl
  obtain ⟨ob, hb, hcb, nb, hdb⟩ := hl'
  refine eq_dataH (Reads.list ha hca hda (bools_reads hi)) (Reads.list hb hcb hdb (bools_reads hi')) (shaped_bools ns) (shaped_bools ms) hu ?_
  rw [show PyData.eqv (.list (ns.map PyData.bool)) (.list (ms.map PyData.bool)) = decide (ns = ms) by simp only [PyData.eqv]; exact eqv_bools ns ms]
  exact h
end

/-- what lies off the law's cells and off the table of codes -/
def OffC (L : Addr) (R : List (Addr × Obj)) : Prop := ∀ q ∈ R, (@Ne Nat q.1 253) ∧ ∀ d : Nat, @LT.lt Nat _ L d → d ≤ L + 9 → @Ne Nat q.1 d
theorem OffC.nil {L : Addr} : OffC L [] := fun _ h => nomatch h
theorem OffC.cons {L D : Addr} {o : Obj} {R : List (Addr × Obj)} (h : OffC L R) (h1 : @Ne Nat D 253) (h2 : ∀ d : Nat, @LT.lt Nat _ L d → d ≤ L + 9 → @Ne Nat D d) : OffC L ((D, o) :: R) := fun q hq => by
  rcases List.mem_cons.mp hq with rfl | hq
  · exact ⟨h1, h2⟩
  · exact h q hq
theorem OffC.app {L : Addr} {R R' : List (Addr × Obj)} (h : OffC L R) (h' : OffC L R') : OffC L (R ++ R') := fun q hq => (List.mem_append.mp hq).elim (h q) (h' q)
theorem OffC.all {L d : Addr} {R : List (Addr × Obj)} (h : OffC L R) (h1 : @LT.lt Nat _ L d) (h2 : @LE.le Nat _ d (L + 9)) : ∀ p ∈ R, p.1 ≠ d := fun q hq => (h q hq).2 d h1 h2
end Mine
end

section
open PySem PySem.W PyProof.Rows PySem.Calls LCg
set_option Elab.async false
set_option maxRecDepth 100000
set_option maxHeartbeats 8000000
namespace Mine
/-- the table of codes and the law's nine cells stand -/
def LiveC (L : Addr) (h : Heap) : Prop := (∃ o, h.get? 253 = some o) ∧ ∀ d : Nat, @LT.lt Nat _ L d → d ≤ L + 9 → ∃ o, h.get? d = some o
theorem LiveC.keeps {L : Addr} {h h' : Heap} (q : LiveC L h) (k : h.StaysIn h') : LiveC L h' :=
  ⟨let ⟨o, e⟩ := q.1; ⟨o, k _ _ e⟩, fun d h1 h2 => let ⟨o, e⟩ := q.2 d h1 h2; ⟨o, k _ _ e⟩⟩
theorem liveC {h₀ h : Heap} {L : Addr} {o1 o2 o3 o4 o5 o6 o7 o8 o9 oP : Obj} {R : List (Addr × Obj)} (N : News h₀ L h ((L + 1 + 1 + 1 + 1 + 1 + 1 + 1 + 1 + 1, o1) :: (L + 1 + 1 + 1 + 1 + 1 + 1 + 1 + 1, o2) :: (L + 1 + 1 + 1 + 1 + 1 + 1 + 1, o3) :: (L + 1 + 1 + 1 + 1 + 1 + 1, o4) :: (L + 1 + 1 + 1 + 1 + 1, o5) :: (L + 1 + 1 + 1 + 1, o6) :: (L + 1 + 1 + 1, o7) :: (L + 1 + 1, o8) :: (L + 1, o9) :: (253, oP) :: R)) : LiveC L h := by
  refine ⟨⟨oP, N.get (by k_mem)⟩, fun d h1 h2 => ?_⟩
  have e : d = L + 1 ∨ d = L + 1 + 1 ∨ d = L + 1 + 1 + 1 ∨ d = L + 1 + 1 + 1 + 1 ∨ d = L + 1 + 1 + 1 + 1 + 1 ∨ d = L + 1 + 1 + 1 + 1 + 1 + 1 ∨ d = L + 1 + 1 + 1 + 1 + 1 + 1 + 1 ∨ d = L + 1 + 1 + 1 + 1 + 1 + 1 + 1 + 1 ∨ d = L + 1 + 1 + 1 + 1 + 1 + 1 + 1 + 1 + 1 := by omega
  rcases e with e | e | e | e | e | e | e | e | e
  · exact ⟨o9, by rw [e]; exact N.get (by k_mem)⟩
  · exact ⟨o8, by rw [e]; exact N.get (by k_mem)⟩
  · exact ⟨o7, by rw [e]; exact N.get (by k_mem)⟩
  · exact ⟨o6, by rw [e]; exact N.get (by k_mem)⟩
  · exact ⟨o5, by rw [e]; exact N.get (by k_mem)⟩
  · exact ⟨o4, by rw [e]; exact N.get (by k_mem)⟩
  · exact ⟨o3, by rw [e]; exact N.get (by k_mem)⟩
  · exact ⟨o2, by rw [e]; exact N.get (by k_mem)⟩
  · exact ⟨o1, by rw [e]; exact N.get (by k_mem)⟩
theorem LiveC.off {L : Addr} {h : Heap} {R : List (Addr × Obj)} (q : LiveC L h) (hf : ∀ e ∈ R, h.get? e.1 = none) : OffC L R := fun e he => by
  refine ⟨fun z => ?_, fun d h1 h2 z => ?_⟩
  · obtain ⟨o, e1⟩ := q.1
    have := hf e he
    rw [show e.1 = 253 from z, e1] at this; cases this
  · obtain ⟨o, e1⟩ := q.2 d h1 h2
    have := hf e he
    rw [show e.1 = d from z, e1] at this; cases this
section
variable {h₀ h h' : Heap} {L : Addr} {m : Str → Option Value} {news R : List (Addr × Obj)}
theorem newsMany (F : Fr h₀ L h m) (N : News h₀ L h news) (k : h.StaysIn h') (hR : ∀ q ∈ R, h'.get? q.1 = some q.2 ∧ h.get? q.1 = none) : News h₀ L h' (news ++ R) := fun q hq => by
  rcases List.mem_append.mp hq with hq | hq
  · exact ⟨k _ _ (N q hq).1, (N q hq).2⟩
  · refine ⟨(hR q hq).1, fun e => ?_, freshOf F.keep (hR q hq).2⟩
    obtain ⟨o, _, _, ho, _⟩ := F.ns
    have := (hR q hq).2
    rw [e, ho] at this; cases this
end
theorem ints_getD {ys : List Value} {ns : List Int} (hl : ys.length = ns.length) (h : ∀ (j : Nat) (y : Value), ys[j]? = some y → ∃ t, y = .int (ns.getD j 0) t) : IntsAre ys ns :=
  ints_of ys ns hl fun j v n hv hn => by
    obtain ⟨t, e⟩ := h j v hv
    refine ⟨t, ?_⟩
    rw [e]
    simp [List.getD, hn]
end Mine
namespace Mine
theorem pw0 (d : Int) : d.fdiv (4 ^ Int.toNat 0) = d := by
  rw [show (4 : Int) ^ Int.toNat 0 = 1 from rfl, Int.fdiv_eq_ediv_of_nonneg _ (by decide), Int.ediv_one]
theorem pw1 (d : Int) : d.fdiv (4 ^ Int.toNat 1) = d / 4 := by
  rw [show (4 : Int) ^ Int.toNat 1 = 4 from rfl, Int.fdiv_eq_ediv_of_nonneg _ (by decide)]
theorem pw2 (d : Int) : d.fdiv (4 ^ Int.toNat 2) = d / 16 := by
  rw [show (4 : Int) ^ Int.toNat 2 = 16 from rfl, Int.fdiv_eq_ediv_of_nonneg _ (by decide)]
end Mine
namespace Mine
section
variable {h₀ h : Heap} {L : Addr} {R : List (Addr × Obj)} {e e1 e2 e3 e4 e5 e6 e7 e8 e9 e10 : Addr × Obj}
theorem shift10 (N : News h₀ L h (e :: e1 :: e2 :: e3 :: e4 :: e5 :: e6 :: e7 :: e8 :: e9 :: e10 :: R)) : News h₀ L h (e1 :: e2 :: e3 :: e4 :: e5 :: e6 :: e7 :: e8 :: e9 :: e10 :: e :: R) := fun q hq => by
  refine N q ?_
  rw [show e :: e1 :: e2 :: e3 :: e4 :: e5 :: e6 :: e7 :: e8 :: e9 :: e10 :: R = [e] ++ ([e1, e2, e3, e4, e5, e6, e7, e8, e9, e10] ++ R) from rfl]
  rw [show e1 :: e2 :: e3 :: e4 :: e5 :: e6 :: e7 :: e8 :: e9 :: e10 :: e :: R = [e1, e2, e3, e4, e5, e6, e7, e8, e9, e10] ++ ([e] ++ R) from rfl] at hq
  rcases List.mem_append.mp hq with hq | hq
  · exact List.mem_append_right _ (List.mem_append_left _ hq)
  · rcases List.mem_append.mp hq with hq | hq
    · exact List.mem_append_left _ hq
    · exact List.mem_append_right _ (List.mem_append_right _ hq)
theorem tail10 (N : News h₀ L h (e1 :: e2 :: e3 :: e4 :: e5 :: e6 :: e7 :: e8 :: e9 :: e10 :: R)) : ∀ q ∈ R, h.get? q.1 = some q.2 := fun q hq =>
  (N q (by
    rw [show e1 :: e2 :: e3 :: e4 :: e5 :: e6 :: e7 :: e8 :: e9 :: e10 :: R = [e1, e2, e3, e4, e5, e6, e7, e8, e9, e10] ++ R from rfl]
    exact List.mem_append_right _ hq)).1
end
end Mine
namespace Mine
theorem refs_at {ents : List (Addr × Obj)} {i : Nat} {v : Value} (h : (refsOf' ents).toArray[i]? = some v) : ∃ q, ents.reverse[i]? = some q ∧ v = .ref q.1 := by
  simp only [List.getElem?_toArray] at h
  unfold refsOf' at h
  rw [List.getElem?_map] at h
  cases e : ents.reverse[i]? with
  | none => rw [e] at h; cases h
  | some q => rw [e] at h; cases h; exact ⟨q, rfl, rfl⟩
end Mine
namespace Mine
theorem firstOf_len (ns : List Int) (over : Int) (least : Nat) : (firstOf ns over least).length ≤ 1 := by
  unfold firstOf
  rw [List.length_take]
  exact Nat.min_le_left _ _
end Mine
namespace Mine
section
variable {prog : Program} {w : World} {A : Around} {E : Value → Shared → Prop} {s : Shared} {a b : Addr} {Q : Value → Shared → Prop} {vs us : List Value}
theorem ne_ints_same {ns : List Int} (hl : s.heap.IsList a vs.toArray) (hi : IntsAre vs ns) (hl' : s.heap.IsList b us.toArray) (hi' : IntsAre us ns) (hu : A.units + 64 < cLine)
    (h : Q (.bool false) s) : wpAny (model prog w) A (compareOp .NotEq (.ref a) (.ref b)) Q E s :=
  ne_intsK hl hi hl' hi' hu (by rw [decide_eq_true rfl]; exact h)
theorem ne_rows_same {ns : List (List Int)} (hl : s.heap.IsList a vs.toArray) (hi : RowsV s.heap vs ns) (hl' : s.heap.IsList b us.toArray) (hi' : RowsV s.heap us ns) (hu : A.units + 64 < cLine)
    (h : Q (.bool false) s) : wpAny (model prog w) A (compareOp .NotEq (.ref a) (.ref b)) Q E s :=
  ne_rows hl hi hl' hi' hu (by rw [decide_eq_true rfl]; exact h)
theorem eq_bools_same {ns : List Bool} (hl : s.heap.IsList a vs.toArray) (hi : LSm.BoolsAre vs ns) (hl' : s.heap.IsList b us.toArray) (hi' : LSm.BoolsAre us ns) (hu : A.units + 64 < cLine)
    (h : Q (.bool true) s) : wpAny (model prog w) A (compareOp .Eq (.ref a) (.ref b)) Q E s :=
  eq_bools hl hi hl' hi' hu (by rw [decide_eq_true rfl]; exact h)
end
end Mine
end

section
open PySem PySem.W PyProof.Rows PySem.Calls LCg
set_option Elab.async false
set_option maxRecDepth 100000
set_option maxHeartbeats 8000000
namespace Mine
/-- the law's ledger: nine cells, the table of codes, the rest -/
abbrev CS (L : Addr) (o1 o2 o3 o4 o5 o6 o7 o8 o9 : Obj) (ps : Array Value) (R : List (Addr × Obj)) : List (Addr × Obj) :=
  (L + 1 + 1 + 1 + 1 + 1 + 1 + 1 + 1 + 1, o1) :: (L + 1 + 1 + 1 + 1 + 1 + 1 + 1 + 1, o2) :: (L + 1 + 1 + 1 + 1 + 1 + 1 + 1, o3) :: (L + 1 + 1 + 1 + 1 + 1 + 1, o4) :: (L + 1 + 1 + 1 + 1 + 1, o5) :: (L + 1 + 1 + 1 + 1, o6) :: (L + 1 + 1 + 1, o7) :: (L + 1 + 1, o8) :: (L + 1, o9) :: (253, tabObj ps) :: R

abbrev nine (L : Addr) (o1 o2 o3 o4 o5 o6 o7 o8 o9 : Obj) : List (Addr × Obj) :=
  [(L + 1 + 1 + 1 + 1 + 1 + 1 + 1 + 1 + 1, o1), (L + 1 + 1 + 1 + 1 + 1 + 1 + 1 + 1, o2), (L + 1 + 1 + 1 + 1 + 1 + 1 + 1, o3), (L + 1 + 1 + 1 + 1 + 1 + 1, o4), (L + 1 + 1 + 1 + 1 + 1, o5), (L + 1 + 1 + 1 + 1, o6), (L + 1 + 1 + 1, o7), (L + 1 + 1, o8), (L + 1, o9)]
theorem cs_iff {L : Addr} {o1 o2 o3 o4 o5 o6 o7 o8 o9 : Obj} {ps : Array Value} {R : List (Addr × Obj)} {q : Addr × Obj} : q ∈ CS L o1 o2 o3 o4 o5 o6 o7 o8 o9 ps R ↔ q ∈ nine L o1 o2 o3 o4 o5 o6 o7 o8 o9 ∨ q = (253, tabObj ps) ∨ q ∈ R := by
  show q ∈ nine L o1 o2 o3 o4 o5 o6 o7 o8 o9 ++ ((253, tabObj ps) :: R) ↔ _
  exact ⟨fun h => (List.mem_append.mp h).imp id List.mem_cons.mp, fun h => List.mem_append.mpr (h.imp id List.mem_cons.mpr)⟩
theorem nine_at {L : Addr} {o1 o2 o3 o4 o5 o6 o7 o8 o9 : Obj} {q : Addr × Obj} (h : q ∈ nine L o1 o2 o3 o4 o5 o6 o7 o8 o9) : @LT.lt Nat _ L q.1 := by
  simp only [nine, List.mem_cons, List.not_mem_nil, or_false] at h
  rcases h with rfl | rfl | rfl | rfl | rfl | rfl | rfl | rfl | rfl <;> exact Nat.lt_of_succ_le (by simp only [Nat.succ_eq_add_one]; omega)
/-- what differs from all nine and the table -/
theorem off_nine {L D : Addr} {o1 o2 o3 o4 o5 o6 o7 o8 o9 : Obj} (hn : ∀ q ∈ nine L o1 o2 o3 o4 o5 o6 o7 o8 o9, @Ne Nat q.1 D) : ∀ d : Nat, @LT.lt Nat _ L d → d ≤ L + 9 → @Ne Nat D d := fun d h1 h2 => by
  have e : d = L + 1 ∨ d = L + 1 + 1 ∨ d = L + 1 + 1 + 1 ∨ d = L + 1 + 1 + 1 + 1 ∨ d = L + 1 + 1 + 1 + 1 + 1 ∨ d = L + 1 + 1 + 1 + 1 + 1 + 1 ∨ d = L + 1 + 1 + 1 + 1 + 1 + 1 + 1 ∨ d = L + 1 + 1 + 1 + 1 + 1 + 1 + 1 + 1 ∨ d = L + 1 + 1 + 1 + 1 + 1 + 1 + 1 + 1 + 1 := by omega
  rcases e with e | e | e | e | e | e | e | e | e <;> rw [e]
  · exact Ne.symm (hn (L + 1, o9) (by k_mem))
  · exact Ne.symm (hn (L + 1 + 1, o8) (by k_mem))
  · exact Ne.symm (hn (L + 1 + 1 + 1, o7) (by k_mem))
  · exact Ne.symm (hn (L + 1 + 1 + 1 + 1, o6) (by k_mem))
  · exact Ne.symm (hn (L + 1 + 1 + 1 + 1 + 1, o5) (by k_mem))
  · exact Ne.symm (hn (L + 1 + 1 + 1 + 1 + 1 + 1, o4) (by k_mem))
  · exact Ne.symm (hn (L + 1 + 1 + 1 + 1 + 1 + 1 + 1, o3) (by k_mem))
  · exact Ne.symm (hn (L + 1 + 1 + 1 + 1 + 1 + 1 + 1 + 1, o2) (by k_mem))
  · exact Ne.symm (hn (L + 1 + 1 + 1 + 1 + 1 + 1 + 1 + 1 + 1, o1) (by k_mem))

/-- rows that a comprehension makes -/
def JR (L : Addr) (o1 o2 o3 o4 o5 o6 o7 o8 o9 : Obj) (TL : List (Addr × Obj)) (val : Nat → List Int) (i : Nat) (ys : List Value) (news : List (Addr × Obj)) : Prop :=
  ∃ ps RS, news = CS L o1 o2 o3 o4 o5 o6 o7 o8 o9 ps (RS ++ TL) ∧ PsOk lamPos lamQual ps (RS ++ TL) ∧ OffC L RS ∧ ys.length = i ∧
    ∀ (j : Nat) (y : Value), ys[j]? = some y → ∃ D us c, y = .ref D ∧ (D, W.listOf (List.toArray us) c) ∈ RS ∧ IntsAre us (val j)
theorem JR.start {L : Addr} {o1 o2 o3 o4 o5 o6 o7 o8 o9 : Obj} {TL : List (Addr × Obj)} {val : Nat → List Int} {ps : Array Value} (h : PsOk lamPos lamQual ps TL) :
    JR L o1 o2 o3 o4 o5 o6 o7 o8 o9 TL val 0 [] (CS L o1 o2 o3 o4 o5 o6 o7 o8 o9 ps TL) :=
  ⟨ps, [], rfl, h, OffC.nil, rfl, fun j y h => by simp at h⟩

section
variable {h₀ h : Heap} {L I C D : Addr} {oI oC : Obj} {o1 o2 o3 o4 o5 o6 o7 o8 o9 : Obj} {TL : List (Addr × Obj)} {val : Nat → List Int} {i : Nat} {ys : List Value} {ps : Array Value} {m : Str → Option Value}
theorem rows_step {RS : List (Addr × Obj)} (h5 : ys.length = i) (h6 : ∀ (j : Nat) (y : Value), ys[j]? = some y → ∃ D us c, y = .ref D ∧ (D, W.listOf (List.toArray us) c) ∈ RS ∧ IntsAre us (val j))
    {RS' : List (Addr × Obj)} (hsub : ∀ q ∈ RS, q ∈ RS') {D' : Addr} {us : List Value} {c : Nat} (hD : (D', W.listOf (List.toArray us) c) ∈ RS') (hI : IntsAre us (val i)) :
    (ys ++ [Value.ref D']).length = i + 1 ∧ ∀ (j : Nat) (y : Value), (ys ++ [Value.ref D'])[j]? = some y → ∃ D us c, y = .ref D ∧ (D, W.listOf (List.toArray us) c) ∈ RS' ∧ IntsAre us (val j) := by
  refine ⟨by rw [List.length_append, List.length_singleton, h5], fun j z hz => ?_⟩
  rcases Nat.lt_trichotomy j ys.length with q | q | q
  · rw [List.getElem?_append_left q] at hz
    obtain ⟨D, us, c, e, hm, hi⟩ := h6 j z hz
    exact ⟨D, us, c, e, hsub _ hm, hi⟩
  · subst q; simp at hz; subst hz; rw [h5]; exact ⟨D', us, c, rfl, hD, hI⟩
  · rw [List.getElem?_eq_none (by rw [List.length_append, List.length_singleton]; omega)] at hz; cases hz

/-- a plain new row -/
theorem elt_row {s : Shared} {h' : Heap} {tk : Nat} {news : List (Addr × Obj)} (J : JR L o1 o2 o3 o4 o5 o6 o7 o8 o9 TL val i ys news) (off : Off3 I C D news)
    {D' : Addr} {us : List Value} {c : Nat} (F : Fr h₀ L h' m) {all : List (Addr × Obj)} (N : News h₀ L h' all) (hsub : ∀ q ∈ (I, oI) :: (C, oC) :: (D, lst ys) :: news, q ∈ all) (hD : (D', W.listOf (List.toArray us) c) ∈ all)
    (hne : ∀ q ∈ (I, oI) :: (C, oC) :: (D, lst ys) :: news, @Ne Nat q.1 D') (hI : IntsAre us (val i)) :
    CompEnd h₀ L m s I oI C oC D (lst ys) (fun _ => True) (fun y news' => JR L o1 o2 o3 o4 o5 o6 o7 o8 o9 TL val (i + 1) (ys ++ [y]) news') (.ref D') { s with heap := h', toks := tk } := by
  obtain ⟨ps, RS, rfl, h1, h2, h5, h6⟩ := J
  have hm : ∀ q ∈ CS L o1 o2 o3 o4 o5 o6 o7 o8 o9 ps (RS ++ TL), q ∈ all := fun q hq => hsub q (.tail _ (.tail _ (.tail _ hq)))
  have hn : ∀ q ∈ CS L o1 o2 o3 o4 o5 o6 o7 o8 o9 ps (RS ++ TL), @Ne Nat q.1 D' := fun q hq => hne q (.tail _ (.tail _ (.tail _ hq)))
  have hin : ∀ q ∈ CS L o1 o2 o3 o4 o5 o6 o7 o8 o9 ps (((D', W.listOf (List.toArray us) c) :: RS) ++ TL), q = (D', W.listOf (List.toArray us) c) ∨ q ∈ CS L o1 o2 o3 o4 o5 o6 o7 o8 o9 ps (RS ++ TL) := fun q hq => by
    rcases cs_iff.mp hq with h | h | h
    · exact .inr (cs_iff.mpr (.inl h))
    · exact .inr (cs_iff.mpr (.inr (.inl h)))
    · rcases List.mem_cons.mp h with h | h
      · exact .inl h
      · exact .inr (cs_iff.mpr (.inr (.inr h)))
  refine CompEnd.intro F N (CS L o1 o2 o3 o4 o5 o6 o7 o8 o9 ps (((D', W.listOf (List.toArray us) c) :: RS) ++ TL)) (fun q hq => ?_) (Off3.of fun q hq => ?_) trivial ⟨ps, _, rfl, h1.mono fun q hq => .tail _ hq, h2.cons (Ne.symm (hn (253, tabObj ps) (by k_mem))) (off_nine fun q hq => hn q (cs_iff.mpr (.inl hq))), rows_step h5 h6 (fun q hq => .tail _ hq) (.head _) hI⟩
  · rcases List.mem_cons.mp hq with rfl | hq
    · exact hsub _ (.head _)
    · rcases List.mem_cons.mp hq with rfl | hq
      · exact hsub _ (.tail _ (.head _))
      · rcases List.mem_cons.mp hq with rfl | hq
        · exact hsub _ (.tail _ (.tail _ (.head _)))
        · rcases hin q hq with rfl | hq
          · exact hD
          · exact hm q hq
  · rcases hin q hq with rfl | hq
    · exact ⟨Ne.symm (hne (I, oI) (.head _)), Ne.symm (hne (C, oC) (.tail _ (.head _))), Ne.symm (hne (D, lst ys) (.tail _ (.tail _ (.head _))))⟩
    · exact off.mem q hq

/-- a row by halving, the table of codes may grow -/
theorem elt_halved {w : World} {A : Around} {s : Shared} {E : Value → Shared → Prop} {p : Program} {loose : List Str} {mean : ExcName → Option Value} {mg mb : Str → Option Value} {news : List (Addr × Obj)} {a b : List Nat} {over : Int} {t1 t2 t3 : Tok}
    (J : JR L o1 o2 o3 o4 o5 o6 o7 o8 o9 TL val i ys news) (off : Off3 I C D news) (hTL : OffC L TL) (h253 : @LT.lt Nat _ 253 L)
    (F : Fr h₀ L s.heap m) (N : News h₀ L s.heap ((I, oI) :: (C, oC) :: (D, lst ys) :: news)) (CH : CodeHd h₀ 257 253)
    (ha : a.length ≤ 10) (hb : b.length ≤ 10) (hab : a.length ≤ b.length) (hA : Al a) (hB : Al b) (hval : val i = halvedOf a b over)
    (r : Room A 7 40) (X : (heapK w.params).In h₀) (T : Top p loose mean mg mb h₀) :
    wpAny (model PySem.Challenge.rw_pe0267_01.row.prog w) A (call (.ref 258) [.str (S a) t1, .str (S b) t2, .int over t3])
      (CompEnd h₀ L m s I oI C oC D (lst ys) (fun _ => True) (fun y news' => JR L o1 o2 o3 o4 o5 o6 o7 o8 o9 TL val (i + 1) (ys ++ [y]) news')) E s := by
  obtain ⟨ps, RS, rfl, h1, h2, h5, h6⟩ := J
  have hoffm := off.mem
  have n253 := hoffm (253, tabObj ps) (by k_mem)
  have live := liveC (h := s.heap) (fun q hq => N q (.tail _ (.tail _ (.tail _ hq))))
  obtain ⟨REST, hREST⟩ : ∃ REST : List (Addr × Obj), REST = (I, oI) :: (C, oC) :: (D, lst ys) :: (nine L o1 o2 o3 o4 o5 o6 o7 o8 o9 ++ (RS ++ TL)) := ⟨_, rfl⟩
  have hRT : ∀ q ∈ RS ++ TL, q ∈ REST := fun q hq => by rw [hREST]; exact .tail _ (.tail _ (.tail _ (List.mem_append_right _ hq)))
  have hRN : ∀ q ∈ nine L o1 o2 o3 o4 o5 o6 o7 o8 o9, q ∈ REST := fun q hq => by rw [hREST]; exact .tail _ (.tail _ (.tail _ (List.mem_append_left _ hq)))
  have hR3 : ∀ q ∈ REST, q = (I, oI) ∨ q = (C, oC) ∨ q = (D, lst ys) ∨ q ∈ nine L o1 o2 o3 o4 o5 o6 o7 o8 o9 ∨ q ∈ RS ++ TL := fun q hq => by
    rw [hREST] at hq
    rcases List.mem_cons.mp hq with h | hq
    · exact .inl h
    · rcases List.mem_cons.mp hq with h | hq
      · exact .inr (.inl h)
      · rcases List.mem_cons.mp hq with h | hq
        · exact .inr (.inr (.inl h))
        · exact .inr (.inr (.inr (List.mem_append.mp hq)))
  have N1 : News h₀ L s.heap ([(253, tabObj ps)] ++ REST) := fun q hq => by
    rcases List.mem_cons.mp hq with rfl | hq
    · exact N _ (.tail _ (.tail _ (.tail _ (by k_mem))))
    · rcases hR3 q hq with rfl | rfl | rfl | h | h
      · exact N _ (.head _)
      · exact N _ (.tail _ (.head _))
      · exact N _ (.tail _ (.tail _ (.head _)))
      · exact N q (.tail _ (.tail _ (.tail _ (cs_iff.mpr (.inl h)))))
      · exact N q (.tail _ (.tail _ (.tail _ (cs_iff.mpr (.inr (.inr h))))))
  refine halved F N1 ?_ CH (h1.mono hRT) ha hb hab hA hB r X T ?_
  · intro q hq p' hp'
    rw [List.mem_singleton.mp hp']
    rcases hR3 q hq with rfl | rfl | rfl | h | h
    · exact Ne.symm n253.1
    · exact Ne.symm n253.2.1
    · exact Ne.symm n253.2.2
    · exact Nat.ne_of_gt (Nat.lt_trans h253 (nine_at h))
    · rcases List.mem_append.mp h with h | h
      · exact (h2 q h).1
      · exact (hTL q h).1
  intro h' tk D' us ps' extra F' N' hps hI hD hex
  have hlt : ∀ q ∈ (I, oI) :: (C, oC) :: (D, lst ys) :: CS L o1 o2 o3 o4 o5 o6 o7 o8 o9 ps (RS ++ TL), @LT.lt Nat _ q.1 s.heap.objs.size := fun q hq => Heap.lt_size (N q hq).1
  have lI := hlt (I, oI) (.head _)
  have lC := hlt (C, oC) (.tail _ (.head _))
  have lD := hlt (D, lst ys) (.tail _ (.tail _ (.head _)))
  have lP := hlt (253, tabObj ps) (by k_mem)
  have lL := hlt (L + 1 + 1 + 1 + 1 + 1 + 1 + 1 + 1 + 1, o1) (by k_mem)
  have hmem : ∀ q, q = (D', W.listOf (List.toArray us) 0) ∨ q ∈ extra ∨ q ∈ RS ∨ q ∈ TL → q ∈ (D', W.listOf (List.toArray us) 0) :: (253, tabObj ps') :: (extra ++ REST) := fun q hq => by
    rcases hq with rfl | hq | hq | hq
    · exact .head _
    · exact .tail _ (.tail _ (List.mem_append_left _ hq))
    · exact .tail _ (.tail _ (List.mem_append_right _ (hRT q (List.mem_append_left _ hq))))
    · exact .tail _ (.tail _ (List.mem_append_right _ (hRT q (List.mem_append_right _ hq))))
  refine CompEnd.intro F' N' (CS L o1 o2 o3 o4 o5 o6 o7 o8 o9 ps' (((D', W.listOf (List.toArray us) 0) :: (extra ++ RS)) ++ TL)) (fun q hq => ?_) (Off3.of fun q hq => ?_) trivial ⟨ps', _, rfl, ?_, ?_, rows_step h5 h6 (fun q hq => .tail _ (List.mem_append_right _ hq)) (.head _) (hval ▸ hI)⟩
  · rcases List.mem_cons.mp hq with h | hq
    · rw [h, hREST]; exact .tail _ (.tail _ (List.mem_append_right _ (.head _)))
    · rcases List.mem_cons.mp hq with h | hq
      · rw [h, hREST]; exact .tail _ (.tail _ (List.mem_append_right _ (.tail _ (.head _))))
      · rcases List.mem_cons.mp hq with h | hq
        · rw [h, hREST]; exact .tail _ (.tail _ (List.mem_append_right _ (.tail _ (.tail _ (.head _)))))
        · rcases cs_iff.mp hq with h | h | h
          · exact .tail _ (.tail _ (List.mem_append_right _ (hRN q h)))
          · rw [h]; exact .tail _ (.head _)
          · rcases List.mem_append.mp h with h | h
            · rcases List.mem_cons.mp h with h | h
              · exact hmem q (.inl h)
              · rcases List.mem_append.mp h with h | h
                · exact hmem q (.inr (.inl h))
                · exact hmem q (.inr (.inr (.inl h)))
            · exact hmem q (.inr (.inr (.inr h)))
  · rcases cs_iff.mp hq with h | h | h
    · exact hoffm q (cs_iff.mpr (.inl h))
    · rw [h]; exact n253
    · rcases List.mem_append.mp h with h | h
      · rcases List.mem_cons.mp h with rfl | h
        · exact ⟨Nat.ne_of_gt (Nat.lt_of_lt_of_le lI hD), Nat.ne_of_gt (Nat.lt_of_lt_of_le lC hD), Nat.ne_of_gt (Nat.lt_of_lt_of_le lD hD)⟩
        · rcases List.mem_append.mp h with h | h
          · have := (hex q h).1
            exact ⟨Nat.ne_of_gt (Nat.lt_of_lt_of_le lI this), Nat.ne_of_gt (Nat.lt_of_lt_of_le lC this), Nat.ne_of_gt (Nat.lt_of_lt_of_le lD this)⟩
          · exact hoffm q (cs_iff.mpr (.inr (.inr (List.mem_append_left _ h))))
      · exact hoffm q (cs_iff.mpr (.inr (.inr (List.mem_append_right _ h))))
  · rcases hps with ⟨rfl, rfl⟩ | hps
    · exact h1.mono fun q hq => .tail _ hq
    · exact hps.mono fun q hq => .tail _ (List.mem_append_left _ (List.mem_append_left _ hq))
  · have lL' : @LT.lt Nat _ (L + 9) s.heap.objs.size := lL
    refine OffC.cons (OffC.app (fun q hq => ⟨Nat.ne_of_gt (Nat.lt_of_lt_of_le lP (hex q hq).1), fun d _ hd => Nat.ne_of_gt (Nat.lt_of_le_of_lt hd (Nat.lt_of_lt_of_le lL' (hex q hq).1))⟩) h2) (Nat.ne_of_gt (Nat.lt_of_lt_of_le lP hD)) (fun d _ hd => Nat.ne_of_gt (Nat.lt_of_le_of_lt hd (Nat.lt_of_lt_of_le lL' hD)))

theorem off1_mem {D : Addr} : ∀ {l : List (Addr × Obj)}, Off1 D l → ∀ q ∈ l, @Ne Nat q.1 D
  | [], _, _, h => nomatch h
  | _ :: _, x, q, h => by
    rcases List.mem_cons.mp h with rfl | h
    · exact x.1
    · exact off1_mem x.2 q h
theorem offC_of {D : Addr} {o : Obj} {R : List (Addr × Obj)} (hn : ∀ q ∈ CS L o1 o2 o3 o4 o5 o6 o7 o8 o9 ps R, @Ne Nat q.1 D) : OffC L [(D, o)] := by
  exact OffC.cons OffC.nil (Ne.symm (hn (253, tabObj ps) (by k_mem))) (off_nine fun q hq => hn q (cs_iff.mpr (.inl hq)))
theorem one_cut {l : List Int} {k : Nat} (h : k < l.length) : (l.drop ((k : Nat) : Int).toNat).take (min (((k : Nat) : Int) + 1).toNat l.length - ((k : Nat) : Int).toNat) = [l.getD k 0] := by
  rw [show (((k : Nat) : Int)).toNat = k by omega, show (((k : Nat) : Int) + 1).toNat = k + 1 by omega, show min (k + 1) l.length - k = 1 by omega, List.take_one, List.head?_drop, List.getElem?_eq_getElem h]
  simp [List.getD, h]
/-- at most a number -/
def leV (n : Int) : Value → Bool
  | .int j _ => decide (j ≤ n)
  | _ => false
theorem rows_of {nss : List (List Int)} {RS : List (Addr × Obj)} {n : Nat} (hn : nss.length = n) (hl : ys.length = n) (hv : ∀ j, j < n → nss.getD j [] = val j)
    (hr : ∀ (j : Nat) (y : Value), ys[j]? = some y → ∃ D us c, y = .ref D ∧ (D, W.listOf (List.toArray us) c) ∈ RS ∧ IntsAre us (val j)) (live : ∀ q ∈ RS, h.get? q.1 = some q.2) : RowsV h ys nss := by
  refine rowsV_of ys nss (by rw [hl, hn]) fun j y hj => ?_
  obtain ⟨D, us, c, e, hm, hi⟩ := hr j y hj
  have hj2 : j < n := by rw [← hl]; exact (List.getElem?_eq_some_iff.mp hj).1
  exact ⟨D, us, e, ⟨_, live _ hm, rfl, _, rfl⟩, by rw [hv j hj2]; exact hi⟩
end
end Mine
namespace Mine
theorem whole_dec {t a : List Nat} {kv : Int} (h : LevOk (t.map lw) (a.map lw) 99 kv) (ha3 : a.length = 3) (ht10 : t.length ≤ 10) (ht5 : 5 ≤ t.length) : decide (kv = 2 * ((t.length : Int) - 3)) = decide (endAt t t.length a a.length ≤ t.length) := by
  have hd := dist_top (f := lw) (t.map lw) (a.map lw)
  rw [List.length_map, List.length_map] at hd
  apply decide_eq_decide.mpr
  rw [← c_whole t a (by omega)]
  rcases h with h | ⟨h1, h2⟩ <;> omega
theorem cut_dec {t a : List Nat} {i : Nat} (hi : i ≤ a.length) : decide (((List.range (a.length + 1)).map (endAt t t.length a)).getD i 0 ≤ ((List.range (a.length + 1)).map (beginAt t a)).reverse.getD i 0) = decide (endAt t t.length a a.length ≤ t.length) := by
  apply decide_eq_decide.mpr
  rw [← c_cut t a i hi]
  have e1 : ((List.range (a.length + 1)).map (endAt t t.length a)).getD i 0 = endAt t t.length a i := by simp [List.getD, show i < a.length + 1 by omega]
  have e2 : ((List.range (a.length + 1)).map (beginAt t a)).reverse.getD i 0 = beginAt t a (a.length - i) := by
    rw [List.getD_eq_getElem?_getD, List.getElem?_reverse (by rw [List.length_map, List.length_range]; omega), List.length_map, List.length_range]
    rw [show a.length + 1 - 1 - i = a.length - i by omega]
    simp [show a.length - i < a.length + 1 by omega]
  rw [e1, e2]
theorem bools_of {n : Nat} {b : Bool} : ∀ {ys : List Value}, ys.length = n → (∀ (j : Nat) (y : Value), ys[j]? = some y → y = .bool b) → LSm.BoolsAre ys (List.replicate n b) := by
  induction n with
  | zero => intro ys h _; rw [List.length_eq_zero_iff.mp h]; exact .nil
  | succ n ih =>
    intro ys h k
    cases ys with
    | nil => simp at h
    | cons y ys =>
      obtain rfl := k 0 y rfl
      exact .cons b (ih (by simpa using h) fun j z hz => k (j + 1) z (by simpa using hz))
end Mine
namespace Mine
/-- a statement's end by a word; what is behind stays closed -/
theorem cutQ {M : Model} {A : Around} {E : Value → Shared → Prop} {s : Shared} {h₀ : Heap} {L : Addr} {Q : Flow → Shared → Prop} {t : Sem Flow} (P : (Str → Option Value) → List (Addr × Obj) → Prop)
    (h1 : ∀ QQ : Flow → Shared → Prop, (∀ h tk m news, Fr h₀ L h m → News h₀ L h news → P m news → QQ .next { s with heap := h, toks := tk }) → wpAny M A t QQ E s)
    (h2 : ∀ h tk m news, Fr h₀ L h m → News h₀ L h news → P m news → Q .next { s with heap := h, toks := tk }) : wpAny M A t Q E s :=
  cut P (fun _ _ => False) (h1 _ fun _ _ _ _ F N p => Stop.next F N p) h2 fun _ _ x => x.elim
end Mine
end

section
open PySem PySem.W PyProof.Rows PySem.Calls LCg
set_option Elab.async false
set_option maxRecDepth 100000
set_option maxHeartbeats 8000000
namespace Mine
variable {w : World} {A : Around} {s : Shared} {E : Value → Shared → Prop} {p : Program} {loose : List Str} {mean : ExcName → Option Value} {mg mb : Str → Option Value}
local macro_rules | `(tactic| k_steps) => `(tactic| repeat' (first
  | (k_unfold; (try dsimp only))
  | ((fail_if_success (with_reducible refine gWhile ?_)); (fail_if_success (with_reducible refine gFor ?_)); (fail_if_success (with_reducible refine gIter ?_)); (fail_if_success (with_reducible refine gComp ?_)); (fail_if_success (with_reducible refine gLam ?_)); (fail_if_success (with_reducible refine gCall ?_)); (fail_if_success (with_reducible show CompSrc _ _ _ _ _ _ _ _ _ _ _ _ _ _)); (fail_if_success (with_reducible refine gJoin ?_)); (fail_if_success (with_reducible refine gCmp ?_)); (fail_if_success (with_reducible refine gMul ?_)); (fail_if_success (with_reducible refine gSub ?_)); (try dsimp only); walk1)
  | fail "no step"))
local macro_rules | `(tactic| k_all) => `(tactic| exact OffC.all (by with_reducible assumption) (by omega) (by omega))
local macro_rules | `(tactic| walk_at "eval Name") => `(tactic| (k_here; (with_reducible show wpAny _ _ (eval (Expr.Name _ _) (compEnvC _ _ _ _)) _ _ _); k_dflt (first
  | (refine' cname_C ?c ?m ?d ?_ ?a ?b; (case a => rfl); (case b => rfl); (case c => rfl); (case m => exact News.get (by k_asm) (by k_mem)); (case d => with_reducible assumption); k_whole)
  | (refine' cname_L ?N ?v ?_ ?a ?b; (case a => rfl); (case b => rfl); (case N => assumption); (case v => assumption); k_whole))))

theorem law_run {x : Addr} {us : List Value} {zs : List Int} {g : Heap} {R : Result → Shared → Prop}
    (hg : g.StaysIn s.heap) (hsz : g.objs.size ≤ s.heap.objs.size) (h253 : s.heap.get? 253 = some (tabObj #[])) (g253 : g.get? 253 = none) (C : CodeHd g 257 253)
    (hl : g.IsList x us.toArray) (hi : IntsAre us zs) (hz : zs.length ≤ 63)
    (r : Room A 12 80) (X : (heapK w.params).In g) (T : Top p loose mean mg mb g)
    (fin : ∀ h' tk ps', g.StaysIn h' → h'.get? 253 = some (tabObj ps') → R (.ok (.ret (.bool true))) { s with heap := h', toks := tk }) :
    codeAny (model PySem.Challenge.rw_pe0267_01.row.prog w) A (.call (.ref 275) ⟨[.ref x], []⟩) R s := by
  revert X; k_fill; intro X
  obtain ⟨hdl, dp, fr, gd, un⟩ := A
  obtain rfl : hdl = none := r.hh
  k_dflt (refine' enterCodeC (news := [(253, tabObj #[])]) (g := g) (binds := [(Str.ofString "script", .ref x)]) hg hsz (fun q hq => by rw [List.mem_singleton.mp hq]; exact ⟨h253, g253⟩) X T ?k8 ?k6 ?k7 ?k9 ?kB ?kD ?_ ?c2 ?c3 ?c4; (case k6 => k_is); (case k7 => k_is); (case k8 => (have := r.hd; omega)); (case k9 => exact BindsTo.of_eq rfl); (case kB => exact rfl); (case kD => decide +kernel); (case c2 => exact rfl); (case c3 => exact rfl); (case c4 => exact rfl); k_whole; intro L' h0 tk0 cells F0 N0 Y' hlt'; (try dsimp only))
  refine with_room (Room.le (d' := 11) (u' := 70) (Room.deeper r) (by omega) (by omega)) ?_
  intro rr
  have hY := cells_nine Y'
  obtain ⟨oL, oF, oM, oB, oE, oS, oW, oD, oT, hE', dL, dF, dM, dB, dE, dS, dW, dD, dT⟩ := hY
  subst hE'
  clear Y'
  (try simp only [List.cons_append, List.nil_append] at N0)
  change oT.data = .cell none at dT
  change oD.data = .cell none at dD
  change oW.data = .cell none at dW
  change oS.data = .cell none at dS
  change oE.data = .cell none at dE
  change oB.data = .cell none at dB
  change oM.data = .cell none at dM
  change oF.data = .cell none at dF
  change oL.data = .cell none at dL
  have h253' : @LT.lt Nat _ 253 L' := hlt' _ (.head _)
  clear hlt'
  change Fr g L' h0 (fun y => if y = Str.ofString "script" then some (.ref x) else none) at F0
  have hOff0 : OffC L' [] := OffC.nil
  obtain ⟨ts, hts⟩ : ∃ ts, ts = zs.take 5 ++ [0, 3, 1, 2, 3] := ⟨_, rfl⟩
  have hlen2 : ts.length ≤ 10 := by rw [hts, List.length_append, List.length_take]; simp; omega
  have hlen3 : 5 ≤ ts.length := by rw [hts, List.length_append]; simp
  obtain ⟨t, ht⟩ : ∃ t, t = ts.map sgn := ⟨_, rfl⟩
  have ht10 : t.length ≤ 10 := by rw [ht, List.length_map]; exact hlen2
  have ht5 : 5 ≤ t.length := by rw [ht, List.length_map]; exact hlen3
  have hAt : Al t := by rw [ht]; exact al_sgn _
  -- stage 1
  walk1
  refine cutQ (h₀ := g) (L := L') (fun m news => m = (fun y => if y = Str.ofString "script" then some (.ref x) else none) ∧ ∃ oT tT, news = (L' + 1 + 1 + 1 + 1 + 1 + 1 + 1 + 1 + 1, oL) :: (L' + 1 + 1 + 1 + 1 + 1 + 1 + 1 + 1, oF) :: (L' + 1 + 1 + 1 + 1 + 1 + 1 + 1, oM) :: (L' + 1 + 1 + 1 + 1 + 1 + 1, oB) :: (L' + 1 + 1 + 1 + 1 + 1, oE) :: (L' + 1 + 1 + 1 + 1, oS) :: (L' + 1 + 1 + 1, oW) :: (L' + 1 + 1, oD) :: (L' + 1, oT) :: (253, tabObj #[]) :: [] ∧ oT.data = .cell (some (.str (S t) tT))) ?_ ?_
  · intro QQ hQQ
    k_steps
    k_dflt (refine ListComp_U F0 rfl (by decide) rfl (by decide) rfl ?_)
    k_steps
    k_dflt (refine kmk_slice_ints (s := ⟨_, _, _, _, _⟩) F0 N0 (stays_list F0.keep hl) IsPart.none (IsPart.int _ _) hi (kmk_upto hi (by decide)) rfl ?_ (by with_unfolding_all rfl) (by intro _; with_unfolding_all rfl) (by rw [List.size_toArray, hi.length]; exact Nat.le_trans hz (by size_fits)))
    intro D1 us1 h1 F1 N1 l1 hI1 _ hle1
    k_lt l1
    clear F0 N0
    k_steps
    rename Fr _ _ _ _ => F2; rename News _ _ _ _ => N2
    rename IntsAre _ (List.take _ zs ++ _) => hI2
    have hws2 := hI2.length
    simp only [show Int.toNat 5 = 5 from rfl] at hI2 hws2
    rw [← hts] at hI2 hws2
    refine srcQ_list (fun i v => ∃ t, v = .str (S [sgn (ts.getD i 0)]) t) rfl F2 N2 (.head _) (by rw [List.size_toArray, hws2]; exact Nat.le_trans hlen2 (by size_fits)) ?_ ?_
    · rintro i v ys I oI C oC D m₂ h tk E' hiz hv hC hx F3 N3
      simp only [List.getElem?_toArray] at hv
      obtain ⟨t, rfl⟩ := IntsAre.int_at hI2 i v hv
      k_steps
      refine elEnd (by assumption) (by assumption) (fun _ h => h) ⟨_, by rw [menu_at]⟩
    intro D2 ys h3 tk3 F3 N3 hD2 hyl hyG
    rw [List.size_toArray, hws2] at hyl
    have N4 : News g L' h3 ((D2, lst ys) :: (L' + 1 + 1 + 1 + 1 + 1 + 1 + 1 + 1 + 1, oL) :: (L' + 1 + 1 + 1 + 1 + 1 + 1 + 1 + 1, oF) :: (L' + 1 + 1 + 1 + 1 + 1 + 1 + 1, oM) :: (L' + 1 + 1 + 1 + 1 + 1 + 1, oB) :: (L' + 1 + 1 + 1 + 1 + 1, oE) :: (L' + 1 + 1 + 1 + 1, oS) :: (L' + 1 + 1 + 1, oW) :: (L' + 1 + 1, oD) :: (L' + 1, oT) :: (253, tabObj #[]) :: []) := fun q hq => N3 q (by
      rcases List.mem_cons.mp hq with rfl | hq
      · exact .head _
      · exact .tail _ (.tail _ (.tail _ (.tail _ hq))))
    clear F2 N2 N3
    k_steps
    refine call_joinS (cs := t) (News.isList N4 (.head _)) (by rw [hyl, ht, List.length_map]) (fun j y hj => ?_) (by omega) ?_
    · obtain ⟨t', e⟩ := hyG j y hj
      have hj2 : j < ts.length := by rw [← hyl]; exact (List.getElem?_eq_some_iff.mp hj).1
      refine ⟨t', ?_⟩
      rw [e, ht]
      simp [List.getD, hj2]
    intro tT tk4
    have N5 := fun q hq => N4 q (List.mem_cons_of_mem _ hq)
    clear N4
    k_steps
    rename Fr _ _ _ _ => F6; rename News _ _ _ _ => N6
    dsimp only
    exact hQQ _ _ _ _ F6 N6 ⟨rfl, _, tT, rfl, by assumption⟩
  rintro h1 tk1 m1 news1 F1 N1 ⟨rfl, oT', tT, rfl, dT'⟩
  clear F0 N0 dT
  dsimp only
  -- stage 2
  walk1
  refine cutQ (h₀ := g) (L := L') (fun m news => m = (fun y => if y = Str.ofString "script" then some (.ref x) else none) ∧ ∃ oD tD, news = (L' + 1 + 1 + 1 + 1 + 1 + 1 + 1 + 1 + 1, oL) :: (L' + 1 + 1 + 1 + 1 + 1 + 1 + 1 + 1, oF) :: (L' + 1 + 1 + 1 + 1 + 1 + 1 + 1, oM) :: (L' + 1 + 1 + 1 + 1 + 1 + 1, oB) :: (L' + 1 + 1 + 1 + 1 + 1, oE) :: (L' + 1 + 1 + 1 + 1, oS) :: (L' + 1 + 1 + 1, oW) :: (L' + 1 + 1, oD) :: (L' + 1, oT') :: (253, tabObj #[]) :: [] ∧ oD.data = .cell (some (.int ((zs.map (· % 1024)).sum + 54) tD))) ?_ ?_
  · intro QQ hQQ
    k_steps
    k_dflt (refine ListComp_U F1 rfl (by decide) rfl (by decide) rfl ?_)
    k_steps
    refine srcQ_base (fun i v => ∃ t, v = .int (zs.getD i 0 % 1024) t) rfl F1 N1 hl (by rw [List.size_toArray, hi.length]; exact Nat.le_trans hz (by size_fits)) ?_ ?_
    · rintro i v ys I oI C oC D m₂ h tk E' hiz hv hC hx F3 N3
      simp only [List.getElem?_toArray] at hv
      obtain ⟨t, rfl⟩ := IntsAre.int_at hi i v hv
      k_steps
      refine elEnd (by assumption) (by assumption) (fun _ h => h) ⟨_, by rw [Int.fmod_eq_emod_of_nonneg _ (by decide)]⟩
    intro D2 ys h3 tk3 F3 N3 hD2 hyl hyG
    rw [List.size_toArray, hi.length] at hyl
    have hI := ints_getD (ns := zs.map (· % 1024)) (by rw [hyl, List.length_map]) (fun j y hj => by
      obtain ⟨t, e⟩ := hyG j y hj
      have hj2 : j < zs.length := by rw [← hyl]; exact (List.getElem?_eq_some_iff.mp hj).1
      exact ⟨t, by rw [e]; simp [List.getD, hj2]⟩)
    clear F1 N1
    k_steps
    rename Fr _ _ _ _ => F4; rename News _ _ _ _ => N4
    have N5 := fun q hq => N4 q (List.mem_cons_of_mem _ hq)
    clear N4 N3 F3
    k_steps
    rename Fr _ _ _ _ => F6; rename News _ _ _ _ => N6
    dsimp only
    exact hQQ _ _ _ _ F6 N6 ⟨rfl, _, _, rfl, by assumption⟩
  rintro h2 tk2 m2 news2 F2 N2 ⟨rfl, oD', tD, rfl, dD'⟩
  clear F1 N1 dD
  obtain ⟨dv, hdv⟩ : ∃ dv, dv = (zs.map (· % 1024)).sum + 54 := ⟨_, rfl⟩
  rw [← hdv] at dD'
  obtain ⟨a, ha⟩ : ∃ a, a = [sgn dv, sgn (dv / 4), sgn (dv / 16)] := ⟨_, rfl⟩
  have ha3 : a.length = 3 := by rw [ha]; rfl
  have hAa : Al a := by rw [ha]; exact al_sgn [dv, dv / 4, dv / 16]
  dsimp only
  -- stage 3
  walk1
  refine cutQ (h₀ := g) (L := L') (fun m news => m = (fun y => if y = Str.ofString "script" then some (.ref x) else none) ∧ ∃ oW tW, news = (L' + 1 + 1 + 1 + 1 + 1 + 1 + 1 + 1 + 1, oL) :: (L' + 1 + 1 + 1 + 1 + 1 + 1 + 1 + 1, oF) :: (L' + 1 + 1 + 1 + 1 + 1 + 1 + 1, oM) :: (L' + 1 + 1 + 1 + 1 + 1 + 1, oB) :: (L' + 1 + 1 + 1 + 1 + 1, oE) :: (L' + 1 + 1 + 1 + 1, oS) :: (L' + 1 + 1 + 1, oW) :: (L' + 1 + 1, oD') :: (L' + 1, oT') :: (253, tabObj #[]) :: [] ∧ oW.data = .cell (some (.str (S a) tW))) ?_ ?_
  · intro QQ hQQ
    k_steps
    k_dflt (refine ListComp_U F2 rfl (by decide) rfl (by decide) rfl ?_)
    k_steps
    rename Fr _ _ _ _ => F3; rename News _ _ _ _ => N3
    rename IsRange _ _ _ _ _ _ _ _ => hr1
    refine srcQ_range (n := 3) (fun i v => ∃ t, v = .str (S [a.getD i 0]) t) rfl F3 N3 hr1 (by decide) (by decide) (by size_fits) ?_ ?_
    · rintro i tv ys I oI C oC D m₂ h tk E' hi3 hC hx F4 N4
      rcases (by omega : i = 0 ∨ i = 1 ∨ i = 2) with rfl | rfl | rfl
      · simp only [show (0 : Int) + ((0 : Nat) : Int) = 0 from rfl] at hx
        k_steps
        refine elEnd (by assumption) (by assumption) (fun _ h => h) ⟨_, by rw [menu_at, pw0, ha]; rfl⟩
      · simp only [show (0 : Int) + ((1 : Nat) : Int) = 1 from rfl] at hx
        k_steps
        refine elEnd (by assumption) (by assumption) (fun _ h => h) ⟨_, by rw [menu_at, pw1, ha]; rfl⟩
      · simp only [show (0 : Int) + ((2 : Nat) : Int) = 2 from rfl] at hx
        k_steps
        refine elEnd (by assumption) (by assumption) (fun _ h => h) ⟨_, by rw [menu_at, pw2, ha]; rfl⟩
    intro D2 ys h3 tk3 F4 N4 hD2 hyl hyG
    clear F3 N3
    k_steps
    refine call_joinS (cs := a) (News.isList N4 (.head _)) (by rw [hyl, ha3]) hyG (by omega) ?_
    intro tW tk4
    have N5 := fun q hq => N4 q (List.mem_cons_of_mem _ hq)
    clear N4
    k_steps
    rename Fr _ _ _ _ => F6; rename News _ _ _ _ => N6
    dsimp only
    exact hQQ _ _ _ _ F6 N6 ⟨rfl, _, tW, rfl, by assumption⟩
  rintro h3 tk3 m3 news3 F3 N3 ⟨rfl, oW', tW, rfl, dW'⟩
  clear F2 N2 dW
  dsimp only
  -- stage 4
  walk1
  refine cutQ (h₀ := g) (L := L') (fun m news => m = (fun y => if y = Str.ofString "script" then some (.ref x) else none) ∧ ∃ oS tS, news = (L' + 1 + 1 + 1 + 1 + 1 + 1 + 1 + 1 + 1, oL) :: (L' + 1 + 1 + 1 + 1 + 1 + 1 + 1 + 1, oF) :: (L' + 1 + 1 + 1 + 1 + 1 + 1 + 1, oM) :: (L' + 1 + 1 + 1 + 1 + 1 + 1, oB) :: (L' + 1 + 1 + 1 + 1 + 1, oE) :: (L' + 1 + 1 + 1 + 1, oS) :: (L' + 1 + 1 + 1, oW') :: (L' + 1 + 1, oD') :: (L' + 1, oT') :: (253, tabObj #[]) :: [] ∧ oS.data = .cell (some (.int t.length tS))) ?_ ?_
  · intro QQ hQQ
    have hst := S_len t
    k_steps
    rename Fr _ _ _ _ => F6; rename News _ _ _ _ => N6
    dsimp only
    rename (_ = Data.cell (some (Value.int _ _))) => dnew
    rw [hst] at dnew
    exact hQQ _ _ _ _ F6 N6 ⟨rfl, _, _, rfl, dnew⟩
  rintro h4 tk4 m4 news4 F4 N4 ⟨rfl, oS', tS, rfl, dS'⟩
  clear F3 N3 dS
  dsimp only
  -- stage 5
  walk1
  refine cutQ (h₀ := g) (L := L') (fun m news => ∃ tx R, m = (fun y => if y = Str.ofString "table" then some (.ref tx) else if y = Str.ofString "script" then some (.ref x) else none) ∧ news = (L' + 1 + 1 + 1 + 1 + 1 + 1 + 1 + 1 + 1, oL) :: (L' + 1 + 1 + 1 + 1 + 1 + 1 + 1 + 1, oF) :: (L' + 1 + 1 + 1 + 1 + 1 + 1 + 1, oM) :: (L' + 1 + 1 + 1 + 1 + 1 + 1, oB) :: (L' + 1 + 1 + 1 + 1 + 1, oE) :: (L' + 1 + 1 + 1 + 1, oS') :: (L' + 1 + 1 + 1, oW') :: (L' + 1 + 1, oD') :: (L' + 1, oT') :: (253, tabObj #[]) :: R ∧ OffC L' R ∧ ∃ d l hsh tkd c ents, ∀ h, (∀ q ∈ R, h.get? q.1 = some q.2) → TabIn t h tx d l hsh tkd c ents) ?_ ?_
  · intro QQ hQQ
    k_steps
    refine wpAny_mono (law_table ht10 hAt (Room.le rr (by omega) (by omega)) (X.keeps F4.keep) (T.keeps F4.keep)) ?_ (fun _ _ e => e)
    rintro _ _ ⟨h5, tk5, rfl, k5, tx, d, l, hsh, tkd, c, ents, rfl, hel, hsg, hall⟩
    have F5 := frGrow F4 k5
    have N5 := newsMany F4 N4 k5 hall
    simp only [List.cons_append, List.nil_append] at N5
    have hOff := (liveC N4).off (fun e he => (hall e he).2)
    clear F4 N4
    generalize hR : (tx, instObj 214 d) :: (d, hdrDict hsh tkd l) :: (l, W.listOf (refsOf' ents).toArray c) :: ents = R5 at N5 hOff
    dsimp only
    k_steps
    rename Fr _ _ _ _ => F6; rename News _ _ _ _ => N6
    dsimp only
    refine hQQ _ _ _ _ F6 N6 ⟨tx, R5, rfl, rfl, hOff, d, l, hsh, tkd, c, ents, fun h hh => ?_⟩
    subst hR
    exact ⟨hh _ (.head _), hh _ (.tail _ (.head _)), hh _ (.tail _ (.tail _ (.head _))), fun e he => hh e (.tail _ (.tail _ (.tail _ he))), hel, hsg⟩
  rintro h5 tk5 m5 news5 F5 N5 ⟨tx, R5, rfl, rfl, hOff, d, l, hsh, tkd, c, ents, hTab⟩
  clear F4 N4
  dsimp only
  -- stage 6
  walk1
  refine cutQ (h₀ := g) (L := L') (fun m news => m = (fun y => if y = Str.ofString "table" then some (.ref tx) else if y = Str.ofString "script" then some (.ref x) else none) ∧ ∃ DE usE cE oE, news = (L' + 1 + 1 + 1 + 1 + 1 + 1 + 1 + 1 + 1, oL) :: (L' + 1 + 1 + 1 + 1 + 1 + 1 + 1 + 1, oF) :: (L' + 1 + 1 + 1 + 1 + 1 + 1 + 1, oM) :: (L' + 1 + 1 + 1 + 1 + 1 + 1, oB) :: (L' + 1 + 1 + 1 + 1 + 1, oE) :: (L' + 1 + 1 + 1 + 1, oS') :: (L' + 1 + 1 + 1, oW') :: (L' + 1 + 1, oD') :: (L' + 1, oT') :: (253, tabObj #[]) :: (DE, W.listOf (List.toArray usE) cE) :: R5 ∧ OffC L' ((DE, W.listOf (List.toArray usE) cE) :: R5) ∧ oE.data = .cell (some (.ref DE)) ∧ IntsAre usE ((List.range (a.length + 1)).map (endAt t t.length a))) ?_ ?_
  · intro QQ hQQ
    k_steps
    refine wpAny_mono (law_ends (hTab _ (tail10 N5)) ht10 hAt (by omega) hAa (Room.le rr (by omega) (by omega)) (X.keeps F5.keep) (T.keeps F5.keep)) ?_ (fun _ _ e => e)
    rintro _ _ ⟨h6, tk6, rfl, k6, DE, usE, cE, rfl, gE, fE, hIE⟩
    have F6 := frGrow F5 k6
    have N6 := shift10 (newsCons F5 N5 k6 gE fE).1
    have hOff2 : OffC L' ((DE, W.listOf (List.toArray usE) cE) :: R5) := OffC.app (R := [_]) ((liveC N5).off (fun e he => by rw [List.mem_singleton.mp he]; exact fE)) hOff
    clear F5 N5
    dsimp only
    k_steps
    rename Fr _ _ _ _ => F7; rename News _ _ _ _ => N7
    dsimp only
    exact hQQ _ _ _ _ F7 N7 ⟨rfl, DE, usE, cE, _, rfl, hOff2, by assumption, hIE⟩
  rintro h6 tk6 m6 news6 F6 N6 ⟨rfl, DE, usE, cE, oE', rfl, hOff2, dE', hIE⟩
  clear F5 N5 dE
  dsimp only
  -- stage 7
  walk1
  refine cutQ (h₀ := g) (L := L') (fun m news => m = (fun y => if y = Str.ofString "table" then some (.ref tx) else if y = Str.ofString "script" then some (.ref x) else none) ∧ ∃ DB usB cB oB, news = (L' + 1 + 1 + 1 + 1 + 1 + 1 + 1 + 1 + 1, oL) :: (L' + 1 + 1 + 1 + 1 + 1 + 1 + 1 + 1, oF) :: (L' + 1 + 1 + 1 + 1 + 1 + 1 + 1, oM) :: (L' + 1 + 1 + 1 + 1 + 1 + 1, oB) :: (L' + 1 + 1 + 1 + 1 + 1, oE') :: (L' + 1 + 1 + 1 + 1, oS') :: (L' + 1 + 1 + 1, oW') :: (L' + 1 + 1, oD') :: (L' + 1, oT') :: (253, tabObj #[]) :: (DB, W.listOf (List.toArray usB) cB) :: (DE, W.listOf (List.toArray usE) cE) :: R5 ∧ OffC L' ((DB, W.listOf (List.toArray usB) cB) :: (DE, W.listOf (List.toArray usE) cE) :: R5) ∧ oB.data = .cell (some (.ref DB)) ∧ IntsAre usB ((List.range (a.length + 1)).map (beginAt t a)).reverse) ?_ ?_
  · intro QQ hQQ
    k_steps
    have q := hTab _ (fun q hq => tail10 N6 q (.tail _ hq))
    refine wpAny_mono (law_begins (t2 := 0) q ht10 hAt (by omega) hAa (Room.le rr (by omega) (by omega)) (X.keeps F6.keep) (T.keeps F6.keep)) ?_ (fun _ _ e => e)
    rintro _ _ ⟨h7, tk7, rfl, k7, DB, usB, cB, rfl, gB, fB, hIB⟩
    have F7 := frGrow F6 k7
    have N7 := shift10 (newsCons F6 N6 k7 gB fB).1
    have hOff3 : OffC L' ((DB, W.listOf (List.toArray usB) cB) :: (DE, W.listOf (List.toArray usE) cE) :: R5) := OffC.app (R := [_]) ((liveC N6).off (fun e he => by rw [List.mem_singleton.mp he]; exact fB)) hOff2
    clear F6 N6 q
    dsimp only
    k_steps
    rename Fr _ _ _ _ => F8; rename News _ _ _ _ => N8
    dsimp only
    exact hQQ _ _ _ _ F8 N8 ⟨rfl, DB, usB, cB, _, rfl, hOff3, by assumption, hIB⟩
  rintro h7 tk7 m7 news7 F7 N7 ⟨rfl, DB, usB, cB, oB', rfl, hOff3, dB', hIB⟩
  clear F6 N6 dB
  dsimp only
  -- stage 8
  walk1
  refine cutQ (h₀ := g) (L := L') (fun m news => m = (fun y => if y = Str.ofString "table" then some (.ref tx) else if y = Str.ofString "script" then some (.ref x) else none) ∧ ∃ oM tM, news = (L' + 1 + 1 + 1 + 1 + 1 + 1 + 1 + 1 + 1, oL) :: (L' + 1 + 1 + 1 + 1 + 1 + 1 + 1 + 1, oF) :: (L' + 1 + 1 + 1 + 1 + 1 + 1 + 1, oM) :: (L' + 1 + 1 + 1 + 1 + 1 + 1, oB') :: (L' + 1 + 1 + 1 + 1 + 1, oE') :: (L' + 1 + 1 + 1 + 1, oS') :: (L' + 1 + 1 + 1, oW') :: (L' + 1 + 1, oD') :: (L' + 1, oT') :: (253, tabObj #[]) :: (DB, W.listOf (List.toArray usB) cB) :: (DE, W.listOf (List.toArray usE) cE) :: R5 ∧ oM.data = .cell (some (.str (S (a.map lw)) tM))) ?_ ?_
  · intro QQ hQQ
    have hla := S_len a
    k_steps
    rename Fr _ _ _ _ => F8; rename News _ _ _ _ => N8
    dsimp only
    rename (_ = Data.cell (some (Value.str (Txt.lower _) _))) => dnew
    rw [lower_S hAa] at dnew
    exact hQQ _ _ _ _ F8 N8 ⟨rfl, _, _, rfl, dnew⟩
  rintro h8 tk8 m8 news8 F8 N8 ⟨rfl, oM', tM, rfl, dM'⟩
  clear F7 N7 dM
  dsimp only
  -- stage 9
  walk1
  refine cutQ (h₀ := g) (L := L') (fun m news => m = (fun y => if y = Str.ofString "table" then some (.ref tx) else if y = Str.ofString "script" then some (.ref x) else none) ∧ ∃ oF tF, news = (L' + 1 + 1 + 1 + 1 + 1 + 1 + 1 + 1 + 1, oL) :: (L' + 1 + 1 + 1 + 1 + 1 + 1 + 1 + 1, oF) :: (L' + 1 + 1 + 1 + 1 + 1 + 1 + 1, oM') :: (L' + 1 + 1 + 1 + 1 + 1 + 1, oB') :: (L' + 1 + 1 + 1 + 1 + 1, oE') :: (L' + 1 + 1 + 1 + 1, oS') :: (L' + 1 + 1 + 1, oW') :: (L' + 1 + 1, oD') :: (L' + 1, oT') :: (253, tabObj #[]) :: (DB, W.listOf (List.toArray usB) cB) :: (DE, W.listOf (List.toArray usE) cE) :: R5 ∧ oF.data = .cell (some (.str (S (t.map lw)) tF))) ?_ ?_
  · intro QQ hQQ
    have hst := S_len t
    k_steps
    rename Fr _ _ _ _ => F9; rename News _ _ _ _ => N9
    dsimp only
    rename (_ = Data.cell (some (Value.str (Txt.lower _) _))) => dnew
    rw [lower_S hAt] at dnew
    exact hQQ _ _ _ _ F9 N9 ⟨rfl, _, _, rfl, dnew⟩
  rintro h9 tk9 m9 news9 F9 N9 ⟨rfl, oF', tF, rfl, dF'⟩
  clear F8 N8 dF
  dsimp only
  -- stage 10
  walk1
  refine cutQ (h₀ := g) (L := L') (fun m news => m = (fun y => if y = Str.ofString "table" then some (.ref tx) else if y = Str.ofString "script" then some (.ref x) else none) ∧ news = (L' + 1 + 1 + 1 + 1 + 1 + 1 + 1 + 1 + 1, oL) :: (L' + 1 + 1 + 1 + 1 + 1 + 1 + 1 + 1, oF') :: (L' + 1 + 1 + 1 + 1 + 1 + 1 + 1, oM') :: (L' + 1 + 1 + 1 + 1 + 1 + 1, oB') :: (L' + 1 + 1 + 1 + 1 + 1, oE') :: (L' + 1 + 1 + 1 + 1, oS') :: (L' + 1 + 1 + 1, oW') :: (L' + 1 + 1, oD') :: (L' + 1, oT') :: (253, tabObj #[]) :: (DB, W.listOf (List.toArray usB) cB) :: (DE, W.listOf (List.toArray usE) cE) :: R5) ?_ ?_
  · intro QQ hQQ
    k_steps
    k_dflt (refine ListComp_U F9 rfl (by decide) rfl (by decide) rfl ?_)
    k_steps
    refine wpAny_mono (excess (a := a.map lw) (b := t.map lw) (by simp only [List.length_map, List.length_reverse]; omega) (by simp only [List.length_map, List.length_reverse]; omega) hAa.low hAt.low (Room.le rr (by omega) (by omega)) (X.keeps F9.keep) (T.keeps F9.keep)) ?_ (fun _ _ e => e)
    rintro _ _ ⟨h10, tk10, rfl, k10, RR, cR, rents, rfl, gR, fR, hRl, hRe, hRows⟩
    have F10 := frGrow F9 k10
    have N10 := newsMany F9 N9 k10 (R := (RR, W.listOf (refsOf' rents).toArray cR) :: rents) (fun q hq => by
      rcases List.mem_cons.mp hq with rfl | hq
      · exact ⟨gR, fR⟩
      · exact hRe q hq)
    simp only [List.cons_append, List.nil_append] at N10
    have N11 : News g L' h10 ((RR, W.listOf (refsOf' rents).toArray cR) :: (L' + 1 + 1 + 1 + 1 + 1 + 1 + 1 + 1 + 1, oL) :: (L' + 1 + 1 + 1 + 1 + 1 + 1 + 1 + 1, oF') :: (L' + 1 + 1 + 1 + 1 + 1 + 1 + 1, oM') :: (L' + 1 + 1 + 1 + 1 + 1 + 1, oB') :: (L' + 1 + 1 + 1 + 1 + 1, oE') :: (L' + 1 + 1 + 1 + 1, oS') :: (L' + 1 + 1 + 1, oW') :: (L' + 1 + 1, oD') :: (L' + 1, oT') :: (253, tabObj #[]) :: (DB, W.listOf (List.toArray usB) cB) :: (DE, W.listOf (List.toArray usE) cE) :: R5 ++ rents) := fun q hq => N10 q (by
      rcases List.mem_cons.mp hq with rfl | hq
      · simp only [← List.cons_append]; exact List.mem_append_right _ (.head _)
      · simp only [← List.cons_append] at hq ⊢
        rcases List.mem_append.mp hq with hq | hq
        · exact List.mem_append_left _ hq
        · exact List.mem_append_right _ (.tail _ hq))
    have hits : (refsOf' rents).toArray.size = a.length + 1 := by rw [List.size_toArray]; unfold refsOf'; rw [List.length_map, List.length_reverse, hRl]; simp only [List.length_map, List.length_reverse]
    clear F9 N9 N10
    dsimp only
    refine srcQ_list (fun i v => ∃ tk, v = .int (endAt t t.length a i) tk) rfl F10 N11 (.head _) (by rw [hits]; exact Nat.le_trans (show a.length + 1 ≤ 41 by omega) (by size_fits)) ?_ ?_
    · rintro i v ys I oI C oC D m₂ h tk E' hiz hv hC hx F12 N12
      rw [hits] at hiz
      obtain ⟨q, hq, rfl⟩ := refs_at hv
      obtain ⟨us2, c2, hq2, hI2⟩ := hRows i q hq
      have gq : h.get? q.1 = some (W.listOf (List.toArray us2) c2) := by
        rw [← hq2]
        exact N12.get (.tail _ (.tail _ (.tail _ (.tail _ (List.mem_append_right _ (List.mem_reverse.mp (List.mem_of_getElem? hq)))))))
      have hns : (erow (a.map lw) (t.map lw) i).length ≤ 100 := by rw [erow_len, List.length_map]; omega
      k_steps
      refine wpAny_mono (first (least := 0) ⟨_, gq, rfl, _, rfl⟩ hI2 hns (by decide) (Room.le rr (by omega) (by omega)) (X.keeps F12.keep) (T.keeps F12.keep)) ?_ (fun _ _ e => e)
      rintro _ _ ⟨h13, tk13, rfl, k13, D3, us3, c3, rfl, g3, f3, hI3⟩
      have F13 := frGrow F12 k13
      have N13 := (newsCons F12 N12 k13 g3 f3).1
      have hce := c_ends t a i (by omega)
      have hfl := firstOf_len (erow (a.map lw) (t.map lw) i) 0 0
      generalize firstOf (erow (a.map lw) (t.map lw) i) 0 0 = FO at hI3 hce hfl
      have hFO : 0 < (FO ++ [(t.length : Int) + 1]).length := by simp
      clear F12 N12
      dsimp only
      k_steps
      rename Fr _ _ _ _ => F14; rename News _ _ _ _ => N14
      refine elEnd F14 N14 (fun p hp => .tail _ (.tail _ (.tail _ hp))) ⟨_, by rw [← hce]; rfl⟩
    intro D2 ys h12 tk12 F12 N12 hD2 hyl hyG
    rw [hits] at hyl
    have hI12 := ints_getD (ns := (List.range (a.length + 1)).map (endAt t t.length a)) (by rw [hyl]; simp) (fun j y hj => by
      obtain ⟨tk, e⟩ := hyG j y hj
      have hj2 : j < a.length + 1 := by rw [← hyl]; exact (List.getElem?_eq_some_iff.mp hj).1
      exact ⟨tk, by rw [e]; simp [List.getD, hj2]⟩)
    dsimp only
    k_steps
    have hun := rr.hu
    refine ne_ints_same (News.isList N12 (by k_mem)) hIE (News.isList N12 (.head _)) hI12 (by omega) ?_
    (try dsimp only)
    k_steps
    (try dsimp only)
    exact hQQ _ _ _ _ F12 (fun q hq => N12 q (.tail _ (.tail _ (List.mem_append_left _ hq)))) ⟨rfl, rfl⟩
  rintro h10 tk10 m10 news10 F10 N10 ⟨rfl, rfl⟩
  clear F9 N9
  dsimp only
  -- stage 11
  walk1
  refine cutQ (h₀ := g) (L := L') (fun m news => m = (fun y => if y = Str.ofString "table" then some (.ref tx) else if y = Str.ofString "script" then some (.ref x) else none) ∧ news = (L' + 1 + 1 + 1 + 1 + 1 + 1 + 1 + 1 + 1, oL) :: (L' + 1 + 1 + 1 + 1 + 1 + 1 + 1 + 1, oF') :: (L' + 1 + 1 + 1 + 1 + 1 + 1 + 1, oM') :: (L' + 1 + 1 + 1 + 1 + 1 + 1, oB') :: (L' + 1 + 1 + 1 + 1 + 1, oE') :: (L' + 1 + 1 + 1 + 1, oS') :: (L' + 1 + 1 + 1, oW') :: (L' + 1 + 1, oD') :: (L' + 1, oT') :: (253, tabObj #[]) :: (DB, W.listOf (List.toArray usB) cB) :: (DE, W.listOf (List.toArray usE) cE) :: R5) ?_ ?_
  · intro QQ hQQ
    have hsm : (S (a.map lw)).length = a.length := by rw [S_len, List.length_map]
    have hsf : (S (t.map lw)).length = t.length := by rw [S_len, List.length_map]
    k_steps
    k_dflt (refine ListComp_U F10 rfl (by decide) rfl (by decide) rfl ?_)
    k_steps
    simp only [slice_rev]
    rename Fr _ _ _ _ => F10; rename News _ _ _ _ => N10
    refine wpAny_mono (excess (a := (a.map lw).reverse) (b := (t.map lw).reverse) (by simp only [List.length_map, List.length_reverse]; omega) (by simp only [List.length_map, List.length_reverse]; omega) hAa.low.rev hAt.low.rev (Room.le rr (by omega) (by omega)) (X.keeps F10.keep) (T.keeps F10.keep)) ?_ (fun _ _ e => e)
    rintro _ _ ⟨h11, tk10, rfl, k10, RR, cR, rents, rfl, gR, fR, hRl, hRe, hRows⟩
    have F11 := frGrow F10 k10
    have N10b := newsMany F10 N10 k10 (R := (RR, W.listOf (refsOf' rents).toArray cR) :: rents) (fun q hq => by
      rcases List.mem_cons.mp hq with rfl | hq
      · exact ⟨gR, fR⟩
      · exact hRe q hq)
    simp only [List.cons_append, List.nil_append] at N10b
    have N11 : News g L' h11 ((RR, W.listOf (refsOf' rents).toArray cR) :: (L' + 1 + 1 + 1 + 1 + 1 + 1 + 1 + 1 + 1, oL) :: (L' + 1 + 1 + 1 + 1 + 1 + 1 + 1 + 1, oF') :: (L' + 1 + 1 + 1 + 1 + 1 + 1 + 1, oM') :: (L' + 1 + 1 + 1 + 1 + 1 + 1, oB') :: (L' + 1 + 1 + 1 + 1 + 1, oE') :: (L' + 1 + 1 + 1 + 1, oS') :: (L' + 1 + 1 + 1, oW') :: (L' + 1 + 1, oD') :: (L' + 1, oT') :: (253, tabObj #[]) :: (DB, W.listOf (List.toArray usB) cB) :: (DE, W.listOf (List.toArray usE) cE) :: R5 ++ rents) := fun q hq => N10b q (by
      rcases List.mem_cons.mp hq with rfl | hq
      · simp only [← List.cons_append]; exact List.mem_append_right _ (.head _)
      · simp only [← List.cons_append] at hq ⊢
        rcases List.mem_append.mp hq with hq | hq
        · exact List.mem_append_left _ hq
        · exact List.mem_append_right _ (.tail _ hq))
    have hits : (refsOf' rents).toArray.size = a.length + 1 := by rw [List.size_toArray]; unfold refsOf'; rw [List.length_map, List.length_reverse, hRl]; simp only [List.length_map, List.length_reverse]
    clear F10 N10 N10b
    dsimp only
    refine srcQ_list (fun i v => ∃ tk, v = .int (beginAt t a i) tk) rfl F11 N11 (.head _) (by rw [hits]; exact Nat.le_trans (show a.length + 1 ≤ 41 by omega) (by size_fits)) ?_ ?_
    · rintro i v ys I oI C oC D m₂ h tk E' hiz hv hC hx F12 N12
      rw [hits] at hiz
      obtain ⟨q, hq, rfl⟩ := refs_at hv
      obtain ⟨us2, c2, hq2, hI2⟩ := hRows i q hq
      have gq : h.get? q.1 = some (W.listOf (List.toArray us2) c2) := by
        rw [← hq2]
        exact N12.get (.tail _ (.tail _ (.tail _ (.tail _ (List.mem_append_right _ (List.mem_reverse.mp (List.mem_of_getElem? hq)))))))
      have hns : (erow (a.map lw).reverse (t.map lw).reverse i).length ≤ 100 := by rw [erow_len, List.length_reverse, List.length_map]; omega
      k_steps
      refine wpAny_mono (first (least := 0) ⟨_, gq, rfl, _, rfl⟩ hI2 hns (by decide) (Room.le rr (by omega) (by omega)) (X.keeps F12.keep) (T.keeps F12.keep)) ?_ (fun _ _ e => e)
      rintro _ _ ⟨h13, tk13, rfl, k13, D3, us3, c3, rfl, g3, f3, hI3⟩
      have F13 := frGrow F12 k13
      have N13 := (newsCons F12 N12 k13 g3 f3).1
      have hce := c_begins t a i (by omega)
      have hfl := firstOf_len (erow (a.map lw).reverse (t.map lw).reverse i) 0 0
      generalize firstOf (erow (a.map lw).reverse (t.map lw).reverse i) 0 0 = FO at hI3 hce hfl
      have hFO : 0 < (FO ++ [(t.length : Int) + 1]).length := by simp
      clear F12 N12
      dsimp only
      k_steps
      rename Fr _ _ _ _ => F14; rename News _ _ _ _ => N14
      refine elEnd F14 N14 (fun p hp => .tail _ (.tail _ (.tail _ hp))) ⟨_, by rw [← hce]; rfl⟩
    intro D2 ys h12 tk12 F12 N12 hD2 hyl hyG
    rw [hits] at hyl
    have hI12 := ints_getD (ns := (List.range (a.length + 1)).map (beginAt t a)) (by rw [hyl]; simp) (fun j y hj => by
      obtain ⟨tk, e⟩ := hyG j y hj
      have hj2 : j < a.length + 1 := by rw [← hyl]; exact (List.getElem?_eq_some_iff.mp hj).1
      exact ⟨tk, by rw [e]; simp [List.getD, hj2]⟩)
    dsimp only
    k_steps
    have hun := rr.hu
    k_dflt (refine kba_turn (value' := PySem.Expr.Name (PySem.Str.ofString "_") ⟨0, 0, 0, 0⟩) (fun _ => rfl) ?_)
    k_dflt (refine krv_ints (s := ⟨_, _, _, _, _⟩) F12 N12 (News.isList N12 (.head _)) (IsPart.int _ _) hI12 ?_ (by with_unfolding_all rfl) (by intro _; with_unfolding_all rfl) (by rw [List.size_toArray, hyl]; exact Nat.le_trans (show a.length + 1 ≤ 41 by omega) (by size_fits)))
    intro D3 ws3 h13 F13 N13 _ hI13 _
    dsimp only
    k_steps
    refine ne_ints_same (News.isList N13 (by k_mem)) hIB (News.isList N13 (.head _)) hI13 (by omega) ?_
    (try dsimp only)
    k_steps
    (try dsimp only)
    exact hQQ _ _ _ _ F13 (fun q hq => N13 q (.tail _ (.tail _ (.tail _ (List.mem_append_left _ hq))))) ⟨rfl, rfl⟩
  rintro h11 tk11 m11 news11 F11 N11 ⟨rfl, rfl⟩
  clear F10 N10
  dsimp only
  -- stage 12
  walk1
  refine cutQ (h₀ := g) (L := L') (fun m news => m = (fun y => if y = Str.ofString "table" then some (.ref tx) else if y = Str.ofString "script" then some (.ref x) else none) ∧ ∃ ps R, news = (L' + 1 + 1 + 1 + 1 + 1 + 1 + 1 + 1 + 1, oL) :: (L' + 1 + 1 + 1 + 1 + 1 + 1 + 1 + 1, oF') :: (L' + 1 + 1 + 1 + 1 + 1 + 1 + 1, oM') :: (L' + 1 + 1 + 1 + 1 + 1 + 1, oB') :: (L' + 1 + 1 + 1 + 1 + 1, oE') :: (L' + 1 + 1 + 1 + 1, oS') :: (L' + 1 + 1 + 1, oW') :: (L' + 1 + 1, oD') :: (L' + 1, oT') :: (253, tabObj ps) :: R ∧ OffC L' R ∧ PsOk lamPos lamQual ps R ∧ (DB, W.listOf (List.toArray usB) cB) ∈ R ∧ (DE, W.listOf (List.toArray usE) cE) ∈ R) ?_ ?_
  · intro QQ hQQ
    have hsm : (S (a.map lw)).length = a.length := by rw [S_len, List.length_map]
    have hsf : (S (t.map lw)).length = t.length := by rw [S_len, List.length_map]
    k_steps
    k_dflt (refine ListComp_U F11 rfl (by decide) rfl (by decide) rfl ?_)
    k_steps
    rename Fr _ _ _ _ => F12; rename News _ _ _ _ => N12
    rename IsRange _ _ _ _ _ _ _ _ => hr1
    refine srcJ_range (n := 3) (JR L' oL oF' oM' oB' oE' oS' oW' oD' oT' ((DB, W.listOf (List.toArray usB) cB) :: (DE, W.listOf (List.toArray usE) cE) :: R5) (fun j => halvedOf ((a.map lw).take (j + 1)) (t.map lw) 0)) (JR.start (.inl rfl)) rfl F12 N12 hr1 (by decide) (by decide) (by size_fits) ?_ ?_
    · rintro i tv ys newsI I oI C2 oC D m₂ h tk E' hi3 hJ hC hx F13 N13 off ne
      rw [show (1 : Int) + (i : Int) = ((i + 1 : Nat) : Int) by omega] at hx
      have hJ' := hJ
      obtain ⟨ps2, RS2, e2, _⟩ := hJ'
      subst e2
      have hk0 : (0 : Int) ≤ ((i + 1 : Nat) : Int) := by omega
      k_steps
      rw [slice_to]
      rename Fr _ _ _ _ => F14; rename News _ _ _ _ => N14
      refine wpAny_mono (elt_halved (i := i) (val := fun j => halvedOf ((a.map lw).take (j + 1)) (t.map lw) 0) hJ off hOff3 h253' F14 N14 C (by rw [List.length_take, List.length_map]; omega) (by rw [List.length_map]; omega) (by rw [List.length_take, List.length_map, List.length_map]; omega) (hAa.low.take _) hAt.low rfl (Room.le rr (by omega) (by omega)) X T) (fun _ _ h => h) (fun _ _ e => e)
    intro D12 ys12 news12 h12 tk12 hJ12 F13 N13 hD12
    obtain ⟨ps12, RS12, rfl, hps12, hO12, hl12, hrows12⟩ := hJ12
    have N14 := shift10 N13
    have hO13 := (OffC.app (OffC.app (offC_of (o := lst ys12) (off1_mem hD12)) hO12) hOff3)
    simp only [List.cons_append, List.nil_append] at hO13
    have hps13 := hps12.mono (rest' := (D12, lst ys12) :: (RS12 ++ ((DB, W.listOf (List.toArray usB) cB) :: (DE, W.listOf (List.toArray usE) cE) :: R5))) (fun q hq => .tail _ hq)
    clear N13 F12 N12 hr1
    dsimp only
    k_dflt (refine ListComp_U F13 rfl (by decide) rfl (by decide) rfl ?_)
    k_steps
    rename Fr _ _ _ _ => F15; rename News _ _ _ _ => N15
    rename IsRange _ _ _ _ _ _ _ _ => hr2
    refine srcJ_range (n := 3) (JR L' oL oF' oM' oB' oE' oS' oW' oD' oT' ((D12, lst ys12) :: (RS12 ++ ((DB, W.listOf (List.toArray usB) cB) :: (DE, W.listOf (List.toArray usE) cE) :: R5))) (fun j => if endAt t t.length a (j + 1) ≤ t.length then [endAt t t.length a (j + 1)] else [])) (JR.start hps13) rfl F15 N15 hr2 (by decide) (by decide) (by size_fits) ?_ ?_
    · rintro i tv ys newsI I oI C2 oC D m₂ h tk E' hi3 hJ hC hx F16 N16 off ne
      rw [show (1 : Int) + (i : Int) = ((i + 1 : Nat) : Int) by omega] at hx
      have hJ' := hJ
      obtain ⟨ps2, RS2, e2, _⟩ := hJ'
      subst e2
      k_dflt (refine listComp (leV t.length) (fun v y => ∃ j t t', v = .int j t ∧ y = .int j t') rfl (by decide) rfl (by decide) rfl ?_)
      k_steps
      k_dflt (refine kmk_slice_ints (s := ⟨_, _, _, _, _⟩) F16 N16 (News.isList N16 (by (iterate 13 refine List.Mem.tail _ ?_); exact List.mem_append_right _ (.tail _ (List.mem_append_right _ (.tail _ (.head _)))))) (IsPart.int _ _) (IsPart.int _ _) hIE (kmk_run hIE (by omega) (by omega)) rfl ?_ (by with_unfolding_all rfl) (by intro _; with_unfolding_all rfl) (by rw [List.size_toArray, hIE.length, List.length_map, List.length_range]; exact Nat.le_trans (show a.length + 1 ≤ 41 by omega) (by size_fits)))
      intro D16 ws h2 F17 N17 hlt17 hI17 _ _
      rw [one_cut (by rw [List.length_map, List.length_range]; omega), show ((List.range (a.length + 1)).map (endAt t t.length a)).getD (i + 1) 0 = endAt t t.length a (i + 1) by simp [List.getD, show i + 1 < a.length + 1 by omega]] at hI17
      have hws := hI17.length
      refine compList (its := ws) (News.isList N17 (.head _)) (by rw [hws]; exact Nat.le_trans (show 1 ≤ 41 by decide) (by size_fits)) rfl F17 N17 ?_ ?_ ?_
      · intro C3 j v s₃ m₃ E'' hv hn hm F₃ N₃
        obtain ⟨t3, rfl⟩ := IntsAre.int_at hI17 j v hv
        refine wpAny_tests_one ?_
        k_steps
        all_goals exact keeps_refl
      · intro C3 j v s₃ m₃ E'' hv hp hn hm F₃ N₃
        obtain ⟨t3, rfl⟩ := IntsAre.int_at hI17 j v hv
        k_steps
        all_goals exact keeps_refl
      · intro D17 ys17 c17 h17 tk17 F18 N18 hne18 hG18
        have hI18 := paired_same (ints_filter (pz := fun j => decide (j ≤ (t.length : Int))) (fun _ _ => rfl) hI17) hG18
        refine elt_row hJ off F18 N18 (fun q hq => .tail _ (.tail _ hq)) (.head _) (fun q hq => hne18 q (.tail _ hq)) ?_
        simp only [List.filter_cons, List.filter_nil, decide_eq_true_eq] at hI18
        exact hI18
    intro D14 ys14 news14 h14 tk14 hJ14 F17 N17 hD14
    obtain ⟨ps14, RS14, rfl, hps14, hO14, hl14, hrows14⟩ := hJ14
    have hun := rr.hu
    have live := tail10 (shift10 N17)
    have hval : ∀ j, j < 3 → ((List.range 3).map fun j => if endAt t t.length a (j + 1) ≤ t.length then [endAt t t.length a (j + 1)] else []).getD j [] = halvedOf ((a.map lw).take (j + 1)) (t.map lw) 0 := fun j hj => by
      rw [c_halved t a (j + 1) (by omega) (by omega)]
      simp [List.getD, hj]
    dsimp only
    refine ne_rows_same (vs := ys12) (us := ys14) (ns := (List.range 3).map fun j => if endAt t t.length a (j + 1) ≤ t.length then [endAt t t.length a (j + 1)] else []) (News.isList N17 (by (iterate 11 refine List.Mem.tail _ ?_); exact List.mem_append_right _ (.head _))) ?_ (News.isList N17 (.head _)) ?_ (by omega) ?_
    · exact rows_of (n := 3) (by simp) hl12 hval hrows12 (fun q hq => live q (.tail _ (List.mem_append_right _ (.tail _ (List.mem_append_left _ hq)))))
    · exact rows_of (n := 3) (by simp) hl14 (fun j hj => by simp [List.getD, hj]) hrows14 (fun q hq => live q (.tail _ (List.mem_append_left _ hq)))
    (try dsimp only)
    k_steps
    (try dsimp only)
    exact hQQ _ _ _ _ F17 (fun q hq => N17 q (.tail _ hq)) ⟨rfl, ps14, _, rfl, hO14.app hO13, hps14, List.mem_append_right _ (.tail _ (List.mem_append_right _ (.head _))), List.mem_append_right _ (.tail _ (List.mem_append_right _ (.tail _ (.head _))))⟩
  rintro h12 tk12 m12 news12 F12 N12 ⟨rfl, ps, R12, rfl, hOff4, hps, hmB, hmE⟩
  clear F11 N11
  dsimp only
  -- stage 13
  walk1
  refine cutQ (h₀ := g) (L := L') (fun m news => m = (fun y => if y = Str.ofString "table" then some (.ref tx) else if y = Str.ofString "script" then some (.ref x) else none) ∧ ∃ DL usL cL oL, news = (L' + 1 + 1 + 1 + 1 + 1 + 1 + 1 + 1 + 1, oL) :: (L' + 1 + 1 + 1 + 1 + 1 + 1 + 1 + 1, oF') :: (L' + 1 + 1 + 1 + 1 + 1 + 1 + 1, oM') :: (L' + 1 + 1 + 1 + 1 + 1 + 1, oB') :: (L' + 1 + 1 + 1 + 1 + 1, oE') :: (L' + 1 + 1 + 1 + 1, oS') :: (L' + 1 + 1 + 1, oW') :: (L' + 1 + 1, oD') :: (L' + 1, oT') :: (253, tabObj ps) :: (DL, W.listOf (List.toArray usL) cL) :: R12 ∧ OffC L' ((DL, W.listOf (List.toArray usL) cL) :: R12) ∧ oL.data = .cell (some (.ref DL)) ∧ IntsAre usL (erow a t a.length)) ?_ ?_
  · intro QQ hQQ
    k_steps
    refine wpAny_mono (excess (a := a) (b := t) (by omega) (by omega) hAa hAt (Room.le rr (by omega) (by omega)) (X.keeps F12.keep) (T.keeps F12.keep)) ?_ (fun _ _ e => e)
    rintro _ _ ⟨h13, tk13, rfl, k13, RR, cR, rents, rfl, gR, fR, hRl, hRe, hRows⟩
    have F13 := frGrow F12 k13
    obtain ⟨⟨DL, oDL⟩, older, rfl⟩ : ∃ q older, rents = q :: older := by
      cases rents with
      | nil => simp at hRl
      | cons q older => exact ⟨q, older, rfl⟩
    obtain ⟨usL, cL, rfl, hIL⟩ := rows_last hRl hRows
    have hlast : (refsOf' ((DL, W.listOf usL.toArray cL) :: older)).getLast? = some (.ref DL) := by simp [refsOf']
    have gL := hRe _ (.head _)
    have gR' := gR
    have N13 := shift10 (newsCons F12 N12 k13 gL.1 gL.2).1
    have hO14 := OffC.app (R := [(DL, W.listOf usL.toArray cL)]) ((liveC N12).off (fun e he => by rw [List.mem_singleton.mp he]; exact gL.2)) hOff4
    simp only [List.cons_append, List.nil_append] at hO14
    clear F12 N12
    dsimp only
    k_steps
    refine item_last (vs := refsOf' ((DL, W.listOf usL.toArray cL) :: older)) ⟨_, gR', rfl, _, rfl⟩ hlast ?_ (by with_unfolding_all rfl)
    k_steps
    rename Fr _ _ _ _ => F14; rename News _ _ _ _ => N14
    dsimp only
    exact hQQ _ _ _ _ F14 N14 ⟨rfl, DL, usL, cL, _, rfl, hO14, by assumption, hIL⟩
  rintro h13 tk13 m13 news13 F13 N13 ⟨rfl, DL, usL, cL, oL', rfl, hOff5, dL', hIL⟩
  clear F12 N12
  have hps2 := hps.mono (rest' := (DL, W.listOf (List.toArray usL) cL) :: R12) (fun q hq => .tail _ hq)
  dsimp only
  -- stage 14
  walk1
  refine cutQ (h₀ := g) (L := L') (fun m news => m = (fun y => if y = Str.ofString "table" then some (.ref tx) else if y = Str.ofString "script" then some (.ref x) else none) ∧ ∃ ps R, news = (L' + 1 + 1 + 1 + 1 + 1 + 1 + 1 + 1 + 1, oL') :: (L' + 1 + 1 + 1 + 1 + 1 + 1 + 1 + 1, oF') :: (L' + 1 + 1 + 1 + 1 + 1 + 1 + 1, oM') :: (L' + 1 + 1 + 1 + 1 + 1 + 1, oB') :: (L' + 1 + 1 + 1 + 1 + 1, oE') :: (L' + 1 + 1 + 1 + 1, oS') :: (L' + 1 + 1 + 1, oW') :: (L' + 1 + 1, oD') :: (L' + 1, oT') :: (253, tabObj ps) :: R ∧ OffC L' R ∧ (DB, W.listOf (List.toArray usB) cB) ∈ R ∧ (DE, W.listOf (List.toArray usE) cE) ∈ R) ?_ ?_
  · intro QQ hQQ
    k_steps
    k_dflt (refine ListComp_U F13 rfl (by decide) rfl (by decide) rfl ?_)
    k_steps
    rename Fr _ _ _ _ => F12; rename News _ _ _ _ => N12
    rename IsRange _ _ _ _ _ _ _ _ => hr1
    refine srcJ_range (n := 4) (JR L' oL' oF' oM' oB' oE' oS' oW' oD' oT' ((DL, W.listOf (List.toArray usL) cL) :: R12) (fun j => halvedOf a t (j : Int))) (JR.start hps2) rfl F12 N12 hr1 (by decide) (by decide) (by size_fits) ?_ ?_
    · rintro i tv ys newsI I oI C2 oC D m₂ h tk E' hi3 hJ hC hx F13 N13 off ne
      rw [Int.zero_add] at hx
      have hJ' := hJ
      obtain ⟨ps2, RS2, e2, _⟩ := hJ'
      subst e2
      k_steps
      rename Fr _ _ _ _ => F14; rename News _ _ _ _ => N14
      refine wpAny_mono (elt_halved (i := i) (val := fun j => halvedOf a t (j : Int)) hJ off hOff5 h253' F14 N14 C (by omega) (by omega) (by omega) hAa hAt rfl (Room.le rr (by omega) (by omega)) X T) (fun _ _ h => h) (fun _ _ e => e)
    intro D12 ys12 news12 h12 tk12 hJ12 F13 N13 hD12
    obtain ⟨ps12, RS12, rfl, hps12, hO12, hl12, hrows12⟩ := hJ12
    have N14 := shift10 N13
    have hO13 := (OffC.app (OffC.app (offC_of (o := lst ys12) (off1_mem hD12)) hO12) hOff5)
    simp only [List.cons_append, List.nil_append] at hO13
    have hps13 := hps12.mono (rest' := (D12, lst ys12) :: (RS12 ++ ((DL, W.listOf (List.toArray usL) cL) :: R12))) (fun q hq => .tail _ hq)
    clear N13 F12 N12 hr1
    dsimp only
    k_dflt (refine ListComp_U F13 rfl (by decide) rfl (by decide) rfl ?_)
    k_steps
    rename Fr _ _ _ _ => F15; rename News _ _ _ _ => N15
    rename IsRange _ _ _ _ _ _ _ _ => hr2
    refine srcJ_range (n := 4) (JR L' oL' oF' oM' oB' oE' oS' oW' oD' oT' ((D12, lst ys12) :: (RS12 ++ ((DL, W.listOf (List.toArray usL) cL) :: R12))) (fun j => firstOf (erow a t a.length) (j : Int) 3)) (JR.start hps13) rfl F15 N15 hr2 (by decide) (by decide) (by size_fits) ?_ ?_
    · rintro i tv ys newsI I oI C2 oC D m₂ h tk E' hi3 hJ hC hx F16 N16 off ne
      rw [Int.zero_add] at hx
      have hJ' := hJ
      obtain ⟨ps2, RS2, e2, _⟩ := hJ'
      subst e2
      k_steps
      have gDL := N16.get (a := DL) (o := W.listOf (List.toArray usL) cL) (by (iterate 13 refine List.Mem.tail _ ?_); exact List.mem_append_right _ (.tail _ (List.mem_append_right _ (.head _))))
      refine wpAny_mono (first (least := 3) ⟨_, gDL, rfl, _, rfl⟩ hIL (by rw [erow_len]; omega) (by decide) (Room.le rr (by omega) (by omega)) (X.keeps F16.keep) (T.keeps F16.keep)) ?_ (fun _ _ e => e)
      rintro _ _ ⟨h17, tk17, rfl, k17, D17, us17, c17, rfl, g17, f17, hI17⟩
      have F18 := frGrow F16 k17
      obtain ⟨N18, hne18⟩ := newsCons F16 N16 k17 g17 f17
      exact elt_row hJ off F18 N18 (fun q hq => .tail _ hq) (.head _) hne18 hI17
    intro D14 ys14 news14 h14 tk14 hJ14 F17 N17 hD14
    obtain ⟨ps14, RS14, rfl, hps14, hO14, hl14, hrows14⟩ := hJ14
    have hun := rr.hu
    have live := tail10 (shift10 N17)
    have hval : ∀ j, j < 4 → ((List.range 4).map fun (j : Nat) => firstOf (erow a t a.length) (j : Int) 3).getD j [] = halvedOf a t (j : Int) := fun j hj => by
      unfold halvedOf
      rw [show (firstOf (erow a t a.length) (j : Int) a.length) = firstOf (erow a t a.length) (j : Int) 3 by rw [ha3]]
      simp [List.getD, hj]
    dsimp only
    refine ne_rows_same (vs := ys12) (us := ys14) (ns := (List.range 4).map fun (j : Nat) => firstOf (erow a t a.length) (j : Int) 3) (News.isList N17 (by (iterate 11 refine List.Mem.tail _ ?_); exact List.mem_append_right _ (.head _))) ?_ (News.isList N17 (.head _)) ?_ (by omega) ?_
    · exact rows_of (n := 4) (by simp) hl12 hval hrows12 (fun q hq => live q (.tail _ (List.mem_append_right _ (.tail _ (List.mem_append_left _ hq)))))
    · exact rows_of (n := 4) (by simp) hl14 (fun j hj => by simp [List.getD, hj]) hrows14 (fun q hq => live q (.tail _ (List.mem_append_left _ hq)))
    (try dsimp only)
    k_steps
    (try dsimp only)
    exact hQQ _ _ _ _ F17 (fun q hq => N17 q (.tail _ hq)) ⟨rfl, ps14, _, rfl, hO14.app hO13, List.mem_append_right _ (.tail _ (List.mem_append_right _ (.tail _ hmB))), List.mem_append_right _ (.tail _ (List.mem_append_right _ (.tail _ hmE)))⟩
  rintro h14 tk14 m14 news14 F14 N14 ⟨rfl, ps14, R14, rfl, hOff6, hmB2, hmE2⟩
  clear F13 N13
  dsimp only
  -- stage 15
  walk1
  refine cutQ (h₀ := g) (L := L') (fun m news => ∃ wh, m = (fun y => if y = Str.ofString "whole" then some (.bool wh) else if y = Str.ofString "table" then some (.ref tx) else if y = Str.ofString "script" then some (.ref x) else none) ∧ wh = decide (endAt t t.length a a.length ≤ t.length) ∧ news = (L' + 1 + 1 + 1 + 1 + 1 + 1 + 1 + 1 + 1, oL') :: (L' + 1 + 1 + 1 + 1 + 1 + 1 + 1 + 1, oF') :: (L' + 1 + 1 + 1 + 1 + 1 + 1 + 1, oM') :: (L' + 1 + 1 + 1 + 1 + 1 + 1, oB') :: (L' + 1 + 1 + 1 + 1 + 1, oE') :: (L' + 1 + 1 + 1 + 1, oS') :: (L' + 1 + 1 + 1, oW') :: (L' + 1 + 1, oD') :: (L' + 1, oT') :: (253, tabObj ps14) :: R14) ?_ ?_
  · intro QQ hQQ
    k_steps
    refine wpAny_mono (lev (a := t.map lw) (b := a.map lw) (by rw [List.length_map]; omega) (by rw [List.length_map]; omega) hAt.low hAa.low (Room.le rr (by omega) (by omega)) (X.keeps F14.keep) (T.keeps F14.keep)) ?_ (fun _ _ e => e)
    rintro _ _ ⟨h15, tk15, rfl, k15, kv, tv, rfl, hlev⟩
    have F15 := frGrow F14 k15
    have N15 := newsGrow N14 k15
    clear F14 N14
    dsimp only
    k_steps
    rename Fr _ _ _ _ => F16; rename News _ _ _ _ => N16
    exact hQQ _ _ _ _ F16 N16 ⟨_, rfl, whole_dec hlev ha3 ht10 ht5, rfl⟩
  rintro h15 tk15 m15 news15 F15 N15 ⟨wh, rfl, hwh, rfl⟩
  clear F14 N14
  dsimp only
  obtain ⟨EL, hEL⟩ : ∃ EL, EL = (List.range (a.length + 1)).map (endAt t t.length a) := ⟨_, rfl⟩
  obtain ⟨BL, hBL⟩ : ∃ BL, BL = ((List.range (a.length + 1)).map (beginAt t a)).reverse := ⟨_, rfl⟩
  have hEl : EL.length = 4 := by rw [hEL, List.length_map, List.length_range, ha3]
  have hBl : BL.length = 4 := by rw [hBL, List.length_reverse, List.length_map, List.length_range, ha3]
  have hcut : ∀ i, i < 4 → decide (EL.getD i 0 ≤ BL.getD i 0) = wh := fun i hi => by rw [hEL, hBL, hwh]; exact cut_dec (by omega)
  rw [← hEL] at hIE
  rw [← hBL] at hIB
  have N16 : News g L' h15 ((DE, W.listOf (List.toArray usE) cE) :: (DB, W.listOf (List.toArray usB) cB) :: (L' + 1 + 1 + 1 + 1 + 1 + 1 + 1 + 1 + 1, oL') :: (L' + 1 + 1 + 1 + 1 + 1 + 1 + 1 + 1, oF') :: (L' + 1 + 1 + 1 + 1 + 1 + 1 + 1, oM') :: (L' + 1 + 1 + 1 + 1 + 1 + 1, oB') :: (L' + 1 + 1 + 1 + 1 + 1, oE') :: (L' + 1 + 1 + 1 + 1, oS') :: (L' + 1 + 1 + 1, oW') :: (L' + 1 + 1, oD') :: (L' + 1, oT') :: (253, tabObj ps14) :: R14) := fun q hq => by
    rcases List.mem_cons.mp hq with rfl | hq
    · exact N15 _ (by (iterate 10 refine List.Mem.tail _ ?_); exact hmE2)
    · rcases List.mem_cons.mp hq with rfl | hq
      · exact N15 _ (by (iterate 10 refine List.Mem.tail _ ?_); exact hmB2)
      · exact N15 q hq
  clear N15
  k_steps
  k_dflt (refine ListComp_U F15 rfl (by decide) rfl (by decide) rfl ?_)
  k_steps
  rename Fr _ _ _ _ => F17; rename News _ _ _ _ => N17
  rename IsRange _ _ _ _ _ _ _ _ => hr1
  refine srcQ_range (n := 4) (fun _ v => v = .bool wh) rfl F17 N17 hr1 (by decide) (by decide) (by size_fits) ?_ ?_
  · rintro i tv ys I oI C2 oC D m₂ h tk E' hi4 hC hx F18 N18
    rw [Int.zero_add] at hx
    k_steps
    exact elEnd F18 N18 (fun _ h => h) (congrArg Value.bool (by rw [Int.toNat_natCast]; exact hcut i hi4))
  intro D2 ys h18 tk18 F18 N18 hD2 hyl hyG
  dsimp only
  k_steps
  rename Fr _ _ _ _ => F19; rename News _ _ _ _ => N19
  have hun := rr.hu
  refine kbo_mul (vs := [.bool wh]) F19 N19 (News.isList N19 (.head _)) (.cons wh .nil) (by decide) (by decide) (show 1 * 4 ≤ 2 ^ 24 by decide) ?_
  intro D3 h20 F20 N20 _ hB3 _ _ _ _ _ _
  have hB4 : LSm.BoolsAre (List.replicate (Int.toNat 4) [Value.bool wh]).flatten (List.replicate 4 wh) := hB3
  dsimp only
  refine eq_bools_same (vs := ys) (News.isList N20 (.tail _ (.tail _ (.head _)))) (bools_of hyl hyG) (News.isList N20 (.head _)) hB4 (by omega) ?_
  exact fin _ _ ps14 F20.keep (N20.get (by k_mem))
end Mine
end

open PySem PySem.W PyProof.Rows PySem.Calls
set_option Elab.async false
set_option maxRecDepth 100000
set_option maxHeartbeats 8000000
theorem PySem.Challenge.cw_pe0267_01_holds : PySem.Challenge.rw_pe0267_01.Holds := by
  refine holds_law (by kernel_rfl) fun said => ?_
  refine holds_open (q := Mine.topView) (loose := Mine.topNames) (Xt := fun s => xlAt Mine.topView [] s && recOk (RowW.records PySem.Challenge.rw_pe0267_01.row.toRowW) s) (XP := XL Mine.topView []) (Yf := Hook.obs Mine.topHook) (Ya := Hook.val Mine.topHook) (YP := Hook.says Mine.topHook) (N := 3144) Mine.topLeft (Hook.of Mine.topHook) (Hook.keeps Mine.topHook) (fun s e => xl_of s (Bool.and_eq_true_iff.mp e).1) XL.keeps (by rfl) (by rfl) (by rfl) (fun s e => recFacts_of (Bool.and_eq_true_iff.mp e).2) (by rfl) said (by decide +kernel) ⟨rfl, rfl, rfl, rfl, rfl, by decide +kernel⟩ ?hw ?hc
  case hw => w_witness2
  case hc =>
    intro w s₀ s₁ mg mb G Y fa o pm cd doc dV kV ho hd hcd hD hmg hg args vals as hpre hlay hrd hwl hlo
    have KX : (Mine.heapK w.params).In s₁.heap := km_in_of Y
    have hT8 : ∀ P ∈ [253], s₁.heap.get? P = some (tabObj #[]) := km_tabs_of Y
    have X := (Ground.X G).1
    have V := (Ground.X G).2
    refine Ground.open G ?_
    intro T B D TE TW
    try (refine guard_noD D (by decide +kernel) ?_; clear D)
    have hmg' := hmg
    have hT9 : TabsAt ([(257, 253)] : List (Addr × Addr)) s₁.heap := List.forall_mem_cons.mpr ⟨⟨codeHd_of_K (c := 257) (P := 253) KX (by kernel_rfl), hT8 253 (.head _)⟩, fun _ h => nomatch h⟩
    wrow_args hpre hlay hrd hwl hlo
    refine enter_call ?_
    kn_posts
    rename_i zs _ _ _ _ _ _ _ x us _ hL _ _ _ hI _ hcond _
    have hfa : fa = 275 := by
      have e := mg_of (n := Str.ofString "law") (v := .ref 275) KX T.g (by kernel_rfl)
      have e2 : some (Value.ref 275) = some (Value.ref fa) := e.symm.trans hmg'
      simpa using e2.symm
    subst hfa
    refine Mine.law_run (g := ghostOf s₁.heap [(257, 253)]) (us := us) (zs := zs) (fun _ _ e => of_hideAll _ e) (Nat.le_of_eq (hideAll_size _ _)) (hT8 253 (.head _)) (hideAll_none _ (.head _)) (ghost_code hT9).1 (ghost_list hT9 hL) hI (by omega)
      ⟨rfl, by decide +kernel, by decide +kernel⟩ (ghost_K hT9 KX (by kernel_rfl)) (ghost_top hT9 T) ?_
    intro h' tk ps' hst h253'
    exact ⟨⟨.inl ⟨_, .bool true, [], rfl, fun _ => rfl, .bool true, by wrow_post, unshared_nil⟩, hst, rfl, hg⟩, ⟨ps', h253'⟩, trivial⟩
