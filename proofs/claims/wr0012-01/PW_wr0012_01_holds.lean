import PyProof.Rows.All
import Wide.All
import OpenK.AllK
import Wide.FinOn
import PySem.Challenge.RW_wr0012_01
open PySem PySem.W PyProof.Rows
set_option Elab.async false
local macro_rules | `(tactic| omega) => `(tactic| lia)
section
open PySem PySem.W PyProof.Rows
namespace Mine
set_option maxRecDepth 100000
set_option maxHeartbeats 8000000
noncomputable def hd.heap_39 : Params → Frag :=
  letI s0 : Stmt := _
  letI n1 : Str := _
  letI p1 : Arguments := _
  letI b1 : List Stmt := _
  letI d1 : List Expr := _
  letI r1 : Option Expr := _
  letI t1 : List TypeParam := _
  letI c1 : Scope := _
  letI ts1 : Option Scope := _
  letI bi1 : Str := _
  letI po1 : Pos := _
  letI s2 : Stmt := _
  letI s3 : Stmt := _
  letI n4 : Str := _
  letI p4 : Arguments := _
  letI b4 : List Stmt := _
  letI d4 : List Expr := _
  letI r4 : Option Expr := _
  letI t4 : List TypeParam := _
  letI c4 : Scope := _
  letI ts4 : Option Scope := _
  letI bi4 : Str := _
  letI po4 : Pos := _
  letI s5 : Stmt := _
  letI s6 : Stmt := _
  letI n7 : Str := _
  letI p7 : Arguments := _
  letI b7 : List Stmt := _
  letI d7 : List Expr := _
  letI r7 : Option Expr := _
  letI t7 : List TypeParam := _
  letI c7 : Scope := _
  letI ts7 : Option Scope := _
  letI bi7 : Str := _
  letI po7 : Pos := _
  letI s8 : Stmt := _
  letI n9 : Str := _
  letI p9 : Arguments := _
  letI b9 : List Stmt := _
  letI d9 : List Expr := _
  letI r9 : Option Expr := _
  letI t9 : List TypeParam := _
  letI c9 : Scope := _
  letI ts9 : Option Scope := _
  letI bi9 : Str := _
  letI po9 : Pos := _
  letI s10 : Stmt := _
  letI n11 : Str := _
  letI p11 : Arguments := _
  letI b11 : List Stmt := _
  letI d11 : List Expr := _
  letI r11 : Option Expr := _
  letI t11 : List TypeParam := _
  letI c11 : Scope := _
  letI ts11 : Option Scope := _
  letI bi11 : Str := _
  letI po11 : Pos := _
  letI n12 : Str := _
  letI p12 : Arguments := _
  letI b12 : List Stmt := _
  letI d12 : List Expr := _
  letI r12 : Option Expr := _
  letI t12 : List TypeParam := _
  letI c12 : Scope := _
  letI ts12 : Option Scope := _
  letI bi12 : Str := _
  letI po12 : Pos := _
  letI n13 : Str := _
  letI p13 : Arguments := _
  letI b13 : List Stmt := _
  letI d13 : List Expr := _
  letI r13 : Option Expr := _
  letI t13 : List TypeParam := _
  letI c13 : Scope := _
  letI ts13 : Option Scope := _
  letI bi13 : Str := _
  letI po13 : Pos := _
  letI n14 : Str := _
  letI p14 : Arguments := _
  letI b14 : List Stmt := _
  letI d14 : List Expr := _
  letI r14 : Option Expr := _
  letI t14 : List TypeParam := _
  letI c14 : Scope := _
  letI ts14 : Option Scope := _
  letI bi14 : Str := _
  letI po14 : Pos := _
  letI n15 : Str := _
  letI p15 : Arguments := _
  letI b15 : List Stmt := _
  letI d15 : List Expr := _
  letI r15 : Option Expr := _
  letI t15 : List TypeParam := _
  letI c15 : Scope := _
  letI ts15 : Option Scope := _
  letI bi15 : Str := _
  letI po15 : Pos := _
  letI n16 : Str := _
  letI p16 : Arguments := _
  letI b16 : List Stmt := _
  letI d16 : List Expr := _
  letI r16 : Option Expr := _
  letI t16 : List TypeParam := _
  letI c16 : Scope := _
  letI ts16 : Option Scope := _
  letI bi16 : Str := _
  letI po16 : Pos := _
  letI n17 : Str := _
  letI p17 : Arguments := _
  letI b17 : List Stmt := _
  letI d17 : List Expr := _
  letI r17 : Option Expr := _
  letI t17 : List TypeParam := _
  letI c17 : Scope := _
  letI ts17 : Option Scope := _
  letI bi17 : Str := _
  letI po17 : Pos := _
  letI n18 : Str := _
  letI p18 : Arguments := _
  letI b18 : List Stmt := _
  letI d18 : List Expr := _
  letI r18 : Option Expr := _
  letI t18 : List TypeParam := _
  letI c18 : Scope := _
  letI ts18 : Option Scope := _
  letI bi18 : Str := _
  letI po18 : Pos := _
  letI n19 : Str := _
  letI p19 : Arguments := _
  letI b19 : List Stmt := _
  letI d19 : List Expr := _
  letI r19 : Option Expr := _
  letI t19 : List TypeParam := _
  letI c19 : Scope := _
  letI ts19 : Option Scope := _
  letI bi19 : Str := _
  letI po19 : Pos := _
  letI n20 : Str := _
  letI p20 : Arguments := _
  letI b20 : List Stmt := _
  letI d20 : List Expr := _
  letI r20 : Option Expr := _
  letI t20 : List TypeParam := _
  letI c20 : Scope := _
  letI ts20 : Option Scope := _
  letI bi20 : Str := _
  letI po20 : Pos := _
  haveI : PySem.Challenge.pw_wr0012_01.main.body = [s0, .FunctionDef n1 p1 b1 d1 r1 t1 c1 ts1 bi1 po1, s2, s3, .FunctionDef n4 p4 b4 d4 r4 t4 c4 ts4 bi4 po4, s5, s6, .FunctionDef n7 p7 b7 d7 r7 t7 c7 ts7 bi7 po7, s8, .FunctionDef n9 p9 b9 d9 r9 t9 c9 ts9 bi9 po9, s10, .FunctionDef n11 p11 b11 d11 r11 t11 c11 ts11 bi11 po11, .FunctionDef n12 p12 b12 d12 r12 t12 c12 ts12 bi12 po12, .FunctionDef n13 p13 b13 d13 r13 t13 c13 ts13 bi13 po13, .FunctionDef n14 p14 b14 d14 r14 t14 c14 ts14 bi14 po14, .FunctionDef n15 p15 b15 d15 r15 t15 c15 ts15 bi15 po15, .FunctionDef n16 p16 b16 d16 r16 t16 c16 ts16 bi16 po16, .FunctionDef n17 p17 b17 d17 r17 t17 c17 ts17 bi17 po17, .FunctionDef n18 p18 b18 d18 r18 t18 c18 ts18 bi18 po18, .FunctionDef n19 p19 b19 d19 r19 t19 c19 ts19 bi19 po19, .FunctionDef n20 p20 b20 d20 r20 t20 c20 ts20 bi20 po20] := rfl
  fun P => (nat_lit 2, (Obj.mk Value.none none (Data.dict #[] 0) #[])) ::
    (nat_lit 3, (Obj.mk (Value.type "dict") none (Data.dict #[(DictEntry.mk (PyData.keyHash P (Str.ofString "__name__")) (Value.str (Str.ofString "__name__") 165) (Value.str (Str.ofString "law_wr0012_01") 238)), (DictEntry.mk (PyData.keyHash P (Str.ofString "__doc__")) (Value.str (Str.ofString "__doc__") 166) Value.none), (DictEntry.mk (PyData.keyHash P (Str.ofString "__package__")) (Value.str (Str.ofString "__package__") 167) Value.none), (DictEntry.mk (PyData.keyHash P (Str.ofString "__loader__")) (Value.str (Str.ofString "__loader__") 168) (Value.builtin "__main__.__loader__#opaque")), (DictEntry.mk (PyData.keyHash P (Str.ofString "__spec__")) (Value.str (Str.ofString "__spec__") 169) Value.none), (DictEntry.mk (PyData.keyHash P (Str.ofString "__annotations__")) (Value.str (Str.ofString "__annotations__") 170) (Value.ref 6)), (DictEntry.mk (PyData.keyHash P (Str.ofString "__builtins__")) (Value.str (Str.ofString "__builtins__") 171) (Value.ref 4)), (DictEntry.mk (PyData.keyHash P (Str.ofString "__file__")) (Value.str (Str.ofString "__file__") 173) (Value.str (Str.ofString "/claim/cut.py") 172)), (DictEntry.mk (PyData.keyHash P (Str.ofString "__cached__")) (Value.str (Str.ofString "__cached__") 174) Value.none), (DictEntry.mk (PyData.keyHash P (Str.ofString "SubElement")) (Value.str (Str.ofString "SubElement") 199) (Value.ref 23)), (DictEntry.mk (PyData.keyHash P (Str.ofString "ELLIPSIS_MARKER")) (Value.str (Str.ofString "ELLIPSIS_MARKER") 203) (Value.str (Str.ofString "...") 202)), (DictEntry.mk (PyData.keyHash P (Str.ofString "_ellipsis_match")) (Value.str (Str.ofString "_ellipsis_match") 215) (Value.ref 30)), (DictEntry.mk (PyData.keyHash P (Str.ofString "TICK")) (Value.str (Str.ofString "TICK") 219) (Value.str (Str.ofString "'") 218)), (DictEntry.mk (PyData.keyHash P (Str.ofString "decode_rfc2231")) (Value.str (Str.ofString "decode_rfc2231") 227) (Value.ref 37)), (DictEntry.mk (PyData.keyHash P (Str.ofString "_strcoll")) (Value.str (Str.ofString "_strcoll") 237) (Value.ref 44)), (DictEntry.mk (PyData.keyHash P (Str.ofString "_law_parent")) (Value.str (Str.ofString "_law_parent") 248) (Value.ref 51)), (DictEntry.mk (PyData.keyHash P (Str.ofString "_law_grown")) (Value.str (Str.ofString "_law_grown") 254) (Value.ref 56)), (DictEntry.mk (PyData.keyHash P (Str.ofString "_law_turned")) (Value.str (Str.ofString "_law_turned") 266) (Value.ref 63)), (DictEntry.mk (PyData.keyHash P (Str.ofString "_law_word")) (Value.str (Str.ofString "_law_word") 273) (Value.ref 70)), (DictEntry.mk (PyData.keyHash P (Str.ofString "_law_ends")) (Value.str (Str.ofString "_law_ends") 282) (Value.ref 77)), (DictEntry.mk (PyData.keyHash P (Str.ofString "_law_shape")) (Value.str (Str.ofString "_law_shape") 288) (Value.ref 82)), (DictEntry.mk (PyData.keyHash P (Str.ofString "_law_apart")) (Value.str (Str.ofString "_law_apart") 294) (Value.ref 87)), (DictEntry.mk (PyData.keyHash P (Str.ofString "_law_cut")) (Value.str (Str.ofString "_law_cut") 300) (Value.ref 92)), (DictEntry.mk (PyData.keyHash P (Str.ofString "_law_changed")) (Value.str (Str.ofString "_law_changed") 306) (Value.ref 97)), (DictEntry.mk (PyData.keyHash P (Str.ofString "law")) (Value.str (Str.ofString "law") 312) (Value.ref 102))] 25) #[])) ::
    (nat_lit 6, (Obj.mk (Value.type "dict") none (Data.dict #[] 0) #[])) ::
    (nat_lit 15, (Obj.mk (Value.type "dict") none (Data.dict #[] 0) #[])) ::
    (nat_lit 16, (Obj.mk (Value.type "tuple") none (Data.seq #[(Value.ref 15)] 0) #[])) ::
    (nat_lit 17, (Obj.mk (Value.type "tuple") none (Data.seq #[] 0) #[])) ::
    (nat_lit 19, (Obj.mk (Value.type "tuple") none (Data.seq #[(Value.str (Str.ofString "parent") 192), (Value.str (Str.ofString "tag") 193), (Value.str (Str.ofString "attrib") 194), (Value.str (Str.ofString "extra") 195), (Value.str (Str.ofString "element") 196)] 0) #[])) ::
    (nat_lit 20, (Obj.mk (Value.type "tuple") none (Data.seq #[] 0) #[])) ::
    (nat_lit 22, (Obj.mk (Value.type "code") none (Data.fields #[(Value.str (Str.ofString "SubElement") 189), (Value.str (Str.ofString "SubElement") 190), (Value.str (Str.ofString "/claim/cut.py") 191), (Value.int 2 0), (Value.int 3 0), (Value.int 0 0), (Value.int 0 0), (Value.int 11 0), (Value.ref 17), (Value.bool Bool.true), (Value.int 181 0), (Value.ref 18), Value.none, (Value.ref 19), (Value.ref 20), (Value.ref 21), (Value.int 197 0), (Value.int 2 0), (Value.str (Str.ofString "/claim/cut.py") 198)]) #[])) ::
    (nat_lit 23, (Obj.mk (Value.type "function") none (Data.func (FuncData.mk (Str.ofString "SubElement") (Str.ofString "SubElement") p1 (FuncBody.stmts b1) c1 3 [] (Value.ref 16) Value.none Value.none (Value.str (Str.ofString "cpy313.xml.etree.ElementTree") 187) none (Value.ref 22) Value.none 0)) #[])) ::
    (nat_lit 24, (Obj.mk (Value.type "tuple") none (Data.seq #[] 0) #[])) ::
    (nat_lit 26, (Obj.mk (Value.type "tuple") none (Data.seq #[(Value.str (Str.ofString "want") 207), (Value.str (Str.ofString "got") 208), (Value.str (Str.ofString "ws") 209), (Value.str (Str.ofString "startpos") 210), (Value.str (Str.ofString "endpos") 211), (Value.str (Str.ofString "w") 212)] 0) #[])) ::
    (nat_lit 27, (Obj.mk (Value.type "tuple") none (Data.seq #[] 0) #[])) ::
    (nat_lit 29, (Obj.mk (Value.type "code") none (Data.fields #[(Value.str (Str.ofString "_ellipsis_match") 204), (Value.str (Str.ofString "_ellipsis_match") 205), (Value.str (Str.ofString "/claim/cut.py") 206), (Value.int 9 0), (Value.int 2 0), (Value.int 0 0), (Value.int 0 0), (Value.int 3 0), (Value.ref 24), (Value.bool Bool.true), (Value.int 181 0), (Value.ref 25), Value.none, (Value.ref 26), (Value.ref 27), (Value.ref 28), (Value.int 213 0), (Value.int 9 0), (Value.str (Str.ofString "/claim/cut.py") 214)]) #[])) ::
    (nat_lit 30, (Obj.mk (Value.type "function") none (Data.func (FuncData.mk (Str.ofString "_ellipsis_match") (Str.ofString "_ellipsis_match") p4 (FuncBody.stmts b4) c4 3 [] Value.none Value.none Value.none (Value.str (Str.ofString "cpy313.doctest") 200) none (Value.ref 29) Value.none 0)) #[])) ::
    (nat_lit 31, (Obj.mk (Value.type "tuple") none (Data.seq #[] 0) #[])) ::
    (nat_lit 33, (Obj.mk (Value.type "tuple") none (Data.seq #[(Value.str (Str.ofString "s") 223), (Value.str (Str.ofString "parts") 224)] 0) #[])) ::
    (nat_lit 34, (Obj.mk (Value.type "tuple") none (Data.seq #[] 0) #[])) ::
    (nat_lit 36, (Obj.mk (Value.type "code") none (Data.fields #[(Value.str (Str.ofString "decode_rfc2231") 220), (Value.str (Str.ofString "decode_rfc2231") 221), (Value.str (Str.ofString "/claim/cut.py") 222), (Value.int 39 0), (Value.int 1 0), (Value.int 0 0), (Value.int 0 0), (Value.int 3 0), (Value.ref 31), (Value.bool Bool.true), (Value.int 181 0), (Value.ref 32), Value.none, (Value.ref 33), (Value.ref 34), (Value.ref 35), (Value.int 225 0), (Value.int 39 0), (Value.str (Str.ofString "/claim/cut.py") 226)]) #[])) ::
    (nat_lit 37, (Obj.mk (Value.type "function") none (Data.func (FuncData.mk (Str.ofString "decode_rfc2231") (Str.ofString "decode_rfc2231") p7 (FuncBody.stmts b7) c7 3 [] Value.none Value.none Value.none (Value.str (Str.ofString "cpy313.email.utils") 216) none (Value.ref 36) Value.none 0)) #[])) ::
    (nat_lit 38, (Obj.mk (Value.type "tuple") none (Data.seq #[] 0) #[])) ::
    (nat_lit 40, (Obj.mk (Value.type "tuple") none (Data.seq #[(Value.str (Str.ofString "a") 233), (Value.str (Str.ofString "b") 234)] 0) #[])) ::
    (nat_lit 41, (Obj.mk (Value.type "tuple") none (Data.seq #[] 0) #[])) ::
    (nat_lit 43, (Obj.mk (Value.type "code") none (Data.fields #[(Value.str (Str.ofString "_strcoll") 230), (Value.str (Str.ofString "_strcoll") 231), (Value.str (Str.ofString "/claim/cut.py") 232), (Value.int 45 0), (Value.int 2 0), (Value.int 0 0), (Value.int 0 0), (Value.int 3 0), (Value.ref 38), (Value.bool Bool.true), (Value.int 181 0), (Value.ref 39), Value.none, (Value.ref 40), (Value.ref 41), (Value.ref 42), (Value.int 235 0), (Value.int 45 0), (Value.str (Str.ofString "/claim/cut.py") 236)]) #[])) ::
    (nat_lit 44, (Obj.mk (Value.type "function") none (Data.func (FuncData.mk (Str.ofString "_strcoll") (Str.ofString "_strcoll") p9 (FuncBody.stmts b9) c9 3 [] Value.none Value.none Value.none (Value.str (Str.ofString "cpy313.locale") 228) none (Value.ref 43) Value.none 0)) #[])) ::
    (nat_lit 45, (Obj.mk (Value.type "tuple") none (Data.seq #[] 0) #[])) ::
    (nat_lit 47, (Obj.mk (Value.type "tuple") none (Data.seq #[(Value.str (Str.ofString "gap") 243), (Value.str (Str.ofString "parent") 244)] 0) #[])) ::
    (nat_lit 48, (Obj.mk (Value.type "tuple") none (Data.seq #[(Value.str (Str.ofString "gap") 245)] 0) #[])) ::
    (nat_lit 50, (Obj.mk (Value.type "code") none (Data.fields #[(Value.str (Str.ofString "_law_parent") 240), (Value.str (Str.ofString "_law_parent") 241), (Value.str (Str.ofString "/claim/cut.py") 242), (Value.int 48 0), (Value.int 1 0), (Value.int 0 0), (Value.int 0 0), (Value.int 3 0), (Value.ref 45), (Value.bool Bool.true), (Value.int 181 0), (Value.ref 46), Value.none, (Value.ref 47), (Value.ref 48), (Value.ref 49), (Value.int 246 0), (Value.int 48 0), (Value.str (Str.ofString "/claim/cut.py") 247)]) #[])) ::
    (nat_lit 51, (Obj.mk (Value.type "function") none (Data.func (FuncData.mk (Str.ofString "_law_parent") (Str.ofString "_law_parent") p11 (FuncBody.stmts b11) c11 3 [] Value.none Value.none Value.none (Value.str (Str.ofString "law_wr0012_01") 238) none (Value.ref 50) Value.none 0)) #[])) ::
    (nat_lit 52, (Obj.mk (Value.type "tuple") none (Data.seq #[] 0) #[])) ::
    (nat_lit 55, (Obj.mk (Value.type "code") none (Data.fields #[(Value.str (Str.ofString "_law_grown") 249), (Value.str (Str.ofString "_law_grown") 250), (Value.str (Str.ofString "/claim/cut.py") 251), (Value.int 53 0), (Value.int 1 0), (Value.int 0 0), (Value.int 0 0), (Value.int 3 0), (Value.ref 52), (Value.bool Bool.true), (Value.int 181 0), (Value.ref 53), Value.none, Value.none, Value.none, (Value.ref 54), (Value.int 252 0), (Value.int 53 0), (Value.str (Str.ofString "/claim/cut.py") 253)]) #[])) ::
    (nat_lit 56, (Obj.mk (Value.type "function") none (Data.func (FuncData.mk (Str.ofString "_law_grown") (Str.ofString "_law_grown") p12 (FuncBody.stmts b12) c12 3 [] Value.none Value.none Value.none (Value.str (Str.ofString "law_wr0012_01") 238) none (Value.ref 55) Value.none 0)) #[])) ::
    (nat_lit 57, (Obj.mk (Value.type "tuple") none (Data.seq #[] 0) #[])) ::
    (nat_lit 59, (Obj.mk (Value.type "tuple") none (Data.seq #[(Value.str (Str.ofString "gap") 258), (Value.str (Str.ofString "order") 259), (Value.str (Str.ofString "turned") 260), (Value.str (Str.ofString "place") 261), (Value.str (Str.ofString "old") 262), (Value.str (Str.ofString "limb") 263)] 0) #[])) ::
    (nat_lit 60, (Obj.mk (Value.type "tuple") none (Data.seq #[] 0) #[])) ::
    (nat_lit 62, (Obj.mk (Value.type "code") none (Data.fields #[(Value.str (Str.ofString "_law_turned") 255), (Value.str (Str.ofString "_law_turned") 256), (Value.str (Str.ofString "/claim/cut.py") 257), (Value.int 62 0), (Value.int 2 0), (Value.int 0 0), (Value.int 0 0), (Value.int 3 0), (Value.ref 57), (Value.bool Bool.true), (Value.int 181 0), (Value.ref 58), Value.none, (Value.ref 59), (Value.ref 60), (Value.ref 61), (Value.int 264 0), (Value.int 62 0), (Value.str (Str.ofString "/claim/cut.py") 265)]) #[])) ::
    (nat_lit 63, (Obj.mk (Value.type "function") none (Data.func (FuncData.mk (Str.ofString "_law_turned") (Str.ofString "_law_turned") p13 (FuncBody.stmts b13) c13 3 [] Value.none Value.none Value.none (Value.str (Str.ofString "law_wr0012_01") 238) none (Value.ref 62) Value.none 0)) #[])) ::
    (nat_lit 64, (Obj.mk (Value.type "tuple") none (Data.seq #[] 0) #[])) ::
    (nat_lit 66, (Obj.mk (Value.type "tuple") none (Data.seq #[(Value.str (Str.ofString "gap") 270)] 0) #[])) ::
    (nat_lit 67, (Obj.mk (Value.type "tuple") none (Data.seq #[] 0) #[])) ::
    (nat_lit 69, (Obj.mk (Value.type "code") none (Data.fields #[(Value.str (Str.ofString "_law_word") 267), (Value.str (Str.ofString "_law_word") 268), (Value.str (Str.ofString "/claim/cut.py") 269), (Value.int 69 0), (Value.int 1 0), (Value.int 0 0), (Value.int 0 0), (Value.int 3 0), (Value.ref 64), (Value.bool Bool.true), (Value.int 181 0), (Value.ref 65), Value.none, (Value.ref 66), (Value.ref 67), (Value.ref 68), (Value.int 271 0), (Value.int 69 0), (Value.str (Str.ofString "/claim/cut.py") 272)]) #[])) ::
    (nat_lit 70, (Obj.mk (Value.type "function") none (Data.func (FuncData.mk (Str.ofString "_law_word") (Str.ofString "_law_word") p14 (FuncBody.stmts b14) c14 3 [] Value.none Value.none Value.none (Value.str (Str.ofString "law_wr0012_01") 238) none (Value.ref 69) Value.none 0)) #[])) ::
    (nat_lit 71, (Obj.mk (Value.type "tuple") none (Data.seq #[] 0) #[])) ::
    (nat_lit 73, (Obj.mk (Value.type "tuple") none (Data.seq #[(Value.str (Str.ofString "gap") 277), (Value.str (Str.ofString "ends") 278), (Value.str (Str.ofString "limb") 279)] 0) #[])) ::
    (nat_lit 74, (Obj.mk (Value.type "tuple") none (Data.seq #[] 0) #[])) ::
    (nat_lit 76, (Obj.mk (Value.type "code") none (Data.fields #[(Value.str (Str.ofString "_law_ends") 274), (Value.str (Str.ofString "_law_ends") 275), (Value.str (Str.ofString "/claim/cut.py") 276), (Value.int 73 0), (Value.int 1 0), (Value.int 0 0), (Value.int 0 0), (Value.int 3 0), (Value.ref 71), (Value.bool Bool.true), (Value.int 181 0), (Value.ref 72), Value.none, (Value.ref 73), (Value.ref 74), (Value.ref 75), (Value.int 280 0), (Value.int 73 0), (Value.str (Str.ofString "/claim/cut.py") 281)]) #[])) ::
    (nat_lit 77, (Obj.mk (Value.type "function") none (Data.func (FuncData.mk (Str.ofString "_law_ends") (Str.ofString "_law_ends") p15 (FuncBody.stmts b15) c15 3 [] Value.none Value.none Value.none (Value.str (Str.ofString "law_wr0012_01") 238) none (Value.ref 76) Value.none 0)) #[])) ::
    (nat_lit 78, (Obj.mk (Value.type "tuple") none (Data.seq #[] 0) #[])) ::
    (nat_lit 81, (Obj.mk (Value.type "code") none (Data.fields #[(Value.str (Str.ofString "_law_shape") 283), (Value.str (Str.ofString "_law_shape") 284), (Value.str (Str.ofString "/claim/cut.py") 285), (Value.int 78 0), (Value.int 1 0), (Value.int 0 0), (Value.int 0 0), (Value.int 3 0), (Value.ref 78), (Value.bool Bool.true), (Value.int 181 0), (Value.ref 79), Value.none, Value.none, Value.none, (Value.ref 80), (Value.int 286 0), (Value.int 78 0), (Value.str (Str.ofString "/claim/cut.py") 287)]) #[])) ::
    (nat_lit 82, (Obj.mk (Value.type "function") none (Data.func (FuncData.mk (Str.ofString "_law_shape") (Str.ofString "_law_shape") p16 (FuncBody.stmts b16) c16 3 [] Value.none Value.none Value.none (Value.str (Str.ofString "law_wr0012_01") 238) none (Value.ref 81) Value.none 0)) #[])) ::
    (nat_lit 83, (Obj.mk (Value.type "tuple") none (Data.seq #[] 0) #[])) ::
    (nat_lit 86, (Obj.mk (Value.type "code") none (Data.fields #[(Value.str (Str.ofString "_law_apart") 289), (Value.str (Str.ofString "_law_apart") 290), (Value.str (Str.ofString "/claim/cut.py") 291), (Value.int 80 0), (Value.int 1 0), (Value.int 0 0), (Value.int 0 0), (Value.int 3 0), (Value.ref 83), (Value.bool Bool.true), (Value.int 181 0), (Value.ref 84), Value.none, Value.none, Value.none, (Value.ref 85), (Value.int 292 0), (Value.int 80 0), (Value.str (Str.ofString "/claim/cut.py") 293)]) #[])) ::
    (nat_lit 87, (Obj.mk (Value.type "function") none (Data.func (FuncData.mk (Str.ofString "_law_apart") (Str.ofString "_law_apart") p17 (FuncBody.stmts b17) c17 3 [] Value.none Value.none Value.none (Value.str (Str.ofString "law_wr0012_01") 238) none (Value.ref 86) Value.none 0)) #[])) ::
    (nat_lit 88, (Obj.mk (Value.type "tuple") none (Data.seq #[] 0) #[])) ::
    (nat_lit 91, (Obj.mk (Value.type "code") none (Data.fields #[(Value.str (Str.ofString "_law_cut") 295), (Value.str (Str.ofString "_law_cut") 296), (Value.str (Str.ofString "/claim/cut.py") 297), (Value.int 86 0), (Value.int 1 0), (Value.int 0 0), (Value.int 0 0), (Value.int 3 0), (Value.ref 88), (Value.bool Bool.true), (Value.int 181 0), (Value.ref 89), Value.none, Value.none, Value.none, (Value.ref 90), (Value.int 298 0), (Value.int 86 0), (Value.str (Str.ofString "/claim/cut.py") 299)]) #[])) ::
    (nat_lit 92, (Obj.mk (Value.type "function") none (Data.func (FuncData.mk (Str.ofString "_law_cut") (Str.ofString "_law_cut") p18 (FuncBody.stmts b18) c18 3 [] Value.none Value.none Value.none (Value.str (Str.ofString "law_wr0012_01") 238) none (Value.ref 91) Value.none 0)) #[])) ::
    (nat_lit 93, (Obj.mk (Value.type "tuple") none (Data.seq #[] 0) #[])) ::
    (nat_lit 96, (Obj.mk (Value.type "code") none (Data.fields #[(Value.str (Str.ofString "_law_changed") 301), (Value.str (Str.ofString "_law_changed") 302), (Value.str (Str.ofString "/claim/cut.py") 303), (Value.int 99 0), (Value.int 3 0), (Value.int 0 0), (Value.int 0 0), (Value.int 3 0), (Value.ref 93), (Value.bool Bool.true), (Value.int 181 0), (Value.ref 94), Value.none, Value.none, Value.none, (Value.ref 95), (Value.int 304 0), (Value.int 99 0), (Value.str (Str.ofString "/claim/cut.py") 305)]) #[])) ::
    (nat_lit 97, (Obj.mk (Value.type "function") none (Data.func (FuncData.mk (Str.ofString "_law_changed") (Str.ofString "_law_changed") p19 (FuncBody.stmts b19) c19 3 [] Value.none Value.none Value.none (Value.str (Str.ofString "law_wr0012_01") 238) none (Value.ref 96) Value.none 0)) #[])) ::
    (nat_lit 98, (Obj.mk (Value.type "tuple") none (Data.seq #[] 0) #[])) ::
    (nat_lit 101, (Obj.mk (Value.type "code") none (Data.fields #[(Value.str (Str.ofString "law") 307), (Value.str (Str.ofString "law") 308), (Value.str (Str.ofString "/claim/cut.py") 309), (Value.int 101 0), (Value.int 1 0), (Value.int 0 0), (Value.int 0 0), (Value.int 3 0), (Value.ref 98), (Value.bool Bool.true), (Value.int 181 0), (Value.ref 99), Value.none, Value.none, Value.none, (Value.ref 100), (Value.int 310 0), (Value.int 101 0), (Value.str (Str.ofString "/claim/cut.py") 311)]) #[])) ::
    (nat_lit 102, (Obj.mk (Value.type "function") none (Data.func (FuncData.mk (Str.ofString "law") (Str.ofString "law") p20 (FuncBody.stmts b20) (Scope.mk ScopeKind.function [((Str.ofString "script"), NameKind.cell), ((Str.ofString "numbers"), NameKind.local), ((Str.ofString "top"), NameKind.local), ((Str.ofString "word"), NameKind.cell), ((Str.ofString "orders"), NameKind.local), ((Str.ofString "turned"), NameKind.local), ((Str.ofString "other"), NameKind.local), ((Str.ofString "one"), NameKind.local), ((Str.ofString "two"), NameKind.local), ((Str.ofString "spoilt"), NameKind.cell), ((Str.ofString "text"), NameKind.local), ((Str.ofString "gap"), NameKind.local), ((Str.ofString "row"), NameKind.local), ((Str.ofString "sides"), NameKind.local), ((Str.ofString "said"), NameKind.local), ((Str.ofString "due"), NameKind.local), ((Str.ofString "x"), NameKind.local), ((Str.ofString "parts"), NameKind.local), ((Str.ofString "y"), NameKind.local), ((Str.ofString "found"), NameKind.local), ((Str.ofString "want"), NameKind.local), ((Str.ofString "got"), NameKind.local), ((Str.ofString "four"), NameKind.local), ((Str.ofString "enumerate"), NameKind.globalImplicit), ((Str.ofString "_law_grown"), NameKind.globalImplicit), ((Str.ofString "_law_turned"), NameKind.globalImplicit), ((Str.ofString "_law_word"), NameKind.globalImplicit), ((Str.ofString "_law_changed"), NameKind.globalImplicit), ((Str.ofString "_law_apart"), NameKind.globalImplicit), ((Str.ofString "list"), NameKind.globalImplicit), ((Str.ofString "zip"), NameKind.globalImplicit), ((Str.ofString "_law_ends"), NameKind.globalImplicit), ((Str.ofString "_law_cut"), NameKind.globalImplicit), ((Str.ofString "_law_shape"), NameKind.globalImplicit), ((Str.ofString "_ellipsis_match"), NameKind.globalImplicit), ((Str.ofString "decode_rfc2231"), NameKind.globalImplicit)] Bool.false Bool.false [((Str.ofString "fast"), (Const.str (Str.ofString "script"))), ((Str.ofString "fast"), (Const.str (Str.ofString "k"))), ((Str.ofString "fast"), (Const.str (Str.ofString "base"))), ((Str.ofString "fast"), (Const.str (Str.ofString "numbers"))), ((Str.ofString "fast"), (Const.str (Str.ofString "top"))), ((Str.ofString "fast"), (Const.str (Str.ofString "word"))), ((Str.ofString "fast"), (Const.str (Str.ofString "orders"))), ((Str.ofString "fast"), (Const.str (Str.ofString "turned"))), ((Str.ofString "fast"), (Const.str (Str.ofString "other"))), ((Str.ofString "fast"), (Const.str (Str.ofString "one"))), ((Str.ofString "fast"), (Const.str (Str.ofString "two"))), ((Str.ofString "fast"), (Const.str (Str.ofString "spoilt"))), ((Str.ofString "fast"), (Const.str (Str.ofString "text"))), ((Str.ofString "fast"), (Const.str (Str.ofString "gap"))), ((Str.ofString "fast"), (Const.str (Str.ofString "row"))), ((Str.ofString "fast"), (Const.str (Str.ofString "sides"))), ((Str.ofString "fast"), (Const.str (Str.ofString "left"))), ((Str.ofString "fast"), (Const.str (Str.ofString "right"))), ((Str.ofString "fast"), (Const.str (Str.ofString "said"))), ((Str.ofString "fast"), (Const.str (Str.ofString "step"))), ((Str.ofString "fast"), (Const.str (Str.ofString "side"))), ((Str.ofString "fast"), (Const.str (Str.ofString "due"))), ((Str.ofString "fast"), (Const.str (Str.ofString "x"))), ((Str.ofString "fast"), (Const.str (Str.ofString "parts"))), ((Str.ofString "fast"), (Const.str (Str.ofString "y"))), ((Str.ofString "fast"), (Const.str (Str.ofString "found"))), ((Str.ofString "fast"), (Const.str (Str.ofString "want"))), ((Str.ofString "fast"), (Const.str (Str.ofString "got"))), ((Str.ofString "fast"), (Const.str (Str.ofString "four")))]) 3 [] Value.none Value.none Value.none (Value.str (Str.ofString "law_wr0012_01") 238) none (Value.ref 101) Value.none 0)) #[])) :: []
noncomputable def hd.view_39 : Program :=
  letI s0 : Stmt := _
  letI n1 : Str := _
  letI p1 : Arguments := _
  letI b1 : List Stmt := _
  letI d1 : List Expr := _
  letI r1 : Option Expr := _
  letI t1 : List TypeParam := _
  letI c1 : Scope := _
  letI ts1 : Option Scope := _
  letI bi1 : Str := _
  letI po1 : Pos := _
  letI s2 : Stmt := _
  letI s3 : Stmt := _
  letI n4 : Str := _
  letI p4 : Arguments := _
  letI b4 : List Stmt := _
  letI d4 : List Expr := _
  letI r4 : Option Expr := _
  letI t4 : List TypeParam := _
  letI c4 : Scope := _
  letI ts4 : Option Scope := _
  letI bi4 : Str := _
  letI po4 : Pos := _
  letI s5 : Stmt := _
  letI s6 : Stmt := _
  letI n7 : Str := _
  letI p7 : Arguments := _
  letI b7 : List Stmt := _
  letI d7 : List Expr := _
  letI r7 : Option Expr := _
  letI t7 : List TypeParam := _
  letI c7 : Scope := _
  letI ts7 : Option Scope := _
  letI bi7 : Str := _
  letI po7 : Pos := _
  letI s8 : Stmt := _
  letI n9 : Str := _
  letI p9 : Arguments := _
  letI b9 : List Stmt := _
  letI d9 : List Expr := _
  letI r9 : Option Expr := _
  letI t9 : List TypeParam := _
  letI c9 : Scope := _
  letI ts9 : Option Scope := _
  letI bi9 : Str := _
  letI po9 : Pos := _
  letI s10 : Stmt := _
  letI n11 : Str := _
  letI p11 : Arguments := _
  letI b11 : List Stmt := _
  letI d11 : List Expr := _
  letI r11 : Option Expr := _
  letI t11 : List TypeParam := _
  letI c11 : Scope := _
  letI ts11 : Option Scope := _
  letI bi11 : Str := _
  letI po11 : Pos := _
  letI n12 : Str := _
  letI p12 : Arguments := _
  letI b12 : List Stmt := _
  letI d12 : List Expr := _
  letI r12 : Option Expr := _
  letI t12 : List TypeParam := _
  letI c12 : Scope := _
  letI ts12 : Option Scope := _
  letI bi12 : Str := _
  letI po12 : Pos := _
  letI n13 : Str := _
  letI p13 : Arguments := _
  letI b13 : List Stmt := _
  letI d13 : List Expr := _
  letI r13 : Option Expr := _
  letI t13 : List TypeParam := _
  letI c13 : Scope := _
  letI ts13 : Option Scope := _
  letI bi13 : Str := _
  letI po13 : Pos := _
  letI n14 : Str := _
  letI p14 : Arguments := _
  letI b14 : List Stmt := _
  letI d14 : List Expr := _
  letI r14 : Option Expr := _
  letI t14 : List TypeParam := _
  letI c14 : Scope := _
  letI ts14 : Option Scope := _
  letI bi14 : Str := _
  letI po14 : Pos := _
  letI n15 : Str := _
  letI p15 : Arguments := _
  letI b15 : List Stmt := _
  letI d15 : List Expr := _
  letI r15 : Option Expr := _
  letI t15 : List TypeParam := _
  letI c15 : Scope := _
  letI ts15 : Option Scope := _
  letI bi15 : Str := _
  letI po15 : Pos := _
  letI n16 : Str := _
  letI p16 : Arguments := _
  letI b16 : List Stmt := _
  letI d16 : List Expr := _
  letI r16 : Option Expr := _
  letI t16 : List TypeParam := _
  letI c16 : Scope := _
  letI ts16 : Option Scope := _
  letI bi16 : Str := _
  letI po16 : Pos := _
  letI n17 : Str := _
  letI p17 : Arguments := _
  letI b17 : List Stmt := _
  letI d17 : List Expr := _
  letI r17 : Option Expr := _
  letI t17 : List TypeParam := _
  letI c17 : Scope := _
  letI ts17 : Option Scope := _
  letI bi17 : Str := _
  letI po17 : Pos := _
  letI n18 : Str := _
  letI p18 : Arguments := _
  letI b18 : List Stmt := _
  letI d18 : List Expr := _
  letI r18 : Option Expr := _
  letI t18 : List TypeParam := _
  letI c18 : Scope := _
  letI ts18 : Option Scope := _
  letI bi18 : Str := _
  letI po18 : Pos := _
  letI n19 : Str := _
  letI p19 : Arguments := _
  letI b19 : List Stmt := _
  letI d19 : List Expr := _
  letI r19 : Option Expr := _
  letI t19 : List TypeParam := _
  letI c19 : Scope := _
  letI ts19 : Option Scope := _
  letI bi19 : Str := _
  letI po19 : Pos := _
  letI n20 : Str := _
  letI p20 : Arguments := _
  letI b20 : List Stmt := _
  letI d20 : List Expr := _
  letI r20 : Option Expr := _
  letI t20 : List TypeParam := _
  letI c20 : Scope := _
  letI ts20 : Option Scope := _
  letI bi20 : Str := _
  letI po20 : Pos := _
  haveI : PySem.Challenge.pw_wr0012_01.main.body = [s0, .FunctionDef n1 p1 b1 d1 r1 t1 c1 ts1 bi1 po1, s2, s3, .FunctionDef n4 p4 b4 d4 r4 t4 c4 ts4 bi4 po4, s5, s6, .FunctionDef n7 p7 b7 d7 r7 t7 c7 ts7 bi7 po7, s8, .FunctionDef n9 p9 b9 d9 r9 t9 c9 ts9 bi9 po9, s10, .FunctionDef n11 p11 b11 d11 r11 t11 c11 ts11 bi11 po11, .FunctionDef n12 p12 b12 d12 r12 t12 c12 ts12 bi12 po12, .FunctionDef n13 p13 b13 d13 r13 t13 c13 ts13 bi13 po13, .FunctionDef n14 p14 b14 d14 r14 t14 c14 ts14 bi14 po14, .FunctionDef n15 p15 b15 d15 r15 t15 c15 ts15 bi15 po15, .FunctionDef n16 p16 b16 d16 r16 t16 c16 ts16 bi16 po16, .FunctionDef n17 p17 b17 d17 r17 t17 c17 ts17 bi17 po17, .FunctionDef n18 p18 b18 d18 r18 t18 c18 ts18 bi18 po18, .FunctionDef n19 p19 b19 d19 r19 t19 c19 ts19 bi19 po19, .FunctionDef n20 p20 b20 d20 r20 t20 c20 ts20 bi20 po20] := rfl
  { PySem.Challenge.rw_wr0012_01.row.toRowW.1 with main := { PySem.Challenge.rw_wr0012_01.row.toRowW.1.main with body := [s3, (.FunctionDef n4 p4 b4 d4 r4 t4 c4 ts4 bi4 po4), s6, (.FunctionDef n7 p7 b7 d7 r7 t7 c7 ts7 bi7 po7), (.FunctionDef n9 p9 b9 d9 r9 t9 c9 ts9 bi9 po9), (.FunctionDef n11 p11 b11 d11 r11 t11 c11 ts11 bi11 po11), (.FunctionDef n12 p12 b12 d12 r12 t12 c12 ts12 bi12 po12), (.FunctionDef n13 p13 b13 d13 r13 t13 c13 ts13 bi13 po13), (.FunctionDef n14 p14 b14 d14 r14 t14 c14 ts14 bi14 po14), (.FunctionDef n15 p15 b15 d15 r15 t15 c15 ts15 bi15 po15), (.FunctionDef n16 p16 b16 d16 r16 t16 c16 ts16 bi16 po16), (.FunctionDef n17 p17 b17 d17 r17 t17 c17 ts17 bi17 po17), (.FunctionDef n18 p18 b18 d18 r18 t18 c18 ts18 bi18 po18), (.FunctionDef n19 p19 b19 d19 r19 t19 c19 ts19 bi19 po19), (.FunctionDef n20 p20 b20 d20 r20 t20 c20 ts20 bi20 po20)] } }
theorem hd.keys : ∀ P, [2, 3, 6, 15, 16, 17, 19, 20, 22, 23, 24, 26, 27, 29, 30, 31, 33, 34, 36, 37, 38, 40, 41, 43, 44, 45, 47, 48, 50, 51, 52, 55, 56, 57, 59, 60, 62, 63, 64, 66, 67, 69, 70, 71, 73, 74, 76, 77, 78, 81, 82, 83, 86, 87, 88, 91, 92, 93, 96, 97, 98, 101, 102] = (hd.heap_39 P).map (·.1) := fun _ => by kernel_rfl
noncomputable abbrev hd.hook : Hook := kmHook hd.heap_39 [2, 3, 6, 15, 16, 17, 19, 20, 22, 23, 24, 26, 27, 29, 30, 31, 33, 34, 36, 37, 38, 40, 41, 43, 44, 45, 47, 48, 50, 51, 52, 55, 56, 57, 59, 60, 62, 63, 64, 66, 67, 69, 70, 71, 73, 74, 76, 77, 78, 81, 82, 83, 86, 87, 88, 91, 92, 93, 96, 97, 98, 101, 102] hd.keys [46]
theorem hd.left : LeftO PySem.Challenge.rw_wr0012_01.row.toRowW.1 hd.view_39 [Str.ofString "SubElement"] (fun s => xlAt hd.view_39 [] s && recOk PySem.Challenge.rw_wr0012_01.row.records s) hd.hook.obs hd.hook.val 1074 := fun w => by kernel_rfl
theorem hd.said : PySem.Challenge.rw_wr0012_01.wellSaid = true := by kernel_rfl
theorem hd.chains : (chainsOk hd.view_39 && opensWell PySem.Challenge.rw_wr0012_01.row.prog && (frees PySem.Challenge.rw_wr0012_01.row.toRowW && PySem.Challenge.rw_wr0012_01.row.within.isEmpty)) = true := by kernel_rfl
theorem hd {d : DefRec} {kwd : List (Str × Expr)} (hdef : defOf hd.view_39 PySem.Challenge.rw_wr0012_01.row.name = some (d, kwd)) (hp : PySem.Challenge.rw_wr0012_01.row.prog.theDef PySem.Challenge.rw_wr0012_01.row.name = some (d.params, d.body, d.scope))
    (hk : kwWritten? d.params.kwonlyargs d.params.kw_defaults = some kwd) (walk : WalkO hd.view_39 [Str.ofString "SubElement"] (XL hd.view_39 []) (kmHook hd.heap_39 [2, 3, 6, 15, 16, 17, 19, 20, 22, 23, 24, 26, 27, 29, 30, 31, 33, 34, 36, 37, 38, 40, 41, 43, 44, 45, 47, 48, 50, 51, 52, 55, 56, 57, 59, 60, 62, 63, 64, 66, 67, 69, 70, 71, 73, 74, 76, 77, 78, 81, 82, 83, 86, 87, 88, 91, 92, 93, 96, 97, 98, 101, 102] hd.keys [46]).says PySem.Challenge.rw_wr0012_01.row.toRowW d kwd fun f vs => PySem.call f vs) :
    PySem.Challenge.rw_wr0012_01.Holds :=
  holds_law hd.said fun said => holds_open (q := hd.view_39) (loose := [Str.ofString "SubElement"]) (Xt := fun s => xlAt hd.view_39 [] s && recOk PySem.Challenge.rw_wr0012_01.row.records s) (XP := XL hd.view_39 []) (Yf := hd.hook.obs) (Ya := hd.hook.val) (YP := hd.hook.says) (N := 1074)
    hd.left hd.hook.of hd.hook.keeps (fun s e => xl_of s (Bool.and_eq_true_iff.mp e).1) XL.keeps hdef hp hk (fun s e => recFacts_of (Bool.and_eq_true_iff.mp e).2) rfl said hd.chains
    ⟨rfl, rfl, rfl, rfl, rfl, by kernel_rfl⟩ ⟨[.list []], by kernel_rfl, by kernel_rfl⟩ walk
end Mine
end
section
open PySem PySem.W PyProof.Rows
namespace Mine
noncomputable abbrev LOOSE : List Str := looseW Mine.hd.view_39 [Str.ofString "SubElement"] ++ List.map (fun x => x.name) (recsOf Mine.hd.view_39) ++ List.map (fun x => x.fst) (litsOf Mine.hd.view_39) ++
  List.map (fun x => x.name) (clssOf Mine.hd.view_39 (looseW Mine.hd.view_39 [Str.ofString "SubElement"]))
noncomputable abbrev Ar (dp un : Nat) (fr : Option (List Env)) (gd : Option (List Code)) : Around := { handled := none, depth := dp, frames := fr, guards := gd, units := un }
theorem Fr.stays {h₀ h h' : Heap} {L : Addr} {m : Str → Option Value} (F : Fr h₀ L h m) (st : h.StaysIn h') : Fr h₀ L h' m :=
  ⟨F.ns.keeps st, fun b o e => st b o (F.keep b o e), F.above⟩
theorem News.stays {h₀ h h' : Heap} {L : Addr} {news : List (Addr × Obj)} (N : News h₀ L h news) (st : h.StaysIn h') : News h₀ L h' news :=
  fun p hp => ⟨st _ _ (N p hp).1, (N p hp).2⟩
theorem News.made {h₀ h₄ h₅ : Heap} {L : Addr} {m : Str → Option Value} {l : List (Addr × Obj)} (F : Fr h₀ L h₄ m) (hN : ∀ p ∈ l, h₅.get? p.1 = some p.2 ∧ h₄.get? p.1 = none) : News h₀ L h₅ l := fun p hp => by
  have hn := (hN p hp).2
  refine ⟨(hN p hp).1, fun e => ?_, ?_⟩
  · obtain ⟨o, _, _, ho, _⟩ := F.ns
    rw [e] at hn
    rw [hn] at ho; cases ho
  · cases e : h₀.get? p.1 with
    | none => rfl
    | some o => have := F.keep _ _ e; rw [hn] at this; cases this
theorem News.app {h₀ h : Heap} {L : Addr} {l l' : List (Addr × Obj)} (N : News h₀ L h l) (N' : News h₀ L h l') : News h₀ L h (l ++ l') := fun p hp => (List.mem_append.mp hp).elim (N p) (N' p)
theorem tk_any {M : Model} {α : Type} {A : Around} {c : Sem α} {Q : α → Shared → Prop} {E : Value → Shared → Prop} {s₀ s' : Shared} {h : Heap} (H : ∀ tk, wpAny M A c Q E { s₀ with heap := h, toks := tk })
    (e : s' = { s₀ with heap := h, toks := s'.toks } := by rfl) : wpAny M A c Q E s' := by
  rw [e]; exact H _
theorem lim {a k N : Nat} (c : Nat) (h : a + k < N) (hc : c ≤ k := by decide) : a + c < N := Nat.lt_of_le_of_lt (Nat.add_le_add_left hc a) h
theorem limT {a b k N : Nat} (c : Nat) (h : a + b + k < N) (hc : c ≤ k := by decide) : a + c < N := Nat.lt_of_le_of_lt (Nat.add_le_add_left hc a) (Nat.lt_of_le_of_lt (Nat.add_le_add_right (Nat.le_add_right a b) k) h)
theorem all_cons {α : Type} {P : α → Prop} {a : α} {l : List α} (h : P a) (t : ∀ q, q ∈ l → P q) : ∀ q, q ∈ a :: l → P q := fun q hq => by
  rcases List.mem_cons.mp hq with rfl | hq
  · exact h
  · exact t q hq
theorem all_nil {α : Type} {P : α → Prop} : ∀ q, q ∈ ([] : List α) → P q := fun _ h => nomatch h
theorem all_one {α : Type} {P : α → Prop} {a : α} (h : P a) : ∀ q, q ∈ [a] → P q := all_cons h all_nil
theorem nm_cons {b x : Addr} {l : List Addr} (h : b ≠ x) (t : b ∉ l) : b ∉ x :: l := fun m => (List.mem_cons.mp m).elim h t
theorem nm_nil {b : Addr} : b ∉ ([] : List Addr) := fun m => nomatch m
theorem nm_hd {b x : Addr} {l : List Addr} (h : b ∉ x :: l) : b ≠ x := fun e => h (by rw [e]; exact .head _)
theorem nm_tl {b x : Addr} {l : List Addr} (h : b ∉ x :: l) : b ∉ l := fun m => h (.tail _ m)
theorem nm_mid {b z : Addr} (a : List Addr) {c : List Addr} (hb : b ∉ a ++ c) (hz : b ≠ z) : b ∉ a ++ z :: c := fun m => (List.mem_append.mp m).elim (fun q => hb (List.mem_append_left _ q)) fun q => (List.mem_cons.mp q).elim hz fun q => hb (List.mem_append_right _ q)
theorem hk_but {h h' : Heap} {z : Addr} {oz : Obj} (a : List Addr) {c : List Addr} (e : h.get? z = some oz) (e' : h'.get? z = some oz) (hk : ∀ b ob, b ∉ a ++ z :: c → h.get? b = some ob → h'.get? b = some ob) :
    ∀ b ob, b ∉ a ++ c → h.get? b = some ob → h'.get? b = some ob := fun b ob hb q => by
  by_cases hz : b = z
  · subst hz; exact e'.trans (e.symm.trans q)
  · exact hk b ob (nm_mid a hb hz) q
theorem nget {h₀ h : Heap} {L : Addr} {l : List (Addr × Obj)} (N : News h₀ L h l) {a : Addr} {o : Obj} (hm : (a, o) ∈ l) : h.get? a = some o := (N _ hm).1
theorem nne {h₀ h : Heap} {L : Addr} {l : List (Addr × Obj)} (N : News h₀ L h l) {a : Addr} {o : Obj} (hm : (a, o) ∈ l) : a ≠ L := (N _ hm).2.1
theorem nfresh {h₀ h : Heap} {L : Addr} {l : List (Addr × Obj)} (N : News h₀ L h l) {a : Addr} {o : Obj} (hm : (a, o) ∈ l) : h₀.get? a = none := (N _ hm).2.2
theorem cps {P : Prop} (h : ∀ G : Prop, (P → G) → G) : P := h P id
inductive NsOb (h : Heap) (L : Addr) : Prop where
  | mk (o : Obj) (es : Array DictEntry) (n : Nat) (e : h.get? L = some o) (d : o.data = .dict es n)
theorem ns_ob {h : Heap} {L : Addr} {m : Str → Option Value} (x : h.Ns L m) : NsOb h L := by
  obtain ⟨o, es, n, e, d, -⟩ := x
  exact ⟨o, es, n, e, d⟩
noncomputable def Off (pl : List (Addr × Obj)) (bad : List Addr) : Prop := ∀ p ∈ pl, p.1 ∉ bad
noncomputable def Rst (hB h : Heap) (bad : List Addr) (pl : List (Addr × Obj)) : Prop := ∀ h', hB.StaysIn h' → (∀ p ∈ pl, h'.get? p.1 = some p.2) → ∀ b o, b ∉ bad → h.get? b = some o → h'.get? b = some o
noncomputable def RstM (hB h : Heap) (bad : List Addr) (pl : List (Addr × Obj)) : Prop := ∀ b o, b ∉ bad → hB.get? b = none → h.get? b = some o → (b, o) ∈ pl
inductive RestOf (hB h : Heap) (L : Addr) (bad : List Addr) : Prop where
  | mk (pl : List (Addr × Obj)) (N : News hB L h pl) (hpb : Off pl bad) (hpk : Rst hB h bad pl)
inductive RestMem (hB h : Heap) (L : Addr) (bad : List Addr) : Prop where
  | mk (pl : List (Addr × Obj)) (N : News hB L h pl) (hpb : Off pl bad) (hpm : RstM hB h bad pl) (hpk : Rst hB h bad pl)
theorem lt_z {P : Nat → Prop} : ∀ i, i < 0 → P i := fun i hi => absurd hi (Nat.not_lt_zero i)
theorem lt_c {P : Nat → Prop} {n : Nat} (h : P 0) (t : ∀ i, i < n → P (i + 1)) : ∀ i, i < n + 1 → P i := fun i hi => by
  cases i with
  | zero => exact h
  | succ j => exact t j (Nat.lt_of_succ_lt_succ hi)
theorem len3 {α : Type} {l : List α} (h : l.length = 3) : ∃ a b c, l = [a, b, c] := by
  match l, h with
  | [a, b, c], _ => exact ⟨a, b, c, rfl⟩
theorem len_succ {α : Type} {l : List α} {n : Nat} (h : l.length = n + 1) : ∃ a t, l = a :: t ∧ t.length = n := by
  cases l with
  | nil => cases h
  | cons a t => exact ⟨a, t, rfl, Nat.succ.inj h⟩
inductive Cells3 (cells : List (Addr × Obj)) (c₁ c₂ c₃ : Addr) (v₁ v₂ v₃ : Option Value) : Prop where
  | mk (o₁ o₂ o₃ : Obj) (e : cells = [(c₁, o₁), (c₂, o₂), (c₃, o₃)]) (d₁ : o₁.data = .cell v₁) (d₂ : o₂.data = .cell v₂) (d₃ : o₃.data = .cell v₃)
theorem cells3 {cm : Str → Option Value} {n₁ n₂ n₃ : Str} {c₁ c₂ c₃ : Addr} {cells : List (Addr × Obj)} (x : CellsAre cm [(n₁, c₁), (n₂, c₂), (n₃, c₃)] cells) : Cells3 cells c₁ c₂ c₃ (cm n₁) (cm n₂) (cm n₃) := by
  obtain ⟨o1, o2, o3, e, d1, d2, d3⟩ := CellsAre.three x
  exact ⟨o1, o2, o3, e, d1, d2, d3⟩
inductive DictOb {K : Type} [DecidableEq K] {prog : Program} {w : World} (k : KeyKind prog w K) (h : Heap) (d : Addr) (kvs : List (K × Value)) : Prop where
  | mk (o : Obj) (e : h.get? d = some o) (i : o.IsDictOf k kvs)
theorem dict_ob {K : Type} [DecidableEq K] {prog : Program} {w : World} {k : KeyKind prog w K} {h : Heap} {d : Addr} {kvs : List (K × Value)} (x : h.DictOf k d kvs) : DictOb k h d kvs := by
  obtain ⟨o, e, i⟩ := Heap.dictOf_iff.mp x
  exact ⟨o, e, i⟩
theorem ar_step {n i : Nat} (h : i < n) : n + 1 - (i + 1) < n + 1 - i := by omega
theorem ar_sub {n i : Nat} (h : i < n) : n - i = n - (i + 1) + 1 := (Nat.sub_add_cancel (Nat.sub_pos_of_lt h)).symm
theorem ar_pred {n i k : Nat} (h : n - i = k + 1) : n - (i + 1) = k := by rw [← Nat.sub_sub, h]; rfl
theorem ar_neg1 {n : Nat} (h : 0 < n) : (-1 + (n : Int)).toNat = n - 1 := by omega
theorem ar_mod (v : Int) {m : Int} (hm : 0 < m) : v % m = ((v % m).toNat : Int) := (Int.toNat_of_nonneg (Int.emod_nonneg v (Int.ne_of_gt hm))).symm
theorem ar_modlt (v : Int) {m : Nat} (hm : 0 < m) : (v % (m : Int)).toNat < m := by
  have := Int.emod_lt_of_pos v (Int.natCast_pos.mpr hm)
  have h2 := Int.emod_nonneg v (Int.ne_of_gt (Int.natCast_pos.mpr hm))
  omega
theorem or3 : ∀ j, j < 3 → j = 0 ∨ j = 1 ∨ j = 2 := by decide
theorem or4 : ∀ j, j < 4 → j = 0 ∨ j = 1 ∨ j = 2 ∨ j = 3 := by decide
theorem or5 : ∀ j, j < 5 → j = 0 ∨ j = 1 ∨ j = 2 ∨ j = 3 ∨ j = 4 := by decide
theorem list_some {h : Heap} {l : Addr} {items : Array Value} (x : h.IsList l items) : ∃ o, h.get? l = some o := by
  obtain ⟨o, e, -⟩ := x
  exact ⟨o, e⟩
inductive DictP {K : Type} [DecidableEq K] {prog : Program} {w : World} (k : KeyKind prog w K) (h : Heap) (d : Addr) (kvs : List (K × Value)) : Prop where
  | mk (o : Obj) (es : Array DictEntry) (ep : Nat) (ho : h.get? d = some o) (hc : o.ExactDict) (hd : o.data = .dict es ep) (hk : KeysOf k es) (hp : Pairs k es.toList kvs) (hn : (kvs.map (·.1)).Nodup)
theorem dict_parts {K : Type} [DecidableEq K] {prog : Program} {w : World} {k : KeyKind prog w K} {h : Heap} {d : Addr} {kvs : List (K × Value)} (x : h.DictOf k d kvs) : DictP k h d kvs := by
  obtain ⟨o, es, ep, ho, hc, hd, hk, hp, hn⟩ := x
  exact ⟨o, es, ep, ho, hc, hd, hk, hp, hn⟩
end Mine
end
section
open PySem PySem.W PyProof.Rows
namespace Mine
noncomputable abbrev chr (c : Nat) : Str := ⟨#[c]⟩
noncomputable abbrev wd (l : List Nat) : Str := ⟨l.toArray⟩
inductive Gap where
  | leaf
  | fork (c : Nat) (l m r : Gap)
noncomputable def Gap.word : Gap → List Nat
  | .leaf => []
  | .fork c l m r => l.word ++ c :: (m.word ++ c :: r.word)
noncomputable def Gap.high : Gap → Nat
  | .leaf => 0
  | .fork _ l m r => 1 + max l.high (max m.high r.high)
noncomputable def Gap.size : Gap → Nat
  | .leaf => 0
  | .fork _ l m r => 1 + l.size + m.size + r.size
theorem Gap.word_length (t : Gap) : t.word.length = 2 * t.size := by
  induction t with
  | leaf => rfl
  | fork c l m r il im ir => simp only [Gap.word, Gap.size, List.length_append, List.length_cons, il, im, ir]; omega
theorem wd_length (l : List Nat) : (wd l).length = l.length := by simp [Str.length]
theorem wd_append (a b : List Nat) : wd a ++ wd b = wd (a ++ b) := by
  apply Str.ext'
  simp [Str.cps_append]
theorem chr_wd (c : Nat) : chr c = wd [c] := rfl
noncomputable def AttrAt (P : Params) (h : Heap) (d : Addr) (i : Int) (c : Nat) : Prop :=
  (d == sysModules) = false ∧ ∃ n t1 t2 t3 t4, h.get? d = some ⟨.type "dict", none, .dict #[⟨PyData.keyHash P (Str.ofString "limb"), .str (Str.ofString "limb") t1, .int i t2⟩, ⟨PyData.keyHash P (Str.ofString "letter"), .str (Str.ofString "letter") t3, .str (chr c) t4⟩] n, #[]⟩
inductive TreeH (P : Params) (h : Heap) : Addr → Gap → Prop where
  | leaf {g : Addr} : h.IsList g #[] → TreeH P h g .leaf
  | fork {g l₀ l₁ l₂ d₀ d₁ d₂ g₀ g₁ g₂ : Addr} {c : Nat} {t₀ t₁ t₂ : Tok} {a b e : Gap} : h.IsList g #[.ref l₀, .ref l₁, .ref l₂] →
      h.IsList l₀ #[.str (chr c) t₀, .ref d₀, .ref g₀] → h.IsList l₁ #[.str (chr c) t₁, .ref d₁, .ref g₁] → h.IsList l₂ #[.str (chr c) t₂, .ref d₂, .ref g₂] →
      AttrAt P h d₀ 0 c → AttrAt P h d₁ 1 c → AttrAt P h d₂ 2 c →
      TreeH P h g₀ a → TreeH P h g₁ b → TreeH P h g₂ e → TreeH P h g (.fork c a b e)
theorem AttrAt.keeps {P : Params} {h h' : Heap} {d : Addr} {i : Int} {c : Nat} (x : AttrAt P h d i c) (st : h.StaysIn h') : AttrAt P h' d i c :=
  let ⟨q, n, t1, t2, t3, t4, e⟩ := x; ⟨q, n, t1, t2, t3, t4, st _ _ e⟩
theorem isList_keeps {h h' : Heap} {l : Addr} {items : Array Value} (x : h.IsList l items) (st : h.StaysIn h') : h'.IsList l items := let ⟨o, ho, r⟩ := x; ⟨o, st l o ho, r⟩
theorem TreeH.keeps {P : Params} {h h' : Heap} {g : Addr} {t : Gap} (x : TreeH P h g t) (st : h.StaysIn h') : TreeH P h' g t := by
  induction x with
  | leaf e => exact .leaf (isList_keeps e st)
  | fork e e0 e1 e2 a0 a1 a2 _ _ _ i0 i1 i2 => exact .fork (isList_keeps e st) (isList_keeps e0 st) (isList_keeps e1 st) (isList_keeps e2 st) (a0.keeps st) (a1.keeps st) (a2.keeps st) i0 i1 i2
inductive LimbAt (P : Params) (h : Heap) (v : Value) (i c : Nat) (t : Gap) : Prop where
  | mk (l d g : Addr) (tk : Tok) (c0 : v = .ref l) (c1 : h.IsList l #[.str (chr c) tk, .ref d, .ref g]) (c2 : AttrAt P h d i c) (c3 : TreeH P h g t)
noncomputable def Gap.kids : Gap → List Gap
  | .leaf => []
  | .fork _ l m r => [l, m, r]
noncomputable def Gap.letter : Gap → Nat
  | .leaf => 0
  | .fork c _ _ _ => c
inductive Limbs (P : Params) (h : Heap) (g : Addr) (t : Gap) : Prop where
  | mk (vs : List Value) (c0 : h.IsList g vs.toArray) (c1 : vs.length = t.kids.length) (c2 : ∀ (i : Nat) (v : Value) (k : Gap), vs[i]? = some v → t.kids[i]? = some k → LimbAt P h v i t.letter k)
theorem TreeH.limbs {P : Params} {h : Heap} {g : Addr} {t : Gap} (x : TreeH P h g t) :
    Limbs P h g t := by
  cases x with
  | leaf e => exact ⟨[], e, rfl, fun i v k h => by simp at h⟩
  | @fork g l₀ l₁ l₂ d₀ d₁ d₂ g₀ g₁ g₂ c t₀ t₁ t₂ a b e hg h0 h1 h2 a0 a1 a2 x0 x1 x2 =>
    refine ⟨[.ref l₀, .ref l₁, .ref l₂], hg, rfl, fun i v k hv hk => ?_⟩
    match i, hv, hk with
    | 0, hv, hk => simp [Gap.kids] at hv hk; subst hv hk; exact ⟨_, _, _, _, rfl, h0, a0, x0⟩
    | 1, hv, hk => simp [Gap.kids] at hv hk; subst hv hk; exact ⟨_, _, _, _, rfl, h1, a1, x1⟩
    | 2, hv, hk => simp [Gap.kids] at hv hk; subst hv hk; exact ⟨_, _, _, _, rfl, h2, a2, x2⟩
    | i + 3, hv, hk => simp at hv
theorem Gap.kid_high {t k : Gap} (h : k ∈ t.kids) : k.high + 1 ≤ t.high := by
  cases t with
  | leaf => simp [Gap.kids] at h
  | fork c l m r =>
    simp only [Gap.kids, List.mem_cons, List.mem_nil_iff, or_false] at h
    have a1 : l.high ≤ max l.high (max m.high r.high) := Nat.le_max_left _ _
    have a2 : m.high ≤ max l.high (max m.high r.high) := Nat.le_trans (Nat.le_max_left _ _) (Nat.le_max_right _ _)
    have a3 : r.high ≤ max l.high (max m.high r.high) := Nat.le_trans (Nat.le_max_right _ _) (Nat.le_max_right _ _)
    show k.high + 1 ≤ 1 + _
    rw [Nat.add_comm]
    exact Nat.add_le_add_left (h.elim (fun e => e ▸ a1) fun h => h.elim (fun e => e ▸ a2) fun e => e ▸ a3) 1
theorem Gap.kid_size {t k : Gap} (h : k ∈ t.kids) : k.size + 1 ≤ t.size := by
  cases t with
  | leaf => simp [Gap.kids] at h
  | fork c l m r =>
    simp only [Gap.kids, List.mem_cons, List.mem_nil_iff, or_false] at h
    show k.size + 1 ≤ 1 + l.size + m.size + r.size
    rw [Nat.add_comm, Nat.add_assoc 1, Nat.add_assoc 1]
    have a1 : l.size ≤ l.size + m.size + r.size := Nat.le_trans (Nat.le_add_right _ _) (Nat.le_add_right _ _)
    have a2 : m.size ≤ l.size + m.size + r.size := Nat.le_trans (Nat.le_add_left _ _) (Nat.le_add_right _ _)
    have a3 : r.size ≤ l.size + m.size + r.size := Nat.le_add_left _ _
    exact Nat.add_le_add_left (h.elim (fun e => e ▸ a1) fun h => h.elim (fun e => e ▸ a2) fun e => e ▸ a3) 1
theorem hi_lt {dp N : Nat} {t k : Gap} (hk : k ∈ t.kids) (h : dp + t.high < N) : dp + 1 + k.high < N := by
  rw [Nat.add_assoc, Nat.add_comm 1]
  exact Nat.lt_of_le_of_lt (Nat.add_le_add_left (Gap.kid_high hk) dp) h
theorem sz_le {n : Nat} {t k : Gap} (hk : k ∈ t.kids) (h : t.size ≤ n) : k.size ≤ n := Nat.le_trans (Nat.le_of_succ_le (Gap.kid_size hk)) h
end Mine
end
section
open PySem PySem.W PyProof.Rows PySem.Spec
namespace Mine
section
variable {prog : Program} {w : World} {A : Around} {E : Value → Shared → Prop} {s : Shared} {env : Env} {h₀ : Heap} {x : Str} {body : List Stmt} {Q : Flow → Shared → Prop}
inductive TurnEndN (h₀ : Heap) (L : Addr) (keep : List (Addr × Obj)) (J : (Str → Option Value) → Prop) (s₁ : Shared) (s₂ : Shared) : Prop where
  | mk (h' : Heap) (tk : Nat) (m' : Str → Option Value) (c0 : s₂ = { s₁ with heap := h', toks := tk }) (c1 : Fr h₀ L h' m') (c2 : News h₀ L h' keep) (c3 : J m')
noncomputable def TurnEnd (h₀ : Heap) (L : Addr) (keep : List (Addr × Obj)) (J : (Str → Option Value) → Prop) (s₁ : Shared) (Q : Flow → Shared → Prop) (f : Flow) (s₂ : Shared) : Prop :=
  match f with
  | .ret v => Q (.ret v) s₂
  | .brk => Q .next s₂
  | _ => TurnEndN h₀ L keep J s₁ s₂
theorem loop_mk {it : Value} {s₂ : Shared} (I : Addr) (fp wr : List Addr) (n : Nat) (P : Nat → Value → Prop) (St : Nat → Heap → Prop) (m : Str → Option Value) (news : List (Addr × Obj)) (J : Nat → (Str → Option Value) → List (Addr × Obj) → Prop)
    (c0 : it = .ref I) (c1 : Walks prog w A I fp wr n P St) (c2 : env.locals ∉ fp) (c3 : ∀ b ∈ wr, h₀.get? b = none) (c4 : ∀ p ∈ news, p.1 ∉ wr) (c5 : St 0 s₂.heap) (c6 : Fr h₀ env.locals s₂.heap m) (c7 : News h₀ env.locals s₂.heap news) (c8 : J 0 m news)
    (c9 : ∀ i v m₁ news₁ s₁ own, (∃ h tk, s₁ = { s₂ with heap := h, toks := tk }) → i < n → P i v → J i m₁ news₁ → (∀ p ∈ news₁, p.1 ∉ wr) → (∀ p ∈ own, p.1 ∈ fp) → (∀ p ∈ own, s₁.heap.get? p.1 = some p.2) → (∀ b ∈ fp, h₀.get? b = none → ∀ o, s₁.heap.get? b = some o → (b, o) ∈ own) → St (i + 1) s₁.heap →
      Fr h₀ env.locals s₁.heap (fun y => if y = x then some v else m₁ y) → News h₀ env.locals s₁.heap (own ++ news₁) →
      wpAny (model prog w) A (execs body env) (LoopStepV h₀ env.locals wr own (J (i + 1)) s₁ (fun v s' => Q (.ret v) s') fun s' => Q .next s') E s₁)
    (c10 : ∀ h' tk m' news', Fr h₀ env.locals h' m' → News h₀ env.locals h' news' → (∀ p ∈ news', p.1 ∉ wr) → J n m' news' → Q .next { s₂ with heap := h', toks := tk }) :
    LoopAtV prog w A h₀ env x body Q E it s₂ := ⟨I, fp, wr, n, P, St, m, news, J, c0, c1, c2, c3, c4, c5, c6, c7, c8, c9, c10⟩
theorem loop_keep {It : Addr} {fp wr : List Addr} {n : Nat} {P : Nat → Value → Prop} {St : Nat → Heap → Prop} {m₀ : Str → Option Value} {news : List (Addr × Obj)} (J : Nat → (Str → Option Value) → Prop)
    (W : Walks prog w A It fp wr n P St) (hLf : env.locals ∉ fp) (hwr : ∀ b ∈ wr, h₀.get? b = none) (hnw : ∀ p ∈ news, p.1 ∉ wr) (hst : St 0 s.heap)
    (F : Fr h₀ env.locals s.heap m₀) (N : News h₀ env.locals s.heap news) (hj : J 0 m₀)
    (turn : ∀ i v m₁ h tk own, i < n → P i v → J i m₁ → Fr h₀ env.locals h (fun y => if y = x then some v else m₁ y) → News h₀ env.locals h (news ++ own) →
      wpAny (model prog w) A (execs body env) (TurnEnd h₀ env.locals (news ++ own) (J (i + 1)) { s with heap := h, toks := tk } Q) E { s with heap := h, toks := tk })
    (done : ∀ m₁ h tk, J n m₁ → Fr h₀ env.locals h m₁ → News h₀ env.locals h news → Q .next { s with heap := h, toks := tk }) :
    LoopAtV prog w A h₀ env x body Q E (.ref It) s := by
  let J' : Nat → (Str → Option Value) → List (Addr × Obj) → Prop := fun i m₁ news₁ => news₁ = news ∧ J i m₁
  refine loop_mk It fp wr n P St m₀ news J' rfl W hLf hwr hnw hst F N ⟨rfl, hj⟩ ?_ ?_
  · rintro i v m₁ news₁ s₁ own ⟨hh', tk', rfl⟩ hin hP ⟨rfl, hJ⟩ hoff hown _ _ _ F₁ N₁
    have N₂ : News h₀ env.locals hh' (news₁ ++ own) := fun p hp => N₁ p (List.mem_append.mpr ((List.mem_append.mp hp).symm))
    refine wpAny_mono (turn i v m₁ hh' tk' own hin hP hJ F₁ N₂) (fun f s₂ p => ?_) fun _ _ e => e
    have fin : TurnEndN h₀ env.locals (news₁ ++ own) (J (i + 1)) { s with heap := hh', toks := tk' } s₂ →
        LoopStepU h₀ env.locals wr own (J' (i + 1)) { s with heap := hh', toks := tk' } .next s₂ := by
      rintro ⟨h', tk, m', e, F', N', hm⟩
      exact ⟨rfl, h', tk, m', news₁, e, F', fun p hp => N' p (List.mem_append.mpr ((List.mem_append.mp hp).symm)), hoff, rfl, hm⟩
    cases f with
    | ret v => exact .ret p
    | brk => exact .brk p
    | next => exact .next (fin p)
    | cont => exact .cont (fin p)
  · rintro h' tk m' news' F' N' _ ⟨rfl, hJ⟩
    exact done m' h' tk hJ F' N'
theorem loop_list {l : Addr} {vs : List Value} {m₀ : Str → Option Value} {news : List (Addr × Obj)} (J : Nat → (Str → Option Value) → Prop)
    (hh : A.handled = none) (hl : s.heap.IsList l vs.toArray) (hlL : l ≠ env.locals)
    (F : Fr h₀ env.locals s.heap m₀) (N : News h₀ env.locals s.heap news) (hj : J 0 m₀)
    (turn : ∀ i v m₁ h tk own, vs[i]? = some v → J i m₁ → Fr h₀ env.locals h (fun y => if y = x then some v else m₁ y) → News h₀ env.locals h (news ++ own) →
      wpAny (model prog w) A (execs body env) (TurnEnd h₀ env.locals (news ++ own) (J (i + 1)) { s with heap := h, toks := tk } Q) E { s with heap := h, toks := tk })
    (done : ∀ m₁ h tk, J vs.length m₁ → Fr h₀ env.locals h m₁ → News h₀ env.locals h news → Q .next { s with heap := h, toks := tk }) :
    wpAny (model prog w) A (pyIter (.ref l)) (fun it s₂ => LoopAtV prog w A h₀ env x body Q E it s₂) E s := by
  obtain ⟨ol, hol⟩ := list_some hl
  have hne : l ≠ s.heap.objs.size := Nat.ne_of_lt (Heap.lt_size hol)
  refine wpAny_pyIter_list hl ?_
  have W := Walks.list (prog := prog) (w := w) hh s.heap.objs.size l hne vs.toArray
  refine loop_keep (s := { s with heap := s.heap.push _ }) (n := vs.toArray.size) J W ?_ ?_ ?_ ⟨⟨_, Heap.get?_push_size _ rfl, rfl, rfl⟩, hl.at fun o e => Heap.get?_push_of_some _ e⟩ (F.push _)
    (fun p hp => ⟨Heap.get?_push_of_some _ (N p hp).1, (N p hp).2⟩) hj ?_ ?_
  · intro hm
    rcases List.mem_cons.mp hm with e | hm
    · exact absurd F.ns.lt (e ▸ Nat.lt_irrefl _)
    · exact hlL (List.mem_singleton.mp hm).symm
  · intro b hb
    rw [List.mem_singleton.mp hb]
    exact next_is_new F
  · intro p hp hI
    exact absurd (Heap.lt_size (N p hp).1) ((List.mem_singleton.mp hI) ▸ Nat.lt_irrefl _)
  · intro i v m₁ h tk own _ hP hJ F₁ N₁
    exact turn i v m₁ h tk own (by simpa using hP) hJ F₁ N₁
  · intro m₁ h tk hJ F₁ N₁
    exact done m₁ h tk (by simpa using hJ) F₁ N₁
inductive TurnEndUN (h₀ : Heap) (L : Addr) (own : List (Addr × Obj)) (adr : List Addr) (J : (Str → Option Value) → List (Addr × Obj) → Prop) (s₁ : Shared) (s₂ : Shared) : Prop where
  | mk (h' : Heap) (tk : Nat) (m' : Str → Option Value) (news₂ : List (Addr × Obj)) (c0 : s₂ = { s₁ with heap := h', toks := tk }) (c1 : Fr h₀ L h' m') (c2 : News h₀ L h' (news₂ ++ own)) (c3 : news₂.map (·.1) = adr) (c4 : J m' news₂)
noncomputable def TurnEndU (h₀ : Heap) (L : Addr) (own : List (Addr × Obj)) (adr : List Addr) (J : (Str → Option Value) → List (Addr × Obj) → Prop) (s₁ : Shared) (Q : Flow → Shared → Prop) (f : Flow) (s₂ : Shared) : Prop :=
  match f with
  | .ret v => Q (.ret v) s₂
  | .brk => Q .next s₂
  | _ => TurnEndUN h₀ L own adr J s₁ s₂
theorem loop_upd {It : Addr} {fp wr : List Addr} {n : Nat} {P : Nat → Value → Prop} {St : Nat → Heap → Prop} {m₀ : Str → Option Value} {news : List (Addr × Obj)} (J : Nat → (Str → Option Value) → List (Addr × Obj) → Prop)
    (W : Walks prog w A It fp wr n P St) (hLf : env.locals ∉ fp) (hwr : ∀ b ∈ wr, h₀.get? b = none) (hnw : ∀ p ∈ news, p.1 ∉ wr) (hst : St 0 s.heap)
    (F : Fr h₀ env.locals s.heap m₀) (N : News h₀ env.locals s.heap news) (hj : J 0 m₀ news)
    (turn : ∀ i v m₁ news₁ h tk own, i < n → P i v → news₁.map (·.1) = news.map (·.1) → (∀ p ∈ own, p.1 ∈ fp) → J i m₁ news₁ → Fr h₀ env.locals h (fun y => if y = x then some v else m₁ y) → News h₀ env.locals h (news₁ ++ own) →
      wpAny (model prog w) A (execs body env) (TurnEndU h₀ env.locals own (news.map (·.1)) (J (i + 1)) { s with heap := h, toks := tk } Q) E { s with heap := h, toks := tk })
    (done : ∀ m₁ news₁ h tk, J n m₁ news₁ → Fr h₀ env.locals h m₁ → News h₀ env.locals h news₁ → Q .next { s with heap := h, toks := tk }) :
    LoopAtV prog w A h₀ env x body Q E (.ref It) s := by
  have off : ∀ {l : List (Addr × Obj)}, l.map (·.1) = news.map (·.1) → ∀ p ∈ l, p.1 ∉ wr := by
    intro l e p hp hw
    have : p.1 ∈ news.map (·.1) := e ▸ List.mem_map_of_mem hp
    obtain ⟨q, hq, hqe⟩ := List.mem_map.mp this
    exact hnw q hq (hqe ▸ hw)
  refine loop_mk It fp wr n P St m₀ news (fun i m₁ news₁ => news₁.map (·.1) = news.map (·.1) ∧ J i m₁ news₁) rfl W hLf hwr hnw hst F N ⟨rfl, hj⟩ ?_ ?_
  · rintro i v m₁ news₁ s₁ own ⟨hh', tk', rfl⟩ hin hP ⟨hadr, hJ⟩ _ hown _ _ _ F₁ N₁
    have N₂ : News h₀ env.locals hh' (news₁ ++ own) := fun p hp => N₁ p (List.mem_append.mpr ((List.mem_append.mp hp).symm))
    refine wpAny_mono (turn i v m₁ news₁ hh' tk' own hin hP hadr hown hJ F₁ N₂) (fun f s₂ p => ?_) fun _ _ e => e
    have fin : TurnEndUN h₀ env.locals own (news.map (·.1)) (J (i + 1)) { s with heap := hh', toks := tk' } s₂ →
        LoopStepU h₀ env.locals wr own (fun m₁ news₁ => news₁.map (·.1) = news.map (·.1) ∧ J (i + 1) m₁ news₁) { s with heap := hh', toks := tk' } .next s₂ := by
      rintro ⟨h', tk, m', news₂, e, F', N', ha, hm⟩
      exact ⟨rfl, h', tk, m', news₂, e, F', fun p hp => N' p (List.mem_append.mpr ((List.mem_append.mp hp).symm)), off ha, ha, hm⟩
    cases f with
    | ret v => exact .ret p
    | brk => exact .brk p
    | next => exact .next (fin p)
    | cont => exact .cont (fin p)
  · rintro h' tk m' news' F' N' _ ⟨_, hJ⟩
    exact done m' news' h' tk hJ F' N'
theorem loop_list_upd {l : Addr} {vs : List Value} {m₀ : Str → Option Value} {news : List (Addr × Obj)} (J : Nat → (Str → Option Value) → List (Addr × Obj) → Prop)
    (hh : A.handled = none) (hl : h₀.IsList l vs.toArray)
    (F : Fr h₀ env.locals s.heap m₀) (N : News h₀ env.locals s.heap news) (hj : J 0 m₀ news)
    (turn : ∀ i v m₁ news₁ h tk own, vs[i]? = some v → news₁.map (·.1) = news.map (·.1) → (∀ p ∈ own, ∀ q ∈ news₁, p.1 ≠ q.1) → J i m₁ news₁ → Fr h₀ env.locals h (fun y => if y = x then some v else m₁ y) → News h₀ env.locals h (news₁ ++ own) →
      wpAny (model prog w) A (execs body env) (TurnEndU h₀ env.locals own (news.map (·.1)) (J (i + 1)) { s with heap := h, toks := tk } Q) E { s with heap := h, toks := tk })
    (done : ∀ m₁ news₁ h tk, J vs.length m₁ news₁ → Fr h₀ env.locals h m₁ → News h₀ env.locals h news₁ → Q .next { s with heap := h, toks := tk }) :
    wpAny (model prog w) A (pyIter (.ref l)) (fun it s₂ => LoopAtV prog w A h₀ env x body Q E it s₂) E s := by
  obtain ⟨ol, hol⟩ := list_some hl
  have hlt : l < h₀.objs.size := Heap.lt_size hol
  have hls : s.heap.IsList l vs.toArray := hl.at fun o e => F.keep l o e
  have hne : l ≠ s.heap.objs.size := Nat.ne_of_lt (Nat.lt_trans (Nat.lt_of_lt_of_le hlt F.above) F.ns.lt)
  refine wpAny_pyIter_list hls ?_
  have W := Walks.list (prog := prog) (w := w) hh s.heap.objs.size l hne vs.toArray
  refine loop_upd (s := { s with heap := s.heap.push _ }) (n := vs.toArray.size) J W ?_ ?_ ?_ ⟨⟨_, Heap.get?_push_size _ rfl, rfl, rfl⟩, hls.at fun o e => Heap.get?_push_of_some _ e⟩ (F.push _)
    (fun p hp => ⟨Heap.get?_push_of_some _ (N p hp).1, (N p hp).2⟩) hj ?_ ?_
  · intro hm
    rcases List.mem_cons.mp hm with e | hm
    · exact absurd F.ns.lt (e ▸ Nat.lt_irrefl _)
    · exact absurd (Nat.lt_of_lt_of_le hlt F.above) ((List.mem_singleton.mp hm) ▸ Nat.lt_irrefl _)
  · intro b hb
    rw [List.mem_singleton.mp hb]
    exact next_is_new F
  · intro p hp hI
    exact absurd (Heap.lt_size (N p hp).1) ((List.mem_singleton.mp hI) ▸ Nat.lt_irrefl _)
  · intro i v m₁ news₁ h tk own _ hP hadr hown hJ F₁ N₁
    refine turn i v m₁ news₁ h tk own (by simpa using hP) hadr (fun p hp q hq e => ?_) hJ F₁ N₁
    have hq' : q.1 ∈ news.map (·.1) := hadr ▸ List.mem_map_of_mem hq
    obtain ⟨r, hr, hre⟩ := List.mem_map.mp hq'
    rcases List.mem_cons.mp (hown p hp) with h1 | h1
    · exact absurd (Heap.lt_size (N r hr).1) (by rw [hre, ← e, h1]; exact Nat.lt_irrefl _)
    · have h2 := List.mem_singleton.mp h1
      have h3 := (N r hr).2.2
      rw [hre, ← e, h2, hol] at h3
      cases h3
  · intro m₁ news₁ h tk hJ F₁ N₁
    exact done m₁ news₁ h tk (by simpa using hJ) F₁ N₁
end
end Mine
end
section
open PySem PySem.W PyProof.Rows PySem.Spec
namespace Mine
noncomputable def fnBody (n : Nat) : List Stmt := match (PySem.Challenge.pw_wr0012_01.main.body.drop n) with
  | .FunctionDef _ _ b _ _ _ _ _ _ _ :: _ => b
  | _ => []
noncomputable def fnScope (n : Nat) : Scope := match (PySem.Challenge.pw_wr0012_01.main.body.drop n) with
  | .FunctionDef _ _ _ _ _ _ sc _ _ _ :: _ => sc
  | _ => default
noncomputable def fnName (n : Nat) : Str := match (PySem.Challenge.pw_wr0012_01.main.body.drop n) with
  | .FunctionDef nm _ _ _ _ _ _ _ _ _ :: _ => nm
  | _ => default
structure Hold (P : Prop) : Prop where
  intro ::
  out : P
theorem execs_cut {M : Model} {A : Around} {E : Value → Shared → Prop} {s : Shared} {env : Env} {R : Flow → Shared → Prop} {st : Stmt} {rest : List Stmt} (Mid : Shared → Prop)
    (h1 : wpAny M A (PySem.exec st env) (fun f s' => match f with | .next => Hold (Mid s') | f => R f s') E s) (h2 : ∀ s', Mid s' → wpAny M A (execs rest env) R E s') : wpAny M A (execs (st :: rest) env) R E s := by
  refine wpAny_execs_cons (wpAny_mono h1 (fun f s' h => ?_) fun _ _ e => e)
  cases f with
  | next => exact h2 s' h.out
  | _ => exact h
theorem wp_execs_cut {M : Model} {Γ : PySem.Ctx} {E : Value → Pos → Shared → Prop} {env : Env} {R : Flow → Pos → Shared → Prop} : ∀ (n : Nat) (l : List Stmt) (p : Pos) (s : Shared),
    Sem.wp M Γ (execs (l.take n) env) (fun f p' s' => match f with | .next => Sem.wp M Γ (execs (l.drop n) env) R E p' s' | f => R f p' s') E p s → Sem.wp M Γ (execs l env) R E p s
  | 0, l, p, s, h => by
    rw [List.take_zero, execs_nil] at h
    exact h
  | n + 1, [], p, s, h => by
    rw [List.take_nil, execs_nil] at h
    exact h
  | n + 1, st :: l, p, s, h => by
    rw [List.take_succ_cons, execs_cons, Sem.wp_bind'] at h
    rw [execs_cons, Sem.wp_bind']
    refine Sem.wp_mono M Γ _ (fun f p' s' h => ?_) (fun _ _ _ e => e) _ _ h
    cases f with
    | next => exact wp_execs_cut n l p' s' h
    | _ => exact h
theorem execs_cut_at {M : Model} {A : Around} {E : Value → Shared → Prop} {env : Env} {R : Flow → Shared → Prop} (n : Nat) {l : List Stmt} {s : Shared} (Mid : Shared → Prop)
    (h1 : wpAny M A (execs (l.take n) env) (fun f s' => match f with | .next => Hold (Mid s') | f => R f s') E s) (h2 : ∀ s', Mid s' → wpAny M A (execs (l.drop n) env) R E s') : wpAny M A (execs l env) R E s := by
  intro Γ p hΓ
  refine wp_execs_cut n l p s (Sem.wp_mono M Γ _ (fun f p' s' h => ?_) (fun _ _ _ e => e) _ _ (h1 Γ p hΓ))
  cases f with
  | next => exact h2 s' h.out Γ p' hΓ
  | _ => exact h
noncomputable abbrev over (bs : List (Str × Value)) (m : Str → Option Value) : Str → Option Value := fun z => match bs.lookup z with | some v => some v | none => m z
@[reducible] def Says (m : Str → Option Value) : List (Str × Value) → Prop
  | [] => True
  | b :: r => m b.1 = some b.2 ∧ Says m r
theorem Says.all {m : Str → Option Value} {bs : List (Str × Value)} : Says m bs → ∀ b ∈ bs, m b.1 = some b.2 := by
  induction bs with
  | nil => exact fun _ => all_nil
  | cons b0 bs ih => exact fun h => all_cons h.1 (ih h.2)
theorem Fr.over {h₀ h : Heap} {L : Addr} {m : Str → Option Value} (F : Fr h₀ L h m) (bs : List (Str × Value)) (e : Says m bs) : Fr h₀ L h (over bs m) := by
  have : Mine.over bs m = m := by
    funext z
    unfold Mine.over
    split
    · rename_i v h
      exact (e.all _ (mem_of_lookup h)).symm
    · rfl
  rw [this]; exact F
end Mine
end
section
open PySem PySem.W PyProof.Rows PySem.Spec
namespace Mine
section
variable {prog : Program} {w : World} {A : Around} {s : Shared} {env : Env}
noncomputable abbrev lst (vs : List Value) (n : Nat) : Obj := { cls := .type "list", data := .seq vs.toArray n }
noncomputable def PlainOb (ob : Obj) : Prop := (∀ ps, ob ≠ tabObj ps) ∧ ∀ vs q t, ob.data = .fields vs → vs[1]? ≠ .some (.str q t)
theorem plain_lst (vs : List Value) (n : Nat) : PlainOb (lst vs n) := ⟨fun ps e => (by have := congrArg Obj.cls e; cases this), fun vs q t e => (by cases e)⟩
theorem plain_dict {ob : Obj} {es : Array DictEntry} {n : Nat} (h : ob.data = .dict es n) : PlainOb ob := ⟨fun ps e => (by rw [e] at h; cases h), fun vs q t e => (by rw [h] at e; cases e)⟩
inductive CompInv (hB : Heap) (C D : Addr) (wr : List Addr) (n : Nat) (St : Nat → Heap → Prop) (J : Nat → List Value → List (Addr × Obj) → Prop) (s₂ : Shared) (k : Nat) (s' : Shared) : Prop where
  | mk (i : Nat) (h' : Heap) (tk : Nat) (m : Str → Option Value) (ys : List Value) (ep : Nat) (news : List (Addr × Obj)) (c0 : s' = { s₂ with heap := h', toks := tk }) (c1 : i ≤ n) (c2 : k = n + 1 - i) (c3 : St i h') (c4 : Fr hB C h' m) (c5 : News hB C h' ((D, lst ys ep) :: news)) (c6 : (∀ p ∈ news, p.1 ≠ D ∧ p.1 ∉ wr)) (c7 : ys.length = i) (c8 : J i ys news)
inductive EltEnd (hB : Heap) (C D : Addr) (wr : List Addr) (ys : List Value) (ep : Nat) (own : List (Addr × Obj)) (J : List Value → List (Addr × Obj) → Prop) (s₃ : Shared) (y : Value) (s₄ : Shared) : Prop where
  | mk (h' : Heap) (tk : Nat) (m : Str → Option Value) (news' : List (Addr × Obj)) (c0 : s₄ = { s₃ with heap := h', toks := tk }) (c1 : Fr hB C h' m) (c2 : News hB C h' ((D, lst ys ep) :: (news' ++ own))) (c3 : (∀ p ∈ news', p.1 ≠ D ∧ p.1 ∉ wr)) (c4 : J (ys ++ [y]) news')
theorem comp_loop {elt iter : Expr} {x : Str} {px : Pos} {scope : Scope} {pos : Pos} {It C D : Addr} {fp wr : List Addr} {n : Nat} {P : Nat → Value → Prop} {St : Nat → Heap → Prop} {cenv : Env} {hB : Heap} {m : Str → Option Value} {news : List (Addr × Obj)} {R : Result → Shared → Prop}
    (J : Nat → List Value → List (Addr × Obj) → Prop) (W : Walks prog w A It fp wr n P St) (hx : cenv.kindOf x = some .local) (hp : (cenv.scope.kind == .class || (cenv.scope.kind == .module && cenv.locals != cenv.globals)) = false) (hC : cenv.locals = C)
    (hCf : C ∉ fp) (hDf : D ∉ fp) (hwr : ∀ b ∈ wr, hB.get? b = none) (hst : St 0 s.heap) (F : Fr hB C s.heap m) (N : News hB C s.heap ((D, lst [] 0) :: news)) (hnw : ∀ p ∈ news, p.1 ≠ D ∧ p.1 ∉ wr) (hj : J 0 [] news) (hn : n ≤ 1000) (hSw : ∀ i h, St i h → ∀ b ∈ wr, ∃ o, h.get? b = some o ∧ PlainOb o)
    (helt : ∀ (i : Nat) (v : Value) (m₁ : Str → Option Value) (ys : List Value) (ep : Nat) (news₁ own : List (Addr × Obj)) (h : Heap) (tk : Nat), i < n → P i v → J i ys news₁ → ys.length = i → (∀ p ∈ own, p.1 ∈ fp) → (∀ p ∈ news₁, p.1 ≠ D ∧ p.1 ∉ wr) → (∀ b ∈ wr, ∃ o, h.get? b = some o ∧ PlainOb o) → Fr hB C h (fun y => if y = x then some v else m₁ y) → News hB C h ((D, lst ys ep) :: (news₁ ++ own)) →
      wpAny (model prog w) A (eval elt cenv) (EltEnd hB C D wr ys ep own (J (i + 1)) { s with heap := h, toks := tk }) (fun _ _ => False) { s with heap := h, toks := tk })
    (hR : ∀ h' tk m' ys ep news', Fr hB C h' m' → News hB C h' ((D, lst ys ep) :: news') → ys.length = n → J n ys news' → R (.ok .next) { s with heap := h', toks := tk }) :
    codeAny (model prog w) A (.compLoop (.ListComp elt [⟨.Name x px, iter, [], 0⟩] scope pos) 0 (.ref It) (.ref D) cenv) R s := by
  subst hC
  refine codeAny_compLoop_list (CompInv hB cenv.locals D wr n St J s) ?_ (n + 1) ⟨0, s.heap, s.toks, m, [], 0, news, rfl, Nat.zero_le _, rfl, hst, F, N, hnw, rfl, hj⟩
  rintro k s' ⟨i, h', tk, m', ys, ep, news', rfl, hi, rfl, hst', F', N', hnw', hys, hJ⟩
  have hDw : D ∉ wr := fun h => hDf (W.sub _ h)
  have hCw : cenv.locals ∉ wr := fun h => hCf (W.sub _ h)
  have old : ∀ b o, hB.get? b = some o → b ∉ wr := fun b o e hb => by rw [hwr b hb] at e; cases e
  have next : ∀ h₁ : Heap, (∀ b o, b ∉ wr → h'.get? b = some o → h₁.get? b = some o) → Fr hB cenv.locals h₁ m' ∧ News hB cenv.locals h₁ ((D, lst ys ep) :: news') := fun h₁ hk =>
    ⟨⟨F'.ns.at' fun o e => hk _ o hCw e, fun b o e => hk b o (old b o e) (F'.keep b o e), F'.above⟩, fun p hp => ⟨hk _ _ (by
      revert p hp
      refine all_cons ?_ ?_
      · exact hDw
      · intro p hp
        exact (hnw' p hp).2) (N' p hp).1, (N' p hp).2⟩⟩
  by_cases hlt : i < n
  · refine W.item i _ _ _ hlt hst' fun v h₁ tk₁ hP hst₁ hk₁ => ?_
    obtain ⟨F₁, N₁⟩ := next h₁ hk₁
    refine wpAny_assign_Name (wpAny_storeName_local hx F₁.ns (fun h₂ hn₂ hs₂ => ?_) hp)
    have F₂ := F₁.set hn₂ hs₂
    have N₂ := N₁.set hs₂
    have hst₂ : St (i + 1) h₂ := W.frame _ _ _ hst₁ fun b hb o e => (hs₂.2 b fun q => hCf (q ▸ hb)).trans e
    have Nown : News hB cenv.locals h₂ (ownOf hB fp h₂) := news_ownOf hCf
    have N₃ : News hB cenv.locals h₂ ((D, lst ys ep) :: (news' ++ ownOf hB fp h₂)) := fun p hp => by
      revert p hp
      refine all_cons ?_ ?_
      · exact N₂ _ (.head _)
      · intro p hp
        rcases List.mem_append.mp hp with hp | hp
        · exact N₂ _ (.tail _ hp)
        · exact Nown _ hp
    refine wpAny_mono (helt i v m' ys ep news' (ownOf hB fp h₂) h₂ _ hlt hP hJ hys ownOf_sub hnw' (hSw _ _ hst₂) F₂ N₃) (fun y s₄ h₄ => ?_) fun _ _ e => e.elim
    obtain ⟨h₄', tk₄, m₄, news₄, rfl, F₄, N₄, hnw₄, hJ₄⟩ := h₄
    refine append_at (N₄ _ (.head _)).1 (fun h₅ hs₅ ho₅ => ?_) (by simp only [List.size_toArray]; rw [sizeLine_eq]; omega)
    have hoff : ∀ p ∈ news₄ ++ ownOf hB fp h₂, p.1 ≠ D := fun p hp => by
      rcases List.mem_append.mp hp with hp | hp
      · exact (hnw₄ p hp).1
      · exact fun e => hDf (e ▸ ownOf_sub p hp)
    have F₅ := F₄.change hs₅ (N₄ _ (.head _)).2.1 (N₄ _ (.head _)).2.2
    have N₅ := N₄.setHead hoff hs₅ ho₅
    have e5 : (lst ys ep).data = .seq ys.toArray ep := rfl
    refine ⟨n + 1 - (i + 1), ar_step hlt, i + 1, h₅, _, m₄, ys ++ [y], ep + 1, news₄, rfl, hlt, rfl, ?_, F₅, ?_, hnw₄, by simp [hys], hJ₄⟩
    · refine W.frame _ _ _ hst₁ fun b hb o e => ?_
      have e₂ : h₂.get? b = some o := (hs₂.2 b fun q => hCf (q ▸ hb)).trans e
      cases hn' : hB.get? b with
      | some o₀ =>
        have : o₀ = o := by have := F₂.keep b o₀ hn'; rw [e₂] at this; exact (Option.some.inj this).symm
        exact this ▸ F₅.keep b o₀ hn'
      | none => exact (N₅ _ (.tail _ (List.mem_append_right _ (mem_ownOf hb hn' e₂)))).1
    · intro p hp
      revert p hp
      refine all_cons ?_ ?_
      · have := N₅ _ (.head _)
        simpa [lst] using this
      · intro p hp
        exact N₅ _ (.tail _ (List.mem_append_left _ hp))
  · have hin : i = n := by omega
    subst hin
    refine W.done _ _ _ hst' fun h₁ tk₁ hk₁ => ?_
    obtain ⟨F₁, N₁⟩ := next h₁ hk₁
    exact hR h₁ tk₁ m' ys ep news' F₁ N₁ hys hJ
inductive CompAt (B : Heap → Prop) (prog : Program) (w : World) (A : Around) (env : Env) (elt : Expr) (x : Str) (scope : Scope) (cl : List (Str × Addr)) (Q : Value → Shared → Prop) (it : Value) (s₂ : Shared) : Prop where
  | mk (It : Addr) (fp wr : List Addr) (n : Nat) (P : Nat → Value → Prop) (St : Nat → Heap → Prop) (hB : Heap) (news : List (Addr × Obj)) (J : Nat → List Value → List (Addr × Obj) → Prop) (c0 : it = .ref It) (c1 : Walks prog w A It fp wr n P St) (c2 : B hB) (c3 : hB.StaysIn s₂.heap) (c4 : hB.objs.size ≤ s₂.heap.objs.size) (c5 : (∀ b ∈ fp, b < s₂.heap.objs.size)) (c6 : (∀ b ∈ wr, hB.get? b = none)) (c7 : St 0 s₂.heap) (c8 : (∀ p ∈ news, s₂.heap.get? p.1 = some p.2 ∧ hB.get? p.1 = none ∧ p.1 ∉ wr)) (c9 : J 0 [] news) (c10 : n ≤ 1000) (c11 : (∀ i h, St i h → ∀ b ∈ wr, ∃ o, h.get? b = some o ∧ PlainOb o)) (c12 : (∀ (C D : Addr) (i : Nat) (v : Value) (m₁ : Str → Option Value) (ys : List Value) (ep : Nat) (news₁ own : List (Addr × Obj)) (h : Heap) (tk : Nat), s₂.heap.objs.size ≤ D → D < C → i < n → P i v → J i ys news₁ → ys.length = i → (∀ p ∈ own, p.1 ∈ fp) → (∀ p ∈ news₁, p.1 ≠ D ∧ p.1 ∉ wr) → (∀ b ∈ wr, ∃ o, h.get? b = some o ∧ PlainOb o) →
      Fr hB C h (fun y => if y = x then some v else m₁ y) → News hB C h ((D, lst ys ep) :: (news₁ ++ own)) →
      wpAny (model prog w) A (eval elt (compEnvC scope cl C env)) (EltEnd hB C D wr ys ep own (J (i + 1)) { s₂ with heap := h, toks := tk }) (fun _ _ => False) { s₂ with heap := h, toks := tk })) (c13 : (∀ D h' tk ys ep news', hB.StaysIn h' → (∀ p ∈ (D, lst ys ep) :: news', h'.get? p.1 = some p.2 ∧ hB.get? p.1 = none) → s₂.heap.get? D = none → ys.length = n → J n ys news' → Q (.ref D) { s₂ with heap := h', toks := tk }))
theorem comp_block {B : Heap → Prop} {elt iter : Expr} {x : Str} {px : Pos} {scope : Scope} {pos : Pos} {cl : List (Str × Addr)} {Q Q' : Value → Shared → Prop} {use : Option (Value → Sem Unit)} {it : Value} {s₂ : Shared}
    (hkind : scope.kind = .function) (hcell : ∀ y ∈ scope.names, y.2 ≠ .cell) (hx : scope.names.lookup x = some .local)
    (h₂ : CompAt B prog w A env elt x scope cl Q it s₂)
    (fin : ∀ (hB : Heap) (C D : Addr) (h' : Heap) (tk : Nat) (m' : Str → Option Value) (ys : List Value) (ep : Nat) (news' : List (Addr × Obj)), B hB → C ≠ D → Fr hB C h' m' → News hB C h' ((D, lst ys ep) :: news') →
      (∀ h'' tk'', hB.StaysIn h'' → (∀ p ∈ (D, lst ys ep) :: news', h''.get? p.1 = some p.2 ∧ hB.get? p.1 = none) → Q (.ref D) { s₂ with heap := h'', toks := tk'' }) →
      compPost (model prog w) A (fun _ _ => False) use Q' (.ref D) C (.ok .next) { s₂ with heap := h', toks := tk }) :
    wpAny (model prog w) A (newList []) (fun acc s₃ => wpAny (model prog w) A (newFunctionEnv scope env.globals cl [] env.qual none .none (some env)) (fun cenv s₄ =>
        codeAny (model prog w) A (.compStart (.ListComp elt [⟨.Name x px, iter, [], 0⟩] scope pos) 0 it acc { cenv with scope := relabel scope env }) (compPost (model prog w) A (fun _ _ => False) use Q' acc cenv.locals) s₄) (fun _ _ => False) s₃) (fun _ _ => False) s₂ := by
  obtain ⟨It, fp, wr, n, P, St, hB, news, J, rfl, W, hBB, hst, hsz, hfp, hwr, hS, hN, hj, hn, hSw, helt, hdone⟩ := h₂
  refine wpAny_newObj_type (wpAny_newFunctionEnv hcell (by intro y hy; simp at hy) (fun h₁ hns₁ hsb₁ => ?_) hkind)
  dsimp only at hns₁ hsb₁ ⊢
  generalize hH2 : s₂.heap.push { cls := .type "list", dict := none, data := .seq ([] : List Value).toArray } = H2 at hns₁ hsb₁ ⊢
  have hC : H2.objs.size = s₂.heap.objs.size + 1 := by rw [← hH2, Heap.size_push]
  have hDC : s₂.heap.objs.size ≠ H2.objs.size := by rw [hC]; exact Nat.ne_of_lt (Nat.lt_succ_self _)
  have below : ∀ b, b < s₂.heap.objs.size → b ≠ H2.objs.size ∧ b ≠ s₂.heap.objs.size := fun b hb => ⟨by rw [hC]; exact Nat.ne_of_lt (Nat.lt_succ_of_lt hb), Nat.ne_of_lt hb⟩
  have hDf : s₂.heap.objs.size ∉ fp := fun hm => Nat.lt_irrefl _ (hfp _ hm)
  have hCf : H2.objs.size ∉ fp := fun hm => by have := hfp _ hm; rw [hC] at this; exact Nat.lt_irrefl _ (Nat.lt_of_succ_lt this)
  have old : ∀ b o, s₂.heap.get? b = some o → h₁.get? b = some o := fun b o e => hsb₁.extBut b o (below b (Heap.lt_size e)).1 (Heap.get?_push_of_some _ (hH2 ▸ Heap.get?_push_of_some _ e))
  have hacc : h₁.get? s₂.heap.objs.size = some (lst [] 0) := hsb₁.extBut _ _ hDC (Heap.get?_push_of_some _ (hH2 ▸ Heap.get?_push_size _ rfl))
  have hst₁ : St 0 h₁ := W.frame _ _ _ hS fun b _ o e => old b o e
  have freshB : ∀ a, s₂.heap.objs.size ≤ a → hB.get? a = none := fun a ha => Heap.get?_none_of_le (Nat.le_trans hsz ha)
  have fresh : ∀ a, s₂.heap.objs.size ≤ a → s₂.heap.get? a = none := fun a ha => Heap.get?_none_of_le ha
  have F₁ : Fr hB H2.objs.size h₁ (fun x => ([] : List (Str × Value)).reverse.lookup x) := ⟨hns₁, fun b o e => old b o (hst b o e), by rw [hC]; omega⟩
  have N₁ : News hB H2.objs.size h₁ ((s₂.heap.objs.size, lst [] 0) :: news) := fun p hp => by
    revert p hp
    refine all_cons ?_ ?_
    · exact ⟨hacc, hDC, freshB _ (Nat.le_refl _)⟩
    · intro p hp
      exact ⟨old _ _ (hN p hp).1, (below _ (Heap.lt_size (hN p hp).1)).1, (hN p hp).2.1⟩
  have loop : ∀ s₃ : Shared, s₃ = { s₂ with heap := h₁, toks := s₂.toks + ([] : List (Str × Value)).length } →
      codeAny (model prog w) A (.compLoop (.ListComp elt [⟨.Name x px, iter, [], 0⟩] scope pos) 0 (.ref It) (.ref s₂.heap.objs.size) (compEnvC scope cl H2.objs.size env))
        (compPost (model prog w) A (fun _ _ => False) use Q' (.ref s₂.heap.objs.size) H2.objs.size) s₃ := by
    rintro s₃ rfl
    refine comp_loop (cenv := compEnvC scope cl H2.objs.size env) J W (lookup_relabel_local hx) (by simp [compEnvC, relabel, hkind]) rfl hCf hDf hwr hst₁ F₁ N₁
      (fun p hp => ⟨(below _ (Heap.lt_size (hN p hp).1)).2, (hN p hp).2.2⟩) hj hn hSw (fun i v m₁ ys ep news₁ own h tk hi hP hJ hys ho hnw hb F N => ?_) (fun h' tk m' ys ep news' F' N' hys hJ => ?_)
    · exact helt H2.objs.size s₂.heap.objs.size i v m₁ ys ep news₁ own h tk (Nat.le_refl _) (by rw [hC]; exact Nat.lt_succ_self _) hi hP hJ hys ho hnw hb F N
    · exact fin hB H2.objs.size s₂.heap.objs.size h' tk m' ys ep news' hBB (Ne.symm hDC) F' N' fun h'' tk'' k1 k2 => hdone _ h'' tk'' ys ep news' k1 k2 (fresh _ (Nat.le_refl _)) hys hJ
  exact codeAny_compStart_list (loop _ rfl) (W.self 0 _ _ _ hst₁ (loop _ rfl))
theorem comp_expr {elt iter : Expr} {x : Str} {px : Pos} {scope : Scope} {pos : Pos} {cl : List (Str × Addr)} {Q : Value → Shared → Prop}
    (hclos : closureFor scope env = pure cl) (hkind : scope.kind = .function) (hcell : ∀ y ∈ scope.names, y.2 ≠ .cell) (hnames : ∀ x ∈ scope.names, x.2 = .local → scope.names.lookup x.1 = some .local) (hx : scope.names.lookup x = some .local)
    (h : wpAny (model prog w) A (eval iter env) (fun xv s₁ => wpAny (model prog w) A (pyIter xv) (fun it s₂ => CompAt (fun _ => True) prog w A env elt x scope cl Q it s₂) (fun _ _ => False) s₁) (fun _ _ => False) s)
    (hs : ∀ x, foldedSetIterable iter env x = pure x := by intro _; rfl) :
    wpAny (model prog w) A (eval (.ListComp elt [⟨.Name x px, iter, [], 0⟩] scope pos) env) Q (fun _ _ => False) s := by
  rw [eval_ListComp]
  refine wpAny_comprehension_free (use := none) (cl := cl) rfl hs hclos hkind hnames (wpAny_mono h (fun xv s₁ h₁ => wpAny_mono h₁ (fun it s₂ h₂ => ?_) fun _ _ e => e) fun _ _ e => e)
  refine comp_block hkind hcell hx h₂ fun hB C D h' tk m' ys ep news' _ hCD F' N' go => ?_
  refine ⟨m', F'.ns, fun h'' hs'' => ?_⟩
  have keepC : ∀ b o, b ≠ C → h'.get? b = some o → h''.get? b = some o := fun b o hb e => (hs''.2 b hb).trans e
  have hBC : hB.get? C = none := Heap.get?_none_of_le F'.above
  exact go h'' _ (fun b o e => keepC b o (fun q => by rw [q, hBC] at e; cases e) (F'.keep b o e)) (fun p hp => ⟨keepC _ _ (N' p hp).2.1 (N' p hp).1, (N' p hp).2.2⟩)
theorem comp_assign {elt iter : Expr} {x y : Str} {px py : Pos} {scope : Scope} {pos spos : Pos} {cl : List (Str × Addr)} {m₀ : Str → Option Value} {Q : Flow → Shared → Prop} (_hns : s.heap.Ns env.locals m₀)
    (hsw : swapsWith (.ListComp elt [⟨.Name x px, iter, [], 0⟩] scope pos) (some (.Name y py)) spos.line env = pure true)
    (hclos : closureFor scope env = pure cl) (hkind : scope.kind = .function) (hcell : ∀ y ∈ scope.names, y.2 ≠ .cell) (hnames : ∀ x ∈ scope.names, x.2 = .local → scope.names.lookup x.1 = some .local) (hx : scope.names.lookup x = some .local)
    (hy : env.kindOf y = some .local) (hp : (env.scope.kind == .class || (env.scope.kind == .module && env.locals != env.globals)) = false)
    (h : wpAny (model prog w) A (eval iter env) (fun xv s₁ => wpAny (model prog w) A (pyIter xv) (fun it s₂ => CompAt (fun hB => hB.Ns env.locals m₀) prog w A env elt x scope cl
      (fun v s' => ∀ h₂ tk₂, h₂.Ns env.locals (fun z => if z = y then some v else m₀ z) → Heap.SameBut env.locals s'.heap h₂ → Q .next { s' with heap := h₂, toks := tk₂ }) it s₂) (fun _ _ => False) s₁) (fun _ _ => False) s)
    (hs : ∀ x, foldedSetIterable iter env x = pure x := by intro _; rfl) :
    wpAny (model prog w) A (exec (.Assign [.Name y py] (.ListComp elt [⟨.Name x px, iter, [], 0⟩] scope pos) spos) env) Q (fun _ _ => False) s := by
  rw [exec_Assign_Name_used _ _ _ _ hsw]
  refine wpAny_bind (wpAny_standAt (wpAny_bind ?_))
  show wpAny _ A (do let _ ← comprehension (.ListComp elt [⟨.Name x px, iter, [], 0⟩] scope pos) scope env _ (newList []) false (eval iter env) (some (assign (.Name y py) env))) _ _ s
  refine wpAny_bind (wpAny_mono (wpAny_comprehension_free (use := some (assign (.Name y py) env)) (Q := fun _ s' => Q .next s') rfl hs hclos hkind hnames
    (wpAny_mono h (fun xv s₁ h₁ => wpAny_mono h₁ (fun it s₂ h₂ => ?_) fun _ _ e => e) fun _ _ e => e)) (fun _ s' hq => wpAny_pure (wpAny_pure hq)) fun _ _ e => e)
  refine comp_block hkind hcell hx h₂ fun hB C D h' tk m' ys ep news' hBn hCD F' N' go => ?_
  show wpAny _ A (assign (.Name y py) env (.ref D)) _ _ _
  obtain ⟨oL, _, _, hoL, _⟩ := id hBn
  have hBC : hB.get? C = none := Heap.get?_none_of_le F'.above
  have hLC : env.locals ≠ C := fun e => by rw [e, hBC] at hoL; cases hoL
  have hoL' := F'.keep _ _ hoL
  refine wpAny_assign_Name (wpAny_storeName_local hy (hBn.keeps F'.keep) (fun h₂ hn₂ hs₂ => ?_) hp)
  refine ⟨m', F'.ns.sameBut hs₂ (Ne.symm hLC), fun h₃ hs₃ => ?_⟩
  have hsome : ∃ o, h₃.get? env.locals = some o := by
    obtain ⟨o, _, _, ho, _⟩ := id hn₂
    exact ⟨o, (hs₃.2 _ hLC).trans ho⟩
  obtain ⟨o₃, ho₃⟩ := hsome
  have hup : (h₃.update env.locals fun _ => oL).get? env.locals = some oL := Heap.get?_update_self _ ho₃ (Heap.get?_some_iff.mp hoL).2
  have oth : ∀ b, b ≠ env.locals → b ≠ C → (h₃.update env.locals fun _ => oL).get? b = h'.get? b := fun b hb hc => by
    rw [Heap.get?_update_other _ _ (Ne.symm hb), hs₃.2 b hc, hs₂.2 b hb]
  have key := go (h₃.update env.locals fun _ => oL) tk (fun b o e => ?_) (fun p hp => ?_)
  · exact key h₃ _ (hn₂.sameBut hs₃ hLC) ⟨by cases h₃; simp [Heap.update], fun b hb => (Heap.get?_update_other _ _ (Ne.symm hb)).symm⟩
  · by_cases hb : b = env.locals
    · subst hb; rw [hup]; rw [hoL] at e; exact e
    · rw [oth b hb (fun q => by rw [q, hBC] at e; cases e)]; exact F'.keep b o e
  · have hpL : p.1 ≠ env.locals := fun e => by have := (N' p hp).2.2; rw [e, hoL] at this; cases this
    exact ⟨(oth _ hpL (N' p hp).2.1).trans (N' p hp).1, (N' p hp).2.2⟩
theorem compAt_list {B : Heap → Prop} {l : Addr} {vs : List Value} {elt : Expr} {x : Str} {scope : Scope} {cl : List (Str × Addr)} {Q : Value → Shared → Prop} {E : Value → Shared → Prop} (hh : A.handled = none) (hl : s.heap.IsList l vs.toArray)
    (hB : Heap) (hst : hB.StaysIn s.heap) (hsz : hB.objs.size ≤ s.heap.objs.size) (news : List (Addr × Obj)) (J : Nat → List Value → List (Addr × Obj) → Prop)
    (hN : ∀ p ∈ news, s.heap.get? p.1 = some p.2 ∧ hB.get? p.1 = none) (hj : J 0 [] news) (hn : vs.length ≤ 1000)
    (helt : ∀ (It C D : Addr) (i : Nat) (v : Value) (m₁ : Str → Option Value) (ys : List Value) (ep : Nat) (news₁ own : List (Addr × Obj)) (h : Heap) (tk : Nat), s.heap.objs.size ≤ It → It < D → D < C → vs[i]? = some v → J i ys news₁ → ys.length = i → (∀ p ∈ own, p.1 ∈ [It, l]) → (∀ p ∈ news₁, p.1 ≠ D ∧ p.1 ∉ [It]) → (∃ o, h.get? It = some o ∧ PlainOb o) →
      Fr hB C h (fun y => if y = x then some v else m₁ y) → News hB C h ((D, lst ys ep) :: (news₁ ++ own)) →
      wpAny (model prog w) A (eval elt (compEnvC scope cl C env)) (EltEnd hB C D [It] ys ep own (J (i + 1)) { s with heap := h, toks := tk }) (fun _ _ => False) { s with heap := h, toks := tk })
    (hdone : ∀ D h' tk ys ep news', hB.StaysIn h' → (∀ p ∈ (D, lst ys ep) :: news', h'.get? p.1 = some p.2 ∧ hB.get? p.1 = none) → s.heap.get? D = none → ys.length = vs.length → J vs.length ys news' → Q (.ref D) { s with heap := h', toks := tk }) (hBB : B hB := by trivial) :
    wpAny (model prog w) A (pyIter (.ref l)) (fun it s₂ => CompAt B prog w A env elt x scope cl Q it s₂) E s := by
  obtain ⟨ol, hol⟩ := list_some hl
  have hlt : l < s.heap.objs.size := Heap.lt_size hol
  have hne : l ≠ s.heap.objs.size := Nat.ne_of_lt hlt
  refine wpAny_pyIter_list hl ?_
  have W := Walks.list (prog := prog) (w := w) hh s.heap.objs.size l hne vs.toArray
  have hlen : vs.toArray.size = vs.length := by simp
  have up : ∀ b o, s.heap.get? b = some o → ∀ o', (s.heap.push o').get? b = some o := fun b o e o' => Heap.get?_push_of_some _ e
  refine ⟨s.heap.objs.size, [s.heap.objs.size, l], [s.heap.objs.size], vs.toArray.size, _, _, hB, news, J, rfl, W, hBB, fun b o e => up _ _ (hst b o e) _, ?_, ?_, ?_, ⟨⟨_, Heap.get?_push_size _ rfl, rfl, rfl⟩, hl.at fun o e => up _ _ e _⟩, ?_, hj, by simpa using hn, ?_, ?_, ?_⟩
  · exact Nat.le_trans hsz (Nat.le_trans (Nat.le_succ _) (Nat.le_of_eq (Heap.size_push ..).symm))
  · intro b hb
    refine Nat.lt_of_lt_of_le (m := s.heap.objs.size + 1) ?_ (Nat.le_of_eq (Heap.size_push ..).symm)
    revert b hb
    refine all_cons ?_ ?_
    · exact Nat.lt_succ_self _
    · intro b hb
      rw [List.mem_singleton.mp hb]; exact Nat.lt_succ_of_lt hlt
  · intro b hb
    rw [List.mem_singleton.mp hb]
    exact Heap.get?_none_of_le hsz
  · intro p hp
    refine ⟨up _ _ (hN p hp).1 _, (hN p hp).2, fun h => ?_⟩
    exact absurd (Heap.lt_size (hN p hp).1) (by rw [List.mem_singleton.mp h]; exact Nat.lt_irrefl _)
  · rintro i h ⟨⟨o, ho, hc, hd⟩, _⟩ b hb
    rw [List.mem_singleton.mp hb]; exact ⟨o, ho, fun ps e => (by rw [e] at hc; cases hc), fun vs q t e h => (by rw [hd] at e; cases e; cases h)⟩
  · intro C D i v m₁ ys ep news₁ own h tk hD hDC hi hP hJ hys ho hnw hb F N
    have hD' : (s.heap.push { cls := .type "list_iterator", data := .fields #[.ref l, .int 0 0] }).objs.size ≤ D := hD
    rw [Heap.size_push] at hD'
    exact helt s.heap.objs.size C D i v m₁ ys ep news₁ own h tk (Nat.le_refl _) hD' hDC (by simpa using hP) hJ hys ho hnw (hb _ (List.mem_singleton.mpr rfl)) F N
  · intro D h' tk ys ep news' hst' hN' hD hys hJ
    refine hdone D h' tk ys ep news' hst' hN' ?_ (by simpa using hys) (by simpa using hJ)
    cases e : s.heap.get? D with
    | none => rfl
    | some o => have := up _ _ e { cls := .type "list_iterator", data := .fields #[.ref l, .int 0 0] }; rw [hD] at this; cases this
theorem compAt_range {B : Heap → Prop} {r : Addr} {n : Nat} {t u v' : Tok} {elt : Expr} {x : Str} {scope : Scope} {cl : List (Str × Addr)} {Q : Value → Shared → Prop} {E : Value → Shared → Prop} (hh : A.handled = none) (hr : IsRange s.heap r 0 n 1 t u v')
    (hB : Heap) (hst : hB.StaysIn s.heap) (hsz : hB.objs.size ≤ s.heap.objs.size) (news : List (Addr × Obj)) (J : Nat → List Value → List (Addr × Obj) → Prop)
    (hN : ∀ p ∈ news, s.heap.get? p.1 = some p.2 ∧ hB.get? p.1 = none) (hj : J 0 [] news) (hn : n ≤ 1000)
    (helt : ∀ (It C D : Addr) (i : Nat) (ti : Tok) (m₁ : Str → Option Value) (ys : List Value) (ep : Nat) (news₁ own : List (Addr × Obj)) (h : Heap) (tk : Nat), s.heap.objs.size ≤ It → It < D → D < C → i < n → J i ys news₁ → ys.length = i → (∀ p ∈ own, p.1 ∈ [It]) → (∀ p ∈ news₁, p.1 ≠ D ∧ p.1 ∉ [It]) → (∃ o, h.get? It = some o ∧ PlainOb o) →
      Fr hB C h (fun y => if y = x then some (.int i ti) else m₁ y) → News hB C h ((D, lst ys ep) :: (news₁ ++ own)) →
      wpAny (model prog w) A (eval elt (compEnvC scope cl C env)) (EltEnd hB C D [It] ys ep own (J (i + 1)) { s with heap := h, toks := tk }) (fun _ _ => False) { s with heap := h, toks := tk })
    (hdone : ∀ D h' tk ys ep news', hB.StaysIn h' → (∀ p ∈ (D, lst ys ep) :: news', h'.get? p.1 = some p.2 ∧ hB.get? p.1 = none) → s.heap.get? D = none → ys.length = n → J n ys news' → Q (.ref D) { s with heap := h', toks := tk }) (hBB : B hB := by trivial) :
    wpAny (model prog w) A (pyIter (.ref r)) (fun it s₂ => CompAt B prog w A env elt x scope cl Q it s₂) E s := by
  have hrs : Builtin.Range.rangeSize 0 n 1 = n := by
    unfold Builtin.Range.rangeSize
    simp only [show ((1 : Int) > 0) by decide, if_true, Int.ediv_one]
    split <;> omega
  have hsm : Builtin.Range.small 0 n 1 = true := small_one (by decide) (by decide) (by omega) (by omega)
  refine wpAny_pyIter_range hr hsm ?_
  rw [hrs]
  have W := Walks.range (prog := prog) (w := w) hh s.heap.objs.size 0 1 n
  have up : ∀ b o, s.heap.get? b = some o → ∀ o', (s.heap.push o').get? b = some o := fun b o e o' => Heap.get?_push_of_some _ e
  refine ⟨s.heap.objs.size, [s.heap.objs.size], [s.heap.objs.size], n, _, _, hB, news, J, rfl, W, hBB, fun b o e => up _ _ (hst b o e) _, ?_, ?_, ?_, ?_, ?_, hj, hn, ?_, ?_, ?_⟩
  · exact Nat.le_trans hsz (Nat.le_trans (Nat.le_succ _) (Nat.le_of_eq (Heap.size_push ..).symm))
  · intro b hb
    refine Nat.lt_of_lt_of_le (m := s.heap.objs.size + 1) ?_ (Nat.le_of_eq (Heap.size_push ..).symm)
    rw [List.mem_singleton.mp hb]; exact Nat.lt_succ_self _
  · intro b hb
    rw [List.mem_singleton.mp hb]
    exact Heap.get?_none_of_le hsz
  · simpa using Heap.get?_push_size s.heap (o := { cls := .type "range_iterator", data := .fields #[rawInt 0, rawInt n, rawInt 1] }) rfl
  · intro p hp
    refine ⟨up _ _ (hN p hp).1 _, (hN p hp).2, fun h => ?_⟩
    exact absurd (Heap.lt_size (hN p hp).1) (by rw [List.mem_singleton.mp h]; exact Nat.lt_irrefl _)
  · intro i h hS b hb
    rw [List.mem_singleton.mp hb]; exact ⟨_, hS, fun ps e => (by have := congrArg Obj.cls e; cases this), fun vs q t e h => (by cases e; cases h)⟩
  · rintro C D i v m₁ ys ep news₁ own h tk hD hDC hi ⟨ti, rfl⟩ hJ hys ho hnw hb F N
    have hD' : (s.heap.push { cls := .type "range_iterator", data := .fields #[rawInt 0, rawInt n, rawInt 1] }).objs.size ≤ D := hD
    rw [Heap.size_push] at hD'
    have ei : (0 : Int) + (i : Nat) * 1 = i := by omega
    rw [ei] at F
    exact helt s.heap.objs.size C D i ti m₁ ys ep news₁ own h tk (Nat.le_refl _) hD' hDC hi hJ hys ho hnw (hb _ (List.mem_singleton.mpr rfl)) F N
  · intro D h' tk ys ep news' hst' hN' hD hys hJ
    refine hdone D h' tk ys ep news' hst' hN' ?_ hys hJ
    cases e : s.heap.get? D with
    | none => rfl
    | some o => have := up _ _ e { cls := .type "range_iterator", data := .fields #[rawInt 0, rawInt n, rawInt 1] }; rw [hD] at this; cases this
end
structure CellIn (h : Heap) (c : Addr) (v : Value) : Prop where
  is : h.IsCell c (some v)
theorem CellIn.keeps {h h' : Heap} {c : Addr} {v : Value} (x : CellIn h c v) (k : h.StaysIn h') : CellIn h' c v := by
  obtain ⟨⟨o, e, d⟩⟩ := x
  exact ⟨⟨o, k _ _ e, d⟩⟩
section
variable {M : Model} {A : Around} {E : Value → Shared → Prop} {s : Shared} {h₀ : Heap} {L C c : Addr} {m : Str → Option Value} {scope : Scope} {cl : List (Str × Addr)} {env : Env} {x : Str} {pos : Pos} {v : Value} {Q : Value → Shared → Prop}
theorem ldVarB (F : Fr h₀ C s.heap m) (hv : m x = some v) (h : Q v s)
    (hk : (compEnvC scope cl C env).scope.kind = .function) (hx : (compEnvC scope cl C env).kindOf x = some .local) (hb : (x == ("__debug__" : Str)) = false := by decide) :
    wpAny M A (eval (.Name x pos) (compEnvC scope cl C env)) Q E s := ldVarK F.ns hv h hk hx hb
theorem ldCellB (F : Fr h₀ L s.heap m) (hc : cl.lookup x = some c) (hv : CellIn h₀ c v) (h : Q v s)
    (hk : (compEnvC scope cl C env).scope.kind = .function) (hx : (compEnvC scope cl C env).kindOf x = some .cell) (hb : (x == ("__debug__" : Str)) = false := by decide) :
    wpAny M A (eval (.Name x pos) (compEnvC scope cl C env)) Q E s := ldCellK hc (hv.keeps F.keep).is h hk hx hb
theorem ldFreeB (F : Fr h₀ L s.heap m) (hc : cl.lookup x = some c) (hv : CellIn h₀ c v) (h : Q v s)
    (hk : (compEnvC scope cl C env).scope.kind = .function) (hx : (compEnvC scope cl C env).kindOf x = some .free) (hb : (x == ("__debug__" : Str)) = false := by decide) (hn : (x == ("__classdict__" : Str)) = false := by decide) :
    wpAny M A (eval (.Name x pos) (compEnvC scope cl C env)) Q E s := ldFreeK hc (hv.keeps F.keep).is h hk hx hb hn
end
end Mine
end
local macro_rules | `(tactic| walk_at "eval Name") => `(tactic| (k_here; (with_reducible show wpAny _ _ (eval (Expr.Name _ _) (compEnvC _ _ _ _)) _ _ _); k_dflt (first
  | (refine' Mine.ldVarB ?F ?v ?_ ?a ?b; (case F => k_asm); (case a => rfl); (case b => rfl); (case v => rfl); k_whole)
  | (refine' Mine.ldCellB ?F ?c ?v ?_ ?a ?b; (case F => k_asm); (case a => rfl); (case b => rfl); (case c => rfl); (case v => k_asm); k_whole)
  | (refine' Mine.ldFreeB ?F ?c ?v ?_ ?a ?b; (case F => k_asm); (case a => rfl); (case b => rfl); (case c => rfl); (case v => k_asm); k_whole))))
section
open PySem PySem.W PyProof.Rows PySem.Spec PySem.Calls
set_option maxRecDepth 100000
namespace Mine
section
variable {prog : Program} {w : World} {A : Around} {E : Value → Shared → Prop} {s : Shared}
structure ZipAp (z TI TO i1 i2 : Addr) (fp1 fp2 : List Addr) : Prop where
  TIz : TI ≠ z
  TOz : TO ≠ z
  i1z : i1 ≠ z
  i2z : i2 ≠ z
  TITO : TI ≠ TO
  TIi1 : TI ≠ i1
  TIi2 : TI ≠ i2
  TOi1 : TO ≠ i1
  TOi2 : TO ≠ i2
  i12 : i1 ≠ i2
  z1 : z ∉ fp1
  TO1 : TO ∉ fp1
  i21 : i2 ∉ fp1
  z2 : z ∉ fp2
  TO2 : TO ∉ fp2
  i12' : i1 ∉ fp2
theorem Draws.off {it : Addr} {fp : List Addr} {n i : Nat} {P : Nat → Value → Prop} {St : Nat → Heap → Prop} {h h' : Heap} {b : Addr} (D : Draws prog w A it fp n P St) (hs : Heap.SameBut b h h') (hb : b ∉ fp) (st : St i h) : St i h' :=
  D.frame _ _ _ st fun c hc o e => (hs.2 c fun q => hb (q ▸ hc)).trans e
variable {fp1 fp2 : List Addr} {n1 n2 i : Nat} {P1 P2 : Nat → Value → Prop} {St1 St2 : Nat → Heap → Prop} {z TI TO i1 i2 : Addr}
theorem zip_next_itemD {a b : Value} {Q : Value → Shared → Prop} (D : ZipAp z TI TO i1 i2 fp1 fp2) (D1 : Draws prog w A i1 fp1 n1 P1 St1) (D2 : Draws prog w A i2 fp2 n2 P2 St2)
    (hz : IsZip s.heap z TI TO .none) (hTI : IsPair s.heap TI (.ref i1) (.ref i2)) (hTO : IsPair s.heap TO a b) (h1 : St1 i s.heap) (h2 : St2 i s.heap) (l1 : i < n1) (l2 : i < n2)
    (hQ : ∀ x y h' tk, P1 i x → P2 i y → IsZip h' z TI TO (rawInt s.heap.objs.size) → IsPair h' TO x y → St1 (i + 1) h' → St2 (i + 1) h' → IsPair h' s.heap.objs.size x y → 
      (∀ c o, c ≠ z → c ≠ TO → c ≠ i1 → c ≠ i2 → s.heap.get? c = some o → h'.get? c = some o) → Q (.ref s.heap.objs.size) { s with heap := h', toks := tk }) :
    wpAny (model prog w) A (Builtin.«zip.__next__» ⟨[.ref z], []⟩) (fun fin s' => ∃ v, fin = .done (.ret v) ∧ Q v s') E s := by
  show wpAny _ _ (field (.ref z) 2 >>= _) _ _ _
  refine wpAny_bind (wpAny_field hz rfl (x := .bool false) rfl ?_)
  show wpAny _ _ (field (.ref z) 3 >>= _) _ _ _
  refine wpAny_bind (wpAny_field hz rfl (x := .ref TI) rfl ?_)
  refine wpAny_bind (wpAny_seqItems hTI rfl ?_)
  show wpAny _ _ (Builtin.SmallTypes.ownedTupleIsFree (.ref z) >>= _) _ _ _
  refine wpAny_bind ?_
  unfold Builtin.SmallTypes.ownedTupleIsFree
  refine wpAny_bind (wpAny_field hz rfl (x := .none) rfl (wpAny_pure ?_))
  simp only [if_true]
  refine wpAny_bind (wpAny_rule ?_)
  refine wpAny_bind (wpAny_field hz rfl (x := .ref TO) rfl ?_)
  refine wpAny_bind (wpAny_setField_rec hz (by simp) fun h₁ hz₁ hs₁ => ?_)
  replace hz₁ : IsZip h₁ z TI TO .ellipsis := hz₁
  refine wpAny_bind ?_
  simp only [List.zipIdx_cons, List.zipIdx_nil, List.forIn_cons, List.forIn_nil]
  refine wpAny_bind (wpAny_bind (wpAny_onRaise ?_))
  show wpAny _ _ (Builtin.SmallTypes.nextOf (.ref i1) >>= _) _ _ _
  refine wpAny_bind (D1.item i _ _ _ l1 (Draws.off D1 hs₁ D.z1 h1) fun x h₂ tk₂ hx h1₂ hs₂ => wpAny_pure ?_)
  replace hs₂ : Heap.SameBut i1 h₁ h₂ := hs₂
  have hTO₂ : IsPair h₂ TO a b := hs₂.extBut _ _ D.TOi1 (hs₁.extBut _ _ D.TOz hTO)
  refine wpAny_bind (wpAny_seqItems hTO₂ rfl ?_)
  refine wpAny_bind (wpAny_updateSeq_pair hTO₂ fun h₃ hTO₃ hs₃ => ?_)
  replace hTO₃ : IsPair h₃ TO x b := hTO₃
  refine wpAny_bind (wpAny_letGo (wpAny_pure ?_))
  refine wpAny_bind (wpAny_bind (wpAny_onRaise ?_))
  show wpAny _ _ (Builtin.SmallTypes.nextOf (.ref i2) >>= _) _ _ _
  refine wpAny_bind (D2.item i _ _ _ l2 (Draws.off D2 hs₃ D.TO2 (Draws.off D2 hs₂ D.i12' (Draws.off D2 hs₁ D.z2 h2))) fun y h₄ tk₄ hy h2₄ hs₄ => wpAny_pure ?_)
  replace hs₄ : Heap.SameBut i2 h₃ h₄ := hs₄
  have hTO₄ : IsPair h₄ TO x b := hs₄.extBut _ _ D.TOi2 hTO₃
  refine wpAny_bind (wpAny_seqItems hTO₄ rfl ?_)
  refine wpAny_bind (wpAny_updateSeq_pair hTO₄ fun h₅ hTO₅ hs₅ => ?_)
  replace hTO₅ : IsPair h₅ TO x y := hTO₅
  refine wpAny_bind (wpAny_letGo (wpAny_pure (wpAny_pure ?_)))
  refine wpAny_bind (wpAny_seqItems hTO₅ rfl ?_)
  refine wpAny_bind (wpAny_newTuple ?_)
  have hsz : h₅.objs.size = s.heap.objs.size := by rw [hs₅.1, hs₄.1, hs₃.1, hs₂.1, hs₁.1]
  have hz₅ : IsZip h₅ z TI TO .ellipsis := hs₅.extBut _ _ D.TOz.symm (hs₄.extBut _ _ D.i2z.symm (hs₃.extBut _ _ D.TOz.symm (hs₂.extBut _ _ D.i1z.symm hz₁)))
  have hk₅ : ∀ c o, c ≠ z → c ≠ TO → c ≠ i1 → c ≠ i2 → s.heap.get? c = some o → h₅.get? c = some o := fun c o c1 c2 c3 c4 e =>
    hs₅.extBut _ _ c2 (hs₄.extBut _ _ c4 (hs₃.extBut _ _ c2 (hs₂.extBut _ _ c3 (hs₁.extBut _ _ c1 e))))
  have h1₅ : St1 (i + 1) h₅ := Draws.off D1 hs₅ D.TO1 (Draws.off D1 hs₄ D.i21 (Draws.off D1 hs₃ D.TO1 h1₂))
  have h2₅ : St2 (i + 1) h₅ := Draws.off D2 hs₅ D.TO2 h2₄
  have hzlt : z < h₅.objs.size := Heap.lt_size hz₅
  show wpAny _ _ (Builtin.SmallTypes.ownedTupleHandOut (.ref z) (.ref h₅.objs.size) >>= _) _ _ _
  refine wpAny_bind ?_
  unfold Builtin.SmallTypes.ownedTupleHandOut
  have hz₆ : IsZip (h₅.push { cls := .type "tuple", data := .seq #[x, y] }) z TI TO .ellipsis := Heap.get?_push_of_some _ hz₅
  refine wpAny_bind (wpAny_setField_rec hz₆ (by simp) fun h₇ hz₇ hs₇ => ?_)
  replace hz₇ : IsZip h₇ z TI TO (rawInt h₅.objs.size) := hz₇
  refine wpAny_setField_rec hz₇ (by simp) fun h₈ hz₈ hs₈ => ?_
  replace hz₈ : IsZip h₈ z TI TO (rawInt h₅.objs.size) := hz₈
  have up : ∀ c o, c ≠ z → h₅.get? c = some o → h₈.get? c = some o := fun c o c1 e => hs₈.extBut _ _ c1 (hs₇.extBut _ _ c1 (Heap.get?_push_of_some _ e))
  have hT₈ : IsPair h₈ h₅.objs.size x y := hs₈.extBut _ _ (Nat.ne_of_gt hzlt) (hs₇.extBut _ _ (Nat.ne_of_gt hzlt) (Heap.get?_push_size _ rfl))
  rw [hsz] at hz₈ hT₈
  refine wpAny_pure ⟨_, rfl, ?_⟩
  show Q (.ref h₅.objs.size) _
  rw [hsz]
  exact hQ x y h₈ _ hx hy hz₈ (up _ _ D.TOz hTO₅) (D1.frame _ _ _ h1₅ fun b hb o e => up b o (fun q => D.z1 (q ▸ hb)) e) (D2.frame _ _ _ h2₅ fun b hb o e => up b o (fun q => D.z2 (q ▸ hb)) e) hT₈ fun c o c1 c2 c3 c4 e => up c o c1 (hk₅ c o c1 c2 c3 c4 e)
theorem zip_next_endD {a b : Value} {Q : Fin → Shared → Prop} (D : ZipAp z TI TO i1 i2 fp1 fp2) (D1 : Draws prog w A i1 fp1 n1 P1 St1) (D2 : Draws prog w A i2 fp2 n2 P2 St2)
    (hz : IsZip s.heap z TI TO .none) (hTI : IsPair s.heap TI (.ref i1) (.ref i2)) (hTO : IsPair s.heap TO a b) (h1 : St1 i s.heap) (h2 : St2 i s.heap) (hend : i = n1 ∨ (i < n1 ∧ i = n2))
    (hE : ∀ h' e tk, (∀ c o, c ≠ z → c ≠ TO → c ≠ i1 → c ≠ i2 → s.heap.get? c = some o → h'.get? c = some o) → (∃ o, h'.get? e = some o ∧ o.cls = .type "StopIteration") → E (.ref e) { s with heap := h', toks := tk }) :
    wpAny (model prog w) A (Builtin.«zip.__next__» ⟨[.ref z], []⟩) Q E s := by
  show wpAny _ _ (field (.ref z) 2 >>= _) _ _ _
  refine wpAny_bind (wpAny_field hz rfl (x := .bool false) rfl ?_)
  show wpAny _ _ (field (.ref z) 3 >>= _) _ _ _
  refine wpAny_bind (wpAny_field hz rfl (x := .ref TI) rfl ?_)
  refine wpAny_bind (wpAny_seqItems hTI rfl ?_)
  show wpAny _ _ (Builtin.SmallTypes.ownedTupleIsFree (.ref z) >>= _) _ _ _
  refine wpAny_bind ?_
  unfold Builtin.SmallTypes.ownedTupleIsFree
  refine wpAny_bind (wpAny_field hz rfl (x := .none) rfl (wpAny_pure ?_))
  simp only [if_true]
  refine wpAny_bind (wpAny_rule ?_)
  refine wpAny_bind (wpAny_field hz rfl (x := .ref TO) rfl ?_)
  refine wpAny_bind (wpAny_setField_rec hz (by simp) fun h₁ hz₁ hs₁ => ?_)
  replace hz₁ : IsZip h₁ z TI TO .ellipsis := hz₁
  refine wpAny_bind ?_
  simp only [List.zipIdx_cons, List.zipIdx_nil, List.forIn_cons, List.forIn_nil]
  refine wpAny_bind (wpAny_bind (wpAny_onRaise ?_))
  show wpAny _ _ (Builtin.SmallTypes.nextOf (.ref i1) >>= _) _ _ _
  rcases hend with rfl | ⟨hlt, rfl⟩
  · refine wpAny_bind (D1.done _ _ _ (Draws.off D1 hs₁ D.z1 h1) fun h₂ e hs₂ he => ?_)
    obtain ⟨oe, hoe, hce⟩ := he
    have hz₂ : IsZip h₂ z TI TO .ellipsis := hs₂ _ _ D.i1z.symm hz₁
    have hez : e ≠ z := fun x => by subst x; rw [hz₂] at hoe; cases hoe; simp at hce
    refine wpAny_setField_rec hz₂ (by simp) fun h₃ _ hs₃ => hE h₃ e _ (fun c o c1 _ c3 _ x => hs₃.extBut _ _ c1 (hs₂ _ _ c3 (hs₁.extBut _ _ c1 x))) ⟨oe, hs₃.extBut _ _ hez hoe, hce⟩
  · refine wpAny_bind (D1.item i _ _ _ hlt (Draws.off D1 hs₁ D.z1 h1) fun x h₂ tk₂ hx h1₂ hs₂ => wpAny_pure ?_)
    replace hs₂ : Heap.SameBut i1 h₁ h₂ := hs₂
    have hTO₂ : IsPair h₂ TO a b := hs₂.extBut _ _ D.TOi1 (hs₁.extBut _ _ D.TOz hTO)
    refine wpAny_bind (wpAny_seqItems hTO₂ rfl ?_)
    refine wpAny_bind (wpAny_updateSeq_pair hTO₂ fun h₃ hTO₃ hs₃ => ?_)
    refine wpAny_bind (wpAny_letGo (wpAny_pure ?_))
    refine wpAny_bind (wpAny_bind (wpAny_onRaise ?_))
    show wpAny _ _ (Builtin.SmallTypes.nextOf (.ref i2) >>= _) _ _ _
    refine wpAny_bind (D2.done _ _ _ (Draws.off D2 hs₃ D.TO2 (Draws.off D2 hs₂ D.i12' (Draws.off D2 hs₁ D.z2 h2))) fun h₄ e hs₄ he => ?_)
    obtain ⟨oe, hoe, hce⟩ := he
    have hz₄ : IsZip h₄ z TI TO .ellipsis := hs₄ _ _ D.i2z.symm (hs₃.extBut _ _ D.TOz.symm (hs₂.extBut _ _ D.i1z.symm hz₁))
    have hez : e ≠ z := fun x => by subst x; rw [hz₄] at hoe; cases hoe; simp at hce
    refine wpAny_setField_rec hz₄ (by simp) fun h₅ _ hs₅ => hE h₅ e _ (fun c o c1 c2 c3 c4 x => hs₅.extBut _ _ c1 (hs₄ _ _ c4 (hs₃.extBut _ _ c2 (hs₂.extBut _ _ c3 (hs₁.extBut _ _ c1 x))))) ⟨oe, hs₅.extBut _ _ hez hoe, hce⟩
theorem zipWalks (D : ZipAp z TI TO i1 i2 fp1 fp2) (D1 : Draws prog w A.in1 i1 fp1 n1 P1 St1) (D2 : Draws prog w A.in1 i2 fp2 n2 P2 St2) (hi1 : i1 ∈ fp1) (hi2 : i2 ∈ fp2) :
    WalksT prog w A z ([z, TI, TO] ++ (fp1 ++ fp2)) [z, TO, i1, i2] (min n1 n2)
      (fun i vals => ∃ x y, P1 i x ∧ P2 i y ∧ vals = #[x, y])
      (fun i h => IsZip h z TI TO .none ∧ IsPair h TI (.ref i1) (.ref i2) ∧ (∃ a b, IsPair h TO a b) ∧ St1 i h ∧ St2 i h)
      (fun i T h => IsZip h z TI TO (rawInt T) ∧ IsPair h TI (.ref i1) (.ref i2) ∧ (∃ a b, IsPair h TO a b) ∧ St1 (i + 1) h ∧ St2 (i + 1) h ∧ T ≠ z ∧ T ≠ TO ∧ T ≠ i1 ∧ T ≠ i2) where
  sub := all_cons (.head _) (all_cons (.tail _ (.tail _ (.head _))) (all_cons (List.mem_append_right _ (List.mem_append_left _ hi1)) (all_one (List.mem_append_right _ (List.mem_append_right _ hi2)))))
  frame := fun i h h' hst hk => by
    obtain ⟨hz, hTI, ⟨a, b, hTO⟩, h1, h2⟩ := hst
    exact ⟨hk z (by simp) _ hz, hk TI (by simp) _ hTI, ⟨a, b, hk TO (by simp) _ hTO⟩, D1.frame _ _ _ h1 fun b hb o e => hk b (by simp [hb]) o e, D2.frame _ _ _ h2 fun b hb o e => hk b (by simp [hb]) o e⟩
  item := fun i s Q E hi hst hQ => by
    obtain ⟨hz, hTI, ⟨a, b, hTO⟩, h1, h2⟩ := hst
    have hix : i < n1 := Nat.lt_of_lt_of_le hi (Nat.min_le_left ..)
    have hiy : i < n2 := Nat.lt_of_lt_of_le hi (Nat.min_le_right ..)
    have hT : s.TypeIs (.ref z) "zip" := ⟨_, hz, rfl⟩
    have lt : ∀ {c o}, s.heap.get? c = some o → s.heap.objs.size ≠ c := fun e => Nat.ne_of_gt (Heap.lt_size e)
    unfold pyNext
    refine wpAny_bind (wpAny_attempt (wpAny_callSpecial?_slot (name := Str.ofString "__next__") hT F.slot_zip_next
      (wpAny_call_entry F.slot_zip_next hT F.entry_zip_next
        (zip_next_itemD D D1 D2 hz hTI hTO h1 h2 hix hiy fun x y h' tk p1 p2 a1 a2 a3 a4 a5 hk => wpAny_pure ?_) (F.args_zip_next_1 _))))
    exact hQ s.heap.objs.size #[x, y] h' tk ⟨_, _, p1, p2, rfl⟩ (Nat.le_refl _) ⟨_, a5, rfl, _, rfl⟩
      ⟨a1, hk _ _ D.TIz D.TITO D.TIi1 D.TIi2 hTI, ⟨_, _, a2⟩, a3, a4, lt hz, lt hTO, (by obtain ⟨_, e⟩ := D1.live _ _ h1; exact lt e), (by obtain ⟨_, e⟩ := D2.live _ _ h2; exact lt e)⟩
      fun c o hc e => hk c o (fun x => hc (by simp [x])) (fun x => hc (by simp [x])) (fun x => hc (by simp [x])) (fun x => hc (by simp [x])) e
  go := fun elts k pos i T s Q E hm hQ => by
    obtain ⟨hz, hTI, ⟨a, b, hTO⟩, h1, h2, _⟩ := hm
    refine wpAny_letOwnedTupleGo_zip hz fun h' hz' hs' => hQ h' ⟨hz', hs'.extBut _ _ D.TIz hTI, ⟨a, b, hs'.extBut _ _ D.TOz hTO⟩, Draws.off D1 hs' D.z1 h1, Draws.off D2 hs' D.z2 h2⟩ fun c o hc e => hs'.extBut _ _ (fun x => hc (by simp [x])) e
  apart := fun i T h hm hT => by
    obtain ⟨_, _, _, _, _, t1, t2, t3, t4⟩ := hm
    exact nm_cons t1 (nm_cons t2 (nm_cons t3 (nm_cons t4 nm_nil))) hT
  done := fun s Q E hst hQ => by
    obtain ⟨hz, hTI, ⟨a, b, hTO⟩, h1, h2⟩ := hst
    have hend : min n1 n2 = n1 ∨ (min n1 n2 < n1 ∧ min n1 n2 = n2) := (Nat.lt_or_ge n2 n1).elim (fun h => .inr (by rw [Nat.min_eq_right (Nat.le_of_lt h)]; exact ⟨h, rfl⟩)) fun h => .inl (Nat.min_eq_left h)
    have hT : s.TypeIs (.ref z) "zip" := ⟨_, hz, rfl⟩
    unfold pyNext
    refine wpAny_bind (wpAny_attempt (wpAny_callSpecial?_slot (name := Str.ofString "__next__") hT F.slot_zip_next
      (wpAny_call_entry F.slot_zip_next hT F.entry_zip_next (zip_next_endD D D1 D2 hz hTI hTO h1 h2 hend fun h' e tk hk he => ?_) (F.args_zip_next_1 _))))
    obtain ⟨o, ho, hc⟩ := he
    refine wpAny_bind (wpAny_isInstance (T := "StopIteration") (b := true) ⟨o, ho, hc⟩ isSubtype_stop ?_)
    exact wpAny_pure (hQ h' tk fun c o hc e => hk c o (fun x => hc (by simp [x])) (fun x => hc (by simp [x])) (fun x => hc (by simp [x])) (fun x => hc (by simp [x])) e)
  self := fun i s Q E hst hQ => wpAny_pyIter_zip hst.1 hQ
end
end Mine
end
section
open PySem PySem.W PyProof.Rows PySem.Spec PySem.Calls
set_option maxRecDepth 100000
namespace Mine
noncomputable abbrev zsH1 (h : Heap) (o1 : Obj) : Heap := h.push o1
noncomputable abbrev zsH2 (h : Heap) (o1 : Obj) (l2 : Addr) : Heap := (zsH1 h o1).push { cls := .type "list_iterator", data := .fields #[.ref l2, .int 0 0] }
noncomputable abbrev zsH3 (h : Heap) (o1 : Obj) (l2 : Addr) : Heap := (zsH2 h o1 l2).push { cls := .type "tuple", data := .seq #[.ref h.objs.size, .ref (zsH1 h o1).objs.size] }
noncomputable abbrev zsH4 (h : Heap) (o1 : Obj) (l2 : Addr) : Heap := (zsH3 h o1 l2).push { cls := .type "tuple", data := .seq #[.none, .none] }
noncomputable abbrev zsH5 (h : Heap) (o1 : Obj) (l2 : Addr) : Heap := (zsH4 h o1 l2).push { cls := .type "zip", data := .fields #[.none, .bool false, .bool false, .ref (zsH2 h o1 l2).objs.size, .ref (zsH3 h o1 l2).objs.size] }
set_option maxHeartbeats 2000000 in
theorem meets_zip_ol (v : Value) (o1 : Obj) (l2 : Addr) (ys : Array Value) (hstr : ∀ (prog : Program) (w : World) (A : Around) (E : Value → Shared → Prop) (s : Shared) (Q : Value → Shared → Prop), Q (.ref s.heap.objs.size) { s with heap := s.heap.push o1 } → wpAny (model prog w) A (pyIter v) Q E s) :
    Meets (Builtin.«zip.__new__» ⟨[.type "zip", v, .ref l2], []⟩) (fun _ R s => s.heap.IsList l2 ys ∧
      R (.ok (.ret (.ref (zsH4 s.heap o1 l2).objs.size))) { s with heap := zsH5 s.heap o1 l2 }) :=
  .of_wp fun prog w A R s h => by
    obtain ⟨hp, g, d, tk, os⟩ := s; obtain ⟨hl2, h⟩ := h
    have hsub := sub_zip
    have hL2 : Heap.IsList (Shared.heap ⟨zsH1 hp o1, g, d, tk, os⟩) l2 ys := Heap.IsList.push hl2 _
    wp_walk using hstr _ _ _ _ _ _, wpAny_pyIter_list hL2
    exact ⟨_, rfl, h⟩
noncomputable abbrev strIt (x : Str) (t : Tok) : Obj := { cls := .type (strIterType x), data := .fields #[.str x t, .int 0 0] }
section
variable {prog : Program} {w : World} {A : Around} {E : Value → Shared → Prop} {s : Shared}
theorem call_zip_sl {x : Str} {t : Tok} {l2 : Addr} {ys : Array Value} {Q : Value → Shared → Prop} (hl2 : s.heap.IsList l2 ys)
    (h : ∀ h', IsZip h' (s.heap.objs.size + 4) (s.heap.objs.size + 2) (s.heap.objs.size + 3) .none → IsPair h' (s.heap.objs.size + 2) (.ref s.heap.objs.size) (.ref (s.heap.objs.size + 1)) →
      IsPair h' (s.heap.objs.size + 3) .none .none → h'.IsStrIter s.heap.objs.size (strIterType x) x t 0 → h'.IsListIter (s.heap.objs.size + 1) l2 0 → h'.objs.size = s.heap.objs.size + 5 →
      (∀ c o, s.heap.get? c = some o → h'.get? c = some o) → Q (.ref (s.heap.objs.size + 4)) { s with heap := h' }) :
    wpAny (model prog w) A (call (.type "zip") [.str x t, .ref l2]) Q E s := by
  refine callType_new F.called_zip (by decide) (F.typeCall_zip_2 _ _) (F.newCall_zip_2 _ _) (fun obj => F.args_object_init_3 obj _ _) F.entry_zip_new
    (meets_zip_ol (.str x t) (strIt x t) l2 ys fun _ _ _ _ _ _ h => wpAny_pyIter_strU h) ⟨hl2, ?_⟩
  have z1 : (zsH1 s.heap (strIt x t)).objs.size = s.heap.objs.size + 1 := Heap.size_push ..
  have z2 : (zsH2 s.heap (strIt x t) l2).objs.size = s.heap.objs.size + 2 := by rw [Heap.size_push, z1]
  have z3 : (zsH3 s.heap (strIt x t) l2).objs.size = s.heap.objs.size + 3 := by rw [Heap.size_push, z2]
  have z4 : (zsH4 s.heap (strIt x t) l2).objs.size = s.heap.objs.size + 4 := by rw [Heap.size_push, z3]
  have z5 : (zsH5 s.heap (strIt x t) l2).objs.size = s.heap.objs.size + 5 := by rw [Heap.size_push, z4]
  have g5 : (zsH5 s.heap (strIt x t) l2).get? (zsH4 s.heap (strIt x t) l2).objs.size = some _ := Heap.get?_push_size _ rfl
  have g4 : (zsH5 s.heap (strIt x t) l2).get? (zsH3 s.heap (strIt x t) l2).objs.size = some _ := Heap.get?_push_of_some _ (Heap.get?_push_size _ rfl)
  have g3 : (zsH5 s.heap (strIt x t) l2).get? (zsH2 s.heap (strIt x t) l2).objs.size = some _ := Heap.get?_push_of_some _ (Heap.get?_push_of_some _ (Heap.get?_push_size _ rfl))
  have g2 : (zsH5 s.heap (strIt x t) l2).get? (zsH1 s.heap (strIt x t)).objs.size = some _ := Heap.get?_push_of_some _ (Heap.get?_push_of_some _ (Heap.get?_push_of_some _ (Heap.get?_push_size _ rfl)))
  have g1 : (zsH5 s.heap (strIt x t) l2).get? s.heap.objs.size = some _ := Heap.get?_push_of_some _ (Heap.get?_push_of_some _ (Heap.get?_push_of_some _ (Heap.get?_push_of_some _ (Heap.get?_push_size _ rfl))))
  show _ ∧ _
  rw [z2, z3, z4] at g5
  rw [z1, z2] at g3
  rw [z3] at g4
  rw [z1] at g2
  rw [z4]
  exact ⟨⟨_, g5, rfl⟩, h _ g5 g3 g4 ⟨_, g1, rfl, rfl⟩ ⟨_, g2, rfl, rfl⟩ z5 fun c o y =>
    Heap.get?_push_of_some _ (Heap.get?_push_of_some _ (Heap.get?_push_of_some _ (Heap.get?_push_of_some _ (Heap.get?_push_of_some _ y))))⟩
theorem drawsStr {A : Around} (hh : A.handled = none) (it : Addr) (x : Str) (t : Tok) :
    Draws prog w A it [it] x.cps.size (fun i v => ∃ c u, x.cps[i]? = some c ∧ v = .str (chr c) u) (fun i h => h.IsStrIter it (strIterType x) x t i) := by
  unfold strIterType
  cases ha : x.cps.all (· < 128)
  · exact Draws.strWide hh it x t
  · exact Draws.strAscii hh it x t
end
end Mine
end
section
open PySem PySem.W PyProof.Rows PySem.Spec PySem.Calls
set_option maxRecDepth 100000
namespace Mine
section
variable {prog : Program} {w : World} {A : Around} {E : Value → Shared → Prop} {s : Shared} {env : Env} {h₀ : Heap} {body : List Stmt} {Q : Flow → Shared → Prop}
theorem KTurns.wider {prog : Program} {w : World} {A : Around} {target : PySem.Expr} {I : Addr} {fp wr wr' : List Addr} {n : Nat} {P Md : Nat → Value → Heap → Prop} {St : Nat → Heap → Prop} (W : KTurns prog w A target I fp wr n P Md St) (h1 : ∀ b ∈ wr, b ∈ wr') (h2 : ∀ b ∈ wr', b ∈ fp) : KTurns prog w A target I fp wr' n P Md St where
  sub := h2
  frame := W.frame
  item := fun i s Q E hi st hQ => W.item i s Q E hi st fun v h' tk m k => hQ v h' tk m fun b o hb e => k b o (fun q => hb (h1 b q)) e
  go := fun i v s Q E m hQ => W.go i v s Q E m fun h' p st k => hQ h' p st fun b o hb e => k b o (fun q => hb (h1 b q)) e
  done := fun s Q E st hQ => W.done s Q E st fun h' tk k => hQ h' tk fun b o hb e => k b o (fun q => hb (h1 b q)) e
inductive ZPair (x : Str) (ys : List Value) (i : Nat) (v : Value) (h : Heap) : Prop where
  | mk (T : Addr) (c : Nat) (u : Tok) (y : Value) (e : v = .ref T) (hc : x.cps[i]? = some c) (hy : ys.toArray[i]? = some y) (hT : IsTup h T #[.str (chr c) u, y])
theorem zpair {x : Str} {ys : List Value} {i : Nat} {v : Value} {h : Heap} (p : ∃ T vals, v = .ref T ∧ (∃ a y, (∃ c u, x.cps[i]? = some c ∧ a = Value.str (chr c) u) ∧ ys.toArray[i]? = some y ∧ vals = #[a, y]) ∧ IsTup h T vals) : ZPair x ys i v h := by
  obtain ⟨T, vals, e, ⟨a, y, ⟨c, u, hc, rfl⟩, hy, rfl⟩, hT⟩ := p
  exact ⟨T, c, u, y, e, hc, hy, hT⟩
theorem turns_mk {prog : Program} {w : World} {A : Around} {h₀ : Heap} {env : Env} {target : PySem.Expr} {body : List Stmt} {Q : Flow → Shared → Prop} {E : Value → Shared → Prop} {it : Value} {s₂ : Shared}
    (I : Addr) (fp wr : List Addr) (n : Nat) (P Md : Nat → Value → Heap → Prop) (St : Nat → Heap → Prop) (m : Str → Option Value) (news : List (Addr × Obj)) (J : Nat → (Str → Option Value) → List (Addr × Obj) → Prop)
    (c0 : it = .ref I) (c1 : KTurns prog w A target I fp wr n P Md St) (c2 : env.locals ∉ fp) (c3 : ∀ b ∈ wr, h₀.get? b = none) (c4 : ∀ p ∈ news, p.1 ∉ wr) (c5 : St 0 s₂.heap) (c6 : Fr h₀ env.locals s₂.heap m) (c7 : News h₀ env.locals s₂.heap news) (c8 : J 0 m news)
    (c9 : ∀ i v m₁ news₁ h₁ tk₁ own, i < n → P i v h₁ → J i m₁ news₁ → (∀ p ∈ news₁, p.1 ∉ wr) → (∀ p ∈ own, p.1 ∈ fp) → (∀ p ∈ own, h₁.get? p.1 = some p.2) → (∀ b ∈ fp, h₀.get? b = none → ∀ o, h₁.get? b = some o → (b, o) ∈ own) → St (i + 1) h₁ →
      Fr h₀ env.locals h₁ m₁ → News h₀ env.locals h₁ (own ++ news₁) →
      wpAny (model prog w) A (assign target env v) (fun _ s₃ => wpAny (model prog w) A (execs body env)
        (LoopStepV h₀ env.locals wr own (J (i + 1)) { s₂ with heap := h₁, toks := tk₁ } (fun v s' => Q (.ret v) s') fun s' => Q .next s') E s₃) E { s₂ with heap := h₁, toks := tk₁ })
    (c10 : ∀ h' tk m' news', Fr h₀ env.locals h' m' → News h₀ env.locals h' news' → (∀ p ∈ news', p.1 ∉ wr) → J n m' news' → Q .next { s₂ with heap := h', toks := tk }) :
    TurnsAt prog w A h₀ env target body Q E it s₂ := ⟨I, fp, wr, n, P, Md, St, m, news, J, c0, c1, c2, c3, c4, c5, c6, c7, c8, c9, c10⟩
theorem turns_zip_sl {elts : List PySem.Expr} {k : Nat} {pos : Pos} {x : Str} {t : Tok} {l2 : Addr} {ys : List Value} {m₀ : Str → Option Value} {news : List (Addr × Obj)}
    (hh : A.handled = none) (F : Fr h₀ env.locals s.heap m₀) (N : News h₀ env.locals s.heap news) (hl2 : h₀.IsList l2 ys.toArray)
    (J : Nat → (Str → Option Value) → List (Addr × Obj) → Prop) (h0 : J 0 m₀ news)
    (step : ∀ I : Addr, (∀ p ∈ news, p.1 < I) → env.locals < I → ∀ (i c : Nat) (u : Tok) (y : Value) (T : Addr) (m₁ : Str → Option Value) (news₁ own : List (Addr × Obj)) (h₁ : Heap) (tk₁ : Nat),
      x.cps[i]? = some c → ys[i]? = some y → J i m₁ news₁ → (∀ p ∈ news₁, p.1 ∉ [I + 4, I + 2, I + 3, I, I + 1]) → IsTup h₁ T #[.str (chr c) u, y] → (∀ p ∈ own, p.1 ∈ [I + 4, I + 2, I + 3, I, I + 1]) → (∀ b ∈ [I + 4, I + 2, I + 3, I, I + 1], ∃ o, h₁.get? b = some o ∧ PlainOb o) → Fr h₀ env.locals h₁ m₁ → News h₀ env.locals h₁ (own ++ news₁) →
      wpAny (model prog w) A (assign (.Tuple elts k pos) env (.ref T)) (fun _ s₃ => wpAny (model prog w) A (execs body env)
        (LoopStepV h₀ env.locals [I + 4, I + 2, I + 3, I, I + 1] own (J (i + 1)) { s with heap := h₁, toks := tk₁ } (fun v s' => Q (.ret v) s') fun s' => Q .next s') E s₃) E { s with heap := h₁, toks := tk₁ })
    (done : ∀ h' tk m' news', Fr h₀ env.locals h' m' → News h₀ env.locals h' news' → J (min x.cps.size ys.length) m' news' → Q .next { s with heap := h', toks := tk }) :
    wpAny (model prog w) A (call (.type "zip") [.str x t, .ref l2]) (fun xv s₁ => wpAny (model prog w) A (pyIter xv) (fun it s₂ => TurnsAt prog w A h₀ env (.Tuple elts k pos) body Q E it s₂) E s₁) E s := by
  obtain ⟨ol2, hol2⟩ := list_some hl2
  have hls2 : s.heap.IsList l2 ys.toArray := hl2.at fun o e => F.keep l2 o e
  have hlt2 : l2 < s.heap.objs.size := Heap.lt_size (F.keep _ _ hol2)
  have hLs : env.locals < s.heap.objs.size := F.ns.lt
  have hlL : env.locals ≠ l2 := fun e => by
    have := Nat.lt_of_lt_of_le (Heap.lt_size hol2) F.above
    rw [e] at this; exact Nat.lt_irrefl _ this
  refine call_zip_sl hls2 fun h' hz hTI hTO hi1 hi2 hsz hk => ?_
  refine wpAny_pyIter_zip hz ?_
  have D : ZipAp (s.heap.objs.size + 4) (s.heap.objs.size + 2) (s.heap.objs.size + 3) s.heap.objs.size (s.heap.objs.size + 1) [s.heap.objs.size] [s.heap.objs.size + 1, l2] := by
    have q4 : l2 ≠ s.heap.objs.size + 4 := ktu_ne 4 hlt2
    have q3 : l2 ≠ s.heap.objs.size + 3 := ktu_ne 3 hlt2
    have q0 : l2 ≠ s.heap.objs.size := Nat.ne_of_lt hlt2
    have e : ∀ a b : Nat, a ≠ b → @Ne Addr (s.heap.objs.size + a) (s.heap.objs.size + b) := fun a b h q => h (Nat.add_left_cancel q)
    have e0 : ∀ a : Nat, 0 < a → @Ne Addr (s.heap.objs.size + a) s.heap.objs.size := fun a h => Nat.ne_of_gt (Nat.lt_add_of_pos_right h)
    exact ⟨e 2 4 (by decide), e 3 4 (by decide), Ne.symm (e0 4 (by decide)), e 1 4 (by decide), e 2 3 (by decide), e0 2 (by decide), e 2 1 (by decide), e0 3 (by decide), e 3 1 (by decide), Ne.symm (e0 1 (by decide)),
      fun hm => e0 4 (by decide) (List.mem_singleton.mp hm), fun hm => e0 3 (by decide) (List.mem_singleton.mp hm), fun hm => e0 1 (by decide) (List.mem_singleton.mp hm),
      nm_cons (e 4 1 (by decide)) (nm_cons (Ne.symm q4) nm_nil), nm_cons (e 3 1 (by decide)) (nm_cons (Ne.symm q3) nm_nil), nm_cons (Ne.symm (e0 1 (by decide))) (nm_cons (Ne.symm q0) nm_nil)⟩
  have D1 := drawsStr (prog := prog) (w := w) (A := A.in1) hh s.heap.objs.size x t
  have D2 := Draws.list (prog := prog) (w := w) (A := A.in1) hh (s.heap.objs.size + 1) l2 (ktu_ne 1 hlt2) ys.toArray
  have W := zipWalks (A := A) D D1 D2 (.head _) (.head _)
  have hfp : ∀ b, b ∈ ([s.heap.objs.size + 4, s.heap.objs.size + 2, s.heap.objs.size + 3] ++ ([s.heap.objs.size] ++ [s.heap.objs.size + 1, l2]) : List Addr) → s.heap.objs.size ≤ b ∨ b = l2 :=
    all_cons (.inl (Nat.le_add_right _ _)) (all_cons (.inl (Nat.le_add_right _ _)) (all_cons (.inl (Nat.le_add_right _ _)) (all_cons (.inl (Nat.le_refl _)) (all_cons (.inl (Nat.le_add_right _ _)) (all_one (.inr rfl))))))
  have hwr : ∀ b ∈ ([s.heap.objs.size + 4, s.heap.objs.size + 2, s.heap.objs.size + 3, s.heap.objs.size, s.heap.objs.size + 1] : List Addr), s.heap.objs.size ≤ b :=
    all_cons (Nat.le_add_right _ _) (all_cons (Nat.le_add_right _ _) (all_cons (Nat.le_add_right _ _) (all_cons (Nat.le_refl _) (all_one (Nat.le_add_right _ _)))))
  refine turns_mk _ _ _ _ _ _ _ m₀ news J rfl (KTurns.wider (wr' := [s.heap.objs.size + 4, s.heap.objs.size + 2, s.heap.objs.size + 3, s.heap.objs.size, s.heap.objs.size + 1]) (KTurns.ofWalksU W.toU) (by simp) (by simp)) (fun hm => ?_) (fun b hb => Heap.get?_none_of_le (Nat.le_trans F.above (Nat.le_of_lt (Nat.lt_of_lt_of_le hLs (hwr b hb))))) (fun p hp hI => ?_)
    ⟨hz, hTI, ⟨_, _, hTO⟩, hi1, hi2, hls2.at fun o e => hk _ o e⟩ (F.keeps hk) (N.grown hk) h0 ?_ ?_
  · rcases hfp _ hm with h | h
    · exact absurd hLs (Nat.not_lt.mpr h)
    · exact hlL h
  · exact absurd (Heap.lt_size (N p hp).1) (Nat.not_lt.mpr (hwr _ hI))
  · intro i v m₁ news₁ h₁ tk₁ own hi hP hJ hoff hown hget hall hSt F₁ N₁
    obtain ⟨T, c, u, y, rfl, hc, hy, hT⟩ := zpair hP
    refine step s.heap.objs.size (fun p hp => Heap.lt_size (N p hp).1) hLs i c u y T m₁ news₁ own h₁ tk₁ hc (by simpa using hy) hJ hoff hT (fun p hp => ?_) (fun b hb => ?_) F₁ N₁
    · have hm := hown p hp
      exact (List.mem_append.mp (show p.1 ∈ [s.heap.objs.size + 4, s.heap.objs.size + 2, s.heap.objs.size + 3, s.heap.objs.size, s.heap.objs.size + 1] ++ [l2] from hm)).elim id fun h => by
        have := (N₁ p (List.mem_append_left _ hp)).2.2
        rw [List.mem_singleton.mp h, hol2] at this; cases this
    obtain ⟨sz, sTI, ⟨ta, tb, sTO⟩, s1, s2⟩ := hSt
    revert b hb
    refine all_cons ?_ (all_cons ?_ (all_cons ?_ (all_cons ?_ (all_one ?_))))
    · exact ⟨_, sz, fun ps e => (by have := congrArg Obj.cls e; cases this), fun vs q t e h => (by cases e; cases h)⟩
    · exact ⟨_, sTI, fun ps e => (by have := congrArg Obj.cls e; cases this), fun vs q t e h => (by cases e)⟩
    · exact ⟨_, sTO, fun ps e => (by have := congrArg Obj.cls e; cases this), fun vs q t e h => (by cases e)⟩
    · obtain ⟨o, e1, e2, e3⟩ := s1
      exact ⟨o, e1, fun ps e => (by rw [e] at e2; cases e2), fun vs q t e h => (by rw [e3] at e; cases e; cases h)⟩
    · obtain ⟨⟨o, e1, e2, e3⟩, _⟩ := s2
      exact ⟨o, e1, fun ps e => (by rw [e] at e2; cases e2), fun vs q t e h => (by rw [e3] at e; cases e; cases h)⟩
  · rintro h' tk m' news' F' N' _ hJ
    refine done h' tk m' news' F' N' ?_
    simpa using hJ
end
end Mine
end
section
open PySem PySem.W PyProof.Rows PySem.Spec PySem.Calls
namespace Mine
section
variable {prog : Program} {w : World} {A : Around} {s : Shared} {env : Env}
theorem comp_blockG {elt target iter : PySem.Expr} {ifs : List PySem.Expr} {rest : List Comprehension} {scope : Scope} {pos : Pos} {cl : List (Str × Addr)} {R : Value → Addr → Result → Shared → Prop} {it : Value} {s₂ : Shared}
    (hkind : scope.kind = .function) (hcell : ∀ y ∈ scope.names, y.2 ≠ .cell)
    (loop : ∀ (C D : Addr) (h₁ : Heap), s₂.heap.objs.size ≤ D → D < C → (∀ b o, s₂.heap.get? b = some o → h₁.get? b = some o) → h₁.get? D = some (lst [] 0) → h₁.Ns C (fun _ => none) →
      codeAny (model prog w) A (.compLoop (.ListComp elt (⟨target, iter, ifs, 0⟩ :: rest) scope pos) 0 it (.ref D) (compEnvC scope cl C env)) (R (.ref D) C) { s₂ with heap := h₁ })
    (self : ∀ (h₁ : Heap) (Q : Value → Shared → Prop) (E : Value → Shared → Prop), (∀ b o, s₂.heap.get? b = some o → h₁.get? b = some o) → Q it { s₂ with heap := h₁ } → wpAny (model prog w) A (pyIter it) Q E { s₂ with heap := h₁ }) :
    wpAny (model prog w) A (newList []) (fun acc s₃ => wpAny (model prog w) A (newFunctionEnv scope env.globals cl [] env.qual none .none (some env)) (fun cenv s₄ =>
        codeAny (model prog w) A (.compStart (.ListComp elt (⟨target, iter, ifs, 0⟩ :: rest) scope pos) 0 it acc { cenv with scope := relabel scope env }) (R acc cenv.locals) s₄) (fun _ _ => False) s₃) (fun _ _ => False) s₂ := by
  refine wpAny_newObj_type (wpAny_newFunctionEnv hcell (by intro y hy; simp at hy) (fun h₁ hns₁ hsb₁ => ?_) hkind)
  dsimp only at hns₁ hsb₁ ⊢
  generalize hH2 : s₂.heap.push { cls := .type "list", dict := none, data := .seq ([] : List Value).toArray } = H2 at hns₁ hsb₁ ⊢
  have hC : H2.objs.size = s₂.heap.objs.size + 1 := by rw [← hH2, Heap.size_push]
  have hDC : s₂.heap.objs.size ≠ H2.objs.size := by rw [hC]; exact Nat.ne_of_lt (Nat.lt_succ_self _)
  have below : ∀ b, b < s₂.heap.objs.size → b ≠ H2.objs.size := fun b hb => by rw [hC]; exact Nat.ne_of_lt (Nat.lt_succ_of_lt hb)
  have old : ∀ b o, s₂.heap.get? b = some o → h₁.get? b = some o := fun b o e => hsb₁.extBut b o (below b (Heap.lt_size e)) (Heap.get?_push_of_some _ (hH2 ▸ Heap.get?_push_of_some _ e))
  have hacc : h₁.get? s₂.heap.objs.size = some (lst [] 0) := hsb₁.extBut _ _ hDC (Heap.get?_push_of_some _ (hH2 ▸ Heap.get?_push_size _ rfl))
  have key := loop H2.objs.size s₂.heap.objs.size h₁ (Nat.le_refl _) (by rw [hC]; exact Nat.lt_succ_self _) old hacc hns₁
  exact codeAny_compStart_list key (self h₁ _ _ old key)
inductive CompAtT (B : Heap → Prop) (prog : Program) (w : World) (A : Around) (env : Env) (elt : PySem.Expr) (xa xb : Str) (tgt : PySem.Expr) (scope : Scope) (cl : List (Str × Addr)) (Q : Value → Shared → Prop) (it : Value) (s₂ : Shared) : Prop where
  | mk (It : Addr) (fp wr : List Addr) (n : Nat) (P Md : Nat → Value → Heap → Prop) (St : Nat → Heap → Prop) (PP : Nat → Value → Value → Prop) (hB : Heap) (news : List (Addr × Obj)) (J : Nat → List Value → List (Addr × Obj) → Prop) (c0 : it = .ref It) (c1 : KTurns prog w A tgt It fp wr n P Md St) (c2 : (∀ i v h, hB.StaysIn h → P i v h → ∃ T x y, v = .ref T ∧ h.IsTuple T #[x, y] ∧ PP i x y)) (c3 : (∀ i (s : Shared) (Q : Value → Shared → Prop) (E : Value → Shared → Prop), St i s.heap → Q (.ref It) s → wpAny (model prog w) A (pyIter (.ref It)) Q E s)) (c4 : B hB) (c5 : hB.StaysIn s₂.heap) (c6 : hB.objs.size ≤ s₂.heap.objs.size) (c7 : (∀ b ∈ fp, b < s₂.heap.objs.size)) (c8 : (∀ b ∈ wr, hB.get? b = none)) (c9 : St 0 s₂.heap) (c10 : (∀ p ∈ news, s₂.heap.get? p.1 = some p.2 ∧ hB.get? p.1 = none ∧ p.1 ∉ wr)) (c11 : J 0 [] news) (c12 : n ≤ 1000) (c13 : (∀ (C D : Addr) (i : Nat) (x y : Value) (m₁ : Str → Option Value) (ys : List Value) (ep : Nat) (news₁ own : List (Addr × Obj)) (h : Heap) (tk : Nat), s₂.heap.objs.size ≤ D → D < C → i < n → PP i x y → J i ys news₁ → ys.length = i → (∀ p ∈ own, p.1 ∈ fp) → (∀ p ∈ news₁, p.1 ≠ D ∧ p.1 ∉ wr) → St (i + 1) h →
      Fr hB C h (fun z => if z = xb then some y else if z = xa then some x else m₁ z) → News hB C h ((D, lst ys ep) :: (news₁ ++ own)) →
      wpAny (model prog w) A (eval elt (compEnvC scope cl C env)) (EltEnd hB C D wr ys ep own (J (i + 1)) { s₂ with heap := h, toks := tk }) (fun _ _ => False) { s₂ with heap := h, toks := tk })) (c14 : (∀ D h' tk ys ep news', hB.StaysIn h' → (∀ p ∈ (D, lst ys ep) :: news', h'.get? p.1 = some p.2 ∧ hB.get? p.1 = none) → s₂.heap.get? D = none → ys.length = n → J n ys news' → Q (.ref D) { s₂ with heap := h', toks := tk }))
theorem comp_loopT {elt iter : PySem.Expr} {xa xb : Str} {pa pb tp : Pos} {kk : Nat} {scope : Scope} {pos : Pos} {It C D : Addr} {fp wr : List Addr} {n : Nat} {P Md : Nat → Value → Heap → Prop} {St : Nat → Heap → Prop} {PP : Nat → Value → Value → Prop} {cenv : Env} {hB : Heap} {m : Str → Option Value} {news : List (Addr × Obj)} {R : Result → Shared → Prop}
    (J : Nat → List Value → List (Addr × Obj) → Prop) (W : KTurns prog w A (.Tuple [.Name xa pa, .Name xb pb] kk tp) It fp wr n P Md St) (hP : ∀ i v h, hB.StaysIn h → P i v h → ∃ T x y, v = .ref T ∧ h.IsTuple T #[x, y] ∧ PP i x y)
    (hh : A.handled = none) (hxa : cenv.kindOf xa = some .local) (hxb : cenv.kindOf xb = some .local) (hp : (cenv.scope.kind == .class || (cenv.scope.kind == .module && cenv.locals != cenv.globals)) = false) (hC : cenv.locals = C)
    (hCf : C ∉ fp) (hDf : D ∉ fp) (hwr : ∀ b ∈ wr, hB.get? b = none) (hst : St 0 s.heap) (F : Fr hB C s.heap m) (N : News hB C s.heap ((D, lst [] 0) :: news)) (hnw : ∀ p ∈ news, p.1 ≠ D ∧ p.1 ∉ wr) (hj : J 0 [] news) (hn : n ≤ 1000)
    (helt : ∀ (i : Nat) (x y : Value) (m₁ : Str → Option Value) (ys : List Value) (ep : Nat) (news₁ own : List (Addr × Obj)) (h : Heap) (tk : Nat), i < n → PP i x y → J i ys news₁ → ys.length = i → (∀ p ∈ own, p.1 ∈ fp) → (∀ p ∈ news₁, p.1 ≠ D ∧ p.1 ∉ wr) → St (i + 1) h → Fr hB C h (fun z => if z = xb then some y else if z = xa then some x else m₁ z) → News hB C h ((D, lst ys ep) :: (news₁ ++ own)) →
      wpAny (model prog w) A (eval elt cenv) (EltEnd hB C D wr ys ep own (J (i + 1)) { s with heap := h, toks := tk }) (fun _ _ => False) { s with heap := h, toks := tk })
    (hR : ∀ h' tk m' ys ep news', Fr hB C h' m' → News hB C h' ((D, lst ys ep) :: news') → ys.length = n → J n ys news' → R (.ok .next) { s with heap := h', toks := tk }) :
    codeAny (model prog w) A (.compLoop (.ListComp elt [⟨.Tuple [.Name xa pa, .Name xb pb] kk tp, iter, [], 0⟩] scope pos) 0 (.ref It) (.ref D) cenv) R s := by
  subst hC
  refine LCp.codeAny_compLoop_pair (CompInv hB cenv.locals D wr n St J s) ?_ (n + 1) ⟨0, s.heap, s.toks, m, [], 0, news, rfl, Nat.zero_le _, rfl, hst, F, N, hnw, rfl, hj⟩
  rintro k s' ⟨i, h', tk, m', ys, ep, news', rfl, hi, rfl, hst', F', N', hnw', hys, hJ⟩
  have hDw : D ∉ wr := fun h => hDf (W.sub _ h)
  have hCw : cenv.locals ∉ wr := fun h => hCf (W.sub _ h)
  have old : ∀ b o, hB.get? b = some o → b ∉ wr := fun b o e hb => by rw [hwr b hb] at e; cases e
  have next : ∀ h₁ : Heap, (∀ b o, b ∉ wr → h'.get? b = some o → h₁.get? b = some o) → Fr hB cenv.locals h₁ m' ∧ News hB cenv.locals h₁ ((D, lst ys ep) :: news') := fun h₁ hk =>
    ⟨⟨F'.ns.at' fun o e => hk _ o hCw e, fun b o e => hk b o (old b o e) (F'.keep b o e), F'.above⟩, fun p hp => ⟨hk _ _ (by
      revert p hp
      refine all_cons ?_ ?_
      · exact hDw
      · intro p hp
        exact (hnw' p hp).2) (N' p hp).1, (N' p hp).2⟩⟩
  have hDC : D ≠ cenv.locals := (N' _ (.head _)).2.1
  by_cases hlt : i < n
  · refine W.item i _ _ _ hlt hst' fun v h₁ tk₁ hMd hk₁ => ?_
    refine W.go i v _ _ _ hMd fun h₁' hPv hst₁ hk₁' => ?_
    obtain ⟨F₁, N₁⟩ := next h₁' fun b o hb e => hk₁' b o hb (hk₁ b o hb e)
    obtain ⟨T, x, y, rfl, hT, hPP⟩ := hP i v h₁' F₁.keep hPv
    refine kcp_assign hh hT hxa hxb hp F₁.ns fun h₂ tk₂ hn₂ hs₂ => ?_
    have hs₂' : ∀ c o, c ≠ cenv.locals → h₁'.get? c = some o → h₂.get? c = some o := hs₂
    have F₂ : Fr hB cenv.locals h₂ (fun z => if z = xb then some y else if z = xa then some x else m' z) := ⟨hn₂, fun b o e => hs₂ b o (fun q => by
      have := Heap.get?_none_of_le (h := hB) F₁.above
      rw [q, this] at e; cases e) (F₁.keep b o e), F₁.above⟩
    have N₂ : News hB cenv.locals h₂ ((D, lst ys ep) :: news') := fun p hp => ⟨hs₂ _ _ (N₁ p hp).2.1 (N₁ p hp).1, (N₁ p hp).2⟩
    have hst₂ : St (i + 1) h₂ := W.frame _ _ _ hst₁ fun b hb o e => hs₂ b o (fun q => hCf (q ▸ hb)) e
    have Nown : News hB cenv.locals h₂ (ownOf hB fp h₂) := news_ownOf hCf
    have N₃ : News hB cenv.locals h₂ ((D, lst ys ep) :: (news' ++ ownOf hB fp h₂)) := fun p hp => by
      revert p hp
      refine all_cons ?_ ?_
      · exact N₂ _ (.head _)
      · intro p hp
        rcases List.mem_append.mp hp with hp | hp
        · exact N₂ _ (.tail _ hp)
        · exact Nown _ hp
    refine wpAny_mono (helt i x y m' ys ep news' (ownOf hB fp h₂) h₂ _ hlt hPP hJ hys ownOf_sub hnw' hst₂ F₂ N₃) (fun z s₄ h₄ => ?_) fun _ _ e => e.elim
    obtain ⟨h₄', tk₄, m₄, news₄, rfl, F₄, N₄, hnw₄, hJ₄⟩ := h₄
    refine append_at (N₄ _ (.head _)).1 (fun h₅ hs₅ ho₅ => ?_) (by simp only [List.size_toArray]; rw [sizeLine_eq]; omega)
    have hoff : ∀ p ∈ news₄ ++ ownOf hB fp h₂, p.1 ≠ D := fun p hp => by
      rcases List.mem_append.mp hp with hp | hp
      · exact (hnw₄ p hp).1
      · exact fun e => hDf (e ▸ ownOf_sub p hp)
    have F₅ := F₄.change hs₅ (N₄ _ (.head _)).2.1 (N₄ _ (.head _)).2.2
    have N₅ := N₄.setHead hoff hs₅ ho₅
    refine ⟨n + 1 - (i + 1), ar_step hlt, i + 1, h₅, _, m₄, ys ++ [z], ep + 1, news₄, rfl, hlt, rfl, ?_, F₅, ?_, hnw₄, by simp [hys], hJ₄⟩
    · refine W.frame _ _ _ hst₂ fun b hb o e₂ => ?_
      cases hn' : hB.get? b with
      | some o₀ =>
        have : o₀ = o := by have := F₂.keep b o₀ hn'; rw [e₂] at this; exact (Option.some.inj this).symm
        exact this ▸ F₅.keep b o₀ hn'
      | none => exact (N₅ _ (.tail _ (List.mem_append_right _ (mem_ownOf hb hn' e₂)))).1
    · intro p hp
      revert p hp
      refine all_cons ?_ ?_
      · have := N₅ _ (.head _)
        simpa [lst] using this
      · intro p hp
        exact N₅ _ (.tail _ (List.mem_append_left _ hp))
  · have hin : i = n := by omega
    subst hin
    refine W.done _ _ _ hst' fun h₁ tk₁ hk₁ => ?_
    obtain ⟨F₁, N₁⟩ := next h₁ hk₁
    exact hR h₁ tk₁ m' ys ep news' F₁ N₁ hys hJ
theorem comp_blockT {B : Heap → Prop} {elt iter : PySem.Expr} {xa xb : Str} {pa pb tp : Pos} {kk : Nat} {scope : Scope} {pos : Pos} {cl : List (Str × Addr)} {Q Q' : Value → Shared → Prop} {use : Option (Value → Sem Unit)} {it : Value} {s₂ : Shared} (hh : A.handled = none)
    (hkind : scope.kind = .function) (hcell : ∀ y ∈ scope.names, y.2 ≠ .cell) (hxa : scope.names.lookup xa = some .local) (hxb : scope.names.lookup xb = some .local)
    (h₂ : CompAtT B prog w A env elt xa xb (.Tuple [.Name xa pa, .Name xb pb] kk tp) scope cl Q it s₂)
    (fin : ∀ (hB : Heap) (C D : Addr) (h' : Heap) (tk : Nat) (m' : Str → Option Value) (ys : List Value) (ep : Nat) (news' : List (Addr × Obj)), B hB → C ≠ D → Fr hB C h' m' → News hB C h' ((D, lst ys ep) :: news') →
      (∀ h'' tk'', hB.StaysIn h'' → (∀ p ∈ (D, lst ys ep) :: news', h''.get? p.1 = some p.2 ∧ hB.get? p.1 = none) → Q (.ref D) { s₂ with heap := h'', toks := tk'' }) →
      compPost (model prog w) A (fun _ _ => False) use Q' (.ref D) C (.ok .next) { s₂ with heap := h', toks := tk }) :
    wpAny (model prog w) A (newList []) (fun acc s₃ => wpAny (model prog w) A (newFunctionEnv scope env.globals cl [] env.qual none .none (some env)) (fun cenv s₄ =>
        codeAny (model prog w) A (.compStart (.ListComp elt [⟨.Tuple [.Name xa pa, .Name xb pb] kk tp, iter, [], 0⟩] scope pos) 0 it acc { cenv with scope := relabel scope env }) (compPost (model prog w) A (fun _ _ => False) use Q' acc cenv.locals) s₄) (fun _ _ => False) s₃) (fun _ _ => False) s₂ := by
  obtain ⟨It, fp, wr, n, P, Md, St, PP, hB, news, J, rfl, W, hP, hself, hBB, hst, hsz, hfp, hwr, hS, hN, hj, hn, helt, hdone⟩ := h₂
  refine comp_blockG hkind hcell (fun C D h₁ hD hDC old hacc hns => ?_) (fun h₁ Q₁ E₁ old q => hself 0 _ _ _ (W.frame _ _ _ hS fun b _ o e => old b o e) q)
  have freshB : ∀ a, s₂.heap.objs.size ≤ a → hB.get? a = none := fun a ha => Heap.get?_none_of_le (Nat.le_trans hsz ha)
  have DC : D ≠ C := Nat.ne_of_lt hDC
  have hDs : ∀ b, b < s₂.heap.objs.size → b ≠ D ∧ b ≠ C := fun b hb => ⟨Nat.ne_of_lt (Nat.lt_of_lt_of_le hb hD), Nat.ne_of_lt (Nat.lt_trans (Nat.lt_of_lt_of_le hb hD) hDC)⟩
  have F₁ : Fr hB C h₁ (fun _ => none) := ⟨hns, fun b o e => old b o (hst b o e), Nat.le_trans hsz (Nat.le_trans hD (Nat.le_of_lt hDC))⟩
  have N₁ : News hB C h₁ ((D, lst [] 0) :: news) := fun p hp => by
    revert p hp
    refine all_cons ?_ ?_
    · exact ⟨hacc, DC, freshB _ hD⟩
    · intro p hp
      exact ⟨old _ _ (hN p hp).1, (hDs _ (Heap.lt_size (hN p hp).1)).2, (hN p hp).2.1⟩
  refine comp_loopT (cenv := compEnvC scope cl C env) J W hP hh (lookup_relabel_local hxa) (lookup_relabel_local hxb) (by simp [compEnvC, relabel, hkind]) rfl (fun hm => ?_) (fun hm => ?_) hwr (W.frame _ _ _ hS fun b _ o e => old b o e) F₁ N₁
    (fun p hp => ⟨(hDs _ (Heap.lt_size (hN p hp).1)).1, (hN p hp).2.2⟩) hj hn (fun i x y m₁ ys ep news₁ own h tk hi hPP hJ hys ho hnw hst' F N => ?_) (fun h' tk m' ys ep news' F' N' hys hJ => ?_)
  · exact (hDs _ (hfp _ hm)).2 rfl
  · exact (hDs _ (hfp _ hm)).1 rfl
  · exact helt C D i x y m₁ ys ep news₁ own h tk hD hDC hi hPP hJ hys ho hnw hst' F N
  · exact fin hB C D h' tk m' ys ep news' hBB (Ne.symm DC) F' N' fun h'' tk'' k1 k2 => hdone _ h'' tk'' ys ep news' k1 k2 (Heap.get?_none_of_le hD) hys hJ
theorem comp_assignT {elt iter : PySem.Expr} {xa xb y : Str} {pa pb tp py : Pos} {kk : Nat} {scope : Scope} {pos spos : Pos} {cl : List (Str × Addr)} {m₀ : Str → Option Value} {Q : Flow → Shared → Prop} (hh : A.handled = none)
    (hsw : swapsWith (.ListComp elt [⟨.Tuple [.Name xa pa, .Name xb pb] kk tp, iter, [], 0⟩] scope pos) (some (.Name y py)) spos.line env = pure true)
    (hclos : closureFor scope env = pure cl) (hkind : scope.kind = .function) (hcell : ∀ y ∈ scope.names, y.2 ≠ .cell) (hnames : ∀ x ∈ scope.names, x.2 = .local → scope.names.lookup x.1 = some .local) (hxa : scope.names.lookup xa = some .local) (hxb : scope.names.lookup xb = some .local)
    (hy : env.kindOf y = some .local) (hp : (env.scope.kind == .class || (env.scope.kind == .module && env.locals != env.globals)) = false)
    (h : wpAny (model prog w) A (eval iter env) (fun xv s₁ => wpAny (model prog w) A (pyIter xv) (fun it s₂ => CompAtT (fun hB => hB.Ns env.locals m₀) prog w A env elt xa xb (.Tuple [.Name xa pa, .Name xb pb] kk tp) scope cl
      (fun v s' => ∀ h₂ tk₂, h₂.Ns env.locals (fun z => if z = y then some v else m₀ z) → Heap.SameBut env.locals s'.heap h₂ → Q .next { s' with heap := h₂, toks := tk₂ }) it s₂) (fun _ _ => False) s₁) (fun _ _ => False) s)
    (hs : ∀ x, foldedSetIterable iter env x = pure x := by intro _; rfl) :
    wpAny (model prog w) A (exec (.Assign [.Name y py] (.ListComp elt [⟨.Tuple [.Name xa pa, .Name xb pb] kk tp, iter, [], 0⟩] scope pos) spos) env) Q (fun _ _ => False) s := by
  rw [exec_Assign_Name_used _ _ _ _ hsw]
  refine wpAny_bind (wpAny_standAt (wpAny_bind ?_))
  show wpAny _ A (do let _ ← comprehension (.ListComp elt [⟨.Tuple [.Name xa pa, .Name xb pb] kk tp, iter, [], 0⟩] scope pos) scope env _ (newList []) false (eval iter env) (some (assign (.Name y py) env))) _ _ s
  refine wpAny_bind (wpAny_mono (wpAny_comprehension_free (use := some (assign (.Name y py) env)) (Q := fun _ s' => Q .next s') rfl hs hclos hkind hnames
    (wpAny_mono h (fun xv s₁ h₁ => wpAny_mono h₁ (fun it s₂ h₂ => ?_) fun _ _ e => e) fun _ _ e => e)) (fun _ s' hq => wpAny_pure (wpAny_pure hq)) fun _ _ e => e)
  refine comp_blockT hh hkind hcell hxa hxb h₂ fun hB C D h' tk m' ys ep news' hBn hCD F' N' go => ?_
  show wpAny _ A (assign (.Name y py) env (.ref D)) _ _ _
  obtain ⟨oL, _, _, hoL, _⟩ := id hBn
  have hBC : hB.get? C = none := Heap.get?_none_of_le F'.above
  have hLC : env.locals ≠ C := fun e => by rw [e, hBC] at hoL; cases hoL
  have hoL' := F'.keep _ _ hoL
  refine wpAny_assign_Name (wpAny_storeName_local hy (hBn.keeps F'.keep) (fun h₂ hn₂ hs₂ => ?_) hp)
  refine ⟨m', F'.ns.sameBut hs₂ (Ne.symm hLC), fun h₃ hs₃ => ?_⟩
  have hsome : ∃ o, h₃.get? env.locals = some o := by
    obtain ⟨o, _, _, ho, _⟩ := id hn₂
    exact ⟨o, (hs₃.2 _ hLC).trans ho⟩
  obtain ⟨o₃, ho₃⟩ := hsome
  have hup : (h₃.update env.locals fun _ => oL).get? env.locals = some oL := Heap.get?_update_self _ ho₃ (Heap.get?_some_iff.mp hoL).2
  have oth : ∀ b, b ≠ env.locals → b ≠ C → (h₃.update env.locals fun _ => oL).get? b = h'.get? b := fun b hb hc => by
    rw [Heap.get?_update_other _ _ (Ne.symm hb), hs₃.2 b hc, hs₂.2 b hb]
  have key := go (h₃.update env.locals fun _ => oL) tk (fun b o e => ?_) (fun p hp => ?_)
  · exact key h₃ _ (hn₂.sameBut hs₃ hLC) ⟨by cases h₃; simp [Heap.update], fun b hb => (Heap.get?_update_other _ _ (Ne.symm hb)).symm⟩
  · by_cases hb : b = env.locals
    · subst hb; rw [hup]; rw [hoL] at e; exact e
    · rw [oth b hb (fun q => by rw [q, hBC] at e; cases e)]; exact F'.keep b o e
  · have hpL : p.1 ≠ env.locals := fun e => by have := (N' p hp).2.2; rw [e, hoL] at this; cases this
    exact ⟨(oth _ hpL (N' p hp).2.1).trans (N' p hp).1, (N' p hp).2.2⟩
end
end Mine
end
section
open PySem PySem.W PyProof.Rows PySem.Spec PySem.Calls
set_option maxRecDepth 100000
namespace Mine
section
variable {prog : Program} {w : World} {A : Around} {E : Value → Shared → Prop} {s : Shared}
theorem tup_next {it t : Addr} {i : Nat} {items} {Q : Value → Shared → Prop} (hit : s.heap.IsTupleIter it t i) (ht : s.heap.IsTuple t items) (hi : i < items.size)
    (hQ : ∀ h', h'.IsTupleIter it t (i + 1) → Heap.SameBut it s.heap h' → Q items[i] { s with heap := h' }) :
    wpAny (model prog w) A (Builtin.SmallTypes.nextOf (.ref it)) Q E s := by
  obtain ⟨o, ho, hc, hd⟩ := id hit
  obtain ⟨ol, hol, _, nl, hdl⟩ := ht
  have hx : items[i]? = some items[i] := Array.getElem?_eq_getElem hi
  unfold Builtin.SmallTypes.nextOf
  refine wpAny_bind (wpAny_callSpecial?_slot (name := Str.ofString "__next__") hit.typeIs F.slot_tuple_iterator_next
    (wpAny_call_entry F.slot_tuple_iterator_next hit.typeIs F.entry_tuple_iterator_next ?_ (F.args_tuple_iterator_next_1 _)))
  show wpAny _ _ (field (.ref it) 0 >>= _) _ _ s
  refine wpAny_bind (wpAny_field ho hd (x := .ref t) rfl ?_)
  show wpAny _ _ (if (Value.ref t == Value.none) = true then _ else _) _ _ s
  rw [if_neg (show ¬ ((Value.ref t == Value.none) = true) from Bool.false_ne_true)]
  show wpAny _ _ (field (.ref it) 1 >>= _) _ _ s
  refine wpAny_bind (wpAny_field ho hd (x := .int i 0) rfl ?_)
  show wpAny _ _ (seqItems? (.ref t) >>= _) _ _ s
  refine wpAny_bind (wpAny_seqItems hol hdl ?_)
  simp only [Int.toNat_natCast, hx]
  refine wpAny_bind (wpAny_setField ho hd (by simp) (wpAny_pure ⟨_, rfl, wpAny_pure (hQ _ ?_ (Heap.SameBut.update ..))⟩))
  exact ⟨_, Heap.get?_update_self _ ho (Obj.isFreed_of_fields (Obj.data_mapFields hd _)), (Obj.cls_mapFields ..).trans hc, by
    rw [Obj.data_mapFields hd]; simp [rawInt]⟩
theorem tup_stop {it t : Addr} {items} {Q : Value → Shared → Prop} (hh : A.handled = none) (hit : s.heap.IsTupleIter it t items.size) (ht : s.heap.IsTuple t items)
    (hE : ∀ h' e, Heap.ExtBut it s.heap h' → (∃ o, h'.get? e = some o ∧ o.cls = .type "StopIteration") → E (.ref e) { s with heap := h' }) :
    wpAny (model prog w) A (Builtin.SmallTypes.nextOf (.ref it)) Q E s := by
  obtain ⟨o, ho, hc, hd⟩ := id hit
  obtain ⟨ol, hol, _, nl, hdl⟩ := ht
  have hx : items[items.size]? = none := by simp
  unfold Builtin.SmallTypes.nextOf
  refine wpAny_bind (wpAny_callSpecial?_slot (name := Str.ofString "__next__") hit.typeIs F.slot_tuple_iterator_next
    (wpAny_call_entry F.slot_tuple_iterator_next hit.typeIs F.entry_tuple_iterator_next ?_ (F.args_tuple_iterator_next_1 _)))
  show wpAny _ _ (field (.ref it) 0 >>= _) _ _ s
  refine wpAny_bind (wpAny_field ho hd (x := .ref t) rfl ?_)
  show wpAny _ _ (if (Value.ref t == Value.none) = true then _ else _) _ _ s
  rw [if_neg (show ¬ ((Value.ref t == Value.none) = true) from Bool.false_ne_true)]
  show wpAny _ _ (field (.ref it) 1 >>= _) _ _ s
  refine wpAny_bind (wpAny_field ho hd (x := .int items.size 0) rfl ?_)
  show wpAny _ _ (seqItems? (.ref t) >>= _) _ _ s
  refine wpAny_bind (wpAny_seqItems hol hdl ?_)
  simp only [Int.toNat_natCast, hx]
  refine wpAny_bind (wpAny_rule (wpAny_bind (wpAny_setField ho hd (by simp) ?_)))
  show wpAny _ _ (newExc (.type "StopIteration") [] >>= _) _ _ _
  refine wpAny_bind ?_
  simp only [newExc, newTuple]
  refine wpAny_bind (wpAny_newObj_type ?_ (by size_fits))
  refine wpAny_bind (m := firstArgMember _ _) (wpAny_of_eq (a := Value.none) (by first | rfl | (simp only [firstArgMember]; rfl)) ?_)
  refine wpAny_newObj_type ?_ (by size_fits)
  simp only [raiseNew]
  refine wpAny_bind (wpAny_handled ?_)
  first | rw [show A.in1.handled = none from hh] | rw [hh]
  refine wpAny_bind (wpAny_pure (wpAny_throw ?_))
  exact hE _ _ (((Heap.SameBut.update ..).extBut.push _).push _) ⟨_, Heap.get?_push_size _ rfl, rfl⟩
theorem drawsTup (hh : A.handled = none) (it t : Addr) (hne : t ≠ it) (items : Array Value) :
    Draws prog w A it [it, t] items.size (fun i v => items[i]? = some v) (fun i h => h.IsTupleIter it t i ∧ h.IsTuple t items) where
  live := fun _ _ st => let ⟨o, ho, _⟩ := st.1; ⟨o, ho⟩
  frame := fun _ _ _ st hk => by
    obtain ⟨⟨o, ho, r⟩, ⟨o', ho', r'⟩⟩ := st
    exact ⟨⟨o, hk it (by simp) _ ho, r⟩, ⟨o', hk t (by simp) _ ho', r'⟩⟩
  item := fun i s Q E hi st hQ => tup_next st.1 st.2 hi fun h' hit' hs' => hQ _ h' s.toks (by simp [hi]) ⟨hit', st.2.extBut hs'.extBut hne⟩ hs'
  done := fun s Q E st hE => tup_stop hh st.1 st.2 hE
set_option maxHeartbeats 2000000 in
theorem meets_enum (v : Value) (o1 : Obj) (S : Heap → Prop) (hstr : ∀ (prog : Program) (w : World) (A : Around) (E : Value → Shared → Prop) (s : Shared) (Q : Value → Shared → Prop), Q (.ref s.heap.objs.size) { s with heap := s.heap.push o1 } → S s.heap → wpAny (model prog w) A (pyIter v) Q E s) :
    Meets (Builtin.«enumerate.__new__» ⟨[.type "enumerate", v], []⟩) (fun _ R s => S s.heap ∧
      R (.ok (.ret (.ref (s.heap.push o1).objs.size)))
        { s with heap := (s.heap.push o1).push { cls := .type "enumerate", data := .fields #[.none, .bool false, .ref s.heap.objs.size, rawInt 0, .none, .none] } }) :=
  .of_wp fun prog w A R s h => by
    obtain ⟨hp, g, d, tk, os⟩ := s; obtain ⟨ht, h⟩ := h
    have hsub := sub_enumerate
    have hstr' := fun A E Q q => hstr prog w A E ⟨hp, g, d, tk, os⟩ Q q ht
    wp_walk
    refine wpAny_stack_any fun st => wpAny_pure ?_
    split
    · rename_i c _ _ _ _ _
      cases (c == Value.type "enumerate")
      · wp_walk using hstr' _ _ _
        exact ⟨_, rfl, h⟩
      · wp_walk using hstr' _ _ _
        exact ⟨_, rfl, h⟩
    · wp_walk using hstr' _ _ _
      exact ⟨_, rfl, h⟩
theorem call_enum_tup {t : Addr} {items : Array Value} {Q : Value → Shared → Prop} (ht : s.heap.IsTuple t items)
    (h : ∀ h', IsEnum h' (s.heap.objs.size + 1) s.heap.objs.size 0 .none → h'.IsTupleIter s.heap.objs.size t 0 → h'.objs.size = s.heap.objs.size + 2 →
      (∀ b o, s.heap.get? b = some o → h'.get? b = some o) → Q (.ref (s.heap.objs.size + 1)) { s with heap := h' }) :
    wpAny (model prog w) A (call (.type "enumerate") [.ref t]) Q E s := by
  refine callType_new F.called_enumerate (by decide) (F.typeCall_enumerate_1 _) (F.newCall_enumerate_1 _) (fun obj => F.args_object_init_2 obj _) F.entry_enumerate_new
    (meets_enum (.ref t) { cls := .type "tuple_iterator", data := .fields #[.ref t, .int 0 0] } (fun h => h.IsTuple t items) fun prog w A E s Q q hx => wpAny_pyIter_tuple hx q) ⟨ht, ?_⟩
  have hz : (s.heap.push { cls := .type "tuple_iterator", data := .fields #[.ref t, .int 0 0] }).objs.size = s.heap.objs.size + 1 := Heap.size_push ..
  show _ ∧ _
  rw [hz]
  have he := Heap.get?_push_size (s.heap.push { cls := .type "tuple_iterator", data := .fields #[.ref t, .int 0 0] })
    (o := { cls := .type "enumerate", data := .fields #[.none, .bool false, .ref s.heap.objs.size, rawInt 0, .none, .none] }) rfl
  rw [hz] at he
  exact ⟨⟨_, he, rfl⟩, h _ he ⟨_, Heap.get?_push_of_some _ (Heap.get?_push_size _ rfl), rfl, rfl⟩ (by rw [Heap.size_push, hz]) fun b o x => Heap.get?_push_of_some _ (Heap.get?_push_of_some _ x)⟩
theorem compAtT_enumTup {B : Heap → Prop} {env : Env} {elt : PySem.Expr} {xa xb : Str} {pa pb tp : Pos} {kk : Nat} {scope : Scope} {cl : List (Str × Addr)} {Q : Value → Shared → Prop} {e it t : Addr} {items : Array Value} (hh : A.handled = none)
    (ht : s.heap.IsTuple t items) (he : IsEnum s.heap e it 0 .none) (hit : s.heap.IsTupleIter it t 0) (hei : e ≠ it) (hte : t ≠ e) (hti : t ≠ it) (hB : Heap) (hst : hB.StaysIn s.heap) (hsz : hB.objs.size ≤ s.heap.objs.size) (eB : hB.get? e = none) (iB : hB.get? it = none)
    (J : Nat → List Value → List (Addr × Obj) → Prop) (hj : J 0 [] []) (hn : items.size ≤ 1000)
    (helt : ∀ (C D : Addr) (i : Nat) (ti : Tok) (y : Value) (m₁ : Str → Option Value) (ys : List Value) (ep : Nat) (news₁ own : List (Addr × Obj)) (h : Heap) (tk : Nat), s.heap.objs.size ≤ D → D < C → i < items.size → items[i]? = some y → J i ys news₁ → ys.length = i → (∀ p ∈ own, p.1 ∈ e :: [it, t]) → (∀ p ∈ news₁, p.1 ≠ D ∧ p.1 ∉ [e, it]) →
      Fr hB C h (fun z => if z = xb then some y else if z = xa then some (.int i ti) else m₁ z) → News hB C h ((D, lst ys ep) :: (news₁ ++ own)) →
      wpAny (model prog w) A (eval elt (compEnvC scope cl C env)) (EltEnd hB C D [e, it] ys ep own (J (i + 1)) { s with heap := h, toks := tk }) (fun _ _ => False) { s with heap := h, toks := tk })
    (hdone : ∀ D h' tk ys ep news', hB.StaysIn h' → (∀ p ∈ (D, lst ys ep) :: news', h'.get? p.1 = some p.2 ∧ hB.get? p.1 = none) → s.heap.get? D = none → ys.length = items.size → J items.size ys news' → Q (.ref D) { s with heap := h', toks := tk }) (hBB : B hB := by trivial) :
    wpAny (model prog w) A (pyIter (.ref e)) (fun it' s₂ => CompAtT B prog w A env elt xa xb (.Tuple [.Name xa pa, .Name xb pb] kk tp) scope cl Q it' s₂) E s := by
  refine wpAny_pyIter_enum he ?_
  have W := (WalksT.enumerateD (prog := prog) (w := w) (A := A) (drawsTup (prog := prog) (w := w) (A := A.in1) hh it t hti items) e hei (by simp only [List.mem_cons, List.mem_nil_iff, or_false, not_or]; exact ⟨hei, Ne.symm hte⟩) (.head _)).toU
  refine ⟨e, _, _, _, _, _, _, (fun i x y => (∃ ti, x = .int i ti) ∧ items[i]? = some y), hB, [], J, rfl, KTurns.ofWalksU W, ?_, fun i s Q E st q => W.self i s Q E st q, hBB, hst, hsz, fun b hb => ?_, fun b hb => ?_, ⟨⟨_, he⟩, hit, ht⟩, (fun p hp => by cases hp), hj, hn, ?_, ?_⟩
  · rintro i v h _ ⟨T, vals, rfl, ⟨ti, x, hx, rfl⟩, hT⟩
    exact ⟨T, _, _, rfl, hT, ⟨ti, rfl⟩, hx⟩
  · obtain ⟨o1, ho1, _⟩ := hit
    obtain ⟨o2, ho2, _⟩ := ht
    revert b hb
    exact all_cons (Heap.lt_size he) (all_cons (Heap.lt_size ho1) (all_one (Heap.lt_size ho2)))
  · revert b hb
    exact all_cons eB (all_one iB)
  · rintro C D i x y m₁ ys ep news₁ own h tk hD hDC hi ⟨⟨ti, rfl⟩, hy⟩ hJ hys ho hnw _ F N
    exact helt C D i ti y m₁ ys ep news₁ own h tk hD hDC hi hy hJ hys ho hnw F N
  · exact hdone
end
end Mine
end
section
open PySem PySem.W PyProof.Rows PySem.Spec
set_option maxRecDepth 100000
namespace Mine
open Builtin Builtin.ObjectAttr
theorem slot_fn_setattr : Slot "function" "__setattr__" "object.__setattr__" :=
  .of (owner := "object") (n := "__setattr__") (by rw [typeLookup_type, builtinLookup_eq_fast]; kernel_rfl) (by decide +kernel) (by decide +kernel) (by decide +kernel)
    (by first | exact .inl (by decide +kernel) | exact .inr (by decide +kernel)) (by rw [isSubtype_type]; kernel_rfl)
theorem look_fn_make : typeLookup (.type "function") "makeelement" = pure none := by rw [typeLookup_type, builtinLookup_eq_fast]; kernel_rfl
theorem look_fn_append : typeLookup (.type "function") "append" = pure none := by rw [typeLookup_type, builtinLookup_eq_fast]; kernel_rfl
theorem look_fn_getattr : typeLookup (.type "function") "__getattr__" = pure none := by rw [typeLookup_type, builtinLookup_eq_fast]; kernel_rfl
theorem mro_fn : mroOf (.type "function") = pure [.type "function", .type "object"] := by
  kernel_rfl
theorem own_fn_setattr : classOwn (.type "function") "__setattr__" = pure none := by
  show (pure (builtinOwn "function" "__setattr__") : Sem (Option Value)) = _
  rw [builtinOwn_eq_fast]; kernel_rfl
theorem passes_fn (self : Value) : refuseLoop self "__setattr__" [.type "function", .type "object"] = pure () := by
  unfold refuseLoop
  simp only [List.forIn_cons, List.forIn_nil, own_fn_setattr, F.own_object_setattr]
  rfl
theorem slot_fn_getattribute : ∃ id, Slot "function" "__getattribute__" id ∧ id = "object.__getattribute__" := by
  refine ⟨_, .of (owner := "object") (n := "__getattribute__") (by rw [typeLookup_type, builtinLookup_eq_fast]; kernel_rfl) (by decide +kernel) (by decide +kernel) (by decide +kernel)
    (by first | exact .inl (by decide +kernel) | exact .inr (by decide +kernel)) (by rw [isSubtype_type]; kernel_rfl), rfl⟩
section
variable {prog : Program} {w : World} {A : Around} {E : Value → Shared → Prop} {h : Heap} {g : Array GenState} {d : Drawn} {t : Nat} {os : OsState} {f : Addr} {o : Obj} {name : Str} {v : Value}
theorem dictMade_fn (f d : Addr) : dictMade (.type "function") f d = pure (some d) := by
  have hfin : finalisedInACycleAlone "function" = false := by decide +kernel
  unfold dictMade
  dsimp only
  rw [hfin]
  rfl
theorem fn_store_new {tk : Tok} {Q : Fin → Shared → Prop} (hx : h.get? f = some o) (hc : o.cls = .type "function") (hnc : ∀ c, o.data ≠ .cls c) (hd : o.dict = none) (hl : typeLookup (.type "function") name = pure none)
    (hq : ∀ h' tk', h'.Ns1 h.objs.size (fun y => if y = name then some v else none) → h'.get? f = some { o with dict := some h.objs.size } → (∀ b ob, b ≠ f → h.get? b = some ob → h'.get? b = some ob) → Q (.done (.ret .none)) ⟨h', g, d, tk', os⟩) :
    wpAny (model prog w) A (Builtin.«object.__setattr__» ⟨[.ref f, .str name tk, v], []⟩) Q E ⟨h, g, d, t, os⟩ := by
  have hpass := passes_fn (.ref f)
  have hm := mro_fn
  unfold Builtin.«object.__setattr__»
  repeat (first | rw [refuse_eq] | rw [hpass] | (with_reducible refine wpAny_loadPart_at hx ?_; rw [hc]) | (rw [hm]) | (rw [hl]) | wp_step)
  rw [hd, if_neg (by simp [typeHasDict]; decide +kernel)]
  split
  · rename_i hcd
    cases hcd
  split
  · rename_i c hcd
    exact absurd hcd (hnc c)
  · have hx₁ : (h.push { cls := .type "dict", data := .dict #[] }).get? f = some o := Heap.get?_push_of_some _ hx
    have hxs : f ≠ h.objs.size := Nat.ne_of_lt (Heap.lt_size hx)
    refine wpAny_bind (wpAny_alloc' ?_)
    refine wpAny_bind (wpAny_update' hx₁ ?_)
    rw [dictMade_fn]
    refine wpAny_pure ?_
    have hgd : ((h.push { cls := .type "dict", data := .dict #[] }).update f fun o => { cls := o.cls, dict := some h.objs.size, data := o.data, slots := o.slots }).get? h.objs.size
        = some { cls := .type "dict", data := .dict #[] } :=
      (Heap.get?_update_ne _ _ _ _ hxs.symm).trans (Heap.get?_push_at rfl rfl)
    have hnd : ((h.push { cls := .type "dict", data := .dict #[] }).update f fun o => { cls := o.cls, dict := some h.objs.size, data := o.data, slots := o.slots }).Ns h.objs.size (fun _ => none) :=
      ⟨_, #[], _, hgd, rfl, fun e he => absurd he (by simp), fun _ => rfl⟩
    show wpAny _ _ (storeInDict h.objs.size (.str name tk) name v) _ _ _
    unfold storeInDict newKeyGuard
    refine wpAny_bind (wpAny_pure (wpAny_bind (wpAny_nsSet1 (Heap.Ns1.of_empty hnd) fun h' hn' hs => ?_)))
    obtain ⟨oD, esD, epD, hoD, hdD, hcD⟩ := hn'.count (Within.cons name v Within.nil)
    refine wpAny_bind (wpAny_lookBehind hoD (by rw [hdD]; exact pastItsLine_dict (Nat.le_trans hcD (by rw [List.length_cons, List.length_nil, sizeLine_eq]; omega))) ?_)
    wp_walk
    refine hq h' _ hn' ?_ fun b ob hb e => ?_
    · refine (hs.2 f hxs).trans (Heap.get?_update_self _ hx₁ ?_)
      have hfr := (Heap.get?_some_iff.mp hx).2
      obtain ⟨oc, od, odt, osl⟩ := o
      cases odt <;> first | rfl | exact hfr
    · exact (hs.2 b (Nat.ne_of_lt (Heap.lt_size e))).trans ((Heap.get?_update_ne _ _ _ _ hb).trans (Heap.get?_push_of_some _ e))
theorem fn_store_more {tk : Tok} {Q : Fin → Shared → Prop} {dx : Addr} {mA : Str → Option Value} {ns : List Str} (hx : h.get? f = some o) (hc : o.cls = .type "function") (hd : o.dict = some dx) (hn : h.Ns1 dx mA) (hw : Within mA ns) (hsz : ns.length ≤ 100) (hl : typeLookup (.type "function") name = pure none)
    (hq : ∀ h' tk', h'.Ns1 dx (fun y => if y = name then some v else mA y) → Heap.SameBut dx h h' → Q (.done (.ret .none)) ⟨h', g, d, tk', os⟩) :
    wpAny (model prog w) A (Builtin.«object.__setattr__» ⟨[.ref f, .str name tk, v], []⟩) Q E ⟨h, g, d, t, os⟩ := by
  have hpass := passes_fn (.ref f)
  have hm := mro_fn
  unfold Builtin.«object.__setattr__»
  repeat (first | rw [refuse_eq] | rw [hpass] | (with_reducible refine wpAny_loadPart_at hx ?_; rw [hc]) | (rw [hm]) | (rw [hl]) | wp_step)
  rw [hd]
  refine wpAny_pure ?_
  show wpAny _ _ (storeInDict dx (.str name tk) name v) _ _ _
  unfold storeInDict newKeyGuard
  refine wpAny_bind (wpAny_pure (wpAny_bind (wpAny_nsSet1 hn fun h' hn' hs => ?_)))
  obtain ⟨oD, esD, epD, hoD, hdD, hcD⟩ := hn'.count (Within.cons name v hw)
  refine wpAny_bind (wpAny_lookBehind hoD (by rw [hdD]; exact pastItsLine_dict (Nat.le_trans hcD (by rw [List.length_cons, sizeLine_eq]; omega))) ?_)
  wp_walk
  exact hq h' _ hn' hs
theorem fn_setattr {Q : Unit → Shared → Prop} {F : Heap → Prop} (hx : h.get? f = some o) (hc : o.cls = .type "function")
    (hq : ∀ h' tk', F h' → Q () ⟨h', g, d, tk', os⟩)
    (hst : ∀ (tk : Tok) (t' : Nat) (A' : Around) (R : PySem.Fin → Shared → Prop) (E' : Value → Shared → Prop), (∀ h' tk', F h' → R (.done (.ret .none)) ⟨h', g, d, tk', os⟩) → wpAny (model prog w) A' (Builtin.«object.__setattr__» ⟨[.ref f, .str name tk, v], []⟩) R E' ⟨h, g, d, t', os⟩) :
    wpAny (model prog w) A (setAttr (.ref f) name v) Q E ⟨h, g, d, t, os⟩ := by
  have f3 := slot_fn_setattr.bind (.ref f)
  have f4 := slot_fn_setattr.lookup
  unfold setAttr callSpecial? specialOf
  repeat (any_goals (first | assumption | (with_reducible refine wpAny_loadPart_at hx ?_; rw [hc]) | (rw [f4]) | wp_step))
  refine codeAny_call_builtin slot_fn_setattr.plain PySem.F.entry_object_setattr (slot_fn_setattr.check _ _ _ _ _ _ _ _ ⟨o, hx, hc⟩ (PySem.F.args_object_setattr_3 _ _ _) ?_)
  refine hst _ _ _ _ _ fun h' tk' hF => ?_
  repeat (any_goals (first | assumption | wp_step))
  exact hq h' tk' hF
end
end Mine
end
section
open PySem PySem.W PyProof.Rows PySem.Spec
set_option maxRecDepth 100000
namespace Mine
open Builtin Builtin.ObjectAttr
section
variable {prog : Program} {w : World} {A : Around} {E : Value → Shared → Prop} {h : Heap} {g : Array GenState} {d : Drawn} {t : Nat} {os : OsState} {f : Addr} {o : Obj} {name : Str} {v : Value}
theorem fn_type {Q : Value → Shared → Prop} (hx : h.get? f = some o) (hc : o.cls = .type "function") (hq : Q (.type "function") ⟨h, g, d, t, os⟩) : wpAny (model prog w) A (typeOf (.ref f)) Q E ⟨h, g, d, t, os⟩ := by
  unfold typeOf
  repeat (first | (with_reducible refine wpAny_loadPart_at hx ?_; rw [hc]) | wp_step)
  exact hq
theorem fn_getAttr {Q : Value → Shared → Prop} {dx : Addr} {mA : Str → Option Value} {ex : Bool} (hx : h.get? f = some o) (hc : o.cls = .type "function") (hnc : ∀ c, o.data ≠ .cls c) (hd : o.dict = some dx) (hn : h.Ns dx mA) {fv : Addr} (hv : mA name = some (.ref fv)) (hl : typeLookup (.type "function") name = pure none)
    (hq : ∀ tk', Q (.ref fv) ⟨h, g, d, tk', os⟩) :
    wpAny (model prog w) A (getAttr (.ref f) name ex) Q E ⟨h, g, d, t, os⟩ := by
  obtain ⟨id, slot, rfl⟩ := slot_fn_getattribute
  have f3 := slot.bind (.ref f)
  have f4 := slot.lookup
  unfold getAttr getAttrBy
  unfold mkText
  refine wpAny_bind (wpAny_bind (wpAny_fresh' (wpAny_pure ?_)))
  refine wpAny_holding (wpAny_bind (fn_type hx hc ?_))
  rw [f4]
  refine wpAny_bind (wpAny_pure ?_)
  dsimp only
  rw [if_neg (by decide)]
  unfold getAttrByItsOwn
  refine wpAny_bind (wpAny_pure ?_)
  refine wpAny_bind (wpAny_attempt (wpAny_holding ?_))
  unfold callGetattribute
  rw [show (ex && onTheHeap (.builtin "object.__getattribute__")) = false by cases ex <;> rfl, if_neg Bool.false_ne_true]
  unfold boundAndCalled
  rw [f3]
  refine wpAny_bind (wpAny_pure (wpAny_call ?_))
  refine codeAny_call_builtin slot.plain PySem.F.entry_object_getattribute (slot.check _ _ _ _ _ _ _ _ ⟨o, hx, hc⟩ (PySem.F.args_object_getattribute_2 _ _) ?_)
  unfold Builtin.«object.__getattribute__»
  repeat (first | (with_reducible refine wpAny_loadPart_at hx ?_; rw [hc]) | (rw [hl]) | wp_step)
  split
  · rename_i c hcd
    exact absurd hcd (hnc c)
  unfold instanceDict
  repeat (first | (with_reducible refine wpAny_loadPart_at hx ?_; rw [hc]) | wp_step)
  rw [hd]
  refine wpAny_pure ?_
  show wpAny _ _ (nsGet dx name) _ _ _
  refine wpAny_nsGet hn ?_
  rw [hv]
  repeat wp_step
  exact hq _
theorem fn_getMethod {Q : Value × List Value → Shared → Prop} {dx : Addr} {mA : Str → Option Value} {pl : Sem Bool} (hx : h.get? f = some o) (hc : o.cls = .type "function") (hnc : ∀ c, o.data ≠ .cls c) (hd : o.dict = some dx) (hn : h.Ns dx mA) {fv : Addr} (hv : mA name = some (.ref fv)) (hl : typeLookup (.type "function") name = pure none)
    (hq : ∀ tk', Q (.ref fv, []) ⟨h, g, d, tk', os⟩) :
    wpAny (model prog w) A (getMethod (.ref f) name pl) Q E ⟨h, g, d, t, os⟩ := by
  obtain ⟨id, slot, rfl⟩ := slot_fn_getattribute
  have f4 := slot.lookup
  have f5 := look_fn_getattr
  have hcan := PySem.F.canon_object_ga
  have u : wpAny (model prog w) A (do return (← getAttr (.ref f) name, ([] : List Value))) Q E ⟨h, g, d, t, os⟩ := wpAny_bind (fn_getAttr hx hc hnc hd hn hv hl fun tk' => wpAny_pure (hq tk'))
  unfold getMethod specialOf
  refine wpAny_bind (wpAny_bind (fn_type hx hc ?_))
  rw [f4]
  refine wpAny_pure ?_
  dsimp only
  rw [hcan, if_neg (by decide)]
  refine wpAny_bind (wpAny_bind (fn_type hx hc ?_))
  rw [f5]
  refine wpAny_pure ?_
  refine wpAny_bind (wpAny_bind (fn_type hx hc ?_))
  rw [hl]
  refine wpAny_pure ?_
  exact u
theorem fn_set_new {Q : Unit → Shared → Prop} (hx : h.get? f = some o) (hc : o.cls = .type "function") (hnc : ∀ c, o.data ≠ .cls c) (hd : o.dict = none) (hl : typeLookup (.type "function") name = pure none)
    (hq : ∀ h' tk', h'.Ns1 h.objs.size (fun y => if y = name then some v else none) → h'.get? f = some { o with dict := some h.objs.size } → (∀ b ob, b ≠ f → h.get? b = some ob → h'.get? b = some ob) → Q () ⟨h', g, d, tk', os⟩) :
    wpAny (model prog w) A (setAttr (.ref f) name v) Q E ⟨h, g, d, t, os⟩ :=
  fn_setattr (F := fun h' => h'.Ns1 h.objs.size (fun y => if y = name then some v else none) ∧ h'.get? f = some { o with dict := some h.objs.size } ∧ ∀ b ob, b ≠ f → h.get? b = some ob → h'.get? b = some ob) hx hc (fun h' tk' x => hq h' tk' x.1 x.2.1 x.2.2)
    fun tk t' A' R E' k => fn_store_new hx hc hnc hd hl fun h' tk' n1 n2 n3 => k h' tk' ⟨n1, n2, n3⟩
theorem fn_set_more {Q : Unit → Shared → Prop} {dx : Addr} {mA : Str → Option Value} {ns : List Str} (hx : h.get? f = some o) (hc : o.cls = .type "function") (hd : o.dict = some dx) (hn : h.Ns1 dx mA) (hw : Within mA ns) (hsz : ns.length ≤ 100) (hl : typeLookup (.type "function") name = pure none)
    (hq : ∀ h' tk', h'.Ns1 dx (fun y => if y = name then some v else mA y) → Heap.SameBut dx h h' → Q () ⟨h', g, d, tk', os⟩) :
    wpAny (model prog w) A (setAttr (.ref f) name v) Q E ⟨h, g, d, t, os⟩ :=
  fn_setattr (F := fun h' => h'.Ns1 dx (fun y => if y = name then some v else mA y) ∧ Heap.SameBut dx h h') hx hc (fun h' tk' x => hq h' tk' x.1 x.2)
    fun tk t' A' R E' k => fn_store_more hx hc hd hn hw hsz hl fun h' tk' n1 n2 => k h' tk' ⟨n1, n2⟩
end
end Mine
end
section
open PySem PySem.W PyProof.Rows PySem.Spec
namespace Mine
variable {w : World} {mg mb : Str → Option Value} {mean : ExcName → Option Value} {dp un : Nat} {fr : Option (List Env)} {gd : Option (List Code)} {s : Shared} {Q E : Value → Shared → Prop}
theorem Fr.stored {h₀ h h' : Heap} {L f : Addr} {m : Str → Option Value} (F : Fr h₀ L h m) (hL : L ≠ f) (hf : h₀.get? f = none) (k : ∀ b ob, b ≠ f → h.get? b = some ob → h'.get? b = some ob) : Fr h₀ L h' m :=
  ⟨F.ns.at' fun o e => k _ o hL e, fun b o e => k b o (fun q => by rw [q, hf] at e; cases e) (F.keep b o e), F.above⟩
theorem News.stored {h₀ h h' : Heap} {L f : Addr} {news news' : List (Addr × Obj)} (N : News h₀ L h news) (k : ∀ b ob, b ≠ f → h.get? b = some ob → h'.get? b = some ob)
    (hn : ∀ p ∈ news', (p ∈ news ∧ p.1 ≠ f) ∨ (h'.get? p.1 = some p.2 ∧ p.1 ≠ L ∧ h₀.get? p.1 = none)) : News h₀ L h' news' := fun p hp =>
  match hn p hp with
  | .inl ⟨hm, hf⟩ => ⟨k _ _ hf (N p hm).1, (N p hm).2⟩
  | .inr x => x
theorem Fr.hide {h₀ h : Heap} {L : Addr} {m : Str → Option Value} (as : List Addr) (F : Fr h₀ L h m) : Fr (hideAll h₀ as) L h m :=
  ⟨F.ns, fun b o e => F.keep b o (of_hideAll _ e), Nat.le_trans (Nat.le_of_eq (hideAll_size _ _)) F.above⟩
theorem hide_stays {h₀ h : Heap} {as : List Addr} (st : h₀.StaysIn h) (hn : ∀ a ∈ as, h₀.get? a = none) : h₀.StaysIn (hideAll h as) := fun b o e =>
  hideAll_get _ (st b o e) fun hm => by rw [hn b hm] at e; cases e
theorem News.hide {h₀ h : Heap} {L : Addr} {news : List (Addr × Obj)} (as : List Addr) (N : News h₀ L h news) : News (hideAll h₀ as) L h news := fun p hp =>
  ⟨(N p hp).1, (N p hp).2.1, by
    cases e : (hideAll h₀ as).get? p.1 with
    | none => rfl
    | some o => have := of_hideAll _ e; rw [(N p hp).2.2] at this; cases this⟩
noncomputable def lamOf (i : Nat) : Arguments × PySem.Expr × Scope × Pos := match (fnBody 11).drop i with
  | .Assign _ (.Lambda a b sc p) _ :: _ => (a, b, sc, p)
  | _ => default
noncomputable abbrev lamQual : Str := (Str.ofString "_law_parent" ++ Str.ofString ".<locals>.") ++ Str.ofString "<lambda>"
noncomputable abbrev lamObj (i : Nat) (mg : Str → Option Value) (cl : List (Str × Addr)) (c : Addr) (ct : Value) : Obj :=
  kla_obj (Str.ofString "<lambda>") lamQual (lamOf i).1 (lamOf i).2.1 (lamOf i).2.2.1 cl ((mg (Str.ofString "__name__")).getD .none) c ct
noncomputable abbrev fullTab (c1 c2 c3 : Addr) : Obj := tabObj #[rawInt (lamOf 0).2.2.2.line, rawInt (lamOf 0).2.2.2.col, .ref c1, rawInt (lamOf 1).2.2.2.line, rawInt (lamOf 1).2.2.2.col, .ref c2, rawInt (lamOf 2).2.2.2.line, rawInt (lamOf 2).2.2.2.col, .ref c3]
noncomputable def ParTab (h : Heap) : Prop := h.get? 46 = some (tabObj #[]) ∨ ∃ c1 c2 c3, h.get? 46 = some (fullTab c1 c2 c3) ∧ h.CodeRec (.ref c2) lamQual ∧ h.CodeRec (.ref c3) lamQual
inductive ParentAt (mg : Str → Option Value) (h : Heap) (p g : Addr) : Prop where
  | mk (oP : Obj) (d f2 f3 c2 c3 : Addr) (ct2 ct3 : Value) (ca : Addr) (z0 : h.get? p = some oP) (z1 : oP.cls = .type "function") (z2 : (∀ c, oP.data ≠ .cls c)) (z3 : oP.dict = some d) (z4 : h.Ns d (fun y => if y = Str.ofString "append" then some (.ref f3) else if y = Str.ofString "makeelement" then some (.ref f2) else none)) (z5 : h.get? f2 = some (lamObj 1 mg [] c2 ct2)) (z6 : h.CodeRec (.ref c2) lamQual) (z7 : h.get? f3 = some (lamObj 2 mg [(Str.ofString "gap", ca)] c3 ct3)) (z8 : h.CodeRec (.ref c3) lamQual) (z9 : CellIn h ca (.ref g))
theorem codeRec_hide {h : Heap} {c : Addr} {q : Str} {ps : Array Value} (x : h.CodeRec (.ref c) q) (hP : h.get? 46 = some (tabObj ps)) (h1 : ∀ t, ps[1]? ≠ some (.str q t)) : (hideAll h [46]).CodeRec (.ref c) q := by
  obtain ⟨c', o, vs, t, e, ho, hd, hv⟩ := x
  cases e
  refine ⟨c, o, vs, t, rfl, hideAll_get _ ho fun hm => ?_, hd, hv⟩
  rw [List.mem_singleton.mp hm, hP] at ho
  cases ho
  cases hd
  exact h1 t hv
set_option maxRecDepth 100000 in
set_option maxHeartbeats 4000000 in
theorem parent_cold {h₀ : Heap} (T : Top topProg LOOSE mean mg mb h₀) (X : (Mine.hd.heap_39 w.params).In h₀) (st : h₀.StaysIn s.heap) (h46 : h₀.get? 46 = none) (C : CodeHd h₀ 50 46) (hP : s.heap.get? 46 = some (tabObj #[])) {g : Addr}
  (hd : dp < recursionLimit) 
  (hret : ∀ p h' tk', (hideAll s.heap [46]).StaysIn h' → ParTab h' → ParentAt mg h' p g → Q (.ref p) { s with heap := h', toks := tk' }) :
  wpAny (model PySem.Challenge.rw_wr0012_01.row.prog w) (Ar dp un fr gd) (call (.ref 51) [.ref g]) Q E s := by
  revert X; k_fill; intro X
  have hf : s.heap.get? 51 = ((Mine.hd.heap_39 w.params).lookup 51) := st _ _ (X 51 _ rfl)
  have X := X.keeps st
  have hlim := T.nolimit.keeps st
  refine wpAny_call (call_cellsN_ret (binds := [(Str.ofString "gap", .ref g)]) (by first | exact lim 0 hd | exact limT 0 hd | (show dp < _; omega)) hf rfl hlim (codeRec_of X (by rfl)) (by rfl) (kindsX (by rfl) _) (by decide +kernel) (fun h₁ tk cells F N Y => ?_))
  obtain ⟨o1, rfl, d1⟩ := CellsAre.one Y
  have stB := hide_stays (as := [46]) st (by simp [h46])
  have T := T.keeps stB
  have C := C.keeps stB
  have L46 : 46 < s.heap.objs.size := Heap.lt_size hP
  have N : News (hideAll s.heap [46]) s.heap.objs.size h₁ [(s.heap.objs.size + 1, o1), (46, tabObj #[])] := all_cons (News.hide [46] N _ (.head _)) (all_one ⟨F.keep _ _ hP, Nat.ne_of_lt L46, hideAll_none _ (.head _)⟩)
  have F := Fr.hide [46] F
  clear X hf Y hlim
  w_on
  k_steps
  rename_i f1 c1 oc1 vs1 t1 ct1 _ _ d11 d12 l11 l12 h5 F5 N5 f2 c2 oc2 vs2 t2 ct2 h6 tk6 F6 N6 d21 d22 l21 l22
  have hf1 := N6 _ (.tail _ (.tail _ (.head _)))
  have hLf1 : s.heap.objs.size ≠ f1 := Ne.symm hf1.2.1
  refine fn_set_new hf1.1 rfl (by intro c e; cases e) rfl look_fn_make fun h7 tk7 n7 g7 k7 => ?_
  have F7 := Fr.stored F6 hLf1 hf1.2.2 k7
  obtain ⟨od7, es7, ep7, e7, r7⟩ := id n7
  have hd7 : h6.objs.size ≠ f1 := Nat.ne_of_gt (Heap.lt_size hf1.1)
  have g1 : @LT.lt Nat _ f1 f2 := Nat.lt_trans l21.1 l22
  have g2 : @LT.lt Nat _ (s.heap.objs.size + 1) f1 := Nat.lt_trans l11.1 l12
  have g3 : @LT.lt Nat _ 46 f1 := Nat.lt_trans l11.2 l12
  have N7 : News (hideAll s.heap [46]) s.heap.objs.size h7 [(h6.objs.size, od7), (f1, _), (f2, _), (c2, oc2), (c1, oc1), (s.heap.objs.size + 1, o1), (46, _)] := News.stored N6 k7 (all_cons (.inr ⟨e7, Nat.ne_of_gt F6.ns.lt, Heap.get?_none_of_le (Nat.le_trans F6.above (Nat.le_of_lt F6.ns.lt))⟩) (all_cons (.inr ⟨g7, hf1.2⟩) (all_cons (.inl ⟨.head _, Nat.ne_of_gt g1⟩) (all_cons (.inl ⟨.tail _ (.head _), Nat.ne_of_gt l21.1⟩) (all_cons (.inl ⟨.tail _ (.tail _ (.tail _ (.head _))), Nat.ne_of_lt l12⟩) (all_cons (.inl ⟨.tail _ (.tail _ (.tail _ (.tail _ (.head _)))), Nat.ne_of_lt g2⟩) (all_one (.inl ⟨.tail _ (.tail _ (.tail _ (.tail _ (.tail _ (.head _))))), Nat.ne_of_lt g3⟩))))))))
  have hz : @LT.lt Nat _ f2 h6.objs.size := Heap.lt_size (N6 _ (.head _)).1
  have hz2 : @LT.lt Nat _ 46 h6.objs.size := Nat.lt_trans l21.2.2.2 (Nat.lt_trans l22 hz)
  have hz3 : @LT.lt Nat _ f1 h6.objs.size := Nat.lt_trans l21.1 (Nat.lt_trans l22 hz)
  have hz4 : @LT.lt Nat _ c2 h6.objs.size := Nat.lt_trans l22 hz
  have hz5 : @LT.lt Nat _ c1 h6.objs.size := Nat.lt_trans l12 hz3
  have hz6 : @LT.lt Nat _ (s.heap.objs.size + 1) h6.objs.size := Nat.lt_trans l11.1 hz5
  clear F6 N6 F5 N5 k7 g7 e7
  generalize h6.objs.size = dd at *
  dsimp only at N7
  k_steps
  rename_i f3 c3 oc3 vs3 t3 ct3 h8 tk8 F8 N8 d31 d32 l31 l32
  have n8 : h8.Ns1 dd _ := ⟨od7, es7, ep7, (N8 _ (.tail _ (.tail _ (.head _)))).1, r7⟩
  have hf8 := N8 _ (.tail _ (.tail _ (.tail _ (.head _))))
  refine fn_set_more hf8.1 rfl rfl n8 (Within.cons _ _ Within.nil) (by decide) look_fn_append fun h9 tk9 n9 k9 => ?_
  have hLd : s.heap.objs.size ≠ dd := Nat.ne_of_lt (Nat.lt_trans (Nat.lt_succ_self _) hz6)
  have hdn := (N8 _ (.tail _ (.tail _ (.head _)))).2.2
  have k9' : ∀ b ob, b ≠ dd → h8.get? b = some ob → h9.get? b = some ob := fun b ob hb e => (k9.2 b hb).trans e
  have F9 := Fr.stored F8 hLd hdn k9'
  obtain ⟨od9, es9, ep9, e9, r9⟩ := id n9
  have g4 : @LT.lt Nat _ dd f3 := Nat.lt_trans l31.1 l32
  have N9 : News (hideAll s.heap [46]) s.heap.objs.size h9 [(f3, _), (c3, oc3), (dd, od9), (f1, _), (f2, _), (c2, oc2), (c1, oc1), (s.heap.objs.size + 1, o1), (46, _)] := News.stored N8 k9' (all_cons (.inl ⟨.head _, Nat.ne_of_gt g4⟩) (all_cons (.inl ⟨.tail _ (.head _), Nat.ne_of_gt l31.1⟩) (all_cons (.inr ⟨e9, Ne.symm hLd, hdn⟩) (all_cons (.inl ⟨.tail _ (.tail _ (.tail _ (.head _))), Nat.ne_of_lt hz3⟩) (all_cons (.inl ⟨.tail _ (.tail _ (.tail _ (.tail _ (.head _)))), Nat.ne_of_lt hz⟩) (all_cons (.inl ⟨.tail _ (.tail _ (.tail _ (.tail _ (.tail _ (.head _))))), Nat.ne_of_lt hz4⟩) (all_cons (.inl ⟨.tail _ (.tail _ (.tail _ (.tail _ (.tail _ (.tail _ (.head _)))))), Nat.ne_of_lt hz5⟩) (all_cons (.inl ⟨.tail _ (.tail _ (.tail _ (.tail _ (.tail _ (.tail _ (.tail _ (.head _))))))), Nat.ne_of_lt hz6⟩) (all_one (.inl ⟨.tail _ (.tail _ (.tail _ (.tail _ (.tail _ (.tail _ (.tail _ (.tail _ (.head _)))))))), Nat.ne_of_lt hz2⟩))))))))))
  clear F8 N8 k9 k9'
  k_steps
  have q46 : h9.get? 46 = some (fullTab c1 c2 c3) := (N9 (46, _) (by k_mem)).1
  have r2 : h9.CodeRec (.ref c2) lamQual := ⟨c2, oc2, vs2, t2, rfl, (N9 (c2, oc2) (by k_mem)).1, d21, d22⟩
  have r3 : h9.CodeRec (.ref c3) lamQual := ⟨c3, oc3, vs3, t3, rfl, (N9 (c3, oc3) (by k_mem)).1, d31, d32⟩
  exact hret _ _ _ F9.keep (.inr ⟨c1, c2, c3, q46, r2, r3⟩)
    ⟨_, dd, f2, f3, c2, c3, ct2, ct3, _, (N9 (f1, _) (by k_mem)).1, rfl, by (intro c e; cases e), rfl, n9.ns, (N9 (f2, _) (by k_mem)).1, r2, (N9 (f3, _) (by k_mem)).1, r3, ⟨⟨o1, (N9 (s.heap.objs.size + 1, o1) (by k_mem)).1, d1⟩⟩⟩
set_option maxRecDepth 100000 in
set_option maxHeartbeats 4000000 in
theorem parent_hot {h₀ : Heap} {c1 c2 c3 : Addr} (T : Top topProg LOOSE mean mg mb h₀) (X : (Mine.hd.heap_39 w.params).In h₀) (st : h₀.StaysIn s.heap) (h46 : h₀.get? 46 = none) (C : CodeHd h₀ 50 46)
  (hP : s.heap.get? 46 = some (fullTab c1 c2 c3)) (r2 : s.heap.CodeRec (.ref c2) lamQual) (r3 : s.heap.CodeRec (.ref c3) lamQual) {g : Addr}
  (hd : dp < recursionLimit) 
  (hret : ∀ p h' tk', (hideAll s.heap [46]).StaysIn h' → ParTab h' → ParentAt mg h' p g → Q (.ref p) { s with heap := h', toks := tk' }) :
  wpAny (model PySem.Challenge.rw_wr0012_01.row.prog w) (Ar dp un fr gd) (call (.ref 51) [.ref g]) Q E s := by
  revert X; k_fill; intro X
  have hf : s.heap.get? 51 = ((Mine.hd.heap_39 w.params).lookup 51) := st _ _ (X 51 _ rfl)
  have X := X.keeps st
  have hlim := T.nolimit.keeps st
  refine wpAny_call (call_cellsN_ret (binds := [(Str.ofString "gap", .ref g)]) (by first | exact lim 0 hd | exact limT 0 hd | (show dp < _; omega)) hf rfl hlim (codeRec_of X (by rfl)) (by rfl) (kindsX (by rfl) _) (by decide +kernel) (fun h₁ tk cells F N Y => ?_))
  obtain ⟨o1, rfl, d1⟩ := CellsAre.one Y
  have stB := hide_stays (as := [46]) st (by simp [h46])
  have T := T.keeps stB
  have C := C.keeps stB
  have L46 : 46 < s.heap.objs.size := Heap.lt_size hP
  have r2 : (hideAll s.heap [46]).CodeRec (.ref c2) lamQual := codeRec_hide r2 hP (by intro t e; cases e)
  have r3 : (hideAll s.heap [46]).CodeRec (.ref c3) lamQual := codeRec_hide r3 hP (by intro t e; cases e)
  have N : News (hideAll s.heap [46]) s.heap.objs.size h₁ [(s.heap.objs.size + 1, o1), (46, fullTab c1 c2 c3)] := all_cons (News.hide [46] N _ (.head _)) (all_one ⟨F.keep _ _ hP, Nat.ne_of_lt L46, hideAll_none _ (.head _)⟩)
  have F := Fr.hide [46] F
  clear X hf Y hlim hP
  w_on
  k_steps
  rename_i f1 ct1 _ _ l11 h5 F5 N5 f2 ct2 h6 tk6 F6 N6 l21
  have hf1 := N6 (f1, _) (.tail _ (.head _))
  have hLf1 : s.heap.objs.size ≠ f1 := Ne.symm hf1.2.1
  refine fn_set_new hf1.1 rfl (by intro c e; cases e) rfl look_fn_make fun h7 tk7 n7 g7 k7 => ?_
  have F7 := Fr.stored F6 hLf1 hf1.2.2 k7
  obtain ⟨od7, es7, ep7, e7, r7⟩ := id n7
  have hd7 : h6.objs.size ≠ f1 := Nat.ne_of_gt (Heap.lt_size hf1.1)
  have N7 : News (hideAll s.heap [46]) s.heap.objs.size h7 [(h6.objs.size, od7), (f1, _), (f2, _), (s.heap.objs.size + 1, o1), (46, _)] := News.stored N6 k7 (all_cons (.inr ⟨e7, Nat.ne_of_gt F6.ns.lt, Heap.get?_none_of_le (Nat.le_trans F6.above (Nat.le_of_lt F6.ns.lt))⟩) (all_cons (.inr ⟨g7, hf1.2⟩) (all_cons (.inl ⟨.head _, Nat.ne_of_gt l21.1⟩) (all_cons (.inl ⟨.tail _ (.tail _ (.head _)), Nat.ne_of_lt l11.1⟩) (all_one (.inl ⟨.tail _ (.tail _ (.tail _ (.head _))), Nat.ne_of_lt l11.2⟩))))))
  have hz : @LT.lt Nat _ f2 h6.objs.size := Heap.lt_size (N6 _ (.head _)).1
  have hz2 : @LT.lt Nat _ 46 h6.objs.size := Nat.lt_trans l21.2.2 hz
  have hz3 : @LT.lt Nat _ f1 h6.objs.size := Nat.lt_trans l21.1 hz
  have hz6 : @LT.lt Nat _ (s.heap.objs.size + 1) h6.objs.size := Nat.lt_trans l11.1 hz3
  clear F6 N6 F5 N5 k7 g7 e7
  generalize h6.objs.size = dd at *
  dsimp only at N7
  k_steps
  rename_i f3 ct3 h8 tk8 F8 N8 l31
  have n8 : h8.Ns1 dd _ := ⟨od7, es7, ep7, (N8 (dd, od7) (by k_mem)).1, r7⟩
  have hf8 := N8 (f1, _) (.tail _ (.tail _ (.head _)))
  refine fn_set_more hf8.1 rfl rfl n8 (Within.cons _ _ Within.nil) (by decide) look_fn_append fun h9 tk9 n9 k9 => ?_
  have hLd : s.heap.objs.size ≠ dd := Nat.ne_of_lt (Nat.lt_trans (Nat.lt_succ_self _) hz6)
  have hdn := (N8 (dd, od7) (by k_mem)).2.2
  have k9' : ∀ b ob, b ≠ dd → h8.get? b = some ob → h9.get? b = some ob := fun b ob hb e => (k9.2 b hb).trans e
  have F9 := Fr.stored F8 hLd hdn k9'
  obtain ⟨od9, es9, ep9, e9, r9⟩ := id n9
  have N9 : News (hideAll s.heap [46]) s.heap.objs.size h9 [(f3, _), (dd, od9), (f1, _), (f2, _), (s.heap.objs.size + 1, o1), (46, _)] := News.stored N8 k9' (all_cons (.inl ⟨.head _, Nat.ne_of_gt l31.1⟩) (all_cons (.inr ⟨e9, Ne.symm hLd, hdn⟩) (all_cons (.inl ⟨.tail _ (.tail _ (.head _)), Nat.ne_of_lt hz3⟩) (all_cons (.inl ⟨.tail _ (.tail _ (.tail _ (.head _))), Nat.ne_of_lt hz⟩) (all_cons (.inl ⟨.tail _ (.tail _ (.tail _ (.tail _ (.head _)))), Nat.ne_of_lt hz6⟩) (all_one (.inl ⟨.tail _ (.tail _ (.tail _ (.tail _ (.tail _ (.head _))))), Nat.ne_of_lt hz2⟩)))))))
  clear F8 N8 k9 k9'
  k_steps
  have q46 : h9.get? 46 = some (fullTab c1 c2 c3) := (N9 (46, _) (by k_mem)).1
  have r2 := r2.keeps F9.keep
  have r3 := r3.keeps F9.keep
  exact hret _ _ _ F9.keep (.inr ⟨c1, c2, c3, q46, r2, r3⟩)
    ⟨_, dd, f2, f3, c2, c3, ct2, ct3, _, (N9 (f1, _) (by k_mem)).1, rfl, by (intro c e; cases e), rfl, n9.ns, (N9 (f2, _) (by k_mem)).1, r2, (N9 (f3, _) (by k_mem)).1, r3, ⟨⟨o1, (N9 (s.heap.objs.size + 1, o1) (by k_mem)).1, d1⟩⟩⟩
theorem parent_spec {h₀ : Heap} (T : Top topProg LOOSE mean mg mb h₀) (X : (Mine.hd.heap_39 w.params).In h₀) (st : h₀.StaysIn s.heap) (h46 : h₀.get? 46 = none) (C : CodeHd h₀ 50 46) (P : ParTab s.heap) {g : Addr} (hd : dp < recursionLimit)
  (hret : ∀ p h' tk', (hideAll s.heap [46]).StaysIn h' → ParTab h' → ParentAt mg h' p g → Q (.ref p) { s with heap := h', toks := tk' }) :
  wpAny (model PySem.Challenge.rw_wr0012_01.row.prog w) (Ar dp un fr gd) (call (.ref 51) [.ref g]) Q E s := by
  rcases P with hP | ⟨c1, c2, c3, hP, r2, r3⟩
  · exact parent_cold T X st h46 C hP hd hret
  · exact parent_hot T X st h46 C hP r2 r3 hd hret
end Mine
end
section
open PySem PySem.W PyProof.Rows
namespace Mine
noncomputable def Made (h h' : Heap) (tl : List (Addr × Obj)) : Prop := ∀ p ∈ tl, h'.get? p.1 = some p.2 ∧ h.get? p.1 = none
theorem Made.of {h₀ h : Heap} {L : Addr} {news : List (Addr × Obj)} (N : News h₀ L h news) : Made h₀ h news := fun p hp => ⟨(N p hp).1, (N p hp).2.2⟩
theorem Made.one {h h' : Heap} {tl : List (Addr × Obj)} {p : Addr × Obj} (M : Made h h' tl) (hp : p ∈ tl) : Made h h' [p] := fun q hq => by
  rw [List.mem_singleton] at hq; subst hq; exact M q hp
variable {w : World} {mg mb : Str → Option Value} {mean : ExcName → Option Value} {dp un : Nat} {fr : Option (List Env)} {gd : Option (List Code)} {s : Shared} {Q E : Value → Shared → Prop}
noncomputable abbrev tick : Str := Str.ofString "'"
theorem splitMax2_le (x : Str) : (Txt.splitMax x tick 2).length ≤ 3 := by
  unfold Txt.splitMax
  split
  · simp
  · split
    · simp
    · have := StrLaws.occ_length_le x tick 0 x.length (limitOf x 2)
      have h2 : limitOf x 2 = 2 := rfl
      rw [h2] at this ⊢
      simp only [Builtin.Str.partsBetween, List.length_map, List.length_zip, List.length_cons, List.length_append, List.length_nil]
      omega
set_option maxRecDepth 100000 in
set_option maxHeartbeats 4000000 in
theorem decode_spec (x : Str) (tx : Tok)
  (T : Top topProg LOOSE mean mg mb s.heap) (X : (Mine.hd.heap_39 w.params).In s.heap) (hd : dp < recursionLimit) (hx : x.length ≤ 1000)
  (hT : (Txt.splitMax x tick 2).length ≤ 2 → ∀ h' tk' a, s.heap.StaysIn h' → Made s.heap h' [(a, { cls := .type "tuple", data := .seq [.none, .none, .str x tx].toArray })] → Q (.ref a) { s with heap := h', toks := tk' })
  (hL : ¬ (Txt.splitMax x tick 2).length ≤ 2 → ∀ h' tk' a l, s.heap.StaysIn h' → l.map (·.1) = Txt.splitMax x tick 2 → Made s.heap h' [(a, { cls := .type "list", data := .seq (strValues l).toArray })] → Q (.ref a) { s with heap := h', toks := tk' })
   :
  wpAny (model PySem.Challenge.rw_wr0012_01.row.prog w) (Ar dp un fr gd) (call (.ref 37) [.str x tx]) Q E s := by
  revert X; k_fill; intro X
  have hf : s.heap.get? 37 = ((Mine.hd.heap_39 w.params).lookup 37) := X 37 _ rfl
  refine wpAny_call (call_plain_ret (binds := [(Str.ofString "s", .str x tx)]) hd hf rfl T.nolimit (codeRec_of X (by rfl)) (by rfl) (locs (by rfl)) (fun h₁ F => ?_))
  have N : News s.heap s.heap.objs.size h₁ [] := News.nil
  w_on
  k_steps
  rename_i l _ _ hl _ _ _ _ F' N'
  have hl' : (strValues l).length = (Txt.splitMax x tick 2).length := by rw [← hl]; simp [strValues]
  have h3 := splitMax2_le x
  have hsz : (strValues l).toArray.size = (Txt.splitMax x tick 2).length := by simpa using hl'
  refine len_list (News.isList (by assumption) (by k_mem)) (by omega) ?_
  k_steps
  · rename_i hc _ _ _ F1 N1 _
    exact hT (by omega) _ _ _ F1.keep ((Made.of N1).one (.head _))
  · rename_i hc _
    exact hL (by omega) _ _ _ _ F'.keep hl ((Made.of N').one (.head _))
end Mine
end
section
open PySem PySem.W PyProof.Rows PySem.Spec
namespace Mine
variable {w : World} {mg mb : Str → Option Value} {mean : ExcName → Option Value} {dp un : Nat} {fr : Option (List Env)} {gd : Option (List Code)} {s : Shared} {Q E : Value → Shared → Prop}
noncomputable def endOf (i c : Nat) (g : Gap) (e : List (Nat × Nat)) : List (Nat × Nat) := match g with
  | .leaf => [(i, c)]
  | _ => e
noncomputable def Gap.ends : Gap → List (Nat × Nat)
  | .leaf => []
  | .fork c l m r => endOf 0 c l l.ends ++ endOf 1 c m m.ends ++ endOf 2 c r r.ends
inductive EndsAre (P : Params) (h : Heap) : List Value → List (Nat × Nat) → Prop where
  | nil : EndsAre P h [] []
  | cons {d : Addr} {i c : Nat} {vs : List Value} {es : List (Nat × Nat)} : AttrAt P h d i c → EndsAre P h vs es → EndsAre P h (.ref d :: vs) ((i, c) :: es)
theorem EndsAre.append {P : Params} {h : Heap} {vs vs' : List Value} {es es' : List (Nat × Nat)} (x : EndsAre P h vs es) (y : EndsAre P h vs' es') : EndsAre P h (vs ++ vs') (es ++ es') := by
  induction x with
  | nil => exact y
  | cons a _ ih => exact .cons a ih
theorem EndsAre.length {P : Params} {h : Heap} {vs : List Value} {es : List (Nat × Nat)} (x : EndsAre P h vs es) : vs.length = es.length := by
  induction x with
  | nil => rfl
  | cons a _ ih => simp [ih]
noncomputable def endsFrom (c : Nat) : Nat → List Gap → List (Nat × Nat)
  | _, [] => []
  | i, t :: ts => endOf i c t t.ends ++ endsFrom c (i + 1) ts
theorem Gap.ends_eq (t : Gap) : t.ends = endsFrom t.letter 0 t.kids := by
  cases t with
  | leaf => rfl
  | fork c l m r => simp [Gap.ends, endsFrom, Gap.letter, Gap.kids]
theorem Gap.ends_length (t : Gap) : t.ends.length ≤ 2 * t.size + 1 := by
  induction t with
  | leaf => simp [Gap.ends]
  | fork c l m r il im ir =>
    have e : ∀ (i : Nat) (g : Gap), g.ends.length ≤ 2 * g.size + 1 → (endOf i c g g.ends).length ≤ 2 * g.size + 1 := by
      intro i g h
      cases g with
      | leaf => simp [endOf]
      | fork => exact h
    have := e 0 l il; have := e 1 m im; have := e 2 r ir
    simp only [Gap.ends, Gap.size, List.length_append]
    omega
noncomputable def EndsAt (w : World) (mg mb : Str → Option Value) (mean : ExcName → Option Value) (g : Addr) (t : Gap) : Prop :=
  ∀ (dp un : Nat) (fr : Option (List Env)) (gd : Option (List Code)) (s : Shared) (Q E : Value → Shared → Prop), Top topProg LOOSE mean mg mb s.heap → (Mine.hd.heap_39 w.params).In s.heap → dp + t.high < recursionLimit → t.size ≤ 40 →
  ∀ hG : Heap, hG.StaysIn s.heap → TreeH w.params hG g t → (∀ h' tk' a n vs, s.heap.StaysIn h' → Made s.heap h' [(a, { cls := .type "list", data := .seq vs.toArray n })] → EndsAre w.params hG vs t.ends → Q (.ref a) { s with heap := h', toks := tk' }) →
  wpAny (model PySem.Challenge.rw_wr0012_01.row.prog w) (Ar dp un fr gd) (call (.ref 77) [.ref g]) Q E s
set_option maxRecDepth 100000 in
set_option maxHeartbeats 4000000 in
theorem ends_node (T : Top topProg LOOSE mean mg mb s.heap) (X : (Mine.hd.heap_39 w.params).In s.heap) {g : Addr} {t : Gap} (hd : dp + t.high < recursionLimit) (hsz : t.size ≤ 40)
  (hG : Heap) (hGs : hG.StaysIn s.heap) (x : TreeH w.params hG g t) (ih : ∀ k ∈ t.kids, ∀ g', EndsAt w mg mb mean g' k)
  (hret : ∀ h' tk' a n vs, s.heap.StaysIn h' → Made s.heap h' [(a, { cls := .type "list", data := .seq vs.toArray n })] → EndsAre w.params hG vs t.ends → Q (.ref a) { s with heap := h', toks := tk' }) :
  wpAny (model PySem.Challenge.rw_wr0012_01.row.prog w) (Ar dp un fr gd) (call (.ref 77) [.ref g]) Q E s := by
  revert X; k_fill; intro X
  have hf : s.heap.get? 77 = ((Mine.hd.heap_39 w.params).lookup 77) := X 77 _ rfl
  obtain ⟨vs0, hg, hlen0, hlimb⟩ := x.limbs
  replace hg := isList_keeps hg hGs
  clear x
  refine wpAny_call (call_plain_ret (binds := [(Str.ofString "gap", .ref g)]) (by first | exact lim 0 hd | exact limT 0 hd | (show dp < _; omega)) hf rfl T.nolimit (codeRec_of X (by rfl)) (by rfl) (locs (by rfl)) (fun h₁ F => ?_))
  have N : News s.heap s.heap.objs.size h₁ [] := News.nil
  w_on
  k_steps
  rename_i D _ _ _ F2 N2
  refine For_invV (h₀ := s.heap) (by rfl) (by rfl) ?_
  walk1
  refine loop_list_upd (fun i m₁ news₁ => ∃ vs n pre, news₁ = [(D, { cls := .type "list", data := .seq vs.toArray n })] ∧ m₁ (Str.ofString "ends") = some (.ref D) ∧ EndsAre w.params hG vs pre ∧ pre ++ endsFrom t.letter i (t.kids.drop i) = t.ends)
    rfl hg F2 N2 ⟨[], _, [], rfl, rfl, .nil, by rw [Gap.ends_eq]; rfl⟩ ?_ ?_
  · rintro i v m₁ news₁ h tk own hv hadr hoff ⟨vs, n, pre, rfl, hm, hE, hpre⟩ F₁ N₁
    have hi : i < t.kids.length := hlen0 ▸ (List.getElem?_eq_some_iff.mp hv).1
    obtain ⟨l, d, g', tk', rfl, hlG, ha, hx⟩ := hlimb i v t.kids[i] hv (List.getElem?_eq_getElem hi)
    have hl := isList_keeps hlG hGs
    clear hlG
    have F₂ := Fr.over F₁ [(Str.ofString "ends", .ref D), (Str.ofString "limb", .ref l)] ⟨hm, rfl, trivial⟩
    clear F₁ F2 N2
    have ihk := ih _ (List.getElem_mem hi) g'
    rw [List.drop_eq_getElem_cons hi] at hpre
    have hk1 := Gap.kid_high (List.getElem_mem hi)
    have hk2 := Gap.kid_size (List.getElem_mem hi)
    generalize t.kids[i] = k at *
    have hpl : pre.length + (endOf i t.letter k k.ends).length ≤ 2 * t.size + 1 := by
      have := congrArg List.length hpre
      have := t.ends_length
      simp only [List.length_append, endsFrom] at *
      omega
    cases hx with
    | leaf hgG =>
      have hg' := isList_keeps hgG hGs
      clear hgG
      k_steps
      rename_i l' h' F' N' l1
      have hvl := hE.length
      have hone : (endOf i t.letter .leaf Gap.leaf.ends) = [(i, t.letter)] := rfl
      refine extend_in (own := [(l', _)]) (rest := own) (ys := vs) F' N' (by intro p hp e; rw [List.mem_singleton.mp hp] at e; have := l1 _ (.head _); exact Nat.ne_of_gt this e) (fun p hp => hoff p hp _ (.head _)) (N' _ (.head _)).1 ?_ (by rw [sizeLine_eq]; simp; omega)
      intro h3 n3 F3 N3
      k_steps
      refine ⟨_, _, _, [(D, { cls := .type "list", data := .seq (vs ++ [Value.ref d]).toArray n3 })], rfl, F3, fun p hp => N3 p (.tail _ hp), rfl, vs ++ [Value.ref d], n3, pre ++ [(i, t.letter)], rfl, rfl, hE.append (.cons ha .nil), ?_⟩
      rw [← hpre, List.append_assoc]; rfl
    | fork hgG a0 a1 a2 b0 b1 b2 c0 c1 c2 =>
      have hx := TreeH.fork hgG a0 a1 a2 b0 b1 b2 c0 c1 c2
      have hg' := isList_keeps hgG hGs
      clear hgG a0 a1 a2 b0 b1 b2 c0 c1 c2
      k_steps
      rename Fr _ _ _ _ => F3
      rename News _ _ _ _ => N3
      refine ihk _ _ _ _ _ _ _ (T.keeps F3.keep) (X.keeps F3.keep) (by dsimp only [Ar]; omega) (by omega) hG (fun b o e => F3.keep b o (hGs b o e)) hx fun h4 tk4 a4 n4 vs4 st4 M4 E4 => ?_
      have F4 := Fr.stays F3 st4
      have N4 := News.stays N3 st4
      k_steps
      have hvl := hE.length
      have hvl4 := E4.length
      refine extend_in (own := []) (rest := own) (ys := vs) F4 N4 (by intro p hp; cases hp) (fun p hp => hoff p hp _ (.head _)) (M4 _ (.head _)).1 ?_ (by rw [sizeLine_eq]; simp only [endOf] at hpl; simp; omega)
      intro h5 n5 F5 N5
      k_steps
      refine ⟨_, _, _, [(D, { cls := .type "list", data := .seq (vs ++ vs4).toArray n5 })], rfl, F5, N5, rfl, vs ++ vs4, n5, _, rfl, rfl, hE.append E4, ?_⟩
      rw [← hpre, List.append_assoc]; rfl
  · rintro m₁ news₁ h tk ⟨vs, n, pre, rfl, hm, hE, hpre⟩ F₁ N₁
    rw [List.drop_of_length_le (by omega), show endsFrom t.letter vs0.length [] = [] from rfl, List.append_nil] at hpre
    have F₂ := Fr.over F₁ [(Str.ofString "ends", .ref D)] ⟨hm, trivial⟩
    clear F₁
    k_steps
    exact hret _ _ _ _ _ F₂.keep (Made.of N₁) (hpre ▸ hE)
theorem ends_spec (t : Gap) : ∀ g, EndsAt w mg mb mean g t := by
  have all : ∀ n (t : Gap), t.size ≤ n → ∀ g, EndsAt w mg mb mean g t := by
    intro n
    induction n with
    | zero =>
      intro t ht g dp un fr gd s Q E T X hd hsz hG hGs x hret
      refine ends_node T X hd hsz hG hGs x (fun k hk => absurd (Gap.kid_size hk) (by omega)) hret
    | succ n ih =>
      intro t ht g dp un fr gd s Q E T X hd hsz hG hGs x hret
      exact ends_node T X hd hsz hG hGs x (fun k hk g' => ih k (by have := Gap.kid_size hk; omega) g') hret
  exact all _ t (Nat.le_refl _)
end Mine
end
section
open PySem PySem.W PyProof.Rows PySem.Spec
namespace Mine
variable {w : World} {mg mb : Str → Option Value} {mean : ExcName → Option Value} {dp un : Nat} {fr : Option (List Env)} {gd : Option (List Code)} {s : Shared} {Q E : Value → Shared → Prop}
noncomputable def Gap.shape : Gap → PyData
  | .leaf => .list []
  | .fork c l m r => .list [.str (chr c), l.shape, m.shape, r.shape]
noncomputable def Has (tl : List (Addr × Obj)) (h : Heap) : Prop := ∀ p ∈ tl, h.get? p.1 = some p.2
noncomputable def ReadsIn (tl : List (Addr × Obj)) (v : Value) (d : PyData) : Prop := ∀ h, Has tl h → ∃ as, Reads h v d as
noncomputable def ReadsAllIn (tl : List (Addr × Obj)) (vs : List Value) (ds : List PyData) : Prop := ∀ h, Has tl h → ∃ as, ReadsAll h vs ds as
theorem readsAll_snoc {h : Heap} {v : Value} {d : PyData} {as : List Addr} (x : Reads h v d as) : ∀ {vs : List Value} {ds : List PyData} {bs : List Addr}, ReadsAll h vs ds bs → ∃ cs, ReadsAll h (vs ++ [v]) (ds ++ [d]) cs
  | _, _, _, .nil => ⟨_, .cons x .nil⟩
  | _, _, _, .cons y r => let ⟨_, q⟩ := readsAll_snoc x r; ⟨_, .cons y q⟩
noncomputable def ShapeAt (w : World) (mg mb : Str → Option Value) (mean : ExcName → Option Value) (g : Addr) (t : Gap) : Prop :=
  ∀ (dp un : Nat) (fr : Option (List Env)) (gd : Option (List Code)) (s : Shared) (Q E : Value → Shared → Prop), Top topProg LOOSE mean mg mb s.heap → (Mine.hd.heap_39 w.params).In s.heap → dp + t.high < recursionLimit → t.size ≤ 40 →
  TreeH w.params s.heap g t → (∀ h' tk' v tl, s.heap.StaysIn h' → Made s.heap h' tl → ReadsIn tl v t.shape → Q v { s with heap := h', toks := tk' }) →
  wpAny (model PySem.Challenge.rw_wr0012_01.row.prog w) (Ar dp un fr gd) (call (.ref 82) [.ref g]) Q E s
set_option maxRecDepth 100000 in
set_option maxHeartbeats 4000000 in
theorem shape_fork (T : Top topProg LOOSE mean mg mb s.heap) (X : (Mine.hd.heap_39 w.params).In s.heap) {g : Addr} {c : Nat}
  {a b e : Gap} (hd : dp + (Gap.fork c a b e).high < recursionLimit) (hsz : (Gap.fork c a b e).size ≤ 40)
  (x : TreeH w.params s.heap g (Gap.fork c a b e)) (ih : ∀ k ∈ (Gap.fork c a b e).kids, ∀ g', ShapeAt w mg mb mean g' k)
  (hret : ∀ h' tk' v tl, s.heap.StaysIn h' → Made s.heap h' tl → ReadsIn tl v (Gap.fork c a b e).shape → Q v { s with heap := h', toks := tk' }) :
  wpAny (model PySem.Challenge.rw_wr0012_01.row.prog w) (Ar dp un fr gd) (call (.ref 82) [.ref g]) Q E s := by
  revert X; k_fill; intro X
  have hf : s.heap.get? 82 = ((Mine.hd.heap_39 w.params).lookup 82) := X 82 _ rfl
  obtain ⟨vs0, hgv, hlen0, hlimb⟩ := x.limbs
  cases x with
  | fork hg h0 h1 h2 _ _ _ _ _ _ =>
  refine wpAny_call (call_plain_ret (binds := [(Str.ofString "gap", .ref g)]) (by first | exact lim 0 hd | exact limT 0 hd | (show dp < _; omega)) hf rfl T.nolimit (codeRec_of X (by rfl)) (by rfl) (locs (by rfl)) (fun h₁ F => ?_))
  have N : News s.heap s.heap.objs.size h₁ [] := News.nil
  w_on
  iterate 19 walk1
  rename_i D0 h4 F4 N4 _
  refine comp_expr (cl := []) rfl rfl (by decide) (by decide) (by decide) ?_
  walk1
  have hl4 : h4.IsList g vs0.toArray := isList_keeps hgv F4.keep
  refine compAt_list (news := []) rfl hl4 h4 (fun _ _ e => e) (Nat.le_refl _) (fun i ys news => ReadsAllIn news ys (((Gap.fork c a b e).kids.take i).map Gap.shape)) (fun p hp => by cases hp) (fun h _ => ⟨[], .nil⟩) (by rw [hlen0]; simp [Gap.kids]) ?_ ?_
  · intro It C D i v m₁ ys ep news₁ own h tk hIt hItD hDC hv hJ hys ho hnw hIo F N
    clear hret
    have T4 := T.keeps F4.keep
    have X4 := X.keeps F4.keep
    have hi : i < (Gap.fork c a b e).kids.length := hlen0 ▸ (List.getElem?_eq_some_iff.mp hv).1
    obtain ⟨l, d, g', tk', rfl, hl, ha, hx⟩ := hlimb i v _ hv (List.getElem?_eq_getElem hi)
    have hl := isList_keeps hl F4.keep
    have hk1 := Gap.kid_high (List.getElem_mem hi)
    have hk2 := Gap.kid_size (List.getElem_mem hi)
    have ihk := ih _ (List.getElem_mem hi) g'
    k_steps
    all_goals (try k_data)
    refine ihk _ _ _ _ _ _ _ (T4.keeps F.keep) (X4.keeps F.keep) (by dsimp only [Ar]; omega) (by omega) ((hx.keeps F4.keep).keeps F.keep) fun h5 tk5 v5 tl5 st5 M5 R5 => ?_
    k_unfold
    have hN5 : ∀ p ∈ tl5, p.1 ≠ D ∧ p.1 ∉ [It] := fun p hp => by
      have hn := (M5 p hp).2
      refine ⟨fun e => ?_, fun e => ?_⟩
      · have := (N _ (.head _)).1
        rw [e] at hn
        rw [hn] at this; cases this
      · obtain ⟨o, ho, _⟩ := hIo
        rw [List.mem_singleton.mp e] at hn
        rw [hn] at ho; cases ho
    refine ⟨h5, tk5, _, tl5 ++ news₁, rfl, Fr.stays F st5, ?_, ?_, ?_⟩
    · have N5 := News.stays N st5
      intro p hp
      revert p hp
      refine all_cons ?_ ?_
      · exact N5 _ (.head _)
      · intro p hp
        rcases List.mem_append.mp hp with hp | hp
        · rcases List.mem_append.mp hp with hp | hp
          · exact News.made F M5 p hp
          · exact N5 _ (.tail _ (List.mem_append_left _ hp))
        · exact N5 _ (.tail _ (List.mem_append_right _ hp))
    · intro p hp
      rcases List.mem_append.mp hp with hp | hp
      · exact hN5 p hp
      · exact hnw p hp
    · intro h6 hh
      obtain ⟨bs, hb⟩ := hJ h6 fun p hp => hh p (List.mem_append_right _ hp)
      obtain ⟨as, ha⟩ := R5 h6 fun p hp => hh p (List.mem_append_left _ hp)
      obtain ⟨cs, hc⟩ := readsAll_snoc ha hb
      refine ⟨cs, ?_⟩
      have e : List.map Gap.shape (List.take (i + 1) (Gap.fork c a b e).kids) = List.map Gap.shape (List.take i (Gap.fork c a b e).kids) ++ [((Gap.fork c a b e).kids[i]).shape] := by
        rw [List.take_add_one, List.getElem?_eq_getElem hi]; rw [List.map_append]; rfl
      rw [e]; exact hc
  · intro D h5 tk5 ys ep news' st5 hN5 hD hys hJ
    have F5 := Fr.stays F4 st5
    have N5 := News.stays N4 st5
    have N6 := News.app N5 (News.made F4 hN5)
    refine add_lists (vs := [.str (chr c) _]) (ws := ys) F5 N6 (News.isList N6 (.head _)) (News.isList N6 (.tail _ (.head _))) ?_ (by rw [sizeLine_eq]; have : vs0.length = 3 := hlen0; simp; omega)
    intro h7 F7 N7
    refine hret _ _ _ _ F7.keep (Made.of N7) fun h8 hh => ?_
    obtain ⟨bs, hb⟩ := hJ h8 fun p hp => hh p (by simp [hp])
    have hb' : ReadsAll h8 ys [a.shape, b.shape, e.shape] bs := by
      rw [hlen0] at hb
      simpa [Gap.kids] using hb
    exact ⟨_, .list (hh _ (.head _)) rfl rfl (.cons (.str _ _) hb')⟩
set_option maxRecDepth 100000 in
set_option maxHeartbeats 4000000 in
theorem shape_leaf (T : Top topProg LOOSE mean mg mb s.heap) (X : (Mine.hd.heap_39 w.params).In s.heap) {g : Addr} (hd : dp < recursionLimit)
  (hg : s.heap.IsList g #[])
  (hret : ∀ h' tk' v tl, s.heap.StaysIn h' → Made s.heap h' tl → ReadsIn tl v (.list []) → Q v { s with heap := h', toks := tk' }) :
  wpAny (model PySem.Challenge.rw_wr0012_01.row.prog w) (Ar dp un fr gd) (call (.ref 82) [.ref g]) Q E s := by
  revert X; k_fill; intro X
  have hf : s.heap.get? 82 = ((Mine.hd.heap_39 w.params).lookup 82) := X 82 _ rfl
  refine wpAny_call (call_plain_ret (binds := [(Str.ofString "gap", .ref g)]) (by first | exact lim 0 hd | exact limT 0 hd | (show dp < _; omega)) hf rfl T.nolimit (codeRec_of X (by rfl)) (by rfl) (locs (by rfl)) (fun h₁ F => ?_))
  have N : News s.heap s.heap.objs.size h₁ [] := News.nil
  w_on
  k_steps
  rename Fr _ _ _ _ => F2
  rename News _ _ _ _ => N2
  exact hret _ _ _ _ F2.keep (Made.of N2) fun h8 hh => ⟨_, .list (hh _ (.head _)) rfl rfl .nil⟩
theorem shape_spec (t : Gap) : ∀ g, ShapeAt w mg mb mean g t := by
  have all : ∀ n (t : Gap), t.size ≤ n → ∀ g, ShapeAt w mg mb mean g t := by
    intro n
    induction n with
    | zero =>
      intro t ht g dp un fr gd s Q E T X hd hsz x hret
      cases t with
      | leaf => cases x with
        | leaf hg => exact shape_leaf T X (by simpa [Gap.high] using hd) hg hret
      | fork => simp [Gap.size] at ht
    | succ n ih =>
      intro t ht g dp un fr gd s Q E T X hd hsz x hret
      cases t with
      | leaf => cases x with
        | leaf hg => exact shape_leaf T X (by simpa [Gap.high] using hd) hg hret
      | fork c a b e => exact shape_fork T X hd hsz x (fun k hk g' => ih k (by have := Gap.kid_size hk; omega) g') hret
  exact all _ t (Nat.le_refl _)
end Mine
end
section
open PySem PySem.W PyProof.Rows PySem.Spec PySem.Calls
namespace Mine
variable {w : World} {mg mb : Str → Option Value} {mean : ExcName → Option Value} {dp un : Nat} {fr : Option (List Env)} {gd : Option (List Code)} {s : Shared} {Q E : Value → Shared → Prop}
theorem call_lam {prog : Program} {A : Around} {R : Result → Shared → Prop} {name qual : Str} {params : Arguments} {body : PySem.Expr} {scope : Scope} {cl : List (Str × Addr)} {pm ctv : Value} {c' : Addr} {f : Addr} {args : List Value} {binds : List (Str × Value)}
    (hroom : A.depth < recursionLimit) (ho : s.heap.get? f = some (kla_obj name qual params body scope cl pm c' ctv)) (hcd : s.heap.CodeRec (.ref c') qual) (hlim : s.heap.NoLimit)
    (hbind : bindArgs (kla_fn name qual params body scope cl pm (.ref c') ctv) ⟨args, []⟩ = pure binds) (hloc : ∀ y ∈ binds, scope.names.lookup y.1 = some .local)
    (h : ∀ h₁, Fr s.heap s.heap.objs.size h₁ (fun y => binds.reverse.lookup y) →
      wpAny (model prog w) (A.deeper (envX qual scope s.heap.objs.size f (.ref c') cl)) (eval body (envX qual scope s.heap.objs.size f (.ref c') cl))
        (fun v s' => R (.ok (.ret v)) s') (fun _ _ => False) { s with heap := h₁, toks := s.toks + binds.length })
    (hco : scope.isCoroutine = false := by rfl) (hgen : scope.isGenerator = false := by rfl) (hk : scope.kind = .function := by rfl)
    (hcell : ∀ x ∈ scope.names, x.2 ≠ .cell := by decide) : codeAny (model prog w) A (.call (.ref f) ⟨args, []⟩) R s := by
  refine kla_callFunE hroom ho rfl hco hgen rfl hcd ?_
  rw [hbind]
  refine wpAny_pure (wpAny_newFunctionEnv hcell hloc (fun h₁ hns hsb => ⟨hlim.fresh _ hsb, ?_⟩) hk)
  show codeAny _ _ (.expr body (envX qual scope s.heap.objs.size f (.ref c') cl)) _ _
  exact kla_codeExpr (wpAny_mono (h h₁ ⟨hns, fun b o e => hsb.extBut b o (Nat.ne_of_lt (Heap.lt_size e)) (Heap.get?_push_of_some _ e), Nat.le_refl _⟩) (fun _ _ x => x) fun _ _ x => x.elim)
set_option maxRecDepth 100000 in
set_option maxHeartbeats 4000000 in
theorem lam_make (T : Top topProg LOOSE mean mg mb s.heap) (X : (Mine.hd.heap_39 w.params).In s.heap) {f c : Addr} {ct : Value} {x : Str} {tx : Tok} {d : Addr}
  (hd : dp < recursionLimit) (ho : s.heap.get? f = some (lamObj 1 mg [] c ct)) (hc : s.heap.CodeRec (.ref c) lamQual)
  (hret : ∀ el gl n1 h' tk', s.heap.StaysIn h' → Made s.heap h' [(el, lst [.str x tx, .ref d, .ref gl] n1), (gl, lst [] 0)] → el ≠ gl → Q (.ref el) { s with heap := h', toks := tk' }) :
  wpAny (model PySem.Challenge.rw_wr0012_01.row.prog w) (Ar dp un fr gd) (call (.ref f) [.str x tx, .ref d]) Q E s := by
  revert X; k_fill; intro X
  refine wpAny_call (call_lam (binds := [(Str.ofString "tag", .str x tx), (Str.ofString "attrib", .ref d)]) (by first | exact lim 0 hd | exact limT 0 hd | (show dp < _; omega)) ho hc T.nolimit (by rfl) (locs (by rfl)) (fun h₁ F => ?_) (by rfl) (by rfl) (by rfl) (by decide +kernel))
  have N : News s.heap s.heap.objs.size h₁ [] := News.nil
  conv in (occs := *) lamOf 1 => all_goals whnf
  clear ho
  dsimp only
  w_on
  k_steps
  rename_i gl h2 _ el h3 F3 N3 l3
  exact hret _ _ _ _ _ F3.keep (Made.of N3) (by show @Ne Nat _ _; omega)
theorem nameX_FB {M : Model} {A : Around} {h₀ : Heap} {L a c : Addr} {m : Str → Option Value} {cn : Str} {cs : Scope} {ccd : Value} {cl : List (Str × Addr)} {x : Str} {pos : Pos} {v : Value} (F : Fr h₀ L s.heap m) (hc : cl.lookup x = some c) (hv : CellIn h₀ c v) (h : Q v s)
    (hk : cs.kind = .function := by rfl) (hx : (envX cn cs L a ccd cl).kindOf x = some .free := by rfl) (hb : (x == ("__debug__" : Str)) = false := by decide) (hn : (x == ("__classdict__" : Str)) = false := by decide) :
    wpAny M A (eval (.Name x pos) (envX cn cs L a ccd cl)) Q E s := wpAny_Name (wpAny_loadName_free hk hx hc (hv.keeps F.keep).is h hn) hb
set_option maxRecDepth 100000 in
set_option maxHeartbeats 400000 in
theorem lam_append {h₀ : Heap} (T : Top topProg LOOSE mean mg mb h₀) (X : (Mine.hd.heap_39 w.params).In h₀) (st : h₀.StaysIn s.heap) {f c g el ca : Addr} {ct : Value} {vs : List Value} {n : Nat} (hg0 : h₀.get? g = none)
  (hd : dp < recursionLimit) (ho : s.heap.get? f = some (lamObj 2 mg [(Str.ofString "gap", ca)] c ct)) (hc : s.heap.CodeRec (.ref c) lamQual) (hcell : CellIn s.heap ca (.ref g)) (hg : s.heap.get? g = some (lst vs n)) (hlen : vs.length ≤ 100)
  (hret : ∀ h' tk', (hideAll s.heap [g]).StaysIn h' → h'.get? g = some (lst (vs ++ [.ref el]) (n + 1)) → Q .none { s with heap := h', toks := tk' }) :
  wpAny (model PySem.Challenge.rw_wr0012_01.row.prog w) (Ar dp un fr gd) (call (.ref f) [.ref el]) Q E s := by
  revert X; k_fill; intro X
  have hlim := T.nolimit.keeps st
  refine wpAny_call (call_lam (binds := [(Str.ofString "limb", .ref el)]) (by first | exact lim 0 hd | exact limT 0 hd | (show dp < _; omega)) ho hc hlim (by rfl) (locs (by rfl)) (fun h₁ F => ?_) (by rfl) (by rfl) (by rfl) (by decide +kernel))
  have Lg : g < s.heap.objs.size := Heap.lt_size hg
  obtain ⟨⟨oc, eoc, doc⟩⟩ := hcell
  have hca : ca ≠ g := fun e => by rw [e, hg] at eoc; cases eoc; cases doc
  have N : News (hideAll s.heap [g]) s.heap.objs.size h₁ [(g, lst vs n)] := fun p hp => by
    rw [List.mem_singleton.mp hp]; exact ⟨F.keep _ _ hg, Nat.ne_of_lt Lg, hideAll_none _ (.head _)⟩
  have stB := hide_stays (as := [g]) st (by simpa using hg0)
  have T := T.keeps stB
  have hcB : (hideAll s.heap [g]).get? ca = some oc := hideAll_get _ eoc (by simpa using hca)
  have F := Fr.hide [g] F
  have hcl : CellIn (hideAll s.heap [g]) ca (.ref g) := ⟨⟨oc, hcB, doc⟩⟩
  conv in (occs := *) lamOf 2 => all_goals whnf
  clear ho hg
  dsimp only
  w_on
  walk1
  refine nameX_FB F rfl hcl ?_
  k_steps
  rename_i h2 F2 N2
  refine hret h2 _ F2.keep ?_
  have := (N2 _ (.head _)).1
  simpa [lst] using this
end Mine
end
section
open PySem PySem.W PyProof.Rows PySem.Spec
set_option maxRecDepth 100000
namespace Mine
section
variable {prog : Program} {w : World} {A : Around} {E : Value → Shared → Prop} {s : Shared}
theorem dictPut_pairs {K : Type} [DecidableEq K] {knd : KeyKind prog w K} {d : Addr} {kvs : List (K × Value)} {k : K} {key v : Value} {Q : Unit → Shared → Prop} (hkey : knd.is k key = true) (hm : s.heap.DictOf knd d kvs)
    (hQ : ∀ h', h'.DictOf knd d (stored kvs k v) → Heap.SameBut d s.heap h' → Q () { s with heap := h' })
    (hsz : kvs.length ≤ sizeLine := by size_fits) :
    wpAny (model prog w) A (dictPut d (knd.hash k) key v) Q E s := by
  obtain ⟨o, es, ep, ho, hc, hd, hk, hp, hn⟩ := dict_parts hm
  have hes : es.size ≤ sizeLine := by have e1 := hp.length; have e2 : es.toList.length = es.size := by simp
                                      omega
  unfold dictPut
  refine wpAny_bind (wpAny_dictFind_of hkey ho hd hk ?_)
  have hidx : (es.findIdx? fun e => knd.is k e.key) = kvs.findIdx? fun kv => decide (kv.1 = k) := by
    rw [← hp.findIdx k]; obtain ⟨l⟩ := es; simp
  cases hi : es.findIdx? fun e => knd.is k e.key with
  | some i =>
    refine (wpAny_updateDict ho hd (hQ _ ⟨_, _, ep, Heap.get?_update_self _ ho (Obj.isFreed_of_dict (Obj.data_mapDict hd _)),
      hc.mapDict _, Obj.data_mapDict hd _, hk.modify _ _, ?_, ?_⟩ (Heap.SameBut.update ..)))
    · rw [stored, if_pos (any_of_findIdx_some (hidx ▸ hi))]
      have hl : (es.toList.findIdx? fun e => knd.is k e.key) = some i := by rw [← hi]; obtain ⟨l⟩ := es; simp
      have := hp.modify hn hl v
      obtain ⟨l⟩ := es
      simpa using this
    · rw [stored, if_pos (any_of_findIdx_some (hidx ▸ hi)), keys_map_store]; exact hn
  | none =>
    have hnot : k ∉ kvs.map (·.1) := not_mem_of_findIdx_none (hidx ▸ hi)
    have hany : ¬ (kvs.any fun kv => decide (kv.1 = k)) = true := by
      rw [List.any_eq_true]; rintro ⟨kv, hkv, he⟩
      exact hnot (List.mem_map.mpr ⟨kv, hkv, of_decide_eq_true he⟩)
    refine (wpAny_updateDictKeys (hz := hes) ho hd (hQ _ ⟨_, _, ep + 1, Heap.get?_update_self _ ho (Obj.isFreed_of_dict (Obj.data_mapDictKeys hd _)),
      hc.mapDictKeys _, Obj.data_mapDictKeys hd _, hk.push hkey _, ?_, ?_⟩ (Heap.SameBut.update ..)))
    · rw [stored, if_neg hany]
      have := hp.append hkey (knd.hash k) v
      obtain ⟨l⟩ := es
      simpa using this
    · rw [stored, if_neg hany, List.map_append, List.nodup_append]
      refine ⟨hn, by simp, ?_⟩
      intro a ha b hb
      simp only [List.map_cons, List.map_nil, List.mem_singleton] at hb
      subst hb
      exact fun e => hnot (e ▸ ha)
inductive MergeInv (prog : Program) (w : World) (kvs more : List (Str × Value)) (eso : Array DictEntry) (o d : Addr) (oo : Obj) (s' : Shared) (rest : List Nat) (s₁ : Shared) : Prop where
  | mk (h' : Heap) (i : Nat) (c0 : s₁ = { s' with heap := h' }) (c1 : rest = List.range' i (eso.size - i)) (c2 : i ≤ eso.size) (c3 : h'.DictOf (strKind prog w) d (merged kvs (more.take i))) (c4 : h'.get? o = some oo) (c5 : Heap.SameBut d s'.heap h')
theorem merge_map {d o : Addr} {kvs more : List (Str × Value)} {Q : Unit → Shared → Prop} (hdo : d ≠ o) (hoS : (o == sysModules) = false)
    (hd : s.heap.DictOf (strKind prog w) d kvs) (ho : s.heap.DictOf (strKind prog w) o more)
    (hQ : ∀ h', h'.DictOf (strKind prog w) d (merged kvs more) → Heap.SameBut d s.heap h' → Q () { s with heap := h' })
    (hsz : kvs.length + more.length ≤ sizeLine := by size_fits) :
    wpAny (model prog w) A (mergeMapping d (.ref o) false) Q E s := by
  obtain ⟨od, esd, epd, hod, hcd, hdd, hkd, hpd, hnd⟩ := dict_parts hd
  obtain ⟨oo, eso, epo, hoo, hco, hdo', hko, hpo, hno⟩ := dict_parts ho
  have hT : s.TypeIs (.ref o) "dict" := ⟨oo, hoo, hco.1⟩
  unfold mergeMapping
  have hlen : more.length = eso.size := by rw [← hpo.length]; simp
  refine wpAny_bind (wpAny_isInstance hT isSubtype_dict_dict ?_)
  simp only [if_true]
  refine wpAny_bind (wpAny_specialOf hT F.slot_dict_iter.lookup ?_)
  refine wpAny_bind (wpAny_pure ?_)
  simp only [beq_self_eq_true]
  rw [hoS]
  simp only [Bool.false_eq_true, if_false]
  have loop : ∀ s' : Shared, s' = s → wpAny (model prog w) A (do
      let l ← dictEntries o
      let epoch ← dictEpoch o
      forIn (List.range l.size) PUnit.unit fun i (_ : PUnit) => (do
          let l' ← dictEntries o
          match l'[i]? with
            | some e => do
              holding [e.key, e.val] (dictPut d e.hash e.key e.val)
              let ep' ← dictEpoch o
              if (ep' != epoch) = true then do
                  (unsupported "dict.changed-during-merge" : Sem PUnit)
                  pure (ForInStep.yield PUnit.unit)
                else pure (ForInStep.yield PUnit.unit)
            | _ => do
              (unsupported "dict.changed-during-merge" : Sem PUnit)
              pure (ForInStep.yield PUnit.unit) : Sem (ForInStep PUnit))
      pure ()) Q E s' := by
    rintro s' rfl
    refine wpAny_bind (wpAny_dictEntries hoo hdo' ?_)
    refine wpAny_bind (wpAny_dictEpoch hoo hdo' ?_)
    refine wpAny_bind ?_
    rw [List.range_eq_range']
    refine wpAny_forIn_list _
      (fun rest _ s₁ => MergeInv prog w kvs more eso o d oo s' rest s₁)
      _ ?_ ?_ _ _ ⟨s'.heap, 0, rfl, by simp, Nat.zero_le _, by simpa [merged] using hd, hoo, Heap.SameBut.refl _ _⟩
    · rintro x rest b s₁ ⟨h', i, rfl, hr, hi, hd', hoo', hs'⟩
      have hlt : i < eso.size := by
        rcases Nat.lt_or_ge i eso.size with h | h
        · exact h
        · rw [Nat.sub_eq_zero_of_le h] at hr; simp at hr
      obtain ⟨rfl, hrest⟩ : x = i ∧ rest = List.range' (i + 1) (eso.size - (i + 1)) := by
        have e : eso.size - i = (eso.size - (i + 1)) + 1 := ar_sub ‹_›
        rw [e, List.range'_succ] at hr
        injection hr with h1 h2
        exact ⟨h1, h2⟩
      refine wpAny_bind (wpAny_dictEntries hoo' hdo' ?_)
      rw [Array.getElem?_eq_getElem hlt]
      obtain ⟨kv, hkv⟩ : ∃ kv, more[x]? = some kv := ⟨more[x]'(by rw [hlen]; exact hlt), List.getElem?_eq_getElem _⟩
      obtain ⟨k, v⟩ := kv
      obtain ⟨hkey, hval⟩ := hpo.get? (e := eso[x]) (by simp [hlt]) hkv
      obtain ⟨k', hkey', hhash⟩ := hko eso[x] (Array.getElem_mem hlt)
      obtain rfl : k' = k := (strKind prog w).inj _ _ _ hkey' hkey
      show wpAny _ _ (holding [eso[x].key, eso[x].val] (dictPut d eso[x].hash eso[x].key eso[x].val) >>= _) _ _ _
      rw [hhash, hval]
      have hmx : (merged kvs (more.take x)).length ≤ sizeLine := by
        have e1 := merged_length_le kvs (more.take x)
        have e2 : (more.take x).length ≤ more.length := by rw [List.length_take]; omega
        omega
      refine wpAny_bind (wpAny_holding (dictPut_pairs (hsz := hmx) hkey hd' fun h'' hd'' hs'' => ?_))
      have hoo'' : h''.get? o = some oo := (hs''.2 o (Ne.symm hdo)).trans hoo'
      refine wpAny_bind (wpAny_dictEpoch hoo'' hdo' ?_)
      rw [if_neg (by simp)]
      exact wpAny_pure ⟨h'', x + 1, rfl, hrest, hlt, by rw [merged_take_succ kvs more x (k', v) hkv]; exact hd'', hoo'', hs'.trans hs''⟩
    · rintro b s₁ ⟨h', i, rfl, hr, hi, hd', hoo', hs'⟩
      have hin : i = eso.size := by
        rcases Nat.lt_or_ge i eso.size with h | h
        · have e : eso.size - i = (eso.size - (i + 1)) + 1 := ar_sub ‹_›
          rw [e, List.range'_succ] at hr; exact nomatch hr
        · exact Nat.le_antisymm hi h
      refine wpAny_pure (hQ h' ?_ hs')
      rw [hin, ← hlen, List.take_length] at hd'; exact hd'
  refine wpAny_bind (wpAny_dictEntries hod hdd ?_)
  split
  · refine wpAny_bind (wpAny_dictEntries hoo hdo' ?_)
    rw [← Array.forIn_toList]
    refine wpAny_bind (wpAny_forIn_list _ (fun rest _ s' => s' = s ∧ ∀ e ∈ rest, e ∈ eso.toList) _ ?_ ?_ _ _ ⟨rfl, fun _ h => h⟩)
    · rintro x rest b s' ⟨rfl, hm⟩
      obtain ⟨k, hkey, _⟩ := hko x (Array.mem_toList_iff.mp (hm x (.head _)))
      obtain ⟨t, ht⟩ := Value.isStrOf_shape hkey
      rw [ht]
      exact wpAny_pure ⟨rfl, fun e he => hm e (.tail _ he)⟩
    · rintro b s' ⟨rfl, _⟩
      exact loop _ rfl
  · exact loop _ rfl
end
end Mine
end
section
open PySem PySem.W PyProof.Rows PySem.Spec
set_option maxRecDepth 100000
namespace Mine
section
variable {prog : Program} {w : World} {A : Around} {E : Value → Shared → Prop} {s : Shared} {env : Env}
theorem dict_stars {e1 e2 : PySem.Expr} {pos : Pos} {a b : Addr} {da db : List (Str × Value)} {Q : Value → Shared → Prop}
    (he1 : ∀ (Q' : Value → Shared → Prop) (h' : Heap), s.heap.StaysIn h' → Q' (.ref a) { s with heap := h' } → wpAny (model prog w) A (eval e1 env) Q' (fun _ _ => False) { s with heap := h' })
    (he2 : ∀ (Q' : Value → Shared → Prop) (h' : Heap), s.heap.StaysIn h' → Q' (.ref b) { s with heap := h' } → wpAny (model prog w) A (eval e2 env) Q' (fun _ _ => False) { s with heap := h' })
    (ha : s.heap.DictOf (strKind prog w) a da) (hb : s.heap.DictOf (strKind prog w) b db) (haS : (a == sysModules) = false) (hbS : (b == sysModules) = false) (hsz : da.length + db.length ≤ 100)
    (h : ∀ h', s.heap.StaysIn h' → h'.DictOf (strKind prog w) s.heap.objs.size (merged (merged [] da) db) → Q (.ref s.heap.objs.size) { s with heap := h' }) :
    wpAny (model prog w) A (eval (.Dict [none, none] [e1, e2] pos) env) Q E s := by
  rw [arm_eval_Dict]
  refine wpAny_bind (wpAny_standAt ?_)
  unfold dictDisplay
  simp only [evalEachOpt, evalEach, List.map_cons, List.map_nil, List.zip_cons_cons, List.zip_nil_right, List.forIn_cons, List.forIn_nil]
  have ev : evalOpt none env = none := rfl
  simp only [ev, List.isEmpty_nil, if_true, pure_bind]
  refine wpAny_bind (wpAny_bind (wpAny_bind (wpAny_alloc ?_)))
  have hsa : ∀ o, s.heap.StaysIn (s.heap.push o) := fun o b ob e => Heap.get?_push_of_some _ e
  have hnew : (s.heap.push { cls := .type "dict", data := .dict #[] }).DictOf (strKind prog w) s.heap.objs.size [] := Heap.DictOf.new s.heap
  have hna : s.heap.objs.size ≠ a := Ne.symm (Nat.ne_of_lt (by obtain ⟨o, _, _, e, _⟩ := ha; exact Heap.lt_size e))
  have hnb : s.heap.objs.size ≠ b := Ne.symm (Nat.ne_of_lt (by obtain ⟨o, _, _, e, _⟩ := hb; exact Heap.lt_size e))
  have keep : ∀ {h h' : Heap} {c : Addr} {dc : List (Str × Value)}, h.DictOf (strKind prog w) c dc → (∀ o, h.get? c = some o → h'.get? c = some o) → h'.DictOf (strKind prog w) c dc :=
    fun ⟨o, es, ep, e, r⟩ k => ⟨o, es, ep, k o e, r⟩
  have hm1 : (merged [] da).length ≤ da.length := by have := merged_length_le [] da; simpa using this
  refine wpAny_bind (wpAny_holding (wpAny_bind (wpAny_mono (he1 (fun v s' => v = .ref a ∧ s' = { s with heap := s.heap.push { cls := .type "dict", data := .dict #[] } }) _ (hsa _) ⟨rfl, rfl⟩) ?_ fun _ _ e => e.elim)))
  rintro v s' ⟨rfl, rfl⟩
  refine wpAny_bind (wpAny_standAt (wpAny_pure ?_))
  refine wpAny_bind (wpAny_onRaise (wpAny_tryCatch (wpAny_onRaise (wpAny_holding (merge_map (prog := prog) (w := w) (kvs := []) (more := da) hna haS hnew (keep ha fun o e => hsa _ _ _ e) (fun h' hd' hs' => ?_) (by rw [sizeLine_eq]; simp; omega))))))
  refine wpAny_pure ?_
  have st1 : s.heap.StaysIn h' := fun c ob e => (hs'.2 c (Nat.ne_of_lt (Heap.lt_size e))).trans (hsa _ _ _ e)
  simp only [List.isEmpty_nil, if_true, pure_bind]
  refine wpAny_bind (wpAny_bind (wpAny_holding (wpAny_bind (wpAny_mono (he2 (fun v s' => v = .ref b ∧ s' = { s with heap := h' }) _ st1 ⟨rfl, rfl⟩) ?_ fun _ _ e => e.elim))))
  rintro v s' ⟨rfl, rfl⟩
  refine wpAny_bind (wpAny_standAt (wpAny_pure ?_))
  refine wpAny_bind (wpAny_onRaise (wpAny_tryCatch (wpAny_onRaise (wpAny_holding (merge_map (prog := prog) (w := w) (kvs := merged [] da) (more := db) hnb hbS hd' (keep hb fun o e => st1 _ _ e) (fun h'' hd'' hs'' => ?_) (by rw [sizeLine_eq]; omega))))))
  have st2 : s.heap.StaysIn h'' := fun c ob e => (hs''.2 c (Nat.ne_of_lt (Heap.lt_size e))).trans (st1 _ _ e)
  refine wpAny_pure (wpAny_pure ?_)
  refine wpAny_bind (wpAny_pure ?_)
  exact wpAny_pure (h h'' st2 hd'')
end
end Mine
end
section
open PySem PySem.W PyProof.Rows PySem.Spec PySem.Calls
set_option maxRecDepth 100000
namespace Mine
theorem peekA_raw {α : Type} {K : Frag} {M : Model} {A : Around} {E : Value → Shared → Prop} {Q : α → Shared → Prop} {s : Shared} {o : Obj} (X : K.In s.heap) :
    ∀ (t : Sem α) (g : Addr → Sem α), peekA K ⟨M.prog, M.w.params⟩ t = some (o, g) →
      wpAny M A (g s.heap.objs.size) Q E { s with heap := s.heap.push o } → wpAny M A t Q E s := by
  intro t
  induction t with
  | rule _ k ih => intro g e q Γ p hΓ; exact ih () g e q Γ p hΓ
  | point _ k ih => intro g e q Γ p hΓ; exact ih () g e q Γ p hΓ
  | ask k ih => intro g e q Γ p hΓ; exact ih _ g e q Γ p hΓ
  | load a _ k ih =>
    intro g e q Γ p hΓ
    simp only [peekA] at e
    split at e
    · rename_i ob ho; exact ⟨ob, X _ _ ho, ih ob g e q Γ p hΓ⟩
    · cases e
  | alloc ob k _ =>
    intro g e q
    have e : some (ob, k) = some (o, g) := e
    obtain ⟨e1, e2⟩ := Prod.mk.inj (Option.some.inj e)
    subst e1
    subst e2
    show wpAny M A (alloc ob >>= k) Q E s
    exact wpAny_bind (wpAny_alloc q)
  | _ => intro g e; cases e
section
variable {prog : Program} {w : World} {A : Around} {E : Value → Shared → Prop} {d : Addr}
theorem raw_nsSet {s : Shared} {es : List DictEntry} {n : Nat} {k : Str} {v : Value} {Q : Unit → Shared → Prop} (D : s.heap.get? d = some (dictOf es n))
    (hs : ∀ e ∈ es, e.key.isStr k = false) (hr : ∀ e ∈ es, e.refKey = false)
    (h : ∀ h', h'.get? d = some (dictOf (es ++ [⟨PyData.keyHash w.params k, .str k s.toks, v⟩]) (n + 1)) → Heap.SameBut d s.heap h' → Q () { s with heap := h', toks := s.toks + 1 }) :
    wpAny (model prog w) A (nsSet d k v) Q E s := by
  have e1 : es.any (·.key.isStr k) = false := by
    cases q : es.any (·.key.isStr k) with
    | false => rfl
    | true => obtain ⟨e, he, z⟩ := List.any_eq_true.mp q; rw [hs e he] at z; cases z
  have e2 : es.any (·.refKey) = false := by
    cases q : es.any (·.refKey) with
    | false => rfl
    | true => obtain ⟨e, he, z⟩ := List.any_eq_true.mp q; rw [hr e he] at z; cases z
  have e : Obj.putName k (PyData.keyHash w.params k) (.str k s.toks) v (dictOf es n) = dictOf (es ++ [⟨PyData.keyHash w.params k, .str k s.toks, v⟩]) (n + 1) := by
    rw [putName_dict, putL_new hs]
    show dictOf _ (if es.any (·.key.isStr k) then n else n + 1) = _
    rw [e1, if_neg Bool.false_ne_true]
  have c : aRefKeyMayBeTheName k es.toArray = false := by
    rw [aRefKeyMayBeTheName_at, ← Array.any_toList, ← Array.any_toList]
    show (!es.any (·.key.isStr k) && es.any (·.refKey)) = false
    rw [e2, Bool.and_false]
  unfold nsSet
  refine wpAny_bind (wpAny_bind (wpAny_askSetting (wpAny_pure (wpAny_bind (wpAny_mkText (wpAny_bind (wpAny_loadPart D ?_)))))))
  dsimp only
  rw [c]
  refine wpAny_updatePart D (h _ ?_ (Heap.SameBut.update ..))
  have := Heap.get?_update_self (Obj.putName k (PyData.keyHash w.params k) (.str k s.toks) v) D (by rw [e]; rfl)
  rw [e] at this
  exact this
theorem raw_fill {Q : PUnit → Shared → Prop} : ∀ (ex : List (Str × Value)) (s : Shared) (es : List DictEntry) (n : Nat), s.heap.get? d = some (dictOf es n) →
    (∀ e ∈ es, ∀ x ∈ ex, e.key.isStr x.1 = false) → (∀ e ∈ es, e.refKey = false) → (ex.map (·.1)).Nodup →
    (∀ h', h'.get? d = some (dictOf (es ++ kwEs w.params s.toks ex) (n + ex.length)) → Heap.SameBut d s.heap h' → Q ⟨⟩ { s with heap := h', toks := s.toks + ex.length }) →
    wpAny (model prog w) A (forIn ex PUnit.unit fun x _ => (nsSet d x.1 x.2 >>= fun _ => pure (ForInStep.yield PUnit.unit))) Q E s
  | [], s, es, n, D, _, _, _, h => by
    rw [List.forIn_nil]
    refine wpAny_pure (h s.heap ?_ (Heap.SameBut.refl _ _))
    show s.heap.get? d = some (dictOf (es ++ []) n)
    rw [List.append_nil]
    exact D
  | x :: r, s, es, n, D, hs, hr, hn, h => by
    obtain ⟨hn1, hn2⟩ := List.nodup_cons.mp (show (x.1 :: r.map (·.1)).Nodup from hn)
    rw [List.forIn_cons]
    refine wpAny_bind (wpAny_bind (raw_nsSet D (fun e he => hs e he x (.head _)) hr fun h' D' hs' => wpAny_pure ?_))
    show wpAny (model prog w) A (forIn r PUnit.unit fun x _ => (nsSet d x.1 x.2 >>= fun _ => pure (ForInStep.yield PUnit.unit))) Q E { s with heap := h', toks := s.toks + 1 }
    refine raw_fill r { s with heap := h', toks := s.toks + 1 } _ _ D' (fun e he y hy => ?_) (fun e he => ?_) hn2 fun h'' D'' hs'' => ?_
    · rcases List.mem_append.mp he with he | he
      · exact hs e he y (.tail _ hy)
      · obtain rfl := List.mem_singleton.mp he
        show (x.1 == y.1) = false
        exact beq_eq_false_iff_ne.mpr fun q => hn1 (by rw [q]; exact List.mem_map_of_mem hy)
    · rcases List.mem_append.mp he with he | he
      · exact hr e he
      · obtain rfl := List.mem_singleton.mp he
        rfl
    · have t1 : s.toks + 1 + r.length = s.toks + (r.length + 1) := by omega
      have t2 : n + 1 + r.length = n + (r.length + 1) := by omega
      show Q ⟨⟩ { s with heap := h'', toks := s.toks + 1 + r.length }
      rw [t1]
      refine h h'' ?_ (hs'.trans hs'')
      rw [t2, List.append_assoc] at D''
      exact D''
theorem call_more {K : Frag} {R : Result → Shared → Prop} {s : Shared} {name qual : Str} {params : Arguments} {body : List Stmt} {scope : Scope} {dV kV doc pm cdv ct : Value} {an : Option Addr} {f : Addr} {o : Obj} {args : Args} {nm : Str} {ex front : List (Str × Value)} {g₁ : Addr → Sem (List (Str × Value))}
    (hroom : A.depth < recursionLimit) (ho : s.heap.get? f = some o) (hdata : o.data = .func (fnOf name qual params body scope dV kV doc pm an cdv ct)) (hlim : s.heap.NoLimit) (hcd : s.heap.CodeRec cdv qual) (X : K.In s.heap)
    (hp : peekA K ⟨prog, w.params⟩ (bindArgs (fnOf name qual params body scope dV kV doc pm an cdv ct) args) = some (dictOf [] 0, g₁))
    (hk₁ : ∀ D, g₁ D = (forIn ex PUnit.unit (fun x _ => (nsSet D x.1 x.2 >>= fun _ => pure (ForInStep.yield PUnit.unit))) >>= fun _ => pure (front ++ [(nm, Value.ref D)])))
    (hn : kwDistinct ex = true) (hloc : ∀ D, ∀ y ∈ front ++ [(nm, Value.ref D)], scope.names.lookup y.1 = some .local)
    (h : ∀ h₁ tk od, Fr s.heap (s.heap.objs.size + 1) h₁ (fun y => (front ++ [(nm, Value.ref s.heap.objs.size)]).reverse.lookup y) → News s.heap (s.heap.objs.size + 1) h₁ [(s.heap.objs.size, od)] → od.IsDictOf (PySem.strKind prog w) ex →
      wpAny (model prog w) (A.deeper (envOf qual scope (s.heap.objs.size + 1) f cdv)) (execs body (envOf qual scope (s.heap.objs.size + 1) f cdv))
        (fun fl s' => R (.ok (.ret (match fl with | .ret v => v | _ => .none))) s') (fun _ _ => False) { s with heap := h₁, toks := tk })
    (hco : scope.isCoroutine = false := by rfl) (hgen : scope.isGenerator = false := by rfl) (hk : scope.kind = .function := by rfl) (hcell : ∀ x ∈ scope.names, x.2 ≠ .cell := by decide) :
    codeAny (model prog w) A (.call (.ref f) args) R s := by
  have hn' := kwDistinct_nodup hn
  refine codeAny_call_function (fd := fnOf name qual params body scope dV kV doc pm an cdv ct) (body := body) hroom ho hdata hco hgen rfl hcd ?_
  refine peekA_raw (o := dictOf [] 0) X _ g₁ hp ?_
  rw [hk₁]
  refine wpAny_bind (raw_fill ex _ [] 0 (Heap.get?_push_size _ rfl) (fun _ he => nomatch he) (fun _ he => nomatch he) hn' fun h' D' hs' => wpAny_pure ?_)
  have hsz : h'.objs.size = s.heap.objs.size + 1 := by rw [hs'.1]; exact Heap.size_push ..
  have st : ∀ b ob, s.heap.get? b = some ob → h'.get? b = some ob := fun b ob e => (hs'.2 b (Nat.ne_of_lt (Heap.lt_size e))).trans (Heap.get?_push_of_some _ e)
  refine wpAny_newFunctionEnv hcell (hloc _) (fun h₁ hns hsb => ⟨(hlim.keeps st).fresh _ hsb, codeAny_func ?_⟩) hk
  dsimp only at hns hsb ⊢
  rw [hsz] at hns hsb ⊢
  have hk₁ : ∀ b ob, h'.get? b = some ob → h₁.get? b = some ob := fun b ob e => hsb.extBut b ob (by rw [← hsz]; exact Nat.ne_of_lt (Heap.lt_size e)) (Heap.get?_push_of_some _ e)
  show wpAny (model prog w) (A.deeper (envOf qual scope (s.heap.objs.size + 1) f cdv)) (execs body (envOf qual scope (s.heap.objs.size + 1) f cdv)) _ _ _
  refine wpAny_mono (h h₁ _ _ ⟨hns, fun b ob e => hk₁ b ob (st b ob e), Nat.le_succ _⟩ (fun p hp => ?_) (kp_isDict s.toks (0 + ex.length) hn')) (fun _ _ x => x) fun _ _ x => x.elim
  rw [List.mem_singleton.mp hp]
  exact ⟨hk₁ _ _ D', Nat.ne_of_lt (Nat.lt_succ_self _), Heap.get?_none_of_le (Nat.le_refl _)⟩
end
end Mine
end
section
open PySem PySem.W PyProof.Rows PySem.Spec PySem.Calls
namespace Mine
variable {w : World} {mg mb : Str → Option Value} {mean : ExcName → Option Value} {dp un : Nat} {fr : Option (List Env)} {gd : Option (List Code)} {s : Shared} {Q E : Value → Shared → Prop}
theorem ParentAt.hide {h : Heap} {p g : Addr} {vs : List Value} {n : Nat} (x : ParentAt mg h p g) (hg : h.get? g = some (lst vs n)) : ParentAt mg (hideAll h [g]) p g := by
  obtain ⟨oP, d, f2, f3, c2, c3, ct2, ct3, ca, e1, e2, e3, e4, e5, e6, e7, e8, e9, e10⟩ := x
  have up : ∀ {b ob}, h.get? b = some ob → ob ≠ lst vs n → (hideAll h [g]).get? b = some ob := fun {b ob} e hne => hideAll_get _ e fun hm => by
    rw [List.mem_singleton.mp hm, hg] at e
    exact hne (Option.some.inj e).symm
  have upc : ∀ {c q}, h.CodeRec (.ref c) q → (hideAll h [g]).CodeRec (.ref c) q := fun ⟨c', o, vs', t, e, ho, hd, hv⟩ => by
    cases e
    exact ⟨_, o, vs', t, rfl, up ho (by rintro rfl; cases hd), hd, hv⟩
  obtain ⟨oD, es, ep, eD, dD, rD⟩ := e5
  obtain ⟨⟨oC, eC, dC⟩⟩ := e10
  exact ⟨oP, d, f2, f3, c2, c3, ct2, ct3, ca, up e1 (by intro q; rw [q] at e2; injection e2 with q; exact absurd q (by decide)), e2, e3, e4, ⟨oD, es, ep, up eD (by rintro rfl; cases dD), dD, rD⟩, up e6 (by intro q; have := congrArg Obj.cls q; injection this with q; exact absurd q (by decide)), upc e7, up e8 (by intro q; have := congrArg Obj.cls q; injection this with q; exact absurd q (by decide)), upc e9,
    ⟨⟨oC, up eC (by rintro rfl; cases dC), dC⟩⟩⟩
theorem Fr.holed {h₀ h h' : Heap} {L g : Addr} {m : Str → Option Value} (F : Fr h₀ L h m) (hg : h₀.get? g = none) (hL : L ≠ g) (st : (hideAll h [g]).StaysIn h') : Fr h₀ L h' m :=
  ⟨F.ns.at' fun o e => st _ _ (hideAll_get _ e (by simpa using hL)), fun b o e => st _ _ (hideAll_get _ (F.keep b o e) (by simp only [List.mem_singleton]; intro q; rw [q, hg] at e; cases e)), F.above⟩
theorem News.holed {h₀ h h' : Heap} {L g : Addr} {news news' : List (Addr × Obj)} (N : News h₀ L h news) (st : (hideAll h [g]).StaysIn h') (hn : ∀ p ∈ news', p ∈ news ∧ p.1 ≠ g) : News h₀ L h' news' := fun p hp =>
  ⟨st _ _ (hideAll_get _ (N p (hn p hp).1).1 (by simpa using (hn p hp).2)), (N p (hn p hp).1).2⟩
noncomputable abbrev subEnv (L : Addr) : Env := envOf (Str.ofString "SubElement") (fnScope 1) L 23 (.ref 22)
set_option maxRecDepth 100000 in
set_option maxHeartbeats 400000 in
theorem sub_body {R : Flow → Shared → Prop} {hB : Heap} {L p g xa aa : Addr} {m : Str → Option Value} {x : Str} {tx : Tok} {da ex : List (Str × Value)} {vs : List Value} {n : Nat} {ox : Obj}
  (T : Top topProg LOOSE mean mg mb hB) (X : (Mine.hd.heap_39 w.params).In hB) (hd : dp + 2 < recursionLimit) (P : ParentAt mg hB p g)
  (F : Fr hB L s.heap m) (hm1 : m (Str.ofString "parent") = some (.ref p)) (hm2 : m (Str.ofString "tag") = some (.str x tx)) (hm3 : m (Str.ofString "attrib") = some (.ref aa)) (hm4 : m (Str.ofString "extra") = some (.ref xa))
  (N : News hB L s.heap [(xa, ox), (g, lst vs n)]) (hox : ox.IsDictOf (PySem.strKind PySem.Challenge.rw_wr0012_01.row.prog w) ex) (ha : s.heap.DictOf (PySem.strKind PySem.Challenge.rw_wr0012_01.row.prog w) aa da) (haS : (aa == sysModules) = false) (hxS : (xa == sysModules) = false) (hsz : da.length + ex.length ≤ 100) (hlen : vs.length ≤ 100) (hxg : xa ≠ g)
  (hret : ∀ el d gl n1 od h' tk', (d == sysModules) = false → hB.StaysIn h' → Made hB h' [(el, lst [.str x tx, .ref d, .ref gl] n1), (gl, lst [] 0), (d, od)] → od.IsDictOf (PySem.strKind PySem.Challenge.rw_wr0012_01.row.prog w) (merged (merged [] da) ex) → h'.get? g = some (lst (vs ++ [.ref el]) (n + 1)) → el ≠ g ∧ d ≠ g ∧ gl ≠ g ∧ el ≠ gl ∧ el ≠ d ∧ gl ≠ d → R (.ret (.ref el)) { s with heap := h', toks := tk' }) :
  wpAny (model PySem.Challenge.rw_wr0012_01.row.prog w) ((Ar dp un fr gd).deeper (subEnv L)) (execs (fnBody 1) (subEnv L)) R (fun _ _ => False) s := by
  revert X; k_fill; intro X
  have F := Fr.over F [(Str.ofString "parent", .ref p), (Str.ofString "tag", .str x tx), (Str.ofString "attrib", .ref aa), (Str.ofString "extra", .ref xa)] ⟨hm1, hm2, hm3, hm4, trivial⟩
  conv in fnBody 1 => whnf
  w_on
  iterate 2 walk1
  have hxd : s.heap.DictOf (PySem.strKind PySem.Challenge.rw_wr0012_01.row.prog w) xa ex := Heap.dictOf_iff.mpr ⟨ox, (N _ (.head _)).1, hox⟩
  have hLs : L < s.heap.objs.size := F.ns.lt
  refine dict_stars (a := aa) (b := xa) (fun Q' h' st hq => wpAny_Name (wpAny_loadName_local rfl rfl (F.ns.keeps st) rfl hq) rfl) (fun Q' h' st hq => wpAny_Name (wpAny_loadName_local rfl rfl (F.ns.keeps st) rfl hq) rfl) ha hxd haS hxS hsz fun h2 st2 hd2 => ?_
  have F2 := Fr.stays F st2
  obtain ⟨od, hod, hdd⟩ := Heap.dictOf_iff.mp hd2
  have hszL : L ≠ s.heap.objs.size := Nat.ne_of_lt hLs
  have N2 : News hB L h2 [(s.heap.objs.size, od), (xa, ox), (g, lst vs n)] := fun q hq => by
    revert q hq
    refine all_cons ?_ ?_
    · exact ⟨hod, Ne.symm hszL, Heap.get?_none_of_le (Nat.le_trans F.above (Nat.le_of_lt hLs))⟩
    · intro q hq
      exact News.stays N st2 q hq
  have hdg : s.heap.objs.size ≠ g := Ne.symm (Nat.ne_of_lt (Heap.lt_size (N _ (.tail _ (.head _))).1))
  have hdS : (s.heap.objs.size == sysModules) = false := beq_eq_false_iff_ne.mpr (Nat.ne_of_gt (modules_low (T.nolimit.keeps F.keep)))
  generalize s.heap.objs.size = d at *
  clear F
  iterate 5 walk1
  rename_i h3 F3 N3
  obtain ⟨oP, dp', f2, f3, c2, c3, ct2, ct3, ca, e1, e2, e3, e4, e5, e6, e7, e8, e9, e10⟩ := P
  refine fn_getMethod (F3.keep _ _ e1) e2 e3 e4 (e5.keeps F3.keep) (by rfl) look_fn_make fun tk3 => ?_
  refine callWith_meth (h₀ := hB) rfl e6 ?_
  k_steps
  refine lam_make (T.keeps F3.keep) (X.keeps F3.keep) (by first | exact lim 1 hd | exact limT 1 hd | (show dp + 1 < _; omega)) (F3.keep _ _ e6) (e7.keeps F3.keep) fun el gl n1 h4 tk4 st4 M4 hne4 => ?_
  have F4 := Fr.stays F3 st4
  have N4 := News.app (News.made F3 M4) (News.stays N3 st4)
  have hMg : ∀ q ∈ [(el, lst [.str x tx, .ref d, .ref gl] n1), (gl, lst [] 0)], q.1 ≠ g ∧ q.1 ≠ d := fun q hq => by
    have hn := (M4 q hq).2
    exact ⟨fun e => by rw [e] at hn; exact absurd (N3 (g, _) (by k_mem)).1 (by rw [hn]; simp), fun e => by rw [e] at hn; exact absurd (N3 (d, _) (by k_mem)).1 (by rw [hn]; simp)⟩
  iterate 5 walk1
  rename_i h5 F5 N5
  refine fn_getMethod (F5.keep _ _ e1) e2 e3 e4 (e5.keeps F5.keep) (by rfl) look_fn_append fun tk5 => ?_
  refine callWith_meth (h₀ := hB) rfl e8 ?_
  k_steps
  have hgB : hB.get? g = none := (N5 (g, _) (by k_mem)).2.2
  have hgL : L ≠ g := Ne.symm (N5 (g, _) (by k_mem)).2.1
  refine lam_append T X (by exact F5.keep) hgB (by first | exact lim 1 hd | exact limT 1 hd | (show dp + 1 < _; omega)) (by exact F5.keep _ _ e8) (by exact e9.keeps F5.keep) (by exact e10.keeps F5.keep) (by exact (N5 (g, lst vs n) (by k_mem)).1) hlen fun h6 tk6 st6 hg6 => ?_
  have F6 := Fr.holed F5 hgB hgL st6
  have N6 : News hB L h6 [(el, lst [.str x tx, .ref d, .ref gl] n1), (gl, lst [] 0), (d, od)] := News.holed N5 st6 fun q hq => by
    revert q hq
    refine all_cons ?_ (all_cons ?_ ?_)
    · exact ⟨by k_mem, (hMg _ (by k_mem)).1⟩
    · exact ⟨by k_mem, (hMg _ (by k_mem)).1⟩
    · intro q hq
      rw [List.mem_singleton.mp hq]; exact ⟨by k_mem, hdg⟩
  clear F5 N5 hd2 hxd
  k_steps
  exact hret _ _ _ _ _ _ _ hdS F6.keep (Made.of N6) hdd hg6 ⟨(hMg (el, _) (by k_mem)).1, hdg, (hMg (gl, _) (by k_mem)).1, hne4, (hMg (el, _) (by k_mem)).2, (hMg (gl, _) (by k_mem)).2⟩
end Mine
end
section
open PySem PySem.W PyProof.Rows PySem.Spec PySem.Calls
namespace Mine
variable {w : World} {mg mb : Str → Option Value} {mean : ExcName → Option Value} {dp un : Nat} {fr : Option (List Env)} {gd : Option (List Code)} {s : Shared} {Q E : Value → Shared → Prop}
noncomputable def subFn (P : Params) : FuncData := match (Mine.hd.heap_39 P).lookup 23 with
  | some ⟨_, _, .func fd, _⟩ => fd
  | _ => default
noncomputable def SubDone (w : World) (g : Addr) (vs : List Value) (n : Nat) (x : Str) (tx : Tok) (da : List (Str × Value)) (s : Shared) (Q : Value → Shared → Prop) : Prop :=
  ∀ el d gl n1 od h' tk', (d == sysModules) = false → (hideAll s.heap [g]).StaysIn h' → Made s.heap h' [(el, lst [.str x tx, .ref d, .ref gl] n1), (gl, lst [] 0), (d, od)] → od.IsDictOf (PySem.strKind PySem.Challenge.rw_wr0012_01.row.prog w) da → h'.get? g = some (lst (vs ++ [.ref el]) (n + 1)) →
    el ≠ g ∧ d ≠ g ∧ gl ≠ g ∧ el ≠ gl ∧ el ≠ d ∧ gl ≠ d → Q (.ref el) { s with heap := h', toks := tk' }
set_option maxRecDepth 100000 in
set_option maxHeartbeats 400000 in
theorem sub_call {h₀ : Heap} {p g aa : Addr} {x : Str} {tx : Tok} {da ex kw : List (Str × Value)} {pos vs : List Value} {n : Nat} {g₁ : Addr → Sem (List (Str × Value))}
  (T : Top topProg LOOSE mean mg mb h₀) (X : (Mine.hd.heap_39 w.params).In h₀) (st : h₀.StaysIn s.heap) (hg0 : h₀.get? g = none) (hd : dp + 2 < recursionLimit) (P : ParentAt mg s.heap p g) (hg : s.heap.get? g = some (lst vs n)) (hlen : vs.length ≤ 100)
  (hp : peekA (Mine.hd.heap_39 w.params) ⟨PySem.Challenge.rw_wr0012_01.row.prog, w.params⟩ (bindArgs (subFn w.params) ⟨pos, kw⟩) = some (dictOf [] 0, g₁))
  (hk₁ : ∀ D, g₁ D = (forIn ex PUnit.unit (fun x _ => (nsSet D x.1 x.2 >>= fun _ => pure (ForInStep.yield PUnit.unit))) >>= fun _ => pure ([(Str.ofString "parent", .ref p), (Str.ofString "tag", .str x tx), (Str.ofString "attrib", .ref aa)] ++ [(Str.ofString "extra", Value.ref D)])))
  (hn : kwDistinct ex = true) (ha : s.heap.DictOf (PySem.strKind PySem.Challenge.rw_wr0012_01.row.prog w) aa da) (hag : aa ≠ g) (haS : (aa == sysModules) = false) (hsz : da.length + ex.length ≤ 100)
  (hret : SubDone w g vs n x tx (merged (merged [] da) ex) s Q) :
  wpAny (model PySem.Challenge.rw_wr0012_01.row.prog w) (Ar dp un fr gd) (call (.ref 23) pos kw) Q E s := by
  have X2 := X.keeps st
  have hf : s.heap.get? 23 = ((Mine.hd.heap_39 w.params).lookup 23) := X2 23 _ rfl
  have hlim := T.nolimit.keeps st
  refine wpAny_call (call_more (K := Mine.hd.heap_39 w.params) (by first | exact lim 0 hd | exact limT 0 hd | (show dp < _; omega)) hf rfl hlim (codeRec_of X2 (by rfl)) X2 hp hk₁ hn (fun D => locs (by rfl)) (fun h₁ tk od F N hod => ?_))
  have stB := hide_stays (as := [g]) st (by simpa using hg0)
  have Lg : g < s.heap.objs.size := Heap.lt_size hg
  have hxS : (s.heap.objs.size == sysModules) = false := beq_eq_false_iff_ne.mpr (Nat.ne_of_gt (modules_low hlim))
  have N : News (hideAll s.heap [g]) (s.heap.objs.size + 1) h₁ [(s.heap.objs.size, od), (g, lst vs n)] := fun q hq => by
    revert q hq
    refine all_cons ?_ ?_
    · exact News.hide [g] N _ (.head _)
    · intro q hq
      rw [List.mem_singleton.mp hq]; exact ⟨F.keep _ _ hg, Nat.ne_of_lt (Nat.lt_succ_of_lt Lg), hideAll_none _ (.head _)⟩
  have ha₁ : h₁.DictOf (PySem.strKind PySem.Challenge.rw_wr0012_01.row.prog w) aa da := by
    obtain ⟨o, es, ep, e, r⟩ := ha
    exact ⟨o, es, ep, F.keep _ _ e, r⟩
  refine sub_body (R := fun fl s' => Q (match fl with | .ret v => v | _ => .none) s') (T.keeps stB) (X.keeps stB) hd (P.hide hg) (Fr.hide [g] F) rfl rfl rfl rfl N hod ha₁ haS hxS hsz hlen (Nat.ne_of_gt Lg) fun el d gl n1 od' h' tk' hdS st' M' hod' hg' hne => ?_
  refine hret el d gl n1 od' h' tk' hdS st' (fun q hq => ⟨(M' q hq).1, ?_⟩) hod' hg' hne
  have hqg : q.1 ≠ g := by
    revert q hq
    refine all_cons ?_ (all_cons ?_ ?_)
    · exact hne.1
    · exact hne.2.2.1
    · intro q hq
      rw [List.mem_singleton.mp hq]; exact hne.2.1
  cases e : s.heap.get? q.1 with
  | none => rfl
  | some o => have := (M' q hq).2; rw [hideAll_get _ e (by simpa using hqg)] at this; cases this
theorem dict15 {h : Heap} (X : (Mine.hd.heap_39 w.params).In h) : h.DictOf (PySem.strKind PySem.Challenge.rw_wr0012_01.row.prog w) 15 [] := by
  have h15 : h.get? 15 = ((Mine.hd.heap_39 w.params).lookup 15) := X 15 _ rfl
  exact ⟨_, #[], _, h15, ⟨rfl, rfl, rfl⟩, rfl, fun e he => absurd he (by simp), .nil, by simp⟩
section
variable {h₀ : Heap} {p g aa : Addr} {x : Str} {tx : Tok} {da : List (Str × Value)} {vs : List Value} {n : Nat} {v1 v2 : Value}
  (T : Top topProg LOOSE mean mg mb h₀) (X : (Mine.hd.heap_39 w.params).In h₀) (st : h₀.StaysIn s.heap) (hg0 : h₀.get? g = none) (hd : dp + 2 < recursionLimit) (P : ParentAt mg s.heap p g) (hg : s.heap.get? g = some (lst vs n)) (hlen : vs.length ≤ 100)
include T X st hg0 hd P hg hlen
set_option maxRecDepth 100000
set_option maxHeartbeats 1000000
theorem sub_two (hret : SubDone w g vs n x tx [(Str.ofString "limb", v1), (Str.ofString "letter", v2)] s Q) :
  wpAny (model PySem.Challenge.rw_wr0012_01.row.prog w) (Ar dp un fr gd) (call (.ref 23) [.ref p, .str x tx] [(Str.ofString "limb", v1), (Str.ofString "letter", v2)]) Q E s := by
  have h15 := dict15 (X.keeps st)
  have hg15 : (15 : Addr) ≠ g := by
    rintro rfl
    have := X 15 _ rfl
    rw [hg0] at this; cases this
  exact sub_call (aa := 15) (da := []) (ex := [(Str.ofString "limb", v1), (Str.ofString "letter", v2)]) T X st hg0 hd P hg hlen rfl (fun _ => rfl) (by rfl) h15 hg15 (by rfl) (by simp) hret
theorem sub_none (hret : SubDone w g vs n x tx [] s Q) :
  wpAny (model PySem.Challenge.rw_wr0012_01.row.prog w) (Ar dp un fr gd) (call (.ref 23) [.ref p, .str x tx] []) Q E s := by
  have h15 := dict15 (X.keeps st)
  have hg15 : (15 : Addr) ≠ g := by
    rintro rfl
    have := X 15 _ rfl
    rw [hg0] at this; cases this
  exact sub_call (aa := 15) (da := []) (ex := []) T X st hg0 hd P hg hlen rfl (fun _ => rfl) (by rfl) h15 hg15 (by rfl) (by simp) hret
theorem sub_told (ha : s.heap.DictOf (PySem.strKind PySem.Challenge.rw_wr0012_01.row.prog w) aa da) (haS : (aa == sysModules) = false) (hag : aa ≠ g) (hsz : da.length ≤ 50) (hret : SubDone w g vs n x tx (merged [] da) s Q) :
  wpAny (model PySem.Challenge.rw_wr0012_01.row.prog w) (Ar dp un fr gd) (call (.ref 23) [.ref p, .str x tx, .ref aa] []) Q E s :=
  sub_call (aa := aa) (da := da) (ex := []) T X st hg0 hd P hg hlen rfl (fun _ => rfl) (by rfl) ha hag haS (by simp; omega) hret
theorem sub_limb (ha : s.heap.DictOf (PySem.strKind PySem.Challenge.rw_wr0012_01.row.prog w) aa da) (haS : (aa == sysModules) = false) (hag : aa ≠ g) (hsz : da.length ≤ 50) (hret : SubDone w g vs n x tx (merged (merged [] da) [(Str.ofString "limb", v1)]) s Q) :
  wpAny (model PySem.Challenge.rw_wr0012_01.row.prog w) (Ar dp un fr gd) (call (.ref 23) [.ref p, .str x tx, .ref aa] [(Str.ofString "limb", v1)]) Q E s :=
  sub_call (aa := aa) (da := da) (ex := [(Str.ofString "limb", v1)]) T X st hg0 hd P hg hlen rfl (fun _ => rfl) (by rfl) ha hag haS (by simp; omega) hret
end
end Mine
end
section
open PySem PySem.W PyProof.Rows PySem.Spec
namespace Mine
section
variable {prog : Program} {w : World} {A : Around} {E : Value → Shared → Prop} {s : Shared} {env : Env} {h₀ : Heap} {x : Str} {body : List Stmt} {Q : Flow → Shared → Prop}
inductive TurnEndTN (h₀ : Heap) (L : Addr) (keep : List (Addr × Obj)) (J : (Str → Option Value) → Nat → Prop) (s₁ : Shared) (s₂ : Shared) : Prop where
  | mk (h' : Heap) (tk : Nat) (m' : Str → Option Value) (c0 : s₂ = { s₁ with heap := h', toks := tk }) (c1 : Fr h₀ L h' m') (c2 : News h₀ L h' keep) (c3 : J m' tk)
noncomputable def TurnEndT (h₀ : Heap) (L : Addr) (keep : List (Addr × Obj)) (J : (Str → Option Value) → Nat → Prop) (s₁ : Shared) (Q : Flow → Shared → Prop) (f : Flow) (s₂ : Shared) : Prop :=
  match f with
  | .ret v => Q (.ret v) s₂
  | .brk => Q .next s₂
  | _ => TurnEndTN h₀ L keep J s₁ s₂
theorem next_str_item {it : Addr} {y : Str} {t : Tok} {i c : Nat} {Q : Option Value → Shared → Prop} (hit : s.heap.IsStrIter it (strIterType y) y t i) (hx : y.cps[i]? = some c)
    (hQ : ∀ h', h'.IsStrIter it (strIterType y) y t (i + 1) → Heap.SameBut it s.heap h' → Q (some (.str ⟨#[c]⟩ s.toks)) { s with heap := h', toks := s.toks + 1 }) :
    wpAny (model prog w) A (pyNext (.ref it)) Q E s := by
  unfold strIterType at hit hQ
  cases ha : y.cps.all (· < 128)
  · simp only [ha] at hit hQ; exact wpAny_pyNext_wide_item hit hx hQ
  · simp only [ha] at hit hQ; exact wpAny_pyNext_ascii_item hit hx hQ
theorem next_str_end {it : Addr} {y : Str} {t : Tok} {i : Nat} {Q : Option Value → Shared → Prop} (hh : A.handled = none) (hit : s.heap.IsStrIter it (strIterType y) y t i) (hx : y.cps[i]? = none)
    (hQ : ∀ h', Heap.ExtBut it s.heap h' → Q none { s with heap := h' }) :
    wpAny (model prog w) A (pyNext (.ref it)) Q E s := by
  unfold strIterType at hit
  cases ha : y.cps.all (· < 128)
  · simp only [ha] at hit; exact wpAny_pyNext_wide_end hh hit hx hQ
  · simp only [ha] at hit; exact wpAny_pyNext_ascii_end hh hit hx hQ
inductive LoopT (prog : Program) (w : World) (A : Around) (h₀ : Heap) (env : Env) (x : Str) (body : List Stmt) (Q : Flow → Shared → Prop) (E : Value → Shared → Prop) (xv : Value) (s : Shared) : Prop where
  | mk (y : Str) (t : Tok) (m : Str → Option Value) (J : Nat → (Str → Option Value) → Nat → Prop) (c0 : xv = .str y t) (c1 : Fr h₀ env.locals s.heap m) (c2 : J 0 m s.toks) (c3 : (∀ i c m₁ u h tk own, y.cps[i]? = some c → J i m₁ u → u < tk → Fr h₀ env.locals h (fun y => if y = x then some (.str (chr c) u) else m₁ y) → News h₀ env.locals h own →
      wpAny (model prog w) A (execs body env) (TurnEndT h₀ env.locals own (J (i + 1)) { s with heap := h, toks := tk } Q) E { s with heap := h, toks := tk })) (c4 : ∀ m₁ u h, J y.cps.size m₁ u → Fr h₀ env.locals h m₁ → Q .next { s with heap := h, toks := u })
inductive StrInv (h₀ : Heap) (L : Addr) (y : Str) (t : Tok) (J : Nat → (Str → Option Value) → Nat → Prop) (s₁ : Shared) (k : Nat) (s' : Shared) : Prop where
  | mk (h' : Heap) (tk : Nat) (m' : Str → Option Value) (i : Nat) (c0 : s' = { s₁ with heap := h', toks := tk }) (c1 : h'.IsStrIter s₁.heap.objs.size (strIterType y) y t i) (c2 : Fr h₀ L h' m') (c3 : J i m' tk) (c4 : i ≤ y.cps.size) (c5 : k = y.cps.size + 1 - i)
theorem For_strT {px pos : Pos} {iter : Expr} (h₀ : Heap) (hh : A.handled = none) (hx : env.kindOf x = some .local)
    (hp : (env.scope.kind == .class || (env.scope.kind == .module && env.locals != env.globals)) = false)
    (h : wpAny (model prog w) A (eval iter env) (fun xv s₁ => LoopT prog w A h₀ env x body Q E xv s₁) E s)
    (hs : ∀ x, foldedSetIterable iter env x = pure x := by intro _; rfl)
    (hE : PassesOwn (model prog w) A env E := by passes_own) :
    wpAny (model prog w) A (exec (.For (.Name x px) iter body [] pos) env) Q E s := by
  refine wpAny_For (wpAny_mono h (fun xv s₁ h₁ => ?_) fun _ _ e => e) hs
  obtain ⟨y, t, m, J, rfl, F, hj, turn, done⟩ := h₁
  refine wpAny_pyIter_strU ?_
  have hIL : s₁.heap.objs.size ≠ env.locals := fun e => Nat.lt_irrefl _ (e ▸ F.ns.lt)
  have hI0 : h₀.get? s₁.heap.objs.size = none := next_is_new F
  refine codeAny_forLoop (StrInv h₀ env.locals y t J s₁) ?_ (y.cps.size + 1)
    ⟨_, _, m, 0, rfl, ⟨_, Heap.get?_push_size _ rfl, rfl, rfl⟩, F.push _, hj, Nat.zero_le _, rfl⟩
  rintro k s' ⟨h', tk, m', i, rfl, hit, F', hJ, hi, rfl⟩
  have next : ∀ h₁ : Heap, (∀ b o, b ≠ s₁.heap.objs.size → h'.get? b = some o → h₁.get? b = some o) → Fr h₀ env.locals h₁ m' := fun h₁ hk =>
    ⟨F'.ns.at' fun o e => hk _ o (Ne.symm hIL) e, fun b o e => hk b o (fun q => by rw [q, hI0] at e; cases e) (F'.keep b o e), F'.above⟩
  by_cases hlt : i < y.cps.size
  · have hc : y.cps[i]? = some y.cps[i] := Array.getElem?_eq_getElem hlt
    refine next_str_item hit hc fun h₁ hit₁ hs₁ => ?_
    have F₁ := next h₁ fun b o hb e => (hs₁.2 b hb).trans e
    refine wpAny_assign_Name (wpAny_storeName_local hx F₁.ns (fun h₂ hn₂ hs₂ => ?_) hp)
    have F₂ := F₁.set hn₂ hs₂
    obtain ⟨o, ho, hcls, hdat⟩ := hit₁
    have N₂ : News h₀ env.locals h₂ [(s₁.heap.objs.size, o)] := fun p hp => by
      rw [List.mem_singleton.mp hp]; exact ⟨(hs₂.2 _ hIL).trans ho, hIL, hI0⟩
    refine wpAny_mono (wpAny_passesOwn hE (turn i _ m' tk h₂ _ _ hc hJ (by show tk < tk + 1 + 1; omega) F₂ N₂)) (fun f s₃ h₃ => ?_) fun _ _ e => e
    cases f with
    | ret v => exact h₃
    | brk => exact h₃
    | cont => 
      obtain ⟨h₃', tk₃, m₃, rfl, F₃, N₃, hJ₃⟩ := h₃
      exact ⟨y.cps.size + 1 - (i + 1), ar_step hlt, h₃', tk₃, m₃, i + 1, rfl, ⟨o, (N₃ _ (.head _)).1, hcls, hdat⟩, F₃, hJ₃, hlt, rfl⟩
    | next => 
      obtain ⟨h₃', tk₃, m₃, rfl, F₃, N₃, hJ₃⟩ := h₃
      exact ⟨y.cps.size + 1 - (i + 1), ar_step hlt, h₃', tk₃, m₃, i + 1, rfl, ⟨o, (N₃ _ (.head _)).1, hcls, hdat⟩, F₃, hJ₃, hlt, rfl⟩
  · have hin : i = y.cps.size := by omega
    subst hin
    refine next_str_end ?_ hit (by simp) fun h₁ hs₁ => wpAny_execs_nil ?_
    · exact hh
    exact done m' _ h₁ hJ (next h₁ hs₁)
theorem wpAny_toksF {M : Model} {α : Type} {t : Sem α} {Q : α → Shared → Prop} {n : Nat} (hn : n ≤ s.toks) (h : wpAny M A t (fun a s' => n ≤ s'.toks → Q a s') (fun _ _ => False) s) : wpAny M A t Q (fun _ _ => False) s :=
  wpAny_with_toks hn (wpAny_mono h (fun _ _ x => x) fun _ _ e => e.elim)
end
end Mine
end
section
open PySem PySem.W PyProof.Rows PySem.Spec
namespace Mine
section
variable {prog : Program} {w : World} {A : Around} {E : Value → Shared → Prop} {s : Shared} {env : Env} {h₀ : Heap} {x : Str} {body : List Stmt} {Q : Flow → Shared → Prop}
noncomputable abbrev itObj (a b : Int) : Obj := { cls := .type "range_iterator", dict := none, data := .fields #[rawInt a, rawInt b, rawInt 1], slots := #[] }
inductive TurnEndHN (h₀ : Heap) (L : Addr) (keep : List (Addr × Obj)) (J : (Str → Option Value) → Heap → Prop) (s₁ : Shared) (s₂ : Shared) : Prop where
  | mk (h' : Heap) (tk : Nat) (m' : Str → Option Value) (c0 : s₂ = { s₁ with heap := h', toks := tk }) (c1 : Fr h₀ L h' m') (c2 : News h₀ L h' keep) (c3 : J m' h')
noncomputable def TurnEndH (h₀ : Heap) (L : Addr) (keep : List (Addr × Obj)) (J : (Str → Option Value) → Heap → Prop) (s₁ : Shared) (Q : Flow → Shared → Prop) (f : Flow) (s₂ : Shared) : Prop :=
  match f with
  | .ret v => Q (.ret v) s₂
  | .brk => Q .next s₂
  | _ => TurnEndHN h₀ L keep J s₁ s₂
inductive LoopR (prog : Program) (w : World) (A : Around) (h₀ : Heap) (env : Env) (x : Str) (body : List Stmt) (Q : Flow → Shared → Prop) (E : Value → Shared → Prop) (xv : Value) (s : Shared) : Prop where
  | mk (r : Addr) (n : Nat) (t u v : Tok) (m : Str → Option Value) (J : Nat → (Str → Option Value) → Heap → Prop) (c0 : xv = .ref r) (c1 : IsRange s.heap r 0 n 1 t u v) (c2 : n ≤ 1000) (c3 : Fr h₀ env.locals s.heap m) (c4 : J 0 m s.heap) (c5 : (∀ i m₁ h h', J i m₁ h → (∃ mm, h.Ns env.locals mm) → (h.get? s.heap.objs.size = none ∨ ∃ a b, h.get? s.heap.objs.size = some (itObj a b)) → (∀ b o, b ≠ env.locals → b ≠ s.heap.objs.size → h.get? b = some o → h'.get? b = some o) → J i m₁ h')) (c6 : (∀ i m₁ u h tk own, i < n → J i m₁ h → Fr h₀ env.locals h (fun y => if y = x then some (.int i u) else m₁ y) → News h₀ env.locals h own → (∃ a b, own = [(s.heap.objs.size, itObj a b)]) →
      wpAny (model prog w) A (execs body env) (TurnEndH h₀ env.locals own (J (i + 1)) { s with heap := h, toks := tk } Q) E { s with heap := h, toks := tk })) (c7 : ∀ m₁ h tk, J n m₁ h → Fr h₀ env.locals h m₁ → Q .next { s with heap := h, toks := tk })
inductive RngInv (h₀ : Heap) (L : Addr) (n : Nat) (J : Nat → (Str → Option Value) → Heap → Prop) (s₁ : Shared) (k : Nat) (s' : Shared) : Prop where
  | mk (h' : Heap) (tk : Nat) (m' : Str → Option Value) (i : Nat) (c0 : s' = { s₁ with heap := h', toks := tk }) (c1 : IsRangeIter h' s₁.heap.objs.size (i : Nat) ((n : Int) - (i : Nat)) 1) (c2 : Fr h₀ L h' m') (c3 : J i m' h') (c4 : i ≤ n) (c5 : k = n + 1 - i)
theorem For_rangeH {px pos : Pos} {iter : Expr} (h₀ : Heap) (hh : A.handled = none) (hx : env.kindOf x = some .local)
    (hp : (env.scope.kind == .class || (env.scope.kind == .module && env.locals != env.globals)) = false)
    (h : wpAny (model prog w) A (eval iter env) (fun xv s₁ => LoopR prog w A h₀ env x body Q E xv s₁) E s)
    (hs : ∀ x, foldedSetIterable iter env x = pure x := by intro _; rfl)
    (hE : PassesOwn (model prog w) A env E := by passes_own) :
    wpAny (model prog w) A (exec (.For (.Name x px) iter body [] pos) env) Q E s := by
  refine wpAny_For (wpAny_mono h (fun xv s₁ h₁ => ?_) fun _ _ e => e) hs
  obtain ⟨r, n, t, u, v, m, J, rfl, hr, hn, F, hj, Jk, turn, done⟩ := h₁
  have hrs : Builtin.Range.rangeSize 0 n 1 = n := by
    unfold Builtin.Range.rangeSize
    simp only [show ((1 : Int) > 0) by decide, if_true, Int.ediv_one]
    split <;> omega
  have hsm : Builtin.Range.small 0 n 1 = true := small_one (by decide) (by decide) (by omega) (by omega)
  refine wpAny_pyIter_range hr hsm ?_
  rw [hrs]
  have hIL : s₁.heap.objs.size ≠ env.locals := fun e => Nat.lt_irrefl _ (e ▸ F.ns.lt)
  have hI0 : h₀.get? s₁.heap.objs.size = none := next_is_new F
  refine codeAny_forLoop (RngInv h₀ env.locals n J s₁) ?_ (n + 1)
    ⟨_, _, m, 0, rfl, by simpa using Heap.get?_push_size s₁.heap (o := { cls := .type "range_iterator", data := .fields #[rawInt 0, rawInt n, rawInt 1] }) rfl, F.push _, Jk _ _ _ _ hj ⟨_, F.ns⟩ (.inl (Heap.get?_none_of_le (Nat.le_refl _))) (fun b o _ _ e => Heap.get?_push_of_some _ e), Nat.zero_le _, rfl⟩
  rintro k s' ⟨h', tk, m', i, rfl, hit, F', hJ, hi, rfl⟩
  have next : ∀ h₁ : Heap, (∀ b o, b ≠ s₁.heap.objs.size → h'.get? b = some o → h₁.get? b = some o) → Fr h₀ env.locals h₁ m' := fun h₁ hk =>
    ⟨F'.ns.at' fun o e => hk _ o (Ne.symm hIL) e, fun b o e => hk b o (fun q => by rw [q, hI0] at e; cases e) (F'.keep b o e), F'.above⟩
  by_cases hlt : i < n
  · refine wpAny_pyNext_range_item hit (by omega) fun h₁ hit₁ hs₁ => ?_
    have k₁ : ∀ b o, b ≠ s₁.heap.objs.size → h'.get? b = some o → h₁.get? b = some o := fun b o hb e => (hs₁.2 b hb).trans e
    have F₁ := next h₁ k₁
    refine wpAny_assign_Name (wpAny_storeName_local hx F₁.ns (fun h₂ hn₂ hs₂ => ?_) hp)
    have F₂ := F₁.set hn₂ hs₂
    have hit₂ := (hs₂.2 _ hIL).trans hit₁
    have N₂ : News h₀ env.locals h₂ [(s₁.heap.objs.size, _)] := fun p hp => by
      rw [List.mem_singleton.mp hp]; exact ⟨hit₂, hIL, hI0⟩
    have J₂ := Jk _ _ _ h₂ hJ ⟨_, F'.ns⟩ (.inr ⟨_, _, hit⟩) fun b o hb hI e => (hs₂.2 b hb).trans (k₁ b o hI e)
    refine wpAny_mono (wpAny_passesOwn hE (turn i m' _ h₂ _ _ hlt J₂ F₂ N₂ ⟨_, _, rfl⟩)) (fun f s₃ h₃ => ?_) fun _ _ e => e
    have ei : ((i : Nat) : Int) + 1 = ((i + 1 : Nat) : Int) := by omega
    have en : (n : Int) - (i : Nat) - 1 = (n : Int) - ((i + 1 : Nat) : Int) := by omega
    rw [ei, en] at N₂
    cases f with
    | ret v => exact h₃
    | brk => exact h₃
    | cont =>
      obtain ⟨h₃', tk₃, m₃, rfl, F₃, N₃, hJ₃⟩ := h₃
      have hit₃ := (N₃ _ (.head _)).1
      rw [ei, en] at hit₃
      exact ⟨n + 1 - (i + 1), ar_step hlt, h₃', tk₃, m₃, i + 1, rfl, hit₃, F₃, hJ₃, hlt, rfl⟩
    | next =>
      obtain ⟨h₃', tk₃, m₃, rfl, F₃, N₃, hJ₃⟩ := h₃
      have hit₃ := (N₃ _ (.head _)).1
      rw [ei, en] at hit₃
      exact ⟨n + 1 - (i + 1), ar_step hlt, h₃', tk₃, m₃, i + 1, rfl, hit₃, F₃, hJ₃, hlt, rfl⟩
  · have hin : i = n := by omega
    subst hin
    refine wpAny_pyNext_range_end hh hit (by omega) fun h₁ hs₁ => wpAny_execs_nil ?_
    have k₁ : ∀ b o, b ≠ s₁.heap.objs.size → h'.get? b = some o → h₁.get? b = some o := fun b o hb e => hs₁ b o hb e
    exact done m' h₁ _ (Jk _ _ _ _ hJ ⟨_, F'.ns⟩ (.inr ⟨_, _, hit⟩) fun b o _ hI e => k₁ b o hI e) (next h₁ k₁)
end
end Mine
end
section
open PySem PySem.W PyProof.Rows PySem.Spec PySem.Calls
namespace Mine
noncomputable def pick3 (j : Nat) (a b c : Gap) : Gap := if j = 0 then a else if j = 1 then b else c
noncomputable def Gap.turn (σ : Nat → Nat) : Gap → Gap
  | .leaf => .leaf
  | .fork c l m r => .fork c (pick3 (σ 0) (l.turn σ) (m.turn σ) (r.turn σ)) (pick3 (σ 1) (l.turn σ) (m.turn σ) (r.turn σ)) (pick3 (σ 2) (l.turn σ) (m.turn σ) (r.turn σ))
theorem keyHash_is (w : World) (k : Str) : PyData.keyHash w.params k = hashStr w k := rfl
theorem attr_of_dict {prog : Program} {w : World} {o : Obj} {i : Int} {c : Nat} {t2 t4 : Tok} (h : Heap) {d : Addr} (hS : (d == sysModules) = false) (e : h.get? d = some o) (x : o.IsDictOf (PySem.strKind prog w) [(Str.ofString "limb", .int i t2), (Str.ofString "letter", .str (chr c) t4)]) : AttrAt w.params h d i c := by
  obtain ⟨es, n, ⟨hc, hd, hs⟩, hdat, hk, hp, -⟩ := x
  obtain ⟨oc, od, odt, osl⟩ := o
  dsimp only at hc hd hs hdat
  subst hc hd hs hdat
  obtain ⟨es⟩ := es
  cases hp with
  | @cons e1 _ es1 _ k1 v1 hp =>
  cases hp with
  | @cons e2 _ es2 _ k2 v2 hp =>
  cases hp
  obtain ⟨t1, ht1⟩ := Value.isStrOf_shape k1
  obtain ⟨t3, ht3⟩ := Value.isStrOf_shape k2
  obtain ⟨k1', hk1, hh1⟩ := hk e1 (by simp)
  obtain ⟨k2', hk2, hh2⟩ := hk e2 (by simp)
  obtain rfl := (PySem.strKind prog w).inj _ _ _ hk1 k1
  obtain rfl := (PySem.strKind prog w).inj _ _ _ hk2 k2
  obtain ⟨hash1, key1, val1⟩ := e1
  obtain ⟨hash2, key2, val2⟩ := e2
  dsimp only at ht1 ht3 hh1 hh2 v1 v2
  subst ht1 ht3 hh1 hh2 v1 v2
  exact ⟨hS, n, t1, t2, t3, t4, e⟩
theorem dict_of_attr {prog : Program} {w : World} {h : Heap} {d : Addr} {i : Int} {c : Nat} (x : AttrAt w.params h d i c) : (d == sysModules) = false ∧ ∃ t2 t4, h.DictOf (PySem.strKind prog w) d [(Str.ofString "limb", .int i t2), (Str.ofString "letter", .str (chr c) t4)] := by
  obtain ⟨hS, n, t1, t2, t3, t4, e⟩ := x
  refine ⟨hS, t2, t4, _, _, n, e, ⟨rfl, rfl, rfl⟩, rfl, fun q hq => ?_, ?_, ?_⟩
  · rcases List.mem_cons.mp (Array.mem_toList_iff.mpr hq) with rfl | hq
    · exact ⟨_, strKind_is prog w _ t1, rfl⟩
    · rw [List.mem_singleton.mp hq]; exact ⟨_, strKind_is prog w _ t3, rfl⟩
  · exact .cons (strKind_is prog w _ t1) rfl (.cons (strKind_is prog w _ t3) rfl .nil)
  · show ([Str.ofString "limb", Str.ofString "letter"]).Nodup
    decide
theorem merged_limb {i j : Int} {c : Nat} {t2 t4 t5 : Tok} : merged (merged [] [(Str.ofString "limb", Value.int i t2), (Str.ofString "letter", .str (chr c) t4)]) [(Str.ofString "limb", Value.int j t5)] = [(Str.ofString "limb", .int j t5), (Str.ofString "letter", .str (chr c) t4)] := by
  rfl
theorem merged_two {v1 v2 : Value} : merged (merged [] ([] : List (Str × Value))) [(Str.ofString "limb", v1), (Str.ofString "letter", v2)] = [(Str.ofString "limb", v1), (Str.ofString "letter", v2)] := by
  rfl
end Mine
end
section
open PySem PySem.W PyProof.Rows PySem.Spec PySem.Calls
namespace Mine
theorem rest_of {hB h : Heap} {L : Addr} {m : Str → Option Value} (_F : Fr hB L h m) (bad : List Addr) (hL : L ∈ bad) :
    RestOf hB h L bad := by
  let fp := (List.range h.objs.size).filter fun a => decide (a ∉ bad)
  have hmem : ∀ a, a ∈ fp → a ∉ bad := fun a ha => by simpa using (List.mem_filter.mp ha).2
  have hLf : L ∉ fp := fun hm => hmem L hm hL
  have hs : ∀ p ∈ ownOf hB fp h, p.1 ∈ fp := ownOf_sub
  refine ⟨ownOf hB fp h, news_ownOf hLf, fun p hp => hmem _ (hs p hp), fun h' st hk b o hb e => ?_⟩
  cases eB : hB.get? b with
  | some o' =>
    have := _F.keep b o' eB
    rw [e] at this
    cases this
    exact st _ _ eB
  | none =>
    have hbf : b ∈ fp := List.mem_filter.mpr ⟨List.mem_range.mpr (Heap.lt_size e), by simpa using hb⟩
    exact hk (b, o) (mem_ownOf hbf eB e)
end Mine
end
section
open PySem PySem.W PyProof.Rows PySem.Spec PySem.Calls
namespace Mine
variable {w : World} {mg mb : Str → Option Value} {mean : ExcName → Option Value} {dp un : Nat} {fr : Option (List Env)} {gd : Option (List Code)} {s : Shared} {Q E : Value → Shared → Prop}
theorem ParTab.move {h h' : Heap} (P : ParTab h) (bad : Addr → Prop) (hk : ∀ b o, ¬ bad b → h.get? b = some o → h'.get? b = some o) (hb : ∀ c, bad c → (∀ ps, h.get? c ≠ some (tabObj ps)) ∧ ¬ h.CodeRec (.ref c) lamQual) : ParTab h' := by
  have up : ∀ {c}, h.CodeRec (.ref c) lamQual → h'.CodeRec (.ref c) lamQual := fun {c} x => by
    have hc : ¬ bad c := fun q => (hb c q).2 x
    obtain ⟨c', o, vs, t, e, ho, r⟩ := x
    cases e
    exact ⟨_, o, vs, t, rfl, hk _ _ hc ho, r⟩
  rcases P with e | ⟨c1, c2, c3, e, r2, r3⟩
  · exact .inl (hk _ _ (fun q => (hb _ q).1 _ e) e)
  · exact .inr ⟨c1, c2, c3, hk _ _ (fun q => (hb _ q).1 _ e) e, up r2, up r3⟩
theorem ParTab.holed {h h' : Heap} {g : Addr} {vs : List Value} {n : Nat} (P : ParTab h) (hg : h.get? g = some (lst vs n)) (st : (hideAll h [g]).StaysIn h') : ParTab h' :=
  P.move (· = g) (fun b o hb e => st _ _ (hideAll_get _ e (by simpa using hb))) (by
    rintro c rfl
    refine ⟨fun ps e => ?_, ?_⟩
    · rw [hg] at e; have := congrArg Obj.cls (Option.some.inj e); cases this
    · rintro ⟨c', o, vs', t, e, ho, hd, hv⟩
      cases e; rw [hg] at ho; cases ho; cases hd)
theorem ParTab.but {h h' : Heap} {L I : Addr} (P : ParTab h) (hL : ∃ mm, h.Ns L mm) (hI : h.get? I = none ∨ ∃ a b, h.get? I = some (itObj a b)) (hk : ∀ b o, b ≠ L → b ≠ I → h.get? b = some o → h'.get? b = some o) : ParTab h' :=
  P.move (fun c => c = L ∨ c = I) (fun b o hb e => hk _ _ (fun q => hb (.inl q)) (fun q => hb (.inr q)) e) (by
    obtain ⟨mm, oL, es, ep, eL, dL, -⟩ := hL
    rintro c (q | q) <;> rw [q]
    · refine ⟨fun ps e => ?_, ?_⟩
      · rw [eL] at e; cases e; cases dL
      · rintro ⟨c', o, vs', t, e, ho, hd, hv⟩
        cases e; rw [eL] at ho; cases ho; rw [dL] at hd; cases hd
    · rcases hI with hI | ⟨a, b, hI⟩
      · refine ⟨fun ps e => (by rw [hI] at e; cases e), ?_⟩
        rintro ⟨c', o, vs', t, e, ho, hd, hv⟩
        cases e; rw [hI] at ho; cases ho
      · refine ⟨fun ps e => ?_, ?_⟩
        · rw [hI] at e; have := congrArg Obj.cls (Option.some.inj e); cases this
        · rintro ⟨c', o, vs', t, e, ho, hd, hv⟩
          cases e; rw [hI] at ho; cases ho; cases hd; cases hv)
theorem ParTab.some {h : Heap} (P : ParTab h) : ∃ ob, h.get? 46 = some ob := by
  rcases P with e | ⟨c1, c2, c3, e, -, -⟩
  · exact ⟨_, e⟩
  · exact ⟨_, e⟩
theorem ParTab.at {h h' : Heap} {ob : Obj} (P : ParTab h) (e : h.get? 46 = .some ob) (st : (hideAll h [46]).StaysIn h') (e' : h'.get? 46 = .some ob) : ParTab h' := by
  rcases P with p | ⟨c1, c2, c3, p, r2, r3⟩
  · rw [e] at p; exact .inl (e'.trans p)
  · refine .inr ⟨c1, c2, c3, ?_, (codeRec_hide r2 p (by intro t q; cases q)).keeps st, (codeRec_hide r3 p (by intro t q; cases q)).keeps st⟩
    rw [e] at p; exact e'.trans p
theorem plain_it (a b : Int) : PlainOb (itObj a b) := ⟨fun ps e => (by have := congrArg Obj.cls e; cases this), fun vs q t e h => (by cases e; cases h)⟩
theorem ParTab.rest {h h' : Heap} (P : ParTab h) (bad : List Addr) (hb : ∀ c ∈ bad, ∀ ob, h.get? c = .some ob → PlainOb ob) (hk : ∀ b ob, b ∉ bad → h.get? b = .some ob → h'.get? b = .some ob) : ParTab h' :=
  P.move (· ∈ bad) hk fun c hc => ⟨fun ps e => (hb c hc _ e).1 ps rfl, fun ⟨c', o, vs, t, e, ho, hd, hv⟩ => by cases e; exact (hb c hc _ ho).2 vs _ t hd hv⟩
theorem LimbAt.keeps {P : Params} {h h' : Heap} {v : Value} {i c : Nat} {t : Gap} (x : LimbAt P h v i c t) (k : h.StaysIn h') : LimbAt P h' v i c t := by
  obtain ⟨l, d, g, tk, e, h1, h2, h3⟩ := x
  exact ⟨l, d, g, tk, e, isList_keeps h1 k, h2.keeps k, h3.keeps k⟩
theorem hide_mono {h h' : Heap} {as bs : List Addr} (hk : ∀ b o, b ∉ as → h.get? b = some o → b ∉ bs ∧ h'.get? b = some o) : (hideAll h as).StaysIn (hideAll h' bs) := fun b o e => by
  have hb : b ∉ as := fun hm => by rw [hideAll_none _ hm] at e; cases e
  obtain ⟨h1, h2⟩ := hk b o hb (of_hideAll _ e)
  exact hideAll_get _ h2 h1
theorem item_tup {prog : Program} {A : Around} {value slice : PySem.Expr} {l : Addr} {items : Array Value} {k : Nat} {u : Tok} {v : Value}
    (hl : IsTup s.heap l items) (hk : k < items.size) (hsm : items.size ≤ 100) (hx : items[k]? = some v) (h : Q v s)
    (hs : subscripted slice false (.ref l) (.int k u) = operate [.ref l, .int k u] (getItem (.ref l) (.int k u)) := by with_unfolding_all rfl) :
    wpAny (model prog w) A (subscriptTail value slice (.ref l) (.int k u)) Q E s :=
  tail_any hl.typeIs PyProof.Rows.slot_tuple_getitem.lookup (getItem_tuple hl (by omega) (by omega) (by
    have h1 : ¬ ((k : Int) < 0) := by omega
    have h2 : (0 : Int) ≤ k := by omega
    have h3 : (k : Int) < (items.size : Int) := by omega
    simp [seqIndex?, h1, h2, h3]) hx h) hs
theorem item_nat {prog : Program} {A : Around} {value slice : PySem.Expr} {l : Addr} {items : Array Value} {k : Nat} {u : Tok} {v : Value}
    (hl : s.heap.IsList l items) (hk : k < 1000) (hx : items[k]? = some v) (h : Q v s)
    (hs : subscripted slice false (.ref l) (.int k u) = operate [.ref l, .int k u] (getItem (.ref l) (.int k u)) := by with_unfolding_all rfl) :
    wpAny (model prog w) A (subscriptTail value slice (.ref l) (.int k u)) Q E s :=
  tail_any hl.typeIs slot_list_getitem.lookup (wpAny_getItem_list hl (by omega) (by omega) (by simpa using hx) h) hs
theorem TreeH.moved {P : Params} {h h' : Heap} {r gl : Addr} {t : Gap} {vs : List Value} {n : Nat} (x : TreeH P h r t) (hr : h.get? r = .some (lst vs n)) (k : h.StaysIn h') (hg : h'.IsList gl vs.toArray) : TreeH P h' gl t := by
  have same : ∀ {its : Array Value}, h.IsList r its → its = vs.toArray := fun ⟨o, e, _, n', hd⟩ => by rw [hr] at e; cases e; cases hd; rfl
  have x' := x.keeps k
  cases x' with
  | leaf e' =>
    cases x with
    | leaf e => rw [← same e] at hg; exact .leaf hg
  | fork e' e0 e1 e2 a0 a1 a2 x0 x1 x2 =>
    obtain ⟨o, ho, hc, n', hd⟩ := e'
    have := k _ _ hr
    rw [this] at ho
    cases ho
    injection hd with hv _
    rw [hv] at hg
    exact .fork hg e0 e1 e2 a0 a1 a2 x0 x1 x2
theorem tree_of_limbs {P : Params} {h : Heap} {r : Addr} {t : Gap} {vs : List Value} (hr : h.IsList r vs.toArray) (hl : vs.length = t.kids.length) (hx : ∀ j v kd, vs[j]? = .some v → t.kids[j]? = .some kd → LimbAt P h v j t.letter kd) : TreeH P h r t := by
  cases t with
  | leaf =>
    have : vs = [] := List.length_eq_zero_iff.mp hl
    subst this; exact .leaf hr
  | fork c a b e =>
    obtain ⟨v0, v1, v2, rfl⟩ := len3 hl
    obtain ⟨l0, d0, g0, t0, rfl, e0, a0, x0⟩ := hx 0 _ a rfl rfl
    obtain ⟨l1, d1, g1, t1, rfl, e1, a1, x1⟩ := hx 1 _ b rfl rfl
    obtain ⟨l2, d2, g2, t2, rfl, e2, a2, x2⟩ := hx 2 _ e rfl rfl
    exact .fork hr e0 e1 e2 a0 a1 a2 x0 x1 x2
noncomputable def OrderAt (h : Heap) (o : Addr) (σ : Nat → Nat) : Prop := ∃ t0 t1 t2, IsTup h o #[.int (σ 0) t0, .int (σ 1) t1, .int (σ 2) t2]
theorem ord_at (σ : Nat → Nat) (to0 to1 to2 : Tok) (i : Nat) (hi : i < 3) : ∃ ti, (#[Value.int (σ 0) to0, .int (σ 1) to1, .int (σ 2) to2] : Array Value)[i]? = some (.int (σ i) ti) := by
  exact lt_c (P := fun i => ∃ ti, (#[Value.int (σ 0) to0, .int (σ 1) to1, .int (σ 2) to2] : Array Value)[i]? = some (.int (σ i) ti)) ⟨_, rfl⟩ (lt_c ⟨_, rfl⟩ (lt_c ⟨_, rfl⟩ lt_z)) i hi
theorem turn_kids {σ : Nat → Nat} (hσ : ∀ i, σ i < 3) {t : Gap} {i : Nat} (hi : i < t.kids.length) : ∃ k, t.kids[σ i]? = some k ∧ (t.turn σ).kids[i]? = some (k.turn σ) := by
  cases t with
  | leaf => simp [Gap.kids] at hi
  | fork c l m r =>
    simp only [Gap.kids, List.length_cons, List.length_nil] at hi
    have key : ∀ j, j < 3 → ∃ k, [l, m, r][j]? = some k ∧ pick3 j (l.turn σ) (m.turn σ) (r.turn σ) = k.turn σ := by
      exact lt_c ⟨l, rfl, rfl⟩ (lt_c ⟨m, rfl, rfl⟩ (lt_c ⟨r, rfl, rfl⟩ lt_z))
    refine (?_ : ∀ i, i < 3 → ∃ k, [l, m, r][σ i]? = some k ∧ ((Gap.fork c l m r).turn σ).kids[i]? = some (k.turn σ)) i hi
    refine lt_c ?_ (lt_c ?_ (lt_c ?_ lt_z))
    · obtain ⟨k, a, b⟩ := key (σ 0) (hσ 0); exact ⟨k, a, congrArg some b⟩
    · obtain ⟨k, a, b⟩ := key (σ 1) (hσ 1); exact ⟨k, a, congrArg some b⟩
    · obtain ⟨k, a, b⟩ := key (σ 2) (hσ 2); exact ⟨k, a, congrArg some b⟩
theorem turn_len (σ : Nat → Nat) (t : Gap) : (t.turn σ).kids.length = t.kids.length ∧ (t.turn σ).letter = t.letter := by
  cases t <;> simp [Gap.turn, Gap.kids, Gap.letter]
noncomputable def TurnAt (w : World) (mg mb : Str → Option Value) (mean : ExcName → Option Value) (σ : Nat → Nat) (t : Gap) : Prop :=
  ∀ (dp un : Nat) (fr : Option (List Env)) (gd : Option (List Code)) (s : Shared) (Q E : Value → Shared → Prop) (g o : Addr) (h₀ : Heap), Top topProg LOOSE mean mg mb h₀ → (Mine.hd.heap_39 w.params).In h₀ → h₀.StaysIn s.heap → h₀.get? 46 = none → CodeHd h₀ 50 46 → ParTab s.heap →
  dp + t.high + 4 < recursionLimit → t.size ≤ 40 → TreeH w.params (hideAll s.heap [46]) g t → OrderAt (hideAll s.heap [46]) o σ →
  (∀ r h' tk' vsr nr, h'.get? r = .some (lst vsr nr) → vsr.length ≤ 3 → (hideAll s.heap [46]).StaysIn h' → ParTab h' → (∀ as : List Addr, (∀ a ∈ as, ∃ ob, s.heap.get? a = some ob) → TreeH w.params (hideAll h' as) r (t.turn σ)) → Q (.ref r) { s with heap := h', toks := tk' }) →
  wpAny (model PySem.Challenge.rw_wr0012_01.row.prog w) (Ar dp un fr gd) (call (.ref 63) [.ref g, .ref o]) Q E s
theorem plain_of {h : Heap} {c : Addr} {o : Obj} (e : h.get? c = .some o) (p : PlainOb o) : ∀ ob, h.get? c = .some ob → PlainOb ob := fun ob e' => by cases Option.some.inj (e.symm.trans e'); exact p
theorem ns_plain {h : Heap} {L : Addr} {m : Str → Option Value} (x : h.Ns L m) : ∀ ob, h.get? L = .some ob → PlainOb ob := by
  obtain ⟨o, es, n, e, d⟩ := ns_ob x
  exact plain_of e (plain_dict d)
theorem off_ne (a : Nat) {i j : Nat} (h : i ≠ j := by decide) : @Ne Nat (a + i) (a + j) := fun e => h (Nat.add_left_cancel e)
theorem ne_up {a b : Nat} (k : Nat) (h : a < b) : @Ne Nat (b + k) a := Nat.ne_of_gt (Nat.lt_of_lt_of_le h (Nat.le_add_right b k))
noncomputable def InD (s : Shared) (I l a : Addr) : Prop := a = I ∨ a = l ∨ a = s.heap.objs.size ∨ a = 46 ∨ ∃ ob, (hideAll s.heap [46]).get? a = some ob
theorem InD.elim {s : Shared} {I l a : Addr} {R : Addr → Prop} (x : InD s I l a) (h1 : R I) (h2 : R l) (h3 : R s.heap.objs.size) (h4 : R 46) (h5 : ∀ b ob, (hideAll s.heap [46]).get? b = .some ob → R b) : R a := by
  rcases x with rfl | rfl | rfl | rfl | ⟨ob, e⟩
  · exact h1
  · exact h2
  · exact h3
  · exact h4
  · exact h5 _ ob e
theorem InD.not {s : Shared} {I l a : Addr} (h1 : a ≠ I) (h2 : a ≠ l) (h3 : a ≠ s.heap.objs.size) (h4 : a ≠ 46) (h5 : (hideAll s.heap [46]).get? a = none) : ¬ InD s I l a := fun x => by
  rcases x with e | e | e | e | ⟨ob, e⟩
  · exact h1 e
  · exact h2 e
  · exact h3 e
  · exact h4 e
  · rw [h5] at e; cases e
theorem InD.c1 {s : Shared} {I l : Addr} : InD s I l I := .inl rfl
theorem InD.c2 {s : Shared} {I l : Addr} : InD s I l l := .inr (.inl rfl)
theorem InD.c3 {s : Shared} {I l : Addr} : InD s I l s.heap.objs.size := .inr (.inr (.inl rfl))
theorem InD.c4 {s : Shared} {I l : Addr} : InD s I l 46 := .inr (.inr (.inr (.inl rfl)))
theorem ne_one {l : List (Addr × Obj)} {a : Addr} {o : Obj} (h : ∀ p, p ∈ l → p.1 < a) : ∀ p, p ∈ l → ∀ q, q ∈ [(a, o)] → p.1 ≠ q.1 := fun p hp q hq => by
  rw [List.mem_singleton.mp hq]; exact Nat.ne_of_lt (h p hp)
inductive TurnJ (w : World) (s : Shared) (I tl g o : Addr) (σ : Nat → Nat) (t : Gap) (i : Nat) (m : Str → Option Value) (h : Heap) : Prop where
  | mk (q1 : m (Str.ofString "turned") = some (.ref tl)) (q2 : m (Str.ofString "gap") = some (.ref g)) (q3 : m (Str.ofString "order") = some (.ref o)) (qP : ParTab h) (vs : List Value) (k : Nat) (qt : h.get? tl = some (lst vs k)) (ql : vs.length = i)
    (qL : ∀ as : List Addr, (∀ a ∈ as, InD s I tl a) → ∀ j v kd, vs[j]? = some v → (t.turn σ).kids[j]? = some kd → LimbAt w.params (hideAll h as) v j t.letter kd)
set_option maxRecDepth 100000 in
set_option maxHeartbeats 1000000 in
theorem turn_node {h₀ : Heap} {g o : Addr} {σ : Nat → Nat} {t : Gap} (hσ : ∀ i, σ i < 3) (T : Top topProg LOOSE mean mg mb h₀) (X : (Mine.hd.heap_39 w.params).In h₀) (st : h₀.StaysIn s.heap) (h46 : h₀.get? 46 = none) (C : CodeHd h₀ 50 46) (P : ParTab s.heap)
  (hd : dp + t.high + 4 < recursionLimit) (hsz : t.size ≤ 40) (x : TreeH w.params (hideAll s.heap [46]) g t) (ho : OrderAt (hideAll s.heap [46]) o σ) (ih : ∀ k ∈ t.kids, TurnAt w mg mb mean σ k)
  (hret : ∀ r h' tk' vsr nr, h'.get? r = .some (lst vsr nr) → vsr.length ≤ 3 → (hideAll s.heap [46]).StaysIn h' → ParTab h' → (∀ as : List Addr, (∀ a ∈ as, ∃ ob, s.heap.get? a = some ob) → TreeH w.params (hideAll h' as) r (t.turn σ)) → Q (.ref r) { s with heap := h', toks := tk' }) :
  wpAny (model PySem.Challenge.rw_wr0012_01.row.prog w) (Ar dp un fr gd) (call (.ref 63) [.ref g, .ref o]) Q E s := by
  revert X; k_fill; intro X
  have X1 := X.keeps st
  have hf : s.heap.get? 63 = ((Mine.hd.heap_39 w.params).lookup 63) := X1 63 _ rfl
  have hlim := T.nolimit.keeps st
  refine wpAny_call (call_plain_ret (binds := [(Str.ofString "gap", .ref g), (Str.ofString "order", .ref o)]) (by first | exact lim 0 hd | exact limT 0 hd | (show dp < _; omega)) hf rfl hlim (codeRec_of X1 (by rfl)) (by rfl) (locs (by rfl)) (fun h₁ F => ?_))
  have stB := hide_stays (as := [46]) st (by simp [h46])
  have T := T.keeps stB
  have X := X.keeps stB
  have C := C.keeps stB
  have F := Fr.hide [46] F
  have hkB : ∀ b ob, s.heap.get? b = some ob → h₁.get? b = some ob := fun b ob e => (‹Fr s.heap s.heap.objs.size h₁ _›).keep b ob e
  obtain ⟨otab, hP46⟩ := P.some
  have N : News (hideAll s.heap [46]) s.heap.objs.size h₁ [(46, otab)] := fun p hp => by
    rw [List.mem_singleton.mp hp]; exact ⟨hkB _ _ hP46, Nat.ne_of_lt (Heap.lt_size hP46), hideAll_none _ (.head _)⟩
  obtain ⟨vs0, hgv, hlen0, hlimb⟩ := x.limbs
  clear X1 hf
  w_on
  iterate 7 walk1
  rename_i tl h3 l46 h4 F4 N4
  have P4 : ParTab h4 := P.at hP46 F4.keep (N4 (46, otab) (by k_mem)).1
  have L46 : @Ne Nat s.heap.objs.size 46 := Nat.ne_of_gt (Heap.lt_size hP46)
  refine For_rangeH (hideAll s.heap [46]) rfl (by rfl) (by rfl) ?_
  have hlen3 : vs0.length ≤ 3 := by rw [hlen0]; cases t <;> simp [Gap.kids]
  k_steps
  refine len_list (isList_keeps hgv F4.keep) (by simp; omega) ?_
  k_steps
  rename_i h5 _ tr1 tr2 tr3 R5 F5 N5 k5
  have P5 : ParTab h5 := P.at hP46 F5.keep (N5 (46, otab) (by k_mem)).1
  have hszL : s.heap.objs.size < h5.objs.size := F5.ns.lt
  let D : Addr → Prop := InD s h5.objs.size tl
  let J : Nat → (Str → Option Value) → Heap → Prop := TurnJ w s h5.objs.size tl g o σ t
  have hsz5 : vs0.toArray.size = vs0.length := by simp
  rw [hsz5] at R5
  have htlL : tl ≠ s.heap.objs.size := (N5 (tl, _) (by k_mem)).2.1
  have htlI : tl ≠ h5.objs.size := Nat.ne_of_lt (Heap.lt_size (N5 (tl, _) (by k_mem)).1)
  have hI46 : h5.objs.size ≠ 46 := Nat.ne_of_gt (Heap.lt_size (N5 (46, otab) (by k_mem)).1)
  have htlB := (N5 (tl, _) (by k_mem)).2.2
  refine ⟨_, vs0.length, _, _, _, _, J, rfl, R5, by omega, F5, ⟨rfl, rfl, rfl, P5, [], 0, (N5 (tl, _) (by k_mem)).1, rfl, fun as _ j v kd hv => by simp at hv⟩, ?_, ?_, ?_⟩
  · rintro i m₁ h h' ⟨q1, q2, q3, qP, vs, k, qt, ql, qL⟩ hL hI hk
    refine ⟨q1, q2, q3, qP.but hL hI hk, vs, k, hk _ _ htlL htlI qt, ql, fun as has j v kd hv hkd => ?_⟩
    refine (qL (s.heap.objs.size :: h5.objs.size :: as) (fun a ha => ?_) j v kd hv hkd).keeps (hide_mono fun b ob hb e => ?_)
    · revert a ha
      exact all_cons InD.c3 (all_cons InD.c1 has)
    · exact ⟨nm_tl (nm_tl hb), hk _ _ (nm_hd hb) (nm_hd (nm_tl hb)) e⟩
  · rintro i m₁ u h tk own hi ⟨q1, q2, q3, qP, vs, k, qt, ql, qL⟩ F6 N6 ⟨ia, ib, rfl⟩
    k_fold
    obtain ⟨pl, Npl, hpb, hpk⟩ := rest_of F6 [s.heap.objs.size, h5.objs.size, tl, 46] (by exact .head _)
    obtain ⟨ot, hot⟩ := qP.some
    have hB46 : (hideAll s.heap [46]).get? 46 = none := hideAll_none _ (.head _)
    have N6' : News (hideAll s.heap [46]) s.heap.objs.size h ((tl, lst vs k) :: (46, ot) :: (h5.objs.size, itObj ia ib) :: pl) := fun p hp => by
      revert p hp
      refine all_cons ?_ (all_cons ?_ (all_cons ?_ ?_))
      · exact ⟨qt, htlL, htlB⟩
      · exact ⟨hot, Ne.symm L46, hB46⟩
      · exact N6 _ (.head _)
      · intro p hp
        exact Npl p hp
    have hLns := ns_ob F6.ns
    have hIat := (N6 _ (.head _)).1
    clear N6 Npl
    have F6 := Fr.over F6 [(Str.ofString "place", .int i u), (Str.ofString "turned", .ref tl), (Str.ofString "gap", .ref g), (Str.ofString "order", .ref o)] ⟨rfl, q1, q2, q3, trivial⟩
    obtain ⟨to0, to1, to2, hto⟩ := ho
    clear hret F5 N5
    k_steps
    have hi3 : i < 3 := by omega
    obtain ⟨ti, hti⟩ := ord_at σ to0 to1 to2 i hi3
    refine item_tup (hto.keeps F6.keep) (by simp; omega) (by simp) hti ?_
    have hsi := hσ i
    obtain ⟨kd, hkd, hkt⟩ := turn_kids hσ (t := t) (i := i) (by omega)
    have hks := (List.getElem?_eq_some_iff.mp hkd).1
    obtain ⟨v, hv⟩ : ∃ v, vs0[σ i]? = some v := ⟨vs0[σ i]'(by omega), List.getElem?_eq_getElem _⟩
    obtain ⟨l, dd, gk, tkl, rfl, hl, ha, hx⟩ := hlimb (σ i) v kd hv hkd
    refine item_nat (isList_keeps hgv F6.keep) (by omega) (by simpa using hv) ?_
    k_steps
    rename_i h7 F7 N7
    obtain ⟨oL, esL, epL, eL, dL⟩ := hLns
    have qP7 : ParTab h7 := qP.rest [s.heap.objs.size, h5.objs.size, tl] (all_cons (plain_of eL (plain_dict dL)) (all_cons (plain_of hIat (plain_it _ _)) (all_one (plain_of qt (plain_lst _ _)))))
      (hk_but [s.heap.objs.size, h5.objs.size, tl] (c := []) hot (nget N7 (a := 46) (o := ot) (by k_mem)) (hpk h7 F7.keep fun p hp => (N7 p (.tail _ (.tail _ (.tail _ hp)))).1))
    refine parent_spec T X (by exact F7.keep) hB46 C qP7 (by first | exact lim 1 hd | exact limT 1 hd | (show dp + 1 < _; omega)) fun p h8 tk8 st8 P8 par8 => ?_
    have F8 := Fr.holed F7 hB46 L46 st8
    have N8 : News (hideAll s.heap [46]) s.heap.objs.size h8 ((tl, lst vs k) :: (h5.objs.size, itObj ia ib) :: pl) := News.holed N7 st8 fun q hq => by
      revert q hq
      refine all_cons ?_ (all_cons ?_ ?_)
      · exact ⟨by k_mem, Nat.ne_of_gt l46⟩
      · exact ⟨by k_mem, hI46⟩
      · intro q hq
        exact ⟨.tail _ (.tail _ (.tail _ hq)), fun e => hpb q hq (by rw [e]; simp)⟩
    k_steps
    show wpAny _ _ (call (.ref 23) [.ref p, .str (chr t.letter) tkl, .ref dd] [(Str.ofString "limb", .int i u)]) _ _ _
    obtain ⟨hdS, t2, t4, hdict⟩ := dict_of_attr (prog := PySem.Challenge.rw_wr0012_01.row.prog) (ha.keeps F8.keep)
    have hddtl : dd ≠ tl := by
      intro e
      obtain ⟨-, n', q1, q2, q3, q4, q5⟩ := ha
      rw [e, htlB] at q5; cases q5
    refine sub_limb T X (by exact F8.keep) htlB (by first | exact lim 3 hd | exact limT 3 hd | (show dp + 1 + 2 < _; omega)) par8 (by exact (N8 (tl, lst vs k) (by k_mem)).1) (by omega) hdict hdS hddtl (by simp) ?_
    rw [merged_limb]
    intro el d2 gl n1 od h9 tk9 hd2S st9 M9 hod9 htl9 hne9
    have F9 := Fr.holed F8 htlB (Ne.symm htlL) st9
    have P9 : ParTab h9 := P8.holed (by exact (N8 (tl, lst vs k) (by k_mem)).1) st9
    obtain ⟨ot9, hot9⟩ := P9.some
    have hm9 : ∀ q ∈ [(el, lst [.str (chr t.letter) tkl, .ref d2, .ref gl] n1), (gl, lst [] 0), (d2, od)], h9.get? q.1 = some q.2 ∧ h8.get? q.1 = none := M9
    have hI9 : h9.get? h5.objs.size = some (itObj ia ib) := st9 _ _ (hideAll_get _ (N8 (h5.objs.size, itObj ia ib) (by k_mem)).1 (by simpa using Ne.symm htlI))
    have hp9 : ∀ q ∈ pl, h9.get? q.1 = some q.2 := fun q hq => st9 _ _ (hideAll_get _ (N8 q (.tail _ (.tail _ hq))).1 (by simp only [List.mem_singleton]; exact fun e => hpb q hq (by rw [e]; simp)))
    have fresh9 : ∀ q ∈ [(el, lst [.str (chr t.letter) tkl, .ref d2, .ref gl] n1), (gl, lst [] 0), (d2, od)], q.1 ≠ s.heap.objs.size ∧ q.1 ≠ h5.objs.size ∧ (hideAll s.heap [46]).get? q.1 = none ∧ q.1 ≠ 46 := fun q hq => by
      have hn := (hm9 q hq).2
      refine ⟨fun e => ?_, fun e => ?_, ?_, fun e => ?_⟩
      · obtain ⟨oo, _, _, ho', _⟩ := ns_ob F8.ns
        rw [e] at hn; exact absurd (hn.symm.trans ho') (by simp)
      · rw [e] at hn; exact absurd (N8 (h5.objs.size, itObj ia ib) (by k_mem)).1 (by rw [hn]; simp)
      · cases e : (hideAll s.heap [46]).get? q.1 with
        | none => rfl
        | some oo => have := F8.keep _ _ e; rw [hn] at this; cases this
      · obtain ⟨oo, ho'⟩ := P8.some
        rw [e] at hn; rw [hn] at ho'; cases ho'
    have F9k := F9.keep
    obtain ⟨oL9, es9, ep9, eL9, dL9⟩ := ns_ob F9.ns
    obtain ⟨pl9, Npl9, hpb9, hpk9⟩ := rest_of F9 [s.heap.objs.size, h5.objs.size, tl, 46, el, gl, d2] (by exact .head _)
    have N9 : News (hideAll s.heap [46]) s.heap.objs.size h9 ((tl, lst (vs ++ [.ref el]) (k + 1)) :: (46, ot9) :: (h5.objs.size, itObj ia ib) :: (el, lst [.str (chr t.letter) tkl, .ref d2, .ref gl] n1) :: (gl, lst [] 0) :: (d2, od) :: pl9) := fun q hq => by
      revert q hq
      refine all_cons ?_ (all_cons ?_ (all_cons ?_ (all_cons ?_ (all_cons ?_ (all_cons ?_ ?_)))))
      · exact ⟨htl9, htlL, htlB⟩
      · exact ⟨hot9, Ne.symm L46, hB46⟩
      · exact ⟨hI9, (N8 (h5.objs.size, itObj ia ib) (by k_mem)).2⟩
      · have f := fresh9 (el, _) (by k_mem); exact ⟨(hm9 (el, _) (by k_mem)).1, f.1, f.2.2.1⟩
      · have f := fresh9 (gl, _) (by k_mem); exact ⟨(hm9 (gl, _) (by k_mem)).1, f.1, f.2.2.1⟩
      · have f := fresh9 (d2, _) (by k_mem); exact ⟨(hm9 (d2, _) (by k_mem)).1, f.1, f.2.2.1⟩
      · intro q hq
        exact Npl9 q hq
    have hk8 : ∀ b ob, b ∉ [s.heap.objs.size, h5.objs.size, tl, 46] → h.get? b = some ob → h8.get? b = some ob := hpk h8 F8.keep fun q hq => (N8 q (.tail _ (.tail _ hq))).1
    clear F8 N8 Npl9
    k_steps
    rename_i h10 F10 N10
    have hk10 : ∀ b ob, b ∉ [s.heap.objs.size, h5.objs.size, tl, el, gl, d2] → h9.get? b = some ob → h10.get? b = some ob :=
      hk_but [s.heap.objs.size, h5.objs.size, tl] (c := [el, gl, d2]) hot9 (nget N10 (a := 46) (o := ot9) (by k_mem)) (hpk9 h10 F10.keep fun p hp => (N10 p (.tail _ (.tail _ (.tail _ (.tail _ (.tail _ (.tail _ hp))))))).1)
    obtain ⟨esd, nd', hodd⟩ : ∃ es n', od.data = .dict es n' := by
      obtain ⟨es, n', -, hdd, -⟩ := hod9; exact ⟨es, n', hdd⟩
    have P10 : ParTab h10 := P9.rest _ (all_cons (plain_of eL9 (plain_dict dL9)) (all_cons (plain_of hI9 (plain_it _ _)) (all_cons (plain_of htl9 (plain_lst _ _)) (all_cons (plain_of (hm9 (el, _) (by k_mem)).1 (plain_lst _ _)) (all_cons (plain_of (hm9 (gl, lst [] 0) (by k_mem)).1 (plain_lst _ _)) (all_one (plain_of (hm9 (d2, od) (by k_mem)).1 (plain_dict hodd)))))))) hk10
    have hkm : kd ∈ t.kids := List.mem_of_getElem? hkd
    have hh1 := Gap.kid_high hkm
    have hh2 := Gap.kid_size hkm
    have hid : (hideAll s.heap [46]).StaysIn (hideAll h10 [46]) := fun b ob e => hideAll_get _ (F10.keep b ob e) fun hm => by rw [List.mem_singleton.mp hm, hB46] at e; cases e
    refine ih kd hkm _ _ _ _ _ _ _ gk o (hideAll s.heap [46]) T X (by exact F10.keep) hB46 C (by exact P10) (by show dp + 1 + _ + 4 < _; omega) (by omega) (by exact hx.keeps hid) (by exact ⟨to0, to1, to2, hto.keeps hid⟩) fun r h11 tk11 vsr nr hr11 hvsr st11 P11 tr11 => ?_
    have F11 := Fr.holed F10 hB46 L46 st11
    have N11 : News (hideAll s.heap [46]) s.heap.objs.size h11 ((tl, lst (vs ++ [.ref el]) (k + 1)) :: (h5.objs.size, itObj ia ib) :: (el, lst [.str (chr t.letter) tkl, .ref d2, .ref gl] n1) :: (gl, lst [] 0) :: (d2, od) :: pl9) := News.holed N10 st11 fun q hq => by
      revert q hq
      refine all_cons ?_ (all_cons ?_ (all_cons ?_ (all_cons ?_ (all_cons ?_ ?_))))
      · exact ⟨by k_mem, Nat.ne_of_gt l46⟩
      · exact ⟨by k_mem, hI46⟩
      · exact ⟨by k_mem, (fresh9 (el, _) (by k_mem)).2.2.2⟩
      · exact ⟨by k_mem, (fresh9 (gl, _) (by k_mem)).2.2.2⟩
      · exact ⟨by k_mem, (fresh9 (d2, _) (by k_mem)).2.2.2⟩
      · intro q hq
        exact ⟨.tail _ (.tail _ (.tail _ (.tail _ (.tail _ (.tail _ hq))))), fun e => hpb9 q hq (by rw [e]; simp)⟩
    have F10k := F10.keep
    have hgl10 := (N10 (gl, lst [] 0) (by k_mem)).1
    obtain ⟨oL10, _, _, eL10, _⟩ := ns_ob F10.ns
    have hI10 := nget N10 (a := h5.objs.size) (o := itObj ia ib) (by k_mem)
    have htl10 := nget N10 (a := tl) (o := lst (vs ++ [.ref el]) (k + 1)) (by k_mem)
    have hel10 := nget N10 (a := el) (o := lst [.str (chr t.letter) tkl, .ref d2, .ref gl] n1) (by k_mem)
    have hd10 := nget N10 (a := d2) (o := od) (by k_mem)
    have hx10 : ∀ a, D a → ∃ ob, h10.get? a = some ob := fun a q => InD.elim (R := fun a => ∃ ob, h10.get? a = some ob) q ⟨_, hI10⟩ ⟨_, htl10⟩ ⟨_, eL10⟩ P10.some fun b ob e => ⟨_, F10k b ob e⟩
    clear F10 N10
    iterate 1 walk1
    obtain ⟨ot11, hot11⟩ := P11.some
    obtain ⟨oL11, es11, ep11, eL11, dL11⟩ := ns_ob F11.ns
    obtain ⟨pl11, Npl11, hpb11, hpk11⟩ := rest_of F11 [s.heap.objs.size, h5.objs.size, tl, 46, el, gl, d2] (by exact .head _)
    have n11 := fun q hq => N11 q hq
    have N11' : News (hideAll s.heap [46]) s.heap.objs.size h11 ([(tl, lst (vs ++ [.ref el]) (k + 1)), (46, ot11), (h5.objs.size, itObj ia ib), (el, lst [.str (chr t.letter) tkl, .ref d2, .ref gl] n1)] ++ (gl, lst [] 0) :: ((d2, od) :: pl11)) :=
      all_cons (N11 (tl, lst (vs ++ [.ref el]) (k + 1)) (by k_mem)) (all_cons ⟨hot11, Ne.symm L46, hB46⟩ (all_cons (N11 (h5.objs.size, itObj ia ib) (by k_mem)) (all_cons (N11 (el, lst [.str (chr t.letter) tkl, .ref d2, .ref gl] n1) (by k_mem)) (all_cons (N11 (gl, lst [] 0) (by k_mem)) (all_cons (N11 (d2, od) (by k_mem)) Npl11)))))
    have hglx := (hm9 (gl, lst [] 0) (by k_mem)).2
    have f9 := fresh9 (gl, lst [] 0) (by k_mem)
    refine extend_in (own := [(tl, lst (vs ++ [.ref el]) (k + 1)), (46, ot11), (h5.objs.size, itObj ia ib), (el, lst [.str (chr t.letter) tkl, .ref d2, .ref gl] n1)]) (rest := (d2, od) :: pl11) (ys := []) F11 N11' ?_ ?_ hr11 ?_ (by rw [sizeLine_eq]; simp; omega)
    · intro q hq
      revert q hq
      refine all_cons ?_ (all_cons ?_ (all_cons ?_ ?_))
      · exact Ne.symm hne9.2.2.1
      · exact Ne.symm f9.2.2.2
      · exact Ne.symm f9.2.1
      · intro q hq
        rw [List.mem_singleton.mp hq]; exact hne9.2.2.2.1
    · intro q hq
      revert q hq
      refine all_cons ?_ ?_
      · exact Ne.symm hne9.2.2.2.2.2
      · intro q hq
        exact fun e => hpb11 q hq (by rw [e]; simp)
    · intro h12 n12 F12 N12
      have hk12 : ∀ b ob, b ∉ [s.heap.objs.size, h5.objs.size, tl, el, gl, d2] → h11.get? b = some ob → h12.get? b = some ob :=
        hk_but [s.heap.objs.size, h5.objs.size, tl] (c := [el, gl, d2]) hot11 (nget N12 (a := 46) (o := ot11) (List.mem_append_left _ (by k_mem))) (hpk11 h12 F12.keep fun p hp => (N12 p (List.mem_append_right _ (.tail _ (.tail _ hp)))).1)
      have P12 : ParTab h12 := P11.rest _ (all_cons (plain_of eL11 (plain_dict dL11)) (all_cons (plain_of (nget N11 (by k_mem)) (plain_it ia ib)) (all_cons (plain_of (nget N11 (by k_mem)) (plain_lst (vs ++ [.ref el]) (k + 1))) (all_cons (plain_of (nget N11 (by k_mem)) (plain_lst [.str (chr t.letter) tkl, .ref d2, .ref gl] n1)) (all_cons (plain_of (nget N11 (by k_mem)) (plain_lst [] 0)) (all_one (plain_of (nget N11 (a := d2) (o := od) (by k_mem)) (plain_dict hodd)))))))) hk12
      k_steps
      have hnD : ∀ q ∈ [(el, lst [.str (chr t.letter) tkl, .ref d2, .ref gl] n1), (gl, lst [] 0), (d2, od)], q.1 ≠ tl → ¬ D q.1 := fun q hq hqt =>
        InD.not (fresh9 q hq).2.1 hqt (fresh9 q hq).1 (fresh9 q hq).2.2.2 (fresh9 q hq).2.2.1
      refine ⟨h12, _, _, rfl, F12, fun q hq => by rw [List.mem_singleton.mp hq]; exact N12 (h5.objs.size, itObj ia ib) (List.mem_append_left _ (by k_mem)), rfl, rfl, rfl, P12, vs ++ [.ref el], k + 1, (N12 (tl, lst (vs ++ [.ref el]) (k + 1)) (List.mem_append_left _ (by k_mem))).1, by simp [ql], fun as has j v' kd' hv' hkd' => ?_⟩
      rcases Nat.lt_or_ge j i with hj | hj
      · rw [List.getElem?_append_left (by omega)] at hv'
        refine (qL (s.heap.objs.size :: h5.objs.size :: tl :: 46 :: as) (fun a ha => ?_) j v' kd' hv' hkd').keeps (hide_mono fun b ob hb e => ?_)
        · revert a ha
          exact all_cons InD.c3 (all_cons InD.c1 (all_cons InD.c2 (all_cons InD.c4 has)))
        · have b1 := nm_tl hb
          have b2 := nm_tl b1
          have b3 := nm_tl b2
          have hb4 : b ∉ [s.heap.objs.size, h5.objs.size, tl, 46] := nm_cons (nm_hd hb) (nm_cons (nm_hd b1) (nm_cons (nm_hd b2) (nm_cons (nm_hd b3) nm_nil)))
          have e8 := hk8 b ob hb4 e
          have hf : ∀ q ∈ [(el, lst [.str (chr t.letter) tkl, .ref d2, .ref gl] n1), (gl, lst [] 0), (d2, od)], b ≠ q.1 := fun q hq hbq => by
            have := (hm9 q hq).2
            rw [← hbq, e8] at this; cases this
          have hb6 : b ∉ [s.heap.objs.size, h5.objs.size, tl, el, gl, d2] := nm_cons (nm_hd hb) (nm_cons (nm_hd b1) (nm_cons (nm_hd b2) (nm_cons (hf (el, _) (.head _)) (nm_cons (hf (gl, _) (.tail _ (.head _))) (nm_cons (hf (d2, _) (.tail _ (.tail _ (.head _)))) nm_nil)))))
          have e9 := hpk h9 F9k hp9 b ob hb4 e
          exact ⟨nm_tl b3, hk12 b ob hb6 (st11 b ob (hideAll_get _ (hk10 b ob hb6 e9) (nm_cons (nm_hd b3) nm_nil)))⟩
      · obtain rfl : j = i := by
          have := (List.getElem?_eq_some_iff.mp hv').1
          simp at this; omega
        rw [List.getElem?_append_right (by omega), ql, Nat.sub_self] at hv'
        cases hv'
        rw [hkt] at hkd'; cases hkd'
        have hel : el ∉ as := fun q => hnD (el, _) (.head _) hne9.1 (has _ q)
        have hgl : gl ∉ as := fun q => hnD (gl, _) (.tail _ (.head _)) hne9.2.2.1 (has _ q)
        have hd2 : d2 ∉ as := fun q => hnD (d2, _) (.tail _ (.tail _ (.head _))) hne9.2.1 (has _ q)
        have x11 := tr11 (gl :: s.heap.objs.size :: h5.objs.size :: tl :: 46 :: el :: d2 :: as) (fun a ha => ?_)
        · obtain ⟨_, ⟨or, er, _⟩, _⟩ := x11.limbs
          have er' := of_hideAll _ er
          rw [hr11] at er'; cases er'
          refine ⟨el, d2, gl, tkl, rfl, ⟨_, hideAll_get _ (N12 (el, lst [.str (chr t.letter) tkl, .ref d2, .ref gl] n1) (List.mem_append_left _ (by k_mem))).1 hel, rfl, n1, rfl⟩, attr_of_dict _ hd2S (hideAll_get _ (N12 (d2, od) (List.mem_append_right _ (.tail _ (.head _)))).1 hd2) hod9, x11.moved er (hide_mono fun b ob hb e => ?_) ⟨_, hideAll_get _ (N12 (gl, _) (List.mem_append_right _ (.head _))).1 hgl, rfl, n12, by simp⟩⟩
          have b1 := nm_tl hb
          have b2 := nm_tl b1
          have b3 := nm_tl b2
          have b4 := nm_tl b3
          have b5 := nm_tl b4
          have b6 := nm_tl b5
          exact ⟨nm_tl b6, hk12 b ob (nm_cons (nm_hd b1) (nm_cons (nm_hd b2) (nm_cons (nm_hd b3) (nm_cons (nm_hd b5) (nm_cons (nm_hd hb) (nm_cons (nm_hd b6) nm_nil)))))) e⟩
        · revert a ha
          exact all_cons ⟨_, hgl10⟩ (all_cons ⟨_, eL10⟩ (all_cons ⟨_, hI10⟩ (all_cons ⟨_, htl10⟩ (all_cons P10.some (all_cons ⟨_, hel10⟩ (all_cons ⟨_, hd10⟩ fun a ha => hx10 a (has a ha)))))))
  · rintro m₁ h tk ⟨q1, q2, q3, qP, vs, k, qt, ql, qL⟩ F6
    have F6 := Fr.over F6 [(Str.ofString "turned", .ref tl)] ⟨q1, trivial⟩
    clear F5 N5
    k_steps
    refine hret _ _ _ vs k qt (by omega) F6.keep qP fun as has => ?_
    have hn : tl ∉ as := fun hm => by
      obtain ⟨ob, e⟩ := has _ hm
      have h46' : tl ≠ 46 := Nat.ne_of_gt l46
      rw [hideAll_get [46] e (by simpa using h46')] at htlB; cases htlB
    have hD : ∀ a ∈ as, D a := fun a ha => by
      obtain ⟨ob, e⟩ := has _ ha
      by_cases ha46 : a = 46
      · exact .inr (.inr (.inr (.inl ha46)))
      · exact .inr (.inr (.inr (.inr ⟨ob, hideAll_get _ e (by simpa using ha46)⟩)))
    exact tree_of_limbs ⟨_, hideAll_get _ qt hn, rfl, k, rfl⟩ (by rw [ql, hlen0, (turn_len σ t).1]) (by rw [(turn_len σ t).2]; exact qL as hD)
theorem turn_spec {σ : Nat → Nat} (hσ : ∀ i, σ i < 3) : ∀ (n : Nat) (t : Gap), t.size ≤ n → TurnAt w mg mb mean σ t
  | n, t, hn => fun dp un fr gd s Q E g o h₀ T X st h46 C P hd hsz x ho hret =>
    turn_node hσ T X st h46 C P hd hsz x ho (fun k hk => match n, hn with
      | 0, hn => absurd (Gap.kid_size hk) (by omega)
      | n + 1, hn => turn_spec hσ n k (by have := Gap.kid_size hk; omega)) hret
end Mine
end
section
open PySem PySem.W PyProof.Rows PySem.Spec PySem.Calls
namespace Mine
theorem News.ins {h₀ h : Heap} {L a : Addr} {ob : Obj} {rest : List (Addr × Obj)} (e : h.get? a = some ob) (hL : a ≠ L) (hn : h₀.get? a = none) (N : News h₀ L h rest) : News h₀ L h ((a, ob) :: rest) := fun p hp => by
  revert p hp
  refine all_cons ?_ ?_
  · exact ⟨e, hL, hn⟩
  · intro p hp
    exact N p hp
theorem holed_get {h h' : Heap} {g a : Addr} {o : Obj} (st : (hideAll h [g]).StaysIn h') (e : h.get? a = some o) (ne : a ≠ g) : h'.get? a = some o :=
  st _ _ (hideAll_get _ e (by simpa using ne))
theorem ne_new {h : Heap} {a b : Addr} {o : Obj} (e : h.get? a = some o) (n : h.get? b = none) : b ≠ a := fun q => by rw [q, e] at n; cases n
theorem none_of {h₀ h : Heap} {L : Addr} {m : Str → Option Value} (F : Fr h₀ L h m) {b : Addr} (n : h.get? b = none) : h₀.get? b = none := by
  cases e : h₀.get? b with
  | none => rfl
  | some o => have := F.keep _ _ e; rw [n] at this; cases this
theorem frame_ne {h₀ h : Heap} {L : Addr} {m : Str → Option Value} (F : Fr h₀ L h m) {b : Addr} (n : h.get? b = none) : b ≠ L := fun q => by
  obtain ⟨o, _, _, e, _⟩ := ns_ob F.ns
  rw [q, e] at n; cases n
theorem News.rest {h₀ h h' : Heap} {L g : Addr} {pl : List (Addr × Obj)} {bad : List Addr} (N : News h₀ L h pl) (hpb : ∀ p ∈ pl, p.1 ∉ bad) (hg : g ∈ bad) (st : (hideAll h [g]).StaysIn h') : News h₀ L h' pl := fun q hq =>
  ⟨holed_get st (N q hq).1 fun e => hpb q hq (e ▸ hg), (N q hq).2⟩
theorem Made.three {h h' : Heap} {p q r : Addr × Obj} (M : Made h h' [p, q, r]) : (h'.get? p.1 = some p.2 ∧ h.get? p.1 = none) ∧ (h'.get? q.1 = some q.2 ∧ h.get? q.1 = none) ∧ (h'.get? r.1 = some r.2 ∧ h.get? r.1 = none) :=
  ⟨M p (.head _), M q (.tail _ (.head _)), M r (.tail _ (.tail _ (.head _)))⟩
theorem mget {h h' : Heap} {l : List (Addr × Obj)} (M : Made h h' l) {a : Addr} {o : Obj} (hm : (a, o) ∈ l) : h'.get? a = some o := (M _ hm).1
theorem mnew {h h' : Heap} {l : List (Addr × Obj)} (M : Made h h' l) {a : Addr} {o : Obj} (hm : (a, o) ∈ l) : h.get? a = none := (M _ hm).2
theorem News.tail {h₀ h : Heap} {L : Addr} {p : Addr × Obj} {pl : List (Addr × Obj)} (N : News h₀ L h (p :: pl)) : News h₀ L h pl := fun q hq => N q (.tail _ hq)
end Mine
end
section
open PySem PySem.W PyProof.Rows PySem.Spec PySem.Calls
namespace Mine
noncomputable def Gap.ins (c : Nat) : Nat → Gap → Gap
  | _, .leaf => .fork c .leaf .leaf .leaf
  | p, .fork d l m r => if p < 2 * l.size + 1 then .fork d (Gap.ins c p l) m r else
      if p - (2 * l.size + 1) < 2 * m.size + 1 then .fork d l (Gap.ins c (p - (2 * l.size + 1)) m) r else .fork d l m (Gap.ins c (p - (2 * l.size + 1) - (2 * m.size + 1)) r)
theorem Gap.ins_size (c : Nat) : ∀ (t : Gap) (p : Nat), (Gap.ins c p t).size = t.size + 1
  | .leaf, _ => rfl
  | .fork d l m r, p => by
    unfold Gap.ins
    split
    · simp only [Gap.size, Gap.ins_size c l]; omega
    · split
      · simp only [Gap.size, Gap.ins_size c m]; omega
      · simp only [Gap.size, Gap.ins_size c r]; omega
theorem Gap.ins_word (c : Nat) : ∀ (t : Gap) (p : Nat), p < 2 * t.size + 1 → (Gap.ins c p t).word = t.word.take p ++ c :: c :: t.word.drop p
  | .leaf, p, h => by
    have : p = 0 := by simp [Gap.size] at h; exact h
    subst this; rfl
  | .fork d l m r, p, h => by
    have hl := l.word_length
    have hm := m.word_length
    have hL : (l.word ++ [d]).length = 2 * l.size + 1 := by rw [List.length_append, hl]; rfl
    have hM : (m.word ++ [d]).length = 2 * m.size + 1 := by rw [List.length_append, hm]; rfl
    have e1 : ∀ x, l.word ++ d :: x = (l.word ++ [d]) ++ x := fun x => (List.append_cons _ _ _)
    have e2 : ∀ x, m.word ++ d :: x = (m.word ++ [d]) ++ x := fun x => (List.append_cons _ _ _)
    unfold Gap.ins
    split
    · rename_i h1
      have h2 : p ≤ l.word.length := by rw [hl]; exact Nat.le_of_lt_succ h1
      simp only [Gap.word, Gap.ins_word c l p h1]
      rw [List.take_append_of_le_length h2, List.drop_append_of_le_length h2]
      simp
    · rename_i h1
      obtain ⟨q, rfl⟩ := Nat.exists_eq_add_of_le (Nat.not_lt.mp h1)
      rw [Nat.add_sub_cancel_left]
      split
      · rename_i h2
        have h3 : q ≤ m.word.length := by rw [hm]; exact Nat.le_of_lt_succ h2
        simp only [Gap.word, Gap.ins_word c m q h2]
        rw [e1 (m.word ++ d :: r.word), ← hL, List.take_length_add_append, List.drop_length_add_append, List.take_append_of_le_length h3, List.drop_append_of_le_length h3]
        simp
      · rename_i h2
        obtain ⟨q', rfl⟩ := Nat.exists_eq_add_of_le (Nat.not_lt.mp h2)
        rw [Nat.add_sub_cancel_left]
        have h3 : q' < 2 * r.size + 1 := by simp only [Gap.size] at h; omega
        simp only [Gap.word, Gap.ins_word c r q' h3]
        rw [e1 (m.word ++ d :: r.word), ← hL, List.take_length_add_append, List.drop_length_add_append, e2 r.word, ← hM, List.take_length_add_append, List.drop_length_add_append]
        simp
noncomputable def AttrO (P : Params) (d : Addr) (o : Obj) (i : Int) (c : Nat) : Prop :=
  (d == sysModules) = false ∧ ∃ n t1 t2 t3 t4, o = ⟨.type "dict", none, .dict #[⟨PyData.keyHash P (Str.ofString "limb"), .str (Str.ofString "limb") t1, .int i t2⟩, ⟨PyData.keyHash P (Str.ofString "letter"), .str (Str.ofString "letter") t3, .str (chr c) t4⟩] n, #[]⟩
inductive LimbO (P : Params) (l : List (Addr × Obj)) (v : Value) (i c : Nat) (g : Addr) : Prop where
  | mk (el d : Addr) (tk : Tok) (n : Nat) (o : Obj) (c0 : v = .ref el) (c1 : (el, lst [.str (chr c) tk, .ref d, .ref g] n) ∈ l) (c2 : (d, o) ∈ l) (c3 : AttrO P d o i c)
inductive TreeN (P : Params) (l : List (Addr × Obj)) : Addr → Gap → List Addr → Prop where
  | leaf {g : Addr} {n : Nat} : (g, lst [] n) ∈ l → TreeN P l g .leaf [g]
  | fork {g : Addr} {v0 v1 v2 : Value} {g₀ g₁ g₂ : Addr} {c n : Nat} {a b e : Gap} {la lb le : List Addr} : (g, lst [v0, v1, v2] n) ∈ l → LimbO P l v0 0 c g₀ → LimbO P l v1 1 c g₁ → LimbO P l v2 2 c g₂ →
      TreeN P l g₀ a la → TreeN P l g₁ b lb → TreeN P l g₂ e le → TreeN P l g (.fork c a b e) (la ++ (lb ++ le))
theorem TreeN.length {P : Params} {l : List (Addr × Obj)} {g : Addr} {t : Gap} {ls : List Addr} (x : TreeN P l g t ls) : ls.length = 2 * t.size + 1 := by
  induction x with
  | leaf => rfl
  | fork _ _ _ _ _ _ _ ia ib ie => simp only [List.length_append, Gap.size, ia, ib, ie]; omega
structure NodesKept (l l' : List (Addr × Obj)) (g : Addr) : Prop where
  lists : ∀ b vs n, (b, lst vs n) ∈ l → b ≠ g → (b, lst vs n) ∈ l'
  dicts : ∀ b (o : Obj) es n, o.data = .dict es n → (b, o) ∈ l → (b, o) ∈ l'
  only : ∀ vs n, (g, lst vs n) ∈ l → vs = []
theorem LimbO.move {P : Params} {l l' : List (Addr × Obj)} {v : Value} {i c : Nat} {g g₀ : Addr} (k : NodesKept l l' g) (x : LimbO P l v i c g₀) : LimbO P l' v i c g₀ := by
  obtain ⟨el, d, tk, n, o, e, h1, h2, h3⟩ := x
  refine ⟨el, d, tk, n, o, e, k.lists _ _ _ h1 fun q => ?_, ?_, h3⟩
  · rw [q] at h1; cases k.only _ _ h1
  · obtain ⟨_, _, _, _, _, _, rfl⟩ := h3
    exact k.dicts _ _ _ _ rfl h2
theorem TreeN.move {P : Params} {l l' : List (Addr × Obj)} {g top : Addr} {t : Gap} {ls : List Addr} (k : NodesKept l l' g) (x : TreeN P l top t ls) (hg : g ∉ ls) : TreeN P l' top t ls := by
  induction x with
  | leaf e => exact .leaf (k.lists _ _ _ e fun q => hg (by simp [q]))
  | fork e l0 l1 l2 _ _ _ ia ib ie =>
    simp only [List.mem_append, not_or] at hg
    exact .fork (k.lists _ _ _ e fun q => (by rw [q] at e; cases k.only _ _ e)) (l0.move k) (l1.move k) (l2.move k) (ia hg.1) (ib hg.2.1) (ie hg.2.2)
theorem TreeN.ins {P : Params} {l l' : List (Addr × Obj)} {g top : Addr} {t : Gap} {ls : List Addr} {c n n0 n1 n2 : Nat} {v0 v1 v2 : Value} {g₀ g₁ g₂ : Addr} (k : NodesKept l l' g) (x : TreeN P l top t ls)
    (hn : (g, lst [v0, v1, v2] n) ∈ l') (l0 : LimbO P l' v0 0 c g₀) (l1 : LimbO P l' v1 1 c g₁) (l2 : LimbO P l' v2 2 c g₂) (e0 : (g₀, lst [] n0) ∈ l') (e1 : (g₁, lst [] n1) ∈ l') (e2 : (g₂, lst [] n2) ∈ l') :
    ∀ (p : Nat), ls.Nodup → ls[p]? = some g → TreeN P l' top (Gap.ins c p t) (ls.take p ++ ([g₀, g₁, g₂] ++ ls.drop (p + 1))) := by
  induction x with
  | @leaf g' n' e =>
    intro p _ hp
    obtain rfl : p = 0 := by
      have := (List.getElem?_eq_some_iff.mp hp).1
      simpa using this
    obtain rfl : g' = g := by simpa using hp
    exact .fork (la := [g₀]) (lb := [g₁]) (le := [g₂]) hn l0 l1 l2 (.leaf e0) (.leaf e1) (.leaf e2)
  | @fork g' w0 w1 w2 h0 h1 h2 d m a b e la lb le e' q0 q1 q2 ta tb te ia ib ie =>
    intro p hnd hp
    have hla := ta.length
    have hlb := tb.length
    have hle := te.length
    have hg' : (g', lst [w0, w1, w2] m) ∈ l' := k.lists _ _ _ e' fun q => by rw [q] at e'; cases k.only _ _ e'
    have hnd1 := List.nodup_append.mp hnd
    have hnd2 := List.nodup_append.mp hnd1.2.1
    have hgm : g ∈ la ++ (lb ++ le) := List.mem_of_getElem? hp
    unfold Gap.ins
    rw [← hla, ← hlb]
    split
    · rename_i h
      rw [List.getElem?_append_left h] at hp
      have hga : g ∈ la := List.mem_of_getElem? hp
      have hgb : g ∉ lb := fun q => hnd1.2.2 _ hga _ (List.mem_append_left _ q) rfl
      have hge : g ∉ le := fun q => hnd1.2.2 _ hga _ (List.mem_append_right _ q) rfl
      have := TreeN.fork hg' (q0.move k) (q1.move k) (q2.move k) (ia p hnd1.1 hp) (tb.move k hgb) (te.move k hge)
      rw [List.take_append_of_le_length (Nat.le_of_lt h), List.drop_append_of_le_length h]
      simpa using this
    · rename_i h
      obtain ⟨q, rfl⟩ := Nat.exists_eq_add_of_le (Nat.not_lt.mp h)
      rw [List.getElem?_append_right (Nat.le_add_right _ _), Nat.add_sub_cancel_left] at hp
      rw [Nat.add_sub_cancel_left, List.take_length_add_append, Nat.add_assoc la.length q 1, List.drop_length_add_append]
      split
      · rename_i h'
        rw [List.getElem?_append_left h'] at hp
        have hgb : g ∈ lb := List.mem_of_getElem? hp
        have hga : g ∉ la := fun q => hnd1.2.2 _ q _ (List.mem_append_left _ hgb) rfl
        have hge : g ∉ le := fun q => hnd2.2.2 _ hgb _ q rfl
        have := TreeN.fork hg' (q0.move k) (q1.move k) (q2.move k) (ta.move k hga) (ib _ hnd2.1 hp) (te.move k hge)
        rw [List.take_append_of_le_length (Nat.le_of_lt h'), List.drop_append_of_le_length h']
        simpa using this
      · rename_i h'
        obtain ⟨q', rfl⟩ := Nat.exists_eq_add_of_le (Nat.not_lt.mp h')
        rw [List.getElem?_append_right (Nat.le_add_right _ _), Nat.add_sub_cancel_left] at hp
        rw [Nat.add_sub_cancel_left, List.take_length_add_append, Nat.add_assoc lb.length q' 1, List.drop_length_add_append]
        have hge : g ∈ le := List.mem_of_getElem? hp
        have hga : g ∉ la := fun q => hnd1.2.2 _ q _ (List.mem_append_right _ hge) rfl
        have hgb : g ∉ lb := fun q => hnd2.2.2 _ q _ hge rfl
        have := TreeN.fork hg' (q0.move k) (q1.move k) (q2.move k) (ta.move k hga) (tb.move k hgb) (ie _ hnd2.2.1 hp)
        simpa using this
theorem TreeN.leafIn {P : Params} {l : List (Addr × Obj)} {top : Addr} {t : Gap} {ls : List Addr} (x : TreeN P l top t ls) {g : Addr} (hg : g ∈ ls) : ∃ n, (g, lst [] n) ∈ l := by
  induction x with
  | leaf e => rw [List.mem_singleton.mp hg]; exact ⟨_, e⟩
  | fork _ _ _ _ _ _ _ ia ib ie =>
    rcases List.mem_append.mp hg with h | h
    · exact ia h
    · rcases List.mem_append.mp h with h | h
      · exact ib h
      · exact ie h
theorem LimbO.at {P : Params} {l : List (Addr × Obj)} {h : Heap} {v : Value} {i c : Nat} {g : Addr} {t : Gap} (hl : ∀ b o, (b, o) ∈ l → ((∃ vs n, o = lst vs n) ∨ ∃ es n, o.data = .dict es n) → h.get? b = some o) (x : LimbO P l v i c g) (y : TreeH P h g t) :
    ∃ el d tk, v = .ref el ∧ h.IsList el #[.str (chr c) tk, .ref d, .ref g] ∧ AttrAt P h d i c := by
  obtain ⟨el, d, tk, n, o, e, h1, h2, hS, n', t1, t2, t3, t4, rfl⟩ := x
  exact ⟨el, d, tk, e, ⟨_, hl _ _ h1 (.inl ⟨_, _, rfl⟩), rfl, n, rfl⟩, hS, n', t1, t2, t3, t4, hl _ _ h2 (.inr ⟨_, _, rfl⟩)⟩
theorem TreeN.tree {P : Params} {l : List (Addr × Obj)} {h : Heap} {top : Addr} {t : Gap} {ls : List Addr} (hl : ∀ b o, (b, o) ∈ l → ((∃ vs n, o = lst vs n) ∨ ∃ es n, o.data = .dict es n) → h.get? b = some o) (x : TreeN P l top t ls) : TreeH P h top t := by
  induction x with
  | leaf e => exact .leaf ⟨_, hl _ _ e (.inl ⟨_, _, rfl⟩), rfl, _, rfl⟩
  | fork e l0 l1 l2 _ _ _ ia ib ie =>
    obtain ⟨k0, d0, t0, rfl, a0, b0⟩ := l0.at hl ia
    obtain ⟨k1, d1, t1, rfl, a1, b1⟩ := l1.at hl ib
    obtain ⟨k2, d2, t2, rfl, a2, b2⟩ := l2.at hl ie
    exact .fork ⟨_, hl _ _ e (.inl ⟨_, _, rfl⟩), rfl, _, rfl⟩ a0 a1 a2 b0 b1 b2 ia ib ie
theorem attrO_of_dict {prog : Program} {w : World} {o : Obj} {i : Int} {c : Nat} {t2 t4 : Tok} {d : Addr} (hS : (d == sysModules) = false) (x : o.IsDictOf (PySem.strKind prog w) [(Str.ofString "limb", .int i t2), (Str.ofString "letter", .str (chr c) t4)]) : AttrO w.params d o i c := by
  obtain ⟨_, n, t1, t2, t3, t4, e⟩ := attr_of_dict (h := ({} : Heap).push o) (d := ({} : Heap).objs.size) (i := i) (c := c) (by decide) (Heap.get?_push_size _ (by
    obtain ⟨es, n, -, hd, -⟩ := x
    exact Obj.isFreed_of_dict hd)) x
  rw [Heap.get?_push_size _ (by
    obtain ⟨es, n, -, hd, -⟩ := x
    exact Obj.isFreed_of_dict hd)] at e
  exact ⟨hS, n, t1, t2, t3, t4, Option.some.inj e⟩
theorem rest_mem {hB h : Heap} {L : Addr} {m : Str → Option Value} (F : Fr hB L h m) (bad : List Addr) (hL : L ∈ bad) :
    RestMem hB h L bad := by
  let fp := (List.range h.objs.size).filter fun a => decide (a ∉ bad)
  have hmem : ∀ a, a ∈ fp → a ∉ bad := fun a ha => by simpa using (List.mem_filter.mp ha).2
  have hLf : L ∉ fp := fun hm => hmem L hm hL
  have hs : ∀ p ∈ ownOf hB fp h, p.1 ∈ fp := ownOf_sub
  have hin : ∀ b o, b ∉ bad → hB.get? b = none → h.get? b = some o → (b, o) ∈ ownOf hB fp h := fun b o hb hn e =>
    mem_ownOf (List.mem_filter.mpr ⟨List.mem_range.mpr (Heap.lt_size e), by simpa using hb⟩) hn e
  refine ⟨ownOf hB fp h, news_ownOf hLf, fun p hp => hmem _ (hs p hp), hin, fun h' st hk b o hb e => ?_⟩
  cases eB : hB.get? b with
  | some o' =>
    have := F.keep b o' eB
    rw [e] at this
    cases this
    exact st _ _ eB
  | none => exact hk (b, o) (hin b o hb eB e)
end Mine
end
section
open PySem PySem.W PyProof.Rows PySem.Spec PySem.Calls
namespace Mine
variable {w : World} {mg mb : Str → Option Value} {mean : ExcName → Option Value} {dp un : Nat} {fr : Option (List Env)} {gd : Option (List Code)} {s : Shared} {Q E : Value → Shared → Prop}
theorem ne_obj {h : Heap} {a b : Addr} {x y : Obj} (e : h.get? a = some x) (e' : h.get? b = some y) (n : x ≠ y) : a ≠ b := fun q => n (by rw [q, e'] at e; exact (Option.some.inj e).symm)
theorem ParTab.ne_lst {h : Heap} {a : Addr} {vs : List Value} {n : Nat} (P : ParTab h) (e : h.get? a = .some (lst vs n)) : a ≠ 46 := by
  rintro rfl
  rcases P with p | ⟨c1, c2, c3, p, -, -⟩
  · rw [e] at p; have := congrArg Obj.cls (Option.some.inj p); cases this
  · rw [e] at p; have := congrArg Obj.cls (Option.some.inj p); cases this
theorem ParTab.ne_cell {h : Heap} {a : Addr} {o : Obj} {v : Option Value} (P : ParTab h) (e : h.get? a = .some o) (d : o.data = .cell v) : a ≠ 46 := by
  rintro rfl
  rcases P with p | ⟨c1, c2, c3, p, -, -⟩
  · rw [e] at p; cases p; cases d
  · rw [e] at p; cases p; cases d
theorem lst_ne_cell {vs : List Value} {n : Nat} {o : Obj} {v : Option Value} (d : o.data = .cell v) : lst vs n ≠ o := fun e => by rw [← e] at d; cases d
theorem lst_ne_lst {vs vs' : List Value} {n n' : Nat} (h : vs.length ≠ vs'.length) : lst vs n ≠ lst vs' n' := fun e => h (by
  have := congrArg Obj.data e
  injection this with h1 _
  have := congrArg Array.size h1
  simpa using this)
noncomputable def grownFor : List Stmt := match (fnBody 12).drop 2 with
  | .For _ _ b _ _ :: _ => b
  | _ => []
noncomputable abbrev grownEnv (L : Addr) : Env := envOfC (Str.ofString "_law_grown") (fnScope 12) L 56 (.ref 55)
inductive LimbNew (P : Params) (h₀ h : Heap) (v : Value) (i c : Nat) (g : Addr) : Prop where
  | mk (el d : Addr) (tk : Tok) (n : Nat) (o : Obj) (k : Nat) (c0 : v = .ref el) (c1 : h.get? el = some (lst [.str (chr c) tk, .ref d, .ref g] n)) (c2 : h.get? d = some o) (c3 : AttrO P d o i c) (c4 : h.get? g = some (lst [] k)) (c5 : h₀.get? el = none) (c6 : h₀.get? d = none) (c7 : h₀.get? g = none)
inductive LimbL (P : Params) (h₀ : Heap) (l : List (Addr × Obj)) (v : Value) (i c : Nat) (g : Addr) : Prop where
  | mk (el d : Addr) (tk : Tok) (n : Nat) (o : Obj) (k : Nat) (c0 : v = .ref el) (c1 : (el, lst [.str (chr c) tk, .ref d, .ref g] n) ∈ l) (c2 : (d, o) ∈ l) (c3 : AttrO P d o i c) (c4 : (g, lst [] k) ∈ l) (c5 : h₀.get? el = none) (c6 : h₀.get? d = none) (c7 : h₀.get? g = none)
set_option maxRecDepth 100000 in
set_option maxHeartbeats 2000000 in
theorem grown_limbs {R : Flow → Shared → Prop} {hB : Heap} {L fa g : Addr} {m : Str → Option Value} {c pp n ng : Nat} {u tp : Tok} {ls : List Addr} {oF oL oP : Obj}
  (T : Top topProg LOOSE mean mg mb hB) (X : (Mine.hd.heap_39 w.params).In hB) (C : CodeHd hB 50 46) (hB46 : hB.get? 46 = none) (hd : dp + 5 < recursionLimit) (L46 : @LT.lt Nat _ 46 L) (P : ParTab s.heap)
  (F : Fr hB L s.heap m) (eF : s.heap.get? (L + 1) = some oF) (dF : oF.data = .cell (some (.ref fa))) (eL : s.heap.get? (L + 2) = some oL) (dL : oL.data = .cell (some (.str (chr c) u))) (eP : s.heap.get? (L + 3) = some oP) (dP : oP.data = .cell (some (.int (pp : Nat) tp)))
  (ef : s.heap.get? fa = some (lst (ls.map .ref) n)) (eg : s.heap.get? g = some (lst [] ng)) (hg : ls[pp]? = some g) (hsz : ls.length ≤ 100) (gL : g ≠ L) (gB : hB.get? g = none)
  (hret : ∀ (h' : Heap) (tk' : Nat) (D : Addr) (ep : Nat) (vs : List Value) (gs : List Addr) (k : Nat), Fr hB L h' (fun z => if z = Str.ofString "limbs" then some (.ref D) else m z) → h'.get? D = some (lst vs ep) → hB.get? D = none → s.heap.get? D = none → vs.length = 3 → gs.length = 3 → gs.Nodup →
    (∀ q v gq, vs[q]? = some v → gs[q]? = some gq → LimbNew w.params s.heap h' v q c gq) → h'.get? g = some (lst vs k) → ParTab h' → (∀ b o, b ≠ L → b ≠ g → b ≠ 46 → s.heap.get? b = some o → h'.get? b = some o) → R .next { s with heap := h', toks := tk' }) :
  wpAny (model PySem.Challenge.rw_wr0012_01.row.prog w) ((Ar dp un fr gd).deeper (grownEnv L)) (execs ((grownFor.drop 1).take 1) (grownEnv L)) R (fun _ _ => False) s := by
  revert X; k_fill; intro X
  conv in List.take _ _ => whnf
  have z1 : @Ne Nat (L + 1) 46 := P.ne_cell eF dF
  have z2 : @Ne Nat (L + 2) 46 := P.ne_cell eL dL
  have z3 : @Ne Nat (L + 3) 46 := P.ne_cell eP dP
  have z4 : fa ≠ 46 := P.ne_lst ef
  have z5 : g ≠ 46 := P.ne_lst (vs := []) eg
  have y1 : g ≠ L + 1 := ne_obj eg eF (lst_ne_cell (vs := []) (n := ng) dF)
  have y2 : g ≠ L + 2 := ne_obj eg eL (lst_ne_cell (vs := []) (n := ng) dL)
  have y3 : g ≠ L + 3 := ne_obj eg eP (lst_ne_cell (vs := []) (n := ng) dP)
  have hgl := (List.getElem?_eq_some_iff.mp hg).1
  have y4 : g ≠ fa := ne_obj eg ef (lst_ne_lst (by simp; omega))
  obtain ⟨ot, hot⟩ := P.some
  obtain ⟨oL0, es0, ep0, eL0, dL0⟩ := ns_ob F.ns
  have N : News hB L s.heap [] := News.nil
  w_on
  iterate 1 walk1
  refine comp_assign (cl := ?cl) F.ns (by rfl) (by rfl) rfl (by decide) (by decide) (by decide) (by rfl) (by rfl) ?_
  k_steps
  rename_i h5 tk5 tr1 tr2 tr3 R5 F5 N5 k5
  have P5 : ParTab h5 := P.rest [L] (fun c hc ob e => by
    rw [List.mem_singleton.mp hc] at e
    have : some ob = some oL0 := e.symm.trans eL0
    cases this; exact plain_dict dL0) fun b ob hb e => k5 b ob e
  have e5 : ∀ {a o}, s.heap.get? a = some o → h5.get? a = some o := fun e => k5 _ _ e
  have inH : ∀ {a o}, h5.get? a = some o → a ≠ 46 → a ≠ g → (hideAll h5 [46, g]).get? a = some o := fun e a1 a2 => hideAll_get _ e (by
    simp only [List.mem_cons, List.mem_nil_iff, or_false, not_or]; exact ⟨a1, a2⟩)
  have stC : hB.StaysIn (hideAll h5 [46, g]) := fun b o e => inH (F5.keep b o e) (fun q => by rw [q, hB46] at e; cases e) (fun q => by rw [q, gB] at e; cases e)
  have TB := T.keeps stC
  have XB := X.keeps stC
  have cF : CellIn (hideAll h5 [46, g]) (L + 1) (.ref fa) := ⟨⟨oF, inH (e5 eF) z1 (Ne.symm y1), dF⟩⟩
  have cL : CellIn (hideAll h5 [46, g]) (L + 2) (.str (chr c) u) := ⟨⟨oL, inH (e5 eL) z2 (Ne.symm y2), dL⟩⟩
  have cP : CellIn (hideAll h5 [46, g]) (L + 3) (.int (pp : Nat) tp) := ⟨⟨oP, inH (e5 eP) z3 (Ne.symm y3), dP⟩⟩
  have faB : (hideAll h5 [46, g]).get? fa = some (lst (ls.map .ref) n) := inH (e5 ef) z4 (Ne.symm y4)
  let J2 : Nat → List Value → List (Addr × Obj) → Prop := fun j ys news => ∃ (ot : Obj) (k : Nat) (gs : List Addr), (46, ot) ∈ news ∧ (g, lst ys k) ∈ news ∧ gs.length = j ∧ gs.Nodup ∧
    (∀ h', (hideAll h5 [46, g]).StaysIn h' → (∀ p ∈ news, h'.get? p.1 = some p.2) → ParTab h') ∧ ∀ q v gq, ys[q]? = some v → gs[q]? = some gq → LimbL w.params h5 news v q c gq
  have LB : (hideAll h5 [46, g]).Ns L _ := F5.ns.at' fun o e => inH e (Nat.ne_of_gt L46) (Ne.symm gL)
  refine compAt_range (n := 3) (news := [(46, ot), (g, lst [] ng)]) rfl R5 (hideAll h5 [46, g]) (fun b o e => of_hideAll _ e) (Nat.le_of_eq (hideAll_size _ _)) J2 ?_ ?_ (by omega) ?_ ?_ LB
  · intro p hp
    revert p hp
    refine all_cons ?_ ?_
    · exact ⟨e5 hot, hideAll_none _ (.head _)⟩
    · intro p hp
      rw [List.mem_singleton.mp hp]; exact ⟨e5 eg, hideAll_none _ (.tail _ (.head _))⟩
  · refine ⟨ot, ng, [], by k_mem, by k_mem, rfl, .nil, fun h' st' hp' => P5.rest [] (fun c hc => by cases hc) fun b ob _ e => ?_, fun q v gq hv => by simp at hv⟩
    refine hk_but [] (c := []) (e5 hot) (hp' (46, ot) (by k_mem)) (hk_but [46] (c := []) (e5 eg) (hp' (g, lst [] ng) (by k_mem)) fun b ob hm e => st' _ _ (hideAll_get _ e hm)) b ob nm_nil e
  · intro It C' D j tj m2 ys ep news2 own2 h tkk hIt hItD hDC hj ⟨ot2, k2, gs, r1, r2, r3, r4, r5, lim⟩ hys ho2 hnw2 hIo F N
    clear hret
    have hstB : ∀ p ∈ news2, h.get? p.1 = some p.2 := fun p hp => (N p (.tail _ (List.mem_append_left _ hp))).1
    have Ph := r5 h F.keep hstB
    have eg' : h.get? g = some (lst ys k2) := hstB _ r2
    k_steps
    refine item_nat (k := pp) (v := .ref g) (items := (ls.map Value.ref).toArray) ⟨_, F.keep _ _ faB, rfl, n, rfl⟩ (by omega) (by simp [hg]) ?_
    k_steps
    have hBh : hB.StaysIn h := fun b o e => F.keep _ _ (stC _ _ e)
    have C46 : C' ≠ 46 := by
      rintro rfl
      obtain ⟨o, es, ep', e, d⟩ := ns_ob F.ns
      rcases Ph with p | ⟨c1, c2, c3, p, -, -⟩
      · rw [e] at p; cases p; cases d
      · rw [e] at p; cases p; cases d
    have B46 : (hideAll h5 [46, g]).get? 46 = none := hideAll_none _ (.head _)
    have Bg : (hideAll h5 [46, g]).get? g = none := hideAll_none _ (.tail _ (.head _))
    refine parent_spec T X (by exact hBh) hB46 C Ph (by first | exact lim 1 hd | exact limT 1 hd | (show dp + 1 < _; omega)) fun p h8 tk8 st8 P8 par8 => ?_
    have F8 := Fr.holed F B46 C46 st8
    have gD : g ≠ D := (hnw2 _ r2).1
    have gIt : g ≠ It := fun e => (hnw2 _ r2).2 (by rw [e]; simp)
    have D46 : (46 : Addr) ≠ D := (hnw2 _ r1).1
    have It46 : (46 : Addr) ≠ It := fun e => (hnw2 _ r1).2 (by rw [e]; simp)
    have gC : C' ≠ g := by
      obtain ⟨o, es, ep', e, d⟩ := ns_ob F.ns
      exact ne_obj e eg' (fun q => by rw [q] at d; cases d)
    obtain ⟨eD, DL, DB⟩ := N _ (.head _)
    dsimp only at eD DL DB
    obtain ⟨oI, eI, pI⟩ := hIo
    have own8 : ∀ q ∈ own2, h.get? q.1 = some q.2 ∧ q.1 ≠ C' ∧ (hideAll h5 [46, g]).get? q.1 = none := fun q hq => N q (.tail _ (List.mem_append_right _ hq))
    have eg8 := holed_get st8 eg' z5
    have eD8 := holed_get st8 eD (Ne.symm D46)
    have eI8 := holed_get st8 eI (Ne.symm It46)
    have h8of : ∀ {a o}, h.get? a = some o → a ≠ 46 → h8.get? a = some o := fun e n => holed_get st8 e n
    have N8 : News (hideAll h5 [46, g]) C' h8 [] := News.nil
    have nw2 : ∀ q ∈ news2, q.1 ≠ C' ∧ (hideAll h5 [46, g]).get? q.1 = none := fun q hq => (N q (.tail _ (List.mem_append_left _ hq))).2
    clear N
    k_steps
    show wpAny _ _ (call (.ref 23) [.ref p, .str (chr c) u] [(Str.ofString "limb", .int j tj), (Str.ofString "letter", .str (chr c) u)]) _ _ _
    refine sub_two (n := k2) T X (by exact fun b o e => F8.keep _ _ (stC _ _ e)) gB (by first | exact lim 3 hd | exact limT 3 hd | (show dp + 1 + 2 < _; omega)) par8 (by exact eg8) (by omega) ?_
    intro el d gl n1 od h9 tk9 hdS st9 M9 hod9 g9 hne9
    have F9 := Fr.holed F8 Bg gC st9
    have P9 : ParTab h9 := P8.holed (by exact eg8) st9
    have el9 := mget M9 (.head _)
    have eln := mnew M9 (.head _)
    have gl9 := mget M9 (.tail _ (.head _))
    have gln := mnew M9 (.tail _ (.head _))
    have d9 := mget M9 (.tail _ (.tail _ (.head _)))
    have dn := mnew M9 (.tail _ (.tail _ (.head _)))
    have eD9 := holed_get st9 eD8 (Ne.symm gD)
    have eI9 := holed_get st9 eI8 (Ne.symm gIt)
    obtain ⟨pl9, Npl9, hpb9, hpm9, hpk9⟩ := rest_mem F9 [C', D, It] (by exact .head _)
    obtain ⟨ot9, hot9⟩ := P9.some
    have old9 : ∀ {a o}, h5.get? a = none → h.get? a = some o → h9.get? a = some o := fun n e => by
      have a1 : _ ≠ (46 : Addr) := ne_new (e5 hot) n
      have a2 : _ ≠ g := ne_new (e5 eg) n
      exact holed_get st9 (h8of e a1) a2
    have fr5 : ∀ {a}, h8.get? a = none → h5.get? a = none := fun {a} n => by
      cases e : h5.get? a with
      | none => rfl
      | some o =>
        by_cases a1 : a = 46
        · obtain ⟨q, e'⟩ := P8.some; rw [a1, e'] at n; cases n
        by_cases a2 : a = g
        · rw [a2, eg8] at n; cases n
        · have := F8.keep _ _ (inH e a1 a2); rw [n] at this; cases this
    show EltEnd _ _ _ _ _ _ _ _ _ _ _
    refine ⟨h9, tk9, _, pl9, rfl, F9, ?_, fun q hq => ?_, ot9, k2 + 1, gs ++ [gl], hpm9 _ _ ?_ B46 hot9, hpm9 _ _ ?_ Bg g9, by simp [r3], ?_, fun h' st' hp' => ?_, fun q v gq hv hq => ?_⟩
    · intro q hq
      rcases List.mem_cons.mp hq with rfl | hq
      · exact ⟨eD9, DL, DB⟩
      rcases List.mem_append.mp hq with hq | hq
      · exact Npl9 q hq
      · have o8 := own8 q hq
        have hI := List.mem_singleton.mp (ho2 q hq)
        refine ⟨holed_get st9 (h8of o8.1 ?_) ?_, o8.2⟩
        · rw [hI]; exact Ne.symm It46
        · rw [hI]; exact Ne.symm gIt
    · have := hpb9 q hq
      simp only [List.mem_cons, List.mem_nil_iff, or_false, not_or] at this
      exact ⟨this.2.1, fun e => this.2.2 (List.mem_singleton.mp e)⟩
    · simp only [List.mem_cons, List.mem_nil_iff, or_false, not_or]
      exact ⟨Ne.symm C46, D46, It46⟩
    · simp only [List.mem_cons, List.mem_nil_iff, or_false, not_or]
      exact ⟨Ne.symm gC, gD, gIt⟩
    · refine List.nodup_append.mpr ⟨r4, by simp, fun a ha b hb e => ?_⟩
      rw [List.mem_singleton.mp hb] at e
      subst e
      obtain ⟨q, hq, hqe⟩ := List.getElem_of_mem ha
      obtain ⟨_, _, _, _, _, _, _, _, _, _, hgg, _, _, hg5⟩ := lim q ys[q] a (List.getElem?_eq_getElem (by omega)) (by rw [← hqe]; exact List.getElem?_eq_getElem hq)
      have a1 : a ≠ 46 := ne_new (e5 hot) hg5
      rw [h8of (hstB _ hgg) a1] at gln; cases gln
    · have kk := hpk9 h' st' hp'
      exact P9.rest [C', D, It] (all_cons (ns_plain F9.ns) (all_cons (plain_of eD9 (plain_lst _ _)) (all_one (plain_of eI9 pI)))) kk
    · have dd9 : od.IsDictOf (PySem.strKind PySem.Challenge.rw_wr0012_01.row.prog w) [(Str.ofString "limb", .int j tj), (Str.ofString "letter", .str (chr c) u)] := hod9
      rcases Nat.lt_or_ge q j with hlt | hge
      · rw [List.getElem?_append_left (by omega)] at hv hq
        obtain ⟨el', d', tk', n', o', kk', e', h1, h2, h3, h4, h5', h6, h7⟩ := lim q v gq hv hq
        have mv : ∀ {a o}, (a, o) ∈ news2 → h5.get? a = none → (a, o) ∈ pl9 := fun {a o} hm n => by
          have q1 := nw2 _ hm
          have q2 := hnw2 _ hm
          refine hpm9 _ _ ?_ q1.2 (old9 n (hstB _ hm))
          simp only [List.mem_cons, List.mem_nil_iff, or_false, not_or]
          exact ⟨q1.1, q2.1, fun e => q2.2 (by rw [e]; simp)⟩
        exact ⟨el', d', tk', n', o', kk', e', mv h1 h5', mv h2 h6, h3, mv h4 h7, h5', h6, h7⟩
      · obtain rfl : q = j := by
          have := (List.getElem?_eq_some_iff.mp hv).1
          simp at this; omega
        rw [List.getElem?_append_right (by omega), hys, Nat.sub_self] at hv
        rw [List.getElem?_append_right (by omega), r3, Nat.sub_self] at hq
        cases hv; cases hq
        have nf : ∀ {a o}, h8.get? a = none → h9.get? a = some o → (a, o) ∈ pl9 := fun n e => hpm9 _ _ (by
          simp only [List.mem_cons, List.mem_nil_iff, or_false, not_or]; exact ⟨frame_ne F8 n, ne_new eD8 n, ne_new eI8 n⟩) (none_of F8 n) e
        exact ⟨el, d, u, n1, od, 0, rfl, nf eln el9, nf dn d9, attrO_of_dict hdS dd9, nf gln gl9, fr5 eln, fr5 dn, fr5 gln⟩
  · intro D h9 tk9 ys ep news' st9 hN9 hD hys ⟨ot9, k9, gs, r1, r2, r3, r4, r5, lim⟩ h10 tk10 ns10 sb10
    have LnD : D ≠ L := by
      obtain ⟨o, es, ep', e, d⟩ := ns_ob F5.ns
      exact ne_new e hD
    have n0 : ∀ {a}, h5.get? a = none → s.heap.get? a = none := fun {a} n => by
      cases e : s.heap.get? a with
      | none => rfl
      | some o => rw [e5 e] at n; cases n
    have nL : ∀ {a}, h5.get? a = none → a ≠ L := fun n => by
      obtain ⟨o, es, ep', e, d⟩ := ns_ob F5.ns
      exact ne_new e n
    have F9 : Fr hB L h9 m := ⟨F5.ns.at' fun o e => st9 _ _ (inH e (Nat.ne_of_gt L46) (Ne.symm gL)), fun b o e => st9 _ _ (stC b o e), F5.above⟩
    have F10 := F9.set ns10 sb10
    have P9 := r5 h9 st9 fun p hp => (hN9 p (.tail _ hp)).1
    have up : ∀ {a o}, a ≠ L → h9.get? a = some o → h10.get? a = some o := fun n e => (sb10.2 _ n).trans e
    have P10 : ParTab h10 := P9.rest [L] (fun b hb ob e => by
      rw [List.mem_singleton.mp hb] at e
      obtain ⟨o', es, ep', e', dd⟩ := ns_ob F9.ns
      have : some ob = some o' := e.symm.trans e'
      cases this; exact plain_dict dd) fun b ob hb e => up (by simpa using hb) e
    show wpAny _ _ (execs [] (grownEnv L)) _ _ _
    refine wpAny_execs_nil ?_
    refine hret h10 _ D ep ys gs k9 F10 (up LnD (hN9 _ (.head _)).1) (none_of F5 hD) (n0 hD) hys r3 r4 (fun q v gq hv hq => ?_) (up gL (hN9 _ (.tail _ r2)).1) P10 fun b o b1 b2 b3 e => up b1 (st9 _ _ (inH (e5 e) b3 b2))
    obtain ⟨el, d, tk', n', o', kk', e', h1, h2, h3, h4, h5', h6, h7⟩ := lim q v gq hv hq
    exact ⟨el, d, tk', n', o', kk', e', up (nL h5') (hN9 _ (.tail _ h1)).1, up (nL h6) (hN9 _ (.tail _ h2)).1, h3, up (nL h7) (hN9 _ (.tail _ h4)).1, n0 h5', n0 h6, n0 h7⟩
end Mine
end
section
open PySem PySem.W PyProof.Rows PySem.Spec PySem.Calls
namespace Mine
variable {w : World} {mg mb : Str → Option Value} {mean : ExcName → Option Value} {dp un : Nat} {fr : Option (List Env)} {gd : Option (List Code)} {s : Shared} {Q E : Value → Shared → Prop}
theorem over_eq {m : Str → Option Value} (bs : List (Str × Value)) (e : Says m bs) : over bs m = m := by
  funext z
  unfold over
  split
  · rename_i v h
    exact (e.all _ (mem_of_lookup h)).symm
  · rfl
set_option maxRecDepth 100000 in
set_option maxHeartbeats 2000000 in
theorem grown_free {R : Flow → Shared → Prop} {hB : Heap} {L fa D : Addr} {m : Str → Option Value} {pp n nD : Nat} {tp : Tok} {ls gs : List Addr} {vs : List Value} {oF oP : Obj}
  (T : Top topProg LOOSE mean mg mb hB) (X : (Mine.hd.heap_39 w.params).In hB) (hd : dp + 5 < recursionLimit) 
  (F : Fr hB L s.heap m) (eF : s.heap.get? (L + 1) = some oF) (dF : oF.data = .cell (some (.ref fa))) (eP : s.heap.get? (L + 3) = some oP) (dP : oP.data = .cell (some (.int (pp : Nat) tp)))
  (bF : hB.get? (L + 1) = none) (bP : hB.get? (L + 3) = none)
  (ef : s.heap.get? fa = some (lst (ls.map .ref) n)) (eD : s.heap.get? D = some (lst vs nD)) (hm : m (Str.ofString "limbs") = some (.ref D)) (hp : pp < ls.length) (hsz : ls.length ≤ 100) (fB : hB.get? fa = none) (DB : hB.get? D = none)
  (hv3 : vs.length = 3) (hg3 : gs.length = 3) (lim : ∀ (q : Nat) (v : Value) (gq : Addr), vs[q]? = some v → gs[q]? = some gq → ∃ el n' v1 v2, v = .ref el ∧ s.heap.get? el = some (lst [v1, v2, .ref gq] n')) 
  (hret : ∀ (h' : Heap) (tk' : Nat) (f' : Addr) (k : Nat) (oF' : Obj), Fr hB L h' m → h'.get? (L + 1) = some oF' → oF'.data = .cell (some (.ref f')) → h'.get? f' = some (lst ((ls.take pp ++ (gs ++ ls.drop (pp + 1))).map Value.ref) k) → hB.get? f' = none → s.heap.get? f' = none →
    (∀ b o, b ≠ L → b ≠ L + 1 → s.heap.get? b = some o → h'.get? b = some o) → R .next { s with heap := h', toks := tk' }) :
  wpAny (model PySem.Challenge.rw_wr0012_01.row.prog w) ((Ar dp un fr gd).deeper (grownEnv L)) (execs ((grownFor.drop 2).take 1) (grownEnv L)) R (fun _ _ => False) s := by
  revert X; k_fill; intro X
  conv in List.take _ _ => whnf
  have F := Fr.over F [(Str.ofString "limbs", .ref D)] ⟨hm, trivial⟩
  have fL : fa ≠ L := by
    obtain ⟨o, es, ep', e, d⟩ := ns_ob F.ns
    exact ne_obj ef e (fun q => by rw [← q] at d; cases d)
  have DL : D ≠ L := by
    obtain ⟨o, es, ep', e, d⟩ := ns_ob F.ns
    exact ne_obj eD e (fun q => by rw [← q] at d; cases d)
  have L1 : @Ne Nat (L + 1) L := Nat.ne_of_gt (Nat.lt_succ_self _)
  have L3 : @Ne Nat (L + 3) L := Nat.ne_of_gt (Nat.lt_add_of_pos_right (by decide))
  have y1 : @Ne Nat fa (L + 1) := ne_obj ef eF (lst_ne_cell (vs := ls.map .ref) (n := n) dF)
  have y3 : @Ne Nat fa (L + 3) := ne_obj ef eP (lst_ne_cell (vs := ls.map .ref) (n := n) dP)
  have w1 : @Ne Nat D (L + 1) := ne_obj eD eF (lst_ne_cell (vs := vs) (n := nD) dF)
  have w3 : @Ne Nat D (L + 3) := ne_obj eD eP (lst_ne_cell (vs := vs) (n := nD) dP)
  obtain ⟨pl0, Npl0, hpb0, hpm0, hpk0⟩ := rest_mem F [L, L + 1] (by exact .head _)
  have N2 : News hB L s.heap ((L + 1, oF) :: (L + 3, oP) :: (fa, lst (ls.map .ref) n) :: (D, lst vs nD) :: pl0) :=
    News.ins eF L1 bF (News.ins eP L3 bP (News.ins ef fL fB (News.ins eD DL DB Npl0)))
  clear Npl0
  have hsA : slicePick (ls.map Value.ref).toArray none (some (pp : Int)) none = ((ls.take pp).map Value.ref).toArray := by
    rw [slicePick_upto _ _ (by simp; omega)]; simp
  have hsB : slicePick (ls.map Value.ref).toArray (some ((pp : Int) + 1)) none none = ((ls.drop (pp + 1)).map Value.ref).toArray := by
    rw [show (pp : Int) + 1 = ((pp + 1 : Nat) : Int) by omega, slicePick_from _ _ (by simp; omega)]; simp
  w_on
  iterate 12 walk1
  rename_i h4 F4 N4
  rw [hsA] at N4
  refine comp_expr (cl := ?cl) (by rfl) rfl (by decide) (by decide) (by decide) ?_
  walk1
  have eD4 := (N4 (D, lst vs nD) (by k_mem)).1
  have e4 : ∀ {a o}, s.heap.get? a = some o → a ≠ L → a ≠ L + 1 → h4.get? a = some o := fun e a1 a2 => hpk0 h4 F4.keep (fun p hp => (N4 p (by simp [hp])).1) _ _ (by simp only [List.mem_cons, List.mem_nil_iff, or_false, not_or]; exact ⟨a1, a2⟩) e
  have Lh : ∃ oL es n', s.heap.get? L = some oL ∧ oL.data = .dict es n' := by
    obtain ⟨o, es, ep', e, d⟩ := ns_ob F.ns
    exact ⟨o, es, ep', e, d⟩
  obtain ⟨oL0, es0, n0, eL0, dL0⟩ := Lh
  refine compAt_list (news := []) rfl (News.isList N4 (show (D, lst vs nD) ∈ _ by k_mem)) h4 (fun _ _ e => e) (Nat.le_refl _) (fun i ys news => ys = (gs.take i).map Value.ref) (fun p hp => by cases hp) rfl (by omega) ?_ ?_
  · intro It C' D' i v m2 ys ep news2 own2 h tkk hIt hItD hDC hv hys hyl ho2 hnw2 hIo F N
    clear hret
    have hi := (List.getElem?_eq_some_iff.mp hv).1
    obtain ⟨gq, hgq⟩ : ∃ gq, gs[i]? = some gq := ⟨gs[i]'(by omega), List.getElem?_eq_getElem _⟩
    obtain ⟨el, n', v1, v2, rfl, hel⟩ := lim i v gq hv hgq
    have hel4 : h4.get? el = some (lst [v1, v2, .ref gq] n') := e4 hel (ne_obj hel eL0 (fun q => by rw [← q] at dL0; cases dL0)) (ne_obj hel eF (lst_ne_cell (vs := [v1, v2, .ref gq]) (n := n') dF))
    have hel5 : h.IsList el #[v1, v2, .ref gq] := ⟨_, F.keep _ _ hel4, rfl, n', rfl⟩
    k_steps
    refine ⟨h, _, _, news2, rfl, F, N, hnw2, ?_⟩
    rw [List.take_add_one, hgq, List.map_append, ← hys]; rfl
  · intro D' h5 tk5 ys ep news' st5 hN5 hD' hys hJ
    have hyg : ys = gs.map Value.ref := by rw [hJ, List.take_of_length_le (by omega)]
    subst hyg
    have F5 := Fr.stays F4 st5
    have N5 := News.stays N4 st5
    have mD := hN5 _ (.head _)
    have N6 := News.ins mD.1 (frame_ne F4 mD.2) (none_of F4 mD.2) N5
    clear F4 N4 N5
    refine add_lists (vs := (ls.take pp).map Value.ref) (ws := gs.map Value.ref) F5 N6 (News.isList N6 (.tail _ (.head _))) (News.isList N6 (.head _)) ?_ (by rw [sizeLine_eq]; simp; omega)
    intro h6 F6 N7
    k_steps
    refine slice_list (lo := some ((pp : Int) + 1)) (hi := none) (s := ⟨h6, _, _, _, _⟩) F6 N7 (News.isList N7 (show (fa, lst (ls.map .ref) n) ∈ _ by k_mem)) (.int _ _) .none (fun h7 F7 N8 => ?_) (by with_unfolding_all rfl) (by intro _; with_unfolding_all rfl) (by rw [sizeLine_eq]; simp; omega)
    rw [hsB] at N8
    refine add_lists (vs := (ls.take pp).map Value.ref ++ gs.map Value.ref) (ws := (ls.drop (pp + 1)).map Value.ref) F7 N8 (News.isList N8 (.tail _ (.head _))) (News.isList N8 (.head _)) ?_ (by rw [sizeLine_eq]; simp; omega)
    intro h8 F8 N9
    refine wpAny_storeName_cell (c := L + 1) rfl (by rfl) (by rfl) ⟨oF, (N9 (L + 1, oF) (by k_mem)).1, dF⟩ fun h9 hv9 hs9 => ?_
    obtain ⟨oF9, eF9, dF9⟩ := hv9
    obtain ⟨nf, nfL, nfB⟩ := N9 _ (.head _)
    dsimp only at nf nfL nfB
    have u9 : ∀ b o, b ≠ L + 1 → h8.get? b = some o → h9.get? b = some o := fun b o n e => (hs9.2 b n).trans e
    have F9 := Fr.stored F8 (Ne.symm L1) bF u9
    rw [over_eq [(Str.ofString "limbs", .ref D)] ⟨hm, trivial⟩] at F9
    have k8 : ∀ b o, b ≠ L → b ≠ L + 1 → s.heap.get? b = some o → h8.get? b = some o := fun b o b1 b2 e => hpk0 h8 F8.keep (fun p hp => (N9 p (by simp [hp])).1) b o (by simp only [List.mem_cons, List.mem_nil_iff, or_false, not_or]; exact ⟨b1, b2⟩) e
    have k7 : ∀ b o, b ≠ L → b ≠ L + 1 → s.heap.get? b = some o → h7.get? b = some o := fun b o b1 b2 e => hpk0 h7 F7.keep (fun p hp => (N8 p (by simp [hp])).1) b o (by simp only [List.mem_cons, List.mem_nil_iff, or_false, not_or]; exact ⟨b1, b2⟩) e
    have fs : s.heap.get? h7.objs.size = none := by
      cases e : s.heap.get? h7.objs.size with
      | none => rfl
      | some o =>
        have c1 : h7.objs.size ≠ L := Nat.ne_of_gt F7.ns.lt
        have c2 : h7.objs.size ≠ L + 1 := Nat.ne_of_gt (Heap.lt_size (N8 (L + 1, oF) (by k_mem)).1)
        exact absurd (Heap.lt_size (k7 _ _ c1 c2 e)) (Nat.lt_irrefl _)
    have f1 : h7.objs.size ≠ L + 1 := Nat.ne_of_gt (Heap.lt_size (N8 (L + 1, oF) (by k_mem)).1)
    show wpAny _ _ (execs [] (grownEnv L)) _ _ _
    refine wpAny_execs_nil ?_
    have eq : (ls.take pp).map Value.ref ++ gs.map Value.ref ++ (ls.drop (pp + 1)).map Value.ref = (ls.take pp ++ (gs ++ ls.drop (pp + 1))).map Value.ref := by simp
    rw [eq] at nf
    exact hret h9 _ _ 0 oF9 F9 eF9 dF9 (u9 _ _ f1 nf) nfB fs fun b o b1 b2 e => u9 _ _ b2 (k8 b o b1 b2 e)
end Mine
end
section
open PySem PySem.W PyProof.Rows PySem.Spec PySem.Calls
namespace Mine
variable {w : World} {mg mb : Str → Option Value} {mean : ExcName → Option Value} {dp un : Nat} {fr : Option (List Env)} {gd : Option (List Code)} {s : Shared} {Q E : Value → Shared → Prop}
theorem slice_to_wd {l : List Nat} {k : Nat} (h : k ≤ l.length) : Txt.slice (wd l) none (some (k : Int)) = wd (l.take k) := by
  have := eq_of_beq (slice_closes_to (x := wd l) (j := (k : Int)) ⟨by omega, by simpa using h⟩)
  rw [this]; simp
theorem slice_from_wd {l : List Nat} {k : Nat} (h : k ≤ l.length) : Txt.slice (wd l) (some (k : Int)) none = wd (l.drop k) := by
  rw [slice_from_eq (x := wd l) (i := (k : Int)) (b := (l.length : Int)) (by omega) (by rw [wd_length]; omega) (by rw [wd_length])]
  rw [show ((l.length : Int) - (k : Int)).toNat = l.length - k from Int.toNat_sub _ _]
  rw [List.take_of_length_le (by simp)]; simp
set_option maxRecDepth 100000 in
set_option maxHeartbeats 2000000 in
theorem grown_word {R : Flow → Shared → Prop} {hB : Heap} {L : Addr} {m : Str → Option Value} {c pp : Nat} {u tp tw : Tok} {l : List Nat} {oL oP : Obj}
  (T : Top topProg LOOSE mean mg mb hB) (X : (Mine.hd.heap_39 w.params).In hB) (hd : dp + 5 < recursionLimit) 
  (F : Fr hB L s.heap m) (eL : s.heap.get? (L + 2) = some oL) (dL : oL.data = .cell (some (.str (chr c) u))) (eP : s.heap.get? (L + 3) = some oP) (dP : oP.data = .cell (some (.int (pp : Nat) tp)))
  (bL : hB.get? (L + 2) = none) (bP : hB.get? (L + 3) = none) (hm : m (Str.ofString "word") = some (.str (wd l) tw)) (hp : pp ≤ l.length) (hsz : l.length ≤ 100)
  (hret : ∀ (h' : Heap) (tk' : Nat) (tw' : Tok), Fr hB L h' (fun z => if z = Str.ofString "word" then some (.str (wd (l.take pp ++ c :: c :: l.drop pp)) tw') else m z) →
    (∀ b o, b ≠ L → s.heap.get? b = some o → h'.get? b = some o) → R .next { s with heap := h', toks := tk' }) :
  wpAny (model PySem.Challenge.rw_wr0012_01.row.prog w) ((Ar dp un fr gd).deeper (grownEnv L)) (execs (grownFor.drop 3) (grownEnv L)) R (fun _ _ => False) s := by
  revert X; k_fill; intro X
  conv in List.drop _ _ => whnf
  have F := Fr.over F [(Str.ofString "word", .str (wd l) tw)] ⟨hm, trivial⟩
  have L2 : @Ne Nat (L + 2) L := Nat.ne_of_gt (Nat.lt_add_of_pos_right (by decide))
  have L3 : @Ne Nat (L + 3) L := Nat.ne_of_gt (Nat.lt_add_of_pos_right (by decide))
  have hwl := wd_length l
  obtain ⟨pl0, Npl0, hpb0, hpm0, hpk0⟩ := rest_mem F [L] (by exact .head _)
  have N2 : News hB L s.heap ((L + 2, oL) :: (L + 3, oP) :: pl0) := News.ins eL L2 bL (News.ins eP L3 bP Npl0)
  clear Npl0
  w_on
  k_steps
  rename_i h9 F9 N9
  rw [slice_to_wd hp, slice_from_wd hp] at F9
  have ew : wd (l.take pp) ++ chr c ++ chr c ++ wd (l.drop pp) = wd (l.take pp ++ c :: c :: l.drop pp) := by
    rw [chr_wd, wd_append, wd_append, wd_append]; simp
  rw [ew, over_eq [(Str.ofString "word", .str (wd l) tw)] ⟨hm, trivial⟩] at F9
  exact hret h9 _ _ F9 fun b o b1 e => hpk0 h9 F9.keep (fun p hp => (N9 p (by simp [hp])).1) b o (by simpa using b1) e
end Mine
end
section
open PySem PySem.W PyProof.Rows PySem.Spec PySem.Calls
namespace Mine
variable {w : World} {mg mb : Str → Option Value} {mean : ExcName → Option Value} {dp un : Nat} {fr : Option (List Env)} {gd : Option (List Code)} {s : Shared} {Q E : Value → Shared → Prop}
theorem three_of {α : Type} {l : List α} (h : l.length = 3) : ∃ a b c, l = [a, b, c] := len3 h
theorem plain_cell {ob : Obj} {v : Option Value} (h : ob.data = .cell v) : PlainOb ob := ⟨fun ps e => (by rw [e] at h; cases h), fun vs q t e => (by rw [h] at e; cases e)⟩
local macro_rules | `(tactic| k_all) => `(tactic| assumption)
noncomputable def lets : List Nat := [38, 66, 89, 98, 121]
theorem lets_is : lets = (Str.ofString "&BYby").cps.toList := by decide +kernel
noncomputable def grownT (l : List (Nat × Int)) : Nat → Gap
  | 0 => .leaf
  | i + 1 => match l[i]? with
    | some (c, n) => Gap.ins c (n % ((2 * (grownT l i).size + 1 : Nat) : Int)).toNat (grownT l i)
    | none => grownT l i
inductive GrownJ (w : World) (s : Shared) (tl : Addr) (ns : List (Int × Tok)) (i : Nat) (m : Str → Option Value) (news : List (Addr × Obj)) : Prop where
  | mk (t : Gap) (ls : List Addr) (fa : Addr) (tw : Tok) (n : Nat) (oF oL oP : Obj) (vL vP : Option Value) (ot : Obj) (c0 : m (Str.ofString "top") = some (.ref tl)) (c1 : m (Str.ofString "word") = some (.str (wd t.word) tw)) (c2 : t.size = i) (c3 : t = grownT (lets.zip (ns.map (·.1))) i) (c4 : TreeN w.params news tl t ls) (c5 : ls.Nodup) (c6 : (s.heap.objs.size + 1, oF) ∈ news) (c7 : oF.data = .cell (some (.ref fa))) (c8 : (s.heap.objs.size + 2, oL) ∈ news) (c9 : oL.data = .cell vL) (c10 : (s.heap.objs.size + 3, oP) ∈ news) (c11 : oP.data = .cell vP) (c12 : (fa, lst (ls.map .ref) n) ∈ news) (c13 : (46, ot) ∈ news) (c14 : ∀ h', (hideAll s.heap [46]).StaysIn h' → (∀ p ∈ news, h'.get? p.1 = some p.2) → ParTab h')
inductive GrownM0 (s : Shared) (tl : Addr) (t : Gap) (tw : Tok) (c : Nat) (u : Tok) (pp : Nat) (h₂ : Heap) (s' : Shared) : Prop where
  | mk (h' : Heap) (tk' : Nat) (oL' oP' : Obj) (tp : Tok) (m' : Str → Option Value) (c0 : s' = { s with heap := h', toks := tk' }) (c1 : Fr (hideAll s.heap [46]) s.heap.objs.size h' m') (c2 : Says m' [(Str.ofString "top", .ref tl), (Str.ofString "word", .str (wd t.word) tw)]) (c3 : h'.get? (s.heap.objs.size + 2) = some oL') (c4 : oL'.data = .cell (some (.str (chr c) u))) (c5 : h'.get? (s.heap.objs.size + 3) = some oP') (c6 : oP'.data = .cell (some (.int (pp : Nat) tp))) (c7 : ∀ b o, b ∉ [s.heap.objs.size, s.heap.objs.size + 2, s.heap.objs.size + 3] → h₂.get? b = some o → h'.get? b = some o)
inductive GrownM1 (w : World) (s : Shared) (mA : Str → Option Value) (hA : Heap) (g : Addr) (c : Nat) (s' : Shared) : Prop where
  | mk (h' : Heap) (tk' : Nat) (D : Addr) (ep : Nat) (vs : List Value) (gs : List Addr) (k : Nat) (c0 : s' = { s with heap := h', toks := tk' }) (c1 : Fr (hideAll s.heap [46]) s.heap.objs.size h' (fun z => if z = Str.ofString "limbs" then some (.ref D) else mA z)) (c2 : h'.get? D = some (lst vs ep)) (c3 : (hideAll s.heap [46]).get? D = none) (c4 : hA.get? D = none) (c5 : vs.length = 3) (c6 : gs.length = 3) (c7 : gs.Nodup) (c8 : (∀ q v gq, vs[q]? = some v → gs[q]? = some gq → LimbNew w.params hA h' v q c gq)) (c9 : h'.get? g = some (lst vs k)) (c10 : ParTab h') (c11 : ∀ b o, b ≠ s.heap.objs.size → b ≠ g → b ≠ 46 → hA.get? b = some o → h'.get? b = some o)
inductive GrownM2 (s : Shared) (mA : Str → Option Value) (D : Addr) (ls gs : List Addr) (pp : Nat) (hC : Heap) (s' : Shared) : Prop where
  | mk (h' : Heap) (tk' : Nat) (f' : Addr) (kf : Nat) (oF9 : Obj) (c0 : s' = { s with heap := h', toks := tk' }) (c1 : Fr (hideAll s.heap [46]) s.heap.objs.size h' (fun z => if z = Str.ofString "limbs" then some (.ref D) else mA z)) (c2 : h'.get? (s.heap.objs.size + 1) = some oF9) (c3 : oF9.data = .cell (some (.ref f'))) (c4 : h'.get? f' = some (lst ((ls.take pp ++ (gs ++ ls.drop (pp + 1))).map .ref) kf)) (c5 : (hideAll s.heap [46]).get? f' = none) (c6 : hC.get? f' = none) (c7 : ∀ b o, b ≠ s.heap.objs.size → b ≠ s.heap.objs.size + 1 → hC.get? b = some o → h'.get? b = some o)
theorem LimbNew.new {P : Params} {hA hC : Heap} {v : Value} {q c : Nat} {gq : Addr} (x : LimbNew P hA hC v q c gq) : hA.get? gq = none := by
  obtain ⟨_, _, _, _, _, _, _, _, _, _, _, _, _, r⟩ := x; exact r
set_option maxRecDepth 100000 in
set_option maxHeartbeats 4000000 in
theorem grown_spec {h₀ : Heap} {nl : Addr} {ns : List (Int × Tok)} (T : Top topProg LOOSE mean mg mb h₀) (X : (Mine.hd.heap_39 w.params).In h₀) (st : h₀.StaysIn s.heap) (h46 : h₀.get? 46 = none) (C : CodeHd h₀ 50 46) (P : ParTab s.heap)
  (hd : dp + 5 < recursionLimit) (hnl : (hideAll s.heap [46]).IsList nl (ns.map fun p => Value.int p.1 p.2).toArray) (hn5 : ns.length = 5)
  (hret : ∀ (r : Addr) (h' : Heap) (tk' : Nat) (tl : Addr) (tw : Tok), (hideAll s.heap [46]).StaysIn h' → ParTab h' → Made s.heap h' [(r, { cls := .type "tuple", data := .seq #[.ref tl, .str (wd (grownT (lets.zip (ns.map (·.1))) 5).word) tw] })] →
    (∀ as : List Addr, (∀ a ∈ as, ∃ ob, s.heap.get? a = some ob) → TreeH w.params (hideAll h' as) tl (grownT (lets.zip (ns.map (·.1))) 5)) → Q (.ref r) { s with heap := h', toks := tk' }) :
  wpAny (model PySem.Challenge.rw_wr0012_01.row.prog w) (Ar dp un fr gd) (call (.ref 56) [.ref nl]) Q E s := by
  revert X; k_fill; intro X
  have X1 := X.keeps st
  have hf : s.heap.get? 56 = ((Mine.hd.heap_39 w.params).lookup 56) := X1 56 _ rfl
  have hlim := T.nolimit.keeps st
  refine wpAny_call (call_cellsN_ret (binds := [(Str.ofString "numbers", .ref nl)]) (by first | exact lim 0 hd | exact limT 0 hd | (show dp < _; omega)) hf rfl hlim (codeRec_of X1 (by rfl)) (by rfl) (kindsX (by rfl) _) (by decide +kernel) (fun h₁ tk cells F N Y => ?_))
  obtain ⟨o1, o2, o3, rfl, d1, d2, d3⟩ := cells3 Y
  have stB := hide_stays (as := [46]) st (by simp [h46])
  have T := T.keeps stB
  have X := X.keeps stB
  have C := C.keeps stB
  have hkB : ∀ b ob, s.heap.get? b = some ob → h₁.get? b = some ob := fun b ob e => F.keep b ob e
  obtain ⟨otab, hP46⟩ := P.some
  have L46' : 46 < s.heap.objs.size := Heap.lt_size hP46
  have F := Fr.hide [46] F
  have N := News.hide [46] N
  have N : News (hideAll s.heap [46]) s.heap.objs.size h₁ [(s.heap.objs.size + 1, o3), (s.heap.objs.size + 2, o2), (s.heap.objs.size + 3, o1), (46, otab)] :=
    all_cons (N _ (.tail _ (.tail _ (.head _)))) (all_cons (N _ (.tail _ (.head _))) (all_cons (N _ (.head _)) (all_one ⟨hkB _ _ hP46, Nat.ne_of_lt (Heap.lt_size hP46), hideAll_none _ (.head _)⟩)))
  clear X1 hf Y
  w_on
  iterate 28 walk1
  rename_i tl hh1 ltl DT hh2 lDT hh3 hh4 hh5 fa hh6 lfa h6 oF F6 N6 dF
  refine For_turns F6 ?_
  k_steps
  have hB46 : (hideAll s.heap [46]).get? 46 = none := hideAll_none _ (.head _)
  have L46 : @Ne Nat s.heap.objs.size 46 := Nat.ne_of_gt L46'
  obtain ⟨pl, Npl, hpb, hpm, hpk⟩ := rest_mem F6 [s.heap.objs.size] (by exact .head _)
  have P6 : ParTab h6 := P.at hP46 F6.keep (N6 (46, otab) (by k_mem)).1
  let J : Nat → (Str → Option Value) → List (Addr × Obj) → Prop := GrownJ w s tl ns
  have fin : ∀ {a : Addr} {o : Obj}, (h6.get? a = some o ∧ a ≠ s.heap.objs.size ∧ (hideAll s.heap [46]).get? a = none) → (a, o) ∈ pl := fun n => hpm _ _ (nm_cons n.2.1 nm_nil) n.2.2 n.1
  have inp : ∀ q ∈ [(fa, lst [.ref tl] 0), (tl, lst [] 0), (s.heap.objs.size + 1, oF), (s.heap.objs.size + 2, o2), (s.heap.objs.size + 3, o1), (46, otab)], q ∈ pl :=
    all_cons (fin (N6 (fa, lst [.ref tl] 0) (by k_mem))) (all_cons (fin (N6 (tl, lst [] 0) (by k_mem))) (all_cons (fin (N6 (s.heap.objs.size + 1, oF) (by k_mem))) (all_cons (fin (N6 (s.heap.objs.size + 2, o2) (by k_mem))) (all_cons (fin (N6 (s.heap.objs.size + 3, o1) (by k_mem))) (all_one (fin (N6 (46, otab) (by k_mem))))))))
  clear fin
  refine turns_zip_sl (ys := ns.map fun p => Value.int p.1 p.2) rfl F6 Npl hnl J ?_ ?_ ?_
  · exact ⟨.leaf, [tl], fa, _, 0, oF, o2, o1, _, _, otab, rfl, rfl, rfl, rfl, .leaf (n := 0) (inp _ (by k_mem)), by simp, inp _ (by k_mem), dF, inp _ (by k_mem), d2, inp _ (by k_mem), d1, inp _ (by k_mem), inp _ (by k_mem),
      fun h' st' hp' => P6.rest [s.heap.objs.size] (all_one (ns_plain F6.ns)) (hpk h' st' hp')⟩
  · rintro I lI hLI i c u y TT m₁ news₁ own h₂ tk₂ hc hy ⟨t, ls, fa', tw, n, oF', oL, oP, vL, vP, ot, q1, q2, q3, q4, q5, q6, q7, q7d, q8, q8d, q9, q9d, q10, q11, q12⟩ hoff hT hown hwrx F₁ N₁
    k_fold
    have hi5 : i < 5 := by have := (List.getElem?_eq_some_iff.mp hy).1; simpa [hn5] using this
    obtain ⟨⟨nv, nt⟩, hnv⟩ : ∃ q, ns[i]? = some q := ⟨ns[i]'(by omega), List.getElem?_eq_getElem _⟩
    obtain rfl : y = .int nv nt := by rw [List.getElem?_map, hnv] at hy; exact (Option.some.inj hy).symm
    have hlen := q5.length
    have PP : ParTab h₂ := q12 h₂ F₁.keep fun p hp => (N₁ p (List.mem_append_right _ hp)).1
    have nF := nget N₁ (List.mem_append_right _ q7)
    have nF1 := nne N₁ (List.mem_append_right _ q7)
    have nF2 := nfresh N₁ (List.mem_append_right _ q7)
    have nL := nget N₁ (List.mem_append_right _ q8)
    have nL1 := nne N₁ (List.mem_append_right _ q8)
    have nL2 := nfresh N₁ (List.mem_append_right _ q8)
    have nP := nget N₁ (List.mem_append_right _ q9)
    have nP1 := nne N₁ (List.mem_append_right _ q9)
    have nP2 := nfresh N₁ (List.mem_append_right _ q9)
    have nfa := nget N₁ (List.mem_append_right _ q10)
    have nfa1 := nne N₁ (List.mem_append_right _ q10)
    have nfa2 := nfresh N₁ (List.mem_append_right _ q10)
    have n46 := nget N₁ (List.mem_append_right _ q11)
    have n461 := nne N₁ (List.mem_append_right _ q11)
    have n462 := nfresh N₁ (List.mem_append_right _ q11)
    have hp0 : (0 : Int) < ((2 * t.size + 1 : Nat) : Int) := by omega
    have hpl0 := Int.emod_nonneg nv (Int.ne_of_gt hp0)
    have hpl1 := Int.emod_lt_of_pos nv hp0
    obtain ⟨pp, hpp⟩ : ∃ pp : Nat, nv % ((2 * t.size + 1 : Nat) : Int) = pp := ⟨_, (Int.toNat_of_nonneg hpl0).symm⟩
    have hppl : pp < 2 * t.size + 1 := by omega
    obtain ⟨g, hg⟩ : ∃ g, ls[pp]? = some g := ⟨ls[pp]'(by omega), List.getElem?_eq_getElem _⟩
    obtain ⟨ng, hgl⟩ := q5.leafIn (List.mem_of_getElem? hg)
    have gg := nget N₁ (List.mem_append_right _ hgl)
    have gg1 := nne N₁ (List.mem_append_right _ hgl)
    have gg2 := nfresh N₁ (List.mem_append_right _ hgl)
    obtain ⟨pl0, Npl0, hpb0, hpm0, hpk0⟩ := rest_mem F₁ [s.heap.objs.size, s.heap.objs.size + 1, s.heap.objs.size + 2, s.heap.objs.size + 3, 46, g] (by exact .head _)
    have x1 : @Ne Nat fa' (s.heap.objs.size + 1) := ne_obj nfa nF (lst_ne_cell (vs := ls.map .ref) (n := n) q7d)
    have x2 : @Ne Nat fa' (s.heap.objs.size + 2) := ne_obj nfa nL (lst_ne_cell (vs := ls.map .ref) (n := n) q8d)
    have x3 : @Ne Nat fa' (s.heap.objs.size + 3) := ne_obj nfa nP (lst_ne_cell (vs := ls.map .ref) (n := n) q9d)
    have x4 : @Ne Nat fa' 46 := PP.ne_lst nfa
    have y1 : @Ne Nat g (s.heap.objs.size + 1) := ne_obj gg nF (lst_ne_cell (vs := []) (n := ng) q7d)
    have y2 : @Ne Nat g (s.heap.objs.size + 2) := ne_obj gg nL (lst_ne_cell (vs := []) (n := ng) q8d)
    have y3 : @Ne Nat g (s.heap.objs.size + 3) := ne_obj gg nP (lst_ne_cell (vs := []) (n := ng) q9d)
    have y4 : @Ne Nat g 46 := PP.ne_lst (vs := []) gg
    have y5 : @Ne Nat g fa' := ne_obj gg nfa fun e => by
      have : ([] : List Value) = ls.map .ref := by
        have := congrArg Obj.data e
        injection this with h1 _
        simpa using h1
      have := congrArg List.length this
      simp only [List.length_nil, List.length_map] at this; omega
    have pF : ∀ p ∈ pl0, p.1 ≠ s.heap.objs.size + 1 := fun p hp e => hpb0 p hp (by rw [e]; simp)
    have pL : ∀ p ∈ pl0, p.1 ≠ s.heap.objs.size + 2 := fun p hp e => hpb0 p hp (by rw [e]; simp)
    have pP : ∀ p ∈ pl0, p.1 ≠ s.heap.objs.size + 3 := fun p hp e => hpb0 p hp (by rw [e]; simp)
    have N2 : News (hideAll s.heap [46]) s.heap.objs.size h₂ ((s.heap.objs.size + 1, oF') :: (s.heap.objs.size + 2, oL) :: (s.heap.objs.size + 3, oP) :: (46, ot) :: (fa', lst (ls.map .ref) n) :: (g, lst [] ng) :: pl0) :=
      News.ins nF nF1 nF2 (News.ins nL nL1 nL2 (News.ins nP nP1 nP2 (News.ins n46 n461 n462 (News.ins nfa nfa1 nfa2 (News.ins gg gg1 gg2 Npl0)))))
    have hrecL := ns_ob F₁.ns
    have F₁ := Fr.over F₁ [(Str.ofString "top", .ref tl), (Str.ofString "word", .str (wd t.word) tw)] ⟨q1, q2, trivial⟩
    have Nown : ∀ p ∈ own, p ∈ pl0 := fun p hp => by
      have hx := N₁ p (List.mem_append_left _ hp)
      have hw := hown p hp
      refine hpm0 _ _ ?_ hx.2.2 hx.1
      simp only [List.mem_cons, List.mem_nil_iff, or_false, not_or]
      exact ⟨hx.2.1, fun e => hoff _ q7 (e ▸ hw), fun e => hoff _ q8 (e ▸ hw), fun e => hoff _ q9 (e ▸ hw), fun e => hoff _ q11 (e ▸ hw), fun e => hoff _ hgl (e ▸ hw)⟩
    have mm1 : ∀ p ∈ news₁, p.1 ≠ s.heap.objs.size ∧ (hideAll s.heap [46]).get? p.1 = none ∧ h₂.get? p.1 = some p.2 := fun p hp => ⟨(N₁ p (List.mem_append_right _ hp)).2.1, (N₁ p (List.mem_append_right _ hp)).2.2, (N₁ p (List.mem_append_right _ hp)).1⟩
    have mmO : ∀ p ∈ own, p.1 ≠ s.heap.objs.size ∧ (hideAll s.heap [46]).get? p.1 = none ∧ h₂.get? p.1 = some p.2 := fun p hp => ⟨(N₁ p (List.mem_append_left _ hp)).2.1, (N₁ p (List.mem_append_left _ hp)).2.2, (N₁ p (List.mem_append_left _ hp)).1⟩
    clear F6 N6 Npl hpb hpm hpk P6 N₁ Npl0 inp
    iterate 8 walk1
    rename_i hz1 oL2 dL2 h3 F3 N3
    refine execs_cut_at 1 (GrownM0 s tl t tw c u pp h₂) ?_ ?_
    · simp only [List.take_succ_cons, List.take_zero]
      k_steps
      rename Fr _ _ _ _ => F4
      rename News _ _ _ _ => N4
      have hfsz : (ls.map Value.ref).toArray.size = 2 * t.size + 1 := by simp [hlen]
      refine len_list (News.isList (items := (ls.map Value.ref).toArray) N4 (show (fa', lst (ls.map .ref) n) ∈ _ by k_mem)) (by omega) ?_
      rw [hfsz]
      k_steps
      rename_i hz2 oP2 F5 N5 dP2
      have hfm : nv.fmod ((2 * t.size + 1 : Nat) : Int) = (pp : Int) := by rw [Int.fmod_eq_emod_of_nonneg _ (by omega)]; exact hpp
      rw [hfm] at dP2
      refine .intro ⟨_, _, oL2, oP2, _, _, rfl, F5, ⟨rfl, rfl, trivial⟩, (N5 (s.heap.objs.size + 2, oL2) (by k_mem)).1, dL2, (N5 (s.heap.objs.size + 3, oP2) (by k_mem)).1, dP2,
        hk_but [s.heap.objs.size] (c := [s.heap.objs.size + 2, s.heap.objs.size + 3]) nF (nget N5 (a := s.heap.objs.size + 1) (o := oF') (by k_mem)) (hk_but [s.heap.objs.size, s.heap.objs.size + 1, s.heap.objs.size + 2, s.heap.objs.size + 3] (c := []) n46 (nget N5 (a := 46) (o := ot) (by k_mem))
          (hk_but [s.heap.objs.size, s.heap.objs.size + 1, s.heap.objs.size + 2, s.heap.objs.size + 3, 46] (c := []) gg (nget N5 (a := g) (o := lst [] ng) (by k_mem)) (hpk0 _ F5.keep fun p hp => (N5 p (by simp [hp])).1)))⟩
    clear F3 N3
    rintro s' ⟨hA, tkA, oL', oP', tp, mA, rfl, FA, ⟨mA1, mA2, -⟩, eLA, dLA, ePA, dPA, kA⟩
    obtain ⟨oLL, esL, nnL, eLL, dLL⟩ := hrecL
    have LA : ∀ {a}, hA.get? a = none → a ≠ s.heap.objs.size := fun n => frame_ne FA n
    have PA : ParTab hA := PP.rest [s.heap.objs.size, s.heap.objs.size + 2, s.heap.objs.size + 3] (all_cons (plain_of eLL (plain_dict dLL)) (all_cons (plain_of nL (plain_cell q8d)) (all_one (plain_of nP (plain_cell q9d))))) kA
    have up : ∀ {a o}, a ≠ s.heap.objs.size → a ≠ s.heap.objs.size + 2 → a ≠ s.heap.objs.size + 3 → h₂.get? a = some o → hA.get? a = some o := fun a1 a2 a3 e => kA _ _ (nm_cons a1 (nm_cons a2 (nm_cons a3 nm_nil))) e
    have faL : fa' ≠ s.heap.objs.size := nfa1
    have eFA : hA.get? (s.heap.objs.size + 1) = some oF' := up nF1 (off_ne _) (off_ne _) nF
    have efA : hA.get? fa' = some (lst (ls.map .ref) n) := up nfa1 x2 x3 nfa
    have egA : hA.get? g = some (lst [] ng) := up gg1 y2 y3 gg
    refine execs_cut_at 1 (GrownM1 w s mA hA g c) ?_ ?_
    · refine grown_limbs (w := w) (s := { s with heap := hA, toks := tkA }) (hB := hideAll s.heap [46]) (L := s.heap.objs.size) (fa := fa') (g := g) (ls := ls) (n := n) (ng := ng) (pp := pp) T X C hB46 (by omega) L46' PA FA eFA q7d eLA dLA ePA dPA efA egA hg (by omega) gg1 gg2 ?_
      intro h' tk' D ep vs gs k a1 a2 a3 a4 a5 a6 a7 a8 a9 a10 a11
      exact .intro ⟨h', tk', D, ep, vs, gs, k, rfl, a1, a2, a3, a4, a5, a6, a7, a8, a9, a10, a11⟩
    rintro s' ⟨hC, tkC, D, ep, vs, gs, k, rfl, FC, eDC, DB, DA, v3, g3, gnd, lim, egC, PC, kC⟩
    rw [List.drop_drop]
    have upC : ∀ {a o}, a ≠ s.heap.objs.size → a ≠ g → a ≠ 46 → hA.get? a = some o → hC.get? a = some o := fun a1 a2 a3 e => kC _ _ a1 a2 a3 e
    have eFC : hC.get? (s.heap.objs.size + 1) = some oF' := upC nF1 (Ne.symm y1) (by show @Ne Nat _ _; omega) eFA
    have eLC : hC.get? (s.heap.objs.size + 2) = some oL' := upC nL1 (Ne.symm y2) (by show @Ne Nat _ _; omega) eLA
    have ePC : hC.get? (s.heap.objs.size + 3) = some oP' := upC nP1 (Ne.symm y3) (by show @Ne Nat _ _; omega) ePA
    have efC : hC.get? fa' = some (lst (ls.map .ref) n) := upC nfa1 (Ne.symm y5) x4 efA
    refine execs_cut_at 1 (GrownM2 s mA D ls gs pp hC) ?_ ?_
    · refine grown_free (w := w) (s := { s with heap := hC, toks := tkC }) (hB := hideAll s.heap [46]) (L := s.heap.objs.size) (fa := fa') (D := D) (ls := ls) (gs := gs) (vs := vs) (n := n) (nD := ep) (pp := pp) T X (by omega) FC eFC q7d ePC dPA nF2 nP2 efC eDC (by rfl) (by omega) (by omega) nfa2 DB v3 g3 (fun q v gq hv hq => ?_) ?_
      · obtain ⟨el, d, tk', n', o', kk', e', h1, -⟩ := lim q v gq hv hq
        exact ⟨el, n', _, _, e', h1⟩
      · intro h' tk' f' kf oF9 a1 a2 a3 a4 a5 a6 a7
        exact .intro ⟨h', tk', f', kf, oF9, rfl, a1, a2, a3, a4, a5, a6, a7⟩
    rintro s' ⟨hE, tkE, f', kf, oF9, rfl, FE, eFE, dFE, efE, fB, fC, kE⟩
    rw [List.drop_drop]
    have eLE : hE.get? (s.heap.objs.size + 2) = some oL' := kE _ _ nL1 (by omega) eLC
    have ePE : hE.get? (s.heap.objs.size + 3) = some oP' := kE _ _ nP1 (by omega) ePC
    have hwl := t.word_length
    refine grown_word (w := w) (s := { s with heap := hE, toks := tkE }) (hB := hideAll s.heap [46]) (L := s.heap.objs.size) (l := t.word) (c := c) (pp := pp) T X (by omega) FE eLE dLA ePE dPA nL2 nP2 mA2 (by omega) (by omega) ?_
    intro hG tkG tw' FG kG
    have nn1 : ∀ p ∈ news₁, h₂.get? p.1 = some p.2 ∧ p.1 ≠ s.heap.objs.size ∧ (hideAll s.heap [46]).get? p.1 = none := fun p hp => ⟨(mm1 p hp).2.2, (mm1 p hp).1, (mm1 p hp).2.1⟩
    have nnO : ∀ p ∈ own, h₂.get? p.1 = some p.2 ∧ p.1 ≠ s.heap.objs.size ∧ (hideAll s.heap [46]).get? p.1 = none := fun p hp => ⟨(mmO p hp).2.2, (mmO p hp).1, (mmO p hp).2.1⟩
    have wrn : ∀ b ∈ ([I + 4, I + 2, I + 3, I, I + 1] : List Addr), b ≠ s.heap.objs.size := all_cons (ne_up 4 hLI) (all_cons (ne_up 2 hLI) (all_cons (ne_up 3 hLI) (all_cons (ne_up 0 hLI) (all_one (ne_up 1 hLI)))))
    have wF := fun (b : Addr) (hb : b ∈ ([I + 4, I + 2, I + 3, I, I + 1] : List Addr)) (e : b = s.heap.objs.size + 1) => hoff _ q7 (e ▸ hb)
    have wL := fun (b : Addr) (hb : b ∈ ([I + 4, I + 2, I + 3, I, I + 1] : List Addr)) (e : b = s.heap.objs.size + 2) => hoff _ q8 (e ▸ hb)
    have wP := fun (b : Addr) (hb : b ∈ ([I + 4, I + 2, I + 3, I, I + 1] : List Addr)) (e : b = s.heap.objs.size + 3) => hoff _ q9 (e ▸ hb)
    have w46 := fun (b : Addr) (hb : b ∈ ([I + 4, I + 2, I + 3, I, I + 1] : List Addr)) (e : b = 46) => hoff _ q11 (e ▸ hb)
    have wg := fun (b : Addr) (hb : b ∈ ([I + 4, I + 2, I + 3, I, I + 1] : List Addr)) (e : b = g) => hoff _ hgl (e ▸ hb)
    have kG' : ∀ {a o}, a ≠ s.heap.objs.size → hE.get? a = some o → hG.get? a = some o := fun a1 e => kG _ _ a1 e
    have keepG : ∀ {a o}, a ≠ s.heap.objs.size → a ≠ s.heap.objs.size + 1 → a ≠ s.heap.objs.size + 2 → a ≠ s.heap.objs.size + 3 → a ≠ 46 → a ≠ g → h₂.get? a = some o → hG.get? a = some o := fun a1 a2 a3 a4 a5 a6 e =>
      kG' a1 (kE _ _ a1 a2 (upC a1 a6 a5 (up a1 a3 a4 e)))
    have PE : ParTab hE := PC.rest [s.heap.objs.size, s.heap.objs.size + 1] (all_cons (ns_plain FC.ns) (all_one (plain_of eFC (plain_cell q7d)))) fun b o hb e => kE _ _ (nm_hd hb) (nm_hd (nm_tl hb)) e
    have PG : ParTab hG := PE.rest [s.heap.objs.size] (all_one (ns_plain FE.ns)) fun b o hb e => kG' (nm_hd hb) e
    obtain ⟨plG, NplG, hpbG, hpmG, hpkG⟩ := rest_mem FG [s.heap.objs.size, I + 4, I + 2, I + 3, I, I + 1] (by exact .head _)
    have inG : ∀ {a o}, a ≠ s.heap.objs.size → a ∉ ([I + 4, I + 2, I + 3, I, I + 1] : List Addr) → (hideAll s.heap [46]).get? a = none → hG.get? a = some o → (a, o) ∈ plG := fun a1 a2 a3 e => hpmG _ _ (fun hm => (List.mem_cons.mp hm).elim a1 a2) a3 e
    have old : ∀ {a o}, (a, o) ∈ news₁ → a ≠ s.heap.objs.size + 1 → a ≠ s.heap.objs.size + 2 → a ≠ s.heap.objs.size + 3 → a ≠ 46 → a ≠ g → (a, o) ∈ plG := fun {a o} hm a2 a3 a4 a5 a6 =>
      inG (nn1 _ hm).2.1 (hoff _ hm) (nn1 _ hm).2.2 (keepG (nn1 _ hm).2.1 a2 a3 a4 a5 a6 (nn1 _ hm).1)
    have nk : NodesKept news₁ plG g := by
      refine ⟨fun b vs' n' hm hne => ?_, fun b o es n' hd' hm => ?_, fun vs' n' hm => ?_⟩
      · have e := (nn1 _ hm).1
        exact old hm (ne_obj e nF (lst_ne_cell (vs := vs') (n := n') q7d)) (ne_obj e nL (lst_ne_cell (vs := vs') (n := n') q8d)) (ne_obj e nP (lst_ne_cell (vs := vs') (n := n') q9d)) (PP.ne_lst e) hne
      · have e := (nn1 _ hm).1
        dsimp only at e
        refine old hm (ne_obj e nF fun q => by rw [q, q7d] at hd'; cases hd') (ne_obj e nL fun q => by rw [q, q8d] at hd'; cases hd') (ne_obj e nP fun q => by rw [q, q9d] at hd'; cases hd') ?_ (ne_obj e gg fun q => by rw [q] at hd'; cases hd')
        rintro rfl
        rcases PP with p | ⟨c1, c2, c3, p, -, -⟩
        · rw [e] at p; cases p; cases hd'
        · rw [e] at p; cases p; cases hd'
      · have e := (nn1 _ hm).1
        rw [gg] at e
        have := congrArg Obj.data (Option.some.inj e)
        injection this with h1 _
        have := congrArg Array.size h1
        simpa using this.symm
    have frA : ∀ {a}, hA.get? a = none → a ∉ ([I + 4, I + 2, I + 3, I, I + 1] : List Addr) := fun n hm => by
      obtain ⟨o, e, -⟩ := hwrx _ hm
      rw [up (wrn _ hm) (wL _ hm) (wP _ hm) e] at n; cases n
    have fF : ∀ {a}, hA.get? a = none → a ≠ s.heap.objs.size + 1 := fun n => ne_new eFA n
    have newIn : ∀ {a o}, hA.get? a = none → hC.get? a = some o → (a, o) ∈ plG := fun n e => inG (LA n) (frA n) (none_of FA n) (kG' (LA n) (kE _ _ (LA n) (fF n) e))
    have toL : ∀ {v : Value} {q : Nat} {gq : Addr}, LimbNew w.params hA hC v q c gq → LimbO w.params plG v q c gq ∧ ∃ k, (gq, lst [] k) ∈ plG := fun ⟨el, d, tk', n', o', kk', e', h1, h2, h3, h4, h5', h6, h7⟩ =>
      ⟨⟨el, d, tk', n', o', e', newIn h5' h1, newIn h6 h2, h3⟩, kk', newIn h7 h4⟩
    obtain ⟨v0, v1, v2, rfl⟩ := three_of v3
    obtain ⟨g0, g1, g2, rfl⟩ := three_of g3
    have hgs : ∀ x ∈ [g0, g1, g2], hA.get? x = none := all_cons (lim 0 v0 _ rfl rfl).new (all_cons (lim 1 v1 _ rfl rfl).new (all_one (lim 2 v2 _ rfl rfl).new))
    obtain ⟨l0, k0, e0⟩ := toL (lim 0 v0 g0 rfl rfl)
    obtain ⟨l1, k1, e1⟩ := toL (lim 1 v1 g1 rfl rfl)
    obtain ⟨l2, k2, e2⟩ := toL (lim 2 v2 g2 rfl rfl)
    have egG : (g, lst [v0, v1, v2] k) ∈ plG := inG gg1 (hoff _ hgl) gg2 (kG' gg1 (kE _ _ gg1 y1 egC))
    have tree := TreeN.ins nk q5 egG l0 l1 l2 e0 e1 e2 pp q6 hg
    have hnd : (ls.take pp ++ ([g0, g1, g2] ++ ls.drop (pp + 1))).Nodup := by
      have hdis : ∀ x ∈ ls, x ∉ [g0, g1, g2] := fun x hx hm => by
        obtain ⟨nx, hxl⟩ := q5.leafIn hx
        have e := (nn1 _ hxl).1
        have := hgs x hm
        rw [up (nn1 _ hxl).2.1 (ne_obj e nL (lst_ne_cell (vs := []) (n := nx) q8d)) (ne_obj e nP (lst_ne_cell (vs := []) (n := nx) q9d)) e] at this
        cases this
      have hsub : (ls.take pp ++ ls.drop (pp + 1)).Sublist ls := by
        have := List.take_append_drop pp ls
        conv => rhs; rw [← this]
        exact List.Sublist.append_left (by rw [← List.drop_drop]; exact List.drop_sublist 1 _) _
      have h1 := q6.sublist hsub
      rw [List.nodup_append] at h1 ⊢
      refine ⟨h1.1, ?_, fun a ha b hb => ?_⟩
      · rw [List.nodup_append]
        exact ⟨gnd, h1.2.1, fun a ha b hb e => hdis b ((List.drop_sublist _ _).subset hb) (e ▸ ha)⟩
      · rcases List.mem_append.mp hb with hb | hb
        · exact fun e => hdis a ((List.take_sublist _ _).subset ha) (e ▸ hb)
        · exact h1.2.2 a ha b hb
    have hlz : (lets.zip (ns.map (·.1)))[i]? = some (c, nv) := by
      rw [List.getElem?_zip_eq_some]
      refine ⟨?_, by rw [List.getElem?_map, hnv]; rfl⟩
      rw [lets_is, Array.getElem?_toList]; exact hc
    obtain ⟨otG, hotG⟩ := PG.some
    show LoopStepU _ _ _ _ _ _ _ _
    refine ⟨rfl, hG, tkG, _, plG, rfl, FG, fun q hq => ?_, fun q hq hm => hpbG q hq (List.mem_cons_of_mem _ hm), Gap.ins c pp t, ls.take pp ++ ([g0, g1, g2] ++ ls.drop (pp + 1)), f', tw', kf, oF9, oL', oP', _, _, otG, ?_, ?_, ?_, ?_, tree, hnd, ?_, dFE, ?_, dLA, ?_, dPA, ?_, ?_, fun h' st' hp' => ?_⟩
    · rcases List.mem_append.mp hq with hq | hq
      · have o := nnO q hq
        have hw := hown q hq
        exact ⟨keepG o.2.1 (wF _ hw) (wL _ hw) (wP _ hw) (w46 _ hw) (wg _ hw) o.1, o.2⟩
      · exact NplG q hq
    · exact mA1
    · rw [Gap.ins_word c t pp hppl]; rfl
    · rw [Gap.ins_size, q3]
    · have : grownT (lets.zip (ns.map (·.1))) (i + 1) = Gap.ins c (nv % ((2 * (grownT (lets.zip (ns.map (·.1))) i).size + 1 : Nat) : Int)).toNat (grownT (lets.zip (ns.map (·.1))) i) := by
        conv => lhs; unfold grownT
        rw [hlz]
      rw [this, ← q4, hpp]; rfl
    · exact inG nF1 (hoff _ q7) nF2 (kG' nF1 eFE)
    · exact inG nL1 (hoff _ q8) nL2 (kG' nL1 eLE)
    · exact inG nP1 (hoff _ q9) nP2 (kG' nP1 ePE)
    · have fA : hA.get? f' = none := by
        cases e : hA.get? f' with
        | none => rfl
        | some o =>
          by_cases b1 : f' = s.heap.objs.size
          · obtain ⟨o', es, ep', e', dd⟩ := ns_ob FC.ns
            rw [b1, e'] at fC; cases fC
          by_cases b2 : f' = g
          · rw [b2, egC] at fC; cases fC
          by_cases b3 : f' = 46
          · obtain ⟨o', e'⟩ := PC.some
            rw [b3, e'] at fC; cases fC
          rw [upC b1 b2 b3 e] at fC; cases fC
      exact inG (LA fA) (frA fA) fB (kG' (LA fA) efE)
    · exact inG n461 (hoff _ q11) hB46 hotG
    · refine PG.rest (s.heap.objs.size :: [I + 4, I + 2, I + 3, I, I + 1]) (all_cons (ns_plain FG.ns) fun b hb ob e => ?_) (hpkG h' st' hp')
      obtain ⟨o, e', po⟩ := hwrx _ hb
      exact plain_of (keepG (wrn _ hb) (wF _ hb) (wL _ hb) (wP _ hb) (w46 _ hb) (wg _ hb) e') po ob e
  · rintro hZ tkZ mZ newsZ FZ NZ hJZ
    have hmin : min (Str.ofString "&BYby").cps.size (ns.map fun p => Value.int p.1 p.2).length = 5 := by
      rw [List.length_map, hn5]; decide +kernel
    rw [hmin] at hJZ
    obtain ⟨t, ls, fa', tw, n, oF', oL, oP, vL, vP, ot, q1, q2, q3, q4, q5, q6, q7, q7d, q8, q8d, q9, q9d, q10, q11, q12⟩ := hJZ
    have PZ : ParTab hZ := q12 hZ FZ.keep fun p hp => (NZ p hp).1
    obtain ⟨plZ, NplZ, hpbZ, hpmZ, hpkZ⟩ := rest_mem FZ [s.heap.objs.size] (by exact .head _)
    have nnZ : ∀ p ∈ newsZ, p.1 ≠ s.heap.objs.size ∧ (hideAll s.heap [46]).get? p.1 = none ∧ hZ.get? p.1 = some p.2 := fun p hp => ⟨(NZ p hp).2.1, (NZ p hp).2.2, (NZ p hp).1⟩
    have FZ := Fr.over FZ [(Str.ofString "top", .ref tl), (Str.ofString "word", .str (wd t.word) tw)] ⟨q1, q2, trivial⟩
    have pLZ := ns_plain FZ.ns
    clear NZ F6 N6 Npl
    k_steps
    rename_i DR hR FR NR lR
    have eR := NR _ (.head _)
    have keepZ : ∀ {a o}, a ≠ s.heap.objs.size → hZ.get? a = some o → hR.get? a = some o := fun a1 e => hpkZ hR FR.keep (fun p hp => (NR p (by simp [hp])).1) _ _ (by simpa using a1) e
    have PR : ParTab hR := PZ.rest [s.heap.objs.size] (all_one pLZ) fun b o hb e => keepZ (nm_hd hb) e
    have sR : s.heap.get? DR = none := by
      cases e : s.heap.get? DR with
      | none => rfl
      | some o =>
        by_cases b1 : DR = 46
        · obtain ⟨o', e'⟩ := PR.some
          have := eR.1
          rcases PR with p | ⟨c1, c2, c3, p, -, -⟩
          · dsimp only at this; rw [b1, p] at this; cases this
          · dsimp only at this; rw [b1, p] at this; cases this
        · have := eR.2.2
          dsimp only at this
          rw [hideAll_get [46] e (by simpa using b1)] at this; cases this
    rw [← q4] at hret
    refine hret DR hR _ tl tw FR.keep PR (fun p hp => by rw [List.mem_singleton.mp hp]; exact ⟨eR.1, sR⟩) fun as has => q5.tree fun b o hm hk => ?_
    have hb := nnZ _ hm
    refine hideAll_get _ (keepZ hb.1 hb.2.2) fun hin => ?_
    obtain ⟨ob, e⟩ := has _ hin
    by_cases b1 : b = 46
    · subst b1
      have e2 := hb.2.2
      dsimp only at e2
      rcases hk with ⟨vs, n, rfl⟩ | ⟨es, n, hd'⟩
      · exact PZ.ne_lst e2 rfl
      · rcases PZ with p | ⟨c1, c2, c3, p, -, -⟩
        · rw [e2] at p; cases p; cases hd'
        · rw [e2] at p; cases p; cases hd'
    · have e2 := hb.2.1
      dsimp only at e2
      rw [hideAll_get [46] e (by simpa using b1)] at e2; cases e2
end Mine
end
section
open PySem PySem.W PyProof.Rows PySem.Spec PySem.Calls
namespace Mine
variable {w : World} {mg mb : Str → Option Value} {mean : ExcName → Option Value} {dp un : Nat} {fr : Option (List Env)} {gd : Option (List Code)} {s : Shared} {Q E : Value → Shared → Prop}
noncomputable abbrev lawEnv (L fa : Addr) (cd : Value) : Env := envOfC (Str.ofString "law") (fnScope 20) L fa cd
theorem elt_num {ys : List Value} {a : Int} {tk : Tok} (hJ : ∃ ks : List (Int × Tok), ys = ks.map (fun p => Value.int p.1 p.2) ∧ ∀ p ∈ ks, 0 ≤ p.1 ∧ p.1 < 1000000) :
    ∃ ks : List (Int × Tok), ys ++ [Value.int (a.fmod 1000000) tk] = ks.map (fun p => Value.int p.1 p.2) ∧ ∀ p ∈ ks, 0 ≤ p.1 ∧ p.1 < 1000000 := by
  obtain ⟨ks, rfl, h⟩ := hJ
  have e : a.fmod 1000000 = a % 1000000 := Int.fmod_eq_emod_of_nonneg _ (by omega)
  generalize a.fmod 1000000 = v at e
  refine ⟨ks ++ [(v, tk)], by rw [List.map_append]; rfl, fun p hp => ?_⟩
  rcases List.mem_append.mp hp with hp | hp
  · exact h p hp
  · rw [List.mem_singleton.mp hp]
    show 0 ≤ v ∧ v < 1000000
    omega
theorem sum_any {prog : Program} {A : Around} {l : Addr} {items : Array Value} {ns : List Int} {Q : Value → Shared → Prop} (hh : A.handled = none) (hl : s.heap.IsList l items) (hi : IntsAre items.toList ns)
    (h : ∀ h' tk t', (∀ b o, s.heap.get? b = some o → h'.get? b = some o) → Q (.int ns.sum t') { s with heap := h', toks := tk }) :
    wpAny (model prog w) A (call (.builtin "sum") [.ref l]) Q E s := by
  obtain ⟨vs, rfl⟩ : ∃ vs : List Value, items = vs.toArray := ⟨items.toList, by simp⟩
  have hi : IntsAre vs ns := hi
  obtain ⟨xs, hx⟩ := hi.allInts.items
  have hn : numsOf vs.toArray.toList = ns := by rw [show vs.toArray.toList = vs from rfl, hi.numsOf]
  rw [hx] at hl hn
  rw [nums_intItems] at hn
  refine sum_intListG hh hl fun h' tk t' hk => ?_
  rw [preSum_eq, List.take_of_length_le (by simp), hn]
  exact h h' tk t' hk
set_option maxRecDepth 100000 in
set_option maxHeartbeats 1000000 in
theorem law_numbers {R : Flow → Shared → Prop} {hB : Heap} {L fl sl : Addr} {cd : Value} {m : Str → Option Value} {vs : List Value} {ns : List Int} {oS : Obj}
  (T : Top topProg LOOSE mean mg mb hB) (X : (Mine.hd.heap_39 w.params).In hB) (hd : dp + 5 < recursionLimit)
  (F : Fr hB L s.heap m) (eS : s.heap.get? (L + 1) = some oS) (dS : oS.data = .cell (some (.ref sl))) (bS : hB.get? (L + 1) = none) (hs : hB.IsList sl vs.toArray) (hi : IntsAre vs ns) (hn : ns.length ≤ 63)
  (hret : ∀ (h' : Heap) (tk' : Nat) (D : Addr) (ep : Nat) (ks : List (Int × Tok)), Fr hB L h' (fun z => if z = Str.ofString "numbers" then some (.ref D) else m z) → h'.get? D = some (lst (ks.map fun p => Value.int p.1 p.2) ep) → hB.get? D = none → s.heap.get? D = none → ks.length = 6 → (∀ p ∈ ks, 0 ≤ p.1 ∧ p.1 < 1000000) →
    (∀ b o, b ≠ L → s.heap.get? b = some o → h'.get? b = some o) → R .next { s with heap := h', toks := tk' }) :
  wpAny (model PySem.Challenge.rw_wr0012_01.row.prog w) ((Ar dp un fr gd).deeper (lawEnv L fl cd)) (execs ((fnBody 20).take 1) (lawEnv L fl cd)) R (fun _ _ => False) s := by
  revert X; k_fill; intro X
  conv in List.take _ _ => whnf
  have L1 : @Ne Nat (L + 1) L := Nat.ne_of_gt (Nat.lt_succ_self _)
  obtain ⟨pl0, Npl0, hpb0, hpm0, hpk0⟩ := rest_mem F [L] (by exact .head _)
  have N : News hB L s.heap ((L + 1, oS) :: pl0) := News.ins eS L1 bS Npl0
  clear Npl0
  w_on
  iterate 1 walk1
  refine comp_assignT (cl := ?cl) (m₀ := m) rfl (by rfl) (by rfl) rfl (by decide) (by decide) (by decide) (by decide) (by rfl) (by rfl) ?_
  k_steps
  rename_i TU h1 F1 N1 l1
  have tU := N1 (TU, _) (.head _)
  refine call_enum_tup (items := #[.int 1 _, .int 4 _, .int 2 _, .int 3 _, .int 3 _, .int 83 _]) ⟨_, tU.1, rfl, _, rfl⟩ fun h2 he hit hsz hk => ?_
  dsimp only at he hit hsz hk
  have hTU : TU < h1.objs.size := Heap.lt_size tU.1
  have cS : CellIn h1 (L + 1) (.ref sl) := ⟨⟨oS, (N1 (L + 1, oS) (by k_mem)).1, dS⟩⟩
  have T1 := T.keeps F1.keep
  have X1 := X.keeps F1.keep
  have sl1 := isList_keeps hs F1.keep
  have k1 : ∀ b o, b ≠ L → s.heap.get? b = some o → h1.get? b = some o := fun b o b1 e => hpk0 h1 F1.keep (fun p hp => (N1 p (by simp [hp])).1) b o (by simpa using b1) e
  refine compAtT_enumTup (s := ⟨h2, _, _, _, _⟩) rfl ⟨_, hk _ _ tU.1, rfl, _, rfl⟩ he hit (Nat.succ_ne_self _) (Nat.ne_of_lt (Nat.lt_succ_of_lt hTU)) (Nat.ne_of_lt hTU) h1 hk (by rw [hsz]; exact Nat.le_add_right _ _) (Heap.get?_none_of_le (Nat.le_succ _)) (Heap.get?_none_of_le (Nat.le_refl _))
    (fun i ys news => ∃ ks : List (Int × Tok), ys = ks.map (fun p => Value.int p.1 p.2) ∧ ∀ p ∈ ks, 0 ≤ p.1 ∧ p.1 < 1000000) ⟨[], rfl, by simp⟩ (by simp) ?_ ?_ F1.ns
  · intro C D i ti y m₁ ys ep news₁ own h tk hD hDC hii hy hJ hys ho hnw F N
    clear hret
    obtain ⟨bi, tb, rfl⟩ : ∃ bi tb, y = .int bi tb := by
      clear F N
      have hm := Array.mem_toList_iff.mpr (Array.mem_of_getElem? hy)
      revert y hm
      intro y hy hm
      exact (all_cons (P := fun y => ∃ bi tb, y = Value.int bi tb) ⟨_, _, rfl⟩ (all_cons ⟨_, _, rfl⟩ (all_cons ⟨_, _, rfl⟩ (all_cons ⟨_, _, rfl⟩ (all_cons ⟨_, _, rfl⟩ (all_one ⟨_, _, rfl⟩)))))) y hm
    clear hy
    k_steps
    rename_i h7 F7 N7
    refine sum_any rfl (News.isList N7 (.head _)) (hi.pick _ _ _) fun h8 tk8 t8 k8 => ?_
    have F8 := F7.keeps k8
    have N8 := News.stays N7 k8
    clear F7 N7
    k_steps
    exact ⟨_, _, _, news₁, rfl, F8, News.tail N8, hnw, elt_num hJ⟩
  · intro D h9 tk9 ys ep news' st9 hN9 hD hys ⟨ks, hks, hkb⟩ h10 tk10 ns10 sb10
    have LnD : D ≠ L := by
      obtain ⟨o, es, ep', e, d⟩ := ns_ob F1.ns
      exact ne_new (hk _ _ e) hD
    have D1 : h1.get? D = none := (hN9 _ (.head _)).2
    have n0 : s.heap.get? D = none := by
      cases e : s.heap.get? D with
      | none => rfl
      | some o => rw [k1 _ _ LnD e] at D1; cases D1
    have F9 := Fr.stays F1 st9
    have F10 := F9.set ns10 sb10
    show wpAny _ _ (execs [] (lawEnv L fl cd)) _ _ _
    refine wpAny_execs_nil ?_
    refine hret h10 _ D ep ks F10 ?_ (none_of F1 D1) n0 (by rw [hks] at hys; simpa using hys) hkb fun b o b1 e => (sb10.2 _ b1).trans (st9 _ _ (k1 _ _ b1 e))
    rw [← hks]
    exact (sb10.2 _ LnD).trans (hN9 _ (.head _)).1
end Mine
end
section
open PySem PySem.W PyProof.Rows PySem.Spec PySem.Calls
namespace Mine
variable {w : World} {mg mb : Str → Option Value} {mean : ExcName → Option Value} {dp un : Nat} {fr : Option (List Env)} {gd : Option (List Code)} {s : Shared} {Q E : Value → Shared → Prop}
local macro_rules | `(tactic| k_all) => `(tactic| assumption)
set_option maxRecDepth 100000 in
set_option maxHeartbeats 1000000 in
theorem law_grow {R : Flow → Shared → Prop} {hB : Heap} {L fl D : Addr} {cd : Value} {m : Str → Option Value} {ks : List (Int × Tok)} {ep : Nat} {oW : Obj} {vW : Option Value}
  (T : Top topProg LOOSE mean mg mb hB) (X : (Mine.hd.heap_39 w.params).In hB) (C : CodeHd hB 50 46) (hB46 : hB.get? 46 = none) (hd : dp + 15 < recursionLimit) (L46 : @LT.lt Nat _ 46 L)
  (F : Fr hB L s.heap m) (P : ParTab s.heap) (eW : s.heap.get? (L + 2) = some oW) (dW : oW.data = .cell vW) (bW : hB.get? (L + 2) = none)
  (eD : s.heap.get? D = some (lst (ks.map fun p => Value.int p.1 p.2) ep)) (bD : hB.get? D = none) (hm : m (Str.ofString "numbers") = some (.ref D)) (h6 : ks.length = 6)
  (hret : ∀ (h' : Heap) (tk' : Nat) (tl : Addr) (tw : Tok) (oW' : Obj) (t : Gap), t = grownT (lets.zip (0 :: (ks.map (·.1)).take 4)) 5 → Fr hB L h' (fun z => if z = Str.ofString "top" then some (.ref tl) else m z) → h'.get? (L + 2) = some oW' → oW'.data = .cell (some (.str (wd t.word) tw)) → 
    ParTab h' → TreeH w.params (hideAll h' [46]) tl t → (∀ b o, b ≠ L → b ≠ L + 2 → b ≠ 46 → s.heap.get? b = some o → h'.get? b = some o) → R .next { s with heap := h', toks := tk' }) :
  wpAny (model PySem.Challenge.rw_wr0012_01.row.prog w) ((Ar dp un fr gd).deeper (lawEnv L fl cd)) (execs (((fnBody 20).drop 1).take 1) (lawEnv L fl cd)) R (fun _ _ => False) s := by
  revert X; k_fill; intro X
  conv in List.take _ _ => whnf
  have F := Fr.over F [(Str.ofString "numbers", .ref D)] ⟨hm, trivial⟩
  have L2 : @Ne Nat (L + 2) L := Nat.ne_of_gt (Nat.lt_add_of_pos_right (by decide))
  have z2 : @Ne Nat (L + 2) 46 := by omega
  have DL : D ≠ L := by
    obtain ⟨o, es, ep', e, d⟩ := ns_ob F.ns
    exact ne_obj eD e (fun q => by rw [← q] at d; cases d)
  have D2 : @Ne Nat D (L + 2) := ne_obj eD eW (lst_ne_cell (vs := ks.map fun p => Value.int p.1 p.2) (n := ep) dW)
  have D46 : @Ne Nat D 46 := P.ne_lst eD
  obtain ⟨ot, hot⟩ := P.some
  obtain ⟨oL0, es0, ep0, eL0, dL0⟩ := ns_ob F.ns
  obtain ⟨pl0, Npl0, hpb0, hpm0, hpk0⟩ := rest_mem F [L, L + 2, 46] (by exact .head _)
  have pW : ∀ p ∈ pl0, p.1 ≠ L + 2 := fun p hp e => hpb0 p hp (by rw [e]; simp)
  have N : News hB L s.heap ((L + 2, oW) :: (46, ot) :: (D, lst (ks.map fun p => Value.int p.1 p.2) ep) :: pl0) := News.ins eW L2 bW (News.ins hot (Nat.ne_of_lt L46) hB46 (News.ins eD DL bD Npl0))
  clear Npl0
  w_on
  k_steps
  rename_i l0 h1 F1 N1 ll h2 F2 N2
  have hs4 : slicePick (ks.map fun p => Value.int p.1 p.2).toArray none (some (4 : Int)) none = ((ks.take 4).map fun p => Value.int p.1 p.2).toArray := by
    have := slicePick_upto (ks.map fun p => Value.int p.1 p.2).toArray 4 (by simp; omega)
    refine this.trans ?_
    simp
  rw [hs4] at N2
  refine add_lists (vs := [.int 0 _]) (ws := (ks.take 4).map fun p => Value.int p.1 p.2) F2 N2 (News.isList N2 (.tail _ (.head _))) (News.isList N2 (.head _)) ?_ (by rw [sizeLine_eq]; simp; omega)
  intro h3 F3 N3
  have e3L := (N3 (L + 2, oW) (by k_mem)).1
  have e346 := (N3 (46, ot) (by k_mem)).1
  have nl3 := N3 _ (.head _)
  have exL : ∃ o, h3.get? L = some o := by
    obtain ⟨o, _, _, e, _⟩ := ns_ob F3.ns
    exact ⟨o, e⟩
  have k3 : ∀ b o, b ≠ L → b ≠ L + 2 → b ≠ 46 → s.heap.get? b = some o → h3.get? b = some o := fun b o b1 b2 b3 e => hpk0 h3 F3.keep (fun p hp => (N3 p (by simp [hp])).1) b o (by simp only [List.mem_cons, List.mem_nil_iff, or_false, not_or]; exact ⟨b1, b2, b3⟩) e
  have P3 : ParTab h3 := P.rest [L] (fun c hc ob e => by
    rw [List.mem_singleton.mp hc] at e
    have : some ob = some oL0 := e.symm.trans eL0
    cases this; exact plain_dict dL0) fun b o hb e => by
      by_cases b3 : b = 46
      · subst b3; rw [hot] at e; cases e; exact e346
      by_cases b2 : b = L + 2
      · subst b2; rw [eW] at e; cases e; exact e3L
      exact k3 b o (by simpa using hb) b2 b3 e
  have pl3 : ∀ p ∈ pl0, h3.get? p.1 = some p.2 ∧ p.1 ≠ L ∧ hB.get? p.1 = none := fun p hp => N3 p (by simp [hp])
  k_steps
  have LB46 : (L : Addr) ≠ 46 := Nat.ne_of_gt L46
  refine grown_spec (ns := (0, _) :: ks.take 4) T X (by exact F3.keep) hB46 C P3 (by first | exact lim 6 hd | exact limT 6 hd | (show dp + 1 + 5 < _; omega)) ⟨_, hideAll_get [46] nl3.1 (fun hm => ?_), rfl, 0, rfl⟩ (by simp; omega) ?_
  · have := nl3.1
    dsimp only at this
    rw [List.mem_singleton.mp hm, e346] at this
    cases this
    rcases P3 with p | ⟨c1, c2, c3, p, -, -⟩
    · rw [e346] at p; cases p
    · rw [e346] at p; cases p
  intro r h4 tk4 tl tw st4 P4 M4 tr4
  have F4 := Fr.holed F3 hB46 LB46 st4
  have mr := M4 _ (.head _)
  dsimp only at mr
  have e4L := holed_get st4 e3L z2
  obtain ⟨ot4, hot4⟩ := P4.some
  have rL2 : @Ne Nat r (L + 2) := ne_new e3L mr.2
  have r46 : @Ne Nat r 46 := ne_new e346 mr.2
  obtain ⟨pl4, Npl4, hpb4, hpm4, hpk4⟩ := rest_mem F4 [L, L + 2, 46] (by exact .head _)
  obtain ⟨oL4, es4, ep4, eL4, dL4⟩ := ns_ob F4.ns
  have pW4 : ∀ p ∈ pl4, p.1 ≠ L + 2 := fun p hp e => hpb4 p hp (by rw [e]; simp)
  have N4 := News.ins mr.1 (frame_ne F3 mr.2) (none_of F3 mr.2) (News.ins e4L L2 bW (News.ins hot4 (Ne.symm LB46) hB46 Npl4))
  clear F1 N1 F2 N2 F3 N3 Npl4
  k_steps
  rename_i h5a h5b h5 oW' F5 N5 d5
  rw [over_eq [(Str.ofString "numbers", .ref D)] ⟨hm, trivial⟩] at F5
  have e545 := (N5 (46, ot4) (by k_mem)).1
  have e5W := (N5 (L + 2, oW') (by k_mem)).1
  have k5 : ∀ b o, b ≠ L → b ≠ L + 2 → h4.get? b = some o → h5.get? b = some o := fun b o b1 b2 e =>
    hk_but [L, L + 2] (c := []) hot4 e545 (hpk4 h5 F5.keep fun p hp => (N5 p (by simp [hp])).1) b o (nm_cons b1 (nm_cons b2 nm_nil)) e
  have P5 : ParTab h5 := P4.rest [L, L + 2] (all_cons (plain_of eL4 (plain_dict dL4)) (all_one (plain_of e4L (plain_cell dW)))) fun b o hb e => k5 b o (nm_hd hb) (nm_hd (nm_tl hb)) e
  show wpAny _ _ (execs [] (lawEnv L fl cd)) _ _ _
  refine wpAny_execs_nil ?_
  have et : grownT (lets.zip (List.map (fun x => x.1) ((0, s.toks) :: ks.take 4))) 5 = grownT (lets.zip (0 :: (ks.map (·.1)).take 4)) 5 := by
    rw [List.map_cons, List.map_take]
  have tr := tr4 [L, L + 2, 46] (all_cons exL (all_cons ⟨_, e3L⟩ (all_one ⟨_, e346⟩)))
  refine hret h5 _ tl tw oW' _ et F5 e5W d5 P5 (tr.keeps (hide_mono fun b o hb e => ?_)) fun b o b1 b2 b3 e => k5 b o b1 b2 (holed_get st4 (k3 b o b1 b2 b3 e) b3)
  exact ⟨nm_tl (nm_tl hb), k5 b o (nm_hd hb) (nm_hd (nm_tl hb)) e⟩
end Mine
end
section
open PySem PySem.W PyProof.Rows
namespace Mine
variable {w : World} {mg mb : Str → Option Value} {mean : ExcName → Option Value} {dp un : Nat} {fr : Option (List Env)} {gd : Option (List Code)} {s : Shared} {Q E : Value → Shared → Prop}
noncomputable def WordAt (w : World) (mg mb : Str → Option Value) (mean : ExcName → Option Value) (g : Addr) (t : Gap) : Prop :=
  ∀ (dp un : Nat) (fr : Option (List Env)) (gd : Option (List Code)) (s : Shared) (Q E : Value → Shared → Prop), Top topProg LOOSE mean mg mb s.heap → (Mine.hd.heap_39 w.params).In s.heap → dp + t.high < recursionLimit → t.size ≤ 40 →
  TreeH w.params s.heap g t → (∀ h' tk' u, s.heap.StaysIn h' → Q (.str (wd t.word) u) { s with heap := h', toks := tk' }) →
  wpAny (model PySem.Challenge.rw_wr0012_01.row.prog w) (Ar dp un fr gd) (call (.ref 70) [.ref g]) Q E s
set_option maxRecDepth 100000 in
set_option maxHeartbeats 4000000 in
theorem word_leaf (T : Top topProg LOOSE mean mg mb s.heap) (X : (Mine.hd.heap_39 w.params).In s.heap) (hd : dp < recursionLimit) {g : Addr}
  (hg : s.heap.IsList g #[])
  (hret : ∀ h' tk' u, s.heap.StaysIn h' → Q (.str (wd []) u) { s with heap := h', toks := tk' }) :
  wpAny (model PySem.Challenge.rw_wr0012_01.row.prog w) (Ar dp un fr gd) (call (.ref 70) [.ref g]) Q E s := by
  revert X; k_fill; intro X
  have hf : s.heap.get? 70 = ((Mine.hd.heap_39 w.params).lookup 70) := X 70 _ rfl
  refine wpAny_call (call_plain_ret (binds := [(Str.ofString "gap", .ref g)]) hd hf rfl T.nolimit (codeRec_of X (by rfl)) (by rfl) (locs (by rfl)) (fun h₁ F => ?_))
  have N : News s.heap s.heap.objs.size h₁ [] := News.nil
  w_on
  k_steps
  exact hret _ _ _ F.keep
set_option maxRecDepth 100000 in
set_option maxHeartbeats 4000000 in
theorem word_fork (T : Top topProg LOOSE mean mg mb s.heap) (X : (Mine.hd.heap_39 w.params).In s.heap) (t : Gap) {g l₀ l₁ l₂ d₀ d₁ d₂ g₀ g₁ g₂ : Addr} {c : Nat} {t₀ t₁ t₂ : Tok}
  {a b e : Gap} (hd : dp + (Gap.fork c a b e).high < recursionLimit) (hsz : (Gap.fork c a b e).size ≤ 40)
  (hg : s.heap.IsList g #[.ref l₀, .ref l₁, .ref l₂]) (h0 :
      s.heap.IsList l₀ #[.str (chr c) t₀, .ref d₀, .ref g₀]) (h1 : s.heap.IsList l₁ #[.str (chr c) t₁, .ref d₁, .ref g₁]) (h2 : s.heap.IsList l₂ #[.str (chr c) t₂, .ref d₂, .ref g₂])
  (x0 : TreeH w.params s.heap g₀ a) (x1 : TreeH w.params s.heap g₁ b) (x2 : TreeH w.params s.heap g₂ e)
  (i0 : WordAt w mg mb mean g₀ a) (i1 : WordAt w mg mb mean g₁ b) (i2 : WordAt w mg mb mean g₂ e)
  (hret : ∀ h' tk' u, s.heap.StaysIn h' → Q (.str (wd (Gap.fork c a b e).word) u) { s with heap := h', toks := tk' }) :
  wpAny (model PySem.Challenge.rw_wr0012_01.row.prog w) (Ar dp un fr gd) (call (.ref 70) [.ref g]) Q E s := by
  revert X; k_fill; intro X
  have hf : s.heap.get? 70 = ((Mine.hd.heap_39 w.params).lookup 70) := X 70 _ rfl
  have hd0 := hd
  have hsz0 := hsz
  simp only [Gap.high, Gap.size] at hd hsz
  have la := wd_length a.word
  have lb := wd_length b.word
  have le := wd_length e.word
  rw [Gap.word_length] at la lb le
  have lc : (chr c).length = 1 := rfl
  refine wpAny_call (call_plain_ret (binds := [(Str.ofString "gap", .ref g)]) (Nat.lt_of_le_of_lt (Nat.le_add_right _ _) hd0) hf rfl T.nolimit (codeRec_of X (by rfl)) (by rfl) (locs (by rfl)) (fun h₁ F => ?_))
  have N : News s.heap s.heap.objs.size h₁ [] := News.nil
  w_on
  k_steps
  refine i0 _ _ _ _ _ _ _ (T.keeps F.keep) (X.keeps F.keep) (by exact hi_lt (t := .fork c a b e) (.head _) hd0) (sz_le (t := .fork c a b e) (.head _) hsz0) (x0.keeps F.keep) fun h2' tk2 u2 st2 => ?_
  have F2 := Fr.stays F st2
  have N2 := News.stays N st2
  clear F N st2
  k_steps
  refine i1 _ _ _ _ _ _ _ (T.keeps F2.keep) (X.keeps F2.keep) (by exact hi_lt (t := .fork c a b e) (.tail _ (.head _)) hd0) (sz_le (t := .fork c a b e) (.tail _ (.head _)) hsz0) (x1.keeps F2.keep) fun h3 tk3 u3 st3 => ?_
  have F3 := Fr.stays F2 st3
  have N3 := News.stays N2 st3
  clear F2 N2 st3
  k_steps
  refine i2 _ _ _ _ _ _ _ (T.keeps F3.keep) (X.keeps F3.keep) (by exact hi_lt (t := .fork c a b e) (.tail _ (.tail _ (.head _))) hd0) (sz_le (t := .fork c a b e) (.tail _ (.tail _ (.head _))) hsz0) (x2.keeps F3.keep) fun h4 tk4 u4 st4 => ?_
  have F4 := Fr.stays F3 st4
  have N4 := News.stays N3 st4
  clear F3 N3 st4
  k_steps
  rw [show wd a.word ++ chr c ++ wd b.word ++ chr c ++ wd e.word = wd (Gap.fork c a b e).word from by simp only [chr_wd, wd_append, Gap.word]; simp]
  exact hret _ _ _ F4.keep
theorem word_spec (t : Gap) : ∀ g, WordAt w mg mb mean g t := by
  induction t with
  | leaf =>
    intro g dp un fr gd s Q E T X hd _ x hret
    cases x with
    | leaf hg => exact word_leaf T X (by simpa [Gap.high] using hd) hg hret
  | fork c a b e ia ib ie =>
    intro g dp un fr gd s Q E T X hd hsz x hret
    cases x with
    | fork hg h0 h1 h2 _ _ _ x0 x1 x2 => exact word_fork T X .leaf hd hsz hg h0 h1 h2 x0 x1 x2 (ia _) (ib _) (ie _) hret
end Mine
end
section
open PySem PySem.W PyProof.Rows PySem.Spec
namespace Mine
variable {w : World} {mg mb : Str → Option Value} {mean : ExcName → Option Value} {dp un : Nat} {fr : Option (List Env)} {gd : Option (List Code)} {s : Shared} {Q E : Value → Shared → Prop}
noncomputable def swapAt (l : List Nat) (i j k : Nat) : Nat := if k = i then l.getD j 0 else if k = j then l.getD i 0 else l.getD k 0
noncomputable def swapped (l : List Nat) (i j : Nat) : List Nat := (List.range l.length).map (swapAt l i j)
theorem item_wd {l : List Nat} {k : Nat} (hk : k < l.length) : Txt.item (wd l) k = chr (l.getD k 0) := by
  have e : seqIndex? (k : Int) (wd l).length = some k := by
    rw [wd_length]
    have h1 : ¬ ((k : Int) < 0) := by omega
    have h2 : (0 : Int) ≤ k := by omega
    have h3 : (k : Int) < (l.length : Int) := by omega
    simp [seqIndex?, h1, h2, h3]
  unfold Txt.item Txt.charAt
  rw [e]
  simp
theorem join_chr' : ∀ l : List Nat, Str.join (Str.ofString "") (l.map chr) = wd l
  | [] => rfl
  | [a] => rfl
  | a :: b :: r => by
    have ih := join_chr' (b :: r)
    show chr a ++ Str.ofString "" ++ Str.join (Str.ofString "") ((b :: r).map chr) = _
    rw [ih, chr_wd]
    have : wd [a] ++ Str.ofString "" = wd [a] := rfl
    rw [this, wd_append]; rfl
theorem join_chr (l : List Nat) : Txt.join (Str.ofString "") (l.map chr) = wd l := (StrLaws.glued_eq_join _ _).trans (join_chr' l)
theorem sum_chr : ∀ l : List Nat, (((l.map chr).map (·.length)).sum) = l.length
  | [] => rfl
  | a :: r => by have := sum_chr r; simp [Str.length] at this ⊢; omega
theorem swapped_length (l : List Nat) (i j : Nat) : (swapped l i j).length = l.length := by simp [swapped]
set_option maxRecDepth 100000 in
set_option maxHeartbeats 400000 in
theorem changed_spec (T : Top topProg LOOSE mean mg mb s.heap) (X : (Mine.hd.heap_39 w.params).In s.heap) (x : List Nat) (tx t1 t2: Tok) (i j : Nat)  
  (hd : dp < recursionLimit) (hx : x.length ≤ 100) (hi' : i < x.length) (hj' : j < x.length) 
  (hret : ∀ t' h' tk', s.heap.StaysIn h' → Q (.str (wd (swapped x i j)) t') { s with heap := h', toks := tk' }) :
  wpAny (model PySem.Challenge.rw_wr0012_01.row.prog w) (Ar dp un fr gd) (call (.ref 97) [.str (wd x) tx, .int i t1, .int j t2]) Q E s := by
  revert X; k_fill; intro X
  have hf : s.heap.get? 97 = ((Mine.hd.heap_39 w.params).lookup 97) := X 97 _ rfl
  refine wpAny_call (call_cellsN_ret (binds := [(Str.ofString "word", .str (wd x) tx), (Str.ofString "one", .int i t1), (Str.ofString "two", .int j t2)]) (by first | exact lim 0 hd | exact limT 0 hd | (show dp < _; omega)) hf rfl T.nolimit (codeRec_of X (by rfl)) (by rfl) (kindsX (by rfl) _) (by decide +kernel) (fun h₁ tk cells F N Y => ?_))
  obtain ⟨o1, o2, o3, rfl, d1, d2, d3⟩ := cells3 Y
  w_on
  iterate 7 walk1
  refine comp_expr (cl := ?cl) (by rfl) rfl (by decide) (by decide) (by decide) ?_
  have hxw := wd_length x
  have hx2 : (wd x).length ≤ 100 := by omega
  k_steps
  rename_i h4 tk4 tr1 tr2 tr3 R4 F4 N4 st4
  have c1 := CellIn.mk ⟨o1, (N4 _ (.head _)).1, d1⟩
  have c2 := CellIn.mk ⟨o2, (N4 _ (.tail _ (.head _))).1, d2⟩
  have c3 := CellIn.mk ⟨o3, (N4 _ (.tail _ (.tail _ (.head _)))).1, d3⟩
  dsimp only at c1 c2 c3
  refine compAt_range (news := []) rfl (hxw ▸ R4) h4 (fun _ _ e => e) (Nat.le_refl _) (fun k ys news => StrsAre ys (((List.range k).map (swapAt x i j)).map chr)) (fun p hp => by cases hp) .nil (by omega) ?_ ?_
  · intro It C D k ti m₁ ys ep news₁ own h tk hIt hItD hDC hk hJ hys ho hnw hIo F N
    clear hret
    have fin : ∀ t v, v = swapAt x i j k → StrsAre (ys ++ [.str (chr v) t]) (((List.range (k + 1)).map (swapAt x i j)).map chr) := fun t v e => by
      rw [List.range_succ, List.map_append, List.map_append]
      exact hJ.append' (e ▸ .cons _ _ .nil)
    k_steps
    · rw [item_wd hj']
      exact ⟨h, _, _, news₁, rfl, F, N, hnw, fin _ _ (by rw [swapAt, if_pos (by omega)])⟩
    · rw [item_wd hi']
      exact ⟨h, _, _, news₁, rfl, F, N, hnw, fin _ _ (by rw [swapAt, if_neg (by omega), if_pos (by omega)])⟩
    · rw [item_wd hk]
      exact ⟨h, _, _, news₁, rfl, F, N, hnw, fin _ _ (by rw [swapAt, if_neg (by omega), if_neg (by omega)])⟩
  · intro D h5 tk5 ys ep news' st5 hN5 hD hys hJ
    have F5 := Fr.stays F4 st5
    have N5 := News.stays N4 st5
    have N6 := News.app N5 (News.made F4 hN5)
    have hJ : StrsAre ys ((swapped x i j).map chr) := hJ
    walk1
    refine join_listC (News.isList N6 (List.mem_append_right _ (.head _))) (by simpa using hJ) (by decide) (by rw [sum_chr, List.length_map, swapped_length]; omega) fun t' k' => ?_
    rw [join_chr]
    k_steps
    exact hret _ _ _ F5.keep
end Mine
end
section
open PySem PySem.W PyProof.Rows PySem.Spec PySem.Calls
namespace Mine
variable {w : World} {mg mb : Str → Option Value} {mean : ExcName → Option Value} {dp un : Nat} {fr : Option (List Env)} {gd : Option (List Code)} {s : Shared} {Q E : Value → Shared → Prop}
local macro_rules | `(tactic| k_all) => `(tactic| assumption)
noncomputable def ords : List (List Nat) := [[0, 1, 2], [0, 2, 1], [1, 0, 2], [1, 2, 0], [2, 0, 1], [2, 1, 0]]
noncomputable def ordOf (q i : Nat) : Nat := (ords.getD q []).getD i 0
noncomputable def OrdersAt (h : Heap) (to : Addr) : Prop := ∃ items : Array Value, IsTup h to items ∧ items.size = 6 ∧ ∀ q, q < 6 → ∃ o, items[q]? = some (.ref o) ∧ OrderAt h o (ordOf q)
theorem orders_of {h : Heap} {to o0 o1 o2 o3 o4 o5 : Addr} (h0 : IsTup h to #[.ref o0, .ref o1, .ref o2, .ref o3, .ref o4, .ref o5]) (a0 : OrderAt h o0 (ordOf 0)) (a1 : OrderAt h o1 (ordOf 1)) (a2 : OrderAt h o2 (ordOf 2)) (a3 : OrderAt h o3 (ordOf 3)) (a4 : OrderAt h o4 (ordOf 4)) (a5 : OrderAt h o5 (ordOf 5)) : OrdersAt h to := by
  refine ⟨_, h0, rfl, fun q hq => ?_⟩
  exact lt_c (P := fun q => ∃ o, (#[Value.ref o0, .ref o1, .ref o2, .ref o3, .ref o4, .ref o5] : Array Value)[q]? = some (.ref o) ∧ OrderAt h o (ordOf q)) ⟨_, rfl, a0⟩ (lt_c ⟨_, rfl, a1⟩ (lt_c ⟨_, rfl, a2⟩ (lt_c ⟨_, rfl, a3⟩ (lt_c ⟨_, rfl, a4⟩ (lt_c ⟨_, rfl, a5⟩ lt_z))))) q hq
set_option maxRecDepth 100000 in
set_option maxHeartbeats 1000000 in
theorem law_orders {R : Flow → Shared → Prop} {hB : Heap} {L fl : Addr} {cd : Value} {m : Str → Option Value} {B : List Stmt} (hBB : fnBody 20 = B)
  (X : (Mine.hd.heap_39 w.params).In hB) (hB46 : hB.get? 46 = none) (L46 : @LT.lt Nat _ 46 L) (F : Fr hB L s.heap m) (P : ParTab s.heap) 
  (hret : ∀ (h' : Heap) (tk' : Nat) (to : Addr), Fr hB L h' (fun z => if z = Str.ofString "orders" then some (.ref to) else m z) → ParTab h' → OrdersAt (hideAll h' [46]) to → (∀ b o, b ≠ L → s.heap.get? b = some o → h'.get? b = some o) → R .next { s with heap := h', toks := tk' }) :
  wpAny (model PySem.Challenge.rw_wr0012_01.row.prog w) ((Ar dp un fr gd).deeper (lawEnv L fl cd)) (execs ((B.drop 2).take 1) (lawEnv L fl cd)) R (fun _ _ => False) s := by
  subst hBB
  revert X; k_fill; intro X
  conv in List.take _ _ => whnf
  obtain ⟨ot, hot⟩ := P.some
  obtain ⟨oL0, es0, ep0, eL0, dL0⟩ := ns_ob F.ns
  obtain ⟨pl0, Npl0, hpb0, hpm0, hpk0⟩ := rest_mem F [L, 46] (by exact .head _)
  have N : News hB L s.heap ((46, ot) :: pl0) := News.ins hot (Nat.ne_of_lt L46) hB46 Npl0
  clear Npl0
  w_on
  k_steps
  rename_i o0 h0 l0 o1 h1 l1 o2 h2 l2 o3 h3 l3 o4 h4 l4 o5 h5 l5 to h6 l6 h7 F7 N7
  have k7 : ∀ b o, b ≠ L → s.heap.get? b = some o → h7.get? b = some o := fun b o b1 e => by
    by_cases b3 : b = 46
    · subst b3; rw [hot] at e; cases e; exact (N7 (46, ot) (by k_mem)).1
    · exact hpk0 h7 F7.keep (fun p hp => (N7 p (by simp [hp])).1) b o (by simp only [List.mem_cons, List.mem_nil_iff, or_false, not_or]; exact ⟨b1, b3⟩) e
  have P7 : ParTab h7 := P.rest [L] (fun c hc ob e => by
    rw [List.mem_singleton.mp hc] at e
    have : some ob = some oL0 := e.symm.trans eL0
    cases this; exact plain_dict dL0) fun b o hb e => k7 b o (by simpa using hb) e
  show wpAny _ _ (execs [] (lawEnv L fl cd)) _ _ _
  refine wpAny_execs_nil ?_
  have tup : ∀ {a : Addr} {items : Array Value}, @Ne Nat a 46 → h7.get? a = some { cls := .type "tuple", data := .seq items } → IsTup (hideAll h7 [46]) a items := fun n e => ⟨_, hideAll_get _ e (by simpa using n), rfl, _, rfl⟩
  refine hret h7 _ to F7 P7 (orders_of (tup (by omega) (N7 _ (.head _)).1) ?_ ?_ ?_ ?_ ?_ ?_) k7
  · exact ⟨_, _, _, tup (by omega) (N7 (o0, _) (by k_mem)).1⟩
  · exact ⟨_, _, _, tup (by omega) (N7 (o1, _) (by k_mem)).1⟩
  · exact ⟨_, _, _, tup (by omega) (N7 (o2, _) (by k_mem)).1⟩
  · exact ⟨_, _, _, tup (by omega) (N7 (o3, _) (by k_mem)).1⟩
  · exact ⟨_, _, _, tup (by omega) (N7 (o4, _) (by k_mem)).1⟩
  · exact ⟨_, _, _, tup (by omega) (N7 (o5, _) (by k_mem)).1⟩
theorem ordOf_lt (q : Nat) (hq : q < 6) : ∀ i, ordOf q i < 3 := by
  have h : ∀ q < 6, ∀ i < 3, ordOf q i < 3 := by decide
  intro i
  by_cases hi : i < 3
  · exact h q hq i hi
  · unfold ordOf
    have : (ords.getD q []).length ≤ 3 := by
      have : ∀ q < 6, (ords.getD q []).length ≤ 3 := by decide
      exact this q hq
    rw [List.getD_eq_getElem?_getD, List.getElem?_eq_none (by omega)]; exact Nat.zero_lt_succ _
set_option maxRecDepth 100000 in
set_option maxHeartbeats 1000000 in
theorem law_turn {R : Flow → Shared → Prop} {hB : Heap} {L fl D tl to : Addr} {cd : Value} {m : Str → Option Value} {ks : List (Int × Tok)} {ep : Nat} {t : Gap}
  (T : Top topProg LOOSE mean mg mb hB) (X : (Mine.hd.heap_39 w.params).In hB) (C : CodeHd hB 50 46) (hB46 : hB.get? 46 = none) (hd : dp + t.high + 15 < recursionLimit) (L46 : @LT.lt Nat _ 46 L)
  (F : Fr hB L s.heap m) (P : ParTab s.heap)
  (eD : s.heap.get? D = some (lst (ks.map fun p => Value.int p.1 p.2) ep)) (bD : hB.get? D = none) (hm : m (Str.ofString "numbers") = some (.ref D)) (ht : m (Str.ofString "top") = some (.ref tl)) (hto : m (Str.ofString "orders") = some (.ref to)) (h6 : ks.length = 6)
  (hor : OrdersAt (hideAll s.heap [46]) to) (htr : TreeH w.params (hideAll s.heap [46]) tl t) (hsz : t.size ≤ 40)
  (hret : ∀ (h' : Heap) (tk' : Nat) (tu : Addr) (q : Nat), q < 6 → Fr hB L h' (fun z => if z = Str.ofString "turned" then some (.ref tu) else m z) →
    ParTab h' → TreeH w.params (hideAll h' [46]) tu (t.turn (ordOf q)) → (∀ b o, b ≠ L → b ≠ 46 → s.heap.get? b = some o → h'.get? b = some o) → R .next { s with heap := h', toks := tk' }) :
  wpAny (model PySem.Challenge.rw_wr0012_01.row.prog w) ((Ar dp un fr gd).deeper (lawEnv L fl cd)) (execs (((fnBody 20).drop 3).take 1) (lawEnv L fl cd)) R (fun _ _ => False) s := by
  revert X; k_fill; intro X
  conv in List.take _ _ => whnf
  have F := Fr.over F [(Str.ofString "numbers", .ref D), (Str.ofString "top", .ref tl), (Str.ofString "orders", .ref to)] ⟨hm, ht, hto, trivial⟩
  have DL : D ≠ L := by
    obtain ⟨o, es, ep', e, d⟩ := ns_ob F.ns
    exact ne_obj eD e (fun q => by rw [← q] at d; cases d)
  have N : News hB L s.heap [(D, lst (ks.map fun p => Value.int p.1 p.2) ep)] := News.ins eD DL bD News.nil
  w_on
  iterate 14 walk1
  refine item_nat (k := 4) (items := (ks.map fun p => Value.int p.1 p.2).toArray) ⟨_, eD, rfl, ep, rfl⟩ (by omega) (v := .int (ks.getD 4 (0, 0)).1 (ks.getD 4 (0, 0)).2) ?_ ?_
  · have : 4 < ks.length := by omega
    simp [List.getD_eq_getElem?_getD, List.getElem?_eq_getElem this]
  generalize (ks.getD 4 (0, 0)).1 = v4
  generalize (ks.getD 4 (0, 0)).2 = t4
  iterate 2 walk1
  obtain ⟨q, hq, eq⟩ : ∃ q : Nat, q < 6 ∧ v4.fmod 6 = (q : Int) := by
    have e : v4.fmod 6 = v4 % 6 := Int.fmod_eq_emod_of_nonneg _ (by omega)
    exact ⟨(v4 % 6).toNat, ar_modlt v4 (by decide), by rw [e]; exact ar_mod v4 (by decide)⟩
  rw [eq]
  obtain ⟨items, htup, h6s, hq'⟩ := hor
  obtain ⟨oo, hoo, hord⟩ := hq' q hq
  have htup' : IsTup s.heap to items := by
    obtain ⟨o, e, r⟩ := htup
    exact ⟨o, of_hideAll _ e, r⟩
  refine item_tup htup' (by omega) (by omega) hoo ?_
  iterate 2 walk1
  obtain ⟨ot, hot⟩ := P.some
  obtain ⟨oL0, es0, ep0, eL0, dL0⟩ := ns_ob F.ns
  refine turn_spec (ordOf_lt q hq) t.size t (Nat.le_refl _) _ _ _ _ _ _ _ _ _ hB T X F.keep hB46 C P (by show dp + 1 + t.high + 4 < _; omega) hsz htr hord ?_
  intro r h1 tk1 vsr nr hr hv st1 P1 tr1
  have LB46 : (L : Addr) ≠ 46 := Nat.ne_of_gt L46
  have F1 := Fr.holed F hB46 LB46 st1
  obtain ⟨ot1, hot1⟩ := P1.some
  obtain ⟨pl1, Npl1, hpb1, hpm1, hpk1⟩ := rest_mem F1 [L, 46] (by exact .head _)
  obtain ⟨oL1, es1, ep1, eL1, dL1⟩ := ns_ob F1.ns
  have N1 := News.ins hot1 (Ne.symm LB46) hB46 Npl1
  have exL : ∃ o, s.heap.get? L = some o := ⟨_, eL0⟩
  clear F N Npl1
  k_steps
  rename_i h2 F2 N2
  rw [over_eq [(Str.ofString "numbers", .ref D), (Str.ofString "top", .ref tl), (Str.ofString "orders", .ref to)] ⟨hm, ht, hto, trivial⟩] at F2
  have e246 := (N2 (46, ot1) (by k_mem)).1
  have k2 : ∀ b o, b ≠ L → h1.get? b = some o → h2.get? b = some o := fun b o b1 e => by
    by_cases b3 : b = 46
    · subst b3; rw [hot1] at e; cases e; exact e246
    · exact hpk1 h2 F2.keep (fun p hp => (N2 p (by simp [hp])).1) b o (by simp only [List.mem_cons, List.mem_nil_iff, or_false, not_or]; exact ⟨b1, b3⟩) e
  have P2 : ParTab h2 := P1.rest [L] (fun c hc ob e => by
    rw [List.mem_singleton.mp hc] at e
    have : some ob = some oL1 := e.symm.trans eL1
    cases this; exact plain_dict dL1) fun b o hb e => k2 b o (by simpa using hb) e
  show wpAny _ _ (execs [] (lawEnv L fl cd)) _ _ _
  refine wpAny_execs_nil ?_
  have tr := tr1 [L, 46] (all_cons exL (all_one ⟨_, hot⟩))
  refine hret h2 _ r q hq F2 P2 (tr.keeps (hide_mono fun b o hb e => ?_)) fun b o b1 b3 e => k2 b o b1 (holed_get st1 e b3)
  exact ⟨nm_tl hb, k2 b o (nm_hd hb) e⟩
end Mine
end
section
open PySem PySem.W PyProof.Rows PySem.Spec PySem.Calls
namespace Mine
variable {w : World} {mg mb : Str → Option Value} {mean : ExcName → Option Value} {dp un : Nat} {fr : Option (List Env)} {gd : Option (List Code)} {s : Shared} {Q E : Value → Shared → Prop}
local macro_rules | `(tactic| k_all) => `(tactic| assumption)
noncomputable abbrev But (h : Heap) (as : List Addr) (h' : Heap) : Prop := (hideAll h as).StaysIn h'
theorem But.get {h h' : Heap} {as : List Addr} {b : Addr} {o : Obj} (x : But h as h') (e : h.get? b = some o) (hb : b ∉ as) : h'.get? b = some o := x b o (hideAll_get as e hb)
theorem But.hide {h h' : Heap} {as : List Addr} (x : But h as h') : (hideAll h as).StaysIn (hideAll h' as) := fun b o e => by
  by_cases hb : b ∈ as
  · rw [hideAll_none as hb] at e; cases e
  · exact hideAll_get as (x b o e) hb
theorem But.trans {h h' h'' : Heap} {as : List Addr} (x : But h as h') (y : But h' as h'') : But h as h'' := fun b o e => y b o (x.hide b o e)
theorem But.stays {h h' h'' : Heap} {as : List Addr} (x : But h as h') (y : h'.StaysIn h'') : But h as h'' := fun b o e => y b o (x b o e)
theorem But.refl {h : Heap} {as : List Addr} : But h as h := fun _ _ e => of_hideAll as e
theorem But.wider {h h' : Heap} {as bs : List Addr} (x : But h as h') (k : ∀ a ∈ as, a ∈ bs) : But h bs h' := fun b o e => by
  by_cases hb : b ∈ bs
  · rw [hideAll_none bs hb] at e; cases e
  · exact x.get (of_hideAll bs e) fun hm => hb (k _ hm)
noncomputable def Rso (hB h : Heap) (bad : List Addr) (pl : List (Addr × Obj)) : Prop := ∀ h', hB.StaysIn h' → (∀ p ∈ pl, h'.get? p.1 = some p.2) → But h bad h'
inductive RoStart (hB h : Heap) (L : Addr) (bad : List Addr) : Prop where
  | mk (pl : List (Addr × Obj)) (N : News hB L h pl) (hpb : Off pl bad) (hpk : Rso hB h bad pl)
theorem ro_start {hB h : Heap} {L : Addr} {m : Str → Option Value} (F : Fr hB L h m) (bad : List Addr) (hL : L ∈ bad) :
    RoStart hB h L bad := by
  obtain ⟨pl, N, hpb, -, hk⟩ := rest_mem F bad hL
  refine ⟨pl, N, hpb, fun h' st hp b o e => ?_⟩
  by_cases hb : b ∈ bad
  · rw [hideAll_none bad hb] at e; cases e
  · exact hk h' st hp b o hb (of_hideAll bad e)
theorem ParTab.butL {h h' : Heap} {L : Addr} {m : Str → Option Value} (P : ParTab h) (ns : h.Ns L m) (x : But h [L] h') : ParTab h' := by
  obtain ⟨oL, es, ep, eL, dL⟩ := ns_ob ns
  exact P.rest [L] (fun c hc ob e => by
    rw [List.mem_singleton.mp hc] at e
    have : Option.some ob = Option.some oL := e.symm.trans eL
    cases this; exact plain_dict dL) fun b o hb e => x.get e hb
set_option maxRecDepth 100000 in
set_option maxHeartbeats 1000000 in
theorem law_other {R : Flow → Shared → Prop} {hB : Heap} {L fl tu : Addr} {cd : Value} {m : Str → Option Value} {t : Gap}
  (T : Top topProg LOOSE mean mg mb hB) (X : (Mine.hd.heap_39 w.params).In hB) (hd : dp + t.high + 15 < recursionLimit) 
  (F : Fr hB L s.heap m) (ht : m (Str.ofString "turned") = some (.ref tu)) (htr : TreeH w.params (hideAll s.heap [L]) tu t) (hsz : t.size ≤ 40)
  (hret : ∀ (h' : Heap) (tk' : Nat) (u : Tok), Fr hB L h' (fun z => if z = Str.ofString "other" then some (.str (wd t.word) u) else m z) → But s.heap [L] h' → R .next { s with heap := h', toks := tk' }) :
  wpAny (model PySem.Challenge.rw_wr0012_01.row.prog w) ((Ar dp un fr gd).deeper (lawEnv L fl cd)) (execs (((fnBody 20).drop 4).take 1) (lawEnv L fl cd)) R (fun _ _ => False) s := by
  revert X; k_fill; intro X
  conv in List.take _ _ => whnf
  have F := Fr.over F [(Str.ofString "turned", .ref tu)] ⟨ht, trivial⟩
  obtain ⟨pl0, N, hpb0, hpk0⟩ := ro_start F [L] (.head _)
  w_on
  iterate 8 walk1
  refine ⟨X.keeps F.keep, ?_⟩
  refine word_spec t tu _ _ _ _ _ _ _ (T.keeps F.keep) (X.keeps F.keep) (by show dp + 1 + t.high < _; omega) hsz (htr.keeps But.refl) ?_
  intro h1 tk1 u1 st1
  have F1 := F.keeps st1
  have N1 := News.stays N st1
  clear F N
  k_steps
  rename_i h2 F2 N2
  rw [over_eq [(Str.ofString "turned", .ref tu)] ⟨ht, trivial⟩] at F2
  show wpAny _ _ (execs [] (lawEnv L fl cd)) _ _ _
  refine wpAny_execs_nil ?_
  exact hret h2 _ u1 F2 (hpk0 h2 F2.keep fun p hp => (N2 p (by simp [hp])).1)
set_option maxRecDepth 100000 in
set_option maxHeartbeats 1000000 in
theorem law_onetwo {R : Flow → Shared → Prop} {hB : Heap} {L fl D : Addr} {cd : Value} {m : Str → Option Value} {ks : List (Int × Tok)} {ep : Nat}
  (X : (Mine.hd.heap_39 w.params).In hB)
  (F : Fr hB L s.heap m) (hm : m (Str.ofString "numbers") = some (.ref D)) (eD : s.heap.get? D = some (lst (ks.map fun p => Value.int p.1 p.2) ep)) (h6 : ks.length = 6) (hk : ∀ p ∈ ks, 0 ≤ p.1 ∧ p.1 < 1000000)
  (hret : ∀ (h' : Heap) (tk' : Nat) (one two : Nat) (u1 u2 : Tok), one < 10 → two < 10 → Fr hB L h' (fun z => if z = Str.ofString "one" then some (.int (one : Int) u1) else if z = Str.ofString "two" then some (.int (two : Int) u2) else m z) → But s.heap [L] h' → R .next { s with heap := h', toks := tk' }) :
  wpAny (model PySem.Challenge.rw_wr0012_01.row.prog w) ((Ar dp un fr gd).deeper (lawEnv L fl cd)) (execs (((fnBody 20).drop 5).take 1) (lawEnv L fl cd)) R (fun _ _ => False) s := by
  revert X; k_fill; intro X
  conv in List.take _ _ => whnf
  have F := Fr.over F [(Str.ofString "numbers", .ref D)] ⟨hm, trivial⟩
  obtain ⟨pl0, N, hpb0, hpk0⟩ := ro_start F [L] (.head _)
  have hi : (ks.map fun p => Value.int p.1 p.2).toArray[5]? = some (.int (ks.getD 5 (0, 0)).1 (ks.getD 5 (0, 0)).2) := by
    have : 5 < ks.length := by omega
    simp [List.getD_eq_getElem?_getD, List.getElem?_eq_getElem this]
  have hv0 : 0 ≤ (ks.getD 5 (0, 0)).1 := by
    have : 5 < ks.length := by omega
    rw [List.getD_eq_getElem?_getD, List.getElem?_eq_getElem this]
    exact (hk _ (List.getElem_mem _)).1
  generalize (ks.getD 5 (0, 0)).1 = v5 at hi hv0
  generalize (ks.getD 5 (0, 0)).2 = t5 at hi
  have hD : s.heap.IsList D (ks.map fun p => Value.int p.1 p.2).toArray := ⟨_, eD, rfl, ep, rfl⟩
  w_on
  iterate 8 walk1
  refine item_nat (k := 5) hD (by omega) hi ?_
  iterate 8 walk1
  refine item_nat (k := 5) hD (by omega) hi ?_
  k_steps
  rename_i h2 F2 N2
  have fm : ∀ v : Int, v.fmod 10 = v % 10 := fun v => Int.fmod_eq_emod_of_nonneg _ (by omega)
  obtain ⟨one, h1, e1⟩ : ∃ one : Nat, one < 10 ∧ v5.fmod 10 = (one : Int) := ⟨(v5 % 10).toNat, ar_modlt v5 (by decide), by rw [fm]; exact ar_mod v5 (by decide)⟩
  obtain ⟨two, h2', e2⟩ : ∃ two : Nat, two < 10 ∧ (v5.fdiv 10).fmod 10 = (two : Int) := ⟨(v5.fdiv 10 % 10).toNat, ar_modlt _ (by decide), by rw [fm]; exact ar_mod _ (by decide)⟩
  rw [e1, e2, over_eq [(Str.ofString "numbers", .ref D)] ⟨hm, trivial⟩] at F2
  show wpAny _ _ (execs [] (lawEnv L fl cd)) _ _ _
  refine wpAny_execs_nil ?_
  exact hret h2 _ one two _ _ h1 h2' F2 (hpk0 h2 F2.keep fun p hp => (N2 p (by simp [hp])).1)
set_option maxRecDepth 100000 in
set_option maxHeartbeats 1000000 in
theorem law_spoilt {R : Flow → Shared → Prop} {hB : Heap} {L fl : Addr} {cd : Value} {m : Str → Option Value} {y : List Nat} {one two : Nat} {u1 u2 tw : Tok} {oS oW : Obj} {vS : Option Value}
  (T : Top topProg LOOSE mean mg mb hB) (X : (Mine.hd.heap_39 w.params).In hB) (hd : dp + 15 < recursionLimit) 
  (F : Fr hB L s.heap m) (h1 : m (Str.ofString "one") = some (.int one u1)) (h2 : m (Str.ofString "two") = some (.int two u2)) (b1 : one < y.length) (b2 : two < y.length) (b3 : y.length ≤ 100)
  (eS : s.heap.get? (L + 3) = some oS) (dS : oS.data = .cell vS) (bS : hB.get? (L + 3) = none) (eW : s.heap.get? (L + 2) = some oW) (dW : oW.data = .cell (some (.str (wd y) tw))) (bW : hB.get? (L + 2) = none)
  (hret : ∀ (h' : Heap) (tk' : Nat) (u : Tok) (oS' : Obj), Fr hB L h' m → h'.get? (L + 3) = some oS' → oS'.data = .cell (some (.str (wd (swapped y one two)) u)) → But s.heap [L, L + 3] h' → R .next { s with heap := h', toks := tk' }) :
  wpAny (model PySem.Challenge.rw_wr0012_01.row.prog w) ((Ar dp un fr gd).deeper (lawEnv L fl cd)) (execs (((fnBody 20).drop 6).take 1) (lawEnv L fl cd)) R (fun _ _ => False) s := by
  revert X; k_fill; intro X
  conv in List.take _ _ => whnf
  have F := Fr.over F [(Str.ofString "one", .int one u1), (Str.ofString "two", .int two u2)] ⟨h1, h2, trivial⟩
  have L3 : @Ne Nat (L + 3) L := Nat.ne_of_gt (Nat.lt_add_of_pos_right (by decide))
  obtain ⟨pl0, Npl0, hpb0, hpk0⟩ := ro_start F [L, L + 3] (.head _)
  have pS : ∀ p ∈ pl0, p.1 ≠ L + 3 := fun p hp e => hpb0 p hp (by rw [e]; simp)
  have L2 : @Ne Nat (L + 2) L := Nat.ne_of_gt (Nat.lt_add_of_pos_right (by decide))
  have N : News hB L s.heap ((L + 3, oS) :: (L + 2, oW) :: pl0) := News.ins eS L3 bS (News.ins eW L2 bW Npl0)
  clear Npl0
  w_on
  iterate 12 walk1
  refine ⟨X.keeps F.keep, ?_⟩
  refine changed_spec (T.keeps F.keep) (X.keeps F.keep) y tw u1 u2 one two (by first | exact lim 1 hd | exact limT 1 hd | (show dp + 1 < _; omega)) b3 b1 b2 ?_
  intro t3 h3 tk3 st3
  have F3 := F.keeps st3
  have N3 := News.stays N st3
  clear F N
  k_steps
  rename_i h4 o4 F4 N4 d4
  rw [← over_eq [(Str.ofString "one", .int one u1), (Str.ofString "two", .int two u2)] ⟨h1, h2, trivial⟩] at hret
  show wpAny _ _ (execs [] (lawEnv L fl cd)) _ _ _
  refine wpAny_execs_nil ?_
  exact hret h4 _ t3 o4 F4 (N4 _ (.head _)).1 d4 (hpk0 h4 F4.keep fun p hp => (N4 p (by simp [hp])).1)
end Mine
end
section
open PySem PySem.W PyProof.Rows PySem.Spec PySem.Calls
set_option maxRecDepth 100000
namespace Mine
section
variable {prog : Program} {w : World} {A : Around} {E : Value → Shared → Prop} {s : Shared} {env : Env}
theorem compAt_tup {B : Heap → Prop} {l : Addr} {vs : List Value} {elt : PySem.Expr} {x : Str} {scope : Scope} {cl : List (Str × Addr)} {Q : Value → Shared → Prop} {E : Value → Shared → Prop} (hh : A.handled = none) (hl : s.heap.IsTuple l vs.toArray)
    (hB : Heap) (hst : hB.StaysIn s.heap) (hsz : hB.objs.size ≤ s.heap.objs.size) (news : List (Addr × Obj)) (J : Nat → List Value → List (Addr × Obj) → Prop)
    (hN : ∀ p ∈ news, s.heap.get? p.1 = some p.2 ∧ hB.get? p.1 = none) (hj : J 0 [] news) (hn : vs.length ≤ 1000)
    (helt : ∀ (It C D : Addr) (i : Nat) (v : Value) (m₁ : Str → Option Value) (ys : List Value) (ep : Nat) (news₁ own : List (Addr × Obj)) (h : Heap) (tk : Nat), s.heap.objs.size ≤ It → It < D → D < C → vs[i]? = some v → J i ys news₁ → ys.length = i → (∀ p ∈ own, p.1 ∈ [It, l]) → (∀ p ∈ news₁, p.1 ≠ D ∧ p.1 ∉ [It]) → (∃ o, h.get? It = some o ∧ PlainOb o) →
      Fr hB C h (fun y => if y = x then some v else m₁ y) → News hB C h ((D, lst ys ep) :: (news₁ ++ own)) →
      wpAny (model prog w) A (eval elt (compEnvC scope cl C env)) (EltEnd hB C D [It] ys ep own (J (i + 1)) { s with heap := h, toks := tk }) (fun _ _ => False) { s with heap := h, toks := tk })
    (hdone : ∀ D h' tk ys ep news', hB.StaysIn h' → (∀ p ∈ (D, lst ys ep) :: news', h'.get? p.1 = some p.2 ∧ hB.get? p.1 = none) → s.heap.get? D = none → ys.length = vs.length → J vs.length ys news' → Q (.ref D) { s with heap := h', toks := tk }) (hBB : B hB := by trivial) :
    wpAny (model prog w) A (pyIter (.ref l)) (fun it s₂ => CompAt B prog w A env elt x scope cl Q it s₂) E s := by
  obtain ⟨ol, hol, _⟩ := id hl
  have hlt : l < s.heap.objs.size := Heap.lt_size hol
  have hne : l ≠ s.heap.objs.size := Nat.ne_of_lt hlt
  refine wpAny_pyIter_tuple hl ?_
  have W := Walks.tuple (prog := prog) (w := w) hh s.heap.objs.size l hne vs.toArray
  have hlen : vs.toArray.size = vs.length := by simp
  have up : ∀ b o, s.heap.get? b = some o → ∀ o', (s.heap.push o').get? b = some o := fun b o e o' => Heap.get?_push_of_some _ e
  refine ⟨s.heap.objs.size, [s.heap.objs.size, l], [s.heap.objs.size], vs.toArray.size, _, _, hB, news, J, rfl, W, hBB, fun b o e => up _ _ (hst b o e) _, ?_, ?_, ?_, ⟨⟨_, Heap.get?_push_size _ rfl, rfl, rfl⟩, hl.at fun o e => up _ _ e _⟩, ?_, hj, by simpa using hn, ?_, ?_, ?_⟩
  · exact Nat.le_trans hsz (Nat.le_trans (Nat.le_succ _) (Nat.le_of_eq (Heap.size_push ..).symm))
  · intro b hb
    refine Nat.lt_of_lt_of_le (m := s.heap.objs.size + 1) ?_ (Nat.le_of_eq (Heap.size_push ..).symm)
    revert b hb
    refine all_cons ?_ ?_
    · exact Nat.lt_succ_self _
    · intro b hb
      rw [List.mem_singleton.mp hb]; exact Nat.lt_succ_of_lt hlt
  · intro b hb
    rw [List.mem_singleton.mp hb]
    exact Heap.get?_none_of_le hsz
  · intro p hp
    refine ⟨up _ _ (hN p hp).1 _, (hN p hp).2, fun h => ?_⟩
    exact absurd (Heap.lt_size (hN p hp).1) (by rw [List.mem_singleton.mp h]; exact Nat.lt_irrefl _)
  · rintro i h ⟨⟨o, ho, hc, hd⟩, _⟩ b hb
    rw [List.mem_singleton.mp hb]; exact ⟨o, ho, fun ps e => (by rw [e] at hc; cases hc), fun vs q t e h => (by rw [hd] at e; cases e; cases h)⟩
  · intro C D i v m₁ ys ep news₁ own h tk hD hDC hi hP hJ hys ho hnw hb F N
    have hD' : (s.heap.push { cls := .type "tuple_iterator", data := .fields #[.ref l, .int 0 0] }).objs.size ≤ D := hD
    rw [Heap.size_push] at hD'
    exact helt s.heap.objs.size C D i v m₁ ys ep news₁ own h tk (Nat.le_refl _) hD' hDC (by simpa using hP) hJ hys ho hnw (hb _ (List.mem_singleton.mpr rfl)) F N
  · intro D h' tk ys ep news' hst' hN' hD hys hJ
    refine hdone D h' tk ys ep news' hst' hN' ?_ (by simpa using hys) (by simpa using hJ)
    cases e : s.heap.get? D with
    | none => rfl
    | some o => have := up _ _ e { cls := .type "tuple_iterator", data := .fields #[.ref l, .int 0 0] }; rw [hD] at this; cases this
section
variable {h₀ : Heap} {x : Str} {body : List Stmt} {Q : Flow → Shared → Prop}
theorem turns_tup {target : PySem.Expr} {l : Addr} {vs : List Value} {m₀ : Str → Option Value} {news : List (Addr × Obj)} (J : Nat → (Str → Option Value) → Prop)
    (hh : A.handled = none) (hl : s.heap.IsTuple l vs.toArray) (hlL : l ≠ env.locals)
    (F : Fr h₀ env.locals s.heap m₀) (N : News h₀ env.locals s.heap news) (hj : J 0 m₀)
    (turn : ∀ i v m₁ h tk own, vs[i]? = some v → J i m₁ → Fr h₀ env.locals h m₁ → News h₀ env.locals h (news ++ own) →
      wpAny (model prog w) A (assign target env v) (fun _ s₃ => wpAny (model prog w) A (execs body env) (TurnEnd h₀ env.locals (news ++ own) (J (i + 1)) { s with heap := h, toks := tk } Q) E s₃) E { s with heap := h, toks := tk })
    (done : ∀ m₁ h tk, J vs.length m₁ → Fr h₀ env.locals h m₁ → News h₀ env.locals h news → Q .next { s with heap := h, toks := tk }) :
    wpAny (model prog w) A (pyIter (.ref l)) (fun it s₂ => TurnsAt prog w A h₀ env target body Q E it s₂) E s := by
  obtain ⟨ol, hol, _⟩ := id hl
  have hne : l ≠ s.heap.objs.size := Nat.ne_of_lt (Heap.lt_size hol)
  refine wpAny_pyIter_tuple hl ?_
  refine turns_mk s.heap.objs.size _ _ vs.toArray.size _ _ _ m₀ news (fun i m₁ news₁ => news₁ = news ∧ J i m₁) rfl (KTurns.ofWalks (Walks.tuple hh s.heap.objs.size l hne vs.toArray) (fun i v s Q E st q => letGo_tupleiter st.1 q)) ?_ ?_ ?_
    ⟨⟨_, Heap.get?_push_size _ rfl, rfl, rfl⟩, hl.at fun o e => Heap.get?_push_of_some _ e⟩ (F.push _) (fun p hp => ⟨Heap.get?_push_of_some _ (N p hp).1, (N p hp).2⟩) ⟨rfl, hj⟩ ?_ ?_
  · intro hm
    rcases List.mem_cons.mp hm with e | hm
    · exact absurd F.ns.lt (e ▸ Nat.lt_irrefl _)
    · exact hlL (List.mem_singleton.mp hm).symm
  · intro b hb
    rw [List.mem_singleton.mp hb]
    exact next_is_new F
  · intro p hp hI
    exact absurd (Heap.lt_size (N p hp).1) ((List.mem_singleton.mp hI) ▸ Nat.lt_irrefl _)
  · rintro i v m₁ news₁ h₁ tk₁ own hi hP ⟨rfl, hJ⟩ hoff hown _ _ _ F₁ N₁
    have N₂ : News h₀ env.locals h₁ (news₁ ++ own) := fun p hp => N₁ p (List.mem_append.mpr ((List.mem_append.mp hp).symm))
    refine wpAny_mono (turn i v m₁ h₁ tk₁ own (by simpa using hP) hJ F₁ N₂) (fun _ s₃ q => wpAny_mono q (fun f s₂ p => ?_) fun _ _ e => e) fun _ _ e => e
    have fin : TurnEndN h₀ env.locals (news₁ ++ own) (J (i + 1)) { s with heap := h₁, toks := tk₁ } s₂ →
        LoopStepU h₀ env.locals [s.heap.objs.size] own (fun m₁ news₁' => news₁' = news₁ ∧ J (i + 1) m₁) { s with heap := h₁, toks := tk₁ } .next s₂ := by
      rintro ⟨h', tk, m', e, F', N', hm⟩
      exact ⟨rfl, h', tk, m', news₁, e, F', fun p hp => N' p (List.mem_append.mpr ((List.mem_append.mp hp).symm)), hoff, rfl, hm⟩
    cases f with
    | ret v => exact p
    | brk => exact p
    | next => exact .next (fin p)
    | cont => exact .cont (fin p)
  · rintro h' tk m' news' F' N' _ ⟨rfl, hJ⟩
    exact done m' h' tk (by simpa using hJ) F' N'
end
end
end Mine
end
section
open PySem PySem.W PyProof.Rows PySem.Spec
namespace Mine
variable {w : World} {mg mb : Str → Option Value} {mean : ExcName → Option Value} {dp un : Nat} {fr : Option (List Env)} {gd : Option (List Code)} {s : Shared} {Q E : Value → Shared → Prop}
noncomputable def coll (x y : List Nat) : Int := b2i (decide (y < x)) - b2i (decide (x < y))
set_option maxRecDepth 100000 in
set_option maxHeartbeats 4000000 in
theorem strcoll_spec (x y : Str) (tx ty : Tok)
  (T : Top topProg LOOSE mean mg mb s.heap) (X : (Mine.hd.heap_39 w.params).In s.heap) (hd : dp < recursionLimit)
  (hret : ∀ t h' tk', s.heap.StaysIn h' → Q (.int (coll x.cps.toList y.cps.toList) t) { s with heap := h', toks := tk' }) :
  wpAny (model PySem.Challenge.rw_wr0012_01.row.prog w) (Ar dp un fr gd) (call (.ref 44) [.str x tx, .str y ty]) Q E s := by
  revert X; k_fill; intro X
  have hf : s.heap.get? 44 = ((Mine.hd.heap_39 w.params).lookup 44) := X 44 _ rfl
  refine wpAny_call (call_plain_ret (binds := [(Str.ofString "a", .str x tx), (Str.ofString "b", .str y ty)]) hd hf rfl T.nolimit (codeRec_of X (by rfl)) (by rfl) (locs (by rfl)) (fun h₁ F => ?_))
  have N : News s.heap s.heap.objs.size h₁ [] := News.nil
  w_on
  k_steps
  exact hret _ _ _ F.keep
end Mine
end
section
open PySem PySem.W PyProof.Rows PySem.Spec PySem.Calls
namespace Mine
variable {w : World} {mg mb : Str → Option Value} {mean : ExcName → Option Value} {dp un : Nat} {fr : Option (List Env)} {gd : Option (List Code)} {s : Shared} {Q E : Value → Shared → Prop}
local macro_rules | `(tactic| k_all) => `(tactic| assumption)
theorem lst_reads {h : Heap} {l : Addr} {ys : List Value} {n : Nat} {ns : List Int} (e : h.get? l = some (lst ys n)) (hI : IntsAre ys ns) : Reads h (.ref l) (.list (ns.map .int)) [l] :=
  .list (as := []) e rfl rfl (by simpa using ints_readAll h hI)
set_option maxRecDepth 100000 in
set_option maxHeartbeats 1000000 in
theorem law_spells {B : List Stmt} (hBB : fnBody 20 = B) {R : Flow → Shared → Prop} {hB : Heap} {L fl tl : Addr} {cd : Value} {m : Str → Option Value} {t : Gap} {tw : Tok} {oW : Obj}
  (T : Top topProg LOOSE mean mg mb hB) (X : (Mine.hd.heap_39 w.params).In hB) (hd : dp + t.high + 15 < recursionLimit) (hu : un + 100 < cLine)
  (F : Fr hB L s.heap m) (ht : m (Str.ofString "top") = some (.ref tl)) (htr : TreeH w.params (hideAll s.heap [L]) tl t) (hsz : t.size ≤ 40)
  (eW : s.heap.get? (L + 2) = some oW) (dW : oW.data = .cell (some (.str (wd t.word) tw))) (bW : hB.get? (L + 2) = none) 
  (c1 : coll (Txt.slice (wd t.word) none (some 9)).cps.toList (wd t.word).cps.toList = -1) (c2 : coll (wd t.word).cps.toList (wd t.word).cps.toList = 0) (c3 : coll (Str.ofString "yyy").cps.toList (wd t.word).cps.toList = 1)
  (hret : ∀ (h' : Heap) (tk' : Nat), Fr hB L h' m → But s.heap [L] h' → R .next { s with heap := h', toks := tk' }) :
  wpAny (model PySem.Challenge.rw_wr0012_01.row.prog w) ((Ar dp un fr gd).deeper (lawEnv L fl cd)) (execs ((B.drop 7).take 1) (lawEnv L fl cd)) R (fun _ _ => False) s := by
  subst hBB
  revert X; k_fill; intro X
  conv in List.take _ _ => whnf
  have hlw : (wd t.word).length ≤ 100 := by
    rw [wd_length]; have := Gap.word_length t; omega
  have F := Fr.over F [(Str.ofString "top", .ref tl)] ⟨ht, trivial⟩
  obtain ⟨pl0, Npl0, hpb0, hpk0⟩ := ro_start F [L] (.head _)
  have L2 : @Ne Nat (L + 2) L := Nat.ne_of_gt (Nat.lt_add_of_pos_right (by decide))
  have N : News hB L s.heap ((L + 2, oW) :: pl0) := News.ins eW L2 bW Npl0
  clear Npl0
  w_on
  iterate 11 walk1
  refine word_spec t tl _ _ _ _ _ _ _ (T.keeps F.keep) (X.keeps F.keep) (by show dp + 1 + t.high < _; omega) hsz (htr.keeps But.refl) ?_
  intro h1 tk1 u1 st1
  have F1 := F.keeps st1
  have N1 := News.stays N st1
  clear F N
  clear F
  refine tk_any (s₀ := s) (h := h1) fun tk1' => ?_
  iterate 3 walk1
  rw [if_neg (by simp)]
  iterate 2 walk1
  refine comp_expr (cl := ?cl) (by rfl) rfl (by decide) (by decide) (by decide) ?_
  k_steps
  rename_i h2 t2 k2 a2 D3 h3 F3 N3 l3
  have tU := N3 (D3, _) (.head _)
  have cW : CellIn h3 (L + 2) (.str (wd t.word) tw) := ⟨⟨oW, (N3 (L + 2, oW) (.tail _ (.head _))).1, dW⟩⟩
  have T3 := T.keeps F3.keep
  have X3 := X.keeps F3.keep
  refine compAt_tup (s := ⟨h3, _, _, _, _⟩) rfl (vs := [_, _, _]) ⟨_, tU.1, rfl, _, rfl⟩ h3 (fun _ _ e => e) (Nat.le_refl _) [] (fun i ys news => IntsAre ys ([(-1 : Int), 0, 1].take i)) (by simp) .nil (by simp) ?_ ?_
  · intro It C D i v m₁ ys ep news₁ own h tk hIt hItD hDC hv hJ hys ho hnw hIo F N
    clear hret
    obtain ⟨x, tx, rfl, hx⟩ : ∃ x tx, v = .str x tx ∧ ∀ u, IntsAre (ys ++ [Value.int (coll x.cps.toList (wd t.word).cps.toList) u]) ([(-1 : Int), 0, 1].take (i + 1)) := by
      match i, hv with
      | 0, hv => exact ⟨_, _, (Option.some.inj hv).symm, fun u => by rw [c1]; exact hJ.append (.cons _ _ .nil)⟩
      | 1, hv => exact ⟨_, _, (Option.some.inj hv).symm, fun u => by rw [c2]; exact hJ.append (.cons _ _ .nil)⟩
      | 2, hv => exact ⟨_, _, (Option.some.inj hv).symm, fun u => by rw [c3]; exact hJ.append (.cons _ _ .nil)⟩
    k_steps
    refine strcoll_spec x (wd t.word) tx tw (T3.keeps F.keep) (X3.keeps F.keep) (by first | exact lim 1 hd | exact limT 1 hd | (show dp + 1 < _; omega)) fun u h4 tk4 st4 => ?_
    exact ⟨h4, _, _, news₁, rfl, F.keeps st4, News.stays N st4, hnw, hx u⟩
  · intro D h4 tk4 ys ep news' st4 hN4 hD hys hJ
    have F4 := Fr.stays F3 st4
    have N4 := News.app (News.stays N3 st4) (News.made F3 hN4)
    clear F3 N3
    have hJ : IntsAre ys [(-1 : Int), 0, 1] := hJ
    refine tk_any (s₀ := s) (h := h4) fun tk4' => ?_
    k_steps
    rename_i l5 h5 F5 N5 ll5
    have e1 := (N5 (D, lst ys ep) (.tail _ (List.mem_append_right _ (.head _)))).1
    have e2 := (N5 _ (.head _)).1
    refine SeqAt.compareNe_reads (lst_reads (ns := [-1, 0, 1]) e1 hJ) (lst_reads (ns := [-1, 0, 1]) e2 (.cons _ _ (.cons _ _ (.cons _ _ .nil)))) (by decide) (by decide) (by show un + 3 + _ < _; rw [show (PyData.list (List.map PyData.int [-1, 0, 1])).depth = 1 from by decide]; omega) ?_
    rw [show (!PyData.eqv (PyData.list (List.map PyData.int [-1, 0, 1])) (PyData.list (List.map PyData.int [-1, 0, 1]))) = false from by decide]
    clear e1 e2 hN4 ll5
    have kk : But s.heap [L] h5 := hpk0 h5 F5.keep fun p hp => (N5 p (by simp [hp])).1
    rw [over_eq [(Str.ofString "top", .ref tl)] ⟨ht, trivial⟩] at F5
    refine tk_any (s₀ := s) (h := h5) fun tk5 => ?_
    iterate 5 walk1
    show wpAny _ _ (execs [] (lawEnv L fl cd)) _ _ _
    refine wpAny_execs_nil ?_
    exact hret h5 _ F5 kk
end Mine
end
section
open PySem PySem.W PyProof.Rows PySem.Spec
namespace Mine
open Builtin Builtin.Str
noncomputable def find4 (x y : Str) (i j : Int) : Int := match occurrences x y (fromIndex x.length i) (min (fromIndex x.length j) x.length) 1 with | k :: _ => (k : Int) | [] => -1
theorem gives_find4 (x y : Str) (i j : Int) (t u v v' : Tok) : Gives («str.find» ⟨[.str x t, .str y u, .int i v, .int j v'], []⟩) (.int (find4 x y i j)) := by
  show Gives (match occurrences x y (fromIndex x.length i) (min (fromIndex x.length j) x.length) 1 with | k :: _ => retInt k | [] => (do rule "str.find.not-found"; retInt (-1))) _
  unfold find4
  cases occurrences x y (fromIndex x.length i) (min (fromIndex x.length j) x.length) 1 with
  | nil => exact .rule (.of_eq rfl)
  | cons k _ => exact .of_eq rfl
theorem args_find4 (a b c d : Value) : argsOk "str.find" ⟨[a, b, c, d], []⟩ := by unfold argsOk; kernel_rfl
theorem call_find4 {prog : Program} {w : World} {A : Around} {E : Value → Shared → Prop} {s : Shared} {x y : Str} {t u v v' : Tok} {i j : Int} {Q : Value → Shared → Prop}
    (hq : Q (.int (find4 x y i j) s.toks) { s with toks := s.toks + 1 }) : wpAny (model prog w) A (call (.builtin "str.find") [.str x t, .str y u, .int i v, .int j v']) Q E s :=
  call_gives F.slot_str_find (typeIs_str _ _ _) F.entry_str_find (args_find4 _ _ _ _) (gives_find4 x y i j t u v v') hq
noncomputable def ellLoop (got : Str) (e : Int) : List Str → Int → Bool
  | [], _ => true
  | w :: ws, p => if find4 got w p e < 0 then false else ellLoop got e ws (find4 got w p e + w.length)
variable {w : World} {mg mb : Str → Option Value} {mean : ExcName → Option Value} {dp un : Nat} {fr : Option (List Env)} {gd : Option (List Code)} {s : Shared} {E : Value → Shared → Prop}
noncomputable abbrev ellEnv (L : Addr) : Env := envOf (Str.ofString "_ellipsis_match") (fnScope 4) L 30 (.ref 29)
set_option maxRecDepth 100000 in
set_option maxHeartbeats 4000000 in
theorem ell_R3 {R : Flow → Shared → Prop} {h₀ : Heap} {L a : Addr} {m : Str → Option Value} (y : Str) (ty tp te : Tok) (p e : Int) (l : List (Str × Tok))
  (T : Top topProg LOOSE mean mg mb h₀) (X : (Mine.hd.heap_39 w.params).In h₀) (F : Fr h₀ L s.heap m) (hm1 : m (Str.ofString "got") = some (.str y ty)) (hm2 : m (Str.ofString "ws") = some (.ref a)) (hm3 : m (Str.ofString "startpos") = some (.int p tp)) (hm4 : m (Str.ofString "endpos") = some (.int e te))
  (hl : s.heap.IsList a (strValues l).toArray) (haL : a ≠ L) (hlen : ∀ q ∈ l, q.1.length ≤ 100)
  (hret : ∀ h' tk', h₀.StaysIn h' → R (.ret (.bool (if p > e then false else ellLoop y e (l.map (·.1)) p))) { s with heap := h', toks := tk' }) :
  wpAny (model PySem.Challenge.rw_wr0012_01.row.prog w) (Ar dp un fr gd) (execs ((fnBody 4).drop 8) (ellEnv L)) R (fun _ _ => False) s := by
  revert X; k_fill; intro X
  have F := Fr.over F [(Str.ofString "got", .str y ty), (Str.ofString "ws", .ref a), (Str.ofString "startpos", .int p tp), (Str.ofString "endpos", .int e te)] ⟨hm1, hm2, hm3, hm4, trivial⟩
  have N : News h₀ L s.heap [] := News.nil
  conv in List.drop _ _ => whnf
  w_on
  k_steps
  · rename_i hp
    have := hret s.heap s.toks F.keep
    rw [if_pos (show p > e from hp)] at this
    exact this
  · rename_i hp
    have hret : ∀ b, b = ellLoop y e (l.map (·.1)) p → ∀ h' tk', h₀.StaysIn h' → R (.ret (.bool b)) { s with heap := h', toks := tk' } := fun b hb h' tk' st => by
      have := hret h' tk' st
      rw [if_neg (show ¬ p > e from hp)] at this
      rw [hb]; exact this
    refine For_invV (h₀ := h₀) (by rfl) (by rfl) ?_
    walk1
    refine loop_list (news := []) (fun i m₁ => ∃ p' t', m₁ (Str.ofString "startpos") = some (.int p' t') ∧ m₁ (Str.ofString "got") = some (.str y ty) ∧ m₁ (Str.ofString "endpos") = some (.int e te) ∧
      ellLoop y e ((l.map (·.1)).drop i) p' = ellLoop y e (l.map (·.1)) p) rfl hl haL F N ⟨p, tp, rfl, rfl, rfl, by simp⟩ ?_ ?_
    · rintro i v m₁ h tk own hv ⟨p', t', h1, h2, h3, h4⟩ F₁ N₁
      have hi : i < l.length := by
        have := (List.getElem?_eq_some_iff.mp hv).1
        simpa [strValues] using this
      obtain rfl : v = .str l[i].1 l[i].2 := by
        rw [strValues, List.getElem?_map, List.getElem?_eq_getElem hi] at hv
        exact (Option.some.inj hv).symm
      have hw := hlen l[i] (List.getElem_mem hi)
      rw [List.drop_eq_getElem_cons (by simpa using hi), List.getElem_map] at h4
      rw [show ∀ q qs, ellLoop y e (q :: qs) p' = if find4 y q p' e < 0 then false else ellLoop y e qs (find4 y q p' e + q.length) from fun _ _ => rfl] at h4
      generalize l[i].1 = wi at *
      generalize l[i].2 = ti at *
      have F₂ := Fr.over F₁ [(Str.ofString "got", .str y ty), (Str.ofString "w", .str wi ti), (Str.ofString "startpos", .int p' t'), (Str.ofString "endpos", .int e te)] ⟨h2, rfl, h1, h3, trivial⟩
      clear F₁ hl F N hv
      k_steps
      refine call_find4 ?_
      k_steps
      · rename Fr _ _ _ _ => F'
        rename find4 _ _ _ _ < 0 => hq
        exact hret false (by rw [← h4, if_pos hq]) _ _ F'.keep
      · rename Fr _ _ _ _ => F'
        rename News _ _ _ _ => N'
        rename ¬ (find4 _ _ _ _ < 0) => hq
        rw [if_neg hq] at h4
        exact ⟨_, _, _, rfl, F', N', _, _, rfl, rfl, rfl, h4⟩
    · rintro m₁ h tk ⟨p', t', h1, h2, h3, h4⟩ F₁ N₁
      rw [List.drop_of_length_le (by simp [strValues]), show ellLoop y e [] p' = true from rfl] at h4
      have F₂ := Fr.over F₁ [(Str.ofString "got", .str y ty)] ⟨h2, trivial⟩
      clear F₁ hl F N
      k_steps
      exact hret true h4 _ _ F₂.keep
end Mine
end
section
open PySem PySem.W PyProof.Rows PySem.Spec
namespace Mine
open Builtin Builtin.Str
variable {w : World} {mg mb : Str → Option Value} {mean : ExcName → Option Value} {dp un : Nat} {fr : Option (List Env)} {gd : Option (List Code)} {s : Shared} {E : Value → Shared → Prop}
theorem item_neg {prog : Program} {w : World} {A : Around} {E : Value → Shared → Prop} {s : Shared} {value slice : PySem.Expr} {l : Addr} {items : Array Value} {k : Int} {u : Tok} {v : Value} {Q : Value → Shared → Prop}
    (hl : s.heap.IsList l items) (h0 : k < 0) (hlo : -(2 ^ 63) ≤ k) (hk : -(items.size : Int) ≤ k) (hx : items[(k + items.size).toNat]? = some v) (h : Q v s)
    (hs : subscripted slice false (.ref l) (.int k u) = operate [.ref l, .int k u] (getItem (.ref l) (.int k u)) := by with_unfolding_all rfl) :
    wpAny (model prog w) A (subscriptTail value slice (.ref l) (.int k u)) Q E s :=
  tail_any hl.typeIs slot_list_getitem.lookup (wpAny_getItem_list_neg hl h0 hk hlo hx h) hs
noncomputable def ellR3 (y : Str) (p e : Int) (ws : List Str) : Bool := if p > e then false else ellLoop y e ws p
noncomputable def ellR2 (y : Str) (p : Int) (ws : List Str) (wl : Str) : Bool :=
  if wl.length = 0 then ellR3 y p y.length ws else if Txt.endswith y wl then ellR3 y p (y.length - wl.length) ws.dropLast else false
inductive EllM4 (h₀ : Heap) (L a : Addr) (s : Shared) (y : Str) (ty : Tok) (p : Int) (tp : Tok) (l : List (Str × Tok)) (wl : Str × Tok) (s' : Shared) : Prop where
  | mk (h' : Heap) (tk' : Nat) (m' : Str → Option Value) (te' : Tok) (e' : Int) (l' : List (Str × Tok)) (n' : Nat) (c0 : s' = { s with heap := h', toks := tk' }) (c1 : Fr h₀ L h' m') (c2 : News h₀ L h' [(a, { cls := .type "list", data := .seq (strValues l').toArray n' })])
    (c3 : Says m' [(Str.ofString "got", .str y ty), (Str.ofString "ws", .ref a), (Str.ofString "startpos", .int p tp), (Str.ofString "endpos", .int e' te')]) (c4 : ∀ q ∈ l', q.1.length ≤ 100) (c5 : ellR3 y p e' (l'.map (·.1)) = ellR2 y p (l.map (·.1)) wl.1)
set_option maxRecDepth 100000 in
set_option maxHeartbeats 4000000 in
theorem ell_R2 {R : Flow → Shared → Prop} {h₀ : Heap} {L a : Addr} {m : Str → Option Value} (y : Str) (ty tp te : Tok) (p : Int) (l : List (Str × Tok)) (wl : Str × Tok) (n : Nat)
  (T : Top topProg LOOSE mean mg mb h₀) (X : (Mine.hd.heap_39 w.params).In h₀) (F : Fr h₀ L s.heap m) (hm1 : m (Str.ofString "got") = some (.str y ty)) (hm2 : m (Str.ofString "ws") = some (.ref a)) (hm3 : m (Str.ofString "startpos") = some (.int p tp)) (hm4 : m (Str.ofString "endpos") = some (.int y.length te))
  (N : News h₀ L s.heap [(a, { cls := .type "list", data := .seq (strValues l).toArray n })]) (hw : l.getLast? = some wl) (hsz : l.length ≤ 100) (hy : y.length ≤ 100) (hlen : ∀ q ∈ l, q.1.length ≤ 100)
  (hret : ∀ h' tk', h₀.StaysIn h' → R (.ret (.bool (ellR2 y p (l.map (·.1)) wl.1))) { s with heap := h', toks := tk' }) :
  wpAny (model PySem.Challenge.rw_wr0012_01.row.prog w) (Ar dp un fr gd) (execs ((fnBody 4).drop 6) (ellEnv L)) R (fun _ _ => False) s := by
  revert X; k_fill; intro X
  have F := Fr.over F [(Str.ofString "got", .str y ty), (Str.ofString "ws", .ref a), (Str.ofString "startpos", .int p tp), (Str.ofString "endpos", .int y.length te)] ⟨hm1, hm2, hm3, hm4, trivial⟩
  conv in List.drop _ _ => whnf
  w_on
  iterate 7 walk1
  have hne : l ≠ [] := fun e => by rw [e] at hw; cases hw
  have hpos : 0 < l.length := List.length_pos_iff.mpr hne
  have hS : (strValues l).toArray.size = l.length := by simp [strValues]
  have hlast : (strValues l).toArray[(-1 + ((strValues l).toArray.size : Int)).toNat]? = some (.str wl.1 wl.2) := by
    rw [hS, show (-1 + (l.length : Int)).toNat = l.length - 1 from ar_neg1 hpos]
    rw [List.getLast?_eq_getElem?] at hw
    simp [strValues, hw]
  have hwl : wl.1.length ≤ 100 := hlen _ (List.mem_of_getLast? hw)
  refine item_neg (News.isList N (.head _)) (by decide) (by decide) (by omega) hlast ?_
  walk1
  rename Fr _ _ _ _ => F'
  rename News _ _ _ _ => N'
  skip
  refine execs_cut (EllM4 h₀ L a s y ty p tp l wl) ?_ ?_
  · k_steps
    · rename Fr _ _ _ _ => F2
      rename News _ _ _ _ => N2
      rename Txt.endswith _ _ = true => hes
      rename ¬ ((_ : Int) = 0) => hz
      refine delItem_head F2 N2 (by intro _ h; cases h) (by decide) (k := l.length - 1) (by simp only [hS]; rw [seqIndex_neg (by decide) (by omega)]; exact congrArg some (ar_neg1 hpos)) ?_ (by rw [hS, sizeLine_eq]; omega)
      intro h3 F3 N3
      k_steps
      have hd : (strValues l).toArray.toList.eraseIdx (l.length - 1) = strValues l.dropLast := by
        have := List.eraseIdx_length_sub_one (l := strValues l)
        simpa [strValues] using this
      rw [hd] at N3
      refine .intro ⟨_, _, _, _, _, l.dropLast, _, rfl, F3, N3, ⟨rfl, rfl, rfl, rfl, trivial⟩, fun q hq => hlen q (List.dropLast_subset _ hq), ?_⟩
      unfold ellR2
      rw [if_neg (by omega), if_pos hes, List.map_dropLast]
    · rename Txt.endswith _ _ = false => hes
      rename ¬ ((_ : Int) = 0) => hz
      have := fun tk' => hret _ tk' F'.keep
      unfold ellR2 at this
      rw [if_neg (by omega), hes] at this
      exact this _
    · rename (_ : Int) = 0 => hz
      refine .intro ⟨_, _, _, _, _, l, _, rfl, F', N', ⟨rfl, rfl, rfl, rfl, trivial⟩, hlen, ?_⟩
      unfold ellR2
      rw [if_pos (by omega)]
  · rintro s' ⟨h', tk', m', te', e', l', n', rfl, F2, N2, ⟨q1, q2, q3, q4, -⟩, q5, q6⟩
    refine ell_R3 y ty tp te' p e' l' T X F2 q1 q2 q3 q4 (News.isList N2 (.head _)) (N2 _ (.head _)).2.1 q5 fun h3 tk3 st3 => ?_
    have := hret h3 tk3 st3
    rw [← q6] at this
    exact this
end Mine
end
section
open PySem PySem.W PyProof.Rows PySem.Spec
namespace Mine
open Builtin Builtin.Str
noncomputable def occF (P : Nat → Bool) (w : Nat) : List Nat → Nat → Nat → List Nat
  | [], _, _ => []
  | i :: r, free, lim => if 0 < lim ∧ free ≤ i ∧ P i = true then i :: occF P w r (i + w) (lim - 1) else occF P w r free lim
theorem occ_run (s sub : Str) (hi limit : Nat) : ∀ (l : List Nat) (st : Array Nat × Nat),
    (forIn l st (StrLaws.occBody s sub hi limit)).run.fst.toList = st.fst.toList ++ occF (fun i => decide (i + sub.length ≤ hi) && subAt s sub i) sub.length l st.snd (limit - st.fst.size)
  | [], st => by simp [occF]
  | i :: r, st => by
    rw [List.forIn_cons]
    unfold StrLaws.occBody
    by_cases hc : ((st.fst.size < limit ∧ st.snd ≤ i) ∧ i + sub.length ≤ hi) ∧ subAt s sub i = true
    · rw [if_pos hc]
      have ih := occ_run s sub hi limit r (st.fst.push i, i + sub.length)
      unfold StrLaws.occBody at ih
      refine ih.trans ?_
      rw [occF, if_pos ⟨by omega, hc.1.1.2, by simp [hc.1.2, hc.2]⟩]
      simp only [Array.toList_push, Array.size_push, List.append_assoc, List.singleton_append]
      rw [Nat.sub_sub]
    · rw [if_neg hc]
      have ih := occ_run s sub hi limit r st
      unfold StrLaws.occBody at ih
      refine ih.trans ?_
      rw [occF, if_neg (fun h => hc ?_)]
      obtain ⟨h1, h2, h3⟩ := h
      simp only [Bool.and_eq_true, decide_eq_true_eq] at h3
      exact ⟨⟨⟨by omega, h2⟩, h3.1⟩, h3.2⟩
theorem occF_free (P : Nat → Bool) (w : Nat) : ∀ (l : List Nat) (f g lim : Nat), (∀ i ∈ l, f ≤ i ∧ g ≤ i) → occF P w l f lim = occF P w l g lim
  | [], _, _, _, _ => rfl
  | i :: r, f, g, lim, h => by
    have hi := h i (.head _)
    have ih := occF_free P w r f g lim fun j hj => h j (.tail _ hj)
    simp only [occF, hi.1, hi.2, true_and, ih]
theorem occF_skip (P : Nat → Bool) (w : Nat) : ∀ (n a f lim : Nat), a ≤ f → occF P w (List.range' a n) f lim = occF P w (List.range' f (a + n - f)) f lim
  | 0, a, f, lim, h => by rw [show a + 0 - f = 0 from Nat.sub_eq_zero_of_le h]; rfl
  | n + 1, a, f, lim, h => by
    by_cases e : a = f
    · subst e; rw [Nat.add_sub_cancel_left]
    · rw [List.range'_succ, occF, if_neg (by omega), occF_skip P w n (a + 1) f lim (by omega)]
      rw [Nat.add_assoc, Nat.add_comm 1 n]
theorem occF_zero (P : Nat → Bool) (w : Nat) : ∀ (l : List Nat) (f : Nat), occF P w l f 0 = []
  | [], _ => rfl
  | i :: r, f => by rw [occF, if_neg (by omega), occF_zero P w r f]
noncomputable def findL (p : List Nat) : List Nat → Option (List Nat × List Nat)
  | [] => if p.isPrefixOf [] then some ([], []) else none
  | c :: r => if p.isPrefixOf (c :: r) then some ([], (c :: r).drop p.length) else (findL p r).map fun q => (c :: q.1, q.2)
theorem findL_some {p : List Nat} : ∀ {l a r : List Nat}, findL p l = some (a, r) → l = a ++ (p ++ r)
  | [], a, r, h => by
    unfold findL at h
    split at h
    · rename_i hp
      cases h
      have := List.isPrefixOf_iff_prefix.mp hp
      simpa using this
    · cases h
  | c :: l, a, r, h => by
    unfold findL at h
    split at h
    · rename_i hp
      cases h
      obtain ⟨t, ht⟩ := List.isPrefixOf_iff_prefix.mp hp
      rw [← ht]; simp
    · cases e : findL p l with
      | none => rw [e] at h; cases h
      | some q =>
        rw [e] at h
        cases h
        have := findL_some (l := l) (a := q.1) (r := q.2) (by rw [e])
        rw [List.cons_append, ← this]
noncomputable abbrev plP (l p : List Nat) (hi : Nat) : Nat → Bool := fun i => decide (i + p.length ≤ hi) && subAt (wd l) (wd p) i
theorem plP_iff {l p : List Nat} {hi i : Nat} (hh : hi ≤ l.length) (hi' : i ≤ hi) : plP l p hi i = p.isPrefixOf ((l.take hi).drop i) := by
  unfold plP
  rw [StrLaws.subAt_eq, wd_length, Bool.eq_iff_iff, List.isPrefixOf_iff_prefix]
  simp only [Bool.and_eq_true, decide_eq_true_eq, beq_iff_eq]
  rw [List.drop_take]
  constructor
  · rintro ⟨h1, h2⟩
    refine ⟨((l.drop i).take (hi - i)).drop p.length, ?_⟩
    rw [← h2]
    have e : ((l.drop i).take p.length).length = p.length := by rw [List.length_take, List.length_drop]; omega
    rw [e]
    have := List.take_append_drop p.length ((l.drop i).take (hi - i))
    rw [List.take_take, Nat.min_eq_left (by omega)] at this
    exact this
  · rintro ⟨t, ht⟩
    have hl := congrArg List.length ht
    rw [List.length_append, List.length_take, List.length_drop] at hl
    refine ⟨by omega, ?_⟩
    have := congrArg (List.take p.length) ht
    rw [List.take_left, List.take_take, Nat.min_eq_left (by omega)] at this
    exact this.symm
theorem occ_next (l p : List Nat) (hi : Nat) (hh : hi ≤ l.length) (lim : Nat) : ∀ (n lo : Nat), hi + 1 - lo = n → lo ≤ hi →
    occF (plP l p hi) p.length (List.range' lo n) lo (lim + 1) = match findL p ((l.take hi).drop lo) with
      | none => []
      | some (a, _) => (lo + a.length) :: occF (plP l p hi) p.length (List.range' (lo + a.length + 1) (hi - (lo + a.length))) (lo + a.length + p.length) lim
  | 0, lo, h1, h2 => by omega
  | n + 1, lo, h1, h2 => by
    have hP := plP_iff (p := p) hh h2
    rw [List.range'_succ, occF]
    by_cases hlt : lo < hi
    · have hd : (l.take hi).drop lo = (l.take hi)[lo]'(by rw [List.length_take]; omega) :: (l.take hi).drop (lo + 1) := List.drop_eq_getElem_cons _
      rw [hd] at hP ⊢
      unfold findL
      by_cases hp : p.isPrefixOf ((l.take hi)[lo]'(by rw [List.length_take]; omega) :: (l.take hi).drop (lo + 1)) = true
      · rw [if_pos ⟨by omega, Nat.le_refl _, hP.trans hp⟩, if_pos hp]
        simp only [List.length_nil, Nat.add_zero, Nat.add_sub_cancel]
        rw [show hi - lo = n by omega]
      · rw [if_neg (fun h => hp (hP.symm.trans h.2.2)), if_neg hp]
        rw [occF_free _ _ _ lo (lo + 1) _ (fun i hi' => by have := List.mem_range'_1.mp hi'; omega)]
        rw [occ_next l p hi hh lim n (lo + 1) (by omega) (by omega)]
        cases e : findL p ((l.take hi).drop (lo + 1)) with
        | none => rfl
        | some q => 
          simp only [Option.map_some, List.length_cons]
          rw [show lo + 1 + q.1.length = lo + (q.1.length + 1) by omega]
    · have e : lo = hi := by omega
      subst e
      have hn : n = 0 := by omega
      subst hn
      have hd : (l.take lo).drop lo = [] := List.drop_of_length_le (by rw [List.length_take]; omega)
      rw [hd] at hP ⊢
      unfold findL
      by_cases hp : p.isPrefixOf [] = true
      · rw [if_pos ⟨by omega, Nat.le_refl _, hP.trans hp⟩, if_pos hp]
        simp [occF]
      · rw [if_neg (fun h => hp (hP.symm.trans h.2.2)), if_neg hp]
        rfl
theorem occ_is (l p : List Nat) (lo hi lim : Nat) : occurrences (wd l) (wd p) lo hi lim = occF (plP l p hi) p.length (List.range' lo (hi + 1 - lo)) lo lim := by
  rw [StrLaws.occ_eq, occ_run]
  simp [wd_length]
theorem occ_none {l p : List Nat} {lo hi lim : Nat} (hh : hi ≤ l.length) (h : lo ≤ hi) (hf : findL p ((l.take hi).drop lo) = none) : occurrences (wd l) (wd p) lo hi lim = [] := by
  cases lim with
  | zero => rw [occ_is, occF_zero]
  | succ lim => rw [occ_is, occ_next l p hi hh lim _ lo rfl h, hf]
theorem occ_some {l p : List Nat} {lo hi lim : Nat} {a r : List Nat} (hh : hi ≤ l.length) (h : lo ≤ hi) (hp : p ≠ []) (hf : findL p ((l.take hi).drop lo) = some (a, r)) :
    occurrences (wd l) (wd p) lo hi (lim + 1) = (lo + a.length) :: occurrences (wd l) (wd p) (lo + a.length + p.length) hi lim := by
  rw [occ_is, occ_next l p hi hh lim _ lo rfl h, hf, occ_is]
  have hl := congrArg List.length (findL_some hf)
  simp only [List.length_drop, List.length_take, List.length_append] at hl
  have h1 : 1 ≤ p.length := by cases p with
    | nil => exact absurd rfl hp
    | cons => simp
  simp only []
  rw [occF_skip _ _ _ _ _ _ (by omega)]
  rw [Nat.add_right_comm (lo + a.length) 1, Nat.add_sub_cancel' (show lo + a.length ≤ hi by omega)]
theorem occ_one {l p : List Nat} {lo hi : Nat} {a r : List Nat} (hh : hi ≤ l.length) (h : lo ≤ hi) (hf : findL p ((l.take hi).drop lo) = some (a, r)) :
    occurrences (wd l) (wd p) lo hi 1 = [lo + a.length] := by
  rw [occ_is, occ_next l p hi hh 0 _ lo rfl h, hf]
  simp only [occF_zero]
noncomputable def splitL (p : List Nat) : Nat → List Nat → List (List Nat)
  | 0, l => [l]
  | n + 1, l => match findL p l with
    | none => [l]
    | some (a, r) => a :: splitL p n r
theorem sub_wd (l : List Nat) (a b : Nat) : strSub (wd l) a b = wd ((l.drop a).take (b - a)) := by
  apply Str.ext'
  have := StrLaws.strSub_toList (wd l) a b
  rw [← Array.toList_inj]
  simpa using this
theorem parts_is (l p : List Nat) (hp : p ≠ []) : ∀ (lim lo : Nat), lo ≤ l.length →
    StrLaws.partsFrom (wd l) p.length lo (occurrences (wd l) (wd p) lo l.length lim) = (splitL p lim (l.drop lo)).map wd
  | 0, lo, h => by
    rw [occ_is, occF_zero]
    show [strSub (wd l) lo (wd l).length] = _
    rw [sub_wd, wd_length]
    rw [List.take_of_length_le (by rw [List.length_drop]; omega)]
    rfl
  | lim + 1, lo, h => by
    have ht : (l.take l.length).drop lo = l.drop lo := by rw [List.take_of_length_le (Nat.le_refl _)]
    cases e : findL p (l.drop lo) with
    | none =>
      rw [occ_none (Nat.le_refl _) h (by rw [ht]; exact e)]
      show [strSub (wd l) lo (wd l).length] = _
      rw [sub_wd, wd_length, splitL, e]
      rw [List.take_of_length_le (by rw [List.length_drop]; omega)]
      rfl
    | some q =>
      obtain ⟨a, r⟩ := q
      have hs := findL_some e
      have hl := congrArg List.length hs
      simp only [List.length_drop, List.length_append] at hl
      rw [occ_some (Nat.le_refl _) h hp (by rw [ht]; exact e)]
      show strSub (wd l) lo (lo + a.length) :: StrLaws.partsFrom (wd l) p.length (lo + a.length + p.length) _ = _
      rw [parts_is l p hp lim (lo + a.length + p.length) (by omega), splitL, e, sub_wd]
      have e1 : (l.drop lo).take (lo + a.length - lo) = a := by rw [hs, Nat.add_sub_cancel_left, List.take_left]
      have e2 : l.drop (lo + a.length + p.length) = r := by
        rw [Nat.add_assoc, ← List.drop_drop, hs, ← List.append_assoc, show a.length + p.length = (a ++ p).length by simp, List.drop_left]
      rw [e1, e2]
      rfl
theorem kind_low {p : List Nat} (h : ∀ c ∈ p, c < 256) : PySem.Builtin.Str.strKind (wd p) = 1 := by
  unfold PySem.Builtin.Str.strKind
  rw [if_pos]
  simpa using h
theorem kind_pos (x : Str) : ¬ PySem.Builtin.Str.strKind x < 1 := by
  unfold PySem.Builtin.Str.strKind
  split
  · omega
  · split <;> omega
theorem findL_short {p l : List Nat} (h : l.length < p.length) : findL p l = none := by
  cases e : findL p l with
  | none => rfl
  | some q =>
    have hl := congrArg List.length (findL_some (a := q.1) (r := q.2) e)
    simp only [List.length_append] at hl
    omega
theorem splitBy (l p : List Nat) (hp : p ≠ []) (h256 : ∀ c ∈ p, c < 256) (lim : Nat) (hlim : 0 < lim) :
    (if (decide ((wd l).length < (wd p).length) || decide (PySem.Builtin.Str.strKind (wd l) < PySem.Builtin.Str.strKind (wd p))) = true then [wd l] else
     if (occurrences (wd l) (wd p) 0 (wd l).length lim).isEmpty = true then [wd l] else partsBetween (wd l) (occurrences (wd l) (wd p) 0 (wd l).length lim) (wd p).length) = (splitL p lim l).map wd := by
  obtain ⟨lim, rfl⟩ : ∃ k, lim = k + 1 := ⟨lim - 1, by omega⟩
  by_cases hc : (decide ((wd l).length < (wd p).length) || decide (PySem.Builtin.Str.strKind (wd l) < PySem.Builtin.Str.strKind (wd p))) = true
  · rw [if_pos hc]
    have : ¬ PySem.Builtin.Str.strKind (wd l) < PySem.Builtin.Str.strKind (wd p) := by rw [kind_low h256]; exact kind_pos _
    simp only [this, decide_false, Bool.or_false, decide_eq_true_eq, wd_length] at hc
    rw [splitL, findL_short hc]
    rfl
  · rw [if_neg hc, StrLaws.partsBetween_eq, wd_length, wd_length, parts_is l p hp (lim + 1) 0 (Nat.zero_le _), List.drop_zero]
    split
    · rename_i he
      cases e : findL p l with
      | none => rw [splitL, e]; rfl
      | some q =>
        rw [occ_some (a := q.1) (r := q.2) (Nat.le_refl _) (Nat.zero_le _) hp (by simpa using e)] at he
        simp at he
    · rfl
theorem split_is (l p : List Nat) (hp : p ≠ []) (h256 : ∀ c ∈ p, c < 256) : Txt.split (wd l) (wd p) = (splitL p (l.length + 1) l).map wd := by
  have := splitBy l p hp h256 (l.length + 1) (by omega)
  unfold Txt.split
  rw [wd_length] at this ⊢
  exact this
theorem splitMax_is (l p : List Nat) (hp : p ≠ []) (h256 : ∀ c ∈ p, c < 256) (k : Nat) (hk : 0 < k) : Txt.splitMax (wd l) (wd p) k = (splitL p k l).map wd := by
  have := splitBy l p hp h256 k hk
  unfold Txt.splitMax
  have e : limitOf (wd l) (k : Int) = k := by unfold limitOf; rw [if_neg (by omega)]; simp
  rw [e]
  exact this
theorem findL_free {c : Nat} {p : List Nat} : ∀ {a : List Nat}, c ∉ a → ∀ r, findL (c :: p) (a ++ (c :: p ++ r)) = some (a, r)
  | [], _, r => by
    show findL (c :: p) (c :: (p ++ r)) = _
    unfold findL
    rw [if_pos]
    · simp
    · rw [List.isPrefixOf_iff_prefix]; exact ⟨r, rfl⟩
  | b :: a, h, r => by
    have hb : c ≠ b := fun e => h (e ▸ .head _)
    show findL (c :: p) (b :: (a ++ (c :: p ++ r))) = _
    unfold findL
    rw [if_neg, findL_free (fun hm => h (.tail _ hm)) r]
    · rfl
    · rw [List.isPrefixOf_iff_prefix]
      rintro ⟨t, ht⟩
      injection ht with h1 _
      exact hb h1
theorem findL_out {c : Nat} {p : List Nat} : ∀ {a : List Nat}, c ∉ a → findL (c :: p) a = none
  | [], _ => rfl
  | b :: a, h => by
    have hb : c ≠ b := fun e => h (e ▸ .head _)
    unfold findL
    rw [if_neg, findL_out (fun hm => h (.tail _ hm))]
    · rfl
    · rw [List.isPrefixOf_iff_prefix]
      rintro ⟨t, ht⟩
      injection ht with h1 _
      exact hb h1
theorem splitL_length (p : List Nat) : ∀ (n : Nat) (l : List Nat), 1 ≤ (splitL p n l).length ∧ (splitL p n l).length ≤ n + 1
  | 0, l => by simp [splitL]
  | n + 1, l => by
    unfold splitL
    cases findL p l with
    | none => simp
    | some q => have := splitL_length p n q.2; simp only [List.length_cons]; omega
theorem wd_of (x : Str) : wd x.cps.toList = x := rfl
theorem split_many (l p : List Nat) (hp : p ≠ []) (h256 : ∀ c ∈ p, c < 256) (h : (occurrences (wd l) (wd p) 0 (wd l).length 1).isEmpty = false) :
    2 ≤ (Txt.split (wd l) (wd p)).length ∧ (Txt.split (wd l) (wd p)).length ≤ (wd l).length + 2 := by
  rw [split_is l p hp h256, List.length_map, splitL]
  cases e : findL p l with
  | none => rw [wd_length, occ_none (Nat.le_refl _) (Nat.zero_le _) (by simpa using e)] at h; cases h
  | some q => have := splitL_length p l.length q.2; rw [wd_length]; simp only [List.length_cons]; omega
end Mine
end
section
open PySem PySem.W PyProof.Rows PySem.Spec
namespace Mine
open Builtin Builtin.Str
variable {w : World} {mg mb : Str → Option Value} {mean : ExcName → Option Value} {dp un : Nat} {fr : Option (List Env)} {gd : Option (List Code)} {s : Shared} {Q E : Value → Shared → Prop}
noncomputable abbrev dots : Str := Str.ofString "..."
noncomputable def ellR1 (y : Str) (ws : List Str) (w0 : Str) (wl : Str) : Bool :=
  if w0.length = 0 then ellR2 y 0 ws wl else if Txt.startswith y w0 then ellR2 y w0.length (ws.drop 1) wl else false
noncomputable def ellB (x y : Str) : Bool :=
  if (occurrences x dots 0 x.length 1).isEmpty = true then x == y else ellR1 y (Txt.split x dots) ((Txt.split x dots).headD Str.empty) ((Txt.split x dots).getLastD Str.empty)
theorem split_two (x : Str) (h : (occurrences x dots 0 x.length 1).isEmpty = false) : 2 ≤ (Txt.split x dots).length ∧ (Txt.split x dots).length ≤ x.length + 2 :=
  split_many x.cps.toList dots.cps.toList (by decide) (by decide) h
inductive EllM1 (s : Shared) (x y : Str) (ty : Tok) (s' : Shared) : Prop where
  | mk (h' : Heap) (tk' : Nat) (m' : Str → Option Value) (l : List (Str × Tok)) (a : Addr) (c0 : s' = { s with heap := h', toks := tk' }) (c1 : Fr s.heap s.heap.objs.size h' m') (c2 : News s.heap s.heap.objs.size h' [(a, { cls := .type "list", data := .seq (strValues l).toArray })])
    (c3 : Says m' [(Str.ofString "got", .str y ty), (Str.ofString "ws", .ref a)]) (c4 : l.map (·.1) = Txt.split x dots) (c5 : ∀ a ∈ l.map (·.1), a.length ≤ x.length) (c6 : (Builtin.Str.occurrences x dots 0 x.length 1).isEmpty = false)
inductive EllM2 (s : Shared) (y : Str) (ty : Tok) (a : Addr) (w0 : Str × Tok) (l₁ : List (Str × Tok)) (s' : Shared) : Prop where
  | mk (h' : Heap) (tk' : Nat) (m' : Str → Option Value) (tp te tw : Tok) (c0 : s' = { s with heap := h', toks := tk' }) (c1 : Fr s.heap s.heap.objs.size h' m') (c2 : News s.heap s.heap.objs.size h' [(a, { cls := .type "list", data := .seq (strValues (w0 :: l₁)).toArray })])
    (c3 : Says m' [(Str.ofString "got", .str y ty), (Str.ofString "ws", .ref a), (Str.ofString "startpos", .int 0 tp), (Str.ofString "endpos", .int y.length te), (Str.ofString "w", .str w0.1 tw)])
inductive EllM3 (s : Shared) (x y : Str) (ty : Tok) (a : Addr) (w0 : Str × Tok) (l₁ : List (Str × Tok)) (wl : Str × Tok) (s' : Shared) : Prop where
  | mk (h' : Heap) (tk' : Nat) (m' : Str → Option Value) (tp te : Tok) (p : Int) (l' : List (Str × Tok)) (n : Nat) (c0 : s' = { s with heap := h', toks := tk' }) (c1 : Fr s.heap s.heap.objs.size h' m') (c2 : News s.heap s.heap.objs.size h' [(a, { cls := .type "list", data := .seq (strValues l').toArray n })])
    (c3 : Says m' [(Str.ofString "got", .str y ty), (Str.ofString "ws", .ref a), (Str.ofString "startpos", .int p tp), (Str.ofString "endpos", .int y.length te)]) (c4 : l'.getLast? = some wl) (c5 : ∀ q ∈ l', q ∈ w0 :: l₁) (c6 : l'.length ≤ l₁.length + 1)
    (c7 : ellR2 y p (l'.map (·.1)) wl.1 = ellR1 y (Txt.split x dots) w0.1 wl.1)
set_option maxRecDepth 100000 in
set_option maxHeartbeats 4000000 in
theorem ell_spec (x y : Str) (tx ty : Tok)
  (T : Top topProg LOOSE mean mg mb s.heap) (X : (Mine.hd.heap_39 w.params).In s.heap) (hd : dp < recursionLimit) (hx : x.length ≤ 90) (hy : y.length ≤ 90)
  (hret : ∀ h' tk', s.heap.StaysIn h' → Q (.bool (ellB x y)) { s with heap := h', toks := tk' }) :
  wpAny (model PySem.Challenge.rw_wr0012_01.row.prog w) (Ar dp un fr gd) (call (.ref 30) [.str x tx, .str y ty]) Q E s := by
  revert X; k_fill; intro X
  have hf : s.heap.get? 30 = ((Mine.hd.heap_39 w.params).lookup 30) := X 30 _ rfl
  refine wpAny_call (call_plain_ret (binds := [(Str.ofString "want", .str x tx), (Str.ofString "got", .str y ty)]) hd hf rfl T.nolimit (codeRec_of X (by rfl)) (by rfl) (locs (by rfl)) (fun h₁ F => ?_))
  have N : News s.heap s.heap.objs.size h₁ [] := News.nil
  w_on
  refine execs_cut_at 2 (EllM1 s x y ty) ?_ ?_
  · simp only [List.take_succ_cons, List.take_zero]
    k_steps
    · rename _ = true => hc
      have := fun tk' => hret _ tk' F.keep
      unfold ellB at this
      rw [if_pos hc] at this
      exact this _
    · rename Fr _ _ _ _ => F2
      rename News _ _ _ _ => N2
      rename List.map _ _ = _ => hl
      rename ∀ a ∈ _, Str.length a ≤ _ => hlen
      rename _ = false => hc
      exact .intro ⟨_, _, _, _, _, rfl, F2, N2, ⟨rfl, rfl, trivial⟩, hl, hlen, hc⟩
  clear F N
  rintro s' ⟨h2', tk2, m2, l, a, rfl, F2, N2, ⟨q1, q2, -⟩, hl, hlen, hc⟩
  have hret : ∀ b, b = ellR1 y (Txt.split x dots) ((Txt.split x dots).headD Str.empty) ((Txt.split x dots).getLastD Str.empty) → ∀ h' tk', s.heap.StaysIn h' → Q (.bool b) { s with heap := h', toks := tk' } := fun b hb h' tk' st => by
    have := hret h' tk' st
    unfold ellB at this
    rw [if_neg (by rw [hc]; decide), ← hb] at this
    exact this
  have h22 := split_two x hc
  have hll : l.length = (Txt.split x dots).length := by rw [← hl, List.length_map]
  have h2l : 2 ≤ l.length := by omega
  obtain ⟨w0, l₁, rfl⟩ : ∃ w0 l₁, l = w0 :: l₁ := by
    cases l with
    | nil => simp at h2l
    | cons w0 l₁ => exact ⟨w0, l₁, rfl⟩
  have hw0 : w0.1.length ≤ 90 := Nat.le_trans (hlen _ (by simp)) hx
  have F2 := Fr.over F2 [(Str.ofString "got", .str y ty), (Str.ofString "ws", .ref a)] ⟨q1, q2, trivial⟩
  refine execs_cut_at 3 (EllM2 s y ty a w0 l₁) ?_ ?_
  · simp only [List.drop_succ_cons, List.drop_zero, List.take_succ_cons, List.take_zero]
    k_steps
    rename Fr _ _ _ _ => F3
    rename News _ _ _ _ => N3
    rename _ = some _ => he
    obtain rfl := Option.some.inj he
    exact .intro ⟨_, _, _, _, _, _, rfl, F3, fun p hp => N3 p (.tail _ hp), ⟨rfl, rfl, rfl, rfl, rfl, trivial⟩⟩
  clear F2 N2
  rintro s' ⟨h3', tk3, m3, tp, te, tw, rfl, F3, N3, ⟨q1, q2, q3, q4, q5, -⟩⟩
  have F3 := Fr.over F3 [(Str.ofString "got", .str y ty), (Str.ofString "ws", .ref a), (Str.ofString "startpos", .int 0 tp), (Str.ofString "endpos", .int y.length te), (Str.ofString "w", .str w0.1 tw)] ⟨q1, q2, q3, q4, q5, trivial⟩
  have hS : (strValues (w0 :: l₁)).toArray.size = l₁.length + 1 := by simp [strValues]
  have hl₁ : l₁ ≠ [] := fun e => by rw [e] at h2l; simp at h2l
  have hgl : ((Txt.split x dots).getLastD Str.empty) = (l₁.getLast hl₁).1 := by
    rw [List.getLastD_eq_getLast?, ← hl, List.getLast?_map, List.getLast?_cons, List.getLast?_eq_some_getLast hl₁]; rfl
  have hg0 : ((Txt.split x dots).headD Str.empty) = w0.1 := by rw [← hl]; rfl
  rw [hgl, hg0] at hret
  refine execs_cut_at 1 (EllM3 s x y ty a w0 l₁ (l₁.getLast hl₁)) ?_ ?_
  · simp only [List.drop_succ_cons, List.drop_zero, List.take_succ_cons, List.take_zero]
    k_steps
    · rename Fr _ _ _ _ => F4
      rename News _ _ _ _ => N4
      rename Txt.startswith _ _ = true => hes
      rename ¬ ((_ : Int) = 0) => hz
      refine delItem_head F4 N4 (by intro _ h; cases h) (by decide) (k := 0) (by show seqIndex? 0 (strValues (w0 :: l₁)).toArray.size = some 0; simp [strValues, seqIndex?]; try omega) ?_ (by show (strValues (w0 :: l₁)).toArray.size ≤ _; simp only [List.size_toArray, strValues, List.length_map, List.length_cons]; rw [sizeLine_eq]; omega)
      intro h5 F5 N5
      k_steps
      refine .intro ⟨_, _, _, _, _, _, l₁, _, rfl, F5, N5, ⟨rfl, rfl, rfl, rfl, trivial⟩, List.getLast?_eq_some_getLast hl₁, fun q hq => List.mem_cons_of_mem _ hq, by omega, ?_⟩
      unfold ellR1
      rw [if_neg (by omega), if_pos hes, ← hl]; rfl
    · rename Txt.startswith _ _ = false => hes
      rename ¬ ((_ : Int) = 0) => hz
      exact hret false (by unfold ellR1; rw [if_neg (by omega), hes]; rfl) _ _ F3.keep
    · rename (_ : Int) = 0 => hz
      refine .intro ⟨_, _, _, _, _, _, w0 :: l₁, _, rfl, F3, N3, ⟨rfl, rfl, rfl, rfl, trivial⟩, ?_, fun q hq => hq, by simp, ?_⟩
      · rw [List.getLast?_cons, List.getLast?_eq_some_getLast hl₁]; rfl
      · unfold ellR1
        rw [if_pos (by omega), ← hl]
  clear F3 N3
  rintro s' ⟨h4', tk4, m4, tp, te, p, l', n, rfl, F4, N4, ⟨q1, q2, q3, q4, -⟩, q5, q6, q7, q8⟩
  refine ell_R2 y ty tp te p l' (l₁.getLast hl₁) n (T.keeps (fun _ _ e => e)) X F4 q1 q2 q3 q4 N4 q5 (by simp only [List.length_cons] at hll; omega) (by omega) (fun q hq => Nat.le_trans (hlen _ (List.mem_map_of_mem (q6 q hq))) (by omega)) fun h' tk' st => hret _ q8 _ _ st
end Mine
end
section
open PySem PySem.W PyProof.Rows PySem.Spec PySem.Calls
namespace Mine
variable {w : World} {mg mb : Str → Option Value} {mean : ExcName → Option Value} {dp un : Nat} {fr : Option (List Env)} {gd : Option (List Code)} {s : Shared} {Q E : Value → Shared → Prop}
local macro_rules | `(tactic| k_all) => `(tactic| assumption)
theorem dots_wd : Str.ofString "..." = wd [46, 46, 46] := by decide
set_option maxRecDepth 100000 in
set_option maxHeartbeats 1000000 in
theorem law_dots {B : List Stmt} (hBB : fnBody 20 = B) {R : Flow → Shared → Prop} {hB : Heap} {L fl : Addr} {cd : Value} {m : Str → Option Value} {y : List Nat} {tw u1 : Tok} {oW : Obj} {one : Nat}
  (T : Top topProg LOOSE mean mg mb hB) (X : (Mine.hd.heap_39 w.params).In hB) (hd : dp + 15 < recursionLimit)
  (F : Fr hB L s.heap m) (h1 : m (Str.ofString "one") = some (.int one u1)) (hone : one ≤ y.length) (hy : y.length ≤ 40)
  (eW : s.heap.get? (L + 2) = some oW) (dW : oW.data = .cell (some (.str (wd y) tw))) (bW : hB.get? (L + 2) = none) 
  (e1 : ellB (wd (y.take one ++ [46, 46, 46] ++ y.drop one)) (wd y) = true)
  (hret : ∀ (h' : Heap) (tk' : Nat), Fr hB L h' m → But s.heap [L] h' → R .next { s with heap := h', toks := tk' }) :
  wpAny (model PySem.Challenge.rw_wr0012_01.row.prog w) ((Ar dp un fr gd).deeper (lawEnv L fl cd)) (execs ((B.drop 13).take 1) (lawEnv L fl cd)) R (fun _ _ => False) s := by
  subst hBB
  revert X; k_fill; intro X
  conv in List.take _ _ => whnf
  have hlw : (wd y).length ≤ 40 := by rw [wd_length]; exact hy
  replace F := Fr.over F [(Str.ofString "one", .int one u1)] ⟨h1, trivial⟩
  obtain ⟨pl0, Npl0, hpb0, hpk0⟩ := ro_start F [L] (.head _)
  have L2 : @Ne Nat (L + 2) L := Nat.ne_of_gt (Nat.lt_add_of_pos_right (by decide))
  have N : News hB L s.heap ((L + 2, oW) :: pl0) := News.ins eW L2 bW Npl0
  clear Npl0
  w_on
  k_steps
  rename_i h1 t1 k1 F1 N1 _ t2 k2 _
  have ew : Txt.slice (wd y) none (some (one : Int)) ++ Str.ofString "..." ++ Txt.slice (wd y) (some (one : Int)) none = wd (y.take one ++ [46, 46, 46] ++ y.drop one) := by
    rw [slice_to_wd hone, slice_from_wd hone, dots_wd, wd_append, wd_append]
  rw [ew]
  refine ell_spec _ _ _ _ (T.keeps F1.keep) (X.keeps F1.keep) (by first | exact lim 1 hd | exact limT 1 hd | (show dp + 1 < _; omega)) (by rw [wd_length]; simp; omega) (by omega) fun h3 tk3 st3 => ?_
  rw [e1]
  have F3 := F1.keeps st3
  have N3 := News.stays N1 st3
  clear F1 N1
  refine tk_any (s₀ := s) (h := h3) fun tk3' => ?_
  k_steps
  show wpAny _ _ (execs [] (lawEnv L fl cd)) _ _ _
  refine wpAny_execs_nil ?_
  rw [over_eq [(Str.ofString "one", .int one u1)] ⟨‹m (Str.ofString "one") = some (.int one u1)›, trivial⟩] at F3
  exact hret h3 _ F3 (hpk0 h3 F3.keep fun p hp => (N3 p (by simp [hp])).1)
end Mine
end
section
open PySem PySem.W PyProof.Rows PySem.Spec PySem.Calls
namespace Mine
variable {w : World} {mg mb : Str → Option Value} {mean : ExcName → Option Value} {dp un : Nat} {fr : Option (List Env)} {gd : Option (List Code)} {s : Shared} {Q E : Value → Shared → Prop}
local macro_rules | `(tactic| k_all) => `(tactic| assumption)
noncomputable def loopBody (k : Nat) : List Stmt := match (fnBody 20).drop k with | .For _ _ b _ _ :: _ => b | _ => []
noncomputable def TurnRead (hB : Heap) (L : Addr) (m : Str → Option Value) (nw : List (Addr × Obj)) (s : Shared) (f : Flow) (s' : Shared) : Prop :=
  f = .next ∧ ∃ h' tk m', s' = { s with heap := h', toks := tk } ∧ Fr hB L h' m' ∧ News hB L h' nw ∧ m' = m
set_option maxRecDepth 100000 in
set_option maxHeartbeats 1000000 in
theorem wants_body {hB : Heap} {L fl : Addr} {cd : Value} {m : Str → Option Value} {a b : List Nat} {ta tb : Tok} {nw : List (Addr × Obj)}
  (T : Top topProg LOOSE mean mg mb hB) (X : (Mine.hd.heap_39 w.params).In hB) (hd : dp + 15 < recursionLimit)
  (F : Fr hB L s.heap m) (N : News hB L s.heap nw) (m1 : m (Str.ofString "want") = some (.str (wd a) ta)) (m2 : m (Str.ofString "got") = some (.str (wd b) tb)) (la : a.length ≤ 60) (lb : b.length ≤ 60) (he : ellB (wd a) (wd b) = false) :
  wpAny (model PySem.Challenge.rw_wr0012_01.row.prog w) ((Ar dp un fr gd).deeper (lawEnv L fl cd)) (execs (loopBody 14) (lawEnv L fl cd)) (TurnRead hB L m nw s) (fun _ _ => False) s := by
  revert X; k_fill; intro X
  conv in loopBody _ => whnf
  replace F := Fr.over F [(Str.ofString "want", .str (wd a) ta), (Str.ofString "got", .str (wd b) tb)] ⟨m1, m2, trivial⟩
  w_on
  k_steps
  refine ell_spec _ _ _ _ (T.keeps F.keep) (X.keeps F.keep) (by first | exact lim 1 hd | exact limT 1 hd | (show dp + 1 < _; omega)) (by rw [wd_length]; omega) (by rw [wd_length]; omega) fun h6 tk6 st6 => ?_
  rw [he]
  have F6 := F.keeps st6
  have N6 := News.stays N st6
  clear F N
  refine tk_any (s₀ := s) (h := h6) fun tk6' => ?_
  k_steps
  rw [over_eq [(Str.ofString "want", .str (wd a) ta), (Str.ofString "got", .str (wd b) tb)] ⟨m1, m2, trivial⟩] at F6
  exact ⟨rfl, h6, _, m, rfl, F6, N6, rfl⟩
theorem TurnRead.turn {hB : Heap} {L : Addr} {m : Str → Option Value} {p : Addr × Obj} {nw : List (Addr × Obj)} {J : (Str → Option Value) → Prop} {s s₁ : Shared} {Q : Flow → Shared → Prop} (hJ : J m) (hs : s = { s₁ with heap := s.heap, toks := s.toks }) {f : Flow} {s' : Shared} (h : TurnRead hB L m (p :: nw) s f s') : TurnEnd hB L nw J s₁ Q f s' := by
  obtain ⟨rfl, h', tk, m', rfl, F, N, rfl⟩ := h
  refine ⟨h', tk, _, ?_, F, News.tail N, hJ⟩
  rw [hs]
end Mine
end
section
open PySem PySem.W PyProof.Rows PySem.Spec PySem.Calls
namespace Mine
variable {w : World} {mg mb : Str → Option Value} {mean : ExcName → Option Value} {dp un : Nat} {fr : Option (List Env)} {gd : Option (List Code)} {s : Shared} {Q E : Value → Shared → Prop}
local macro_rules | `(tactic| k_all) => `(tactic| assumption)
noncomputable abbrev tupO (x : Str) (t : Tok) (y : Str) (u : Tok) : Obj := { cls := .type "tuple", data := .seq #[.str x t, .str y u] }
inductive Tup3 (h : Heap) (NB : Addr → Prop) (L : Addr) (v : Value) : Prop where
  | mk (Dv : Addr) (a : List Nat) (ta : Tok) (b : List Nat) (tb : Tok) (c0 : v = .ref Dv) (c1 : h.get? Dv = some (tupO (wd a) ta (wd b) tb)) (c2 : Dv ≠ L) (c3 : NB Dv) (c4 : a.length ≤ 60) (c5 : b.length ≤ 60) (c6 : ellB (wd a) (wd b) = false)
theorem tup3of {h : Heap} {D1 D2 D3 : Addr} (NB : Addr → Prop) (L : Addr) {i : Nat} {v : Value} {a1 b1 a2 b2 a3 b3 : List Nat} {t1 u1 t2 u2 t3 u3 : Tok} (hv : [Value.ref D1, .ref D2, .ref D3][i]? = some v)
    (n1 : h.get? D1 = some (tupO (wd a1) t1 (wd b1) u1) ∧ D1 ≠ L ∧ NB D1) (n2 : h.get? D2 = some (tupO (wd a2) t2 (wd b2) u2) ∧ D2 ≠ L ∧ NB D2) (n3 : h.get? D3 = some (tupO (wd a3) t3 (wd b3) u3) ∧ D3 ≠ L ∧ NB D3)
    (e1 : ellB (wd a1) (wd b1) = false) (e2 : ellB (wd a2) (wd b2) = false) (e3 : ellB (wd a3) (wd b3) = false) (l1 : a1.length ≤ 60) (k1 : b1.length ≤ 60) (l2 : a2.length ≤ 60) (k2 : b2.length ≤ 60) (l3 : a3.length ≤ 60) (k3 : b3.length ≤ 60) :
    Tup3 h NB L v := by
  have h3 : i < 3 := (List.getElem?_eq_some_iff.mp hv).1
  obtain rfl | rfl | rfl : i = 0 ∨ i = 1 ∨ i = 2 := or3 i h3
  · exact ⟨D1, _, _, _, _, (Option.some.inj hv).symm, n1.1, n1.2.1, n1.2.2, l1, k1, e1⟩
  · exact ⟨D2, _, _, _, _, (Option.some.inj hv).symm, n2.1, n2.2.1, n2.2.2, l2, k2, e2⟩
  · exact ⟨D3, _, _, _, _, (Option.some.inj hv).symm, n3.1, n3.2.1, n3.2.2, l3, k3, e3⟩
theorem wants_len {y : List Nat} {one : Nat} (hy : y.length ≤ 40) (h1 : one < y.length) : (y.take (one + 1) ++ [46, 46, 46] ++ y.drop one).length ≤ 60 ∧ y.length ≤ 60 ∧ (y ++ [46, 46, 46]).length ≤ 60 ∧ ([121] ++ y).length ≤ 60 ∧ ([46, 46, 46] ++ y).length ≤ 60 ∧ (y ++ [121]).length ≤ 60 := by
  simp only [List.length_append, List.length_take, List.length_drop, List.length_cons, List.length_nil]
  omega
set_option maxRecDepth 100000 in
set_option maxHeartbeats 1000000 in
theorem law_wants {B : List Stmt} (hBB : fnBody 20 = B) {R : Flow → Shared → Prop} {hB : Heap} {L fl : Addr} {cd : Value} {m : Str → Option Value} {y : List Nat} {tw u1 : Tok} {oW : Obj} {one : Nat}
  (T : Top topProg LOOSE mean mg mb hB) (X : (Mine.hd.heap_39 w.params).In hB) (hd : dp + 15 < recursionLimit)
  (F : Fr hB L s.heap m) (h1 : m (Str.ofString "one") = some (.int one u1)) (hone : one < y.length) (hy : y.length ≤ 40)
  (eW : s.heap.get? (L + 2) = some oW) (dW : oW.data = .cell (some (.str (wd y) tw))) (bW : hB.get? (L + 2) = none) 
  (e1 : ellB (wd (y.take (one + 1) ++ [46, 46, 46] ++ y.drop one)) (wd y) = false) (e2 : ellB (wd (y ++ [46, 46, 46])) (wd ([121] ++ y)) = false) (e3 : ellB (wd ([46, 46, 46] ++ y)) (wd (y ++ [121])) = false)
  (hret : ∀ (h' : Heap) (tk' : Nat) (m' : Str → Option Value), Fr hB L h' m' → (∀ z, z ≠ Str.ofString "want" → z ≠ Str.ofString "got" → m' z = m z) → But s.heap [L] h' → R .next { s with heap := h', toks := tk' }) :
  wpAny (model PySem.Challenge.rw_wr0012_01.row.prog w) ((Ar dp un fr gd).deeper (lawEnv L fl cd)) (execs ((B.drop 14).take 1) (lawEnv L fl cd)) R (fun _ _ => False) s := by
  subst hBB
  revert X; k_fill; intro X
  conv in List.take _ _ => whnf
  have hlw : (wd y).length ≤ 40 := by rw [wd_length]; exact hy
  have hlens := wants_len hy hone
  replace F := Fr.over F [(Str.ofString "one", .int one u1)] ⟨h1, trivial⟩
  obtain ⟨pl0, Npl0, hpb0, hpk0⟩ := ro_start F [L] (.head _)
  have L2 : @Ne Nat (L + 2) L := Nat.ne_of_gt (Nat.lt_add_of_pos_right (by decide))
  have N : News hB L s.heap ((L + 2, oW) :: pl0) := News.ins eW L2 bW Npl0
  clear Npl0
  w_on
  iterate 1 walk1
  refine For_turns F ?_
  iterate 62 walk1
  rename_i D1 h1 l1 t3 k3 _ t2 k2 _ D2 h2 l2 tb kb _ tc kc _ D3 h3 l3 D h F1 N1 lD
  have ew : Txt.slice (wd y) none (some ((one : Int) + 1)) ++ Str.ofString "..." ++ Txt.slice (wd y) (some (one : Int)) none = wd (y.take (one + 1) ++ [46, 46, 46] ++ y.drop one) := by
    rw [show ((one : Int) + 1) = ((one + 1 : Nat) : Int) by push_cast; rfl, slice_to_wd (by omega), slice_from_wd (by omega), dots_wd, wd_append, wd_append]
  have ey : Str.ofString "y" = wd [121] := by decide
  rw [ew, dots_wd, ey, wd_append, wd_append, wd_append, wd_append] at N1
  have nD := N1 _ (.head _)
  dsimp only at nD
  have F1' := F1
  refine turns_tup (s := ⟨h, _, _, _, _⟩) (vs := [_, _, _]) (fun i m₁ => ∀ z, z ≠ Str.ofString "want" → z ≠ Str.ofString "got" → m₁ z = over [(Str.ofString "one", .int one u1)] m z) rfl ⟨_, nD.1, rfl, _, rfl⟩ nD.2.1 F1 N1 (fun _ _ _ => rfl) ?_ ?_
  · intro i v m₁ h4 tk4 own hv hJ F4 N4
    clear hret F1' F1 lD
    have n1 := N4 (D1, _) (List.mem_append_left _ (.tail _ (.tail _ (.tail _ (.head _)))))
    have n2 := N4 (D2, _) (List.mem_append_left _ (.tail _ (.tail _ (.head _))))
    have n3 := N4 (D3, _) (List.mem_append_left _ (.tail _ (.head _)))
    dsimp only at n1 n2 n3
    have q1 := tup3of (NB := fun q => hB.get? q = none) (L := L) hv n1 n2 n3
    have q2 := q1 e1 e2 e3 hlens.1 hlens.2.1 hlens.2.2.1 hlens.2.2.2.1 hlens.2.2.2.2.1 hlens.2.2.2.2.2
    obtain ⟨Dv, a, ta, b, tb, hv2, hin, hin1, hin2, hl1, hl2, he⟩ := q2
    subst hv2
    clear n1 n2 n3 q1
    have N4' := News.ins hin hin1 hin2 N4
    clear N4 hv hin hin1 hin2
    refine tk_any (s₀ := s) (h := h4) fun tk4' => ?_
    iterate 8 walk1
    rename_i h5 F5 N5
    refine tk_any (s₀ := s) (h := h5) fun tk5 => ?_
    have wb := wants_body (s := { s with heap := h5, toks := tk5 }) (w := w) (dp := dp) (un := un) (fr := fr) (gd := gd) (fl := fl) (cd := cd) T X hd F5 N5 rfl rfl hl1 hl2 he
    refine wpAny_mono wb (fun f s' h => TurnRead.turn ?_ rfl h) fun _ _ e => e
    intro z z1 z2
    simp only [z1, z2, if_false]
    exact hJ z z1 z2
  · intro m₁ h4 tk4 hJ F4 N4
    refine tk_any (s₀ := s) (h := h4) fun tk4' => ?_
    show wpAny _ _ (execs [] (lawEnv L fl cd)) _ _ _
    refine wpAny_execs_nil ?_
    refine hret h4 _ m₁ F4 (fun z z1 z2 => ?_) (hpk0 h4 F4.keep fun p hp => (N4 p (.tail _ (.tail _ (.tail _ (.tail _ (.tail _ hp)))))).1)
    rw [hJ z z1 z2, over_eq [(Str.ofString "one", .int one u1)] ⟨‹m (Str.ofString "one") = some (.int one u1)›, trivial⟩]
end Mine
end
section
open PySem PySem.W PyProof.Rows PySem.Spec PySem.Calls
namespace Mine
variable {w : World} {mg mb : Str → Option Value} {mean : ExcName → Option Value} {dp un : Nat} {fr : Option (List Env)} {gd : Option (List Code)} {s : Shared} {Q E : Value → Shared → Prop}
noncomputable abbrev knd (w : World) := PySem.strKind PySem.Challenge.rw_wr0012_01.row.prog w
noncomputable def rowD (one : Int) (t1 : Tok) (j : Nat) (t : Tok) : List (Str × Value) := if j % 2 = 0 then [(Str.ofString "limb", .int one t1), (Str.ofString "turn", .int ((j / 2 : Nat) : Int) t)] else [(Str.ofString "turn", .int ((j / 2 : Nat) : Int) t)]
noncomputable def RowAt (w : World) (one : Int) (t1 : Tok) (h : Heap) (vs : List Value) : Prop := ∀ j v, vs[j]? = some v → ∃ el d gl tk t', v = .ref el ∧ h.IsList el #[.str (Str.ofString "y") tk, .ref d, .ref gl] ∧ (d == sysModules) = false ∧ h.DictOf (knd w) d (rowD one t1 j t')
theorem dictOf_keeps {K : Type} [DecidableEq K] {prog : Program} {w : World} {k : KeyKind prog w K} {h h' : Heap} {d : Addr} {kvs : List (K × Value)} (x : h.DictOf k d kvs) (st : h.StaysIn h') : h'.DictOf k d kvs := by
  obtain ⟨o, es, ep, e, r⟩ := x
  exact ⟨o, es, ep, st _ _ e, r⟩
theorem RowAt.keeps {w : World} {one : Int} {t1 : Tok} {h h' : Heap} {vs : List Value} (x : RowAt w one t1 h vs) (st : h.StaysIn h') : RowAt w one t1 h' vs := fun j v hv => by
  obtain ⟨el, d, gl, tk, t', e, h1, h2, h3⟩ := x j v hv
  exact ⟨el, d, gl, tk, t', e, isList_keeps h1 st, h2, dictOf_keeps h3 st⟩
inductive ApartJ (w : World) (s : Shared) (I rl td : Addr) (one : Int) (t1 : Tok) (i : Nat) (m : Str → Option Value) (h : Heap) : Prop where
  | mk (q1 : m (Str.ofString "row") = some (.ref rl)) (q2 : m (Str.ofString "told") = some (.ref td)) (qP : ParTab h) (vs : List Value) (k : Nat) (qt : h.get? rl = some (lst vs k)) (ql : vs.length = 2 * i)
    (qL : ∀ as : List Addr, (∀ a ∈ as, InD s I rl a) → RowAt w one t1 (hideAll h as) vs)
set_option maxRecDepth 100000 in
set_option maxHeartbeats 1000000 in
theorem apart_spec {h₀ : Heap} {td : Addr} {one : Int} {t1 : Tok} (T : Top topProg LOOSE mean mg mb h₀) (X : (Mine.hd.heap_39 w.params).In h₀) (st : h₀.StaysIn s.heap) (h46 : h₀.get? 46 = none) (C : CodeHd h₀ 50 46) (P : ParTab s.heap)
  (hd : dp + 5 < recursionLimit) (ht : (hideAll s.heap [46]).DictOf (PySem.strKind PySem.Challenge.rw_wr0012_01.row.prog w) td [(Str.ofString "limb", .int one t1)]) (htS : (td == sysModules) = false)
  (hret : ∀ r h' tk' ys ep, (hideAll s.heap [46]).StaysIn h' → ParTab h' → Made s.heap h' [(r, lst ys ep)] → ys.length = 4 → (∀ j y, ys[j]? = some y → ∃ d t', y = .ref d ∧ (d == sysModules) = false ∧ h'.DictOf (knd w) d (rowD one t1 j t')) → Q (.ref r) { s with heap := h', toks := tk' }) :
  wpAny (model PySem.Challenge.rw_wr0012_01.row.prog w) (Ar dp un fr gd) (call (.ref 87) [.ref td]) Q E s := by
  revert X; k_fill; intro X
  have X1 := X.keeps st
  have hf : s.heap.get? 87 = ((Mine.hd.heap_39 w.params).lookup 87) := X1 87 _ rfl
  have hlim := T.nolimit.keeps st
  refine wpAny_call (call_plain_ret (binds := [(Str.ofString "told", .ref td)]) (by first | exact lim 0 hd | exact limT 0 hd | (show dp < _; omega)) hf rfl hlim (codeRec_of X1 (by rfl)) (by rfl) (locs (by rfl)) (fun h₁ F => ?_))
  have stB := hide_stays (as := [46]) st (by simp [h46])
  have T := T.keeps stB
  have X := X.keeps stB
  have C := C.keeps stB
  have F := Fr.hide [46] F
  have hkB : ∀ b ob, s.heap.get? b = some ob → h₁.get? b = some ob := fun b ob e => (‹Fr s.heap s.heap.objs.size h₁ _›).keep b ob e
  obtain ⟨otab, hP46⟩ := P.some
  have N : News (hideAll s.heap [46]) s.heap.objs.size h₁ [(46, otab)] := fun p hp => by
    rw [List.mem_singleton.mp hp]; exact ⟨hkB _ _ hP46, Nat.ne_of_lt (Heap.lt_size hP46), hideAll_none _ (.head _)⟩
  clear X1 hf
  w_on
  iterate 7 walk1
  rename_i rl h3 l46 h4 F4 N4
  have P4 : ParTab h4 := P.at hP46 F4.keep (N4 (46, otab) (by k_mem)).1
  have L46 : @Ne Nat s.heap.objs.size 46 := Nat.ne_of_gt (Heap.lt_size hP46)
  refine For_rangeH (hideAll s.heap [46]) rfl (by rfl) (by rfl) ?_
  k_steps
  rename_i h5 _ tr1 tr2 tr3 R5 F5 N5 k5
  have P5 : ParTab h5 := P.at hP46 F5.keep (N5 (46, otab) (by k_mem)).1
  have hszL : s.heap.objs.size < h5.objs.size := F5.ns.lt
  let D : Addr → Prop := InD s h5.objs.size rl
  let J : Nat → (Str → Option Value) → Heap → Prop := ApartJ w s h5.objs.size rl td one t1
  have hrlL : rl ≠ s.heap.objs.size := (N5 (rl, _) (by k_mem)).2.1
  have hrlI : rl ≠ h5.objs.size := Nat.ne_of_lt (Heap.lt_size (N5 (rl, _) (by k_mem)).1)
  have hI46 : h5.objs.size ≠ 46 := Nat.ne_of_gt (Heap.lt_size (N5 (46, otab) (by k_mem)).1)
  have hrlB : (hideAll s.heap [46]).get? rl = none := (N5 (rl, _) (by k_mem)).2.2
  refine ⟨_, 2, _, _, _, _, J, rfl, R5, by omega, F5, ⟨rfl, rfl, P5, [], 0, (N5 (rl, _) (by k_mem)).1, rfl, fun as _ j v hv => by simp at hv⟩, ?_, ?_, ?_⟩
  · rintro i m₁ h h' ⟨q1, q2, qP, vs, k, qt, ql, qL⟩ hL hI hk
    refine ⟨q1, q2, qP.but hL hI hk, vs, k, hk _ _ hrlL hrlI qt, ql, fun as has => ?_⟩
    refine (qL (s.heap.objs.size :: h5.objs.size :: as) (fun a ha => ?_)).keeps (hide_mono fun b ob hb e => ?_)
    · revert a ha
      exact all_cons InD.c3 (all_cons InD.c1 has)
    · exact ⟨nm_tl (nm_tl hb), hk _ _ (nm_hd hb) (nm_hd (nm_tl hb)) e⟩
  · rintro i m₁ u h tk own hi ⟨q1, q2, qP, vs, k, qt, ql, qL⟩ F6 N6 ⟨ia, ib, rfl⟩
    k_fold
    obtain ⟨pl, Npl, hpb, hpk⟩ := rest_of F6 [s.heap.objs.size, h5.objs.size, rl, 46] (by exact .head _)
    obtain ⟨ot, hot⟩ := qP.some
    have hB46 : (hideAll s.heap [46]).get? 46 = none := hideAll_none _ (.head _)
    have N6' : News (hideAll s.heap [46]) s.heap.objs.size h ((rl, lst vs k) :: (46, ot) :: (h5.objs.size, itObj ia ib) :: pl) :=
      all_cons ⟨qt, hrlL, hrlB⟩ (all_cons ⟨hot, Ne.symm L46, hB46⟩ (all_cons (N6 _ (.head _)) Npl))
    have hIat := (N6 _ (.head _)).1
    clear N6 Npl
    have F6 := Fr.over F6 [(Str.ofString "turn", .int i u), (Str.ofString "row", .ref rl), (Str.ofString "told", .ref td)] ⟨rfl, q1, q2, trivial⟩
    clear F5 N5
    k_steps
    rename Fr _ _ _ _ => F6
    have hB46 : (hideAll s.heap [46]).get? 46 = none := hideAll_none _ (.head _)
    have rl46 : rl ≠ 46 := Nat.ne_of_gt l46
    have tdrl : td ≠ rl := fun e => by obtain ⟨o, _, _, q, _⟩ := ht; rw [e, hrlB] at q; cases q
    have F6k := F6.keep
    have Npl : News (hideAll s.heap [46]) s.heap.objs.size h pl := fun q hq => N6' q (.tail _ (.tail _ (.tail _ hq)))
    refine parent_spec T X (by exact F6.keep) hB46 C qP (by first | exact lim 1 hd | exact limT 1 hd | (show dp + 1 < _; omega)) fun p h8 tk8 st8 P8 par8 => ?_
    have F8 := Fr.holed F6 hB46 L46 st8
    have rl8 : h8.get? rl = some (lst vs k) := holed_get st8 qt rl46
    have I8 : h8.get? h5.objs.size = some (itObj ia ib) := holed_get st8 hIat hI46
    have pl8 := News.rest Npl hpb (by simp) st8
    have hIL : h5.objs.size ≠ s.heap.objs.size := Nat.ne_of_gt hszL
    have hIB := (N6' (h5.objs.size, itObj ia ib) (by k_mem)).2.2
    have pls8 : ∀ p ∈ pl, h8.get? p.1 = some p.2 := fun p hp => (pl8 p hp).1
    obtain ⟨oL8, _, _, eL8, _⟩ := ns_ob F8.ns
    have Dx8 : ∀ a, D a → ∃ ob, h8.get? a = some ob := fun a q => InD.elim (R := fun a => ∃ ob, h8.get? a = some ob) q ⟨_, I8⟩ ⟨_, rl8⟩ ⟨_, eL8⟩ P8.some fun b ob e => ⟨_, F8.keep _ _ e⟩
    have N8 := News.ins rl8 hrlL hrlB (News.ins I8 hIL hIB pl8)
    have T8 := T
    refine tk_any (s₀ := s) (h := h8) fun tk8' => ?_
    k_steps
    show wpAny _ _ (call (.ref 23) [.ref p, .str (Str.ofString "y") _, .ref td] []) _ _ _
    refine sub_told (n := k) T X (by exact F8.keep) hrlB (by first | exact lim 3 hd | exact limT 3 hd | (show dp + 1 + 2 < _; omega)) par8 (by exact rl8) (by omega) (dictOf_keeps ht F8.keep) htS tdrl (by simp) ?_
    intro el d gl n1 od h9 tk9 hdS st9 M9 hod9 rl9 hne9
    have F9 := Fr.holed F8 hrlB (Ne.symm hrlL) st9
    have P9 : ParTab h9 := P8.holed (by exact rl8) st9
    have el9 := mget M9 (.head _)
    have eln := mnew M9 (.head _)
    have gl9 := mget M9 (.tail _ (.head _))
    have gln := mnew M9 (.tail _ (.head _))
    have d9 := mget M9 (.tail _ (.tail _ (.head _)))
    have dn := mnew M9 (.tail _ (.tail _ (.head _)))
    have elL := frame_ne F8 eln
    have elB := none_of F8 eln
    have dL := frame_ne F8 dn
    have dB := none_of F8 dn
    have I9 : h9.get? h5.objs.size = some (itObj ia ib) := holed_get st9 I8 (Ne.symm hrlI)
    have pl9 := News.rest pl8 hpb (by simp) st9
    have N9 := News.ins rl9 hrlL hrlB (News.ins I9 hIL hIB (News.ins el9 elL elB (News.ins d9 dL dB pl9)))
    clear N8
    refine tk_any (s₀ := s) (h := h9) fun tk9' => ?_
    k_steps
    refine parent_spec T X (by exact F9.keep) hB46 C P9 (by first | exact lim 1 hd | exact limT 1 hd | (show dp + 1 < _; omega)) fun p' h10 tk10 st10 P10 par10 => ?_
    have F10 := Fr.holed F9 hB46 L46 st10
    obtain ⟨ot9, hot9⟩ := P9.some
    have ne46 : ∀ {a}, h8.get? a = none → a ≠ 46 := fun n => by
      obtain ⟨o8, e8⟩ := P8.some
      exact ne_new e8 n
    have rl10 := holed_get st10 rl9 rl46
    have I10 := holed_get st10 I9 hI46
    have el10 := holed_get st10 el9 (ne46 eln)
    have d10 := holed_get st10 d9 (ne46 dn)
    have pl10 := News.rest pl9 hpb (by simp) st10
    have pls10 : ∀ p ∈ pl, h10.get? p.1 = some p.2 := fun p hp => (pl10 p hp).1
    obtain ⟨oL10, _, _, eL10, _⟩ := ns_ob F10.ns
    have Dx10 : ∀ a, D a → ∃ ob, h10.get? a = some ob := fun a q => InD.elim (R := fun a => ∃ ob, h10.get? a = some ob) q ⟨_, I10⟩ ⟨_, rl10⟩ ⟨_, eL10⟩ P10.some fun b ob e => ⟨_, F10.keep _ _ e⟩
    have N10 := News.ins rl10 hrlL hrlB (News.ins I10 hIL hIB (News.ins el10 elL elB (News.ins d10 dL dB pl10)))
    clear N9
    refine tk_any (s₀ := s) (h := h10) fun tk10' => ?_
    k_steps
    show wpAny _ _ (call (.ref 23) [.ref p', .str (Str.ofString "y") _] []) _ _ _
    refine sub_none (n := k + 1) T X (by exact F10.keep) hrlB (by first | exact lim 3 hd | exact limT 3 hd | (show dp + 1 + 2 < _; omega)) par10 (by exact rl10) (by simp; omega) ?_
    intro el' d' gl' n1' od' h11 tk11 hdS' st11 M11 hod11 rl11 hne11
    have F11 := Fr.holed F10 hrlB (Ne.symm hrlL) st11
    have P11 : ParTab h11 := P10.holed (by exact rl10) st11
    have el11' := mget M11 (.head _)
    have eln' := mnew M11 (.head _)
    have gl11' := mget M11 (.tail _ (.head _))
    have gln' := mnew M11 (.tail _ (.head _))
    have d11' := mget M11 (.tail _ (.tail _ (.head _)))
    have dn' := mnew M11 (.tail _ (.tail _ (.head _)))
    have elL' := frame_ne F10 eln'
    have elB' := none_of F10 eln'
    have dL' := frame_ne F10 dn'
    have dB' := none_of F10 dn'
    have I11 := holed_get st11 I10 (Ne.symm hrlI)
    have el11 := holed_get st11 el10 (hne9.1)
    have d11 := holed_get st11 d10 (hne9.2.1)
    have k611 : ∀ b o, b ≠ 46 → b ≠ rl → h.get? b = some o → h11.get? b = some o := fun b o b1 b2 e => holed_get st11 (holed_get st10 (holed_get st9 (holed_get st8 e b1) b2) b1) b2
    obtain ⟨pl2, Npl2, hpb2, hpk2⟩ := rest_of F11 [s.heap.objs.size, h5.objs.size, rl, 46, el, d, el', d'] (by exact .head _)
    obtain ⟨oL11, es11, ep11, eL11, dL11⟩ := ns_ob F11.ns
    obtain ⟨ot11, hot11⟩ := P11.some
    have N11 := News.ins rl11 hrlL hrlB (News.ins hot11 (Ne.symm L46) hB46 (News.ins I11 hIL hIB (News.ins el11 elL elB (News.ins d11 dL dB
      (News.ins el11' elL' elB' (News.ins d11' dL' dB' Npl2))))))
    have a1 : el ≠ d := hne9.2.2.2.2.1
    have a2 : el' ≠ d' := hne11.2.2.2.2.1
    have a3 : el' ≠ el := ne_new el10 eln'
    have a4 : el' ≠ d := ne_new d10 eln'
    have a5 : d' ≠ el := ne_new el10 dn'
    have a6 : d' ≠ d := ne_new d10 dn'
    clear N10 Npl2
    refine tk_any (s₀ := s) (h := h11) fun tk11' => ?_
    k_steps
    rename_i TU h12 F12 N12 l12
    refine tk_any (s₀ := s) (h := h12) fun tk12' => ?_
    refine iter_tupTurns (vs := [.ref el, .ref el']) (n := 0) rfl F12 N12 (.head _) rfl rfl fun I2 lI2 => ?_
    refine ItemsRest.val fun h13 tk13 F13 => AllObj.cons fun oI hoI => AllObj.nil fun N13 => ?_
    rw [List.cons_append, List.nil_append] at N13
    k_steps
    rename_i h14 F14 N14
    have dS : ∀ {o : Obj} {b : Addr}, h8.get? b = none → h8.get? rl = some o → b ≠ rl := fun n e => ne_new e n
    have pd : ∀ p ∈ pl2, p.1 ≠ d := fun p hp e => hpb2 p hp (by rw [e]; simp)
    have pd' : ∀ p ∈ pl2, p.1 ≠ d' := fun p hp e => hpb2 p hp (by rw [e]; simp)
    have dI : ∀ {b}, h8.get? b = none → h5.objs.size ≠ b := fun n => Ne.symm (ne_new I8 n)
    have dI' : ∀ {b}, h10.get? b = none → h5.objs.size ≠ b := fun n => Ne.symm (ne_new I10 n)
    have n46' : ∀ {a}, h10.get? a = none → a ≠ 46 := fun n => by
      obtain ⟨o8, e8⟩ := P10.some
      exact ne_new e8 n
    refine wpAny_setItem_pairs (knd := knd w) (k := Str.ofString "turn") (strKind_is _ _ _ _) (Heap.dictOf_iff.mpr ⟨od, (N14 (d, od) (by k_mem)).1, hod9⟩) (fun h15 hd15 hs15 => ?_) (by rw [sizeLine_eq]; show 1 ≤ _; decide)
    obtain ⟨od15, d15, hod15⟩ := dict_ob hd15
    have k15 : ∀ b ob, b ≠ d → h14.get? b = some ob → h15.get? b = some ob := fun b ob hb e => (hs15.2 b hb).trans e
    have F15 := Fr.stored F14 (Ne.symm dL) dB k15
    have lt1 : TU < I2 := lI2 (TU, _) (by k_mem)
    have lt2 : rl < I2 := lI2 (rl, _) (by k_mem)
    have lt3 : 46 < I2 := lI2 (46, ot11) (by k_mem)
    have lt4 : h5.objs.size < I2 := lI2 (h5.objs.size, _) (by k_mem)
    have lt5 : el < I2 := lI2 (el, _) (by k_mem)
    have lt6 : d < I2 := lI2 (d, od) (by k_mem)
    have lt7 : el' < I2 := lI2 (el', _) (by k_mem)
    have lt8 : d' < I2 := lI2 (d', od') (by k_mem)
    have ltP : ∀ p ∈ pl2, p.1 < I2 := fun p hp => lI2 p (by simp [hp])
    have I2d : I2 ≠ d := Nat.ne_of_gt lt6
    have I2d' : I2 ≠ d' := Nat.ne_of_gt lt8
    have N15 := News.ins (k15 TU _ (by show @Ne Nat TU d; omega) (N14 (TU, _) (by k_mem)).1) (N14 (TU, _) (by k_mem)).2.1 (N14 (TU, _) (by k_mem)).2.2 (News.ins (k15 rl _ (Ne.symm hne9.2.1) (N14 (rl, _) (by k_mem)).1) hrlL hrlB (News.ins (k15 46 _ (Ne.symm (ne46 dn)) (N14 (46, ot11) (by k_mem)).1) (Ne.symm L46) hB46 
      (News.ins (k15 _ _ (dI dn) (N14 (h5.objs.size, _) (by k_mem)).1) hIL hIB (News.ins (k15 el _ a1 (N14 (el, _) (by k_mem)).1) elL elB (News.ins d15 dL dB
      (News.ins (k15 el' _ a4 (N14 (el', _) (by k_mem)).1) elL' elB' (News.ins (k15 d' _ a6 (N14 (d', _) (by k_mem)).1) dL' dB' 
      (fun p hp => ⟨k15 _ _ (pd p hp) (N14 p (by simp [hp])).1, (N14 p (by simp [hp])).2⟩ : News (hideAll s.heap [46]) s.heap.objs.size h15 pl2))))))))
    k_steps
    refine ⟨h15, _, _, (TU, _) :: (rl, _) :: (46, ot11) :: (h5.objs.size, _) :: (el, _) :: (d, od15) :: (el', _) :: (d', od') :: pl2, rfl, F15, News.ins (k15 I2 _ I2d (N14 (I2, _) (.head _)).1) (N14 (I2, _) (.head _)).2.1 (N14 (I2, _) (.head _)).2.2 N15, ?_, ⟨.head _, trivial⟩, ?_⟩
    · exact ne_one (all_cons lt1 (all_cons lt2 (all_cons lt3 (all_cons lt4 (all_cons lt5 (all_cons lt6 (all_cons lt7 (all_cons lt8 ltP))))))))
    refine ItemsRest.val fun h16 tk16 F16 => AllObj.cons fun oI hoI => AllObj.nil fun N16 => ?_
    rw [List.cons_append, List.nil_append] at N16
    clear N15 F15
    k_steps
    rename_i h17 F17 N17
    refine wpAny_setItem_pairs (knd := knd w) (k := Str.ofString "turn") (strKind_is _ _ _ _) (Heap.dictOf_iff.mpr ⟨od', (N17 (d', od') (by k_mem)).1, hod11⟩) (fun h18 hd18 hs18 => ?_) (by rw [sizeLine_eq]; show 0 ≤ _; decide)
    obtain ⟨od18, d18, hod18⟩ := dict_ob hd18
    have k18 : ∀ b ob, b ≠ d' → h17.get? b = some ob → h18.get? b = some ob := fun b ob hb e => (hs18.2 b hb).trans e
    have F18 := Fr.stored F17 (Ne.symm dL') dB' k18
    have N18 := News.ins (k18 TU _ (by show @Ne Nat TU d'; omega) (N17 (TU, _) (by k_mem)).1) (N17 (TU, _) (by k_mem)).2.1 (N17 (TU, _) (by k_mem)).2.2 (News.ins (k18 rl _ (Ne.symm hne11.2.1) (N17 (rl, _) (by k_mem)).1) hrlL hrlB (News.ins (k18 46 _ (Ne.symm (n46' dn')) (N17 (46, ot11) (by k_mem)).1) (Ne.symm L46) hB46 
      (News.ins (k18 _ _ (dI' dn') (N17 (h5.objs.size, _) (by k_mem)).1) hIL hIB (News.ins (k18 el _ (Ne.symm a5) (N17 (el, _) (by k_mem)).1) elL elB (News.ins (k18 d _ (Ne.symm a6) (N17 (d, od15) (by k_mem)).1) dL dB
      (News.ins (k18 el' _ a2 (N17 (el', _) (by k_mem)).1) elL' elB' (News.ins d18 dL' dB' 
      (fun p hp => ⟨k18 _ _ (pd' p hp) (N17 p (by simp [hp])).1, (N17 p (by simp [hp])).2⟩ : News (hideAll s.heap [46]) s.heap.objs.size h18 pl2))))))))
    k_steps
    refine ⟨h18, _, _, (TU, _) :: (rl, _) :: (46, ot11) :: (h5.objs.size, _) :: (el, _) :: (d, od15) :: (el', _) :: (d', od18) :: pl2, rfl, F18, News.ins (k18 I2 _ I2d' (N17 (I2, _) (.head _)).1) (N17 (I2, _) (.head _)).2.1 (N17 (I2, _) (.head _)).2.2 N18, ?_, ⟨.head _, trivial⟩, ?_⟩
    · exact ne_one (all_cons lt1 (all_cons lt2 (all_cons lt3 (all_cons lt4 (all_cons lt5 (all_cons lt6 (all_cons lt7 (all_cons lt8 ltP))))))))
    refine ItemsRest.zero fun h19 tk19 F19 N19 => ?_
    clear N18 F18
    k_steps
    have k19 : ∀ b o, b ∉ [s.heap.objs.size, h5.objs.size, rl, el, d, el', d'] → h11.get? b = some o → h19.get? b = some o :=
      hk_but [s.heap.objs.size, h5.objs.size, rl] (c := [el, d, el', d']) hot11 (nget N19 (a := 46) (o := ot11) (by k_mem)) (hpk2 h19 F19.keep fun p hp => (N19 p (by simp [hp])).1)
    obtain ⟨esd, nd, hodd⟩ : ∃ es n', od.data = .dict es n' := by
      obtain ⟨es, n', -, hdd, -⟩ := hod9; exact ⟨es, n', hdd⟩
    obtain ⟨esd', nd', hodd'⟩ : ∃ es n', od'.data = .dict es n' := by
      obtain ⟨es, n', -, hdd, -⟩ := hod11; exact ⟨es, n', hdd⟩
    have P19 : ParTab h19 := P11.rest _ (all_cons (plain_of eL11 (plain_dict dL11)) (all_cons (plain_of I11 (plain_it _ _)) (all_cons (plain_of rl11 (plain_lst _ _)) (all_cons (plain_of el11 (plain_lst _ _)) (all_cons (plain_of d11 (plain_dict hodd)) (all_cons (plain_of el11' (plain_lst _ _)) (all_one (plain_of d11' (plain_dict hodd'))))))))) k19
    refine ⟨h19, _, _, rfl, F19, fun q hq => by rw [List.mem_singleton.mp hq]; exact N19 (h5.objs.size, itObj ia ib) (by k_mem), rfl, rfl, P19, vs ++ [.ref el] ++ [.ref el'], _, (N19 (rl, _) (by k_mem)).1, by simp [ql]; omega, fun as has j v hv => ?_⟩
    have hel : el ∉ as := fun q => by obtain ⟨ob, e⟩ := Dx8 _ (has _ q); rw [eln] at e; cases e
    have hdd : d ∉ as := fun q => by obtain ⟨ob, e⟩ := Dx8 _ (has _ q); rw [dn] at e; cases e
    have hel' : el' ∉ as := fun q => by obtain ⟨ob, e⟩ := Dx10 _ (has _ q); rw [eln'] at e; cases e
    have hdd' : d' ∉ as := fun q => by obtain ⟨ob, e⟩ := Dx10 _ (has _ q); rw [dn'] at e; cases e
    rcases Nat.lt_or_ge j vs.length with hj | hj
    · rw [List.append_assoc, List.getElem?_append_left hj] at hv
      have xr := qL (s.heap.objs.size :: h5.objs.size :: rl :: 46 :: as) (all_cons InD.c3 (all_cons InD.c1 (all_cons InD.c2 (all_cons InD.c4 has))))
      refine (xr.keeps (hide_mono fun b ob hb e => ?_)) j v hv
      have b1 := nm_tl hb
      have b2 := nm_tl b1
      have b3 := nm_tl b2
      have e8 := holed_get st8 e (nm_hd b3)
      have e10 := holed_get st10 (holed_get st9 e8 (nm_hd b2)) (nm_hd b3)
      refine ⟨nm_tl b3, k19 b ob ?_ (k611 b ob (nm_hd b3) (nm_hd b2) e)⟩
      exact nm_cons (nm_hd hb) (nm_cons (nm_hd b1) (nm_cons (nm_hd b2) (nm_cons (Ne.symm (ne_new e8 eln)) (nm_cons (Ne.symm (ne_new e8 dn)) (nm_cons (Ne.symm (ne_new e10 eln')) (nm_cons (Ne.symm (ne_new e10 dn')) nm_nil))))))
    · rcases Nat.lt_or_ge j (vs.length + 1) with hj1 | hj1
      · obtain rfl : j = vs.length := by omega
        rw [List.append_assoc, List.getElem?_append_right (Nat.le_refl _), Nat.sub_self] at hv
        cases hv
        refine ⟨el, d, gl, _, u, rfl, ⟨_, hideAll_get _ (N19 (el, _) (by k_mem)).1 hel, rfl, n1, rfl⟩, hdS, ?_⟩
        rw [rowD, if_pos (by rw [ql]; omega), ql, Nat.mul_div_cancel_left _ (by omega)]
        exact Heap.dictOf_iff.mpr ⟨od15, hideAll_get _ (N19 (d, od15) (by k_mem)).1 hdd, hod15⟩
      · obtain rfl : j = vs.length + 1 := by
          have := (List.getElem?_eq_some_iff.mp hv).1
          simp at this; omega
        rw [List.getElem?_append_right (by simp)] at hv
        simp at hv
        subst hv
        refine ⟨el', d', gl', _, u, rfl, ⟨_, hideAll_get _ (N19 (el', _) (by k_mem)).1 hel', rfl, n1', rfl⟩, hdS', ?_⟩
        rw [rowD, if_neg (by rw [ql]; omega), ql, show (2 * i + 1) / 2 = i by omega]
        exact Heap.dictOf_iff.mpr ⟨od18, hideAll_get _ (N19 (d', od18) (by k_mem)).1 hdd', hod18⟩
  · rintro m₁ h tk ⟨q1, q2, qP, vs, k, qt, ql, qL⟩ F6
    have F6 := Fr.over F6 [(Str.ofString "row", .ref rl)] ⟨q1, trivial⟩
    clear F5 N5
    iterate 2 walk1
    refine comp_expr (cl := []) (by rfl) rfl (by decide) (by decide) (by decide) ?_
    walk1
    have xr : RowAt w one t1 h vs := qL [] (fun a ha => by cases ha)
    refine compAt_list (news := []) rfl ⟨_, qt, rfl, k, rfl⟩ h (fun _ _ e => e) (Nat.le_refl _) (fun i ys news => ∀ j y, ys[j]? = some y → ∃ d t', y = .ref d ∧ (d == sysModules) = false ∧ h.DictOf (knd w) d (rowD one t1 j t')) (fun p hp => by cases hp) (fun j y hy => by simp at hy) (by omega) ?_ ?_
    · intro It C D' i v m₂ ys ep news₁ own h7 tk7 hIt hItD hDC hv hJ hys ho hnw hIo F N
      obtain ⟨el, d, gl, tke, t', rfl, hel, hdS, hdd⟩ := xr i v hv
      have hel := isList_keeps hel F.keep
      k_steps
      refine ⟨h7, _, _, news₁, rfl, F, N, hnw, fun j y hy => ?_⟩
      rcases Nat.lt_or_ge j i with hj | hj
      · rw [List.getElem?_append_left (by omega)] at hy
        exact hJ j y hy
      · obtain rfl : j = i := by
          have := (List.getElem?_eq_some_iff.mp hy).1
          simp at this; omega
        rw [List.getElem?_append_right (by omega), hys, Nat.sub_self] at hy
        cases hy
        exact ⟨d, t', rfl, hdS, hdd⟩
    · intro D' h7 tk7 ys ep news' st7 hN7 hD hys hJ
      have F7 := Fr.stays F6 st7
      have P7 : ParTab h7 := qP.rest [] (fun c hc => by cases hc) (fun b ob _ e => st7 b ob e)
      have hsD : s.heap.get? D' = none := by
        cases e : s.heap.get? D' with
        | none => rfl
        | some o =>
          by_cases h46' : D' = 46
          · obtain ⟨o', e'⟩ := qP.some
            rw [h46', e'] at hD; cases hD
          · have := F6.keep D' o (hideAll_get _ e (by simpa using h46'))
            exact absurd (this.symm.trans hD) (by simp)
      k_steps
      exact hret _ _ _ _ _ F7.keep P7 (fun p hp => by rw [List.mem_singleton.mp hp]; exact ⟨(hN7 _ (.head _)).1, hsD⟩) (by omega) fun j y hy => by
        obtain ⟨d, t', q1, q2, q3⟩ := hJ j y hy
        exact ⟨d, t', q1, q2, dictOf_keeps q3 st7⟩
end Mine
end
section
open PySem PySem.W PyProof.Rows PySem.Spec PySem.Calls PySem.SeqAt AutoSeq1 MeetsSeq MeetsSeq2 MeetsSeq3
set_option maxRecDepth 100000
namespace Mine
section
variable {prog : Program} {w : World}
noncomputable def EqW (prog : Program) (w : World) (A : Around) (s : Shared) (y x : Value) : Prop :=
  ∀ (E : Value → Shared → Prop) (Q : Bool → Shared → Prop), Q true s → wpAny (model prog w) A (eqBool y x) Q E s
theorem EqW.of {A : Around} {s : Shared} {y x : Value} (h : SeqAt.EqAt A s y x true) : EqW prog w A s y x := fun E Q q => h prog w E Q q
theorem EqW.dicts {K : Type} [DecidableEq K] {kd : KeyKind prog w K} {A : Around} {s : Shared} {a b : Addr} {ka kb : List (K × Value)} (ha : (a == sysModules) = false) (hb : (b == sysModules) = false)
    (da : s.heap.DictOf kd a ka) (db : s.heap.DictOf kd b kb) (hu : A.units < cLine) (hl : ka.length = kb.length) (hits : KeqHits A.in1 s kb ka true) : EqW prog w A s (.ref a) (.ref b) := fun E Q q => by
  by_cases hab : a = b
  · subst hab; exact SeqAt.EqAt.same (.ref a) prog w E Q q
  unfold eqBool
  refine wpAny_holding ?_
  refine wpAny_ite_split (fun h => absurd (by have := eq_of_beq h; injection this) hab) (fun _ => ?_)
  refine wpAny_bind (keq_eq ha hb da db hu (fun _ => hits) (wpAny_truthy_bool ?_))
  rw [hl]
  simpa using q
theorem neLoopW (l b : Addr) (items items2 : Array Value) (n n2 : Nat) (dd dd2 : Option Addr) (sl sl2 : Array (Option Value)) (hsz : items.size = items2.size) (k : Nat) :
    ∀ i : Nat, items.size - i = k → ∀ (A : Around) (R : Result → Shared → Prop) (s : Shared), s.heap.get? l = some { cls := .type "list", dict := dd, data := .seq items n, slots := sl } → s.heap.get? b = some { cls := .type "list", dict := dd2, data := .seq items2 n2, slots := sl2 } →
        (∀ j (h1 : j < items.size) (h2 : j < items2.size), EqW prog w A.in1 s items[j] items2[j]) → R (.ok (.ret (.bool false))) s →
      wpAny (model prog w) A.in1 (Builtin.«list.__eq__.loop» ⟨[.ref l, .ref b, rawInt i, rawInt 3], []⟩) (fun fin s' => match fin with | .done f => R (.ok f) s' | .again c' => c'.quiet = true ∧ codeAny (model prog w) A c' R s') (fun e s' => R (.error e) s') s := by
  induction k with
  | zero =>
    intro i hk A R s hl hb he h
    obtain ⟨hp, g, d, tk, os⟩ := s
    wp_walk using wpAny_loadPart' hl, wpAny_loadPart' hb
    have hi1 : items[((i : Nat) : Int).toNat]? = none := by simp; omega
    have hi2 : items2[((i : Nat) : Int).toNat]? = none := by simp; omega
    rw [hi1, hi2]
    wp_walk using wpAny_loadPart' hl, wpAny_loadPart' hb
    show R (.ok (.ret (.bool (items.size != items2.size)))) _
    rw [hsz]
    simpa using h
  | succ k ih =>
    intro i hk A R s hl hb he h
    obtain ⟨hp, g, d, tk, os⟩ := s
    wp_walk using wpAny_loadPart' hl, wpAny_loadPart' hb
    have hlt : i < items.size := by omega
    have hlt2 : i < items2.size := by omega
    have hi1 : items[((i : Nat) : Int).toNat]? = some items[i] := by simp [hlt]
    have hi2 : items2[((i : Nat) : Int).toNat]? = some items2[i] := by simp [hlt2]
    have hc : ((i : Int) + 1) = ((i + 1 : Nat) : Int) := by push_cast; rfl
    rw [hi1, hi2]
    refine wpAny_bind (he i hlt hlt2 _ _ ?_)
    wp_walk
    rw [hc]
    exact ⟨plainId_quiet plain_eq_loop _, codeAny_builtin entry_eq_loop (by
      rw [Around.under_plainId plain_eq_loop _]
      exact ih (i + 1) (ar_pred ‹_›) A R _ hl hb he h)⟩
theorem list_neW {A : Around} {s : Shared} {E : Value → Shared → Prop} {Q : Value → Shared → Prop} {l b : Addr} {items items2 : Array Value} (hl : s.heap.IsList l items) (hb : s.heap.IsList b items2) (hsz : items.size = items2.size) (hu : A.units < cLine)
    (he : ∀ j (h1 : j < items.size) (h2 : j < items2.size), EqW prog w A.in1 s items[j] items2[j]) (h : Q (.bool false) s) : wpAny (model prog w) A (compareOp .NotEq (.ref l) (.ref b)) Q E s := by
  obtain ⟨⟨cls, dd, data, sl⟩, ho, hc, n, hd⟩ := id hl
  obtain ⟨⟨cls2, dd2, data2, sl2⟩, ho2, hc2, n2, hd2⟩ := id hb
  simp only at hc hd hc2 hd2
  subst hc hd hc2 hd2
  have hT : s.TypeIs (.ref l) "list" := ⟨_, ho, rfl⟩
  refine wpAny_richCompare_same_room (op := .NotEq) hT ⟨_, ho2, rfl⟩ F.slot_list_ne (wpAny_call (codeAny_call_builtin F.slot_list_ne.plain F.entry_list_ne (F.slot_list_ne.check _ _ _ _ _ _ _ _ hT (F.args_list_ne_2 _ _) ?_))) hu
  obtain ⟨hp, g, d, tk, os⟩ := s
  have f3 := AutoSeq1.sub_list_list
  have hne : ¬ (items.size != items2.size) = true := by simp [hsz]
  wp_walk using wpAny_loadPart' ho, wpAny_loadPart' ho2
  exact ⟨plainId_quiet plain_eq_loop _, codeAny_builtin entry_eq_loop (by
    rw [Around.under_plainId plain_eq_loop _]
    exact neLoopW l b items items2 n n2 dd dd2 sl sl2 hsz _ 0 rfl A (wants (fun v s' => v ≠ .notImplemented ∧ Q v s') E) _ ho ho2 he ⟨(fun x => nomatch x), h⟩)⟩
end
end Mine
end
section
open PySem PySem.W PyProof.Rows PySem.Spec
namespace Mine
open Builtin Builtin.Str
noncomputable def lesser (m c : Nat) : Nat := if coll [c] [m] < 0 then c else m
noncomputable def leastOf (l : List Nat) : Nat := l.foldl lesser (l.headD 0)
noncomputable def Fine (l : List Nat) : Prop := 39 ∉ l ∧ ∀ c, l.count c ≤ 2
noncomputable def isNoneD : PyData → Bool
  | .none => true
  | _ => false
noncomputable def cutN : Nat → List Nat → PyData
  | 0, _ => .none
  | n + 1, l => if l = [] then .list [] else
    if (splitL [leastOf l] 2 l).length ≤ 2 then .none else
    if ((splitL [leastOf l] 2 l).map (cutN n)).any isNoneD = true then .none else .list (.str (chr (leastOf l)) :: (splitL [leastOf l] 2 l).map (cutN n))
theorem lesser_mem (m c : Nat) : lesser m c = m ∨ lesser m c = c := by unfold lesser; split <;> simp
theorem leastOf_mem {l : List Nat} (h : l ≠ []) : leastOf l ∈ l := by
  have all : ∀ (r : List Nat) (b : Nat), r.foldl lesser b = b ∨ r.foldl lesser b ∈ r := by
    intro r
    induction r with
    | nil => intro b; exact .inl rfl
    | cons c r ih =>
      intro b
      rw [List.foldl_cons]
      rcases ih (lesser b c) with e | e
      · rcases lesser_mem b c with e' | e'
        · exact .inl (e.trans e')
        · exact .inr (by rw [e, e']; exact .head _)
      · exact .inr (.tail _ e)
  cases l with
  | nil => exact absurd rfl h
  | cons c r =>
    rcases all (c :: r) c with e | e
    · unfold leastOf; rw [List.headD_cons, e]; exact .head _
    · exact e
theorem findL_one {c : Nat} : ∀ {l a r : List Nat}, findL [c] l = some (a, r) → c ∉ a
  | [], a, r, h => by simp [findL] at h
  | b :: l, a, r, h => by
    unfold findL at h
    split at h
    · cases h; simp
    · rename_i hp
      cases e : findL [c] l with
      | none => rw [e] at h; cases h
      | some q =>
        rw [e] at h; cases h
        have := findL_one (l := l) (a := q.1) (r := q.2) (by rw [e])
        intro hm
        rcases List.mem_cons.mp hm with rfl | hm
        · exact hp (by simp [List.isPrefixOf])
        · exact this hm
theorem findL_no {c : Nat} : ∀ {l : List Nat}, findL [c] l = none → c ∉ l
  | [], _ => by simp
  | b :: l, h => by
    unfold findL at h
    split at h
    · cases h
    · rename_i hp
      have h' : findL [c] l = none := by cases e : findL [c] l with
        | none => rfl
        | some q => rw [e] at h; cases h
      have := findL_no h'
      intro hm
      rcases List.mem_cons.mp hm with rfl | hm
      · exact hp (by simp [List.isPrefixOf])
      · exact this hm
theorem pieces {l : List Nat} {c : Nat} (hF : Fine l) (hc : c ∈ l) :
    (∃ a r, l = a ++ c :: r ∧ c ∉ a ∧ c ∉ r ∧ splitL [c] 2 l = [a, r] ∧ splitL [c] (l.length + 1) l = [a, r]) ∨
    ∃ a m b, l = a ++ c :: (m ++ c :: b) ∧ c ∉ a ∧ c ∉ m ∧ c ∉ b ∧ splitL [c] 2 l = [a, m, b] ∧ splitL [c] (l.length + 1) l = [a, m, b] := by
  cases e : findL [c] l with
  | none => exact absurd hc (findL_no e)
  | some q =>
    obtain ⟨a, r⟩ := q
    have ha := findL_one e
    have hl : l = a ++ c :: r := by simpa using findL_some e
    obtain ⟨n, hn⟩ : ∃ n, l.length + 1 = n + 2 := ⟨a.length + r.length, by rw [hl, List.length_append, List.length_cons]; rfl⟩
    cases e2 : findL [c] r with
    | none =>
      refine .inl ⟨a, r, hl, ha, findL_no e2, ?_, ?_⟩
      · simp only [splitL, e, e2]
      · rw [hn]; simp only [splitL, e, e2]
    | some q2 =>
      obtain ⟨m, b⟩ := q2
      have hm := findL_one e2
      have hr : r = m ++ c :: b := by simpa using findL_some e2
      have hb : c ∉ b := fun h => by
        have h2 := hF.2 c
        have h3 := List.count_pos_iff.mpr h
        rw [hl, hr] at h2
        simp only [List.count_append, List.count_cons_self] at h2
        omega
      refine .inr ⟨a, m, b, by rw [hl, hr], ha, hm, hb, ?_, ?_⟩
      · simp only [splitL, e, e2]
      · obtain ⟨k, hk⟩ : ∃ k, l.length + 1 = k + 3 := ⟨l.length - 2, by rw [hl, hr]; simp; omega⟩
        rw [hk]; simp only [splitL, e, e2, findL_out hb]
theorem join2 (z : Str) (a b : List Nat) : Str.join z [wd a, wd b] = wd (a ++ (z.cps.toList ++ b)) := by
  show wd a ++ z ++ wd b = _
  rw [← wd_of z, wd_append, wd_append, List.append_assoc]
theorem join3 (z : Str) (a m b : List Nat) : Str.join z [wd a, wd m, wd b] = wd (a ++ (z.cps.toList ++ (m ++ (z.cps.toList ++ b)))) := by
  show wd a ++ z ++ (wd m ++ z ++ wd b) = _
  rw [← wd_of z, wd_append, wd_append, wd_append, wd_append]
  simp only [List.append_assoc]
theorem cutParts_is {l : List Nat} {c : Nat} (hF : Fine l) (hc : c ∈ l) (h256 : c < 256) : Txt.splitMax (Txt.replace (wd l) (chr c) tick) tick 2 = (splitL [c] 2 l).map wd := by
  have hs : Txt.split (wd l) (chr c) = (splitL [c] (l.length + 1) l).map wd := split_is l [c] (by simp) (by simpa using h256)
  have ht : tick = wd [39] := rfl
  have ho : 39 ∉ l := hF.1
  rw [StrLaws.replace_one, hs]
  rcases pieces hF hc with ⟨a, r, hl, ha, hr, e1, e2⟩ | ⟨a, m, b, hl, ha, hm, hb, e1, e2⟩
  · rw [e1, e2]
    simp only [List.map_cons, List.map_nil]
    rw [join2, ht, show (2 : Int) = ((2 : Nat) : Int) from rfl, splitMax_is _ [39] (by simp) (by simp) 2 (by omega)]
    rw [hl] at ho
    simp only [List.mem_append, List.mem_cons, not_or] at ho
    have h1 : findL [39] (a ++ ((wd [39]).cps.toList ++ r)) = some (a, r) := findL_free ho.1 r
    have h2 : findL [39] r = none := findL_out ho.2.2
    simp only [splitL, h1, h2, List.map_cons, List.map_nil]
  · rw [e1, e2]
    simp only [List.map_cons, List.map_nil]
    rw [join3, ht, show (2 : Int) = ((2 : Nat) : Int) from rfl, splitMax_is _ [39] (by simp) (by simp) 2 (by omega)]
    rw [hl] at ho
    simp only [List.mem_append, List.mem_cons, not_or] at ho
    have h1 : findL [39] (a ++ ((wd [39]).cps.toList ++ (m ++ ((wd [39]).cps.toList ++ b)))) = some (a, m ++ ((wd [39]).cps.toList ++ b)) := findL_free ho.1 _
    have h2 : findL [39] (m ++ ((wd [39]).cps.toList ++ b)) = some (m, b) := findL_free ho.2.2.1 _
    simp only [splitL, h1, h2, List.map_cons, List.map_nil]
theorem Fine.sub {l k : List Nat} (h : Fine l) (s : k.Sublist l) : Fine k := ⟨fun hm => h.1 (s.subset hm), fun c => Nat.le_trans (s.count_le c) (h.2 c)⟩
theorem piece_of {l : List Nat} (hF : Fine l) (h0 : l ≠ []) : ∀ q ∈ splitL [leastOf l] 2 l, q.length + 1 ≤ l.length ∧ Fine q ∧ ∀ c ∈ q, c ∈ l := by
  intro q hq
  rcases pieces hF (leastOf_mem h0) with ⟨a, r, hl, ha, hr, e1, e2⟩ | ⟨a, m, b, hl, ha, hm, hb, e1, e2⟩
  · rw [e1] at hq
    have hs : q.Sublist l ∧ q.length + 1 ≤ l.length := by
      generalize leastOf l = c at hl
      subst hl
      simp only [List.mem_cons, List.mem_nil_iff, or_false] at hq
      rcases hq with rfl | rfl
      · exact ⟨List.sublist_append_left _ _, by simp⟩
      · exact ⟨(List.sublist_cons_self _ _).trans (List.sublist_append_right _ _), by simp⟩
    exact ⟨hs.2, hF.sub hs.1, fun c hc => hs.1.subset hc⟩
  · rw [e1] at hq
    have hs : q.Sublist l ∧ q.length + 1 ≤ l.length := by
      generalize leastOf l = c at hl
      subst hl
      simp only [List.mem_cons, List.mem_nil_iff, or_false] at hq
      rcases hq with rfl | rfl | rfl
      · exact ⟨List.sublist_append_left _ _, by simp⟩
      · exact ⟨((List.sublist_append_left _ _).trans (List.sublist_cons_self _ _)).trans (List.sublist_append_right _ _), by simp; omega⟩
      · exact ⟨(((List.sublist_cons_self _ _).trans (List.sublist_append_right _ _)).trans (List.sublist_cons_self _ _)).trans (List.sublist_append_right _ _), by simp; omega⟩
    exact ⟨hs.2, hF.sub hs.1, fun c hc => hs.1.subset hc⟩
theorem cutN_fuel : ∀ (n m : Nat) (l : List Nat), Fine l → l.length < n → l.length < m → cutN n l = cutN m l
  | 0, _, _, _, h, _ => absurd h (Nat.not_lt_zero _)
  | _, 0, _, _, _, h => absurd h (Nat.not_lt_zero _)
  | n + 1, m + 1, l, hF, h1, h2 => by
    unfold cutN
    by_cases h0 : l = []
    · rw [if_pos h0, if_pos h0]
    · have e : (splitL [leastOf l] 2 l).map (cutN n) = (splitL [leastOf l] 2 l).map (cutN m) := by
        apply List.map_congr_left
        intro q hq
        have hp := piece_of hF h0 q hq
        exact cutN_fuel n m q hp.2.1 (by omega) (by omega)
      rw [e]
theorem isNoneD_iff (d : PyData) : isNoneD d = PyData.eqv d .none := by cases d <;> simp [isNoneD, PyData.eqv]
theorem canLayAll_of {ds : List PyData} (h : ∀ d ∈ ds, d.canLay0 = true) : PyData.canLayAll0 ds = true := by
  induction ds with
  | nil => rfl
  | cons d r ih => simp only [PyData.canLayAll0, h d (.head _), ih fun e he => h e (.tail _ he), Bool.and_self]
theorem depthAll_le {ds : List PyData} {k : Nat} (h : ∀ d ∈ ds, d.depth ≤ k) : PyData.depthAll ds ≤ k := by
  induction ds with
  | nil => simp [PyData.depthAll]
  | cons d r ih => have h1 := h d (.head _); have h2 := ih fun e he => h e (.tail _ he); simp only [PyData.depthAll]; omega
theorem strOk_chr {c : Nat} (h : c < 256) : PyData.strOk (chr c) = true := by
  simp [PyData.strOk]; omega
theorem cutN_lay : ∀ (n : Nat) (l : List Nat), Fine l → (∀ c ∈ l, c < 256) → (cutN n l).canLay0 = true ∧ (cutN n l).depth ≤ l.length + 1 ∧ (cutN n l).weight ≤ 5 * l.length
  | 0, _, _, _ => by simp [cutN, PyData.canLay0, PyData.depth, PyData.weight]
  | n + 1, l, hF, h256 => by
    unfold cutN
    by_cases h0 : l = []
    · rw [if_pos h0]; simp [PyData.canLay0, PyData.canLayAll0, PyData.depth, PyData.depthAll, PyData.weight, PyData.weightAll]
    · rw [if_neg h0]
      have hp := piece_of hF h0
      have hm := leastOf_mem h0
      split
      · simp [PyData.canLay0, PyData.depth, PyData.weight]
      · rename_i h2
        split
        · simp [PyData.canLay0, PyData.depth, PyData.weight]
        · have ih : ∀ q ∈ splitL [leastOf l] 2 l, (cutN n q).canLay0 = true ∧ (cutN n q).depth ≤ q.length + 1 ∧ (cutN n q).weight ≤ 5 * q.length := fun q hq =>
            cutN_lay n q (hp q hq).2.1 fun c hc => h256 c ((hp q hq).2.2 c hc)
          rcases pieces hF hm with ⟨a, r, hl, ha, hr, e1, e2⟩ | ⟨a, m, b, hl, ha, hm', hb, e1, e2⟩
          · rw [e1] at h2; simp at h2
          · rw [e1] at ih ⊢
            have ia := ih a (by simp)
            have im := ih m (by simp)
            have ib := ih b (by simp)
            have hlen := congrArg List.length hl
            simp only [List.length_append, List.length_cons] at hlen
            simp only [List.map_cons, List.map_nil, PyData.canLay0, PyData.canLayAll0, PyData.depth, PyData.depthAll, PyData.weight, PyData.weightAll, ia.1, im.1, ib.1, strOk_chr (h256 _ hm), Bool.and_self, true_and]
            simp only [List.size_toArray, List.length_cons, List.length_nil]
            omega
theorem marked_is {l : List Nat} {c : Nat} (hF : Fine l) (hc : c ∈ l) (h256 : ∀ c ∈ l, c < 256) : ∃ k : List Nat, Txt.replace (wd l) (chr c) tick = wd k ∧ k.length = l.length ∧ ∀ c ∈ k, c < 256 := by
  have hs : Txt.split (wd l) (chr c) = (splitL [c] (l.length + 1) l).map wd := split_is l [c] (by simp) (by simpa using h256 c hc)
  have ht : tick.cps.toList = [39] := rfl
  rw [StrLaws.replace_one, hs]
  rcases pieces hF hc with ⟨a, r, hl, ha, hr, e1, e2⟩ | ⟨a, m, b, hl, ha, hm, hb, e1, e2⟩
  · rw [e2]
    refine ⟨_, join2 _ _ _, ?_, fun d hd => ?_⟩
    · rw [ht, hl]; simp
    · rw [ht] at hd
      simp only [List.mem_append, List.mem_singleton] at hd
      rcases hd with hd | rfl | hd
      · exact h256 d (by rw [hl]; simp [hd])
      · omega
      · exact h256 d (by rw [hl]; simp [hd])
  · rw [e2]
    refine ⟨_, join3 _ _ _ _, ?_, fun d hd => ?_⟩
    · rw [ht, hl]; simp
    · rw [ht] at hd
      simp only [List.mem_append, List.mem_singleton] at hd
      rcases hd with hd | rfl | hd | rfl | hd
      · exact h256 d (by rw [hl]; simp [hd])
      · omega
      · exact h256 d (by rw [hl]; simp [hd])
      · omega
      · exact h256 d (by rw [hl]; simp [hd])
theorem strOk_wd {l : List Nat} (h : ∀ c ∈ l, c < 256) : PyData.strOk (wd l) = true := by
  simp only [PyData.strOk, List.all_toArray, List.all_eq_true, decide_eq_true_eq]
  intro c hc
  have := h c hc
  omega
end Mine
end
section
open PySem PySem.W PyProof.Rows PySem.Spec
namespace Mine
variable {w : World} {mg mb : Str → Option Value} {mean : ExcName → Option Value} {dp un : Nat} {fr : Option (List Env)} {gd : Option (List Code)} {s : Shared} {Q E : Value → Shared → Prop}
noncomputable def CutAt (w : World) (mg mb : Str → Option Value) (mean : ExcName → Option Value) (x : Str) : Prop :=
  ∀ (tx : Tok) (dp un : Nat) (fr : Option (List Env)) (gd : Option (List Code)) (s : Shared) (Q E : Value → Shared → Prop), Top topProg LOOSE mean mg mb s.heap → (Mine.hd.heap_39 w.params).In s.heap → dp + x.length + 2 < recursionLimit → un + 3 * x.length + 100 < cLine →
  (∀ h' tk' v tl, s.heap.StaysIn h' → Made s.heap h' tl → ReadsIn tl v (cutN (x.length + 1) x.cps.toList) → Q v { s with heap := h', toks := tk' }) →
  wpAny (model PySem.Challenge.rw_wr0012_01.row.prog w) (Ar dp un fr gd) (call (.ref 92) [.str x tx]) Q E s
theorem reads_tuple {h : Heap} {a : Addr} {vs : Array Value} {n : Nat} {xs : List PyData} {as : List Addr} (e : h.get? a = some { cls := .type "tuple", data := .seq vs n }) (r : ReadsAll h vs.toList xs as) : Reads h (.ref a) (.tuple xs) as := .tuple e rfl rfl r
theorem reads_list {h : Heap} {a : Addr} {vs : Array Value} {n : Nat} {xs : List PyData} {as : List Addr} (e : h.get? a = some { cls := .type "list", data := .seq vs n }) (r : ReadsAll h vs.toList xs as) : Reads h (.ref a) (.list xs) (a :: as) := .list e rfl rfl r
theorem eqv_list_tuple (a b : List PyData) : PyData.eqv (.list a) (.tuple b) = false := by simp [PyData.eqv]
theorem readsAll_strs {h : Heap} : ∀ l : List (Str × Tok), ReadsAll h (strValues l) (l.map fun p => PyData.str p.1) []
  | [] => .nil
  | p :: r => .cons (as := []) (bs := []) (.str p.1 p.2) (readsAll_strs r)
noncomputable abbrev cutEnv (L : Addr) : Env := envOf (Str.ofString "_law_cut") (fnScope 18) L 92 (.ref 91)
set_option maxRecDepth 100000 in
set_option maxHeartbeats 4000000 in
theorem cut_rest {R : Flow → Shared → Prop} {h₀ : Heap} {L : Addr} {m : Str → Option Value} (x : Str) (tx : Tok) (tl : Nat)
  (T : Top topProg LOOSE mean mg mb h₀) (X : (Mine.hd.heap_39 w.params).In h₀) (hd : dp + x.length + 2 < recursionLimit) (hu : un + 3 * x.length + 100 < cLine) (hx : x.length ≤ 100) (hF : Fine x.cps.toList) (h256 : ∀ c ∈ x.cps.toList, c < 256)
  (ih : ∀ y : List Nat, y.length + 1 ≤ x.length → Fine y → (∀ c ∈ y, c < 256) → CutAt w mg mb mean (wd y)) (hx0 : 0 < x.length)
  (F : Fr h₀ L s.heap m) (h1 : m (Str.ofString "word") = some (.str x tx)) (h2 : m (Str.ofString "least") = some (.str (chr (leastOf x.cps.toList)) tl)) (ht1 : 0 < tl) (ht2 : tl < s.toks)
  (hret : ∀ h' tk' v tl, h₀.StaysIn h' → Made h₀ h' tl → ReadsIn tl v (cutN (x.length + 1) x.cps.toList) → R (.ret v) { s with heap := h', toks := tk' }) :
  wpAny (model PySem.Challenge.rw_wr0012_01.row.prog w) ((Ar dp un fr gd).deeper (cutEnv L)) (execs ((fnBody 18).drop 3) (cutEnv L)) R (fun _ _ => False) s := by
  revert X; k_fill; intro X
  have F3 := Fr.over F [(Str.ofString "word", .str x tx), (Str.ofString "least", .str (chr (leastOf x.cps.toList)) tl)] ⟨h1, h2, trivial⟩
  have N3 : News h₀ L s.heap [] := News.nil
  conv in List.drop _ _ => whnf
  w_on
  clear F
  k_steps
  have hl0 : x.cps.toList ≠ [] := by
    intro e
    have h1 : x.cps.toList.length = 0 := by rw [e]; rfl
    have h2 : x.length = x.cps.toList.length := by simp [Str.length]
    omega
  have hlm := leastOf_mem hl0
  have hne : (chr (leastOf x.cps.toList) == Str.ofString "'") = false := by
    rw [Bool.eq_false_iff]
    intro e
    have e := eq_of_beq e
    have e : leastOf x.cps.toList = 39 := (List.cons.inj (show [leastOf x.cps.toList] = [39] from congrArg (fun z : Str => z.cps.toList) e)).1
    exact hF.1 (e ▸ hlm)
  refine SC.replace (by show @Ne Nat _ _; omega) (by show @Ne Nat _ _; omega) (by show @Ne Nat _ _; omega) hne (by have : (Str.ofString "'").length = 1 := rfl; rw [this]; omega) (fun t6 k6 => ?_)
  have hparts := cutParts_is hF hlm (h256 _ hlm)
  rw [wd_of] at hparts
  generalize hmk : Txt.replace x (chr (leastOf x.cps.toList)) (Str.ofString "'") = mk at *
  have hxl : x.length = x.cps.toList.length := by simp [Str.length]
  obtain ⟨mkl, hmk2, hmkn, hmk256⟩ := marked_is hF hlm h256
  rw [wd_of, show tick = Str.ofString "'" from rfl, hmk] at hmk2
  have hmkl : mk.length ≤ 1000 := by rw [hmk2, wd_length]; omega
  have hmko : PyData.strOk mk = true := by rw [hmk2]; exact strOk_wd hmk256
  clear hmk hmk2
  have hT : PyData.canLay0 (.tuple [.none, .none, .str mk]) = true := by simp [PyData.canLay0, PyData.canLayAll0, hmko]
  have hT1 : PyData.depth (.tuple [.none, .none, .str mk]) = 1 := by simp [PyData.depth, PyData.depthAll]
  k_steps
  rename Fr _ _ _ _ => F4
  rename News _ _ _ _ => N4
  refine decode_spec _ _ (T.keeps F4.keep) (X.keeps F4.keep) (by dsimp only [Ar]; omega) hmkl (fun hle h5 tk5 a5 st5 M5 => ?_) (fun hgt h5 tk5 a5 l5 st5 hl5 M5 => ?_)
  · have F5 := Fr.stays F4 st5
    have N5 := News.app (News.stays N4 st5) (News.made F4 M5)
    have hN : cutN (x.length + 1) x.cps.toList = .none := by
      rw [cutN, if_neg hl0, if_pos]
      rw [hparts, List.length_map] at hle; exact hle
    rw [hN] at hret
    k_steps
    rename Fr _ _ _ _ => F6
    rename News _ _ _ _ => N6
    have R3 : ∀ h, ReadsAll h [.none, .none, .str mk t6] [.none, .none, .str mk] [] := fun h => .cons (as := []) (bs := []) .none (.cons (as := []) (bs := []) .none (.cons (as := []) (bs := []) (.str mk t6) .nil))
    refine SeqAt.compareEq_reads (reads_tuple (N6 _ (.tail _ (.head _))).1 (R3 _)) (reads_tuple (N6 _ (.head _)).1 (R3 _)) hT hT (by rw [hT1]; show un + 3 + _ < _; omega) ?_
    have he : PyData.eqv (.tuple [.none, .none, .str mk]) (.tuple [.none, .none, .str mk]) = true := by simp [PyData.eqv, PyData.eqvAll]
    rw [he]
    k_steps
    exact hret _ _ _ [] F6.keep (fun p hp => by cases hp) fun h8 hh => ⟨_, .none⟩
  · have F5 := Fr.stays F4 st5
    have N5 := News.app (News.stays N4 st5) (News.made F4 M5)
    rw [hparts] at hl5 hgt
    rw [List.length_map] at hgt
    have hN : cutN (x.length + 1) x.cps.toList = if ((splitL [leastOf x.cps.toList] 2 x.cps.toList).map (cutN x.length)).any isNoneD = true then .none else .list (.str (chr (leastOf x.cps.toList)) :: (splitL [leastOf x.cps.toList] 2 x.cps.toList).map (cutN x.length)) := by
      rw [cutN, if_neg hl0, if_neg hgt]
    rw [hN] at hret
    have hpc := piece_of hF hl0
    generalize splitL [leastOf x.cps.toList] 2 x.cps.toList = ps at *
    have hlen3 : l5.length ≤ 3 := by
      have h1 := splitMax2_le mk
      rw [hparts, List.length_map] at h1
      have h2 := congrArg List.length hl5
      rw [List.length_map, List.length_map] at h2
      omega
    k_steps
    rename_i h60 tk60 D6 h6 F6 N6 l6
    have R3 : ∀ h, ReadsAll h [.none, .none, .str mk t6] [.none, .none, .str mk] [] := fun h => .cons (as := []) (bs := []) .none (.cons (as := []) (bs := []) .none (.cons (as := []) (bs := []) (.str mk t6) .nil))
    have hL : PyData.canLay0 (.list (l5.map fun p => PyData.str p.1)) = true := by
      refine canLayAll_of fun d hd => ?_
      rw [show (l5.map fun p => PyData.str p.1) = (l5.map (·.1)).map PyData.str by rw [List.map_map]; rfl, hl5, List.map_map, List.mem_map] at hd
      obtain ⟨q, hq, rfl⟩ := hd
      exact strOk_wd fun c hc => h256 c ((hpc q hq).2.2 c hc)
    have hL1 : PyData.depth (.list (l5.map fun p => PyData.str p.1)) ≤ 1 := by
      have : PyData.depthAll (l5.map fun p => PyData.str p.1) ≤ 0 := depthAll_le fun d hd => by
        obtain ⟨q, hq, rfl⟩ := List.mem_map.mp hd
        simp [PyData.depth]
      simp only [PyData.depth]; omega
    refine SeqAt.compareEq_reads (reads_list (N6 _ (.tail _ (.head _))).1 (readsAll_strs l5)) (reads_tuple (N6 _ (.head _)).1 (R3 _)) hL hT (by rw [hT1]; show un + 3 + _ < _; omega) ?_
    rw [eqv_list_tuple]
    iterate 5 walk1
    refine comp_assign (cl := []) F6.ns (by rfl) rfl rfl (by decide) (by decide) (by decide) (by rfl) (by rfl) ?_
    walk1
    have hl6 : h6.IsList a5 (strValues l5).toArray := News.isList N6 (.tail _ (.head _))
    refine compAt_list (news := []) rfl hl6 h6 (fun _ _ e => e) (Nat.le_refl _) (fun i ys news => ReadsAllIn news ys ((ps.map (cutN x.length)).take i)) (fun p hp => by cases hp) (fun h _ => ⟨[], .nil⟩) (by simp [strValues]; omega) ?_ ?_ F6.ns
    · intro It C D i v m₁ ys ep news₁ own h tk hIt hItD hDC hv hJ hys ho hnw hIo F N
      clear hret
      have T6 := T.keeps F6.keep
      have X6 := X.keeps F6.keep
      have hi : i < l5.length := by
        have := (List.getElem?_eq_some_iff.mp hv).1
        simpa [strValues] using this
      obtain rfl : v = .str l5[i].1 l5[i].2 := by
        rw [strValues, List.getElem?_map, List.getElem?_eq_getElem hi] at hv
        exact (Option.some.inj hv).symm
      have hips : i < ps.length := by have := congrArg List.length hl5; simp only [List.length_map] at this; omega
      have hwi : l5[i].1 = wd ps[i] := by
        have := congrArg (fun l => l[i]?) hl5
        simp only [List.getElem?_map, List.getElem?_eq_getElem hi, List.getElem?_eq_getElem hips, Option.map_some, Option.some.injEq] at this
        exact this
      have hp := hpc ps[i] (List.getElem_mem hips)
      rw [hwi] at F
      have ihk := ih ps[i] (by omega) hp.2.1 (fun c hc => h256 c (hp.2.2 c hc))
      k_steps
      all_goals (try k_data)
      refine ihk _ _ _ _ _ _ _ _ (T6.keeps F.keep) (X6.keeps F.keep) (by rw [wd_length]; dsimp only [Ar]; omega) (by rw [wd_length]; show un + 3 + _ + 100 < _; omega) fun h8 tk8 v8 tl8 st8 M8 R8 => ?_
      k_unfold
      have hN8 : ∀ p ∈ tl8, p.1 ≠ D ∧ p.1 ∉ [It] := fun p hp => by
        have hn := (M8 p hp).2
        refine ⟨fun e => ?_, fun e => ?_⟩
        · have := (N _ (.head _)).1
          rw [e] at hn
          rw [hn] at this; cases this
        · obtain ⟨o, ho, _⟩ := hIo
          rw [List.mem_singleton.mp e] at hn
          rw [hn] at ho; cases ho
      refine ⟨h8, tk8, _, tl8 ++ news₁, rfl, Fr.stays F st8, ?_, ?_, ?_⟩
      · have N9 := News.stays N st8
        intro p hp
        revert p hp
        refine all_cons ?_ ?_
        · exact N9 _ (.head _)
        · intro p hp
          rcases List.mem_append.mp hp with hp | hp
          · rcases List.mem_append.mp hp with hp | hp
            · exact News.made F M8 p hp
            · exact N9 _ (.tail _ (List.mem_append_left _ hp))
          · exact N9 _ (.tail _ (List.mem_append_right _ hp))
      · intro p hp
        rcases List.mem_append.mp hp with hp | hp
        · exact hN8 p hp
        · exact hnw p hp
      · intro h9 hh
        obtain ⟨bs, hb⟩ := hJ h9 fun p hp => hh p (List.mem_append_right _ hp)
        obtain ⟨as, ha⟩ := R8 h9 fun p hp => hh p (List.mem_append_left _ hp)
        obtain ⟨cs, hc⟩ := readsAll_snoc ha hb
        refine ⟨cs, ?_⟩
        have e : (ps.map (cutN x.length)).take (i + 1) = (ps.map (cutN x.length)).take i ++ [cutN ((wd ps[i]).length + 1) (wd ps[i]).cps.toList] := by
          rw [List.take_add_one, List.getElem?_map, List.getElem?_eq_getElem hips, wd_length]
          show _ ++ [cutN x.length ps[i]] = _ ++ [cutN (ps[i].length + 1) ps[i]]
          rw [cutN_fuel x.length (ps[i].length + 1) ps[i] hp.2.1 (by omega) (by omega)]
        rw [e]; exact hc
    · intro D h8 tk8 ys ep news' st8 hN8 hD hys hJ h9 tk9 hn9 hs9
      have F9 := (Fr.stays F6 st8).set hn9 hs9
      have N9 := (News.app (News.stays N6 st8) (News.made F6 hN8)).set hs9
      have hrl : ReadsIn ((D, lst ys ep) :: news') (.ref D) (.list (ps.map (cutN x.length))) := fun h hh => by
        obtain ⟨bs, hb⟩ := hJ h fun p hp => hh p (.tail _ hp)
        rw [List.take_of_length_le (by simp [strValues]; have := congrArg List.length hl5; simp at this; omega)] at hb
        exact ⟨_, .list (hh _ (.head _)) rfl rfl hb⟩
      k_steps
      obtain ⟨asr, hrl9⟩ := hrl h9 fun p hp => (N9 p (List.mem_append_right _ hp)).1
      have hlay : ∀ d ∈ ps.map (cutN x.length), d.canLay0 = true := fun d hd => by
        obtain ⟨q, hq, rfl⟩ := List.mem_map.mp hd
        exact (cutN_lay _ q (hpc q hq).2.1 fun c hc => h256 c ((hpc q hq).2.2 c hc)).1
      refine SeqAt.in_list_reads hrl9 .none (canLayAll_of hlay) (by simp [PyData.canLay0]) (by rw [show PyData.depth .none = 0 by simp [PyData.depth]]; show un + 3 + _ + _ < _; omega) ?_
      rw [show (fun y => PyData.eqv y .none) = isNoneD from funext fun y => (isNoneD_iff y).symm]
      cases hany : (ps.map (cutN x.length)).any isNoneD with
      | true =>
        rw [hany, if_pos rfl] at hret
        k_steps
        exact hret _ _ _ [] F9.keep (fun p hp => by cases hp) fun h8 hh => ⟨_, .none⟩
      | false =>
        rw [hany, if_neg (by decide)] at hret
        k_steps
        rename Fr _ _ _ _ => F10
        rename News _ _ _ _ => N10
        refine add_lists (vs := [.str (chr (leastOf x.cps.toList)) _]) (ws := ys) F10 N10 (News.isList N10 (.head _)) (News.isList N10 (.tail _ (List.mem_append_right _ (.head _)))) ?_ (by rw [sizeLine_eq]; simp [strValues] at hys; simp; omega)
        intro h11 F11 N11
        refine hret _ _ _ _ F11.keep (Made.of N11) fun h12 hh => ?_
        obtain ⟨bs, hb⟩ := hJ h12 fun p hp => hh p (by simp [hp])
        rw [List.take_of_length_le (by simp [strValues]; have := congrArg List.length hl5; simp at this; omega)] at hb
        exact ⟨_, .list (hh _ (.head _)) rfl rfl (.cons (.str _ _) hb)⟩
end Mine
end
section
open PySem PySem.W PyProof.Rows PySem.Spec
namespace Mine
variable {w : World} {mg mb : Str → Option Value} {mean : ExcName → Option Value} {dp un : Nat} {fr : Option (List Env)} {gd : Option (List Code)} {s : Shared} {Q E : Value → Shared → Prop}
set_option maxRecDepth 100000 in
set_option maxHeartbeats 4000000 in
theorem cut_node (x : Str) (tx : Tok)
  (T : Top topProg LOOSE mean mg mb s.heap) (X : (Mine.hd.heap_39 w.params).In s.heap) (hd : dp + x.length + 2 < recursionLimit) (hu : un + 3 * x.length + 100 < cLine) (hx : x.length ≤ 100) (hF : Fine x.cps.toList) (h256 : ∀ c ∈ x.cps.toList, c < 256)
  (ih : ∀ y : List Nat, y.length + 1 ≤ x.length → Fine y → (∀ c ∈ y, c < 256) → CutAt w mg mb mean (wd y))
  (hret : ∀ h' tk' v tl, s.heap.StaysIn h' → Made s.heap h' tl → ReadsIn tl v (cutN (x.length + 1) x.cps.toList) → Q v { s with heap := h', toks := tk' }) :
  wpAny (model PySem.Challenge.rw_wr0012_01.row.prog w) (Ar dp un fr gd) (call (.ref 92) [.str x tx]) Q E s := by
  revert X; k_fill; intro X
  have hf : s.heap.get? 92 = ((Mine.hd.heap_39 w.params).lookup 92) := X 92 _ rfl
  refine wpAny_call (call_plain_ret (binds := [(Str.ofString "word", .str x tx)]) (by first | exact lim 0 hd | exact limT 0 hd | (show dp < _; omega)) hf rfl T.nolimit (codeRec_of X (by rfl)) (by rfl) (locs (by rfl)) (fun h₁ F => ?_))
  have N : News s.heap s.heap.objs.size h₁ [] := News.nil
  w_on
  refine execs_cut_at 1 (fun s' => ∃ tk', s' = { s with heap := h₁, toks := tk' } ∧ 0 < x.length) ?_ ?_
  · simp only [List.take_succ_cons, List.take_zero]
    k_steps
    · exact .intro ⟨_, rfl, by omega⟩
    · rename Fr _ _ _ _ => F2
      rename News _ _ _ _ => N2
      refine hret _ _ _ _ F2.keep (Made.of N2) fun h8 hh => ?_
      rw [cutN, if_pos]
      · exact ⟨_, .list (hh _ (.head _)) rfl rfl .nil⟩
      exact List.eq_nil_of_length_eq_zero (by simpa [Str.length] using (by omega : x.length = 0))
  rintro s' ⟨tk2, rfl, hx0⟩
  refine execs_cut_at 2 (fun s' => ∃ (h' : Heap) (m' : Str → Option Value) (tk' tl : Nat), s' = { s with heap := h', toks := tk' } ∧ Fr s.heap s.heap.objs.size h' m' ∧ Says m' [(Str.ofString "word", .str x tx), (Str.ofString "least", .str (chr (leastOf x.cps.toList)) tl)] ∧ 0 < tl ∧ tl < tk') ?_ ?_
  · simp only [List.drop_succ_cons, List.drop_zero, List.take_succ_cons, List.take_zero]
    clear hret
    have hc0 : (Txt.item x 0) = chr (x.cps.toList.headD 0) := by
      have := item_wd (l := x.cps.toList) (k := 0) (by simpa [Str.length] using hx0)
      rw [show x.cps.toList.headD 0 = x.cps.toList.getD 0 0 by cases x.cps.toList <;> rfl]
      exact this
    iterate 8 walk1
    rename_i h3 F3 N3
    refine For_strT (h₀ := s.heap) rfl (by rfl) (by rfl) ?_
    walk1
    refine ⟨x, tx, _, fun i m₁ u => ∃ t' : Nat, m₁ (Str.ofString "least") = some (.str (chr ((x.cps.toList.take i).foldl lesser (x.cps.toList.headD 0))) t') ∧ m₁ (Str.ofString "word") = some (.str x tx) ∧ 0 < t' ∧ t' < u, rfl, F3, ⟨_, by rw [hc0]; rfl, rfl, ?_, ?_⟩, ?_, ?_⟩
    · show @LT.lt Nat _ _ _; dsimp only; omega
    · show @LT.lt Nat _ _ _; dsimp only; omega
    · rintro i c m₁ u h tk own hc ⟨t', h1, h2, h3, h4⟩ hu F₁ N₁
      have e : (x.cps.toList.take (i + 1)).foldl lesser (x.cps.toList.headD 0) = lesser ((x.cps.toList.take i).foldl lesser (x.cps.toList.headD 0)) c := by
        rw [List.take_add_one, Array.getElem?_toList, hc]; simp
      generalize (x.cps.toList.take i).foldl lesser (x.cps.toList.headD 0) = b at h1 e
      have F₂ := Fr.over F₁ [(Str.ofString "letter", .str (chr c) u), (Str.ofString "least", .str (chr b) t'), (Str.ofString "word", .str x tx)] ⟨rfl, h1, h2, trivial⟩
      clear F₁ F3 N3
      refine wpAny_toksF (n := tk) (Nat.le_refl _) ?_
      k_steps
      refine strcoll_spec _ _ _ _ (T.keeps F₂.keep) (X.keeps F₂.keep) (by dsimp only [Ar]; omega) fun t5 h5 tk5 st5 => ?_
      have F5 := Fr.stays F₂ st5
      have N5 := News.stays N₁ st5
      k_steps
      · rename Fr _ _ _ _ => F6
        rename News _ _ _ _ => N6
        rename coll _ _ < 0 => hlt
        rename @LE.le Nat _ _ _ => htk
        exact ⟨_, _, _, rfl, F6, N6, _, by rw [e, lesser, if_pos hlt]; rfl, rfl, by omega, by dsimp only at htk ⊢; omega⟩
      · rename Fr _ _ _ _ => F6
        rename News _ _ _ _ => N6
        rename ¬ (coll _ _ < 0) => hlt
        rename @LE.le Nat _ _ _ => htk
        exact ⟨_, _, _, rfl, F6, N6, _, by rw [e, lesser, if_neg hlt]; rfl, rfl, by omega, by dsimp only at htk ⊢; omega⟩
    · rintro m₁ u h ⟨t', h1, h2, h3, h4⟩ F₁
      rw [show x.cps.toList.take x.cps.size = x.cps.toList from List.take_of_length_le (by simp)] at h1
      clear F3 N3
      k_steps
      exact .intro ⟨_, _, _, _, rfl, F₁, ⟨h2, h1, trivial⟩, h3, h4⟩
  rintro s' ⟨h3, m3, tk3, tl, rfl, F3, ⟨h1, h2, -⟩, ht1, ht2⟩
  simp only [List.drop_drop]
  refine cut_rest x tx tl T X hd hu hx hF h256 ih hx0 F3 h1 h2 ht1 ht2 fun h' tk' v tl st M R => ?_
  exact hret h' tk' v tl st M R
theorem cut_spec : ∀ (n : Nat) (y : List Nat), y.length ≤ n → y.length ≤ 100 → Fine y → (∀ c ∈ y, c < 256) → CutAt w mg mb mean (wd y)
  | n, y, hn, h100, hF, h256 => fun tx dp un fr gd s Q E T X hd hu hret =>
    cut_node (wd y) tx T X hd hu (by rw [wd_length]; exact h100) hF h256 (fun z hz hFz h256z => by
      rw [wd_length] at hz
      match n with
      | 0 => omega
      | n + 1 => exact cut_spec n z (by omega) (by omega) hFz h256z) hret
end Mine
end
section
open PySem PySem.W PyProof.Rows PySem.Spec PySem.Calls
set_option maxRecDepth 100000
namespace Mine
section
variable {prog : Program} {w : World} {A : Around} {E : Value → Shared → Prop} {s : Shared}
structure ZipOut (h : Heap) (z TI TO i1 i2 l1 l2 : Addr) (k : Nat) (T : Addr) (f : Bool) : Prop where
  hz : h.get? z = some { cls := .type "zip", dict := none, data := .fields #[rawInt T, .bool f, .bool false, .ref TI, .ref TO], slots := #[] }
  hTI : IsPair h TI (.ref i1) (.ref i2)
  h1 : h.IsListIter i1 l1 k
  h2 : h.IsListIter i2 l2 k
  live : ∃ o, h.get? T = some o
  Tz : T ≠ z
  T1 : T ≠ i1
  T2 : T ≠ i2
theorem zip_free {z TI TO T : Addr} {f : Bool} {Q : Bool → Shared → Prop}
    (hz : s.heap.get? z = some { cls := .type "zip", dict := none, data := .fields #[rawInt T, .bool f, .bool false, .ref TI, .ref TO], slots := #[] }) (live : ∃ o, s.heap.get? T = some o)
    (hQ : ∀ h', h'.get? z = some { cls := .type "zip", dict := none, data := .fields #[rawInt T, .bool true, .bool false, .ref TI, .ref TO], slots := #[] } → Heap.SameBut z s.heap h' → Q false { s with heap := h' }) :
    wpAny (model prog w) A (Builtin.SmallTypes.ownedTupleIsFree (.ref z)) Q E s := by
  obtain ⟨oT, hT⟩ := live
  unfold Builtin.SmallTypes.ownedTupleIsFree
  refine wpAny_bind (wpAny_field hz rfl (x := rawInt T) rfl ?_)
  show wpAny _ _ (loadIfAlive ((T : Int).toNat) >>= _) _ _ _
  rw [Int.toNat_natCast]
  refine wpAny_bind (kdx_alive hT ?_)
  simp only [Option.isNone_some, Bool.false_eq_true, if_false]
  refine wpAny_bind (wpAny_field hz rfl (x := .bool f) rfl ?_)
  cases f with
  | true =>
    rw [if_neg (show ¬ ((Value.bool true != Value.bool true) = true) from Bool.false_ne_true)]
    exact wpAny_pure (hQ s.heap hz (Heap.SameBut.refl _ _))
  | false =>
    rw [if_pos (show (Value.bool false != Value.bool true) = true from rfl)]
    refine wpAny_bind (wpAny_setField_rec hz (by simp) fun h₃ he₃ hs₃ => ?_)
    exact wpAny_pure (hQ h₃ he₃ hs₃)
theorem zip_next_out {z TI TO i1 i2 l1 l2 T : Addr} {k : Nat} {f : Bool} {xs ys : Array Value} {x y : Value} {Q : Value → Shared → Prop} (D : ZipApart z TI TO i1 i2 l1 l2)
    (Z : ZipOut s.heap z TI TO i1 i2 l1 l2 k T f) (hl1 : s.heap.IsList l1 xs) (hl2 : s.heap.IsList l2 ys) (hx : xs[k]? = some x) (hy : ys[k]? = some y)
    (hQ : ∀ h', ZipOut h' z TI TO i1 i2 l1 l2 (k + 1) T true → IsPair h' s.heap.objs.size x y → h'.objs.size = s.heap.objs.size + 1 →
      (∀ c o, c ≠ z → c ≠ i1 → c ≠ i2 → s.heap.get? c = some o → h'.get? c = some o) → Q (.ref s.heap.objs.size) { s with heap := h' }) :
    wpAny (model prog w) A (Builtin.«zip.__next__» ⟨[.ref z], []⟩) (fun fin s' => ∃ v, fin = .done (.ret v) ∧ Q v s') E s := by
  obtain ⟨hz, hTI, h1, h2, live, Tz, T1, T2⟩ := Z
  show wpAny _ _ (field (.ref z) 2 >>= _) _ _ _
  refine wpAny_bind (wpAny_field hz rfl (x := .bool false) rfl ?_)
  show wpAny _ _ (field (.ref z) 3 >>= _) _ _ _
  refine wpAny_bind (wpAny_field hz rfl (x := .ref TI) rfl ?_)
  refine wpAny_bind (wpAny_seqItems hTI rfl ?_)
  show wpAny _ _ (Builtin.SmallTypes.ownedTupleIsFree (.ref z) >>= _) _ _ _
  refine wpAny_bind (zip_free hz live fun h₁ hz₁ hs₁ => ?_)
  simp only [Bool.false_eq_true, if_false]
  refine wpAny_bind ?_
  simp only [← Array.forIn_toList, List.forIn_cons, List.forIn_nil]
  refine wpAny_bind (wpAny_bind (wpAny_holding ?_))
  show wpAny _ _ (Builtin.SmallTypes.nextOf (.ref i1) >>= _) _ _ _
  refine wpAny_bind (wpAny_nextOf_list_item (h1.extBut hs₁.extBut D.i1z) (hl1.extBut hs₁.extBut D.l1z) hx fun h₂ h1₂ hs₂ => wpAny_pure ?_)
  replace hs₂ : Heap.SameBut i1 h₁ h₂ := hs₂
  refine wpAny_pure ?_
  refine wpAny_bind (wpAny_bind (wpAny_holding ?_))
  show wpAny _ _ (Builtin.SmallTypes.nextOf (.ref i2) >>= _) _ _ _
  refine wpAny_bind (wpAny_nextOf_list_item ((h2.extBut hs₁.extBut D.i2z).extBut hs₂.extBut D.i12.symm)
    ((hl2.extBut hs₁.extBut D.l2z).extBut hs₂.extBut D.l2i1) hy fun h₃ h2₃ hs₃ => wpAny_pure ?_)
  replace hs₃ : Heap.SameBut i2 h₂ h₃ := hs₃
  refine wpAny_pure (wpAny_pure ?_)
  have keep : ∀ c o, c ≠ z → c ≠ i1 → c ≠ i2 → s.heap.get? c = some o → h₃.get? c = some o := fun c o c1 c3 c4 e =>
    hs₃.extBut _ _ c4 (hs₂.extBut _ _ c3 (hs₁.extBut _ _ c1 e))
  have hz₃ := hs₃.extBut _ _ D.i2z.symm (hs₂.extBut _ _ D.i1z.symm hz₁)
  have hsz : h₃.objs.size = s.heap.objs.size := by rw [hs₃.1, hs₂.1, hs₁.1]
  refine wpAny_bind (wpAny_newTuple (hsz := Nat.le_of_ble_eq_true rfl) ?_)
  refine wpAny_pure ⟨_, rfl, ?_⟩
  show Q (.ref h₃.objs.size) _
  rw [hsz]
  refine hQ _ ⟨Heap.get?_push_of_some _ hz₃, Heap.get?_push_of_some _ (keep _ _ D.TIz D.TIi1 D.TIi2 hTI), ?_, ?_, ?_, Tz, T1, T2⟩ ?_ ?_ fun c o c1 c2 c3 e => Heap.get?_push_of_some _ (keep c o c1 c2 c3 e)
  · exact (h1₂.extBut hs₃.extBut D.i12).at fun o e => Heap.get?_push_of_some _ e
  · exact h2₃.at fun o e => Heap.get?_push_of_some _ e
  · obtain ⟨o, e⟩ := live
    exact ⟨o, Heap.get?_push_of_some _ (keep _ _ Tz T1 T2 e)⟩
  · rw [← hsz]; exact Heap.get?_push_size _ rfl
  · rw [Heap.size_push, hsz]
theorem zip_end_out {z TI TO i1 i2 l1 l2 T : Addr} {k : Nat} {f : Bool} {xs ys : Array Value} {Q : Fin → Shared → Prop} (hh : A.handled = none) (D : ZipApart z TI TO i1 i2 l1 l2)
    (Z : ZipOut s.heap z TI TO i1 i2 l1 l2 k T f) (hl1 : s.heap.IsList l1 xs) (hend : xs[k]? = none)
    (hE : ∀ h' e, (∀ c o, c ≠ z → c ≠ i1 → c ≠ i2 → s.heap.get? c = some o → h'.get? c = some o) → (∃ o, h'.get? e = some o ∧ o.cls = .type "StopIteration") → E (.ref e) { s with heap := h' }) :
    wpAny (model prog w) A (Builtin.«zip.__next__» ⟨[.ref z], []⟩) Q E s := by
  obtain ⟨hz, hTI, h1, h2, live, Tz, T1, T2⟩ := Z
  show wpAny _ _ (field (.ref z) 2 >>= _) _ _ _
  refine wpAny_bind (wpAny_field hz rfl (x := .bool false) rfl ?_)
  show wpAny _ _ (field (.ref z) 3 >>= _) _ _ _
  refine wpAny_bind (wpAny_field hz rfl (x := .ref TI) rfl ?_)
  refine wpAny_bind (wpAny_seqItems hTI rfl ?_)
  show wpAny _ _ (Builtin.SmallTypes.ownedTupleIsFree (.ref z) >>= _) _ _ _
  refine wpAny_bind (zip_free hz live fun h₁ hz₁ hs₁ => ?_)
  simp only [Bool.false_eq_true, if_false]
  refine wpAny_bind ?_
  simp only [← Array.forIn_toList, List.forIn_cons, List.forIn_nil]
  refine wpAny_bind (wpAny_bind (wpAny_holding ?_))
  show wpAny _ _ (Builtin.SmallTypes.nextOf (.ref i1) >>= _) _ _ _
  refine wpAny_bind (wpAny_nextOf_list_end hh (h1.extBut hs₁.extBut D.i1z) (hl1.extBut hs₁.extBut D.l1z) hend fun h₂ e hs₂ he => ?_)
  exact hE h₂ e (fun c o c1 c3 _ x => hs₂ _ _ c3 (hs₁.extBut _ _ c1 x)) he
noncomputable def ZipSt (h : Heap) (z TI TO i1 i2 l1 l2 S : Addr) (k : Nat) : Prop :=
  (IsZip h z TI TO .none ∧ IsPair h TI (.ref i1) (.ref i2) ∧ (∃ a b, IsPair h TO a b) ∧ h.IsListIter i1 l1 k ∧ h.IsListIter i2 l2 k) ∨
  ∃ T f, ZipOut h z TI TO i1 i2 l1 l2 k T f ∧ T ≠ S
structure ZipSep (z TI TO i1 i2 l1 l2 S : Addr) : Prop where
  z : z ≠ S
  TI : TI ≠ S
  TO : TO ≠ S
  i1 : i1 ≠ S
  i2 : i2 ≠ S
  l1 : l1 ≠ S
  l2 : l2 ≠ S
theorem ZipSt.keep {h h' : Heap} {z TI TO i1 i2 l1 l2 S : Addr} {k : Nat} (x : ZipSt h z TI TO i1 i2 l1 l2 S k) (D : ZipSep z TI TO i1 i2 l1 l2 S) (hk : ∀ b o, b ≠ S → h.get? b = some o → h'.get? b = some o) : ZipSt h' z TI TO i1 i2 l1 l2 S k := by
  rcases x with ⟨hz, hTI, ⟨a, b, hTO⟩, h1, h2⟩ | ⟨T, f, Z, hT⟩
  · exact .inl ⟨hk _ _ D.z hz, hk _ _ D.TI hTI, ⟨a, b, hk _ _ D.TO hTO⟩, h1.at fun o e => hk _ o D.i1 e, h2.at fun o e => hk _ o D.i2 e⟩
  · obtain ⟨o, e⟩ := Z.live
    exact .inr ⟨T, f, ⟨hk _ _ D.z Z.hz, hk _ _ D.TI Z.hTI, Z.h1.at fun o e => hk _ o D.i1 e, Z.h2.at fun o e => hk _ o D.i2 e, ⟨o, hk _ _ hT e⟩, Z.Tz, Z.T1, Z.T2⟩, hT⟩
theorem zipD_item {z TI TO i1 i2 l1 l2 S : Addr} {k : Nat} {xs ys : Array Value} {x y : Value} {Q : Option Value → Shared → Prop} (D : ZipApart z TI TO i1 i2 l1 l2)
    (Z : ZipSt s.heap z TI TO i1 i2 l1 l2 S k) (hS : S < s.heap.objs.size) (hl1 : s.heap.IsList l1 xs) (hl2 : s.heap.IsList l2 ys) (hx : xs[k]? = some x) (hy : ys[k]? = some y)
    (hQ : ∀ h', ZipSt h' z TI TO i1 i2 l1 l2 S (k + 1) → IsPair h' s.heap.objs.size x y → h'.objs.size = s.heap.objs.size + 1 →
      (∀ c o, c ≠ z → c ≠ TO → c ≠ i1 → c ≠ i2 → s.heap.get? c = some o → h'.get? c = some o) → Q (some (.ref s.heap.objs.size)) { s with heap := h' }) :
    wpAny (model prog w) A (pyNext (.ref z)) Q E s := by
  rcases Z with ⟨hz, hTI, ⟨a, b, hTO⟩, h1, h2⟩ | ⟨T, f, Z, hT⟩
  · refine wpAny_pyNext_zip_item D hz hTI hTO h1 h2 hl1 hl2 hx hy fun h' a1 a2 a3 a4 a5 a6 a7 => hQ h' (.inr ⟨s.heap.objs.size, false, ⟨a1, a7 _ _ D.TIz D.TITO D.TIi1 D.TIi2 hTI, a3, a4, ⟨_, a5⟩, ?_, ?_, ?_⟩, Nat.ne_of_gt hS⟩) a5 a6 a7
    · exact Nat.ne_of_gt (Heap.lt_size hz)
    · obtain ⟨_, e, _⟩ := h1; exact Nat.ne_of_gt (Heap.lt_size e)
    · obtain ⟨_, e, _⟩ := h2; exact Nat.ne_of_gt (Heap.lt_size e)
  · have hTy : s.TypeIs (.ref z) "zip" := ⟨_, Z.hz, rfl⟩
    unfold pyNext
    exact wpAny_bind (wpAny_attempt (wpAny_callSpecial?_slot (name := Str.ofString "__next__") hTy F.slot_zip_next
      (wpAny_call_entry F.slot_zip_next hTy F.entry_zip_next
        (zip_next_out D Z hl1 hl2 hx hy fun h' a1 a2 a3 a4 => wpAny_pure (hQ h' (.inr ⟨T, true, a1, hT⟩) a2 a3 fun c o c1 _ c3 c4 e => a4 c o c1 c3 c4 e)) (F.args_zip_next_1 _))))
theorem zipD_done {z TI TO i1 i2 l1 l2 S : Addr} {k : Nat} {xs ys : Array Value} {Q : Option Value → Shared → Prop} (hh : A.handled = none) (D : ZipApart z TI TO i1 i2 l1 l2)
    (Z : ZipSt s.heap z TI TO i1 i2 l1 l2 S k) (hl1 : s.heap.IsList l1 xs) (hl2 : s.heap.IsList l2 ys) (hend : xs[k]? = none)
    (hQ : ∀ h', (∀ c o, c ≠ z → c ≠ TO → c ≠ i1 → c ≠ i2 → s.heap.get? c = some o → h'.get? c = some o) → Q none { s with heap := h' }) :
    wpAny (model prog w) A (pyNext (.ref z)) Q E s := by
  rcases Z with ⟨hz, hTI, ⟨a, b, hTO⟩, h1, h2⟩ | ⟨T, f, Z, hT⟩
  · exact wpAny_pyNext_zip_end hh D hz hTI hTO h1 h2 hl1 hl2 (.inl hend) hQ
  · have hTy : s.TypeIs (.ref z) "zip" := ⟨_, Z.hz, rfl⟩
    unfold pyNext
    refine wpAny_bind (wpAny_attempt (wpAny_callSpecial?_slot (name := Str.ofString "__next__") hTy F.slot_zip_next
      (wpAny_call_entry F.slot_zip_next hTy F.entry_zip_next (zip_end_out (ys := ys) hh D Z hl1 hend fun h' e hk he => ?_) (F.args_zip_next_1 _))))
    obtain ⟨o, ho, hc⟩ := he
    refine wpAny_bind (wpAny_isInstance (T := "StopIteration") (b := true) ⟨o, ho, hc⟩ isSubtype_stop ?_)
    exact wpAny_pure (hQ _ fun c o c1 _ c3 c4 e => hk c o c1 c3 c4 e)
structure ZipG (xs ys : Array Value) (lo : Addr) (h : Heap) (as : List Addr) : Prop where
  rise : as.Pairwise (· < ·)
  above : ∀ a ∈ as, lo < a
  pairs : ∀ (j : Nat) (a : Addr), as[j]? = some a → ∃ x y, xs[j]? = some x ∧ ys[j]? = some y ∧ IsPair h a x y
theorem ZipG.there {xs ys : Array Value} {lo : Addr} {h : Heap} {as : List Addr} (g : ZipG xs ys lo h as) {a : Addr} (ha : a ∈ as) : a < h.objs.size := by
  obtain ⟨j, hj⟩ := List.mem_iff_getElem?.mp ha
  obtain ⟨_, _, _, _, e⟩ := g.pairs j a hj
  exact Heap.lt_size e
end
section
variable {prog : Program} {w : World} {A : Around} {s : Shared} {R : Result → Shared → Prop} {xs ys : Array Value} {z TI TO i1 i2 l1 l2 : Addr}
theorem zipL_loop {S : Addr} (hh : A.handled = none) (D : ZipApart z TI TO i1 i2 l1 l2) (DS : ZipSep z TI TO i1 i2 l1 l2 S) (hn : xs.size ≤ sizeLine) (hxy : xs.size = ys.size) (res : Value) {h₁ : Heap}
    (hzS : ∀ b, (b = z ∨ b = TO ∨ b = i1 ∨ b = i2) → b < S)
    (hR : ∀ h' tk acc c as, (∀ b o, b ≠ S → b ≠ z → b ≠ TO → b ≠ i1 → b ≠ i2 → h₁.get? b = some o → h'.get? b = some o) → h'.get? S = some { cls := .type "list", dict := none, data := .seq acc c, slots := #[] } → as.length = xs.size → ZipG xs ys S h' as →
      acc.toList = as.map Value.ref → R (.ok (.ret res)) { s with heap := h', toks := tk }) :
    ∀ (k i : Nat) (h : Heap) (tk c : Nat) (acc : Array Value) (as : List Addr), xs.size - i = k → i ≤ xs.size → ZipSt h z TI TO i1 i2 l1 l2 S i → h.IsList l1 xs → h.IsList l2 ys →
      (∀ b o, b ≠ S → b ≠ z → b ≠ TO → b ≠ i1 → b ≠ i2 → h₁.get? b = some o → h.get? b = some o) →
      h.get? S = some { cls := .type "list", dict := none, data := .seq acc c, slots := #[] } → acc.toList = as.map Value.ref → as.length = i → ZipG xs ys S h as →
      codeAny (model prog w) A (.builtin "list.extend.loop" ⟨[.ref S, .ref z, res], []⟩) R { s with heap := h, toks := tk } := by
  have off : ∀ {b}, S ≤ b → b ≠ z ∧ b ≠ TO ∧ b ≠ i1 ∧ b ≠ i2 := fun {b} hb => ⟨fun e => absurd (hzS b (.inl e)) (Nat.not_lt.mpr hb), fun e => absurd (hzS b (.inr (.inl e))) (Nat.not_lt.mpr hb), fun e => absurd (hzS b (.inr (.inr (.inl e)))) (Nat.not_lt.mpr hb), fun e => absurd (hzS b (.inr (.inr (.inr e)))) (Nat.not_lt.mpr hb)⟩
  have oS := off (Nat.le_refl S)
  intro k
  induction k with
  | zero =>
    intro i h tk c acc as hk hi hst hL1 hL2 hkeep hS hacc hal hG
    refine codeAny_builtin PySem.F.entry_extend_loop ?_
    rw [Around.under_plainId PySem.F.plain_extend_loop _]
    show wpAny _ A.in1 (pyNext (.ref z) >>= _) _ _ _
    refine wpAny_bind (zipD_done (s := { s with heap := h, toks := tk }) (A := A.in1) hh D hst hL1 hL2 (Array.getElem?_eq_none (by omega)) fun h' he => ?_)
    refine wpAny_pure (hR h' tk acc c as (fun b o b0 b1 b2 b3 b4 e => he b o b1 b2 b3 b4 (hkeep b o b0 b1 b2 b3 b4 e)) (he S _ oS.1 oS.2.1 oS.2.2.1 oS.2.2.2 hS) (by omega) ⟨hG.rise, hG.above, fun j a hj => ?_⟩ hacc)
    obtain ⟨x, y, e1, e2, e3⟩ := hG.pairs j a hj
    have o := off (Nat.le_of_lt (hG.above a (List.mem_of_getElem? hj)))
    exact ⟨x, y, e1, e2, he a _ o.1 o.2.1 o.2.2.1 o.2.2.2 e3⟩
  | succ k ih =>
    intro i h tk c acc as hk hi hst hL1 hL2 hkeep hS hacc hal hG
    have hlt : i < xs.size := by omega
    have hsz : acc.size = i := by rw [← Array.length_toList, hacc, List.length_map, hal]
    refine codeAny_builtin PySem.F.entry_extend_loop ?_
    rw [Around.under_plainId PySem.F.plain_extend_loop _]
    show wpAny _ A.in1 (pyNext (.ref z) >>= _) _ _ _
    refine wpAny_bind (zipD_item (s := { s with heap := h, toks := tk }) (S := S) D hst (Heap.lt_size hS) hL1 hL2 (Array.getElem?_eq_getElem hlt) (Array.getElem?_eq_getElem (hxy ▸ hlt)) fun h' hst' ht hz hkp => ?_)
    dsimp only at ht hz hkp ⊢
    have hS' := hkp S _ oS.1 oS.2.1 oS.2.2.1 oS.2.2.2 hS
    have up : ∀ b o, b ≠ S → h'.get? b = some o → (h'.update S (Obj.mapSeq (·.push (Value.ref h.objs.size)))).get? b = some o := fun b o hb e => (Heap.get?_update_other _ _ (Ne.symm hb)).trans e
    have hSl : S < h.objs.size := Heap.lt_size hS
    have hz' : ∀ {a o}, h.get? a = some o → a < h.objs.size := fun e => Heap.lt_size e
    show wpAny _ A.in1 (updateSeq S (·.push (Value.ref h.objs.size)) >>= _) _ _ _
    refine wpAny_bind ?_
    refine wpAny_updateSeq hS' rfl (wpAny_pure ⟨plainId_quiet PySem.F.plain_extend_loop _, ih (i + 1) _ tk _ (acc.push (Value.ref h.objs.size)) (as ++ [h.objs.size]) (ar_pred ‹_›) hlt (hst'.keep DS up)
      (hL1.at fun o e => up _ o DS.l1 (hkp _ o D.l1z D.l1TO D.l1i1 D.l1i2 e)) (hL2.at fun o e => up _ o DS.l2 (hkp _ o D.l2z D.l2TO D.l2i1 D.l2i2 e))
      (fun b o b0 b1 b2 b3 b4 e => up b o b0 (hkp b o b1 b2 b3 b4 (hkeep b o b0 b1 b2 b3 b4 e))) (Heap.get?_update_self _ hS' rfl) (by rw [Array.toList_push, hacc, List.map_append]; rfl) (by rw [List.length_append, hal]; rfl) ⟨?_, ?_, ?_⟩⟩) (by rw [hsz]; omega) (by show (acc.push (Value.ref h.objs.size)).size ≤ sizeLine + 1; rw [Array.size_push, hsz]; omega)
    · refine List.pairwise_append.mpr ⟨hG.rise, List.pairwise_singleton _ _, fun a ha b hb => ?_⟩
      rw [List.mem_singleton.mp hb]
      exact hG.there ha
    · intro a ha
      rcases List.mem_append.mp ha with ha | ha
      · exact hG.above a ha
      · rw [List.mem_singleton.mp ha]; exact hSl
    · intro j b hj
      rcases Nat.lt_trichotomy j as.length with h1 | h1 | h1
      · rw [List.getElem?_append_left h1] at hj
        obtain ⟨x', y', e1, e2, e3⟩ := hG.pairs j b hj
        have hb := hG.above b (List.mem_of_getElem? hj)
        have o := off (Nat.le_of_lt hb)
        exact ⟨x', y', e1, e2, up b _ (Nat.ne_of_gt hb) (hkp b _ o.1 o.2.1 o.2.2.1 o.2.2.2 e3)⟩
      · subst h1
        have hb : h.objs.size = b := by simpa using hj
        subst hb
        exact ⟨_, _, by rw [hal]; exact Array.getElem?_eq_getElem hlt, by rw [hal]; exact Array.getElem?_eq_getElem (hxy ▸ hlt), up _ _ (Nat.ne_of_gt hSl) ht⟩
      · have hnone : (as ++ [h.objs.size])[j]? = none := List.getElem?_eq_none (by rw [List.length_append, List.length_singleton]; omega)
        rw [hnone] at hj; cases hj
end
theorem zip_len_none : typeLookup (.type "zip") "__len__" = pure none := by rw [typeLookup_type, builtinLookup_eq_fast]; kernel_rfl
theorem zip_hint_none : typeLookup (.type "zip") "__length_hint__" = pure none := by rw [typeLookup_type, builtinLookup_eq_fast]; kernel_rfl
section
variable {prog : Program} {w : World} {A : Around} {E : Value → Shared → Prop} {s : Shared} {z TI TO i1 i2 l1 l2 : Addr} {xs ys : Array Value}
theorem zip_room (hT : s.TypeIs (.ref z) "zip") {Q : Bool → Shared → Prop} (h : Q true s) : wpAny (model prog w) A (Builtin.List.listLengthHint (.ref z)) Q E s := by
  unfold Builtin.List.listLengthHint
  refine wpAny_bind (wpAny_specialOf hT zip_len_none ?_)
  refine wpAny_ite_split (fun hab => absurd hab (by decide)) (fun _ => ?_)
  refine wpAny_ite_split (fun hab => absurd hab (by decide)) (fun _ => ?_)
  refine wpAny_bind (wpAny_specialOf hT zip_hint_none ?_)
  exact wpAny_pure h
section
variable {R : Result → Shared → Prop}
theorem zipL_extend (hh : A.handled = none) (D : ZipApart z TI TO i1 i2 l1 l2) (S : Addr) (DS : ZipSep z TI TO i1 i2 l1 l2 S) (hzS : ∀ b, (b = z ∨ b = TO ∨ b = i1 ∨ b = i2) → b < S) (hn : xs.size ≤ sizeLine) (hxy : xs.size = ys.size)
    (hz : IsZip s.heap z TI TO .none) (hTI : IsPair s.heap TI (.ref i1) (.ref i2)) (hTO : ∃ a b, IsPair s.heap TO a b) (h1 : s.heap.IsListIter i1 l1 0) (h2 : s.heap.IsListIter i2 l2 0) (hL1 : s.heap.IsList l1 xs) (hL2 : s.heap.IsList l2 ys)
    (res : Value) (c₀ : Nat) (hS : s.heap.get? S = some { cls := .type "list", data := .seq #[] c₀ })
    (hR : ∀ h' tk acc c as, (∀ b o, b ≠ S → b ≠ z → b ≠ TO → b ≠ i1 → b ≠ i2 → s.heap.get? b = some o → h'.get? b = some o) → h'.get? S = some { cls := .type "list", dict := none, data := .seq acc c, slots := #[] } → as.length = xs.size → ZipG xs ys S h' as →
      acc.toList = as.map Value.ref → R (.ok (.ret res)) { s with heap := h', toks := tk }) :
    wpAny (model prog w) A.in1 (Builtin.List.listExtendWith (.ref S) (.ref z) res)
      (fun fin s' => match fin with | .done f => R (.ok f) s' | .again c' => c'.quiet = true ∧ codeAny (model prog w) A c' R s') (fun e s' => R (.error e) s') s := by
  have hT : s.TypeIs (.ref z) "zip" := ⟨_, hz, rfl⟩
  have key : ∀ (h : Heap) (c₁ tk : Nat), (∀ b o, b ≠ S → s.heap.get? b = some o → h.get? b = some o) →
      h.get? S = some { cls := .type "list", data := .seq #[] c₁ } → codeAny (model prog w) A (.builtin "list.extend.loop" ⟨[.ref S, .ref z, res], []⟩) R { s with heap := h, toks := tk } := by
    intro h c₁ tk hk hS₁
    have st : ZipSt s.heap z TI TO i1 i2 l1 l2 S 0 := .inl ⟨hz, hTI, hTO, h1, h2⟩
    exact zipL_loop (s := s) (h₁ := s.heap) hh D DS hn hxy res hzS hR xs.size 0 h tk c₁ #[] [] (Nat.sub_zero _) (Nat.zero_le _) (st.keep DS hk)
      (hL1.at fun o e => hk _ o DS.l1 e) (hL2.at fun o e => hk _ o DS.l2 e) (fun b o hb _ _ _ _ e => hk b o hb e) hS₁ rfl rfl
      ⟨List.Pairwise.nil, (fun _ ha => nomatch ha), (fun j a hj => by simp at hj)⟩
  unfold Builtin.List.listExtendWith
  refine wpAny_bind (wpAny_typeOf (T := "zip") hT ?_)
  have e1 : Builtin.List.listSameRef (.ref S) (.ref z) = false := by simp [Builtin.List.listSameRef, DS.z.symm]
  have e2 : (Value.type "zip" == Value.type "list") = false := by decide
  have e3 : (Value.type "zip" == Value.type "tuple") = false := by decide
  simp only [e1, e2, e3, Bool.or_false, Bool.false_eq_true, if_false]
  refine wpAny_bind (wpAny_pyIter_zip hz ?_)
  refine wpAny_bind (wpAny_holding (zip_room hT ?_))
  refine wpAny_ite_split (fun _ => ?_) (fun _ => wpAny_pure ⟨plainId_quiet PySem.F.plain_extend_loop _, key _ c₀ _ (fun b o _ e => e) hS⟩)
  refine wpAny_bind (wpAny_rule ?_)
  refine wpAny_bind ?_
  show wpAny _ _ (updateSeq S (·.push .none) >>= fun _ => updateSeq S (·.pop)) _ _ _
  refine wpAny_bind (wpAny_updateSeq hS rfl ?_)
  have hS₂ := Heap.get?_update_self (Obj.mapSeq (·.push Value.none)) hS rfl
  refine wpAny_updateSeq (hz := by seq_fits) hS₂ rfl ?_
  have hS₃ := Heap.get?_update_self (Obj.mapSeq (·.pop)) hS₂ rfl
  refine wpAny_pure ⟨plainId_quiet PySem.F.plain_extend_loop _, key _ _ _ (fun b o hb e => ?_) hS₃⟩
  exact (Heap.get?_update_other _ _ (Ne.symm hb)).trans ((Heap.get?_update_other _ _ (Ne.symm hb)).trans e)
theorem zipL_init (hh : A.handled = none) (D : ZipApart z TI TO i1 i2 l1 l2) (S : Addr) (DS : ZipSep z TI TO i1 i2 l1 l2 S) (hzS : ∀ b, (b = z ∨ b = TO ∨ b = i1 ∨ b = i2) → b < S) (hn : xs.size ≤ sizeLine) (hxy : xs.size = ys.size)
    (hz : IsZip s.heap z TI TO .none) (hTI : IsPair s.heap TI (.ref i1) (.ref i2)) (hTO : ∃ a b, IsPair s.heap TO a b) (h1 : s.heap.IsListIter i1 l1 0) (h2 : s.heap.IsListIter i2 l2 0) (hL1 : s.heap.IsList l1 xs) (hL2 : s.heap.IsList l2 ys)
    (hS : s.heap.get? S = some { cls := .type "list", data := .seq #[] })
    (hR : ∀ h' tk acc c as, (∀ b o, b ≠ S → b ≠ z → b ≠ TO → b ≠ i1 → b ≠ i2 → s.heap.get? b = some o → h'.get? b = some o) → h'.get? S = some { cls := .type "list", dict := none, data := .seq acc c, slots := #[] } → as.length = xs.size → ZipG xs ys S h' as →
      acc.toList = as.map Value.ref → R (.ok (.ret .none)) { s with heap := h', toks := tk }) :
    wpAny (model prog w) A.in1 (Builtin.«list.__init__» ⟨[.ref S, .ref z], []⟩)
      (fun fin s' => match fin with | .done f => R (.ok f) s' | .again c' => c'.quiet = true ∧ codeAny (model prog w) A c' R s') (fun e s' => R (.error e) s') s := by
  show wpAny _ _ (do let old ← Builtin.List.listItems (.ref S); Builtin.List.listUpdate (.ref S) (fun _ => #[]); letGo old.toList.reverse; Builtin.List.listExtendWith (.ref S) (.ref z) .none) _ _ s
  refine wpAny_bind ?_
  unfold Builtin.List.listItems
  refine wpAny_bind (wpAny_seqItems hS rfl (wpAny_pure ?_))
  show wpAny _ _ (updateSeq S (fun _ => #[]) >>= fun _ => letGo (#[] : Array Value).toList.reverse >>= fun _ => Builtin.List.listExtendWith (.ref S) (.ref z) .none) _ _ s
  refine wpAny_bind (wpAny_updateSeq hS rfl ?_)
  have hS₂ := Heap.get?_update_self (Obj.mapSeq (fun _ => (#[] : Array Value))) hS rfl
  have oth : ∀ b o, b ≠ S → s.heap.get? b = some o → (s.heap.update S (Obj.mapSeq (fun _ => (#[] : Array Value)))).get? b = some o :=
    fun b o hb e => (Heap.get?_update_other _ _ (Ne.symm hb)).trans e
  refine wpAny_bind (wpAny_letGo ?_)
  obtain ⟨a, b, hTO⟩ := hTO
  refine zipL_extend hh D S DS hzS hn hxy (oth _ _ DS.z hz) (oth _ _ DS.TI hTI) ⟨a, b, oth _ _ DS.TO hTO⟩ (h1.at fun o e => oth _ o DS.i1 e) (h2.at fun o e => oth _ o DS.i2 e) (hL1.at fun o e => oth _ o DS.l1 e) (hL2.at fun o e => oth _ o DS.l2 e) .none _ hS₂ (fun h' tk acc c as hk hS' hl hG hacc => ?_)
  exact hR h' tk acc c as (fun b o hb b1 b2 b3 b4 e => hk b o hb b1 b2 b3 b4 (oth b o hb e)) hS' hl hG hacc
end
theorem zipL_call {Q : Value → Shared → Prop} (hh : A.handled = none) (D : ZipApart z TI TO i1 i2 l1 l2) (hn : xs.size ≤ sizeLine) (hxy : xs.size = ys.size)
    (hz : IsZip s.heap z TI TO .none) (hTI : IsPair s.heap TI (.ref i1) (.ref i2)) (hTO : ∃ a b, IsPair s.heap TO a b) (h1 : s.heap.IsListIter i1 l1 0) (h2 : s.heap.IsListIter i2 l2 0) (hL1 : s.heap.IsList l1 xs) (hL2 : s.heap.IsList l2 ys)
    (hQ : ∀ h' tk acc c as, (∀ b o, b ≠ z → b ≠ TO → b ≠ i1 → b ≠ i2 → s.heap.get? b = some o → h'.get? b = some o) → h'.get? s.heap.objs.size = some { cls := .type "list", dict := none, data := .seq acc c, slots := #[] } → as.length = xs.size → ZipG xs ys s.heap.objs.size h' as →
      acc.toList = as.map Value.ref → Q (.ref s.heap.objs.size) { s with heap := h', toks := tk }) :
    wpAny (model prog w) A (call (.type "list") [.ref z]) Q E s := by
  refine callType_codes (Q₁ := fun obj s₁ => obj = .ref s.heap.objs.size ∧ s₁ = { s with heap := s.heap.push { cls := .type "list", data := .seq #[] } }) PySem.F.called_list (PySem.F.typeCall_list_1 _) PySem.F.entry_list_init
    (code_list_new _ ⟨rfl, rfl⟩) fun obj s₁ h₁ => ?_
  obtain ⟨rfl, rfl⟩ := h₁
  have hS : (s.heap.push { cls := .type "list", data := .seq #[] }).get? s.heap.objs.size = some { cls := .type "list", data := .seq #[] } := Heap.get?_push_size _ rfl
  have up : ∀ b o, s.heap.get? b = some o → (s.heap.push { cls := .type "list", data := .seq #[] }).get? b = some o := fun b o e => Heap.get?_push_of_some _ e
  obtain ⟨a, b, hTO⟩ := hTO
  have lt : ∀ {a o}, s.heap.get? a = some o → a < s.heap.objs.size := fun e => Heap.lt_size e
  have li1 : i1 < s.heap.objs.size := by obtain ⟨_, e, _⟩ := h1; exact lt e
  have li2 : i2 < s.heap.objs.size := by obtain ⟨_, e, _⟩ := h2; exact lt e
  have ll1 : l1 < s.heap.objs.size := by obtain ⟨_, e, _⟩ := hL1; exact lt e
  have ll2 : l2 < s.heap.objs.size := by obtain ⟨_, e, _⟩ := hL2; exact lt e
  refine ⟨⟨_, hS, rfl⟩, PySem.F.args_list_init_2 _ _, zipL_init (A := A.in1) hh D s.heap.objs.size ⟨Nat.ne_of_lt (lt hz), Nat.ne_of_lt (lt hTI), Nat.ne_of_lt (lt hTO), Nat.ne_of_lt li1, Nat.ne_of_lt li2, Nat.ne_of_lt ll1, Nat.ne_of_lt ll2⟩ ?_ hn hxy
    (up _ _ hz) (up _ _ hTI) ⟨a, b, up _ _ hTO⟩ (h1.at fun o e => up _ o e) (h2.at fun o e => up _ o e) (hL1.at fun o e => up _ o e) (hL2.at fun o e => up _ o e) hS (fun h' tk acc c as hk hS' hl hG hacc => ?_)⟩
  · intro b hb
    rcases hb with q | q | q | q
    · exact q ▸ lt hz
    · exact q ▸ lt hTO
    · exact q ▸ li1
    · exact q ▸ li2
  · exact ⟨rfl, hQ h' tk acc c as (fun b o b1 b2 b3 b4 e => hk b o (Nat.ne_of_lt (Heap.lt_size e)) b1 b2 b3 b4 (up b o e)) hS' hl hG hacc⟩
end
end Mine
end
section
open PySem PySem.W PyProof.Rows PySem.Spec PySem.Calls
namespace Mine
variable {w : World} {mg mb : Str → Option Value} {mean : ExcName → Option Value} {dp un : Nat} {fr : Option (List Env)} {gd : Option (List Code)} {s : Shared} {Q E : Value → Shared → Prop}
local macro_rules | `(tactic| k_all) => `(tactic| assumption)
noncomputable def gapsOf (y : List Nat) : List (List Nat × List Nat) := List.zip ([] :: y.map (fun c => [c])) (y.map (fun c => [c]) ++ [[]])
theorem gapsOf_length (y : List Nat) : (gapsOf y).length = y.length + 1 := by simp [gapsOf]
noncomputable def PairsAt (h : Heap) (as : List Addr) (ab : List (List Nat × List Nat)) : Prop :=
  as.length = ab.length ∧ ∀ (j : Nat) (a : Addr) (p : List Nat × List Nat), as[j]? = some a → ab[j]? = some p → ∃ t u, h.get? a = some (tupO (wd p.1) t (wd p.2) u)
theorem signs_wd (y : List Nat) : signs (wd y) = (y.map (fun c => [c])).map wd := by
  simp [signs, List.map_map]
theorem strs_get {vs : List Value} {xs : List (List Nat)} (h : StrsAre vs (xs.map wd)) {j : Nat} {v : Value} (e : vs[j]? = some v) : ∃ x t, xs[j]? = some x ∧ v = .str (wd x) t := by
  have hl : vs.length = xs.length := by rw [StrsAre.len_eq h, List.length_map]
  have hj : j < xs.length := by rw [← hl]; exact (List.getElem?_eq_some_iff.mp e).1
  have e2 : (xs.map wd)[j]? = some (wd xs[j]) := by simp [hj]
  obtain ⟨t, ht⟩ := StrsAre.at h e2
  rw [e] at ht
  exact ⟨xs[j], t, by simp [hj], Option.some.inj ht⟩
theorem zipG_pairs {h : Heap} {lo : Addr} {as : List Addr} {y : List Nat} {xs ys : List Value} (hx : StrsAre xs (([] :: y.map (fun c => [c])).map wd)) (hy : StrsAre ys ((y.map (fun c => [c]) ++ [[]]).map wd))
    (hl : as.length = xs.toArray.size) (G : ZipG xs.toArray ys.toArray lo h as) : PairsAt h as (gapsOf y) := by
  refine ⟨?_, fun j a p ha hp => ?_⟩
  · rw [gapsOf_length, hl, List.size_toArray, StrsAre.len_eq hx]; simp
  · obtain ⟨x, y', e1, e2, e3⟩ := G.pairs j a ha
    obtain ⟨l, t, f1, rfl⟩ := strs_get hx (by simpa using e1)
    obtain ⟨r, u, f2, rfl⟩ := strs_get hy (by simpa using e2)
    have e : (gapsOf y)[j]? = some (l, r) := List.getElem?_zip_eq_some.mpr ⟨f1, f2⟩
    rw [hp] at e
    cases e
    exact ⟨t, u, e3⟩
theorem zipG_ledger {hB h : Heap} {L lo : Addr} {as : List Addr} {xs ys : Array Value} (G : ZipG xs ys lo h as) (lL : L < lo) (lB : hB.objs.size ≤ lo) :
    (∀ a ∈ as, hB.get? a = none ∧ a ≠ L) := fun a ha => ⟨Heap.get?_none_of_le (Nat.le_trans lB (Nat.le_of_lt (G.above a ha))), Nat.ne_of_gt (Nat.lt_trans lL (G.above a ha))⟩
set_option maxRecDepth 100000 in
set_option maxHeartbeats 1000000 in
theorem row_sides {hB : Heap} {L fl : Addr} {cd : Value} {m : Str → Option Value} {y : List Nat} {tr : Tok} {R : Flow → Shared → Prop}
  (T : Top topProg LOOSE mean mg mb hB) (X : (Mine.hd.heap_39 w.params).In hB) (hd : dp + 15 < recursionLimit)
  (F : Fr hB L s.heap m) (m1 : m (Str.ofString "row") = some (.str (wd y) tr)) (ly : y.length ≤ 40)
  (hret : ∀ (h' : Heap) (tk' : Nat) (B : Addr) (as : List Addr) (n : Nat), Fr hB L h' (fun z => if z = Str.ofString "sides" then some (.ref B) else m z) → But s.heap [L] h' → 
    hB.get? B = none → B ≠ L → h'.get? B = some (lst (as.map Value.ref) n) → (∀ a ∈ as, hB.get? a = none ∧ a ≠ L) → PairsAt h' as (gapsOf y) → R .next { s with heap := h', toks := tk' }) :
  wpAny (model PySem.Challenge.rw_wr0012_01.row.prog w) ((Ar dp un fr gd).deeper (lawEnv L fl cd)) (execs ((loopBody 9).take 1) (lawEnv L fl cd)) R (fun _ _ => False) s := by
  revert X; k_fill; intro X
  conv in List.take _ _ => whnf
  have h3 : (wd y).length ≤ 40 := by rw [wd_length]; exact ly
  replace F := Fr.over F [(Str.ofString "row", .str (wd y) tr)] ⟨m1, trivial⟩
  obtain ⟨nw, N, hpb0, hpk0⟩ := ro_start F [L] (.head _)
  w_on
  k_steps
  rename_i lE hE FE NE llE h2 k2 ys F2 N2 hk2 nf2 il2 np2 cy _
  have sy : StrsAre ys (signs (wd y)) := StrsAre.ofCarried cy
  rw [signs_wd] at sy
  have ly1 : ys.length = y.length := by rw [StrsAre.len_eq sy]; simp
  dsimp only at il2
  clear hk2 nf2 np2 cy llE FE NE
  refine tk_any (s₀ := s) (h := h2) fun tk2 => ?_
  refine add_lists (vs := [.str (Str.ofString "") _]) (ws := ys) F2 N2 (News.isList N2 (.head _)) il2 ?_ (by rw [sizeLine_eq, List.length_singleton, ly1]; omega)
  intro h3 F3 N3
  clear F2 N2
  refine tk_any (s₀ := s) (h := h3) fun tk3 => ?_
  k_steps
  rename_i h4 tk4 ys2 hk4 nf4 il4 cy2 _ gn gna lG h5 F5 N5 ll5
  have sy2 : StrsAre ys2 (signs (wd y)) := StrsAre.ofCarried cy2
  rw [signs_wd] at sy2
  have ly2 : ys2.length = y.length := by rw [StrsAre.len_eq sy2]; simp
  dsimp only at N5
  clear hk4 nf4 il4 cy2 gna ll5
  refine tk_any (s₀ := s) (h := h5) fun tk5 => ?_
  refine add_lists (vs := ys2) (ws := [.str (Str.ofString "") _]) F5 N5 (News.isList N5 (.tail _ (.head _))) (News.isList N5 (.head _)) ?_ (by rw [sizeLine_eq, List.length_singleton, ly2]; omega)
  intro h6 F6 N6
  clear F5 N5
  refine tk_any (s₀ := s) (h := h6) fun tk6 => ?_
  k_steps
  rename_i h7 z TI TO i1 i2 hD hZ F7 k7 z7 t7 x7 x7' hL7 kz kT k1 k2 hle N7
  have q := hZ
  obtain ⟨q1, q2, q3, q4, q5, q6, q7⟩ := q
  have Nn : ∀ p ∈ nw, h7.get? p.1 = some p.2 ∧ p.1 ≠ z ∧ p.1 ≠ TO ∧ p.1 ≠ i1 ∧ p.1 ≠ i2 := fun p hp => by
    have l := hle p (by simp [hp])
    exact ⟨(N7 p (by simp [hp])).1, Nat.ne_of_lt (Nat.lt_of_le_of_lt l kz), Nat.ne_of_lt (Nat.lt_of_le_of_lt l kT), Nat.ne_of_lt (Nat.lt_of_le_of_lt l k1), Nat.ne_of_lt (Nat.lt_of_le_of_lt l k2)⟩
  rw [over_eq [(Str.ofString "row", .str (wd y) tr)] ⟨m1, trivial⟩] at F7
  clear N7 hpb0 hle
  refine zipL_call (s := { s with heap := h7, toks := _ }) rfl hD (by rw [sizeLine_eq, List.size_toArray, List.length_append, List.length_singleton, ly1]; omega) (by rw [List.size_toArray, List.size_toArray, List.length_append, List.length_append, ly1, ly2]; simp [Nat.add_comm]) q1 q2 q3 q4 q5 q6 q7 ?_
  intro h8 tk8 acc c as k8 e8 hl8 G8 ha8
  dsimp only at k8 e8 G8
  obtain ⟨n1, n2, n3, n4⟩ := hL7
  have lz : ∀ b, b ≤ L → b ≠ z ∧ b ≠ TO ∧ b ≠ i1 ∧ b ≠ i2 := fun b hb => ⟨Nat.ne_of_lt (Nat.lt_of_le_of_lt hb n1), Nat.ne_of_lt (Nat.lt_of_le_of_lt hb n2), Nat.ne_of_lt (Nat.lt_of_le_of_lt hb n3), Nat.ne_of_lt (Nat.lt_of_le_of_lt hb n4)⟩
  have F8 : Fr hB L h8 m := ⟨F7.ns.at' fun o e => k8 _ o (lz _ (Nat.le_refl _)).1 (lz _ (Nat.le_refl _)).2.1 (lz _ (Nat.le_refl _)).2.2.1 (lz _ (Nat.le_refl _)).2.2.2 e, fun b o e => by
    have hb := lz b (Nat.le_trans (Nat.le_of_lt (Heap.lt_size e)) F7.above)
    exact k8 b o hb.1 hb.2.1 hb.2.2.1 hb.2.2.2 (F7.keep b o e), F7.above⟩
  have kk : But s.heap [L] h8 := hpk0 h8 F8.keep fun p hp => by
    have q := Nn p hp
    exact k8 _ _ q.2.1 q.2.2.1 q.2.2.2.1 q.2.2.2.2 q.1
  have lL : L < h7.objs.size := F7.ns.lt
  have lB : hB.objs.size ≤ h7.objs.size := Nat.le_trans F7.above (Nat.le_of_lt lL)
  have P8 : PairsAt h8 as (gapsOf y) := zipG_pairs (.cons _ _ sy) (by rw [List.map_append]; exact strsAre_append sy2 (.cons _ _ .nil)) hl8 G8
  have fr8 := zipG_ledger G8 lL lB
  have B8 : hB.get? h7.objs.size = none := Heap.get?_none_of_le lB
  have BL : h7.objs.size ≠ L := Nat.ne_of_gt lL
  have kkP : ∀ h', But h8 [L] h' → PairsAt h' as (gapsOf y) ∧ But s.heap [L] h' ∧ h'.get? h7.objs.size = some (lst (as.map Value.ref) c) := by
    intro h' hk
    refine ⟨⟨P8.1, fun j a p ha hp => ?_⟩, kk.trans hk, hk.get (by rw [e8, ← ha8]) (by simpa using BL)⟩
    obtain ⟨t, u, e⟩ := P8.2 j a p ha hp
    exact ⟨t, u, hk.get e (by simpa using (fr8 a (List.mem_of_getElem? ha)).2)⟩
  clear kk P8 G8 k8 e8 hl8 Nn hpk0 q1 q2 q3 q4 q5 q6 q7 hD hZ k7 z7 t7 x7 x7' F7 kz kT k1 k2
  obtain ⟨pl8, N8, -, hpk8⟩ := ro_start F8 [L] (.head _)
  refine tk_any (s₀ := s) (h := h8) fun tk9 => ?_
  k_steps
  rename_i h9 F9 N9
  have k9 := kkP h9 (hpk8 h9 F9.keep fun p hp => (N9 p hp).1)
  show wpAny _ _ (execs [] (lawEnv L fl cd)) _ _ _
  refine wpAny_execs_nil ?_
  exact hret h9 _ _ as c F9 k9.2.1 B8 BL k9.2.2 fr8 k9.1
end Mine
end
section
open PySem PySem.W PyProof.Rows PySem.Spec PySem.Calls
set_option maxRecDepth 100000
namespace Mine
section
variable {prog : Program} {w : World} {A : Around} {E : Value → Shared → Prop} {s : Shared}
theorem compAtT_pairs {B : Heap → Prop} {env : Env} {elt : PySem.Expr} {xa xb : Str} {pa pb tp : Pos} {kk : Nat} {scope : Scope} {cl : List (Str × Addr)} {Q : Value → Shared → Prop} {l : Addr} {vs : List Value} {PP : Nat → Value → Value → Prop} (hh : A.handled = none)
    (hB : Heap) (hl : hB.IsList l vs.toArray) (hPP : ∀ (i : Nat) (v : Value), vs[i]? = some v → ∃ T x y, v = .ref T ∧ hB.IsTuple T #[x, y] ∧ PP i x y)
    (hst : hB.StaysIn s.heap) (hsz : hB.objs.size ≤ s.heap.objs.size)
    (J : Nat → List Value → List (Addr × Obj) → Prop) (hj : J 0 [] []) (hn : vs.length ≤ 1000)
    (helt : ∀ (C D : Addr) (i : Nat) (x y : Value) (m₁ : Str → Option Value) (ys : List Value) (ep : Nat) (news₁ own : List (Addr × Obj)) (h : Heap) (tk : Nat), s.heap.objs.size ≤ D → D < C → i < vs.length → PP i x y → J i ys news₁ → ys.length = i → (∀ p ∈ own, p.1 ∈ [s.heap.objs.size, l]) → (∀ p ∈ news₁, p.1 ≠ D ∧ p.1 ∉ [s.heap.objs.size]) →
      Fr hB C h (fun z => if z = xb then some y else if z = xa then some x else m₁ z) → News hB C h ((D, lst ys ep) :: (news₁ ++ own)) →
      wpAny (model prog w) A (eval elt (compEnvC scope cl C env)) (EltEnd hB C D [s.heap.objs.size] ys ep own (J (i + 1)) { s with heap := h, toks := tk }) (fun _ _ => False) { s with heap := h, toks := tk })
    (hdone : ∀ D h' tk ys ep news', hB.StaysIn h' → (∀ p ∈ (D, lst ys ep) :: news', h'.get? p.1 = some p.2 ∧ hB.get? p.1 = none) → s.heap.get? D = none → ys.length = vs.length → J vs.length ys news' → Q (.ref D) { s with heap := h', toks := tk }) (hBB : B hB := by trivial) :
    wpAny (model prog w) A (pyIter (.ref l)) (fun it' s₂ => CompAtT B prog w A env elt xa xb (.Tuple [.Name xa pa, .Name xb pb] kk tp) scope cl Q it' s₂) E s := by
  have hls : s.heap.IsList l vs.toArray := hl.at fun o e => hst _ o e
  have hlt : l < s.heap.objs.size := by obtain ⟨o, ho, _⟩ := hls; exact Heap.lt_size ho
  have hne : l ≠ s.heap.objs.size := Nat.ne_of_lt hlt
  have up : ∀ b o, s.heap.get? b = some o → ∀ o', (s.heap.push o').get? b = some o := fun b o e o' => Heap.get?_push_of_some _ e
  refine wpAny_pyIter_list hls ?_
  have W := Walks.list (prog := prog) (w := w) hh s.heap.objs.size l hne vs.toArray
  refine ⟨s.heap.objs.size, _, _, _, _, _, _, PP, hB, [], J, rfl, KTurns.ofWalks W (fun i v s Q E st q => letGo_listiter st.1 q), ?_, fun i s Q E st q => ?_, hBB, fun b o e => up _ _ (hst b o e) _, ?_, ?_, ?_,
    ⟨⟨_, Heap.get?_push_size _ rfl, rfl, rfl⟩, hls.at fun o e => up _ _ e _⟩, (fun p hp => by cases hp), hj, by simpa using hn, ?_, ?_⟩
  · intro i v h st hv
    obtain ⟨T, x, y, rfl, hT, hp⟩ := hPP i v (by simpa using hv)
    exact ⟨T, x, y, rfl, hT.at fun o e => st _ o e, hp⟩
  · exact wpAny_pyIter_listiter st.1 q
  · exact Nat.le_trans hsz (Nat.le_trans (Nat.le_succ _) (Nat.le_of_eq (Heap.size_push ..).symm))
  · intro b hb
    refine Nat.lt_of_lt_of_le (m := s.heap.objs.size + 1) ?_ (Nat.le_of_eq (Heap.size_push ..).symm)
    revert b hb
    refine all_cons ?_ ?_
    · exact Nat.lt_succ_self _
    · intro b hb
      rw [List.mem_singleton.mp hb]; exact Nat.lt_succ_of_lt hlt
  · intro b hb
    rw [List.mem_singleton.mp hb]
    exact Heap.get?_none_of_le hsz
  · intro C D i x y m₁ ys ep news₁ own h tk hD hDC hi hP hJ hys ho hnw _ F N
    have hD' : (s.heap.push { cls := .type "list_iterator", data := .fields #[.ref l, .int 0 0] }).objs.size ≤ D := hD
    rw [Heap.size_push] at hD'
    exact helt C D i x y m₁ ys ep news₁ own h tk (Nat.le_of_succ_le hD') hDC (by simpa using hi) hP hJ hys ho hnw F N
  · intro D h' tk ys ep news' hst' hN' hD hys hJ
    refine hdone D h' tk ys ep news' hst' hN' ?_ (by simpa using hys) (by simpa using hJ)
    cases e : s.heap.get? D with
    | none => rfl
    | some o => have := up _ _ e { cls := .type "list_iterator", data := .fields #[.ref l, .int 0 0] }; rw [hD] at this; cases this
theorem compAtT_zip {B : Heap → Prop} {env : Env} {elt : PySem.Expr} {xa xb : Str} {pa pb tp : Pos} {kk : Nat} {scope : Scope} {cl : List (Str × Addr)} {Q : Value → Shared → Prop} {z TI TO i1 i2 l1 l2 : Addr} {xs ys' : Array Value} (hh : A.handled = none)
    (D0 : ZipApart z TI TO i1 i2 l1 l2) (hz : IsZip s.heap z TI TO .none) (hTI : IsPair s.heap TI (.ref i1) (.ref i2)) (hTO : ∃ a b, IsPair s.heap TO a b) (h1 : s.heap.IsListIter i1 l1 0) (h2 : s.heap.IsListIter i2 l2 0) (hL1 : s.heap.IsList l1 xs) (hL2 : s.heap.IsList l2 ys')
    (hB : Heap) (hst : hB.StaysIn s.heap) (hsz : hB.objs.size ≤ s.heap.objs.size) (hw : ∀ b ∈ [z, TO, i1, i2], hB.get? b = none)
    (J : Nat → List Value → List (Addr × Obj) → Prop) (hj : J 0 [] []) (hn : min xs.size ys'.size ≤ 1000)
    (helt : ∀ (C D : Addr) (i : Nat) (x y : Value) (m₁ : Str → Option Value) (ys : List Value) (ep : Nat) (news₁ own : List (Addr × Obj)) (h : Heap) (tk : Nat), s.heap.objs.size ≤ D → D < C → xs[i]? = some x → ys'[i]? = some y → J i ys news₁ → ys.length = i → (∀ p ∈ own, p.1 ∈ [z, TI, TO, i1, i2, l1, l2]) → (∀ p ∈ news₁, p.1 ≠ D ∧ p.1 ∉ [z, TO, i1, i2]) →
      Fr hB C h (fun z => if z = xb then some y else if z = xa then some x else m₁ z) → News hB C h ((D, lst ys ep) :: (news₁ ++ own)) → (∀ b ∈ [z, TI, TO, i1, i2, l1, l2], ∃ o, h.get? b = some o) → (∀ b ∈ [z, TI, TO, i1, i2, l1, l2], b ≠ C ∧ b ≠ D) →
      wpAny (model prog w) A (eval elt (compEnvC scope cl C env)) (EltEnd hB C D [z, TO, i1, i2] ys ep own (J (i + 1)) { s with heap := h, toks := tk }) (fun _ _ => False) { s with heap := h, toks := tk })
    (hdone : ∀ D h' tk ys ep news', hB.StaysIn h' → (∀ p ∈ (D, lst ys ep) :: news', h'.get? p.1 = some p.2 ∧ hB.get? p.1 = none) → s.heap.get? D = none → ys.length = min xs.size ys'.size → J (min xs.size ys'.size) ys news' → Q (.ref D) { s with heap := h', toks := tk }) (hBB : B hB := by trivial) :
    wpAny (model prog w) A (pyIter (.ref z)) (fun it' s₂ => CompAtT B prog w A env elt xa xb (.Tuple [.Name xa pa, .Name xb pb] kk tp) scope cl Q it' s₂) E s := by
  refine wpAny_pyIter_zip hz ?_
  have lts : ∀ b ∈ [z, TI, TO, i1, i2, l1, l2], b < s.heap.objs.size := by
    obtain ⟨a, b, hTO⟩ := hTO
    obtain ⟨_, e1, _⟩ := h1
    obtain ⟨_, e2, _⟩ := h2
    obtain ⟨_, e3, _⟩ := hL1
    obtain ⟨_, e4, _⟩ := hL2
    exact all_cons (Heap.lt_size hz) (all_cons (Heap.lt_size hTI) (all_cons (Heap.lt_size hTO) (all_cons (Heap.lt_size e1) (all_cons (Heap.lt_size e2) (all_cons (Heap.lt_size e3) (all_one (Heap.lt_size e4)))))))
  have W := (WalksT.zip2 (prog := prog) (w := w) (A := A) hh z TI TO i1 i2 l1 l2 D0 xs ys').toU
  refine ⟨z, _, _, _, _, _, _, (fun i x y => xs[i]? = some x ∧ ys'[i]? = some y), hB, [], J, rfl, KTurns.ofWalksU W, ?_, fun i s Q E st q => W.self i s Q E st q, hBB, hst, hsz, lts, hw, ⟨hz, hTI, hTO, h1, h2, hL1, hL2⟩, (fun p hp => by cases hp), hj, hn, ?_, ?_⟩
  · rintro i v h _ ⟨T, vals, rfl, ⟨x, y, hx, hy, rfl⟩, hT⟩
    exact ⟨T, _, _, rfl, hT, hx, hy⟩
  · rintro C D i x y m₁ ys ep news₁ own h tk hD hDC hi ⟨hx, hy⟩ hJ hys ho hnw st F N
    refine helt C D i x y m₁ ys ep news₁ own h tk hD hDC hx hy hJ hys ho hnw F N ?_ fun b hb => ⟨Nat.ne_of_lt (Nat.lt_trans (Nat.lt_of_lt_of_le (lts b hb) hD) hDC), Nat.ne_of_lt (Nat.lt_of_lt_of_le (lts b hb) hD)⟩
    obtain ⟨a1, a2, ⟨_, _, a3⟩, ⟨_, a4, _⟩, ⟨_, a5, _⟩, ⟨_, a6, _⟩, ⟨_, a7, _⟩⟩ := st
    exact all_cons ⟨_, a1⟩ (all_cons ⟨_, a2⟩ (all_cons ⟨_, a3⟩ (all_cons ⟨_, a4⟩ (all_cons ⟨_, a5⟩ (all_cons ⟨_, a6⟩ (all_one ⟨_, a7⟩))))))
  · exact hdone
end
end Mine
end
section
open PySem PySem.W PyProof.Rows PySem.Spec PySem.Calls
namespace Mine
variable {w : World} {mg mb : Str → Option Value} {mean : ExcName → Option Value} {dp un : Nat} {fr : Option (List Env)} {gd : Option (List Code)} {s : Shared} {Q E : Value → Shared → Prop}
local macro_rules | `(tactic| k_all) => `(tactic| assumption)
noncomputable def saidOf (p : List Nat × List Nat) : Int := coll p.1 p.2
theorem saids_take {ab : List (List Nat × List Nat)} {i : Nat} {p : List Nat × List Nat} (h : ab[i]? = some p) {ys : List Value} (hJ : IntsAre ys ((ab.take i).map saidOf)) (u : Tok) :
    IntsAre (ys ++ [Value.int (coll p.1 p.2) u]) ((ab.take (i + 1)).map saidOf) := by
  rw [List.take_add_one, h]
  simp only [Option.toList_some, List.map_append, List.map_cons, List.map_nil]
  exact hJ.append (.cons _ _ .nil)
set_option maxRecDepth 100000 in
set_option maxHeartbeats 1000000 in
theorem row_said {hB : Heap} {L fl B : Addr} {cd : Value} {m : Str → Option Value} {as : List Addr} {n : Nat} {ab : List (List Nat × List Nat)} {R : Flow → Shared → Prop}
  (T : Top topProg LOOSE mean mg mb hB) (X : (Mine.hd.heap_39 w.params).In hB) (hd : dp + 15 < recursionLimit)
  (F : Fr hB L s.heap m) (m1 : m (Str.ofString "sides") = some (.ref B)) (eB : s.heap.get? B = some (lst (as.map Value.ref) n)) (hPs : PairsAt s.heap as ab) (hab : ab.length ≤ 100)
  (hret : ∀ (h' : Heap) (tk' : Nat) (D : Addr) (vs : List Value) (ep : Nat), Fr hB L h' (fun z => if z = Str.ofString "said" then some (.ref D) else m z) → But s.heap [L] h' → 
    hB.get? D = none → D ≠ L → h'.get? D = some (lst vs ep) → IntsAre vs (ab.map saidOf) → s.heap.get? D = none → R .next { s with heap := h', toks := tk' }) :
  wpAny (model PySem.Challenge.rw_wr0012_01.row.prog w) ((Ar dp un fr gd).deeper (lawEnv L fl cd)) (execs (((loopBody 9).drop 1).take 1) (lawEnv L fl cd)) R (fun _ _ => False) s := by
  revert X; k_fill; intro X
  conv in List.take _ _ => whnf
  w_on
  iterate 1 walk1
  refine comp_assignT (cl := ?cl) (m₀ := m) rfl (by rfl) (by rfl) rfl (by decide) (by decide) (by decide) (by decide) (by rfl) (by rfl) ?_
  have F1 := Fr.over F [(Str.ofString "sides", .ref B)] ⟨m1, trivial⟩
  obtain ⟨pl0, N, hpb0, hpk0⟩ := ro_start F [L] (.head _)
  have T1 := T.keeps F.keep
  have X1 := X.keeps F.keep
  rename Fr hB L s.heap m => F0
  k_steps
  have hlen : (as.map Value.ref).length = ab.length := by rw [List.length_map]; exact hPs.1
  refine compAtT_pairs (l := B) (vs := as.map Value.ref) (PP := fun i x y => ∃ (p : List Nat × List Nat) (t u : Tok), ab[i]? = some p ∧ x = .str (wd p.1) t ∧ y = .str (wd p.2) u) rfl s.heap ⟨_, eB, rfl, _, rfl⟩ ?_ (fun _ _ e => e) (Nat.le_refl _)
    (fun i ys news => IntsAre ys ((ab.take i).map saidOf)) .nil (by rw [hlen]; omega) ?_ ?_ F0.ns
  · intro i v hv
    obtain ⟨a, ha, rfl⟩ : ∃ a, as[i]? = some a ∧ v = .ref a := by
      rw [List.getElem?_map] at hv
      cases e : as[i]? with
      | none => rw [e] at hv; cases hv
      | some a => rw [e] at hv; exact ⟨a, rfl, (Option.some.inj hv).symm⟩
    have hi : i < ab.length := by rw [← hPs.1]; exact (List.getElem?_eq_some_iff.mp ha).1
    obtain ⟨t, u, e⟩ := hPs.2 i a _ ha (List.getElem?_eq_getElem hi)
    exact ⟨a, _, _, rfl, ⟨_, e, rfl, _, rfl⟩, _, t, u, List.getElem?_eq_getElem hi, rfl, rfl⟩
  · intro C D i x y m₁ ys ep news₁ own h tk hD hDC hii hxy hJ hys ho hnw F N
    obtain ⟨p, t, u, hp, rfl, rfl⟩ := hxy
    clear hret
    k_steps
    refine strcoll_spec (wd p.1) (wd p.2) t u (T1.keeps F.keep) (X1.keeps F.keep) (by first | exact lim 1 hd | exact limT 1 hd | (show dp + 1 < _; omega)) fun u h4 tk4 st4 => ?_
    exact ⟨h4, _, _, news₁, rfl, F.keeps st4, News.stays N st4, hnw, saids_take hp hJ u⟩
  · intro D h9 tk9 ys ep news' st9 hN9 hD hys hJ h10 tk10 ns10 sb10
    have LnD : D ≠ L := by
      obtain ⟨o, es, ep', e, d⟩ := ns_ob F0.ns
      exact ne_new e hD
    have D1 : hB.get? D = none := none_of F0 (hN9 _ (.head _)).2
    have F9 := Fr.stays F0 st9
    have F10 := F9.set ns10 sb10
    show wpAny _ _ (execs [] (lawEnv L fl cd)) _ _ _
    refine wpAny_execs_nil ?_
    refine hret h10 _ D ys ep F10 ?_ D1 LnD ((sb10.2 _ LnD).trans (hN9 _ (.head _)).1) ?_ hD
    · intro b o e
      by_cases hb : b = L
      · subst hb; rw [hideAll_none [b] (.head _)] at e; cases e
      · exact (sb10.2 _ hb).trans (st9 _ _ (of_hideAll [L] e))
    · rw [hlen, List.take_length] at hJ; exact hJ
end Mine
end
section
open PySem PySem.W PyProof.Rows PySem.Spec PySem.Calls
namespace Mine
variable {w : World} {mg mb : Str → Option Value} {mean : ExcName → Option Value} {dp un : Nat} {fr : Option (List Env)} {gd : Option (List Code)} {s : Shared} {Q E : Value → Shared → Prop}
local macro_rules | `(tactic| k_all) => `(tactic| assumption)
theorem But.more {h h' : Heap} {L g : Addr} {o : Obj} (x : But h [L, g] h') (e : h.get? g = some o) (e' : h'.get? g = some o) : But h [L] h' := fun b ob q => by
  by_cases hb : b = L
  · subst hb; rw [hideAll_none _ (by simp)] at q; cases q
  · have q' := of_hideAll _ q
    by_cases hg : b = g
    · subst hg; rw [e] at q'; cases q'; exact e'
    · exact x.get q' (by simp [hb, hg])
theorem ne_nsframe {prog : Program} {h : Heap} {L d : Addr} {m : Str → Option Value} {x : Str} {v : Value} {kvs : List (Str × Value)} (ns : h.Ns L m) (hm : m x = some v) (dd : h.DictOf (PySem.strKind prog w) d kvs) (hk : valueAt kvs x = none) : d ≠ L := by
  rintro rfl
  obtain ⟨o, es, ep, e, hd, hs, hf⟩ := ns
  obtain ⟨o', es', ep', e', _, hd', _, hp, _⟩ := dd
  rw [e] at e'; cases e'
  rw [hd] at hd'; cases hd'
  have h1 := hp.find x
  rw [hk] at h1
  have h2 := hf x
  rw [hm] at h2
  unfold nsFind findBy at h2
  have q : (fun d : DictEntry => Value.isStrOf x d.key) = fun d => d.key.isStr x := funext fun d => (isStr_of x d.key).symm
  have h3 : (es.toList.find? fun e => e.key.isStr x).map (·.val) = none := by rw [← q]; exact h1
  obtain ⟨l⟩ := es
  simp at h2 h3
  obtain ⟨a, ha, _⟩ := h2
  have := List.find?_some ha
  have := List.mem_of_find?_eq_some ha
  simp_all
theorem row_hits {A : Around} {s : Shared} {one : Int} {u1 : Tok} {j : Nat} {t t' : Tok} : KeqHits A s (rowD one u1 j t) (rowD one u1 j t') true := by
  have e : ∀ (a : Int) (t u : Tok), SeqAt.EqAt A s (.int a t) (.int a u) true := fun a t u => by
    have := SeqAt.EqAt.int_int (A := A) (s := s) a t a u
    simpa using this
  unfold rowD
  split
  · exact KeqHits.hit (e := true) (b := true) rfl (e _ _ _) (KeqHits.hit (e := true) (b := true) rfl (e _ _ _) .nil)
  · exact KeqHits.hit (e := true) (b := true) rfl (e _ _ _) .nil
theorem row_len {one : Int} {u1 : Tok} {j : Nat} {t t' : Tok} : (rowD one u1 j t).length = (rowD one u1 j t').length := by
  unfold rowD; split <;> rfl
theorem dictOf_but {prog : Program} {h h' : Heap} {as : List Addr} {d : Addr} {kvs : List (Str × Value)} (x : h.DictOf (PySem.strKind prog w) d kvs) (b : But h as h') (hd : d ∉ as) : h'.DictOf (PySem.strKind prog w) d kvs := by
  obtain ⟨o, es, ep, e, r⟩ := x
  exact ⟨o, es, ep, b.get e hd, r⟩
theorem rows_told {prog : Program} {A : Around} {s : Shared} {one : Int} {u1 : Tok} {ys : List Value} (hy4 : ys.length = 4) (hrow : ∀ j y, ys[j]? = some y → ∃ d t', y = .ref d ∧ (d == sysModules) = false ∧ s.heap.DictOf (PySem.strKind prog w) d (rowD one u1 j t')) {a0 a1 a2 a3 : Addr}
    (l0 : (a0 == sysModules) = false) (l1 : (a1 == sysModules) = false) (l2 : (a2 == sysModules) = false) (l3 : (a3 == sysModules) = false) (q0 : ∃ t, s.heap.DictOf (PySem.strKind prog w) a0 (rowD one u1 0 t)) (q1 : ∃ t, s.heap.DictOf (PySem.strKind prog w) a1 (rowD one u1 1 t)) (q2 : ∃ t, s.heap.DictOf (PySem.strKind prog w) a2 (rowD one u1 2 t)) (q3 : ∃ t, s.heap.DictOf (PySem.strKind prog w) a3 (rowD one u1 3 t))
    (hu : A.units < cLine) (j : Nat) (j1 : j < ys.toArray.size) (j2 : j < (#[Value.ref a0, .ref a1, .ref a2, .ref a3] : Array Value).size) : EqW prog w A s ys.toArray[j] ((#[Value.ref a0, .ref a1, .ref a2, .ref a3] : Array Value)[j]) := by
  have j1' : j < ys.length := by simpa using j1
  obtain ⟨d, t', e1, e2, e3⟩ := hrow j ys[j] (List.getElem?_eq_getElem _)
  have e1' : ys.toArray[j] = .ref d := by simpa using e1
  rw [e1']
  have main : ∀ (a : Addr) (t : Tok), (a == sysModules) = false → s.heap.DictOf (PySem.strKind prog w) a (rowD one u1 j t) → EqW prog w A s (.ref d) (.ref a) := fun a t l q => EqW.dicts e2 l e3 q hu row_len row_hits
  clear e3 hrow e1 e1'
  obtain rfl | rfl | rfl | rfl : j = 0 ∨ j = 1 ∨ j = 2 ∨ j = 3 := or4 j j2
  · obtain ⟨t, q⟩ := q0; exact main a0 t l0 q
  · obtain ⟨t, q⟩ := q1; exact main a1 t l1 q
  · obtain ⟨t, q⟩ := q2; exact main a2 t l2 q
  · obtain ⟨t, q⟩ := q3; exact main a3 t l3 q
set_option maxRecDepth 100000 in
set_option maxHeartbeats 1000000 in
theorem law_apart {B : List Stmt} (hBB : fnBody 20 = B) {R : Flow → Shared → Prop} {hB : Heap} {L fl : Addr} {cd : Value} {m : Str → Option Value} {one : Nat} {u1 : Tok}
  (T : Top topProg LOOSE mean mg mb hB) (X : (Mine.hd.heap_39 w.params).In hB) (C : CodeHd hB 50 46) (hB46 : hB.get? 46 = none) (hd : dp + 15 < recursionLimit) (hu : un + 100 < cLine) (L46 : @LT.lt Nat _ 46 L)
  (F : Fr hB L s.heap m) (P : ParTab s.heap) (h1 : m (Str.ofString "one") = some (.int one u1))
  (hret : ∀ (h' : Heap) (tk' : Nat), Fr hB L h' m → ParTab h' → But s.heap [L, 46] h' → R .next { s with heap := h', toks := tk' }) :
  wpAny (model PySem.Challenge.rw_wr0012_01.row.prog w) ((Ar dp un fr gd).deeper (lawEnv L fl cd)) (execs ((B.drop 8).take 1) (lawEnv L fl cd)) R (fun _ _ => False) s := by
  subst hBB
  revert X; k_fill; intro X
  conv in List.take _ _ => whnf
  replace F := Fr.over F [(Str.ofString "one", .int one u1)] ⟨h1, trivial⟩
  obtain ⟨ot, hot⟩ := P.some
  obtain ⟨pl0, Npl0, hpb0, hpk0⟩ := ro_start F [L, 46] (.head _)
  have LB46 : (L : Addr) ≠ 46 := Nat.ne_of_gt L46
  have N : News hB L s.heap ((46, ot) :: pl0) := News.ins hot (Ne.symm LB46) hB46 Npl0
  clear Npl0
  w_on
  iterate 5 walk1
  with_reducible refine' callWith_K X ?hk ?_ ?he ?hp
  case hk => k_is
  case he => exact rfl
  case hp => exact rfl
  iterate 8 walk1
  refine ⟨by k_in, ?_⟩
  rename_i F0 h1 o1 F1 N1 lo1 hd1 hf1 ap1 l1
  clear hf1 F0
  have e146 := (N1 (46, ot) (by k_mem)).1
  have kk1 : But s.heap [L, 46] h1 := hpk0 h1 F1.keep fun p hp => (N1 p (by simp [hp])).1
  have P1 : ParTab h1 := P.butL F.ns (kk1.more hot e146)
  have n46 : @Ne Nat s.heap.objs.size 46 := Nat.ne_of_gt (Heap.lt_size hot)
  refine apart_spec T X (by exact F1.keep) hB46 C P1 (by first | exact lim 6 hd | exact limT 6 hd | (show dp + 1 + 5 < _; omega)) (td := s.heap.objs.size) (one := one) (t1 := u1) (Heap.dictOf_iff.mpr ⟨o1, hideAll_get _ (N1 _ (.head _)).1 (by simpa using n46), hd1⟩) lo1 ?_
  intro r h2 tk2 ys ep st2 P2 M2 hy4 hrow
  have F2 := Fr.holed F1 hB46 LB46 st2
  have mr := M2 _ (.head _)
  dsimp only at mr
  obtain ⟨ot2, hot2⟩ := P2.some
  obtain ⟨pl2, Npl2, hpb2, hpk2⟩ := ro_start F2 [L, 46] (.head _)
  have kk2 : But s.heap [L, 46] h2 := fun b o e => st2 b o (hideAll_get _ (kk1 b o e) (by
    intro hb; rw [List.mem_singleton.mp hb, hideAll_none _ (by simp)] at e; cases e))
  have N2 := News.ins mr.1 (frame_ne F1 mr.2) (none_of F1 mr.2) (News.ins hot2 (Ne.symm LB46) hB46 Npl2)
  have dL : ∀ d j t', h2.DictOf (knd w) d (rowD one u1 j t') → d ≠ L := fun d j t' dd => ne_nsframe F2.ns (x := Str.ofString "one") (v := .int one u1) rfl dd (by
    unfold rowD; split <;> rfl)
  have d46 : ∀ d j t', h2.DictOf (knd w) d (rowD one u1 j t') → @Ne Nat d 46 := fun d j t' dd => by
    obtain ⟨o, es, ep, e, _, q, _⟩ := dd
    exact ne_obj e hot2 fun eo => by
      rcases P2 with p | ⟨c1, c2, c3, p, -, -⟩
      · rw [hot2] at p; cases p; rw [eo] at q; cases q
      · rw [hot2] at p; cases p; rw [eo] at q; cases q
  have ns2 : ∃ mm, h2.Ns L mm := ⟨_, F2.ns⟩
  clear F N F1 N1 Npl2 P hot hpk0 hpb0 kk1 hd1 ap1
  refine tk_any (s₀ := s) (h := h2) fun tk2' => ?_
  iterate 11 walk1
  rename_i F0 h3 o3 F3 N3 lo3 hd3 hf ap l
  clear hf F0 ap l
  refine tk_any (s₀ := s) (h := h3) fun tk3 => ?_
  iterate 7 walk1
  rename_i F0 h4 o4 F4 N4 lo4 hd4 hf ap l
  clear hf F0 ap l
  refine tk_any (s₀ := s) (h := h4) fun tk4 => ?_
  iterate 10 walk1
  rename_i F0 h5 o5 F5 N5 lo5 hd5 hf ap l
  clear hf F0 ap l
  refine tk_any (s₀ := s) (h := h5) fun tk5 => ?_
  iterate 7 walk1
  rename_i F0 h6 o6 F6 N6 lo6 hd6 hf ap l
  clear hf F0 ap l
  refine tk_any (s₀ := s) (h := h6) fun tk6 => ?_
  iterate 2 walk1
  rename_i l7 h7 F7 N7 ll7
  clear ll7
  have kk7 : But h2 [L, 46] h7 := hpk2 h7 F7.keep fun p hp => (N7 p (by simp [hp])).1
  have kk27 : But h2 [L] h7 := kk7.more hot2 (N7 (46, ot2) (by k_mem)).1
  have P7 : ParTab h7 := by obtain ⟨mm, ns2⟩ := ns2; exact P2.butL ns2 kk27
  have q3 : ∃ t, h7.DictOf (knd w) h2.objs.size (rowD one u1 0 t) := ⟨_, Heap.dictOf_iff.mpr ⟨o3, (N7 (h2.objs.size, o3) (by k_mem)).1, hd3⟩⟩
  have q4 : ∃ t, h7.DictOf (knd w) h3.objs.size (rowD one u1 1 t) := ⟨_, Heap.dictOf_iff.mpr ⟨o4, (N7 (h3.objs.size, o4) (by k_mem)).1, hd4⟩⟩
  have q5 : ∃ t, h7.DictOf (knd w) h4.objs.size (rowD one u1 2 t) := ⟨_, Heap.dictOf_iff.mpr ⟨o5, (N7 (h4.objs.size, o5) (by k_mem)).1, hd5⟩⟩
  have q6 : ∃ t, h7.DictOf (knd w) h5.objs.size (rowD one u1 3 t) := ⟨_, Heap.dictOf_iff.mpr ⟨o6, (N7 (h5.objs.size, o6) (by k_mem)).1, hd6⟩⟩
  clear hd3 hd4 hd5 hd6
  have er := (N7 (r, lst ys ep) (by k_mem)).1
  have el := (N7 _ (.head _)).1
  clear N7
  refine tk_any (s₀ := s) (h := h7) fun tk7 => ?_
  have hrow7 : ∀ j y, ys[j]? = some y → ∃ d t', y = .ref d ∧ (d == sysModules) = false ∧ h7.DictOf (knd w) d (rowD one u1 j t') := fun j y hy => by
    obtain ⟨d, t', e1, e2, e3⟩ := hrow j y hy
    exact ⟨d, t', e1, e2, dictOf_but e3 kk7 (by simp only [List.mem_cons, List.mem_nil_iff, or_false, not_or]; exact ⟨dL _ _ _ e3, d46 _ _ _ e3⟩)⟩
  have told := rows_told (w := w) (A := ((Ar dp un fr gd).deeper (lawEnv L fl cd)).in1) (s := { s with heap := h7, toks := tk7 }) hy4 hrow7 lo3 lo4 lo5 lo6 q3 q4 q5 q6 (by first | exact lim 4 hu | exact limT 4 hu | (show un + 3 + 1 < _; omega))
  clear q3 q4 q5 q6 hrow7 hrow dL d46
  refine list_neW (items := ys.toArray) ⟨_, er, rfl, _, rfl⟩ ⟨_, el, rfl, _, rfl⟩ (by simpa using hy4) (by first | exact lim 3 hu | exact limT 3 hu | (show un + 3 < _; omega)) told ?_
  iterate 2 walk1
  show wpAny _ _ (execs [] (lawEnv L fl cd)) _ _ _
  refine wpAny_execs_nil ?_
  rw [over_eq [(Str.ofString "one", .int one u1)] ⟨‹m (Str.ofString "one") = some (.int one u1)›, trivial⟩] at F7
  have k27 : But s.heap [L, 46] h7 := kk2.trans (kk27.wider (by simp))
  show wpAny _ _ (execs [] (lawEnv L fl cd)) _ _ _
  refine wpAny_execs_nil ?_
  exact hret h7 _ F7 P7 k27
end Mine
end
section
open PySem PySem.W PyProof.Rows PySem.Spec PySem.Calls
namespace Mine
variable {w : World} {mg mb : Str → Option Value} {mean : ExcName → Option Value} {dp un : Nat} {fr : Option (List Env)} {gd : Option (List Code)} {s : Shared} {Q E : Value → Shared → Prop}
local macro_rules | `(tactic| k_all) => `(tactic| assumption)
noncomputable def letOf (p : List Nat × List Nat) : List Nat := if saidOf p < 0 then p.2 else p.1
noncomputable def dueD (p : List Nat × List Nat) (t u : Tok) : List (Str × Value) := [(Str.ofString "limb", .int (1 + saidOf p) t), (Str.ofString "letter", .str (wd (letOf p)) u)]
noncomputable def DuesN (w : World) (news : List (Addr × Obj)) (ys : List Value) (ab : List (List Nat × List Nat)) : Prop :=
  ∀ (j : Nat) (v : Value) (p : List Nat × List Nat), ys[j]? = some v → ab[j]? = some p → ∃ d o t u, v = .ref d ∧ (d == sysModules) = false ∧ (d, o) ∈ news ∧ o.IsDictOf (knd w) (dueD p t u)
theorem DuesN.snoc {news : List (Addr × Obj)} {ys : List Value} {ab : List (List Nat × List Nat)} (x : DuesN w news ys ab) {d : Addr} {o : Obj} {p : List Nat × List Nat} {t u : Tok} (hp : ab[ys.length]? = some p)
    (lo : (d == sysModules) = false) (ho : o.IsDictOf (knd w) (dueD p t u)) : DuesN w ((d, o) :: news) (ys ++ [.ref d]) ab := by
  intro j v q hv hq
  rcases Nat.lt_trichotomy j ys.length with h | h | h
  · rw [List.getElem?_append_left h] at hv
    obtain ⟨d', o', t', u', e1, e2, e3, e4⟩ := x j v q hv hq
    exact ⟨d', o', t', u', e1, e2, .tail _ e3, e4⟩
  · subst h
    rw [hp] at hq; cases hq
    have : Value.ref d = v := by simpa using hv
    subst this
    exact ⟨d, o, t, u, rfl, lo, .head _, ho⟩
  · rw [List.getElem?_eq_none (by simp; omega)] at hv; cases hv
noncomputable def DuesAt (w : World) (h : Heap) (ys : List Value) (ab : List (List Nat × List Nat)) : Prop :=
  ys.length = ab.length ∧ ∀ (j : Nat) (v : Value) (p : List Nat × List Nat), ys[j]? = some v → ab[j]? = some p → ∃ d t u, v = .ref d ∧ (d == sysModules) = false ∧ h.DictOf (knd w) d (dueD p t u)
theorem due_end {hB h h' : Heap} {C D : Addr} {m : Str → Option Value} {ys : List Value} {ep : Nat} {news own : List (Addr × Obj)} {kvs : List (Str × Value)} (F : Fr hB C h m) (N : News hB C h ((D, lst ys ep) :: (news ++ own)))
    (hd : h'.DictOf (knd w) h.objs.size kvs) (sb : Heap.SameBut h.objs.size (h.push { cls := .type "dict", data := .dict #[] }) h') :
    ∃ o, Fr hB C h' m ∧ News hB C h' ((D, lst ys ep) :: (((h.objs.size, o) :: news) ++ own)) ∧ o.IsDictOf (knd w) kvs := by
  obtain ⟨o, e, hk⟩ := Heap.dictOf_iff.mp hd
  have st : h.StaysIn h' := fun b ob eb => (sb.2 b (Nat.ne_of_lt (Heap.lt_size eb))).trans (Heap.get?_push_of_some _ eb)
  have F' := F.keeps st
  have N' := News.stays N st
  refine ⟨o, F', ?_, hk⟩
  intro p hp
  have hn : h.get? h.objs.size = none := Heap.get?_none_of_le (Nat.le_refl _)
  revert p hp
  refine all_cons ?_ ?_
  · exact N' _ (.head _)
  · intro p hp
    rcases List.mem_cons.mp hp with rfl | hp
    · exact ⟨e, frame_ne F hn, none_of F hn⟩
    · exact N' _ (.tail _ hp)
theorem due_off {hB h : Heap} {C D : Addr} {ys : List Value} {ep : Nat} {news own : List (Addr × Obj)} {o : Obj} {z TI TO i1 i2 l1 l2 : Addr} (N : News hB C h ((D, lst ys ep) :: (news ++ own)))
    (hlive : ∀ b ∈ [z, TI, TO, i1, i2, l1, l2], ∃ o, h.get? b = some o) (hnw : ∀ p ∈ news, p.1 ≠ D ∧ p.1 ∉ [z, TO, i1, i2]) : ∀ p ∈ (h.objs.size, o) :: news, p.1 ≠ D ∧ p.1 ∉ [z, TO, i1, i2] := by
  intro p hp
  revert p hp
  refine all_cons ?_ ?_
  · refine ⟨Nat.ne_of_gt (Heap.lt_size (N _ (.head _)).1), fun hb => ?_⟩
    have : h.objs.size ∈ [z, TI, TO, i1, i2, l1, l2] := by
      simp only [List.mem_cons, List.mem_nil_iff, or_false] at hb ⊢
      rcases hb with q | q | q | q <;> simp [q]
    obtain ⟨o', e⟩ := hlive _ this
    exact absurd (Heap.lt_size e) (Nat.lt_irrefl _)
  · intro p hp
    exact hnw p hp
theorem due_lo {hB h : Heap} {C D : Addr} {ys : List Value} {ep : Nat} {news : List (Addr × Obj)} (h1 : 1 < D) (N : News hB C h ((D, lst ys ep) :: news)) : (h.objs.size == sysModules) = false := by
  have : D < h.objs.size := Heap.lt_size (N _ (.head _)).1
  have h0 : sysModules < h.objs.size := Nat.lt_trans h1 this
  exact beq_false_of_ne (Nat.ne_of_gt h0)
theorem ints_at {vs : List Value} {ab : List (List Nat × List Nat)} (h : IntsAre vs (ab.map saidOf)) {i : Nat} {x : Value} {p : List Nat × List Nat} (hx : vs[i]? = some x) (hp : ab[i]? = some p) : ∃ tx, x = .int (saidOf p) tx := by
  have : ∀ (vs : List Value) (ns : List Int), IntsAre vs ns → ∀ (i : Nat) (x : Value) (n : Int), vs[i]? = some x → ns[i]? = some n → ∃ tx, x = .int n tx := by
    intro vs ns h
    induction h with
    | nil => intro i x n h; simp at h
    | cons a t _ ih =>
      intro i x n h1 h2
      cases i with
      | zero => simp at h1 h2; exact ⟨_, by rw [← h1, ← h2]⟩
      | succ i => exact ih i x n (by simpa using h1) (by simpa using h2)
  exact this vs _ h i x _ hx (by rw [List.getElem?_map, hp]; rfl)
theorem pairs_at {h : Heap} {as : List Addr} {ab : List (List Nat × List Nat)} (hP : PairsAt h as ab) {i : Nat} {y : Value} {p : List Nat × List Nat} (hy : (as.map Value.ref)[i]? = some y) (hp : ab[i]? = some p) :
    ∃ a ty uy, y = .ref a ∧ h.get? a = some (tupO (wd p.1) ty (wd p.2) uy) := by
  rw [List.getElem?_map] at hy
  cases e : as[i]? with
  | none => rw [e] at hy; cases hy
  | some a =>
    rw [e] at hy
    obtain ⟨t, u, q⟩ := hP.2 i a p e hp
    exact ⟨a, t, u, (Option.some.inj hy).symm, q⟩
set_option maxRecDepth 100000 in
set_option maxHeartbeats 1000000 in
theorem row_due {hB : Heap} {L fl B D0 : Addr} {cd : Value} {m : Str → Option Value} {as : List Addr} {n n0 : Nat} {ab : List (List Nat × List Nat)} {vs : List Value} {R : Flow → Shared → Prop}
  (T : Top topProg LOOSE mean mg mb hB) (X : (Mine.hd.heap_39 w.params).In hB) (hd : dp + 15 < recursionLimit)
  (F : Fr hB L s.heap m) (m1 : m (Str.ofString "sides") = some (.ref B)) (eB : s.heap.get? B = some (lst (as.map Value.ref) n)) (hPs : PairsAt s.heap as ab) (hab : ab.length ≤ 100) (BB : hB.get? B = none ∧ B ≠ L)
  (m2 : m (Str.ofString "said") = some (.ref D0)) (eD : s.heap.get? D0 = some (lst vs n0)) (hvs : IntsAre vs (ab.map saidOf)) (BD : hB.get? D0 = none ∧ D0 ≠ L) (hBD : B ≠ D0)
  (hret : ∀ (h' : Heap) (tk' : Nat) (D : Addr) (ys : List Value) (ep : Nat), Fr hB L h' (fun z => if z = Str.ofString "due" then some (.ref D) else m z) → But s.heap [L] h' → 
    hB.get? D = none → D ≠ L → h'.get? D = some (lst ys ep) → DuesAt w h' ys ab → R .next { s with heap := h', toks := tk' }) :
  wpAny (model PySem.Challenge.rw_wr0012_01.row.prog w) ((Ar dp un fr gd).deeper (lawEnv L fl cd)) (execs (((loopBody 9).drop 2).take 1) (lawEnv L fl cd)) R (fun _ _ => False) s := by
  revert X; k_fill; intro X
  conv in List.take _ _ => whnf
  w_on
  iterate 1 walk1
  refine comp_assignT (cl := ?cl) (m₀ := m) rfl (by rfl) (by rfl) rfl (by decide) (by decide) (by decide) (by decide) (by rfl) (by rfl) ?_
  have F1 := Fr.over F [(Str.ofString "sides", .ref B), (Str.ofString "said", .ref D0)] ⟨m1, m2, trivial⟩
  obtain ⟨pl0, N0, hpb0, hpk0⟩ := ro_start F [L] (.head _)
  have N : News hB L s.heap ((B, lst (as.map Value.ref) n) :: (D0, lst vs n0) :: pl0) := News.ins eB BB.2 BB.1 (News.ins eD BD.2 BD.1 N0)
  clear N0
  rename Fr hB L s.heap m => F0
  k_steps
  rename_i h7 z TI TO i1 i2 hD hZ F7 k7 z7 t7 x7 x7' hL7 kz kT k1 k2 hle N7
  obtain ⟨q1, q2, q3, q4, q5, q6, q7⟩ := hZ
  have hlas : (as.map Value.ref).toArray.size = ab.length := by rw [List.size_toArray, List.length_map]; exact hPs.1
  have hlvs : vs.toArray.size = ab.length := by rw [List.size_toArray, hvs.length, List.length_map]
  have hw : ∀ b ∈ [z, TO, i1, i2], s.heap.get? b = none := by
    exact all_cons (Heap.get?_none_of_le z7) (all_cons (Heap.get?_none_of_le t7) (all_cons (Heap.get?_none_of_le x7) (all_one (Heap.get?_none_of_le x7'))))
  have hsz7 : s.heap.objs.size ≤ h7.objs.size := Nat.le_of_lt (Nat.lt_of_le_of_lt z7 (Heap.lt_size q1))
  have h44 : 1 < hB.objs.size := Nat.lt_trans (by decide) (Heap.lt_size (X 44 _ rfl))
  have hsz7' : hB.objs.size ≤ h7.objs.size := Nat.le_trans F0.above (Nat.le_trans (Nat.le_of_lt F0.ns.lt) hsz7)
  clear z7 t7 x7 x7' hL7 kz kT k1 k2 hle N7 F7 hpb0 hpk0
  refine compAtT_zip (s := { s with heap := h7 }) rfl hD q1 q2 q3 q4 q5 q6 q7 s.heap k7 hsz7 hw
    (fun i ys news => DuesN w news ys ab) (fun j v p hv => by simp at hv) (by rw [hlas, hlvs]; omega) ?_ ?_ F0.ns
  · intro C D i x y m₁ ys ep news₁ own h tk hCD hDC hx hy hJ hys ho hnw F N hlive hneq
    obtain ⟨p, hp⟩ : ∃ p, ab[i]? = some p := by
      have : i < ab.length := by rw [← hlvs]; exact (Array.getElem?_eq_some_iff.mp hx).1
      exact ⟨_, List.getElem?_eq_getElem this⟩
    obtain ⟨tx, rfl⟩ : ∃ tx, x = .int (saidOf p) tx := ints_at hvs (by simpa using hx) hp
    obtain ⟨a, ty, uy, rfl, ha⟩ : ∃ a ty uy, y = .ref a ∧ s.heap.get? a = some (tupO (wd p.1) ty (wd p.2) uy) := pairs_at hPs (by simpa using hy) hp
    have ht : IsTup s.heap a #[.str (wd p.1) ty, .str (wd p.2) uy] := ⟨_, ha, rfl, _, rfl⟩
    clear hret q1 q2 q3 q4 q5 q6 q7 hD hx hy k7 hsz7 hPs
    by_cases hneg : saidOf p < 0
    · have hlet : letOf p = p.2 := by unfold letOf; rw [if_pos hneg]
      repeat (fail_if_success (with_reducible show Exists _)); walk1
      refine ⟨[(Str.ofString "limb", _), (Str.ofString "letter", _)], ⟨by rfl, rfl, by rfl, rfl, trivial⟩, Heap.DictOf.new h, fun h' hd' sb' => ?_⟩
      have q := due_end F N hd' sb'
      obtain ⟨o, F2, N2, ho⟩ := q
      exact ⟨h', _, _, (h.objs.size, o) :: news₁, rfl, F2, N2, due_off N hlive hnw, DuesN.snoc hJ (by rw [hys]; exact hp) (due_lo (Nat.lt_of_lt_of_le h44 (Nat.le_trans hsz7' hCD)) N) (by rw [dueD, hlet]; exact ho)⟩
    · have hlet : letOf p = p.1 := by unfold letOf; rw [if_neg hneg]
      repeat (fail_if_success (with_reducible show Exists _)); walk1
      refine ⟨[(Str.ofString "limb", _), (Str.ofString "letter", _)], ⟨by rfl, rfl, by rfl, rfl, trivial⟩, Heap.DictOf.new h, fun h' hd' sb' => ?_⟩
      have q := due_end F N hd' sb'
      obtain ⟨o, F2, N2, ho⟩ := q
      exact ⟨h', _, _, (h.objs.size, o) :: news₁, rfl, F2, N2, due_off N hlive hnw, DuesN.snoc hJ (by rw [hys]; exact hp) (due_lo (Nat.lt_of_lt_of_le h44 (Nat.le_trans hsz7' hCD)) N) (by rw [dueD, hlet]; exact ho)⟩
  · intro D h9 tk9 ys ep news' st9 hN9 hDn hys hJ h10 tk10 ns10 sb10
    have LnD : D ≠ L := by
      obtain ⟨o, es, ep', e, d⟩ := ns_ob F0.ns
      exact ne_new (k7 _ _ e) hDn
    have D1 : hB.get? D = none := none_of F0 (hN9 _ (.head _)).2
    have F9 := Fr.stays F0 st9
    have F10 := F9.set ns10 sb10
    show wpAny _ _ (execs [] (lawEnv L fl cd)) _ _ _
    refine wpAny_execs_nil ?_
    refine hret h10 _ D ys ep F10 ?_ D1 LnD ((sb10.2 _ LnD).trans (hN9 _ (.head _)).1) ⟨?_, ?_⟩
    · intro b o e
      by_cases hb : b = L
      · subst hb; rw [hideAll_none [b] (.head _)] at e; cases e
      · exact (sb10.2 _ hb).trans (st9 _ _ (of_hideAll [L] e))
    · rw [hys, hlas, hlvs, Nat.min_self]
    · intro j v p hv hp
      obtain ⟨d, o, t, u, rfl, lo, hm, ho⟩ := hJ j v p hv hp
      have q := hN9 _ (.tail _ hm)
      exact ⟨d, t, u, rfl, lo, Heap.dictOf_iff.mpr ⟨o, (sb10.2 _ (frame_ne F0 q.2)).trans q.1, ho⟩⟩
end Mine
end
section
open PySem PySem.W PyProof.Rows PySem.Spec PySem.Calls
namespace Mine
section
variable {prog : Program} {w : World} {A : Around} {s : Shared} {env : Env}
theorem comp_none {elt iter test : PySem.Expr} {x : Str} {px : Pos} {scope : Scope} {pos : Pos} {cl : List (Str × Addr)} {Q : Value → Shared → Prop} (hh : A.handled = none)
    (hclos : closureFor scope env = pure cl) (hkind : scope.kind = .function) (hcell : ∀ y ∈ scope.names, y.2 ≠ .cell) (hnames : ∀ x ∈ scope.names, x.2 = .local → scope.names.lookup x.1 = some .local) (hx : scope.names.lookup x = some .local)
    (h : wpAny (model prog w) A (eval iter env) (fun xv s₁ => ∃ (l : Addr) (vs : List Value), xv = .ref l ∧ s₁.heap.IsList l vs.toArray ∧ vs.length ≤ 1000 ∧
      (∀ (C : Addr) (m : Str → Option Value) (s₂ : Shared) (i : Nat) (v : Value), vs[i]? = some v → Fr s₁.heap C s₂.heap m → m x = some v →
        wpAny (model prog w) A (isTrue test (compEnvC scope cl C env) (eval test (compEnvC scope cl C env))) (fun ok s₃ => ok = false ∧ Keeps s₂ s₃) (fun _ _ => False) s₂) ∧
      (∀ D h' tk n, s₁.heap.StaysIn h' → h'.get? D = some (lst [] n) → s₁.heap.get? D = none → Q (.ref D) { s₁ with heap := h', toks := tk })) (fun _ _ => False) s)
    (hs : ∀ x, foldedSetIterable iter env x = pure x := by intro _; rfl) :
    wpAny (model prog w) A (eval (.ListComp elt [⟨.Name x px, iter, [test], 0⟩] scope pos) env) Q (fun _ _ => False) s := by
  rw [eval_ListComp]
  refine wpAny_comprehension_free (use := none) (cl := cl) rfl hs hclos hkind hnames (wpAny_mono h (fun xv s₁ h₁ => ?_) fun _ _ e => e)
  obtain ⟨l, vs, rfl, hl, hn, htest, hdone⟩ := h₁
  obtain ⟨ol, hol⟩ := list_some hl
  have hlt : l < s₁.heap.objs.size := Heap.lt_size hol
  have hne : l ≠ s₁.heap.objs.size := Nat.ne_of_lt hlt
  refine wpAny_pyIter_list hl ?_
  have W := Walks.list (prog := prog) (w := w) hh s₁.heap.objs.size l hne vs.toArray
  have up : ∀ b o, s₁.heap.get? b = some o → ∀ o', (s₁.heap.push o').get? b = some o := fun b o e o' => Heap.get?_push_of_some _ e
  have st0 : ∀ h₁ : Heap, (∀ b o, (s₁.heap.push { cls := .type "list_iterator", data := .fields #[.ref l, .int 0 0] }).get? b = some o → h₁.get? b = some o) → h₁.IsListIter s₁.heap.objs.size l 0 ∧ h₁.IsList l vs.toArray := fun h₁ hk =>
    ⟨⟨_, hk _ _ (Heap.get?_push_size _ rfl), rfl, rfl⟩, hl.at fun o e => hk _ _ (up _ _ e _)⟩
  refine comp_blockG hkind hcell (fun C D h₁ hD hDC old hacc hns => ?_) (fun h₁ Q₁ E₁ old q => W.self 0 _ _ _ (st0 h₁ old) q)
  have hsz : (s₁.heap.push { cls := .type "list_iterator", data := .fields #[.ref l, .int 0 0] }).objs.size = s₁.heap.objs.size + 1 := Heap.size_push ..
  have hD' : s₁.heap.objs.size < D := by
    have : (s₁.heap.push { cls := .type "list_iterator", data := .fields #[.ref l, .int 0 0] }).objs.size ≤ D := hD
    rw [hsz] at this; exact this
  have hC' : s₁.heap.objs.size < C := Nat.lt_trans hD' hDC
  refine codeAny_compLoop_walk (F := fun _ _ => True) W (fun _ => false) (lookup_relabel_local hx) (by simp [compEnvC, relabel, hkind]) (Nat.ne_of_lt hDC) ?_ ?_ (st0 h₁ old) ?_ hns ?_ ?_ ?_ ?_
  · simp only [List.mem_cons, List.mem_nil_iff, or_false, not_or]
    exact ⟨Nat.ne_of_gt hD', Nat.ne_of_gt (Nat.lt_trans hlt hD')⟩
  · simp only [List.mem_cons, List.mem_nil_iff, or_false, not_or]
    exact ⟨Nat.ne_of_gt hC', Nat.ne_of_gt (Nat.lt_trans hlt hC')⟩
  · exact ⟨0, hacc⟩
  · intro i v s₂ m₂ hP hn₂ hm₂ hk _
    have below : ∀ b o, s₁.heap.get? b = some o → s₂.heap.get? b = some o := fun b o e => by
      have hb : b < s₁.heap.objs.size := Heap.lt_size e
      refine hk b o (Nat.ne_of_lt (Nat.lt_trans hb hC')) (fun q => ?_) (Nat.ne_of_lt (Nat.lt_trans hb hD')) (old _ _ (up _ _ e _))
      rw [List.mem_singleton.mp q] at hb; exact Nat.lt_irrefl _ hb
    have F₂ : Fr s₁.heap C s₂.heap m₂ := ⟨hn₂, below, Nat.le_of_lt hC'⟩
    refine wpAny_tests_one (wpAny_mono (htest C m₂ s₂ i v (by simpa using hP) F₂ hm₂) (fun ok s₃ q => q) fun _ _ e => e.elim)
  · intro i v s₂ m₂ _ hf; cases hf
  · intro h' tk m' ys vs' hn' _ hpl hlen hP hF hk
    have hys : ys = #[] := by
      have e := hF.length
      rw [List.filter_eq_nil_iff.mpr (by simp)] at e
      have e2 : ys.toList = [] := List.eq_nil_of_length_eq_zero e.symm
      exact Array.toList_eq_nil_iff.mp e2
    subst hys
    obtain ⟨n, hpl⟩ := hpl
    refine ⟨m', hn', fun h'' hs'' => ?_⟩
    have kC : ∀ b o, b ≠ C → h'.get? b = some o → h''.get? b = some o := fun b o hb e => (hs''.2 b hb).trans e
    refine hdone D h'' _ n (fun b o e => ?_) (kC _ _ (Nat.ne_of_lt hDC) hpl) (Heap.get?_none_of_le (Nat.le_of_lt hD'))
    have hb : b < s₁.heap.objs.size := Heap.lt_size e
    refine kC b o (Nat.ne_of_lt (Nat.lt_trans hb hC')) (hk b o (Nat.ne_of_lt (Nat.lt_trans hb hC')) (fun q => ?_) (Nat.ne_of_lt (Nat.lt_trans hb hD')) (old _ _ (up _ _ e _)))
    rw [List.mem_singleton.mp q] at hb; exact Nat.lt_irrefl _ hb
  · rw [sizeLine_eq]; simp; omega
end
end Mine
end
section
open PySem PySem.W PyProof.Rows PySem.Spec PySem.Calls
namespace Mine
variable {w : World} {mg mb : Str → Option Value} {mean : ExcName → Option Value} {dp un : Nat} {fr : Option (List Env)} {gd : Option (List Code)} {s : Shared} {Q E : Value → Shared → Prop}
local macro_rules | `(tactic| k_all) => `(tactic| assumption)
theorem EndsAre.at {P : Params} {h : Heap} {vs : List Value} {es : List (Nat × Nat)} (x : EndsAre P h vs es) : ∀ (j : Nat) (v : Value) (e : Nat × Nat), vs[j]? = some v → es[j]? = some e → ∃ d, v = .ref d ∧ AttrAt P h d e.1 e.2 := by
  induction x with
  | nil => intro j v e h; simp at h
  | cons a _ ih =>
    intro j v e h1 h2
    cases j with
    | zero => simp at h1 h2; subst h1 h2; exact ⟨_, rfl, a⟩
    | succ j => exact ih j v e (by simpa using h1) (by simpa using h2)
theorem due_hits {A : Around} {s : Shared} {i : Int} {x : Str} {t u t' u' : Tok} : KeqHits A s [(Str.ofString "limb", .int i t), (Str.ofString "letter", .str x u)] [(Str.ofString "limb", .int i t'), (Str.ofString "letter", .str x u')] true := by
  have e1 : SeqAt.EqAt A s (.int i t) (.int i t') true := by
    have := SeqAt.EqAt.int_int (A := A) (s := s) i t i t'
    simpa using this
  have e1' : SeqAt.EqAt A s (.int i t') (.int i t) true := by
    have := SeqAt.EqAt.int_int (A := A) (s := s) i t' i t
    simpa using this
  have e2 : SeqAt.EqAt A s (.str x u) (.str x u') true := by
    have := SeqAt.EqAt.str_str (A := A) (s := s) x u x u'
    simpa using this
  have e2' : SeqAt.EqAt A s (.str x u') (.str x u) true := by
    have := SeqAt.EqAt.str_str (A := A) (s := s) x u' x u
    simpa using this
  first
    | exact KeqHits.hit (e := true) (b := true) rfl e1 (KeqHits.hit (e := true) (b := true) rfl e2 .nil)
    | exact KeqHits.hit (e := true) (b := true) rfl e1' (KeqHits.hit (e := true) (b := true) rfl e2' .nil)
noncomputable abbrev EndsDue (t : Gap) (ab : List (List Nat × List Nat)) : Prop := ab.map (fun p => (1 + saidOf p, letOf p)) = t.ends.map (fun e => ((e.1 : Int), [e.2]))
theorem ends_told {A : Around} {s : Shared} {hG : Heap} {vs ys : List Value} {t : Gap} {ab : List (List Nat × List Nat)} (hE : EndsDue t ab) (E1 : EndsAre w.params hG vs t.ends) (st : hG.StaysIn s.heap) (D1 : DuesAt w s.heap ys ab) (hu : A.units < cLine)
    (j : Nat) (j1 : j < vs.toArray.size) (j2 : j < ys.toArray.size) : EqW PySem.Challenge.rw_wr0012_01.row.prog w A s vs.toArray[j] ys.toArray[j] := by
  have j1' : j < vs.length := by simpa using j1
  have j2' : j < ys.length := by simpa using j2
  have je : j < t.ends.length := by rw [← E1.length]; exact j1'
  have jp : j < ab.length := by rw [← D1.1]; exact j2'
  obtain ⟨d, e1, e2⟩ := E1.at j vs[j] t.ends[j] (List.getElem?_eq_getElem j1') (List.getElem?_eq_getElem je)
  obtain ⟨d', t1, u1, f1, f2, f3⟩ := D1.2 j ys[j] ab[j] (List.getElem?_eq_getElem j2') (List.getElem?_eq_getElem jp)
  have q : (1 + saidOf ab[j], letOf ab[j]) = ((t.ends[j].1 : Int), [t.ends[j].2]) := by
    have h1 : (ab.map (fun p => (1 + saidOf p, letOf p)))[j]? = some (1 + saidOf ab[j], letOf ab[j]) := by simp [jp]
    have h2 : (t.ends.map (fun e => ((e.1 : Int), [e.2])))[j]? = some ((t.ends[j].1 : Int), [t.ends[j].2]) := by simp [je]
    rw [hE] at h1
    rw [h1] at h2
    exact Option.some.inj h2
  obtain ⟨q1, q2⟩ := Prod.mk.inj q
  have v1 : vs.toArray[j] = .ref d := by simpa using e1
  have v2 : ys.toArray[j] = .ref d' := by simpa using f1
  rw [v1, v2]
  obtain ⟨lo, t2, t4, dd⟩ := dict_of_attr (prog := PySem.Challenge.rw_wr0012_01.row.prog) (e2.keeps st)
  rw [dueD, q1, q2] at f3
  exact EqW.dicts lo f2 dd f3 hu rfl due_hits
set_option maxRecDepth 100000 in
set_option maxHeartbeats 1000000 in
theorem row_ends {hB : Heap} {L fl D0 D tl : Addr} {cd : Value} {m : Str → Option Value} {n0 ep : Nat} {ab : List (List Nat × List Nat)} {vs ys : List Value} {t : Gap} {R : Flow → Shared → Prop}
  (T : Top topProg LOOSE mean mg mb hB) (X : (Mine.hd.heap_39 w.params).In hB) (hd : dp + t.high + 15 < recursionLimit) (hu : un + 100 < cLine)
  (F : Fr hB L s.heap m) (m0 : m (Str.ofString "gap") = some (.ref tl)) (htr : TreeH w.params (hideAll s.heap [L]) tl t) (hsz : t.size ≤ 40)
  (m1 : m (Str.ofString "due") = some (.ref D)) (eD : s.heap.get? D = some (lst ys ep)) (hDu : DuesAt w s.heap ys ab) (BD : hB.get? D = none ∧ D ≠ L) (hab : ab.length ≤ 100)
  (m2 : m (Str.ofString "said") = some (.ref D0)) (eD0 : s.heap.get? D0 = some (lst vs n0)) (hvs : IntsAre vs (ab.map saidOf)) (BD0 : hB.get? D0 = none ∧ D0 ≠ L) (hE : EndsDue t ab)
  (hret : ∀ (h' : Heap) (tk' : Nat), Fr hB L h' m → But s.heap [L] h' → R .next { s with heap := h', toks := tk' }) :
  wpAny (model PySem.Challenge.rw_wr0012_01.row.prog w) ((Ar dp un fr gd).deeper (lawEnv L fl cd)) (execs (((loopBody 9).drop 3).take 1) (lawEnv L fl cd)) R (fun _ _ => False) s := by
  revert X; k_fill; intro X
  conv in List.take _ _ => whnf
  obtain ⟨pl0, N0, hpb0, hpk0⟩ := ro_start F [L] (.head _)
  have N : News hB L s.heap ((D, lst ys ep) :: (D0, lst vs n0) :: pl0) := News.ins eD BD.2 BD.1 (News.ins eD0 BD0.2 BD0.1 N0)
  clear N0
  replace F := Fr.over F [(Str.ofString "gap", .ref tl), (Str.ofString "due", .ref D), (Str.ofString "said", .ref D0)] ⟨m0, m1, m2, trivial⟩
  w_on
  k_steps
  refine ends_spec t tl _ _ _ _ _ _ _ (T.keeps F.keep) (X.keeps F.keep) (by show dp + 1 + t.high < _; omega) hsz (hideAll s.heap [L]) (fun b o e => of_hideAll [L] e) htr ?_
  intro h1 tk1 a1 n1 vs1 st1 M1 E1
  have F1 := F.keeps st1
  have mr := M1 _ (.head _)
  have N1 := News.ins mr.1 (frame_ne F mr.2) (none_of F mr.2) (News.stays N st1)
  have D1 : DuesAt w h1 ys ab := ⟨hDu.1, fun j v p hv hp => by
    obtain ⟨d, t, u, e1, e2, ⟨o, es, ep', e, r⟩⟩ := hDu.2 j v p hv hp
    exact ⟨d, t, u, e1, e2, o, es, ep', st1 _ _ e, r⟩⟩
  clear F N M1 mr hDu
  refine tk_any (s₀ := s) (h := h1) fun tk1' => ?_
  iterate 1 walk1
  have told := ends_told (w := w) (A := ((Ar dp un fr gd).deeper (lawEnv L fl cd)).in1) (s := { s with heap := h1, toks := tk1' }) hE E1 (fun b o e => st1 _ _ (of_hideAll [L] e)) D1 (by first | exact lim 4 hu | exact limT 4 hu | (show un + 3 + 1 < _; omega))
  have hsz1 : vs1.length = ys.length := by
    have := congrArg List.length hE
    rw [List.length_map, List.length_map] at this
    rw [E1.length, D1.1, this]
  refine list_neW (items := vs1.toArray) (items2 := ys.toArray) (News.isList N1 (.head _)) (News.isList N1 (.tail _ (.head _))) (by simpa using hsz1) (by first | exact lim 3 hu | exact limT 3 hu | (show un + 3 < _; omega)) told ?_
  clear told D1 E1 hE
  iterate 4 walk1
  refine comp_none (cl := ?cl) rfl (by rfl) rfl (by decide) (by decide) (by decide) ?_
  iterate 1 walk1
  refine ⟨D0, vs, rfl, News.isList N1 (.tail _ (.tail _ (.head _))), by rw [hvs.length, List.length_map]; omega, ?_, ?_⟩
  · intro C m2 s2 i v hv F2 hm2
    obtain ⟨p, hp⟩ : ∃ p, ab[i]? = some p := by
      have : i < ab.length := by
        have := (List.getElem?_eq_some_iff.mp hv).1
        rw [hvs.length, List.length_map] at this; exact this
      exact ⟨_, List.getElem?_eq_getElem this⟩
    obtain ⟨tx, rfl⟩ := ints_at hvs hv hp
    have T2 := T.keeps F1.keep
    have F3 := Fr.over F2 [(Str.ofString "step", .int (saidOf p) tx)] ⟨hm2, trivial⟩
    have X2 := X.keeps F1.keep
    clear hret F2 F1 N1
    dsimp only at F3
    obtain ⟨hp2, g2, dr2, tk2, os2⟩ := s2
    dsimp only at F3
    k_steps
    exact ⟨_, _, rfl, fun b o e => e⟩
  · intro D5 h5 tk5 n5 st5 e5 f5
    have F5 := F1.keeps st5
    have N5 := News.ins e5 (frame_ne F1 f5) (none_of F1 f5) (News.stays N1 st5)
    clear F1 N1
    refine tk_any (s₀ := s) (h := h5) fun tk5' => ?_
    k_steps
    show wpAny _ _ (execs [] (lawEnv L fl cd)) _ _ _
    refine wpAny_execs_nil ?_
    rw [over_eq [(Str.ofString "gap", .ref tl), (Str.ofString "due", .ref D), (Str.ofString "said", .ref D0)] ⟨m0, m1, ‹m (Str.ofString "said") = some (.ref D0)›, trivial⟩] at F5
    exact hret h5 _ F5 (hpk0 h5 F5.keep fun p hp => (N5 p (by simp [hp])).1)
end Mine
end
section
open PySem PySem.W PyProof.Rows PySem.Spec PySem.Calls
namespace Mine
variable {w : World} {mg mb : Str → Option Value} {mean : ExcName → Option Value} {dp un : Nat} {fr : Option (List Env)} {gd : Option (List Code)} {s : Shared} {Q E : Value → Shared → Prop}
local macro_rules | `(tactic| k_all) => `(tactic| assumption)
set_option maxRecDepth 100000 in
set_option maxHeartbeats 1000000 in
theorem row_cut {hB : Heap} {L fl tl : Addr} {cd : Value} {m : Str → Option Value} {y : List Nat} {tr : Tok} {t : Gap} {R : Flow → Shared → Prop}
  (T : Top topProg LOOSE mean mg mb hB) (X : (Mine.hd.heap_39 w.params).In hB) (hd : dp + t.high + 80 < recursionLimit) (hu : un + 400 < cLine)
  (F : Fr hB L s.heap m) (m0 : m (Str.ofString "gap") = some (.ref tl)) (htr : TreeH w.params (hideAll s.heap [L]) tl t) (hsz : t.size ≤ 40)
  (m1 : m (Str.ofString "row") = some (.str (wd y) tr)) (ly : y.length ≤ 40) (hF : Fine y) (h256 : ∀ c ∈ y, c < 256) (hC : cutN (y.length + 1) y = t.shape)
  (hret : ∀ (h' : Heap) (tk' : Nat), Fr hB L h' m → But s.heap [L] h' → R .next { s with heap := h', toks := tk' }) :
  wpAny (model PySem.Challenge.rw_wr0012_01.row.prog w) ((Ar dp un fr gd).deeper (lawEnv L fl cd)) (execs (((loopBody 9).drop 4).take 1) (lawEnv L fl cd)) R (fun _ _ => False) s := by
  revert X; k_fill; intro X
  conv in List.take _ _ => whnf
  have hlz : (wd y).length = y.length := wd_length y
  obtain ⟨pl0, N, hpb0, hpk0⟩ := ro_start F [L] (.head _)
  replace F := Fr.over F [(Str.ofString "row", .str (wd y) tr), (Str.ofString "gap", .ref tl)] ⟨m1, m0, trivial⟩
  w_on
  k_steps
  refine cut_spec y.length y (Nat.le_refl _) (by omega) hF h256 _ _ _ _ _ _ _ _ (T.keeps F.keep) (X.keeps F.keep) (by show dp + 1 + _ + 2 < _; omega) (by show un + 3 + 3 * _ + 100 < _; omega) ?_
  intro h2 tk2 v tl2 st2 M2 hr
  have hr' : ReadsIn tl2 v t.shape := by rw [hlz] at hr; rw [← hC]; exact hr
  have F2 := Fr.stays F st2
  have N2 := News.stays N st2
  have x2 : TreeH w.params h2 tl t := htr.keeps fun b o e => st2 b o (of_hideAll [L] e)
  clear F N hr
  refine tk_any (s₀ := s) (h := h2) fun tk2' => ?_
  k_steps
  refine shape_spec t tl _ _ _ _ _ _ _ (T.keeps F2.keep) (X.keeps F2.keep) (by show dp + 1 + t.high < _; omega) hsz x2 ?_
  intro h3 tk3 v3 tl3 st3 M3 hr3
  have F3 := F2.keeps st3
  have N3 := News.stays N2 st3
  have rd1 := hr' h3 (fun p hp => st3 _ _ (M2 p hp).1)
  have rd2 := hr3 h3 (fun p hp => (M3 p hp).1)
  clear F2 N2 hr' hr3 x2 M2 M3
  obtain ⟨as1, rd1⟩ := rd1
  obtain ⟨as2, rd2⟩ := rd2
  have lay := cutN_lay (y.length + 1) y hF h256
  rw [hC] at lay
  have kk : But s.heap [L] h3 := hpk0 h3 F3.keep fun p hp => (N3 p hp).1
  rw [over_eq [(Str.ofString "row", .str (wd y) tr), (Str.ofString "gap", .ref tl)] ⟨m1, m0, trivial⟩] at F3
  refine tk_any (s₀ := s) (h := h3) fun tk3' => ?_
  refine SeqAt.compareNe_reads rd1 rd2 lay.1 lay.1 (by have := lay.2.1; rw [Nat.min_self]; show un + 3 + _ < _; omega) ?_
  rw [SeqAt.eqv_refl _ lay.1]
  iterate 3 walk1
  show wpAny _ _ (execs [] (lawEnv L fl cd)) _ _ _
  refine wpAny_execs_nil ?_
  exact hret h3 _ F3 kk
end Mine
end
section
open PySem PySem.W PyProof.Rows PySem.Spec PySem.Calls
namespace Mine
variable {w : World} {mg mb : Str → Option Value} {mean : ExcName → Option Value} {dp un : Nat} {fr : Option (List Env)} {gd : Option (List Code)} {s : Shared} {Q E : Value → Shared → Prop}
local macro_rules | `(tactic| k_all) => `(tactic| assumption)
theorem But.list {h h' : Heap} {L B : Addr} {vs : List Value} {n : Nat} (x : But h [L] h') (e : h.get? B = some (lst vs n)) (hB : B ≠ L) : h'.get? B = some (lst vs n) := x.get e (by simpa using hB)
theorem PairsAt.but {h h' : Heap} {L : Addr} {as : List Addr} {ab : List (List Nat × List Nat)} (x : PairsAt h as ab) (b : But h [L] h') (ha : ∀ a ∈ as, a ≠ L) : PairsAt h' as ab :=
  ⟨x.1, fun j a p h1 h2 => by
    obtain ⟨t, u, e⟩ := x.2 j a p h1 h2
    exact ⟨t, u, b.get e (by simpa using ha a (List.mem_of_getElem? h1))⟩⟩
theorem hideL {h h' : Heap} {L : Addr} (b : But h [L] h') : (hideAll h [L]).StaysIn (hideAll h' [L]) := b.hide
inductive RowB0 (hB : Heap) (L : Addr) (m : Str → Option Value) (s : Shared) (t : Gap) (s' : Shared) : Prop where
  | mk (h' : Heap) (tk' : Nat) (B : Addr) (as : List Addr) (n : Nat) (c0 : s' = { s with heap := h', toks := tk' }) (c1 : Fr hB L h' (fun z => if z = Str.ofString "sides" then some (.ref B) else m z)) (c2 : But s.heap [L] h') (c3 : (hB.get? B = none ∧ B ≠ L)) (c4 : h'.get? B = some (lst (as.map Value.ref) n)) (c5 : (∀ a ∈ as, hB.get? a = none ∧ a ≠ L)) (c6 : PairsAt h' as (gapsOf t.word))
inductive RowB1 (hB : Heap) (L : Addr) (m : Str → Option Value) (s : Shared) (t : Gap) (B : Addr) (h1 : Heap) (s' : Shared) : Prop where
  | mk (h' : Heap) (tk' : Nat) (D : Addr) (vs : List Value) (ep : Nat) (c0 : s' = { s with heap := h', toks := tk' }) (c1 : Fr hB L h' (fun z => if z = Str.ofString "said" then some (.ref D) else if z = Str.ofString "sides" then some (.ref B) else m z)) (c2 : But h1 [L] h') (c3 : (hB.get? D = none ∧ D ≠ L)) (c4 : B ≠ D) (c5 : h'.get? D = some (lst vs ep)) (c6 : IntsAre vs ((gapsOf t.word).map saidOf))
inductive RowB2 (w : World) (hB : Heap) (L : Addr) (m : Str → Option Value) (s : Shared) (t : Gap) (B D0 : Addr) (h2 : Heap) (s' : Shared) : Prop where
  | mk (h' : Heap) (tk' : Nat) (D : Addr) (ys : List Value) (ep : Nat) (c0 : s' = { s with heap := h', toks := tk' }) (c1 : Fr hB L h' (fun z => if z = Str.ofString "due" then some (.ref D) else if z = Str.ofString "said" then some (.ref D0) else if z = Str.ofString "sides" then some (.ref B) else m z)) (c2 : But h2 [L] h') (c3 : (hB.get? D = none ∧ D ≠ L)) (c4 : h'.get? D = some (lst ys ep)) (c5 : DuesAt w h' ys (gapsOf t.word))
inductive RowB3 (hB : Heap) (L : Addr) (m : Str → Option Value) (s : Shared) (B D0 D : Addr) (h3 : Heap) (s' : Shared) : Prop where
  | mk (h' : Heap) (tk' : Nat) (c0 : s' = { s with heap := h', toks := tk' }) (c1 : Fr hB L h' (fun z => if z = Str.ofString "due" then some (.ref D) else if z = Str.ofString "said" then some (.ref D0) else if z = Str.ofString "sides" then some (.ref B) else m z)) (c2 : But h3 [L] h')
theorem row_body {hB : Heap} {L fl tl : Addr} {cd : Value} {m : Str → Option Value} {tr : Tok} {t : Gap} {R : Flow → Shared → Prop}
  (T : Top topProg LOOSE mean mg mb hB) (X : (Mine.hd.heap_39 w.params).In hB) (hd : dp + t.high + 80 < recursionLimit) (hu : un + 400 < cLine)
  (F : Fr hB L s.heap m) (m0 : m (Str.ofString "gap") = some (.ref tl)) (htr : TreeH w.params (hideAll s.heap [L]) tl t) (hsz : t.size ≤ 20)
  (m1 : m (Str.ofString "row") = some (.str (wd t.word) tr)) (hF : Fine t.word) (h256 : ∀ c ∈ t.word, c < 256) (hC : cutN (t.word.length + 1) t.word = t.shape) (hE : EndsDue t (gapsOf t.word))
  (hret : ∀ (h' : Heap) (tk' : Nat) (m' : Str → Option Value), Fr hB L h' m' → But s.heap [L] h' → (∀ z, z ≠ Str.ofString "sides" → z ≠ Str.ofString "said" → z ≠ Str.ofString "due" → m' z = m z) → R .next { s with heap := h', toks := tk' }) :
  wpAny (model PySem.Challenge.rw_wr0012_01.row.prog w) ((Ar dp un fr gd).deeper (lawEnv L fl cd)) (execs (loopBody 9) (lawEnv L fl cd)) R (fun _ _ => False) s := by
  have ly : t.word.length ≤ 40 := by rw [Gap.word_length]; omega
  have hab : (gapsOf t.word).length ≤ 100 := by rw [gapsOf_length]; omega
  refine execs_cut_at 1 (RowB0 hB L m s t)
    (row_sides T X (by omega) F m1 ly fun h' tk' B as n a1 a2 a3 a4 a5 a6 a7 => .intro ⟨h', tk', B, as, n, rfl, a1, a2, ⟨a3, a4⟩, a5, a6, a7⟩) ?_
  rintro _ ⟨h1, tk1, B, as, n, rfl, F1, b1, bB, eB, has, hP⟩
  refine execs_cut_at 1 (RowB1 hB L m s t B h1)
    (row_said (s := { s with heap := h1, toks := tk1 }) T X (by omega) F1 rfl eB hP hab fun h' tk' D vs ep a1 a2 a3 a4 a5 a6 a7 => .intro ⟨h', tk', D, vs, ep, rfl, a1, a2, ⟨a3, a4⟩, (fun q => by subst q; rw [eB] at a7; cases a7), a5, a6⟩) ?_
  rw [List.drop_drop]
  rintro _ ⟨h2, tk2, D0, vs, n0, rfl, F2, b2, bD0, neBD, eD0, hvs⟩
  refine execs_cut_at 1 (RowB2 w hB L m s t B D0 h2)
    (row_due (s := { s with heap := h2, toks := tk2 }) T X (by omega) F2 rfl (b2.list eB bB.2) (hP.but b2 fun a ha => (has a ha).2) hab bB rfl eD0 hvs bD0 neBD fun h' tk' D ys ep a1 a2 a3 a4 a5 a6 => .intro ⟨h', tk', D, ys, ep, rfl, a1, a2, ⟨a3, a4⟩, a5, a6⟩) ?_
  rw [List.drop_drop]
  rintro _ ⟨h3, tk3, D, ys, ep, rfl, F3, b3, bD, eD, hDu⟩
  have b03 : But s.heap [L] h3 := (b1.trans b2).trans b3
  refine execs_cut_at 1 (RowB3 hB L m s B D0 D h3)
    (row_ends (s := { s with heap := h3, toks := tk3 }) T X (by omega) (by omega) F3 ((by exact m0)) (htr.keeps (hideL b03)) (by omega) rfl eD hDu bD hab rfl (b3.list eD0 bD0.2) hvs bD0 hE fun h' tk' a1 a2 => .intro ⟨h', tk', rfl, a1, a2⟩) ?_
  rw [List.drop_drop]
  rintro _ ⟨h4, tk4, rfl, F4, b4⟩
  have b04 : But s.heap [L] h4 := b03.trans b4
  rw [show (loopBody 9).drop (1 + 1 + 1 + 1) = ((loopBody 9).drop 4).take 1 from rfl]
  refine row_cut (s := { s with heap := h4, toks := tk4 }) T X hd hu F4 (by exact m0) (htr.keeps (hideL b04)) (by omega) (by exact m1) ly hF h256 hC fun h' tk' F5 b5 => ?_
  exact hret h' tk' _ F5 (b04.trans b5) fun z z1 z2 z3 => by simp [z1, z2, z3]
end Mine
end
section
open PySem PySem.W PyProof.Rows PySem.Spec PySem.Calls
namespace Mine
variable {w : World} {mg mb : Str → Option Value} {mean : ExcName → Option Value} {dp un : Nat} {fr : Option (List Env)} {gd : Option (List Code)} {s : Shared} {Q E : Value → Shared → Prop}
local macro_rules | `(tactic| k_all) => `(tactic| assumption)
noncomputable abbrev tupG (g : Addr) (y : Str) (u : Tok) : Obj := { cls := .type "tuple", data := .seq #[.ref g, .str y u] }
structure RowOK (dp : Nat) (t : Gap) : Prop where
  hd : dp + t.high + 80 < recursionLimit
  hsz : t.size ≤ 20
  hF : Fine t.word
  h256 : ∀ c ∈ t.word, c < 256
  hC : cutN (t.word.length + 1) t.word = t.shape
  hE : EndsDue t (gapsOf t.word)
theorem tup2of {P : Params} {h hT : Heap} {D1 D2 tl tu : Addr} (NB : Addr → Prop) (L : Addr) {i : Nat} {v : Value} {t1 t2 : Gap} {u1 u2 : Tok} (hv : [Value.ref D1, .ref D2][i]? = some v)
    (n1 : h.get? D1 = some (tupG tl (wd t1.word) u1) ∧ D1 ≠ L ∧ NB D1) (n2 : h.get? D2 = some (tupG tu (wd t2.word) u2) ∧ D2 ≠ L ∧ NB D2)
    (r1 : RowOK dp t1) (r2 : RowOK dp t2) (x1 : TreeH P hT tl t1) (x2 : TreeH P hT tu t2) :
    ∃ Dv g t u, v = .ref Dv ∧ (h.get? Dv = some (tupG g (wd t.word) u) ∧ Dv ≠ L ∧ NB Dv) ∧ RowOK dp t ∧ TreeH P hT g t := by
  have h3 : i < 2 := (List.getElem?_eq_some_iff.mp hv).1
  obtain rfl | rfl : i = 0 ∨ i = 1 := by omega
  · exact ⟨D1, _, _, _, (Option.some.inj hv).symm, n1, r1, x1⟩
  · exact ⟨D2, _, _, _, (Option.some.inj hv).symm, n2, r2, x2⟩
set_option maxRecDepth 100000 in
set_option maxHeartbeats 1000000 in
theorem law_rows {B : List Stmt} (hBB : fnBody 20 = B) {R : Flow → Shared → Prop} {hB : Heap} {L fl tl tu : Addr} {cd : Value} {m : Str → Option Value} {t1 t2 : Gap} {tw to : Tok} {oW : Obj}
  (T : Top topProg LOOSE mean mg mb hB) (X : (Mine.hd.heap_39 w.params).In hB) (hu : un + 400 < cLine)
  (F : Fr hB L s.heap m) (ht : m (Str.ofString "top") = some (.ref tl)) (hv : m (Str.ofString "turned") = some (.ref tu)) (ho : m (Str.ofString "other") = some (.str (wd t2.word) to))
  (x1 : TreeH w.params (hideAll s.heap [L]) tl t1) (x2 : TreeH w.params (hideAll s.heap [L]) tu t2) (r1 : RowOK dp t1) (r2 : RowOK dp t2)
  (eW : s.heap.get? (L + 2) = some oW) (dW : oW.data = .cell (some (.str (wd t1.word) tw))) (bW : hB.get? (L + 2) = none)
  (hret : ∀ (h' : Heap) (tk' : Nat) (m' : Str → Option Value), Fr hB L h' m' → (∀ z, z ∉ [Str.ofString "gap", Str.ofString "row", Str.ofString "sides", Str.ofString "said", Str.ofString "due"] → m' z = m z) → But s.heap [L] h' → R .next { s with heap := h', toks := tk' }) :
  wpAny (model PySem.Challenge.rw_wr0012_01.row.prog w) ((Ar dp un fr gd).deeper (lawEnv L fl cd)) (execs ((B.drop 9).take 1) (lawEnv L fl cd)) R (fun _ _ => False) s := by
  subst hBB
  revert X; k_fill; intro X
  conv in List.take _ _ => whnf
  replace F := Fr.over F [(Str.ofString "top", .ref tl), (Str.ofString "turned", .ref tu), (Str.ofString "other", .str (wd t2.word) to)] ⟨ht, hv, ho, trivial⟩
  obtain ⟨pl0, Npl0, hpb0, hpk0⟩ := ro_start F [L] (.head _)
  have L2 : @Ne Nat (L + 2) L := Nat.ne_of_gt (Nat.lt_add_of_pos_right (by decide))
  have N : News hB L s.heap ((L + 2, oW) :: pl0) := News.ins eW L2 bW Npl0
  clear Npl0
  w_on
  iterate 1 walk1
  refine For_turns F ?_
  k_steps
  rename_i D1 h1 l1 D2 h2 l2 D h F1 N1 lD
  have nD := N1 _ (.head _)
  dsimp only at nD
  refine turns_tup (s := ⟨h, _, _, _, _⟩) (vs := [_, _]) (fun i m₁ => ∀ z, z ∉ [Str.ofString "gap", Str.ofString "row", Str.ofString "sides", Str.ofString "said", Str.ofString "due"] → m₁ z = over [(Str.ofString "top", .ref tl), (Str.ofString "turned", .ref tu), (Str.ofString "other", .str (wd t2.word) to)] m z) rfl ⟨_, nD.1, rfl, _, rfl⟩ nD.2.1 F1 N1 (fun _ _ => rfl) ?_ ?_
  · intro i v m₁ h4 tk4 own hv hJ F4 N4
    clear hret F1 lD
    have n1 := N4 (D1, _) (List.mem_append_left _ (.tail _ (.tail _ (.head _))))
    have n2 := N4 (D2, _) (List.mem_append_left _ (.tail _ (.head _)))
    dsimp only at n1 n2
    have q1 := tup2of (P := w.params) (hT := hideAll s.heap [L]) (NB := fun q => hB.get? q = none) (L := L) hv n1 n2 r1 r2 x1 x2
    obtain ⟨Dv, g, t, u, hv2, hin, hr, hx⟩ := q1
    subst hv2
    clear n1 n2 x1 x2 r1 r2
    have N4' := News.ins hin.1 hin.2.1 hin.2.2 N4
    clear N4 hv hin
    refine tk_any (s₀ := s) (h := h4) fun tk4' => ?_
    iterate 8 walk1
    rename_i h5 F5 N5
    refine tk_any (s₀ := s) (h := h5) fun tk5 => ?_
    have k5 : But s.heap [L] h5 := hpk0 h5 F5.keep fun p hp => (N5 p (.tail _ (List.mem_append_left _ (.tail _ (.tail _ (.tail _ (.tail _ hp))))))).1
    have x5 : TreeH w.params (hideAll h5 [L]) g t := hx.keeps (hideL k5)
    refine row_body (s := { s with heap := h5, toks := tk5 }) (w := w) (dp := dp) (un := un) (fr := fr) (gd := gd) (fl := fl) (cd := cd) T X hr.hd hu F5 rfl x5 hr.hsz rfl hr.hF hr.h256 hr.hC hr.hE ?_
    intro h6 tk6 m6 F6 b6 e6
    refine ⟨h6, tk6, m6, rfl, F6, fun p hp => ?_, fun z hz => ?_⟩
    · have q := N5 p (.tail _ hp)
      exact ⟨b6.get q.1 (by simpa using q.2.1), q.2⟩
    · simp only [List.mem_cons, List.mem_nil_iff, or_false, not_or] at hz
      rw [e6 z hz.2.2.1 hz.2.2.2.1 hz.2.2.2.2]
      simp only [hz.1, hz.2.1, if_false]
      exact hJ z (by simp only [List.mem_cons, List.mem_nil_iff, or_false, not_or]; exact hz)
  · intro m₁ h4 tk4 hJ F4 N4
    refine tk_any (s₀ := s) (h := h4) fun tk4' => ?_
    show wpAny _ _ (execs [] (lawEnv L fl cd)) _ _ _
    refine wpAny_execs_nil ?_
    refine hret h4 _ m₁ F4 (fun z hz => ?_) (hpk0 h4 F4.keep fun p hp => (N4 p (.tail _ (.tail _ (.tail _ (.tail _ hp))))).1)
    rw [hJ z hz, over_eq [(Str.ofString "top", .ref tl), (Str.ofString "turned", .ref tu), (Str.ofString "other", .str (wd t2.word) to)] ⟨ht, hv, ho, trivial⟩]
end Mine
end
section
open PySem PySem.W PyProof.Rows PySem.Spec PySem.Calls
namespace Mine
variable {w : World} {mg mb : Str → Option Value} {mean : ExcName → Option Value} {dp un : Nat} {fr : Option (List Env)} {gd : Option (List Code)} {s : Shared} {Q E : Value → Shared → Prop}
local macro_rules | `(tactic| k_all) => `(tactic| assumption)
theorem lay3 {x : Str} (h : PyData.canLay0 (.str x) = true) : PyData.canLay0 (.tuple [.none, .none, .str x]) = true := by
  simp [PyData.canLay0, PyData.canLayAll0] at h ⊢
  try exact h
theorem join4 {a b c d : List Nat} : Txt.join (Str.ofString "'") [wd a, wd b, wd c, wd d] = wd (a ++ [39] ++ b ++ [39] ++ c ++ [39] ++ d) := by
  refine (StrLaws.glued_eq_join _ _).trans ?_
  rw [show Str.ofString "'" = wd [39] by decide]
  show wd a ++ wd [39] ++ (wd b ++ wd [39] ++ (wd c ++ wd [39] ++ wd d)) = _
  simp only [wd_append, List.append_assoc]
theorem join2' {a b : List Nat} : Txt.join (Str.ofString "'") [wd a, wd b] = wd (a ++ [39] ++ b) := by
  refine (StrLaws.glued_eq_join _ _).trans ?_
  rw [show Str.ofString "'" = wd [39] by decide]
  show wd a ++ wd [39] ++ wd b = _
  simp only [wd_append, List.append_assoc]
theorem told3 {l : List (Str × Tok)} {a b c : Str} (e : l.map (·.1) = [a, b, c]) : ∃ ta tb tc, l = [(a, ta), (b, tb), (c, tc)] := by
  obtain ⟨⟨x1, t1⟩, l1, rfl, rfl, e1⟩ := List.map_eq_cons_iff.mp e
  obtain ⟨⟨x2, t2⟩, l2, rfl, rfl, e2⟩ := List.map_eq_cons_iff.mp e1
  obtain ⟨⟨x3, t3⟩, l3, rfl, rfl, e3⟩ := List.map_eq_cons_iff.mp e2
  rw [List.map_eq_nil_iff.mp e3]
  exact ⟨_, _, _, rfl⟩
theorem layL {a b c : Str} (ha : PyData.canLay0 (.str a) = true) (hb : PyData.canLay0 (.str b) = true) (hc : PyData.canLay0 (.str c) = true) : PyData.canLay0 (.list [.str a, .str b, .str c]) = true := by
  simp [PyData.canLay0, PyData.canLayAll0] at ha hb hc ⊢
  exact ⟨ha, hb, hc⟩
theorem depthL {a b c : Str} : PyData.depth (.list [.str a, .str b, .str c]) = 1 := by simp [PyData.depth, PyData.depthAll]
theorem readsL {h : Heap} {l : Addr} {n : Nat} {a b c : Str} {ta tb tc : Tok} (e : h.get? l = some { cls := .type "list", data := .seq #[.str a ta, .str b tb, .str c tc] n }) : Reads h (.ref l) (.list [.str a, .str b, .str c]) [l] :=
  reads_list (as := []) e (.cons (as := []) (bs := []) (.str a ta) (.cons (as := []) (bs := []) (.str b tb) (.cons (as := []) (bs := []) (.str c tc) .nil)))
theorem depth3 {x : Str} : PyData.depth (.tuple [.none, .none, .str x]) = 1 := by simp [PyData.depth, PyData.depthAll]
set_option maxRecDepth 100000 in
set_option maxHeartbeats 1000000 in
theorem law_last {B : List Stmt} (hBB : fnBody 20 = B) {R : Flow → Shared → Prop} {hB : Heap} {L fl : Addr} {cd : Value} {m : Str → Option Value} {y o z : List Nat} {tw to tz : Tok} {oW oS : Obj}
  (T : Top topProg LOOSE mean mg mb hB) (X : (Mine.hd.heap_39 w.params).In hB) (hd : dp + 15 < recursionLimit) (hu : un + 100 < cLine)
  (F : Fr hB L s.heap m) (h1 : m (Str.ofString "other") = some (.str (wd o) to)) (hy : y.length ≤ 40) (ho : o.length ≤ 40) (hz : z.length ≤ 40)
  (eW : s.heap.get? (L + 2) = some oW) (dW : oW.data = .cell (some (.str (wd y) tw))) (bW : hB.get? (L + 2) = none) (eS : s.heap.get? (L + 3) = some oS) (dS : oS.data = .cell (some (.str (wd z) tz))) (bS : hB.get? (L + 3) = none) 
  (ok1 : PyData.canLay0 (.str (wd y)) = true) (ok2 : PyData.canLay0 (.str (wd o)) = true) (ok3 : PyData.canLay0 (.str (wd (z ++ [39] ++ y))) = true)
  (c1 : (Txt.splitMax (wd y) tick 2).length ≤ 2) (c2 : Txt.splitMax (wd (y ++ [39] ++ o ++ [39] ++ z ++ [39] ++ y)) tick 2 = [wd y, wd o, wd (z ++ [39] ++ y)])
  (hret : ∀ (h' : Heap) (tk' : Nat), But s.heap [L] h' → hB.StaysIn h' → R (.ret (.bool true)) { s with heap := h', toks := tk' }) :
  wpAny (model PySem.Challenge.rw_wr0012_01.row.prog w) ((Ar dp un fr gd).deeper (lawEnv L fl cd)) (execs (B.drop 16) (lawEnv L fl cd)) R (fun _ _ => False) s := by
  subst hBB
  revert X; k_fill; intro X
  conv in List.drop _ _ => whnf
  have hlw : (wd y).length ≤ 40 := by rw [wd_length]; exact hy
  have hlo : (wd o).length ≤ 40 := by rw [wd_length]; exact ho
  have hlz : (wd z).length ≤ 40 := by rw [wd_length]; exact hz
  replace F := Fr.over F [(Str.ofString "other", .str (wd o) to)] ⟨h1, trivial⟩
  obtain ⟨pl0, Npl0, hpb0, hpk0⟩ := ro_start F [L] (.head _)
  have L2 : @Ne Nat (L + 2) L := Nat.ne_of_gt (Nat.lt_add_of_pos_right (by decide))
  have L3 : @Ne Nat (L + 3) L := Nat.ne_of_gt (Nat.lt_add_of_pos_right (by decide))
  have N : News hB L s.heap ((L + 2, oW) :: (L + 3, oS) :: pl0) := News.ins eW L2 bW (News.ins eS L3 bS Npl0)
  clear Npl0
  w_on
  k_steps
  rename_i l4 h4 F4 N4
  refine tk_any (s₀ := s) (h := h4) fun tk4 => ?_
  refine decode_spec _ _ (T.keeps F4.keep) (X.keeps F4.keep) (by first | exact lim 1 hd | exact limT 1 hd | (show dp + 1 < _; omega)) (by omega) (fun _ h5 tk5 a5 st5 M5 => ?_) (fun hc => absurd c1 hc)
  have F5 := Fr.stays F4 st5
  have N5 := News.app (News.stays N4 st5) (News.made F4 M5)
  clear F4 N4
  refine tk_any (s₀ := s) (h := h5) fun tk5' => ?_
  k_steps
  rename_i D6 h6 F6 N6 l6
  clear l6
  have R3 : ∀ h, ReadsAll h [.none, .none, .str (wd y) tw] [.none, .none, .str (wd y)] [] := fun h => .cons (as := []) (bs := []) .none (.cons (as := []) (bs := []) .none (.cons (as := []) (bs := []) (.str (wd y) tw) .nil))
  have g5 := (N6 (a5, _) (.tail _ (List.mem_append_right _ (.head _)))).1
  have g6 := (N6 _ (.head _)).1
  refine tk_any (s₀ := s) (h := h6) fun tk6 => ?_
  refine SeqAt.compareEq_reads (reads_tuple g5 (R3 _)) (reads_tuple g6 (R3 _)) (lay3 ok1) (lay3 ok1) (by rw [depth3]; show un + 3 + _ < _; omega) ?_
  rw [show PyData.eqv (.tuple [.none, .none, .str (wd y)]) (.tuple [.none, .none, .str (wd y)]) = true by simp [PyData.eqv, PyData.eqvAll]]
  clear g5 g6 R3
  k_steps
  rename_i t7 k7
  rw [join4]
  refine tk_any (s₀ := s) (h := h6) fun tk7 => ?_
  refine decode_spec _ _ (T.keeps F6.keep) (X.keeps F6.keep) (by first | exact lim 1 hd | exact limT 1 hd | (show dp + 1 < _; omega)) (by rw [wd_length]; simp; omega) (fun hc => absurd hc (by rw [c2]; exact Nat.lt_irrefl 2)) (fun _ h8 tk8 a8 l8 st8 e8 M8 => ?_)
  rw [c2] at e8
  have F8 := Fr.stays F6 st8
  have N8 := News.app (News.stays N6 st8) (News.made F6 M8)
  clear F6 N6
  refine tk_any (s₀ := s) (h := h8) fun tk8' => ?_
  k_steps
  rename_i ha hb hc l9 h9 D10 h10 F10 N10 l10
  clear h9 l10
  have q8 := told3 e8
  obtain ⟨ta, tb, tc, hl8⟩ := q8
  subst hl8
  rw [join2'] at N10
  have g8 := (N10 (a8, _) (.tail _ (.tail _ (.tail _ (.tail _ (List.mem_append_right _ (.head _))))))).1
  have g10 := (N10 _ (.head _)).1
  have kk : But s.heap [L] h10 := hpk0 h10 F10.keep fun p hp => (N10 p (.tail _ (.tail _ (.tail _ (.tail _ (List.mem_append_left _ (.tail _ (List.mem_append_left _ (.tail _ (.tail _ (.tail _ hp))))))))))).1
  clear N10
  refine tk_any (s₀ := s) (h := h10) fun tk10 => ?_
  refine SeqAt.compareEq_reads (readsL g8) (readsL g10) (layL ok1 ok2 ok3) (layL ok1 ok2 ok3) (by rw [depthL]; show un + 3 + _ < _; omega) ?_
  rw [show PyData.eqv (.list [.str (wd y), .str (wd o), .str (wd (z ++ [39] ++ y))]) (.list [.str (wd y), .str (wd o), .str (wd (z ++ [39] ++ y))]) = true by simp [PyData.eqv, PyData.eqvAll]]
  exact hret h10 _ kk F10.keep
end Mine
end
section
open PySem PySem.W PyProof.Rows PySem.Spec PySem.Calls
namespace Mine
variable {w : World} {mg mb : Str → Option Value} {mean : ExcName → Option Value} {dp un : Nat} {fr : Option (List Env)} {gd : Option (List Code)} {s : Shared} {Q E : Value → Shared → Prop}
local macro_rules | `(tactic| k_all) => `(tactic| assumption)
noncomputable def innerBody (k : Nat) : List Stmt := match loopBody k with | [_, .For _ _ b _ _] => b | _ => []
theorem join5d {a b c d e : List Nat} : Txt.join (Str.ofString "...") [wd a, wd b, wd c, wd d, wd e] = wd (a ++ [46, 46, 46] ++ b ++ [46, 46, 46] ++ c ++ [46, 46, 46] ++ d ++ [46, 46, 46] ++ e) := by
  refine (StrLaws.glued_eq_join _ _).trans ?_
  rw [dots_wd]
  show wd a ++ wd [46, 46, 46] ++ (wd b ++ wd [46, 46, 46] ++ (wd c ++ wd [46, 46, 46] ++ (wd d ++ wd [46, 46, 46] ++ wd e))) = _
  simp only [wd_append, List.append_assoc]
theorem join3d {a b c : List Nat} : Txt.join (Str.ofString "...") [wd a, wd b, wd c] = wd (a ++ [46, 46, 46] ++ b ++ [46, 46, 46] ++ c) := by
  refine (StrLaws.glued_eq_join _ _).trans ?_
  rw [dots_wd]
  show wd a ++ wd [46, 46, 46] ++ (wd b ++ wd [46, 46, 46] ++ wd c) = _
  simp only [wd_append, List.append_assoc]
set_option maxRecDepth 100000 in
set_option maxHeartbeats 1000000 in
theorem xy_body {hB : Heap} {L fl pa : Addr} {cd : Value} {m : Str → Option Value} {wdl o : List Nat} {xc yc : Nat} {tx ty tw to : Tok} {p0 p1 p2 : List Nat} {t0 t1 t2 : Tok} {ep : Nat} {nw : List (Addr × Obj)} {oW : Obj}
  (T : Top topProg LOOSE mean mg mb hB) (X : (Mine.hd.heap_39 w.params).In hB) (hd : dp + 15 < recursionLimit)
  (F : Fr hB L s.heap m) (N : News hB L s.heap ((L + 2, oW) :: (pa, lst [.str (wd p0) t0, .str (wd p1) t1, .str (wd p2) t2] ep) :: nw)) (dW : oW.data = .cell (some (.str (wd wdl) tw))) (m1 : m (Str.ofString "x") = some (.str (chr xc) tx)) (m2 : m (Str.ofString "y") = some (.str (chr yc) ty)) (m3 : m (Str.ofString "parts") = some (.ref pa)) (m4 : m (Str.ofString "other") = some (.str (wd o) to))
  {q0 q1 q2 : List Nat} (sw : Txt.split (wd wdl) (chr xc) = [wd q0, wd q1, wd q2]) (e1 : ellB (wd [46, 46, 46, xc, 46, 46, 46, yc, 46, 46, 46, xc, 46, 46, 46]) (wd wdl) = !(Builtin.Str.occurrences (wd q1) (chr yc) 0 (wd q1).length 1).isEmpty) (e2 : ellB (wd [46, 46, 46, xc, yc, 46, 46, 46]) (wd wdl) = !(Builtin.Str.occurrences (wd wdl) (chr xc ++ chr yc) 0 (wd wdl).length 1).isEmpty)
  (e3 : ellB (wd (p0 ++ [xc] ++ [46, 46, 46] ++ [yc] ++ [46, 46, 46] ++ ([xc] ++ p2))) (wd o) = !(Builtin.Str.occurrences (wd p1) (chr yc) 0 (wd p1).length 1).isEmpty) (lw : wdl.length ≤ 40) (lo : o.length ≤ 40) (l0 : p0.length ≤ 40) (l1 : p1.length ≤ 40) (l2 : p2.length ≤ 40) :
  wpAny (model PySem.Challenge.rw_wr0012_01.row.prog w) ((Ar dp un fr gd).deeper (lawEnv L fl cd)) (execs (innerBody 10) (lawEnv L fl cd)) (TurnRead hB L m ((L + 2, oW) :: (pa, lst [.str (wd p0) t0, .str (wd p1) t1, .str (wd p2) t2] ep) :: nw) s) (fun _ _ => False) s := by
  revert X; k_fill; intro X
  conv in innerBody _ => whnf
  have h0 : (wd p0).length ≤ 40 := by rw [wd_length]; exact l0
  have h1 : (wd p1).length ≤ 40 := by rw [wd_length]; exact l1
  have h2 : (wd p2).length ≤ 40 := by rw [wd_length]; exact l2
  have h3 : (wd wdl).length ≤ 40 := by rw [wd_length]; exact lw
  have h4 : (chr xc).length = 1 := by rfl
  have h5 : (chr yc).length = 1 := by rfl
  replace F := Fr.over F [(Str.ofString "x", .str (chr xc) tx), (Str.ofString "y", .str (chr yc) ty), (Str.ofString "parts", .ref pa), (Str.ofString "other", .str (wd o) to)] ⟨m1, m2, m3, m4, trivial⟩
  w_on
  k_steps
  rename_i la ha Fa Na _
  have ga := (Na _ (.head _)).1
  refine tk_any (s₀ := s) (h := ha) fun tka => ?_
  refine join_listC (ys := [wd [], wd [xc], wd [yc], wd [xc], wd []]) ⟨_, ga, rfl, _, rfl⟩ (.cons _ _ (.cons _ _ (.cons _ _ (.cons _ _ (.cons _ _ .nil))))) (by decide) (by simp [wd_length]) fun tb kb => ?_
  rw [join5d]
  have Na' := News.tail Na
  clear ga Na
  k_steps
  refine ell_spec _ _ _ _ (T.keeps Fa.keep) (X.keeps Fa.keep) (by first | exact lim 1 hd | exact limT 1 hd | (show dp + 1 < _; omega)) (by rw [wd_length]; exact Nat.le_of_ble_eq_true rfl) (by omega) fun hb tkb stb => ?_
  have Fb := Fa.keeps stb
  have Nb := News.stays Na' stb
  clear Fa Na'
  refine tk_any (s₀ := s) (h := hb) fun tkb' => ?_
  iterate 12 walk1
  rename_i lq hq kq eq sq _ Lq Fq Nq
  rw [sw] at eq
  have q3 := told3 eq
  obtain ⟨ta, tb', tc, hlq⟩ := q3
  subst hlq
  refine item_nat (k := 1) (v := .str (wd q1) tb') Lq (by decide) rfl ?_
  have Nq' := News.tail Nq
  clear Nq Lq sq
  refine tk_any (s₀ := s) (h := hq) fun tkq => ?_
  iterate 1 walk1
  rw [e1]
  refine wpAny_isNot_self (by rfl) ?_
  k_steps
  rename_i txy _ lc hc Fc Nc _
  have gc := (Nc _ (.head _)).1
  refine tk_any (s₀ := s) (h := hc) fun tkc => ?_
  refine join_listC (ys := [wd [], wd [xc, yc], wd []]) ⟨_, gc, rfl, _, rfl⟩ (.cons _ _ (.cons _ _ (.cons _ _ .nil))) (by decide) (by simp [wd_length]) fun td kd => ?_
  rw [join3d]
  have Nc' := News.tail Nc
  clear gc Nc
  k_steps
  refine ell_spec _ _ _ _ (T.keeps Fc.keep) (X.keeps Fc.keep) (by first | exact lim 1 hd | exact limT 1 hd | (show dp + 1 < _; omega)) (by rw [wd_length]; exact Nat.le_of_ble_eq_true rfl) (by omega) fun hd tkd std => ?_
  have Fd := Fc.keeps std
  have Nd := News.stays Nc' std
  clear Fc Nc'
  refine tk_any (s₀ := s) (h := hd) fun tkd' => ?_
  iterate 7 walk1
  rw [e2]
  refine wpAny_isNot_self (by rfl) ?_
  have h6 : (wd o).length ≤ 40 := by rw [wd_length]; exact lo
  refine tk_any (s₀ := s) (h := hd) fun tkd2 => ?_
  k_steps
  rename_i le he Fe Ne _ tg kg
  rw [show chr xc = wd [xc] from rfl, show chr yc = wd [yc] from rfl, wd_append, wd_append, join3d]
  refine tk_any (s₀ := s) (h := he) fun tke => ?_
  refine ell_spec _ _ _ _ (T.keeps Fe.keep) (X.keeps Fe.keep) (by first | exact lim 1 hd | exact limT 1 hd | (show dp + 1 < _; omega)) (by rw [wd_length]; simp; omega) (by omega) fun hf tkf stf => ?_
  have Ff := Fe.keeps stf
  have Nf := News.tail (News.stays Ne stf)
  clear Fe Ne
  refine tk_any (s₀ := s) (h := hf) fun tkf' => ?_
  iterate 5 walk1
  have gp := (Nf (pa, _) (.tail _ (.head _))).1
  refine item_nat (k := 1) (v := .str (wd p1) t1) ⟨_, gp, rfl, _, rfl⟩ (by decide) rfl ?_
  iterate 1 walk1
  rw [e3]
  refine wpAny_isNot_self (by rfl) ?_
  iterate 4 walk1
  rw [over_eq [(Str.ofString "x", .str (chr xc) tx), (Str.ofString "y", .str (chr yc) ty), (Str.ofString "parts", .ref pa), (Str.ofString "other", .str (wd o) to)] ⟨m1, m2, m3, m4, trivial⟩] at Ff
  refine wpAny_execs_nil ?_
  exact ⟨rfl, hf, _, m, rfl, Ff, Nf, rfl⟩
end Mine
end
section
open PySem PySem.W PyProof.Rows PySem.Spec PySem.Calls
namespace Mine
theorem turn_two0 (elt t0 i0 t1 i1 : PySem.Expr) (ifs : List PySem.Expr) (scope : Scope) (pos : Pos) (it acc : Value) (env : Env) :
    compTurn (.ListComp elt [⟨t0, i0, [], 0⟩, ⟨t1, i1, ifs, 0⟩] scope pos) 0 it acc env = (do
      standAt i0.pos
      match ← pyNext it with
      | none => pure (.done .next)
      | some v =>
        letOwnedTupleGo t0 it v
        assign t0 env v
        let x ← eval i1 env
        standAt i1.pos
        let x ← foldedSetIterable i1 env x
        let _ ← runOwn (.compStart (.ListComp elt [⟨t0, i0, [], 0⟩, ⟨t1, i1, ifs, 0⟩] scope pos) 1 (← holding [x] (pyIter x)) acc env) env
        again (.compLoop (.ListComp elt [⟨t0, i0, [], 0⟩, ⟨t1, i1, ifs, 0⟩] scope pos) 0 it acc env)) := by rfl
theorem turn_two1 (elt t0 i0 t1 i1 : PySem.Expr) (ifs : List PySem.Expr) (scope : Scope) (pos : Pos) (it acc : Value) (env : Env) :
    compTurn (.ListComp elt [⟨t0, i0, [], 0⟩, ⟨t1, i1, ifs, 0⟩] scope pos) 1 it acc env = (do
      standAt i1.pos
      match ← pyNext it with
      | none => pure (.done .next)
      | some v =>
        letOwnedTupleGo t1 it v
        assign t1 env v
        let mut ok := true
        for c in ifs do
          if ok then ok ← isTrue c env (eval c env)
        if ok then
          (do let _ ← call (.builtin "list.append") [acc, ← eval elt env])
        again (.compLoop (.ListComp elt [⟨t0, i0, [], 0⟩, ⟨t1, i1, ifs, 0⟩] scope pos) 1 it acc env)) := by rfl
section
variable {prog : Program} {w : World} {A : Around} {R : Result → Shared → Prop} {s : Shared}
theorem loop_two0 {elt t0 i0 t1 i1 : PySem.Expr} {ifs : List PySem.Expr} {scope : Scope} {pos : Pos} {it acc : Value} {env : Env} (I : Nat → Shared → Prop)
    (turn : ∀ n s, I n s → wpAny (model prog w) A (pyNext it) (fun r s₁ => match r with
      | none => R (.ok .next) s₁
      | some v => wpAny (model prog w) A (assign t0 env v) (fun _ s₂ => wpAny (model prog w) A (eval i1 env) (fun x s₃ => wpAny (model prog w) A (pyIter x) (fun it1 s₄ =>
          codeAny (model prog w) (A.mark none) (.compStart (.ListComp elt [⟨t0, i0, [], 0⟩, ⟨t1, i1, ifs, 0⟩] scope pos) 1 it1 acc env) (fun q s₅ => q = .ok .next ∧ ∃ m, m < n ∧ I m s₅) s₄) (fun _ _ => False) s₃) (fun _ _ => False) s₂) (fun _ _ => False) s₁) (fun _ _ => False) s)
    (n : Nat) (h : I n s) (ht : ∀ v, letOwnedTupleGo t0 it v = pure () := by intro _; rfl) (hs : ∀ x, foldedSetIterable i1 env x = pure x := by intro _; rfl) :
    codeAny (model prog w) A (.compLoop (.ListComp elt [⟨t0, i0, [], 0⟩, ⟨t1, i1, ifs, 0⟩] scope pos) 0 it acc env) R s := by
  refine codeAny_loop rfl I (fun n s hI => ?_) n h
  show wpAny _ A ((compTurn (.ListComp elt [⟨t0, i0, [], 0⟩, ⟨t1, i1, ifs, 0⟩] scope pos) 0 it acc env).onRaise (fun x => do noteFrame x env; theTreesLotGoes x)) _ _ s
  refine wpAny_noted ?_
  rw [turn_two0]
  refine wpAny_bind (wpAny_standAt (wpAny_bind (wpAny_mono (turn n s hI) (fun r s₁ h₁ => ?_) fun _ _ h' => h'.elim)))
  cases r with
  | none => exact wpAny_pure h₁
  | some v =>
    refine wpAny_bind (wpAny_of_eq (ht v) ?_)
    refine wpAny_bind (wpAny_mono h₁ (fun _ s₂ h₂ => ?_) fun _ _ e => e.elim)
    refine wpAny_bind (wpAny_mono h₂ (fun x s₃ h₃ => ?_) fun _ _ e => e.elim)
    refine wpAny_bind (wpAny_standAt (wpAny_bind (wpAny_of_eq (hs x) ?_)))
    refine wpAny_bind (wpAny_holding (wpAny_mono h₃ (fun it1 s₄ h₄ => ?_) fun _ _ e => e.elim))
    refine wpAny_bind (wpAny_runOwn (codeAny_mono h₄ fun q s₅ h₅ => ?_))
    obtain ⟨rfl, h₅⟩ := h₅
    exact wpAny_pure ⟨rfl, h₅⟩
theorem loop_two1 {elt t0 i0 t1 i1 : PySem.Expr} {test : PySem.Expr} {scope : Scope} {pos : Pos} {it acc : Value} {env : Env} (I : Nat → Shared → Prop)
    (turn : ∀ n s, I n s → wpAny (model prog w) A (pyNext it) (fun r s₁ => match r with
      | none => R (.ok .next) s₁
      | some v => wpAny (model prog w) A (assign t1 env v) (fun _ s₂ =>
          wpAny (model prog w) A (isTrue test env (eval test env)) (fun ok s₃ =>
            if ok = true then wpAny (model prog w) A (eval elt env) (fun x s₄ =>
              wpAny (model prog w) A (call (.builtin "list.append") [acc, x]) (fun _ s₅ => ∃ m, m < n ∧ I m s₅) (fun _ _ => False) s₄) (fun _ _ => False) s₃
            else ∃ m, m < n ∧ I m s₃) (fun _ _ => False) s₂) (fun _ _ => False) s₁) (fun _ _ => False) s)
    (n : Nat) (h : I n s) (ht : ∀ v, letOwnedTupleGo t1 it v = pure () := by intro _; rfl) :
    codeAny (model prog w) A (.compLoop (.ListComp elt [⟨t0, i0, [], 0⟩, ⟨t1, i1, [test], 0⟩] scope pos) 1 it acc env) R s := by
  refine codeAny_loop rfl I (fun n s hI => ?_) n h
  show wpAny _ A ((compTurn (.ListComp elt [⟨t0, i0, [], 0⟩, ⟨t1, i1, [test], 0⟩] scope pos) 1 it acc env).onRaise (fun x => do noteFrame x env; theTreesLotGoes x)) _ _ s
  refine wpAny_noted ?_
  rw [turn_two1]
  refine wpAny_bind (wpAny_standAt (wpAny_bind (wpAny_mono (turn n s hI) (fun r s₁ h₁ => ?_) fun _ _ h' => h'.elim)))
  cases r with
  | none => exact wpAny_pure h₁
  | some v =>
    refine wpAny_bind (wpAny_of_eq (ht v) ?_)
    refine wpAny_bind (wpAny_mono h₁ (fun _ s₂ h₂ => wpAny_bind (wpAny_tests_one (wpAny_mono h₂ (fun ok s₃ h₃ => ?_) fun _ _ h' => h'.elim))) fun _ _ h' => h'.elim)
    cases ok with
    | false => exact wpAny_pure ⟨rfl, h₃⟩
    | true =>
      exact wpAny_bind (wpAny_bind (wpAny_mono h₃ (fun x s₄ h₄ => wpAny_bind (wpAny_mono h₄ (fun _ s₅ h₅ => wpAny_pure (wpAny_pure ⟨rfl, h₅⟩)) fun _ _ h' => h'.elim)) fun _ _ h' => h'.elim))
theorem start_two1 {elt t0 i0 t1 i1 : PySem.Expr} {ifs : List PySem.Expr} {scope : Scope} {pos : Pos} {it acc : Value} {env : Env}
    (h0 : codeAny (model prog w) A (.compLoop (.ListComp elt [⟨t0, i0, [], 0⟩, ⟨t1, i1, ifs, 0⟩] scope pos) 1 it acc env) R s)
    (h : wpAny (model prog w) A (pyIter it) (fun it' s' => codeAny (model prog w) A (.compLoop (.ListComp elt [⟨t0, i0, [], 0⟩, ⟨t1, i1, ifs, 0⟩] scope pos) 1 it' acc env) R s') (fun _ _ => False) s) :
    codeAny (model prog w) A (.compStart (.ListComp elt [⟨t0, i0, [], 0⟩, ⟨t1, i1, ifs, 0⟩] scope pos) 1 it acc env) R s := by
  refine codeAny_of_tree ?_
  show wpAny _ _ ((compStart (.ListComp elt [⟨t0, i0, [], 0⟩, ⟨t1, i1, ifs, 0⟩] scope pos) 1 it acc env).onRaise (fun x => do noteFrame x env; standAt theWindowsPlace)) _ _ s
  refine wpAny_notedAt ?_
  unfold compStart
  show wpAny _ _ (ask >>= _) _ _ s
  refine wpAny_bind (wpAny_askSetting (wpAny_ite ?_))
  split
  · first
      | exact wpAny_bind (wpAny_pure (wpAny_pure (And.intro rfl h0)))
      | exact wpAny_pure (And.intro rfl h0)
  · refine wpAny_bind (wpAny_rule ?_)
    show wpAny _ _ (standAt i1.pos >>= _) _ _ s
    exact wpAny_bind (wpAny_standAt (wpAny_bind (wpAny_mono h (fun it' s' h' => wpAny_pure (And.intro rfl h')) fun _ _ x => x.elim)))
end
end Mine
end
section
open PySem PySem.W PyProof.Rows PySem.Spec PySem.Calls
namespace Mine
section
variable {prog : Program} {w : World} {A : Around} {s : Shared} {env : Env}
theorem filter_step {l : List Nat} {p : Nat → Bool} {j c : Nat} (h : l[j]? = some c) : ((l.take (j + 1)).filter p).length = ((l.take j).filter p).length + (if p c = true then 1 else 0) := by
  rw [List.take_add_one, h, List.filter_append]
  cases hp : p c <;> simp [hp]
inductive TwoOut (hB : Heap) (C D : Addr) (s : Shared) (N : Nat) (StO : Heap → Prop) (q : Result) (s₅ : Shared) : Prop where
  | mk (h : Heap) (tk : Nat) (m : Str → Option Value) (ys : List Value) (ep : Nat) (c : q = .ok .next) (c0 : s₅ = { s with heap := h, toks := tk }) (c1 : Fr hB C h m) (c2 : h.get? D = some (lst ys ep)) (c3 : ys.length = N) (c4 : StO h)
inductive TwoIn (hB : Heap) (C D : Addr) (s : Shared) (lb : List Nat) (a N0 : Nat) (cond : Nat → Nat → Bool) (x0 : Str) (St1 : Nat → Heap → Prop) (StO : Heap → Prop) (n : Nat) (s' : Shared) : Prop where
  | mk (j : Nat) (h : Heap) (tk : Nat) (m : Str → Option Value) (ys : List Value) (ep : Nat) (ta : Tok) (c0 : s' = { s with heap := h, toks := tk }) (c1 : j ≤ lb.length) (c2 : n = lb.length + 1 - j) (c3 : St1 j h) (c4 : Fr hB C h m) (c5 : m x0 = some (.str (chr a) ta)) (c6 : h.get? D = some (lst ys ep)) (c7 : ys.length = N0 + ((lb.take j).filter (cond a)).length) (c8 : StO h)
theorem two_inner {elt test i0 i1 : PySem.Expr} {x0 x1 : Str} {p0 p1 : Pos} {scope : Scope} {pos : Pos} {cenv : Env} {hB : Heap} {C D It1 : Addr} {lb : List Nat} {a N0 : Nat} {cond : Nat → Nat → Bool} {St1 : Nat → Heap → Prop} {StO : Heap → Prop}
    (W : Walks prog w A It1 [It1] [It1] lb.length (SignAt (wd lb)) St1) (hC : cenv.locals = C) (hx1 : cenv.kindOf x1 = some .local) (hp : (cenv.scope.kind == .class || (cenv.scope.kind == .module && cenv.locals != cenv.globals)) = false) (h01 : x0 ≠ x1)
    (iC : It1 ≠ C) (iD : It1 ≠ D) (dC : D ≠ C) (iB : hB.get? It1 = none) (dB : hB.get? D = none) (hSO : ∀ h h', StO h → (∀ b o, b ≠ C → b ≠ D → b ≠ It1 → h.get? b = some o → h'.get? b = some o) → StO h')
    (htest : ∀ m h tk cj ta tj, cj ∈ lb → Fr hB C h m → m x0 = some (.str (chr a) ta) → m x1 = some (.str (chr cj) tj) →
      wpAny (model prog w) A (isTrue test cenv (eval test cenv)) (fun ok s' => ok = cond a cj ∧ ∃ h' tk', s' = { s with heap := h', toks := tk' } ∧ Fr hB C h' m ∧ ∀ b o, b ≠ C → h.get? b = some o → h'.get? b = some o) (fun _ _ => False) { s with heap := h, toks := tk })
    (helt : ∀ m h tk ta, Fr hB C h m → m x0 = some (.str (chr a) ta) →
      wpAny (model prog w) A (eval elt cenv) (fun _ s' => ∃ h' tk', s' = { s with heap := h', toks := tk' } ∧ Fr hB C h' m ∧ ∀ b o, b ≠ C → h.get? b = some o → h'.get? b = some o) (fun _ _ => False) { s with heap := h, toks := tk })
    {h : Heap} {tk : Nat} {m : Str → Option Value} {ys : List Value} {ep : Nat} {ta : Tok} (hst : St1 0 h) (F : Fr hB C h m) (hm : m x0 = some (.str (chr a) ta)) (eD : h.get? D = some (lst ys ep)) (hys : ys.length = N0) (hO : StO h) (hN : N0 + lb.length ≤ 1000) :
    codeAny (model prog w) A (.compLoop (.ListComp elt [⟨.Name x0 p0, i0, [], 0⟩, ⟨.Name x1 p1, i1, [test], 0⟩] scope pos) 1 (.ref It1) (.ref D) cenv)
      (TwoOut hB C D s (N0 + (lb.filter (cond a)).length) StO) { s with heap := h, toks := tk } := by
  subst hC
  refine loop_two1 (TwoIn hB cenv.locals D s lb a N0 cond x0 St1 StO) ?_ (lb.length + 1)
    ⟨0, h, tk, m, ys, ep, ta, rfl, Nat.zero_le _, rfl, hst, F, hm, eD, by simpa using hys, hO⟩
  rintro n s' ⟨j, h, tk, m, ys, ep, ta, rfl, hj, rfl, hst, F, hm, eD, hys, hO⟩
  have wr1 : ∀ {h' : Heap}, (∀ b o, b ∉ [It1] → h.get? b = some o → h'.get? b = some o) → Fr hB cenv.locals h' m ∧ h'.get? D = some (lst ys ep) ∧ StO h' := fun {h'} hk =>
    ⟨⟨F.ns.at' fun o e => hk _ o (by simpa using Ne.symm iC) e, fun b o e => hk b o (by simp only [List.mem_singleton]; rintro rfl; rw [iB] at e; cases e) (F.keep b o e), F.above⟩, hk _ _ (by simpa using Ne.symm iD) eD,
      hSO _ _ hO fun b o _ _ b3 e => hk b o (by simpa using b3) e⟩
  by_cases hlt : j < lb.length
  · refine W.item j _ _ _ hlt hst fun v h₁ tk₁ hPv hst₁ hk₁ => ?_
    obtain ⟨c, u, hc, rfl⟩ := hPv
    have hc' : lb[j]? = some c := by simpa using hc
    obtain ⟨F₁, eD₁, hO₁⟩ := wr1 hk₁
    refine wpAny_assign_Name (wpAny_storeName_local hx1 F₁.ns (fun h₂ hn₂ hs₂ => ?_) hp)
    have F₂ := F₁.set hn₂ hs₂
    have eD₂ : h₂.get? D = some (lst ys ep) := (hs₂.2 _ dC).trans eD₁
    have hO₂ : StO h₂ := hSO _ _ hO₁ fun b o b1 _ _ e => (hs₂.2 b b1).trans e
    have hst₂ : St1 (j + 1) h₂ := W.frame _ _ _ hst₁ fun b hb o e => (hs₂.2 b (by rw [List.mem_singleton.mp hb]; exact iC)).trans e
    refine wpAny_mono (htest _ h₂ _ c ta u (List.mem_of_getElem? hc') F₂ (by simp only [h01, if_false]; exact hm) (by simp)) (fun ok s₃ h₃ => ?_) fun _ _ e => e.elim
    obtain ⟨rfl, h₃, tk₃, rfl, F₃, st₃⟩ := h₃
    have eD₃ := st₃ _ _ dC eD₂
    have hO₃ : StO h₃ := hSO _ _ hO₂ fun b o b1 _ _ e => st₃ b o b1 e
    have hst₃ : St1 (j + 1) h₃ := W.frame _ _ _ hst₂ fun b hb o e => st₃ b o (by rw [List.mem_singleton.mp hb]; exact iC) e
    have hcnt := filter_step (p := cond a) hc'
    have hle : ((lb.take (j + 1)).filter (cond a)).length ≤ lb.length := Nat.le_trans (List.length_filter_le _ _) (by rw [List.length_take]; exact Nat.min_le_right _ _)
    cases hcd : cond a c with
    | false =>
      rw [hcd] at hcnt
      simp only [Bool.false_eq_true, if_false] at hcnt ⊢
      exact ⟨lb.length + 1 - (j + 1), ar_step hlt, j + 1, h₃, tk₃, _, ys, ep, ta, rfl, hlt, rfl, hst₃, F₃, by simp only [h01, if_false]; exact hm, eD₃, by omega, hO₃⟩
    | true =>
      rw [hcd] at hcnt
      simp only [if_true] at hcnt ⊢
      refine wpAny_mono (helt _ h₃ tk₃ ta F₃ (by simp only [h01, if_false]; exact hm)) (fun v s₄ h₄ => ?_) fun _ _ e => e.elim
      obtain ⟨h₄, tk₄, rfl, F₄, st₄⟩ := h₄
      have eD₄ := st₄ _ _ dC eD₃
      refine append_at eD₄ (fun h₅ hs₅ ho₅ => ?_) (by rw [sizeLine_eq]; simp only [List.size_toArray]; omega)
      refine ⟨lb.length + 1 - (j + 1), ar_step hlt, j + 1, h₅, tk₄, _, ys ++ [v], ep + 1, ta, rfl, hlt, rfl, ?_, F₄.change hs₅ dC dB, by simp only [h01, if_false]; exact hm, by simpa [lst] using ho₅, by rw [List.length_append, List.length_singleton]; omega, ?_⟩
      · exact W.frame _ _ _ hst₃ fun b hb o e => (hs₅.2 b (by rw [List.mem_singleton.mp hb]; exact iD)).trans (st₄ b o (by rw [List.mem_singleton.mp hb]; exact iC) e)
      · exact hSO _ _ hO₃ fun b o b1 b2 _ e => (hs₅.2 b b2).trans (st₄ b o b1 e)
  · have hin : j = lb.length := by omega
    subst hin
    refine W.done _ _ _ hst fun h₁ tk₁ hk₁ => ?_
    obtain ⟨F₁, eD₁, hO₁⟩ := wr1 hk₁
    exact ⟨h₁, tk₁, m, ys, ep, rfl, rfl, F₁, eD₁, by rw [List.take_length] at hys; exact hys, hO₁⟩
noncomputable def two (la lb : List Nat) (cond : Nat → Nat → Bool) (i : Nat) : Nat := ((la.take i).flatMap fun a => lb.filter (cond a)).length
theorem two_step {la lb : List Nat} {cond : Nat → Nat → Bool} {i a : Nat} (h : la[i]? = some a) : two la lb cond (i + 1) = two la lb cond i + (lb.filter (cond a)).length := by
  unfold two
  rw [List.take_add_one, h, List.flatMap_append]
  simp
theorem two_le (la lb : List Nat) (cond : Nat → Nat → Bool) : ∀ i, two la lb cond i ≤ i * lb.length
  | 0 => by simp [two]
  | i + 1 => by
    have ih := two_le la lb cond i
    cases h : la[i]? with
    | none =>
      have : two la lb cond (i + 1) = two la lb cond i := by unfold two; rw [List.take_add_one, h]; simp
      rw [this, Nat.succ_mul]; omega
    | some a =>
      rw [two_step h, Nat.succ_mul]
      have := List.length_filter_le (cond a) lb
      omega
inductive TwoAt (hB : Heap) (C D : Addr) (s : Shared) (la lb : List Nat) (cond : Nat → Nat → Bool) (St : Nat → Heap → Prop) (n : Nat) (s' : Shared) : Prop where
  | mk (i : Nat) (h : Heap) (tk : Nat) (m : Str → Option Value) (ys : List Value) (ep : Nat) (c0 : s' = { s with heap := h, toks := tk }) (c1 : i ≤ la.length) (c2 : n = la.length + 1 - i) (c3 : St i h) (c4 : Fr hB C h m) (c5 : h.get? D = some (lst ys ep)) (c6 : ys.length = two la lb cond i)
theorem comp_two {elt test i0 i1 : PySem.Expr} {x0 x1 y : Str} {p0 p1 py : Pos} {scope : Scope} {pos spos : Pos} {cl : List (Str × Addr)} {m₀ : Str → Option Value} {Q : Flow → Shared → Prop} {la lb : List Nat} (cond : Nat → Nat → Bool) (hh : A.handled = none)
    (hsw : swapsWith (.ListComp elt [⟨.Name x0 p0, i0, [], 0⟩, ⟨.Name x1 p1, i1, [test], 0⟩] scope pos) (some (.Name y py)) spos.line env = pure true)
    (hclos : closureFor scope env = pure cl) (hkind : scope.kind = .function) (hcell : ∀ y ∈ scope.names, y.2 ≠ .cell) (hnames : ∀ x ∈ scope.names, x.2 = .local → scope.names.lookup x.1 = some .local) (hx0 : scope.names.lookup x0 = some .local) (hx1 : scope.names.lookup x1 = some .local) (h01 : x0 ≠ x1)
    (hy : env.kindOf y = some .local) (hp : (env.scope.kind == .class || (env.scope.kind == .module && env.locals != env.globals)) = false) (hN : la.length * lb.length + lb.length ≤ 1000)
    (h : wpAny (model prog w) A (eval i0 env) (fun xv s₁ => ∃ tx, xv = .str (wd la) tx ∧ s₁.heap.Ns env.locals m₀ ∧
      (∀ (C : Addr) (m : Str → Option Value) (h : Heap) (tk : Nat), Fr s₁.heap C h m → wpAny (model prog w) A (eval i1 (compEnvC scope cl C env)) (fun v s' => ∃ tb tk', v = .str (wd lb) tb ∧ s' = { s₁ with heap := h, toks := tk' }) (fun _ _ => False) { s₁ with heap := h, toks := tk }) ∧
      (∀ (C : Addr) (m : Str → Option Value) (h : Heap) (tk a b : Nat) (ta tb : Tok), a ∈ la → b ∈ lb → Fr s₁.heap C h m → m x0 = some (.str (chr a) ta) → m x1 = some (.str (chr b) tb) →
        wpAny (model prog w) A (isTrue test (compEnvC scope cl C env) (eval test (compEnvC scope cl C env))) (fun ok s' => ok = cond a b ∧ ∃ h' tk', s' = { s₁ with heap := h', toks := tk' } ∧ Fr s₁.heap C h' m ∧ ∀ b o, b ≠ C → h.get? b = some o → h'.get? b = some o) (fun _ _ => False) { s₁ with heap := h, toks := tk }) ∧
      (∀ (C : Addr) (m : Str → Option Value) (h : Heap) (tk a : Nat) (ta : Tok), Fr s₁.heap C h m → m x0 = some (.str (chr a) ta) →
        wpAny (model prog w) A (eval elt (compEnvC scope cl C env)) (fun _ s' => ∃ h' tk', s' = { s₁ with heap := h', toks := tk' } ∧ Fr s₁.heap C h' m ∧ ∀ b o, b ≠ C → h.get? b = some o → h'.get? b = some o) (fun _ _ => False) { s₁ with heap := h, toks := tk }) ∧
      (∀ D h' tk ys ep, h'.Ns env.locals (fun z => if z = y then some (.ref D) else m₀ z) → (∀ b o, b ≠ env.locals → s₁.heap.get? b = some o → h'.get? b = some o) → h'.get? D = some (lst ys ep) → s₁.heap.get? D = none → ys.length = two la lb cond la.length → Q .next { s₁ with heap := h', toks := tk })) (fun _ _ => False) s)
    (hs : ∀ x, foldedSetIterable i0 env x = pure x := by intro _; rfl) (hs1 : ∀ C x, foldedSetIterable i1 (compEnvC scope cl C env) x = pure x := by intro _ _; rfl) :
    wpAny (model prog w) A (exec (.Assign [.Name y py] (.ListComp elt [⟨.Name x0 p0, i0, [], 0⟩, ⟨.Name x1 p1, i1, [test], 0⟩] scope pos) spos) env) Q (fun _ _ => False) s := by
  rw [exec_Assign_Name_used _ _ _ _ hsw]
  refine wpAny_bind (wpAny_standAt (wpAny_bind ?_))
  show wpAny _ A (do let _ ← comprehension (.ListComp elt [⟨.Name x0 p0, i0, [], 0⟩, ⟨.Name x1 p1, i1, [test], 0⟩] scope pos) scope env _ (newList []) false (eval i0 env) (some (assign (.Name y py) env))) _ _ s
  refine wpAny_bind (wpAny_mono (wpAny_comprehension_free (use := some (assign (.Name y py) env)) (Q := fun _ s' => Q .next s') rfl hs hclos hkind hnames
    (wpAny_mono h (fun xv s₁ h₁ => ?_) fun _ _ e => e)) (fun _ s' hq => wpAny_pure (wpAny_pure hq)) fun _ _ e => e)
  obtain ⟨tx, rfl, hns, hi1, htest, helt, hdone⟩ := h₁
  refine wpAny_pyIter_str fun o St hW hSt => ?_
  have W := hW A hh
  refine comp_blockG hkind hcell (fun C D h₁ hD hDC old hacc hnC => ?_) (fun h₁ Q₁ E₁ old q => W.self 0 _ _ _ (W.frame _ _ _ hSt fun b _ o e => old b o e) q)
  have hsz : (s₁.heap.push o).objs.size = s₁.heap.objs.size + 1 := Heap.size_push ..
  have hD' : s₁.heap.objs.size < D := by
    have : (s₁.heap.push o).objs.size ≤ D := hD
    rw [hsz] at this; exact this
  have hC' : s₁.heap.objs.size < C := Nat.lt_trans hD' hDC
  have upB : s₁.heap.StaysIn h₁ := fun b ob e => old b ob (Heap.get?_push_of_some _ e)
  have FB : Fr s₁.heap C h₁ (fun _ => none) := ⟨hnC, upB, Nat.le_of_lt hC'⟩
  have dB : s₁.heap.get? D = none := Heap.get?_none_of_le (Nat.le_of_lt hD')
  have i0B : s₁.heap.get? s₁.heap.objs.size = none := Heap.get?_none_of_le (Nat.le_refl _)
  have st0 : St 0 h₁ := W.frame _ _ _ hSt fun b _ o e => old b o e
  have wl : (wd la).cps.size = la.length := by simp
  have wlb : (wd lb).cps.size = lb.length := by simp
  refine loop_two0 (TwoAt s₁.heap C D s₁ la lb cond St) ?_ (la.length + 1)
    ⟨0, h₁, s₁.toks, _, [], 0, rfl, Nat.zero_le _, rfl, st0, FB, hacc, by simp [two]⟩ (hs := hs1 C)
  rintro n s' ⟨i, h, tk, m, ys, ep, rfl, hi, rfl, hst, F, eD, hys⟩
  have wr1 : ∀ {h' : Heap}, (∀ b o, b ∉ [s₁.heap.objs.size] → h.get? b = some o → h'.get? b = some o) → Fr s₁.heap C h' m ∧ h'.get? D = some (lst ys ep) := fun {h'} hk =>
    ⟨⟨F.ns.at' fun o e => hk _ o (by simpa using Nat.ne_of_gt hC') e, fun b o e => hk b o (by simp only [List.mem_singleton]; rintro rfl; rw [i0B] at e; cases e) (F.keep b o e), F.above⟩, hk _ _ (by simpa using Nat.ne_of_gt hD') eD⟩
  by_cases hlt : i < la.length
  · refine W.item i _ _ _ (by rw [wl]; exact hlt) hst fun v h₂ tk₂ hPv hst₂ hk₂ => ?_
    obtain ⟨a, u, ha, rfl⟩ := hPv
    have ha' : la[i]? = some a := by simpa using ha
    obtain ⟨F₂, eD₂⟩ := wr1 hk₂
    have hxc : (compEnvC scope cl C env).kindOf x0 = some .local := lookup_relabel_local hx0
    have hxc1 : (compEnvC scope cl C env).kindOf x1 = some .local := lookup_relabel_local hx1
    have hpc : ((compEnvC scope cl C env).scope.kind == .class || ((compEnvC scope cl C env).scope.kind == .module && (compEnvC scope cl C env).locals != (compEnvC scope cl C env).globals)) = false := by simp [compEnvC, relabel, hkind]
    refine wpAny_assign_Name (wpAny_storeName_local hxc F₂.ns (fun h₃ hn₃ hs₃ => ?_) hpc)
    have hs₃' : Heap.SameBut C h₂ h₃ := hs₃
    have F₃ : Fr s₁.heap C h₃ (fun z => if z = x0 then some (.str (chr a) u) else m z) := F₂.set hn₃ hs₃'
    have eD₃ : h₃.get? D = some (lst ys ep) := (hs₃'.2 _ (Nat.ne_of_lt hDC)).trans eD₂
    have hst₃ : St (i + 1) h₃ := W.frame _ _ _ hst₂ fun b hb o e => (hs₃'.2 b (by rw [List.mem_singleton.mp hb]; exact Nat.ne_of_lt hC')).trans e
    refine wpAny_mono (hi1 C _ h₃ _ F₃) (fun v s₄ h₄ => ?_) fun _ _ e => e.elim
    obtain ⟨tb, tk₄, rfl, rfl⟩ := h₄
    refine wpAny_pyIter_str fun o1 St1 hW1 hSt1 => ?_
    dsimp only at hSt1
    have hlD : D < h₃.objs.size := Heap.lt_size eD₃
    have hlC : C < h₃.objs.size := F₃.ns.lt
    have hlB : s₁.heap.objs.size ≤ h₃.objs.size := Nat.le_of_lt (Nat.lt_trans hC' hlC)
    have W1 := hW1 A hh
    rw [wlb] at W1
    have F₄ : Fr s₁.heap C (h₃.push o1) (fun z => if z = x0 then some (.str (chr a) u) else m z) := F₃.push _
    have eD₄ : (h₃.push o1).get? D = some (lst ys ep) := Heap.get?_push_of_some _ eD₃
    have hst₄ : St (i + 1) (h₃.push o1) := W.frame _ _ _ hst₃ fun b _ o e => Heap.get?_push_of_some _ e
    have hle := two_le la lb cond i
    have hmul : i * lb.length ≤ la.length * lb.length := Nat.mul_le_mul_right _ (Nat.le_of_lt hlt)
    rw [Around.mark_none]
    have key := two_inner (A := A) (s := s₁) (elt := elt) (test := test) (i0 := i0) (i1 := i1) (p0 := p0) (p1 := p1) (scope := scope) (pos := pos) (x0 := x0) (x1 := x1) (cenv := compEnvC scope cl C env) (hB := s₁.heap) (C := C) (D := D) (It1 := h₃.objs.size) (a := a) (N0 := two la lb cond i) (cond := cond) (StO := fun h => St (i + 1) h)
      W1 rfl hxc1 hpc h01 (Nat.ne_of_gt hlC) (Nat.ne_of_gt hlD) (Nat.ne_of_lt hDC) (Heap.get?_none_of_le hlB) dB
      (fun h h' q k => W.frame _ _ _ q fun b hb o e => by
        rw [List.mem_singleton.mp hb] at e ⊢
        exact k _ _ (Nat.ne_of_lt hC') (Nat.ne_of_lt hD') (Nat.ne_of_lt (Nat.lt_trans hC' hlC)) e)
      (fun m h tk cj ta tj hcj F a1 a2 => htest C m h tk a cj ta tj (List.mem_of_getElem? ha') hcj F a1 a2) (fun m h tk ta F a1 => helt C m h tk a ta F a1)
      (tk := tk₄) (ta := u) hSt1 F₄ (by simp) eD₄ hys hst₄ (by omega)
    have fin := codeAny_mono key (R' := fun q s₅ => q = .ok .next ∧ ∃ k, k < la.length + 1 - i ∧ TwoAt s₁.heap C D s₁ la lb cond St k s₅) (fun q s₅ hq => by
      obtain ⟨h, tk, m, ys, ep, rfl, rfl, F, eD, hys, hO⟩ := hq
      exact ⟨rfl, la.length + 1 - (i + 1), ar_step hlt, i + 1, h, tk, m, ys, ep, rfl, hlt, rfl, hO, F, eD, by rw [two_step ha']; exact hys⟩)
    exact start_two1 fin (W1.self 0 _ _ _ hSt1 fin)
  · have hin : i = la.length := by omega
    subst hin
    refine W.done _ _ _ (by rw [wl]; exact hst) fun h₂ tk₂ hk₂ => ?_
    obtain ⟨F₂, eD₂⟩ := wr1 hk₂
    show wpAny _ A (assign (.Name y py) env (.ref D)) _ _ _
    have hLB : env.locals < s₁.heap.objs.size := hns.lt
    have hLC : env.locals ≠ C := Nat.ne_of_lt (Nat.lt_trans hLB hC')
    refine wpAny_assign_Name (wpAny_storeName_local hy (hns.keeps F₂.keep) (fun h₃ hn₃ hs₃ => ?_) hp)
    refine ⟨m, F₂.ns.sameBut hs₃ (Ne.symm hLC), fun h₄ hs₄ => ?_⟩
    have kk : ∀ b o, b ≠ env.locals → b ≠ C → h₂.get? b = some o → h₄.get? b = some o := fun b o b1 b2 e => (hs₄.2 b b2).trans ((hs₃.2 b b1).trans e)
    exact hdone D h₄ _ ys ep (hn₃.sameBut hs₄ hLC) (fun b o hb e => kk b o hb (Nat.ne_of_lt (Nat.lt_trans (Heap.lt_size e) hC')) (F₂.keep b o e)) (kk _ _ (Nat.ne_of_gt (Nat.lt_trans hLB hD')) (Nat.ne_of_lt hDC) eD₂) dB hys
end
end Mine
end
section
open PySem PySem.W PyProof.Rows PySem.Spec PySem.Calls
namespace Mine
variable {w : World} {mg mb : Str → Option Value} {mean : ExcName → Option Value} {dp un : Nat} {fr : Option (List Env)} {gd : Option (List Code)} {s : Shared} {Q E : Value → Shared → Prop}
local macro_rules | `(tactic| k_all) => `(tactic| assumption)
noncomputable def foundC (z : List Nat) (y x : Nat) : Bool := decide (x < y) && ellB (wd [46, 46, 46, y, 46, 46, 46, x, 46, 46, 46, y, 46, 46, 46]) (wd z)
noncomputable abbrev letL : List Nat := [38, 66, 89, 98, 121]
set_option maxRecDepth 100000 in
set_option maxHeartbeats 1000000 in
theorem law_found {B : List Stmt} (hBB : fnBody 20 = B) {R : Flow → Shared → Prop} {hB : Heap} {L fl : Addr} {cd : Value} {m : Str → Option Value} {z : List Nat} {tz : Tok} {oS : Obj}
  (T : Top topProg LOOSE mean mg mb hB) (X : (Mine.hd.heap_39 w.params).In hB) (hd : dp + 15 < recursionLimit) (hu : un + 100 < cLine)
  (F : Fr hB L s.heap m) (lz : z.length ≤ 40) (eS : s.heap.get? (L + 3) = some oS) (dS : oS.data = .cell (some (.str (wd z) tz))) 
  (hret : ∀ (h' : Heap) (tk' : Nat) (D : Addr) (fs : List Value) (ep : Nat), Fr hB L h' (fun z => if z = Str.ofString "found" then some (.ref D) else m z) → But s.heap [L] h' → hB.get? D = none → h'.get? D = some (lst fs ep) → fs.length = two letL letL (foundC z) 5 → R .next { s with heap := h', toks := tk' }) :
  wpAny (model PySem.Challenge.rw_wr0012_01.row.prog w) ((Ar dp un fr gd).deeper (lawEnv L fl cd)) (execs ((B.drop 11).take 1) (lawEnv L fl cd)) R (fun _ _ => False) s := by
  subst hBB
  revert X; k_fill; intro X
  conv in List.take _ _ => whnf
  have elet : Str.ofString "&BYby" = wd letL := by decide
  have T1 := T.keeps F.keep
  have X1 := X.keeps F.keep
  have cS : CellIn s.heap (L + 3) (.str (wd z) tz) := ⟨⟨oS, eS, dS⟩⟩
  w_on
  iterate 1 walk1
  refine comp_two (cl := ?cl) (m₀ := m) (la := letL) (lb := letL) (foundC z) rfl (by rfl) (by rfl) rfl (by decide) (by decide) (by decide) (by decide) (by decide) (by rfl) (by rfl) (by decide) ?_
  iterate 1 walk1
  refine ⟨_, by rw [elet], F.ns, ?_, ?_, ?_, ?_⟩
  · intro C m h tk F2
    iterate 1 walk1
    exact ⟨_, _, by rw [elet], rfl⟩
  · intro C m h tk a b ta tb ha hb F2 m0 m1
    have F3 := Fr.over F2 [(Str.ofString "y", .str (chr a) ta), (Str.ofString "x", .str (chr b) tb)] ⟨m0, m1, trivial⟩
    clear F2 hret
    dsimp only at F3
    obtain ⟨pl, N3, -, hpk⟩ := ro_start F3 [C] (.head _)
    k_steps
    · rename_i hlt cE l4 h4 F4 N4 _
      have g4 := (N4 _ (.head _)).1
      refine tk_any (s₀ := s) (h := h4) fun tk4 => ?_
      refine join_listC (ys := [wd [], wd [a], wd [b], wd [a], wd []]) ⟨_, g4, rfl, _, rfl⟩ (.cons _ _ (.cons _ _ (.cons _ _ (.cons _ _ (.cons _ _ .nil))))) (by decide) (by simp [wd_length]) fun t5 k5 => ?_
      rw [join5d]
      have N4' := News.tail N4
      clear g4 N4
      k_steps
      refine ell_spec _ _ _ _ (T1.keeps F4.keep) (X1.keeps F4.keep) (by first | exact lim 1 hd | exact limT 1 hd | (show dp + 1 < _; omega)) (by rw [wd_length]; exact Nat.le_of_ble_eq_true rfl) (by rw [wd_length]; omega) fun h5 tk5 st5 => ?_
      have F5 := F4.keeps st5
      have N5 := News.stays N4' st5
      clear F4 N4'
      have k5 : But h [C] h5 := hpk h5 F5.keep fun p hp => (N5 p hp).1
      rw [over_eq [(Str.ofString "y", .str (chr a) ta), (Str.ofString "x", .str (chr b) tb)] ⟨m0, m1, trivial⟩] at F5
      have hba : b < a := by
        rcases List.cons_lt_cons_iff.mp hlt with h | h
        · exact h
        · exact absurd h.2 (by simp)
      have hfc : ellB (wd [46, 46, 46, a, 46, 46, 46, b, 46, 46, 46, a, 46, 46, 46]) (wd z) = foundC z a b := by
        simp [foundC, hba]
      simp only [qk, ek]
      refine tk_any (s₀ := s) (h := h5) fun tk6 => ?_
      rw [hfc]
      refine wpAny_truthy_bool ?_
      cases hcb : foundC z a b with
      | true =>
        simp only [if_true]
        iterate 1 walk1
        exact ⟨rfl, h5, _, rfl, F5, fun b o hb e => k5.get e (by simpa using hb)⟩
      | false =>
        simp only [Bool.false_eq_true, if_false]
        exact ⟨trivial, h5, _, rfl, F5, fun b o hb e => k5.get e (by simpa using hb)⟩
    · rename_i hlt
      have : ¬ (b < a) := fun h => hlt (by show [b] < [a]; exact List.cons_lt_cons_iff.mpr (.inl h))
      simp [foundC, this]
    · have q := F3
      rw [over_eq [(Str.ofString "y", .str (chr a) ta), (Str.ofString "x", .str (chr b) tb)] ⟨m0, m1, trivial⟩] at q
      exact q
  · intro C m h tk a ta F2 m0
    have F3 := Fr.over F2 [(Str.ofString "y", .str (chr a) ta)] ⟨m0, trivial⟩
    clear hret
    iterate 1 walk1
    refine ⟨h, _, rfl, F2, fun b o _ e => e⟩
  · intro D h' tk ys ep ns' kk eD fD hys
    have F' : Fr hB L h' (fun z => if z = Str.ofString "found" then some (.ref D) else m z) := ⟨ns', fun b o e => kk b o (Nat.ne_of_lt (Nat.lt_of_lt_of_le (Heap.lt_size e) F.above)) (F.keep b o e), F.above⟩
    show wpAny _ _ (execs [] (lawEnv L fl cd)) _ _ _
    refine wpAny_execs_nil ?_
    refine hret h' _ D ys ep F' (fun b o e => ?_) (none_of F fD) eD hys
    by_cases hb : b = L
    · subst hb; rw [hideAll_none [b] (.head _)] at e; cases e
    · exact kk b o hb (of_hideAll [L] e)
end Mine
end
section
open PySem PySem.W PyProof.Rows PySem.Spec PySem.Calls
namespace Mine
variable {w : World} {mg mb : Str → Option Value} {mean : ExcName → Option Value} {dp un : Nat} {fr : Option (List Env)} {gd : Option (List Code)} {s : Shared} {Q E : Value → Shared → Prop}
local macro_rules | `(tactic| k_all) => `(tactic| assumption)
theorem cutN_shape (n : Nat) (l : List Nat) : cutN n l = .none ∨ ∃ xs, cutN n l = .list xs := by
  cases n with
  | zero => exact .inl rfl
  | succ n =>
    unfold cutN
    split
    · exact .inr ⟨_, rfl⟩
    · split
      · exact .inl rfl
      · split
        · exact .inl rfl
        · exact .inr ⟨_, rfl⟩
theorem ne_nil {prog : Program} {A : Around} {E : Value → Shared → Prop} {Q : Value → Shared → Prop} {l b : Addr} {fs : List Value} (hl : s.heap.IsList l fs.toArray) (hb : s.heap.IsList b #[]) (hu : A.units + 10 < cLine) (h : Q (.bool (!fs.isEmpty)) s) : wpAny (model prog w) A (compareOp .NotEq (.ref l) (.ref b)) Q E s := by
  cases fs with
  | nil => exact SeqAt.RcNeAt.lists (e := fun _ => true) hl hb rfl (by omega) (fun j h1 => absurd h1 (by simp)) prog w E Q h
  | cons v r => exact SeqAt.RcNeAt.lists_lengths hl hb (by simp) (by omega) prog w E Q h
set_option maxRecDepth 100000 in
set_option maxHeartbeats 1000000 in
theorem law_same {B : List Stmt} (hBB : fnBody 20 = B) {R : Flow → Shared → Prop} {hB : Heap} {L fl fo : Addr} {cd : Value} {m : Str → Option Value} {z : List Nat} {tz : Tok} {oS : Obj} {fs : List Value} {ep : Nat}
  (T : Top topProg LOOSE mean mg mb hB) (X : (Mine.hd.heap_39 w.params).In hB) (hd : dp + 80 < recursionLimit) (hu : un + 400 < cLine)
  (F : Fr hB L s.heap m) (h1 : m (Str.ofString "found") = some (.ref fo)) (hz : z.length ≤ 40) (hF : Fine z) (h256 : ∀ c ∈ z, c < 256)
  (eS : s.heap.get? (L + 3) = some oS) (dS : oS.data = .cell (some (.str (wd z) tz))) (bS : hB.get? (L + 3) = none) (eF : s.heap.get? fo = some (lst fs ep)) (bF : hB.get? fo = none)
  (hiff : cutN (z.length + 1) z = .none ↔ fs ≠ [])
  (hret : ∀ (h' : Heap) (tk' : Nat), Fr hB L h' m → But s.heap [L] h' → R .next { s with heap := h', toks := tk' }) :
  wpAny (model PySem.Challenge.rw_wr0012_01.row.prog w) ((Ar dp un fr gd).deeper (lawEnv L fl cd)) (execs ((B.drop 12).take 1) (lawEnv L fl cd)) R (fun _ _ => False) s := by
  subst hBB
  revert X; k_fill; intro X
  conv in List.take _ _ => whnf
  have hlz : (wd z).length = z.length := wd_length z
  have foL : fo ≠ L := by
    obtain ⟨o, es, ep', e, d⟩ := ns_ob F.ns
    exact ne_obj eF e (fun q => by rw [← q] at d; cases d)
  replace F := Fr.over F [(Str.ofString "found", .ref fo)] ⟨h1, trivial⟩
  obtain ⟨pl0, Npl0, hpb0, hpk0⟩ := ro_start F [L] (.head _)
  have L3 : @Ne Nat (L + 3) L := Nat.ne_of_gt (Nat.lt_add_of_pos_right (by decide))
  have N : News hB L s.heap ((L + 3, oS) :: (fo, lst fs ep) :: pl0) := News.ins eS L3 bS (News.ins eF foL bF Npl0)
  clear Npl0
  w_on
  k_steps
  refine cut_spec z.length z (Nat.le_refl _) (by omega) hF h256 _ _ _ _ _ _ _ _ (T.keeps F.keep) (X.keeps F.keep) (by show dp + 1 + _ + 2 < _; omega) (by show un + 3 + 3 * _ + 100 < _; omega) ?_
  intro h2 tk2 v tl st2 M2 hr
  have hr' : ReadsIn tl v (cutN (z.length + 1) z) := by rw [hlz] at hr; exact hr
  have F2 := Fr.stays F st2
  have N2 := News.stays N st2
  have rd := hr' h2 (fun p hp => (M2 p hp).1)
  clear F N hr hr' M2
  refine tk_any (s₀ := s) (h := h2) fun tk2' => ?_
  rcases cutN_shape (z.length + 1) z with hn | hn
  · rw [hn] at rd
    obtain ⟨as, rd⟩ := rd
    cases rd
    have hne : fs ≠ [] := hiff.mp hn
    k_steps
    rename_i l6 h6 F6 N6 ll6
    have kk : But s.heap [L] h6 := hpk0 h6 F6.keep fun p hp => (N6 p (.tail _ (.tail _ (.tail _ hp)))).1
    have g1 := (N6 (fo, _) (.tail _ (.tail _ (.head _)))).1
    have g2 := (N6 _ (.head _)).1
    refine tk_any (s₀ := s) (h := h6) fun tk6 => ?_
    refine ne_nil ⟨_, g1, rfl, _, rfl⟩ ⟨_, g2, rfl, _, rfl⟩ (by first | exact lim 13 hu | exact limT 13 hu | (show un + 3 + 10 < _; omega)) ?_
    rw [show (!fs.isEmpty) = true by cases fs <;> simp_all]
    clear N6 g1 g2 ll6
    iterate 3 walk1
    show wpAny _ _ (execs [] (lawEnv L fl cd)) _ _ _
    refine wpAny_execs_nil ?_
    show wpAny _ _ (execs [] (lawEnv L fl cd)) _ _ _
    refine wpAny_execs_nil ?_
    rw [over_eq [(Str.ofString "found", .ref fo)] ⟨h1, trivial⟩] at F6
    exact hret h6 _ F6 kk
  · obtain ⟨xs, hn⟩ := hn
    rw [hn] at rd
    obtain ⟨as, rd⟩ := rd
    cases rd
    have hne : fs = [] := by
      by_cases h : fs = []
      · exact h
      · have := hiff.mpr h; rw [hn] at this; cases this
    k_steps
    rename_i l6 h6 F6 N6 ll6
    have kk : But s.heap [L] h6 := hpk0 h6 F6.keep fun p hp => (N6 p (.tail _ (.tail _ (.tail _ hp)))).1
    have g1 := (N6 (fo, _) (.tail _ (.tail _ (.head _)))).1
    have g2 := (N6 _ (.head _)).1
    refine tk_any (s₀ := s) (h := h6) fun tk6 => ?_
    refine ne_nil ⟨_, g1, rfl, _, rfl⟩ ⟨_, g2, rfl, _, rfl⟩ (by first | exact lim 13 hu | exact limT 13 hu | (show un + 3 + 10 < _; omega)) ?_
    rw [show (!fs.isEmpty) = false by rw [hne]; rfl]
    clear N6 g1 g2 ll6
    iterate 3 walk1
    show wpAny _ _ (execs [] (lawEnv L fl cd)) _ _ _
    refine wpAny_execs_nil ?_
    show wpAny _ _ (execs [] (lawEnv L fl cd)) _ _ _
    refine wpAny_execs_nil ?_
    rw [over_eq [(Str.ofString "found", .ref fo)] ⟨h1, trivial⟩] at F6
    exact hret h6 _ F6 kk
end Mine
end
section
open PySem PySem.W PyProof.Rows PySem.Spec PySem.Calls
namespace Mine
variable {w : World} {mg mb : Str → Option Value} {mean : ExcName → Option Value} {dp un : Nat} {fr : Option (List Env)} {gd : Option (List Code)} {s : Shared} {Q E : Value → Shared → Prop}
local macro_rules | `(tactic| k_all) => `(tactic| assumption)
set_option maxRecDepth 100000 in
set_option maxHeartbeats 1000000 in
theorem texts_body {hB : Heap} {L fl : Addr} {cd : Value} {m : Str → Option Value} {a y : List Nat} {ta tw : Tok} {nw : List (Addr × Obj)} {oW : Obj}
  (T : Top topProg LOOSE mean mg mb hB) (X : (Mine.hd.heap_39 w.params).In hB) (hd : dp + 15 < recursionLimit)
  (F : Fr hB L s.heap m) (N : News hB L s.heap ((L + 2, oW) :: nw)) (dW : oW.data = .cell (some (.str (wd y) tw))) (m1 : m (Str.ofString "text") = some (.str (wd a) ta)) (la : a.length ≤ 60) (lb : y.length ≤ 60) (he : ellB (wd a) (wd y) = (wd a == wd y)) :
  wpAny (model PySem.Challenge.rw_wr0012_01.row.prog w) ((Ar dp un fr gd).deeper (lawEnv L fl cd)) (execs (loopBody 15) (lawEnv L fl cd)) (TurnRead hB L m ((L + 2, oW) :: nw) s) (fun _ _ => False) s := by
  revert X; k_fill; intro X
  conv in loopBody _ => whnf
  replace F := Fr.over F [(Str.ofString "text", .str (wd a) ta)] ⟨m1, trivial⟩
  w_on
  k_steps
  refine ell_spec _ _ _ _ (T.keeps F.keep) (X.keeps F.keep) (by first | exact lim 1 hd | exact limT 1 hd | (show dp + 1 < _; omega)) (by rw [wd_length]; omega) (by rw [wd_length]; omega) fun h6 tk6 st6 => ?_
  have F6 := F.keeps st6
  have N6 := News.stays N st6
  clear F N
  refine tk_any (s₀ := s) (h := h6) fun tk6' => ?_
  iterate 4 walk1
  rw [he]
  have fin : ∀ tk, TurnRead hB L m ((L + 2, oW) :: nw) s .next { s with heap := h6, toks := tk } := fun tk => by
    rw [over_eq [(Str.ofString "text", .str (wd a) ta)] ⟨m1, trivial⟩] at F6
    exact ⟨rfl, h6, _, m, rfl, F6, N6, rfl⟩
  generalize (wd a == wd y) = bb
  cases bb
  · k_steps
    exact fin _
  · k_steps
    exact fin _
theorem strs5 {i : Nat} {v : Value} {a1 a2 a3 a4 a5 : List Nat} {t1 t2 t3 t4 t5 : Tok} (hv : [Value.str (wd a1) t1, .str (wd a2) t2, .str (wd a3) t3, .str (wd a4) t4, .str (wd a5) t5][i]? = some v) : ∃ a t, v = .str (wd a) t ∧ a ∈ [a1, a2, a3, a4, a5] := by
  have h3 : i < 5 := (List.getElem?_eq_some_iff.mp hv).1
  obtain rfl | rfl | rfl | rfl | rfl : i = 0 ∨ i = 1 ∨ i = 2 ∨ i = 3 ∨ i = 4 := or5 i (List.getElem?_eq_some_iff.mp hv).1
  · exact ⟨_, _, (Option.some.inj hv).symm, .head _⟩
  · exact ⟨_, _, (Option.some.inj hv).symm, .tail _ (.head _)⟩
  · exact ⟨_, _, (Option.some.inj hv).symm, .tail _ (.tail _ (.head _))⟩
  · exact ⟨_, _, (Option.some.inj hv).symm, .tail _ (.tail _ (.tail _ (.head _)))⟩
  · exact ⟨_, _, (Option.some.inj hv).symm, .tail _ (.tail _ (.tail _ (.tail _ (.head _))))⟩
theorem len5 {y o z a : List Nat} (hy : y.length ≤ 40) (ho : o.length ≤ 40) (hz : z.length ≤ 40) (ha : a ∈ [y, o, z, y.take 9, [121] ++ y]) : a.length ≤ 60 := by
  have up : ∀ {n : Nat}, n ≤ 40 → n ≤ 60 := fun h => Nat.le_trans h (by decide)
  exact all_cons (P := fun a : List Nat => a.length ≤ 60) (up hy) (all_cons (up ho) (all_cons (up hz) (all_cons (up (Nat.le_trans (by rw [List.length_take]; exact Nat.min_le_right _ _) hy)) (all_one (Nat.le_trans (show ([121] ++ y).length ≤ 41 from Nat.succ_le_succ hy) (by decide)))))) a ha
set_option maxRecDepth 100000 in
set_option maxHeartbeats 1000000 in
theorem law_texts {B : List Stmt} (hBB : fnBody 20 = B) {R : Flow → Shared → Prop} {hB : Heap} {L fl : Addr} {cd : Value} {m : Str → Option Value} {y o z : List Nat} {tw to tz : Tok} {oW oS : Obj}
  (T : Top topProg LOOSE mean mg mb hB) (X : (Mine.hd.heap_39 w.params).In hB) (hd : dp + 15 < recursionLimit)
  (F : Fr hB L s.heap m) (h1 : m (Str.ofString "other") = some (.str (wd o) to)) (hy9 : 9 ≤ y.length) (hy : y.length ≤ 40) (ho : o.length ≤ 40) (hz : z.length ≤ 40)
  (eW : s.heap.get? (L + 2) = some oW) (dW : oW.data = .cell (some (.str (wd y) tw))) (bW : hB.get? (L + 2) = none) (eS : s.heap.get? (L + 3) = some oS) (dS : oS.data = .cell (some (.str (wd z) tz))) (bS : hB.get? (L + 3) = none) 
  (he : ∀ a ∈ [y, o, z, y.take 9, [121] ++ y], ellB (wd a) (wd y) = (wd a == wd y))
  (hret : ∀ (h' : Heap) (tk' : Nat) (m' : Str → Option Value), Fr hB L h' m' → (∀ z, z ≠ Str.ofString "text" → m' z = m z) → But s.heap [L] h' → R .next { s with heap := h', toks := tk' }) :
  wpAny (model PySem.Challenge.rw_wr0012_01.row.prog w) ((Ar dp un fr gd).deeper (lawEnv L fl cd)) (execs ((B.drop 15).take 1) (lawEnv L fl cd)) R (fun _ _ => False) s := by
  subst hBB
  revert X; k_fill; intro X
  conv in List.take _ _ => whnf
  have hlw : (wd y).length ≤ 40 := by rw [wd_length]; exact hy
  replace F := Fr.over F [(Str.ofString "other", .str (wd o) to)] ⟨h1, trivial⟩
  obtain ⟨pl0, Npl0, hpb0, hpk0⟩ := ro_start F [L] (.head _)
  have L2 : @Ne Nat (L + 2) L := Nat.ne_of_gt (Nat.lt_add_of_pos_right (by decide))
  have L3 : @Ne Nat (L + 3) L := Nat.ne_of_gt (Nat.lt_add_of_pos_right (by decide))
  have N : News hB L s.heap ((L + 2, oW) :: (L + 3, oS) :: pl0) := News.ins eW L2 bW (News.ins eS L3 bS Npl0)
  clear Npl0
  w_on
  iterate 1 walk1
  refine For_turns F ?_
  iterate 23 walk1
  rename_i h' t9 k9 _ t7 k7 _ D h F1 N1 lD
  have ey : Str.ofString "y" = wd [121] := by decide
  rw [show ((9 : Int)) = ((9 : Nat) : Int) from rfl, slice_to_wd hy9, ey, wd_append] at N1
  have nD := N1 _ (.head _)
  dsimp only at nD
  clear lD
  refine turns_tup (s := ⟨h, _, _, _, _⟩) (vs := [_, _, _, _, _]) (fun i m₁ => ∀ z, z ≠ Str.ofString "text" → m₁ z = over [(Str.ofString "other", .str (wd o) to)] m z) rfl ⟨_, nD.1, rfl, _, rfl⟩ nD.2.1 F1 N1 (fun _ _ => rfl) ?_ ?_
  · intro i v m₁ h4 tk4 own hv hJ F4 N4
    clear hret F1 nD
    have q1 := strs5 hv
    obtain ⟨a, ta, hv2, hin⟩ := q1
    subst hv2
    have nW := N4 (L + 2, oW) (List.mem_append_left _ (.tail _ (.head _)))
    have N4' := News.ins nW.1 nW.2.1 nW.2.2 N4
    clear N4 hv nW
    refine tk_any (s₀ := s) (h := h4) fun tk4' => ?_
    iterate 2 walk1
    rename_i h5 F5 N5
    refine tk_any (s₀ := s) (h := h5) fun tk5 => ?_
    have wb := texts_body (s := { s with heap := h5, toks := tk5 }) (w := w) (dp := dp) (un := un) (fr := fr) (gd := gd) (fl := fl) (cd := cd) T X hd F5 N5 dW rfl (len5 hy ho hz hin) (Nat.le_trans hy (by decide)) (he a hin)
    refine wpAny_mono wb (fun f s' h => TurnRead.turn ?_ rfl h) fun _ _ e => e
    intro z z1
    simp only [z1, if_false]
    exact hJ z z1
  · intro m₁ h4 tk4 hJ F4 N4
    refine tk_any (s₀ := s) (h := h4) fun tk4' => ?_
    show wpAny _ _ (execs [] (lawEnv L fl cd)) _ _ _
    refine wpAny_execs_nil ?_
    refine hret h4 _ m₁ F4 (fun z z1 => ?_) (hpk0 h4 F4.keep fun p hp => (N4 p (.tail _ (.tail _ (.tail _ hp)))).1)
    rw [hJ z z1, over_eq [(Str.ofString "other", .str (wd o) to)] ⟨h1, trivial⟩]
end Mine
end
section
open PySem PySem.W PyProof.Rows PySem.Spec
namespace Mine
noncomputable def Gap.Ord : Gap → Prop
  | .leaf => True
  | .fork c l m r => (∀ d ∈ l.word ++ (m.word ++ r.word), c < d) ∧ l.Ord ∧ m.Ord ∧ r.Ord
theorem Gap.ins_mem (c : Nat) : ∀ (t : Gap) (p d : Nat), d ∈ (Gap.ins c p t).word → d = c ∨ d ∈ t.word
  | .leaf, p, d, h => by simp [Gap.ins, Gap.word] at h; exact .inl h
  | .fork e l m r, p, d, h => by
    unfold Gap.ins at h
    split at h
    · simp only [Gap.word, List.mem_append, List.mem_cons] at h ⊢
      rcases h with h | h
      · rcases Gap.ins_mem c l _ d h with q | q <;> simp [q]
      · simp [h]
    · split at h
      · simp only [Gap.word, List.mem_append, List.mem_cons] at h ⊢
        rcases h with h | h | h | h
        · simp [h]
        · simp [h]
        · rcases Gap.ins_mem c m _ d h with q | q <;> simp [q]
        · simp [h]
      · simp only [Gap.word, List.mem_append, List.mem_cons] at h ⊢
        rcases h with h | h | h | h | h
        · simp [h]
        · simp [h]
        · simp [h]
        · simp [h]
        · rcases Gap.ins_mem c r _ d h with q | q <;> simp [q]
theorem Gap.ins_count (c d : Nat) : ∀ (t : Gap) (p : Nat), (Gap.ins c p t).word.count d = t.word.count d + (if c = d then 2 else 0)
  | .leaf, p => by simp only [Gap.ins, Gap.word, List.nil_append, List.count_cons, List.count_nil]; by_cases h : c = d <;> simp [h]
  | .fork e l m r, p => by
    unfold Gap.ins
    split
    · simp only [Gap.word, List.count_append, List.count_cons, Gap.ins_count c d l]; omega
    · split
      · simp only [Gap.word, List.count_append, List.count_cons, Gap.ins_count c d m]; omega
      · simp only [Gap.word, List.count_append, List.count_cons, Gap.ins_count c d r]; omega
theorem Gap.ins_ord (c : Nat) : ∀ (t : Gap) (p : Nat), t.Ord → (∀ d ∈ t.word, d < c) → (Gap.ins c p t).Ord
  | .leaf, p, _, _ => by simp [Gap.ins, Gap.Ord, Gap.word]
  | .fork e l m r, p, ho, hc => by
    obtain ⟨h0, hl, hm, hr⟩ := ho
    have he : e < c := hc e (by simp [Gap.word])
    unfold Gap.ins
    split
    · refine ⟨fun d hd => ?_, Gap.ins_ord c l _ hl fun d hd => hc d (by simp [Gap.word, hd]), hm, hr⟩
      simp only [List.mem_append] at hd
      rcases hd with hd | hd
      · rcases Gap.ins_mem c l _ d hd with rfl | q
        · exact he
        · exact h0 d (by simp [q])
      · exact h0 d (by simp only [List.mem_append]; exact .inr hd)
    · split
      · refine ⟨fun d hd => ?_, hl, Gap.ins_ord c m _ hm fun d hd => hc d (by simp [Gap.word, hd]), hr⟩
        simp only [List.mem_append] at hd
        rcases hd with hd | hd | hd
        · exact h0 d (by simp [hd])
        · rcases Gap.ins_mem c m _ d hd with rfl | q
          · exact he
          · exact h0 d (by simp [q])
        · exact h0 d (by simp [hd])
      · refine ⟨fun d hd => ?_, hl, hm, Gap.ins_ord c r _ hr fun d hd => hc d (by simp [Gap.word, hd])⟩
        simp only [List.mem_append] at hd
        rcases hd with hd | hd | hd
        · exact h0 d (by simp [hd])
        · exact h0 d (by simp [hd])
        · rcases Gap.ins_mem c r _ d hd with rfl | q
          · exact he
          · exact h0 d (by simp [q])
noncomputable def Perm3 (σ : Nat → Nat) : Prop := (σ 0, σ 1, σ 2) ∈ [(0, 1, 2), (0, 2, 1), (1, 0, 2), (1, 2, 0), (2, 0, 1), (2, 1, 0)]
theorem Gap.turn_count (σ : Nat → Nat) (hσ : Perm3 σ) (d : Nat) : ∀ t : Gap, (t.turn σ).word.count d = t.word.count d
  | .leaf => rfl
  | .fork c l m r => by
    have il := Gap.turn_count σ hσ d l
    have im := Gap.turn_count σ hσ d m
    have ir := Gap.turn_count σ hσ d r
    simp only [Perm3, List.mem_cons, List.mem_nil_iff, or_false, Prod.mk.injEq] at hσ
    rcases hσ with ⟨h0, h1, h2⟩ | ⟨h0, h1, h2⟩ | ⟨h0, h1, h2⟩ | ⟨h0, h1, h2⟩ | ⟨h0, h1, h2⟩ | ⟨h0, h1, h2⟩ <;>
      simp [Gap.turn, h0, h1, h2, pick3, Gap.word, List.count_append, List.count_cons, il, im, ir] <;> omega
theorem Gap.turn_size (σ : Nat → Nat) (hσ : Perm3 σ) : ∀ t : Gap, (t.turn σ).size = t.size
  | .leaf => rfl
  | .fork c l m r => by
    have il := Gap.turn_size σ hσ l
    have im := Gap.turn_size σ hσ m
    have ir := Gap.turn_size σ hσ r
    simp only [Perm3, List.mem_cons, List.mem_nil_iff, or_false, Prod.mk.injEq] at hσ
    rcases hσ with ⟨h0, h1, h2⟩ | ⟨h0, h1, h2⟩ | ⟨h0, h1, h2⟩ | ⟨h0, h1, h2⟩ | ⟨h0, h1, h2⟩ | ⟨h0, h1, h2⟩ <;>
      simp [Gap.turn, h0, h1, h2, pick3, Gap.size, il, im, ir] <;> omega
theorem Gap.turn_mem (σ : Nat → Nat) (hσ : Perm3 σ) (d : Nat) (t : Gap) : d ∈ (t.turn σ).word ↔ d ∈ t.word := by
  rw [← List.count_pos_iff, ← List.count_pos_iff, Gap.turn_count σ hσ]
theorem Gap.turn_ord (σ : Nat → Nat) (hσ : Perm3 σ) : ∀ t : Gap, t.Ord → (t.turn σ).Ord
  | .leaf, _ => trivial
  | .fork c l m r, ⟨h0, hl, hm, hr⟩ => by
    have il := Gap.turn_ord σ hσ l hl
    have im := Gap.turn_ord σ hσ m hm
    have ir := Gap.turn_ord σ hσ r hr
    have kl : ∀ d ∈ (l.turn σ).word, c < d := fun d hd => h0 d (by simp [(Gap.turn_mem σ hσ d l).mp hd])
    have km : ∀ d ∈ (m.turn σ).word, c < d := fun d hd => h0 d (by simp [(Gap.turn_mem σ hσ d m).mp hd])
    have kr : ∀ d ∈ (r.turn σ).word, c < d := fun d hd => h0 d (by simp [(Gap.turn_mem σ hσ d r).mp hd])
    have pk : ∀ j, (pick3 j (l.turn σ) (m.turn σ) (r.turn σ)).Ord ∧ ∀ d ∈ (pick3 j (l.turn σ) (m.turn σ) (r.turn σ)).word, c < d := fun j => by
      unfold pick3
      split
      · exact ⟨il, kl⟩
      · split
        · exact ⟨im, km⟩
        · exact ⟨ir, kr⟩
    refine ⟨fun d hd => ?_, (pk _).1, (pk _).1, (pk _).1⟩
    simp only [List.mem_append] at hd
    rcases hd with hd | hd | hd
    · exact (pk _).2 d hd
    · exact (pk _).2 d hd
    · exact (pk _).2 d hd
theorem Gap.high_le : ∀ t : Gap, t.high ≤ t.size
  | .leaf => Nat.le_refl _
  | .fork c l m r => by
    have h1 := Gap.high_le l; have h2 := Gap.high_le m; have h3 := Gap.high_le r
    show 1 + max l.high (max m.high r.high) ≤ 1 + l.size + m.size + r.size
    rw [Nat.add_assoc 1, Nat.add_assoc 1]
    exact Nat.add_le_add_left (Nat.max_le.mpr ⟨Nat.le_trans h1 (Nat.le_trans (Nat.le_add_right _ _) (Nat.le_add_right _ _)), Nat.max_le.mpr ⟨Nat.le_trans h2 (Nat.le_trans (Nat.le_add_left _ _) (Nat.le_add_right _ _)), Nat.le_trans h3 (Nat.le_add_left _ _)⟩⟩) 1
structure Good (t : Gap) : Prop where
  ord : t.Ord
  size : t.size = 5
  cnt : ∀ d, t.word.count d = if d ∈ letL then 2 else 0
theorem Good.turn {t : Gap} (g : Good t) (σ : Nat → Nat) (hσ : Perm3 σ) : Good (t.turn σ) := ⟨Gap.turn_ord σ hσ t g.ord, by rw [Gap.turn_size σ hσ]; exact g.size, fun d => by rw [Gap.turn_count σ hσ]; exact g.cnt d⟩
theorem good_ins (p0 p1 p2 p3 p4 : Nat) : Good (Gap.ins 121 p4 (Gap.ins 98 p3 (Gap.ins 89 p2 (Gap.ins 66 p1 (Gap.ins 38 p0 .leaf))))) := by
  refine ⟨?_, by simp only [Gap.ins_size, Gap.size], fun d => ?_⟩
  · refine Gap.ins_ord _ _ _ (Gap.ins_ord _ _ _ (Gap.ins_ord _ _ _ (Gap.ins_ord _ _ _ (Gap.ins_ord _ _ _ trivial (by simp [Gap.word])) ?_) ?_) ?_) ?_
    all_goals
      intro d hd
      repeat (rcases Gap.ins_mem _ _ _ _ hd with rfl | hd; decide)
      simp [Gap.word] at hd
  · simp only [Gap.ins_count, Gap.word, List.count_nil, letL, List.mem_cons, List.mem_nil_iff, or_false]
    by_cases h1 : 121 = d
    · subst h1; decide
    · by_cases h2 : 98 = d
      · subst h2; decide
      · by_cases h3 : 89 = d
        · subst h3; decide
        · by_cases h4 : 66 = d
          · subst h4; decide
          · by_cases h5 : 38 = d
            · subst h5; decide
            · rw [if_neg h1, if_neg h2, if_neg h3, if_neg h4, if_neg h5, if_neg fun q => q.elim (fun e => h5 e.symm) fun q => q.elim (fun e => h4 e.symm) fun q => q.elim (fun e => h3 e.symm) fun q => q.elim (fun e => h2 e.symm) fun e => h1 e.symm]
end Mine
end
section
open PySem PySem.W PyProof.Rows PySem.Spec
namespace Mine
theorem good_grown {ns : List Int} (h : ns.length = 5) : Good (grownT (lets.zip ns) 5) := by
  obtain ⟨a, n1, e1, h1⟩ := len_succ h
  obtain ⟨b, n2, e2, h2⟩ := len_succ h1
  obtain ⟨c, n3, e3, h3⟩ := len_succ h2
  obtain ⟨d, n4, e4, h4⟩ := len_succ h3
  obtain ⟨e, n5, e5, h5⟩ := len_succ h4
  rw [e1, e2, e3, e4, e5, List.length_eq_zero_iff.mp h5]
  simp only [grownT, lets, List.zip_cons_cons, List.zip_nil_right, List.getElem?_cons_succ, List.getElem?_cons_zero]
  exact good_ins _ _ _ _ _
noncomputable def gp (a : List Nat) (l : List Nat) (b : List Nat) : List (List Nat × List Nat) := List.zip (a :: l.map (fun c => [c])) (l.map (fun c => [c]) ++ [b])
theorem gp_nil (a b : List Nat) : gp a [] b = [(a, b)] := rfl
theorem gp_cons (a b : List Nat) (c : Nat) (l : List Nat) : gp a (c :: l) b = (a, [c]) :: gp [c] l b := rfl
theorem gp_append (b : List Nat) (c : Nat) (r : List Nat) : ∀ (l : List Nat) (a : List Nat), gp a (l ++ c :: r) b = gp a l [c] ++ gp [c] r b
  | [], a => rfl
  | d :: l, a => by rw [List.cons_append, gp_cons, gp_append b c r l [d], gp_cons, List.cons_append]
noncomputable def dueOf (p : List Nat × List Nat) : Int × List Nat := (1 + saidOf p, letOf p)
noncomputable def endF (e : Nat × Nat) : Int × List Nat := ((e.1 : Int), [e.2])
theorem coll_lt {a : List Nat} {c : Nat} (h : a = [] ∨ ∃ a', a = [a'] ∧ a' < c) : coll a [c] = -1 := by
  rcases h with rfl | ⟨a', rfl, h⟩
  · rfl
  · unfold coll
    have h1 : ¬ ([c] < [a']) := by rw [List.cons_lt_cons_iff]; rintro (q | ⟨_, q⟩); omega; simp at q
    have h2 : [a'] < [c] := List.cons_lt_cons_iff.mpr (.inl h)
    simp [h1, h2, b2i]
theorem coll_gt {b : List Nat} {c : Nat} (h : b = [] ∨ ∃ b', b = [b'] ∧ b' < c) : coll [c] b = 1 := by
  rcases h with rfl | ⟨b', rfl, h⟩
  · rfl
  · unfold coll
    have h1 : ¬ ([c] < [b']) := by rw [List.cons_lt_cons_iff]; rintro (q | ⟨_, q⟩); omega; simp at q
    have h2 : [b'] < [c] := List.cons_lt_cons_iff.mpr (.inl h)
    simp [h1, h2, b2i]
theorem coll_self (x : List Nat) : coll x x = 0 := by simp [coll]
noncomputable def Low (a : List Nat) (t : Gap) : Prop := a = [] ∨ ∃ a', a = [a'] ∧ ∀ d ∈ t.word, a' < d
theorem Low.root {a : List Nat} {c : Nat} {l m r : Gap} (h : Low a (.fork c l m r)) : a = [] ∨ ∃ a', a = [a'] ∧ a' < c := by
  rcases h with h | ⟨a', h, k⟩
  · exact .inl h
  · exact .inr ⟨a', h, k c (by simp [Gap.word])⟩
theorem Low.sub {a : List Nat} {t k : Gap} (h : Low a t) (hk : ∀ d ∈ k.word, d ∈ t.word) : Low a k := by
  rcases h with h | ⟨a', h, q⟩
  · exact .inl h
  · exact .inr ⟨a', h, fun d hd => q d (hk d hd)⟩
theorem ends_due : ∀ (t : Gap) (a b : List Nat), t.Ord → t ≠ .leaf → Low a t → Low b t → (gp a t.word b).map dueOf = t.ends.map endF
  | .leaf, _, _, _, h, _, _ => absurd rfl h
  | .fork c l m r, a, b, ⟨h0, hl, hm, hr⟩, _, ha, hb => by
    have cl : Low [c] l := .inr ⟨c, rfl, fun d hd => h0 d (by simp [hd])⟩
    have cm : Low [c] m := .inr ⟨c, rfl, fun d hd => h0 d (by simp [hd])⟩
    have cr : Low [c] r := .inr ⟨c, rfl, fun d hd => h0 d (by simp [hd])⟩
    have el : (gp a l.word [c]).map dueOf = (endOf 0 c l l.ends).map endF := by
      cases l with
      | leaf =>
        have := coll_lt ha.root
        simp [Gap.word, gp_nil, endOf, dueOf, endF, saidOf, letOf, this]
      | fork c' l' m' r' => exact ends_due _ a [c] hl (by simp) (ha.sub fun d hd => by simp only [Gap.word, List.mem_append, List.mem_cons] at hd ⊢; exact .inl hd) cl
    have em : (gp [c] m.word [c]).map dueOf = (endOf 1 c m m.ends).map endF := by
      cases m with
      | leaf => simp [Gap.word, gp_nil, endOf, dueOf, endF, saidOf, letOf, coll_self]
      | fork c' l' m' r' => exact ends_due _ [c] [c] hm (by simp) cm cm
    have er : (gp [c] r.word b).map dueOf = (endOf 2 c r r.ends).map endF := by
      cases r with
      | leaf =>
        have := coll_gt hb.root
        simp [Gap.word, gp_nil, endOf, dueOf, endF, saidOf, letOf, this]
      | fork c' l' m' r' => exact ends_due _ [c] b hr (by simp) cr (hb.sub fun d hd => by simp only [Gap.word, List.mem_append, List.mem_cons] at hd ⊢; exact .inr (.inr (.inr (.inr hd))))
    rw [Gap.word, gp_append, gp_append, List.map_append, List.map_append, el, em, er, Gap.ends]
    simp only [List.map_append, List.append_assoc]
theorem gapsOf_gp (y : List Nat) : gapsOf y = gp [] y [] := rfl
theorem Good.ends {t : Gap} (g : Good t) : EndsDue t (gapsOf t.word) := by
  have hne : t ≠ .leaf := fun h => by have := g.size; rw [h] at this; simp [Gap.size] at this
  exact ends_due t [] [] g.ord hne (.inl rfl) (.inl rfl)
theorem coll_neg {a b : Nat} : coll [a] [b] < 0 ↔ a < b := by
  unfold coll
  have e : ∀ x y : Nat, ([x] < [y]) ↔ x < y := fun x y => by
    rw [List.cons_lt_cons_iff]
    constructor
    · rintro (q | ⟨_, q⟩)
      · exact q
      · simp at q
    · exact .inl
  by_cases h1 : a < b
  · have h2 : ¬ b < a := by omega
    simp [e, h1, h2, b2i]
  · by_cases h2 : b < a
    · simp [e, h1, h2, b2i]
    · simp [e, h1, h2, b2i]
theorem lesser_eq (m c : Nat) : lesser m c = min m c := by
  unfold lesser
  rw [Nat.min_def]
  by_cases h : c < m
  · rw [if_pos (coll_neg.mpr h), if_neg (by omega)]
  · rw [if_neg (fun q => h (coll_neg.mp q)), if_pos (by omega)]
theorem fold_le : ∀ (l : List Nat) (b : Nat), l.foldl lesser b ≤ b ∧ ∀ d ∈ l, l.foldl lesser b ≤ d
  | [], b => ⟨Nat.le_refl _, by simp⟩
  | c :: l, b => by
    rw [List.foldl_cons, lesser_eq]
    obtain ⟨h1, h2⟩ := fold_le l (min b c)
    refine ⟨by omega, fun d hd => ?_⟩
    revert d hd
    refine all_cons ?_ ?_
    · omega
    · intro d hd
      exact h2 d hd
theorem leastOf_le {l : List Nat} {d : Nat} (h : d ∈ l) : leastOf l ≤ d := (fold_le l _).2 d h
theorem leastOf_eq {l : List Nat} {c : Nat} (h : c ∈ l) (hm : ∀ d ∈ l, c ≤ d) : leastOf l = c :=
  Nat.le_antisymm (leastOf_le h) (hm _ (leastOf_mem (List.ne_nil_of_mem h)))
theorem splitL_two {c : Nat} {a m b : List Nat} (ha : c ∉ a) (hm : c ∉ m) : splitL [c] 2 (a ++ c :: (m ++ c :: b)) = [a, m, b] := by
  have e1 : findL [c] (a ++ c :: (m ++ c :: b)) = some (a, m ++ c :: b) := by simpa using findL_free (p := []) ha (m ++ c :: b)
  have e2 : findL [c] (m ++ c :: b) = some (m, b) := by simpa using findL_free (p := []) hm b
  simp [splitL, e1, e2]
theorem shape_list (t : Gap) : isNoneD t.shape = false := by cases t <;> rfl
theorem cut_shape : ∀ (t : Gap) (n : Nat), t.Ord → t.word.length < n → cutN n t.word = t.shape
  | .leaf, n + 1, _, _ => by simp [cutN, Gap.word, Gap.shape]
  | .fork c l m r, n + 1, ⟨h0, hl, hm, hr⟩, hn => by
    have e : (Gap.fork c l m r).word = l.word ++ c :: (m.word ++ c :: r.word) := rfl
    have hc : leastOf (Gap.fork c l m r).word = c := leastOf_eq (by simp [e]) fun d hd => by
      rw [e] at hd
      simp only [List.mem_append, List.mem_cons] at hd
      rcases hd with hd | rfl | hd | rfl | hd
      · exact Nat.le_of_lt (h0 d (by simp [hd]))
      · exact Nat.le_refl _
      · exact Nat.le_of_lt (h0 d (by simp [hd]))
      · exact Nat.le_refl _
      · exact Nat.le_of_lt (h0 d (by simp [hd]))
    have nl : c ∉ l.word := fun h => Nat.lt_irrefl _ (h0 c (by simp [h]))
    have nm : c ∉ m.word := fun h => Nat.lt_irrefl _ (h0 c (by simp [h]))
    have hs : splitL [c] 2 (Gap.fork c l m r).word = [l.word, m.word, r.word] := by rw [e]; exact splitL_two nl nm
    have hlen : l.word.length + m.word.length + r.word.length + 2 < n + 1 := by rw [e] at hn; simp at hn; omega
    have il := cut_shape l n hl (by omega)
    have im := cut_shape m n hm (by omega)
    have ir := cut_shape r n hr (by omega)
    unfold cutN
    rw [if_neg (by rw [e]; simp), hc, hs, if_neg (by simp), if_neg (by simp [il, im, ir, shape_list])]
    simp [il, im, ir, Gap.shape]
theorem Good.len {t : Gap} (g : Good t) : t.word.length = 10 := by rw [Gap.word_length, g.size]
theorem Good.mem {t : Gap} (g : Good t) {d : Nat} : d ∈ t.word ↔ d ∈ letL := by
  rw [← List.count_pos_iff, g.cnt]
  split <;> simp_all
theorem Good.fine {t : Gap} (g : Good t) : Fine t.word := by
  refine ⟨fun h => by rw [g.mem] at h; simp [letL] at h, fun c => ?_⟩
  rw [g.cnt]; split <;> omega
theorem Good.low {t : Gap} (g : Good t) : ∀ c ∈ t.word, c < 256 := fun c h => by
  rw [g.mem] at h
  revert c
  exact all_cons (by decide) (all_cons (by decide) (all_cons (by decide) (all_cons (by decide) (all_one (by decide)))))
theorem Good.rowOK {t : Gap} (g : Good t) {dp : Nat} (hd : dp + 100 < recursionLimit) : RowOK dp t :=
  ⟨by have := Gap.high_le t; rw [g.size] at this; omega, by rw [g.size]; decide, g.fine, g.low, cut_shape t _ g.ord (by omega), g.ends⟩
end Mine
end
section
open PySem PySem.W PyProof.Rows PySem.Spec
namespace Mine
noncomputable def Bad (z : List Nat) : Prop := ∃ x y, x < y ∧ [y, x, y].Sublist z
theorem fine_sub {l k : List Nat} (h : Fine l) (s : k.Sublist l) : Fine k := ⟨fun q => h.1 (s.subset q), fun c => Nat.le_trans (s.count_le c) (h.2 c)⟩
theorem Bad.sub {l k : List Nat} (h : Bad k) (s : k.Sublist l) : Bad l := by
  obtain ⟨x, y, h1, h2⟩ := h
  exact ⟨x, y, h1, h2.trans s⟩
theorem cut_head {n : Nat} {l : List Nat} {c : Nat} {a m b : List Nat} (hl : l ≠ []) (hc : leastOf l = c) (hs : splitL [c] 2 l = [a, m, b]) : cutN (n + 1) l = .none ↔ cutN n a = .none ∨ cutN n m = .none ∨ cutN n b = .none := by
  have e : ∀ d : PyData, isNoneD d = true ↔ d = .none := fun d => by cases d <;> simp [isNoneD]
  have step : cutN (n + 1) l = (if l = [] then PyData.list [] else if (splitL [leastOf l] 2 l).length ≤ 2 then .none else
    if ((splitL [leastOf l] 2 l).map (cutN n)).any isNoneD = true then .none else .list (.str (chr (leastOf l)) :: (splitL [leastOf l] 2 l).map (cutN n))) := by rw [cutN]
  rw [step, if_neg hl, hc, hs, if_neg (by simp)]
  by_cases h : ([a, m, b].map (cutN n)).any isNoneD = true
  · rw [if_pos h]
    simpa [e] using h
  · rw [if_neg h]
    have h' : ¬ (cutN n a = .none ∨ cutN n m = .none ∨ cutN n b = .none) := by simpa [e] using h
    simp [h']
theorem sub3 {c y : Nat} {a m b : List Nat} (hyc : y ≠ c) (s : [y, y].Sublist (a ++ c :: (m ++ c :: b))) (hne : ¬ ([y, c, y].Sublist (a ++ c :: (m ++ c :: b)))) : [y, y].Sublist a ∨ [y, y].Sublist m ∨ [y, y].Sublist b := by
  have one : ∀ {l : List Nat}, y ∈ l → [y].Sublist l := fun h => List.singleton_sublist.mpr h
  rw [List.sublist_append_iff] at s
  obtain ⟨l1, l2, e, s1, s2⟩ := s
  match l1, l2, e with
  | [], _, rfl =>
    rcases List.sublist_cons_iff.mp s2 with s2 | ⟨r, e, _⟩
    · rw [List.sublist_append_iff] at s2
      obtain ⟨k1, k2, e, t1, t2⟩ := s2
      match k1, k2, e with
      | [], _, rfl =>
        rcases List.sublist_cons_iff.mp t2 with t2 | ⟨r, e, _⟩
        · exact .inr (.inr t2)
        · simp at e; exact absurd e.1 hyc
      | [_], [_], e =>
        simp at e; obtain ⟨rfl, rfl⟩ := e
        rcases List.sublist_cons_iff.mp t2 with t2 | ⟨r, e, _⟩
        · exfalso
          refine hne (List.Sublist.trans ?_ (List.sublist_append_right _ _))
          refine List.Sublist.cons _ ?_
          show ([y] ++ [c, y]).Sublist _
          exact t1.append (t2.cons_cons c)
        · simp at e; exact absurd e.1 hyc
      | [_, _], [], e =>
        simp at e; obtain ⟨rfl, rfl⟩ := e
        exact .inr (.inl t1)
    · simp at e; exact absurd e.1 hyc
  | [_], [_], e =>
    simp at e; obtain ⟨rfl, rfl⟩ := e
    rcases List.sublist_cons_iff.mp s2 with s2 | ⟨r, e, _⟩
    · exfalso
      refine hne ?_
      show ([y] ++ [c, y]).Sublist _
      exact s1.append (s2.cons_cons c)
    · simp at e; exact absurd e.1 hyc
  | [_, _], [], e =>
    simp at e; obtain ⟨rfl, rfl⟩ := e
    exact .inl s1
theorem last_left {y x : Nat} {u v : List Nat} (hv : y ∉ v) (s : [y, x, y].Sublist (u ++ v)) : [y, x, y].Sublist u := by
  rw [List.sublist_append_iff] at s
  obtain ⟨l1, l2, e, s1, s2⟩ := s
  have hl2 : y ∉ l2 := fun h => hv (s2.subset h)
  rcases List.eq_nil_or_concat l2 with h | ⟨L, b, rfl⟩
  · rw [h, List.append_nil] at e; rw [e]; exact s1
  · have q := congrArg List.getLast? e
    simp at q
    exact absurd (by simp [q]) hl2
theorem head_right {y x : Nat} {u v : List Nat} (hu : y ∉ u) (s : [y, x, y].Sublist (u ++ v)) : [y, x, y].Sublist v := by
  rw [List.sublist_append_iff] at s
  obtain ⟨l1, l2, e, s1, s2⟩ := s
  have hl1 : y ∉ l1 := fun h => hu (s1.subset h)
  match l1, e, hl1 with
  | [], e, _ => rw [List.nil_append] at e; rw [e]; exact s2
  | q :: r, e, hl1 => simp at e; exact absurd (by rw [← e.1]; exact .head _) hl1
theorem twice_sub {y : Nat} {l : List Nat} (h : 2 ≤ l.count y) : [y, y].Sublist l := by
  have := List.replicate_sublist_iff (n := 2) (a := y) (l := l)
  exact this.mpr h
theorem cut_none : ∀ (n : Nat) (z : List Nat), Fine z → z.length < n → (cutN n z = .none ↔ (∃ y, z.count y = 1) ∨ Bad z)
  | n + 1, z, hF, hn => by
    by_cases hz : z = []
    · subst hz
      have h1 : cutN (n + 1) [] ≠ .none := by simp [cutN]
      have h2 : ¬ ((∃ y, ([] : List Nat).count y = 1) ∨ Bad []) := by
        rintro (⟨y, h⟩ | ⟨x, y, _, h⟩)
        · simp at h
        · simp at h
      exact iff_of_false h1 h2
    · have hm := leastOf_mem hz
      have hle : ∀ d ∈ z, leastOf z ≤ d := fun d hd => leastOf_le hd
      generalize hc : leastOf z = c at hm hle
      rcases pieces hF hm with ⟨a, r, e, ha, hr, hs, _⟩ | ⟨a, m, b, e, ha, hm', hb, hs, _⟩
      · have h1 : cutN (n + 1) z = .none := by
          unfold cutN
          rw [if_neg hz, hc, hs, if_pos (by simp)]
        have h2 : z.count c = 1 := by
          rw [e, List.count_append, List.count_cons, List.count_eq_zero_of_not_mem ha, List.count_eq_zero_of_not_mem hr]; simp
        simp only [h1, true_iff]
        exact .inl ⟨c, h2⟩
      · rw [cut_head hz hc hs]
        have la : a.length < n := by rw [e] at hn; simp at hn; omega
        have lm : m.length < n := by rw [e] at hn; simp at hn; omega
        have lb : b.length < n := by rw [e] at hn; simp at hn; omega
        have sa : a.Sublist z := by rw [e]; exact List.sublist_append_left _ _
        have sm : m.Sublist z := by rw [e]; exact List.Sublist.trans (List.Sublist.trans (List.sublist_append_left _ _) (List.sublist_cons_self _ _)) (List.sublist_append_right _ _)
        have sb : b.Sublist z := by rw [e]; exact List.Sublist.trans (List.Sublist.trans (List.Sublist.trans (List.sublist_cons_self _ _) (List.sublist_append_right _ _)) (List.sublist_cons_self _ _)) (List.sublist_append_right _ _)
        have ia := cut_none n a (fine_sub hF sa) la
        have im := cut_none n m (fine_sub hF sm) lm
        have ib := cut_none n b (fine_sub hF sb) lb
        have cz : ∀ y, z.count y = a.count y + m.count y + b.count y + (if y = c then 2 else 0) := fun y => by
          rw [e]; simp only [List.count_append, List.count_cons]
          by_cases h : c = y
          · subst h; simp; omega
          · have h' : y ≠ c := Ne.symm h
            simp [h, h']; omega
        have once : ∀ (k : List Nat), k.Sublist z → (k = a ∨ k = m ∨ k = b) → ∀ y, k.count y = 1 → (∃ y, z.count y = 1) ∨ Bad z := by
          intro k sk hk y hy
          have yc : y ≠ c := by
            rintro rfl
            have : y ∈ k := List.count_pos_iff.mp (by omega)
            rcases hk with rfl | rfl | rfl
            · exact ha this
            · exact hm' this
            · exact hb this
          have hyz : y ∈ z := sk.subset (List.count_pos_iff.mp (by omega))
          have hcy : c < y := Nat.lt_of_le_of_ne (hle y hyz) (Ne.symm yc)
          by_cases h1 : z.count y = 1
          · exact .inl ⟨y, h1⟩
          · have h2 : z.count y = 2 := by
              have := hF.2 y
              have : 0 < z.count y := List.count_pos_iff.mpr hyz
              omega
            refine .inr ⟨c, y, hcy, ?_⟩
            refine Classical.byContradiction fun hne => ?_
            rw [e] at hne
            have s2 := twice_sub (l := z) (y := y) (by omega)
            rw [e] at s2
            have q := cz y
            rw [if_neg yc] at q
            have c2 : ∀ {k : List Nat}, [y, y].Sublist k → 2 ≤ k.count y := fun s => by have := s.count_le y; simpa using this
            rcases sub3 yc s2 hne with s3 | s3 | s3 <;> have := c2 s3 <;> rcases hk with rfl | rfl | rfl <;> omega
        constructor
        · rintro (h | h | h)
          · rcases ia.mp h with ⟨y, hy⟩ | h
            · exact once a sa (.inl rfl) y hy
            · exact .inr (h.sub sa)
          · rcases im.mp h with ⟨y, hy⟩ | h
            · exact once m sm (.inr (.inl rfl)) y hy
            · exact .inr (h.sub sm)
          · rcases ib.mp h with ⟨y, hy⟩ | h
            · exact once b sb (.inr (.inr rfl)) y hy
            · exact .inr (h.sub sb)
        · have fromOne : ∀ y, y ≠ c → (a.count y = 1 ∨ m.count y = 1 ∨ b.count y = 1) → cutN n a = .none ∨ cutN n m = .none ∨ cutN n b = .none := by
            rintro y _ (h | h | h)
            · exact .inl (ia.mpr (.inl ⟨y, h⟩))
            · exact .inr (.inl (im.mpr (.inl ⟨y, h⟩)))
            · exact .inr (.inr (ib.mpr (.inl ⟨y, h⟩)))
          rintro (⟨y, hy⟩ | ⟨x, y, hxy, hs3⟩)
          · have q := cz y
            by_cases yc : y = c
            · rw [if_pos yc] at q; omega
            · rw [if_neg yc] at q
              exact fromOne y yc (by omega)
          · have hx : x ∈ z := hs3.subset (by simp)
            have yc : y ≠ c := fun h => by have := hle x hx; omega
            by_cases h1 : a.count y = 1 ∨ m.count y = 1 ∨ b.count y = 1
            · exact fromOne y yc h1
            · have q := cz y
              rw [if_neg yc] at q
              have hy2 : 2 ≤ z.count y := by
                have := hs3.count_le y
                have hxy' : x ≠ y := by omega
                simp [List.count_cons, hxy'] at this
                omega
              have hyF := hF.2 y
              have hno : ∀ {k : List Nat}, k.count y = 0 → y ∉ k := fun h => List.count_eq_zero.mp h
              rw [e] at hs3
              by_cases ha2 : a.count y = 0
              · have s4 := head_right (hno ha2) hs3
                have s5 : [y, x, y].Sublist (m ++ c :: b) := by
                  rcases List.sublist_cons_iff.mp s4 with s | ⟨r, er, _⟩
                  · exact s
                  · simp at er; exact absurd er.1 yc
                by_cases hm2 : m.count y = 0
                · have s6 := head_right (hno hm2) s5
                  have s7 : [y, x, y].Sublist b := by
                    rcases List.sublist_cons_iff.mp s6 with s | ⟨r, er, _⟩
                    · exact s
                    · simp at er; exact absurd er.1 yc
                  exact .inr (.inr (ib.mpr (.inr ⟨x, y, hxy, s7⟩)))
                · have hb0 : y ∉ c :: b := by
                    intro h
                    rcases List.mem_cons.mp h with h | h
                    · exact yc h
                    · have := List.count_pos_iff.mpr h; omega
                  exact .inr (.inl (im.mpr (.inr ⟨x, y, hxy, last_left hb0 s5⟩)))
              · have hb0 : y ∉ c :: (m ++ c :: b) := by
                  intro h
                  simp only [List.mem_cons, List.mem_append] at h
                  rcases h with h | h | h | h
                  · exact yc h
                  · have := List.count_pos_iff.mpr h; omega
                  · exact yc h
                  · have := List.count_pos_iff.mpr h; omega
                exact .inl (ia.mpr (.inr ⟨x, y, hxy, last_left hb0 hs3⟩))
end Mine
end
section
open PySem PySem.W PyProof.Rows PySem.Spec PySem.Calls
set_option maxRecDepth 100000
namespace Mine
section
variable {prog : Program} {w : World} {A : Around} {E : Value → Shared → Prop} {s : Shared} {env : Env} {h₀ : Heap} {x : Str} {body : List Stmt} {Q : Flow → Shared → Prop}
theorem turns_str {px : Pos} {y : Str} {t : Tok} {m₀ : Str → Option Value} {news : List (Addr × Obj)} (J : Nat → (Str → Option Value) → Prop)
    (hh : A.handled = none)
    (F : Fr h₀ env.locals s.heap m₀) (N : News h₀ env.locals s.heap news) (hj : J 0 m₀)
    (turn : ∀ i c u m₁ h tk own, y.cps[i]? = some c → J i m₁ → Fr h₀ env.locals h m₁ → News h₀ env.locals h (news ++ own) →
      wpAny (model prog w) A (assign (.Name x px) env (.str (chr c) u)) (fun _ s₃ => wpAny (model prog w) A (execs body env) (TurnEnd h₀ env.locals (news ++ own) (J (i + 1)) { s with heap := h, toks := tk } Q) E s₃) E { s with heap := h, toks := tk })
    (done : ∀ m₁ h tk, J y.cps.size m₁ → Fr h₀ env.locals h m₁ → News h₀ env.locals h news → Q .next { s with heap := h, toks := tk }) :
    wpAny (model prog w) A (pyIter (.str y t)) (fun it s₂ => TurnsAt prog w A h₀ env (.Name x px) body Q E it s₂) E s := by
  refine wpAny_pyIter_str fun o St hW hSt => ?_
  have W := hW A hh
  have hL : env.locals < s.heap.objs.size := F.ns.lt
  refine turns_mk s.heap.objs.size _ _ y.cps.size _ _ _ m₀ news (fun i m₁ news₁ => news₁ = news ∧ J i m₁) rfl (KTurns.ofWalks W (fun i v s Q E st q => by unfold letOwnedTupleGo; exact wpAny_pure q)) ?_ ?_ ?_
    hSt (F.push _) (fun p hp => ⟨Heap.get?_push_of_some _ (N p hp).1, (N p hp).2⟩) ⟨rfl, hj⟩ ?_ ?_
  · intro hm
    exact absurd hL ((List.mem_singleton.mp hm) ▸ Nat.lt_irrefl _)
  · intro b hb
    rw [List.mem_singleton.mp hb]
    exact next_is_new F
  · intro p hp hI
    exact absurd (Heap.lt_size (N p hp).1) ((List.mem_singleton.mp hI) ▸ Nat.lt_irrefl _)
  · rintro i v m₁ news₁ h₁ tk₁ own hi ⟨c, u, hc, rfl⟩ ⟨rfl, hJ⟩ hoff hown _ _ _ F₁ N₁
    have N₂ : News h₀ env.locals h₁ (news₁ ++ own) := fun p hp => N₁ p (List.mem_append.mpr ((List.mem_append.mp hp).symm))
    refine wpAny_mono (turn i c u m₁ h₁ tk₁ own hc hJ F₁ N₂) (fun _ s₃ q => wpAny_mono q (fun f s₂ p => ?_) fun _ _ e => e) fun _ _ e => e
    have fin : TurnEndN h₀ env.locals (news₁ ++ own) (J (i + 1)) { s with heap := h₁, toks := tk₁ } s₂ →
        LoopStepU h₀ env.locals [s.heap.objs.size] own (fun m₁ news₁' => news₁' = news₁ ∧ J (i + 1) m₁) { s with heap := h₁, toks := tk₁ } .next s₂ := by
      rintro ⟨h', tk, m', e, F', N', hm⟩
      exact ⟨rfl, h', tk, m', news₁, e, F', fun p hp => N' p (List.mem_append.mpr ((List.mem_append.mp hp).symm)), hoff, rfl, hm⟩
    cases f with
    | ret v => exact p
    | brk => exact p
    | next => exact .next (fin p)
    | cont => exact .cont (fin p)
  · rintro h' tk m' news' F' N' _ ⟨rfl, hJ⟩
    exact done m' h' tk hJ F' N'
end
end Mine
end
section
open PySem PySem.W PyProof.Rows PySem.Spec PySem.Calls
namespace Mine
variable {w : World} {mg mb : Str → Option Value} {mean : ExcName → Option Value} {dp un : Nat} {fr : Option (List Env)} {gd : Option (List Code)} {s : Shared} {Q E : Value → Shared → Prop}
local macro_rules | `(tactic| k_all) => `(tactic| assumption)
structure XY (wdl o q1 p0 p1 p2 : List Nat) (xc yc : Nat) : Prop where
  e1 : ellB (wd [46, 46, 46, xc, 46, 46, 46, yc, 46, 46, 46, xc, 46, 46, 46]) (wd wdl) = !(Builtin.Str.occurrences (wd q1) (chr yc) 0 (wd q1).length 1).isEmpty
  e2 : ellB (wd [46, 46, 46, xc, yc, 46, 46, 46]) (wd wdl) = !(Builtin.Str.occurrences (wd wdl) (chr xc ++ chr yc) 0 (wd wdl).length 1).isEmpty
  e3 : ellB (wd (p0 ++ [xc] ++ [46, 46, 46] ++ [yc] ++ [46, 46, 46] ++ ([xc] ++ p2))) (wd o) = !(Builtin.Str.occurrences (wd p1) (chr yc) 0 (wd p1).length 1).isEmpty
theorem TurnRead.turn0 {hB : Heap} {L : Addr} {m : Str → Option Value} {nw : List (Addr × Obj)} {J : (Str → Option Value) → Prop} {s s₁ : Shared} {Q : Flow → Shared → Prop} (hJ : J m) (hs : s = { s₁ with heap := s.heap, toks := s.toks }) {f : Flow} {s' : Shared} (h : TurnRead hB L m nw s f s') : TurnEnd hB L nw J s₁ Q f s' := by
  obtain ⟨rfl, h', tk, m', rfl, F, N, rfl⟩ := h
  refine ⟨h', tk, _, ?_, F, N, hJ⟩
  rw [hs]
set_option maxRecDepth 100000 in
set_option maxHeartbeats 1000000 in
theorem x_body {hB : Heap} {L fl : Addr} {cd : Value} {m : Str → Option Value} {wdl o : List Nat} {xc : Nat} {tx tw to : Tok} {p0 p1 p2 q0 q1 q2 : List Nat} {nw : List (Addr × Obj)} {oW : Obj}
  (T : Top topProg LOOSE mean mg mb hB) (X : (Mine.hd.heap_39 w.params).In hB) (hd : dp + 15 < recursionLimit)
  (F : Fr hB L s.heap m) (N : News hB L s.heap ((L + 2, oW) :: nw)) (dW : oW.data = .cell (some (.str (wd wdl) tw))) (m1 : m (Str.ofString "x") = some (.str (chr xc) tx)) (m4 : m (Str.ofString "other") = some (.str (wd o) to))
  (sp : Txt.split (wd o) (chr xc) = [wd p0, wd p1, wd p2]) (sw : Txt.split (wd wdl) (chr xc) = [wd q0, wd q1, wd q2]) (lw : wdl.length ≤ 40) (lo : o.length ≤ 40) (l0 : p0.length ≤ 40) (l1 : p1.length ≤ 40) (l2 : p2.length ≤ 40)
  (hxy : ∀ yc ∈ [38, 66, 89, 98, 121], XY wdl o q1 p0 p1 p2 xc yc)
  (R : Flow → Shared → Prop) (hret : ∀ h' tk m', Fr hB L h' m' → News hB L h' ((L + 2, oW) :: nw) → (∀ z, z ≠ Str.ofString "parts" → z ≠ Str.ofString "y" → m' z = m z) → R .next { s with heap := h', toks := tk }) :
  wpAny (model PySem.Challenge.rw_wr0012_01.row.prog w) ((Ar dp un fr gd).deeper (lawEnv L fl cd)) (execs (loopBody 10) (lawEnv L fl cd)) R (fun _ _ => False) s := by
  revert X; k_fill; intro X
  conv in loopBody _ => whnf
  have h3 : (wd o).length ≤ 40 := by rw [wd_length]; exact lo
  have h4 : (chr xc).length = 1 := by rfl
  replace F := Fr.over F [(Str.ofString "x", .str (chr xc) tx), (Str.ofString "other", .str (wd o) to)] ⟨m1, m4, trivial⟩
  w_on
  iterate 10 walk1
  rename_i lq hq kq eq _ _ Lq Fq Nq
  rw [sp] at eq
  have q3 := told3 eq
  obtain ⟨ta, tb, tc, hlq⟩ := q3
  subst hlq
  clear Lq eq
  refine tk_any (s₀ := s) (h := hq) fun tkq => ?_
  iterate 2 walk1
  rename_i hr Fr1 Nr1
  refine For_turns Fr1 ?_
  iterate 1 walk1
  have Nr2 : News hB L hr ((L + 2, oW) :: (s.heap.objs.size, lst [.str (wd p0) ta, .str (wd p1) tb, .str (wd p2) tc] 0) :: nw) := fun p hp => Nr1 p (by
    simp only [List.mem_cons] at hp ⊢
    rcases hp with h | h | h
    · exact .inr (.inl h)
    · exact .inl h
    · exact .inr (.inr h))
  clear Nr1
  have Fr2 := Fr1
  refine turns_str (s := ⟨hr, _, _, _, _⟩) (fun i m₁ => ∀ z, z ≠ Str.ofString "y" → m₁ z = (fun y => if y = Str.ofString "parts" then some (Value.ref s.heap.objs.size) else over [(Str.ofString "x", Value.str (chr xc) tx), (Str.ofString "other", Value.str (wd o) to)] m y) z) rfl Fr1 Nr2 (fun _ _ => rfl) ?_ ?_
  · intro i c u m₁ h5 tk5 own hc hJ F5 N5
    clear hret Fr1
    have hmem : c ∈ [38, 66, 89, 98, 121] := by
      have q := Array.mem_of_getElem? hc
      have e : (Str.ofString "&BYby").cps = #[38, 66, 89, 98, 121] := by decide
      rw [e] at q
      simpa using q
    have xy := hxy c hmem
    refine tk_any (s₀ := s) (h := h5) fun tk5' => ?_
    iterate 2 walk1
    rename_i h6 F6 N6
    refine tk_any (s₀ := s) (h := h6) fun tk6 => ?_
    have j1 := hJ (Str.ofString "x") (by decide)
    have j2 := hJ (Str.ofString "parts") (by decide)
    have j3 := hJ (Str.ofString "other") (by decide)
    have wb := xy_body (s := { s with heap := h6, toks := tk6 }) (w := w) (dp := dp) (un := un) (fr := fr) (gd := gd) (fl := fl) (cd := cd) (nw := nw ++ own) T X hd F6 N6 dW j1 rfl j2 j3 sw xy.e1 xy.e2 xy.e3 lw lo l0 l1 l2
    refine wpAny_mono wb (fun f s' h => TurnRead.turn0 ?_ rfl h) fun _ _ e => e
    intro z z1
    simp only [z1, if_false]
    exact hJ z z1
  · intro m₁ h5 tk5 hJ F5 N5
    refine tk_any (s₀ := s) (h := h5) fun tk5' => ?_
    refine wpAny_execs_nil ?_
    refine hret h5 _ m₁ F5 (fun p hp => N5 p (by
      rcases List.mem_cons.mp hp with h | h
      · rw [h]; exact .head _
      · exact .tail _ (.tail _ h))) fun z z1 z2 => ?_
    rw [hJ z z2]
    simp only [z1, if_false]
    rw [over_eq [(Str.ofString "x", .str (chr xc) tx), (Str.ofString "other", .str (wd o) to)] ⟨m1, m4, trivial⟩]
set_option maxRecDepth 100000 in
set_option maxHeartbeats 1000000 in
theorem law_xy {B : List Stmt} (hBB : fnBody 20 = B) {R : Flow → Shared → Prop} {hB : Heap} {L fl : Addr} {cd : Value} {m : Str → Option Value} {wdl o : List Nat} {tw to : Tok} {oW : Obj}
  (T : Top topProg LOOSE mean mg mb hB) (X : (Mine.hd.heap_39 w.params).In hB) (hd : dp + 15 < recursionLimit)
  (F : Fr hB L s.heap m) (h1 : m (Str.ofString "other") = some (.str (wd o) to)) (lw : wdl.length ≤ 40) (lo : o.length ≤ 40)
  (eW : s.heap.get? (L + 2) = some oW) (dW : oW.data = .cell (some (.str (wd wdl) tw))) (bW : hB.get? (L + 2) = none)
  (hxy : ∀ xc ∈ [38, 66, 89, 98, 121], ∃ p0 p1 p2 q0 q1 q2 : List Nat, Txt.split (wd o) (chr xc) = [wd p0, wd p1, wd p2] ∧ Txt.split (wd wdl) (chr xc) = [wd q0, wd q1, wd q2] ∧ p0.length ≤ 40 ∧ p1.length ≤ 40 ∧ p2.length ≤ 40 ∧ ∀ yc ∈ [38, 66, 89, 98, 121], XY wdl o q1 p0 p1 p2 xc yc)
  (hret : ∀ (h' : Heap) (tk' : Nat) (m' : Str → Option Value), Fr hB L h' m' → (∀ z, z ≠ Str.ofString "x" → z ≠ Str.ofString "y" → z ≠ Str.ofString "parts" → m' z = m z) → But s.heap [L] h' → R .next { s with heap := h', toks := tk' }) :
  wpAny (model PySem.Challenge.rw_wr0012_01.row.prog w) ((Ar dp un fr gd).deeper (lawEnv L fl cd)) (execs ((B.drop 10).take 1) (lawEnv L fl cd)) R (fun _ _ => False) s := by
  subst hBB
  revert X; k_fill; intro X
  conv in List.take _ _ => whnf
  obtain ⟨pl0, Npl0, hpb0, hpk0⟩ := ro_start F [L] (.head _)
  have L2 : @Ne Nat (L + 2) L := Nat.ne_of_gt (Nat.lt_add_of_pos_right (by decide))
  have N : News hB L s.heap ((L + 2, oW) :: pl0) := News.ins eW L2 bW Npl0
  clear Npl0
  w_on
  iterate 1 walk1
  refine For_turns F ?_
  iterate 1 walk1
  refine turns_str (fun i m₁ => ∀ z, z ≠ Str.ofString "x" → z ≠ Str.ofString "y" → z ≠ Str.ofString "parts" → m₁ z = m z) rfl F N (fun _ _ _ _ => rfl) ?_ ?_
  · intro i c u m₁ h5 tk5 own hc hJ F5 N5
    clear hret F N
    have hmem : c ∈ [38, 66, 89, 98, 121] := by
      have q := Array.mem_of_getElem? hc
      have e : (Str.ofString "&BYby").cps = #[38, 66, 89, 98, 121] := by decide
      rw [e] at q
      simpa using q
    have xq := hxy c hmem
    obtain ⟨p0, p1, p2, q0, q1, q2, sp, sw, l0, l1, l2, hy⟩ := xq
    refine tk_any (s₀ := s) (h := h5) fun tk5' => ?_
    iterate 2 walk1
    rename_i h6 F6 N6
    refine tk_any (s₀ := s) (h := h6) fun tk6 => ?_
    have j3 := hJ (Str.ofString "other") (by decide) (by decide) (by decide)
    rw [h1] at j3
    refine x_body (s := { s with heap := h6, toks := tk6 }) (nw := pl0 ++ own) T X hd F6 N6 dW rfl j3 sp sw lw lo l0 l1 l2 hy _ fun h7 tk7 m7 F7 N7 hm7 => ?_
    refine ⟨h7, tk7, m7, rfl, F7, N7, fun z z1 z2 z3 => ?_⟩
    rw [hm7 z z3 z2]
    simp only [z1, if_false]
    exact hJ z z1 z2 z3
  · intro m₁ h5 tk5 hJ F5 N5
    refine tk_any (s₀ := s) (h := h5) fun tk5' => ?_
    show wpAny _ _ (execs [] (lawEnv L fl cd)) _ _ _
    refine wpAny_execs_nil ?_
    exact hret h5 _ m₁ F5 hJ (hpk0 h5 F5.keep fun p hp => (N5 p (.tail _ hp)).1)
end Mine
end
section
open PySem PySem.W PyProof.Rows PySem.Spec Builtin Builtin.Str
namespace Mine
theorem starts_is (z p : List Nat) : Txt.startswith (wd z) (wd p) = true ↔ p <+: z := by
  have h := plP_iff (l := z) (p := p) (hi := z.length) (i := 0) (Nat.le_refl _) (Nat.zero_le _)
  rw [List.take_length, List.drop_zero] at h
  have e : Txt.startswith (wd z) (wd p) = plP z p z.length 0 := by
    unfold Txt.startswith plP
    rw [wd_length, wd_length]
  rw [e, h, List.isPrefixOf_iff_prefix]
theorem ends_is (z p : List Nat) : Txt.endswith (wd z) (wd p) = true ↔ p <:+ z := by
  unfold Txt.endswith
  rw [wd_length, wd_length, Nat.zero_add]
  by_cases hl : p.length ≤ z.length
  · have h := plP_iff (l := z) (p := p) (hi := z.length) (i := z.length - p.length) (Nat.le_refl _) (Nat.sub_le _ _)
    rw [List.take_length] at h
    have e : (decide (p.length ≤ z.length) && subAt (wd z) (wd p) (z.length - p.length)) = plP z p z.length (z.length - p.length) := by
      unfold plP
      rw [show z.length - p.length + p.length = z.length by omega]
      simp [hl]
    rw [e, h, List.isPrefixOf_iff_prefix, List.suffix_iff_eq_drop]
    constructor
    · intro q
      have := q.length_le
      exact q.eq_of_length (by rw [List.length_drop]; omega)
    · intro q; exact ⟨[], by rw [List.append_nil]; exact q⟩
  · have e : decide (p.length ≤ z.length) = false := by simp [hl]
    rw [e, Bool.false_and]
    constructor
    · intro h; cases h
    · intro h; exact absurd h.length_le hl
noncomputable def ellM : List (List Nat) → List Nat → Bool
  | [], _ => true
  | w :: ws, z => match findL w z with
    | none => false
    | some q => ellM ws q.2
theorem find4_is (l p : List Nat) (i e : Nat) (hi : i ≤ e) (he : e ≤ l.length) : find4 (wd l) (wd p) (i : Int) (e : Int) = match findL p ((l.take e).drop i) with
    | none => -1
    | some q => ((i + q.1.length : Nat) : Int) := by
  have f : ∀ k : Nat, fromIndex (wd l).length (k : Int) = k := fun k => by
    unfold fromIndex
    rw [if_neg (by omega)]
    omega
  unfold find4
  rw [f, f, wd_length, Nat.min_eq_left he]
  cases hf : findL p ((l.take e).drop i) with
  | none => rw [occ_none he hi hf]
  | some q => obtain ⟨a, r⟩ := q; rw [occ_one he hi hf]
theorem loop_is (l : List Nat) (e : Nat) (he : e ≤ l.length) : ∀ (ws : List (List Nat)) (i : Nat), i ≤ e → ellLoop (wd l) (e : Int) (ws.map wd) (i : Int) = ellM ws ((l.take e).drop i)
  | [], _, _ => rfl
  | p :: ws, i, hi => by
    rw [List.map_cons, ellLoop, find4_is l p i e hi he, ellM]
    cases hf : findL p ((l.take e).drop i) with
    | none => simp
    | some q =>
      obtain ⟨a, r⟩ := q
      have hs := findL_some hf
      have hlen := congrArg List.length hs
      simp only [List.length_drop, List.length_take, List.length_append, Nat.min_eq_left he] at hlen
      have hd : (l.take e).drop (i + a.length + p.length) = r := by
        rw [show i + a.length + p.length = i + (a.length + p.length) by omega, ← List.drop_drop, hs, ← List.append_assoc, List.drop_append]
        simp
      have hle : i + a.length + p.length ≤ e := by omega
      have ih := loop_is l e he ws (i + a.length + p.length) hle
      rw [hd] at ih
      have hn : ¬ (((i + a.length : Nat) : Int) < 0) := by omega
      simp only [wd_length]
      rw [if_neg hn, show ((i + a.length : Nat) : Int) + (p.length : Int) = ((i + a.length + p.length : Nat) : Int) by push_cast; rfl]
      exact ih
theorem ellM_nil (ws : List (List Nat)) (z : List Nat) : ellM ([] :: ws) z = ellM ws z := by
  cases z <;> rfl
theorem ellM_end : ∀ (ws : List (List Nat)) (z : List Nat), ellM (ws ++ [[]]) z = ellM ws z
  | [], z => by rw [List.nil_append, ellM_nil]
  | w :: ws, z => by
    rw [List.cons_append, ellM, ellM]
    cases findL w z with
    | none => rfl
    | some q => exact ellM_end ws q.2
noncomputable abbrev dt : List Nat := [46, 46, 46]
noncomputable def joinD : List (List Nat) → List Nat
  | [] => []
  | [p] => p
  | p :: q :: r => p ++ (dt ++ joinD (q :: r))
theorem splitL_join : ∀ (ps : List (List Nat)) (n : Nat), ps ≠ [] → (∀ p ∈ ps, 46 ∉ p) → ps.length ≤ n + 1 → splitL dt n (joinD ps) = ps
  | [], _, h, _, _ => absurd rfl h
  | [p], n, _, h, _ => by
    cases n with
    | zero => rfl
    | succ n =>
      have : findL dt p = none := findL_out (h p (.head _))
      simp [joinD, splitL, this]
  | p :: q :: r, 0, _, _, hl => by simp at hl
  | p :: q :: r, n + 1, _, h, hl => by
    have : findL dt (p ++ (dt ++ joinD (q :: r))) = some (p, joinD (q :: r)) := findL_free (p := [46, 46]) (h p (.head _)) _
    simp only [joinD, splitL, this]
    rw [splitL_join (q :: r) n (by simp) (fun p hp => h p (.tail _ hp)) (by simpa using hl)]
theorem joinD_len : ∀ (ps : List (List Nat)), ps.length ≤ (joinD ps).length + 1
  | [] => by simp
  | [p] => by simp
  | p :: q :: r => by
    have := joinD_len (q :: r)
    simp only [joinD, List.length_append, List.length_cons, List.length_nil] at this ⊢
    omega
theorem dots_is : dots = wd dt := by decide
theorem ell_iff (p0 : List Nat) (ms : List (List Nat)) (pl z : List Nat) (h0 : 46 ∉ p0) (hm : ∀ p ∈ ms, 46 ∉ p) (hl : 46 ∉ pl) :
    ellB (wd (joinD (p0 :: (ms ++ [pl])))) (wd z) = true ↔ p0 <+: z ∧ pl <:+ z ∧ p0.length + pl.length ≤ z.length ∧ ellM ms ((z.take (z.length - pl.length)).drop p0.length) = true := by
  have hno : ∀ p ∈ p0 :: (ms ++ [pl]), 46 ∉ p := by
    intro p hp
    simp only [List.mem_cons, List.mem_append, List.mem_nil_iff, or_false] at hp
    rcases hp with rfl | hp | rfl
    · exact h0
    · exact hm p hp
    · exact hl
  have hsp : Txt.split (wd (joinD (p0 :: (ms ++ [pl])))) dots = (p0 :: (ms ++ [pl])).map wd := by
    rw [dots_is, split_is _ _ (by decide) (by decide), splitL_join _ _ (by simp) hno]
    have := joinD_len (p0 :: (ms ++ [pl])); omega
  obtain ⟨q, r, hqr⟩ : ∃ q r, ms ++ [pl] = q :: r := by cases ms <;> simp
  have hocc : (occurrences (wd (joinD (p0 :: (ms ++ [pl])))) dots 0 (wd (joinD (p0 :: (ms ++ [pl])))).length 1).isEmpty = false := by
    have hf : findL dt (joinD (p0 :: (ms ++ [pl]))) = some (p0, joinD (q :: r)) := by
      rw [hqr]; exact findL_free (p := [46, 46]) h0 _
    rw [dots_is, wd_length, occ_one (a := p0) (r := joinD (q :: r)) (Nat.le_refl _) (Nat.zero_le _) (by rw [List.take_length, List.drop_zero]; exact hf)]
    rfl
  unfold ellB
  rw [if_neg (by rw [hocc]; simp), hsp]
  have hhead : ((p0 :: (ms ++ [pl])).map wd).headD Str.empty = wd p0 := rfl
  have hlast : ((p0 :: (ms ++ [pl])).map wd).getLastD Str.empty = wd pl := by
    rw [List.map_cons, List.map_append, List.map_cons, List.map_nil, List.getLastD_eq_getLast?, ← List.cons_append, List.getLast?_append]; rfl
  rw [hhead, hlast]
  have inner3 : ∀ (ws : List (List Nat)) (i e : Nat), e ≤ z.length → (ellR3 (wd z) (i : Int) (e : Int) (ws.map wd) = true ↔ i ≤ e ∧ ellM ws ((z.take e).drop i) = true) := by
    intro ws i e he
    unfold ellR3
    by_cases hie : i ≤ e
    · rw [if_neg (by omega), loop_is z e he ws i hie]
      simp [hie]
    · rw [if_pos (by omega)]; simp [hie]
  have inner2 : ∀ (ws : List (List Nat)) (i : Nat), (ellR2 (wd z) (i : Int) ((ws ++ [pl]).map wd) (wd pl) = true ↔ pl <:+ z ∧ i + pl.length ≤ z.length ∧ ellM ws ((z.take (z.length - pl.length)).drop i) = true) := by
    intro ws i
    unfold ellR2
    by_cases hp : pl = []
    · subst hp
      rw [if_pos (by rw [wd_length]; rfl)]
      have := inner3 (ws ++ [[]]) i z.length (Nat.le_refl _)
      rw [wd_length, this, ellM_end]
      simp
    · have hpl : (wd pl).length ≠ 0 := by rw [wd_length]; exact fun h => hp (List.eq_nil_of_length_eq_zero h)
      rw [if_neg hpl]
      by_cases hs : pl <:+ z
      · rw [if_pos ((ends_is z pl).mpr hs)]
        have hle := hs.length_le
        rw [List.map_append, List.map_cons, List.map_nil, List.dropLast_concat, wd_length, wd_length, show ((z.length : Nat) : Int) - (pl.length : Int) = ((z.length - pl.length : Nat) : Int) by omega, inner3 ws i _ (Nat.sub_le _ _)]
        constructor
        · rintro ⟨a, b⟩; exact ⟨hs, by omega, b⟩
        · rintro ⟨_, a, b⟩; exact ⟨by omega, b⟩
      · rw [if_neg (by rw [ends_is]; exact hs)]
        constructor
        · intro h; cases h
        · intro h; exact absurd h.1 hs
  unfold ellR1
  by_cases hp : p0 = []
  · subst hp
    rw [if_pos (by rw [wd_length]; rfl)]
    have := inner2 ([] :: ms) 0
    rw [List.cons_append] at this
    rw [show (0 : Int) = ((0 : Nat) : Int) from rfl, this, ellM_nil]
    simp
  · have hpl : (wd p0).length ≠ 0 := by rw [wd_length]; exact fun h => hp (List.eq_nil_of_length_eq_zero h)
    rw [if_neg hpl]
    by_cases hs : p0 <+: z
    · rw [if_pos ((starts_is z p0).mpr hs), List.map_cons, List.drop_succ_cons, List.drop_zero, wd_length]
      have := inner2 ms p0.length
      rw [this]
      simp [hs]
    · rw [if_neg (by rw [starts_is]; exact hs)]
      constructor
      · intro h; cases h
      · intro h; exact absurd h.1 hs
end Mine
end
section
open PySem PySem.W PyProof.Rows PySem.Spec Builtin Builtin.Str
namespace Mine
theorem ellM_singles : ∀ (cs z : List Nat), ellM (cs.map fun c => [c]) z = true ↔ cs.Sublist z
  | [], z => by simp [ellM]
  | c :: cs, z => by
    rw [List.map_cons, ellM]
    cases hf : findL [c] z with
    | none =>
      have hn := findL_no hf
      constructor
      · intro h; cases h
      · intro h; exact absurd (h.subset (.head _)) hn
    | some q =>
      obtain ⟨a, r⟩ := q
      have ha := findL_one hf
      have e : z = a ++ c :: r := by simpa using findL_some hf
      have ih := ellM_singles cs r
      rw [show (ellM (List.map (fun c => [c]) cs) (a, r).2 = true) = (ellM (List.map (fun c => [c]) cs) r = true) from rfl, ih, e]
      constructor
      · intro h; exact (h.cons_cons c).trans (List.sublist_append_right _ _)
      · intro h
        rw [List.sublist_append_iff] at h
        obtain ⟨l1, l2, e1, s1, s2⟩ := h
        cases l1 with
        | nil =>
          rw [List.nil_append] at e1
          subst e1
          rcases List.sublist_cons_iff.mp s2 with s | ⟨r', e', s⟩
          · exact (List.sublist_cons_self _ _).trans s
          · cases e'; exact s
        | cons d l1 =>
          rw [List.cons_append] at e1
          cases e1
          exact absurd (s1.subset (.head _)) ha
theorem found_iff {z : List Nat} {a b : Nat} (ha : a ≠ 46) (hb : b ≠ 46) : foundC z a b = true ↔ b < a ∧ [a, b, a].Sublist z := by
  unfold foundC
  have := ell_iff [] [[a], [b], [a]] [] z (by simp) (by simp [Ne.symm ha, Ne.symm hb]) (by simp)
  rw [Bool.and_eq_true, decide_eq_true_eq, show [46, 46, 46, a, 46, 46, 46, b, 46, 46, 46, a, 46, 46, 46] = joinD ([] :: ([[a], [b], [a]] ++ [[]])) from rfl, this]
  have e := ellM_singles [a, b, a] z
  simp only [List.map_cons, List.map_nil] at e
  simp [e]
theorem two_zero {la lb : List Nat} {cond : Nat → Nat → Bool} {i : Nat} (h : la.length ≤ i) : two la lb cond i ≠ 0 ↔ ∃ a ∈ la, ∃ b ∈ lb, cond a b = true := by
  unfold two
  rw [List.take_of_length_le h]
  constructor
  · intro q
    have hne : la.flatMap (fun a => lb.filter (cond a)) ≠ [] := fun e => q (by rw [e]; rfl)
    obtain ⟨x, hx⟩ := List.exists_mem_of_ne_nil _ hne
    rw [List.mem_flatMap] at hx
    obtain ⟨a, ha, hx⟩ := hx
    rw [List.mem_filter] at hx
    exact ⟨a, ha, x, hx.1, hx.2⟩
  · rintro ⟨a, ha, b, hb, hc⟩ q
    have : b ∈ la.flatMap (fun a => lb.filter (cond a)) := List.mem_flatMap.mpr ⟨a, ha, List.mem_filter.mpr ⟨hb, hc⟩⟩
    rw [List.eq_nil_of_length_eq_zero q] at this
    cases this
noncomputable def tau (i j k : Nat) : Nat := if k = i then j else if k = j then i else k
theorem tau_perm : ∀ i, i < 10 → ∀ j, j < 10 → ((List.range 10).map (tau i j)).Perm (List.range 10) := by decide +kernel
theorem swapped_perm {y : List Nat} (hy : y.length = 10) {i j : Nat} (hi : i < 10) (hj : j < 10) : (swapped y i j).Perm y := by
  have e : swapped y i j = ((List.range 10).map (tau i j)).map (fun k => y.getD k 0) := by
    unfold swapped
    rw [hy, List.map_map]
    refine List.map_congr_left fun k _ => ?_
    unfold swapAt tau
    simp only [Function.comp]
    split
    · rfl
    · split <;> rfl
  have e2 : (List.range 10).map (fun k => y.getD k 0) = y := by
    rw [← hy]
    exact List.ext_getElem (by simp) fun i h1 h2 => by simp [List.getD_eq_getElem?_getD, h2]
  have := (tau_perm i hi j hj).map (fun k => y.getD k 0)
  rw [← e, e2] at this
  exact this
noncomputable def Twice (z : List Nat) : Prop := ∀ d, z.count d = if d ∈ letL then 2 else 0
theorem Good.twice {t : Gap} (g : Good t) : Twice t.word := g.cnt
theorem Twice.perm {y z : List Nat} (h : Twice y) (p : z.Perm y) : Twice z := fun d => by rw [p.count_eq]; exact h d
theorem Twice.mem {z : List Nat} (h : Twice z) {d : Nat} : d ∈ z ↔ d ∈ letL := by
  rw [← List.count_pos_iff, h]
  split <;> simp_all
theorem Twice.fine {z : List Nat} (h : Twice z) : Fine z := ⟨fun q => by rw [h.mem] at q; simp [letL] at q, fun c => by rw [h]; split <;> omega⟩
theorem Twice.low {z : List Nat} (h : Twice z) : ∀ c ∈ z, c < 256 := fun c q => by
  rw [h.mem] at q
  simp only [letL, List.mem_cons, List.mem_nil_iff, or_false] at q
  omega
theorem Twice.no46 {z : List Nat} (h : Twice z) : 46 ∉ z := fun q => by rw [h.mem] at q; simp [letL] at q
theorem Twice.no39 {z : List Nat} (h : Twice z) : 39 ∉ z := fun q => by rw [h.mem] at q; simp [letL] at q
theorem bad_iff {z : List Nat} (h : Twice z) : Bad z ↔ ∃ a ∈ letL, ∃ b ∈ letL, foundC z a b = true := by
  have ne : ∀ a ∈ letL, a ≠ 46 := by decide
  constructor
  · rintro ⟨x, y, hxy, s⟩
    have hx : x ∈ letL := h.mem.mp (s.subset (by simp))
    have hy : y ∈ letL := h.mem.mp (s.subset (by simp))
    exact ⟨y, hy, x, hx, (found_iff (ne y hy) (ne x hx)).mpr ⟨hxy, s⟩⟩
  · rintro ⟨a, ha, b, hb, hc⟩
    have := (found_iff (ne a ha) (ne b hb)).mp hc
    exact ⟨b, a, this.1, this.2⟩
theorem cut_found {z : List Nat} (h : Twice z) {fs : List Value} (hf : fs.length = two letL letL (foundC z) 5) : cutN (z.length + 1) z = .none ↔ fs ≠ [] := by
  rw [cut_none _ z h.fine (Nat.lt_succ_self _)]
  have h1 : ¬ ∃ y, z.count y = 1 := by
    rintro ⟨y, q⟩
    rw [h] at q
    split at q <;> omega
  have h2 : fs ≠ [] ↔ two letL letL (foundC z) 5 ≠ 0 := by
    rw [← hf]
    constructor
    · intro q e; exact q (List.eq_nil_of_length_eq_zero e)
    · rintro q rfl; exact q rfl
  rw [h2, two_zero (by decide), ← bad_iff h]
  constructor
  · rintro (q | q)
    · exact absurd q h1
    · exact q
  · exact .inr
end Mine
end
section
open PySem PySem.W PyProof.Rows PySem.Spec Builtin Builtin.Str
namespace Mine
theorem lt_pre : ∀ (l : List Nat) (a : Nat) (r : List Nat), l < l ++ a :: r
  | [], a, r => by simp
  | b :: l, a, r => List.cons_lt_cons_iff.mpr (.inr ⟨rfl, lt_pre l a r⟩)
theorem not_pre : ∀ (l r : List Nat), ¬ (l ++ r < l)
  | [], r => by simp
  | b :: l, r => by
    rw [List.cons_append, List.cons_lt_cons_iff]
    rintro (h | ⟨_, h⟩)
    · exact Nat.lt_irrefl _ h
    · exact not_pre l r h
theorem coll_front {y : List Nat} (h : y.length = 10) : coll (Txt.slice (wd y) none (some 9)).cps.toList (wd y).cps.toList = -1 := by
  have e : Txt.slice (wd y) none (some 9) = wd (y.take 9) := slice_to_wd (k := 9) (by omega)
  rw [e]
  show coll (y.take 9) y = -1
  obtain ⟨a, ha⟩ : ∃ a, y.drop 9 = [a] := by
    have : (y.drop 9).length = 1 := by rw [List.length_drop, h]
    match hd : y.drop 9, this with
    | [a], _ => exact ⟨a, rfl⟩
  have hy : y = y.take 9 ++ [a] := by rw [← ha]; exact (List.take_append_drop 9 y).symm
  have h1 : y.take 9 < y := by
    have := lt_pre (y.take 9) a []
    rw [← hy] at this; exact this
  have h2 : ¬ (y < y.take 9) := by
    have := not_pre (y.take 9) [a]
    rw [← hy] at this; exact this
  simp [coll, h1, h2, b2i]
theorem yyy_is : (Str.ofString "yyy").cps.toList = [121, 121, 121] := by decide
theorem coll_yyy {y : List Nat} (h : y.length = 10) (ht : Twice y) : coll (Str.ofString "yyy").cps.toList (wd y).cps.toList = 1 := by
  rw [yyy_is]
  show coll [121, 121, 121] y = 1
  match y, h, ht with
  | a :: b :: c :: r, h, ht =>
    have le0 : ∀ d, d ∈ letL → d ≤ 121 := all_cons (by decide) (all_cons (by decide) (all_cons (by decide) (all_cons (by decide) (all_one (by decide)))))
    have le : ∀ d ∈ a :: b :: c :: r, d ≤ 121 := fun d hd => le0 d (ht.mem.mp hd)
    have ha := le a (by simp)
    have hb := le b (by simp)
    have hc := le c (by simp)
    have hn : ¬ (a = 121 ∧ b = 121 ∧ c = 121) := by
      rintro ⟨rfl, rfl, rfl⟩
      have := ht 121
      simp [List.count_cons, letL] at this
    have h1 : a :: b :: c :: r < [121, 121, 121] := by
      simp only [List.cons_lt_cons_iff]
      omega
    have h2 : ¬ ([121, 121, 121] < a :: b :: c :: r) := by
      simp only [List.cons_lt_cons_iff]
      omega
    simp only [coll, h1, h2, decide_true, decide_false]
    rfl
theorem dots_through {y : List Nat} (h46 : 46 ∉ y) {one : Nat} (ho : one ≤ y.length) : ellB (wd (y.take one ++ [46, 46, 46] ++ y.drop one)) (wd y) = true := by
  have := (ell_iff (y.take one) [] (y.drop one) y (fun q => h46 (List.mem_of_mem_take q)) (by simp) (fun q => h46 (List.mem_of_mem_drop q))).mpr
    ⟨List.take_prefix _ _, List.drop_suffix _ _, by rw [List.length_take, List.length_drop]; omega, rfl⟩
  simpa [joinD] using this
theorem dots_more {y : List Nat} (h46 : 46 ∉ y) {one : Nat} (ho : one < y.length) : ellB (wd (y.take (one + 1) ++ [46, 46, 46] ++ y.drop one)) (wd y) = false := by
  rw [Bool.eq_false_iff]
  intro q
  have := (ell_iff (y.take (one + 1)) [] (y.drop one) y (fun q => h46 (List.mem_of_mem_take q)) (by simp) (fun q => h46 (List.mem_of_mem_drop q))).mp (by simpa [joinD] using q)
  have h := this.2.2.1
  rw [List.length_take, List.length_drop] at h
  omega
theorem pre_const {c : Nat} : ∀ {y : List Nat}, y <+: c :: y → ∀ d ∈ y, d = c
  | [], _, d, h => by cases h
  | a :: y, h, d, hd => by
    rw [List.cons_prefix_cons] at h
    obtain ⟨rfl, h⟩ := h
    rcases List.mem_cons.mp hd with rfl | hd
    · rfl
    · exact pre_const h d hd
theorem dots_front {y : List Nat} (ht : Twice y) : ellB (wd (y ++ [46, 46, 46])) (wd ([121] ++ y)) = false := by
  rw [Bool.eq_false_iff]
  intro q
  have := (ell_iff y [] [] ([121] ++ y) ht.no46 (by simp) (by simp)).mp (by simpa [joinD] using q)
  have h38 : (38 : Nat) ∈ y := ht.mem.mpr (by decide)
  have := pre_const this.1 38 h38
  omega
theorem dots_back {y : List Nat} (ht : Twice y) : ellB (wd ([46, 46, 46] ++ y)) (wd (y ++ [121])) = false := by
  rw [Bool.eq_false_iff]
  intro q
  have := (ell_iff [] [] y (y ++ [121]) (by simp) (by simp) ht.no46).mp (by simpa [joinD] using q)
  have hs := this.2.1
  have hr := List.reverse_prefix.mpr hs
  rw [List.reverse_append] at hr
  have h38 : (38 : Nat) ∈ y := ht.mem.mpr (by decide)
  have := pre_const (c := 121) (y := y.reverse) hr 38 (by simpa using h38)
  omega
theorem plain_ell {a : List Nat} (h : 46 ∉ a) (y : List Nat) : ellB (wd a) (wd y) = (wd a == wd y) := by
  unfold ellB
  rw [if_pos]
  rw [dots_is, wd_length, occ_none (Nat.le_refl _) (Nat.zero_le _) (by rw [List.take_length, List.drop_zero]; exact findL_out h)]
  rfl
theorem occ_has (z p : List Nat) : (!(occurrences (wd z) (wd p) 0 (wd z).length 1).isEmpty) = (findL p z).isSome := by
  rw [wd_length]
  cases hf : findL p z with
  | none => rw [occ_none (Nat.le_refl _) (Nat.zero_le _) (by rw [List.take_length, List.drop_zero]; exact hf)]; rfl
  | some q =>
    obtain ⟨a, r⟩ := q
    rw [occ_one (a := a) (r := r) (Nat.le_refl _) (Nat.zero_le _) (by rw [List.take_length, List.drop_zero]; exact hf)]; rfl
theorem find_has {c : Nat} {z : List Nat} : (findL [c] z).isSome = true ↔ c ∈ z := by
  cases hf : findL [c] z with
  | none => simp [findL_no hf]
  | some q =>
    obtain ⟨a, r⟩ := q
    have := findL_some hf
    simp [this]
theorem mid_iff {x y : Nat} {q0 q1 q2 : List Nat} (h0 : x ∉ q0) (h1 : x ∉ q1) (h2 : x ∉ q2) : [x, y, x].Sublist (q0 ++ x :: (q1 ++ x :: q2)) ↔ y ∈ q1 := by
  constructor
  · intro s
    have s1 := head_right h0 s
    have s2 : [y, x].Sublist (q1 ++ x :: q2) := by
      rcases List.sublist_cons_iff.mp s1 with s | ⟨r, e, s⟩
      · exact (List.sublist_cons_self _ _).trans s
      · cases e; exact s
    rw [List.sublist_append_iff] at s2
    obtain ⟨l1, l2, e, t1, t2⟩ := s2
    match l1, l2, e with
    | [], l2, e =>
      rw [List.nil_append] at e
      rw [← e] at t2
      rcases List.sublist_cons_iff.mp t2 with s | ⟨r, e', s⟩
      · exact absurd (s.subset (by simp)) h2
      · cases e'; exact absurd (s.subset (by simp)) h2
    | [a], _, e =>
      simp at e
      rw [← e.1] at t1
      exact t1.subset (by simp)
    | a :: b :: r, _, e =>
      simp at e
      exact absurd (t1.subset (by simp [← e.2.1])) h1
  · intro h
    obtain ⟨u, v, e⟩ := List.append_of_mem h
    rw [e]
    show ([] ++ [x, y, x]).Sublist _
    refine List.Sublist.append (List.nil_sublist _) ?_
    refine List.Sublist.cons_cons x ?_
    rw [List.append_assoc, List.cons_append]
    show ([] ++ [y, x]).Sublist _
    refine List.Sublist.append (List.nil_sublist _) (List.Sublist.cons_cons y ?_)
    show ([] ++ [x]).Sublist _
    exact List.Sublist.append (List.nil_sublist _) (List.Sublist.cons_cons x (List.nil_sublist _))
theorem bool_eq {a b : Bool} (h : a = true ↔ b = true) : a = b := by cases a <;> cases b <;> simp_all
theorem xy_of {q0 q1 q2 p0 p1 p2 : List Nat} {x y : Nat} (hx : x ≠ 46) (hy : y ≠ 46) (h0 : x ∉ q0) (h1 : x ∉ q1) (h2 : x ∉ q2) (n0 : 46 ∉ p0) (n2 : 46 ∉ p2) :
    XY (q0 ++ x :: (q1 ++ x :: q2)) (p0 ++ x :: (p1 ++ x :: p2)) q1 p0 p1 p2 x y := by
  refine ⟨?_, ?_, ?_⟩
  · rw [show chr y = wd [y] from rfl, occ_has]
    refine bool_eq ?_
    rw [find_has]
    have := ell_iff [] [[x], [y], [x]] [] (q0 ++ x :: (q1 ++ x :: q2)) (by simp) (by simp [Ne.symm hx, Ne.symm hy]) (by simp)
    rw [show [46, 46, 46, x, 46, 46, 46, y, 46, 46, 46, x, 46, 46, 46] = joinD ([] :: ([[x], [y], [x]] ++ [[]])) from rfl, this]
    have e := ellM_singles [x, y, x] (q0 ++ x :: (q1 ++ x :: q2))
    simp only [List.map_cons, List.map_nil] at e
    rw [← mid_iff (y := y) h0 h1 h2]
    simp only [List.length_nil, Nat.sub_zero, List.take_length, List.drop_zero, e]
    simp
  · rw [show chr x ++ chr y = wd [x, y] from wd_append [x] [y], occ_has]
    refine bool_eq ?_
    generalize q0 ++ x :: (q1 ++ x :: q2) = z
    have := ell_iff [] [[x, y]] [] z (by simp) (by simp [Ne.symm hx, Ne.symm hy]) (by simp)
    rw [show [46, 46, 46, x, y, 46, 46, 46] = joinD ([] :: ([[x, y]] ++ [[]])) from rfl, this]
    simp only [List.length_nil, Nat.sub_zero, List.take_length, List.drop_zero, ellM]
    cases findL [x, y] z <;> simp
  · rw [show chr y = wd [y] from rfl, occ_has]
    refine bool_eq ?_
    have nx0 : 46 ∉ p0 ++ [x] := by simp [n0, Ne.symm hx]
    have nx2 : 46 ∉ x :: p2 := by simp [n2, Ne.symm hx]
    have := ell_iff (p0 ++ [x]) [[y]] (x :: p2) (p0 ++ x :: (p1 ++ x :: p2)) nx0 (by simp [Ne.symm hy]) nx2
    rw [show p0 ++ [x] ++ [46, 46, 46] ++ [y] ++ [46, 46, 46] ++ ([x] ++ p2) = joinD ((p0 ++ [x]) :: ([[y]] ++ [x :: p2])) by simp [joinD], this]
    have hz : p0 ++ x :: (p1 ++ x :: p2) = (p0 ++ [x]) ++ (p1 ++ x :: p2) := by simp
    have hz2 : p0 ++ x :: (p1 ++ x :: p2) = (p0 ++ x :: p1) ++ (x :: p2) := by simp
    have hmid : ((p0 ++ x :: (p1 ++ x :: p2)).take ((p0 ++ x :: (p1 ++ x :: p2)).length - (x :: p2).length)).drop (p0 ++ [x]).length = p1 := by
      have e1 : (p0 ++ x :: (p1 ++ x :: p2)).length - (x :: p2).length = (p0 ++ x :: p1).length := by simp; omega
      rw [e1, hz2, List.take_left, show p0 ++ x :: p1 = (p0 ++ [x]) ++ p1 by simp, List.drop_left]
    rw [hmid]
    have a1 : p0 ++ [x] <+: p0 ++ x :: (p1 ++ x :: p2) := by rw [hz]; exact List.prefix_append _ _
    have a2 : x :: p2 <:+ p0 ++ x :: (p1 ++ x :: p2) := by rw [hz2]; exact List.suffix_append _ _
    have a3 : (p0 ++ [x]).length + (x :: p2).length ≤ (p0 ++ x :: (p1 ++ x :: p2)).length := by simp; omega
    simp only [a1, a2, a3, true_and, ellM]
    cases findL [y] p1 <;> simp
theorem three_parts {z : List Nat} (h : Twice z) {x : Nat} (hx : x ∈ letL) : ∃ a m b, z = a ++ x :: (m ++ x :: b) ∧ x ∉ a ∧ x ∉ m ∧ x ∉ b ∧ Txt.split (wd z) (chr x) = [wd a, wd m, wd b] := by
  rcases pieces h.fine (h.mem.mpr hx) with ⟨a, r, e, ha, hr, _⟩ | ⟨a, m, b, e, ha, hm, hb, _, hs⟩
  · have := h x
    rw [if_pos hx, e, List.count_append, List.count_cons, List.count_eq_zero_of_not_mem ha, List.count_eq_zero_of_not_mem hr] at this
    simp at this
  · refine ⟨a, m, b, e, ha, hm, hb, ?_⟩
    have hlow := h.low x (h.mem.mpr hx)
    rw [show chr x = wd [x] from rfl, split_is z [x] (by simp) (by simpa using hlow), hs]
    rfl
theorem all_xy {y o : List Nat} (hy : Twice y) (ho : Twice o) (ly : y.length ≤ 40) (lo : o.length ≤ 40) :
    ∀ xc ∈ [38, 66, 89, 98, 121], ∃ p0 p1 p2 q0 q1 q2 : List Nat, Txt.split (wd o) (chr xc) = [wd p0, wd p1, wd p2] ∧ Txt.split (wd y) (chr xc) = [wd q0, wd q1, wd q2] ∧ p0.length ≤ 40 ∧ p1.length ≤ 40 ∧ p2.length ≤ 40 ∧ ∀ yc ∈ [38, 66, 89, 98, 121], XY y o q1 p0 p1 p2 xc yc := by
  intro xc hxc
  have ne : ∀ a ∈ letL, a ≠ 46 := by decide
  obtain ⟨p0, p1, p2, e1, a1, a2, a3, s1⟩ := three_parts ho hxc
  obtain ⟨q0, q1, q2, e2, b1, b2, b3, s2⟩ := three_parts hy hxc
  have n46 := ho.no46
  rw [e1] at n46
  simp only [List.mem_append, List.mem_cons, not_or] at n46
  have hl := congrArg List.length e1
  simp only [List.length_append, List.length_cons] at hl
  refine ⟨p0, p1, p2, q0, q1, q2, s1, s2, by omega, by omega, by omega, fun yc hyc => ?_⟩
  rw [e1, e2]
  exact xy_of (ne xc hxc) (ne yc hyc) b1 b2 b3 n46.1 n46.2.2.2.2
theorem tick_is : tick = wd [39] := by decide
theorem no_tick {y : List Nat} (h : 39 ∉ y) : (Txt.splitMax (wd y) tick 2).length ≤ 2 := by
  have e := splitMax_is y [39] (by decide) (by decide) 2 (by decide)
  rw [tick_is]
  refine Nat.le_trans (Nat.le_of_eq (congrArg List.length e)) ?_
  have : findL [39] y = none := findL_out h
  simp [splitL, this]
theorem four_tick {y o : List Nat} (z : List Nat) (h : 39 ∉ y) (ho : 39 ∉ o) : Txt.splitMax (wd (y ++ [39] ++ o ++ [39] ++ z ++ [39] ++ y)) tick 2 = [wd y, wd o, wd (z ++ [39] ++ y)] := by
  have e := splitMax_is (y ++ [39] ++ o ++ [39] ++ z ++ [39] ++ y) [39] (by decide) (by decide) 2 (by decide)
  rw [tick_is]
  refine e.trans ?_
  rw [show y ++ [39] ++ o ++ [39] ++ z ++ [39] ++ y = y ++ 39 :: (o ++ 39 :: (z ++ [39] ++ y)) by simp, splitL_two h ho]
  rfl
theorem lay_wd {y : List Nat} (h : ∀ c ∈ y, c < 256) : PyData.canLay0 (.str (wd y)) = true := by
  simpa [PyData.canLay0] using strOk_wd h
end Mine
end
section
open PySem PySem.W PyProof.Rows PySem.Spec PySem.Calls
namespace Mine
variable {w : World} {mg mb : Str → Option Value} {mean : ExcName → Option Value} {dp un : Nat} {fr : Option (List Env)} {gd : Option (List Code)} {s : Shared}
noncomputable abbrev badL (L : Addr) : List Addr := [L, 46, L + 2, L + 3]
theorem tree_hide {P : Params} {h : Heap} (bad : List Addr) {g : Addr} {t : Gap} (x : TreeH P h g t) (hl : ∀ b ∈ bad, ∀ l items, h.IsList l items → l ≠ b) (hd : ∀ b ∈ bad, ∀ d i c, AttrAt P h d i c → d ≠ b) : TreeH P (hideAll h bad) g t := by
  have kl : ∀ {l : Addr} {items : Array Value}, h.IsList l items → (hideAll h bad).IsList l items := fun {l items} x => by
    have hn : l ∉ bad := fun q => hl l q l items x rfl
    obtain ⟨o, e, r⟩ := x
    exact ⟨o, hideAll_get bad e hn, r⟩
  have kd : ∀ {d : Addr} {i : Int} {c : Nat}, AttrAt P h d i c → AttrAt P (hideAll h bad) d i c := fun {d i c} x => by
    have hn : d ∉ bad := fun q => hd d q d i c x rfl
    obtain ⟨q, n, t1, t2, t3, t4, e⟩ := x
    exact ⟨q, n, t1, t2, t3, t4, hideAll_get bad e hn⟩
  induction x with
  | leaf e => exact .leaf (kl e)
  | fork e e0 e1 e2 a0 a1 a2 _ _ _ i0 i1 i2 => exact .fork (kl e) (kl e0) (kl e1) (kl e2) (kd a0) (kd a1) (kd a2) i0 i1 i2
noncomputable def Odd (P : Params) (h : Heap) (b : Addr) : Prop := (∀ l items, h.IsList l items → l ≠ b) ∧ ∀ d i c, AttrAt P h d i c → d ≠ b
theorem Odd.cell {P : Params} {h : Heap} {b : Addr} {o : Obj} {v : Option Value} (e : h.get? b = some o) (d : o.data = .cell v) : Odd P h b :=
  ⟨fun l items ⟨o', e', _, _, d'⟩ q => (by rw [q, e] at e'; cases e'; rw [d] at d'; cases d'), fun _ i c ⟨_, _, _, _, _, _, e'⟩ q => (by rw [q, e] at e'; cases e'; cases d)⟩
theorem Odd.frame {prog : Program} {w : World} {h : Heap} {L : Addr} {m : Str → Option Value} {x : Str} {v : Value} (ns : h.Ns L m) (hm : m x = some v) (hx : x ≠ Str.ofString "limb" ∧ x ≠ Str.ofString "letter") : Odd w.params h L := by
  refine ⟨fun l items ⟨o', e', _, _, d'⟩ q => ?_, fun d i c ha q => ?_⟩
  · obtain ⟨o, es, ep, e, hd⟩ := ns_ob ns
    rw [q, e] at e'; cases e'; rw [hd] at d'; cases d'
  · obtain ⟨_, t2, t4, dd⟩ := dict_of_attr (prog := prog) ha
    refine ne_nsframe ns hm dd ?_ q
    have h1 : (Str.ofString "limb" == x) = false := beq_false_of_ne (Ne.symm hx.1)
    have h2 : (Str.ofString "letter" == x) = false := beq_false_of_ne (Ne.symm hx.2)
    simp [valueAt, h1, h2, Ne.symm hx.1, Ne.symm hx.2]
theorem tree_bad {P : Params} {h : Heap} {bad : List Addr} {g : Addr} {t : Gap} (x : TreeH P h g t) (ho : ∀ b ∈ bad, Odd P h b) : TreeH P (hideAll h bad) g t := tree_hide bad x (fun b hb => (ho b hb).1) fun b hb => (ho b hb).2
theorem hide_sub {h : Heap} {as bs : List Addr} (k : ∀ a ∈ bs, a ∈ as) : (hideAll h as).StaysIn (hideAll h bs) := fun b o e => by
  by_cases hb : b ∈ as
  · rw [hideAll_none as hb] at e; cases e
  · exact hideAll_get bs (of_hideAll as e) fun q => hb (k _ q)
theorem off46 {L : Nat} (k : Nat) (hk : 0 < k) (h : 46 < L) : L + k ∉ [L, 46] := by simp only [List.mem_cons, List.mem_nil_iff, or_false]; omega
structure LS (w : World) (hB : Heap) (L : Addr) (t1 t2 : Gap) (z : List Nat) (tl tu : Addr) (one : Nat) (h : Heap) (m : Str → Option Value) : Prop where
  F : Fr hB L h m
  top : m (Str.ofString "top") = some (.ref tl)
  turned : m (Str.ofString "turned") = some (.ref tu)
  other : ∃ to, m (Str.ofString "other") = some (.str (wd t2.word) to)
  one : ∃ u, m (Str.ofString "one") = some (.int one u)
  W : ∃ oW tw, h.get? (L + 2) = some oW ∧ oW.data = .cell (some (.str (wd t1.word) tw))
  S : ∃ oS tz, h.get? (L + 3) = some oS ∧ oS.data = .cell (some (.str (wd z) tz))
  x1 : TreeH w.params (hideAll h (badL L)) tl t1
  x2 : TreeH w.params (hideAll h (badL L)) tu t2
  P : ParTab h
theorem LS.t1 {hB h : Heap} {L tl tu : Addr} {t1 t2 : Gap} {z : List Nat} {one : Nat} {m : Str → Option Value} (x : LS w hB L t1 t2 z tl tu one h m) : TreeH w.params (hideAll h [L]) tl t1 := x.x1.keeps (hide_sub (by simp))
theorem LS.t2 {hB h : Heap} {L tl tu : Addr} {t1 t2 : Gap} {z : List Nat} {one : Nat} {m : Str → Option Value} (x : LS w hB L t1 t2 z tl tu one h m) : TreeH w.params (hideAll h [L]) tu t2 := x.x2.keeps (hide_sub (by simp))
theorem LS.step46 {hB h h' : Heap} {L tl tu : Addr} {t1 t2 : Gap} {z : List Nat} {one : Nat} {m m' : Str → Option Value} (x : LS w hB L t1 t2 z tl tu one h m) (L46 : @LT.lt Nat _ 46 L) (F' : Fr hB L h' m') (b : But h [L, 46] h') (P' : ParTab h')
    (hm : ∀ q ∈ [Str.ofString "top", Str.ofString "turned", Str.ofString "other", Str.ofString "one"], m' q = m q) : LS w hB L t1 t2 z tl tu one h' m' := by
  have n2 := off46 2 (by decide) L46
  have n3 := off46 3 (by decide) L46
  have bb : (hideAll h (badL L)).StaysIn (hideAll h' (badL L)) := (b.wider (by simp)).hide
  obtain ⟨oW, tw, e1, e2⟩ := x.W
  obtain ⟨oS, tz, e3, e4⟩ := x.S
  exact ⟨F', by rw [hm _ (by simp)]; exact x.top, by rw [hm _ (by simp)]; exact x.turned, by rw [hm _ (by simp)]; exact x.other, by rw [hm _ (by simp)]; exact x.one,
    ⟨oW, tw, b.get e1 n2, e2⟩, ⟨oS, tz, b.get e3 n3, e4⟩, x.x1.keeps bb, x.x2.keeps bb, P'⟩
theorem LS.step {hB h h' : Heap} {L tl tu : Addr} {t1 t2 : Gap} {z : List Nat} {one : Nat} {m m' : Str → Option Value} (x : LS w hB L t1 t2 z tl tu one h m) (L46 : @LT.lt Nat _ 46 L) (F' : Fr hB L h' m') (b : But h [L] h')
    (hm : ∀ q ∈ [Str.ofString "top", Str.ofString "turned", Str.ofString "other", Str.ofString "one"], m' q = m q) : LS w hB L t1 t2 z tl tu one h' m' :=
  x.step46 L46 F' (b.wider (by simp)) (x.P.butL x.F.ns b) hm
inductive LT (w : World) (hB : Heap) (L : Addr) (t1 t2 : Gap) (z : List Nat) (tl tu : Addr) (one : Nat) (s s' : Shared) : Prop where
  | mk (h' : Heap) (tk' : Nat) (m' : Str → Option Value) (c0 : s' = { s with heap := h', toks := tk' }) (c1 : LS w hB L t1 t2 z tl tu one h' m')
inductive LTf (w : World) (hB : Heap) (L : Addr) (t1 t2 : Gap) (z : List Nat) (tl tu : Addr) (one : Nat) (s : Shared) (s' : Shared) : Prop where
  | mk (h' : Heap) (tk' : Nat) (m' : Str → Option Value) (fo : Addr) (fs : List Value) (ep : Nat) (c0 : s' = { s with heap := h', toks := tk' }) (c1 : LS w hB L t1 t2 z tl tu one h' m') (c2 : m' (Str.ofString "found") = some (.ref fo)) (c3 : h'.get? fo = some (lst fs ep)) (c4 : hB.get? fo = none) (c5 : fs.length = two letL letL (foundC z) 5)
theorem chain {R : Flow → Shared → Prop} {B : List Stmt} {L fl : Addr} {cd : Value} {k : Nat} (k' : Nat) (Mid : Shared → Prop)
  (h1 : wpAny (model PySem.Challenge.rw_wr0012_01.row.prog w) ((Ar dp un fr gd).deeper (lawEnv L fl cd)) (execs ((B.drop k).take 1) (lawEnv L fl cd)) (fun f s' => match f with | .next => Hold (Mid s') | f => R f s') (fun _ _ => False) s)
  (h2 : ∀ s', Mid s' → wpAny (model PySem.Challenge.rw_wr0012_01.row.prog w) ((Ar dp un fr gd).deeper (lawEnv L fl cd)) (execs (B.drop k') (lawEnv L fl cd)) R (fun _ _ => False) s') (hk : k + 1 = k' := by rfl) :
  wpAny (model PySem.Challenge.rw_wr0012_01.row.prog w) ((Ar dp un fr gd).deeper (lawEnv L fl cd)) (execs (B.drop k) (lawEnv L fl cd)) R (fun _ _ => False) s :=
  execs_cut_at 1 Mid h1 (by rw [List.drop_drop, hk]; exact h2)
set_option maxHeartbeats 4000000 in
theorem law_tail {R : Flow → Shared → Prop} {hB : Heap} {L fl tl tu : Addr} {cd : Value} {m : Str → Option Value} {t1 t2 : Gap} {z : List Nat} {one : Nat} {h : Heap} {tk : Nat}
  (T : Top topProg LOOSE mean mg mb hB) (X : (Mine.hd.heap_39 w.params).In hB) (C : CodeHd hB 50 46) (hB46 : hB.get? 46 = none) (hd : dp + 120 < recursionLimit) (hu : un + 400 < cLine) (L46 : @LT.lt Nat _ 46 L)
  (g1 : Good t1) (g2 : Good t2) (hz : Twice z) (lz : z.length = 10) (hone : one < 10) (B2 : hB.get? (L + 2) = none) (B3 : hB.get? (L + 3) = none)
  (x : LS w hB L t1 t2 z tl tu one h m)
  (hret : ∀ (h' : Heap) (tk' : Nat), hB.StaysIn h' → ParTab h' → R (.ret (.bool true)) { s with heap := h', toks := tk' }) :
  wpAny (model PySem.Challenge.rw_wr0012_01.row.prog w) ((Ar dp un fr gd).deeper (lawEnv L fl cd)) (execs ((fnBody 20).drop 7) (lawEnv L fl cd)) R (fun _ _ => False) { s with heap := h, toks := tk } := by
  generalize hBB : fnBody 20 = B
  have hh1 : t1.high ≤ 5 := by have := Gap.high_le t1; rw [g1.size] at this; exact this
  have hh2 : t2.high ≤ 5 := by have := Gap.high_le t2; rw [g2.size] at this; exact this
  have len1 := g1.len
  have len2 := g2.len
  have tw1 := g1.twice
  have tw2 := g2.twice
  obtain ⟨oW, tw, eW, dW⟩ := x.W
  refine chain 8 (LT w hB L t1 t2 z tl tu one s)
    (law_spells hBB (s := { s with heap := h, toks := tk }) T X (by omega) (by omega) x.F x.top x.t1 (by rw [g1.size]; decide) eW dW B2 (coll_front len1) (coll_self _) (coll_yyy len1 tw1)
      fun h' tk' F' b => .intro ⟨h', tk', m, rfl, x.step L46 F' b fun _ _ => rfl⟩) ?_
  clear x eW dW
  rintro _ ⟨h, tk, m, rfl, x⟩
  obtain ⟨u1, e1⟩ := x.one
  refine chain 9 (LT w hB L t1 t2 z tl tu one s)
    (law_apart hBB (s := { s with heap := h, toks := tk }) T X C hB46 (by omega) (by omega) L46 x.F x.P e1
      fun h' tk' F' P' b => .intro ⟨h', tk', m, rfl, x.step46 L46 F' b P' fun _ _ => rfl⟩) ?_
  clear x e1
  rintro _ ⟨h, tk, m, rfl, x⟩
  obtain ⟨oW, tw, eW, dW⟩ := x.W
  obtain ⟨to, eo⟩ := x.other
  refine chain 10 (LT w hB L t1 t2 z tl tu one s)
    (law_rows hBB (s := { s with heap := h, toks := tk }) T X hu x.F x.top x.turned eo x.t1 x.t2 (g1.rowOK (by omega)) (g2.rowOK (by omega)) eW dW B2
      fun h' tk' m' F' hm b => .intro ⟨h', tk', m', rfl, x.step L46 F' b fun q hq => hm q (by revert q; decide)⟩) ?_
  clear x eW dW eo
  rintro _ ⟨h, tk, m, rfl, x⟩
  obtain ⟨oW, tw, eW, dW⟩ := x.W
  obtain ⟨to, eo⟩ := x.other
  refine chain 11 (LT w hB L t1 t2 z tl tu one s)
    (law_xy hBB (s := { s with heap := h, toks := tk }) T X (by omega) x.F eo (by omega) (by omega) eW dW B2 (all_xy tw1 tw2 (by omega) (by omega))
      fun h' tk' m' F' hm b => .intro ⟨h', tk', m', rfl, x.step L46 F' b fun q hq => hm q (by revert q; decide) (by revert q; decide) (by revert q; decide)⟩) ?_
  clear x eW dW eo
  rintro _ ⟨h, tk, m, rfl, x⟩
  obtain ⟨oS, tz, eS, dS⟩ := x.S
  refine chain 12 (LTf w hB L t1 t2 z tl tu one s)
    (law_found hBB (s := { s with heap := h, toks := tk }) T X (by omega) (by omega) x.F (by omega) eS dS
      fun h' tk' D fs ep F' b a1 a2 a3 => .intro ⟨h', tk', _, D, fs, ep, rfl, x.step L46 F' b fun q hq => if_neg (by revert q; decide), if_pos rfl, a2, a1, a3⟩) ?_
  clear x eS dS
  rintro _ ⟨h, tk, m, fo, fs, ep, rfl, x, ef, eF, bF, hfs⟩
  obtain ⟨oS, tz, eS, dS⟩ := x.S
  refine chain 13 (LT w hB L t1 t2 z tl tu one s)
    (law_same hBB (s := { s with heap := h, toks := tk }) T X (by omega) hu x.F ef (by omega) hz.fine hz.low eS dS B3 eF bF (cut_found hz hfs)
      fun h' tk' F' b => .intro ⟨h', tk', m, rfl, x.step L46 F' b fun _ _ => rfl⟩) ?_
  clear x eS dS ef eF bF hfs
  rintro _ ⟨h, tk, m, rfl, x⟩
  obtain ⟨oW, tw, eW, dW⟩ := x.W
  obtain ⟨u1, e1⟩ := x.one
  refine chain 14 (LT w hB L t1 t2 z tl tu one s)
    (law_dots hBB (s := { s with heap := h, toks := tk }) T X (by omega) x.F e1 (by omega) (by omega) eW dW B2 (dots_through tw1.no46 (by omega))
      fun h' tk' F' b => .intro ⟨h', tk', m, rfl, x.step L46 F' b fun _ _ => rfl⟩) ?_
  clear x eW dW e1
  rintro _ ⟨h, tk, m, rfl, x⟩
  obtain ⟨oW, tw, eW, dW⟩ := x.W
  obtain ⟨u1, e1⟩ := x.one
  refine chain 15 (LT w hB L t1 t2 z tl tu one s)
    (law_wants hBB (s := { s with heap := h, toks := tk }) T X (by omega) x.F e1 (by omega) (by omega) eW dW B2 (dots_more tw1.no46 (by omega)) (dots_front tw1) (dots_back tw1)
      fun h' tk' m' F' hm b => .intro ⟨h', tk', m', rfl, x.step L46 F' b fun q hq => hm q (by revert q; decide) (by revert q; decide)⟩) ?_
  clear x eW dW e1
  rintro _ ⟨h, tk, m, rfl, x⟩
  obtain ⟨oW, tw, eW, dW⟩ := x.W
  obtain ⟨oS, tz, eS, dS⟩ := x.S
  obtain ⟨to, eo⟩ := x.other
  have he : ∀ a ∈ [t1.word, t2.word, z, t1.word.take 9, [121] ++ t1.word], ellB (wd a) (wd t1.word) = (wd a == wd t1.word) := by
    intro a ha
    refine plain_ell ?_ _
    revert a ha
    exact all_cons tw1.no46 (all_cons tw2.no46 (all_cons hz.no46 (all_cons (fun q => tw1.no46 (List.mem_of_mem_take q)) (all_one (nm_cons (by decide) tw1.no46)))))
  refine chain 16 (LT w hB L t1 t2 z tl tu one s)
    (law_texts hBB (s := { s with heap := h, toks := tk }) T X (by omega) x.F eo (by omega) (by omega) (by omega) (by omega) eW dW B2 eS dS B3 he
      fun h' tk' m' F' hm b => .intro ⟨h', tk', m', rfl, x.step L46 F' b fun q hq => hm q (by revert q; decide)⟩) ?_
  clear x eW dW eS dS eo
  rintro _ ⟨h, tk, m, rfl, x⟩
  obtain ⟨oW, tw, eW, dW⟩ := x.W
  obtain ⟨oS, tz, eS, dS⟩ := x.S
  obtain ⟨to, eo⟩ := x.other
  have lzy : ∀ c ∈ z ++ [39] ++ t1.word, c < 256 := by
    intro c hc
    simp only [List.mem_append, List.mem_singleton] at hc
    rcases hc with (hc | rfl) | hc
    · exact hz.low c hc
    · decide
    · exact tw1.low c hc
  refine law_last hBB (s := { s with heap := h, toks := tk }) T X (by omega) (by omega) x.F eo (by omega) (by omega) (by omega) eW dW B2 eS dS B3 (lay_wd tw1.low) (lay_wd tw2.low) (lay_wd lzy) (no_tick tw1.no39) (four_tick z tw1.no39 tw2.no39) ?_
  intro h' tk' b st
  exact hret h' tk' st (x.P.butL x.F.ns b)
end Mine
end
section
open PySem PySem.W PyProof.Rows PySem.Spec PySem.Calls
namespace Mine
variable {w : World} {mg mb : Str → Option Value} {mean : ExcName → Option Value} {dp un : Nat} {fr : Option (List Env)} {gd : Option (List Code)} {s : Shared}
theorem ord_perm {q : Nat} (h : q < 6) : Perm3 (ordOf q) := by
  revert q; unfold Perm3; decide
theorem But.of {h h' : Heap} {bad : List Addr} (k : ∀ b o, b ∉ bad → h.get? b = some o → h'.get? b = some o) : But h bad h' := fun b o e => by
  by_cases hb : b ∈ bad
  · rw [hideAll_none bad hb] at e; cases e
  · exact k b o hb (of_hideAll bad e)
theorem ne_k {L : Nat} (h : 46 < L) (k j : Nat) (hkj : k ≠ j) : L + k ≠ L + j ∧ L + k ≠ 46 := by omega
theorem tree_to_bad {hB h : Heap} {L g : Addr} {t : Gap} {m : Str → Option Value} {v : Value} {o2 o3 : Obj} {v2 v3 : Option Value} (L46 : @LT.lt Nat _ 46 L) (x : TreeH w.params (hideAll h [46]) g t) (F : Fr hB L h m) (hm : m (Str.ofString "top") = some v)
    (e2 : h.get? (L + 2) = some o2) (d2 : o2.data = .cell v2) (e3 : h.get? (L + 3) = some o3) (d3 : o3.data = .cell v3) : TreeH w.params (hideAll h (badL L)) g t := by
  have n246 : (L + 2 : Addr) ∉ [(46 : Addr)] := by simpa using (ne_k L46 2 0 (by decide)).2
  have n346 : (L + 3 : Addr) ∉ [(46 : Addr)] := by simpa using (ne_k L46 3 0 (by decide)).2
  have nL46 : (L : Addr) ∉ [(46 : Addr)] := by simpa using Nat.ne_of_gt L46
  have oL : Odd w.params (hideAll h [46]) L := Odd.frame (prog := PySem.Challenge.rw_wr0012_01.row.prog) (F.ns.at' fun o e => hideAll_get [46] e nL46) hm (by decide)
  have o2' : Odd w.params (hideAll h [46]) (L + 2) := Odd.cell (hideAll_get [46] e2 n246) d2
  have o3' : Odd w.params (hideAll h [46]) (L + 3) := Odd.cell (hideAll_get [46] e3 n346) d3
  have x' := tree_bad (bad := [L, L + 2, L + 3]) x (fun b hb => by
    rcases List.mem_cons.mp hb with q | hb
    · rw [q]; exact oL
    · rcases List.mem_cons.mp hb with q | hb
      · rw [q]; exact o2'
      · rw [List.mem_singleton.mp hb]; exact o3')
  refine x'.keeps fun b o e => ?_
  by_cases hb : b ∈ [L, L + 2, L + 3]
  · rw [hideAll_none _ hb] at e; cases e
  · have e' := of_hideAll _ e
    by_cases h46 : b ∈ [(46 : Addr)]
    · rw [hideAll_none _ h46] at e'; cases e'
    · refine hideAll_get _ (of_hideAll _ e') ?_
      simp only [List.mem_cons, List.mem_nil_iff, or_false, not_or] at hb h46 ⊢
      exact ⟨hb.1, h46, hb.2.1, hb.2.2⟩
theorem tree_keep {P : Params} {h h' : Heap} {L g : Addr} {t : Gap} (x : TreeH P (hideAll h (badL L)) g t) (k : ∀ b o, b ≠ L → h.get? b = some o → h'.get? b = some o) : TreeH P (hideAll h' (badL L)) g t := by
  have b : But h (badL L) h' := But.of fun b o hb e => k b o (fun q => hb (by rw [q]; exact .head _)) e
  exact x.keeps b.hide
theorem tree_keep46 {P : Params} {h h' : Heap} {L g : Addr} {t : Gap} (x : TreeH P (hideAll h (badL L)) g t) (k : ∀ b o, b ≠ L → b ≠ 46 → h.get? b = some o → h'.get? b = some o) : TreeH P (hideAll h' (badL L)) g t := by
  have b : But h (badL L) h' := But.of fun b o hb e => k b o (fun q => hb (by rw [q]; exact .head _)) (fun q => hb (by rw [q]; exact .tail _ (.head _))) e
  exact x.keeps b.hide
theorem tree_but {P : Params} {h h' : Heap} {L g : Addr} {t : Gap} (x : TreeH P (hideAll h (badL L)) g t) (b : But h [L] h') : TreeH P (hideAll h' (badL L)) g t := by
  have b' : But h (badL L) h' := b.wider (by simp)
  exact x.keeps b'.hide
theorem spoilt_LS {hB h h' : Heap} {L tl tu : Addr} {t1 t2 : Gap} {z : List Nat} {one : Nat} {m : Str → Option Value} {oW o3 oS : Obj} {tw u : Tok} {v3 : Option Value} (L46 : @LT.lt Nat _ 46 L) (F : Fr hB L h m) (F' : Fr hB L h' m) (P : ParTab h)
    (f1 : m (Str.ofString "top") = some (.ref tl)) (f2 : m (Str.ofString "turned") = some (.ref tu)) (f3 : ∃ to, m (Str.ofString "other") = some (.str (wd t2.word) to)) (f4 : ∃ u, m (Str.ofString "one") = some (.int one u))
    (e2 : h.get? (L + 2) = some oW) (dW : oW.data = .cell (some (.str (wd t1.word) tw))) (e3 : h.get? (L + 3) = some o3) (d3 : o3.data = .cell v3) (e3' : h'.get? (L + 3) = some oS) (d3' : oS.data = .cell (some (.str (wd z) u)))
    (x1 : TreeH w.params (hideAll h (badL L)) tl t1) (x2 : TreeH w.params (hideAll h (badL L)) tu t2) (b : But h [L, L + 3] h') : LS w hB L t1 t2 z tl tu one h' m := by
  have b' : But h (badL L) h' := b.wider (by simp)
  have n2 : (L + 2 : Addr) ∉ [L, L + 3] := by
    intro hm
    rcases List.mem_cons.mp hm with q | q
    · exact absurd q (Nat.ne_of_gt (Nat.lt_add_of_pos_right (by decide)))
    · exact absurd (List.mem_singleton.mp q) (ne_k L46 2 3 (by decide)).1
  have P' : ParTab h' := by
    obtain ⟨oL, es, ep, eL, dL⟩ := ns_ob F.ns
    refine P.rest [L, L + 3] (fun c hc ob e => ?_) fun c o hc e => b.get e hc
    · rcases List.mem_cons.mp hc with q | q
      · rw [q] at e
        have : Option.some ob = Option.some oL := e.symm.trans eL
        cases this; exact plain_dict dL
      · rw [List.mem_singleton.mp q] at e
        have : Option.some ob = Option.some o3 := e.symm.trans e3
        cases this; exact plain_cell d3
  exact ⟨F', f1, f2, f3, f4, ⟨oW, tw, b.get e2 n2, dW⟩, ⟨oS, u, e3', d3'⟩, x1.keeps b'.hide, x2.keeps b'.hide, P'⟩
inductive LX0 (hB : Heap) (L : Addr) (s : Shared) (m : Str → Option Value) (o2 o3 : Obj) (s' : Shared) : Prop where
  | mk (h' : Heap) (tk' : Nat) (D : Addr) (ep : Nat) (ks : List (Int × Tok)) (c0 : s' = { s with heap := h', toks := tk' }) (c1 : Fr hB L h' (fun z => if z = Str.ofString "numbers" then some (.ref D) else m z)) (c2 : h'.get? D = some (lst (ks.map fun p => Value.int p.1 p.2) ep)) (c3 : hB.get? D = none) (c4 : ks.length = 6) (c5 : (∀ p ∈ ks, 0 ≤ p.1 ∧ p.1 < 1000000)) (c6 : ParTab h') (c7 : h'.get? (L + 2) = some o2) (c8 : h'.get? (L + 3) = some o3)
inductive LX1 (w : World) (hB : Heap) (L : Addr) (s : Shared) (m : Str → Option Value) (o3 : Obj) (D : Addr) (ep : Nat) (ks : List (Int × Tok)) (s' : Shared) : Prop where
  | mk (h' : Heap) (tk' : Nat) (tl : Addr) (tw : Tok) (oW' : Obj) (t : Gap) (c0 : s' = { s with heap := h', toks := tk' }) (c1 : Good t) (c2 : Fr hB L h' (fun z => if z = Str.ofString "top" then some (.ref tl) else if z = Str.ofString "numbers" then some (.ref D) else m z)) (c3 : h'.get? (L + 2) = some oW') (c4 : oW'.data = .cell (some (.str (wd t.word) tw))) (c5 : ParTab h') (c6 : TreeH w.params (hideAll h' [46]) tl t) (c7 : h'.get? D = some (lst (ks.map fun p => Value.int p.1 p.2) ep)) (c8 : h'.get? (L + 3) = some o3)
inductive LX2 (w : World) (hB : Heap) (L : Addr) (s : Shared) (m : Str → Option Value) (o3 : Obj) (D : Addr) (ep : Nat) (ks : List (Int × Tok)) (tl : Addr) (t : Gap) (oW : Obj) (s' : Shared) : Prop where
  | mk (h' : Heap) (tk' : Nat) (to : Addr) (c0 : s' = { s with heap := h', toks := tk' }) (c1 : Fr hB L h' (fun z => if z = Str.ofString "orders" then some (.ref to) else if z = Str.ofString "top" then some (.ref tl) else if z = Str.ofString "numbers" then some (.ref D) else m z)) (c2 : h'.get? (L + 2) = some oW) (c3 : ParTab h') (c4 : OrdersAt (hideAll h' [46]) to) (c5 : TreeH w.params (hideAll h' (badL L)) tl t) (c6 : h'.get? D = some (lst (ks.map fun p => Value.int p.1 p.2) ep)) (c7 : h'.get? (L + 3) = some o3)
inductive LX3 (w : World) (hB : Heap) (L : Addr) (s : Shared) (m : Str → Option Value) (o3 : Obj) (D : Addr) (ep : Nat) (ks : List (Int × Tok)) (tl : Addr) (t : Gap) (oW : Obj) (to : Addr) (s' : Shared) : Prop where
  | mk (h' : Heap) (tk' : Nat) (tu : Addr) (q : Nat) (c0 : s' = { s with heap := h', toks := tk' }) (c1 : q < 6) (c2 : Fr hB L h' (fun z => if z = Str.ofString "turned" then some (.ref tu) else if z = Str.ofString "orders" then some (.ref to) else if z = Str.ofString "top" then some (.ref tl) else if z = Str.ofString "numbers" then some (.ref D) else m z)) (c3 : h'.get? (L + 2) = some oW) (c4 : ParTab h') (c5 : TreeH w.params (hideAll h' [46]) tu (t.turn (ordOf q))) (c6 : TreeH w.params (hideAll h' (badL L)) tl t) (c7 : h'.get? D = some (lst (ks.map fun p => Value.int p.1 p.2) ep)) (c8 : h'.get? (L + 3) = some o3)
inductive LX4 (w : World) (hB : Heap) (L : Addr) (s : Shared) (o3 : Obj) (D : Addr) (ep : Nat) (ks : List (Int × Tok)) (tl tu : Addr) (t t2 : Gap) (oW : Obj) (s' : Shared) : Prop where
  | mk (h' : Heap) (tk' : Nat) (m' : Str → Option Value) (uo : Tok) (c0 : s' = { s with heap := h', toks := tk' }) (c1 : Fr hB L h' m') (c2 : m' (Str.ofString "top") = some (.ref tl)) (c3 : m' (Str.ofString "turned") = some (.ref tu)) (c4 : m' (Str.ofString "numbers") = some (.ref D)) (c5 : m' (Str.ofString "other") = some (.str (wd t2.word) uo)) (c6 : h'.get? (L + 2) = some oW) (c7 : ParTab h') (c8 : TreeH w.params (hideAll h' (badL L)) tu t2) (c9 : TreeH w.params (hideAll h' (badL L)) tl t) (c10 : h'.get? D = some (lst (ks.map fun p => Value.int p.1 p.2) ep)) (c11 : h'.get? (L + 3) = some o3)
inductive LX5 (w : World) (hB : Heap) (L : Addr) (s : Shared) (o3 : Obj) (tl tu : Addr) (t t2 : Gap) (oW : Obj) (uo : Tok) (s' : Shared) : Prop where
  | mk (h' : Heap) (tk' : Nat) (m' : Str → Option Value) (one two : Nat) (u1 u2 : Tok) (c0 : s' = { s with heap := h', toks := tk' }) (c1 : Fr hB L h' m') (c2 : one < 10) (c3 : two < 10) (c4 : m' (Str.ofString "top") = some (.ref tl)) (c5 : m' (Str.ofString "turned") = some (.ref tu)) (c6 : m' (Str.ofString "one") = some (.int one u1)) (c7 : m' (Str.ofString "two") = some (.int two u2)) (c8 : m' (Str.ofString "other") = some (.str (wd t2.word) uo)) (c9 : h'.get? (L + 2) = some oW) (c10 : ParTab h') (c11 : TreeH w.params (hideAll h' (badL L)) tu t2) (c12 : TreeH w.params (hideAll h' (badL L)) tl t) (c13 : h'.get? (L + 3) = some o3)
set_option maxHeartbeats 4000000 in
theorem law_body {R : Flow → Shared → Prop} {hB : Heap} {L fl sl : Addr} {cd : Value} {m : Str → Option Value} {vs : List Value} {ns : List Int} {o1 o2 o3 : Obj} {v2 v3 : Option Value} {h : Heap} {tk : Nat}
  (T : Top topProg LOOSE mean mg mb hB) (X : (Mine.hd.heap_39 w.params).In hB) (C : CodeHd hB 50 46) (hB46 : hB.get? 46 = none) (hd : dp + 120 < recursionLimit) (hu : un + 400 < cLine) (L46 : @LT.lt Nat _ 46 L)
  (F : Fr hB L h m) (P : ParTab h) (hs : hB.IsList sl vs.toArray) (hi : IntsAre vs ns) (hn : ns.length ≤ 63)
  (e1 : h.get? (L + 1) = some o1) (d1 : o1.data = .cell (some (.ref sl))) (e2 : h.get? (L + 2) = some o2) (d2 : o2.data = .cell v2) (e3 : h.get? (L + 3) = some o3) (d3 : o3.data = .cell v3)
  (B1 : hB.get? (L + 1) = none) (B2 : hB.get? (L + 2) = none) (B3 : hB.get? (L + 3) = none)
  (hret : ∀ (h' : Heap) (tk' : Nat), hB.StaysIn h' → ParTab h' → R (.ret (.bool true)) { s with heap := h', toks := tk' }) :
  wpAny (model PySem.Challenge.rw_wr0012_01.row.prog w) ((Ar dp un fr gd).deeper (lawEnv L fl cd)) (execs (fnBody 20) (lawEnv L fl cd)) R (fun _ _ => False) { s with heap := h, toks := tk } := by
  have n12 : @Ne Nat (L + 2) L := Nat.ne_of_gt (Nat.lt_add_of_pos_right (by decide))
  have n13 : @Ne Nat (L + 3) L := Nat.ne_of_gt (Nat.lt_add_of_pos_right (by decide))
  have n246 : @Ne Nat (L + 2) 46 := (ne_k L46 2 0 (by decide)).2
  have n346 : @Ne Nat (L + 3) 46 := (ne_k L46 3 0 (by decide)).2
  have n23 : @Ne Nat (L + 3) (L + 2) := (ne_k L46 3 2 (by decide)).1
  have L46' : (L : Addr) ≠ 46 := Nat.ne_of_gt L46
  refine execs_cut_at 1 (LX0 hB L s m o2 o3)
    (law_numbers (s := { s with heap := h, toks := tk }) T X (by omega) F e1 d1 B1 hs hi hn fun h' tk' D ep ks a1 a2 a3 a4 a5 a6 a7 =>
      .intro ⟨h', tk', D, ep, ks, rfl, a1, a2, a3, a5, a6, P.butL F.ns (But.of fun b o hb e => a7 b o (by simpa using hb) e), a7 _ _ n12 e2, a7 _ _ n13 e3⟩) ?_
  clear F P e1 e2 e3
  rintro _ ⟨h, tk, D, ep, ks, rfl, F, eD, bD, h6, hks, P, e2, e3⟩
  have DL : D ≠ L := by
    obtain ⟨o, es, ep', e, d⟩ := ns_ob F.ns
    exact ne_obj eD e (fun q => by rw [← q] at d; cases d)
  have D46 : D ≠ 46 := by
    obtain ⟨ot, hot⟩ := P.some
    rintro rfl
    rcases P with p | ⟨c1, c2, c3, p, -, -⟩
    · rw [eD] at p; cases p
    · rw [eD] at p; cases p
  have D2 : D ≠ L + 2 := by rintro rfl; rw [eD] at e2; cases e2; cases d2
  have D3 : D ≠ L + 3 := by rintro rfl; rw [eD] at e3; cases e3; cases d3
  refine chain 2 (LX1 w hB L s m o3 D ep ks)
    (law_grow (s := { s with heap := h, toks := tk }) T X C hB46 (by omega) L46 F P e2 d2 B2 eD bD rfl h6 fun h' tk' tl tw oW' t a1 a2 a3 a4 a5 a6 a7 =>
      .intro ⟨h', tk', tl, tw, oW', t, rfl, by rw [a1]; exact good_grown (by simp [h6]), a2, a3, a4, a5, a6, a7 _ _ DL D2 D46 eD, a7 _ _ n13 n23 n346 e3⟩) ?_
  clear F P eD e2 e3
  rintro _ ⟨h, tk, tl, tw, oW, t, rfl, g1, F, e2, dW, P, x1, eD, e3⟩
  have ht5 : t.high ≤ 5 := by have := Gap.high_le t; rw [g1.size] at this; exact this
  have x1' := tree_to_bad L46 x1 F rfl e2 dW e3 d3
  clear x1
  generalize hBB : fnBody 20 = B
  refine execs_cut_at 1 (LX2 w hB L s m o3 D ep ks tl t oW)
    (law_orders (s := { s with heap := h, toks := tk }) hBB X hB46 L46 F P fun h' tk' to a1 a2 a3 a4 =>
      .intro ⟨h', tk', to, rfl, a1, a4 _ _ n12 e2, a2, a3, tree_keep x1' a4, a4 _ _ DL eD, a4 _ _ n13 e3⟩) ?_
  rw [List.drop_drop]
  clear F P eD e2 e3 x1'
  rintro _ ⟨h, tk, to, rfl, F, e2, P, ho, x1, eD, e3⟩
  subst hBB
  have xt : TreeH w.params (hideAll h [46]) tl t := x1.keeps (hide_sub (by simp))
  refine execs_cut_at 1 (LX3 w hB L s m o3 D ep ks tl t oW to)
    (law_turn (s := { s with heap := h, toks := tk }) T X C hB46 (by omega) L46 F P eD bD rfl rfl rfl h6 ho xt (by rw [g1.size]; decide) fun h' tk' tu q a0 a1 a2 a3 a4 =>
      .intro ⟨h', tk', tu, q, rfl, a0, a1, a4 _ _ n12 n246 e2, a2, a3, tree_keep46 x1 a4, a4 _ _ DL D46 eD, a4 _ _ n13 n346 e3⟩) ?_
  rw [List.drop_drop]
  clear F P eD e2 e3 x1 ho xt
  rintro _ ⟨h, tk, tu, q, rfl, hq, F, e2, P, x2, x1, eD, e3⟩
  have x2' := tree_to_bad L46 x2 F rfl e2 dW e3 d3
  have g2 : Good (t.turn (ordOf q)) := g1.turn _ (ord_perm hq)
  generalize t.turn (ordOf q) = t2 at x2' g2
  clear x2 hq
  have hh2 : t2.high ≤ 5 := by have := Gap.high_le t2; rw [g2.size] at this; exact this
  have x2t : TreeH w.params (hideAll h [L]) tu t2 := x2'.keeps (hide_sub (by simp))
  refine execs_cut_at 1 (LX4 w hB L s o3 D ep ks tl tu t t2 oW)
    (law_other (s := { s with heap := h, toks := tk }) T X (by omega) F rfl x2t (by rw [g2.size]; decide) fun h' tk' u a1 a2 =>
      .intro ⟨h', tk', _, u, rfl, a1, rfl, rfl, rfl, rfl, a2.get e2 (by simpa using n12), P.butL F.ns a2, tree_but x2' a2, tree_but x1 a2, a2.get eD (by simpa using DL), a2.get e3 (by simpa using n13)⟩) ?_
  rw [List.drop_drop]
  clear F P eD e2 e3 x1 x2' x2t
  rintro _ ⟨h, tk, m, uo, rfl, F, f1, f2, f3, f4, e2, P, x2, x1, eD, e3⟩
  refine execs_cut_at 1 (LX5 w hB L s o3 tl tu t t2 oW uo)
    (law_onetwo (s := { s with heap := h, toks := tk }) X F f3 eD h6 hks fun h' tk' one two u1 u2 b1 b2 a1 a2 =>
      .intro ⟨h', tk', _, one, two, u1, u2, rfl, a1, b1, b2, f1, f2, rfl, rfl, f4, a2.get e2 (by simpa using n12), P.butL F.ns a2, tree_but x2 a2, tree_but x1 a2, a2.get e3 (by simpa using n13)⟩) ?_
  rw [List.drop_drop]
  clear F P eD e2 e3 x1 x2 f1 f2 f3 f4 m
  rintro _ ⟨h, tk, m, one, two, u1, u2, rfl, F, b1, b2, f1, f2, f3, f4, f5, e2, P, x2, x1, e3⟩
  have hlen := g1.len
  refine execs_cut_at 1 (fun s' => ∃ (h' : Heap) (tk' : Nat), s' = { s with heap := h', toks := tk' } ∧ LS w hB L t t2 (swapped t.word one two) tl tu one h' m)
    (law_spoilt (s := { s with heap := h, toks := tk }) T X (by omega) F f3 f4 (by omega) (by omega) (by omega) e3 d3 B3 e2 dW B2 fun h' tk' u oS' a1 a2 a3 a4 =>
      .intro ⟨h', tk', rfl, spoilt_LS L46 F a1 P f1 f2 ⟨_, f5⟩ ⟨_, f3⟩ e2 dW e3 d3 a2 a3 x1 x2 a4⟩) ?_
  rw [List.drop_drop]
  clear F P e2 e3 x1 x2 f1 f2 f3 f4 f5
  rintro _ ⟨h, tk, rfl, x⟩
  have hp := swapped_perm hlen b1 b2
  exact law_tail T X C hB46 hd hu L46 g1 g2 (g1.twice.perm hp) (by rw [hp.length_eq]; exact hlen) b1 B2 B3 x hret
end Mine
end
section
open PySem PySem.W PyProof.Rows PySem.Spec PySem.Calls
namespace Mine
theorem ParTab.grown {h : Heap} (P : ParTab h) : GrownAll [(50, 46)] h := by
  refine ⟨?_, trivial⟩
  rcases P with p | ⟨c1, c2, c3, p, -, -⟩
  · exact ⟨_, p⟩
  · exact ⟨_, p⟩
end Mine
end
open PySem PySem.W PyProof.Rows PySem.Spec PySem.Calls
set_option maxRecDepth 100000 in
set_option maxHeartbeats 8000000 in
theorem PySem.Challenge.cw_wr0012_01_holds : PySem.Challenge.rw_wr0012_01.Holds := by
  refine Mine.hd rfl rfl rfl ?_
  w_on
  k_go0
  all_goals try k_fold
  rename_i w s0 s1 mg mb G Y fa o pm cd doc ho hcd hg MX V T0 B TE TW ns hsn hl0 hL1 hr1 hl2 ad1 ad2 sl vs ad3 hL ra wl r0 hi hrr hcond hc' hD h1 tk1 o3 o2 o1 dl3 dl2 dl1 X0 X T K F N l0
  clear K X0 hD hcd Y G hsn hl0 hL1 hr1 hl2 hrr TE TW B MX V
  have n46 := N (46, tabObj #[]) (.tail _ (.tail _ (.tail _ (.head _))))
  have n1 := N _ (.tail _ (.tail _ (.head _)))
  have n2 := N _ (.tail _ (.head _))
  have n3 := N _ (.head _)
  have hn : ns.length ≤ 63 := by
    have : ¬ ((63 : Int) < (ns.length : Int)) := hcond
    omega
  refine wpAny_mono (Q := fun f s' => f = .ret (.bool true) ∧ ∃ h' tk', s' = { s1 with heap := h', toks := tk' } ∧ (ghostOf s1.heap [(50, 46)]).StaysIn h' ∧ Mine.ParTab h') (E := fun _ _ => False) ?_ ?_ ?_
  · clear hL ra wl r0 hcond
    have key := Mine.law_body (w := w) (mg := mg) (mb := mb) (mean := ExcName.means s0.heap) (dp := 1 + claimMargin) (un := 4) (fr := some []) (gd := some []) (s := s1) (R := fun f s' => f = .ret (.bool true) ∧ ∃ h' tk', s' = { s1 with heap := h', toks := tk' } ∧ (ghostOf s1.heap [(50, 46)]).StaysIn h' ∧ Mine.ParTab h')
      (hB := ghostOf s1.heap [(50, 46)]) (L := s1.heap.objs.size) (fl := fa) (cd := cd) (sl := sl) (vs := vs) (ns := ns) (o1 := o1) (o2 := o2) (o3 := o3) (h := h1) (tk := tk1)
      T X codeHd n46.2.2 (by decide) (by decide) l0 F (.inl n46.1) lifted hi hn n1.1 dl1 n2.1 dl2 n3.1 dl3 n1.2.2 n2.2.2 n3.2.2 (fun h' tk' a b => ⟨rfl, h', tk', rfl, a, b⟩)
    exact key
  · rintro f s' ⟨rfl, h', tk', rfl, a, b⟩
    refine ⟨⟨.inl ⟨.bool true, .bool true, [], rfl, fun _ => rfl, .bool true, ?_, unshared_nil⟩, a, rfl, hg⟩, b.grown⟩
    wrow_post
  · intro _ _ e; exact e.elim
