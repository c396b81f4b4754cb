import PyProof.Rows.All
import Wide.All
import OpenK.AllK
import Wide.FinOn
import KE.IntBitsLaws
import KE.KBits
import KE.BitLaws
import PyProof.StrLawsIdx
import PyProof.StrLawsIn
import PySem.Challenge.RW_ta0055_01
set_option Elab.async false
set_option maxRecDepth 100000
set_option maxHeartbeats 4000000
section -- Hd0
open PySem PySem.W PyProof.Rows
namespace Mine
noncomputable section
noncomputable abbrev S (l : List Nat) : Str := Str.mk l.toArray
noncomputable abbrev pw : Program := PySem.Challenge.pw_ta0055_01
noncomputable def stAt (i : Nat) : Stmt := (pw.main.body[i]?).getD (.Pass ⟨0, 0, 0, 0⟩)
noncomputable def noArgs : Arguments := ⟨[], [], none, [], [], none, []⟩
noncomputable def noScope : Scope := ⟨.function, [], false, false, []⟩
noncomputable def fnName : Stmt → Str | .FunctionDef n .. => n | _ => S []
noncomputable def fnArgs : Stmt → Arguments | .FunctionDef _ a .. => a | _ => noArgs
noncomputable def fnBody : Stmt → List Stmt | .FunctionDef _ _ b .. => b | _ => []
noncomputable def fnScope : Stmt → Scope | .FunctionDef _ _ _ _ _ _ sc .. => sc | _ => noScope
noncomputable def mkF (i : Nat) (globals : Addr) (dV kV doc pm : Value) (ann : Option Addr) (code ct : Value) (b : Addr) : FuncData :=
  { name := fnName (stAt i), qualname := fnName (stAt i), params := fnArgs (stAt i), body := .stmts (fnBody (stAt i)), scope := fnScope (stAt i), globals := globals, closure := [], defaults := dV, kwdefaults := kV, doc := doc, pyModule := pm, annotations := ann, code := code, closureTuple := ct, builtins := b }
/-- the table's pairs, read off the text -/
noncomputable def b3Pairs : List (Int × Str) := match stAt 12 with
  | .Assign _ (.Dict ks vs _) _ => (ks.zip vs).filterMap fun kv => match kv with
      | (some (.Constant (.int k) _ _), .Constant (.str v) _ _) => some (k, v)
      | _ => none
  | _ => []
/-- entries made of pairs, three tokens a pair (two in the last, short run) -/
noncomputable def ent3 (step : Nat) : List (Int × Str) → Nat → List DictEntry
  | [], _ => []
  | (k, v) :: r, t => ⟨k, .int k t, .str v (t + 1)⟩ :: ent3 step r (t + step)
noncomputable def b3Ents : List DictEntry := ent3 3 (b3Pairs.take 646) 351 ++ ent3 2 (b3Pairs.drop 646) 2289
noncomputable def dictObj (es : List DictEntry) : Obj := ⟨.type "dict", none, .dict es.toArray es.length, #[]⟩
noncomputable def o_76 (_P : Params) : Obj := dictObj b3Ents
noncomputable def subObj (i : Nat) : Obj := dictObj ((b3Ents.drop (17 * i)).take 17)
noncomputable def o_77 (_P : Params) : Obj := subObj 1
noncomputable def o_78 (_P : Params) : Obj := subObj 2
noncomputable def o_79 (_P : Params) : Obj := subObj 3
noncomputable def o_80 (_P : Params) : Obj := subObj 4
noncomputable def o_81 (_P : Params) : Obj := subObj 5
noncomputable def o_82 (_P : Params) : Obj := subObj 6
noncomputable def o_83 (_P : Params) : Obj := subObj 7
noncomputable def o_84 (_P : Params) : Obj := subObj 8
noncomputable def o_85 (_P : Params) : Obj := subObj 9
noncomputable def o_86 (_P : Params) : Obj := subObj 10
noncomputable def o_87 (_P : Params) : Obj := subObj 11
noncomputable def o_88 (_P : Params) : Obj := subObj 12
noncomputable def o_89 (_P : Params) : Obj := subObj 13
noncomputable def o_90 (_P : Params) : Obj := subObj 14
noncomputable def o_91 (_P : Params) : Obj := subObj 15
noncomputable def o_92 (_P : Params) : Obj := subObj 16
noncomputable def o_93 (_P : Params) : Obj := subObj 17
noncomputable def o_94 (_P : Params) : Obj := subObj 18
noncomputable def o_95 (_P : Params) : Obj := subObj 19
noncomputable def o_96 (_P : Params) : Obj := subObj 20
noncomputable def o_97 (_P : Params) : Obj := subObj 21
noncomputable def o_98 (_P : Params) : Obj := subObj 22
noncomputable def o_99 (_P : Params) : Obj := subObj 23
noncomputable def o_100 (_P : Params) : Obj := subObj 24
noncomputable def o_101 (_P : Params) : Obj := subObj 25
noncomputable def o_102 (_P : Params) : Obj := subObj 26
noncomputable def o_103 (_P : Params) : Obj := subObj 27
noncomputable def o_104 (_P : Params) : Obj := subObj 28
noncomputable def o_105 (_P : Params) : Obj := subObj 29
noncomputable def o_106 (_P : Params) : Obj := subObj 30
noncomputable def o_107 (_P : Params) : Obj := subObj 31
noncomputable def o_108 (_P : Params) : Obj := subObj 32
noncomputable def o_109 (_P : Params) : Obj := subObj 33
noncomputable def o_110 (_P : Params) : Obj := subObj 34
noncomputable def o_111 (_P : Params) : Obj := subObj 35
noncomputable def o_112 (_P : Params) : Obj := subObj 36
noncomputable def o_113 (_P : Params) : Obj := subObj 37
noncomputable def o_114 (_P : Params) : Obj := subObj 38
noncomputable def setEnts : List (Int × Value) := [65024, 65025, 65026, 65027, 65028, 65029, 6150, 65030, 65031, 65032, 65033, 6155, 6156, 6157, 8203, 8204, 8205, 65034, 65035, 65036, 65037, 65038, 65039, 173, 847, 8288, 65279].zip
  ([300, 301, 302, 303, 304, 305, 286, 306, 307, 308, 309, 287, 288, 289, 290, 291, 292, 310, 311, 312, 313, 314, 315, 284, 285, 293, 294] : List Nat) |>.map fun (i, t) => (i, .int i t)
noncomputable def o_65 (P : Params) : Obj := ⟨.type "set", none, .set setEnts.toArray 29 { mask := 127, place := #[0, 1, 2, 3, 4, 5, 6, 7, 8, 9, 10, 11, 12, 13, 14, 15, 16, 17, 18, 19, 20, 21, 22, 45, 79, 96, 127], dummies := #[], finger := 0, led := !P.followText "set-order", moves := 2, plain := true }, #[]⟩
noncomputable def o_11_a (_P : Params) : Obj := ⟨(Value.type "tuple"), none, (.seq (List.toArray []) 0), List.toArray []⟩
noncomputable def o_12_a (_P : Params) : Obj := ⟨Value.none, none, (.fields (List.toArray [])), List.toArray []⟩
noncomputable def o_13_a (_P : Params) : Obj := ⟨(Value.type "code"), none, (.fields (List.toArray [(Value.str (S [60, 109, 111, 100, 117, 108, 101, 62]) 182), (Value.str (S [60, 109, 111, 100, 117, 108, 101, 62]) 183), (Value.str (S [47, 99, 108, 97, 105, 109, 47, 99, 117, 116, 46, 112, 121]) 184), (Value.int (1) 0), (Value.int (0) 0), (Value.int (0) 0), (Value.int (0) 0), (Value.int (0) 0), (Value.ref 11), (Value.bool false), (Value.int (181) 0), (Value.ref 12), Value.none, Value.none, Value.none, Value.none, (Value.int (185) 0), (Value.int (1) 0), (Value.str (S [47, 99, 108, 97, 105, 109, 47, 99, 117, 116, 46, 112, 121]) 186)])), List.toArray []⟩
noncomputable def o_14_a (_P : Params) : Obj := ⟨(Value.type "frame"), none, .plain, List.toArray [(some (Value.ref 13)), (some (Value.ref 3)), (some (Value.ref 3)), none, (some (Value.str (S [95, 95, 109, 97, 105, 110, 95, 95]) 164)), none, (some (Value.ref 0))]⟩
noncomputable def t_a (P : Params) : BT := (.node (boot_o_0 P) (.node (boot_o_1 P) (.node (boot_o_3 P) (.node (boot_o_7 P) .nil .nil) (.node (o_11_a P) .nil .nil)) (.node (boot_o_5 P) (.node (boot_o_9 P) .nil .nil) (.node (o_13_a P) .nil .nil))) (.node (boot_o_2 P) (.node (boot_o_4 P) (.node (boot_o_8 P) .nil .nil) (.node (o_12_a P) .nil .nil)) (.node (boot_o_6 P) (.node (boot_o_10 P) .nil .nil) (.node (o_14_a P) .nil .nil))))
noncomputable def o_3_s9 (P : Params) : Obj := ⟨(Value.type "dict"), none, (.dict (List.toArray [⟨PyData.keyHash P (S [95, 95, 110, 97, 109, 101, 95, 95]), (Value.str (S [95, 95, 110, 97, 109, 101, 95, 95]) 165), (Value.str (S [99, 112, 121, 51, 49, 51, 46, 115, 116, 114, 105, 110, 103, 112, 114, 101, 112]) 282)⟩,
    ⟨PyData.keyHash P (S [95, 95, 100, 111, 99, 95, 95]), (Value.str (S [95, 95, 100, 111, 99, 95, 95]) 166), Value.none⟩,
    ⟨PyData.keyHash P (S [95, 95, 112, 97, 99, 107, 97, 103, 101, 95, 95]), (Value.str (S [95, 95, 112, 97, 99, 107, 97, 103, 101, 95, 95]) 167), Value.none⟩,
    ⟨PyData.keyHash P (S [95, 95, 108, 111, 97, 100, 101, 114, 95, 95]), (Value.str (S [95, 95, 108, 111, 97, 100, 101, 114, 95, 95]) 168), (Value.builtin "__main__.__loader__#opaque")⟩,
    ⟨PyData.keyHash P (S [95, 95, 115, 112, 101, 99, 95, 95]), (Value.str (S [95, 95, 115, 112, 101, 99, 95, 95]) 169), Value.none⟩,
    ⟨PyData.keyHash P (S [95, 95, 97, 110, 110, 111, 116, 97, 116, 105, 111, 110, 115, 95, 95]), (Value.str (S [95, 95, 97, 110, 110, 111, 116, 97, 116, 105, 111, 110, 115, 95, 95]) 170), (Value.ref 6)⟩,
    ⟨PyData.keyHash P (S [95, 95, 98, 117, 105, 108, 116, 105, 110, 115, 95, 95]), (Value.str (S [95, 95, 98, 117, 105, 108, 116, 105, 110, 115, 95, 95]) 171), (Value.ref 4)⟩,
    ⟨PyData.keyHash P (S [95, 95, 102, 105, 108, 101, 95, 95]), (Value.str (S [95, 95, 102, 105, 108, 101, 95, 95]) 173), (Value.str (S [47, 99, 108, 97, 105, 109, 47, 99, 117, 116, 46, 112, 121]) 172)⟩,
    ⟨PyData.keyHash P (S [95, 95, 99, 97, 99, 104, 101, 100, 95, 95]), (Value.str (S [95, 95, 99, 97, 99, 104, 101, 100, 95, 95]) 174), Value.none⟩,
    ⟨PyData.keyHash P (S [67, 79, 77, 80, 73, 76, 69, 82, 95, 70, 76, 65, 71, 95, 78, 65, 77, 69, 83]), (Value.str (S [67, 79, 77, 80, 73, 76, 69, 82, 95, 70, 76, 65, 71, 95, 78, 65, 77, 69, 83]) 219), (Value.ref 15)⟩,
    ⟨PyData.keyHash P (S [112, 114, 101, 116, 116, 121, 95, 102, 108, 97, 103, 115]), (Value.str (S [112, 114, 101, 116, 116, 121, 95, 102, 108, 97, 103, 115]) 229), (Value.ref 22)⟩,
    ⟨PyData.keyHash P (S [95, 112, 97, 114, 115, 101, 95, 118, 97, 114, 105, 110, 116]), (Value.str (S [95, 112, 97, 114, 115, 101, 95, 118, 97, 114, 105, 110, 116]) 238), (Value.ref 29)⟩,
    ⟨PyData.keyHash P (S [95, 105, 116, 101, 114, 95, 101, 115, 99, 97, 112, 101, 100, 95, 99, 104, 97, 114, 115]), (Value.str (S [95, 105, 116, 101, 114, 95, 101, 115, 99, 97, 112, 101, 100, 95, 99, 104, 97, 114, 115]) 250), (Value.ref 36)⟩,
    ⟨PyData.keyHash P (S [95, 115, 116, 114, 105, 112, 95, 113, 117, 111, 116, 101, 100, 95, 114, 101, 97, 108, 110, 97, 109, 101, 115]), (Value.str (S [95, 115, 116, 114, 105, 112, 95, 113, 117, 111, 116, 101, 100, 95, 114, 101, 97, 108, 110, 97, 109, 101, 115]) 262), (Value.ref 43)⟩,
    ⟨PyData.keyHash P (S [95, 99, 104, 101, 99, 107, 95, 112, 97, 114, 101, 110, 116, 104, 101, 115, 105, 115]), (Value.str (S [95, 99, 104, 101, 99, 107, 95, 112, 97, 114, 101, 110, 116, 104, 101, 115, 105, 115]) 272), (Value.ref 50)⟩,
    ⟨PyData.keyHash P (S [95, 112, 114, 101, 95, 112, 97, 114, 115, 101, 95, 118, 97, 108, 105, 100, 97, 116, 105, 111, 110]), (Value.str (S [95, 112, 114, 101, 95, 112, 97, 114, 115, 101, 95, 118, 97, 108, 105, 100, 97, 116, 105, 111, 110]) 281), (Value.ref 57)⟩]) 16), List.toArray []⟩
noncomputable def o_12_s9 (_P : Params) : Obj := ⟨Value.none, none, (.fields (List.toArray [(Value.int (3) 0), (Value.int (0) 0), (Value.ref 21), (Value.int (15) 0), (Value.int (0) 0), (Value.ref 28), (Value.int (24) 0), (Value.int (0) 0), (Value.ref 35), (Value.int (37) 0), (Value.int (0) 0), (Value.ref 42), (Value.int (55) 0), (Value.int (0) 0), (Value.ref 49), (Value.int (66) 0), (Value.int (0) 0), (Value.ref 56)])), List.toArray []⟩
noncomputable def o_15_s9 (_P : Params) : Obj := ⟨(Value.type "dict"), none, (.dict (List.toArray [⟨(1), (Value.int (1) 189), (Value.str (S [79, 80, 84, 73, 77, 73, 90, 69, 68]) 190)⟩,
    ⟨(2), (Value.int (2) 191), (Value.str (S [78, 69, 87, 76, 79, 67, 65, 76, 83]) 192)⟩,
    ⟨(4), (Value.int (4) 193), (Value.str (S [86, 65, 82, 65, 82, 71, 83]) 194)⟩,
    ⟨(8), (Value.int (8) 195), (Value.str (S [86, 65, 82, 75, 69, 89, 87, 79, 82, 68, 83]) 196)⟩,
    ⟨(16), (Value.int (16) 197), (Value.str (S [78, 69, 83, 84, 69, 68]) 198)⟩,
    ⟨(32), (Value.int (32) 199), (Value.str (S [71, 69, 78, 69, 82, 65, 84, 79, 82]) 200)⟩,
    ⟨(64), (Value.int (64) 201), (Value.str (S [78, 79, 70, 82, 69, 69]) 202)⟩,
    ⟨(128), (Value.int (128) 203), (Value.str (S [67, 79, 82, 79, 85, 84, 73, 78, 69]) 204)⟩,
    ⟨(256), (Value.int (256) 205), (Value.str (S [73, 84, 69, 82, 65, 66, 76, 69, 95, 67, 79, 82, 79, 85, 84, 73, 78, 69]) 206)⟩,
    ⟨(512), (Value.int (512) 207), (Value.str (S [65, 83, 89, 78, 67, 95, 71, 69, 78, 69, 82, 65, 84, 79, 82]) 208)⟩]) 10), List.toArray []⟩
noncomputable def o_16_s9 (_P : Params) : Obj := ⟨(Value.type "tuple"), none, (.seq (List.toArray []) 0), List.toArray []⟩
noncomputable def o_17_s9 (_P : Params) : Obj := ⟨Value.none, none, (.fields (List.toArray [])), List.toArray []⟩
noncomputable def o_18_s9 (_P : Params) : Obj := ⟨(Value.type "tuple"), none, (.seq (List.toArray [(Value.str (S [102, 108, 97, 103, 115]) 223), (Value.str (S [110, 97, 109, 101, 115]) 224), (Value.str (S [105]) 225), (Value.str (S [102, 108, 97, 103]) 226)]) 0), List.toArray []⟩
noncomputable def o_19_s9 (_P : Params) : Obj := ⟨(Value.type "tuple"), none, (.seq (List.toArray []) 0), List.toArray []⟩
noncomputable def o_20_s9 (_P : Params) : Obj := ⟨Value.none, none, (.func (mkF 2 0 Value.none Value.none Value.none Value.none none Value.none Value.none 0)), List.toArray []⟩
noncomputable def o_21_s9 (_P : Params) : Obj := ⟨(Value.type "code"), none, (.fields (List.toArray [(Value.str (S [112, 114, 101, 116, 116, 121, 95, 102, 108, 97, 103, 115]) 220), (Value.str (S [112, 114, 101, 116, 116, 121, 95, 102, 108, 97, 103, 115]) 221), (Value.str (S [47, 99, 108, 97, 105, 109, 47, 99, 117, 116, 46, 112, 121]) 222), (Value.int (3) 0), (Value.int (1) 0), (Value.int (0) 0), (Value.int (0) 0), (Value.int (3) 0), (Value.ref 16), (Value.bool true), (Value.int (181) 0), (Value.ref 17), Value.none, (Value.ref 18), (Value.ref 19), (Value.ref 20), (Value.int (227) 0), (Value.int (3) 0), (Value.str (S [47, 99, 108, 97, 105, 109, 47, 99, 117, 116, 46, 112, 121]) 228)])), List.toArray []⟩
noncomputable def o_22_s9 (_P : Params) : Obj := ⟨(Value.type "function"), none, (.func (mkF 2 3 Value.none Value.none Value.none (Value.str (S [99, 112, 121, 51, 49, 51, 46, 100, 105, 115]) 187) none (Value.ref 21) Value.none 0)), List.toArray []⟩
noncomputable def o_23_s9 (_P : Params) : Obj := ⟨(Value.type "tuple"), none, (.seq (List.toArray []) 0), List.toArray []⟩
noncomputable def o_24_s9 (_P : Params) : Obj := ⟨Value.none, none, (.fields (List.toArray [])), List.toArray []⟩
noncomputable def o_25_s9 (_P : Params) : Obj := ⟨(Value.type "tuple"), none, (.seq (List.toArray [(Value.str (S [105, 116, 101, 114, 97, 116, 111, 114]) 233), (Value.str (S [98]) 234), (Value.str (S [118, 97, 108]) 235)]) 0), List.toArray []⟩
noncomputable def o_26_s9 (_P : Params) : Obj := ⟨(Value.type "tuple"), none, (.seq (List.toArray []) 0), List.toArray []⟩
noncomputable def o_27_s9 (_P : Params) : Obj := ⟨Value.none, none, (.func (mkF 3 0 Value.none Value.none Value.none Value.none none Value.none Value.none 0)), List.toArray []⟩
noncomputable def o_28_s9 (_P : Params) : Obj := ⟨(Value.type "code"), none, (.fields (List.toArray [(Value.str (S [95, 112, 97, 114, 115, 101, 95, 118, 97, 114, 105, 110, 116]) 230), (Value.str (S [95, 112, 97, 114, 115, 101, 95, 118, 97, 114, 105, 110, 116]) 231), (Value.str (S [47, 99, 108, 97, 105, 109, 47, 99, 117, 116, 46, 112, 121]) 232), (Value.int (15) 0), (Value.int (1) 0), (Value.int (0) 0), (Value.int (0) 0), (Value.int (3) 0), (Value.ref 23), (Value.bool true), (Value.int (181) 0), (Value.ref 24), Value.none, (Value.ref 25), (Value.ref 26), (Value.ref 27), (Value.int (236) 0), (Value.int (15) 0), (Value.str (S [47, 99, 108, 97, 105, 109, 47, 99, 117, 116, 46, 112, 121]) 237)])), List.toArray []⟩
noncomputable def o_29_s9 (_P : Params) : Obj := ⟨(Value.type "function"), none, (.func (mkF 3 3 Value.none Value.none Value.none (Value.str (S [99, 112, 121, 51, 49, 51, 46, 100, 105, 115]) 187) none (Value.ref 28) Value.none 0)), List.toArray []⟩
noncomputable def o_30_s9 (_P : Params) : Obj := ⟨(Value.type "tuple"), none, (.seq (List.toArray []) 0), List.toArray []⟩
noncomputable def o_31_s9 (_P : Params) : Obj := ⟨Value.none, none, (.fields (List.toArray [])), List.toArray []⟩
noncomputable def o_32_s9 (_P : Params) : Obj := ⟨(Value.type "tuple"), none, (.seq (List.toArray [(Value.str (S [97, 100, 100, 114]) 244), (Value.str (S [112, 111, 115]) 245), (Value.str (S [101, 115, 99, 97, 112, 101]) 246), (Value.str (S [99, 104]) 247)]) 0), List.toArray []⟩
noncomputable def o_33_s9 (_P : Params) : Obj := ⟨(Value.type "tuple"), none, (.seq (List.toArray []) 0), List.toArray []⟩
noncomputable def o_34_s9 (_P : Params) : Obj := ⟨Value.none, none, (.func (mkF 5 0 Value.none Value.none Value.none Value.none none Value.none Value.none 0)), List.toArray []⟩
noncomputable def o_35_s9 (_P : Params) : Obj := ⟨(Value.type "code"), none, (.fields (List.toArray [(Value.str (S [95, 105, 116, 101, 114, 95, 101, 115, 99, 97, 112, 101, 100, 95, 99, 104, 97, 114, 115]) 241), (Value.str (S [95, 105, 116, 101, 114, 95, 101, 115, 99, 97, 112, 101, 100, 95, 99, 104, 97, 114, 115]) 242), (Value.str (S [47, 99, 108, 97, 105, 109, 47, 99, 117, 116, 46, 112, 121]) 243), (Value.int (24) 0), (Value.int (1) 0), (Value.int (0) 0), (Value.int (0) 0), (Value.int (35) 0), (Value.ref 30), (Value.bool true), (Value.int (181) 0), (Value.ref 31), Value.none, (Value.ref 32), (Value.ref 33), (Value.ref 34), (Value.int (248) 0), (Value.int (24) 0), (Value.str (S [47, 99, 108, 97, 105, 109, 47, 99, 117, 116, 46, 112, 121]) 249)])), List.toArray []⟩
noncomputable def o_36_s9 (_P : Params) : Obj := ⟨(Value.type "function"), none, (.func (mkF 5 3 Value.none Value.none Value.none (Value.str (S [99, 112, 121, 51, 49, 51, 46, 101, 109, 97, 105, 108, 46, 117, 116, 105, 108, 115]) 239) none (Value.ref 35) Value.none 0)), List.toArray []⟩
noncomputable def o_37_s9 (_P : Params) : Obj := ⟨(Value.type "tuple"), none, (.seq (List.toArray []) 0), List.toArray []⟩
noncomputable def o_38_s9 (_P : Params) : Obj := ⟨Value.none, none, (.fields (List.toArray [])), List.toArray []⟩
noncomputable def o_39_s9 (_P : Params) : Obj := ⟨(Value.type "tuple"), none, (.seq (List.toArray [(Value.str (S [97, 100, 100, 114]) 254), (Value.str (S [115, 116, 97, 114, 116]) 255), (Value.str (S [111, 112, 101, 110, 95, 112, 111, 115]) 256), (Value.str (S [114, 101, 115, 117, 108, 116]) 257), (Value.str (S [112, 111, 115]) 258), (Value.str (S [99, 104]) 259)]) 0), List.toArray []⟩
noncomputable def o_40_s9 (_P : Params) : Obj := ⟨(Value.type "tuple"), none, (.seq (List.toArray []) 0), List.toArray []⟩
noncomputable def o_41_s9 (_P : Params) : Obj := ⟨Value.none, none, (.func (mkF 6 0 Value.none Value.none Value.none Value.none none Value.none Value.none 0)), List.toArray []⟩
noncomputable def o_42_s9 (_P : Params) : Obj := ⟨(Value.type "code"), none, (.fields (List.toArray [(Value.str (S [95, 115, 116, 114, 105, 112, 95, 113, 117, 111, 116, 101, 100, 95, 114, 101, 97, 108, 110, 97, 109, 101, 115]) 251), (Value.str (S [95, 115, 116, 114, 105, 112, 95, 113, 117, 111, 116, 101, 100, 95, 114, 101, 97, 108, 110, 97, 109, 101, 115]) 252), (Value.str (S [47, 99, 108, 97, 105, 109, 47, 99, 117, 116, 46, 112, 121]) 253), (Value.int (37) 0), (Value.int (1) 0), (Value.int (0) 0), (Value.int (0) 0), (Value.int (3) 0), (Value.ref 37), (Value.bool true), (Value.int (181) 0), (Value.ref 38), Value.none, (Value.ref 39), (Value.ref 40), (Value.ref 41), (Value.int (260) 0), (Value.int (37) 0), (Value.str (S [47, 99, 108, 97, 105, 109, 47, 99, 117, 116, 46, 112, 121]) 261)])), List.toArray []⟩
noncomputable def o_43_s9 (_P : Params) : Obj := ⟨(Value.type "function"), none, (.func (mkF 6 3 Value.none Value.none Value.none (Value.str (S [99, 112, 121, 51, 49, 51, 46, 101, 109, 97, 105, 108, 46, 117, 116, 105, 108, 115]) 239) none (Value.ref 42) Value.none 0)), List.toArray []⟩
noncomputable def o_44_s9 (_P : Params) : Obj := ⟨(Value.type "tuple"), none, (.seq (List.toArray []) 0), List.toArray []⟩
noncomputable def o_45_s9 (_P : Params) : Obj := ⟨Value.none, none, (.fields (List.toArray [])), List.toArray []⟩
noncomputable def o_46_s9 (_P : Params) : Obj := ⟨(Value.type "tuple"), none, (.seq (List.toArray [(Value.str (S [97, 100, 100, 114]) 266), (Value.str (S [111, 112, 101, 110, 115]) 267), (Value.str (S [112, 111, 115]) 268), (Value.str (S [99, 104]) 269)]) 0), List.toArray []⟩
noncomputable def o_47_s9 (_P : Params) : Obj := ⟨(Value.type "tuple"), none, (.seq (List.toArray []) 0), List.toArray []⟩
noncomputable def o_48_s9 (_P : Params) : Obj := ⟨Value.none, none, (.func (mkF 7 0 Value.none Value.none Value.none Value.none none Value.none Value.none 0)), List.toArray []⟩
noncomputable def o_49_s9 (_P : Params) : Obj := ⟨(Value.type "code"), none, (.fields (List.toArray [(Value.str (S [95, 99, 104, 101, 99, 107, 95, 112, 97, 114, 101, 110, 116, 104, 101, 115, 105, 115]) 263), (Value.str (S [95, 99, 104, 101, 99, 107, 95, 112, 97, 114, 101, 110, 116, 104, 101, 115, 105, 115]) 264), (Value.str (S [47, 99, 108, 97, 105, 109, 47, 99, 117, 116, 46, 112, 121]) 265), (Value.int (55) 0), (Value.int (1) 0), (Value.int (0) 0), (Value.int (0) 0), (Value.int (3) 0), (Value.ref 44), (Value.bool true), (Value.int (181) 0), (Value.ref 45), Value.none, (Value.ref 46), (Value.ref 47), (Value.ref 48), (Value.int (270) 0), (Value.int (55) 0), (Value.str (S [47, 99, 108, 97, 105, 109, 47, 99, 117, 116, 46, 112, 121]) 271)])), List.toArray []⟩
noncomputable def o_50_s9 (_P : Params) : Obj := ⟨(Value.type "function"), none, (.func (mkF 7 3 Value.none Value.none Value.none (Value.str (S [99, 112, 121, 51, 49, 51, 46, 101, 109, 97, 105, 108, 46, 117, 116, 105, 108, 115]) 239) none (Value.ref 49) Value.none 0)), List.toArray []⟩
noncomputable def o_51_s9 (_P : Params) : Obj := ⟨(Value.type "tuple"), none, (.seq (List.toArray []) 0), List.toArray []⟩
noncomputable def o_52_s9 (_P : Params) : Obj := ⟨Value.none, none, (.fields (List.toArray [])), List.toArray []⟩
noncomputable def o_53_s9 (_P : Params) : Obj := ⟨(Value.type "tuple"), none, (.seq (List.toArray [(Value.str (S [101, 109, 97, 105, 108, 95, 104, 101, 97, 100, 101, 114, 95, 102, 105, 101, 108, 100, 115]) 276), (Value.str (S [97, 99, 99, 101, 112, 116, 101, 100, 95, 118, 97, 108, 117, 101, 115]) 277), (Value.str (S [118]) 278)]) 0), List.toArray []⟩
noncomputable def o_54_s9 (_P : Params) : Obj := ⟨(Value.type "tuple"), none, (.seq (List.toArray []) 0), List.toArray []⟩
noncomputable def o_55_s9 (_P : Params) : Obj := ⟨Value.none, none, (.func (mkF 8 0 Value.none Value.none Value.none Value.none none Value.none Value.none 0)), List.toArray []⟩
noncomputable def o_56_s9 (_P : Params) : Obj := ⟨(Value.type "code"), none, (.fields (List.toArray [(Value.str (S [95, 112, 114, 101, 95, 112, 97, 114, 115, 101, 95, 118, 97, 108, 105, 100, 97, 116, 105, 111, 110]) 273), (Value.str (S [95, 112, 114, 101, 95, 112, 97, 114, 115, 101, 95, 118, 97, 108, 105, 100, 97, 116, 105, 111, 110]) 274), (Value.str (S [47, 99, 108, 97, 105, 109, 47, 99, 117, 116, 46, 112, 121]) 275), (Value.int (66) 0), (Value.int (1) 0), (Value.int (0) 0), (Value.int (0) 0), (Value.int (3) 0), (Value.ref 51), (Value.bool true), (Value.int (181) 0), (Value.ref 52), Value.none, (Value.ref 53), (Value.ref 54), (Value.ref 55), (Value.int (279) 0), (Value.int (66) 0), (Value.str (S [47, 99, 108, 97, 105, 109, 47, 99, 117, 116, 46, 112, 121]) 280)])), List.toArray []⟩
noncomputable def o_57_s9 (_P : Params) : Obj := ⟨(Value.type "function"), none, (.func (mkF 8 3 Value.none Value.none Value.none (Value.str (S [99, 112, 121, 51, 49, 51, 46, 101, 109, 97, 105, 108, 46, 117, 116, 105, 108, 115]) 239) none (Value.ref 56) Value.none 0)), List.toArray []⟩
noncomputable def t_s9 (P : Params) : BT := (.node (boot_o_0 P) (.node (boot_o_1 P) (.node (o_3_s9 P) (.node (boot_o_7 P) (.node (o_15_s9 P) (.node (o_31_s9 P) .nil .nil) (.node (o_47_s9 P) .nil .nil)) (.node (o_23_s9 P) (.node (o_39_s9 P) .nil .nil) (.node (o_55_s9 P) .nil .nil))) (.node (o_11_a P) (.node (o_19_s9 P) (.node (o_35_s9 P) .nil .nil) (.node (o_51_s9 P) .nil .nil)) (.node (o_27_s9 P) (.node (o_43_s9 P) .nil .nil) .nil))) (.node (boot_o_5 P) (.node (boot_o_9 P) (.node (o_17_s9 P) (.node (o_33_s9 P) .nil .nil) (.node (o_49_s9 P) .nil .nil)) (.node (o_25_s9 P) (.node (o_41_s9 P) .nil .nil) (.node (o_57_s9 P) .nil .nil))) (.node (o_13_a P) (.node (o_21_s9 P) (.node (o_37_s9 P) .nil .nil) (.node (o_53_s9 P) .nil .nil)) (.node (o_29_s9 P) (.node (o_45_s9 P) .nil .nil) .nil)))) (.node (boot_o_2 P) (.node (boot_o_4 P) (.node (boot_o_8 P) (.node (o_16_s9 P) (.node (o_32_s9 P) .nil .nil) (.node (o_48_s9 P) .nil .nil)) (.node (o_24_s9 P) (.node (o_40_s9 P) .nil .nil) (.node (o_56_s9 P) .nil .nil))) (.node (o_12_s9 P) (.node (o_20_s9 P) (.node (o_36_s9 P) .nil .nil) (.node (o_52_s9 P) .nil .nil)) (.node (o_28_s9 P) (.node (o_44_s9 P) .nil .nil) .nil))) (.node (boot_o_6 P) (.node (boot_o_10 P) (.node (o_18_s9 P) (.node (o_34_s9 P) .nil .nil) (.node (o_50_s9 P) .nil .nil)) (.node (o_26_s9 P) (.node (o_42_s9 P) .nil .nil) .nil)) (.node (o_14_a P) (.node (o_22_s9 P) (.node (o_38_s9 P) .nil .nil) (.node (o_54_s9 P) .nil .nil)) (.node (o_30_s9 P) (.node (o_46_s9 P) .nil .nil) .nil)))))
noncomputable def o_3_s10 (P : Params) : Obj := ⟨(Value.type "dict"), none, (.dict (List.toArray [⟨PyData.keyHash P (S [95, 95, 110, 97, 109, 101, 95, 95]), (Value.str (S [95, 95, 110, 97, 109, 101, 95, 95]) 165), (Value.str (S [99, 112, 121, 51, 49, 51, 46, 115, 116, 114, 105, 110, 103, 112, 114, 101, 112]) 282)⟩,
    ⟨PyData.keyHash P (S [95, 95, 100, 111, 99, 95, 95]), (Value.str (S [95, 95, 100, 111, 99, 95, 95]) 166), Value.none⟩,
    ⟨PyData.keyHash P (S [95, 95, 112, 97, 99, 107, 97, 103, 101, 95, 95]), (Value.str (S [95, 95, 112, 97, 99, 107, 97, 103, 101, 95, 95]) 167), Value.none⟩,
    ⟨PyData.keyHash P (S [95, 95, 108, 111, 97, 100, 101, 114, 95, 95]), (Value.str (S [95, 95, 108, 111, 97, 100, 101, 114, 95, 95]) 168), (Value.builtin "__main__.__loader__#opaque")⟩,
    ⟨PyData.keyHash P (S [95, 95, 115, 112, 101, 99, 95, 95]), (Value.str (S [95, 95, 115, 112, 101, 99, 95, 95]) 169), Value.none⟩,
    ⟨PyData.keyHash P (S [95, 95, 97, 110, 110, 111, 116, 97, 116, 105, 111, 110, 115, 95, 95]), (Value.str (S [95, 95, 97, 110, 110, 111, 116, 97, 116, 105, 111, 110, 115, 95, 95]) 170), (Value.ref 6)⟩,
    ⟨PyData.keyHash P (S [95, 95, 98, 117, 105, 108, 116, 105, 110, 115, 95, 95]), (Value.str (S [95, 95, 98, 117, 105, 108, 116, 105, 110, 115, 95, 95]) 171), (Value.ref 4)⟩,
    ⟨PyData.keyHash P (S [95, 95, 102, 105, 108, 101, 95, 95]), (Value.str (S [95, 95, 102, 105, 108, 101, 95, 95]) 173), (Value.str (S [47, 99, 108, 97, 105, 109, 47, 99, 117, 116, 46, 112, 121]) 172)⟩,
    ⟨PyData.keyHash P (S [95, 95, 99, 97, 99, 104, 101, 100, 95, 95]), (Value.str (S [95, 95, 99, 97, 99, 104, 101, 100, 95, 95]) 174), Value.none⟩,
    ⟨PyData.keyHash P (S [67, 79, 77, 80, 73, 76, 69, 82, 95, 70, 76, 65, 71, 95, 78, 65, 77, 69, 83]), (Value.str (S [67, 79, 77, 80, 73, 76, 69, 82, 95, 70, 76, 65, 71, 95, 78, 65, 77, 69, 83]) 219), (Value.ref 15)⟩,
    ⟨PyData.keyHash P (S [112, 114, 101, 116, 116, 121, 95, 102, 108, 97, 103, 115]), (Value.str (S [112, 114, 101, 116, 116, 121, 95, 102, 108, 97, 103, 115]) 229), (Value.ref 22)⟩,
    ⟨PyData.keyHash P (S [95, 112, 97, 114, 115, 101, 95, 118, 97, 114, 105, 110, 116]), (Value.str (S [95, 112, 97, 114, 115, 101, 95, 118, 97, 114, 105, 110, 116]) 238), (Value.ref 29)⟩,
    ⟨PyData.keyHash P (S [95, 105, 116, 101, 114, 95, 101, 115, 99, 97, 112, 101, 100, 95, 99, 104, 97, 114, 115]), (Value.str (S [95, 105, 116, 101, 114, 95, 101, 115, 99, 97, 112, 101, 100, 95, 99, 104, 97, 114, 115]) 250), (Value.ref 36)⟩,
    ⟨PyData.keyHash P (S [95, 115, 116, 114, 105, 112, 95, 113, 117, 111, 116, 101, 100, 95, 114, 101, 97, 108, 110, 97, 109, 101, 115]), (Value.str (S [95, 115, 116, 114, 105, 112, 95, 113, 117, 111, 116, 101, 100, 95, 114, 101, 97, 108, 110, 97, 109, 101, 115]) 262), (Value.ref 43)⟩,
    ⟨PyData.keyHash P (S [95, 99, 104, 101, 99, 107, 95, 112, 97, 114, 101, 110, 116, 104, 101, 115, 105, 115]), (Value.str (S [95, 99, 104, 101, 99, 107, 95, 112, 97, 114, 101, 110, 116, 104, 101, 115, 105, 115]) 272), (Value.ref 50)⟩,
    ⟨PyData.keyHash P (S [95, 112, 114, 101, 95, 112, 97, 114, 115, 101, 95, 118, 97, 108, 105, 100, 97, 116, 105, 111, 110]), (Value.str (S [95, 112, 114, 101, 95, 112, 97, 114, 115, 101, 95, 118, 97, 108, 105, 100, 97, 116, 105, 111, 110]) 281), (Value.ref 57)⟩,
    ⟨PyData.keyHash P (S [98, 49, 95, 115, 101, 116]), (Value.str (S [98, 49, 95, 115, 101, 116]) 343), (Value.ref 65)⟩]) 17), List.toArray []⟩
noncomputable def o_58_s10 (_P : Params) : Obj := ⟨(Value.type "list"), none, (.seq (List.toArray [(Value.int (173) 284), (Value.int (847) 285), (Value.int (6150) 286), (Value.int (6155) 287), (Value.int (6156) 288), (Value.int (6157) 289), (Value.int (8203) 290), (Value.int (8204) 291), (Value.int (8205) 292), (Value.int (8288) 293), (Value.int (65279) 294)]) 0), List.toArray []⟩
noncomputable def o_59_s10 (_P : Params) : Obj := ⟨(Value.type "range"), none, (.fields (List.toArray [(Value.int (65024) 295), (Value.int (65040) 296), (Value.int (1) 297)])), List.toArray []⟩
noncomputable def o_60_s10 (_P : Params) : Obj := ⟨(Value.type "list"), none, (.seq (List.toArray [(Value.int (65024) 300), (Value.int (65025) 301), (Value.int (65026) 302), (Value.int (65027) 303), (Value.int (65028) 304), (Value.int (65029) 305), (Value.int (65030) 306), (Value.int (65031) 307), (Value.int (65032) 308), (Value.int (65033) 309), (Value.int (65034) 310), (Value.int (65035) 311), (Value.int (65036) 312), (Value.int (65037) 313), (Value.int (65038) 314), (Value.int (65039) 315)]) 18), List.toArray []⟩
noncomputable def o_61_s10 (_P : Params) : Obj := ⟨(Value.type "range_iterator"), none, (.fields (List.toArray [(Value.int (65040) 0), (Value.int (0) 0), (Value.int (1) 0)])), List.toArray []⟩
noncomputable def o_62_s10 (_P : Params) : Obj := ⟨(Value.type "tuple"), none, (.seq (List.toArray []) 0), List.toArray []⟩
noncomputable def o_63_s10 (_P : Params) : Obj := ⟨(Value.type "StopIteration"), none, (.fields (List.toArray [(Value.ref 62), Value.none, Value.none, Value.none, (Value.bool false), Value.none])), List.toArray []⟩
noncomputable def o_64_s10 (_P : Params) : Obj := ⟨(Value.type "list"), none, (.seq (List.toArray [(Value.int (173) 284), (Value.int (847) 285), (Value.int (6150) 286), (Value.int (6155) 287), (Value.int (6156) 288), (Value.int (6157) 289), (Value.int (8203) 290), (Value.int (8204) 291), (Value.int (8205) 292), (Value.int (8288) 293), (Value.int (65279) 294), (Value.int (65024) 300), (Value.int (65025) 301), (Value.int (65026) 302), (Value.int (65027) 303), (Value.int (65028) 304), (Value.int (65029) 305), (Value.int (65030) 306), (Value.int (65031) 307), (Value.int (65032) 308), (Value.int (65033) 309), (Value.int (65034) 310), (Value.int (65035) 311), (Value.int (65036) 312), (Value.int (65037) 313), (Value.int (65038) 314), (Value.int (65039) 315)]) 0), List.toArray []⟩
noncomputable def o_66_s10 (_P : Params) : Obj := ⟨(Value.type "list_iterator"), none, (.fields (List.toArray [Value.none, (Value.int (27) 0)])), List.toArray []⟩
noncomputable def o_67_s10 (_P : Params) : Obj := ⟨(Value.type "tuple"), none, (.seq (List.toArray []) 0), List.toArray []⟩
noncomputable def o_68_s10 (_P : Params) : Obj := ⟨(Value.type "StopIteration"), none, (.fields (List.toArray [(Value.ref 67), Value.none, Value.none, Value.none, (Value.bool false), Value.none])), List.toArray []⟩
noncomputable def t_s10 (P : Params) : BT := (.node (boot_o_0 P) (.node (boot_o_1 P) (.node (o_3_s10 P) (.node (boot_o_7 P) (.node (o_15_s9 P) (.node (o_31_s9 P) (.node (o_63_s10 P) .nil .nil) .nil) (.node (o_47_s9 P) .nil .nil)) (.node (o_23_s9 P) (.node (o_39_s9 P) .nil .nil) (.node (o_55_s9 P) .nil .nil))) (.node (o_11_a P) (.node (o_19_s9 P) (.node (o_35_s9 P) (.node (o_67_s10 P) .nil .nil) .nil) (.node (o_51_s9 P) .nil .nil)) (.node (o_27_s9 P) (.node (o_43_s9 P) .nil .nil) (.node (o_59_s10 P) .nil .nil)))) (.node (boot_o_5 P) (.node (boot_o_9 P) (.node (o_17_s9 P) (.node (o_33_s9 P) (.node (o_65 P) .nil .nil) .nil) (.node (o_49_s9 P) .nil .nil)) (.node (o_25_s9 P) (.node (o_41_s9 P) .nil .nil) (.node (o_57_s9 P) .nil .nil))) (.node (o_13_a P) (.node (o_21_s9 P) (.node (o_37_s9 P) .nil .nil) (.node (o_53_s9 P) .nil .nil)) (.node (o_29_s9 P) (.node (o_45_s9 P) .nil .nil) (.node (o_61_s10 P) .nil .nil))))) (.node (boot_o_2 P) (.node (boot_o_4 P) (.node (boot_o_8 P) (.node (o_16_s9 P) (.node (o_32_s9 P) (.node (o_64_s10 P) .nil .nil) .nil) (.node (o_48_s9 P) .nil .nil)) (.node (o_24_s9 P) (.node (o_40_s9 P) .nil .nil) (.node (o_56_s9 P) .nil .nil))) (.node (o_12_s9 P) (.node (o_20_s9 P) (.node (o_36_s9 P) (.node (o_68_s10 P) .nil .nil) .nil) (.node (o_52_s9 P) .nil .nil)) (.node (o_28_s9 P) (.node (o_44_s9 P) .nil .nil) (.node (o_60_s10 P) .nil .nil)))) (.node (boot_o_6 P) (.node (boot_o_10 P) (.node (o_18_s9 P) (.node (o_34_s9 P) (.node (o_66_s10 P) .nil .nil) .nil) (.node (o_50_s9 P) .nil .nil)) (.node (o_26_s9 P) (.node (o_42_s9 P) .nil .nil) (.node (o_58_s10 P) .nil .nil))) (.node (o_14_a P) (.node (o_22_s9 P) (.node (o_38_s9 P) .nil .nil) (.node (o_54_s9 P) .nil .nil)) (.node (o_30_s9 P) (.node (o_46_s9 P) .nil .nil) (.node (o_62_s10 P) .nil .nil))))))
noncomputable def o_3_s11 (P : Params) : Obj := ⟨(Value.type "dict"), none, (.dict (List.toArray [⟨PyData.keyHash P (S [95, 95, 110, 97, 109, 101, 95, 95]), (Value.str (S [95, 95, 110, 97, 109, 101, 95, 95]) 165), (Value.str (S [99, 112, 121, 51, 49, 51, 46, 115, 116, 114, 105, 110, 103, 112, 114, 101, 112]) 282)⟩,
    ⟨PyData.keyHash P (S [95, 95, 100, 111, 99, 95, 95]), (Value.str (S [95, 95, 100, 111, 99, 95, 95]) 166), Value.none⟩,
    ⟨PyData.keyHash P (S [95, 95, 112, 97, 99, 107, 97, 103, 101, 95, 95]), (Value.str (S [95, 95, 112, 97, 99, 107, 97, 103, 101, 95, 95]) 167), Value.none⟩,
    ⟨PyData.keyHash P (S [95, 95, 108, 111, 97, 100, 101, 114, 95, 95]), (Value.str (S [95, 95, 108, 111, 97, 100, 101, 114, 95, 95]) 168), (Value.builtin "__main__.__loader__#opaque")⟩,
    ⟨PyData.keyHash P (S [95, 95, 115, 112, 101, 99, 95, 95]), (Value.str (S [95, 95, 115, 112, 101, 99, 95, 95]) 169), Value.none⟩,
    ⟨PyData.keyHash P (S [95, 95, 97, 110, 110, 111, 116, 97, 116, 105, 111, 110, 115, 95, 95]), (Value.str (S [95, 95, 97, 110, 110, 111, 116, 97, 116, 105, 111, 110, 115, 95, 95]) 170), (Value.ref 6)⟩,
    ⟨PyData.keyHash P (S [95, 95, 98, 117, 105, 108, 116, 105, 110, 115, 95, 95]), (Value.str (S [95, 95, 98, 117, 105, 108, 116, 105, 110, 115, 95, 95]) 171), (Value.ref 4)⟩,
    ⟨PyData.keyHash P (S [95, 95, 102, 105, 108, 101, 95, 95]), (Value.str (S [95, 95, 102, 105, 108, 101, 95, 95]) 173), (Value.str (S [47, 99, 108, 97, 105, 109, 47, 99, 117, 116, 46, 112, 121]) 172)⟩,
    ⟨PyData.keyHash P (S [95, 95, 99, 97, 99, 104, 101, 100, 95, 95]), (Value.str (S [95, 95, 99, 97, 99, 104, 101, 100, 95, 95]) 174), Value.none⟩,
    ⟨PyData.keyHash P (S [67, 79, 77, 80, 73, 76, 69, 82, 95, 70, 76, 65, 71, 95, 78, 65, 77, 69, 83]), (Value.str (S [67, 79, 77, 80, 73, 76, 69, 82, 95, 70, 76, 65, 71, 95, 78, 65, 77, 69, 83]) 219), (Value.ref 15)⟩,
    ⟨PyData.keyHash P (S [112, 114, 101, 116, 116, 121, 95, 102, 108, 97, 103, 115]), (Value.str (S [112, 114, 101, 116, 116, 121, 95, 102, 108, 97, 103, 115]) 229), (Value.ref 22)⟩,
    ⟨PyData.keyHash P (S [95, 112, 97, 114, 115, 101, 95, 118, 97, 114, 105, 110, 116]), (Value.str (S [95, 112, 97, 114, 115, 101, 95, 118, 97, 114, 105, 110, 116]) 238), (Value.ref 29)⟩,
    ⟨PyData.keyHash P (S [95, 105, 116, 101, 114, 95, 101, 115, 99, 97, 112, 101, 100, 95, 99, 104, 97, 114, 115]), (Value.str (S [95, 105, 116, 101, 114, 95, 101, 115, 99, 97, 112, 101, 100, 95, 99, 104, 97, 114, 115]) 250), (Value.ref 36)⟩,
    ⟨PyData.keyHash P (S [95, 115, 116, 114, 105, 112, 95, 113, 117, 111, 116, 101, 100, 95, 114, 101, 97, 108, 110, 97, 109, 101, 115]), (Value.str (S [95, 115, 116, 114, 105, 112, 95, 113, 117, 111, 116, 101, 100, 95, 114, 101, 97, 108, 110, 97, 109, 101, 115]) 262), (Value.ref 43)⟩,
    ⟨PyData.keyHash P (S [95, 99, 104, 101, 99, 107, 95, 112, 97, 114, 101, 110, 116, 104, 101, 115, 105, 115]), (Value.str (S [95, 99, 104, 101, 99, 107, 95, 112, 97, 114, 101, 110, 116, 104, 101, 115, 105, 115]) 272), (Value.ref 50)⟩,
    ⟨PyData.keyHash P (S [95, 112, 114, 101, 95, 112, 97, 114, 115, 101, 95, 118, 97, 108, 105, 100, 97, 116, 105, 111, 110]), (Value.str (S [95, 112, 114, 101, 95, 112, 97, 114, 115, 101, 95, 118, 97, 108, 105, 100, 97, 116, 105, 111, 110]) 281), (Value.ref 57)⟩,
    ⟨PyData.keyHash P (S [98, 49, 95, 115, 101, 116]), (Value.str (S [98, 49, 95, 115, 101, 116]) 343), (Value.ref 65)⟩,
    ⟨PyData.keyHash P (S [105, 110, 95, 116, 97, 98, 108, 101, 95, 98, 49]), (Value.str (S [105, 110, 95, 116, 97, 98, 108, 101, 95, 98, 49]) 350), (Value.ref 75)⟩]) 18), List.toArray []⟩
noncomputable def o_12_s11 (_P : Params) : Obj := ⟨Value.none, none, (.fields (List.toArray [(Value.int (3) 0), (Value.int (0) 0), (Value.ref 21), (Value.int (15) 0), (Value.int (0) 0), (Value.ref 28), (Value.int (24) 0), (Value.int (0) 0), (Value.ref 35), (Value.int (37) 0), (Value.int (0) 0), (Value.ref 42), (Value.int (55) 0), (Value.int (0) 0), (Value.ref 49), (Value.int (66) 0), (Value.int (0) 0), (Value.ref 56), (Value.int (75) 0), (Value.int (0) 0), (Value.ref 74)])), List.toArray []⟩
noncomputable def o_69_s11 (_P : Params) : Obj := ⟨(Value.type "tuple"), none, (.seq (List.toArray []) 0), List.toArray []⟩
noncomputable def o_70_s11 (_P : Params) : Obj := ⟨Value.none, none, (.fields (List.toArray [])), List.toArray []⟩
noncomputable def o_71_s11 (_P : Params) : Obj := ⟨(Value.type "tuple"), none, (.seq (List.toArray [(Value.str (S [99, 111, 100, 101]) 347)]) 0), List.toArray []⟩
noncomputable def o_72_s11 (_P : Params) : Obj := ⟨(Value.type "tuple"), none, (.seq (List.toArray []) 0), List.toArray []⟩
noncomputable def o_73_s11 (_P : Params) : Obj := ⟨Value.none, none, (.func (mkF 11 0 Value.none Value.none Value.none Value.none none Value.none Value.none 0)), List.toArray []⟩
noncomputable def o_74_s11 (_P : Params) : Obj := ⟨(Value.type "code"), none, (.fields (List.toArray [(Value.str (S [105, 110, 95, 116, 97, 98, 108, 101, 95, 98, 49]) 344), (Value.str (S [105, 110, 95, 116, 97, 98, 108, 101, 95, 98, 49]) 345), (Value.str (S [47, 99, 108, 97, 105, 109, 47, 99, 117, 116, 46, 112, 121]) 346), (Value.int (75) 0), (Value.int (1) 0), (Value.int (0) 0), (Value.int (0) 0), (Value.int (3) 0), (Value.ref 69), (Value.bool true), (Value.int (181) 0), (Value.ref 70), Value.none, (Value.ref 71), (Value.ref 72), (Value.ref 73), (Value.int (348) 0), (Value.int (75) 0), (Value.str (S [47, 99, 108, 97, 105, 109, 47, 99, 117, 116, 46, 112, 121]) 349)])), List.toArray []⟩
noncomputable def o_75_s11 (_P : Params) : Obj := ⟨(Value.type "function"), none, (.func (mkF 11 3 Value.none Value.none Value.none (Value.str (S [99, 112, 121, 51, 49, 51, 46, 115, 116, 114, 105, 110, 103, 112, 114, 101, 112]) 282) none (Value.ref 74) Value.none 0)), List.toArray []⟩
noncomputable def t_s11 (P : Params) : BT := (.node (boot_o_0 P) (.node (boot_o_1 P) (.node (o_3_s11 P) (.node (boot_o_7 P) (.node (o_15_s9 P) (.node (o_31_s9 P) (.node (o_63_s10 P) .nil .nil) .nil) (.node (o_47_s9 P) .nil .nil)) (.node (o_23_s9 P) (.node (o_39_s9 P) (.node (o_71_s11 P) .nil .nil) .nil) (.node (o_55_s9 P) .nil .nil))) (.node (o_11_a P) (.node (o_19_s9 P) (.node (o_35_s9 P) (.node (o_67_s10 P) .nil .nil) .nil) (.node (o_51_s9 P) .nil .nil)) (.node (o_27_s9 P) (.node (o_43_s9 P) (.node (o_75_s11 P) .nil .nil) .nil) (.node (o_59_s10 P) .nil .nil)))) (.node (boot_o_5 P) (.node (boot_o_9 P) (.node (o_17_s9 P) (.node (o_33_s9 P) (.node (o_65 P) .nil .nil) .nil) (.node (o_49_s9 P) .nil .nil)) (.node (o_25_s9 P) (.node (o_41_s9 P) (.node (o_73_s11 P) .nil .nil) .nil) (.node (o_57_s9 P) .nil .nil))) (.node (o_13_a P) (.node (o_21_s9 P) (.node (o_37_s9 P) (.node (o_69_s11 P) .nil .nil) .nil) (.node (o_53_s9 P) .nil .nil)) (.node (o_29_s9 P) (.node (o_45_s9 P) .nil .nil) (.node (o_61_s10 P) .nil .nil))))) (.node (boot_o_2 P) (.node (boot_o_4 P) (.node (boot_o_8 P) (.node (o_16_s9 P) (.node (o_32_s9 P) (.node (o_64_s10 P) .nil .nil) .nil) (.node (o_48_s9 P) .nil .nil)) (.node (o_24_s9 P) (.node (o_40_s9 P) (.node (o_72_s11 P) .nil .nil) .nil) (.node (o_56_s9 P) .nil .nil))) (.node (o_12_s11 P) (.node (o_20_s9 P) (.node (o_36_s9 P) (.node (o_68_s10 P) .nil .nil) .nil) (.node (o_52_s9 P) .nil .nil)) (.node (o_28_s9 P) (.node (o_44_s9 P) .nil .nil) (.node (o_60_s10 P) .nil .nil)))) (.node (boot_o_6 P) (.node (boot_o_10 P) (.node (o_18_s9 P) (.node (o_34_s9 P) (.node (o_66_s10 P) .nil .nil) .nil) (.node (o_50_s9 P) .nil .nil)) (.node (o_26_s9 P) (.node (o_42_s9 P) (.node (o_74_s11 P) .nil .nil) .nil) (.node (o_58_s10 P) .nil .nil))) (.node (o_14_a P) (.node (o_22_s9 P) (.node (o_38_s9 P) (.node (o_70_s11 P) .nil .nil) .nil) (.node (o_54_s9 P) .nil .nil)) (.node (o_30_s9 P) (.node (o_46_s9 P) .nil .nil) (.node (o_62_s10 P) .nil .nil))))))
noncomputable def o_3_s12 (P : Params) : Obj := ⟨(Value.type "dict"), none, (.dict (List.toArray [⟨PyData.keyHash P (S [95, 95, 110, 97, 109, 101, 95, 95]), (Value.str (S [95, 95, 110, 97, 109, 101, 95, 95]) 165), (Value.str (S [99, 112, 121, 51, 49, 51, 46, 115, 116, 114, 105, 110, 103, 112, 114, 101, 112]) 282)⟩,
    ⟨PyData.keyHash P (S [95, 95, 100, 111, 99, 95, 95]), (Value.str (S [95, 95, 100, 111, 99, 95, 95]) 166), Value.none⟩,
    ⟨PyData.keyHash P (S [95, 95, 112, 97, 99, 107, 97, 103, 101, 95, 95]), (Value.str (S [95, 95, 112, 97, 99, 107, 97, 103, 101, 95, 95]) 167), Value.none⟩,
    ⟨PyData.keyHash P (S [95, 95, 108, 111, 97, 100, 101, 114, 95, 95]), (Value.str (S [95, 95, 108, 111, 97, 100, 101, 114, 95, 95]) 168), (Value.builtin "__main__.__loader__#opaque")⟩,
    ⟨PyData.keyHash P (S [95, 95, 115, 112, 101, 99, 95, 95]), (Value.str (S [95, 95, 115, 112, 101, 99, 95, 95]) 169), Value.none⟩,
    ⟨PyData.keyHash P (S [95, 95, 97, 110, 110, 111, 116, 97, 116, 105, 111, 110, 115, 95, 95]), (Value.str (S [95, 95, 97, 110, 110, 111, 116, 97, 116, 105, 111, 110, 115, 95, 95]) 170), (Value.ref 6)⟩,
    ⟨PyData.keyHash P (S [95, 95, 98, 117, 105, 108, 116, 105, 110, 115, 95, 95]), (Value.str (S [95, 95, 98, 117, 105, 108, 116, 105, 110, 115, 95, 95]) 171), (Value.ref 4)⟩,
    ⟨PyData.keyHash P (S [95, 95, 102, 105, 108, 101, 95, 95]), (Value.str (S [95, 95, 102, 105, 108, 101, 95, 95]) 173), (Value.str (S [47, 99, 108, 97, 105, 109, 47, 99, 117, 116, 46, 112, 121]) 172)⟩,
    ⟨PyData.keyHash P (S [95, 95, 99, 97, 99, 104, 101, 100, 95, 95]), (Value.str (S [95, 95, 99, 97, 99, 104, 101, 100, 95, 95]) 174), Value.none⟩,
    ⟨PyData.keyHash P (S [67, 79, 77, 80, 73, 76, 69, 82, 95, 70, 76, 65, 71, 95, 78, 65, 77, 69, 83]), (Value.str (S [67, 79, 77, 80, 73, 76, 69, 82, 95, 70, 76, 65, 71, 95, 78, 65, 77, 69, 83]) 219), (Value.ref 15)⟩,
    ⟨PyData.keyHash P (S [112, 114, 101, 116, 116, 121, 95, 102, 108, 97, 103, 115]), (Value.str (S [112, 114, 101, 116, 116, 121, 95, 102, 108, 97, 103, 115]) 229), (Value.ref 22)⟩,
    ⟨PyData.keyHash P (S [95, 112, 97, 114, 115, 101, 95, 118, 97, 114, 105, 110, 116]), (Value.str (S [95, 112, 97, 114, 115, 101, 95, 118, 97, 114, 105, 110, 116]) 238), (Value.ref 29)⟩,
    ⟨PyData.keyHash P (S [95, 105, 116, 101, 114, 95, 101, 115, 99, 97, 112, 101, 100, 95, 99, 104, 97, 114, 115]), (Value.str (S [95, 105, 116, 101, 114, 95, 101, 115, 99, 97, 112, 101, 100, 95, 99, 104, 97, 114, 115]) 250), (Value.ref 36)⟩,
    ⟨PyData.keyHash P (S [95, 115, 116, 114, 105, 112, 95, 113, 117, 111, 116, 101, 100, 95, 114, 101, 97, 108, 110, 97, 109, 101, 115]), (Value.str (S [95, 115, 116, 114, 105, 112, 95, 113, 117, 111, 116, 101, 100, 95, 114, 101, 97, 108, 110, 97, 109, 101, 115]) 262), (Value.ref 43)⟩,
    ⟨PyData.keyHash P (S [95, 99, 104, 101, 99, 107, 95, 112, 97, 114, 101, 110, 116, 104, 101, 115, 105, 115]), (Value.str (S [95, 99, 104, 101, 99, 107, 95, 112, 97, 114, 101, 110, 116, 104, 101, 115, 105, 115]) 272), (Value.ref 50)⟩,
    ⟨PyData.keyHash P (S [95, 112, 114, 101, 95, 112, 97, 114, 115, 101, 95, 118, 97, 108, 105, 100, 97, 116, 105, 111, 110]), (Value.str (S [95, 112, 114, 101, 95, 112, 97, 114, 115, 101, 95, 118, 97, 108, 105, 100, 97, 116, 105, 111, 110]) 281), (Value.ref 57)⟩,
    ⟨PyData.keyHash P (S [98, 49, 95, 115, 101, 116]), (Value.str (S [98, 49, 95, 115, 101, 116]) 343), (Value.ref 65)⟩,
    ⟨PyData.keyHash P (S [105, 110, 95, 116, 97, 98, 108, 101, 95, 98, 49]), (Value.str (S [105, 110, 95, 116, 97, 98, 108, 101, 95, 98, 49]) 350), (Value.ref 75)⟩,
    ⟨PyData.keyHash P (S [98, 51, 95, 101, 120, 99, 101, 112, 116, 105, 111, 110, 115]), (Value.str (S [98, 51, 95, 101, 120, 99, 101, 112, 116, 105, 111, 110, 115]) 2301), (Value.ref 76)⟩]) 19), List.toArray []⟩
noncomputable def t_s12 (P : Params) : BT := (.node (boot_o_0 P) (.node (boot_o_1 P) (.node (o_3_s12 P) (.node (boot_o_7 P) (.node (o_15_s9 P) (.node (o_31_s9 P) (.node (o_63_s10 P) .nil .nil) (.node (o_95 P) .nil .nil)) (.node (o_47_s9 P) (.node (o_79 P) .nil .nil) (.node (o_111 P) .nil .nil))) (.node (o_23_s9 P) (.node (o_39_s9 P) (.node (o_71_s11 P) .nil .nil) (.node (o_103 P) .nil .nil)) (.node (o_55_s9 P) (.node (o_87 P) .nil .nil) .nil))) (.node (o_11_a P) (.node (o_19_s9 P) (.node (o_35_s9 P) (.node (o_67_s10 P) .nil .nil) (.node (o_99 P) .nil .nil)) (.node (o_51_s9 P) (.node (o_83 P) .nil .nil) .nil)) (.node (o_27_s9 P) (.node (o_43_s9 P) (.node (o_75_s11 P) .nil .nil) (.node (o_107 P) .nil .nil)) (.node (o_59_s10 P) (.node (o_91 P) .nil .nil) .nil)))) (.node (boot_o_5 P) (.node (boot_o_9 P) (.node (o_17_s9 P) (.node (o_33_s9 P) (.node (o_65 P) .nil .nil) (.node (o_97 P) .nil .nil)) (.node (o_49_s9 P) (.node (o_81 P) .nil .nil) (.node (o_113 P) .nil .nil))) (.node (o_25_s9 P) (.node (o_41_s9 P) (.node (o_73_s11 P) .nil .nil) (.node (o_105 P) .nil .nil)) (.node (o_57_s9 P) (.node (o_89 P) .nil .nil) .nil))) (.node (o_13_a P) (.node (o_21_s9 P) (.node (o_37_s9 P) (.node (o_69_s11 P) .nil .nil) (.node (o_101 P) .nil .nil)) (.node (o_53_s9 P) (.node (o_85 P) .nil .nil) .nil)) (.node (o_29_s9 P) (.node (o_45_s9 P) (.node (o_77 P) .nil .nil) (.node (o_109 P) .nil .nil)) (.node (o_61_s10 P) (.node (o_93 P) .nil .nil) .nil))))) (.node (boot_o_2 P) (.node (boot_o_4 P) (.node (boot_o_8 P) (.node (o_16_s9 P) (.node (o_32_s9 P) (.node (o_64_s10 P) .nil .nil) (.node (o_96 P) .nil .nil)) (.node (o_48_s9 P) (.node (o_80 P) .nil .nil) (.node (o_112 P) .nil .nil))) (.node (o_24_s9 P) (.node (o_40_s9 P) (.node (o_72_s11 P) .nil .nil) (.node (o_104 P) .nil .nil)) (.node (o_56_s9 P) (.node (o_88 P) .nil .nil) .nil))) (.node (o_12_s11 P) (.node (o_20_s9 P) (.node (o_36_s9 P) (.node (o_68_s10 P) .nil .nil) (.node (o_100 P) .nil .nil)) (.node (o_52_s9 P) (.node (o_84 P) .nil .nil) .nil)) (.node (o_28_s9 P) (.node (o_44_s9 P) (.node (o_76 P) .nil .nil) (.node (o_108 P) .nil .nil)) (.node (o_60_s10 P) (.node (o_92 P) .nil .nil) .nil)))) (.node (boot_o_6 P) (.node (boot_o_10 P) (.node (o_18_s9 P) (.node (o_34_s9 P) (.node (o_66_s10 P) .nil .nil) (.node (o_98 P) .nil .nil)) (.node (o_50_s9 P) (.node (o_82 P) .nil .nil) (.node (o_114 P) .nil .nil))) (.node (o_26_s9 P) (.node (o_42_s9 P) (.node (o_74_s11 P) .nil .nil) (.node (o_106 P) .nil .nil)) (.node (o_58_s10 P) (.node (o_90 P) .nil .nil) .nil))) (.node (o_14_a P) (.node (o_22_s9 P) (.node (o_38_s9 P) (.node (o_70_s11 P) .nil .nil) (.node (o_102 P) .nil .nil)) (.node (o_54_s9 P) (.node (o_86 P) .nil .nil) .nil)) (.node (o_30_s9 P) (.node (o_46_s9 P) (.node (o_78 P) .nil .nil) (.node (o_110 P) .nil .nil)) (.node (o_62_s10 P) (.node (o_94 P) .nil .nil) .nil))))))
noncomputable def o_3_s22 (P : Params) : Obj := ⟨(Value.type "dict"), none, (.dict (List.toArray [⟨PyData.keyHash P (S [95, 95, 110, 97, 109, 101, 95, 95]), (Value.str (S [95, 95, 110, 97, 109, 101, 95, 95]) 165), (Value.str (S [108, 97, 119, 95, 116, 97, 48, 48, 53, 53, 95, 48, 49]) 2310)⟩,
    ⟨PyData.keyHash P (S [95, 95, 100, 111, 99, 95, 95]), (Value.str (S [95, 95, 100, 111, 99, 95, 95]) 166), Value.none⟩,
    ⟨PyData.keyHash P (S [95, 95, 112, 97, 99, 107, 97, 103, 101, 95, 95]), (Value.str (S [95, 95, 112, 97, 99, 107, 97, 103, 101, 95, 95]) 167), Value.none⟩,
    ⟨PyData.keyHash P (S [95, 95, 108, 111, 97, 100, 101, 114, 95, 95]), (Value.str (S [95, 95, 108, 111, 97, 100, 101, 114, 95, 95]) 168), (Value.builtin "__main__.__loader__#opaque")⟩,
    ⟨PyData.keyHash P (S [95, 95, 115, 112, 101, 99, 95, 95]), (Value.str (S [95, 95, 115, 112, 101, 99, 95, 95]) 169), Value.none⟩,
    ⟨PyData.keyHash P (S [95, 95, 97, 110, 110, 111, 116, 97, 116, 105, 111, 110, 115, 95, 95]), (Value.str (S [95, 95, 97, 110, 110, 111, 116, 97, 116, 105, 111, 110, 115, 95, 95]) 170), (Value.ref 6)⟩,
    ⟨PyData.keyHash P (S [95, 95, 98, 117, 105, 108, 116, 105, 110, 115, 95, 95]), (Value.str (S [95, 95, 98, 117, 105, 108, 116, 105, 110, 115, 95, 95]) 171), (Value.ref 4)⟩,
    ⟨PyData.keyHash P (S [95, 95, 102, 105, 108, 101, 95, 95]), (Value.str (S [95, 95, 102, 105, 108, 101, 95, 95]) 173), (Value.str (S [47, 99, 108, 97, 105, 109, 47, 99, 117, 116, 46, 112, 121]) 172)⟩,
    ⟨PyData.keyHash P (S [95, 95, 99, 97, 99, 104, 101, 100, 95, 95]), (Value.str (S [95, 95, 99, 97, 99, 104, 101, 100, 95, 95]) 174), Value.none⟩,
    ⟨PyData.keyHash P (S [67, 79, 77, 80, 73, 76, 69, 82, 95, 70, 76, 65, 71, 95, 78, 65, 77, 69, 83]), (Value.str (S [67, 79, 77, 80, 73, 76, 69, 82, 95, 70, 76, 65, 71, 95, 78, 65, 77, 69, 83]) 219), (Value.ref 15)⟩,
    ⟨PyData.keyHash P (S [112, 114, 101, 116, 116, 121, 95, 102, 108, 97, 103, 115]), (Value.str (S [112, 114, 101, 116, 116, 121, 95, 102, 108, 97, 103, 115]) 229), (Value.ref 22)⟩,
    ⟨PyData.keyHash P (S [95, 112, 97, 114, 115, 101, 95, 118, 97, 114, 105, 110, 116]), (Value.str (S [95, 112, 97, 114, 115, 101, 95, 118, 97, 114, 105, 110, 116]) 238), (Value.ref 29)⟩,
    ⟨PyData.keyHash P (S [95, 105, 116, 101, 114, 95, 101, 115, 99, 97, 112, 101, 100, 95, 99, 104, 97, 114, 115]), (Value.str (S [95, 105, 116, 101, 114, 95, 101, 115, 99, 97, 112, 101, 100, 95, 99, 104, 97, 114, 115]) 250), (Value.ref 36)⟩,
    ⟨PyData.keyHash P (S [95, 115, 116, 114, 105, 112, 95, 113, 117, 111, 116, 101, 100, 95, 114, 101, 97, 108, 110, 97, 109, 101, 115]), (Value.str (S [95, 115, 116, 114, 105, 112, 95, 113, 117, 111, 116, 101, 100, 95, 114, 101, 97, 108, 110, 97, 109, 101, 115]) 262), (Value.ref 43)⟩,
    ⟨PyData.keyHash P (S [95, 99, 104, 101, 99, 107, 95, 112, 97, 114, 101, 110, 116, 104, 101, 115, 105, 115]), (Value.str (S [95, 99, 104, 101, 99, 107, 95, 112, 97, 114, 101, 110, 116, 104, 101, 115, 105, 115]) 272), (Value.ref 50)⟩,
    ⟨PyData.keyHash P (S [95, 112, 114, 101, 95, 112, 97, 114, 115, 101, 95, 118, 97, 108, 105, 100, 97, 116, 105, 111, 110]), (Value.str (S [95, 112, 114, 101, 95, 112, 97, 114, 115, 101, 95, 118, 97, 108, 105, 100, 97, 116, 105, 111, 110]) 281), (Value.ref 57)⟩,
    ⟨PyData.keyHash P (S [98, 49, 95, 115, 101, 116]), (Value.str (S [98, 49, 95, 115, 101, 116]) 343), (Value.ref 65)⟩,
    ⟨PyData.keyHash P (S [105, 110, 95, 116, 97, 98, 108, 101, 95, 98, 49]), (Value.str (S [105, 110, 95, 116, 97, 98, 108, 101, 95, 98, 49]) 350), (Value.ref 75)⟩,
    ⟨PyData.keyHash P (S [98, 51, 95, 101, 120, 99, 101, 112, 116, 105, 111, 110, 115]), (Value.str (S [98, 51, 95, 101, 120, 99, 101, 112, 116, 105, 111, 110, 115]) 2301), (Value.ref 76)⟩,
    ⟨PyData.keyHash P (S [109, 97, 112, 95, 116, 97, 98, 108, 101, 95, 98, 51]), (Value.str (S [109, 97, 112, 95, 116, 97, 98, 108, 101, 95, 98, 51]) 2309), (Value.ref 121)⟩,
    ⟨PyData.keyHash P (S [95, 108, 97, 119, 95, 110, 97, 109, 101]), (Value.str (S [95, 108, 97, 119, 95, 110, 97, 109, 101]) 2320), (Value.ref 128)⟩,
    ⟨PyData.keyHash P (S [95, 108, 97, 119, 95, 110, 101, 115, 116]), (Value.str (S [95, 108, 97, 119, 95, 110, 101, 115, 116]) 2326), (Value.ref 133)⟩,
    ⟨PyData.keyHash P (S [95, 108, 97, 119, 95, 116, 97, 112, 101]), (Value.str (S [95, 108, 97, 119, 95, 116, 97, 112, 101]) 2332), (Value.ref 138)⟩,
    ⟨PyData.keyHash P (S [95, 108, 97, 119, 95, 114, 101, 97, 100]), (Value.str (S [95, 108, 97, 119, 95, 114, 101, 97, 100]) 2338), (Value.ref 143)⟩,
    ⟨PyData.keyHash P (S [95, 108, 97, 119, 95, 115, 117, 109]), (Value.str (S [95, 108, 97, 119, 95, 115, 117, 109]) 2344), (Value.ref 148)⟩,
    ⟨PyData.keyHash P (S [95, 108, 97, 119, 95, 99, 111, 117, 110, 116, 115]), (Value.str (S [95, 108, 97, 119, 95, 99, 111, 117, 110, 116, 115]) 2350), (Value.ref 153)⟩,
    ⟨PyData.keyHash P (S [95, 108, 97, 119, 95, 112, 114, 111, 100, 117, 99, 116]), (Value.str (S [95, 108, 97, 119, 95, 112, 114, 111, 100, 117, 99, 116]) 2357), (Value.ref 160)⟩,
    ⟨PyData.keyHash P (S [108, 97, 119]), (Value.str (S [108, 97, 119]) 2363), (Value.ref 165)⟩]) 28), List.toArray []⟩
noncomputable def o_12_s22 (_P : Params) : Obj := ⟨Value.none, none, (.fields (List.toArray [(Value.int (3) 0), (Value.int (0) 0), (Value.ref 21), (Value.int (15) 0), (Value.int (0) 0), (Value.ref 28), (Value.int (24) 0), (Value.int (0) 0), (Value.ref 35), (Value.int (37) 0), (Value.int (0) 0), (Value.ref 42), (Value.int (55) 0), (Value.int (0) 0), (Value.ref 49), (Value.int (66) 0), (Value.int (0) 0), (Value.ref 56), (Value.int (75) 0), (Value.int (0) 0), (Value.ref 74), (Value.int (78) 0), (Value.int (0) 0), (Value.ref 120), (Value.int (84) 0), (Value.int (0) 0), (Value.ref 127), (Value.int (93) 0), (Value.int (0) 0), (Value.ref 132), (Value.int (109) 0), (Value.int (0) 0), (Value.ref 137), (Value.int (118) 0), (Value.int (0) 0), (Value.ref 142), (Value.int (135) 0), (Value.int (0) 0), (Value.ref 147), (Value.int (144) 0), (Value.int (0) 0), (Value.ref 152), (Value.int (151) 0), (Value.int (0) 0), (Value.ref 159), (Value.int (153) 0), (Value.int (0) 0), (Value.ref 164)])), List.toArray []⟩
noncomputable def o_115_s22 (_P : Params) : Obj := ⟨(Value.type "tuple"), none, (.seq (List.toArray []) 0), List.toArray []⟩
noncomputable def o_116_s22 (_P : Params) : Obj := ⟨Value.none, none, (.fields (List.toArray [])), List.toArray []⟩
noncomputable def o_117_s22 (_P : Params) : Obj := ⟨(Value.type "tuple"), none, (.seq (List.toArray [(Value.str (S [99, 111, 100, 101]) 2305), (Value.str (S [114]) 2306)]) 0), List.toArray []⟩
noncomputable def o_118_s22 (_P : Params) : Obj := ⟨(Value.type "tuple"), none, (.seq (List.toArray []) 0), List.toArray []⟩
noncomputable def o_119_s22 (_P : Params) : Obj := ⟨Value.none, none, (.func (mkF 13 0 Value.none Value.none Value.none Value.none none Value.none Value.none 0)), List.toArray []⟩
noncomputable def o_120_s22 (_P : Params) : Obj := ⟨(Value.type "code"), none, (.fields (List.toArray [(Value.str (S [109, 97, 112, 95, 116, 97, 98, 108, 101, 95, 98, 51]) 2302), (Value.str (S [109, 97, 112, 95, 116, 97, 98, 108, 101, 95, 98, 51]) 2303), (Value.str (S [47, 99, 108, 97, 105, 109, 47, 99, 117, 116, 46, 112, 121]) 2304), (Value.int (78) 0), (Value.int (1) 0), (Value.int (0) 0), (Value.int (0) 0), (Value.int (3) 0), (Value.ref 115), (Value.bool true), (Value.int (181) 0), (Value.ref 116), Value.none, (Value.ref 117), (Value.ref 118), (Value.ref 119), (Value.int (2307) 0), (Value.int (78) 0), (Value.str (S [47, 99, 108, 97, 105, 109, 47, 99, 117, 116, 46, 112, 121]) 2308)])), List.toArray []⟩
noncomputable def o_121_s22 (_P : Params) : Obj := ⟨(Value.type "function"), none, (.func (mkF 13 3 Value.none Value.none Value.none (Value.str (S [99, 112, 121, 51, 49, 51, 46, 115, 116, 114, 105, 110, 103, 112, 114, 101, 112]) 282) none (Value.ref 120) Value.none 0)), List.toArray []⟩
noncomputable def o_122_s22 (_P : Params) : Obj := ⟨(Value.type "tuple"), none, (.seq (List.toArray []) 0), List.toArray []⟩
noncomputable def o_123_s22 (_P : Params) : Obj := ⟨Value.none, none, (.fields (List.toArray [])), List.toArray []⟩
noncomputable def o_124_s22 (_P : Params) : Obj := ⟨(Value.type "tuple"), none, (.seq (List.toArray [(Value.str (S [108, 101, 116, 116, 101, 114]) 2315), (Value.str (S [102, 111, 114, 109]) 2316), (Value.str (S [97, 108, 112, 104, 97, 98, 101, 116]) 2317)]) 0), List.toArray []⟩
noncomputable def o_125_s22 (_P : Params) : Obj := ⟨(Value.type "tuple"), none, (.seq (List.toArray []) 0), List.toArray []⟩
noncomputable def o_126_s22 (_P : Params) : Obj := ⟨Value.none, none, (.func (mkF 15 0 Value.none Value.none Value.none Value.none none Value.none Value.none 0)), List.toArray []⟩
noncomputable def o_127_s22 (_P : Params) : Obj := ⟨(Value.type "code"), none, (.fields (List.toArray [(Value.str (S [95, 108, 97, 119, 95, 110, 97, 109, 101]) 2312), (Value.str (S [95, 108, 97, 119, 95, 110, 97, 109, 101]) 2313), (Value.str (S [47, 99, 108, 97, 105, 109, 47, 99, 117, 116, 46, 112, 121]) 2314), (Value.int (84) 0), (Value.int (2) 0), (Value.int (0) 0), (Value.int (0) 0), (Value.int (3) 0), (Value.ref 122), (Value.bool true), (Value.int (181) 0), (Value.ref 123), Value.none, (Value.ref 124), (Value.ref 125), (Value.ref 126), (Value.int (2318) 0), (Value.int (84) 0), (Value.str (S [47, 99, 108, 97, 105, 109, 47, 99, 117, 116, 46, 112, 121]) 2319)])), List.toArray []⟩
noncomputable def o_128_s22 (_P : Params) : Obj := ⟨(Value.type "function"), none, (.func (mkF 15 3 Value.none Value.none Value.none (Value.str (S [108, 97, 119, 95, 116, 97, 48, 48, 53, 53, 95, 48, 49]) 2310) none (Value.ref 127) Value.none 0)), List.toArray []⟩
noncomputable def o_129_s22 (_P : Params) : Obj := ⟨(Value.type "tuple"), none, (.seq (List.toArray []) 0), List.toArray []⟩
noncomputable def o_130_s22 (_P : Params) : Obj := ⟨Value.none, none, (.fields (List.toArray [])), List.toArray []⟩
noncomputable def o_131_s22 (_P : Params) : Obj := ⟨Value.none, none, (.func (mkF 16 0 Value.none Value.none Value.none Value.none none Value.none Value.none 0)), List.toArray []⟩
noncomputable def o_132_s22 (_P : Params) : Obj := ⟨(Value.type "code"), none, (.fields (List.toArray [(Value.str (S [95, 108, 97, 119, 95, 110, 101, 115, 116]) 2321), (Value.str (S [95, 108, 97, 119, 95, 110, 101, 115, 116]) 2322), (Value.str (S [47, 99, 108, 97, 105, 109, 47, 99, 117, 116, 46, 112, 121]) 2323), (Value.int (93) 0), (Value.int (2) 0), (Value.int (0) 0), (Value.int (0) 0), (Value.int (3) 0), (Value.ref 129), (Value.bool true), (Value.int (181) 0), (Value.ref 130), Value.none, Value.none, Value.none, (Value.ref 131), (Value.int (2324) 0), (Value.int (93) 0), (Value.str (S [47, 99, 108, 97, 105, 109, 47, 99, 117, 116, 46, 112, 121]) 2325)])), List.toArray []⟩
noncomputable def o_133_s22 (_P : Params) : Obj := ⟨(Value.type "function"), none, (.func (mkF 16 3 Value.none Value.none Value.none (Value.str (S [108, 97, 119, 95, 116, 97, 48, 48, 53, 53, 95, 48, 49]) 2310) none (Value.ref 132) Value.none 0)), List.toArray []⟩
noncomputable def o_134_s22 (_P : Params) : Obj := ⟨(Value.type "tuple"), none, (.seq (List.toArray []) 0), List.toArray []⟩
noncomputable def o_135_s22 (_P : Params) : Obj := ⟨Value.none, none, (.fields (List.toArray [])), List.toArray []⟩
noncomputable def o_136_s22 (_P : Params) : Obj := ⟨Value.none, none, (.func (mkF 17 0 Value.none Value.none Value.none Value.none none Value.none Value.none 0)), List.toArray []⟩
noncomputable def o_137_s22 (_P : Params) : Obj := ⟨(Value.type "code"), none, (.fields (List.toArray [(Value.str (S [95, 108, 97, 119, 95, 116, 97, 112, 101]) 2327), (Value.str (S [95, 108, 97, 119, 95, 116, 97, 112, 101]) 2328), (Value.str (S [47, 99, 108, 97, 105, 109, 47, 99, 117, 116, 46, 112, 121]) 2329), (Value.int (109) 0), (Value.int (2) 0), (Value.int (0) 0), (Value.int (0) 0), (Value.int (3) 0), (Value.ref 134), (Value.bool true), (Value.int (181) 0), (Value.ref 135), Value.none, Value.none, Value.none, (Value.ref 136), (Value.int (2330) 0), (Value.int (109) 0), (Value.str (S [47, 99, 108, 97, 105, 109, 47, 99, 117, 116, 46, 112, 121]) 2331)])), List.toArray []⟩
noncomputable def o_138_s22 (_P : Params) : Obj := ⟨(Value.type "function"), none, (.func (mkF 17 3 Value.none Value.none Value.none (Value.str (S [108, 97, 119, 95, 116, 97, 48, 48, 53, 53, 95, 48, 49]) 2310) none (Value.ref 137) Value.none 0)), List.toArray []⟩
noncomputable def o_139_s22 (_P : Params) : Obj := ⟨(Value.type "tuple"), none, (.seq (List.toArray []) 0), List.toArray []⟩
noncomputable def o_140_s22 (_P : Params) : Obj := ⟨Value.none, none, (.fields (List.toArray [])), List.toArray []⟩
noncomputable def o_141_s22 (_P : Params) : Obj := ⟨Value.none, none, (.func (mkF 18 0 Value.none Value.none Value.none Value.none none Value.none Value.none 0)), List.toArray []⟩
noncomputable def o_142_s22 (_P : Params) : Obj := ⟨(Value.type "code"), none, (.fields (List.toArray [(Value.str (S [95, 108, 97, 119, 95, 114, 101, 97, 100]) 2333), (Value.str (S [95, 108, 97, 119, 95, 114, 101, 97, 100]) 2334), (Value.str (S [47, 99, 108, 97, 105, 109, 47, 99, 117, 116, 46, 112, 121]) 2335), (Value.int (118) 0), (Value.int (1) 0), (Value.int (0) 0), (Value.int (0) 0), (Value.int (3) 0), (Value.ref 139), (Value.bool true), (Value.int (181) 0), (Value.ref 140), Value.none, Value.none, Value.none, (Value.ref 141), (Value.int (2336) 0), (Value.int (118) 0), (Value.str (S [47, 99, 108, 97, 105, 109, 47, 99, 117, 116, 46, 112, 121]) 2337)])), List.toArray []⟩
noncomputable def o_143_s22 (_P : Params) : Obj := ⟨(Value.type "function"), none, (.func (mkF 18 3 Value.none Value.none Value.none (Value.str (S [108, 97, 119, 95, 116, 97, 48, 48, 53, 53, 95, 48, 49]) 2310) none (Value.ref 142) Value.none 0)), List.toArray []⟩
noncomputable def o_144_s22 (_P : Params) : Obj := ⟨(Value.type "tuple"), none, (.seq (List.toArray []) 0), List.toArray []⟩
noncomputable def o_145_s22 (_P : Params) : Obj := ⟨Value.none, none, (.fields (List.toArray [])), List.toArray []⟩
noncomputable def o_146_s22 (_P : Params) : Obj := ⟨Value.none, none, (.func (mkF 19 0 Value.none Value.none Value.none Value.none none Value.none Value.none 0)), List.toArray []⟩
noncomputable def o_147_s22 (_P : Params) : Obj := ⟨(Value.type "code"), none, (.fields (List.toArray [(Value.str (S [95, 108, 97, 119, 95, 115, 117, 109]) 2339), (Value.str (S [95, 108, 97, 119, 95, 115, 117, 109]) 2340), (Value.str (S [47, 99, 108, 97, 105, 109, 47, 99, 117, 116, 46, 112, 121]) 2341), (Value.int (135) 0), (Value.int (3) 0), (Value.int (0) 0), (Value.int (0) 0), (Value.int (3) 0), (Value.ref 144), (Value.bool true), (Value.int (181) 0), (Value.ref 145), Value.none, Value.none, Value.none, (Value.ref 146), (Value.int (2342) 0), (Value.int (135) 0), (Value.str (S [47, 99, 108, 97, 105, 109, 47, 99, 117, 116, 46, 112, 121]) 2343)])), List.toArray []⟩
noncomputable def o_148_s22 (_P : Params) : Obj := ⟨(Value.type "function"), none, (.func (mkF 19 3 Value.none Value.none Value.none (Value.str (S [108, 97, 119, 95, 116, 97, 48, 48, 53, 53, 95, 48, 49]) 2310) none (Value.ref 147) Value.none 0)), List.toArray []⟩
noncomputable def o_149_s22 (_P : Params) : Obj := ⟨(Value.type "tuple"), none, (.seq (List.toArray []) 0), List.toArray []⟩
noncomputable def o_150_s22 (_P : Params) : Obj := ⟨Value.none, none, (.fields (List.toArray [])), List.toArray []⟩
noncomputable def o_151_s22 (_P : Params) : Obj := ⟨Value.none, none, (.func (mkF 20 0 Value.none Value.none Value.none Value.none none Value.none Value.none 0)), List.toArray []⟩
noncomputable def o_152_s22 (_P : Params) : Obj := ⟨(Value.type "code"), none, (.fields (List.toArray [(Value.str (S [95, 108, 97, 119, 95, 99, 111, 117, 110, 116, 115]) 2345), (Value.str (S [95, 108, 97, 119, 95, 99, 111, 117, 110, 116, 115]) 2346), (Value.str (S [47, 99, 108, 97, 105, 109, 47, 99, 117, 116, 46, 112, 121]) 2347), (Value.int (144) 0), (Value.int (3) 0), (Value.int (0) 0), (Value.int (0) 0), (Value.int (3) 0), (Value.ref 149), (Value.bool true), (Value.int (181) 0), (Value.ref 150), Value.none, Value.none, Value.none, (Value.ref 151), (Value.int (2348) 0), (Value.int (144) 0), (Value.str (S [47, 99, 108, 97, 105, 109, 47, 99, 117, 116, 46, 112, 121]) 2349)])), List.toArray []⟩
noncomputable def o_153_s22 (_P : Params) : Obj := ⟨(Value.type "function"), none, (.func (mkF 20 3 Value.none Value.none Value.none (Value.str (S [108, 97, 119, 95, 116, 97, 48, 48, 53, 53, 95, 48, 49]) 2310) none (Value.ref 152) Value.none 0)), List.toArray []⟩
noncomputable def o_154_s22 (_P : Params) : Obj := ⟨(Value.type "tuple"), none, (.seq (List.toArray []) 0), List.toArray []⟩
noncomputable def o_155_s22 (_P : Params) : Obj := ⟨Value.none, none, (.fields (List.toArray [])), List.toArray []⟩
noncomputable def o_156_s22 (_P : Params) : Obj := ⟨(Value.type "tuple"), none, (.seq (List.toArray [(Value.str (S [110, 117, 109, 98, 101, 114, 115]) 2354)]) 0), List.toArray []⟩
noncomputable def o_157_s22 (_P : Params) : Obj := ⟨(Value.type "tuple"), none, (.seq (List.toArray []) 0), List.toArray []⟩
noncomputable def o_158_s22 (_P : Params) : Obj := ⟨Value.none, none, (.func (mkF 21 0 Value.none Value.none Value.none Value.none none Value.none Value.none 0)), List.toArray []⟩
noncomputable def o_159_s22 (_P : Params) : Obj := ⟨(Value.type "code"), none, (.fields (List.toArray [(Value.str (S [95, 108, 97, 119, 95, 112, 114, 111, 100, 117, 99, 116]) 2351), (Value.str (S [95, 108, 97, 119, 95, 112, 114, 111, 100, 117, 99, 116]) 2352), (Value.str (S [47, 99, 108, 97, 105, 109, 47, 99, 117, 116, 46, 112, 121]) 2353), (Value.int (151) 0), (Value.int (1) 0), (Value.int (0) 0), (Value.int (0) 0), (Value.int (3) 0), (Value.ref 154), (Value.bool true), (Value.int (181) 0), (Value.ref 155), Value.none, (Value.ref 156), (Value.ref 157), (Value.ref 158), (Value.int (2355) 0), (Value.int (151) 0), (Value.str (S [47, 99, 108, 97, 105, 109, 47, 99, 117, 116, 46, 112, 121]) 2356)])), List.toArray []⟩
noncomputable def o_160_s22 (_P : Params) : Obj := ⟨(Value.type "function"), none, (.func (mkF 21 3 Value.none Value.none Value.none (Value.str (S [108, 97, 119, 95, 116, 97, 48, 48, 53, 53, 95, 48, 49]) 2310) none (Value.ref 159) Value.none 0)), List.toArray []⟩
noncomputable def o_161_s22 (_P : Params) : Obj := ⟨(Value.type "tuple"), none, (.seq (List.toArray []) 0), List.toArray []⟩
noncomputable def o_162_s22 (_P : Params) : Obj := ⟨Value.none, none, (.fields (List.toArray [])), List.toArray []⟩
noncomputable def o_163_s22 (_P : Params) : Obj := ⟨Value.none, none, (.func (mkF 22 0 Value.none Value.none Value.none Value.none none Value.none Value.none 0)), List.toArray []⟩
noncomputable def o_164_s22 (_P : Params) : Obj := ⟨(Value.type "code"), none, (.fields (List.toArray [(Value.str (S [108, 97, 119]) 2358), (Value.str (S [108, 97, 119]) 2359), (Value.str (S [47, 99, 108, 97, 105, 109, 47, 99, 117, 116, 46, 112, 121]) 2360), (Value.int (153) 0), (Value.int (1) 0), (Value.int (0) 0), (Value.int (0) 0), (Value.int (3) 0), (Value.ref 161), (Value.bool true), (Value.int (181) 0), (Value.ref 162), Value.none, Value.none, Value.none, (Value.ref 163), (Value.int (2361) 0), (Value.int (153) 0), (Value.str (S [47, 99, 108, 97, 105, 109, 47, 99, 117, 116, 46, 112, 121]) 2362)])), List.toArray []⟩
noncomputable def o_165_s22 (_P : Params) : Obj := ⟨(Value.type "function"), none, (.func (mkF 22 3 Value.none Value.none Value.none (Value.str (S [108, 97, 119, 95, 116, 97, 48, 48, 53, 53, 95, 48, 49]) 2310) none (Value.ref 164) Value.none 0)), List.toArray []⟩
noncomputable def t_s22 (P : Params) : BT := (.node (boot_o_0 P) (.node (boot_o_1 P) (.node (o_3_s22 P) (.node (boot_o_7 P) (.node (o_15_s9 P) (.node (o_31_s9 P) (.node (o_63_s10 P) (.node (o_127_s22 P) .nil .nil) .nil) (.node (o_95 P) (.node (o_159_s22 P) .nil .nil) .nil)) (.node (o_47_s9 P) (.node (o_79 P) (.node (o_143_s22 P) .nil .nil) .nil) (.node (o_111 P) .nil .nil))) (.node (o_23_s9 P) (.node (o_39_s9 P) (.node (o_71_s11 P) (.node (o_135_s22 P) .nil .nil) .nil) (.node (o_103 P) .nil .nil)) (.node (o_55_s9 P) (.node (o_87 P) (.node (o_151_s22 P) .nil .nil) .nil) (.node (o_119_s22 P) .nil .nil)))) (.node (o_11_a P) (.node (o_19_s9 P) (.node (o_35_s9 P) (.node (o_67_s10 P) (.node (o_131_s22 P) .nil .nil) .nil) (.node (o_99 P) (.node (o_163_s22 P) .nil .nil) .nil)) (.node (o_51_s9 P) (.node (o_83 P) (.node (o_147_s22 P) .nil .nil) .nil) (.node (o_115_s22 P) .nil .nil))) (.node (o_27_s9 P) (.node (o_43_s9 P) (.node (o_75_s11 P) (.node (o_139_s22 P) .nil .nil) .nil) (.node (o_107 P) .nil .nil)) (.node (o_59_s10 P) (.node (o_91 P) (.node (o_155_s22 P) .nil .nil) .nil) (.node (o_123_s22 P) .nil .nil))))) (.node (boot_o_5 P) (.node (boot_o_9 P) (.node (o_17_s9 P) (.node (o_33_s9 P) (.node (o_65 P) (.node (o_129_s22 P) .nil .nil) .nil) (.node (o_97 P) (.node (o_161_s22 P) .nil .nil) .nil)) (.node (o_49_s9 P) (.node (o_81 P) (.node (o_145_s22 P) .nil .nil) .nil) (.node (o_113 P) .nil .nil))) (.node (o_25_s9 P) (.node (o_41_s9 P) (.node (o_73_s11 P) (.node (o_137_s22 P) .nil .nil) .nil) (.node (o_105 P) .nil .nil)) (.node (o_57_s9 P) (.node (o_89 P) (.node (o_153_s22 P) .nil .nil) .nil) (.node (o_121_s22 P) .nil .nil)))) (.node (o_13_a P) (.node (o_21_s9 P) (.node (o_37_s9 P) (.node (o_69_s11 P) (.node (o_133_s22 P) .nil .nil) .nil) (.node (o_101 P) (.node (o_165_s22 P) .nil .nil) .nil)) (.node (o_53_s9 P) (.node (o_85 P) (.node (o_149_s22 P) .nil .nil) .nil) (.node (o_117_s22 P) .nil .nil))) (.node (o_29_s9 P) (.node (o_45_s9 P) (.node (o_77 P) (.node (o_141_s22 P) .nil .nil) .nil) (.node (o_109 P) .nil .nil)) (.node (o_61_s10 P) (.node (o_93 P) (.node (o_157_s22 P) .nil .nil) .nil) (.node (o_125_s22 P) .nil .nil)))))) (.node (boot_o_2 P) (.node (boot_o_4 P) (.node (boot_o_8 P) (.node (o_16_s9 P) (.node (o_32_s9 P) (.node (o_64_s10 P) (.node (o_128_s22 P) .nil .nil) .nil) (.node (o_96 P) (.node (o_160_s22 P) .nil .nil) .nil)) (.node (o_48_s9 P) (.node (o_80 P) (.node (o_144_s22 P) .nil .nil) .nil) (.node (o_112 P) .nil .nil))) (.node (o_24_s9 P) (.node (o_40_s9 P) (.node (o_72_s11 P) (.node (o_136_s22 P) .nil .nil) .nil) (.node (o_104 P) .nil .nil)) (.node (o_56_s9 P) (.node (o_88 P) (.node (o_152_s22 P) .nil .nil) .nil) (.node (o_120_s22 P) .nil .nil)))) (.node (o_12_s22 P) (.node (o_20_s9 P) (.node (o_36_s9 P) (.node (o_68_s10 P) (.node (o_132_s22 P) .nil .nil) .nil) (.node (o_100 P) (.node (o_164_s22 P) .nil .nil) .nil)) (.node (o_52_s9 P) (.node (o_84 P) (.node (o_148_s22 P) .nil .nil) .nil) (.node (o_116_s22 P) .nil .nil))) (.node (o_28_s9 P) (.node (o_44_s9 P) (.node (o_76 P) (.node (o_140_s22 P) .nil .nil) .nil) (.node (o_108 P) .nil .nil)) (.node (o_60_s10 P) (.node (o_92 P) (.node (o_156_s22 P) .nil .nil) .nil) (.node (o_124_s22 P) .nil .nil))))) (.node (boot_o_6 P) (.node (boot_o_10 P) (.node (o_18_s9 P) (.node (o_34_s9 P) (.node (o_66_s10 P) (.node (o_130_s22 P) .nil .nil) .nil) (.node (o_98 P) (.node (o_162_s22 P) .nil .nil) .nil)) (.node (o_50_s9 P) (.node (o_82 P) (.node (o_146_s22 P) .nil .nil) .nil) (.node (o_114 P) .nil .nil))) (.node (o_26_s9 P) (.node (o_42_s9 P) (.node (o_74_s11 P) (.node (o_138_s22 P) .nil .nil) .nil) (.node (o_106 P) .nil .nil)) (.node (o_58_s10 P) (.node (o_90 P) (.node (o_154_s22 P) .nil .nil) .nil) (.node (o_122_s22 P) .nil .nil)))) (.node (o_14_a P) (.node (o_22_s9 P) (.node (o_38_s9 P) (.node (o_70_s11 P) (.node (o_134_s22 P) .nil .nil) .nil) (.node (o_102 P) .nil .nil)) (.node (o_54_s9 P) (.node (o_86 P) (.node (o_150_s22 P) .nil .nil) .nil) (.node (o_118_s22 P) .nil .nil))) (.node (o_30_s9 P) (.node (o_46_s9 P) (.node (o_78 P) (.node (o_142_s22 P) .nil .nil) .nil) (.node (o_110 P) .nil .nil)) (.node (o_62_s10 P) (.node (o_94 P) (.node (o_158_s22 P) .nil .nil) .nil) (.node (o_126_s22 P) .nil .nil)))))))
end
end Mine
end
section -- Hd1
open PySem PySem.W PyProof.Rows
namespace Mine
noncomputable section
noncomputable def envT : Env := { scope := pw.main.scope, locals := mainNs, globals := mainNs, cells := [], code := .ref 13, frame := some 14 }
noncomputable def posF : Pos := ⟨0, 0, 0, 0⟩
noncomputable def cT : Code := .body (behindTheImports pw) envT
noncomputable def stB : List Frame := [topFrame posF]
noncomputable def stT (t : Params → BT) (n k : Nat) (w : World) (os : OsState) : SharedT := ⟨t w.params, n, {}, #[], {}, k, os⟩
noncomputable def sA : List Stmt := [stAt 0, stAt 1, stAt 2, stAt 3, stAt 4, stAt 5, stAt 6, stAt 7, stAt 8, stAt 9]
noncomputable def sB : List Stmt := [stAt 10]
noncomputable def sC : List Stmt := [stAt 11]
noncomputable def sD : List Stmt := [stAt 12]
noncomputable def sE : List Stmt := [stAt 13, stAt 14, stAt 15, stAt 16, stAt 17, stAt 18, stAt 19, stAt 20, stAt 21, stAt 22]
theorem body_is : behindTheImports pw = sA ++ (sB ++ (sC ++ (sD ++ (sE ++ [])))) := by kernel_rfl
noncomputable def Piece (l : List Stmt) (n : Nat) (S : World → OsState → SharedT) (p : Pos) (S' : World → OsState → SharedT) (p' : Pos) (w : World) : Prop :=
  (fun os => segRunT treeTable pw w 11 (some (.ref 6)) 1 n (S w os) (piecesOf l envT cT p stB)) = fun os => some (.next, S' w os, cT, p')
theorem pA (w : World) : Piece sA 400 (stT t_a 15 187) posF (stT t_s9 58 284) ⟨73, 0, 73, 8⟩ w := by
  refine byRow2 "special-get-raises" (P := fun w => Piece sA 400 (stT t_a 15 187) posF (stT t_s9 58 284) ⟨73, 0, 73, 8⟩ w) ?_ ?_ w
  · intro w
    unfold Piece
    kernel_rfl
  · intro w
    unfold Piece
    kernel_rfl
theorem pC (w : World) : Piece sC 40 (stT t_s10 69 344) ⟨74, 0, 74, 6⟩ (stT t_s11 76 351) ⟨75, 0, 76, 30⟩ w := by
  unfold Piece
  kernel_rfl
theorem pE (w : World) : Piece sE 400 (stT t_s12 115 2302) ⟨77, 0, 77, 13⟩ (stT t_s22 166 2364) ⟨153, 0, 178, 116⟩ w := by
  unfold Piece
  kernel_rfl
end
end Mine
end
section -- Hd2
open PySem PySem.W PyProof.Rows
namespace Mine
def PB (w : World) : Prop := Piece sB 1000 (stT t_s9 58 284) ⟨73, 0, 73, 8⟩ (stT t_s10 69 344) ⟨74, 0, 74, 6⟩ w
theorem pB_ff (w : World) : PB ((w.withFollow "set-order" false).withFollow "special-get-raises" false) := by
  unfold PB Piece
  rw [Fast.te10110043849684766642, Fast.te14364793385576792824]
  kernel_rfl
theorem pB_tf (w : World) : PB ((w.withFollow "set-order" true).withFollow "special-get-raises" false) := by
  unfold PB Piece
  rw [Fast.te10110043849684766642, Fast.te14364793385576792824]
  kernel_rfl
theorem pB_ft (w : World) : PB ((w.withFollow "set-order" false).withFollow "special-get-raises" true) := by
  unfold PB Piece
  rw [Fast.te10110043849684766642, Fast.te14364793385576792824]
  kernel_rfl
theorem pB_tt (w : World) : PB ((w.withFollow "set-order" true).withFollow "special-get-raises" true) := by
  unfold PB Piece
  rw [Fast.te10110043849684766642, Fast.te14364793385576792824]
  kernel_rfl
theorem pB (w : World) : Piece sB 1000 (stT t_s9 58 284) ⟨73, 0, 73, 8⟩ (stT t_s10 69 344) ⟨74, 0, 74, 6⟩ w :=
  byRow2 "special-get-raises" (P := PB) (byRow2 "set-order" (P := fun w => PB (w.withFollow "special-get-raises" false)) pB_ff pB_tf) (byRow2 "set-order" (P := fun w => PB (w.withFollow "special-get-raises" true)) pB_ft pB_tt) w
end Mine
end
section -- Lp
open PySem PySem.W PyProof.Rows
namespace Mine
/-- the state of the top's run, its heap a list -/
noncomputable def sh (os : OsState) (l : List Obj) (k : Nat) : Shared := ⟨⟨l.toArray, {}⟩, #[], {}, k, os⟩
noncomputable def live (o : Obj) : Bool := match o.data with | .freed => false | _ => true
noncomputable def tame (c : Code) : Bool := match c with | .builtin id _ => !id.startsWith "lifetime." | _ => true
/-- local runs of a tree: what it hands on, what it leaves, what it costs -/
noncomputable def LP (w : World) {α : Type} : Sem α → (α → Pos → List Obj → Nat → Nat → Prop) → Pos → List Obj → Nat → Nat → Prop
  | .pure a, Q, p, l, k, c => Q a p l k c
  | .rule _ kk, Q, p, l, k, c => LP w (kk ()) Q p l k (c + 1)
  | .at q kk, Q, _, l, k, c => LP w (kk ()) Q q l k (c + 1)
  | .point _ kk, Q, p, l, k, c => LP w (kk ()) Q p l k (c + 1)
  | .ask kk, Q, p, l, k, c => LP w (kk ⟨pw, w.params⟩) Q p l k (c + 1)
  | .load a _ kk, Q, p, l, k, c => ∃ o, l[a]? = some o ∧ live o = true ∧ LP w (kk o) Q p l k (c + 1)
  | .update a _ f kk, Q, p, l, k, c => 11 ≤ a ∧ ∃ o, l[a]? = some o ∧ live o = true ∧ LP w (kk ()) Q p (l.set a (f o)) k (c + 1)
  | .alloc o kk, Q, p, l, k, c => LP w (kk l.length) Q p (l ++ [o]) k (c + 1)
  | .fresh kk, Q, p, l, k, c => LP w (kk k) Q p l (k + 1) (c + 1)
  | .call cd _ _ _ kk, Q, p, l, k, c => ∃ (c2 : Code) (f : Tok → Flow), denote treeTable cd = .pure (.again c2) ∧ tame c2 = true ∧ denote treeTable c2 = .fresh (fun t => .pure (.done (f t))) ∧ LP w (kk (.ok (f k))) Q p l (k + 1) (c + 4)
  | _, _, _, _, _, _ => False
section
variable {w : World} {α β : Type}
theorem exA {l : List Obj} {a : Nat} {F G : Obj → Prop} (h : ∀ o, F o = G o) : (∃ o, l[a]? = some o ∧ live o = true ∧ F o) = ∃ o, l[a]? = some o ∧ live o = true ∧ G o := by rw [show F = G from funext h]
theorem LP_bind (m : Sem α) (f : α → Sem β) (Q) (p l k c) : LP w (m.bind f) Q p l k c = LP w m (fun a p l k c => LP w (f a) Q p l k c) p l k c := by
  induction m generalizing p l k c with
  | rule _ _ ih | «at» _ _ ih | point _ _ ih | ask _ ih | alloc _ _ ih | fresh _ ih => exact ih _ _ _ _ _
  | load a q kk ih => exact exA fun o => ih _ _ _ _ _
  | update a q g kk ih => exact congrArg (11 ≤ a ∧ ·) (exA fun o => ih _ _ _ _ _)
  | call cd hd g lv kk ih => exact congrArg Exists (funext fun c2 => congrArg Exists (funext fun f => congrArg (denote treeTable cd = .pure (.again c2) ∧ tame c2 = true ∧ denote treeTable c2 = .fresh (fun t => .pure (.done (f t))) ∧ ·) (ih _ _ _ _ _)))
  | _ => rfl
theorem LP_keep (vs : List Value) (m : Sem α) (Q) (p l k c) : LP w (m.keep vs) Q p l k c = LP w m Q p l k c := by
  induction m generalizing p l k c with
  | rule _ _ ih | «at» _ _ ih | point _ _ ih | ask _ ih | alloc _ _ ih | fresh _ ih => exact ih _ _ _ _ _
  | load a q kk ih => exact exA fun o => ih _ _ _ _ _
  | update a q g kk ih => exact congrArg (11 ≤ a ∧ ·) (exA fun o => ih _ _ _ _ _)
  | call cd hd g lv kk ih => exact congrArg Exists (funext fun c2 => congrArg Exists (funext fun f => congrArg (denote treeTable cd = .pure (.again c2) ∧ tame c2 = true ∧ denote treeTable c2 = .fresh (fun t => .pure (.done (f t))) ∧ ·) (ih _ _ _ _ _)))
  | _ => rfl
theorem LP_holding (vs : List Value) (m : Sem α) (Q) (p l k c) : LP w (holding vs m) Q p l k c = LP w m Q p l k c := by
  unfold holding
  split
  · rfl
  · exact LP_keep ..
theorem LP_onRaise (m : Sem α) (h : Value → Sem Unit) (Q) (p l k c) (H : LP w m Q p l k c) : LP w (m.onRaise h) Q p l k c := by
  induction m generalizing p l k c with
  | pure => exact H
  | rule _ _ ih | «at» _ _ ih | point _ _ ih | ask _ ih | alloc _ _ ih | fresh _ ih => exact ih _ _ _ _ _ H
  | load a q kk ih => obtain ⟨o, h1, h2, h3⟩ := H; exact ⟨o, h1, h2, ih _ _ _ _ _ h3⟩
  | update a q f kk ih => obtain ⟨h0, o, h1, h2, h3⟩ := H; exact ⟨h0, o, h1, h2, ih _ _ _ _ _ h3⟩
  | call cd hd g lv kk ih => obtain ⟨c2, f, h1, h2, h3, h4⟩ := H; exact ⟨c2, f, h1, h2, h3, ih _ _ _ _ _ h4⟩
  | _ => exact H.elim
theorem LP_tryCatch (m : Sem α) (h : Value → Sem α) (Q) (p l k c) (H : LP w m Q p l k c) : LP w (m.tryCatch h) Q p l k c := by
  induction m generalizing p l k c with
  | pure => exact H
  | rule _ _ ih | «at» _ _ ih | point _ _ ih | ask _ ih | alloc _ _ ih | fresh _ ih => exact ih _ _ _ _ _ H
  | load a q kk ih => obtain ⟨o, h1, h2, h3⟩ := H; exact ⟨o, h1, h2, ih _ _ _ _ _ h3⟩
  | update a q f kk ih => obtain ⟨h0, o, h1, h2, h3⟩ := H; exact ⟨h0, o, h1, h2, ih _ _ _ _ _ h3⟩
  | call cd hd g lv kk ih => obtain ⟨c2, f, h1, h2, h3, h4⟩ := H; exact ⟨c2, f, h1, h2, h3, ih _ _ _ _ _ h4⟩
  | _ => exact H.elim
end
theorem sh_get {os : OsState} {l : List Obj} {k a : Nat} {o : Obj} (h : l[a]? = some o) (hl : live o = true) : (sh os l k).heap.get? a = some o := by
  show (match (l.toArray)[a]? with | some ⟨_, _, .freed, _⟩ => none | o => o) = some o
  rw [List.getElem?_toArray, h]
  obtain ⟨c, d, dt, sl⟩ := o
  cases dt <;> first | rfl | cases hl
theorem seg_step {w : World} {N : Nat} {s s' : Shared} {t t' : Thread} {r} (he : endAt 1 t = none) (hk : stepOk 11 (some (.ref 6)) t = true) (hs : step (denote treeTable) pw w s t = .go s' t')
    (h : segRun treeTable pw w 11 (some (.ref 6)) 1 N s' t' = some r) : segRun treeTable pw w 11 (some (.ref 6)) 1 (N + 1) s t = some r := by
  unfold segRun
  rw [he, hk, hs]
  exact h
theorem again_ok {c2 c1 : Code} {p : Pos} {st : List Frame} (h : tame c2 = true) : stepOk 11 (some (.ref 6)) ⟨.pure (.again c2), c1, p, st⟩ = true := by
  cases c2 <;> simp_all [stepOk, Thread.calm, Thread.atCollectorCode, Thread.yieldsInsideHandler, tame]
theorem LP_run {w : World} {os : OsState} {α : Type} {K : α → Sem Fin} {H : Value → Sem Fin} {gd : Bool → Bool} {lv : List Value → List Value} {cd : Code} {F : Frame} : ∀ (m : Sem α) {Q : α → Pos → List Obj → Nat → Nat → Prop} {p l k c}, LP w m Q p l k c →
    ∃ a p' l' k' c', Q a p' l' k' c' ∧ c ≤ c' ∧ ∀ N r, segRun treeTable pw w 11 (some (.ref 6)) 1 N (sh os l' k') ⟨K a, cd, p', [F]⟩ = some r →
      segRun treeTable pw w 11 (some (.ref 6)) 1 (N + (c' - c)) (sh os l k) ⟨m.wrap K H gd lv, cd, p, [F]⟩ = some r := by
  have one : ∀ {c c' N : Nat}, c + 1 ≤ c' → N + (c' - c) = N + (c' - (c + 1)) + 1 := by intros; omega
  intro m
  induction m with
  | pure a => intro Q p l k c h; exact ⟨a, p, l, k, c, h, Nat.le_refl _, fun N r q => by rw [Nat.sub_self, Nat.add_zero]; exact q⟩
  | rule _ kk ih | point _ kk ih =>
    intro Q p l k c h
    obtain ⟨a, p', l', k', c', hq, hc, hr⟩ := ih () h
    exact ⟨a, p', l', k', c', hq, by omega, fun N r q => by rw [one hc]; exact seg_step rfl rfl rfl (hr N r q)⟩
  | «at» q kk ih =>
    intro Q p l k c h
    obtain ⟨a, p', l', k', c', hq, hc, hr⟩ := ih () h
    exact ⟨a, p', l', k', c', hq, by omega, fun N r q => by rw [one hc]; exact seg_step rfl rfl rfl (hr N r q)⟩
  | ask kk ih =>
    intro Q p l k c h
    obtain ⟨a, p', l', k', c', hq, hc, hr⟩ := ih _ h
    exact ⟨a, p', l', k', c', hq, by omega, fun N r q => by rw [one hc]; exact seg_step rfl rfl rfl (hr N r q)⟩
  | fresh kk ih =>
    intro Q p l k c h
    obtain ⟨a, p', l', k', c', hq, hc, hr⟩ := ih _ h
    exact ⟨a, p', l', k', c', hq, by omega, fun N r q => by rw [one hc]; exact seg_step rfl rfl rfl (hr N r q)⟩
  | alloc o kk ih =>
    intro Q p l k c h
    obtain ⟨a, p', l', k', c', hq, hc, hr⟩ := ih _ h
    refine ⟨a, p', l', k', c', hq, by omega, fun N r q => ?_⟩
    rw [one hc]
    refine seg_step (s' := sh os (l ++ [o]) k) rfl rfl ?_ (hr N r q)
    show Step.go _ _ = _
    have e : (⟨l.toArray, {}⟩ : Heap).push o = ⟨(l ++ [o]).toArray, {}⟩ := by
      show Heap.mk _ _ = Heap.mk _ _
      simp
    rw [e]
    rfl
  | load ad q kk ih =>
    intro Q p l k c h
    obtain ⟨o, h1, h2, h3⟩ := h
    obtain ⟨a, p', l', k', c', hq, hc, hr⟩ := ih _ h3
    refine ⟨a, p', l', k', c', hq, by omega, fun N r q => ?_⟩
    rw [one hc]
    refine seg_step (s' := sh os l k) rfl rfl ?_ (hr N r q)
    have e := sh_get (os := os) (k := k) h1 h2
    show (match (sh os l k).heap.get? ad with | some o => _ | none => _) = _
    rw [e]
    rfl
  | update ad q f kk ih =>
    intro Q p l k c h
    obtain ⟨h0, o, h1, h2, h3⟩ := h
    obtain ⟨a, p', l', k', c', hq, hc, hr⟩ := ih _ h3
    refine ⟨a, p', l', k', c', hq, by omega, fun N r q => ?_⟩
    rw [one hc]
    have e := sh_get (os := os) (k := k) h1 h2
    refine seg_step (s' := sh os (l.set ad (f o)) k) rfl ?_ ?_ (hr N r q)
    · show (true && (Nat.ble 11 ad || _ || _ || _)) = true
      rw [Nat.ble_eq_true_of_le h0]; rfl
    · show (if ((sh os l k).heap.get? ad).isSome then _ else _) = _
      rw [e]
      show Step.go _ _ = _
      have e2 : (⟨l.toArray, {}⟩ : Heap).update ad f = ⟨(l.set ad (f o)).toArray, {}⟩ := by
        show Heap.mk _ _ = Heap.mk _ _
        congr 1
        apply Array.ext_getElem?
        intro i
        rw [Array.getElem?_modify, List.getElem?_toArray, List.getElem?_toArray, List.getElem?_set]
        by_cases hi : ad = i
        · subst hi
          rw [if_pos rfl, if_pos rfl, h1]
          have : ad < l.length := by
            rcases Nat.lt_or_ge ad l.length with x | x
            · exact x
            · rw [List.getElem?_eq_none x] at h1; cases h1
          simp [this]
        · rw [if_neg hi, if_neg hi]
      rw [e2]
      rfl
  | call c1 hd g lv' kk ih =>
    intro Q p l k c h
    obtain ⟨c2, f, h1, h2, h3, h4⟩ := h
    obtain ⟨a, p', l', k', c', hq, hc, hr⟩ := ih _ h4
    refine ⟨a, p', l', k', c', hq, by omega, fun N r q => ?_⟩
    rw [show N + (c' - c) = N + (c' - (c + 4)) + 1 + 1 + 1 + 1 by omega]
    refine seg_step (t' := ⟨denote treeTable c1, c1, p, _⟩) rfl rfl rfl ?_
    rw [h1]
    refine seg_step (s' := sh os l k) rfl ?_ step_again ?_
    · exact again_ok h2
    rw [h3]
    refine seg_step (s' := sh os l (k + 1)) rfl rfl rfl ?_
    exact seg_step rfl rfl rfl (hr N r q)
  | _ => intro Q p l k c h; exact h.elim
end Mine
end
section -- Lq
open PySem PySem.W PyProof.Rows
namespace Mine
section
variable {w : World} {α β : Type}
theorem LPb {m : Sem α} {f : α → Sem β} {Q p l k c} (h : LP w m (fun a p l k c => LP w (f a) Q p l k c) p l k c) : LP w (m >>= f) Q p l k c := by
  show LP w (m.bind f) Q p l k c
  rw [LP_bind]; exact h
theorem LPh {vs : List Value} {m : Sem α} {Q p l k c} (h : LP w m Q p l k c) : LP w (holding vs m) Q p l k c := by
  rw [LP_holding]; exact h
theorem LPp {a : α} {Q p l k c} (h : Q a p l k c) : LP w (pure a : Sem α) Q p l k c := h
end
theorem den_hash1 (i : Int) (t : Tok) : denote treeTable (.call (.builtin "int.__hash__") ⟨[.int i t], []⟩) = .pure (.again (.builtin "int.__hash__" ⟨[.int i t], []⟩)) := by kernel_rfl
theorem den_hash2 (i : Int) (t : Tok) : denote treeTable (.builtin "int.__hash__" ⟨[.int i t], []⟩) = .fresh (fun u => .pure (.done (.ret (.int (PySem.rawHash i) u)))) := by kernel_rfl
theorem rawHash_small {i : Int} (h0 : 0 ≤ i) (h1 : i < 2147483648) : PySem.rawHash i = i := by
  unfold PySem.rawHash
  have a : ((2 ^ 61 - 1 : Nat) : Int) = 2305843009213693951 := by decide
  have b : ((i.natAbs : Nat) : Int) % 2305843009213693951 = i := by grind
  rw [a, b]
  simp only []
  rw [if_neg (by lia : ¬ i < 0), if_neg (by rw [beq_iff_eq]; grind)]
theorem LP_hash {w : World} {i : Int} {t : Tok} {Q p l k c} (h0 : 0 ≤ i) (h1 : i < 2147483648) (h : Q i p l (k + 1) (c + 5)) : LP w (pyHash (.int i t)) Q p l k c := by
  have hr := rawHash_small h0 h1
  show LP w (pyHashByItsType (.int i t)) Q p l k c
  unfold pyHashByItsType
  have hv : [Value.int i t].any Value.onHeap = false := rfl
  refine LPb ?_
  rw [cRoomFor, if_neg (by rw [hv]; exact Bool.false_ne_true)]
  refine LPp ?_
  have hs : specialOf (.int i t) "__hash__" = pure (some (.builtin "int.__hash__")) := slot_int_hash.lookup
  rw [hs]
  refine LPb (LPp ?_)
  show LP w (if (some (Value.builtin "int.__hash__") == some Value.none) = true then _ else _) Q p l k c
  rw [if_neg (by rw [beq_builtin_none]; exact Bool.false_ne_true)]
  refine LPb (LPp ?_)
  show LP w (callSpecialIfBoundUnlessNone? (.int i t) "__hash__" _ >>= _) Q p l k c
  refine LPb ?_
  simp only [callSpecialIfBoundUnlessNone?, bindSpecialIfBound?]
  rw [hs]
  refine LPh (LPb (LPb (LPp ?_)))
  simp only [slot_int_hash.bind]
  have fin : ∀ (refuse : Sem Value) (Q' : Option Value → Pos → List Obj → Nat → Nat → Prop), Q' (some (.int (PySem.rawHash i) k)) p l (k + 1) (c + 5) →
      LP w (if (Value.builtin "int.__hash__" == Value.none) = true then (refuse >>= fun v => pure (some v)) else (call (.builtin "int.__hash__") [.int i t] >>= fun v => pure (some v))) Q' p l k (c + 1) := by
    intro refuse Q' hQ
    rw [if_neg (by simp)]
    exact LPb ⟨.builtin "int.__hash__" ⟨[.int i t], []⟩, _, den_hash1 i t, by show (!("int.__hash__" : String).startsWith "lifetime.") = true; decide +kernel, den_hash2 i t, hQ⟩
  have key : LP w (pyHashByItsType.reduced (PySem.rawHash i)) Q p l (k + 1) (c + 5) := by
    rw [hr]
    unfold pyHashByItsType.reduced
    rw [if_pos (by simp; lia)]
    show Q (if (i == -1) = true then -2 else i) p l (k + 1) (c + 5)
    rw [if_neg (by simp; grind)]
    exact h
  refine LPb ?_
  show LP w (if w.params.followText "special-get-raises" = true then _ else _) _ p l k (c + 1)
  split
  · exact LPb (LPp (LPp (fin _ _ key)))
  · exact LP_tryCatch _ _ _ _ _ _ _ (LPb (LPp (LPp (fin _ _ key))))

theorem places_none {es : Array DictEntry} {h : Int} (hlt : ∀ e ∈ es.toList, e.hash < h) : placesWithHash es.size (fun i => es[i]?.map (·.hash)) h = [] := by
  unfold placesWithHash
  rw [List.filter_eq_nil_iff]
  intro i hi
  have hi' := List.mem_range.mp hi
  dsimp only
  rw [Array.getElem?_eq_getElem hi']
  have := hlt es[i] (Array.getElem_mem_toList hi')
  simp
  grind
/-- a plain dict of entries -/
noncomputable abbrev dO (es : List DictEntry) (n : Nat) : Obj := ⟨.type "dict", none, .dict es.toArray n, #[]⟩
theorem LP_find {w : World} {d : Nat} {i : Int} {t : Tok} {es : List DictEntry} {n : Nat} {Q p l k c} (hd : l[d]? = some (dO es n)) (hlt : ∀ e ∈ es, e.hash < i) (h : Q none p l k (c + 1)) :
    LP w (dictFind d (.int i t) i) Q p l k c := by
  unfold dictFind
  refine LPh (LPb ?_)
  refine LPb ⟨_, hd, rfl, LPp ?_⟩
  show LP w (pure es.toArray) _ p l k (c + 1)
  refine LPp ?_
  show LP w (let places := placesWithHash es.toArray.size (fun i => es.toArray[i]?.map (·.hash)) i; _) Q p l k (c + 1)
  rw [places_none (by simpa using hlt)]
  exact h
theorem LP_newkey {w : World} {d : Nat} {es : List DictEntry} {n : Nat} {e : DictEntry} {part : Option Value} {Q : Unit → Pos → List Obj → Nat → Nat → Prop} {p l k c} (h11 : 11 ≤ d) (hd : l[d]? = some (dO es n)) (hs : es.length < 10000)
    (h : Q () p (l.set d (dO (es ++ [e]) (n + 1))) k (c + 3)) : LP w (updateDictKeys d (·.push e) part) Q p l k c := by
  unfold updateDictKeys
  refine LPb ⟨_, hd, rfl, LPp ?_⟩
  refine LPb ⟨h11, _, hd, rfl, LPp ?_⟩
  have hl : d < l.length := by
    rcases Nat.lt_or_ge d l.length with x | x
    · exact x
    · rw [List.getElem?_eq_none x] at hd; cases hd
  have e1 : Obj.mapDictKeys (·.push e) (dO es n) = dO (es ++ [e]) (n + 1) := by
    show Obj.mk _ _ (.dict (es.toArray.push e) (n + 1)) _ = _
    simp
  show LP w (lookBehind d part) Q p (l.set d (Obj.mapDictKeys (·.push e) (dO es n))) k (c + 2)
  rw [e1]
  unfold lookBehind
  refine LPb ⟨_, by rw [List.getElem?_set_self hl], rfl, LPp ?_⟩
  have e2 : (dO (es ++ [e]) (n + 1)).data.pastItsLine = none := by
    show (if (es ++ [e]).toArray.size > sizeLine + 1 then some "dict:memory" else none) = none
    rw [if_neg]
    have : sizeLine = 16777216 := by decide
    simp
    lia
  dsimp only
  rw [show (Data.dict (es ++ [e]).toArray (n + 1)).pastItsLine = none from e2]
  exact h
theorem LP_put {w : World} {d : Nat} {i : Int} {t : Tok} {v : Value} {es : List DictEntry} {n : Nat} {Q : Unit → Pos → List Obj → Nat → Nat → Prop} {p l k c} (h11 : 11 ≤ d) (hd : l[d]? = some (dO es n)) (hlt : ∀ e ∈ es, e.hash < i) (hs : es.length < 10000)
    (h : Q () p (l.set d (dO (es ++ [⟨i, .int i t, v⟩]) (n + 1))) k (c + 4)) : LP w (dictPut d i (.int i t) v) Q p l k c := by
  unfold dictPut
  exact LPb (LP_find hd hlt (LP_newkey h11 hd hs h))
theorem LP_set {w : World} {d : Nat} {i : Int} {t : Tok} {v : Value} {es : List DictEntry} {n : Nat} {Q : Unit → Pos → List Obj → Nat → Nat → Prop} {p l k c} (h11 : 11 ≤ d) (hd : l[d]? = some (dO es n)) (hlt : ∀ e ∈ es, e.hash < i) (hs : es.length < 10000)
    (h0 : 0 ≤ i) (h1 : i < 2147483648) (h : Q () p (l.set d (dO (es ++ [⟨i, .int i t, v⟩]) (n + 1))) (k + 1) (c + 10)) : LP w (dictSet d (.int i t) v) Q p l k c := by
  unfold dictSet
  refine LPh (LPb (LP_hash h0 h1 ?_))
  unfold dictSetHashed
  refine LPh (LPb (LP_find hd hlt ?_))
  refine LPb ?_
  show LP w (updateDictKeys d _ _) Q p l (k + 1) (c + 7)
  exact LP_newkey h11 hd hs h
end Mine
end
section -- Lr
open PySem PySem.W PyProof.Rows
namespace Mine
noncomputable abbrev Prs := List (Int × Str)
noncomputable def itm (pd : Pos) (q : Int × Str) : Sem Value × Sem Value := (mkInt q.1, do let x ← mkText q.2; standAt pd; pure x)
noncomputable def okK (q : Int × Str) : Prop := 0 ≤ q.1 ∧ q.1 < 2147483648
noncomputable def Up (ps : Prs) : Prop := ps.Pairwise (fun a b => a.1 < b.1) ∧ ∀ q ∈ ps, okK q
noncomputable def Under (es : List DictEntry) (ps : Prs) : Prop := ∀ e ∈ es, ∀ q ∈ ps, e.hash < q.1
theorem Up.tail {q : Int × Str} {ps : Prs} (h : Up (q :: ps)) : Up ps := ⟨(List.pairwise_cons.mp h.1).2, fun x hx => h.2 x (.tail _ hx)⟩
theorem Under.next {es : List DictEntry} {q : Int × Str} {ps : Prs} {v1 v2 : Value} (h : Under es (q :: ps)) (u : Up (q :: ps)) : Under (es ++ [⟨q.1, v1, v2⟩]) ps := by
  intro e he x hx
  rcases List.mem_append.mp he with he | he
  · exact h e he x (.tail _ hx)
  · rw [List.mem_singleton] at he; subst he
    exact (List.pairwise_cons.mp u.1).1 x hx
section
variable {w : World} {pd : Pos}
theorem LP_alloc {o : Obj} {Q : Addr → Pos → List Obj → Nat → Nat → Prop} {p l k c} (h : Q l.length p (l ++ [o]) k (c + 1)) : LP w (alloc o) Q p l k c := h
theorem LP_rule {g : String} {Q : Unit → Pos → List Obj → Nat → Nat → Prop} {p l k c} (h : Q () p l k (c + 1)) : LP w (rule g) Q p l k c := h
theorem LP_mkInt {i : Int} {Q : Value → Pos → List Obj → Nat → Nat → Prop} {p l k c} (h : Q (.int i k) p l (k + 1) (c + 1)) : LP w (mkInt i) Q p l k c := h
theorem LP_mkText {x : Str} {Q : Value → Pos → List Obj → Nat → Nat → Prop} {p l k c} (h : Q (.str x k) p l (k + 1) (c + 1)) : LP w (mkText x) Q p l k c := h
theorem LP_at {q : Pos} {Q : Unit → Pos → List Obj → Nat → Nat → Prop} {p l k c} (h : Q () q l k (c + 1)) : LP w (standAt q) Q p l k c := h
theorem lt_of_get {l : List Obj} {d : Nat} {o : Obj} (hd : l[d]? = some o) : d < l.length := by
  rcases Nat.lt_or_ge d l.length with x | x
  · exact x
  · rw [List.getElem?_eq_none x] at hd; cases hd
theorem loopSet {d : Nat} (f : Sem Value × Sem Value → PUnit → Sem (ForInStep PUnit))
    (hf : ∀ (q : Int × Str) es n (Q : ForInStep PUnit → Pos → List Obj → Nat → Nat → Prop) p l t c, l[d]? = some (dO es n) → (∀ e ∈ es, e.hash < q.1) → es.length < 10000 → okK q →
      Q (.yield ⟨⟩) pd (l.set d (dO (es ++ [⟨q.1, .int q.1 t, .str q.2 (t + 1)⟩]) (n + 1))) (t + 3) (c + 13) → LP w (f (itm pd q) ⟨⟩) Q p l t c) :
    ∀ (ps : Prs) es n (Q : PUnit → Pos → List Obj → Nat → Nat → Prop) p l t c, l[d]? = some (dO es n) → Up ps → Under es ps → es.length + ps.length < 10000 →
      (∀ p', Q ⟨⟩ p' (l.set d (dO (es ++ ent3 3 ps t) (n + ps.length))) (t + 3 * ps.length) (c + 13 * ps.length)) → LP w (forIn (ps.map (itm pd)) PUnit.unit f) Q p l t c := by
  intro ps
  induction ps with
  | nil =>
    intro es n Q p l t c hd _ _ _ h
    have := h p
    simp only [ent3, List.append_nil, List.length_nil, Nat.mul_zero, Nat.add_zero] at this
    rw [List.map_nil, List.forIn_nil]
    have e : l.set d (dO es n) = l := by
      apply List.ext_getElem?
      intro i
      rw [List.getElem?_set]
      by_cases hi : d = i
      · subst hi; rw [if_pos rfl, if_pos (lt_of_get hd), hd]
      · rw [if_neg hi]
    rw [e] at this
    exact LPp this
  | cons q ps ih =>
    intro es n Q p l t c hd u un hs h
    rw [List.map_cons, List.forIn_cons]
    refine LPb (hf q es n _ p l t c hd (fun e he => un e he q (.head _)) (by simp only [List.length_cons] at hs; grind) (u.2 q (.head _)) ?_)
    dsimp only
    have hl := lt_of_get hd
    refine ih (es ++ [⟨q.1, .int q.1 t, .str q.2 (t + 1)⟩]) (n + 1) Q pd _ (t + 3) (c + 13) (List.getElem?_set_self hl) u.tail (un.next u) (by simp only [List.length_append, List.length_cons, List.length_nil] at hs ⊢; lia) fun p' => ?_
    have := h p'
    rw [List.set_set]
    simp only [ent3, List.length_cons] at this
    rw [List.append_assoc, List.singleton_append, show n + 1 + ps.length = n + (ps.length + 1) by exact Nat.add_right_comm _ _ _, show t + 3 + 3 * ps.length = t + 3 * (ps.length + 1) by exact Nat.add_right_comm _ _ _, show c + 13 + 13 * ps.length = c + 13 * (ps.length + 1) by exact Nat.add_right_comm _ _ _]
    exact this
theorem get_app (l : List Obj) (o : Obj) : (l ++ [o])[l.length]? = some o := by simp
theorem set_app (l : List Obj) (o o' : Obj) : (l ++ [o]).set l.length o' = l ++ [o'] := by simp
theorem LP_sub {ps : Prs} {Q : Addr → Pos → List Obj → Nat → Nat → Prop} {p l t c} (hl : 11 ≤ l.length) (hlen : 15 < ps.length) (hlen' : ps.length < 5000) (u : Up ps)
    (h : ∀ p', Q l.length p' (l ++ [dO (ent3 3 ps t) ps.length]) (t + 3 * ps.length) (c + 2 + 13 * ps.length)) : LP w (subDict (ps.map (itm pd))) Q p l t c := by
  unfold subDict
  refine LPb (LP_alloc ?_)
  refine LPb (LPh ?_)
  rw [if_neg (by rw [List.length_map]; exact Nat.not_le_of_lt (by assumption))]
  refine LPb (LP_rule ?_)
  refine LPb ?_
  refine loopSet (d := l.length) (pd := pd) _ ?_ ps [] 0 _ p (l ++ [dO [] 0]) t (c + 2) (get_app ..) u (fun e he => nomatch he) (by simp only [List.length_nil]; lia) ?_
  · intro q es n Q p l' t c hd hlt hs hk hQ
    refine LPb (LP_mkInt ?_)
    refine LPb (LPh ?_)
    refine LPb (LP_mkText ?_)
    refine LPb (LP_at ?_)
    refine LPp (LPb (LPh ?_))
    exact LP_set hl hd hlt hs hk.1 hk.2 (LPp hQ)
  · intro p'
    refine LPp ?_
    refine LPp ?_
    have := h p'
    rw [set_app, List.nil_append, Nat.zero_add]
    exact this
/-- a short run: all is evaluated first -/
theorem LP_pairs : ∀ (ps : Prs) (Q : List (Value × Value) → Pos → List Obj → Nat → Nat → Prop) p l t c, (∀ p', Q ((ent3 2 ps t).map fun e => (e.key, e.val)) p' l (t + 2 * ps.length) (c + 3 * ps.length)) →
    LP w (evalPairs (ps.map (itm pd))) Q p l t c := by
  intro ps
  induction ps with
  | nil => intro Q p l t c h; exact LPp (h p)
  | cons q ps ih =>
    intro Q p l t c h
    show LP w (mkInt q.1 >>= fun kv => holding [kv] (itm pd q).2 >>= fun vv => holding [kv, vv] (evalPairs (ps.map (itm pd))) >>= fun r => pure ((kv, vv) :: r)) Q p l t c
    refine LPb (LP_mkInt (LPb (LPh ?_)))
    refine LPb (LP_mkText (LPb (LP_at (LPp ?_))))
    refine LPb (LPh (ih _ _ _ _ _ fun p' => LPp ?_))
    have := h p'
    simp only [ent3, List.length_cons, List.map_cons] at this
    rw [show t + 1 + 1 + 2 * ps.length = t + 2 * (ps.length + 1) by simp +arith only, show c + 1 + 1 + 1 + 3 * ps.length = c + 3 * (ps.length + 1) by simp +arith only]
    exact this
theorem loopSet2 {d : Nat} (f : Value × Value → PUnit → Sem (ForInStep PUnit))
    (hf : ∀ (q : Int × Str) (t0 : Nat) es n (Q : ForInStep PUnit → Pos → List Obj → Nat → Nat → Prop) p l t c, l[d]? = some (dO es n) → (∀ e ∈ es, e.hash < q.1) → es.length < 10000 → okK q →
      Q (.yield ⟨⟩) p (l.set d (dO (es ++ [⟨q.1, .int q.1 t0, .str q.2 (t0 + 1)⟩]) (n + 1))) (t + 1) (c + 10) → LP w (f (.int q.1 t0, .str q.2 (t0 + 1)) ⟨⟩) Q p l t c) :
    ∀ (ps : Prs) (t0 : Nat) es n (Q : PUnit → Pos → List Obj → Nat → Nat → Prop) p l t c, l[d]? = some (dO es n) → Up ps → Under es ps → es.length + ps.length < 10000 →
      (Q ⟨⟩ p (l.set d (dO (es ++ ent3 2 ps t0) (n + ps.length))) (t + ps.length) (c + 10 * ps.length)) → LP w (forIn ((ent3 2 ps t0).map fun e => (e.key, e.val)) PUnit.unit f) Q p l t c := by
  intro ps
  induction ps with
  | nil =>
    intro t0 es n Q p l t c hd _ _ _ this
    simp only [ent3, List.append_nil, List.length_nil, Nat.mul_zero, Nat.add_zero] at this
    show LP w (forIn [] PUnit.unit f) Q p l t c
    rw [List.forIn_nil]
    have e : l.set d (dO es n) = l := by
      apply List.ext_getElem?
      intro i
      rw [List.getElem?_set]
      by_cases hi : d = i
      · subst hi; rw [if_pos rfl, if_pos (lt_of_get hd), hd]
      · rw [if_neg hi]
    rw [e] at this
    exact LPp this
  | cons q ps ih =>
    intro t0 es n Q p l t c hd u un hs this
    show LP w (forIn ((.int q.1 t0, .str q.2 (t0 + 1)) :: (ent3 2 ps (t0 + 2)).map fun e => (e.key, e.val)) PUnit.unit f) Q p l t c
    rw [List.forIn_cons]
    refine LPb (hf q t0 es n _ p l t c hd (fun e he => un e he q (.head _)) (by simp only [List.length_cons] at hs; omega) (u.2 q (.head _)) ?_)
    dsimp only
    have hl := lt_of_get hd
    refine ih (t0 + 2) (es ++ [⟨q.1, .int q.1 t0, .str q.2 (t0 + 1)⟩]) (n + 1) Q p _ (t + 1) (c + 10) (List.getElem?_set_self hl) u.tail (un.next u) (by simp only [List.length_append, List.length_cons, List.length_nil] at hs ⊢; omega) ?_
    rw [List.set_set]
    simp only [ent3, List.length_cons] at this
    rw [List.append_assoc, List.singleton_append, show n + 1 + ps.length = n + (ps.length + 1) by exact Nat.add_right_comm _ _ _, show t + 1 + ps.length = t + (ps.length + 1) by exact Nat.add_right_comm _ _ _, show c + 10 + 10 * ps.length = c + 10 * (ps.length + 1) by exact Nat.add_right_comm _ _ _]
    exact this
theorem LP_sub2 {ps : Prs} {Q : Addr → Pos → List Obj → Nat → Nat → Prop} {p l t c} (hl : 11 ≤ l.length) (hlen : ps.length ≤ 15) (u : Up ps)
    (h : ∀ p', Q l.length p' (l ++ [dO (ent3 2 ps t) ps.length]) (t + 2 * ps.length + ps.length) (c + 1 + 3 * ps.length + 10 * ps.length)) : LP w (subDict (ps.map (itm pd))) Q p l t c := by
  unfold subDict
  refine LPb (LP_alloc ?_)
  refine LPb (LPh ?_)
  rw [if_pos (by rw [List.length_map]; simp only [*])]
  refine LPb (LP_pairs ps _ _ _ _ _ fun p' => ?_)
  refine LPh (LPb ?_)
  refine loopSet2 (d := l.length) _ ?_ ps t [] 0 _ p' (l ++ [dO [] 0]) _ _ (get_app ..) u (fun e he => nomatch he) (by simp only [List.length_nil]; lia) ?_
  · intro q t0 es n Q p l' t c hd hlt hs hk hQ
    refine LPb ?_
    exact LP_set hl hd hlt hs hk.1 hk.2 (LPp hQ)
  · refine LPp ?_
    refine LPp ?_
    have := h p'
    rw [set_app, List.nil_append, Nat.zero_add]
    exact this
end
end Mine
end
section -- Ls
open PySem PySem.W PyProof.Rows
namespace Mine
theorem iter_dict : typeLookup (.type "dict") "__iter__" = pure (some (.builtin "dict.__iter__")) := by rw [typeLookup_type, builtinLookup_eq_fast]; kernel_rfl
theorem sub_dict : isSubtype (.type "dict") (.type "dict") = pure true := by rw [isSubtype_type]; kernel_rfl
section
variable {w : World} {pd : Pos}
/-- entries as a run of pairs lays them -/
inductive Ents : List DictEntry → Prs → Prop
  | nil : Ents [] []
  | cons {k : Int} {v : Str} {t u : Nat} {es : List DictEntry} {ps : Prs} : Ents es ps → Ents (⟨k, .int k t, .str v u⟩ :: es) ((k, v) :: ps)
theorem ents_ent3 (st : Nat) : ∀ (ps : Prs) (t : Nat), Ents (ent3 st ps t) ps
  | [], _ => .nil
  | (_k, _v) :: r, t => .cons (ents_ent3 st r (t + st))
theorem Ents.len {es ps} (h : Ents es ps) : es.length = ps.length := by induction h with | nil => rfl | cons _ ih => simp [ih]
theorem LP_dictE {d : Nat} {part : Option Value} {es : List DictEntry} {n : Nat} {Q : Array DictEntry → Pos → List Obj → Nat → Nat → Prop} {p l k c} (hd : l[d]? = some (dO es n)) (h : Q es.toArray p l k (c + 1)) : LP w (dictEntries d part) Q p l k c := by
  unfold dictEntries
  exact LPb ⟨_, hd, rfl, LPp (LPp h)⟩
theorem LP_dictN {d : Nat} {part : Option Value} {es : List DictEntry} {n : Nat} {Q : Nat → Pos → List Obj → Nat → Nat → Prop} {p l k c} (hd : l[d]? = some (dO es n)) (h : Q n p l k (c + 1)) : LP w (dictEpoch d part) Q p l k c := by
  unfold dictEpoch
  exact LPb ⟨_, hd, rfl, LPp (LPp h)⟩
theorem LP_typeOf {d : Nat} {es : List DictEntry} {n : Nat} {Q : Value → Pos → List Obj → Nat → Nat → Prop} {p l k c} (hd : l[d]? = some (dO es n)) (h : Q (.type "dict") p l k (c + 1)) : LP w (typeOf (.ref d)) Q p l k c := by
  show LP w (loadHead d >>= fun o => pure o.cls) Q p l k c
  exact LPb ⟨_, hd, rfl, LPp (LPp h)⟩

theorem loopMerge {d a : Nat} (hda : d ≠ a) {es2 : List DictEntry} {n2 : Nat} (f : Nat → PUnit → Sem (ForInStep PUnit))
    (hf : ∀ (i : Nat) (k : Int) (v : Str) (t0 u0 : Nat) es n (Q : ForInStep PUnit → Pos → List Obj → Nat → Nat → Prop) p l t c, es2[i]? = some ⟨k, .int k t0, .str v u0⟩ → l[a]? = some (dO es2 n2) → l[d]? = some (dO es n) → (∀ e ∈ es, e.hash < k) → es.length < 10000 →
      Q (.yield ⟨⟩) p (l.set d (dO (es ++ [⟨k, .int k t0, .str v u0⟩]) (n + 1))) t (c + 6) → LP w (f i ⟨⟩) Q p l t c) :
    ∀ (ps : Prs) (rest : List DictEntry) (m : Nat) es n (Q : PUnit → Pos → List Obj → Nat → Nat → Prop) p l t c, Ents rest ps → es2.drop m = rest → l[a]? = some (dO es2 n2) → l[d]? = some (dO es n) → Up ps → Under es ps → es.length + ps.length < 10000 →
      (Q ⟨⟩ p (l.set d (dO (es ++ rest) (n + ps.length))) t (c + 6 * ps.length)) → LP w (forIn (List.range' m ps.length) PUnit.unit f) Q p l t c := by
  intro ps
  induction ps with
  | nil =>
    intro rest m es n Q p l t c he hr ha hd _ _ _ this
    cases he
    simp only [List.append_nil, List.length_nil, Nat.mul_zero, Nat.add_zero] at this
    show LP w (forIn [] PUnit.unit f) Q p l t c
    rw [List.forIn_nil]
    have e : l.set d (dO es n) = l := by
      apply List.ext_getElem?
      intro i
      rw [List.getElem?_set]
      by_cases hi : d = i
      · subst hi; rw [if_pos rfl, if_pos (lt_of_get hd), hd]
      · rw [if_neg hi]
    rw [e] at this
    exact LPp this
  | cons q ps ih =>
    intro rest m es n Q p l t c he hr ha hd u un hs this
    cases he with
    | @cons k v t0 u0 es' _ he' =>
      rw [List.length_cons, List.range'_succ, List.forIn_cons]
      have g : es2[m]? = some ⟨k, .int k t0, .str v u0⟩ := by
        rw [← List.head?_drop, hr]; rfl
      refine LPb (hf m k v t0 u0 es n _ p l t c g ha hd (fun e he => un e he (k, v) (.head _)) (by simp only [List.length_cons] at hs; grind) ?_)
      dsimp only
      have hl := lt_of_get hd
      refine ih es' (m + 1) (es ++ [⟨k, .int k t0, .str v u0⟩]) (n + 1) Q p _ t (c + 6) he' (by rw [← List.tail_drop, hr]; rfl) (by rw [List.getElem?_set_ne hda]; exact ha) (List.getElem?_set_self hl) u.tail (un.next u) (by simp only [List.length_append, List.length_cons, List.length_nil] at hs ⊢; lia) ?_
      rw [List.set_set]
      simp only [List.length_cons] at this
      rw [List.append_assoc, List.singleton_append, show n + 1 + ps.length = n + (ps.length + 1) by exact Nat.add_right_comm _ _ _, show c + 6 + 6 * ps.length = c + 6 * (ps.length + 1) by exact Nat.add_right_comm _ _ _]
      exact this
theorem LP_merge {d a : Nat} (hda : d ≠ a) (h11 : 11 ≤ d) (h11' : 11 ≤ a) {es es2 : List DictEntry} {n n2 : Nat} {ps : Prs} {Q : Unit → Pos → List Obj → Nat → Nat → Prop} {p l t c} (he : Ents es2 ps) (hne : es ≠ [])
    (ha : l[a]? = some (dO es2 n2)) (hd : l[d]? = some (dO es n)) (u : Up ps) (un : Under es ps) (hs : es.length + ps.length < 10000)
    (h : Q () p (l.set d (dO (es ++ es2) (n + ps.length))) t (c + 5 + 6 * ps.length)) : LP w (mergeMapping d (.ref a) false) Q p l t c := by
  unfold mergeMapping
  refine LPb (LPb (LP_typeOf ha ?_))
  rw [sub_dict]
  refine LPp ?_
  rw [if_pos rfl]
  refine LPb ?_
  unfold specialOf
  refine LPb (LP_typeOf ha ?_)
  rw [iter_dict]
  refine LPp (LPb (LPp ?_))
  have e1 : ((some (Value.builtin "dict.__iter__") == some (Value.builtin "dict.__iter__")) : Bool) = true := by simp
  rw [e1]
  dsimp only
  have e2 : (a == sysModules) = false := by
    rw [beq_eq_false_iff_ne]
    intro e
    have h1 : a = 1 := e
    grind
  rw [e2]
  rw [if_neg (by simp)]
  refine LPb (LP_dictE hd ?_)
  have e3 : es.toArray.isEmpty = false := by
    cases es with
    | nil => exact absurd rfl hne
    | cons => rfl
  rw [e3, if_neg (by simp)]
  refine LPb (LP_dictE ha ?_)
  refine LPb (LP_dictN ha ?_)
  refine LPb ?_
  have hz : es2.toArray.size = ps.length := by simp [he.len]
  rw [hz, List.range_eq_range']
  refine loopMerge hda (es2 := es2) (n2 := n2) _ ?_ ps es2 0 es n _ p l t (c + 5) he rfl ha hd u un hs (LPp h)
  intro i k v t0 u0 es n Q p l t c g ha hd hlt hs hQ
  refine LPb (LP_dictE ha ?_)
  rw [List.getElem?_toArray, g]
  dsimp only
  refine LPb (LPh ?_)
  rw [if_neg (by simp)]
  refine LP_put h11 hd hlt hs ?_
  refine LPb (LP_dictN (n := n2) (es := es2) (by rw [List.getElem?_set_ne hda]; exact ha) ?_)
  rw [if_neg (by simp)]
  exact LPp hQ
end
end Mine
end
section -- Lt
open PySem PySem.W PyProof.Rows
namespace Mine
noncomputable abbrev Item := Option (Sem Value) × Sem Value
noncomputable abbrev DSt := Option Addr × List (Sem Value × Sem Value)
structure DD where
  body : Item → DSt → Sem (ForInStep DSt)
  cont : DSt → Sem Value
  eq : ∀ items, dictDisplay items = (forIn items ((none, []) : DSt) body) >>= cont
noncomputable def dd : DD := ⟨_, _, fun items => by unfold dictDisplay; rfl⟩
noncomputable def item (pd : Pos) (q : Int × Str) : Item := (some (itm pd q).1, (itm pd q).2)
section
variable {w : World} {pd : Pos} {Q : DSt → Pos → List Obj → Nat → Nat → Prop}
theorem LPu {α β : Type} {m : Sem α} {f : α → Sem β} {Q p l k c} (h : LP w (m >>= f) Q p l k c) : LP w m (fun a p l k c => LP w (f a) Q p l k c) p l k c := by
  rw [← LP_bind]; exact h
theorem body_more {q : Int × Str} {main : Option Addr} {run : List (Sem Value × Sem Value)} (h : run.length ≠ 16) : dd.body (item pd q) (main, run) = pure (.yield (main, run ++ [itm pd q])) := by
  show (if ((run ++ [itm pd q]).length == 17) = true then _ else _) = _
  rw [if_neg (by simp; assumption)]
theorem acc : ∀ (ps run : Prs) (main : Option Addr) (rest : List Item) p l t c, run.length + ps.length < 17 → LP w (forIn rest ((main, (run ++ ps).map (itm pd)) : DSt) dd.body) Q p l t c →
    LP w (forIn (ps.map (item pd) ++ rest) ((main, run.map (itm pd)) : DSt) dd.body) Q p l t c
  | [], run, main, rest, p, l, t, c, _, h => by rw [List.append_nil] at h; exact h
  | q :: ps, run, main, rest, p, l, t, c, hl, h => by
    rw [List.map_cons, List.cons_append, List.forIn_cons, body_more (by rw [List.length_map]; simp only [List.length_cons] at hl; grind)]
    refine LPb (LPp ?_)
    dsimp only
    have := acc ps (run ++ [q]) main rest p l t c (by simp only [List.length_append, List.length_cons, List.length_nil] at hl ⊢; lia) (by rw [List.append_assoc]; exact h)
    rw [List.map_append] at this
    exact this
theorem chunk1 {ps : Prs} (h17 : ps.length = 17) (u : Up ps) {rest : List Item} {p l t c} (hl : 11 ≤ l.length)
    (h : ∀ p', LP w (forIn rest ((some l.length, []) : DSt) dd.body) Q p' (l ++ [dO (ent3 3 ps t) 17]) (t + 51) (c + 223)) : LP w (forIn (ps.map (item pd) ++ rest) ((none, []) : DSt) dd.body) Q p l t c := by
  have e : ps = ps.take 16 ++ [ps[16]] := by
    have : ps = ps.take 16 ++ ps.drop 16 := (List.take_append_drop 16 ps).symm
    rw [List.drop_eq_getElem_cons (by omega), List.drop_of_length_le (by omega)] at this
    exact this
  rw [e, List.map_append, List.append_assoc]
  refine acc (ps.take 16) [] none _ p l t c (by simp; omega) ?_
  rw [List.nil_append, List.map_cons, List.map_nil, List.cons_append, List.nil_append, List.forIn_cons]
  refine LPb ?_
  show LP w (if (((ps.take 16).map (itm pd) ++ [itm pd ps[16]]).length == 17) = true then _ else _) _ p l t c
  rw [if_pos (by simp; omega)]
  have e2 : (ps.take 16).map (itm pd) ++ [itm pd ps[16]] = ps.map (itm pd) := by
    conv => rhs; rw [e]
    rw [List.map_append]; rfl
  rw [e2]
  refine LPb ?_
  dsimp only
  rw [if_neg (by cases ps <;> simp at h17 ⊢)]
  refine LPb (LP_sub hl (by omega) (by omega) u fun p' => LPp (LPp ?_))
  rw [h17]
  exact h p'
theorem chunk2 {ps : Prs} (h17 : ps.length = 17) (u : Up ps) {rest : List Item} {p l t c} {d n : Nat} {es : List DictEntry} (h11 : 11 ≤ d) (hd : l[d]? = some (dO es n)) (hne : es ≠ []) (un : Under es ps) (hs : es.length < 5000)
    (h : ∀ p', LP w (forIn rest ((some d, []) : DSt) dd.body) Q p' ((l.set d (dO (es ++ ent3 3 ps t) (n + 17))) ++ [dO (ent3 3 ps t) 17]) (t + 51) (c + 330)) : LP w (forIn (ps.map (item pd) ++ rest) ((some d, []) : DSt) dd.body) Q p l t c := by
  have hl := lt_of_get hd
  have e : ps = ps.take 16 ++ [ps[16]] := by
    have : ps = ps.take 16 ++ ps.drop 16 := (List.take_append_drop 16 ps).symm
    rw [List.drop_eq_getElem_cons (by omega), List.drop_of_length_le (by omega)] at this
    exact this
  rw [e, List.map_append, List.append_assoc]
  refine acc (ps.take 16) [] (some d) _ p l t c (by simp; omega) ?_
  rw [List.nil_append, List.map_cons, List.map_nil, List.cons_append, List.nil_append, List.forIn_cons]
  refine LPb ?_
  show LP w (if (((ps.take 16).map (itm pd) ++ [itm pd ps[16]]).length == 17) = true then _ else _) _ p l t c
  rw [if_pos (by simp; omega)]
  have e2 : (ps.take 16).map (itm pd) ++ [itm pd ps[16]] = ps.map (itm pd) := by
    conv => rhs; rw [e]
    rw [List.map_append]; rfl
  rw [e2]
  refine LPb ?_
  dsimp only
  rw [if_neg (by cases ps <;> simp at h17 ⊢)]
  refine LPb (LPh (LP_sub (by omega) (by omega) (by omega) u fun p' => ?_))
  refine LPb (LP_onRaise _ _ _ _ _ _ _ (LPh (LP_merge (ps := ps) (es := es) (n := n) (es2 := ent3 3 ps t) (n2 := ps.length) (by omega) h11 (by omega) (ents_ent3 3 ps t) hne (get_app ..) ?_ u un (by omega) ?_)))
  · rw [List.getElem?_append_left hl]; exact hd
  · refine LPp (LPp ?_)
    have := h p'
    rw [List.set_append_left _ _ hl, h17]
    exact this
noncomputable def finL : Nat → List DictEntry → Nat → List Obj → Prs → Nat → List Obj
  | 0, es, n, subs, ps, t => dO (es ++ ent3 2 ps t) (n + ps.length) :: (subs ++ [dO (ent3 2 ps t) ps.length])
  | m + 1, es, n, subs, ps, t => finL m (es ++ ent3 3 (ps.take 17) t) (n + 17) (subs ++ [dO (ent3 3 (ps.take 17) t) 17]) (ps.drop 17) (t + 51)
theorem Up.take {ps : Prs} (u : Up ps) (k : Nat) : Up (ps.take k) := ⟨u.1.sublist (List.take_sublist ..), fun q hq => u.2 q (List.mem_of_mem_take hq)⟩
theorem Up.drop {ps : Prs} (u : Up ps) (k : Nat) : Up (ps.drop k) := ⟨u.1.sublist (List.drop_sublist ..), fun q hq => u.2 q (List.mem_of_mem_drop hq)⟩
theorem Under.split {es : List DictEntry} {ps : Prs} {k t : Nat} (u : Up ps) (h : Under es ps) : Under (es ++ ent3 3 (ps.take k) t) (ps.drop k) := by
  intro e he x hx
  rcases List.mem_append.mp he with he | he
  · exact h e he x (List.mem_of_mem_drop hx)
  · have key : ∀ (qs : Prs) (t : Nat), e ∈ ent3 3 qs t → ∃ q ∈ qs, e.hash = q.1 := by
      intro qs
      induction qs with
      | nil => intro t he; cases he
      | cons q qs ih =>
        intro t he
        rcases List.mem_cons.mp he with rfl | he
        · exact ⟨q, .head _, rfl⟩
        · obtain ⟨q', h1, h2⟩ := ih _ he
          exact ⟨q', .tail _ h1, h2⟩
    obtain ⟨q, hq, e1⟩ := key _ _ he
    rw [e1]
    have := u.1
    rw [← List.take_append_drop k ps] at this
    exact (List.pairwise_append.mp this).2.2 q hq x hx
theorem rounds {R : Value → Pos → List Obj → Nat → Nat → Prop} : ∀ (m : Nat) (base : List Obj) (es : List DictEntry) (n : Nat) (subs : List Obj) (ps : Prs) p t c, 11 ≤ base.length → ps.length = 17 * m + 4 → Up ps → Under es ps → es ≠ [] → es.length + ps.length < 5000 →
    (∀ p', R (.ref base.length) p' (base ++ finL m es n subs ps t) (t + 51 * m + 12) (c + 330 * m + 82)) →
    LP w (forIn (ps.map (item pd)) ((some base.length, []) : DSt) dd.body >>= dd.cont) R p (base ++ dO es n :: subs) t c := by
  intro m
  induction m with
  | zero =>
    intro base es n subs ps p t c hb hl u un hne hs h
    refine LPb ?_
    have := acc (w := w) (pd := pd) (Q := fun a p l k c => LP w (dd.cont a) R p l k c) ps [] (some base.length) [] p (base ++ dO es n :: subs) t c (by simp; grind)
    rw [List.append_nil] at this
    refine this ?_
    rw [List.forIn_nil]
    refine LPp ?_
    rw [List.nil_append]
    show LP w (_ >>= _) R p _ t c
    refine LPb ?_
    dsimp only
    rw [if_neg (by cases ps <;> simp at hl ⊢)]
    have hd : (base ++ dO es n :: subs)[base.length]? = some (dO es n) := by simp
    refine LPb (LPh (LP_sub2 (by simp; grind) (by grind) u fun p' => ?_))
    refine LPb (LP_onRaise _ _ _ _ _ _ _ (LPh (LP_merge (ps := ps) (es := es) (n := n) (es2 := ent3 2 ps t) (n2 := ps.length) (by simp) hb (by simp; omega) (ents_ent3 2 ps t) hne (get_app ..) ?_ u un (by exact Nat.lt_of_lt_of_le (by assumption) (by decide)) ?_)))
    · rw [List.getElem?_append_left (by simp)]; exact hd
    · refine LPp (LPp ?_)
      have := h p'
      have e : ((base ++ dO es n :: subs) ++ [dO (ent3 2 ps t) ps.length]).set base.length (dO (es ++ ent3 2 ps t) (n + ps.length)) = base ++ finL 0 es n subs ps t := by
        rw [List.append_assoc, List.set_append_right _ _ (Nat.le_refl _), Nat.sub_self]
        rfl
      rw [e]
      rw [show t + 2 * List.length ps + List.length ps = t + 51 * 0 + 12 by simp only [*], show c + 1 + 3 * List.length ps + 10 * List.length ps + 5 + 6 * List.length ps = c + 330 * 0 + 82 by simp only [*]]
      exact this
  | succ m ih =>
    intro base es n subs ps p t c hb hl u un hne hs h
    have e : ps = ps.take 17 ++ ps.drop 17 := (List.take_append_drop 17 ps).symm
    refine LPb ?_
    rw [e, List.map_append]
    have hd : (base ++ dO es n :: subs)[base.length]? = some (dO es n) := by simp
    refine chunk2 (by simp; omega) (u.take 17) hb hd hne (fun e he x hx => un e he x (List.mem_of_mem_take hx)) (by omega) fun p' => ?_
    have e2 : (base ++ dO es n :: subs).set base.length (dO (es ++ ent3 3 (ps.take 17) t) (n + 17)) ++ [dO (ent3 3 (ps.take 17) t) 17] = base ++ dO (es ++ ent3 3 (ps.take 17) t) (n + 17) :: (subs ++ [dO (ent3 3 (ps.take 17) t) 17]) := by
      rw [List.set_append_right _ _ (Nat.le_refl _), Nat.sub_self, List.append_assoc]
      rfl
    rw [e2]
    have := ih base (es ++ ent3 3 (ps.take 17) t) (n + 17) (subs ++ [dO (ent3 3 (ps.take 17) t) 17]) (ps.drop 17) p' (t + 51) (c + 330) hb (by simp; omega) (u.drop 17) (un.split u) (by simp [hne]) (by
      have : (ent3 3 (ps.take 17) t).length = 17 := by rw [(ents_ent3 3 (ps.take 17) t).len]; simp; omega
      simp only [List.length_append, List.length_drop, this]; omega) (fun p'' => by
        have := h p''
        simp only [finL] at this
        rw [show t + 51 + 51 * m + 12 = t + 51 * (m + 1) + 12 by omega, show c + 330 + 330 * m + 82 = c + 330 * (m + 1) + 82 by omega]
        exact this)
    exact LPu this
end
end Mine
end
section -- Hu
open PySem PySem.W PyProof.Rows
namespace Mine
noncomputable section
noncomputable def t_pre12 (P : Params) : BT := (.node (boot_o_0 P) (.node (boot_o_1 P) (.node (o_3_s11 P) (.node (boot_o_7 P) (.node (o_15_s9 P) (.node (o_31_s9 P) (.node (o_63_s10 P) .nil .nil) (.node (o_95 P) .nil .nil)) (.node (o_47_s9 P) (.node (o_79 P) .nil .nil) (.node (o_111 P) .nil .nil))) (.node (o_23_s9 P) (.node (o_39_s9 P) (.node (o_71_s11 P) .nil .nil) (.node (o_103 P) .nil .nil)) (.node (o_55_s9 P) (.node (o_87 P) .nil .nil) .nil))) (.node (o_11_a P) (.node (o_19_s9 P) (.node (o_35_s9 P) (.node (o_67_s10 P) .nil .nil) (.node (o_99 P) .nil .nil)) (.node (o_51_s9 P) (.node (o_83 P) .nil .nil) .nil)) (.node (o_27_s9 P) (.node (o_43_s9 P) (.node (o_75_s11 P) .nil .nil) (.node (o_107 P) .nil .nil)) (.node (o_59_s10 P) (.node (o_91 P) .nil .nil) .nil)))) (.node (boot_o_5 P) (.node (boot_o_9 P) (.node (o_17_s9 P) (.node (o_33_s9 P) (.node (o_65 P) .nil .nil) (.node (o_97 P) .nil .nil)) (.node (o_49_s9 P) (.node (o_81 P) .nil .nil) (.node (o_113 P) .nil .nil))) (.node (o_25_s9 P) (.node (o_41_s9 P) (.node (o_73_s11 P) .nil .nil) (.node (o_105 P) .nil .nil)) (.node (o_57_s9 P) (.node (o_89 P) .nil .nil) .nil))) (.node (o_13_a P) (.node (o_21_s9 P) (.node (o_37_s9 P) (.node (o_69_s11 P) .nil .nil) (.node (o_101 P) .nil .nil)) (.node (o_53_s9 P) (.node (o_85 P) .nil .nil) .nil)) (.node (o_29_s9 P) (.node (o_45_s9 P) (.node (o_77 P) .nil .nil) (.node (o_109 P) .nil .nil)) (.node (o_61_s10 P) (.node (o_93 P) .nil .nil) .nil))))) (.node (boot_o_2 P) (.node (boot_o_4 P) (.node (boot_o_8 P) (.node (o_16_s9 P) (.node (o_32_s9 P) (.node (o_64_s10 P) .nil .nil) (.node (o_96 P) .nil .nil)) (.node (o_48_s9 P) (.node (o_80 P) .nil .nil) (.node (o_112 P) .nil .nil))) (.node (o_24_s9 P) (.node (o_40_s9 P) (.node (o_72_s11 P) .nil .nil) (.node (o_104 P) .nil .nil)) (.node (o_56_s9 P) (.node (o_88 P) .nil .nil) .nil))) (.node (o_12_s11 P) (.node (o_20_s9 P) (.node (o_36_s9 P) (.node (o_68_s10 P) .nil .nil) (.node (o_100 P) .nil .nil)) (.node (o_52_s9 P) (.node (o_84 P) .nil .nil) .nil)) (.node (o_28_s9 P) (.node (o_44_s9 P) (.node (o_76 P) .nil .nil) (.node (o_108 P) .nil .nil)) (.node (o_60_s10 P) (.node (o_92 P) .nil .nil) .nil)))) (.node (boot_o_6 P) (.node (boot_o_10 P) (.node (o_18_s9 P) (.node (o_34_s9 P) (.node (o_66_s10 P) .nil .nil) (.node (o_98 P) .nil .nil)) (.node (o_50_s9 P) (.node (o_82 P) .nil .nil) (.node (o_114 P) .nil .nil))) (.node (o_26_s9 P) (.node (o_42_s9 P) (.node (o_74_s11 P) .nil .nil) (.node (o_106 P) .nil .nil)) (.node (o_58_s10 P) (.node (o_90 P) .nil .nil) .nil))) (.node (o_14_a P) (.node (o_22_s9 P) (.node (o_38_s9 P) (.node (o_70_s11 P) .nil .nil) (.node (o_102 P) .nil .nil)) (.node (o_54_s9 P) (.node (o_86 P) .nil .nil) .nil)) (.node (o_30_s9 P) (.node (o_46_s9 P) (.node (o_78 P) .nil .nil) (.node (o_110 P) .nil .nil)) (.node (o_62_s10 P) (.node (o_94 P) .nil .nil) .nil))))))
noncomputable def dKeys : Stmt → List (Option Expr) | .Assign _ (.Dict ks _ _) _ => ks | _ => []
noncomputable def dVals : Stmt → List Expr | .Assign _ (.Dict _ vs _) _ => vs | _ => []
noncomputable def dPos : Stmt → Pos | .Assign _ (.Dict _ _ p) _ => p | _ => posF
noncomputable def dStPos : Stmt → Pos | .Assign _ _ p => p | _ => posF
noncomputable def dTgt : Stmt → List Expr | .Assign ts _ _ => ts | _ => []
noncomputable def pD0 : Pos := dPos (stAt 12)
noncomputable def dItems : List Item := (evalEachOpt (dKeys (stAt 12)) envT).zip ((evalEach (dVals (stAt 12)) envT).map fun v => do let x ← v; standAt pD0; pure x)
noncomputable def dX (v : Value) : Sem Flow := assignStores envT v none ((assignEach (dTgt (stAt 12)) envT).map (·.2))
theorem exec12 : exec (stAt 12) envT = ((standAt (dStPos (stAt 12)) >>= fun _ => (standAt pD0 >>= fun _ => dictDisplay dItems)) >>= dX) := by kernel_rfl
theorem items12 : dItems = b3Pairs.map (item pD0) := by kernel_rfl
noncomputable def upB : Prs → Bool
  | [] => true
  | [q] => decide (0 ≤ q.1) && decide (q.1 < 2147483648)
  | q :: r :: rest => decide (0 ≤ q.1) && decide (q.1 < r.1) && upB (r :: rest)
theorem up_lt : ∀ (q : Int × Str) (ps : Prs), upB (q :: ps) = true → 0 ≤ q.1 ∧ q.1 < 2147483648 ∧ (∀ x ∈ ps, q.1 < x.1)
  | q, [], h => by simp [upB] at h; exact ⟨h.1, h.2, fun _ hx => nomatch hx⟩
  | q, r :: rest, h => by
    simp [upB] at h
    obtain ⟨a, b, c⟩ := up_lt r rest h.2
    refine ⟨h.1.1, by lia, fun x hx => ?_⟩
    rcases List.mem_cons.mp hx with rfl | hx
    · exact h.1.2
    · have := c x hx; lia
theorem up_of : ∀ (ps : Prs), upB ps = true → Up ps
  | [], _ => ⟨.nil, fun _ h => nomatch h⟩
  | [q], h => by
    obtain ⟨a, b, _⟩ := up_lt q [] h
    exact ⟨List.pairwise_singleton .., fun x hx => by rw [List.mem_singleton] at hx; subst hx; exact ⟨a, b⟩⟩
  | q :: r :: rest, h => by
    obtain ⟨a, b, c⟩ := up_lt q (r :: rest) h
    have t := up_of (r :: rest) (by simp [upB] at h; exact h.2)
    exact ⟨List.pairwise_cons.mpr ⟨c, t.1⟩, fun x hx => by
      rcases List.mem_cons.mp hx with rfl | hx
      · exact ⟨a, b⟩
      · exact t.2 x hx⟩
theorem up12 : Up b3Pairs := up_of _ (by decide +kernel)
theorem len12 : b3Pairs.length = 650 := by decide +kernel
noncomputable def lC (P : Params) : List Obj := (t_s11 P).list 76
theorem lC_len (P : Params) : (lC P).length = 76 := by unfold lC BT.list; simp
noncomputable def finD : List Obj := finL 37 (ent3 3 (b3Pairs.take 17) 351) 17 [] (b3Pairs.drop 17) 402
theorem list12 (P : Params) : (t_pre12 P).list 115 = lC P ++ finD := by kernel_rfl
theorem run12g (w : World) (R : Value → Pos → List Obj → Nat → Nat → Prop) (p q1 q2 : Pos) (items : List Item) (ps : Prs) (l : List Obj) (hi : items = ps.map (item q2)) (hlen : ps.length = 650) (u : Up ps) (hL : l.length = 76)
    (h : ∀ p', R (.ref 76) p' (l ++ finL 37 (ent3 3 (ps.take 17) 351) 17 [] (ps.drop 17) 402) 2301 12517) :
    LP w (standAt q1 >>= fun _ => (standAt q2 >>= fun _ => dictDisplay items)) R p l 351 0 := by
  refine LPb (LP_at ?_)
  refine LPb (LP_at ?_)
  rw [dd.eq, hi]
  refine LPb ?_
  have e : ps.map (item q2) = (ps.take 17).map (item q2) ++ (ps.drop 17).map (item q2) := by rw [← List.map_append, List.take_append_drop]
  rw [e]
  refine chunk1 (by rw [List.length_take, hlen]; rfl) (u.take 17) (by grind) fun p' => ?_
  have hun : Under (ent3 3 (ps.take 17) 351) (ps.drop 17) := by
    have := Under.split (es := []) (k := 17) (t := 351) u (fun e he => nomatch he)
    rwa [List.nil_append] at this
  have h17 : (ent3 3 (ps.take 17) 351).length = 17 := by rw [(ents_ent3 3 _ 351).len, List.length_take, hlen]; rfl
  have := rounds (w := w) (pd := q2) (R := R) 37 l (ent3 3 (ps.take 17) 351) 17 [] (ps.drop 17) p' (351 + 51) (0 + 1 + 1 + 223) (by omega) (by rw [List.length_drop, hlen]) (u.drop 17) hun (by intro q; rw [q] at h17; cases h17) (by rw [h17, List.length_drop, hlen]; exact Nat.le_add_left _ _) (fun p'' => by
    rw [hL]
    exact h p'')
  exact LPu this
theorem run12 (w : World) (R : Value → Pos → List Obj → Nat → Nat → Prop) (p : Pos) (h : ∀ p', R (.ref 76) p' (lC w.params ++ finD) 2301 12517) :
    LP w (standAt (dStPos (stAt 12)) >>= fun _ => (standAt pD0 >>= fun _ => dictDisplay dItems)) R p (lC w.params) 351 0 :=
  by unfold finD at h; with_reducible exact run12g w R p _ _ dItems b3Pairs (lC w.params) items12 len12 up12 (lC_len _) h
theorem wrap12 (K : Flow → Sem Fin) (H : Value → Sem Fin) : (exec (stAt 12) envT).wrap K H id id = (standAt (dStPos (stAt 12)) >>= fun _ => (standAt pD0 >>= fun _ => dictDisplay dItems)).wrap (fun v => (dX v).wrap K H id id) H id id := by
  rw [exec12]
  rw [Sem.bind_eq_wrap', Sem.wrap_wrap]
  rfl
theorem fin12 (w : World) (p : Pos) : (fun os => segRunT treeTable pw w 11 (some (.ref 6)) 1 20 (stT t_pre12 115 2301 w os) ⟨(dX (.ref 76)).wrap doneF deadEnd id id, cT, p, stB⟩) = fun os => some (.next, stT t_s12 115 2302 w os, cT, ⟨77, 0, 77, 13⟩) := by
  kernel_rfl
theorem pD (w : World) (os : OsState) : segRun treeTable pw w 11 (some (.ref 6)) 1 (20 + 12517) (stT t_s11 76 351 w os).abs (pieceOf (stAt 12) envT cT ⟨75, 0, 76, 30⟩ stB) = some (.next, (stT t_s12 115 2302 w os).abs, cT, ⟨77, 0, 77, 13⟩) := by
  with_reducible have h := run12 w (fun v p' l k c => v = .ref 76 ∧ l = lC w.params ++ finD ∧ k = 2301 ∧ c = 12517) ⟨75, 0, 76, 30⟩ (fun p' => ⟨rfl, rfl, rfl, rfl⟩)
  with_reducible have h := LP_run (os := os) (K := fun v => (dX v).wrap doneF deadEnd id id) (H := deadEnd) (gd := id) (lv := id) (cd := cT) (F := topFrame posF) _ h
  obtain ⟨a, p', l', k', c', ⟨rfl, rfl, rfl, rfl⟩, _, hr⟩ := h
  have f := segRun_of (congrFun (fin12 w p') os)
  have e : (stT t_pre12 115 2301 w os).abs = sh os (lC w.params ++ finD) 2301 := by
    rw [← list12]; rfl
  rw [e] at f
  have := hr 20 _ f
  show segRun _ _ _ _ _ _ _ _ ⟨(exec (stAt 12) envT).wrap doneF deadEnd id id, cT, ⟨75, 0, 76, 30⟩, stB⟩ = _
  rw [wrap12]
  exact this
end
end Mine
end
section -- Hw
open PySem PySem.W PyProof.Rows
namespace Mine
noncomputable section
noncomputable def H1 (P : Params) : Heap := absHeap (t_s22 P) 166 {}
noncomputable def qv : Program := { pw with main := { pw.main with body := [stAt 22] } }
noncomputable def looseN : List Str := [Str.ofString "COMPILER_FLAG_NAMES", Str.ofString "pretty_flags", Str.ofString "_parse_varint", Str.ofString "_iter_escaped_chars", Str.ofString "_strip_quoted_realnames", Str.ofString "_check_parenthesis", Str.ofString "_pre_parse_validation", Str.ofString "b1_set", Str.ofString "in_table_b1", Str.ofString "b3_exceptions", Str.ofString "map_table_b3", Str.ofString "_law_name", Str.ofString "_law_nest", Str.ofString "_law_tape", Str.ofString "_law_read", Str.ofString "_law_sum", Str.ofString "_law_counts", Str.ofString "_law_product"]
noncomputable abbrev rr : OpenRow := PySem.Challenge.rw_ta0055_01.row
theorem gPre (w : World) : (fun os => topGo treeTable pw w 11 (some (.ref 6)) 12 ⟨boot_heap w.params, #[], boot_drawn, boot_toks, os⟩ (topStub pw)) = fun os => some ((stT t_a 15 187 w os).abs, ⟨denote treeTable cT, cT, posF, stB⟩) := by kernel_rfl
theorem gBlock (w : World) : (fun os => segRunT treeTable pw w 11 (some (.ref 6)) 1 1 (stT t_a 15 187 w os) (blockOf (behindTheImports pw) envT cT posF stB)) = fun os => some (.next, stT t_a 15 187 w os, cT, posF) := by kernel_rfl
theorem gFin (w : World) : (fun os => topRun treeTable pw w 11 (some (.ref 6)) 3 (stT t_s22 166 2364 w os).abs ⟨doneF .next, cT, ⟨153, 0, 178, 116⟩, stB⟩) = fun os => some ((stT t_s22 166 2364 w os).abs) := by kernel_rfl
noncomputable def stepsAll : Nat := 12 + (1 + (400 + (1000 + (40 + ((20 + 12517) + (400 + 3))))))
theorem runAll (w : World) (os : OsState) : topRun treeTable pw w 11 (some (.ref 6)) stepsAll ⟨boot_heap w.params, Array.mk [], boot_drawn, boot_toks, os⟩ (topStub pw) = some ⟨H1 w.params, Array.mk [], {}, 2364, os⟩ := by
  unfold stepsAll
  refine go_top (congrFun (gPre w) os) ?_
  refine piece_block (env := envT) (segRun_of (congrFun (gBlock w) os)) ?_
  rw [body_is]
  refine piece_app (segRun_of (congrFun (pA w) os)) ?_
  refine piece_app (segRun_of (congrFun (pB w) os)) ?_
  refine piece_app (segRun_of (congrFun (pC w) os)) ?_
  refine piece_cons (st := stAt 12) (rest := sE ++ []) (pD w os) ?_
  refine piece_app (segRun_of (congrFun (pE w) os)) ?_
  refine piece_nil ?_
  exact congrFun (gFin w) os
theorem openAll : ∀ w : World, (fencedOpening treeTable pw w stepsAll).map (fun s => (s.heap, s.gens, s.drawn, s.toks)) = some (boot_heap w.params, Array.mk [], boot_drawn, boot_toks) :=
  boot_open (by kernel_rfl) (by decide +kernel) (fun s => by kernel_rfl)
theorem sizeAll (w : World) : ((boot_heap w.params).isNs mainGlobals && (Array.mk [] : Array GenState).size == 0, (boot_heap w.params).objs.size, (boot_heap w.params).nsMap mainGlobals "__annotations__") = (true, 11, some (.ref 6)) := by kernel_rfl
noncomputable abbrev XtA : Shared → Bool := fun s => xlAt qv [] s && recOk (RowW.records rr.toRowW) s
theorem look1 (w : World) : (fun os => (staticsOk (importedModules pw.main.body) (boot_heap w.params) (H1 w.params) && namesBound pw (H1 w.params) && gensDone ⟨H1 w.params, Array.mk [], {}, 2364, os⟩ && laidKept (boot_heap w.params) (H1 w.params))) = fun _ => true := by kernel_rfl
theorem look2 (w : World) : (fun os => openSeen qv looseN (importedModules pw.main.body) XtA true ⟨H1 w.params, Array.mk [], {}, 2364, os⟩) = fun _ => openGood qv looseN := by kernel_rfl
theorem leftAll : LeftO pw qv looseN XtA (fun s => (s.heap, s.toks)) (fun w => (H1 w.params, 2364)) stepsAll :=
  LeftO.of_pieces openAll sizeAll runAll (by decide +kernel) fun w => by
    funext os
    have a := congrFun (look1 w) os
    have b := congrFun (look2 w) os
    exact Prod.ext a (Prod.ext b rfl)
end
end Mine
end
section -- Kt
open PySem PySem.W PyProof.Rows PySem.Calls
namespace Mine
theorem nsG (P : Params) : (H1 P).Ns mainGlobals ((H1 P).nsMap mainGlobals) := .of_isNs (by kernel_rfl)
theorem nsB (P : Params) : (H1 P).Ns builtinsNs ((H1 P).nsMap builtinsNs) := .of_isNs (by kernel_rfl)
theorem noLim (P : Params) : (H1 P).NoLimit := ⟨_, .of_isNs (by kernel_rfl), by kernel_rfl⟩
noncomputable def codeOk (P : Params) (c : Nat) (nm : Str) : Bool := match (H1 P).get? c with
  | some ⟨_, _, .fields (vs : Array Value), _⟩ => (match (vs[1]? : Option Value) with
      | some (Value.str q _) => decide (q = nm)
      | _ => false)
  | _ => false
theorem codeRec_of {P : Params} {c : Nat} {nm : Str} (h : codeOk P c nm = true) : (H1 P).CodeRec (.ref c) nm := by
  unfold codeOk at h
  split at h
  · rename_i cl d vs sl e
    split at h
    · rename_i q t e2
      have := of_decide_eq_true h
      subst this
      exact ⟨c, _, vs, t, rfl, e, rfl, e2⟩
    · cases h
  · cases h

section
variable (P : Params)
theorem bm_ord : (H1 P).nsMap mainGlobals (Str.ofString "ord") = none := by kernel_rfl
theorem bt_ord : (H1 P).nsMap builtinsNs (Str.ofString "ord") = some (.builtin "ord") := by kernel_rfl
theorem bm_range : (H1 P).nsMap mainGlobals (Str.ofString "range") = none := by kernel_rfl
theorem bt_range : (H1 P).nsMap builtinsNs (Str.ofString "range") = some (.type "range") := by kernel_rfl
theorem bm_len : (H1 P).nsMap mainGlobals (Str.ofString "len") = none := by kernel_rfl
theorem bt_len : (H1 P).nsMap builtinsNs (Str.ofString "len") = some (.builtin "len") := by kernel_rfl
theorem bm_chr : (H1 P).nsMap mainGlobals (Str.ofString "chr") = none := by kernel_rfl
theorem bt_chr : (H1 P).nsMap builtinsNs (Str.ofString "chr") = some (.builtin "chr") := by kernel_rfl
theorem bm_max : (H1 P).nsMap mainGlobals (Str.ofString "max") = none := by kernel_rfl
theorem bt_max : (H1 P).nsMap builtinsNs (Str.ofString "max") = some (.builtin "max") := by kernel_rfl
theorem bm_list : (H1 P).nsMap mainGlobals (Str.ofString "list") = none := by kernel_rfl
theorem bt_list : (H1 P).nsMap builtinsNs (Str.ofString "list") = some (.type "list") := by kernel_rfl
theorem bm_sum : (H1 P).nsMap mainGlobals (Str.ofString "sum") = none := by kernel_rfl
theorem bt_sum : (H1 P).nsMap builtinsNs (Str.ofString "sum") = some (.builtin "sum") := by kernel_rfl
theorem bm_enumerate : (H1 P).nsMap mainGlobals (Str.ofString "enumerate") = none := by kernel_rfl
theorem bt_enumerate : (H1 P).nsMap builtinsNs (Str.ofString "enumerate") = some (.type "enumerate") := by kernel_rfl
theorem bm_abs : (H1 P).nsMap mainGlobals (Str.ofString "abs") = none := by kernel_rfl
theorem bt_abs : (H1 P).nsMap builtinsNs (Str.ofString "abs") = some (.builtin "abs") := by kernel_rfl
theorem bm_hex : (H1 P).nsMap mainGlobals (Str.ofString "hex") = none := by kernel_rfl
theorem bt_hex : (H1 P).nsMap builtinsNs (Str.ofString "hex") = some (.builtin "hex") := by kernel_rfl
theorem bm_iter : (H1 P).nsMap mainGlobals (Str.ofString "iter") = none := by kernel_rfl
theorem bt_iter : (H1 P).nsMap builtinsNs (Str.ofString "iter") = some (.builtin "iter") := by kernel_rfl
theorem bm_next : (H1 P).nsMap mainGlobals (Str.ofString "next") = none := by kernel_rfl
theorem bt_next : (H1 P).nsMap builtinsNs (Str.ofString "next") = some (.builtin "next") := by kernel_rfl
theorem bm_StopIteration : (H1 P).nsMap mainGlobals (Str.ofString "StopIteration") = none := by kernel_rfl
theorem bt_StopIteration : (H1 P).nsMap builtinsNs (Str.ofString "StopIteration") = some (.type "StopIteration") := by kernel_rfl
theorem gt_COMPILER_FLAG_NAMES : (H1 P).nsMap mainGlobals (Str.ofString "COMPILER_FLAG_NAMES") = some (.ref 15) := by kernel_rfl
theorem gt_pretty_flags : (H1 P).nsMap mainGlobals (Str.ofString "pretty_flags") = some (.ref 22) := by kernel_rfl
theorem gt_parse_varint : (H1 P).nsMap mainGlobals (Str.ofString "_parse_varint") = some (.ref 29) := by kernel_rfl
theorem gt_iter_escaped_chars : (H1 P).nsMap mainGlobals (Str.ofString "_iter_escaped_chars") = some (.ref 36) := by kernel_rfl
theorem gt_strip_quoted_realnames : (H1 P).nsMap mainGlobals (Str.ofString "_strip_quoted_realnames") = some (.ref 43) := by kernel_rfl
theorem gt_check_parenthesis : (H1 P).nsMap mainGlobals (Str.ofString "_check_parenthesis") = some (.ref 50) := by kernel_rfl
theorem gt_pre_parse_validation : (H1 P).nsMap mainGlobals (Str.ofString "_pre_parse_validation") = some (.ref 57) := by kernel_rfl
theorem gt_b1_set : (H1 P).nsMap mainGlobals (Str.ofString "b1_set") = some (.ref 65) := by kernel_rfl
theorem gt_in_table_b1 : (H1 P).nsMap mainGlobals (Str.ofString "in_table_b1") = some (.ref 75) := by kernel_rfl
theorem gt_b3_exceptions : (H1 P).nsMap mainGlobals (Str.ofString "b3_exceptions") = some (.ref 76) := by kernel_rfl
theorem gt_map_table_b3 : (H1 P).nsMap mainGlobals (Str.ofString "map_table_b3") = some (.ref 121) := by kernel_rfl
theorem gt_law_name : (H1 P).nsMap mainGlobals (Str.ofString "_law_name") = some (.ref 128) := by kernel_rfl
theorem gt_law_nest : (H1 P).nsMap mainGlobals (Str.ofString "_law_nest") = some (.ref 133) := by kernel_rfl
theorem gt_law_tape : (H1 P).nsMap mainGlobals (Str.ofString "_law_tape") = some (.ref 138) := by kernel_rfl
theorem gt_law_read : (H1 P).nsMap mainGlobals (Str.ofString "_law_read") = some (.ref 143) := by kernel_rfl
theorem gt_law_sum : (H1 P).nsMap mainGlobals (Str.ofString "_law_sum") = some (.ref 148) := by kernel_rfl
theorem gt_law_counts : (H1 P).nsMap mainGlobals (Str.ofString "_law_counts") = some (.ref 153) := by kernel_rfl
theorem gt_law_product : (H1 P).nsMap mainGlobals (Str.ofString "_law_product") = some (.ref 160) := by kernel_rfl
end
end Mine
end
section -- Ka
open PySem PySem.W PyProof.Rows PySem.Calls
namespace Mine
noncomputable abbrev Md (w : World) : Model := model pw w
noncomputable abbrev ZM := Addr → Option Obj
/-- room for n more calls -/
structure Rm (n : Nat) (A : Around) : Prop where
  d : A.depth + n < 1000
  u : A.units + 4 * n + 20 < 9900
theorem Rm.deeper {n : Nat} {A : Around} (h : Rm (n + 1) A) (env : Env) : Rm n (A.deeper env) := ⟨by have := h.d; show A.depth + 1 + n < 1000; lia, by have := h.u; show A.units + 3 + 4 * n + 20 < 9900; lia⟩
theorem Rm.in1 {n : Nat} {A : Around} (h : Rm (n + 1) A) : Rm n A.in1 := ⟨by have := h.d; show A.depth + n < 1000; exact Nat.le_of_lt (by assumption), by have := h.u; show A.units + 1 + 4 * n + 20 < 9900; lia⟩
theorem Rm.le {n k : Nat} {A : Around} (h : Rm n A) (hk : k ≤ n) : Rm k A := ⟨by have := h.d; grind, by have := h.u; grind⟩
theorem Rm.room {n : Nat} {A : Around} (h : Rm n A) : A.depth < recursionLimit := by have := h.d; show A.depth < 1000; grind
theorem Rm.cl {n : Nat} {A : Around} (h : Rm n A) : A.units < cLine := by have := h.u; show A.units < 9900; grind
noncomputable def Top (w : World) (Z : ZM) : Prop := ∀ a ob, (H1 w.params).get? a = some ob → Z a = some ob
noncomputable def GE (a b : Array GenState) : Prop := (∀ (i : Nat) (x : GenState), a[i]? = some x → b[i]? = some x) ∧ (AllBare a → AllBare b)
theorem GE.refl (a : Array GenState) : GE a a := ⟨fun _ _ h => h, fun h => h⟩
theorem GE.trans {a b c : Array GenState} (x : GE a b) (y : GE b c) : GE a c := ⟨fun i z h => y.1 i z (x.1 i z h), fun h => y.2 (x.2 h)⟩
noncomputable def Le (Z Z' : ZM) : Prop := ∀ a ob, Z a = some ob → Z' a = some ob
theorem Le.refl (Z : ZM) : Le Z Z := fun _ _ h => h
theorem Le.trans {a b c : ZM} (x : Le a b) (y : Le b c) : Le a c := fun i z h => y i z (x i z h)
/-- data, read deep in what is frozen -/
inductive D where
  | none
  | bool (b : Bool)
  | int (i : Int)
  | str (x : Str)
  | tup (l : List D)
  | lst (l : List D)
  | rng (a b c : Int)
  | slc (a b c : D)
  | raw (v : Value)
noncomputable def SeqAt (Z : ZM) (T : String) (a : Addr) (xs : List Value) : Prop := ∃ n, Z a = some { cls := .type T, data := .seq xs.toArray n }
mutual
inductive Rd (Z : ZM) : Value → D → Prop
  | none : Rd Z .none .none
  | bool (b : Bool) : Rd Z (.bool b) (.bool b)
  | int (i : Int) (t : Tok) : Rd Z (.int i t) (.int i)
  | str (x : Str) (t : Tok) : Rd Z (.str x t) (.str x)
  | tup {a : Addr} {xs : List Value} {l : List D} : SeqAt Z "tuple" a xs → Rds Z xs l → Rd Z (.ref a) (.tup l)
  | lst {a : Addr} {xs : List Value} {l : List D} : SeqAt Z "list" a xs → Rds Z xs l → Rd Z (.ref a) (.lst l)
  | rng {r : Addr} {a b c : Int} {t u v : Tok} : Z r = some { cls := .type "range", dict := Option.none, data := .fields #[.int a t, .int b u, .int c v], slots := #[] } → Rd Z (.ref r) (.rng a b c)
  | slc {r : Addr} {x y z : Value} {a b c : D} : Z r = some { cls := .type "slice", data := .fields #[x, y, z] } → Rd Z x a → Rd Z y b → Rd Z z c → Rd Z (.ref r) (.slc a b c)
  | raw (v : Value) : Rd Z v (.raw v)
inductive Rds (Z : ZM) : List Value → List D → Prop
  | nil : Rds Z [] []
  | cons {v : Value} {d : D} {xs : List Value} {l : List D} : Rd Z v d → Rds Z xs l → Rds Z (v :: xs) (d :: l)
end
theorem SeqAt.up {Z Z' : ZM} (h : Le Z Z') {T a xs} (x : SeqAt Z T a xs) : SeqAt Z' T a xs := let ⟨n, e⟩ := x; ⟨n, h _ _ e⟩
theorem Rd.up {Z Z' : ZM} (h : Le Z Z') {v d} (r : Rd Z v d) : Rd Z' v d :=
  Rd.rec (motive_1 := fun v d _ => Rd Z' v d) (motive_2 := fun v d _ => Rds Z' v d) .none .bool .int .str (fun x _ r => .tup (x.up h) r) (fun x _ r => .lst (x.up h) r) (fun e => .rng (h _ _ e)) (fun e _ _ _ x y z => .slc (h _ _ e) x y z) .raw .nil (fun _ _ x r => .cons x r) r
theorem Rds.ind {Z : ZM} {p : List Value → List D → Prop} (h0 : p [] []) (h1 : ∀ {v d xs l}, Rd Z v d → Rds Z xs l → p xs l → p (v :: xs) (d :: l)) {v d} (r : Rds Z v d) : p v d :=
  Rds.rec (motive_1 := fun _ _ _ => True) (motive_2 := fun v d _ => p v d) trivial (fun _ => trivial) (fun _ _ => trivial) (fun _ _ => trivial) (fun _ _ _ => trivial) (fun _ _ _ => trivial) (fun _ => trivial) (fun _ _ _ _ _ _ _ => trivial) (fun _ => trivial) h0 (fun x r _ q => h1 x r q) r
theorem Rds.up {Z Z' : ZM} (h : Le Z Z') {v d} (r : Rds Z v d) : Rds Z' v d := r.ind .nil fun x _ q => .cons (x.up h) q
theorem Rds.len {Z : ZM} {xs l} (r : Rds Z xs l) : xs.length = l.length := r.ind (p := fun xs l => xs.length = l.length) rfl fun _ _ q => congrArg (· + 1) q
theorem Rds.get {Z : ZM} {xs l} (r : Rds Z xs l) {i : Nat} {d : D} (e : l[i]? = some d) : ∃ v, xs[i]? = some v ∧ Rd Z v d :=
  r.ind (p := fun xs l => ∀ i, l[i]? = some d → ∃ v, xs[i]? = some v ∧ Rd Z v d) (fun i e => by rw [List.getElem?_nil] at e; exact nomatch e) (fun x _ q i e => by
    cases i with
    | zero => cases e; exact ⟨_, rfl, x⟩
    | succ i => exact q i e) i e
theorem Rds.append {Z : ZM} {xs l ys r} (x : Rds Z xs l) (y : Rds Z ys r) : Rds Z (xs ++ ys) (l ++ r) := x.ind (p := fun xs l => Rds Z (xs ++ ys) (l ++ r)) y fun x _ q => .cons x q
theorem Rds.take {Z : ZM} {xs l} (n : Nat) (r : Rds Z xs l) : Rds Z (xs.take n) (l.take n) :=
  r.ind (p := fun xs l => ∀ n, Rds Z (xs.take n) (l.take n)) (fun n => by rw [List.take_nil, List.take_nil]; exact .nil) (fun x _ q n => by
    cases n with
    | zero => exact .nil
    | succ n => exact .cons x (q n)) n
theorem Rds.set {Z : ZM} {v : Value} {d : D} (x : Rd Z v d) {xs l} (n : Nat) (r : Rds Z xs l) : Rds Z (xs.set n v) (l.set n d) :=
  r.ind (p := fun xs l => ∀ n, Rds Z (xs.set n v) (l.set n d)) (fun _ => .nil) (fun y r q n => by
    cases n with
    | zero => exact .cons x r
    | succ n => exact .cons y (q n)) n
-- a read value, taken apart
theorem Rd.iE {Z : ZM} {v : Value} {i : Int} {M : Value → Prop} (r : Rd Z v (.int i)) (f : ∀ t, M (.int i t)) : M v := by cases r; exact f _
theorem Rd.sE {Z : ZM} {v : Value} {i : Str} {M : Value → Prop} (r : Rd Z v (.str i)) (f : ∀ t, M (.str i t)) : M v := by cases r; exact f _
theorem Rd.bE {Z : ZM} {v : Value} {b : Bool} {M : Value → Prop} (r : Rd Z v (.bool b)) (f : M (.bool b)) : M v := by cases r; exact f
theorem Rd.nE {Z : ZM} {v : Value} {M : Value → Prop} (r : Rd Z v .none) (f : M .none) : M v := by cases r; exact f
theorem Rd.rE {Z : ZM} {v u : Value} {M : Value → Prop} (r : Rd Z v (.raw u)) (f : M u) : M v := by cases r; exact f
theorem Rd.lE {Z : ZM} {v : Value} {l : List D} {M : Value → Prop} (r : Rd Z v (.lst l)) (f : ∀ a xs, SeqAt Z "list" a xs → Rds Z xs l → M (.ref a)) : M v := by cases r; exact f _ _ (by assumption) (by assumption)
theorem Rd.tE {Z : ZM} {v : Value} {l : List D} {M : Value → Prop} (r : Rd Z v (.tup l)) (f : ∀ a xs, SeqAt Z "tuple" a xs → Rds Z xs l → M (.ref a)) : M v := by cases r; exact f _ _ (by assumption) (by assumption)
theorem Rd.slE {Z : ZM} {v : Value} {a b c : D} {M : Value → Prop} (r : Rd Z v (.slc a b c)) (f : ∀ s x y z, Z s = some { cls := .type "slice", data := .fields #[x, y, z] } → Rd Z x a → Rd Z y b → Rd Z z c → M (.ref s)) : M v := by cases r; exact f _ _ _ _ (by assumption) (by assumption) (by assumption) (by assumption)
theorem Rds.nE {Z : ZM} {vs : List Value} {M : List Value → Prop} (q : Rds Z vs []) (f : M []) : M vs := by cases q; exact f
theorem Rds.cE {Z : ZM} {vs : List Value} {d : D} {ds : List D} {M : List Value → Prop} (q : Rds Z vs (d :: ds)) (f : ∀ v xs, Rd Z v d → Rds Z xs ds → M (v :: xs)) : M vs := by cases q; exact f _ _ (by assumption) (by assumption)
theorem Rds.one {Z : ZM} {v : Value} {d : D} (x : Rd Z v d) : Rds Z [v] [d] := .cons x .nil
noncomputable abbrev Binds := List (Str × D)
/-- what an object of one's own holds -/
inductive It where
  | fr (b : Binds)
  | lst (l : List D)
  | cell (c : Option D)
  | iter (l : List D)
  | li (l : List D)
  | obj (o : Obj)
  | any
inductive IterAt (Z : ZM) (h : Heap) (a : Addr) : List D → Prop
  | lst {l : Addr} {i : Nat} {xs : List Value} {ds : List D} : h.IsListIter a l i → SeqAt Z "list" l xs → Rds Z xs ds → IterAt Z h a (ds.drop i)
  | tup {l : Addr} {i : Nat} {xs : List Value} {ds : List D} : h.IsTupleIter a l i → SeqAt Z "tuple" l xs → Rds Z xs ds → IterAt Z h a (ds.drop i)
  | rng {x step : Int} {k : Nat} : IsRangeIter h a x k step → IterAt Z h a ((List.range k).map fun (j : Nat) => D.int (x + j * step))
  | asc {x : Str} {t : Tok} {i : Nat} : h.IsStrIter a "str_ascii_iterator" x t i → IterAt Z h a ((x.cps.toList.drop i).map fun c => D.str ⟨#[c]⟩)
  | wide {x : Str} {t : Tok} {i : Nat} : h.IsStrIter a "str_iterator" x t i → IterAt Z h a ((x.cps.toList.drop i).map fun c => D.str ⟨#[c]⟩)
noncomputable def It.In (Z : ZM) (h : Heap) (a : Addr) : It → Prop
  | .fr b => ∃ m, h.Ns a m ∧ ∀ x d, b.lookup x = some d → ∃ v, m x = some v ∧ Rd Z v d
  | .lst l => ∃ xs, h.PlainList a xs.toArray ∧ Rds Z xs l
  | .cell c => ∃ o, h.IsCell a o ∧ (match c with | none => True | some d => ∃ v, o = some v ∧ Rd Z v d)
  | .iter l => IterAt Z h a l
  | .li l => ∃ b i xs ds, h.IsListIter a b i ∧ SeqAt Z "list" b xs ∧ Rds Z xs ds ∧ l = ds.drop i
  | .obj o => h.get? a = some o
  | .any => ∃ o, h.get? a = some o
theorem IterAt.up {Z Z' : ZM} (u : Le Z Z') {h h' : Heap} {a : Addr} {l : List D} (x : IterAt Z h a l) (e : ∀ o, h.get? a = some o → h'.get? a = some o) : IterAt Z' h' a l := by
  cases x with
  | lst i q r => exact .lst (let ⟨o, ho, r⟩ := i; ⟨o, e _ ho, r⟩) (q.up u) (r.up u)
  | tup i q r => exact .tup (let ⟨o, ho, r⟩ := i; ⟨o, e _ ho, r⟩) (q.up u) (r.up u)
  | rng i => exact .rng (e _ i)
  | asc i => exact .asc (let ⟨o, ho, r⟩ := i; ⟨o, e _ ho, r⟩)
  | wide i => exact .wide (let ⟨o, ho, r⟩ := i; ⟨o, e _ ho, r⟩)
theorem It.In.up {Z Z' : ZM} (u : Le Z Z') {h h' : Heap} {a : Addr} {i : It} (x : i.In Z h a) (e : ∀ o, h.get? a = some o → h'.get? a = some o) : i.In Z' h' a := by
  cases i with
  | fr b => obtain ⟨m, hn, hb⟩ := x; exact ⟨m, hn.at e, fun y d q => let ⟨v, hv, r⟩ := hb y d q; ⟨v, hv, r.up u⟩⟩
  | lst l => obtain ⟨xs, hl, r⟩ := x; exact ⟨xs, hl.at e, r.up u⟩
  | cell c =>
    obtain ⟨o, ho, r⟩ := x
    refine ⟨o, (let ⟨q, hq, r⟩ := ho; ⟨q, e _ hq, r⟩), ?_⟩
    cases c with
    | none => trivial
    | some d => obtain ⟨v, hv, r⟩ := r; exact ⟨v, hv, r.up u⟩
  | iter l => exact IterAt.up u x e
  | li l => obtain ⟨b, i, xs, ds, hi, q, r, rfl⟩ := x; exact ⟨b, i, xs, ds, (let ⟨o, ho, r⟩ := hi; ⟨o, e _ ho, r⟩), q.up u, r.up u, rfl⟩
  | obj o => exact e _ x
  | any => obtain ⟨o, ho⟩ := x; exact ⟨o, e _ ho⟩
theorem It.In.lt {Z : ZM} {h : Heap} {a : Addr} {i : It} (x : i.In Z h a) : ∃ o, h.get? a = some o := by
  cases i with
  | fr b => obtain ⟨m, ⟨o, _, _, ho, _⟩, _⟩ := x; exact ⟨o, ho⟩
  | lst l => obtain ⟨xs, ⟨_, q⟩, _⟩ := x; exact ⟨_, q⟩
  | cell c => obtain ⟨_, ⟨o, ho, _⟩, _⟩ := x; exact ⟨o, ho⟩
  | iter l =>
    cases x with
    | lst i _ _ => obtain ⟨o, ho, _⟩ := i; exact ⟨o, ho⟩
    | tup i _ _ => obtain ⟨o, ho, _⟩ := i; exact ⟨o, ho⟩
    | rng i => exact ⟨_, i⟩
    | asc i => obtain ⟨o, ho, _⟩ := i; exact ⟨o, ho⟩
    | wide i => obtain ⟨o, ho, _⟩ := i; exact ⟨o, ho⟩
  | li l => obtain ⟨_, _, _, _, ⟨o, ho, _⟩, _⟩ := x; exact ⟨o, ho⟩
  | obj o => exact ⟨o, x⟩
  | any => exact x
noncomputable abbrev Led := List (Addr × It)
/-- the frame's base -/
structure Bs where
  z : ZM
  b : ZM
  g : Array GenState
  os : OsState
/-- what is being handled, if anything, is an exception without a context -/
noncomputable def HOk (Z : ZM) : Option Value → Prop
  | none => True
  | some v => ∃ e o vs, v = .ref e ∧ Z e = some o ∧ o.data = .fields vs ∧ vs[2]? = some Value.none ∧ e ≠ cStatics
theorem HOk.up {Z Z' : ZM} (u : Le Z Z') : ∀ {hd}, HOk Z hd → HOk Z' hd
  | none, _ => trivial
  | some _, ⟨e, o, vs, h, h1, r⟩ => ⟨e, o, vs, h, u _ _ h1, r⟩
structure St (w : World) (hd : Option Value) (F : Bs) (Z : ZM) (n : Led) (s : Shared) : Prop where
  tp : Top w Z
  ho : HOk Z hd
  kp : ∀ a ob, F.b a = some ob → s.heap.get? a = some ob
  z0 : ∀ a ob, F.b a = some ob → Z a = F.z a
  fz : ∀ a ob, Z a = some ob → s.heap.get? a = some ob
  nw : ∀ p ∈ n, p.2.In Z s.heap p.1 ∧ Z p.1 = none ∧ F.b p.1 = none
  nd : (n.map (·.1)).Nodup
  ge : GE F.g s.gens
  os : s.os = F.os
section
variable {w : World} {hd : Option Value} {F : Bs} {Z Z' : ZM} {n : Led} {s s' : Shared}
theorem St.tok (k : St w hd F Z n s) (t : Nat) : St w hd F Z n { s with toks := t } := ⟨k.tp, k.ho, k.kp, k.z0, k.fz, k.nw, k.nd, k.ge, k.os⟩
/-- the heap has grown; nothing that is known has changed -/
theorem St.keep (k : St w hd F Z n s) (hk : ∀ b o, s.heap.get? b = some o → s'.heap.get? b = some o) (hg : GE s.gens s'.gens) (ho : s'.os = s.os) : St w hd F Z n s' :=
  ⟨k.tp, k.ho, fun a ob e => hk _ _ (k.kp a ob e), k.z0, fun a ob e => hk a ob (k.fz a ob e), fun p hp => ⟨(k.nw p hp).1.up (Le.refl _) fun o => hk _ o, (k.nw p hp).2⟩, k.nd, k.ge.trans hg, ho.trans k.os⟩
theorem St.zlt (k : St w hd F Z n s) {a : Addr} (ha : s.heap.get? a = none) : Z a = none ∧ F.b a = none := by
  constructor
  · cases q : Z a with
    | none => rfl
    | some o => rw [k.fz _ _ q] at ha; cases ha
  · cases q : F.b a with
    | none => rfl
    | some o => rw [k.kp _ _ q] at ha; cases ha
theorem top_none {h : Heap} : h.get? h.objs.size = none := by
  cases q : h.get? h.objs.size with
  | none => rfl
  | some o => exact absurd (Heap.lt_size q) (Nat.lt_irrefl _)
theorem St.perm (k : St w hd F Z n s) {n' : Led} (h : n.Perm n') : St w hd F Z n' s :=
  ⟨k.tp, k.ho, k.kp, k.z0, k.fz, fun p hp => k.nw p (h.mem_iff.mpr hp), (h.map _).nodup_iff.mp k.nd, k.ge, k.os⟩
theorem St.drop (k : St w hd F Z n s) {n' : Led} (h : n'.Sublist n) : St w hd F Z n' s := ⟨k.tp, k.ho, k.kp, k.z0, k.fz, fun p hp => k.nw p (h.subset hp), k.nd.sublist (h.map _), k.ge, k.os⟩
/-- a new object of one's own -/
theorem St.cons (k : St w hd F Z n s) {a : Addr} {i : It} (hn : s.heap.get? a = none) (hk : ∀ b o, s.heap.get? b = some o → s'.heap.get? b = some o) (hg : GE s.gens s'.gens) (ho : s'.os = s.os) (hi : i.In Z s'.heap a) : St w hd F Z ((a, i) :: n) s' := by
  have k' := k.keep hk hg ho
  refine ⟨k'.tp, k'.ho, k'.kp, k'.z0, k'.fz, fun p hp => ?_, ?_, k'.ge, k'.os⟩
  · rcases List.mem_cons.mp hp with rfl | hp
    · exact ⟨hi, k.zlt hn⟩
    · exact k'.nw p hp
  · rw [List.map_cons, List.nodup_cons]
    refine ⟨fun hm => ?_, k.nd⟩
    obtain ⟨p, hp, e⟩ := List.mem_map.mp hm
    obtain ⟨o, ho⟩ := (k.nw p hp).1.lt
    have e' : p.1 = a := e
    rw [e', hn] at ho; cases ho
/-- one of one's own is turned -/
theorem St.turn (k : St w hd F Z n s) {a : Addr} {i j : It} {l r : Led} (e : n = l ++ (a, i) :: r) (hj : j.In Z s'.heap a) (hs : ∀ b o, b ≠ a → s.heap.get? b = some o → s'.heap.get? b = some o) (hg : GE s.gens s'.gens) (ho : s'.os = s.os) : St w hd F Z (l ++ (a, j) :: r) s' := by
  have hm : (a, i) ∈ n := by rw [e]; simp
  have ha := k.nw _ hm
  have nd := k.nd
  have ne : ∀ p, p ∈ l ++ r → p.1 ≠ a := by
    intro p hp
    rw [e, List.map_append, List.map_cons] at nd
    have nd := (List.perm_middle.nodup_iff).mp nd
    rw [List.nodup_cons] at nd
    intro q
    apply nd.1
    rw [← List.map_append]
    exact List.mem_map.mpr ⟨p, hp, q⟩
  refine ⟨k.tp, k.ho, fun b ob eb => hs b ob (fun q => by subst q; rw [ha.2.2] at eb; cases eb) (k.kp b ob eb), k.z0, fun b ob eb => hs b ob (fun q => by subst q; rw [ha.2.1] at eb; cases eb) (k.fz b ob eb), fun p hp => ?_, ?_, k.ge.trans hg, ho.trans k.os⟩
  · rcases List.mem_append.mp hp with hp' | hp'
    · have := k.nw p (by rw [e]; exact List.mem_append_left _ hp')
      exact ⟨this.1.up (Le.refl _) (fun o => hs _ o (ne p (List.mem_append_left _ hp'))), this.2⟩
    · rcases List.mem_cons.mp hp' with rfl | hp'
      · exact ⟨hj, ha.2⟩
      · have := k.nw p (by rw [e]; exact List.mem_append_right _ (.tail _ hp'))
        exact ⟨this.1.up (Le.refl _) (fun o => hs _ o (ne p (List.mem_append_right _ hp'))), this.2⟩
  · rw [e, List.map_append, List.map_cons] at nd
    rw [List.map_append, List.map_cons]
    exact nd
noncomputable def ins (Z : ZM) (a : Addr) (o : Obj) : ZM := fun b => if b = a then some o else Z b
theorem ins_le {a : Addr} {o : Obj} (h : Z a = none) : Le Z (ins Z a o) := fun b ob e => by
  unfold ins
  split
  · rename_i q; subst q; rw [h] at e; cases e
  · exact e
theorem ins_self {a : Addr} {o : Obj} : ins Z a o a = some o := if_pos rfl
/-- one of one's own is frozen -/
theorem St.freeze (k : St w hd F Z n s) {a : Addr} {i : It} {l r : Led} (e : n = l ++ (a, i) :: r) {o : Obj} (ho : s.heap.get? a = some o) : Le Z (ins Z a o) ∧ St w hd F (ins Z a o) (l ++ r) s := by
  have hm : (a, i) ∈ n := by rw [e]; simp
  have ha := k.nw _ hm
  have nd := k.nd
  rw [e, List.map_append, List.map_cons] at nd
  have nd := (List.perm_middle.nodup_iff).mp nd
  rw [List.nodup_cons, ← List.map_append] at nd
  have le : Le Z (ins Z a o) := ins_le ha.2.1
  refine ⟨le, fun b ob q => le _ _ (k.tp b ob q), k.ho.up le, k.kp, fun b ob q => ?_, fun b ob q => ?_, fun p hp => ?_, nd.2, k.ge, k.os⟩
  · have : b ≠ a := fun x => by subst x; rw [ha.2.2] at q; cases q
    unfold ins; rw [if_neg this]; exact k.z0 b ob q
  · unfold ins at q
    split at q
    · rename_i x; subst x; cases q; exact ho
    · exact k.fz b ob q
  · have hp' : p ∈ n := by
      rw [e]
      rcases List.mem_append.mp hp with h | h
      · exact List.mem_append_left _ h
      · exact List.mem_append_right _ (.tail _ h)
    have hne : p.1 ≠ a := fun x => nd.1 (List.mem_map.mpr ⟨p, hp, x⟩)
    have := k.nw p hp'
    refine ⟨this.1.up le fun _ q => q, ?_, this.2.2⟩
    unfold ins; rw [if_neg hne]; exact this.2.1
/-- a new object is frozen at once -/
theorem St.pushZ (k : St w hd F Z n s) {a : Addr} {o : Obj} (hn : s.heap.get? a = none) (hk : ∀ b o, s.heap.get? b = some o → s'.heap.get? b = some o) (hg : GE s.gens s'.gens) (ho : s'.os = s.os) (ha : s'.heap.get? a = some o) : Le Z (ins Z a o) ∧ St w hd F (ins Z a o) n s' :=
  (k.cons (i := .obj o) hn hk hg ho ha).freeze (l := []) rfl ha
/-- a base of a call from here -/
noncomputable def here (Z : ZM) (s : Shared) : Bs := ⟨Z, s.heap.get?, s.gens, s.os⟩
theorem start (t : Top w Z) (ho : HOk Z hd) (fz : ∀ a ob, Z a = some ob → s.heap.get? a = some ob) : St w hd (here Z s) Z [] s   := ⟨t, ho, fun _ _ h => h, fun _ _ _ => rfl, fz, (fun _ h => nomatch h), List.nodup_nil, GE.refl _, rfl⟩
theorem St.le0 (k : St w hd (here Z s) Z' n s') (fz : ∀ a ob, Z a = some ob → s.heap.get? a = some ob) : Le Z Z' := fun a ob e => (k.z0 a ob (fz a ob e)).trans e
/-- what a call leaves -/
theorem St.after (k : St w hd F Z n s) (f : St w hd (here Z s) Z' [] s') : St w hd F Z' n s' := by
  have le : Le Z Z' := f.le0 k.fz
  refine ⟨f.tp, f.ho, fun a ob e => f.kp _ _ (k.kp a ob e), fun a ob e => (f.z0 a ob (k.kp a ob e)).trans (k.z0 a ob e), f.fz, fun p hp => ?_, k.nd, k.ge.trans f.ge, f.os.trans k.os⟩
  have := k.nw p hp
  obtain ⟨o, ho⟩ := this.1.lt
  exact ⟨this.1.up le fun o q => f.kp _ o q, (f.z0 _ o ho).trans this.2.1, this.2.2⟩
end
end Mine
end
section -- Kb
open PySem PySem.W PyProof.Rows PySem.Calls
namespace Mine
/-- what a piece of code leaves: a value that reads as d, own objects n', all frozen things standing -/
inductive PoI {α δ : Type} (w : World) (hd : Option Value) (F : Bs) (R : ZM → α → δ → Prop) (P : Led → δ → Prop) (Z : ZM) (g : Array GenState) (v : α) (s' : Shared) : Prop
  | mk (Z' : ZM) (n' : Led) (d : δ) (le : Le Z Z') (ge : GE g s'.gens) (k : St w hd F Z' n' s') (r : R Z' v d) (h : P n' d)
noncomputable def Po {α δ : Type} (w : World) (hd : Option Value) (F : Bs) (R : ZM → α → δ → Prop) (P : Led → δ → Prop) (Z : ZM) (s : Shared) : α → Shared → Prop := PoI w hd F R P Z s.gens
noncomputable def Hm {α δ : Type} (w : World) (A : Around) (E : Value → Shared → Prop) (R : ZM → α → δ → Prop) (m : Sem α) (n : Led) (P : Led → δ → Prop) : Prop :=
  ∀ F Z s, St w A.handled F Z n s → wpAny (Md w) A m (Po w A.handled F R P Z s) E s
inductive Fl where
  | next | brk | cont
  | ret (d : D)
inductive RF (Z : ZM) : Flow → Fl → Prop
  | next : RF Z .next .next
  | brk : RF Z .brk .brk
  | cont : RF Z .cont .cont
  | ret {v : Value} {d : D} : Rd Z v d → RF Z (.ret v) (.ret d)
noncomputable def RB (_ : ZM) (b : Bool) (c : Bool) : Prop := b = c
noncomputable def RU (_ : ZM) (_ : Unit) (_ : Unit) : Prop := True
noncomputable abbrev Hv (w : World) (A : Around) (E : Value → Shared → Prop) (m : Sem Value) (n : Led) (P : Led → D → Prop) : Prop := Hm w A E Rd m n P
noncomputable abbrev Hb (w : World) (A : Around) (E : Value → Shared → Prop) (m : Sem Bool) (n : Led) (P : Led → Bool → Prop) : Prop := Hm w A E RB m n P
noncomputable abbrev Hs (w : World) (A : Around) (E : Value → Shared → Prop) (m : Sem Flow) (n : Led) (P : Led → Fl → Prop) : Prop := Hm w A E RF m n P
noncomputable abbrev Hl (w : World) (A : Around) (E : Value → Shared → Prop) (m : Sem (List Value)) (n : Led) (P : Led → List D → Prop) : Prop := Hm w A E Rds m n P
/-- of one value, of two, of a list -/
noncomputable def M1 {α δ : Type} (w : World) (A : Around) (E : Value → Shared → Prop) (R : ZM → α → δ → Prop) (f : Value → Sem α) (d : D) (n : Led) (P : Led → δ → Prop) : Prop :=
  ∀ F Z s v, St w A.handled F Z n s → Rd Z v d → wpAny (Md w) A (f v) (Po w A.handled F R P Z s) E s
noncomputable def M2 {α δ : Type} (w : World) (A : Around) (E : Value → Shared → Prop) (R : ZM → α → δ → Prop) (f : Value → Value → Sem α) (d e : D) (n : Led) (P : Led → δ → Prop) : Prop :=
  ∀ F Z s v u, St w A.handled F Z n s → Rd Z v d → Rd Z u e → wpAny (Md w) A (f v u) (Po w A.handled F R P Z s) E s
noncomputable def M3 {α δ : Type} (w : World) (A : Around) (E : Value → Shared → Prop) (R : ZM → α → δ → Prop) (f : Value → Value → Value → Sem α) (d e g : D) (n : Led) (P : Led → δ → Prop) : Prop :=
  ∀ F Z s v u x, St w A.handled F Z n s → Rd Z v d → Rd Z u e → Rd Z x g → wpAny (Md w) A (f v u x) (Po w A.handled F R P Z s) E s
noncomputable def ML {α δ : Type} (w : World) (A : Around) (E : Value → Shared → Prop) (R : ZM → α → δ → Prop) (f : List Value → Sem α) (ds : List D) (n : Led) (P : Led → δ → Prop) : Prop :=
  ∀ F Z s vs, St w A.handled F Z n s → Rds Z vs ds → wpAny (Md w) A (f vs) (Po w A.handled F R P Z s) E s
section
variable {w : World} {hd : Option Value} {A : Around} {E : Value → Shared → Prop} {α β δ ε : Type} {R : ZM → α → δ → Prop} {R' : ZM → β → ε → Prop} {F : Bs} {Z Z' : ZM} {n n' : Led} {s s' : Shared} {P : Led → δ → Prop} {P' : Led → ε → Prop}
theorem Po.lift {v : α} (le : Le Z Z') (ge : GE s.gens s'.gens) {t : Shared} (h : Po w hd F R P Z' s' v t) : Po w hd F R P Z s v t :=
  let ⟨Z'', n', d, l, g, k, r, p⟩ := h; ⟨Z'', n', d, le.trans l, ge.trans g, k, r, p⟩
theorem Po.here {v : α} {d : δ} (k : St w hd F Z n s) (r : R Z v d) (h : P n d) : Po w hd F R P Z s v s := ⟨Z, n, d, Le.refl _, GE.refl _, k, r, h⟩
theorem Po.at {v : α} {d : δ} (le : Le Z Z') (ge : GE s.gens s'.gens) (k : St w hd F Z' n' s') (r : R Z' v d) (h : P n' d) : Po w hd F R P Z s v s' := ⟨Z', n', d, le, ge, k, r, h⟩
theorem Po.same {v : α} {d : δ} (ge : s'.gens = s.gens) (k : St w hd F Z n' s') (r : R Z v d) (h : P n' d) : Po w hd F R P Z s v s' := ⟨Z, n', d, Le.refl _, by rw [ge]; exact GE.refl _, k, r, h⟩
/-- one piece behind another -/
theorem Po.bind {m : Sem α} {X : α → Sem β} (h : wpAny (Md w) A m (Po w A.handled F R P Z s) E s)
    (hk : ∀ v d n' Z' s', Le Z Z' → St w A.handled F Z' n' s' → R Z' v d → P n' d → wpAny (Md w) A (X v) (Po w A.handled F R' P' Z' s') E s') :
    wpAny (Md w) A m (fun v s' => wpAny (Md w) A (X v) (Po w A.handled F R' P' Z s) E s') E s :=
  wpAny_mono h (fun v s' ⟨Z', n', d, le, ge, k', r, hp⟩ => wpAny_mono (hk v d n' Z' s' le k' r hp) (fun _ _ q => q.lift le ge) fun _ _ e => e) fun _ _ e => e
theorem Hm.bind {m : Sem α} {X : α → Sem β} (h : Hm w A E R m n P) (k : St w A.handled F Z n s)
    (hk : ∀ v d n' Z' s', Le Z Z' → St w A.handled F Z' n' s' → R Z' v d → P n' d → wpAny (Md w) A (X v) (Po w A.handled F R' P' Z' s') E s') :
    wpAny (Md w) A m (fun v s' => wpAny (Md w) A (X v) (Po w A.handled F R' P' Z s) E s') E s := Po.bind (h F Z s k) hk
theorem Hm.bind2 {γ : Type} {m : Sem α} {M2 : α → Sem γ} {X : α → γ → Sem β} (h : Hm w A E R m n P) (k : St w A.handled F Z n s)
    (hk : ∀ v d n' Z' s', Le Z Z' → St w A.handled F Z' n' s' → R Z' v d → P n' d → wpAny (Md w) A (M2 v) (fun u s'' => wpAny (Md w) A (X v u) (Po w A.handled F R' P' Z' s') E s'') E s') :
    wpAny (Md w) A m (fun v s' => wpAny (Md w) A (M2 v) (fun u s'' => wpAny (Md w) A (X v u) (Po w A.handled F R' P' Z s) E s'') E s') E s :=
  wpAny_mono (h F Z s k) (fun v s' ⟨Z', n', d, le, ge, k', r, hp⟩ => wpAny_mono (hk v d n' Z' s' le k' r hp) (fun _ _ q => wpAny_mono q (fun _ _ q => q.lift le ge) fun _ _ e => e) fun _ _ e => e) fun _ _ e => e
theorem Hm.bind3 {γ κ : Type} {m : Sem α} {M2 : α → Sem γ} {M3 : α → γ → Sem κ} {X : α → γ → κ → Sem β} (h : Hm w A E R m n P) (k : St w A.handled F Z n s)
    (hk : ∀ v d n' Z' s', Le Z Z' → St w A.handled F Z' n' s' → R Z' v d → P n' d → wpAny (Md w) A (M2 v) (fun u s'' => wpAny (Md w) A (M3 v u) (fun x s₃ => wpAny (Md w) A (X v u x) (Po w A.handled F R' P' Z' s') E s₃) E s'') E s') :
    wpAny (Md w) A m (fun v s' => wpAny (Md w) A (M2 v) (fun u s'' => wpAny (Md w) A (M3 v u) (fun x s₃ => wpAny (Md w) A (X v u x) (Po w A.handled F R' P' Z s) E s₃) E s'') E s') E s :=
  wpAny_mono (h F Z s k) (fun v s' ⟨Z', n', d, le, ge, k', r, hp⟩ => wpAny_mono (hk v d n' Z' s' le k' r hp) (fun _ _ q => wpAny_mono q (fun _ _ q => wpAny_mono q (fun _ _ q => q.lift le ge) fun _ _ e => e) fun _ _ e => e) fun _ _ e => e) fun _ _ e => e
theorem Po.map {m : Sem α} {Y : α → Shared → Prop} (h : wpAny (Md w) A m (Po w A.handled F R P Z s) E s)
    (hk : ∀ v d n' Z' s', Le Z Z' → GE s.gens s'.gens → St w A.handled F Z' n' s' → R Z' v d → P n' d → Y v s') : wpAny (Md w) A m Y E s :=
  wpAny_mono h (fun v s' ⟨Z', n', d, le, ge, k', r, hp⟩ => hk v d n' Z' s' le ge k' r hp) fun _ _ e => e
theorem Hm.mono {m : Sem α} {P₂ : Led → δ → Prop} (h : Hm w A E R m n P) (hp : ∀ n d, P n d → P₂ n d) : Hm w A E R m n P₂ :=
  fun F Z s k => Po.map (h F Z s k) fun _ d n' Z' _ le ge k' r q => ⟨Z', n', d, le, ge, k', r, hp n' d q⟩
end
/-- one more in the base -/
noncomputable def Bs.plus (F : Bs) (a : Addr) (ob : Obj) : Bs := ⟨fun c => if c = a then none else F.z c, fun c => if c = a then some ob else F.b c, F.g, F.os⟩
theorem St.hide {w : World} {hd : Option Value} {F : Bs} {Z : ZM} {n : Led} {s : Shared} {a : Addr} {i : It} (k : St w hd F Z ((a, i) :: n) s) : ∃ ob, s.heap.get? a = some ob ∧ St w hd (F.plus a ob) Z n s ∧
    ∀ Z' n' s', Le Z Z' → St w hd (F.plus a ob) Z' n' s' → St w hd F Z' ((a, i) :: n') s' := by
  have ha := k.nw (a, i) (.head _)
  obtain ⟨ob, ho⟩ := ha.1.lt
  have nd := k.nd
  rw [List.map_cons, List.nodup_cons] at nd
  have hb : F.b a = none := ha.2.2
  have hz : Z a = none := ha.2.1
  refine ⟨ob, ho, ⟨k.tp, k.ho, fun c o e => ?_, fun c o e => ?_, k.fz, fun p hp => ?_, nd.2, k.ge, k.os⟩, fun Z' n' s' le k' => ?_⟩
  · simp only [Bs.plus] at e
    split at e
    · rename_i q; subst q; cases e; exact ho
    · exact k.kp c o e
  · simp only [Bs.plus] at e ⊢
    split at e
    · rename_i q; subst q; rw [if_pos rfl]; exact hz
    · rename_i q; rw [if_neg q]; exact k.z0 c o e
  · have := k.nw p (.tail _ hp)
    refine ⟨this.1, this.2.1, ?_⟩
    have hne : p.1 ≠ a := fun x => nd.1 (List.mem_map.mpr ⟨p, hp, x⟩)
    simp only [Bs.plus]; rw [if_neg hne]; exact this.2.2
  · have hfa : (F.plus a ob).b a = some ob := by simp [Bs.plus]
    have hs' : s'.heap.get? a = some ob := k'.kp a ob hfa
    have hza : Z' a = none := (k'.z0 a ob hfa).trans (by simp [Bs.plus])
    have hbne : ∀ c o, F.b c = some o → c ≠ a := fun c o e q => by subst q; rw [hb] at e; cases e
    refine ⟨k'.tp, k'.ho, fun c o e => k'.kp c o (by simp only [Bs.plus]; rw [if_neg (hbne c o e)]; exact e), fun c o e => (k'.z0 c o (by simp only [Bs.plus]; rw [if_neg (hbne c o e)]; exact e)).trans (by simp only [Bs.plus]; rw [if_neg (hbne c o e)]),
      k'.fz, fun p hp => ?_, ?_, k'.ge, k'.os⟩
    · rcases List.mem_cons.mp hp with rfl | hp
      · exact ⟨ha.1.up le fun o q => by rw [ho] at q; cases q; exact hs', hza, hb⟩
      · have := k'.nw p hp
        refine ⟨this.1, this.2.1, ?_⟩
        have h3 := this.2.2
        simp only [Bs.plus] at h3
        split at h3
        · cases h3
        · exact h3
    · rw [List.map_cons, List.nodup_cons]
      refine ⟨fun hm => ?_, k'.nd⟩
      obtain ⟨p, hp, e⟩ := List.mem_map.mp hm
      have h3 := (k'.nw p hp).2.2
      have e' : p.1 = a := e
      rw [e', hfa] at h3; cases h3
section
variable {w : World} {A : Around} {E : Value → Shared → Prop} {α δ : Type} {R : ZM → α → δ → Prop} {n : Led} {P : Led → δ → Prop}
/-- a piece in a frame that hides one own object: raw -/
theorem Hm.hid {m : Sem α} {F : Bs} {Z : ZM} {s : Shared} {a : Addr} {i : It} {Y : α → Shared → Prop} (h : Hm w A E R m n P) (k : St w A.handled F Z ((a, i) :: n) s)
    (hk : ∀ v d n' Z' s', Le Z Z' → GE s.gens s'.gens → St w A.handled F Z' ((a, i) :: n') s' → R Z' v d → P n' d → Y v s') : wpAny (Md w) A m Y E s := by
  obtain ⟨ob, ho, k₁, back⟩ := k.hide
  exact Po.map (h _ Z s k₁) fun v d n' Z' s' le ge k' r q => hk v d n' Z' s' le ge (back _ _ _ le k') r q
theorem M1.hid {f : Value → Sem α} {v₀ : Value} {d₀ : D} {F : Bs} {Z : ZM} {s : Shared} {a : Addr} {i : It} {Y : α → Shared → Prop} (h : M1 w A E R f d₀ n P) (k : St w A.handled F Z ((a, i) :: n) s) (rv : Rd Z v₀ d₀)
    (hk : ∀ v d n' Z' s', Le Z Z' → GE s.gens s'.gens → St w A.handled F Z' ((a, i) :: n') s' → R Z' v d → P n' d → Y v s') : wpAny (Md w) A (f v₀) Y E s := by
  obtain ⟨ob, ho, k₁, back⟩ := k.hide
  exact Po.map (h _ Z s v₀ k₁ rv) fun v d n' Z' s' le ge k' r q => hk v d n' Z' s' le ge (back _ _ _ le k') r q
end
-- what is to follow has a name, so that goals stay small
section
variable (w : World) (A : Around) (E : Value → Shared → Prop) (env : Env)
noncomputable abbrev uM (f : Value → Value → Sem Value) (P : Led → D → Prop) (a : D) : Led → D → Prop := fun n b => M2 w A E Rd f a b n P
noncomputable abbrev uR (r : Expr) (f : Value → Value → Sem Value) (P : Led → D → Prop) : Led → D → Prop := fun n a => Hv w A E (eval r env) n (uM w A E f P a)
noncomputable abbrev uU (f : Value → Sem Value) (P : Led → D → Prop) : Led → D → Prop := fun n a => M1 w A E Rd f a n P
noncomputable abbrev uT (P : Led → Bool → Prop) : Led → D → Prop := fun n a => M1 w A E RB truthy a n P
noncomputable abbrev uB (P : Led → Bool → Prop) : Led → D → Prop := fun n d => ∃ c, d = .bool c ∧ P n c
noncomputable abbrev uNt (P : Led → Bool → Prop) : Led → Bool → Prop := fun n c => P n (!c)
noncomputable abbrev uIv (b o : Expr) (P : Led → D → Prop) : Led → Bool → Prop := fun n c => if c = true then Hv w A E (eval b env) n P else Hv w A E (eval o env) n P
noncomputable abbrev uIs (b o : List Stmt) (P : Led → Fl → Prop) : Led → Bool → Prop := fun n c => if c = true then Hs w A E (execs b env) n P else Hs w A E (execs o env) n P
noncomputable abbrev uAn (rest : List Expr) (pos : Pos) (wh : Sem Value) (P : Led → Bool → Prop) : Led → Bool → Prop := fun n c => if c = true then Hb w A E (isTrue (.BoolOp .And rest pos) env wh) n P else P n false
noncomputable abbrev uOr (rest : List Expr) (pos : Pos) (wh : Sem Value) (P : Led → Bool → Prop) : Led → Bool → Prop := fun n c => if c = true then P n true else Hb w A E (isTrue (.BoolOp .Or rest pos) env wh) n P
noncomputable abbrev uCo (P : Led → List D → Prop) (d : D) : Led → List D → Prop := fun n ds => P n (d :: ds)
noncomputable abbrev uSp (rest : List Expr) (pos : Pos) (P : Led → List D → Prop) : Led → D → Prop := fun n d => Hl w A E (spliced (backTo pos (starEach rest env))) n (uCo P d)
noncomputable abbrev uTu (P : Led → D → Prop) : Led → List D → Prop := fun n ds => ds.length ≤ sizeLine ∧ P n (.tup ds)
noncomputable abbrev uLs (P : Led → D → Prop) : Led → List D → Prop := fun n ds => ds.length ≤ sizeLine ∧ P n (.lst ds)
noncomputable abbrev uLo (P : Led → D → Prop) : Led → List D → Prop := fun n ds => ds.length ≤ sizeLine ∧ ∃ p r, n = p :: r ∧ ∀ a, P (p :: (a, .lst ds) :: r) (.raw (.ref a))
noncomputable abbrev uX (P : Led → Fl → Prop) : Led → Unit → Prop := fun n _ => P n .next
noncomputable abbrev uA (x : Str) (P : Led → Fl → Prop) : Led → D → Prop := fun n d => M1 w A E RU (storeName env x) d n (uX P)
noncomputable abbrev uG (op : Operator) (x : Str) (P : Led → Fl → Prop) (d : D) : Led → D → Prop := fun n e => M2 w A E Rd (inplaceOp op) d e n (uA w A E env x P)
noncomputable abbrev uRt (P : Led → Fl → Prop) : Led → D → Prop := fun n d => P n (.ret d)
noncomputable abbrev uE (P : Led → Fl → Prop) : Led → D → Prop := fun n d => (d = .none ∨ ∃ i, d = .int i) ∧ P n .next
noncomputable abbrev uCl (f : Value) (P : Led → D → Prop) : Led → List D → Prop := fun n ds => ML w A E Rd (fun vs => call f vs) ds n P
noncomputable abbrev uP3 (P : Led → D → Prop) (a b : D) : Led → D → Prop := fun n c => P n (.slc a b c)
noncomputable abbrev uP2 (st : Option Expr) (P : Led → D → Prop) (a : D) : Led → D → Prop := fun n b => Hv w A E (evalPart st env) n (uP3 P a b)
noncomputable abbrev uP1 (hi st : Option Expr) (P : Led → D → Prop) : Led → D → Prop := fun n a => Hv w A E (evalPart hi env) n (uP2 w A E env st P a)
end
/-- the head of a goal that is an if -/
theorem iT {c a b : Prop} [Decidable c] (h : c) (x : a) : if c then a else b := by rw [if_pos h]; exact x
theorem iTe {c a b : Prop} [Decidable c] (h : c) (x : if c then a else b) : a := by rw [if_pos h] at x; exact x
theorem iFe {c a b : Prop} [Decidable c] (h : ¬ c) (x : if c then a else b) : b := by rw [if_neg h] at x; exact x
theorem iF {c a b : Prop} [Decidable c] (h : ¬ c) (x : b) : if c then a else b := by rw [if_neg h]; exact x
end Mine
end
section -- Kc
open PySem PySem.W PyProof.Rows PySem.Calls
namespace Mine
section
variable {w : World} {hd : Option Value} {A : Around} {E : Value → Shared → Prop} {env : Env} {n : Led} {P : Led → D → Prop}
theorem St.topH {F : Bs} {Z : ZM} {s : Shared} (k : St w hd F Z n s) : ∀ b o, (H1 w.params).get? b = some o → s.heap.get? b = some o := fun a o e => k.fz _ _ (k.tp a o e)
theorem nmL {L : Addr} {x : Str} {b : Binds} {r : Led} {d : D} {pos : Pos} (hL : env.locals = L) (hk : env.scope.kind = .function) (hl : env.kindOf x = some .local) (hd : (x == ("__debug__" : Str)) = false) (hv : b.lookup x = some d)
    (h : P ((L, .fr b) :: r) d) : Hv w A E (eval (.Name x pos) env) ((L, .fr b) :: r) P := fun F Z s k => by
  subst hL
  obtain ⟨⟨m, hn, hb⟩, _⟩ := k.nw _ (.head _)
  obtain ⟨v, hv, rv⟩ := hb x d hv
  exact wpAny_Name (wpAny_loadName_local hk hl hn hv (Po.here k rv h)) hd
theorem nmC {c : Addr} {x : Str} {d : D} {pos : Pos} (hk : env.scope.kind = .function) (hl : env.kindOf x = some .cell) (hd : (x == ("__debug__" : Str)) = false) (hc : env.cells.lookup x = some c) (hm : (c, It.cell (some d)) ∈ n)
    (h : P n d) : Hv w A E (eval (.Name x pos) env) n P := fun F Z s k => by
  obtain ⟨⟨o, ho, v, rfl, rv⟩, _⟩ := k.nw _ hm
  exact wpAny_Name (wpAny_loadName_cell hk hl hc ho (Po.here k rv h)) hd
theorem nmG {x : Str} {v : Value} {pos : Pos} (hg : env.globals = mainGlobals) (hk : env.scope.kind = .function) (hl : env.kindOf x = some .globalImplicit) (hd : (x == ("__debug__" : Str)) = false) (hv : (H1 w.params).nsMap mainGlobals x = some v)
    (h : P n (.raw v)) : Hv w A E (eval (.Name x pos) env) n P := fun F Z s k => by
  exact Name_function_global hk hl (loadGlobal_global (by rw [hg]; exact (nsG w.params).keeps k.topH) hv (Po.here k (.raw v) h)) hd
theorem nmB {x : Str} {v : Value} {pos : Pos} (hg : env.globals = mainGlobals) (hb : env.builtins = builtinsNs) (hk : env.scope.kind = .function) (hl : env.kindOf x = some .globalImplicit) (hd : (x == ("__debug__" : Str)) = false)
    (hm : (H1 w.params).nsMap mainGlobals x = none) (hv : (H1 w.params).nsMap builtinsNs x = some v)
    (h : P n (.raw v)) : Hv w A E (eval (.Name x pos) env) n P := fun F Z s k => by
  exact Name_function_global hk hl (loadGlobal_builtin (by rw [hg]; exact (nsG w.params).keeps k.topH) hm (by rw [hb]; exact (nsB w.params).keeps k.topH) hv (Po.here k (.raw v) h)) hd
theorem kI {i : Int} {kd : Nat} {pos : Pos} (h : P n (.int i)) : Hv w A E (eval (.Constant (.int i) kd pos) env) n P := fun _ _ _s k => wpAny_Constant_int (Po.same rfl (k.tok _) (.int i _) h)
theorem kS {x : Str} {kd : Nat} {pos : Pos} (h : P n (.str x)) : Hv w A E (eval (.Constant (.str x) kd pos) env) n P := fun _ _ _s k => wpAny_Constant_str (Po.same rfl (k.tok _) (.str x _) h)
theorem kN {kd : Nat} {pos : Pos} (h : P n .none) : Hv w A E (eval (.Constant .none kd pos) env) n P := fun _ _ _s k => wpAny_Constant_none (Po.here k .none h)
theorem kB {b : Bool} {kd : Nat} {pos : Pos} (h : P n (.bool b)) : Hv w A E (eval (.Constant (.bool b) kd pos) env) n P := fun _ _ _s k => wpAny_Constant_bool (Po.here k (.bool b) h)
theorem bin {l r : Expr} {op : Operator} {pos : Pos} (h : Hv w A E (eval l env) n (uR w A E env r (binaryOp op) P)) : Hv w A E (eval (.BinOp l op r pos) env) n P :=
  fun _ _ _ k => wpAny_BinOp (h.bind2 k fun _ _ _ _ _ _ k₁ r₁ h₁ => h₁.bind k₁ fun _ _ _ _ _ le₂ k₂ r₂ h₂ => h₂ _ _ _ _ _ k₂ (r₁.up le₂) r₂)
theorem cmp {l r : Expr} {op : CmpOp} {pos : Pos} (hm : behindInMarks op r = false) (h : Hv w A E (eval l env) n (uR w A E env r (compareOp op) P)) : Hv w A E (eval (.Compare l [op] [r] pos) env) n P :=
  fun _ _ _ k => wpAny_Compare1 (h.bind2 k fun _ _ _ _ _ _ k₁ r₁ h₁ => h₁.bind k₁ fun _ _ _ _ _ le₂ k₂ r₂ h₂ => h₂ _ _ _ _ _ k₂ (r₁.up le₂) r₂) hm
theorem una {e : Expr} {op : UnaryOp} {pos : Pos} (h : Hv w A E (eval e env) n (uU w A E (unaryOp op) P)) : Hv w A E (eval (.UnaryOp op e pos) env) n P :=
  fun _ _ _ k => wpAny_UnaryOp (h.bind k fun _ _ _ _ _ _ k₁ r₁ h₁ => h₁ _ _ _ _ k₁ r₁)
theorem sub {e sl : Expr} {pos : Pos} (h : Hv w A E (eval e env) n (uR w A E env sl (subscriptTail e sl) P)) : Hv w A E (eval (.Subscript e sl pos) env) n P :=
  fun _ _ _ k => Subscript_ (h.bind2 k fun _ _ _ _ _ _ k₁ r₁ h₁ => h₁.bind k₁ fun _ _ _ _ _ le₂ k₂ r₂ h₂ => h₂ _ _ _ _ _ k₂ (r₁.up le₂) r₂)
theorem ife {t b o : Expr} {pos : Pos} (h : Hb w A E (isTrue t env (eval t env)) n (uIv w A E env b o P)) : Hv w A E (eval (.IfExp t b o pos) env) n P :=
  fun F Z s k => wpAny_IfExp (Po.map (h F Z s k) fun c c' n' Z' s' le ge k' (rc : c = c') h' => by
    subst rc
    split
    · rename_i q; replace h' := iTe q h'; exact wpAny_mono (h' _ _ _ k') (fun _ _ q => q.lift le ge) fun _ _ e => e
    · rename_i q; replace h' := iFe q h'; exact wpAny_mono (h' _ _ _ k') (fun _ _ q => q.lift le ge) fun _ _ e => e)
-- lists of values
theorem spN {pos : Pos} {P : Led → List D → Prop} (h : P n []) : Hl w A E (spliced (backTo pos (starEach [] env))) n P := fun _ _ _ k => spliced_none (Po.here k .nil h)
theorem spC {e : Expr} {rest : List Expr} {pos : Pos} {P : Led → List D → Prop} (he : starEach (e :: rest) env = (false, eval e env) :: starEach rest env)
    (h : Hv w A E (eval e env) n (uSp w A E env rest pos P)) : Hl w A E (spliced (backTo pos (starEach (e :: rest) env))) n P := fun F Z s k => by
  refine spliced_more (Po.map (h F Z s k) fun v d n₁ Z₁ s₁ le₁ ge₁ k₁ r₁ h₁ => ?_) he
  exact Po.map (h₁ _ _ _ k₁) fun vs ds n₂ Z₂ s₂ le₂ ge₂ k₂ r₂ h₂ => Po.at (le₁.trans le₂) (ge₁.trans ge₂) k₂ (.cons (r₁.up le₂) r₂) h₂
theorem freshSeq {F : Bs} {Z : ZM} {s : Shared} {T : String} {xs : List Value} (k : St w hd F Z n s) :
    ∃ Z', Le Z Z' ∧ St w hd F Z' n { s with heap := s.heap.push { cls := .type T, data := .seq xs.toArray } } ∧ SeqAt Z' T s.heap.objs.size xs := by
  have := k.pushZ (a := s.heap.objs.size) (o := { cls := .type T, data := .seq xs.toArray }) (s' := { s with heap := s.heap.push { cls := .type T, data := .seq xs.toArray } }) top_none
    (fun b o e => Heap.get?_push_of_some _ e) (GE.refl _) rfl (Heap.get?_push_size _ rfl)
  exact ⟨_, this.1, this.2, _, ins_self⟩
theorem tup_ {elts : List Expr} {x : Nat} {pos : Pos} (h : Hl w A E (spliced (backTo pos (starEach elts env))) n (uTu P)) : Hv w A E (eval (.Tuple elts x pos) env) n P := fun F Z s k => by
  refine wpAny_Tuple_spliced (Po.map (h F Z s k) fun vs ds n₁ Z₁ s₁ le ge k₁ r₁ h₁ => ⟨by rw [r₁.len]; exact h₁.1, ?_⟩)
  obtain ⟨Z₂, le₂, k₂, q⟩ := freshSeq (T := "tuple") (xs := vs) k₁
  exact Po.at (le.trans le₂) ge k₂ (.tup q (r₁.up le₂)) h₁.2
/-- a list that is frozen -/
theorem lst_ {elts : List Expr} {pos : Pos} (h : Hl w A E (spliced (backTo pos (starEach elts env))) n (uLs P)) : Hv w A E (eval (.List elts pos) env) n P := fun F Z s k => by
  refine wpAny_List_spliced (Po.map (h F Z s k) fun vs ds n₁ Z₁ s₁ le ge k₁ r₁ h₁ => ⟨by rw [r₁.len]; exact h₁.1, ?_⟩)
  obtain ⟨Z₂, le₂, k₂, q⟩ := freshSeq (T := "list") (xs := vs) k₁
  exact Po.at (le.trans le₂) ge k₂ (.lst q (r₁.up le₂)) h₁.2
theorem St.own {F : Bs} {Z : ZM} {s s' : Shared} {p : Addr × It} {a : Addr} {i : It} (k : St w hd F Z (p :: n) s) (hn : s.heap.get? a = none) (hk : ∀ b o, s.heap.get? b = some o → s'.heap.get? b = some o) (hg : GE s.gens s'.gens) (ho : s'.os = s.os) (hi : i.In Z s'.heap a) :
    St w hd F Z (p :: (a, i) :: n) s' := (k.cons hn hk hg ho hi).perm (.swap _ _ _)
/-- a list of one's own -/
theorem lstO {elts : List Expr} {pos : Pos} (h : Hl w A E (spliced (backTo pos (starEach elts env))) n (uLo P)) : Hv w A E (eval (.List elts pos) env) n P := fun F Z s k => by
  refine wpAny_List_spliced (Po.map (h F Z s k) fun vs ds n₁ Z₁ s₁ le ge k₁ r₁ h₁ => ⟨by rw [r₁.len]; exact h₁.1, ?_⟩)
  obtain ⟨_, p, r, rfl, hp⟩ := h₁
  exact Po.at le ge (k₁.own (i := .lst ds) (a := s₁.heap.objs.size) (s' := { s₁ with heap := s₁.heap.push { cls := .type "list", data := .seq vs.toArray } }) top_none (fun b o e => Heap.get?_push_of_some _ e) (GE.refl _) rfl ⟨vs, ⟨_, Heap.get?_push_size _ rfl⟩, r₁⟩) (.raw _) (hp _)
-- tests
variable {PB : Led → Bool → Prop}
theorem trC {l r : Expr} {op : CmpOp} {pos : Pos} {wh : Sem Value} (hm : behindInMarks op r = false) (h : Hv w A E (eval l env) n (uR w A E env r (compareOp op) (uB PB))) :
    Hb w A E (isTrue (.Compare l [op] [r] pos) env wh) n PB := fun _ _ _ k =>
  wpAny_isTrue_Compare1 (h.bind3 k fun _ _ _ _ _ _ k₁ r₁ h₁ => h₁.bind2 k₁ fun v₂ d₂ n₂ Z₂ s₂ le₂ k₂ r₂ h₂ => Po.bind (h₂ _ _ _ _ _ k₂ (r₁.up le₂) r₂) fun v₃ d₃ n₃ Z₃ s₃ le₃ k₃ r₃ h₃ => by
    obtain ⟨c, rfl, hc⟩ := h₃
    (first | apply Rds.nE r₃ | (apply Rd.iE r₃; intro _) | (apply Rd.sE r₃; intro _) | apply Rd.rE r₃ | apply Rd.bE r₃ | apply Rd.nE r₃ | cases r₃)
    exact wpAny_truthy_bool (Po.here k₃ rfl hc)) hm
theorem trP {e : Expr} {wh : Sem Value} (he : isTrue e env wh = (do let v ← wh; standAt e.pos; holding [v] (truthy v))) (h : Hv w A E wh n (uT w A E PB)) : Hb w A E (isTrue e env wh) n PB := fun _ _ _ k =>
  wpAny_isTrue_value (h.bind k fun _ _ _ _ _ _ k₁ r₁ h₁ => h₁ _ _ _ _ k₁ r₁) he
theorem trN {e : Expr} {pos : Pos} {wh : Sem Value} (h : Hb w A E (isTrue e env (eval e env)) n (uNt PB)) : Hb w A E (isTrue (.UnaryOp .Not e pos) env wh) n PB := fun F Z s k =>
  isTrue_not (Po.map (h F Z s k) fun c c' n' Z' s' le ge k' (rc : c = c') h' => Po.at le ge k' (show RB Z' (!c) (!c') by rw [rc]; rfl) h')
theorem trA0 {pos : Pos} {wh : Sem Value} (h : PB n true) : Hb w A E (isTrue (.BoolOp .And [] pos) env wh) n PB := fun _ _ _ k => isTrue_and_nil (Po.here k rfl h)
theorem trO0 {pos : Pos} {wh : Sem Value} (h : PB n false) : Hb w A E (isTrue (.BoolOp .Or [] pos) env wh) n PB := fun _ _ _ k => isTrue_or_nil (Po.here k rfl h)
theorem trA {e : Expr} {rest : List Expr} {pos : Pos} {wh : Sem Value} (h : Hb w A E (isTrue e env (eval e env)) n (uAn w A E env rest pos wh PB)) :
    Hb w A E (isTrue (.BoolOp .And (e :: rest) pos) env wh) n PB := fun F Z s k => isTrue_and (Po.map (h F Z s k) fun c c' n' Z' s' le ge k' (rc : c = c') h' => by
    subst rc
    split
    · rename_i q; replace h' := iTe q h'; exact wpAny_mono (h' _ _ _ k') (fun _ _ q => q.lift le ge) fun _ _ e => e
    · rename_i q; replace h' := iFe q h'; exact Po.at le ge k' rfl h')
theorem trO {e : Expr} {rest : List Expr} {pos : Pos} {wh : Sem Value} (h : Hb w A E (isTrue e env (eval e env)) n (uOr w A E env rest pos wh PB)) :
    Hb w A E (isTrue (.BoolOp .Or (e :: rest) pos) env wh) n PB := fun F Z s k => isTrue_or (Po.map (h F Z s k) fun c c' n' Z' s' le ge k' (rc : c = c') h' => by
    subst rc
    split
    · rename_i q; replace h' := iTe q h'; exact Po.at le ge k' rfl h'
    · rename_i q; replace h' := iFe q h'; exact wpAny_mono (h' _ _ _ k') (fun _ _ q => q.lift le ge) fun _ _ e => e)
theorem tyI {a : Int} (h : PB n (a != 0)) : M1 w A E RB truthy (.int a) n PB := fun _ _ _ _ k r => by (first | apply Rds.nE r | (apply Rd.iE r; intro _) | (apply Rd.sE r; intro _) | apply Rd.rE r | apply Rd.bE r | apply Rd.nE r | cases r); exact truthy_int (Po.here k rfl h)
theorem tyB {a : Bool} (h : PB n a) : M1 w A E RB truthy (.bool a) n PB := fun _ _ _ _ k r => by (first | apply Rds.nE r | (apply Rd.iE r; intro _) | (apply Rd.sE r; intro _) | apply Rd.rE r | apply Rd.bE r | apply Rd.nE r | cases r); exact wpAny_truthy_bool (Po.here k rfl h)
theorem SeqAt.list {F : Bs} {Z : ZM} {s : Shared} {l : Addr} {xs : List Value} (q : SeqAt Z "list" l xs) (k : St w hd F Z n s) : s.heap.IsList l xs.toArray := let ⟨m, e⟩ := q; ⟨_, k.fz _ _ e, rfl, m, rfl⟩
theorem SeqAt.tup {F : Bs} {Z : ZM} {s : Shared} {l : Addr} {xs : List Value} (q : SeqAt Z "tuple" l xs) (k : St w hd F Z n s) : IsTup s.heap l xs.toArray := let ⟨m, e⟩ := q; ⟨_, k.fz _ _ e, rfl, m, rfl⟩
theorem tyL {ds : List D} (hs : (ds.length : Int) < 2 ^ 63) (h : PB n (!ds.isEmpty)) : M1 w A E RB truthy (.lst ds) n PB := fun _ _ s _ k r => by
  apply Rd.lE r; intro _ _ q r
  refine wpAny_truthy_list (q.list k) (by simp only [List.size_toArray, r.len]; exact hs) (Po.same rfl (k.tok _) (d := !ds.isEmpty) ?_ h)
  show _ = _
  cases r <;> rfl
theorem tyO {ds : List D} {a : Addr} (hm : (a, It.lst ds) ∈ n) (hs : (ds.length : Int) < 2 ^ 63) (h : PB n (!ds.isEmpty)) : M1 w A E RB truthy (.raw (.ref a)) n PB := fun _ _ s _ k r => by
  cases r with
  | raw =>
    obtain ⟨⟨xs, hl, r⟩, _⟩ := k.nw _ hm
    refine wpAny_truthy_list hl.isList (by simp only [List.size_toArray, r.len]; exact hs) (Po.same rfl (k.tok _) (d := !ds.isEmpty) ?_ h)
    show _ = _
    cases r <;> rfl
theorem lstC {e : Expr} {elts : List Expr} {pos : Pos} : type_of% (@lst_ w A E env n P (e :: elts) pos) := lst_
theorem trPn {x : Str} {p : Pos} {wh : Sem Value} : type_of% (@trP w A E env n PB (.Name x p) wh) := trP
theorem trPb {l r : Expr} {op : Operator} {p : Pos} {wh : Sem Value} : type_of% (@trP w A E env n PB (.BinOp l op r p) wh) := trP
theorem trPc {f : Expr} {as : List Expr} {ks : List Keyword} {p : Pos} {wh : Sem Value} : type_of% (@trP w A E env n PB (.Call f as ks p) wh) := trP
end
end Mine
end
section -- Kc2
open PySem PySem.W PyProof.Rows PySem.Calls
namespace Mine
noncomputable def plainE : Expr → Bool | .Starred _ _ => false | _ => true
theorem seC {e : Expr} {rest : List Expr} {env : Env} (h : plainE e = true) : starEach (e :: rest) env = (false, eval e env) :: starEach rest env := by
  cases e <;> first | rfl | cases h
end Mine
end
section -- Kd
open PySem PySem.W PyProof.Rows PySem.Calls
namespace Mine
section
variable {w : World} {hd : Option Value} {A : Around} {E : Value → Shared → Prop} {env : Env} {n : Led} {P : Led → D → Prop}
theorem Po.int {F : Bs} {Z : ZM} {s : Shared} {i : Int} {t : Nat} (k : St w hd F Z n s) (h : P n (.int i)) : Po w hd F Rd P Z s (.int i s.toks) { s with toks := t } := Po.same rfl (k.tok _) (.int i _) h
theorem addI {a b : Int} (h : P n (.int (a + b))) : M2 w A E Rd (binaryOp .Add) (.int a) (.int b) n P := fun _ _ _ _ _ k r q => by (first | apply Rds.nE r | (apply Rd.iE r; intro _) | (apply Rd.sE r; intro _) | apply Rd.rE r | apply Rd.bE r | apply Rd.nE r | cases r); (first | apply Rds.nE q | (apply Rd.iE q; intro _) | (apply Rd.sE q; intro _) | apply Rd.rE q | apply Rd.bE q | apply Rd.nE q | cases q); with_reducible exact add_int (Po.int k h)
theorem subI {a b : Int} (h : P n (.int (a - b))) : M2 w A E Rd (binaryOp .Sub) (.int a) (.int b) n P := fun _ _ _ _ _ k r q => by (first | apply Rds.nE r | (apply Rd.iE r; intro _) | (apply Rd.sE r; intro _) | apply Rd.rE r | apply Rd.bE r | apply Rd.nE r | cases r); (first | apply Rds.nE q | (apply Rd.iE q; intro _) | (apply Rd.sE q; intro _) | apply Rd.rE q | apply Rd.bE q | apply Rd.nE q | cases q); with_reducible exact sub_int (Po.int k h)
theorem mulI {a b : Int} (hm : IntMulOk a b) (h : P n (.int (a * b))) : M2 w A E Rd (binaryOp .Mult) (.int a) (.int b) n P := fun _ _ _ _ _ k r q => by (first | apply Rds.nE r | (apply Rd.iE r; intro _) | (apply Rd.sE r; intro _) | apply Rd.rE r | apply Rd.bE r | apply Rd.nE r | cases r); (first | apply Rds.nE q | (apply Rd.iE q; intro _) | (apply Rd.sE q; intro _) | apply Rd.rE q | apply Rd.bE q | apply Rd.nE q | cases q); with_reducible exact mul_int (Po.int k h) hm
theorem divI {a b : Int} (hb : b ≠ 0) (hm : Builtin.divisionGoesByPylong a b = false) (h : P n (.int (a.fdiv b))) : M2 w A E Rd (binaryOp .FloorDiv) (.int a) (.int b) n P := fun _ _ _ _ _ k r q => by (first | apply Rds.nE r | (apply Rd.iE r; intro _) | (apply Rd.sE r; intro _) | apply Rd.rE r | apply Rd.bE r | apply Rd.nE r | cases r); (first | apply Rds.nE q | (apply Rd.iE q; intro _) | (apply Rd.sE q; intro _) | apply Rd.rE q | apply Rd.bE q | apply Rd.nE q | cases q); with_reducible exact floordiv_int hb (Po.int k h) (.inl hm)
theorem modI {a b : Int} (hb : b ≠ 0) (h : P n (.int (a.fmod b))) : M2 w A E Rd (binaryOp .Mod) (.int a) (.int b) n P := fun _ _ _ _ _ k r q => by (first | apply Rds.nE r | (apply Rd.iE r; intro _) | (apply Rd.sE r; intro _) | apply Rd.rE r | apply Rd.bE r | apply Rd.nE r | cases r); (first | apply Rds.nE q | (apply Rd.iE q; intro _) | (apply Rd.sE q; intro _) | apply Rd.rE q | apply Rd.bE q | apply Rd.nE q | cases q); with_reducible exact mod_int' hb (Po.int k h)
theorem powI {a b : Int} (hb : 0 ≤ b) (hs : (Builtin.Int.intBits a : Int) * b ≤ 2 ^ 27) (h : P n (.int (a ^ b.toNat))) : M2 w A E Rd (binaryOp .Pow) (.int a) (.int b) n P := fun _ _ _ _ _ k r q => by (first | apply Rds.nE r | (apply Rd.iE r; intro _) | (apply Rd.sE r; intro _) | apply Rd.rE r | apply Rd.bE r | apply Rd.nE r | cases r); (first | apply Rds.nE q | (apply Rd.iE q; intro _) | (apply Rd.sE q; intro _) | apply Rd.rE q | apply Rd.bE q | apply Rd.nE q | cases q); with_reducible exact pow_int hb hs (Po.int k h)
theorem andI {a b : Int} (h : P n (.int (Builtin.bitAnd a b))) : M2 w A E Rd (binaryOp .BitAnd) (.int a) (.int b) n P := fun _ _ _ _ _ k r q => by (first | apply Rds.nE r | (apply Rd.iE r; intro _) | (apply Rd.sE r; intro _) | apply Rd.rE r | apply Rd.bE r | apply Rd.nE r | cases r); (first | apply Rds.nE q | (apply Rd.iE q; intro _) | (apply Rd.sE q; intro _) | apply Rd.rE q | apply Rd.bE q | apply Rd.nE q | cases q); with_reducible exact and_int (Po.int k h)
theorem shlI {a b : Int} (hb : 0 ≤ b) (hc : b ≤ 1000000) (ha : a.natAbs < 2 ^ 64) (h : P n (.int (a * 2 ^ b.toNat))) : M2 w A E Rd (binaryOp .LShift) (.int a) (.int b) n P := fun _ _ _ _ _ k r q => by (first | apply Rds.nE r | (apply Rd.iE r; intro _) | (apply Rd.sE r; intro _) | apply Rd.rE r | apply Rd.bE r | apply Rd.nE r | cases r); (first | apply Rds.nE q | (apply Rd.iE q; intro _) | (apply Rd.sE q; intro _) | apply Rd.rE q | apply Rd.bE q | apply Rd.nE q | cases q); exact lshift_int_small hb hc ha (Po.int k h)
theorem iaddI {a b : Int} (h : P n (.int (a + b))) : M2 w A E Rd (inplaceOp .Add) (.int a) (.int b) n P := fun _ _ _ _ _ k r q => by (first | apply Rds.nE r | (apply Rd.iE r; intro _) | (apply Rd.sE r; intro _) | apply Rd.rE r | apply Rd.bE r | apply Rd.nE r | cases r); (first | apply Rds.nE q | (apply Rd.iE q; intro _) | (apply Rd.sE q; intro _) | apply Rd.rE q | apply Rd.bE q | apply Rd.nE q | cases q); with_reducible exact iadd_int (Po.int k h)
theorem isubI {a b : Int} (h : P n (.int (a - b))) : M2 w A E Rd (inplaceOp .Sub) (.int a) (.int b) n P := fun _ _ _ _ _ k r q => by (first | apply Rds.nE r | (apply Rd.iE r; intro _) | (apply Rd.sE r; intro _) | apply Rd.rE r | apply Rd.bE r | apply Rd.nE r | cases r); (first | apply Rds.nE q | (apply Rd.iE q; intro _) | (apply Rd.sE q; intro _) | apply Rd.rE q | apply Rd.bE q | apply Rd.nE q | cases q); with_reducible exact isub_int (Po.int k h)
theorem iorI {a b : Int} (h : P n (.int (Builtin.bitOr a b))) : M2 w A E Rd (inplaceOp .BitOr) (.int a) (.int b) n P := fun _ _ _ _ _ k r q => by (first | apply Rds.nE r | (apply Rd.iE r; intro _) | (apply Rd.sE r; intro _) | apply Rd.rE r | apply Rd.bE r | apply Rd.nE r | cases r); (first | apply Rds.nE q | (apply Rd.iE q; intro _) | (apply Rd.sE q; intro _) | apply Rd.rE q | apply Rd.bE q | apply Rd.nE q | cases q); with_reducible exact ior_int (Po.int k h)
theorem ixorI {a b : Int} (h : P n (.int (Builtin.bitXor a b))) : M2 w A E Rd (inplaceOp .BitXor) (.int a) (.int b) n P := fun _ _ _ _ _ k r q => by (first | apply Rds.nE r | (apply Rd.iE r; intro _) | (apply Rd.sE r; intro _) | apply Rd.rE r | apply Rd.bE r | apply Rd.nE r | cases r); (first | apply Rds.nE q | (apply Rd.iE q; intro _) | (apply Rd.sE q; intro _) | apply Rd.rE q | apply Rd.bE q | apply Rd.nE q | cases q); with_reducible exact ixor_int (Po.int k h)
theorem ishlI {a b : Int} (hb : 0 ≤ b) (hc : (Builtin.Int.intBits a : Int) + b ≤ 2 ^ 27) (h : P n (.int (a * 2 ^ b.toNat))) : M2 w A E Rd (inplaceOp .LShift) (.int a) (.int b) n P := fun _ _ _ _ _ k r q => by (first | apply Rds.nE r | (apply Rd.iE r; intro _) | (apply Rd.sE r; intro _) | apply Rd.rE r | apply Rd.bE r | apply Rd.nE r | cases r); (first | apply Rds.nE q | (apply Rd.iE q; intro _) | (apply Rd.sE q; intro _) | apply Rd.rE q | apply Rd.bE q | apply Rd.nE q | cases q); with_reducible exact ilshift_int hb hc (Po.int k h)
theorem negI {a : Int} (h : P n (.int (-a))) : M1 w A E Rd (unaryOp .USub) (.int a) n P := fun _ _ _ _ k r => by (first | apply Rds.nE r | (apply Rd.iE r; intro _) | (apply Rd.sE r; intro _) | apply Rd.rE r | apply Rd.bE r | apply Rd.nE r | cases r); with_reducible exact neg_int (Po.int k h)
theorem addS {a b : Str} (hs : a.length + b.length ≤ sizeLine) (h : P n (.str (a ++ b))) : M2 w A E Rd (binaryOp .Add) (.str a) (.str b) n P := fun _ _ _ _ _ k r q => by (first | apply Rds.nE r | (apply Rd.iE r; intro _) | (apply Rd.sE r; intro _) | apply Rd.rE r | apply Rd.bE r | apply Rd.nE r | cases r); (first | apply Rds.nE q | (apply Rd.iE q; intro _) | (apply Rd.sE q; intro _) | apply Rd.rE q | apply Rd.bE q | apply Rd.nE q | cases q); with_reducible exact add_str (fun _ _ => Po.same rfl (k.tok _) (.str _ _) h) hs
theorem mulS {a : Str} {b : Int} (hm : MulOk a b) (h : P n (.str (Txt.mul a b))) : M2 w A E Rd (binaryOp .Mult) (.str a) (.int b) n P := fun _ _ _ _ _ k r q => by (first | apply Rds.nE r | (apply Rd.iE r; intro _) | (apply Rd.sE r; intro _) | apply Rd.rE r | apply Rd.bE r | apply Rd.nE r | cases r); (first | apply Rds.nE q | (apply Rd.iE q; intro _) | (apply Rd.sE q; intro _) | apply Rd.rE q | apply Rd.bE q | apply Rd.nE q | cases q); with_reducible exact SB.mul hm (fun _ _ => Po.same rfl (k.tok _) (.str _ _) h)
-- comparisons
theorem Po.bool {F : Bs} {Z : ZM} {s : Shared} {b : Bool} (k : St w hd F Z n s) (h : P n (.bool b)) : Po w hd F Rd P Z s (.bool b) s := Po.here k (.bool b) h
theorem ltI {a b : Int} (h : P n (.bool (decide (a < b)))) : M2 w A E Rd (compareOp .Lt) (.int a) (.int b) n P := fun _ _ _ _ _ k r q => by (first | apply Rds.nE r | (apply Rd.iE r; intro _) | (apply Rd.sE r; intro _) | apply Rd.rE r | apply Rd.bE r | apply Rd.nE r | cases r); (first | apply Rds.nE q | (apply Rd.iE q; intro _) | (apply Rd.sE q; intro _) | apply Rd.rE q | apply Rd.bE q | apply Rd.nE q | cases q); with_reducible exact lt_int (Po.bool k h)
theorem gtI {a b : Int} (h : P n (.bool (decide (b < a)))) : M2 w A E Rd (compareOp .Gt) (.int a) (.int b) n P := fun _ _ _ _ _ k r q => by (first | apply Rds.nE r | (apply Rd.iE r; intro _) | (apply Rd.sE r; intro _) | apply Rd.rE r | apply Rd.bE r | apply Rd.nE r | cases r); (first | apply Rds.nE q | (apply Rd.iE q; intro _) | (apply Rd.sE q; intro _) | apply Rd.rE q | apply Rd.bE q | apply Rd.nE q | cases q); with_reducible exact gt_int (Po.bool k h)
theorem geI {a b : Int} (h : P n (.bool (decide (b ≤ a)))) : M2 w A E Rd (compareOp .GtE) (.int a) (.int b) n P := fun _ _ _ _ _ k r q => by (first | apply Rds.nE r | (apply Rd.iE r; intro _) | (apply Rd.sE r; intro _) | apply Rd.rE r | apply Rd.bE r | apply Rd.nE r | cases r); (first | apply Rds.nE q | (apply Rd.iE q; intro _) | (apply Rd.sE q; intro _) | apply Rd.rE q | apply Rd.bE q | apply Rd.nE q | cases q); with_reducible exact ge_int (Po.bool k h)
theorem eqI {a b : Int} (h : P n (.bool (a == b))) : M2 w A E Rd (compareOp .Eq) (.int a) (.int b) n P := fun _ _ _ _ _ k r q => by (first | apply Rds.nE r | (apply Rd.iE r; intro _) | (apply Rd.sE r; intro _) | apply Rd.rE r | apply Rd.bE r | apply Rd.nE r | cases r); (first | apply Rds.nE q | (apply Rd.iE q; intro _) | (apply Rd.sE q; intro _) | apply Rd.rE q | apply Rd.bE q | apply Rd.nE q | cases q); with_reducible exact eq_int (Po.bool k h)
theorem neI {a b : Int} (h : P n (.bool (a != b))) : M2 w A E Rd (compareOp .NotEq) (.int a) (.int b) n P := fun _ _ _ _ _ k r q => by (first | apply Rds.nE r | (apply Rd.iE r; intro _) | (apply Rd.sE r; intro _) | apply Rd.rE r | apply Rd.bE r | apply Rd.nE r | cases r); (first | apply Rds.nE q | (apply Rd.iE q; intro _) | (apply Rd.sE q; intro _) | apply Rd.rE q | apply Rd.bE q | apply Rd.nE q | cases q); with_reducible exact ne_int (Po.bool k h)
theorem eqS {a b : Str} (h : P n (.bool (a == b))) : M2 w A E Rd (compareOp .Eq) (.str a) (.str b) n P := fun _ _ _ _ _ k r q => by (first | apply Rds.nE r | (apply Rd.iE r; intro _) | (apply Rd.sE r; intro _) | apply Rd.rE r | apply Rd.bE r | apply Rd.nE r | cases r); (first | apply Rds.nE q | (apply Rd.iE q; intro _) | (apply Rd.sE q; intro _) | apply Rd.rE q | apply Rd.bE q | apply Rd.nE q | cases q); with_reducible exact eq_str (Po.bool k h)
theorem neS {a b : Str} (h : P n (.bool (a != b))) : M2 w A E Rd (compareOp .NotEq) (.str a) (.str b) n P := fun _ _ _ _ _ k r q => by (first | apply Rds.nE r | (apply Rd.iE r; intro _) | (apply Rd.sE r; intro _) | apply Rd.rE r | apply Rd.bE r | apply Rd.nE r | cases r); (first | apply Rds.nE q | (apply Rd.iE q; intro _) | (apply Rd.sE q; intro _) | apply Rd.rE q | apply Rd.bE q | apply Rd.nE q | cases q); with_reducible exact ne_str (Po.bool k h)
theorem geS {a b : Str} (h : P n (.bool (!(decide (a.cps.toList < b.cps.toList))))) : M2 w A E Rd (compareOp .GtE) (.str a) (.str b) n P := fun _ _ _ _ _ k r q => by (first | apply Rds.nE r | (apply Rd.iE r; intro _) | (apply Rd.sE r; intro _) | apply Rd.rE r | apply Rd.bE r | apply Rd.nE r | cases r); (first | apply Rds.nE q | (apply Rd.iE q; intro _) | (apply Rd.sE q; intro _) | apply Rd.rE q | apply Rd.bE q | apply Rd.nE q | cases q); with_reducible exact PySem.P.ge_str (Po.bool k h)
theorem isN {v : D} {b : Bool} (hb : ∀ Z u, Rd Z u v → (u == Value.none) = b) (h : P n (.bool b)) : M2 w A E Rd (compareOp .Is) v .none n P := fun _ Z _ u _ k r q => by (first | apply Rds.nE q | (apply Rd.iE q; intro _) | (apply Rd.sE q; intro _) | apply Rd.rE q | apply Rd.bE q | apply Rd.nE q | cases q); with_reducible exact is_none (by rw [hb Z u r]; exact Po.bool k h)
theorem isNotN {v : D} {b : Bool} (hb : ∀ Z u, Rd Z u v → (u == Value.none) = b) (h : P n (.bool (!b))) : M2 w A E Rd (compareOp .IsNot) v .none n P := fun _ Z _ u _ k r q => by (first | apply Rds.nE q | (apply Rd.iE q; intro _) | (apply Rd.sE q; intro _) | apply Rd.rE q | apply Rd.bE q | apply Rd.nE q | cases q); with_reducible exact isNot_none (by rw [hb Z u r]; exact Po.bool k h)
theorem nnI {i : Int} : ∀ Z u, Rd Z u (.int i) → (u == Value.none) = false := fun _ _ r => by (first | apply Rds.nE r | (apply Rd.iE r; intro _) | (apply Rd.sE r; intro _) | apply Rd.rE r | apply Rd.bE r | apply Rd.nE r | cases r); rfl
theorem nnS {i : Str} : ∀ Z u, Rd Z u (.str i) → (u == Value.none) = false := fun _ _ r => by (first | apply Rds.nE r | (apply Rd.iE r; intro _) | (apply Rd.sE r; intro _) | apply Rd.rE r | apply Rd.bE r | apply Rd.nE r | cases r); rfl
theorem nnN : ∀ Z u, Rd Z u .none → (u == Value.none) = true := fun _ _ r => by (first | apply Rds.nE r | (apply Rd.iE r; intro _) | (apply Rd.sE r; intro _) | apply Rd.rE r | apply Rd.bE r | apply Rd.nE r | cases r); rfl
theorem isNotNS {i : Str} (h : P n (.bool true)) : M2 w A E Rd (compareOp .IsNot) (.str i) .none n P := isNotN nnS h
theorem isNotNN (h : P n (.bool false)) : M2 w A E Rd (compareOp .IsNot) .none .none n P := isNotN nnN h
theorem isNotB {a b : Bool} (h : P n (.bool (a != b))) : M2 w A E Rd (compareOp .IsNot) (.bool a) (.bool b) n P := fun _ _ _ _ _ k r q => by (first | apply Rds.nE r | (apply Rd.iE r; intro _) | (apply Rd.sE r; intro _) | apply Rd.rE r | apply Rd.bE r | apply Rd.nE r | cases r); (first | apply Rds.nE q | (apply Rd.iE q; intro _) | (apply Rd.sE q; intro _) | apply Rd.rE q | apply Rd.bE q | apply Rd.nE q | cases q); with_reducible exact isnot_bool (Po.bool k h)
theorem notInS {a b : Str} (h : P n (.bool (!Txt.contains b a))) : M2 w A E Rd (compareOp .NotIn) (.str a) (.str b) n P := fun _ _ _ _ _ k r q => by (first | apply Rds.nE r | (apply Rd.iE r; intro _) | (apply Rd.sE r; intro _) | apply Rd.rE r | apply Rd.bE r | apply Rd.nE r | cases r); (first | apply Rds.nE q | (apply Rd.iE q; intro _) | (apply Rd.sE q; intro _) | apply Rd.rE q | apply Rd.bE q | apply Rd.nE q | cases q); with_reducible exact SB.notContains (Po.bool k h)
-- lists
theorem SeqAt.isL {F : Bs} {Z : ZM} {s : Shared} {l : Addr} {xs : List Value} (q : SeqAt Z "list" l xs) (k : St w hd F Z n s) : ∃ m, IsL s.heap l xs.toArray m := let ⟨m, e⟩ := q; ⟨m, k.fz _ _ e⟩
theorem addL {a b : List D} (hs : a.length + b.length ≤ sizeLine) (h : P n (.lst (a ++ b))) : M2 w A E Rd (binaryOp .Add) (.lst a) (.lst b) n P := fun _ _ s _ _ k r q => by
  apply Rd.lE r; intro _ _ e r
  apply Rd.lE q; intro _ _ f q
  obtain ⟨m, hl⟩ := e.isL k
  obtain ⟨m', hb⟩ := f.isL k
  refine PySem.P.add_list hl hb ?_ (by simp only [List.size_toArray, r.len, q.len]; exact hs)
  rename_i xs _ ys
  obtain ⟨Z', le, k', g⟩ := freshSeq (T := "list") (xs := xs ++ ys) k
  refine Po.at le (GE.refl _) (by simpa using k') (.lst g ((r.append q).up le)) h
end
end Mine
end
section -- Ke
open PySem PySem.W PyProof.Rows PySem.Calls
namespace Mine
theorem entry_unchain : entryFor table "proto.unchain" = some Builtin.«proto.unchain» := entryFor_of_tree (by kernel_rfl)
noncomputable def HAt (h : Heap) : Option Value → Prop
  | none => True
  | some v => ∃ e o vs, v = .ref e ∧ h.get? e = some o ∧ o.data = .fields vs ∧ vs[2]? = some Value.none
section
variable {w : World} {A : Around} {E : Value → Shared → Prop} {s : Shared}
theorem stopNew {α : Type} {Q : α → Shared → Prop} (ho : HAt s.heap A.handled)
    (h : ∀ h' e, (∀ b o, s.heap.get? b = some o → h'.get? b = some o) → s.heap.get? e = none → (∃ o t, h'.get? e = some { cls := .type "StopIteration", data := .fields #[t, .none, o, .none, .bool false, .none] }) → E (.ref e) { s with heap := h' }) :
    wpAny (Md w) A (newExc (.type "StopIteration") [] >>= fun e => (raiseNew e : Sem α)) Q E s := by
  refine wpAny_bind ?_
  simp only [newExc, newTuple]
  refine wpAny_bind (wpAny_newObj_type ?_ (by size_fits))
  refine wpAny_bind (m := firstArgMember _ _) (wpAny_of_eq (a := Value.none) (by first | rfl | (simp only [firstArgMember]; rfl)) ?_)
  refine wpAny_newObj_type ?_ (by size_fits)
  have hsz : (s.heap.push { cls := .type "tuple", data := .seq ([] : List Value).toArray }).objs.size = s.heap.objs.size + 1 := Heap.size_push ..
  have old : ∀ b o, s.heap.get? b = some o → ((s.heap.push { cls := .type "tuple", data := .seq ([] : List Value).toArray }).push { cls := .type "StopIteration", data := .fields (#[.ref s.heap.objs.size, .none, .none, .none, .bool false, .none] ++ ownMembersOf (.type "StopIteration") []) }).get? b = some o :=
    fun b o e => Heap.get?_push_of_some _ (Heap.get?_push_of_some _ e)
  have hnew : s.heap.get? (s.heap.objs.size + 1) = none := by
    cases q : s.heap.get? (s.heap.objs.size + 1) with
    | none => rfl
    | some o => exact absurd (Heap.lt_size q) (Nat.not_lt.mpr (Nat.le_succ _))
  simp only [raiseNew]
  refine wpAny_bind (wpAny_handled ?_)
  rw [hsz]
  cases hA : A.handled with
  | none =>
    refine wpAny_bind (wpAny_pure (wpAny_throw (h _ _ old hnew ⟨.none, .ref s.heap.objs.size, ?_⟩)))
    rw [← hsz]; exact Heap.get?_push_size _ rfl
  | some v =>
    rw [hA] at ho
    obtain ⟨e, o, vs, rfl, he, hd, h2⟩ := ho
    have hne : e ≠ s.heap.objs.size + 1 := fun q => by rw [q, hnew] at he; cases he
    have hne' : (Value.ref e != Value.ref (s.heap.objs.size + 1)) = true := by
      rw [bne_iff_ne]; intro q; injection q with q; exact hne q
    show wpAny _ A (if (Value.ref e != Value.ref (s.heap.objs.size + 1)) = true then _ else _) _ _ _
    rw [if_pos hne']
    refine wpAny_bind (wpAny_holding (wpAny_runValue (codeAny_builtin entry_unchain ?_)))
    show wpAny _ _ (field (.ref e) 2 >>= _) _ _ _
    refine wpAny_bind (wpAny_field (old _ _ he) hd h2 ?_)
    show wpAny _ _ (if (Value.none == Value.none) = true then _ else _) _ _ _
    rw [if_pos (by decide)]
    refine wpAny_pure ?_
    have hn : ((s.heap.push { cls := .type "tuple", data := .seq ([] : List Value).toArray }).push { cls := .type "StopIteration", data := .fields (#[.ref s.heap.objs.size, .none, .none, .none, .bool false, .none] ++ ownMembersOf (.type "StopIteration") []) }).get? (s.heap.objs.size + 1) =
        some { cls := .type "StopIteration", data := .fields (#[.ref s.heap.objs.size, .none, .none, .none, .bool false, .none] ++ ownMembersOf (.type "StopIteration") []) } := by rw [← hsz]; exact Heap.get?_push_size _ rfl
    show wpAny _ A (updateField (s.heap.objs.size + 1) 2 (.ref e) >>= _) _ _ _
    unfold updateField
    refine wpAny_bind (wpAny_bind (wpAny_load hn ?_))
    show wpAny _ A (if 2 < _ then _ else _) _ _ _
    rw [if_pos (by rw [Array.size_append]; exact Nat.lt_of_lt_of_le (by decide : 2 < 6) (Nat.le_add_right 6 _))]
    refine wpAny_update hn (wpAny_throw (h _ _ (fun b ob eb => ?_) hnew ⟨.ref e, .ref s.heap.objs.size, ?_⟩))
    · have : b ≠ s.heap.objs.size + 1 := fun q => by rw [q, hnew] at eb; cases eb
      exact (Heap.get?_update_other _ _ (Ne.symm this)).trans (old b ob eb)
    · exact Heap.get?_update_self _ hn rfl
theorem HOk.at {Z : ZM} {h : Heap} : ∀ {hd : Option Value}, HOk Z hd → (∀ a ob, Z a = some ob → h.get? a = some ob) → HAt h hd
  | none, _, _ => trivial
  | some _, ⟨e, o, vs, a, b, c, d, _⟩, fz => ⟨e, o, vs, a, fz _ _ b, c, d⟩
end
end Mine
end
section -- Kf
open PySem PySem.W PyProof.Rows PySem.Calls
namespace Mine
theorem drop_cons {α : Type} {l : List α} {i : Nat} {d : α} {r : List α} (h : l.drop i = d :: r) : l[i]? = some d ∧ l.drop (i + 1) = r := by
  constructor
  · rw [← List.head?_drop, h]; rfl
  · rw [← List.drop_drop, h]; rfl
theorem drop_nil {α : Type} {l : List α} {i : Nat} (h : l.drop i = []) : l[i]? = none := by
  rw [← List.head?_drop, h]; rfl
section
variable {w : World} {hd : Option Value} {A : Around} {E : Value → Shared → Prop} {F : Bs} {Z : ZM} {n : Led} {s : Shared} {it : Addr}
theorem St.turn0 {a : Addr} {i j : It} {s' : Shared} (k : St w hd F Z ((a, i) :: n) s) (hj : j.In Z s'.heap a) (hs : ∀ b o, b ≠ a → s.heap.get? b = some o → s'.heap.get? b = some o) (hg : GE s.gens s'.gens) (ho : s'.os = s.os) : St w hd F Z ((a, j) :: n) s' :=
  k.turn (l := []) rfl hj hs hg ho
/-- one of one's own is lost -/
theorem St.lose {a : Addr} {i : It} {s' : Shared} (k : St w hd F Z ((a, i) :: n) s) (hs : ∀ b o, b ≠ a → s.heap.get? b = some o → s'.heap.get? b = some o) (hg : GE s.gens s'.gens) (ho : s'.os = s.os) : St w hd F Z n s' := by
  have ha := k.nw _ (.head _)
  have nd := k.nd
  rw [List.map_cons, List.nodup_cons] at nd
  refine ⟨k.tp, k.ho, fun b ob eb => hs b ob (fun q => by subst q; rw [ha.2.2] at eb; cases eb) (k.kp b ob eb), k.z0, fun b ob eb => hs b ob (fun q => by subst q; rw [ha.2.1] at eb; cases eb) (k.fz b ob eb), fun p hp => ?_, nd.2, k.ge.trans hg, ho.trans k.os⟩
  have := k.nw p (.tail _ hp)
  exact ⟨this.1.up (Le.refl _) (fun o => hs _ o (fun q => nd.1 (List.mem_map.mpr ⟨p, hp, q⟩))), this.2⟩
theorem next_item {l : List D} {d : D} {r : List D} {Q : Option Value → Shared → Prop} (k : St w A.handled F Z ((it, .iter l) :: n) s) (e : l = d :: r)
    (h : ∀ v s', St w A.handled F Z ((it, .iter r) :: n) s' → Rd Z v d → s'.gens = s.gens → Q (some v) s') : wpAny (Md w) A (pyNext (.ref it)) Q E s := by
  have x : IterAt Z s.heap it l := (k.nw _ (.head _)).1
  have fz := k.fz
  cases x with
  | @lst l i xs ds hi q rs =>
    obtain ⟨h1, h2⟩ := drop_cons e
    obtain ⟨v, hv, rv⟩ := rs.get h1
    have hl : s.heap.IsList l xs.toArray := q.list k
    exact wpAny_pyNext_list_item hi hl (by simpa using hv) fun h' hi' hs => h v { s with heap := h' } (k.turn0 (j := .iter r) (by rw [← h2]; exact .lst hi' q rs) (fun b o hb eb => hs.extBut b o hb eb) (GE.refl _) rfl) rv rfl
  | @tup l i xs ds hi q rs =>
    obtain ⟨h1, h2⟩ := drop_cons e
    obtain ⟨v, hv, rv⟩ := rs.get h1
    have hl : IsTup s.heap l xs.toArray := q.tup k
    exact wpAny_pyNext_tuple_item hi hl (by simpa using hv) fun h' hi' hs => h v { s with heap := h' } (k.turn0 (j := .iter r) (by rw [← h2]; exact .tup hi' q rs) (fun b o hb eb => hs.extBut b o hb eb) (GE.refl _) rfl) rv rfl
  | @rng x step m hi =>
    cases m with
    | zero => simp at e
    | succ m =>
      rw [List.range_succ_eq_map, List.map_cons, List.map_map] at e
      injection e with e1 e2
      subst e1
      refine wpAny_pyNext_range_item hi (by omega) fun h' hi' hs => h _ { s with heap := h', toks := s.toks + 1 } (k.turn0 (j := .iter r) ?_ (fun b o hb eb => hs.extBut b o hb eb) (GE.refl _) rfl) ?_ rfl
      · rw [← e2]
        have e3 : ((List.range m).map ((fun (j : Nat) => D.int (x + j * step)) ∘ Nat.succ)) = (List.range m).map fun (j : Nat) => D.int ((x + step) + j * step) := by
          apply List.map_congr_left
          intro j _
          show D.int (x + ((j + 1 : Nat) : Int) * step) = _
          congr 1
          push_cast
          rw [Int.add_mul, Int.one_mul]; omega
        rw [e3]
        have e4 : ((m + 1 : Nat) : Int) - 1 = (m : Int) := by omega
        rw [e4] at hi'
        exact .rng hi'
      · have : x + ((0 : Nat) : Int) * step = x := by simp
        rw [this]; exact .int x _
  | @asc x t i hi =>
    rw [List.map_drop] at e
    obtain ⟨h1, h2⟩ := drop_cons e
    rw [List.getElem?_map] at h1
    obtain ⟨c, hc, rfl⟩ := Option.map_eq_some_iff.mp h1
    refine wpAny_pyNext_ascii_item hi (by simpa using hc) fun h' hi' hs => h _ { s with heap := h', toks := s.toks + 1 } (k.turn0 (j := .iter r) ?_ (fun b o hb eb => hs.extBut b o hb eb) (GE.refl _) rfl) (.str _ _) rfl
    rw [← h2, ← List.map_drop]; exact .asc hi'
  | @wide x t i hi =>
    rw [List.map_drop] at e
    obtain ⟨h1, h2⟩ := drop_cons e
    rw [List.getElem?_map] at h1
    obtain ⟨c, hc, rfl⟩ := Option.map_eq_some_iff.mp h1
    refine wpAny_pyNext_wide_item hi (by simpa using hc) fun h' hi' hs => h _ { s with heap := h', toks := s.toks + 1 } (k.turn0 (j := .iter r) ?_ (fun b o hb eb => hs.extBut b o hb eb) (GE.refl _) rfl) (.str _ _) rfl
    rw [← h2, ← List.map_drop]; exact .wide hi'
end
end Mine
end
section -- Kf2
open PySem PySem.W PyProof.Rows PySem.Calls
namespace Mine
section
variable {w : World} {A : Around} {E : Value → Shared → Prop} {s : Shared} {it : Addr}
theorem stopAway {α : Type} {Q : Option Value → Shared → Prop} {X : α → Shared → Prop} {s : Shared} (ho : HAt s.heap A.handled) (hQ : ∀ h', (∀ b o, s.heap.get? b = some o → h'.get? b = some o) → Q none { s with heap := h' }) :
    wpAny (Md w) A.in1 (Builtin.SmallTypes.stopIteration : Sem α) X (fun x s' => wpAny (Md w) A (do if ← isInstance x (.type "StopIteration") then pure Option.none else throw x : Sem (Option Value)) Q E s') s := by
  show wpAny _ A.in1 (newExc (.type "StopIteration") [] >>= fun e => (raiseNew e : Sem α)) _ _ s
  refine stopNew ho fun h' e keep _ ⟨o, t, he⟩ => ?_
  refine wpAny_bind (wpAny_isInstance (T := "StopIteration") (b := true) ⟨_, he, rfl⟩ isSubtype_stop ?_)
  exact wpAny_pure (hQ _ keep)
theorem end_list {l : Addr} {i : Nat} {items : Array Value} {Q : Option Value → Shared → Prop} (ho : ∀ h', Heap.ExtBut it s.heap h' → HAt h' A.handled) (hit : s.heap.IsListIter it l i) (hl : s.heap.IsList l items) (hx : items[i]? = none)
    (hQ : ∀ h', Heap.ExtBut it s.heap h' → Q none { s with heap := h' }) : wpAny (Md w) A (pyNext (.ref it)) Q E s := by
  obtain ⟨o, hoo, hc, hd⟩ := id hit
  obtain ⟨ol, hol, _, nl, hdl⟩ := hl
  unfold pyNext
  refine wpAny_bind (wpAny_attempt (wpAny_callSpecial?_slot (name := Str.ofString "__next__") hit.typeIs slot_listiter_next
    (wpAny_call_entry slot_listiter_next hit.typeIs entry_listiter_next ?_ (args_listiter_next _))))
  refine wpAny_bind (m := field (.ref it) 0) (wpAny_field hoo hd (x := .ref l) rfl ?_)
  show wpAny _ _ (if (Value.ref l == Value.none) = true then _ else _) _ _ s
  rw [if_neg (show ¬ ((Value.ref l == Value.none) = true) from Bool.false_ne_true)]
  refine wpAny_bind (m := field (.ref it) 1) (wpAny_field hoo hd (x := .int i 0) rfl ?_)
  refine wpAny_bind (m := seqItems? (.ref l)) (wpAny_seqItems hol hdl ?_)
  simp only [Int.toNat_natCast, hx]
  refine wpAny_bind (wpAny_rule (wpAny_bind (wpAny_setField hoo hd (by simp) ?_)))
  exact stopAway (ho _ (Heap.SameBut.update ..).extBut) fun h' keep => hQ h' fun b o hb e => keep b o ((Heap.SameBut.update ..).extBut b o hb e)
theorem end_tuple {l : Addr} {i : Nat} {items : Array Value} {Q : Option Value → Shared → Prop} (ho : ∀ h', Heap.ExtBut it s.heap h' → HAt h' A.handled) (hit : s.heap.IsTupleIter it l i) (hl : s.heap.IsTuple l items) (hx : items[i]? = none)
    (hQ : ∀ h', Heap.ExtBut it s.heap h' → Q none { s with heap := h' }) : wpAny (Md w) A (pyNext (.ref it)) Q E s := by
  obtain ⟨o, hoo, hc, hd⟩ := id hit
  obtain ⟨ol, hol, _, nl, hdl⟩ := hl
  unfold pyNext
  refine wpAny_bind (wpAny_attempt (wpAny_callSpecial?_slot (name := Str.ofString "__next__") hit.typeIs F.slot_tuple_iterator_next
    (wpAny_call_entry F.slot_tuple_iterator_next hit.typeIs F.entry_tuple_iterator_next ?_ (F.args_tuple_iterator_next_1 _))))
  refine wpAny_bind (m := field (.ref it) 0) (wpAny_field hoo hd (x := .ref l) rfl ?_)
  show wpAny _ _ (if (Value.ref l == Value.none) = true then _ else _) _ _ s
  rw [if_neg (show ¬ ((Value.ref l == Value.none) = true) from Bool.false_ne_true)]
  refine wpAny_bind (m := field (.ref it) 1) (wpAny_field hoo hd (x := .int i 0) rfl ?_)
  refine wpAny_bind (m := seqItems? (.ref l)) (wpAny_seqItems hol hdl ?_)
  simp only [Int.toNat_natCast, hx]
  refine wpAny_bind (wpAny_rule (wpAny_bind (wpAny_setField hoo hd (by simp) ?_)))
  exact stopAway (ho _ (Heap.SameBut.update ..).extBut) fun h' keep => hQ h' fun b o hb e => keep b o ((Heap.SameBut.update ..).extBut b o hb e)
theorem end_range {x left step : Int} {Q : Option Value → Shared → Prop} (ho : ∀ h', Heap.ExtBut it s.heap h' → HAt h' A.handled) (hit : IsRangeIter s.heap it x left step) (hleft : left ≤ 0)
    (hQ : ∀ h', Heap.ExtBut it s.heap h' → Q none { s with heap := h' }) : wpAny (Md w) A (pyNext (.ref it)) Q E s := by
  have hT : s.TypeIs (.ref it) "range_iterator" := ⟨_, hit, rfl⟩
  unfold pyNext
  refine wpAny_bind (wpAny_attempt (wpAny_callSpecial?_slot (name := Str.ofString "__next__") hT F.slot_range_iterator_next
    (wpAny_call_entry F.slot_range_iterator_next hT F.entry_range_iterator_next ?_ (F.args_range_iterator_next_1 _))))
  refine wpAny_bind (m := field (.ref it) 0) (wpAny_field hit rfl (x := rawInt x) rfl ?_)
  refine wpAny_bind (m := field (.ref it) 1) (wpAny_field hit rfl (x := rawInt left) rfl ?_)
  refine wpAny_bind (m := field (.ref it) 2) (wpAny_field hit rfl (x := rawInt step) rfl ?_)
  show wpAny _ _ (if left ≤ 0 then _ else _) _ _ s
  rw [if_pos hleft]
  refine wpAny_bind (wpAny_rule ?_)
  exact wpAny_bind (stopAway (ho _ (Heap.ExtBut.refl it s.heap)) fun h' keep => hQ h' fun b o hb e => keep b o e)
theorem end_str {ty : String} {x : Str} {t : Tok} {i : Nat} {Q : Option Value → Shared → Prop} (hty : ty = "str_ascii_iterator" ∨ ty = "str_iterator") (ho : ∀ h', Heap.ExtBut it s.heap h' → HAt h' A.handled) (hit : s.heap.IsStrIter it ty x t i) (hx : x.cps[i]? = none)
    (hQ : ∀ h', Heap.ExtBut it s.heap h' → Q none { s with heap := h' }) : wpAny (Md w) A (pyNext (.ref it)) Q E s := by
  obtain ⟨o, hoo, hc, hd⟩ := id hit
  rcases hty with rfl | rfl
  · unfold pyNext
    refine wpAny_bind (wpAny_attempt (wpAny_callSpecial?_slot (name := Str.ofString "__next__") hit.typeIs F.slot_str_ascii_iterator_next
      (wpAny_call_entry F.slot_str_ascii_iterator_next hit.typeIs F.entry_str_ascii_iterator_next ?_ (F.args_str_ascii_iterator_next_1 _))))
    refine wpAny_bind (m := field (.ref it) 0) (wpAny_field hoo hd (x := .str x t) rfl ?_)
    refine wpAny_bind (m := field (.ref it) 1) (wpAny_field hoo hd (x := .int i 0) rfl ?_)
    simp only [Int.toNat_natCast, hx]
    refine wpAny_bind (wpAny_rule (wpAny_bind (wpAny_setField hoo hd (by simp) (wpAny_bind (wpAny_letGo ?_)))))
    exact stopAway (ho _ (Heap.SameBut.update ..).extBut) fun h' keep => hQ h' fun b o hb e => keep b o ((Heap.SameBut.update ..).extBut b o hb e)
  · unfold pyNext
    refine wpAny_bind (wpAny_attempt (wpAny_callSpecial?_slot (name := Str.ofString "__next__") hit.typeIs F.slot_str_iterator_next
      (wpAny_call_entry F.slot_str_iterator_next hit.typeIs F.entry_str_iterator_next ?_ (F.args_str_iterator_next_1 _))))
    refine wpAny_bind (m := field (.ref it) 0) (wpAny_field hoo hd (x := .str x t) rfl ?_)
    refine wpAny_bind (m := field (.ref it) 1) (wpAny_field hoo hd (x := .int i 0) rfl ?_)
    simp only [Int.toNat_natCast, hx]
    refine wpAny_bind (wpAny_rule (wpAny_bind (wpAny_setField hoo hd (by simp) (wpAny_bind (wpAny_letGo ?_)))))
    exact stopAway (ho _ (Heap.SameBut.update ..).extBut) fun h' keep => hQ h' fun b o hb e => keep b o ((Heap.SameBut.update ..).extBut b o hb e)
end
section
variable {w : World} {A : Around} {E : Value → Shared → Prop} {F : Bs} {Z : ZM} {n : Led} {s : Shared} {it : Addr}
theorem St.hAt {hd : Option Value} {i : It} (k : St w hd F Z ((it, i) :: n) s) : ∀ h', Heap.ExtBut it s.heap h' → HAt h' hd := fun h' hs => k.ho.at fun a ob e => hs a ob (fun q => by
  subst q
  rw [(k.nw _ (.head _)).2.1] at e; cases e) (k.fz a ob e)
theorem next_end' {l : List D} {Q : Option Value → Shared → Prop} (k : St w A.handled F Z ((it, .iter l) :: n) s) (e : l = [])
    (h : ∀ s', St w A.handled F Z n s' → s'.gens = s.gens → Q none s') : wpAny (Md w) A (pyNext (.ref it)) Q E s := by
  have x : IterAt Z s.heap it l := (k.nw _ (.head _)).1
  have fin : ∀ h', Heap.ExtBut it s.heap h' → Q none { s with heap := h' } := fun h' hs => h { s with heap := h' } (k.lose (fun b o hb eb => hs b o hb eb) (GE.refl _) rfl) rfl
  cases x with
  | @lst l i xs ds hi q rs =>
    have h1 := drop_nil e
    refine end_list k.hAt hi (q.list k) ?_ fin
    rw [List.getElem?_toArray, List.getElem?_eq_none_iff, rs.len]; exact List.getElem?_eq_none_iff.mp h1
  | @tup l i xs ds hi q rs =>
    have h1 := drop_nil e
    refine end_tuple k.hAt hi (q.tup k) ?_ fin
    rw [List.getElem?_toArray, List.getElem?_eq_none_iff, rs.len]; exact List.getElem?_eq_none_iff.mp h1
  | @rng x step m hi =>
    have hm : m = 0 := by simpa using e
    exact end_range k.hAt hi (by omega) fin
  | @asc x t i hi =>
    rw [List.map_drop] at e
    have h1 := drop_nil e
    rw [List.getElem?_map, Option.map_eq_none_iff] at h1
    exact end_str (.inl rfl) k.hAt hi (by simpa using h1) fin
  | @wide x t i hi =>
    rw [List.map_drop] at e
    have h1 := drop_nil e
    rw [List.getElem?_map, Option.map_eq_none_iff] at h1
    exact end_str (.inr rfl) k.hAt hi (by simpa using h1) fin
theorem iterSelf {l : List D} {Q : Value → Shared → Prop} (k : St w A.handled F Z ((it, .iter l) :: n) s) (h : Q (.ref it) s) : wpAny (Md w) A (pyIter (.ref it)) Q E s := by
  have x : IterAt Z s.heap it l := (k.nw _ (.head _)).1
  cases x with
  | lst hi q rs => exact wpAny_pyIter_listiter hi h
  | tup hi q rs => exact wpAny_pyIter_tupleiter hi h
  | rng hi => exact wpAny_pyIter_rangeiter hi h
  | asc hi => exact wpAny_pyIter_striter_ascii hi h
  | wide hi => exact wpAny_pyIter_striter_wide hi h
end
end Mine
end
section -- Kg
open PySem PySem.W PyProof.Rows PySem.Calls
namespace Mine
noncomputable def put : Binds → Str → D → Binds
  | [], x, d => [(x, d)]
  | (y, e) :: r, x, d => bif y == x then (x, d) :: r else (y, e) :: put r x d
theorem put_lookup : ∀ (b : Binds) (x : Str) (d : D) (y : Str), (put b x d).lookup y = if y = x then some d else b.lookup y
  | [], x, d, y => by
    unfold put
    rw [List.lookup_cons]
    by_cases h : y = x
    · subst h; simp
    · have : (y == x) = false := beq_eq_false_iff_ne.mpr h
      simp [this, h]
  | (z, e) :: r, x, d, y => by
    unfold put
    cases hz : z == x with
    | true =>
      have hz' := beq_iff_eq.mp hz
      subst hz'
      rw [cond_true, List.lookup_cons, List.lookup_cons]
      by_cases h : y = z
      · subst h; simp
      · have : (y == z) = false := beq_eq_false_iff_ne.mpr h
        simp [this, h]
    | false =>
      rw [cond_false, List.lookup_cons, List.lookup_cons, put_lookup r x d y]
      have hz' : z ≠ x := beq_eq_false_iff_ne.mp hz
      by_cases h : y = x
      · subst h
        have : (y == z) = false := beq_eq_false_iff_ne.mpr (Ne.symm hz')
        simp [this]
      · cases hy : y == z <;> simp [h]
noncomputable def EL (w : World) (A : Around) (env : Env) (E : Value → Shared → Prop) : Value → Shared → Prop := notedBy (Md w) A env fun e s' => cameBackBy (Md w) A env E e s'
/-- what is left of a row of statements; of a loop -/
noncomputable def kSeq (w : World) (A : Around) (E : Value → Shared → Prop) (env : Env) (rest : List Stmt) (P : Led → Fl → Prop) : Led → Fl → Prop := fun n f => match f with | .next => Hs w A E (execs rest env) n P | f => P n f
noncomputable def kLoop (X : Led → Prop) (P : Led → Fl → Prop) : Led → Fl → Prop := fun n f => match f with
  | .next | .cont => X n
  | .brk => P n .next
  | .ret d => P n (.ret d)
section
variable {w : World} {A : Around} {E : Value → Shared → Prop} {env : Env} {n : Led} {P : Led → Fl → Prop} {PU : Led → Unit → Prop}
end
section
variable (w : World) (A : Around) (E : Value → Shared → Prop) (env : Env)
noncomputable abbrev uAT (elts : List Expr) (x : Nat) (px : Pos) (P : Led → Fl → Prop) : Led → D → Prop := fun n d => M1 w A E RU (assign (.Tuple elts x px) env) d n (uX P)
noncomputable abbrev uW (names : List Str) (P : Led → Fl → Prop) : Led → D → Prop := fun n d => ∃ ds, d = .tup ds ∧ names.length = ds.length ∧ ML w A E RU (assignInOrder (names.reverse.map fun y => bindName env y)) ds.reverse n (uX P)
noncomputable abbrev uS3 (P : Led → Fl → Prop) (d e : D) : Led → D → Prop := fun n j => M3 w A E RU setItem e j d n (uX P)
noncomputable abbrev uS2 (i : Expr) (P : Led → Fl → Prop) (d : D) : Led → D → Prop := fun n e => Hv w A E (eval i env) n (uS3 w A E P d e)
noncomputable abbrev uS1 (o i : Expr) (P : Led → Fl → Prop) : Led → D → Prop := fun n d => Hv w A E (eval o env) n (uS2 w A E env i P d)
noncomputable abbrev uAs (e : Expr) (d : D) (P : Led → Unit → Prop) : Led → Unit → Prop := fun n _ => M1 w A E RU (assign e env) d n P
noncomputable abbrev uO (ts : List (Value → Sem Unit)) (ds : List D) (P : Led → Unit → Prop) : Led → Unit → Prop := fun n _ => ML w A E RU (assignInOrder ts) ds n P
end
section
variable {w : World} {A : Around} {E : Value → Shared → Prop} {env : Env} {n : Led} {P : Led → Fl → Prop} {PU : Led → Unit → Prop}
theorem exN (h : P n .next) : Hs w A E (execs [] env) n P := fun _ _ _ k => wpAny_execs_nil (Po.here k .next h)
theorem qN {rest : List Stmt} (h : Hs w A E (execs rest env) n P) : kSeq w A E env rest P n .next := h
theorem qR {rest : List Stmt} {d : D} (h : P n (.ret d)) : kSeq w A E env rest P n (.ret d) := h
theorem qB {rest : List Stmt} (h : P n .brk) : kSeq w A E env rest P n .brk := h
theorem zN {X : Led → Prop} (h : X n) : kLoop X P n .next := h
theorem zB {X : Led → Prop} (h : P n .next) : kLoop X P n .brk := h
theorem zR {X : Led → Prop} {d : D} (h : P n (.ret d)) : kLoop X P n (.ret d) := h
theorem exC {st : Stmt} {rest : List Stmt} (h : Hs w A E (exec st env) n (kSeq w A E env rest P)) : Hs w A E (execs (st :: rest) env) n P := fun F Z s k =>
  wpAny_execs_cons (Po.map (h F Z s k) fun f fd n₁ Z₁ s₁ le ge k₁ r h₁ => by
    cases r with
    | next => exact wpAny_mono (h₁ _ _ _ k₁) (fun _ _ q => q.lift le ge) fun _ _ e => e
    | brk => exact Po.at le ge k₁ .brk h₁
    | cont => exact Po.at le ge k₁ .cont h₁
    | ret r => exact Po.at le ge k₁ (.ret r) h₁)
theorem stL {L : Addr} {x : Str} {b : Binds} {r : Led} {d : D} (hL : env.locals = L) (hk : env.scope.kind = .function) (hl : env.kindOf x = some .local) (h : PU ((L, .fr (put b x d)) :: r) ()) : M1 w A E RU (storeName env x) d ((L, .fr b) :: r) PU := fun F Z s v k rv => by
  subst hL
  obtain ⟨⟨m, hn, hb⟩, _⟩ := k.nw _ (.head _)
  refine wpAny_storeName_local hl hn (fun h' hn' hs' => ?_) (by rw [hk]; rfl)
  refine Po.same rfl (k.turn0 (j := .fr (put b x d)) (s' := { s with heap := h', toks := s.toks + 1 }) ⟨_, hn', fun y e q => ?_⟩ (fun c o hc eb => hs'.extBut c o hc eb) (GE.refl _) rfl) trivial h
  rw [put_lookup] at q
  by_cases hy : y = x
  · rw [if_pos hy] at q; (first | apply Rds.nE q | (apply Rd.iE q; intro _) | (apply Rd.sE q; intro _) | apply Rd.rE q | apply Rd.bE q | apply Rd.nE q | cases q); exact ⟨v, if_pos hy, rv⟩
  · rw [if_neg hy] at q
    obtain ⟨u, hu, ru⟩ := hb y e q
    exact ⟨u, (if_neg hy).trans hu, ru⟩
theorem stC {c : Addr} {x : Str} {c₀ : Option D} {l r : Led} {d : D} (hk : env.scope.kind = .function) (hl : env.kindOf x = some .cell) (hc : env.cells.lookup x = some c) (hn : n = l ++ (c, .cell c₀) :: r) (h : PU (l ++ (c, .cell (some d)) :: r) ()) : M1 w A E RU (storeName env x) d n PU := fun F Z s v k rv => by
  obtain ⟨⟨o, ho, _⟩, _⟩ := k.nw (c, .cell c₀) (by rw [hn]; simp)
  refine wpAny_storeName_cell hk hl hc ho fun h' hv hs => ?_
  exact Po.same rfl (k.turn (j := .cell (some d)) (s' := { s with heap := h' }) hn ⟨_, hv, v, rfl, rv⟩ (fun c o hc eb => hs.extBut c o hc eb) (GE.refl _) rfl) trivial h
theorem asN {x : Str} {pos : Pos} {d : D} (h : M1 w A E RU (storeName env x) d n PU) : M1 w A E RU (assign (.Name x pos) env) d n PU := fun F Z s v k rv => wpAny_assign_Name (h F Z s v k rv)
theorem aoN (h : PU n ()) : ML w A E RU (assignInOrder []) [] n PU := fun _F _Z _s _vs k _r => assignInOrder_nil (Po.here k trivial h)
theorem aoC {t : Value → Sem Unit} {ts : List (Value → Sem Unit)} {d : D} {ds : List D} (h : M1 w A E RU t d n (uO w A E ts ds PU)) : ML w A E RU (assignInOrder (t :: ts)) (d :: ds) n PU := fun F Z s vs k r => by
  apply Rds.cE r; intro _ _ rv r
  exact assignInOrder_cons (Po.bind (h F Z s _ k rv) fun _ _ n₁ Z₁ s₁ le k₁ _ h₁ => h₁ _ _ _ _ k₁ (r.up le))
theorem asT {elts : List Expr} {x : Nat} {pos : Pos} {ds : List D} (hh : A.handled = none) (hl : (assignEach elts env).length = ds.length) (hs : (assignEach elts env).findIdx? (·.1) = none) (h : ML w A E RU (assignInOrder ((assignEach elts env).map (·.2))) ds n PU) :
    M1 w A E RU (assign (.Tuple elts x pos) env) (.tup ds) n PU := fun F Z s v k rv => by
  apply Rd.tE rv; intro a xs q r
  refine assign_Tuple_tuple hh (q.tup k) (by simp only [List.size_toArray, r.len]; exact hl) hs fun h' hx => ?_
  have k' : St w A.handled F Z n { s with heap := h' } := k.keep (fun b o e => hx b o (Nat.ne_of_lt (Heap.lt_size e)) e) (GE.refl _) rfl
  exact h F Z _ xs k' r
theorem sAsgN {x : Str} {px : Pos} {value : Expr} {pos : Pos} (hs : swapsWith value (some (.Name x px)) pos.line env = pure false) (h : Hv w A E (eval value env) n (uA w A E env x P)) :
    Hs w A E (exec (.Assign [.Name x px] value pos) env) n P := fun F Z s k =>
  wpAny_Assign_Name (Po.map (h F Z s k) fun _v _d _n₁ _Z₁ _s₁ le ge k₁ r h₁ => Po.map (h₁ _ _ _ _ k₁ r) fun _ _ _n₂ _Z₂ _s₂ le₂ ge₂ k₂ _ h₂ => Po.at (le.trans le₂) (ge.trans ge₂) k₂ .next h₂) hs
theorem sAsgT {elts : List Expr} {x : Nat} {px : Pos} {value : Expr} {pos : Pos} (hs : swapsWithSole [.Tuple elts x px] value pos.line env = pure false) (hw : swappedStores [.Tuple elts x px] value env = pure none)
    (h : Hv w A E (eval value env) n (uAT w A E env elts x px P)) :
    Hs w A E (exec (.Assign [.Tuple elts x px] value pos) env) n P := fun F Z s k =>
  Assign_Tuple (Po.map (h F Z s k) fun _v _d _n₁ _Z₁ _s₁ le ge k₁ r h₁ => Po.map (h₁ _ _ _ _ k₁ r) fun _ _ _n₂ _Z₂ _s₂ le₂ ge₂ k₂ _ h₂ => Po.at (le.trans le₂) (ge.trans ge₂) k₂ .next h₂) hs hw
theorem Rds.reverse {Z : ZM} {xs l} (r : Rds Z xs l) : Rds Z xs.reverse l.reverse := r.ind (p := fun xs l => Rds Z xs.reverse l.reverse) .nil fun x _ q => by rw [List.reverse_cons, List.reverse_cons]; exact q.append (.one x)
theorem sAsgW {elts : List Expr} {x : Nat} {px : Pos} {value : Expr} {pos : Pos} {names : List Str} (hh : A.handled = none) (hs : swapsWithSole [.Tuple elts x px] value pos.line env = pure false) (hw : swappedStores [.Tuple elts x px] value env = pure (some names))
    (h : Hv w A E (eval value env) n (uW w A E env names P)) :
    Hs w A E (exec (.Assign [.Tuple elts x px] value pos) env) n P := fun F Z s k =>
  Assign_Tuple_swapped (Po.map (h F Z s k) fun v d n₁ Z₁ s₁ le ge k₁ r h₁ => by
    obtain ⟨ds, rfl, hl, h₁⟩ := h₁
    apply Rd.tE r; intro a xs q r
    rw [hl, ← r.len, show xs.length = xs.toArray.size from rfl]
    refine unpackItems_tuple hh (q.tup k₁) fun h' hx => ?_
    have k' : St w A.handled F Z₁ n₁ { s₁ with heap := h' } := k₁.keep (fun b o e => hx b o (Nat.ne_of_lt (Heap.lt_size e)) e) (GE.refl _) rfl
    exact Po.map (h₁ F Z₁ _ _ k' r.reverse) fun _ _ n₂ Z₂ s₂ le₂ ge₂ k₂ _ h₂ => Po.at (le.trans le₂) (ge.trans ge₂) k₂ .next h₂) hs hw
theorem bnM {x : Str} {d : D} (h : M1 w A E RU (storeName env x) d n PU) : M1 w A E RU (bindName env x) d n PU := fun F Z s v k rv => wpAny_bindName (h F Z s v k rv)
theorem sAsgS {o i : Expr} {px : Pos} {value : Expr} {pos : Pos} (hs : swapsWith value (some (.Subscript o i px)) pos.line env = pure false)
    (h : Hv w A E (eval value env) n (uS1 w A E env o i P)) :
    Hs w A E (exec (.Assign [.Subscript o i px] value pos) env) n P := fun F Z s k =>
  wpAny_Assign_Subscript (Po.map (h F Z s k) fun _v _d _n₁ _Z₁ _s₁ le₁ ge₁ k₁ r₁ h₁ => Po.map (h₁ _ _ _ k₁) fun _u _e _n₂ _Z₂ _s₂ le₂ ge₂ k₂ r₂ h₂ => Po.map (h₂ _ _ _ k₂) fun _x _j _n₃ _Z₃ _s₃ le₃ ge₃ k₃ r₃ h₃ =>
    Po.map (h₃ _ _ _ _ _ _ k₃ (r₂.up le₃) r₃ (r₁.up (le₂.trans le₃))) fun _ _ _n₄ _Z₄ _s₄ le₄ ge₄ k₄ _ h₄ => Po.at (((le₁.trans le₂).trans le₃).trans le₄) (((ge₁.trans ge₂).trans ge₃).trans ge₄) k₄ .next h₄) hs
theorem sExp {e : Expr} {pos : Pos} (hi : interactive env = false) (hs : swapsWith e none pos.line env = pure false) (h : Hv w A E (eval e env) n (uE P)) : Hs w A E (exec (.Expr e pos) env) n P := fun F Z s k =>
  wpAny_Expr (Po.map (h F Z s k) fun v d n₁ Z₁ s₁ le ge k₁ r h₁ => by
    rcases h₁ with ⟨rfl | ⟨i, rfl⟩, h₁⟩
    · (first | apply Rds.nE r | (apply Rd.iE r; intro _) | (apply Rd.sE r; intro _) | apply Rd.rE r | apply Rd.bE r | apply Rd.nE r | cases r); exact Po.at le ge k₁ .next h₁
    · (first | apply Rds.nE r | (apply Rd.iE r; intro _) | (apply Rd.sE r; intro _) | apply Rd.rE r | apply Rd.bE r | apply Rd.nE r | cases r); exact Po.at le ge k₁ .next h₁) hi hs
theorem sAug {x : Str} {px : Pos} {op : Operator} {value : Expr} {pos : Pos} {L : Addr} {b : Binds} {r : Led} {d : D} (hL : env.locals = L) (hk : env.scope.kind = .function) (hl : env.kindOf x = some .local) (hv : b.lookup x = some d)
    (h : Hv w A E (eval value env) ((L, .fr b) :: r) (uG w A E env op x P d)) :
    Hs w A E (exec (.AugAssign (.Name x px) op value pos) env) ((L, .fr b) :: r) P := fun F Z s k => by
  subst hL
  obtain ⟨⟨m, hn, hb⟩, _⟩ := k.nw _ (.head _)
  obtain ⟨v, hv, rv⟩ := hb x d hv
  exact wpAny_AugAssign_Name (wpAny_loadName_local hk hl hn hv (Po.map (h F Z s k) fun u e n₁ Z₁ s₁ le₁ ge₁ k₁ r₁ h₁ => Po.map (h₁ _ _ _ _ _ k₁ (rv.up le₁) r₁) fun y f n₂ Z₂ s₂ le₂ ge₂ k₂ r₂ h₂ =>
    Po.map (h₂ _ _ _ _ k₂ r₂) fun _ _ n₃ Z₃ s₃ le₃ ge₃ k₃ _ h₃ => Po.at ((le₁.trans le₂).trans le₃) ((ge₁.trans ge₂).trans ge₃) k₃ .next h₃))
theorem sRet {e : Expr} {pos : Pos} (h : Hv w A E (eval e env) n (uRt P)) : Hs w A E (exec (.Return (some e) pos) env) n P := fun F Z s k =>
  wpAny_Return_some (Po.map (h F Z s k) fun _v _d _n₁ _Z₁ _s₁ le ge k₁ r h₁ => Po.at le ge k₁ (.ret r) h₁)
theorem sBrk {pos : Pos} (h : P n .brk) : Hs w A E (exec (.Break pos) env) n P := fun _F _Z _s k => wpAny_Break (Po.here k .brk h)
theorem sIf {t : Expr} {b o : List Stmt} {pos : Pos} (h : Hb w A E (isTrue t env (eval t env)) n (uIs w A E env b o P)) : Hs w A E (exec (.If t b o pos) env) n P := fun F Z s k =>
  wpAny_If (Po.map (h F Z s k) fun c c' n' Z' s' le ge k' (rc : c = c') h' => by
    subst rc
    split
    · rename_i q; replace h' := iTe q h'; exact wpAny_mono (h' _ _ _ k') (fun _ _ q => q.lift le ge) fun _ _ e => e
    · rename_i q; replace h' := iFe q h'; exact wpAny_mono (h' _ _ _ k') (fun _ _ q => q.lift le ge) fun _ _ e => e)
/-- while, turn by turn -/
noncomputable def HW (w : World) (A : Around) (E : Value → Shared → Prop) (test : Expr) (body orelse : List Stmt) (env : Env) (n : Led) (P : Led → Fl → Prop) : Prop :=
  ∀ F Z s, St w A.handled F Z n s → codeAny (Md w) A (.whileLoop test body orelse env) (fun r s' => match r with | .ok f => Po w A.handled F RF P Z s f s' | .error e => cameBackBy (Md w) A env E e s') s
theorem sWhi {t : Expr} {b o : List Stmt} {pos : Pos} (h : HW w A E t b o env n P) : Hs w A E (exec (.While t b o pos) env) n P := fun F Z s k => wpAny_While (h F Z s k)
noncomputable abbrev uWh (w : World) (A : Around) (E : Value → Shared → Prop) (env : Env) (t : Expr) (b o : List Stmt) (P : Led → Fl → Prop) : Led → Bool → Prop := fun n c => if c = true then Hs w A (EL w A env E) (execs b env) n (kLoop (fun n => HW w A E t b o env n P) P) else Hs w A (EL w A env E) (execs o env) n P
theorem wTurn {t : Expr} {b o : List Stmt} (h : Hb w A (EL w A env E) (isTrue t env (eval t env)) n (uWh w A E env t b o P)) : HW w A E t b o env n P := fun F Z s k => by
  refine codeAny_of_tree ?_
  show wpAny _ A ((do
    if ← isTrue t env (eval t env) then
      match ← execs b env with
      | .next | .cont => again (.whileLoop t b o env)
      | .brk => pure (.done .next)
      | .ret v => pure (.done (.ret v))
    else return .done (← execs o env) : Sem Fin).onRaise (fun x => do noteFrame x env; theTreesLotGoes x)) _ _ s
  refine wpAny_noted (wpAny_bind (Po.map (h F Z s k) fun c c' n₁ Z₁ s₁ le₁ ge₁ k₁ (rc : c = c') h₁ => ?_))
  subst rc
  cases c with
  | true =>
    replace h₁ := iTe rfl h₁
    rw [if_pos rfl]
    refine wpAny_bind (Po.map (h₁ _ _ _ k₁) fun f fd n₂ Z₂ s₂ le₂ ge₂ k₂ r₂ h₂ => ?_)
    cases r₂ with
    | next => exact wpAny_pure ⟨rfl, codeAny_mono (h₂ _ _ _ k₂) fun r s' q => by cases r with | ok f => exact Po.lift (le₁.trans le₂) (ge₁.trans ge₂) q | error e => exact q⟩
    | cont => exact wpAny_pure ⟨rfl, codeAny_mono (h₂ _ _ _ k₂) fun r s' q => by cases r with | ok f => exact Po.lift (le₁.trans le₂) (ge₁.trans ge₂) q | error e => exact q⟩
    | brk => exact wpAny_pure (Po.at (le₁.trans le₂) (ge₁.trans ge₂) k₂ .next h₂)
    | ret r => exact wpAny_pure (Po.at (le₁.trans le₂) (ge₁.trans ge₂) k₂ (.ret r) h₂)
  | false =>
    replace h₁ := iFe Bool.false_ne_true h₁
    rw [if_neg Bool.false_ne_true]
    exact wpAny_bind (Po.map (h₁ _ _ _ k₁) fun f fd n₂ Z₂ s₂ le₂ ge₂ k₂ r₂ h₂ => wpAny_pure (Po.at (le₁.trans le₂) (ge₁.trans ge₂) k₂ r₂ h₂))
end
theorem M1.mono {w : World} {A : Around} {E : Value → Shared → Prop} {α δ : Type} {R : ZM → α → δ → Prop} {f : Value → Sem α} {d : D} {n : Led} {P P' : Led → δ → Prop} (h : M1 w A E R f d n P) (hp : ∀ n e, P n e → P' n e) : M1 w A E R f d n P' :=
  fun F Z s v k r => Po.map (h F Z s v k r) fun _ _ _ _ _ le ge k' r' q => Po.at le ge k' r' (hp _ _ q)
theorem asT2 {w : World} {A : Around} {E : Value → Shared → Prop} {n : Led} {PU : Led → Unit → Prop} {env : Env} {e₁ e₂ : Expr} {x : Nat} {pos : Pos} {d₁ d₂ : D} (hh : A.handled = none) (he : assignEach [e₁, e₂] env = [(false, assign e₁ env), (false, assign e₂ env)])
    (h : M1 w A E RU (assign e₁ env) d₁ n (uAs w A E env e₂ d₂ PU)) : M1 w A E RU (assign (.Tuple [e₁, e₂] x pos) env) (.tup [d₁, d₂]) n PU := by
  refine asT hh (by rw [he]; rfl) (by rw [he]; rfl) ?_
  rw [he]
  exact aoC (h.mono fun n₁ _ h₁ => aoC (h₁.mono fun n₂ _ h₂ => aoN h₂))
theorem asT3 {w : World} {A : Around} {E : Value → Shared → Prop} {n : Led} {PU : Led → Unit → Prop} {env : Env} {e₁ e₂ e₃ : Expr} {x : Nat} {pos : Pos} {d₁ d₂ d₃ : D} (hh : A.handled = none) (he : assignEach [e₁, e₂, e₃] env = [(false, assign e₁ env), (false, assign e₂ env), (false, assign e₃ env)])
    (h : M1 w A E RU (assign e₁ env) d₁ n (uAs w A E env e₂ d₂ (uAs w A E env e₃ d₃ PU))) : M1 w A E RU (assign (.Tuple [e₁, e₂, e₃] x pos) env) (.tup [d₁, d₂, d₃]) n PU := by
  refine asT hh (by rw [he]; rfl) (by rw [he]; rfl) ?_
  rw [he]
  exact aoC (h.mono fun n₁ _ h₁ => aoC (h₁.mono fun n₂ _ h₂ => aoC (h₂.mono fun n₃ _ h₃ => aoN h₃)))
end Mine
end
section -- Kh
open PySem PySem.W PyProof.Rows PySem.Calls
namespace Mine
inductive Items : D → List D → Prop
  | lst (l : List D) : Items (.lst l) l
  | tup (l : List D) : Items (.tup l) l
  | str (x : Str) : Items (.str x) (x.cps.toList.map fun c => D.str ⟨#[c]⟩)
  | rng {a b c : Int} (hs : Builtin.Range.small a b c = true) {k : Nat} (hk : Builtin.Range.rangeSize a b c = k) : Items (.rng a b c) ((List.range k).map fun (j : Nat) => D.int (a + j * c))
section
variable {w : World} {A : Around} {E : Value → Shared → Prop} {n : Led} {P : Led → Fl → Prop} {env : Env} {F : Bs} {Z : ZM} {s : Shared}
theorem St.newIt {o : Obj} {i : It} (k : St w A.handled F Z n s) (hi : i.In Z (s.heap.push o) s.heap.objs.size) : St w A.handled F Z ((s.heap.objs.size, i) :: n) { s with heap := s.heap.push o } :=
  k.cons (s' := { s with heap := s.heap.push o }) top_none (fun _b _o e => Heap.get?_push_of_some _ e) (GE.refl _) rfl hi
theorem iter_ {v : Value} {d : D} {l : List D} {Q : Value → Shared → Prop} (k : St w A.handled F Z n s) (rv : Rd Z v d) (hi : Items d l)
    (h : ∀ it s', St w A.handled F Z ((it, .iter l) :: n) s' → s'.gens = s.gens → Q (.ref it) s') : wpAny (Md w) A (pyIter v) Q E s := by
  cases hi with
  | lst l =>
    apply Rd.lE rv; intro _ _ q r
    exact wpAny_pyIter_list (q.list k) (h _ _ (k.newIt (i := .iter l) (.lst (i := 0) ⟨_, Heap.get?_push_size _ rfl, rfl, rfl⟩ q r)) rfl)
  | tup l =>
    apply Rd.tE rv; intro _ _ q r
    exact wpAny_pyIter_tuple (q.tup k) (h _ _ (k.newIt (i := .iter l) (.tup (i := 0) ⟨_, Heap.get?_push_size _ rfl, rfl, rfl⟩ q r)) rfl)
  | str x =>
    cases rv with
    | str _ t =>
      cases ha : x.cps.all (· < 128) with
      | true => exact wpAny_pyIter_ascii ha (h _ _ (k.newIt (i := .iter _) (.asc (i := 0) ⟨_, Heap.get?_push_size _ rfl, rfl, rfl⟩)) rfl)
      | false => exact wpAny_pyIter_wide ha (h _ _ (k.newIt (i := .iter _) (.wide (i := 0) ⟨_, Heap.get?_push_size _ rfl, rfl, rfl⟩)) rfl)
  | @rng a b c hs m hk =>
    cases rv with
    | rng q => exact wpAny_pyIter_range (k.fz _ _ q) hs (h _ _ (k.newIt (i := .iter _) (.rng (by rw [hk]; exact Heap.get?_push_size _ rfl))) rfl)
theorem lotg_is {target : Expr} {it : Addr} {v : Value} : letOwnedTupleGo target (.ref it) v = pure () ∨ ∃ a, letOwnedTupleGo target (.ref it) v = (do
        let o ← load it
        match o.cls, o.data with
        | .type n, .fields vs =>
          if (["enumerate", "zip", "dict_itemiterator", "dict_reverseitemiterator", "odict_iterator", "itertools.zip_longest", "itertools.pairwise"].contains n && vs[0]? == some (rawInt a)) = true then do
            rule "for.unpacks-the-owned-tuple"
            updateField it 0 .none
          else pure ()
        | _, _ => pure () : Sem Unit) := by
  unfold letOwnedTupleGo
  cases target <;> first | exact .inl rfl | skip
  all_goals (cases v <;> first | exact .inl rfl | exact .inr ⟨_, rfl⟩)
theorem lotgAt {target : Expr} {it : Addr} {v : Value} {Q : Unit → Shared → Prop} {T : String} {o : Obj} (ho : s.heap.get? it = some o) (hc : o.cls = .type T) (hT : (["enumerate", "zip", "dict_itemiterator", "dict_reverseitemiterator", "odict_iterator", "itertools.zip_longest", "itertools.pairwise"].contains T) = false) (h : Q () s) : wpAny (Md w) A (letOwnedTupleGo target (.ref it) v) Q E s := by
  rcases lotg_is (target := target) (it := it) (v := v) with e | ⟨a, e⟩
  · rw [e]; exact wpAny_pure h
  · rw [e]
    refine wpAny_bind (wpAny_load ho ?_)
    obtain ⟨c, d, dt, sl⟩ := o
    simp only at hc
    subst hc
    cases dt <;> first | exact wpAny_pure h | skip
    simp only [hT, Bool.false_and, Bool.false_eq_true, if_false]
    exact wpAny_pure h
theorem lotg {target : Expr} {it : Addr} {l : List D} {v : Value} {Q : Unit → Shared → Prop} (k : St w A.handled F Z ((it, .iter l) :: n) s) (h : Q () s) : wpAny (Md w) A (letOwnedTupleGo target (.ref it) v) Q E s := by
  have x : IterAt Z s.heap it l := (k.nw _ (.head _)).1
  cases x with
  | lst i _ _ => obtain ⟨o, ho, hc, _⟩ := i; exact lotgAt ho hc (by decide) h
  | tup i _ _ => obtain ⟨o, ho, hc, _⟩ := i; exact lotgAt ho hc (by decide) h
  | rng i => exact lotgAt i rfl (by decide) h
  | asc i => obtain ⟨o, ho, hc, _⟩ := i; exact lotgAt ho hc (by decide) h
  | wide i => obtain ⟨o, ho, hc, _⟩ := i; exact lotgAt ho hc (by decide) h
noncomputable abbrev uF (w : World) (A : Around) (E : Value → Shared → Prop) (env : Env) (body : List Stmt) (K : Led → Fl → Prop) : Led → Unit → Prop := fun n _ => Hs w A E (execs body env) n K
/-- for, item by item -/
noncomputable def ForP (w : World) (A : Around) (E : Value → Shared → Prop) (target : Expr) (body orelse : List Stmt) (env : Env) (P : Led → Fl → Prop) : List D → Led → Prop
  | [], n => Hs w A (EL w A env E) (execs orelse env) n P
  | d :: r, n => M1 w A (EL w A env E) RU (assign target env) d n (uF w A (EL w A env E) env body (kLoop (ForP w A E target body orelse env P r) P))
theorem forLoop {target : Expr} {body orelse : List Stmt} {it : Addr} : ∀ (l : List D) (n : Led) (Z : ZM) (s : Shared), St w A.handled F Z ((it, .iter l) :: n) s → ForP w A E target body orelse env P l n →
    codeAny (Md w) A (.forLoop target (.ref it) body orelse env) (fun r s' => match r with | .ok f => Po w A.handled F RF P Z s f s' | .error e => cameBackBy (Md w) A env E e s') s
  | [], n, Z, s, k, h => by
    refine codeAny_of_tree ?_
    show wpAny _ A ((forTurn target (.ref it) body orelse env).onRaise (fun x => do noteFrame x env; theTreesLotGoes x)) _ _ s
    refine wpAny_noted ?_
    simp only [forTurn]
    refine wpAny_bind (wpAny_standAt (wpAny_bind (wpAny_onRaise (next_end' k rfl fun s' k' hg => ?_))))
    refine wpAny_pure ⟨rfl, codeAny_block (Po.map (h _ _ _ k') fun f fd n₂ Z₂ s₂ le₂ ge₂ k₂ r₂ h₂ => Po.at le₂ (by rw [← hg]; exact ge₂) k₂ r₂ h₂)⟩
  | d :: l, n, Z, s, k, h => by
    refine codeAny_of_tree ?_
    show wpAny _ A ((forTurn target (.ref it) body orelse env).onRaise (fun x => do noteFrame x env; theTreesLotGoes x)) _ _ s
    refine wpAny_noted ?_
    simp only [forTurn]
    refine wpAny_bind (wpAny_standAt (wpAny_bind (wpAny_onRaise (next_item k rfl fun v s' k' rv hg => ?_))))
    refine wpAny_bind (lotg k' ?_)
    refine wpAny_bind (M1.hid h k' rv fun _ _ n₁ Z₁ s₁ le₁ ge₁ k₁ _ h₁ => ?_)
    refine wpAny_bind (Hm.hid h₁ k₁ fun f fd n₂ Z₂ s₂ le₂ ge₂ k₂ r₂ h₂ => ?_)
    have le := le₁.trans le₂
    have ge : GE s.gens s₂.gens := by rw [← hg]; exact ge₁.trans ge₂
    cases r₂ with
    | next => exact wpAny_pure ⟨rfl, codeAny_mono (forLoop l n₂ Z₂ s₂ k₂ h₂) fun r s' q => by cases r with | ok f => exact Po.lift le ge q | error e => exact q⟩
    | cont => exact wpAny_pure ⟨rfl, codeAny_mono (forLoop l n₂ Z₂ s₂ k₂ h₂) fun r s' q => by cases r with | ok f => exact Po.lift le ge q | error e => exact q⟩
    | brk => exact wpAny_pure (Po.at le ge (k₂.drop (List.sublist_cons_self _ _)) .next h₂)
    | ret r => exact wpAny_pure (Po.at le ge (k₂.drop (List.sublist_cons_self _ _)) (.ret r) h₂)
noncomputable abbrev uFo (w : World) (A : Around) (E : Value → Shared → Prop) (env : Env) (target : Expr) (body orelse : List Stmt) (P : Led → Fl → Prop) : Led → D → Prop := fun n d => ∃ l, Items d l ∧ ForP w A E target body orelse env P l n
theorem sFor {target iter : Expr} {body orelse : List Stmt} {pos : Pos} (hs : ∀ x, foldedSetIterable iter env x = pure x)
    (h : Hv w A E (eval iter env) n (uFo w A E env target body orelse P)) : Hs w A E (exec (.For target iter body orelse pos) env) n P := fun F Z s k => by
  refine wpAny_For (Po.map (h F Z s k) fun v d n₁ Z₁ s₁ le ge k₁ r h₁ => ?_) hs
  obtain ⟨l, hi, h₁⟩ := h₁
  exact iter_ k₁ r hi fun it s' k' hg => codeAny_mono (forLoop l n₁ Z₁ s' k' h₁) fun r s'' q => by
    cases r with
    | ok f => exact Po.lift le (by rw [hg]; exact ge) q
    | error e => exact q
end
end Mine
end
section -- Ki
open PySem PySem.W PyProof.Rows PySem.Calls
namespace Mine
noncomputable abbrev NoE : Value → Shared → Prop := fun _ _ => False
noncomputable def tests (ifs : List Expr) (env : Env) : Sem Bool := forIn ifs true fun c r => if r = true then do let ok ← isTrue c env (eval c env); pure (ForInStep.yield ok) else pure (ForInStep.yield r)
/-- a list comprehension of one clause, item by item -/
noncomputable def CompP (w : World) (A : Around) (target elt : Expr) (ifs : List Expr) (env : Env) (P : Led → List D → Prop) : List D → List D → Led → Prop
  | [], acc, n => P n acc
  | d :: r, acc, n => M1 w A NoE RU (assign target env) d n fun n₁ _ => Hb w A NoE (tests ifs env) n₁ fun n₂ ok =>
      if ok = true then Hv w A NoE (eval elt env) n₂ fun n₃ y => CompP w A target elt ifs env P r (acc ++ [y]) n₃ else CompP w A target elt ifs env P r acc n₂
section
variable {w : World} {A : Around} {E : Value → Shared → Prop} {n : Led} {env : Env} {F : Bs} {Z : ZM} {s : Shared}
theorem te0 {P : Led → Bool → Prop} (h : P n true) : Hb w A E (tests [] env) n P := fun _ _ _ k => wpAny_tests_nil (Po.here k rfl h)
theorem te1 {c : Expr} {P : Led → Bool → Prop} (h : Hb w A E (isTrue c env (eval c env)) n P) : Hb w A E (tests [c] env) n P := fun F Z s k => wpAny_tests_one (h F Z s k)
/-- two hidden -/
theorem St.hide2 {hd : Option Value} {p q : Addr × It} (k : St w hd F Z (p :: q :: n) s) : ∃ F', St w hd F' Z n s ∧ ∀ Z' n' s', Le Z Z' → St w hd F' Z' n' s' → St w hd F Z' (p :: q :: n') s' := by
  obtain ⟨o, _, k₁, b₁⟩ := k.hide
  obtain ⟨o', _, k₂, b₂⟩ := k₁.hide
  exact ⟨_, k₂, fun Z' n' s' le x => b₁ _ _ _ le (b₂ _ _ _ le x)⟩
theorem appendO {a : Addr} {acc : List D} {r : Led} {y : D} {v : Value} {Q : Value → Shared → Prop} (hs : acc.length ≤ sizeLine) (k : St w A.handled F Z ((a, .lst acc) :: r) s) (rv : Rd Z v y)
    (h : ∀ s', St w A.handled F Z ((a, .lst (acc ++ [y])) :: r) s' → s'.gens = s.gens → Q .none s') : wpAny (Md w) A (call (.builtin "list.append") [.ref a, v]) Q E s := by
  obtain ⟨⟨xs, hl, r'⟩, _⟩ := k.nw _ (.head _)
  refine wpAny_list_append_plain hl (fun h' hl' hs' => h { s with heap := h' } (k.turn0 (j := .lst (acc ++ [y])) ⟨xs ++ [v], by simpa using hl', r'.append (.one rv)⟩ (fun b o hb e => hs'.extBut b o hb e) (GE.refl _) rfl) rfl) (by simp only [List.size_toArray, r'.len]; exact hs)
/-- the loop of a comprehension: behind it the list a holds what was made -/
theorem compLoop1 {target elt iter : Expr} {ifs : List Expr} {scope : Scope} {pos : Pos} {it a : Addr} {P : Led → List D → Prop} {R : Result → Shared → Prop}
    (hR : ∀ Z' n' acc s', Le Z Z' → GE s.gens s'.gens → St w A.handled F Z' ((a, .lst acc) :: n') s' → P n' acc → R (.ok .next) s') :
    ∀ (l acc : List D) (n : Led) (Z₁ : ZM) (s₁ : Shared), acc.length + l.length ≤ sizeLine → Le Z Z₁ → GE s.gens s₁.gens → St w A.handled F Z₁ ((it, .iter l) :: (a, .lst acc) :: n) s₁ → CompP w A target elt ifs env P l acc n →
      codeAny (Md w) A (.compLoop (.ListComp elt [⟨target, iter, ifs, 0⟩] scope pos) 0 (.ref it) (.ref a) env) R s₁
  | [], acc, n, Z₁, s₁, hsz, le, ge, k, h => by
    refine codeAny_of_tree ?_
    show wpAny _ A ((compTurn (.ListComp elt [⟨target, iter, ifs, 0⟩] scope pos) 0 (.ref it) (.ref a) env).onRaise (fun x => do noteFrame x env; theTreesLotGoes x)) _ _ s₁
    refine wpAny_noted ?_
    rw [compTurn_list]
    exact wpAny_bind (wpAny_standAt (wpAny_bind (next_end' k rfl fun s' k' hg => wpAny_pure (hR _ _ _ _ le (by rw [hg]; exact ge) k' h))))
  | d :: l, acc, n, Z₁, s₁, hsz, le, ge, k, h => by
    refine codeAny_of_tree ?_
    show wpAny _ A ((compTurn (.ListComp elt [⟨target, iter, ifs, 0⟩] scope pos) 0 (.ref it) (.ref a) env).onRaise (fun x => do noteFrame x env; theTreesLotGoes x)) _ _ s₁
    refine wpAny_noted ?_
    rw [compTurn_list]
    rw [List.length_cons] at hsz
    refine wpAny_bind (wpAny_standAt (wpAny_bind (next_item k rfl fun v s₂ k₂ rv hg => ?_)))
    refine wpAny_bind (lotg k₂ ?_)
    obtain ⟨F', k₃, back⟩ := k₂.hide2
    refine wpAny_bind (wpAny_mono (h F' Z₁ s₂ v k₃ rv) (fun _ s₄ h₄ => ?_) fun _ _ f => f.elim)
    obtain ⟨Z₄, n₄, _, le₄, ge₄, k₄, _, h₄⟩ := h₄
    refine wpAny_bind (wpAny_mono (h₄ F' Z₄ s₄ k₄) (fun ok s₅ h₅ => ?_) fun _ _ f => f.elim)
    obtain ⟨Z₅, n₅, ok', le₅, ge₅, k₅, (rfl : ok = ok'), h₅⟩ := h₅
    have gg : GE s.gens s₅.gens := (ge.trans (by rw [← hg]; exact ge₄)).trans ge₅
    have ll := le₄.trans le₅
    cases ok with
    | false =>
      rw [if_neg Bool.false_ne_true] at h₅ ⊢
      exact wpAny_pure ⟨rfl, compLoop1 hR l acc n₅ Z₅ s₅ (by exact Nat.le_of_lt (by assumption)) (le.trans ll) gg (back _ _ _ ll k₅) h₅⟩
    | true =>
      rw [if_pos rfl] at h₅ ⊢
      refine wpAny_bind (wpAny_bind (wpAny_mono (h₅ F' Z₅ s₅ k₅) (fun x s₆ h₆ => ?_) fun _ _ f => f.elim))
      obtain ⟨Z₆, n₆, y, le₆, ge₆, k₆, ry, h₆⟩ := h₆
      have lll := ll.trans le₆
      have k₇ := (back _ _ _ lll k₆).perm (.swap _ _ _)
      refine wpAny_bind (appendO (by grind) k₇ ry fun s₇ k₈ hg₇ => wpAny_pure (wpAny_pure ⟨rfl, ?_⟩))
      exact compLoop1 hR l (acc ++ [y]) n₆ Z₆ s₇ (by simp; lia) (le.trans lll) (by rw [hg₇]; exact gg.trans ge₆) (k₈.perm (.swap _ _ _)) h₆
end
end Mine
end
section -- Kj
open PySem PySem.W PyProof.Rows PySem.Calls
namespace Mine
section
variable {w : World} {A : Around} {E : Value → Shared → Prop} {n : Led} {env : Env} {F : Bs} {Z : ZM} {s : Shared}
theorem St.seqZ {hd : Option Value} {a : Addr} {acc : List D} {r : Led} (k : St w hd F Z ((a, .lst acc) :: r) s) : ∃ Z' v, Le Z Z' ∧ St w hd F Z' r s ∧ v = Value.ref a ∧ Rd Z' v (.lst acc) := by
  obtain ⟨⟨xs, ⟨m, hl⟩, r'⟩, _⟩ := k.nw _ (.head _)
  obtain ⟨le, k'⟩ := k.freeze (l := []) rfl hl
  exact ⟨_, _, le, k', rfl, .lst ⟨m, ins_self⟩ (r'.up le)⟩
/-- what a comprehension must show, started -/
theorem compRun {elt target iter : Expr} {ifs : List Expr} {scope : Scope} {cl : List (Str × Addr)} {pos : Pos} {v : Value} {d : D} {l : List D} {P : Led → List D → Prop} {X : Value → Addr → Result → Shared → Prop}
    (hcell : ∀ y ∈ scope.names, y.2 ≠ .cell) (hkind : scope.kind = .function)
    (k : St w A.handled F Z n s) (rv : Rd Z v d) (hi : Items d l) (hsz : l.length ≤ sizeLine)
    (h : ∀ C, CompP w A target elt ifs (compEnvC scope cl C env) (fun n₂ acc => ∃ b n', n₂ = (C, .fr b) :: n' ∧ P n' acc) l [] ((C, .fr []) :: n))
    (hX : ∀ a C b Z' n' acc s', Le Z Z' → GE s.gens s'.gens → St w A.handled F Z' ((a, .lst acc) :: (C, .fr b) :: n') s' → P n' acc → X (.ref a) C (.ok .next) s') :
    wpAny (Md w) A (pyIter v) (fun it s₂ => wpAny (Md w) A (newList []) (fun acc s₃ =>
      wpAny (Md w) A (newFunctionEnv scope env.globals cl [] env.qual none .none (some env)) (fun cenv s₄ =>
        codeAny (Md w) A (.compStart (.ListComp elt [⟨target, iter, ifs, 0⟩] scope pos) 0 it acc { cenv with scope := relabel scope env }) (X acc cenv.locals) s₄) E s₃) E s₂) E s := by
  refine iter_ k rv hi fun it s₂ k₂ hg₂ => ?_
  refine wpAny_newList ?_ (by show 0 ≤ sizeLine; exact Nat.zero_le _)
  have k₃ : St w A.handled F Z ((it, .iter l) :: (s₂.heap.objs.size, .lst []) :: n) { s₂ with heap := s₂.heap.push { cls := .type "list", data := .seq ([] : List Value).toArray } } :=
    k₂.own (i := .lst []) top_none (fun b o e => Heap.get?_push_of_some _ e) (GE.refl _) rfl ⟨[], ⟨_, Heap.get?_push_size _ rfl⟩, .nil⟩
  generalize ha : s₂.heap.objs.size = a at k₃
  generalize hs3 : ({ s₂ with heap := s₂.heap.push { cls := .type "list", data := .seq ([] : List Value).toArray } } : Shared) = s₃ at k₃
  have hg₃ : s₃.gens = s.gens := by rw [← hs3, ← hg₂]
  refine wpAny_newFunctionEnv hcell (by intro y hy; cases hy) (fun h' hn hs' => ?_) hkind
  have k₄ : St w A.handled F Z ((it, .iter l) :: (a, .lst []) :: (s₃.heap.objs.size, .fr []) :: n) { s₃ with heap := h', toks := s₃.toks + 0 } := by
    have := k₃.cons (a := s₃.heap.objs.size) (i := .fr []) (s' := { s₃ with heap := h', toks := s₃.toks + 0 }) top_none
      (fun b o e => hs'.extBut b o (Nat.ne_of_lt (Heap.lt_size e)) (Heap.get?_push_of_some _ e)) (GE.refl _) rfl ⟨_, hn, fun x d e => by cases e⟩
    exact this.perm ((List.Perm.swap _ _ _).trans (.cons _ (.swap _ _ _)))
  have start : ∀ s₅, s₅ = ({ s₃ with heap := h', toks := s₃.toks + 0 } : Shared) → codeAny (Md w) A (.compLoop (.ListComp elt [⟨target, iter, ifs, 0⟩] scope pos) 0 (.ref it) (.ref a) (compEnvC scope cl s₃.heap.objs.size env)) (X (.ref a) s₃.heap.objs.size) s₅ := by
    rintro s₅ rfl
    refine compLoop1 (F := F) (Z := Z) (s := s) (P := fun n₂ acc => ∃ b n', n₂ = (s₃.heap.objs.size, .fr b) :: n' ∧ P n' acc) (fun Z' n' acc s' le ge k' hp => ?_) l [] _ Z _ (by simpa using hsz) (Le.refl _) (by show GE s.gens s₃.gens; rw [hg₃]; exact GE.refl _) k₄ (h _)
    obtain ⟨b, n'', rfl, hp⟩ := hp
    exact hX _ _ _ _ _ _ _ le ge k' hp
  exact codeAny_compStart_list (start _ rfl) (iterSelf k₄ (start _ rfl))
theorem St.ns {hd : Option Value} {C : Addr} {b : Binds} {r : Led} (k : St w hd F Z ((C, .fr b) :: r) s) : ∃ m, s.heap.Ns C m := let ⟨⟨m, hn, _⟩, _⟩ := k.nw _ (.head _); ⟨m, hn⟩
theorem lc {elt target iter : Expr} {ifs : List Expr} {scope : Scope} {cl : List (Str × Addr)} {pos : Pos} {P : Led → D → Prop}
    (hclos : closureFor scope env = pure cl) (hkind : scope.kind = .function) (hnames : ∀ x ∈ scope.names, x.2 = .local → scope.names.lookup x.1 = some .local) (hcell : ∀ y ∈ scope.names, y.2 ≠ .cell)
    (hs : ∀ x, foldedSetIterable iter env x = pure x)
    (h : Hv w A E (eval iter env) n fun n₁ d => ∃ l, Items d l ∧ l.length ≤ sizeLine ∧ ∀ C, CompP w A target elt ifs (compEnvC scope cl C env) (fun n₂ acc => ∃ b n', n₂ = (C, .fr b) :: n' ∧ P n' (.lst acc)) l [] ((C, .fr []) :: n₁)) :
    Hv w A E (eval (.ListComp elt [⟨target, iter, ifs, 0⟩] scope pos) env) n P := fun F Z s k => by
  rw [eval_ListComp]
  refine wpAny_comprehension_free (use := none) rfl hs hclos hkind hnames ?_
  refine Po.map (h F Z s k) fun v d n₁ Z₁ s₁ le₁ ge₁ k₁ r₁ h₁ => ?_
  obtain ⟨l, hi, hsz, hc⟩ := h₁
  refine compRun (X := fun acc C r s' => compPost (Md w) A E none (Po w A.handled F Rd P Z s) acc C r s') hcell hkind k₁ r₁ hi hsz hc fun a C b Z' n' acc s' le ge k' hp => ?_
  have k₂ := k'.perm (.swap _ _ _)
  obtain ⟨m, hn⟩ := k₂.ns
  refine ⟨m, hn, fun h' hs' => ?_⟩
  have k₃ : St w A.handled F Z' ((a, .lst acc) :: n') { s' with heap := h' } := k₂.lose (fun b o hb e => hs'.extBut b o hb e) (GE.refl _) rfl
  obtain ⟨Z'', v, le', k₄, rfl, rv⟩ := k₃.seqZ
  exact Po.at ((le₁.trans le).trans le') (ge₁.trans ge) k₄ rv hp
theorem sAsgU {elt target iter : Expr} {ifs : List Expr} {scope : Scope} {cl : List (Str × Addr)} {pos spos px : Pos} {x : Str} {P : Led → Fl → Prop}
    (hsw : swapsWith (.ListComp elt [⟨target, iter, ifs, 0⟩] scope pos) (some (.Name x px)) spos.line env = pure true)
    (hclos : closureFor scope env = pure cl) (hkind : scope.kind = .function) (hnames : ∀ x ∈ scope.names, x.2 = .local → scope.names.lookup x.1 = some .local) (hcell : ∀ y ∈ scope.names, y.2 ≠ .cell)
    (hs : ∀ x, foldedSetIterable iter env x = pure x)
    (h : Hv w A E (eval iter env) n fun n₁ d => ∃ l, Items d l ∧ l.length ≤ sizeLine ∧ ∀ C, CompP w A target elt ifs (compEnvC scope cl C env) (fun n₂ acc => ∃ b n', n₂ = (C, .fr b) :: n' ∧
      M1 w A E RU (storeName env x) (.lst acc) n' fun n₃ _ => P n₃ .next) l [] ((C, .fr []) :: n₁)) :
    Hs w A E (exec (.Assign [.Name x px] (.ListComp elt [⟨target, iter, ifs, 0⟩] scope pos) spos) env) n P := fun F Z s k => by
  rw [exec_Assign_Name_used _ _ _ _ hsw]
  refine wpAny_bind (wpAny_standAt (wpAny_bind ?_))
  show wpAny _ A (do let _ ← comprehension (.ListComp elt [⟨target, iter, ifs, 0⟩] scope pos) scope env _ (newList []) false (eval iter env) (some (assign (.Name x px) env))) _ _ s
  refine wpAny_bind (wpAny_mono (wpAny_comprehension_free (use := some (assign (.Name x px) env)) (Q := fun _ s' => Po w A.handled F RF P Z s .next s') rfl hs hclos hkind hnames ?_) (fun _ s' hq => wpAny_pure (wpAny_pure hq)) fun _ _ e => e)
  refine Po.map (h F Z s k) fun v d n₁ Z₁ s₁ le₁ ge₁ k₁ r₁ h₁ => ?_
  obtain ⟨l, hi, hsz, hc⟩ := h₁
  refine compRun (X := fun acc C r s' => compPost (Md w) A E (some (assign (.Name x px) env)) (fun _ s' => Po w A.handled F RF P Z s .next s') acc C r s') hcell hkind k₁ r₁ hi hsz hc fun a C b Z' n' acc s' le ge k' hp => ?_
  obtain ⟨Z'', v, le', k₂, rfl, rv⟩ := k'.seqZ
  show wpAny (Md w) A (assign (.Name x px) env (.ref a)) _ E s'
  refine wpAny_assign_Name (M1.hid hp k₂ rv fun _ _ n₃ Z₃ s₃ le₃ ge₃ k₃ _ h₃ => ?_)
  obtain ⟨m, hn⟩ := k₃.ns
  refine ⟨m, hn, fun h' hs' => ?_⟩
  have k₄ : St w A.handled F Z₃ n₃ { s₃ with heap := h' } := k₃.lose (fun b o hb e => hs'.extBut b o hb e) (GE.refl _) rfl
  exact Po.at (((le₁.trans le).trans le').trans le₃) ((ge₁.trans ge).trans ge₃) k₄ .next h₃
end
end Mine
end
section -- Kk
open PySem PySem.W PyProof.Rows PySem.Calls
namespace Mine
noncomputable def idxs (lo hi st : Option Int) (n : Nat) : List Nat := sliceRange (sliceBounds lo hi st n).1 (sliceBounds lo hi st n).2.1 (sliceBounds lo hi st n).2.2
noncomputable def pick {α : Type} (l : List α) (lo hi st : Option Int) : List α := (idxs lo hi st l.length).filterMap (l[·]?)
theorem Rds.filterMap {Z : ZM} {xs : List Value} {l : List D} (r : Rds Z xs l) : ∀ (is : List Nat), Rds Z (is.filterMap (xs[·]?)) (is.filterMap (l[·]?))
  | [] => .nil
  | i :: is => by
    rw [List.filterMap_cons, List.filterMap_cons]
    cases h : l[i]? with
    | none =>
      have : xs[i]? = none := by rw [List.getElem?_eq_none_iff, r.len]; exact List.getElem?_eq_none_iff.mp h
      simp only [this]
      exact r.filterMap is
    | some d =>
      obtain ⟨v, hv, rv⟩ := r.get h
      simp only [hv]
      exact .cons rv (r.filterMap is)
theorem Rds.pick {Z : ZM} {xs : List Value} {l : List D} (r : Rds Z xs l) (lo hi st : Option Int) : Rds Z (slicePick xs.toArray lo hi st).toList (pick l lo hi st) := by
  have e : (slicePick xs.toArray lo hi st).toList = (idxs lo hi st l.length).filterMap (xs[·]?) := by
    unfold slicePick idxs
    simp only [List.size_toArray, r.len]
    congr 1
    funext i
    simp
  rw [e]
  exact r.filterMap _
noncomputable def partOf : D → Option (Option Int)
  | .none => some none
  | .int i => some (some i)
  | _ => none
theorem isPart {Z : ZM} {v : Value} {d : D} {o : Option Int} (r : Rd Z v d) (h : partOf d = some o) : IsPart v o := by
  cases r <;> cases h <;> constructor
section
variable {w : World} {A : Around} {E : Value → Shared → Prop} {env : Env} {n : Led} {P : Led → D → Prop} {F : Bs} {Z : ZM} {s : Shared}
theorem ptN (h : P n .none) : Hv w A E (evalPart none env) n P := fun _ _ _ k => wpAny_pure (Po.here k .none h)
theorem ptS {e : Expr} (h : Hv w A E (eval e env) n P) : Hv w A E (evalPart (some e) env) n P := h
theorem slc {lo hi st : Option Expr} {p : Pos} (h : Hv w A E (evalPart lo env) n (uP1 w A E env hi st P)) : Hv w A E (eval (.Slice lo hi st p) env) n P := fun F Z s k => by
  refine wpAny_Slice (Po.map (h F Z s k) fun v₁ a n₁ Z₁ s₁ le₁ ge₁ k₁ r₁ h₁ => Po.map (h₁ _ _ _ k₁) fun v₂ b n₂ Z₂ s₂ le₂ ge₂ k₂ r₂ h₂ => Po.map (h₂ _ _ _ k₂) fun v₃ c n₃ Z₃ s₃ le₃ ge₃ k₃ r₃ h₃ => ?_)
  obtain ⟨le₄, k₄⟩ := k₃.pushZ (a := s₃.heap.objs.size) (o := { cls := .type "slice", data := .fields #[v₁, v₂, v₃] }) (s' := { s₃ with heap := s₃.heap.push { cls := .type "slice", data := .fields #[v₁, v₂, v₃] } }) top_none
    (fun b o e => Heap.get?_push_of_some _ e) (GE.refl _) rfl (Heap.get?_push_size _ rfl)
  exact Po.at (((le₁.trans le₂).trans le₃).trans le₄) ((ge₁.trans ge₂).trans ge₃) k₄ (.slc ins_self (((r₁.up le₂).up le₃).up le₄) ((r₂.up le₃).up le₄) (r₃.up le₄)) h₃
noncomputable def Subs (sl : Expr) : Prop := ∀ o i, ∃ ops, subscripted sl false o i = operate ops (getItem o i)
theorem itL {e sl : Expr} {ds : List D} {i : Int} {d : D} (hs : Subs sl) (h0 : 0 ≤ i) (hf : i < 2 ^ 63) (hd : ds[i.toNat]? = some d) (h : P n d) : M2 w A E Rd (subscriptTail e sl) (.lst ds) (.int i) n P := fun F Z s v u k r q => by
  apply Rd.lE r; intro _ _ f r
  (first | apply Rds.nE q | (apply Rd.iE q; intro _) | (apply Rd.sE q; intro _) | apply Rd.rE q | apply Rd.bE q | apply Rd.nE q | cases q)
  obtain ⟨x, hx, rx⟩ := r.get hd
  obtain ⟨ops, ho⟩ := hs _ _
  have hl := f.list k
  exact tail_any hl.typeIs slot_list_getitem.lookup (wpAny_getItem_list hl h0 hf (by simpa using hx) (Po.here k rx h)) ho
theorem itO {e sl : Expr} {a : Addr} {ds : List D} {i : Int} {d : D} (hs : Subs sl) (hm : (a, It.lst ds) ∈ n) (h0 : 0 ≤ i) (hf : i < 2 ^ 63) (hd : ds[i.toNat]? = some d) (h : P n d) : M2 w A E Rd (subscriptTail e sl) (.raw (.ref a)) (.int i) n P := fun F Z s v u k r q => by
  cases r with
  | raw =>
    (first | apply Rds.nE q | (apply Rd.iE q; intro _) | (apply Rd.sE q; intro _) | apply Rd.rE q | apply Rd.bE q | apply Rd.nE q | cases q)
    obtain ⟨⟨xs, hl, r⟩, _⟩ := k.nw _ hm
    obtain ⟨x, hx, rx⟩ := r.get hd
    obtain ⟨ops, ho⟩ := hs _ _
    exact tail_any hl.isList.typeIs slot_list_getitem.lookup (wpAny_getItem_list hl.isList h0 hf (by simpa using hx) (Po.here k rx h)) ho
theorem itON {e sl : Expr} {a : Addr} {ds : List D} {i : Int} {d : D} (hs : Subs sl) (hm : (a, It.lst ds) ∈ n) (h0 : i < 0) (h1 : -(ds.length : Int) ≤ i) (hf : -(2 ^ 63) ≤ i) (hd : ds[(i + ds.length).toNat]? = some d) (h : P n d) : M2 w A E Rd (subscriptTail e sl) (.raw (.ref a)) (.int i) n P := fun F Z s v u k r q => by
  cases r with
  | raw =>
    (first | apply Rds.nE q | (apply Rd.iE q; intro _) | (apply Rd.sE q; intro _) | apply Rd.rE q | apply Rd.bE q | apply Rd.nE q | cases q)
    obtain ⟨⟨xs, hl, r⟩, _⟩ := k.nw _ hm
    obtain ⟨x, hx, rx⟩ := r.get hd
    obtain ⟨ops, ho⟩ := hs _ _
    exact tail_any hl.isList.typeIs slot_list_getitem.lookup (wpAny_getItem_list_neg hl.isList h0 (by simpa [r.len] using h1) hf (by simpa [r.len] using hx) (Po.here k rx h)) ho
theorem slL {e sl : Expr} {ds : List D} {a b c : D} {lo hi st : Option Int} (hs : Subs sl) (ha : partOf a = some lo) (hb : partOf b = some hi) (hc : partOf c = some st) (h0 : st ≠ some 0) (hz : ds.length ≤ sizeLine) (h : P n (.lst (pick ds lo hi st))) :
    M2 w A E Rd (subscriptTail e sl) (.lst ds) (.slc a b c) n P := fun F Z s v u k r q => by
  apply Rd.lE r; intro l xs f r
  cases q with
  | @slc sa x y z _ _ _ g rx ry rz =>
    obtain ⟨ops, ho⟩ := hs (.ref l) (.ref sa)
    have hl := f.list k
    have hsl : s.heap.IsSliceOf sa x y z := ⟨_, k.fz _ _ g, rfl, rfl⟩
    refine tail_any hl.typeIs slot_list_getitem.lookup (wpAny_getItem_list_slice hl hsl (isPart rx ha) (isPart ry hb) (isPart rz hc) h0 ?_ (by simp only [List.size_toArray, r.len]; exact hz)) ho
    obtain ⟨Z', le, k', q'⟩ := freshSeq (T := "list") (xs := (slicePick xs.toArray lo hi st).toList) k
    exact Po.at le (GE.refl _) (by simpa using k') (.lst q' ((r.pick lo hi st).up le)) h
theorem partV {Z : ZM} {v : Value} {d : D} {o : Option Int} (r : Rd Z v d) (h : partOf d = some o) : ∃ l : Option (Int × Tok), v = partValue l ∧ l.map (·.1) = o := by
  cases d with
  | none => cases h; exact Rd.nE (M := fun v => ∃ l : Option (Int × Tok), v = partValue l ∧ l.map (·.1) = none) r ⟨none, rfl, rfl⟩
  | int i => cases h; exact Rd.iE (M := fun v => ∃ l : Option (Int × Tok), v = partValue l ∧ l.map (·.1) = some i) r fun t => ⟨some (i, t), rfl, rfl⟩
  | _ => cases h
theorem slS {e sl : Expr} {x : Str} {a b : D} {lo hi : Option Int} (hs : Subs sl) (ha : partOf a = some lo) (hb : partOf b = some hi) (hz : x.length ≤ sizeLine) (h : P n (.str (Txt.slice x lo hi))) :
    M2 w A E Rd (subscriptTail e sl) (.str x) (.slc a b .none) n P := fun F Z s v u k r q => by
      apply Rd.sE r; intro t
      apply Rd.slE q; intro sa p q z g rp rq rz
      obtain ⟨ops, ho⟩ := hs (.str x t) (.ref sa)
      obtain ⟨l₁, i₁, e₁⟩ := partV rp ha
      obtain ⟨l₂, i₂, e₂⟩ := partV rq hb
      have hsl : s.heap.IsSlice sa l₁ l₂ none := by
        rw [i₁, i₂] at g
        exact ⟨_, k.fz _ _ g, rfl, Rd.nE (M := fun z => Data.fields #[partValue l₁, partValue l₂, z] = Data.fields #[partValue l₁, partValue l₂, Value.none]) rz rfl⟩
      refine tail_any (typeIs_str s x t) PySem.F.slot_str_getitem.lookup (wpAny_getItem_str_slice hsl rfl ?_) ho
      have hp : slicePicked x l₁ l₂ none = Builtin.Str.strSliceIndices lo hi 1 x.length := by unfold slicePicked; rw [e₁, e₂]; rfl
      unfold sliceMade
      rw [hp]
      have hle : (Txt.slice x lo hi).length ≤ sizeLine := Nat.le_trans (Txt.slice_le x lo hi) hz
      have h' := h
      unfold Txt.slice at h' hle
      by_cases hc : ((1 : Int) == 1 && (Builtin.Str.strSliceIndices lo hi 1 x.length).length == x.length) = true
      · rw [if_pos hc] at h'
        rw [if_pos (by simpa using hc)]
        exact Po.same rfl (k.tok _) (.str x t) h'
      · rw [if_neg hc] at h' hle
        rw [if_neg (by simpa using hc)]
        exact ⟨hle, Po.same rfl (k.tok _) (.str _ _) h'⟩
theorem itS {e sl : Expr} {x : Str} {i : Int} {c : Nat} (hs : Subs sl) (h0 : 0 ≤ i) (hf : i < 2 ^ 63) (hl : i < x.length) (hd : x.cps[i.toNat]? = some c) (h : P n (.str ⟨#[c]⟩)) : M2 w A E Rd (subscriptTail e sl) (.str x) (.int i) n P := fun F Z s v u k r q => by
    apply Rd.sE r; intro t
    (first | apply Rds.nE q | (apply Rd.iE q; intro _) | (apply Rd.sE q; intro _) | apply Rd.rE q | apply Rd.bE q | apply Rd.nE q | cases q)
    obtain ⟨ops, ho⟩ := hs _ _
    refine tail_any (typeIs_str s x t) PySem.F.slot_str_getitem.lookup (getItem_str (c := c) ?_ ?_ ?_) ho
    · rw [Bool.or_eq_false_iff]; exact ⟨decide_eq_false (by lia), decide_eq_false (by lia)⟩
    · unfold seqIndex?
      have : ¬ i < 0 := by lia
      simp only [this, if_false]
      rw [if_pos (by simp only [Bool.and_eq_true, decide_eq_true_eq]; lia)]
      simpa using hd
    · exact Po.same rfl (k.tok _) (.str _ _) h
end
end Mine
end
section -- Kl
open PySem PySem.W PyProof.Rows PySem.Calls
namespace Mine
section
variable {w : World} {A : Around} {E : Value → Shared → Prop} {env : Env} {n : Led} {P : Led → D → Prop}
theorem caB {f e : Expr} {rest : List Expr} {pos : Pos} (hc : eval (.Call f (e :: rest) [] pos) env = (do callWith pos (← eval f env) [] (backTo pos (starEach (e :: rest) env)) (backToKw pos (keywordEach [] env))))
    (he : starEach (e :: rest) env = (false, eval e env) :: starEach rest env) (hp : (backTo pos (starEach rest env)).any (·.1) = false)
    (h : Hv w A E (eval f env) n fun n₁ d => ∃ id, d = .raw (.builtin id) ∧ Hl w A E (spliced (backTo pos (starEach (e :: rest) env))) n₁ (uCl w A E (.builtin id) P)) :
    Hv w A E (eval (.Call f (e :: rest) [] pos) env) n P := fun F Z s k => by
  refine Call_ (Po.map (h F Z s k) fun v d n₁ Z₁ s₁ le₁ ge₁ k₁ r₁ h₁ => ?_) hc
  obtain ⟨id, rfl, h₁⟩ := h₁
  (first | apply Rds.nE r₁ | (apply Rd.iE r₁; intro _) | (apply Rd.sE r₁; intro _) | apply Rd.rE r₁ | apply Rd.bE r₁ | apply Rd.nE r₁ | cases r₁)
  rw [he] at h₁ ⊢
  refine callWith_builtin (by simpa [backTo] using hp) (evalArgs_plain (Po.map (h₁ _ _ _ k₁) fun vs ds n₂ Z₂ s₂ le₂ ge₂ k₂ r₂ h₂ => ?_))
  exact wpAny_mono (h₂ _ _ _ _ k₂ r₂) (fun _ _ q => q.lift (le₁.trans le₂) (ge₁.trans ge₂)) fun _ _ e => e
theorem caT {f e : Expr} {rest : List Expr} {pos : Pos} (hc : eval (.Call f (e :: rest) [] pos) env = (do callWith pos (← eval f env) [] (backTo pos (starEach (e :: rest) env)) (backToKw pos (keywordEach [] env))))
    (he : starEach (e :: rest) env = (false, eval e env) :: starEach rest env) (hp : (backTo pos (starEach rest env)).any (·.1) = false)
    (h : Hv w A E (eval f env) n fun n₁ d => ∃ T, d = .raw (.type T) ∧ Hl w A E (spliced (backTo pos (starEach (e :: rest) env))) n₁ (uCl w A E (.type T) P)) :
    Hv w A E (eval (.Call f (e :: rest) [] pos) env) n P := fun F Z s k => by
  refine Call_ (Po.map (h F Z s k) fun v d n₁ Z₁ s₁ le₁ ge₁ k₁ r₁ h₁ => ?_) hc
  obtain ⟨id, rfl, h₁⟩ := h₁
  (first | apply Rds.nE r₁ | (apply Rd.iE r₁; intro _) | (apply Rd.sE r₁; intro _) | apply Rd.rE r₁ | apply Rd.bE r₁ | apply Rd.nE r₁ | cases r₁)
  rw [he] at h₁ ⊢
  refine PySem.callWith_type (by simpa [backTo] using hp) (evalArgs_plain (Po.map (h₁ _ _ _ k₁) fun vs ds n₂ Z₂ s₂ le₂ ge₂ k₂ r₂ h₂ => ?_))
  exact wpAny_mono (h₂ _ _ _ _ k₂ r₂) (fun _ _ q => q.lift (le₁.trans le₂) (ge₁.trans ge₂)) fun _ _ e => e
theorem caF {f e : Expr} {rest : List Expr} {pos : Pos} (hc : eval (.Call f (e :: rest) [] pos) env = (do callWith pos (← eval f env) [] (backTo pos (starEach (e :: rest) env)) (backToKw pos (keywordEach [] env))))
    (he : starEach (e :: rest) env = (false, eval e env) :: starEach rest env)
    (h : Hv w A E (eval f env) n fun n₁ d => ∃ a o fd, d = .raw (.ref a) ∧ (H1 w.params).get? a = some o ∧ o.data = .func fd ∧ Hl w A E (spliced (backTo pos (starEach (e :: rest) env))) n₁ (uCl w A E (.ref a) P)) :
    Hv w A E (eval (.Call f (e :: rest) [] pos) env) n P := fun F Z s k => by
  refine Call_ (Po.map (h F Z s k) fun v d n₁ Z₁ s₁ le₁ ge₁ k₁ r₁ h₁ => ?_) hc
  obtain ⟨a, o, fd, rfl, ho, hd, h₁⟩ := h₁
  (first | apply Rds.nE r₁ | (apply Rd.iE r₁; intro _) | (apply Rd.sE r₁; intro _) | apply Rd.rE r₁ | apply Rd.bE r₁ | apply Rd.nE r₁ | cases r₁)
  rw [he] at h₁ ⊢
  refine callWith_function (o := o) (fd := fd) (evalArgs_plain (Po.map (h₁ _ _ _ k₁) fun vs ds n₂ Z₂ s₂ le₂ ge₂ k₂ r₂ h₂ => ?_))
  exact ⟨⟨k₂.topH _ _ ho, hd⟩, wpAny_mono (h₂ _ _ _ _ k₂ r₂) (fun _ _ q => q.lift (le₁.trans le₂) (ge₁.trans ge₂)) fun _ _ e => e⟩
noncomputable abbrev Nn : Option Value → Prop := fun h => h = none
noncomputable abbrev Aw : Option Value → Prop := fun _ => True
/-- what a function does, whoever calls it -/
noncomputable def Cn (w : World) (H : Option Value → Prop) (k : Nat) (fa : Addr) (ds : List D) (P : D → Prop) : Prop := ∀ (A : Around) (E : Value → Shared → Prop) (Z : ZM) (s : Shared) (vs : List Value), Rm k A → H A.handled → Top w Z → HOk Z A.handled → (∀ a ob, Z a = some ob → s.heap.get? a = some ob) → Rds Z vs ds →
  wpAny (Md w) A (call (.ref fa) vs) (fun v s' => ∃ Z' d, St w A.handled (here Z s) Z' [] s' ∧ Rd Z' v d ∧ P d) E s
theorem mF {H : Option Value → Prop} {k : Nat} {fa : Addr} {ds : List D} {P' : D → Prop} (hA : Rm k A) (hH : H A.handled) (hf : Cn w H k fa ds P') (h : ∀ d, P' d → P n d) : ML w A E Rd (fun vs => call (.ref fa) vs) ds n P := fun F Z s vs k r => by
  refine wpAny_mono (hf A E Z s vs hA hH k.tp k.ho k.fz r) (fun v s' q => ?_) fun _ _ e => e
  obtain ⟨Z', d, f, rv, hp⟩ := q
  exact Po.at (f.le0 k.fz) f.ge (k.after f) rv (h d hp)
-- built-in functions
theorem bLenS {x : Str} (hs : ¬ (x.length : Int) ≥ 2 ^ 63) (h : P n (.int x.length)) : ML w A E Rd (fun vs => call (.builtin "len") vs) [.str x] n P := fun F Z s vs k r => by
  apply Rds.cE r; intro _ _ r q; (first | apply Rds.nE q | (apply Rd.iE q; intro _) | (apply Rd.sE q; intro _) | apply Rd.rE q | apply Rd.bE q | apply Rd.nE q | cases q); (first | apply Rds.nE r | (apply Rd.iE r; intro _) | (apply Rd.sE r; intro _) | apply Rd.rE r | apply Rd.bE r | apply Rd.nE r | cases r); exact len_str hs (Po.same rfl (k.tok _) (.int _ _) h)
theorem bLenL {ds : List D} (hs : (ds.length : Int) < 2 ^ 63) (h : P n (.int ds.length)) : ML w A E Rd (fun vs => call (.builtin "len") vs) [.lst ds] n P := fun F Z s vs k r => by
  apply Rds.cE r; intro _ _ r q
  (first | apply Rds.nE q | (apply Rd.iE q; intro _) | (apply Rd.sE q; intro _) | apply Rd.rE q | apply Rd.bE q | apply Rd.nE q | cases q)
  apply Rd.lE r; intro _ _ f r
  exact len_list (f.list k) (by simp only [List.size_toArray, r.len]; exact hs) (Po.same rfl (k.tok _) (by simp only [List.size_toArray, r.len]; exact .int _ _) h)
theorem bLenO {a : Addr} {ds : List D} (hm : (a, It.lst ds) ∈ n) (hs : (ds.length : Int) < 2 ^ 63) (h : P n (.int ds.length)) : ML w A E Rd (fun vs => call (.builtin "len") vs) [.raw (.ref a)] n P := fun F Z s vs k r => by
  apply Rds.cE r; intro _ _ r q
  (first | apply Rds.nE q | (apply Rd.iE q; intro _) | (apply Rd.sE q; intro _) | apply Rd.rE q | apply Rd.bE q | apply Rd.nE q | cases q)
  (first | apply Rds.nE r | (apply Rd.iE r; intro _) | (apply Rd.sE r; intro _) | apply Rd.rE r | apply Rd.bE r | apply Rd.nE r | cases r)
  obtain ⟨⟨xs, hl, r⟩, _⟩ := k.nw _ hm
  exact len_list hl.isList (by simp only [List.size_toArray, r.len]; exact hs) (Po.same rfl (k.tok _) (by simp only [List.size_toArray, r.len]; exact .int _ _) h)
theorem freshRng {F : Bs} {Z : ZM} {s : Shared} {hd : Option Value} {a b c : Int} {t u v : Tok} {tk : Nat} (k : St w hd F Z n s) :
    ∃ Z', Le Z Z' ∧ St w hd F Z' n { s with heap := s.heap.push { cls := .type "range", data := .fields #[.int a t, .int b u, .int c v] }, toks := tk } ∧ Rd Z' (.ref s.heap.objs.size) (.rng a b c) := by
  have := k.pushZ (a := s.heap.objs.size) (o := { cls := .type "range", data := .fields #[.int a t, .int b u, .int c v] }) (s' := { s with heap := s.heap.push { cls := .type "range", data := .fields #[.int a t, .int b u, .int c v] }, toks := tk }) top_none
    (fun b o e => Heap.get?_push_of_some _ e) (GE.refl _) rfl (Heap.get?_push_size _ rfl)
  exact ⟨_, this.1, this.2, .rng ins_self⟩
theorem bRng1 {b : Int} (h : P n (.rng 0 b 1)) : ML w A E Rd (fun vs => call (.type "range") vs) [.int b] n P := fun F Z s vs k r => by
  apply Rds.cE r; intro _ _ r q; (first | apply Rds.nE q | (apply Rd.iE q; intro _) | (apply Rd.sE q; intro _) | apply Rd.rE q | apply Rd.bE q | apply Rd.nE q | cases q); (first | apply Rds.nE r | (apply Rd.iE r; intro _) | (apply Rd.sE r; intro _) | apply Rd.rE r | apply Rd.bE r | apply Rd.nE r | cases r); obtain ⟨Z', le, k', rv⟩ := freshRng k; exact call_range_1 (Po.at le (GE.refl _) k' rv h)
theorem bRng2 {a b : Int} (h : P n (.rng a b 1)) : ML w A E Rd (fun vs => call (.type "range") vs) [.int a, .int b] n P := fun F Z s vs k r => by
  apply Rds.cE r; intro _ _ r q; apply Rds.cE q; intro _ _ q x; (first | apply Rds.nE x | (apply Rd.iE x; intro _) | (apply Rd.sE x; intro _) | apply Rd.rE x | apply Rd.bE x | apply Rd.nE x | cases x); (first | apply Rds.nE r | (apply Rd.iE r; intro _) | (apply Rd.sE r; intro _) | apply Rd.rE r | apply Rd.bE r | apply Rd.nE r | cases r); (first | apply Rds.nE q | (apply Rd.iE q; intro _) | (apply Rd.sE q; intro _) | apply Rd.rE q | apply Rd.bE q | apply Rd.nE q | cases q); obtain ⟨Z', le, k', rv⟩ := freshRng k; exact call_range_2 (Po.at le (GE.refl _) k' rv h)
theorem bRng3 {a b c : Int} (hc : c ≠ 0) (hp : Builtin.divisionGoesByPylong (b - a) c = false) (h : P n (.rng a b c)) : ML w A E Rd (fun vs => call (.type "range") vs) [.int a, .int b, .int c] n P := fun F Z s vs k r => by
  apply Rds.cE r; intro _ _ r q; apply Rds.cE q; intro _ _ q x; apply Rds.cE x; intro _ _ x y; (first | apply Rds.nE y | (apply Rd.iE y; intro _) | (apply Rd.sE y; intro _) | apply Rd.rE y | apply Rd.bE y | apply Rd.nE y | cases y); (first | apply Rds.nE r | (apply Rd.iE r; intro _) | (apply Rd.sE r; intro _) | apply Rd.rE r | apply Rd.bE r | apply Rd.nE r | cases r); (first | apply Rds.nE q | (apply Rd.iE q; intro _) | (apply Rd.sE q; intro _) | apply Rd.rE q | apply Rd.bE q | apply Rd.nE q | cases q); (first | apply Rds.nE x | (apply Rd.iE x; intro _) | (apply Rd.sE x; intro _) | apply Rd.rE x | apply Rd.bE x | apply Rd.nE x | cases x); obtain ⟨Z', le, k', rv⟩ := freshRng k; exact call_range_3 hc (Po.at le (GE.refl _) k' rv h) (.inl hp)
theorem bChr {i : Int} (h0 : 0 ≤ i) (h1 : i ≤ 1114111) (h : P n (.str ⟨#[i.toNat]⟩)) : ML w A E Rd (fun vs => call (.builtin "chr") vs) [.int i] n P := fun F Z s vs k r => by
  apply Rds.cE r; intro _ _ r q; (first | apply Rds.nE q | (apply Rd.iE q; intro _) | (apply Rd.sE q; intro _) | apply Rd.rE q | apply Rd.bE q | apply Rd.nE q | cases q); (first | apply Rds.nE r | (apply Rd.iE r; intro _) | (apply Rd.sE r; intro _) | apply Rd.rE r | apply Rd.bE r | apply Rd.nE r | cases r); exact chr_of_range h0 h1 (Po.same rfl (k.tok _) (.str _ _) h)
theorem bOrd {x : Str} (h1 : x.length = 1) (h : P n (.int (x.cps.getD 0 0))) : ML w A E Rd (fun vs => call (.builtin "ord") vs) [.str x] n P := fun F Z s vs k r => by
  apply Rds.cE r; intro _ _ r q; (first | apply Rds.nE q | (apply Rd.iE q; intro _) | (apply Rd.sE q; intro _) | apply Rd.rE q | apply Rd.bE q | apply Rd.nE q | cases q); (first | apply Rds.nE r | (apply Rd.iE r; intro _) | (apply Rd.sE r; intro _) | apply Rd.rE r | apply Rd.bE r | apply Rd.nE r | cases r); exact ord_of_one h1 (Po.int k h)
theorem bAbs {i : Int} (h : P n (.int (if i < 0 then -i else i))) : ML w A E Rd (fun vs => call (.builtin "abs") vs) [.int i] n P := fun F Z s vs k r => by
  apply Rds.cE r; intro _ _ r q; (first | apply Rds.nE q | (apply Rd.iE q; intro _) | (apply Rd.sE q; intro _) | apply Rd.rE q | apply Rd.bE q | apply Rd.nE q | cases q); (first | apply Rds.nE r | (apply Rd.iE r; intro _) | (apply Rd.sE r; intro _) | apply Rd.rE r | apply Rd.bE r | apply Rd.nE r | cases r); exact call_abs_int (fun _ _ => Po.same rfl (k.tok _) (.int _ _) h)
theorem bHex {i : Int} (hs : (baseText "0x" 16 i).length ≤ sizeLine) (h : P n (.str (baseText "0x" 16 i))) : ML w A E Rd (fun vs => call (.builtin "hex") vs) [.int i] n P := fun F Z s vs k r => by
  apply Rds.cE r; intro _ _ r q; (first | apply Rds.nE q | (apply Rd.iE q; intro _) | (apply Rd.sE q; intro _) | apply Rd.rE q | apply Rd.bE q | apply Rd.nE q | cases q); (first | apply Rds.nE r | (apply Rd.iE r; intro _) | (apply Rd.sE r; intro _) | apply Rd.rE r | apply Rd.bE r | apply Rd.nE r | cases r); exact PySem.P.hex_of_int (Po.same rfl (k.tok _) (.str _ _) h) hs
theorem bMax {a b : Int} (hh : A.handled = none) (h : P n (.int (if b > a then b else a))) : ML w A E Rd (fun vs => call (.builtin "max") vs) [.int a, .int b] n P := fun F Z s vs k r => by
  apply Rds.cE r; intro _ _ r q
  apply Rds.cE q; intro _ _ q x
  (first | apply Rds.nE x | (apply Rd.iE x; intro _) | (apply Rd.sE x; intro _) | apply Rd.rE x | apply Rd.bE x | apply Rd.nE x | cases x); (first | apply Rds.nE r | (apply Rd.iE r; intro _) | (apply Rd.sE r; intro _) | apply Rd.rE r | apply Rd.bE r | apply Rd.nE r | cases r); (first | apply Rds.nE q | (apply Rd.iE q; intro _) | (apply Rd.sE q; intro _) | apply Rd.rE q | apply Rd.bE q | apply Rd.nE q | cases q)
  refine max_two_ints hh fun h' tk keep => Po.same rfl (k.keep (s' := { s with heap := h', toks := tk }) keep (GE.refl _) rfl) (d := .int (if b > a then b else a)) ?_ h
  split <;> exact .int _ _
section
variable {fp pos : Pos} {e : Expr} {rest : List Expr}
/-- a name of the built-in ones, seen from a def -/
noncomputable def GlB (env : Env) (x : Str) : Prop := env.globals = mainGlobals ∧ env.builtins = builtinsNs ∧ env.scope.kind = .function ∧ env.kindOf x = some .globalImplicit
noncomputable def GlC (env : Env) (x : Str) (fp pos : Pos) (e : Expr) (rest : List Expr) : Prop := GlB env x ∧ eval (.Call (.Name x fp) (e :: rest) [] pos) env = (do callWith pos (← eval (.Name x fp) env) [] (backTo pos (starEach (e :: rest) env)) (backToKw pos (keywordEach [] env))) ∧ plainE e = true ∧ (backTo pos (starEach rest env)).any (·.1) = false
theorem caBn {x : Str} {id : String} (bm : ∀ P, (H1 P).nsMap mainGlobals x = none) (bt : ∀ P, (H1 P).nsMap builtinsNs x = some (.builtin id)) (hd : (x == ("__debug__" : Str)) = false) (hg : GlC env x fp pos e rest)
    (h : Hl w A E (spliced (backTo pos (starEach (e :: rest) env))) n (uCl w A E (.builtin id) P)) : Hv w A E (eval (.Call (.Name x fp) (e :: rest) [] pos) env) n P :=
  caB hg.2.1 (seC hg.2.2.1) hg.2.2.2 (nmB hg.1.1 hg.1.2.1 hg.1.2.2.1 hg.1.2.2.2 hd (bm _) (bt _) ⟨_, rfl, h⟩)
theorem caTn {x : Str} {T : String} (bm : ∀ P, (H1 P).nsMap mainGlobals x = none) (bt : ∀ P, (H1 P).nsMap builtinsNs x = some (.type T)) (hd : (x == ("__debug__" : Str)) = false) (hg : GlC env x fp pos e rest)
    (h : Hl w A E (spliced (backTo pos (starEach (e :: rest) env))) n (uCl w A E (.type T) P)) : Hv w A E (eval (.Call (.Name x fp) (e :: rest) [] pos) env) n P :=
  caT hg.2.1 (seC hg.2.2.1) hg.2.2.2 (nmB hg.1.1 hg.1.2.1 hg.1.2.2.1 hg.1.2.2.2 hd (bm _) (bt _) ⟨_, rfl, h⟩)
theorem ca_len : type_of% (@caBn w A E env n P fp pos e rest (Str.ofString "len") "len" bm_len bt_len rfl) := caBn bm_len bt_len rfl
theorem ca_sum : type_of% (@caBn w A E env n P fp pos e rest (Str.ofString "sum") "sum" bm_sum bt_sum rfl) := caBn bm_sum bt_sum rfl
theorem ca_ord : type_of% (@caBn w A E env n P fp pos e rest (Str.ofString "ord") "ord" bm_ord bt_ord rfl) := caBn bm_ord bt_ord rfl
theorem ca_chr : type_of% (@caBn w A E env n P fp pos e rest (Str.ofString "chr") "chr" bm_chr bt_chr rfl) := caBn bm_chr bt_chr rfl
theorem ca_max : type_of% (@caBn w A E env n P fp pos e rest (Str.ofString "max") "max" bm_max bt_max rfl) := caBn bm_max bt_max rfl
theorem ca_abs : type_of% (@caBn w A E env n P fp pos e rest (Str.ofString "abs") "abs" bm_abs bt_abs rfl) := caBn bm_abs bt_abs rfl
theorem ca_hex : type_of% (@caBn w A E env n P fp pos e rest (Str.ofString "hex") "hex" bm_hex bt_hex rfl) := caBn bm_hex bt_hex rfl
theorem ca_iter : type_of% (@caBn w A E env n P fp pos e rest (Str.ofString "iter") "iter" bm_iter bt_iter rfl) := caBn bm_iter bt_iter rfl
theorem ca_next : type_of% (@caBn w A E env n P fp pos e rest (Str.ofString "next") "next" bm_next bt_next rfl) := caBn bm_next bt_next rfl
theorem ca_range : type_of% (@caTn w A E env n P fp pos e rest (Str.ofString "range") "range" bm_range bt_range rfl) := caTn bm_range bt_range rfl
theorem ca_list : type_of% (@caTn w A E env n P fp pos e rest (Str.ofString "list") "list" bm_list bt_list rfl) := caTn bm_list bt_list rfl
end
end
end Mine
end
section -- Km
open PySem PySem.W PyProof.Rows PySem.Calls
namespace Mine
/-- a value of the type T, without a dict of its own -/
noncomputable def TyD (w : World) (hd : Option Value) (T : String) (d : D) (n : Led) : Prop := ∀ F Z s v, St w hd F Z n s → Rd Z v d → s.TypeIs v T ∧ ∀ a, v = .ref a → ∃ ob, s.heap.get? a = some ob ∧ ob.dict = none
section
variable {w : World} {A : Around} {E : Value → Shared → Prop} {env : Env} {n : Led} {P : Led → D → Prop}
end
section
variable (w : World) (A : Around) (E : Value → Shared → Prop) (env : Env)
noncomputable abbrev uMe (T id : String) (as : List Expr) (pos : Pos) (P : Led → D → Prop) : Led → D → Prop := fun n d => TyD w A.handled T d n ∧ Hl w A E (spliced (backTo pos (starEach as env))) n (uCo (uCl w A E (.builtin id) P) d)
noncomputable abbrev uM0 (T id : String) (P : Led → D → Prop) : Led → D → Prop := fun n d => TyD w A.handled T d n ∧ ML w A E Rd (fun vs => call (.builtin id) vs) [d] n P
end
section
variable {w : World} {A : Around} {E : Value → Shared → Prop} {env : Env} {n : Led} {P : Led → D → Prop}
theorem tyS {hd : Option Value} {x : Str} : TyD w hd "str" (.str x) n := fun F Z s v k r => by (first | apply Rds.nE r | (apply Rd.iE r; intro _) | (apply Rd.sE r; intro _) | apply Rd.rE r | apply Rd.bE r | apply Rd.nE r | cases r); exact ⟨typeIs_str _ _ _, fun _ e => nomatch e⟩
theorem tyOw {hd : Option Value} {a : Addr} {l : List D} (hm : (a, It.lst l) ∈ n) : TyD w hd "list" (.raw (.ref a)) n := fun F Z s v k r => by
  (first | apply Rds.nE r | (apply Rd.iE r; intro _) | (apply Rd.sE r; intro _) | apply Rd.rE r | apply Rd.bE r | apply Rd.nE r | cases r)
  obtain ⟨⟨xs, ⟨m, hl⟩, _⟩, _⟩ := k.nw _ hm
  exact ⟨⟨_, hl, rfl⟩, fun b e => by (first | apply Rds.nE e | (apply Rd.iE e; intro _) | (apply Rd.sE e; intro _) | apply Rd.rE e | apply Rd.bE e | apply Rd.nE e | cases e); exact ⟨_, hl, rfl⟩⟩
theorem tySA {hd : Option Value} {x : Str} {B : Prop} (h : B) : TyD w hd "str" (.str x) n ∧ B := ⟨tyS, h⟩
theorem tyOA {hd : Option Value} {a : Addr} {l : List D} {B : Prop} (hm : (a, It.lst l) ∈ n) (h : B) : TyD w hd "list" (.raw (.ref a)) n ∧ B := ⟨tyOw hm, h⟩
theorem tyDi {hd : Option Value} {a : Addr} {o : Obj} (ho : (H1 w.params).get? a = some o) (hc : o.cls = .type "dict") (hdd : o.dict = none) : TyD w hd "dict" (.raw (.ref a)) n := fun F Z s v k r => by
  (first | apply Rds.nE r | (apply Rd.iE r; intro _) | (apply Rd.sE r; intro _) | apply Rd.rE r | apply Rd.bE r | apply Rd.nE r | cases r)
  exact ⟨⟨_, k.topH _ _ ho, hc⟩, fun b e => by (first | apply Rds.nE e | (apply Rd.iE e; intro _) | (apply Rd.sE e; intro _) | apply Rd.rE e | apply Rd.bE e | apply Rd.nE e | cases e); exact ⟨_, k.topH _ _ ho, hdd⟩⟩
theorem me1 {T id : String} {name : Str} {o e : Expr} {rest : List Expr} {apos pos : Pos} (pa : PlainAttrs T) (sl : Slot T name id) (ty : typeOf (.builtin id) = pure (.type "method_descriptor"))
    (hbase : attributeBase o name env (eval o env) = eval o env)
    (hfew : ((backTo pos (starEach (e :: rest) env)).all (fun x => !x.1) && (backToKw pos (keywordEach [] env)).all (fun x => x.1.isSome) && decide ((e :: rest).length + ([] : List Keyword).length + (if ([] : List Keyword).isEmpty then 0 else 1) < 30)) = true)
    (hline : (apos.endLine == pos.line) = true) (he : starEach (e :: rest) env = (false, eval e env) :: starEach rest env) (hp : (backTo pos (starEach rest env)).any (·.1) = false)
    (h : Hv w A E (eval o env) n (uMe w A E env T id (e :: rest) pos P)) :
    Hv w A E (eval (.Call (.Attribute o name apos) (e :: rest) [] pos) env) n P := fun F Z s k => by
  refine wpAny_Call_method_lateS hbase hfew hline (Po.map (h F Z s k) fun v d n₁ Z₁ s₁ le₁ ge₁ k₁ r₁ h₁ => ?_)
  obtain ⟨hT, hd⟩ := h₁.1 _ _ _ _ k₁ r₁
  refine ⟨T, id, pa, sl, ty, hT, hd, ?_⟩
  have h₁ := h₁.2
  rw [he] at h₁ ⊢
  refine callWith_builtin (by simpa [backTo] using hp) (evalArgs_plain (Po.map (h₁ _ _ _ k₁) fun vs ds n₂ Z₂ s₂ le₂ ge₂ k₂ r₂ h₂ => ?_))
  exact wpAny_mono (h₂ _ _ _ (v :: vs) k₂ (.cons (r₁.up le₂) r₂)) (fun _ _ q => q.lift (le₁.trans le₂) (ge₁.trans ge₂)) fun _ _ e => e
theorem me0 {T id : String} {name : Str} {o : Expr} {apos pos : Pos} (pa : PlainAttrs T) (sl : Slot T name id) (ty : typeOf (.builtin id) = pure (.type "method_descriptor"))
    (hbase : attributeBase o name env (eval o env) = eval o env) (hline : (apos.endLine == pos.line) = true)
    (h : Hv w A E (eval o env) n (uM0 w A E T id P)) :
    Hv w A E (eval (.Call (.Attribute o name apos) [] [] pos) env) n P := fun F Z s k => by
  refine wpAny_Call_method_lateS hbase rfl hline (Po.map (h F Z s k) fun v d n₁ Z₁ s₁ le₁ ge₁ k₁ r₁ h₁ => ?_)
  obtain ⟨hT, hd⟩ := h₁.1 _ _ _ _ k₁ r₁
  refine ⟨T, id, pa, sl, ty, hT, hd, ?_⟩
  refine callWith_builtin rfl (PySem.evalArgs_none ?_)
  exact wpAny_mono (h₁.2 _ _ _ [v] k₁ (.one r₁)) (fun _ _ q => q.lift le₁ ge₁) fun _ _ e => e
theorem mAppend {a : Addr} {acc : List D} {l r : Led} {y : D} (hn : n = l ++ (a, .lst acc) :: r) (hs : acc.length ≤ sizeLine) (h : P (l ++ (a, .lst (acc ++ [y])) :: r) .none) : ML w A E Rd (fun vs => call (.builtin "list.append") vs) [.raw (.ref a), y] n P := fun F Z s vs k q => by
  cases q with
  | cons q p =>
    cases p with
    | cons p x =>
      cases x; cases q
      rename_i v
      obtain ⟨⟨xs, hl, r'⟩, _⟩ := k.nw (a, .lst acc) (by rw [hn]; simp)
      exact wpAny_list_append_plain hl (fun h' hl' hs' => Po.same rfl (k.turn (j := .lst (acc ++ [y])) (s' := { s with heap := h' }) hn ⟨xs ++ [v], by simpa using hl', r'.append (.one p)⟩ (fun b o hb e => hs'.extBut b o hb e) (GE.refl _) rfl) .none h) (by simp only [List.size_toArray, r'.len]; exact hs)
theorem mPop {a : Addr} {acc : List D} {l r : Led} {y : D} (hn : n = l ++ (a, .lst (acc ++ [y])) :: r) (hs : acc.length + 1 ≤ sizeLine) (h : P (l ++ (a, .lst acc) :: r) y) : ML w A E Rd (fun vs => call (.builtin "list.pop") vs) [.raw (.ref a)] n P := fun F Z s vs k q => by
  apply Rds.cE q; intro _ _ q p
  (first | apply Rds.nE p | (apply Rd.iE p; intro _) | (apply Rd.sE p; intro _) | apply Rd.rE p | apply Rd.bE p | apply Rd.nE p | cases p); (first | apply Rds.nE q | (apply Rd.iE q; intro _) | (apply Rd.sE q; intro _) | apply Rd.rE q | apply Rd.bE q | apply Rd.nE q | cases q)
  obtain ⟨⟨xs, ⟨m, hl⟩, r'⟩, _⟩ := k.nw (a, .lst (acc ++ [y])) (by rw [hn]; simp)
  have hlen := r'.len
  rw [List.length_append, List.length_singleton] at hlen
  obtain ⟨v, hv, rv⟩ := r'.get (i := acc.length) (d := y) (by simp)
  have hlast : xs.toArray[xs.toArray.size - 1]? = some v := by
    rw [List.size_toArray, hlen, Nat.add_sub_cancel]; simpa using hv
  refine call_meets PySem.F.slot_list_pop ⟨_, hl, rfl⟩ PySem.F.entry_list_pop (PySem.F.args_list_pop_1 _) (PySem.MeetsSeq.list_pop_last a xs.toArray m v hlast (by simp only [List.size_toArray, hlen]; exact hs)) ⟨hl, ?_⟩
  have hget := Heap.get?_update_self (Obj.mapSeq fun ys => ys.eraseIdxIfInBounds (xs.toArray.size - 1)) hl rfl
  refine Po.same rfl (k.turn (j := .lst acc) (s' := { s with heap := s.heap.update a (Obj.mapSeq fun ys => ys.eraseIdxIfInBounds (xs.toArray.size - 1)) }) hn ⟨xs.take acc.length, ⟨(if (xs.toArray.eraseIdxIfInBounds (xs.toArray.size - 1)).size == xs.toArray.size then m else m + 1), ?_⟩, ?_⟩ (fun b o hb e => (Heap.SameBut.update ..).extBut b o hb e) (GE.refl _) rfl) rv h
  · rw [hget]
    have e : xs.toArray.eraseIdxIfInBounds (xs.toArray.size - 1) = (xs.take acc.length).toArray := by
      rw [List.size_toArray, hlen, Nat.add_sub_cancel]
      apply Array.ext'
      rw [Array.eraseIdxIfInBounds, dif_pos (by simp [hlen])]
      rw [Array.toList_eraseIdx]
      simp only []
      rw [List.eraseIdx_eq_take_drop_succ, List.drop_of_length_le (by grind), List.append_nil]
    unfold Obj.mapSeq
    simp only [e]
  · have := r'.take acc.length
    rwa [List.take_left'  rfl] at this
theorem strVals {Z : ZM} : ∀ {xs : List Value} {ts : List Str}, Rds Z xs (ts.map D.str) → ∃ l : List (Str × Tok), xs = strValues l ∧ l.map (·.1) = ts
  | [], [], _ => ⟨[], rfl, rfl⟩
  | _ :: _, t :: ts, .cons x r => by
    cases x with
    | str _ tk =>
      obtain ⟨l, rfl, rfl⟩ := strVals r
      exact ⟨(t, tk) :: l, rfl, rfl⟩
theorem mJoin {sep : Str} {ts : List Str} (hok : JoinOk sep ts = true) (h : P n (.str (Txt.join sep ts))) : ML w A E Rd (fun vs => call (.builtin "str.join") vs) [.str sep, .lst (ts.map D.str)] n P := fun F Z s vs k q => by
  apply Rds.cE q; intro _ _ q p
  apply Rds.cE p; intro _ _ p x
  (first | apply Rds.nE x | (apply Rd.iE x; intro _) | (apply Rd.sE x; intro _) | apply Rd.rE x | apply Rd.bE x | apply Rd.nE x | cases x); (first | apply Rds.nE q | (apply Rd.iE q; intro _) | (apply Rd.sE q; intro _) | apply Rd.rE q | apply Rd.bE q | apply Rd.nE q | cases q)
  apply Rd.lE p; intro _ _ f r
  obtain ⟨l, rfl, hl⟩ := strVals r
  exact SC.join (f.list k) hl hok fun _ _ => Po.same rfl (k.tok _) (.str _ _) h
theorem mLower {x : Str} (hf : Builtin.Str.tooLong (Txt.lower x).length = false) (h : P n (.str (Txt.lower x))) : ML w A E Rd (fun vs => call (.builtin "str.lower") vs) [.str x] n P := fun F Z s vs k q => by
  apply Rds.cE q; intro _ _ q p; (first | apply Rds.nE p | (apply Rd.iE p; intro _) | (apply Rd.sE p; intro _) | apply Rd.rE p | apply Rd.bE p | apply Rd.nE p | cases p); (first | apply Rds.nE q | (apply Rd.iE q; intro _) | (apply Rd.sE q; intro _) | apply Rd.rE q | apply Rd.bE q | apply Rd.nE q | cases q); exact SC.lower hf (Po.same rfl (k.tok _) (.str _ _) h)
theorem intVals {Z : ZM} : ∀ {xs : List Value} {ts : List Int}, Rds Z xs (ts.map D.int) → ∃ l : List (Int × Tok), xs = l.map (fun p => .int p.1 p.2) ∧ l.map (·.1) = ts
  | [], [], _ => ⟨[], rfl, rfl⟩
  | _ :: _, t :: ts, .cons x r => by
    cases x with
    | int _ tk =>
      obtain ⟨l, rfl, rfl⟩ := intVals r
      exact ⟨(t, tk) :: l, rfl, rfl⟩
theorem bSum {is : List Int} (hh : A.handled = none) (h : P n (.int is.sum)) : ML w A E Rd (fun vs => call (.builtin "sum") vs) [.lst (is.map D.int)] n P := fun F Z s vs k q => by
  apply Rds.cE q; intro _ _ q p
  (first | apply Rds.nE p | (apply Rd.iE p; intro _) | (apply Rd.sE p; intro _) | apply Rd.rE p | apply Rd.bE p | apply Rd.nE p | cases p)
  apply Rd.lE q; intro l xs f r
  obtain ⟨ps, rfl, rfl⟩ := intVals r
  have hl := f.list k
  have e : (ps.map fun p => Value.int p.1 p.2).toArray = intItems ps.toArray := by simp [intItems]
  rw [e] at hl
  refine sum_intListG hh hl fun h' tk t' keep => ?_
  rw [preSum_eq, List.take_of_length_le (by simp)]
  exact Po.same rfl (k.keep (s' := { s with heap := h', toks := tk }) keep (GE.refl _) rfl) (Rd.int _ _) h
theorem bListL {ds : List D} (hs : ds.length ≤ sizeLine) (h : P n (.lst ds)) : ML w A E Rd (fun vs => call (.type "list") vs) [.lst ds] n P := fun F Z s vs k q => by
  apply Rds.cE q; intro _ _ q p
  (first | apply Rds.nE p | (apply Rd.iE p; intro _) | (apply Rd.sE p; intro _) | apply Rd.rE p | apply Rd.bE p | apply Rd.nE p | cases p)
  apply Rd.lE q; intro l xs f r
  obtain ⟨m, e⟩ := f
  refine call_list_seq l (.inl rfl) (k.fz _ _ e) rfl rfl (fun h' c' keep hD => ?_) (by simp only [List.size_toArray, r.len]; exact hs)
  obtain ⟨le, k'⟩ := k.pushZ (s' := { s with heap := h' }) top_none keep (GE.refl _) rfl hD
  exact Po.at le (GE.refl _) k' (.lst ⟨_, ins_self⟩ (r.up le)) h
theorem bListR {a b c : Int} {m : Nat} (hh : A.handled = none) (hsm : Builtin.Range.small a b c = true) (hm : Builtin.Range.rangeSize a b c = m) (hz : m ≤ 2 ^ 24) (h : P n (.lst ((List.range m).map fun (j : Nat) => D.int (a + j * c)))) :
    ML w A E Rd (fun vs => call (.type "list") vs) [.rng a b c] n P := fun F Z s vs k q => by
  apply Rds.cE q; intro _ _ q p
  (first | apply Rds.nE p | (apply Rd.iE p; intro _) | (apply Rd.sE p; intro _) | apply Rd.rE p | apply Rd.bE p | apply Rd.nE p | cases p)
  cases q with
  | rng e =>
    refine call_list_range hh (k.fz _ _ e) hsm hm hz fun h' tk acc' c' keep hD hi => ?_
    obtain ⟨le, k'⟩ := k.pushZ (s' := { s with heap := h', toks := tk }) top_none keep (GE.refl _) rfl hD
    refine Po.at le (GE.refl _) k' (.lst (xs := acc'.toList) ⟨c', by simpa using ins_self⟩ ?_) h
    have key : ∀ (xs : List Value) (f : Nat → Int) (m : Nat), xs.length = m → (∀ (j : Nat) (v : Value), xs[j]? = some v → ∃ t, v = Value.int (f j) t) → Rds (ins Z s.heap.objs.size { cls := .type "list", dict := none, data := .seq acc' c', slots := #[] }) xs ((List.range m).map fun j => D.int (f j)) := by
      intro xs
      induction xs with
      | nil => intro f m hm _; subst hm; exact .nil
      | cons x xs ih =>
        intro f m hm hx
        subst hm
        obtain ⟨t, rfl⟩ := hx 0 x rfl
        rw [List.length_cons, List.range_succ_eq_map, List.map_cons, List.map_map]
        exact .cons (.int _ _) (ih (fun j => f (j + 1)) _ rfl fun j v hj => hx (j + 1) v hj)
    exact key _ (fun (j : Nat) => a + j * c) m (by simpa using hi.1) fun j v hj => hi.2 j v (by simpa using hj)
section
variable {apos pos : Pos} {o e : Expr} {rest : List Expr}
theorem me_append : type_of% (@me1 w A E env n P _ _ (Str.ofString "append") o e rest apos pos PySem.F.plainAttrs_list PySem.F.slot_list_append PySem.F.type_list_append) := me1 PySem.F.plainAttrs_list PySem.F.slot_list_append PySem.F.type_list_append
theorem me_pop : type_of% (@me0 w A E env n P _ _ (Str.ofString "pop") o apos pos PySem.F.plainAttrs_list PySem.F.slot_list_pop PySem.F.type_list_pop) := me0 PySem.F.plainAttrs_list PySem.F.slot_list_pop PySem.F.type_list_pop
theorem me_join : type_of% (@me1 w A E env n P _ _ (Str.ofString "join") o e rest apos pos PySem.F.plainAttrs_str PySem.F.slot_str_join PySem.F.type_str_join) := me1 PySem.F.plainAttrs_str PySem.F.slot_str_join PySem.F.type_str_join
theorem me_lower : type_of% (@me0 w A E env n P _ _ (Str.ofString "lower") o apos pos PySem.F.plainAttrs_str PySem.F.slot_str_lower PySem.F.type_str_lower) := me0 PySem.F.plainAttrs_str PySem.F.slot_str_lower PySem.F.type_str_lower
theorem me_get : type_of% (@me1 w A E env n P _ _ (Str.ofString "get") o e rest apos pos PySem.F.plainAttrs_dict PySem.F.slot_dict_get PySem.F.type_dict_get) := me1 PySem.F.plainAttrs_dict PySem.F.slot_dict_get PySem.F.type_dict_get
end
end
end Mine
end
section -- Kn
open PySem PySem.W PyProof.Rows PySem.Calls
namespace Mine
theorem szl {k : Nat} (h : k ≤ 1000) : k ≤ sizeLine := by rw [sizeLine_eq]; exact Nat.le_trans (by assumption) (by decide)
theorem lookup_rev {α : Type} : ∀ {l : List (Str × α)}, (l.map (·.1)).Nodup → ∀ x, l.reverse.lookup x = l.lookup x
  | [], _, _ => rfl
  | (y, v) :: r, h, x => by
    rw [List.map_cons, List.nodup_cons] at h
    rw [List.reverse_cons, List.lookup_append, lookup_rev h.2, List.lookup_cons, List.lookup_cons, List.lookup_nil]
    cases hx : x == y with
    | true =>
      have hx' := beq_iff_eq.mp hx
      subst hx'
      have : r.lookup x = none := by
        cases q : r.lookup x with
        | none => rfl
        | some u => exact absurd (List.mem_map.mpr ⟨(x, u), PySem.mem_of_lookup q, rfl⟩) h.1
      rw [this]; rfl
    | false => cases r.lookup x <;> rfl
theorem zip_reads {Z : ZM} {names : List Str} {vs : List Value} {ds : List D} (r : Rds Z vs ds) (x : Str) (d : D) (h : (names.zip ds).lookup x = some d) : ∃ v, (names.zip vs).lookup x = some v ∧ Rd Z v d :=
  r.ind (p := fun vs ds => ∀ names : List Str, (names.zip ds).lookup x = some d → ∃ v, (names.zip vs).lookup x = some v ∧ Rd Z v d) (fun names h => by rw [List.zip_nil_right] at h; exact nomatch h) (fun rv _ q names h => by
    cases names with
    | nil => exact nomatch h
    | cons y names =>
      rw [List.zip_cons_cons, List.lookup_cons] at h ⊢
      cases hx : x == y with
      | true => rw [hx] at h; cases h; exact ⟨_, rfl, rv⟩
      | false => rw [hx] at h; exact q names h) names h
@[elab_as_elim] theorem len1 {α : Type} {l : List α} {p : List α → Prop} (h : l.length = 1) (hp : ∀ a, p [a]) : p l := by
  match l, h with | [a], _ => exact hp a
@[elab_as_elim] theorem len2 {α : Type} {l : List α} {p : List α → Prop} (h : l.length = 2) (hp : ∀ a b, p [a, b]) : p l := by
  match l, h with | [a, b], _ => exact hp a b
@[elab_as_elim] theorem len3 {α : Type} {l : List α} {p : List α → Prop} (h : l.length = 3) (hp : ∀ a b c, p [a, b, c]) : p l := by
  match l, h with | [a, b, c], _ => exact hp a b c
theorem enter {w : World} {H : Option Value → Prop} {i fa c k : Nat} {o : Obj} {pm : Value} {names : List Str} {ds : List D} {P : D → Prop}
    (ho : (H1 w.params).get? fa = some o) (hd : o.data = .func (mkF i 3 .none .none .none pm none (.ref c) .none 0)) (hc : (H1 w.params).CodeRec (.ref c) (fnName (stAt i)))
    (hbind : ∀ vals : List Value, vals.length = names.length → bindArgs (docDef (fnName (stAt i)) (fnArgs (stAt i)) (fnBody (stAt i)) (fnScope (stAt i)) pm (.ref c) .none) ⟨vals, []⟩ = pure (names.zip vals))
    (hlen : ds.length = names.length) (hnd : names.Nodup) (hloc : ∀ x ∈ names, (fnScope (stAt i)).names.lookup x = some .local)
    (hco : (fnScope (stAt i)).isCoroutine = false) (hgen : (fnScope (stAt i)).isGenerator = false) (hk : (fnScope (stAt i)).kind = .function) (hcell : ∀ x ∈ (fnScope (stAt i)).names, x.2 ≠ .cell)
    (h : ∀ A L, Rm k A → H A.handled → Hs w A NoE (execs (fnBody (stAt i)) (envOf (fnName (stAt i)) (fnScope (stAt i)) L fa (.ref c))) [(L, .fr (names.zip ds))] (fun _ f => P (match f with | .ret d => d | _ => .none))) :
    Cn w H (k + 1) fa ds P := fun A E Z s vs hA hH t hO fz r => by
  have top : ∀ a ob, (H1 w.params).get? a = some ob → s.heap.get? a = some ob := fun a ob e => fz _ _ (t a ob e)
  have hl : vs.length = names.length := r.len.trans hlen
  refine wpAny_call (call_plain_ret hA.room (top _ _ ho) hd ((noLim w.params).keeps top) (hc.keeps top) (hbind vs hl) (fun x hx => hloc _ (List.of_mem_zip hx).1) (fun h₁ F => ?_) hco hgen hk hcell)
  have k₁ := (start (hd := A.handled) t hO fz).cons (a := s.heap.objs.size) (i := .fr (names.zip ds)) (s' := { s with heap := h₁, toks := s.toks + (names.zip vs).length }) top_none F.keep (GE.refl _) rfl ⟨_, F.ns, fun x d e => by
    rw [lookup_rev (by rw [List.map_fst_zip (by grind)]; exact hnd)]
    exact zip_reads r x d e⟩
  refine wpAny_mono (h (A.deeper (envOf (fnName (stAt i)) (fnScope (stAt i)) s.heap.objs.size fa (.ref c))) _ (hA.deeper _) hH _ _ _ k₁) (fun f s' q => ?_) fun _ _ f => f
  obtain ⟨Z', n', d, le, ge, k', rf, hp⟩ := q
  cases rf with
  | ret rv => exact ⟨Z', _, k'.drop (List.nil_sublist _), rv, hp⟩
  | _ => exact ⟨Z', .none, k'.drop (List.nil_sublist _), .none, hp⟩
end Mine
end
section -- Ko
open PySem PySem.W PyProof.Rows PySem.Calls
namespace Mine
section
variable {w : World} {A : Around} {E : Value → Shared → Prop} {n : Led} {env : Env}
/-- a list of one's own that a name of the frame holds is frozen -/
theorem frz {α δ : Type} {R : ZM → α → δ → Prop} {m : Sem α} {P : Led → δ → Prop} {L a : Addr} {b : Binds} {l r : Led} {ds : List D} (x : Str) (hn : n = (L, .fr b) :: (l ++ (a, .lst ds) :: r)) (hx : b.lookup x = some (.raw (.ref a)))
    (h : Hm w A E R m ((L, .fr (put b x (.lst ds))) :: (l ++ r)) P) : Hm w A E R m n P := fun F Z s k => by
  subst hn
  obtain ⟨⟨xs, ⟨c, hl⟩, r'⟩, _⟩ := k.nw (a, .lst ds) (by simp)
  obtain ⟨le, k'⟩ := k.freeze (l := (L, .fr b) :: l) rfl hl
  have rd : Rd (ins Z a { cls := .type "list", data := .seq xs.toArray c }) (.ref a) (.lst ds) := .lst ⟨c, ins_self⟩ (r'.up le)
  obtain ⟨⟨mm, hnn, hb⟩, _⟩ := k'.nw _ (.head _)
  have k₂ := k'.turn (l := []) (j := .fr (put b x (.lst ds))) (s' := s) rfl ⟨mm, hnn, fun y d e => by
    rw [put_lookup] at e
    by_cases hy : y = x
    · rw [if_pos hy] at e; cases e
      subst hy
      obtain ⟨v, hv, rv⟩ := hb y _ hx
      cases rv
      exact ⟨_, hv, rd⟩
    · rw [if_neg hy] at e; exact hb y d e⟩ (fun _ _ _ e => e) (GE.refl _) rfl
  exact wpAny_mono (h _ _ _ k₂) (fun _ _ q => q.lift le (GE.refl _)) fun _ _ e => e
/-- names of the frame are forgotten -/
theorem St.forget {hd : Option Value} {F : Bs} {Z : ZM} {s : Shared} {L : Addr} {b b' : Binds} {r : Led} (k : St w hd F Z ((L, .fr b) :: r) s) (hb : ∀ p ∈ b', b.lookup p.1 = some p.2) : St w hd F Z ((L, .fr b') :: r) s := by
  obtain ⟨⟨m, hn, h⟩, _⟩ := k.nw _ (.head _)
  exact k.turn (l := []) (j := .fr b') (s' := s) rfl ⟨m, hn, fun x d e => h x d (hb _ (PySem.mem_of_lookup e))⟩ (fun _ _ _ e => e) (GE.refl _) rfl
theorem forget {α δ : Type} {R : ZM → α → δ → Prop} {m : Sem α} {P : Led → δ → Prop} {L : Addr} {b b' : Binds} {r : Led} (hb : ∀ p ∈ b', b.lookup p.1 = some p.2) (h : Hm w A E R m ((L, .fr b') :: r) P) : Hm w A E R m ((L, .fr b) :: r) P :=
  fun F Z s k => h F Z s (k.forget hb)
theorem ForP.weak {target : Expr} {body orelse : List Stmt} {P : Led → Fl → Prop} {n' : Led} (hw : ∀ hd F Z s, St w hd F Z n s → St w hd F Z n' s) : ∀ {l : List D}, ForP w A E target body orelse env P l n' → ForP w A E target body orelse env P l n
  | [], h => fun F Z s k => h F Z s (hw _ _ _ _ k)
  | _ :: _, h => fun F Z s v k r => h F Z s v (hw _ _ _ _ k) r
theorem ForP.forget {target : Expr} {body orelse : List Stmt} {P : Led → Fl → Prop} {L : Addr} {b b' : Binds} {r : Led} {l : List D} (hb : ∀ p ∈ b', b.lookup p.1 = some p.2)
    (h : ForP w A E target body orelse env P l ((L, .fr b') :: r)) : ForP w A E target body orelse env P l ((L, .fr b) :: r) := ForP.weak (fun _ _ _ _ k => k.forget hb) h
theorem HW.forget {t : Expr} {b₁ o : List Stmt} {P : Led → Fl → Prop} {L : Addr} {b b' : Binds} {r : Led} (hb : ∀ p ∈ b', b.lookup p.1 = some p.2)
    (h : HW w A E t b₁ o env ((L, .fr b') :: r) P) : HW w A E t b₁ o env ((L, .fr b) :: r) P := fun F Z s k => h F Z s (k.forget hb)
theorem CompP.weak {target elt : Expr} {ifs : List Expr} {P : Led → List D → Prop} {n' : Led} (hw : ∀ hd F Z s, St w hd F Z n s → St w hd F Z n' s) : ∀ {d : D} {l acc : List D}, CompP w A target elt ifs env P (d :: l) acc n' → CompP w A target elt ifs env P (d :: l) acc n
  | _, _, _, h => fun F Z s v k r => h F Z s v (hw _ _ _ _ k) r
end
end Mine
end
section -- Kp
open PySem PySem.W PyProof.Rows PySem.Calls
namespace Mine
section
variable {w : World} {A : Around} {E : Value → Shared → Prop} {env : Env}
/-- a for by induction: what holds ahead of each turn -/
theorem ForP.ind {target : Expr} {body orelse : List Stmt} {P : Led → Fl → Prop} (I : List D → Led → Prop) (h0 : ∀ n, I [] n → Hs w A (EL w A env E) (execs orelse env) n P)
    (h1 : ∀ d r n, I (d :: r) n → (∀ n', I r n' → ForP w A E target body orelse env P r n') → M1 w A (EL w A env E) RU (assign target env) d n (uF w A (EL w A env E) env body (kLoop (ForP w A E target body orelse env P r) P))) : ∀ {l n}, I l n → ForP w A E target body orelse env P l n
  | [], n, h => h0 n h
  | d :: r, n, h => h1 d r n h fun _ => ForP.ind I h0 h1
/-- a comprehension by induction -/
theorem CompP.ind {target elt : Expr} {ifs : List Expr} {P : Led → List D → Prop} (I : List D → List D → Led → Prop) (h0 : ∀ acc n, I [] acc n → P n acc)
    (h1 : ∀ d r acc n, I (d :: r) acc n → (∀ acc' n', I r acc' n' → CompP w A target elt ifs env P r acc' n') → M1 w A NoE RU (assign target env) d n fun n₁ _ => Hb w A NoE (tests ifs env) n₁ fun n₂ ok =>
      if ok = true then Hv w A NoE (eval elt env) n₂ fun n₃ y => CompP w A target elt ifs env P r (acc ++ [y]) n₃ else CompP w A target elt ifs env P r acc n₂) : ∀ {l acc n}, I l acc n → CompP w A target elt ifs env P l acc n
  | [], acc, n, h => h0 acc n h
  | d :: r, acc, n, h => h1 d r acc n h fun _ _ => CompP.ind I h0 h1
/-- names of a comprehension's frame are forgotten, even at its end -/
theorem CompP.fgt {target elt : Expr} {ifs : List Expr} {P : Led → List D → Prop} {C : Addr} {b b' : Binds} {r : Led} (hb : ∀ p ∈ b', b.lookup p.1 = some p.2) (hP : ∀ acc n', (P ((C, .fr b') :: n') acc → P ((C, .fr b) :: n') acc)) :
    ∀ {l acc}, CompP w A target elt ifs env P l acc ((C, .fr b') :: r) → CompP w A target elt ifs env P l acc ((C, .fr b) :: r)
  | [], acc, h => hP acc r h
  | _ :: _, _, h => fun F Z s v k r => h F Z s v (k.forget hb) r
end
end Mine
end
section -- Kq
open PySem PySem.W PyProof.Rows PySem.Calls
namespace Mine
/-- a call whose body works on what the caller owns -/
theorem enterR {w : World} {A : Around} {E : Value → Shared → Prop} {n : Led} {P : Led → D → Prop} {i fa c k : Nat} {o : Obj} {pm : Value} {names : List Str} {ds : List D} (hA : Rm (k + 1) A)
    (ho : (H1 w.params).get? fa = some o) (hd : o.data = .func (mkF i 3 .none .none .none pm none (.ref c) .none 0)) (hc : (H1 w.params).CodeRec (.ref c) (fnName (stAt i)))
    (hbind : ∀ vals : List Value, vals.length = names.length → bindArgs (docDef (fnName (stAt i)) (fnArgs (stAt i)) (fnBody (stAt i)) (fnScope (stAt i)) pm (.ref c) .none) ⟨vals, []⟩ = pure (names.zip vals))
    (hlen : ds.length = names.length) (hnd : names.Nodup) (hloc : ∀ x ∈ names, (fnScope (stAt i)).names.lookup x = some .local)
    (hco : (fnScope (stAt i)).isCoroutine = false) (hgen : (fnScope (stAt i)).isGenerator = false) (hk : (fnScope (stAt i)).kind = .function) (hcell : ∀ x ∈ (fnScope (stAt i)).names, x.2 ≠ .cell)
    (h : ∀ B L, Rm k B → B.handled = A.handled → Hs w B NoE (execs (fnBody (stAt i)) (envOf (fnName (stAt i)) (fnScope (stAt i)) L fa (.ref c))) ((L, .fr (names.zip ds)) :: n) (fun n' f => ∃ p r, n' = p :: r ∧ P r (match f with | .ret d => d | _ => .none))) :
    ML w A E Rd (fun vs => call (.ref fa) vs) ds n P := fun F Z s vs ks r => by
  have top := ks.topH
  have hl : vs.length = names.length := r.len.trans hlen
  refine wpAny_call (call_plain_ret hA.room (top _ _ ho) hd ((noLim w.params).keeps top) (hc.keeps top) (hbind vs hl) (fun x hx => hloc _ (List.of_mem_zip hx).1) (fun h₁ F => ?_) hco hgen hk hcell)
  have k₁ := ks.cons (a := s.heap.objs.size) (i := .fr (names.zip ds)) (s' := { s with heap := h₁, toks := s.toks + (names.zip vs).length }) top_none F.keep (GE.refl _) rfl ⟨_, F.ns, fun x d e => by
    rw [lookup_rev (by rw [List.map_fst_zip (by omega)]; exact hnd)]
    exact zip_reads r x d e⟩
  refine wpAny_mono (h (A.deeper (envOf (fnName (stAt i)) (fnScope (stAt i)) s.heap.objs.size fa (.ref c))) _ (hA.deeper _) rfl _ _ _ k₁) (fun f s' q => ?_) fun _ _ f => f
  obtain ⟨Z', n', d, le, ge, k', rf, p, r, rfl, hp⟩ := q
  cases rf with
  | ret rv => exact Po.at le ge (k'.drop (List.sublist_cons_self _ _)) rv hp
  | _ => exact Po.at le ge (k'.drop (List.sublist_cons_self _ _)) .none hp
section
variable {w : World} {A : Around} {E : Value → Shared → Prop} {n : Led} {P : Led → D → Prop}
theorem args_iter (a : Value) : argsOk "iter" ⟨[a], []⟩ := by unfold argsOk; kernel_rfl
theorem args_next (a : Value) : argsOk "next" ⟨[a], []⟩ := by unfold argsOk; kernel_rfl
/-- iter(l): a list iterator of one's own -/
theorem bIter {p : Addr × It} {l : List D} (h : ∀ it, P (p :: (it, .li l) :: n) (.raw (.ref it))) : ML w A E Rd (fun vs => call (.builtin "iter") vs) [.lst l] (p :: n) P := fun F Z s vs k r => by
  apply Rds.cE r; intro _ _ r q
  (first | apply Rds.nE q | (apply Rd.iE q; intro _) | (apply Rd.sE q; intro _) | apply Rd.rE q | apply Rd.bE q | apply Rd.nE q | cases q)
  apply Rd.lE r; intro a xs q r
  refine call_function_entry (by decide +kernel) (by decide +kernel) kdk_entry_iter (args_iter _) ?_
  unfold Builtin.«iter»
  refine wpAny_bind (m := someArgs "iter" 1 2 _) (wpAny_of_eq (a := [Value.ref a]) (by first | rfl | kernel_rfl!) ?_)
  show wpAny _ _ (pyIter (.ref a) >>= _) _ _ _
  refine wpAny_bind (wpAny_pyIter_list (q.list k) ?_)
  have k' := k.own (a := s.heap.objs.size) (i := .li l) (s' := { s with heap := s.heap.push { cls := .type "list_iterator", data := .fields #[.ref a, rawInt 0] } }) top_none (fun b o e => Heap.get?_push_of_some _ e) (GE.refl _) rfl
    ⟨a, 0, xs, l, ⟨_, Heap.get?_push_size _ rfl, rfl, rfl⟩, q, r, rfl⟩
  exact wpAny_pure ⟨_, rfl, Po.same rfl k' (.raw _) (h _)⟩
theorem bNext {it : Addr} {d : D} {ds : List D} {l r : Led} (hn : n = l ++ (it, .li (d :: ds)) :: r) (h : P (l ++ (it, .li ds) :: r) d) : ML w A E Rd (fun vs => call (.builtin "next") vs) [.raw (.ref it)] n P := fun F Z s vs k q => by
  apply Rds.cE q; intro _ _ q p
  (first | apply Rds.nE p | (apply Rd.iE p; intro _) | (apply Rd.sE p; intro _) | apply Rd.rE p | apply Rd.bE p | apply Rd.nE p | cases p); (first | apply Rds.nE q | (apply Rd.iE q; intro _) | (apply Rd.sE q; intro _) | apply Rd.rE q | apply Rd.bE q | apply Rd.nE q | cases q)
  obtain ⟨⟨b, i, xs, es, hi, q, rs, e⟩, _⟩ := k.nw (it, .li (d :: ds)) (by rw [hn]; simp)
  have hd : es[i]? = some d := by
    have := congrArg (fun l => l[0]?) e
    simpa using this.symm
  obtain ⟨v, hv, rv⟩ := rs.get hd
  have hl : s.heap.IsList b xs.toArray := q.list k
  refine call_function_entry (by decide +kernel) (by decide +kernel) kdk_entry_next (args_next _) ?_
  unfold Builtin.«next»
  refine wpAny_bind (m := someArgs "next" 1 2 _) (wpAny_of_eq (a := [Value.ref it]) (by first | rfl | kernel_rfl!) ?_)
  dsimp only
  refine wpAny_bind (wpAny_specialOf (name := Str.ofString "__next__") hi.typeIs slot_listiter_next.lookup ?_)
  refine wpAny_ite_split (fun hab => absurd hab (by decide)) (fun _ => ?_)
  obtain ⟨o, ho, hc, hdd⟩ := id hi
  obtain ⟨ol, hol, _, nl, hdl⟩ := hl
  refine wpAny_bind (wpAny_callSpecial?_slot (name := Str.ofString "__next__") hi.typeIs slot_listiter_next
    (wpAny_call_entry slot_listiter_next hi.typeIs entry_listiter_next ?_ (args_listiter_next _)))
  show wpAny _ _ (field (.ref it) 0 >>= _) _ _ s
  refine wpAny_bind (wpAny_field ho hdd (x := .ref b) rfl ?_)
  show wpAny _ _ (if (Value.ref b == Value.none) = true then _ else _) _ _ s
  rw [if_neg (show ¬ ((Value.ref b == Value.none) = true) from Bool.false_ne_true)]
  show wpAny _ _ (field (.ref it) 1 >>= _) _ _ s
  refine wpAny_bind (wpAny_field ho hdd (x := .int i 0) rfl ?_)
  show wpAny _ _ (seqItems? (.ref b) >>= _) _ _ s
  refine wpAny_bind (wpAny_seqItems hol hdl ?_)
  have hx : xs.toArray[i]? = some v := by simpa using hv
  simp only [Int.toNat_natCast, hx]
  refine wpAny_bind (wpAny_setField ho hdd (by simp) (wpAny_pure ⟨v, rfl, wpAny_pure ⟨_, rfl, ?_⟩⟩))
  refine Po.same rfl (k.turn (j := .li ds) hn ⟨b, i + 1, xs, es, ⟨_, Heap.get?_update_self _ ho (Obj.isFreed_of_fields (Obj.data_mapFields hdd _)), (Obj.cls_mapFields ..).trans hc, by
    rw [Obj.data_mapFields hdd]; simp [rawInt]⟩, q, rs, ?_⟩ (fun b o hb e => (Heap.SameBut.update ..).extBut b o hb e) (GE.refl _) rfl) rv h
  have := congrArg List.tail e
  simpa using this
end
end Mine
end
section -- Kr
open PySem PySem.W PyProof.Rows PySem.Calls
namespace Mine
/-- a generator's code, run on from here, meets what is wanted -/
noncomputable def SegP (w : World) (A : Around) (Φ : End → Shared → Prop) (c : Code) (t : Sem Fin) (fs : List Frame) (s : Shared) : Prop :=
  ∀ Γ p, Γ.code = c → Γ.Woken A → ∃ e s', Runs (Md w) Γ p t fs s e s' ∧ Φ e s'
section
variable {w : World} {A : Around} {Φ : End → Shared → Prop} {c : Code} {fs : List Frame} {s : Shared}
theorem SegP.mono {Ψ : End → Shared → Prop} {t : Sem Fin} (h : SegP w A Φ c t fs s) (hm : ∀ e s', Φ e s' → Ψ e s') : SegP w A Ψ c t fs s := fun Γ p hc hΓ => let ⟨e, s', r, q⟩ := h Γ p hc hΓ; ⟨e, s', r, hm e s' q⟩
theorem sp_wrap {α : Type} {m : Sem α} {K : α → Sem Fin} {H : Value → Sem Fin} {gd lv} (h : wpAny (Md w) (A.over c fs) m (fun a s' => SegP w A Φ c (K a) fs s') (fun x s' => SegP w A Φ c (H x) fs s') s) :
    SegP w A Φ c (m.wrap K H gd lv) fs s := by
  rintro Γ p rfl hΓ
  exact runs_wrap_of_wp K H gd lv m (h (Γ.over fs) p (hΓ.over fs)) (fun a p' s' h' => h' Γ p' rfl hΓ) (fun x p' s' h' => h' Γ p' rfl hΓ)
theorem sp_bw {α β : Type} {m : Sem α} {X : α → Sem β} {K : β → Sem Fin} {H : Value → Sem Fin} {gd lv} (h : wpAny (Md w) (A.over c fs) m (fun a s' => SegP w A Φ c ((X a).wrap K H gd lv) fs s') (fun x s' => SegP w A Φ c (H x) fs s') s) :
    SegP w A Φ c ((m >>= X).wrap K H gd lv) fs s := by
  rw [Sem.bind_eq_wrap', Sem.wrap_wrap]; exact sp_wrap h
theorem sp_at {p' : Pos} {k : Unit → Sem Fin} (h : SegP w A Φ c (k ()) fs s) : SegP w A Φ c (.at p' k) fs s :=
  sp_wrap (m := standAt p') (K := k) (H := .raise) (gd := id) (lv := id) (wpAny_standAt h)
theorem sp_point {l : List Value} {k : Unit → Sem Fin} (h : SegP w A Φ c (k ()) fs s) : SegP w A Φ c (.point l k) fs s :=
  sp_wrap (m := point) (K := k) (H := .raise) (gd := id) (lv := fun _ => l) (wpAny_point h)
theorem sp_call {c' : Code} {h g l} {k : Result → Sem Fin} (hc : ∀ p, SegP w A Φ c' ((Md w).den c') (.ret k h g l c p [] :: fs) s) : SegP w A Φ c (.call c' h g l k) fs s := by
  rintro Γ p rfl hΓ
  obtain ⟨e, s', hr, he⟩ := hc p (Γ.goto c') p rfl (hΓ.goto c')
  exact ⟨e, s', runs_call_seg hr, he⟩
theorem sp_leaf {k h g l c₁ p₁ kp} (r : Result) (hk : SegP w A Φ c₁ (k r) fs s) : SegP w A Φ c (leafOf r) (.ret k h g l c₁ p₁ kp :: fs) s := by
  rintro Γ p rfl hΓ
  obtain ⟨e, s', hr, he⟩ := hk (Γ.goto c₁) p₁ rfl (hΓ.goto c₁)
  exact ⟨e, s', Runs.pop r hr, he⟩
theorem sp_again {c' : Code} (hq : c'.quiet = true) (hc : SegP w A Φ c' ((Md w).den c') fs s) : SegP w A Φ c (.pure (.again c')) fs s := by
  rintro Γ p rfl hΓ
  obtain ⟨e, s', hr, he⟩ := hc (Γ.goto c') p rfl (hΓ.goto c')
  exact ⟨e, s', Runs.head (c₁ := c') (fun _ _ x => .again hq x) hr, he⟩
theorem sp_end (r : Result) (h : Φ (.ret r) s) : SegP w A Φ c (leafOf r) [] s := by
  rintro Γ p rfl _
  exact ⟨.ret r, s, Runs.leaf r, h⟩
theorem sp_yield {v g l} {k : Resume → Sem Fin} (hfs : splitAtGen fs = none) (h : ∀ p, Φ (.susp v g l k c p fs) s) : SegP w A Φ c (.yield v g l k) fs s := by
  rintro Γ p rfl _
  exact ⟨_, s, Runs.yield' fs hfs, h p⟩
variable {env : Env} {K : Flow → Sem Fin} {H : Value → Sem Fin} {gd : Bool → Bool} {lv : List Value → List Value}
theorem sp_execs_cons {st : Stmt} {rest : List Stmt} (h : SegP w A Φ c ((exec st env).wrap (fun f => match f with | .next => (execs rest env).wrap K H gd lv | f => K f) H gd lv) fs s) :
    SegP w A Φ c ((execs (st :: rest) env).wrap K H gd lv) fs s := by rw [execs_cons_wrap]; exact h
theorem sp_If {t : Expr} {b o : List Stmt} {pos : Pos} (h : wpAny (Md w) (A.over c fs) (isTrue t env (eval t env)) (fun x s' => if x = true then SegP w A Φ c ((execs b env).wrap K H gd lv) fs s' else SegP w A Φ c ((execs o env).wrap K H gd lv) fs s') (fun x s' => SegP w A Φ c (H x) fs s') s) :
    SegP w A Φ c ((exec (.If t b o pos) env).wrap K H gd lv) fs s := by
  have e : exec (.If t b o pos) env = (standAt pos >>= fun _ => isTrue t env (eval t env) >>= fun x => if x then execs b env else execs o env) := rfl
  rw [e]
  refine sp_bw (wpAny_standAt (sp_bw (wpAny_mono h (fun x s' hx => ?_) fun _ _ q => q)))
  cases x with
  | true => rw [if_pos rfl] at hx ⊢; exact hx
  | false => rw [if_neg Bool.false_ne_true] at hx ⊢; exact hx
theorem sp_Yield {e : Expr} {ypos pos : Pos} (hfs : splitAtGen fs = none)
    (h : wpAny (Md w) (A.over c fs) (eval e env) (fun v s' => ∀ (k : Resume → Sem Fin) l p, (∀ A' Φ' s'', SegP w A' Φ' c (K .next) fs s'' → SegP w A' Φ' c (k (.send .none)) fs s'') → Φ (.susp v (gd false) l k c p fs) s')
      (fun x s' => SegP w A Φ c (H x) fs s') s) (hco : env.scope.isCoroutine = false := by rfl) (hi : interactive env = false := by rfl) :
    SegP w A Φ c ((exec (.Expr (.Yield (some e) ypos) pos) env).wrap K H gd lv) fs s := by
  rw [exec_Expr env _ pos hi rfl]
  show SegP w A Φ c (.at pos fun _ => ((eval e env >>= fun v => (standAt ypos >>= fun _ => yieldOut env v)) >>= fun x =>
    dropValue (.Yield (some e) ypos) pos x).wrap K H gd lv) fs s
  have hy : ∀ v, yieldOut env v = yieldValue v := fun v => by simp only [yieldOut, hco, Bool.false_eq_true, if_false]
  simp only [hy]
  refine sp_at ?_
  rw [Sem.bind_eq_wrap', Sem.bind_eq_wrap', Sem.wrap_wrap, Sem.wrap_wrap]
  refine sp_wrap (wpAny_mono h (fun v s' h' => ?_) fun _ _ x => x)
  exact sp_at (sp_yield hfs fun p => h' _ _ p fun _ _ _ q => q)
/-- a statement that does not yield -/
theorem sp_plain {st : Stmt} {n : Led} {F : Bs} {Z : ZM} (k : St w (A.over c fs).handled F Z n s) (h : Hs w (A.over c fs) (fun x s' => SegP w A Φ c (H x) fs s') (exec st env) n fun n₁ f => f = .next ∧ ∀ Z' s', Le Z Z' → GE s.gens s'.gens → St w (A.over c fs).handled F Z' n₁ s' → SegP w A Φ c (K .next) fs s') :
    SegP w A Φ c ((exec st env).wrap K H gd lv) fs s := sp_wrap (Po.map (h F Z s k) fun f fd n₁ Z₁ s₁ le ge k₁ r h₁ => by
      obtain ⟨rfl, h₁⟩ := h₁
      cases r
      exact h₁ _ _ le ge k₁)
end
/-- what a generator's state goes on as -/
noncomputable def GoesP (w : World) (A : Around) (gs : GenState) (s : Shared) (Φ : End → Shared → Prop) : Prop :=
  match gs with
  | .fresh c => SegP w A Φ c ((Md w).den c) [] s
  | .suspended k _ c _ fs _ => SegP w A Φ c (k (.send .none)) fs s
  | _ => False
/-- a generator in the state gs that owns n yields the list and ends -/
noncomputable def GRun (w : World) : List D → Led → GenState → Prop
  | [], n, gs => ∀ A F Z s, Rm 8 A → A.handled = none → St w none F Z n s → GoesP w A gs s fun e s' => e = .ret (.ok (.ret .none)) ∧ ∃ Z', Le Z Z' ∧ GE s.gens s'.gens ∧ St w none F Z' [] s'
  | d :: l, n, gs => ∀ A F Z s, Rm 8 A → A.handled = none → St w none F Z n s → GoesP w A gs s fun e s' => e.quiet = true ∧ ∃ v g lv k c p fs, e = .susp v g lv k c p fs ∧ ∃ Z' n', Le Z Z' ∧ GE s.gens s'.gens ∧ St w none F Z' n' s' ∧ Rd Z' v d ∧ GRun w l n' e.genState
theorem resumeG {w : World} {A : Around} {Φ : End → Shared → Prop} {E : Value → Shared → Prop} {s : Shared} {g : Nat} {gs : GenState} {l : List Value} {α : Type} {k : GenResult → Sem α} {Q : α → Shared → Prop} (hg : s.gens[g]? = some gs)
    (hgo : GoesP w A gs (s.setGen g .running) Φ) (hq : ∀ e s₁, Φ e s₁ → e.quiet = true) (h : ∀ e s₁, Φ e s₁ → wpAny (Md w) A (k e.result) Q E (s₁.setGen g e.genState)) : wpAny (Md w) A (.resume g (.send .none) l k) Q E s := by
  intro Γ p hΓ
  rw [Sem.wp_resume]
  cases gs with
  | fresh c =>
    obtain ⟨e₁, s₁, hr, he⟩ := hgo (Γ.wake c p) p rfl (hΓ.wake c p)
    exact ⟨_, _, by unfold Wakes; rw [hg]; exact ⟨e₁, s₁, hr, hq e₁ s₁ he, rfl, rfl⟩, h e₁ s₁ he Γ p hΓ⟩
  | suspended k₀ l₀ c₀ p₀ fs₀ cl =>
    obtain ⟨e₁, s₁, hr, he⟩ := hgo (Γ.wake c₀ p) p₀ rfl (hΓ.wake c₀ p)
    exact ⟨_, _, by unfold Wakes; rw [hg]; exact ⟨e₁, s₁, hr, hq e₁ s₁ he, rfl, rfl⟩, h e₁ s₁ he Γ p hΓ⟩
  | running => exact hgo.elim
  | finished => exact hgo.elim
section
variable {w : World} {hd : Option Value} {A : Around} {E : Value → Shared → Prop} {F : Bs} {Z Z' : ZM} {n : Led} {s s' : Shared}
theorem St.set (k : St w hd F Z n s) {g : Nat} (hF : F.g[g]? = none) {x : GenState} (hb : x.bare = true) : St w hd F Z n (s.setGen g x) := by
  refine ⟨k.tp, k.ho, k.kp, k.z0, k.fz, k.nw, k.nd, ⟨fun i y e => ?_, fun hF => ?_⟩, k.os⟩
  · have hi : i ≠ g := fun q => by subst q; rw [hF] at e; cases e
    have := k.ge.1 i y e
    unfold Shared.setGen
    simp only
    rw [Array.getElem?_setIfInBounds_ne (Ne.symm hi)]; exact this
  · have := k.ge.2 hF
    intro y hy
    unfold Shared.setGen at hy
    simp only at hy
    rcases Array.mem_or_eq_of_mem_setIfInBounds hy with h | rfl
    · exact this y h
    · exact hb
theorem St.hideL : ∀ {n₁ : Led} {n₂ : Led} {F : Bs}, St w hd F Z (n₁ ++ n₂) s → ∃ F' : Bs, F'.g = F.g ∧ St w hd F' Z n₂ s ∧ ∀ Z' n' s', Le Z Z' → St w hd F' Z' n' s' → St w hd F Z' (n₁ ++ n') s'
  | [], _, F, k => ⟨F, rfl, k, fun _ _ _ _ h => h⟩
  | x :: n₁, n₂, F, k => by
    obtain ⟨ob, _, k₁, back⟩ := St.hide (n := n₁ ++ n₂) k
    obtain ⟨F', hF, k₂, back₂⟩ := St.hideL k₁
    exact ⟨F', hF, k₂, fun Z' n' s' le h => back _ _ _ le (back₂ _ _ _ le h)⟩
/-- the base's generators are today's -/
theorem St.rebase (k : St w hd F Z n s) : St w hd { F with g := s.gens } Z n s := ⟨k.tp, k.ho, k.kp, k.z0, k.fz, k.nw, k.nd, GE.refl _, k.os⟩
theorem St.unbase {G : Array GenState} (k : St w hd { F with g := G } Z n s) (h : GE F.g G) : St w hd F Z n s := ⟨k.tp, k.ho, k.kp, k.z0, k.fz, k.nw, k.nd, h.trans k.ge, k.os⟩
noncomputable def GenO (o : Obj) (g : Nat) : Prop := ∃ nm qn, o.cls = .type "generator" ∧ o.data = .fields #[.int g 0, nm, qn] ∧ o.slots = #[]
theorem GenO.at {o : Obj} {g : Nat} {h : Heap} {a : Addr} (x : GenO o g) (ho : h.get? a = some o) : h.IsGen a g := let ⟨nm, qn, r⟩ := x; ⟨o, nm, qn, ho, r⟩
/-- next of a generator of one's own -/
theorem pyNextG {a : Addr} {g : Nat} {og : Obj} {nG : Led} {gs : GenState} {l : List D} {Q : Option Value → Shared → Prop} (hA : Rm 9 A) (hh : A.handled = none) (k : St w none F Z (((a, .obj og) :: n) ++ nG) s) (hog : GenO og g) (hF : F.g[g]? = none) (hgs : s.gens[g]? = some gs) (hr : GRun w l nG gs)
    (hE : l = [] → ∀ Z' s', Le Z Z' → St w none F Z' n s' → Q none s')
    (hI : ∀ d l', l = d :: l' → ∀ v Z' nG' gs' s', Le Z Z' → St w none F Z' (((a, .obj og) :: n) ++ nG') s' → Rd Z' v d → s'.gens[g]? = some gs' → GRun w l' nG' gs' → Q (some v) s') :
    wpAny (Md w) A (pyNext (.ref a)) Q E s := by
  have ho : s.heap.get? a = some og := (k.nw (a, .obj og) (.head _)).1
  have hg := hog.at ho
  have hl : s.heap.NoLimit := (noLim w.params).keeps k.topH
  unfold pyNext
  refine wpAny_bind (wpAny_attempt (wpAny_callSpecial?_slot (name := Str.ofString "__next__") hg.typeIs slot_gen_next
    (wpAny_call_entry slot_gen_next hg.typeIs entry_gen_next ?_ (args_gen_next _))))
  show wpAny _ A.in1 (Builtin.Generator.genWake (.ref a) (.send .none)) _ _ s
  unfold Builtin.Generator.genWake
  refine wpAny_bind (wpAny_holding (wpAny_genNumber hg (wpAny_bind (wpAny_genState hgs ?_))))
  have hlt : g < s.gens.size := by
    rcases Nat.lt_or_ge g s.gens.size with h' | h'
    · exact h'
    · rw [Array.getElem?_eq_none h'] at hgs; cases hgs
  obtain ⟨F', hFg, k₁, back⟩ := St.hideL k
  have hF' : F'.g[g]? = none := by rw [hFg]; exact hF
  have k₂ := k₁.set (g := g) hF' (x := .running) rfl
  have hgen : ∀ e : End, e.quiet = true → e.genState.bare = true := fun e => End.bare_of_quiet
  have self : ∀ (s₁ : Shared) (x : GenState), GE s.gens s₁.gens ∨ True → g < s₁.gens.size → (s₁.setGen g x).gens[g]? = some x := fun s₁ x _ h => by unfold Shared.setGen; simp [h]
  have size : ∀ s₁ : Shared, GE (s.setGen g .running).gens s₁.gens → g < s₁.gens.size := fun s₁ h => by
    have h1 : (s.setGen g .running).gens[g]? = some .running := self s .running (.inr trivial) hlt
    have := h.1 g _ h1
    rcases Nat.lt_or_ge g s₁.gens.size with h' | h'
    · exact h'
    · rw [Array.getElem?_eq_none h'] at this; cases this
  cases gs with
  | running => cases l <;> exact (hr A.in1 _ _ _ hA.in1 hh k₂).elim
  | finished => cases l <;> exact (hr A.in1 _ _ _ hA.in1 hh k₂).elim
  | _ =>
    refine wpAny_bind (wpAny_roomToWake hl hA.in1.room ?_)
    show wpAny _ A.in1 (.resume g (.send .none) [] _) _ _ s
    cases l with
    | nil =>
      refine resumeG hgs (hr A.in1 _ _ _ hA.in1 hh k₂) (fun e s₁ q => by obtain ⟨rfl, _⟩ := q; rfl) fun e s₁ q => ?_
      obtain ⟨rfl, Z', le, ge, k₃⟩ := q
      have k₄ := ((back _ _ _ le (k₃.set (g := g) hF' (x := .finished) rfl)).drop (n' := n) (by simp))
      show wpAny _ A.in1 (newExc (.type "StopIteration") [] >>= _) _ _ _
      refine wpAny_bind ?_
      simp only [newExc, newTuple]
      refine wpAny_bind (wpAny_newObj_type ?_ (by size_fits))
      refine wpAny_bind (m := firstArgMember _ _) (wpAny_of_eq (a := Value.none) (by first | rfl | (simp only [firstArgMember]; rfl)) ?_)
      refine wpAny_newObj_type ?_ (by size_fits)
      simp only [raiseNew]
      refine wpAny_bind (wpAny_bind (wpAny_handled ?_))
      rw [show A.in1.handled = none from hh]
      refine wpAny_throw ?_
      refine wpAny_bind (wpAny_isInstance (T := "StopIteration") (b := true) ⟨_, Heap.get?_push_size _ rfl, rfl⟩ isSubtype_stop ?_)
      exact wpAny_pure (hE rfl Z' _ le (k₄.keep (fun b o hb => Heap.get?_push_of_some _ (Heap.get?_push_of_some _ hb)) (GE.refl _) rfl))
    | cons d l =>
      refine resumeG hgs (hr A.in1 _ _ _ hA.in1 hh k₂) (fun e s₁ q => q.1) fun e s₁ q => ?_
      obtain ⟨hq, v, g₀, lv, kk, c, p, fs, rfl, Z', n', le, ge, k₃, rv, hr'⟩ := q
      have k₄ := back _ _ _ le (k₃.set (g := g) hF' (hgen _ hq))
      exact wpAny_pure ⟨v, rfl, wpAny_pure (hI d l rfl v Z' n' _ _ le k₄ rv (self _ _ (.inr trivial) (size _ ge)) hr')⟩
end
end Mine
end
section -- Ks
open PySem PySem.W PyProof.Rows PySem.Calls
namespace Mine
section
variable {w : World} {A : Around} {E : Value → Shared → Prop} {P : Led → Fl → Prop} {env : Env} {F : Bs}
theorem lotgG {target : Expr} {a : Addr} {og : Obj} {g : Nat} {Z : ZM} {n : Led} {s : Shared} {v : Value} {Q : Unit → Shared → Prop} {hd : Option Value} (k : St w hd F Z ((a, .obj og) :: n) s) (hog : GenO og g) (h : Q () s) : wpAny (Md w) A (letOwnedTupleGo target (.ref a) v) Q E s := by
  have ho : s.heap.get? a = some og := (k.nw (a, .obj og) (.head _)).1
  obtain ⟨nm, qn, hc, hd, hs⟩ := hog
  exact lotgAt ho hc (by decide) h
/-- what a loop over a generator leaves -/
noncomputable def PoF (w : World) (F : Bs) (P : Led → Fl → Prop) (Z : ZM) (f : Flow) (s : Shared) : Prop := ∃ Z' n' d, Le Z Z' ∧ St w none F Z' n' s ∧ RF Z' f d ∧ P n' d
theorem PoF.lift {Z Z' : ZM} (le : Le Z Z') {f : Flow} {s : Shared} (h : PoF w F P Z' f s) : PoF w F P Z f s := let ⟨Z'', n', d, l, r⟩ := h; ⟨Z'', n', d, le.trans l, r⟩
theorem permG {x : Addr × It} {n nG : Led} : List.Perm ((x :: n) ++ nG) ((x :: nG) ++ n) := by
  simp only [List.cons_append]; exact .cons _ (List.perm_append_comm)
theorem forLoopG {target : Expr} {body orelse : List Stmt} {a : Addr} {og : Obj} {g : Nat} (hA : Rm 9 A) (hh : A.handled = none) (hog : GenO og g) (hF : F.g[g]? = none) : ∀ (l : List D) (n nG : Led) (gs : GenState) (Z : ZM) (s : Shared), St w none F Z (((a, .obj og) :: n) ++ nG) s → s.gens[g]? = some gs → GRun w l nG gs → ForP w A E target body orelse env P l n →
    codeAny (Md w) A (.forLoop target (.ref a) body orelse env) (fun r s' => match r with | .ok f => PoF w F P Z f s' | .error e => cameBackBy (Md w) A env E e s') s
  | [], n, nG, gs, Z, s, k, hgs, hr, h => by
    refine codeAny_of_tree ?_
    show wpAny _ A ((forTurn target (.ref a) body orelse env).onRaise (fun x => do noteFrame x env; theTreesLotGoes x)) _ _ s
    refine wpAny_noted ?_
    simp only [forTurn]
    refine wpAny_bind (wpAny_standAt (wpAny_bind (wpAny_onRaise (pyNextG hA hh k hog hF hgs hr (fun _ Z₁ s₁ le₁ k₁ => ?_) fun _ _ e => nomatch e))))
    refine wpAny_pure ⟨rfl, codeAny_block (Po.map (h _ _ _ (hh.symm ▸ k₁)) fun f fd n₂ Z₂ s₂ le₂ ge₂ k₂ r₂ h₂ => ?_)⟩
    exact ⟨Z₂, n₂, fd, le₁.trans le₂, hh ▸ k₂, r₂, h₂⟩
  | d :: l, n, nG, gs, Z, s, k, hgs, hr, h => by
    refine codeAny_of_tree ?_
    show wpAny _ A ((forTurn target (.ref a) body orelse env).onRaise (fun x => do noteFrame x env; theTreesLotGoes x)) _ _ s
    refine wpAny_noted ?_
    simp only [forTurn]
    refine wpAny_bind (wpAny_standAt (wpAny_bind (wpAny_onRaise (pyNextG hA hh k hog hF hgs hr (fun e => nomatch e) fun d' l' e v Z₁ nG' gs' s₁ le₁ k₁ rv hgs' hr' => ?_))))
    injection e with e1 e2
    subst e1 e2
    refine wpAny_bind (lotgG (n := n ++ nG') k₁ hog ?_)
    obtain ⟨F', hFg, k₂, back⟩ := St.hideL (n₁ := (a, .obj og) :: nG') (n₂ := n) (k₁.perm permG)
    refine wpAny_bind (Po.map (h F' Z₁ s₁ v (hh.symm ▸ k₂) rv) fun _ _ n₂ Z₂ s₂ le₂ ge₂ k₃ _ h₃ => ?_)
    refine wpAny_bind (Po.map (h₃ F' Z₂ s₂ k₃) fun f fd n₃ Z₃ s₃ le₃ ge₃ k₄ r₃ h₄ => ?_)
    have k₅ := back _ _ _ (le₂.trans le₃) (hh ▸ k₄)
    have le := (le₁.trans le₂).trans le₃
    cases r₃ with
    | next => exact wpAny_pure ⟨rfl, codeAny_mono (forLoopG hA hh hog hF l n₃ nG' gs' Z₃ s₃ (k₅.perm permG) ((ge₂.trans ge₃).1 _ _ hgs') hr' h₄) fun r s' q => by cases r with | ok f => exact PoF.lift le q | error e => exact q⟩
    | cont => exact wpAny_pure ⟨rfl, codeAny_mono (forLoopG hA hh hog hF l n₃ nG' gs' Z₃ s₃ (k₅.perm permG) ((ge₂.trans ge₃).1 _ _ hgs') hr' h₄) fun r s' q => by cases r with | ok f => exact PoF.lift le q | error e => exact q⟩
    | brk => exact wpAny_pure ⟨Z₃, n₃, _, le, k₅.drop (by simp), .next, h₄⟩
    | ret r => exact wpAny_pure ⟨Z₃, n₃, _, le, k₅.drop (by simp), .ret r, h₄⟩
/-- two of one's own are turned -/
theorem St.turn2 {hd : Option Value} {Z : ZM} {s s' : Shared} {p : Addr × It} {a b : Addr} {i i' j j' : It} {r : Led} (k : St w hd F Z (p :: (a, i) :: (b, j) :: r) s) (hi : i'.In Z s'.heap a) (hj : j'.In Z s'.heap b)
    (hs : ∀ c o, c ≠ a → c ≠ b → s.heap.get? c = some o → s'.heap.get? c = some o) (hg : GE s.gens s'.gens) (ho : s'.os = s.os) : St w hd F Z (p :: (a, i') :: (b, j') :: r) s' := by
  have ha := k.nw (a, i) (by simp)
  have hb := k.nw (b, j) (by simp)
  have nd := k.nd
  have ne : ∀ q, q ∈ p :: r → q.1 ≠ a ∧ q.1 ≠ b := by
    intro q hq
    simp only [List.map_cons, List.nodup_cons, List.mem_cons, List.mem_map, not_or, not_exists, not_and] at nd
    rcases List.mem_cons.mp hq with rfl | hq
    · exact ⟨nd.1.1, nd.1.2.1⟩
    · exact ⟨fun e => nd.2.1.2 q hq e, fun e => nd.2.2.1 q hq e⟩
  refine ⟨k.tp, k.ho, fun c ob ec => hs c ob (fun q => by subst q; rw [ha.2.2] at ec; cases ec) (fun q => by subst q; rw [hb.2.2] at ec; cases ec) (k.kp c ob ec), k.z0,
    fun c ob ec => hs c ob (fun q => by subst q; rw [ha.2.1] at ec; cases ec) (fun q => by subst q; rw [hb.2.1] at ec; cases ec) (k.fz c ob ec), fun q hq => ?_, nd, k.ge.trans hg, ho.trans k.os⟩
  have old : ∀ q, q ∈ p :: r → q.2.In Z s'.heap q.1 ∧ Z q.1 = none ∧ F.b q.1 = none := fun q hq => by
    have := k.nw q (by rcases List.mem_cons.mp hq with rfl | h; exact .head _; exact .tail _ (.tail _ (.tail _ h)))
    exact ⟨this.1.up (Le.refl _) (fun o e => hs _ o (ne q hq).1 (ne q hq).2 e), this.2⟩
  rcases List.mem_cons.mp hq with rfl | hq
  · exact old _ (.head _)
  · rcases List.mem_cons.mp hq with rfl | hq
    · exact ⟨hi, ha.2⟩
    · rcases List.mem_cons.mp hq with rfl | hq
      · exact ⟨hj, hb.2⟩
      · exact old _ (.tail _ hq)
end
end Mine
end
section -- Kv
open PySem PySem.W PyProof.Rows PySem.Calls
namespace Mine
theorem fn_22 (P : Params) : ∃ o fd, (H1 P).get? 22 = some o ∧ o.data = .func fd := ⟨o_22_s9 P, _, by kernel_rfl, rfl⟩
theorem fn_29 (P : Params) : ∃ o fd, (H1 P).get? 29 = some o ∧ o.data = .func fd := ⟨o_29_s9 P, _, by kernel_rfl, rfl⟩
theorem fn_43 (P : Params) : ∃ o fd, (H1 P).get? 43 = some o ∧ o.data = .func fd := ⟨o_43_s9 P, _, by kernel_rfl, rfl⟩
theorem fn_50 (P : Params) : ∃ o fd, (H1 P).get? 50 = some o ∧ o.data = .func fd := ⟨o_50_s9 P, _, by kernel_rfl, rfl⟩
theorem fn_57 (P : Params) : ∃ o fd, (H1 P).get? 57 = some o ∧ o.data = .func fd := ⟨o_57_s9 P, _, by kernel_rfl, rfl⟩
theorem fn_75 (P : Params) : ∃ o fd, (H1 P).get? 75 = some o ∧ o.data = .func fd := ⟨o_75_s11 P, _, by kernel_rfl, rfl⟩
theorem fn_121 (P : Params) : ∃ o fd, (H1 P).get? 121 = some o ∧ o.data = .func fd := ⟨o_121_s22 P, _, by kernel_rfl, rfl⟩
theorem fn_128 (P : Params) : ∃ o fd, (H1 P).get? 128 = some o ∧ o.data = .func fd := ⟨o_128_s22 P, _, by kernel_rfl, rfl⟩
theorem fn_133 (P : Params) : ∃ o fd, (H1 P).get? 133 = some o ∧ o.data = .func fd := ⟨o_133_s22 P, _, by kernel_rfl, rfl⟩
theorem fn_138 (P : Params) : ∃ o fd, (H1 P).get? 138 = some o ∧ o.data = .func fd := ⟨o_138_s22 P, _, by kernel_rfl, rfl⟩
theorem fn_143 (P : Params) : ∃ o fd, (H1 P).get? 143 = some o ∧ o.data = .func fd := ⟨o_143_s22 P, _, by kernel_rfl, rfl⟩
theorem fn_148 (P : Params) : ∃ o fd, (H1 P).get? 148 = some o ∧ o.data = .func fd := ⟨o_148_s22 P, _, by kernel_rfl, rfl⟩
theorem fn_153 (P : Params) : ∃ o fd, (H1 P).get? 153 = some o ∧ o.data = .func fd := ⟨o_153_s22 P, _, by kernel_rfl, rfl⟩
theorem fn_160 (P : Params) : ∃ o fd, (H1 P).get? 160 = some o ∧ o.data = .func fd := ⟨o_160_s22 P, _, by kernel_rfl, rfl⟩
theorem caG {w : World} {A : Around} {E : Value → Shared → Prop} {env : Env} {n : Led} {P : Led → D → Prop} {x : Str} {fp pos : Pos} {e : Expr} {rest : List Expr} {fa : Addr} (hf : (H1 w.params).nsMap mainGlobals x = some (.ref fa)) (hfn : ∃ o fd, (H1 w.params).get? fa = some o ∧ o.data = .func fd)
    (hg : env.globals = mainGlobals) (hk : env.scope.kind = .function) (hl : env.kindOf x = some .globalImplicit) (hd : (x == ("__debug__" : Str)) = false)
    (hc : eval (.Call (.Name x fp) (e :: rest) [] pos) env = (do callWith pos (← eval (.Name x fp) env) [] (backTo pos (starEach (e :: rest) env)) (backToKw pos (keywordEach [] env)))) (he : starEach (e :: rest) env = (false, eval e env) :: starEach rest env)
    (h : Hl w A E (spliced (backTo pos (starEach (e :: rest) env))) n (uCl w A E (.ref fa) P)) : Hv w A E (eval (.Call (.Name x fp) (e :: rest) [] pos) env) n P :=
  caF hc he (nmG hg hk hl hd hf (let ⟨o, fd, h1, h2⟩ := hfn; ⟨fa, o, fd, rfl, h1, h2, h⟩))
section
variable {w : World} {A : Around} {E : Value → Shared → Prop} {env : Env} {n : Led} {P : Led → D → Prop} {fp pos : Pos} {e : Expr} {rest : List Expr}
theorem caGn {x : Str} {fa : Addr} (hf : ∀ P, (H1 P).nsMap mainGlobals x = some (.ref fa)) (hfn : ∀ P, ∃ o fd, (H1 P).get? fa = some o ∧ o.data = .func fd) (hd : (x == ("__debug__" : Str)) = false) (hg : GlC env x fp pos e rest)
    (h : Hl w A E (spliced (backTo pos (starEach (e :: rest) env))) n (uCl w A E (.ref fa) P)) : Hv w A E (eval (.Call (.Name x fp) (e :: rest) [] pos) env) n P :=
  caG (hf _) (hfn _) hg.1.1 hg.1.2.2.1 hg.1.2.2.2 hd hg.2.1 (seC hg.2.2.1) h
theorem cg_22 : type_of% (@caGn w A E env n P fp pos e rest (Str.ofString "pretty_flags") 22 gt_pretty_flags fn_22 rfl) := caGn gt_pretty_flags fn_22 rfl
theorem cg_29 : type_of% (@caGn w A E env n P fp pos e rest (Str.ofString "_parse_varint") 29 gt_parse_varint fn_29 rfl) := caGn gt_parse_varint fn_29 rfl
theorem cg_43 : type_of% (@caGn w A E env n P fp pos e rest (Str.ofString "_strip_quoted_realnames") 43 gt_strip_quoted_realnames fn_43 rfl) := caGn gt_strip_quoted_realnames fn_43 rfl
theorem cg_50 : type_of% (@caGn w A E env n P fp pos e rest (Str.ofString "_check_parenthesis") 50 gt_check_parenthesis fn_50 rfl) := caGn gt_check_parenthesis fn_50 rfl
theorem cg_57 : type_of% (@caGn w A E env n P fp pos e rest (Str.ofString "_pre_parse_validation") 57 gt_pre_parse_validation fn_57 rfl) := caGn gt_pre_parse_validation fn_57 rfl
theorem cg_75 : type_of% (@caGn w A E env n P fp pos e rest (Str.ofString "in_table_b1") 75 gt_in_table_b1 fn_75 rfl) := caGn gt_in_table_b1 fn_75 rfl
theorem cg_121 : type_of% (@caGn w A E env n P fp pos e rest (Str.ofString "map_table_b3") 121 gt_map_table_b3 fn_121 rfl) := caGn gt_map_table_b3 fn_121 rfl
theorem cg_128 : type_of% (@caGn w A E env n P fp pos e rest (Str.ofString "_law_name") 128 gt_law_name fn_128 rfl) := caGn gt_law_name fn_128 rfl
theorem cg_133 : type_of% (@caGn w A E env n P fp pos e rest (Str.ofString "_law_nest") 133 gt_law_nest fn_133 rfl) := caGn gt_law_nest fn_133 rfl
theorem cg_138 : type_of% (@caGn w A E env n P fp pos e rest (Str.ofString "_law_tape") 138 gt_law_tape fn_138 rfl) := caGn gt_law_tape fn_138 rfl
theorem cg_143 : type_of% (@caGn w A E env n P fp pos e rest (Str.ofString "_law_read") 143 gt_law_read fn_143 rfl) := caGn gt_law_read fn_143 rfl
theorem cg_148 : type_of% (@caGn w A E env n P fp pos e rest (Str.ofString "_law_sum") 148 gt_law_sum fn_148 rfl) := caGn gt_law_sum fn_148 rfl
theorem cg_153 : type_of% (@caGn w A E env n P fp pos e rest (Str.ofString "_law_counts") 153 gt_law_counts fn_153 rfl) := caGn gt_law_counts fn_153 rfl
theorem cg_160 : type_of% (@caGn w A E env n P fp pos e rest (Str.ofString "_law_product") 160 gt_law_product fn_160 rfl) := caGn gt_law_product fn_160 rfl
end
end Mine
end
section -- Kw
open PySem PySem.W PyProof.Rows PySem.Calls
namespace Mine
theorem fmodN (a b : Nat) : Int.fmod (a : Int) (b : Int) = ((a % b : Nat) : Int) := by
  rw [Int.fmod_eq_emod_of_nonneg _ (by exact Int.natCast_nonneg _)]; rfl
theorem fdivN (a b : Nat) : Int.fdiv (a : Int) (b : Int) = ((a / b : Nat) : Int) := by
  rw [Int.fdiv_eq_ediv_of_nonneg _ (by exact Int.natCast_nonneg _)]; rfl
theorem divSmall {a : Int} {b : Nat} (hb : b < 2 ^ 200) : Builtin.divisionGoesByPylong a b = false := by
  unfold Builtin.divisionGoesByPylong
  rw [Bool.and_eq_false_iff]
  left
  simp only [decide_eq_false_iff_not, Nat.not_lt]
  split
  · exact Nat.zero_le _
  · rename_i hz
    have hz' : b ≠ 0 := by intro h; subst h; simp at hz
    rw [Int.natAbs_natCast]
    have := (Nat.log2_lt hz').mpr hb
    grind
section
variable {w : World} {A : Around} {E : Value → Shared → Prop} {n : Led} {P : Led → D → Prop} {env : Env}
theorem modN {x y : Int} (a b : Nat) (hx : x = a) (hy : y = b) (hb : 0 < b) (h : P n (.int ((a % b : Nat) : Int))) : M2 w A E Rd (binaryOp .Mod) (.int x) (.int y) n P := by
  subst hx hy; exact modI (by grind) (by rw [fmodN]; exact h)
theorem divN {x y : Int} (a b : Nat) (hx : x = a) (hy : y = b) (hb : 0 < b) (h300 : b < 2 ^ 200) (h : P n (.int ((a / b : Nat) : Int))) : M2 w A E Rd (binaryOp .FloorDiv) (.int x) (.int y) n P := by
  subst hx hy; exact divI (by grind) (divSmall h300) (by rw [fdivN]; exact h)
theorem rngN : ∀ p : Nat, p < 64 → Builtin.Range.small 0 (p : Int) 1 = true ∧ Builtin.Range.rangeSize 0 (p : Int) 1 = p := by decide +kernel
theorem itemsN {x : Int} (p : Nat) (hx : x = p) (hp : p < 64) : Items (.rng 0 x 1) ((List.range p).map fun (j : Nat) => D.int j) := by
  subst hx
  have := Items.rng (a := 0) (b := p) (c := 1) (rngN p hp).1 (rngN p hp).2
  simpa using this
theorem addS' {a b : Str} (c d : Nat) (ha : a.length ≤ c) (hb : b.length ≤ d) (hs : c + d ≤ 1000) (h : (a ++ b).length ≤ c + d → P n (.str (a ++ b))) : M2 w A E Rd (binaryOp .Add) (.str a) (.str b) n P :=
  addS (szl (by grind)) (h (by rw [Str.length_append]; grind))
theorem asT5 {PU : Led → Unit → Prop} {e₁ e₂ e₃ e₄ e₅ : Expr} {x : Nat} {pos : Pos} {d₁ d₂ d₃ d₄ d₅ : D} (hh : A.handled = none) (he : assignEach [e₁, e₂, e₃, e₄, e₅] env = [(false, assign e₁ env), (false, assign e₂ env), (false, assign e₃ env), (false, assign e₄ env), (false, assign e₅ env)])
    (h : M1 w A E RU (assign e₁ env) d₁ n (uAs w A E env e₂ d₂ (uAs w A E env e₃ d₃ (uAs w A E env e₄ d₄ (uAs w A E env e₅ d₅ PU))))) : M1 w A E RU (assign (.Tuple [e₁, e₂, e₃, e₄, e₅] x pos) env) (.tup [d₁, d₂, d₃, d₄, d₅]) n PU := by
  refine asT hh (by rw [he]; rfl) (by rw [he]; rfl) ?_
  rw [he]
  exact aoC (h.mono fun n₁ _ h₁ => aoC (h₁.mono fun n₂ _ h₂ => aoC (h₂.mono fun n₃ _ h₃ => aoC (h₃.mono fun n₄ _ h₄ => aoC (h₄.mono fun n₅ _ h₅ => aoN h₅)))))
theorem asT4 {PU : Led → Unit → Prop} {e₁ e₂ e₃ e₄ : Expr} {x : Nat} {pos : Pos} {d₁ d₂ d₃ d₄ : D} (hh : A.handled = none) (he : assignEach [e₁, e₂, e₃, e₄] env = [(false, assign e₁ env), (false, assign e₂ env), (false, assign e₃ env), (false, assign e₄ env)])
    (h : M1 w A E RU (assign e₁ env) d₁ n (uAs w A E env e₂ d₂ (uAs w A E env e₃ d₃ (uAs w A E env e₄ d₄ PU)))) : M1 w A E RU (assign (.Tuple [e₁, e₂, e₃, e₄] x pos) env) (.tup [d₁, d₂, d₃, d₄]) n PU := by
  refine asT hh (by rw [he]; rfl) (by rw [he]; rfl) ?_
  rw [he]
  exact aoC (h.mono fun n₁ _ h₁ => aoC (h₁.mono fun n₂ _ h₂ => aoC (h₂.mono fun n₃ _ h₃ => aoC (h₃.mono fun n₄ _ h₄ => aoN h₄))))
end
end Mine
end
section -- Kx
open PySem PySem.W PyProof.Rows PySem.Calls
namespace Mine
section
variable {w : World} {A : Around} {E : Value → Shared → Prop} {n : Led} {env : Env}
/-- a comprehension that keeps what passes -/
theorem compFM {α : Type} {target elt : Expr} {ifs : List Expr} {env' : Env} {C : Addr} {n₁ : Led} {Q : Led → List D → Prop} (as : List α) (ι : α → D) (β : α → Binds) (g : α → Bool) (f : α → D)
    (h1 : ∀ a ∈ as, M1 w A NoE RU (assign target env') (ι a) ((C, .fr []) :: n₁) fun n₂ _ => n₂ = (C, .fr (β a)) :: n₁)
    (h2 : ∀ a ∈ as, Hb w A NoE (tests ifs env') ((C, .fr (β a)) :: n₁) fun n₂ ok => n₂ = (C, .fr (β a)) :: n₁ ∧ ok = g a)
    (h3 : ∀ a ∈ as, g a = true → Hv w A NoE (eval elt env') ((C, .fr (β a)) :: n₁) fun n₂ y => n₂ = (C, .fr (β a)) :: n₁ ∧ y = f a)
    (hQ : Q n₁ ((as.filter g).map f)) : CompP w A target elt ifs env' (fun n₂ acc => ∃ b n', n₂ = (C, .fr b) :: n' ∧ Q n' acc) (as.map ι) [] ((C, .fr []) :: n₁) := by
  refine CompP.ind (fun l acc n => ∃ bs : List α, (∀ b ∈ bs, b ∈ as) ∧ l = bs.map ι ∧ n = (C, .fr []) :: n₁ ∧ acc ++ (bs.filter g).map f = (as.filter g).map f) ?_ ?_ ⟨as, fun _ h => h, rfl, rfl, rfl⟩
  · rintro acc n ⟨bs, hb, hl, rfl, he⟩
    cases bs with
    | cons _ _ => cases hl
    | nil =>
      refine ⟨_, _, rfl, ?_⟩
      have : acc = (as.filter g).map f := by simpa using he
      rw [this]; exact hQ
  · rintro d r acc n ⟨bs, hb, hl, rfl, he⟩ ih
    cases bs with
    | nil => cases hl
    | cons b bs =>
      rw [List.map_cons] at hl
      injection hl with e1 e2
      subst e1 e2
      have hm := hb b (.head _)
      refine (h1 b hm).mono fun n₂ _ e => ?_
      subst e
      refine (h2 b hm).mono fun n₃ ok q => ?_
      obtain ⟨rfl, rfl⟩ := q
      have hP : ∀ acc n', (∃ c n'', (C, It.fr []) :: n' = (C, It.fr c) :: n'' ∧ Q n'' acc) → ∃ c n'', (C, It.fr (β b)) :: n' = (C, It.fr c) :: n'' ∧ Q n'' acc := by
        rintro acc n' ⟨c, n'', e, q⟩
        injection e with e1 e2
        exact ⟨_, _, rfl, e2 ▸ q⟩
      cases hg : g b with
      | true =>
        rw [if_pos rfl]
        refine (h3 b hm hg).mono fun n₄ y q => ?_
        obtain ⟨rfl, rfl⟩ := q
        refine CompP.fgt (b' := []) (fun _ h => nomatch h) hP (ih _ _ ⟨bs, fun c h => hb c (.tail _ h), rfl, rfl, ?_⟩)
        rw [← he, List.filter_cons_of_pos hg]; simp
      | false =>
        rw [if_neg Bool.false_ne_true]
        refine CompP.fgt (b' := []) (fun _ h => nomatch h) hP (ih _ _ ⟨bs, fun c h => hb c (.tail _ h), rfl, rfl, ?_⟩)
        rw [← he, List.filter_cons_of_neg (by rw [hg]; exact Bool.false_ne_true)]
theorem lcFM {α : Type} {elt target iter : Expr} {ifs : List Expr} {scope : Scope} {cl : List (Str × Addr)} {pos : Pos} {P : Led → D → Prop} (as : List α) (ι : α → D) (β : α → Binds) (g : α → Bool) (f : α → D)
    (hclos : closureFor scope env = pure cl) (hkind : scope.kind = .function) (hnames : ∀ x ∈ scope.names, x.2 = .local → scope.names.lookup x.1 = some .local) (hcell : ∀ y ∈ scope.names, y.2 ≠ .cell)
    (hs : ∀ x, foldedSetIterable iter env x = pure x)
    (h : Hv w A E (eval iter env) n fun n₁ d => Items d (as.map ι) ∧ as.length ≤ 1000 ∧
      (∀ C, ∀ a ∈ as, M1 w A NoE RU (assign target (compEnvC scope cl C env)) (ι a) ((C, .fr []) :: n₁) fun n₂ _ => n₂ = (C, .fr (β a)) :: n₁) ∧
      (∀ C, ∀ a ∈ as, Hb w A NoE (tests ifs (compEnvC scope cl C env)) ((C, .fr (β a)) :: n₁) fun n₂ ok => n₂ = (C, .fr (β a)) :: n₁ ∧ ok = g a) ∧
      (∀ C, ∀ a ∈ as, g a = true → Hv w A NoE (eval elt (compEnvC scope cl C env)) ((C, .fr (β a)) :: n₁) fun n₂ y => n₂ = (C, .fr (β a)) :: n₁ ∧ y = f a) ∧ P n₁ (.lst ((as.filter g).map f))) :
    Hv w A E (eval (.ListComp elt [⟨target, iter, ifs, 0⟩] scope pos) env) n P :=
  lc hclos hkind hnames hcell hs (h.mono fun n₁ d ⟨hi, hz, h1, h2, h3, hP⟩ => ⟨_, hi, szl (by rw [List.length_map]; exact hz), fun C => compFM as ι β g f (h1 C) (h2 C) (h3 C) hP⟩)
theorem sAsgFM {α : Type} {elt target iter : Expr} {ifs : List Expr} {scope : Scope} {cl : List (Str × Addr)} {pos spos px : Pos} {x : Str} {P : Led → Fl → Prop} (as : List α) (ι : α → D) (β : α → Binds) (g : α → Bool) (f : α → D)
    (hsw : swapsWith (.ListComp elt [⟨target, iter, ifs, 0⟩] scope pos) (some (.Name x px)) spos.line env = pure true)
    (hclos : closureFor scope env = pure cl) (hkind : scope.kind = .function) (hnames : ∀ x ∈ scope.names, x.2 = .local → scope.names.lookup x.1 = some .local) (hcell : ∀ y ∈ scope.names, y.2 ≠ .cell)
    (hs : ∀ x, foldedSetIterable iter env x = pure x)
    (h : Hv w A E (eval iter env) n fun n₁ d => Items d (as.map ι) ∧ as.length ≤ 1000 ∧
      (∀ C, ∀ a ∈ as, M1 w A NoE RU (assign target (compEnvC scope cl C env)) (ι a) ((C, .fr []) :: n₁) fun n₂ _ => n₂ = (C, .fr (β a)) :: n₁) ∧
      (∀ C, ∀ a ∈ as, Hb w A NoE (tests ifs (compEnvC scope cl C env)) ((C, .fr (β a)) :: n₁) fun n₂ ok => n₂ = (C, .fr (β a)) :: n₁ ∧ ok = g a) ∧
      (∀ C, ∀ a ∈ as, g a = true → Hv w A NoE (eval elt (compEnvC scope cl C env)) ((C, .fr (β a)) :: n₁) fun n₂ y => n₂ = (C, .fr (β a)) :: n₁ ∧ y = f a) ∧
      M1 w A E RU (storeName env x) (.lst ((as.filter g).map f)) n₁ fun n₃ _ => P n₃ .next) :
    Hs w A E (exec (.Assign [.Name x px] (.ListComp elt [⟨target, iter, ifs, 0⟩] scope pos) spos) env) n P :=
  sAsgU hsw hclos hkind hnames hcell hs (h.mono fun n₁ d ⟨hi, hz, h1, h2, h3, hP⟩ => ⟨_, hi, szl (by rw [List.length_map]; exact hz), fun C => compFM (Q := fun n' acc => M1 w A E RU (storeName env x) (.lst acc) n' fun n₃ _ => P n₃ .next) as ι β g f (h1 C) (h2 C) (h3 C) hP⟩)
end
end Mine
end
section -- Ky
open PySem PySem.W PyProof.Rows PySem.Calls
namespace Mine
theorem bindL_spec {k : Str → Option NameKind} : ∀ {binds : List (Str × Value)} {m : Str → Option Value}, (binds.map (·.1)).Nodup → ∀ x v, binds.lookup x = some v → k x = some .local → bindL k binds m x = some v
  | [], _, _, x, v, h, _ => by cases h
  | (y, u) :: r, m, hn, x, v, h, hk => by
    rw [List.map_cons, List.nodup_cons] at hn
    rw [List.lookup_cons] at h
    unfold bindL
    cases hx : x == y with
    | true =>
      rw [hx] at h; cases h
      have := beq_iff_eq.mp hx
      subst this
      rw [if_pos hk]
      have keep : ∀ (r : List (Str × Value)) (m : Str → Option Value), x ∉ r.map (·.1) → bindL k r m x = m x := by
        intro r
        induction r with
        | nil => intros; rfl
        | cons p r ih =>
          intro m hm
          rw [List.map_cons, List.mem_cons, not_or] at hm
          unfold bindL
          rw [ih _ hm.2]
          split
          · exact if_neg hm.1
          · rfl
      rw [keep r _ hn.1]; simp
    | false =>
      rw [hx] at h
      exact bindL_spec hn.2 x v h hk
theorem bindC_spec {k : Str → Option NameKind} : ∀ {binds : List (Str × Value)} {m : Str → Option Value}, (binds.map (·.1)).Nodup → ∀ x v, binds.lookup x = some v → k x ≠ some .local → bindC k binds m x = some v
  | [], _, _, x, v, h, _ => by cases h
  | (y, u) :: r, m, hn, x, v, h, hk => by
    rw [List.map_cons, List.nodup_cons] at hn
    rw [List.lookup_cons] at h
    unfold bindC
    cases hx : x == y with
    | true =>
      rw [hx] at h; cases h
      have := beq_iff_eq.mp hx
      subst this
      rw [if_neg hk]
      have keep : ∀ (r : List (Str × Value)) (m : Str → Option Value), x ∉ r.map (·.1) → bindC k r m x = m x := by
        intro r
        induction r with
        | nil => intros; rfl
        | cons p r ih =>
          intro m hm
          rw [List.map_cons, List.mem_cons, not_or] at hm
          unfold bindC
          rw [ih _ hm.2]
          split
          · rfl
          · exact if_neg hm.1
      rw [keep r _ hn.1]; simp
    | false =>
      rw [hx] at h
      exact bindC_spec hn.2 x v h hk
theorem St.add {w : World} {hd : Option Value} {F : Bs} {Z : ZM} {n : Led} {s : Shared} (k : St w hd F Z n s) {a : Addr} {i : It} (hi : i.In Z s.heap a) (hz : Z a = none) (hb : F.b a = none) (hn : ∀ p ∈ n, p.1 ≠ a) : St w hd F Z ((a, i) :: n) s :=
  ⟨k.tp, k.ho, k.kp, k.z0, k.fz, fun p hp => by
    rcases List.mem_cons.mp hp with rfl | hp
    · exact ⟨hi, hz, hb⟩
    · exact k.nw p hp, by
    rw [List.map_cons, List.nodup_cons]
    refine ⟨fun hm => ?_, k.nd⟩
    obtain ⟨p, hp, e⟩ := List.mem_map.mp hm
    exact hn p hp e, k.ge, k.os⟩
/-- cells of a frame, as the ledger holds them -/
noncomputable def cellsAt (L : Addr) (cl : List (Str × Nat × Option D)) : Led := cl.map fun x => (L + x.2.1, .cell x.2.2)
theorem addCells {w : World} {hd : Option Value} {F : Bs} {Z : ZM} {s : Shared} {L : Addr} {cm : Str → Option Value} : ∀ {cl : List (Str × Nat × Option D)} {n : Led}, St w hd F Z n s →
    (∀ x ∈ cl, s.heap.IsCell (L + x.2.1) (cm x.1) ∧ (∀ d, x.2.2 = some d → ∃ v, cm x.1 = some v ∧ Rd Z v d) ∧ Z (L + x.2.1) = none ∧ F.b (L + x.2.1) = none ∧ ∀ p ∈ n, p.1 ≠ L + x.2.1) →
    (cl.Pairwise fun x y => L + x.2.1 ≠ L + y.2.1) → St w hd F Z (cellsAt L cl ++ n) s
  | [], _, k, _, _ => k
  | x :: cl, n, k, h, hp => by
    rw [List.pairwise_cons] at hp
    obtain ⟨h1, h2, h3, h4, h5⟩ := h x (.head _)
    refine St.add (addCells k (fun y hy => h y (.tail _ hy)) hp.2) ?_ h3 h4 ?_
    · refine ⟨cm x.1, h1, ?_⟩
      cases q : x.2.2 with
      | none => trivial
      | some d => exact h2 d q
    · intro p hp'
      rcases List.mem_append.mp hp' with hp' | hp'
      · obtain ⟨y, hy, rfl⟩ := List.mem_map.mp hp'
        exact Ne.symm (hp.1 y hy)
      · exact h5 p hp'
theorem enterC {w : World} {H : Option Value → Prop} {i fa c k : Nat} {o : Obj} {pm : Value} {names : List Str} {ds : List D} {P : D → Prop} (lb : Binds) (cl : List (Str × Nat × Option D))
    (ho : (H1 w.params).get? fa = some o) (hd : o.data = .func (mkF i 3 .none .none .none pm none (.ref c) .none 0)) (hc : (H1 w.params).CodeRec (.ref c) (fnName (stAt i)))
    (hbind : ∀ vals : List Value, vals.length = names.length → bindArgs (docDef (fnName (stAt i)) (fnArgs (stAt i)) (fnBody (stAt i)) (fnScope (stAt i)) pm (.ref c) .none) ⟨vals, []⟩ = pure (names.zip vals))
    (hlen : ds.length = names.length) (hnd : names.Nodup)
    (hkind : ∀ L : Nat, ∀ x ∈ names, (fnScope (stAt i)).names.lookup x = some .local ∨ ((fnScope (stAt i)).names.lookup x = some .cell ∧ ((cellsFrom (L + 1) (fnScope (stAt i)).names []).lookup x).isSome = true))
    (hcl : ∀ L : Nat, cellsFrom (L + 1) (fnScope (stAt i)).names [] = cl.map fun x => (x.1, L + x.2.1)) (hcn : (cl.map (·.1)).Nodup)
    (hlb : ∀ p ∈ lb, (names.zip ds).lookup p.1 = some p.2 ∧ (fnScope (stAt i)).names.lookup p.1 = some .local)
    (hcb : ∀ x ∈ cl, x.2.2 = none ∨ (x.2.2 = (names.zip ds).lookup x.1 ∧ (fnScope (stAt i)).names.lookup x.1 = some .cell))
    (hco : (fnScope (stAt i)).isCoroutine = false) (hgen : (fnScope (stAt i)).isGenerator = false) (hk : (fnScope (stAt i)).kind = .function)
    (h : ∀ A L, Rm k A → H A.handled → Hs w A NoE (execs (fnBody (stAt i)) (envOfC (fnName (stAt i)) (fnScope (stAt i)) L fa (.ref c))) ((L, .fr lb) :: cellsAt L cl) (fun _ f => P (match f with | .ret d => d | _ => .none))) :
    Cn w H (k + 1) fa ds P := fun A E Z s vs hA hH t hO fz r => by
  have top : ∀ a ob, (H1 w.params).get? a = some ob → s.heap.get? a = some ob := fun a ob e => fz _ _ (t a ob e)
  have hl : vs.length = names.length := r.len.trans hlen
  have hndz : ((names.zip vs).map (·.1)).Nodup := by rw [List.map_fst_zip (by grind)]; exact hnd
  refine wpAny_call (call_cells_ret hA.room (top _ _ ho) hd ((noLim w.params).keeps top) (hc.keeps top) (hbind vs hl) (fun x hx => hkind _ _ (List.of_mem_zip hx).1) (fun h₁ tk F C => ?_) hco hgen hk)
  have k₁ := (start (hd := A.handled) t hO fz).cons (a := s.heap.objs.size) (i := .fr lb) (s' := { s with heap := h₁, toks := tk }) top_none F.keep (GE.refl _) rfl ⟨_, F.ns, fun x d e => by
    obtain ⟨e1, e2⟩ := hlb (x, d) (PySem.mem_of_lookup e)
    obtain ⟨v, hv, rv⟩ := zip_reads r x d e1
    exact ⟨v, bindL_spec hndz x v hv e2, rv⟩⟩
  have hlook : ∀ x ∈ cl, (cellsFrom (s.heap.objs.size + 1) (fnScope (stAt i)).names []).lookup x.1 = some (s.heap.objs.size + x.2.1) := by
    rw [hcl]
    clear h hlb hcb C hcl
    induction cl with
    | nil => intro x hx; cases hx
    | cons y r ih =>
      intro x hx
      rw [List.map_cons, List.nodup_cons] at hcn
      rw [List.map_cons, List.lookup_cons]
      rcases List.mem_cons.mp hx with rfl | hx
      · simp
      · have : (x.1 == y.1) = false := by
          rw [beq_eq_false_iff_ne]
          intro e
          exact hcn.1 (List.mem_map.mpr ⟨x, hx, e⟩)
        rw [this]
        exact ih hcn.2 x hx
  have hab : ∀ x ∈ cl, s.heap.objs.size < s.heap.objs.size + x.2.1 := fun x hx => C.above _ _ (PySem.mem_of_lookup (hlook x hx))
  have none_at : ∀ x ∈ cl, s.heap.get? (s.heap.objs.size + x.2.1) = none := fun x hx => by
    cases q : s.heap.get? (s.heap.objs.size + x.2.1) with
    | none => rfl
    | some o => exact absurd (Heap.lt_size q) (Nat.not_lt.mpr (Nat.le_add_right _ _))
  have k₂ : St w A.handled (here Z s) Z (cellsAt s.heap.objs.size cl ++ [(s.heap.objs.size, .fr lb)]) { s with heap := h₁, toks := tk } := by
    refine addCells (cm := bindC (envOfC (fnName (stAt i)) (fnScope (stAt i)) s.heap.objs.size fa (.ref c)).kindOf (names.zip vs) fun _ => none) k₁ (fun x hx => ?_) ?_
    · have z := (start (hd := A.handled) t hO fz).zlt (none_at x hx)
      refine ⟨C.cell _ _ (hlook x hx), fun d hd => ?_, z.1, z.2, fun p hp => ?_⟩
      · rcases hcb x hx with q | ⟨q, q2⟩
        · rw [q] at hd; cases hd
        · rw [hd] at q
          obtain ⟨v, hv, rv⟩ := zip_reads r x.1 d q.symm
          exact ⟨v, bindC_spec hndz x.1 v hv (by
            show (fnScope (stAt i)).names.lookup x.1 ≠ _
            rw [q2]; intro e; cases e), rv⟩
      · rcases List.mem_singleton.mp hp with rfl
        have := hab x hx
        show s.heap.objs.size ≠ _
        exact Nat.ne_of_lt (by assumption)
    · have := C.apart
      rw [hcl, List.pairwise_map] at this
      exact this
  refine wpAny_mono (h (A.deeper (envOfC (fnName (stAt i)) (fnScope (stAt i)) s.heap.objs.size fa (.ref c))) _ (hA.deeper _) hH _ _ _ (k₂.perm (by
    show (cellsAt s.heap.objs.size cl ++ [(s.heap.objs.size, It.fr lb)]).Perm ([(s.heap.objs.size, It.fr lb)] ++ cellsAt s.heap.objs.size cl)
    exact List.perm_append_comm))) (fun f s' q => ?_) fun _ _ f => f
  obtain ⟨Z', n', d, le, ge, k', rf, hp⟩ := q
  cases rf with
  | ret rv => exact ⟨Z', _, k'.drop (List.nil_sublist _), rv, hp⟩
  | _ => exact ⟨Z', .none, k'.drop (List.nil_sublist _), .none, hp⟩
end Mine
end
section -- Kz
open PySem PySem.W PyProof.Rows PySem.Calls
namespace Mine
theorem Rds.rep {Z : ZM} {xs : List Value} {l : List D} (r : Rds Z xs l) : ∀ k : Nat, Rds Z (List.replicate k xs).flatten (List.replicate k l).flatten
  | 0 => .nil
  | k + 1 => by rw [List.replicate_succ, List.replicate_succ, List.flatten_cons, List.flatten_cons]; exact r.append (r.rep k)
section
variable {w : World} {A : Around} {E : Value → Shared → Prop} {n : Led} {P : Led → D → Prop} {env : Env}
theorem mulRaw {F : Bs} {Z : ZM} {s : Shared} {l : Addr} {xs : List Value} {c : Nat} {x : Int} {u : Tok} {Q : Value → Shared → Prop} (_ : St w A.handled F Z n s) (hl : s.heap.get? l = some { cls := .type "list", dict := none, data := .seq xs.toArray c, slots := #[] }) (h0 : 0 ≤ x) (hz : xs.length * x.toNat ≤ 1000)
    (hx : x < 2 ^ 63) (h : Q (.ref s.heap.objs.size) { s with heap := s.heap.push { cls := .type "list", data := .seq (List.replicate x.toNat xs).flatten.toArray } }) : wpAny (Md w) A (binaryOp .Mult (.ref l) (.int x u)) Q E s := by
  have e := listMul_foldl_if xs.toArray x.toNat
  rw [← e] at h
  exact wpAny_binaryOp_repeat_ref (T := "list") (U := "int") (by decide) ⟨_, hl, rfl⟩ (fun s' => typeIs_int s' x u) noFill_list_mul PySem.F.fills_int_mul PySem.F.slot_int_rmul repeat_list PySem.F.slot_int_index.lookup
    (call_meets PySem.F.slot_int_rmul (typeIs_int s x u) PySem.F.entry_int_rmul (PySem.F.args_int_rmul_2 _ _) (int___rmul___int_list x u l xs.toArray c)
      ⟨hl, rfl, ⟨_, hl, rfl⟩, call_meets PySem.F.slot_list_mul ⟨_, hl, rfl⟩ PySem.F.entry_list_mul (PySem.F.args_list_mul_2 _ _)
        (AutoListH.list___mul___list_int_3 l xs.toArray c x u (by simp [Builtin.List.listFitsIndex]; omega) (by simp only [List.size_toArray]; omega) (by simp [Builtin.List.listTooLong, sizeLine]; omega))
        ⟨hl, h⟩⟩)
theorem mulL {a : List D} {x : Int} (h0 : 0 ≤ x) (hz : a.length * x.toNat ≤ 1000) (hx : x < 2 ^ 63) (h : P n (.lst (List.replicate x.toNat a).flatten)) : M2 w A E Rd (binaryOp .Mult) (.lst a) (.int x) n P := fun F Z s v u k r q => by
  (first | apply Rds.nE q | (apply Rd.iE q; intro _) | (apply Rd.sE q; intro _) | apply Rd.rE q | apply Rd.bE q | apply Rd.nE q | cases q)
  apply Rd.lE r; intro _ _ f r
  obtain ⟨c, f⟩ := f
  refine mulRaw k (k.fz _ _ f) h0 (by rw [r.len]; exact hz) hx ?_
  obtain ⟨Z', le, k', q'⟩ := freshSeq (T := "list") (xs := (List.replicate x.toNat _).flatten) k
  exact Po.at le (GE.refl _) k' (.lst q' ((r.rep _).up le)) h
theorem mulLO {a : List D} {x : Int} {p : Addr × It} (h0 : 0 ≤ x) (hz : a.length * x.toNat ≤ 1000) (hx : x < 2 ^ 63) (h : ∀ b, P (p :: (b, .lst (List.replicate x.toNat a).flatten) :: n) (.raw (.ref b))) : M2 w A E Rd (binaryOp .Mult) (.lst a) (.int x) (p :: n) P := fun F Z s v u k r q => by
  (first | apply Rds.nE q | (apply Rd.iE q; intro _) | (apply Rd.sE q; intro _) | apply Rd.rE q | apply Rd.bE q | apply Rd.nE q | cases q)
  apply Rd.lE r; intro l xs f r
  obtain ⟨c, f⟩ := f
  refine mulRaw k (k.fz _ _ f) h0 (by rw [r.len]; exact hz) hx ?_
  exact Po.at (Le.refl _) (GE.refl _) (k.own (i := .lst (List.replicate x.toNat a).flatten) (a := s.heap.objs.size) (s' := { s with heap := s.heap.push { cls := .type "list", data := .seq (List.replicate x.toNat xs).flatten.toArray } }) top_none (fun b o e => Heap.get?_push_of_some _ e) (GE.refl _) rfl ⟨_, ⟨_, Heap.get?_push_size _ rfl⟩, r.rep _⟩) (.raw _) (h _)
theorem setO {PU : Led → Unit → Prop} {a : Addr} {ds : List D} {l r : Led} {i : Int} {d : D} (hn : n = l ++ (a, .lst ds) :: r) (h0 : 0 ≤ i) (hf : i < 2 ^ 63) (hl : i < ds.length) (h : PU (l ++ (a, .lst (ds.set i.toNat d)) :: r) ()) : M3 w A E RU setItem (.raw (.ref a)) (.int i) d n PU := fun F Z s v u x k r₁ r₂ r₃ => by
  (first | apply Rds.nE r₁ | (apply Rd.iE r₁; intro _) | (apply Rd.sE r₁; intro _) | apply Rd.rE r₁ | apply Rd.bE r₁ | apply Rd.nE r₁ | cases r₁); (first | apply Rds.nE r₂ | (apply Rd.iE r₂; intro _) | (apply Rd.sE r₂; intro _) | apply Rd.rE r₂ | apply Rd.bE r₂ | apply Rd.nE r₂ | cases r₂)
  obtain ⟨⟨xs, ⟨c, hp⟩, rs⟩, _⟩ := k.nw (a, .lst ds) (by rw [hn]; simp)
  have hL : s.heap.IsList a xs.toArray := ⟨_, hp, rfl, c, rfl⟩
  unfold setItem
  try with_reducible refine wpAny_holding ?_
  first | refine wpAny_bind (wpAny_pure ?_) | skip
  refine wpAny_bind (wpAny_sequenceKey hL.typeIs (by decide) ?_)
  refine wpAny_bind (wpAny_callSpecial?_slot (name := Str.ofString "__setitem__") hL.typeIs slot_list_setitem
    (wpAny_call_entry slot_list_setitem hL.typeIs entry_list_setitem ?_ (args_list_setitem _ _ _)))
  show wpAny _ _ (Builtin.List.listSubscript? (.int i _) >>= _) _ _ s
  refine wpAny_bind (wpAny_listSubscript_int (fitsIndex_of h0 hf) ?_)
  obtain ⟨j, rfl⟩ := Int.eq_ofNat_of_zero_le h0
  have hlen := rs.len
  have hj : j < xs.toArray.size := by rw [List.size_toArray]; omega
  have hx' : xs.toArray[j]? = some xs.toArray[j] := Array.getElem?_eq_getElem hj
  show wpAny _ _ ((seqItemAt a j >>= fun r => pure (r.map (j, ·))) >>= _) _ _ s
  refine wpAny_bind (wpAny_bind (wpAny_seqItemAt hp rfl (wpAny_pure ?_)))
  rw [hx']
  show wpAny _ _ (setSeqItemAt a j x >>= _) _ _ s
  have hg := Heap.get?_update_self (Obj.mapSeq (·.setIfInBounds j x)) hp rfl
  refine wpAny_bind (wpAny_setSeqItemAt hp rfl ?_)
  have fin : Po w A.handled F RU PU Z s () { s with heap := s.heap.update a (Obj.mapSeq (·.setIfInBounds j x)) } :=
    Po.same rfl (k.turn (j := .lst (ds.set j d)) (s' := { s with heap := s.heap.update a (Obj.mapSeq (·.setIfInBounds j x)) }) hn ⟨xs.set j x, ⟨_, by rw [hg]; simp [Obj.mapSeq]; rfl⟩, rs.set r₃ j⟩ (fun b o hb e => (Heap.SameBut.update ..).extBut b o hb e) (GE.refl _) rfl) trivial (by simpa using h)
  first
    | exact wpAny_bind (wpAny_pure (wpAny_pure ⟨.none, rfl, wpAny_pure fin⟩))
    | exact wpAny_pure ⟨.none, rfl, wpAny_pure fin⟩
theorem EqI {Z : ZM} {v u : Value} {a b : Int} {A : Around} {s : Shared} (r : Rd Z v (.int a)) (q : Rd Z u (.int b)) : SeqAt.EqAt A s v u (a == b) := by
  (first | apply Rds.nE r | (apply Rd.iE r; intro _) | (apply Rd.sE r; intro _) | apply Rd.rE r | apply Rd.bE r | apply Rd.nE r | cases r); (first | apply Rds.nE q | (apply Rd.iE q; intro _) | (apply Rd.sE q; intro _) | apply Rd.rE q | apply Rd.bE q | apply Rd.nE q | cases q); exact SeqAt.EqAt.int_int _ _ _ _
theorem EqS {Z : ZM} {v u : Value} {a b : Str} {A : Around} {s : Shared} (r : Rd Z v (.str a)) (q : Rd Z u (.str b)) : SeqAt.EqAt A s v u (a == b) := by
  (first | apply Rds.nE r | (apply Rd.iE r; intro _) | (apply Rd.sE r; intro _) | apply Rd.rE r | apply Rd.bE r | apply Rd.nE r | cases r); (first | apply Rds.nE q | (apply Rd.iE q; intro _) | (apply Rd.sE q; intro _) | apply Rd.rE q | apply Rd.bE q | apply Rd.nE q | cases q); exact SeqAt.EqAt.str_str _ _ _ _
theorem neLst {α : Type} [BEq α] [LawfulBEq α] {ι : α → D} {a b : List α} (hE : ∀ {Z : ZM} {v u : Value} {x y : α} {A : Around} {s : Shared}, Rd Z v (ι x) → Rd Z u (ι y) → SeqAt.EqAt A s v u (x == y)) {k : Nat} (hA : Rm k A) (h : P n (.bool (a != b))) :
    M2 w A E Rd (compareOp .NotEq) (.lst (a.map ι)) (.lst (b.map ι)) n P := fun F Z s v u k r q => by
  apply Rd.lE r; intro l xs f r
  apply Rd.lE q; intro m ys g q
  have e1 := r.len
  have e2 := q.len
  rw [List.length_map] at e1 e2
  show wpAny (Md w) A (richCompare .NotEq (.ref l) (.ref m)) _ E s
  by_cases hs : a.length = b.length
  · have hsz : xs.toArray.size = ys.toArray.size := by simp only [List.size_toArray]; omega
    have key := SeqAt.RcNeAt.lists (A := A) (s := s) (e := fun j => match a[j]?, b[j]? with | some x, some y => x == y | _, _ => true) (f.list k) (g.list k) hsz hA.cl (fun j h1 h2 => by
      have j1 : j < a.length := by simp only [List.size_toArray] at h1; omega
      have j2 : j < b.length := by omega
      obtain ⟨v, hv, rv⟩ := r.get (i := j) (d := ι a[j]) (by simp [j1])
      obtain ⟨u, hu, ru⟩ := q.get (i := j) (d := ι b[j]) (by simp [j2])
      have v1 : xs.toArray[j] = v := by
        have : xs.toArray[j]? = some v := by simpa using hv
        rw [Array.getElem?_eq_getElem h1] at this; injection this
      have v2 : ys.toArray[j] = u := by
        have : ys.toArray[j]? = some u := by simpa using hu
        rw [Array.getElem?_eq_getElem h2] at this; injection this
      rw [v1, v2, List.getElem?_eq_getElem j1, List.getElem?_eq_getElem j2]
      exact hE rv ru)
    refine key _ _ _ _ ?_
    have : (!(List.range xs.toArray.size).all fun j => match a[j]?, b[j]? with | some x, some y => x == y | _, _ => true) = (a != b) := by
      rw [List.size_toArray, e1]
      show _ = !(a == b)
      congr 1
      rw [Bool.eq_iff_iff, List.all_eq_true, beq_iff_eq]
      constructor
      · intro h
        apply List.ext_getElem hs
        intro j h1 h2
        have := h j (List.mem_range.mpr h1)
        rw [List.getElem?_eq_getElem h1, List.getElem?_eq_getElem h2] at this
        exact beq_iff_eq.mp this
      · rintro rfl j hj
        rw [List.getElem?_eq_getElem (List.mem_range.mp hj)]
        simp
    rw [this]
    exact Po.here k (.bool _) h
  · refine SeqAt.RcNeAt.lists_lengths (f.list k) (g.list k) (by simp only [List.size_toArray, bne_iff_ne]; omega) hA.cl _ _ _ _ ?_
    have : (a != b) = true := by rw [bne_iff_ne]; intro e; exact hs (congrArg List.length e)
    rw [this] at h
    exact Po.here k (.bool _) h
theorem neLS {a b : List Str} {k : Nat} (hA : Rm k A) (h : P n (.bool (a != b))) : M2 w A E Rd (compareOp .NotEq) (.lst (a.map D.str)) (.lst (b.map D.str)) n P := neLst EqS hA h
theorem inLI {l : List Int} {x : Int} (h : P n (.bool (l.contains x))) : M2 w A E Rd (compareOp .In) (.int x) (.lst (l.map D.int)) n P := fun F Z s v u k r q => by
  (first | apply Rds.nE r | (apply Rd.iE r; intro _) | (apply Rd.sE r; intro _) | apply Rd.rE r | apply Rd.bE r | apply Rd.nE r | cases r)
  apply Rd.lE q; intro m ys g q
  obtain ⟨ps, rfl, rfl⟩ := intVals q
  refine SeqAt.in_listAt (fun y => match y with | .int i _ => i == x | _ => false) (g.list k) (fun y hy => ?_) ?_
  · simp only [List.mem_toArray, List.mem_map] at hy
    obtain ⟨p, _, rfl⟩ := hy
    exact SeqAt.EqAt.int_int _ _ _ _
  · have : ((ps.map fun p => Value.int p.1 p.2).toArray.any fun y => match y with | .int i _ => i == x | _ => false) = (ps.map (·.1)).contains x := by
      rw [List.any_toArray, List.any_map, List.contains_eq_any_beq, List.any_map]
      congr 1
      funext p
      simp only [Function.comp]
      exact Bool.eq_iff_iff.mpr ⟨fun h => by rw [beq_iff_eq] at h ⊢; exact h.symm, fun h => by rw [beq_iff_eq] at h ⊢; exact h.symm⟩
    rw [this]
    exact Po.here k (.bool _) h
end
end Mine
end
section -- La
open PySem PySem.W PyProof.Rows PySem.Calls
namespace Mine
noncomputable abbrev natD : List Nat → List D := fun l => l.map fun c : Nat => D.int c
open SeqAt AutoSeq1 in
theorem tuple_gt_si (l b : Addr) (x : Str) (t : Tok) (i : Int) (u : Tok) (y : Str) (t' : Tok) (j : Int) (u' : Tok) (n n2 : Nat) :
    Meets (Builtin.«tuple.__gt__» ⟨[.ref l, .ref b], []⟩)
      (fun _ R s => s.heap.get? l = some { cls := .type "tuple", dict := none, data := .seq #[.str x t, .int i u] n, slots := #[] } ∧ s.heap.get? b = some { cls := .type "tuple", dict := none, data := .seq #[.str y t', .int j u'] n2, slots := #[] } ∧
        R (.ok (.ret (.bool (if x == y then decide (j < i) else decide (y.cps.toList < x.cps.toList))))) s) :=
  .of_wp fun prog w A R s h => by
    obtain ⟨hp, g, d, tk, os⟩ := s; obtain ⟨hl, hb, h⟩ := h
    have f2 := AutoSeq1.sub_tuple_tuple
    wp_walk using AutoSeq1.wpAny_loadPart' hl, AutoSeq1.wpAny_loadPart' hb
    refine (show wpAny (model prog w) A.in1 (eqBool (.str x t) (.str y t')) _ _ _ from SeqAt.EqAt.str_str x t y t' prog w _ _ ?_)
    cases hxy : x == y with
    | false =>
      rw [hxy, if_neg Bool.false_ne_true] at h
      show wpAny (model prog w) A.in1 (rule "tuple.compare.by-the-first-pair-that-differs" >>= _) _ _ _
      refine wpAny_bind (wpAny_rule (wpAny_bind (show wpAny (model prog w) A.in1 (compareOp .Gt (.str x t) (.str y t')) _ _ _ from PySem.P.gt_str ?_)))
      wp_walk
      exact ⟨_, rfl, h⟩
    | true =>
      rw [hxy, if_pos rfl] at h
      wp_walk
      refine (show wpAny (model prog w) A.in1 (eqBool (.int i u) (.int j u')) _ _ _ from SeqAt.EqAt.int_int i u j u' prog w _ _ ?_)
      cases hij : i == j with
      | false =>
        show wpAny (model prog w) A.in1 (rule "tuple.compare.by-the-first-pair-that-differs" >>= _) _ _ _
        refine wpAny_bind (wpAny_rule (wpAny_bind (show wpAny (model prog w) A.in1 (compareOp .Gt (.int i u) (.int j u')) _ _ _ from PyProof.Rows.gt_int ?_)))
        wp_walk
        exact ⟨_, rfl, h⟩
      | true =>
        have e := beq_iff_eq.mp hij
        subst e
        wp_walk
        refine ⟨_, rfl, ?_⟩
        have : decide (i < i) = false := by simp
        rw [this] at h
        exact h
section
variable {w : World} {A : Around} {E : Value → Shared → Prop} {n : Led} {P : Led → D → Prop} {env : Env}
/-- what a pair of a str and an int is beside another -/
noncomputable def gtSI (x : Str) (i : Int) (y : Str) (j : Int) : Bool := if x == y then decide (j < i) else decide (y.cps.toList < x.cps.toList)
theorem gtT {x y : Str} {i j : Int} {k : Nat} (hA : Rm k A) (h : P n (.bool (gtSI x i y j))) : M2 w A E Rd (compareOp .Gt) (.tup [.str x, .int i]) (.tup [.str y, .int j]) n P := fun F Z s v u k r q => by
  apply Rd.tE r; intro a xs f r
  apply Rd.tE q; intro b ys g q
  revert f g
  apply Rds.cE r; intro _ _ r1 r
  apply Rds.cE r; intro _ _ r2 r
  apply Rds.nE r
  apply Rd.sE r1; intro t
  apply Rd.iE r2; intro t₁
  apply Rds.cE q; intro _ _ q1 q
  apply Rds.cE q; intro _ _ q2 q
  apply Rds.nE q
  apply Rd.sE q1; intro t₂
  apply Rd.iE q2; intro t₃
  intro f g
  obtain ⟨m, f⟩ := f
  obtain ⟨m', g⟩ := g
  have ha := k.fz _ _ f
  have hb := k.fz _ _ g
  show wpAny (Md w) A (richCompare .Gt (.ref a) (.ref b)) _ E s
  exact richCompare_meets_room (op := .Gt) ⟨_, ha, rfl⟩ ⟨_, hb, rfl⟩ PySem.F.slot_tuple_gt PySem.F.entry_tuple_gt (PySem.F.args_tuple_gt_2 _ _) (tuple_gt_si a b x _ i _ y _ j _ m m')
    ⟨ha, hb, (fun e => nomatch e), Po.here k (.bool _) h⟩ hA.cl
noncomputable abbrev uC3 (w : World) (A : Around) (E : Value → Shared → Prop) (env : Env) (r₂ : Expr) (op₂ : CmpOp) (PB : Led → Bool → Prop) (b : D) : Led → Bool → Prop := fun n c => if c = true then Hv w A E (eval r₂ env) n (uM w A E (compareOp op₂) (uB PB) b) else PB n false
noncomputable abbrev uC2 (w : World) (A : Around) (E : Value → Shared → Prop) (env : Env) (r₂ : Expr) (op₁ op₂ : CmpOp) (PB : Led → Bool → Prop) (a : D) : Led → D → Prop := fun n b => M2 w A E Rd (compareOp op₁) a b n (uB (uC3 w A E env r₂ op₂ PB b))
noncomputable abbrev uC1 (w : World) (A : Around) (E : Value → Shared → Prop) (env : Env) (r₁ r₂ : Expr) (op₁ op₂ : CmpOp) (PB : Led → Bool → Prop) : Led → D → Prop := fun n a => Hv w A E (eval r₁ env) n (uC2 w A E env r₂ op₁ op₂ PB a)
theorem trC2 {l r₁ r₂ : Expr} {op₁ op₂ : CmpOp} {pos : Pos} {wh : Sem Value} {PB : Led → Bool → Prop} (hm : lastMarks [op₁, op₂] [r₁, r₂] = false)
    (h : Hv w A E (eval l env) n (uC1 w A E env r₁ r₂ op₁ op₂ PB)) :
    Hb w A E (isTrue (.Compare l [op₁, op₂] [r₁, r₂] pos) env wh) n PB := fun F Z s k => by
  refine isTrue_chain (Po.map (h F Z s k) fun v₁ d₁ n₁ Z₁ s₁ le₁ ge₁ k₁ q₁ h₁ => test_link (Po.map (h₁ F Z₁ s₁ k₁) fun v₂ d₂ n₂ Z₂ s₂ le₂ ge₂ k₂ q₂ h₂ => Po.map (h₂ F Z₂ s₂ _ _ k₂ (q₁.up le₂) q₂) fun v₃ d₃ n₃ Z₃ s₃ le₃ ge₃ k₃ q₃ h₃ => ?_)) hm
  obtain ⟨c, rfl, h₃⟩ := h₃
  (first | apply Rds.nE q₃ | (apply Rd.iE q₃; intro _) | (apply Rd.sE q₃; intro _) | apply Rd.rE q₃ | apply Rd.bE q₃ | apply Rd.nE q₃ | cases q₃)
  refine wpAny_truthy_bool ?_
  cases c with
  | false => exact Po.at ((le₁.trans le₂).trans le₃) ((ge₁.trans ge₂).trans ge₃) k₃ rfl h₃
  | true =>
    refine test_last (Po.map (h₃ F Z₃ s₃ k₃) fun v₄ d₄ n₄ Z₄ s₄ le₄ ge₄ k₄ q₄ h₄ => Po.map (h₄ F Z₄ s₄ _ _ k₄ (q₂.up (le₃.trans le₄)) q₄) fun v₅ d₅ n₅ Z₅ s₅ le₅ ge₅ k₅ q₅ h₅ => ?_)
    obtain ⟨c', rfl, h₅⟩ := h₅
    (first | apply Rds.nE q₅ | (apply Rd.iE q₅; intro _) | (apply Rd.sE q₅; intro _) | apply Rd.rE q₅ | apply Rd.bE q₅ | apply Rd.nE q₅ | cases q₅)
    exact wpAny_truthy_bool (Po.at ((((le₁.trans le₂).trans le₃).trans le₄).trans le₅) ((((ge₁.trans ge₂).trans ge₃).trans ge₄).trans ge₅) k₅ rfl h₅)
theorem EqN {Z : ZM} {v u : Value} {a b : Nat} {A : Around} {s : Shared} (r : Rd Z v (.int a)) (q : Rd Z u (.int b)) : SeqAt.EqAt A s v u (a == b) := by
  have := EqI (A := A) (s := s) r q
  have e : ((a : Int) == (b : Int)) = (a == b) := by
    rw [Bool.eq_iff_iff, beq_iff_eq, beq_iff_eq]; omega
  rwa [e] at this
theorem neLN {a b : List Nat} {k : Nat} (hA : Rm k A) (h : P n (.bool (a != b))) : M2 w A E Rd (compareOp .NotEq) (.lst (natD a)) (.lst (natD b)) n P := neLst EqN hA h
theorem setON {PU : Led → Unit → Prop} {a : Addr} {ds : List D} {l r : Led} {i : Int} {d : D} (hn : n = l ++ (a, .lst ds) :: r) (h0 : i < 0) (hf : -(2 ^ 63) ≤ i) (hl : -(ds.length : Int) ≤ i) (h : PU (l ++ (a, .lst (ds.set (i + ds.length).toNat d)) :: r) ()) : M3 w A E RU setItem (.raw (.ref a)) (.int i) d n PU := fun F Z s v u x k r₁ r₂ r₃ => by
  (first | apply Rds.nE r₁ | (apply Rd.iE r₁; intro _) | (apply Rd.sE r₁; intro _) | apply Rd.rE r₁ | apply Rd.bE r₁ | apply Rd.nE r₁ | cases r₁); (first | apply Rds.nE r₂ | (apply Rd.iE r₂; intro _) | (apply Rd.sE r₂; intro _) | apply Rd.rE r₂ | apply Rd.bE r₂ | apply Rd.nE r₂ | cases r₂)
  obtain ⟨⟨xs, ⟨c, hp⟩, rs⟩, _⟩ := k.nw (a, .lst ds) (by rw [hn]; simp)
  have hL : s.heap.IsList a xs.toArray := ⟨_, hp, rfl, c, rfl⟩
  unfold setItem
  try with_reducible refine wpAny_holding ?_
  first | refine wpAny_bind (wpAny_pure ?_) | skip
  refine wpAny_bind (wpAny_sequenceKey hL.typeIs (by decide) ?_)
  refine wpAny_bind (wpAny_callSpecial?_slot (name := Str.ofString "__setitem__") hL.typeIs slot_list_setitem
    (wpAny_call_entry slot_list_setitem hL.typeIs entry_list_setitem ?_ (args_list_setitem _ _ _)))
  show wpAny _ _ (Builtin.List.listSubscript? (.int i _) >>= _) _ _ s
  refine wpAny_bind (wpAny_listSubscript_int (fitsIndex_neg h0 hf) ?_)
  have hlen := rs.len
  have hidx := seqIndex_neg (k := i) (n := xs.toArray.size) h0 (by rw [List.size_toArray, hlen]; exact hl)
  obtain ⟨q, rfl⟩ : ∃ j : Nat, i = Int.negSucc j := by
    cases i with
    | ofNat n => exact absurd h0 (Int.not_lt.mpr (Int.natCast_nonneg n))
    | negSucc n => exact ⟨n, rfl⟩
  generalize hj : (Int.negSucc q + (xs.toArray.size : Int)).toNat = j at hidx
  have hjl : j < xs.toArray.size := by rw [← hj, List.size_toArray, hlen]; omega
  have hj' : (Int.negSucc q + (ds.length : Int)).toNat = j := by rw [← hj, List.size_toArray, hlen]
  rw [hj'] at h
  have hx' : xs.toArray[j]? = some xs.toArray[j] := Array.getElem?_eq_getElem hjl
  show wpAny _ _ ((Builtin.List.listItems (.ref a) >>= fun xs => pure ((seqIndex? (Int.negSucc q) xs.size).bind fun i => xs[i]?.map (i, ·))) >>= _) _ _ s
  refine wpAny_bind (wpAny_bind ?_)
  show wpAny _ _ (seqItems? (.ref a) >>= _) _ _ s
  refine wpAny_bind (wpAny_seqItems hp rfl (wpAny_pure (wpAny_pure ?_)))
  rw [hidx]
  simp only [Option.bind_some, hx', Option.map_some]
  show wpAny _ _ (setSeqItemAt a j x >>= _) _ _ s
  have hg := Heap.get?_update_self (Obj.mapSeq (·.setIfInBounds j x)) hp rfl
  refine wpAny_bind (wpAny_setSeqItemAt hp rfl ?_)
  have fin : Po w A.handled F RU PU Z s () { s with heap := s.heap.update a (Obj.mapSeq (·.setIfInBounds j x)) } :=
    Po.same rfl (k.turn (j := .lst (ds.set j d)) (s' := { s with heap := s.heap.update a (Obj.mapSeq (·.setIfInBounds j x)) }) hn ⟨xs.set j x, ⟨_, by rw [hg]; simp [Obj.mapSeq]; rfl⟩, rs.set r₃ j⟩ (fun b o hb e => (Heap.SameBut.update ..).extBut b o hb e) (GE.refl _) rfl) trivial h
  first
    | exact wpAny_bind (wpAny_pure (wpAny_pure ⟨.none, rfl, wpAny_pure fin⟩))
    | exact wpAny_pure ⟨.none, rfl, wpAny_pure fin⟩
end
end Mine
end
section -- Lb
open PySem PySem.W PyProof.Rows PySem.Calls
namespace Mine
/-- one entry of a ledger is turned -/
noncomputable def Upd (n : Led) (c : Addr) (i j : It) (n' : Led) : Prop := ∃ l r, n = l ++ (c, i) :: r ∧ n' = l ++ (c, j) :: r
theorem Upd.here {c : Addr} {i j : It} {r : Led} : Upd ((c, i) :: r) c i j ((c, j) :: r) := ⟨[], r, rfl, rfl⟩
theorem Upd.there {c : Addr} {i j : It} {x : Addr × It} {n n' : Led} (h : Upd n c i j n') : Upd (x :: n) c i j (x :: n') := let ⟨l, r, e, e'⟩ := h; ⟨x :: l, r, by rw [e]; rfl, by rw [e']; rfl⟩
/-- one entry of a ledger is taken away -/
noncomputable def Del (n : Led) (c : Addr) (i : It) (n' : Led) : Prop := ∃ l r, n = l ++ (c, i) :: r ∧ n' = l ++ r
theorem Del.here {c : Addr} {i : It} {r : Led} : Del ((c, i) :: r) c i r := ⟨[], r, rfl, rfl⟩
theorem Del.there {c : Addr} {i : It} {x : Addr × It} {n n' : Led} (h : Del n c i n') : Del (x :: n) c i (x :: n') := let ⟨l, r, e, e'⟩ := h; ⟨x :: l, r, by rw [e]; rfl, by rw [e']; rfl⟩
section
variable {w : World} {A : Around} {E : Value → Shared → Prop} {n n' : Led} {PU : Led → Unit → Prop} {P : Led → D → Prop} {env : Env}
theorem stCU {c : Addr} {x : Str} {c₀ : Option D} {d : D} (hk : env.scope.kind = .function) (hl : env.kindOf x = some .cell) (hc : env.cells.lookup x = some c) (hn : Upd n c (.cell c₀) (.cell (some d)) n') (h : PU n' ()) : M1 w A E RU (storeName env x) d n PU := by
  obtain ⟨l, r, e, rfl⟩ := hn
  exact stC hk hl hc e h
theorem mAppU {a : Addr} {acc : List D} {y : D} (hn : Upd n a (.lst acc) (.lst (acc ++ [y])) n') (hs : acc.length ≤ 1000) (h : P n' .none) : ML w A E Rd (fun vs => call (.builtin "list.append") vs) [.raw (.ref a), y] n P := by
  obtain ⟨l, r, e, rfl⟩ := hn
  exact mAppend e (szl hs) h
theorem setU {a : Addr} {ds : List D} {i : Int} {d : D} (hn : Upd n a (.lst ds) (.lst (ds.set i.toNat d)) n') (h0 : 0 ≤ i) (hf : i < 2 ^ 63) (hl : i < ds.length) (h : PU n' ()) : M3 w A E RU setItem (.raw (.ref a)) (.int i) d n PU := by
  obtain ⟨l, r, e, rfl⟩ := hn
  exact setO e h0 hf hl h
theorem setUN {a : Addr} {ds : List D} {i : Int} {d : D} (hn : Upd n a (.lst ds) (.lst (ds.set (i + ds.length).toNat d)) n') (h0 : i < 0) (hf : -(2 ^ 63) ≤ i) (hl : -(ds.length : Int) ≤ i) (h : PU n' ()) : M3 w A E RU setItem (.raw (.ref a)) (.int i) d n PU := by
  obtain ⟨l, r, e, rfl⟩ := hn
  exact setON e h0 hf hl h
theorem frzU {α δ : Type} {R : ZM → α → δ → Prop} {m : Sem α} {P : Led → δ → Prop} {L a : Addr} {b : Binds} {ds : List D} {r r' : Led} (x : Str) (hx : b.lookup x = some (.raw (.ref a))) (hn : Del r a (.lst ds) r')
    (h : Hm w A E R m ((L, .fr (put b x (.lst ds))) :: r') P) : Hm w A E R m ((L, .fr b) :: r) P := by
  obtain ⟨l, q, rfl, rfl⟩ := hn
  exact frz x rfl hx h
end
end Mine
end
section -- Lc
open PySem PySem.W PyProof.Rows PySem.Calls
namespace Mine
/-- a comprehension of two clauses, the first without a test -/
noncomputable def CompP2 (w : World) (A : Around) (t₁ t₂ iter₂ elt : Expr) (ifs₂ : List Expr) (env : Env) (P : Led → List D → Prop) : List D → List D → Led → Prop
  | [], acc, n => P n acc
  | d :: r, acc, n => M1 w A NoE RU (assign t₁ env) d n fun n₁ _ => Hv w A NoE (eval iter₂ env) n₁ fun n₂ e => ∃ l₂, Items e l₂ ∧ acc.length + l₂.length ≤ sizeLine ∧
      CompP w A t₂ elt ifs₂ env (fun n₃ acc' => CompP2 w A t₁ t₂ iter₂ elt ifs₂ env P r acc' n₃) l₂ acc n₂
theorem compTurn_in (elt t₁ iter₁ target iter : Expr) (ifs : List Expr) (scope : Scope) (pos : Pos) (it acc : Value) (env : Env) :
    compTurn (.ListComp elt [⟨t₁, iter₁, [], 0⟩, ⟨target, iter, ifs, 0⟩] scope pos) 1 it acc env = (do
      standAt iter.pos
      match ← pyNext it with
      | none => pure (.done .next)
      | some v =>
        letOwnedTupleGo target it v
        assign target env v
        let mut ok := true
        for c in ifs do
          if ok then ok ← isTrue c env (eval c env)
        if ok then
          (do let _ ← call (.builtin "list.append") [acc, ← eval elt env])
        again (.compLoop (.ListComp elt [⟨t₁, iter₁, [], 0⟩, ⟨target, iter, ifs, 0⟩] scope pos) 1 it acc env)) := by rfl
theorem compTurn_out (elt t₁ iter₁ target iter : Expr) (ifs : List Expr) (scope : Scope) (pos : Pos) (it acc : Value) (env : Env) :
    compTurn (.ListComp elt [⟨t₁, iter₁, [], 0⟩, ⟨target, iter, ifs, 0⟩] scope pos) 0 it acc env = (do
      standAt iter₁.pos
      match ← pyNext it with
      | none => pure (.done .next)
      | some v =>
        letOwnedTupleGo t₁ it v
        assign t₁ env v
        let x ← eval iter env
        standAt iter.pos
        let x ← foldedSetIterable iter env x
        let _ ← runOwn (.compStart (.ListComp elt [⟨t₁, iter₁, [], 0⟩, ⟨target, iter, ifs, 0⟩] scope pos) 1 (← holding [x] (pyIter x)) acc env) env
        again (.compLoop (.ListComp elt [⟨t₁, iter₁, [], 0⟩, ⟨target, iter, ifs, 0⟩] scope pos) 0 it acc env)) := by rfl
section
variable {w : World} {A : Around} {E : Value → Shared → Prop} {n : Led} {env : Env}
theorem codeAny_compStart_in {elt t₁ iter₁ target iter : Expr} {ifs : List Expr} {scope : Scope} {pos : Pos} {it acc : Value} {R : Result → Shared → Prop} {s : Shared}
    (h0 : codeAny (Md w) A (.compLoop (.ListComp elt [⟨t₁, iter₁, [], 0⟩, ⟨target, iter, ifs, 0⟩] scope pos) 1 it acc env) R s)
    (h : wpAny (Md w) A (pyIter it) (fun it' s' => codeAny (Md w) A (.compLoop (.ListComp elt [⟨t₁, iter₁, [], 0⟩, ⟨target, iter, ifs, 0⟩] scope pos) 1 it' acc env) R s')
      (notedBy (Md w) A env fun x s' => R (.error x) s') s) :
    codeAny (Md w) A (.compStart (.ListComp elt [⟨t₁, iter₁, [], 0⟩, ⟨target, iter, ifs, 0⟩] scope pos) 1 it acc env) R s := by
  refine codeAny_of_tree ?_
  show wpAny _ _ ((compStart (.ListComp elt [⟨t₁, iter₁, [], 0⟩, ⟨target, iter, ifs, 0⟩] scope pos) 1 it acc env).onRaise (fun x => do noteFrame x env; standAt theWindowsPlace)) _ _ s
  refine wpAny_notedAt ?_
  unfold compStart
  show wpAny _ _ (ask >>= _) _ _ s
  refine wpAny_bind (wpAny_askSetting (wpAny_ite ?_))
  split
  · first
      | exact wpAny_bind (wpAny_pure (wpAny_pure (And.intro rfl h0)))
      | exact wpAny_pure (And.intro rfl h0)
  · first
      | exact wpAny_bind (wpAny_rule (wpAny_bind (wpAny_standAt (wpAny_bind (wpAny_mono h (fun it' s' h' => wpAny_pure (And.intro rfl h')) fun _ _ x => x)))))
      | (refine wpAny_bind (wpAny_rule ?_); show wpAny _ _ (standAt iter.pos >>= _) _ _ s; exact wpAny_bind (wpAny_standAt (wpAny_bind (wpAny_mono h (fun it' s' h' => wpAny_pure (And.intro rfl h')) fun _ _ x => x))))
theorem compLoopIn {elt t₁ iter₁ target iter : Expr} {ifs : List Expr} {scope : Scope} {pos : Pos} {it a : Addr} {P : Led → List D → Prop} {R : Result → Shared → Prop} {F : Bs} {Z : ZM} {s : Shared}
    (hR : ∀ Z' n' acc s', Le Z Z' → GE s.gens s'.gens → St w A.handled F Z' ((a, .lst acc) :: n') s' → P n' acc → R (.ok .next) s') :
    ∀ (l acc : List D) (n : Led) (Z₁ : ZM) (s₁ : Shared), acc.length + l.length ≤ sizeLine → Le Z Z₁ → GE s.gens s₁.gens → St w A.handled F Z₁ ((it, .iter l) :: (a, .lst acc) :: n) s₁ → CompP w A target elt ifs env P l acc n →
      codeAny (Md w) A (.compLoop (.ListComp elt [⟨t₁, iter₁, [], 0⟩, ⟨target, iter, ifs, 0⟩] scope pos) 1 (.ref it) (.ref a) env) R s₁
  | [], acc, n, Z₁, s₁, hsz, le, ge, k, h => by
    refine codeAny_of_tree ?_
    show wpAny _ A ((compTurn (.ListComp elt [⟨t₁, iter₁, [], 0⟩, ⟨target, iter, ifs, 0⟩] scope pos) 1 (.ref it) (.ref a) env).onRaise (fun x => do noteFrame x env; theTreesLotGoes x)) _ _ s₁
    refine wpAny_noted ?_
    rw [compTurn_in]
    exact wpAny_bind (wpAny_standAt (wpAny_bind (next_end' k rfl fun s' k' hg => wpAny_pure (hR _ _ _ _ le (by rw [hg]; exact ge) k' h))))
  | d :: l, acc, n, Z₁, s₁, hsz, le, ge, k, h => by
    refine codeAny_of_tree ?_
    show wpAny _ A ((compTurn (.ListComp elt [⟨t₁, iter₁, [], 0⟩, ⟨target, iter, ifs, 0⟩] scope pos) 1 (.ref it) (.ref a) env).onRaise (fun x => do noteFrame x env; theTreesLotGoes x)) _ _ s₁
    refine wpAny_noted ?_
    rw [compTurn_in]
    rw [List.length_cons] at hsz
    refine wpAny_bind (wpAny_standAt (wpAny_bind (next_item k rfl fun v s₂ k₂ rv hg => ?_)))
    refine wpAny_bind (lotg k₂ ?_)
    obtain ⟨F', k₃, back⟩ := k₂.hide2
    refine wpAny_bind (wpAny_mono (h F' Z₁ s₂ v k₃ rv) (fun _ s₄ h₄ => ?_) fun _ _ f => f.elim)
    obtain ⟨Z₄, n₄, _, le₄, ge₄, k₄, _, h₄⟩ := h₄
    refine wpAny_bind (wpAny_mono (h₄ F' Z₄ s₄ k₄) (fun ok s₅ h₅ => ?_) fun _ _ f => f.elim)
    obtain ⟨Z₅, n₅, ok', le₅, ge₅, k₅, (rfl : ok = ok'), h₅⟩ := h₅
    have gg : GE s.gens s₅.gens := (ge.trans (by rw [← hg]; exact ge₄)).trans ge₅
    have ll := le₄.trans le₅
    cases ok with
    | false =>
      rw [if_neg Bool.false_ne_true] at h₅ ⊢
      exact wpAny_pure ⟨rfl, compLoopIn hR l acc n₅ Z₅ s₅ (by exact Nat.le_of_lt (by assumption)) (le.trans ll) gg (back _ _ _ ll k₅) h₅⟩
    | true =>
      rw [if_pos rfl] at h₅ ⊢
      refine wpAny_bind (wpAny_bind (wpAny_mono (h₅ F' Z₅ s₅ k₅) (fun x s₆ h₆ => ?_) fun _ _ f => f.elim))
      obtain ⟨Z₆, n₆, y, le₆, ge₆, k₆, ry, h₆⟩ := h₆
      have lll := ll.trans le₆
      have k₇ := (back _ _ _ lll k₆).perm (.swap _ _ _)
      refine wpAny_bind (appendO (by grind) k₇ ry fun s₇ k₈ hg₇ => wpAny_pure (wpAny_pure ⟨rfl, ?_⟩))
      exact compLoopIn hR l (acc ++ [y]) n₆ Z₆ s₇ (by simp; lia) (le.trans lll) (by rw [hg₇]; exact gg.trans ge₆) (k₈.perm (.swap _ _ _)) h₆
theorem compLoopOut {elt t₁ iter₁ target iter : Expr} {ifs : List Expr} {scope : Scope} {pos : Pos} {it a : Addr} {P : Led → List D → Prop} {R : Result → Shared → Prop} {F : Bs} {Z : ZM} {s : Shared} (hs : ∀ x, foldedSetIterable iter env x = pure x)
    (hR : ∀ Z' n' acc s', Le Z Z' → GE s.gens s'.gens → St w A.handled F Z' ((a, .lst acc) :: n') s' → P n' acc → R (.ok .next) s') :
    ∀ (l acc : List D) (n : Led) (Z₁ : ZM) (s₁ : Shared), Le Z Z₁ → GE s.gens s₁.gens → St w A.handled F Z₁ ((it, .iter l) :: (a, .lst acc) :: n) s₁ → CompP2 w A t₁ target iter elt ifs env P l acc n →
      codeAny (Md w) A (.compLoop (.ListComp elt [⟨t₁, iter₁, [], 0⟩, ⟨target, iter, ifs, 0⟩] scope pos) 0 (.ref it) (.ref a) env) R s₁
  | [], acc, n, Z₁, s₁, le, ge, k, h => by
    refine codeAny_of_tree ?_
    show wpAny _ A ((compTurn (.ListComp elt [⟨t₁, iter₁, [], 0⟩, ⟨target, iter, ifs, 0⟩] scope pos) 0 (.ref it) (.ref a) env).onRaise (fun x => do noteFrame x env; theTreesLotGoes x)) _ _ s₁
    refine wpAny_noted ?_
    rw [compTurn_out]
    exact wpAny_bind (wpAny_standAt (wpAny_bind (next_end' k rfl fun s' k' hg => wpAny_pure (hR _ _ _ _ le (by rw [hg]; exact ge) k' h))))
  | d :: l, acc, n, Z₁, s₁, le, ge, k, h => by
    refine codeAny_of_tree ?_
    show wpAny _ A ((compTurn (.ListComp elt [⟨t₁, iter₁, [], 0⟩, ⟨target, iter, ifs, 0⟩] scope pos) 0 (.ref it) (.ref a) env).onRaise (fun x => do noteFrame x env; theTreesLotGoes x)) _ _ s₁
    refine wpAny_noted ?_
    rw [compTurn_out]
    refine wpAny_bind (wpAny_standAt (wpAny_bind (next_item k rfl fun v s₂ k₂ rv hg => ?_)))
    refine wpAny_bind (lotg k₂ ?_)
    obtain ⟨F', k₃, back⟩ := k₂.hide2
    refine wpAny_bind (wpAny_mono (h F' Z₁ s₂ v k₃ rv) (fun _ s₄ h₄ => ?_) fun _ _ f => f.elim)
    obtain ⟨Z₄, n₄, _, le₄, ge₄, k₄, _, h₄⟩ := h₄
    refine wpAny_bind (wpAny_mono (h₄ F' Z₄ s₄ k₄) (fun x s₅ h₅ => ?_) fun _ _ f => f.elim)
    obtain ⟨Z₅, n₅, e, le₅, ge₅, k₅, rx, l₂, hi₂, hz₂, h₅⟩ := h₅
    have ll := le₄.trans le₅
    have gg : GE s.gens s₅.gens := (ge.trans (by rw [← hg]; exact ge₄)).trans ge₅
    have k₆ := back _ _ _ ll k₅
    refine wpAny_bind (wpAny_standAt (wpAny_bind (wpAny_of_eq (hs x) (wpAny_bind (wpAny_holding (iter_ k₆ rx hi₂ fun it₂ s₆ k₇ hg₆ => ?_))))))
    -- the outer iterator is hidden meanwhile
    have k₈ := k₇.perm (.swap _ _ _)
    obtain ⟨ob, _, k₉, back₂⟩ := k₈.hide
    have inner : codeAny (Md w) A (.compLoop (.ListComp elt [⟨t₁, iter₁, [], 0⟩, ⟨target, iter, ifs, 0⟩] scope pos) 1 (.ref it₂) (.ref a) env) (fun r s' => match r with
        | .ok _ => wpAny (Md w) A (again (.compLoop (.ListComp elt [⟨t₁, iter₁, [], 0⟩, ⟨target, iter, ifs, 0⟩] scope pos) 0 (.ref it) (.ref a) env) : Sem PySem.Fin) (fun fin s' => match fin with | .done f => R (.ok f) s' | .again c' => c'.quiet = true ∧ codeAny (Md w) A c' R s') (notedBy (Md w) A env fun e s' => R (.error e) s') s'
        | .error e => cameBackBy (Md w) A env (notedBy (Md w) A env fun e s' => R (.error e) s') e s') s₆ := by
      refine compLoopIn (F := F.plus it ob) (Z := Z₅) (s := s₆) (P := fun n₃ acc' => CompP2 w A t₁ target iter elt ifs env P l acc' n₃) (fun Z' n' acc' s' le' ge' k' hp => ?_) l₂ acc n₅ Z₅ s₆ hz₂ (Le.refl _) (GE.refl _) k₉ h₅
      have k₁₀ := back₂ _ _ _ le' k'
      exact wpAny_pure ⟨rfl, compLoopOut hs hR l acc' n' Z' s' ((le.trans ll).trans le') (gg.trans (by rw [← hg₆]; exact ge')) k₁₀ hp⟩
    exact wpAny_bind (wpAny_runOwn (codeAny_compStart_in inner (iterSelf k₇ inner)))
end
end Mine
end
section -- Ld
open PySem PySem.W PyProof.Rows PySem.Calls
namespace Mine
section
variable {w : World} {A : Around} {E : Value → Shared → Prop} {n : Led} {env : Env} {F : Bs} {Z : ZM} {s : Shared}
/-- what a comprehension must show, started -/
theorem compRun2 {elt t₁ iter₁ target iter : Expr} {ifs : List Expr} {scope : Scope} {cl : List (Str × Addr)} {pos : Pos} {v : Value} {d : D} {l : List D} {P : Led → List D → Prop} {X : Value → Addr → Result → Shared → Prop}
    (hcell : ∀ y ∈ scope.names, y.2 ≠ .cell) (hkind : scope.kind = .function)
    (k : St w A.handled F Z n s) (rv : Rd Z v d) (hi : Items d l) (hs : ∀ C x, foldedSetIterable iter (compEnvC scope cl C env) x = pure x)
    (h : ∀ C, CompP2 w A t₁ target iter elt ifs (compEnvC scope cl C env) (fun n₂ acc => ∃ b n', n₂ = (C, .fr b) :: n' ∧ P n' acc) l [] ((C, .fr []) :: n))
    (hX : ∀ a C b Z' n' acc s', Le Z Z' → GE s.gens s'.gens → St w A.handled F Z' ((a, .lst acc) :: (C, .fr b) :: n') s' → P n' acc → X (.ref a) C (.ok .next) s') :
    wpAny (Md w) A (pyIter v) (fun it s₂ => wpAny (Md w) A (newList []) (fun acc s₃ =>
      wpAny (Md w) A (newFunctionEnv scope env.globals cl [] env.qual none .none (some env)) (fun cenv s₄ =>
        codeAny (Md w) A (.compStart (.ListComp elt [⟨t₁, iter₁, [], 0⟩, ⟨target, iter, ifs, 0⟩] scope pos) 0 it acc { cenv with scope := relabel scope env }) (X acc cenv.locals) s₄) E s₃) E s₂) E s := by
  refine iter_ k rv hi fun it s₂ k₂ hg₂ => ?_
  refine wpAny_newList ?_ (by show 0 ≤ sizeLine; exact Nat.zero_le _)
  have k₃ : St w A.handled F Z ((it, .iter l) :: (s₂.heap.objs.size, .lst []) :: n) { s₂ with heap := s₂.heap.push { cls := .type "list", data := .seq ([] : List Value).toArray } } :=
    k₂.own (i := .lst []) top_none (fun b o e => Heap.get?_push_of_some _ e) (GE.refl _) rfl ⟨[], ⟨_, Heap.get?_push_size _ rfl⟩, .nil⟩
  generalize ha : s₂.heap.objs.size = a at k₃
  generalize hs3 : ({ s₂ with heap := s₂.heap.push { cls := .type "list", data := .seq ([] : List Value).toArray } } : Shared) = s₃ at k₃
  have hg₃ : s₃.gens = s.gens := by rw [← hs3, ← hg₂]
  refine wpAny_newFunctionEnv hcell (by intro y hy; cases hy) (fun h' hn hs' => ?_) hkind
  have k₄ : St w A.handled F Z ((it, .iter l) :: (a, .lst []) :: (s₃.heap.objs.size, .fr []) :: n) { s₃ with heap := h', toks := s₃.toks + 0 } := by
    have := k₃.cons (a := s₃.heap.objs.size) (i := .fr []) (s' := { s₃ with heap := h', toks := s₃.toks + 0 }) top_none
      (fun b o e => hs'.extBut b o (Nat.ne_of_lt (Heap.lt_size e)) (Heap.get?_push_of_some _ e)) (GE.refl _) rfl ⟨_, hn, fun x d e => by cases e⟩
    exact this.perm ((List.Perm.swap _ _ _).trans (.cons _ (.swap _ _ _)))
  have start : ∀ s₅, s₅ = ({ s₃ with heap := h', toks := s₃.toks + 0 } : Shared) → codeAny (Md w) A (.compLoop (.ListComp elt [⟨t₁, iter₁, [], 0⟩, ⟨target, iter, ifs, 0⟩] scope pos) 0 (.ref it) (.ref a) (compEnvC scope cl s₃.heap.objs.size env)) (X (.ref a) s₃.heap.objs.size) s₅ := by
    rintro s₅ rfl
    refine compLoopOut (hs _) (F := F) (Z := Z) (s := s) (P := fun n₂ acc => ∃ b n', n₂ = (s₃.heap.objs.size, .fr b) :: n' ∧ P n' acc) (fun Z' n' acc s' le ge k' hp => ?_) l [] _ Z _ (Le.refl _) (by show GE s.gens s₃.gens; rw [hg₃]; exact GE.refl _) k₄ (h _)
    obtain ⟨b, n'', rfl, hp⟩ := hp
    exact hX _ _ _ _ _ _ _ le ge k' hp
  exact codeAny_compStart_list (start _ rfl) (iterSelf k₄ (start _ rfl))
theorem sAsgU2 {elt t₁ iter₁ target iter : Expr} {ifs : List Expr} {scope : Scope} {cl : List (Str × Addr)} {pos spos px : Pos} {x : Str} {P : Led → Fl → Prop}
    (hsw : swapsWith (.ListComp elt [⟨t₁, iter₁, [], 0⟩, ⟨target, iter, ifs, 0⟩] scope pos) (some (.Name x px)) spos.line env = pure true)
    (hclos : closureFor scope env = pure cl) (hkind : scope.kind = .function) (hnames : ∀ x ∈ scope.names, x.2 = .local → scope.names.lookup x.1 = some .local) (hcell : ∀ y ∈ scope.names, y.2 ≠ .cell)
    (hs₁ : ∀ x, foldedSetIterable iter₁ env x = pure x) (hs : ∀ C x, foldedSetIterable iter (compEnvC scope cl C env) x = pure x)
    (h : Hv w A E (eval iter₁ env) n fun n₁ d => ∃ l, Items d l ∧ ∀ C, CompP2 w A t₁ target iter elt ifs (compEnvC scope cl C env) (fun n₂ acc => ∃ b n', n₂ = (C, .fr b) :: n' ∧
      M1 w A E RU (storeName env x) (.lst acc) n' fun n₃ _ => P n₃ .next) l [] ((C, .fr []) :: n₁)) :
    Hs w A E (exec (.Assign [.Name x px] (.ListComp elt [⟨t₁, iter₁, [], 0⟩, ⟨target, iter, ifs, 0⟩] scope pos) spos) env) n P := fun F Z s k => by
  rw [exec_Assign_Name_used _ _ _ _ hsw]
  refine wpAny_bind (wpAny_standAt (wpAny_bind ?_))
  show wpAny _ A (do let _ ← comprehension (.ListComp elt [⟨t₁, iter₁, [], 0⟩, ⟨target, iter, ifs, 0⟩] scope pos) scope env _ (newList []) false (eval iter₁ env) (some (assign (.Name x px) env))) _ _ s
  refine wpAny_bind (wpAny_mono (wpAny_comprehension_free (use := some (assign (.Name x px) env)) (Q := fun _ s' => Po w A.handled F RF P Z s .next s') rfl hs₁ hclos hkind hnames ?_) (fun _ s' hq => wpAny_pure (wpAny_pure hq)) fun _ _ e => e)
  refine Po.map (h F Z s k) fun v d n₁ Z₁ s₁ le₁ ge₁ k₁ r₁ h₁ => ?_
  obtain ⟨l, hi, hc⟩ := h₁
  refine compRun2 (X := fun acc C r s' => compPost (Md w) A E (some (assign (.Name x px) env)) (fun _ s' => Po w A.handled F RF P Z s .next s') acc C r s') hcell hkind k₁ r₁ hi hs hc fun a C b Z' n' acc s' le ge k' hp => ?_
  obtain ⟨Z'', v, le', k₂, rfl, rv⟩ := k'.seqZ
  show wpAny (Md w) A (assign (.Name x px) env (.ref a)) _ E s'
  refine wpAny_assign_Name (M1.hid hp k₂ rv fun _ _ n₃ Z₃ s₃ le₃ ge₃ k₃ _ h₃ => ?_)
  obtain ⟨m, hn⟩ := k₃.ns
  refine ⟨m, hn, fun h' hs' => ?_⟩
  have k₄ : St w A.handled F Z₃ n₃ { s₃ with heap := h' } := k₃.lose (fun b o hb e => hs'.extBut b o hb e) (GE.refl _) rfl
  exact Po.at (((le₁.trans le).trans le').trans le₃) ((ge₁.trans ge).trans ge₃) k₄ .next h₃
end
end Mine
end
section -- Le
open PySem PySem.W PyProof.Rows PySem.Calls
namespace Mine
section
variable {w : World} {A : Around} {E : Value → Shared → Prop} {n : Led} {env : Env}
/-- the inner clause, from a frame and a list on -/
theorem compFMI {α : Type} {target elt : Expr} {ifs : List Expr} {env' : Env} {C : Addr} {n₁ : Led} {Q : Led → List D → Prop} (b₀ : Binds) (ι : α → D) (β : α → Binds) (g : α → Bool) (f : α → D) : ∀ (as : List α)
    (_ : ∀ a ∈ as, ∀ p ∈ b₀, (β a).lookup p.1 = some p.2)
    (_ : ∀ a ∈ as, M1 w A NoE RU (assign target env') (ι a) ((C, .fr b₀) :: n₁) fun n₂ _ => n₂ = (C, .fr (β a)) :: n₁)
    (_ : ∀ a ∈ as, Hb w A NoE (tests ifs env') ((C, .fr (β a)) :: n₁) fun n₂ ok => n₂ = (C, .fr (β a)) :: n₁ ∧ ok = g a)
    (_ : ∀ a ∈ as, g a = true → Hv w A NoE (eval elt env') ((C, .fr (β a)) :: n₁) fun n₂ y => n₂ = (C, .fr (β a)) :: n₁ ∧ y = f a)
    (acc : List D) (b : Binds) (_ : ∀ p ∈ b₀, b.lookup p.1 = some p.2) (_ : ∀ b, Q ((C, .fr b) :: n₁) (acc ++ (as.filter g).map f)), CompP w A target elt ifs env' Q (as.map ι) acc ((C, .fr b) :: n₁)
  | [], _, _, _, _, acc, b, _, hQ => by
    have := hQ b
    rw [List.filter_nil, List.map_nil, List.append_nil] at this
    exact this
  | a :: as, hb, h1, h2, h3, acc, b, hbb, hQ => by
    refine CompP.weak (n' := (C, .fr b₀) :: n₁) (fun _ _ _ _ k => k.forget hbb) (d := ι a) (l := as.map ι) ?_
    refine (h1 a (.head _)).mono fun n₂ _ e => ?_
    subst e
    refine (h2 a (.head _)).mono fun n₃ ok q => ?_
    obtain ⟨rfl, rfl⟩ := q
    have t1 := fun c hc => hb c (.tail a hc)
    have t2 := fun c hc => h1 c (.tail a hc)
    have t3 := fun c hc => h2 c (.tail a hc)
    have t4 := fun c hc => h3 c (.tail a hc)
    cases hg : g a with
    | true =>
      rw [if_pos rfl]
      refine (h3 a (.head _) hg).mono fun n₄ y q => ?_
      obtain ⟨rfl, rfl⟩ := q
      refine compFMI b₀ ι β g f as t1 t2 t3 t4 (acc ++ [f a]) (β a) (hb a (.head _)) fun b => ?_
      have := hQ b
      rw [List.filter_cons_of_pos hg, List.map_cons] at this
      rw [List.append_assoc]; exact this
    | false =>
      rw [if_neg Bool.false_ne_true]
      refine compFMI b₀ ι β g f as t1 t2 t3 t4 acc (β a) (hb a (.head _)) fun b => ?_
      have := hQ b
      rw [List.filter_cons_of_neg (by rw [hg]; exact Bool.false_ne_true)] at this
      exact this
theorem CompP2.weak {t₁ t₂ iter₂ elt : Expr} {ifs₂ : List Expr} {P : Led → List D → Prop} {n' : Led} (hw : ∀ hd F Z s, St w hd F Z n s → St w hd F Z n' s) : ∀ {d : D} {l acc : List D}, CompP2 w A t₁ t₂ iter₂ elt ifs₂ env P (d :: l) acc n' → CompP2 w A t₁ t₂ iter₂ elt ifs₂ env P (d :: l) acc n
  | _, _, _, h => fun F Z s v k r => h F Z s v (hw _ _ _ _ k) r
theorem comp2FM {α γ : Type} {t₁ t₂ iter₂ elt : Expr} {ifs : List Expr} {env' : Env} {C : Addr} {n₁ : Led} {Q : Led → List D → Prop} (ι : α → D) (β₁ : α → Binds) (bs : α → List γ) (ι₂ : γ → D) (β₂ : α → γ → Binds) (g : α → γ → Bool) (f : α → γ → D) : ∀ (as : List α)
    (_ : ∀ a ∈ as, (∀ p ∈ β₁ a, (β₁ a).lookup p.1 = some p.2) ∧ M1 w A NoE RU (assign t₁ env') (ι a) ((C, .fr []) :: n₁) fun n₂ _ => n₂ = (C, .fr (β₁ a)) :: n₁)
    (_ : ∀ a ∈ as, Hv w A NoE (eval iter₂ env') ((C, .fr (β₁ a)) :: n₁) fun n₂ e => n₂ = (C, .fr (β₁ a)) :: n₁ ∧ Items e ((bs a).map ι₂))
    (_ : ∀ a ∈ as, ∀ c ∈ bs a, (∀ p ∈ β₁ a, (β₂ a c).lookup p.1 = some p.2) ∧ M1 w A NoE RU (assign t₂ env') (ι₂ c) ((C, .fr (β₁ a)) :: n₁) fun n₂ _ => n₂ = (C, .fr (β₂ a c)) :: n₁)
    (_ : ∀ a ∈ as, ∀ c ∈ bs a, Hb w A NoE (tests ifs env') ((C, .fr (β₂ a c)) :: n₁) fun n₂ ok => n₂ = (C, .fr (β₂ a c)) :: n₁ ∧ ok = g a c)
    (_ : ∀ a ∈ as, ∀ c ∈ bs a, g a c = true → Hv w A NoE (eval elt env') ((C, .fr (β₂ a c)) :: n₁) fun n₂ y => n₂ = (C, .fr (β₂ a c)) :: n₁ ∧ y = f a c)
    (acc : List D) (b : Binds) (_ : acc.length + (as.map fun a => (bs a).length).sum ≤ sizeLine) (_ : ∀ b, Q ((C, .fr b) :: n₁) (acc ++ as.flatMap fun a => ((bs a).filter (g a)).map (f a))), CompP2 w A t₁ t₂ iter₂ elt ifs env' Q (as.map ι) acc ((C, .fr b) :: n₁)
  | [], _, _, _, _, _, acc, b, _, hQ => by
    have := hQ b
    rw [List.flatMap_nil, List.append_nil] at this
    exact this
  | a :: as, h1, h2, h3, h4, h5, acc, b, hz, hQ => by
    rw [List.map_cons, List.sum_cons] at hz
    refine CompP2.weak (n' := (C, .fr []) :: n₁) (fun _ _ _ _ k => k.forget fun _ h => nomatch h) (d := ι a) (l := as.map ι) ?_
    refine (h1 a (.head _)).2.mono fun n₂ _ e => ?_
    subst e
    refine (h2 a (.head _)).mono fun n₃ e q => ?_
    obtain ⟨rfl, hi⟩ := q
    refine ⟨_, hi, by rw [List.length_map]; grind, ?_⟩
    refine compFMI (β₁ a) ι₂ (β₂ a) (g a) (f a) (bs a) (fun c hc => (h3 a (.head _) c hc).1) (fun c hc => (h3 a (.head _) c hc).2) (h4 a (.head _)) (h5 a (.head _)) acc (β₁ a) (h1 a (.head _)).1 fun b => ?_
    refine comp2FM ι β₁ bs ι₂ β₂ g f as (fun c hc => h1 c (.tail _ hc)) (fun c hc => h2 c (.tail _ hc)) (fun c hc => h3 c (.tail _ hc)) (fun c hc => h4 c (.tail _ hc)) (fun c hc => h5 c (.tail _ hc)) _ b ?_ fun b => ?_
    · rw [List.length_append, List.length_map]
      have := List.length_filter_le (g a) (bs a)
      grind
    · have := hQ b
      rw [List.flatMap_cons] at this
      rw [List.append_assoc]; exact this
end
end Mine
end
section -- Lf
open PySem PySem.W PyProof.Rows PySem.Calls
namespace Mine
/-- an exception that is under way: its newest trace entry, and what that says of the flight -/
noncomputable def XAt (h : Heap) (e T : Addr) (fl : Value) : Prop := ∃ oe vs oT ts, h.get? e = some oe ∧ oe.cls = .type "StopIteration" ∧ oe.data = .fields vs ∧ 2 < vs.size ∧ vs[1]? = some (.ref T) ∧ vs[2]? = some .none ∧ T ≠ e ∧ h.get? T = some oT ∧ oT.data = .fields ts ∧ 3 < ts.size ∧ ts[3]? = some fl
noncomputable def X0At (h : Heap) (e : Addr) : Prop := ∃ oe vs, h.get? e = some oe ∧ oe.cls = .type "StopIteration" ∧ oe.data = .fields vs ∧ 2 < vs.size ∧ vs[1]? = some .none ∧ vs[2]? = some .none
/-- the frames of the activations, all one's own -/
noncomputable def FrOk (l : List Env) (n : Led) : Prop := ∀ env ∈ l, env.scope.kind ≠ .module ∧ ∃ L b, env.frame = some L ∧ (L, It.fr b) ∈ n
section
variable {w : World} {A : Around} {E : Value → Shared → Prop} {F : Bs} {Z : ZM} {n : Led} {s : Shared}
theorem It.fr_slots {h h' : Heap} {L : Addr} {b : Binds} (x : (It.fr b).In Z h L) (k : ∀ o, h.get? L = some o → ∃ sl, h'.get? L = some { o with slots := sl }) : (It.fr b).In Z h' L := by
  obtain ⟨m, ⟨o, es, ep, ho, hd, r⟩, hb⟩ := x
  obtain ⟨sl, e⟩ := k o ho
  exact ⟨m, ⟨_, es, ep, e, hd, r⟩, hb⟩
theorem St.slots {hd : Option Value} {l : List Env} {h' : Heap} (k : St w hd F Z n s) (hf : FrOk l n) (hs : Heap.SlotsOnly (l.filterMap (·.frame)) s.heap h') : St w hd F Z n { s with heap := h' } := by
  have own : ∀ L ∈ l.filterMap (·.frame), ∃ b, (L, It.fr b) ∈ n := fun L hL => by
    obtain ⟨env, he, e⟩ := List.mem_filterMap.mp hL
    obtain ⟨_, L', b, e', hm⟩ := hf env he
    rw [e'] at e; cases e
    exact ⟨b, hm⟩
  refine ⟨k.tp, k.ho, fun a ob e => ?_, k.z0, fun a ob e => ?_, fun p hp => ?_, k.nd, k.ge, k.os⟩
  · have : a ∉ l.filterMap (·.frame) := fun hm => by
      obtain ⟨b, hb⟩ := own a hm
      have := (k.nw _ hb).2.2
      rw [e] at this; cases this
    exact (hs.2.1 a this).trans (k.kp a ob e)
  · have : a ∉ l.filterMap (·.frame) := fun hm => by
      obtain ⟨b, hb⟩ := own a hm
      have := (k.nw _ hb).2.1
      rw [e] at this; cases this
    exact (hs.2.1 a this).trans (k.fz a ob e)
  · have h0 := k.nw p hp
    refine ⟨?_, h0.2⟩
    by_cases hm : p.1 ∈ l.filterMap (·.frame)
    · obtain ⟨b, hb⟩ := own _ hm
      have hi := (k.nw _ hb).1
      have key : ∀ (m : Led), (m.map (·.1)).Nodup → p ∈ m → (p.1, It.fr b) ∈ m → p.2 = .fr b := by
        intro m
        induction m with
        | nil => intro _ h; cases h
        | cons x r ih =>
          intro nd h1 h2
          rw [List.map_cons, List.nodup_cons] at nd
          rcases List.mem_cons.mp h1 with rfl | h1
          · rcases List.mem_cons.mp h2 with h2 | h2
            · rw [← h2]
            · exact absurd (List.mem_map.mpr ⟨_, h2, rfl⟩) nd.1
          · rcases List.mem_cons.mp h2 with h2 | h2
            · exact absurd (List.mem_map.mpr ⟨_, h1, by rw [← h2]⟩) nd.1
            · exact ih nd.2 h1 h2
      have e := key n k.nd hp hb
      rw [e]
      exact It.fr_slots hi fun o ho => hs.2.2 _ o ho
    · exact h0.1.up (Le.refl _) fun o e => (hs.2.1 _ hm).trans e
noncomputable def emptyH : Heap := {}
theorem funFrames : ∀ {l : List Env} {h : Heap}, FrOk l n → (∀ L b, (L, It.fr b) ∈ n → ∃ o, h.get? L = some o ∧ ∀ vs, o.data ≠ .fields vs) → h.FunFrames emptyH l
  | [], _, _, _ => trivial
  | env :: r, h, hf, hn => by
    obtain ⟨hk, L, b, e, hm⟩ := hf env (.head _)
    obtain ⟨o, ho, hd⟩ := hn L b hm
    exact ⟨hk, ⟨L, o, e, rfl, ho, hd⟩, funFrames (fun env he => hf env (.tail _ he)) hn⟩
theorem St.frO {hd : Option Value} (k : St w hd F Z n s) : ∀ L b, (L, It.fr b) ∈ n → ∃ o, s.heap.get? L = some o ∧ ∀ vs, o.data ≠ .fields vs := fun L b hm => by
  obtain ⟨m, ⟨o, es, ep, ho, hd, _⟩, _⟩ := (k.nw _ hm).1
  exact ⟨o, ho, fun vs e => by rw [hd] at e; cases e⟩
/-- a trace entry is made: the frames are ready, a record is new, the exception holds it -/
theorem entryNew {env : Env} {outer : List Env} {L e : Addr} {oe : Obj} {vs : Array Value} {head : Value} {hadNext : Bool} {Q : Unit → Shared → Prop}
    (hfr : A.frames = some (env :: outer)) (hok : FrOk (env :: outer) n) (hf : env.frame = some L) (k : St w none F Z ((e, .any) :: n) s) (he : s.heap.get? e = some oe) (hc : oe.cls = .type "StopIteration") (hd : oe.data = .fields vs) (hz : 2 < vs.size) (h2 : vs[2]? = some .none)
    (h : ∀ T s', St w none F Z ((e, .any) :: (T, .any) :: n) s' → XAt s'.heap e T (rawInt L) → s'.gens = s.gens → Q () s') :
    wpAny (Md w) A (do let a ← frameOf env; let pl ← entryPlaceOf L hadNext; let b ← EntryCells.newEntry head a .none (rawInt L) .none pl; setField (.ref e) 1 b) Q E s := by
  have hok' : FrOk (env :: outer) ((e, It.any) :: n) := fun env' he' => let ⟨a, L, b, c, d⟩ := hok env' he'; ⟨a, L, b, c, .tail _ d⟩
  refine wpAny_bind (wpAny_frameOf_fun (base := emptyH) hfr (funFrames hok' k.frO) hf fun h₁ hs₁ => ?_)
  have k₁ := k.slots hok' hs₁
  have hen : e ∉ (env :: outer).filterMap (·.frame) := fun hm => by
    obtain ⟨env', he', q⟩ := List.mem_filterMap.mp hm
    obtain ⟨_, L', b, q', hm'⟩ := hok env' he'
    rw [q'] at q; cases q
    have := k.nd
    rw [List.map_cons, List.nodup_cons] at this
    exact this.1 (List.mem_map.mpr ⟨_, hm', rfl⟩)
  have he₁ : h₁.get? e = some oe := (hs₁.2.1 e hen).trans he
  refine wpAny_bind (wpAny_entryPlaceOf fun pl hpl => ?_)
  unfold EntryCells.newEntry newFields
  refine wpAny_bind (wpAny_newObj_type ?_ (hpl.sizeOk5 _ _ _ _ _))
  generalize hto : ({ cls := .type "traceback", dict := none, data := .fields ([head, .ref L, .none, rawInt L, .none] ++ (if pl.isEmpty then List.replicate 6 Value.none else pl)).toArray } : Obj) = to
  have hT := Heap.get?_push_size h₁ (o := to) (by rw [← hto]; rfl)
  have he₂ := Heap.get?_push_of_some (h := h₁) to he₁
  refine wpAny_setField he₂ hd (by exact Nat.le_of_lt (by assumption)) ?_
  have hTe : h₁.objs.size ≠ e := Nat.ne_of_gt (Heap.lt_size he₁)
  have hd₃ := Obj.data_mapFields hd (·.setIfInBounds 1 (Value.ref h₁.objs.size))
  have he₃ := Heap.get?_update_self (Obj.mapFields (·.setIfInBounds 1 (Value.ref h₁.objs.size))) he₂ (Obj.isFreed_of_fields hd₃)
  have hT₃ := (Heap.get?_update_other (h₁.push to) (Obj.mapFields (·.setIfInBounds 1 (Value.ref h₁.objs.size))) (Ne.symm hTe)).trans hT
  have k₂ := k₁.own (a := h₁.objs.size) (i := .any) (s' := { s with heap := h₁.push to }) top_none (fun b o e => Heap.get?_push_of_some _ e) (GE.refl _) rfl ⟨_, hT⟩
  have k₃ := St.turn (l := []) (j := .any) (s' := { s with heap := (h₁.push to).update e (Obj.mapFields (·.setIfInBounds 1 (Value.ref h₁.objs.size))) }) k₂ rfl ⟨_, he₃⟩ (fun b o hb q => (Heap.get?_update_other _ _ (Ne.symm hb)).trans q) (GE.refl _) rfl
  refine h h₁.objs.size _ k₃ ⟨_, _, to, _, he₃, (Obj.cls_mapFields _ _).trans hc, hd₃, ?_, ?_, ?_, hTe, hT₃, by rw [← hto], ?_, ?_⟩ rfl
  · simpa using hz
  · have : 1 < vs.size := by exact Nat.le_of_lt (by assumption)
    simp [this]
  · simpa using h2
  · simp only [List.size_toArray, List.length_append, List.length_cons, List.length_nil]; simp +arith only
  · simp
theorem noteNew {env : Env} {outer : List Env} {L e : Addr} {Q : Unit → Shared → Prop} (hfr : A.frames = some (env :: outer)) (hok : FrOk (env :: outer) n) (hf : env.frame = some L) (k : St w none F Z ((e, .any) :: n) s) (hx : X0At s.heap e)
    (h : ∀ T s', St w none F Z ((e, .any) :: (T, .any) :: n) s' → XAt s'.heap e T (rawInt L) → s'.gens = s.gens → Q () s') : wpAny (Md w) A (noteFrame (.ref e) env) Q E s := by
  obtain ⟨oe, vs, he, hc, hd, hz, h1, h2⟩ := hx
  unfold noteFrame
  simp only [hf]
  refine wpAny_bind (wpAny_field he hd h1 ?_)
  rw [if_neg (by decide)]
  exact entryNew hfr hok hf k he hc hd hz h2 h
theorem noteSame {env : Env} {L e T : Addr} {Q : Unit → Shared → Prop} (hf : env.frame = some L) (hx : XAt s.heap e T (rawInt L)) (h : Q () s) : wpAny (Md w) A (noteFrame (.ref e) env) Q E s := by
  obtain ⟨oe, vs, oT, ts, he, hc, hd, hz, h1, h2, hTe, hT, hdT, h3, h4⟩ := hx
  unfold noteFrame
  simp only [hf]
  refine wpAny_bind (wpAny_field he hd h1 ?_)
  rw [if_pos (show (Value.ref T != Value.none) = true from by simp)]
  refine wpAny_bind (wpAny_field hT hdT h4 ?_)
  rw [if_pos (by simp)]
  exact wpAny_pure h
theorem flight {e T : Addr} {fl : Value} {f : Option Addr} {Q : Unit → Shared → Prop} (k : St w none F Z ((e, .any) :: (T, .any) :: n) s) (hx : XAt s.heap e T fl)
    (h : ∀ s', St w none F Z ((e, .any) :: (T, .any) :: n) s' → XAt s'.heap e T (f.elim .none fun f => rawInt f) → s'.gens = s.gens → Q () s') : wpAny (Md w) A (setFlight (.ref e) f) Q E s := by
  obtain ⟨oe, vs, oT, ts, he, hc, hd, hz, h1, h2, hTe, hT, hdT, h3, h4⟩ := hx
  unfold setFlight
  refine wpAny_bind (wpAny_field he hd h1 ?_)
  rw [if_pos (show (Value.ref T != Value.none) = true from by simp)]
  refine wpAny_setField hT hdT h3 ?_
  have hd₃ := Obj.data_mapFields hdT (·.setIfInBounds 3 (f.elim Value.none fun f => rawInt f))
  have hT₃ := Heap.get?_update_self (Obj.mapFields (·.setIfInBounds 3 (f.elim Value.none fun f => rawInt f))) hT (Obj.isFreed_of_fields hd₃)
  have k₃ := St.turn (l := [(e, It.any)]) (j := .any) (s' := { s with heap := s.heap.update T (Obj.mapFields (·.setIfInBounds 3 (f.elim Value.none fun f => rawInt f))) }) k rfl ⟨_, hT₃⟩ (fun b o hb q => (Heap.get?_update_other _ _ (Ne.symm hb)).trans q) (GE.refl _) rfl
  refine h _ k₃ ⟨oe, vs, _, _, (Heap.get?_update_other _ _ hTe).trans he, hc, hd, hz, h1, h2, hTe, hT₃, hd₃, by simpa using h3, by simp [h3]⟩ rfl
theorem noteNext {env : Env} {outer : List Env} {L e T : Addr} {Q : Unit → Shared → Prop} (hfr : A.frames = some (env :: outer)) (hok : FrOk (env :: outer) n) (hf : env.frame = some L) (k : St w none F Z ((e, .any) :: (T, .any) :: n) s) (hx : XAt s.heap e T .none)
    (h : ∀ T s', St w none F Z ((e, .any) :: (T, .any) :: n) s' → XAt s'.heap e T (rawInt L) → s'.gens = s.gens → Q () s') : wpAny (Md w) A (noteFrame (.ref e) env) Q E s := by
  obtain ⟨oe, vs, oT, ts, he, hc, hd, hz, h1, h2, hTe, hT, hdT, h3, h4⟩ := hx
  unfold noteFrame
  simp only [hf]
  refine wpAny_bind (wpAny_field he hd h1 ?_)
  rw [if_pos (show (Value.ref T != Value.none) = true from by simp)]
  refine wpAny_bind (wpAny_field hT hdT h4 ?_)
  rw [if_neg (by simp [rawInt])]
  refine wpAny_bind (wpAny_setField hT hdT h3 ?_)
  have hd₃ := Obj.data_mapFields hdT (·.setIfInBounds 3 Value.none)
  have hT₃ := Heap.get?_update_self (Obj.mapFields (·.setIfInBounds 3 Value.none)) hT (Obj.isFreed_of_fields hd₃)
  have k₃ := St.turn (l := [(e, It.any)]) (j := .any) (s' := { s with heap := s.heap.update T (Obj.mapFields (·.setIfInBounds 3 Value.none)) }) k rfl ⟨_, hT₃⟩ (fun b o hb q => (Heap.get?_update_other _ _ (Ne.symm hb)).trans q) (GE.refl _) rfl
  refine entryNew hfr hok hf (k₃.drop (n' := (e, .any) :: n) (by simp)) ((Heap.get?_update_other _ _ hTe).trans he) hc hd hz h2 fun T' s' k' hx' hg => h T' s' k' hx' hg
end
theorem St.hd {w : World} {h h' : Option Value} {F : Bs} {Z : ZM} {n : Led} {s : Shared} (k : St w h F Z n s) (e : h = h') : St w h' F Z n s := e ▸ k
end Mine
end
section -- Lg
open PySem PySem.W PyProof.Rows PySem.Calls
namespace Mine
section
variable {w : World} {A : Around} {E : Value → Shared → Prop} {F : Bs} {Z : ZM} {n : Led} {s : Shared} {env : Env}
theorem stopNew0 {α : Type} {Q : α → Shared → Prop} (hh : A.handled = none)
    (h : ∀ h' e, (∀ b o, s.heap.get? b = some o → h'.get? b = some o) → s.heap.get? e = none → (∃ t, h'.get? e = some { cls := .type "StopIteration", data := .fields #[t, .none, .none, .none, .bool false, .none] }) → E (.ref e) { s with heap := h' }) :
    wpAny (Md w) A (newExc (.type "StopIteration") [] >>= fun e => (raiseNew e : Sem α)) Q E s := by
  refine wpAny_bind ?_
  simp only [newExc, newTuple]
  refine wpAny_bind (wpAny_newObj_type ?_ (by size_fits))
  refine wpAny_bind (m := firstArgMember _ _) (wpAny_of_eq (a := Value.none) (by first | rfl | (simp only [firstArgMember]; rfl)) ?_)
  refine wpAny_newObj_type ?_ (by size_fits)
  have hsz : (s.heap.push { cls := .type "tuple", data := .seq ([] : List Value).toArray }).objs.size = s.heap.objs.size + 1 := Heap.size_push ..
  simp only [raiseNew]
  refine wpAny_bind (wpAny_handled ?_)
  rw [hh, hsz]
  refine wpAny_bind (wpAny_pure (wpAny_throw (h _ _ (fun b o e => Heap.get?_push_of_some _ (Heap.get?_push_of_some _ e)) ?_ ⟨.ref s.heap.objs.size, ?_⟩)))
  · cases q : s.heap.get? (s.heap.objs.size + 1) with
    | none => rfl
    | some o => exact absurd (Heap.lt_size q) (Nat.not_lt.mpr (Nat.le_succ _))
  · rw [← hsz]; exact Heap.get?_push_size _ rfl
/-- next() of an iterator at its end -/
theorem nextX {L it : Addr} {b : Binds} {l r : Led} {p₁ p₂ p₃ : Pos} {Q : Value → Shared → Prop} (hh : A.handled = none) (hL : env.locals = L) (hg : env.globals = mainGlobals) (hbt : env.builtins = builtinsNs) (hk : env.scope.kind = .function)
    (hl1 : env.kindOf (Str.ofString "next") = some .globalImplicit) (hl2 : env.kindOf (Str.ofString "iterator") = some .local) (hb : b.lookup (Str.ofString "iterator") = some (.raw (.ref it))) (k : St w A.handled F Z ((L, .fr b) :: (l ++ (it, .li []) :: r)) s)
    (hc : eval (.Call (.Name (Str.ofString "next") p₁) [.Name (Str.ofString "iterator") p₂] [] p₃) env = (do callWith p₃ (← eval (.Name (Str.ofString "next") p₁) env) [] (backTo p₃ (starEach [.Name (Str.ofString "iterator") p₂] env)) (backToKw p₃ (keywordEach [] env))))
    (hE : ∀ e s', St w none F Z ((e, .any) :: (L, .fr b) :: (l ++ (it, .any) :: r)) s' → X0At s'.heap e → s'.gens = s.gens → E (.ref e) s') :
    wpAny (Md w) A (eval (.Call (.Name (Str.ofString "next") p₁) [.Name (Str.ofString "iterator") p₂] [] p₃) env) Q E s := by
  refine Call_ ?_ hc
  -- the function
  have n1 : wpAny (Md w) A (eval (.Name (Str.ofString "next") p₁) env) (fun v s' => v = .builtin "next" ∧ s' = s) E s :=
    Name_function_global hk hl1 (loadGlobal_builtin (by rw [hg]; exact (nsG w.params).keeps k.topH) (bm_next _) (by rw [hbt]; exact (nsB w.params).keeps k.topH) (bt_next _) ⟨rfl, rfl⟩) (by rfl)
  refine wpAny_mono n1 (fun v s' q => ?_) fun _ _ e => e
  obtain ⟨rfl, rfl⟩ := q
  refine callWith_builtin rfl (evalArgs_plain ?_)
  show wpAny (Md w) A (spliced (backTo p₃ (starEach [.Name (Str.ofString "iterator") p₂] env))) _ E s'
  refine spliced_more ?_ rfl
  subst hL
  obtain ⟨⟨m, hn, hbb⟩, _⟩ := k.nw _ (.head _)
  obtain ⟨v, hv, rv⟩ := hbb _ _ hb
  cases rv
  refine wpAny_Name (wpAny_loadName_local hk hl2 hn hv ?_) (by rfl)
  refine spliced_none ?_
  obtain ⟨⟨bl, i, xs, es, hi, q, rs, e⟩, hz⟩ := k.nw (it, .li []) (by simp)
  have hx : xs.toArray[i]? = none := by
    have : es.length ≤ i := by
      have := congrArg List.length e
      simp at this; lia
    rw [List.getElem?_toArray, List.getElem?_eq_none_iff, rs.len]; exact this
  have hl : s'.heap.IsList bl xs.toArray := q.list k
  refine call_function_entry (by decide +kernel) (by decide +kernel) kdk_entry_next (args_next _) ?_
  unfold Builtin.«next»
  refine wpAny_bind (m := someArgs "next" 1 2 _) (wpAny_of_eq (a := [Value.ref it]) (by first | rfl | kernel_rfl!) ?_)
  dsimp only
  refine wpAny_bind (wpAny_specialOf (name := Str.ofString "__next__") hi.typeIs slot_listiter_next.lookup ?_)
  refine wpAny_ite_split (fun hab => absurd hab (by decide)) (fun _ => ?_)
  obtain ⟨o, hoo, hcc, hdd⟩ := id hi
  obtain ⟨ol, hol, _, nl, hdl⟩ := hl
  refine wpAny_bind (wpAny_callSpecial?_slot (name := Str.ofString "__next__") hi.typeIs slot_listiter_next
    (wpAny_call_entry slot_listiter_next hi.typeIs entry_listiter_next ?_ (args_listiter_next _)))
  show wpAny _ _ (field (.ref it) 0 >>= _) _ _ s'
  refine wpAny_bind (wpAny_field hoo hdd (x := .ref bl) rfl ?_)
  show wpAny _ _ (if (Value.ref bl == Value.none) = true then _ else _) _ _ s'
  rw [if_neg (show ¬ ((Value.ref bl == Value.none) = true) from Bool.false_ne_true)]
  show wpAny _ _ (field (.ref it) 1 >>= _) _ _ s'
  refine wpAny_bind (wpAny_field hoo hdd (x := .int i 0) rfl ?_)
  show wpAny _ _ (seqItems? (.ref bl) >>= _) _ _ s'
  refine wpAny_bind (wpAny_seqItems hol hdl ?_)
  simp only [Int.toNat_natCast, hx]
  refine wpAny_bind (wpAny_rule (wpAny_bind (wpAny_setField hoo hdd (by simp) ?_)))
  have hit := Heap.get?_update_self (Obj.mapFields (·.setIfInBounds 0 Value.none)) hoo (Obj.isFreed_of_fields (Obj.data_mapFields hdd _))
  have k₂ := St.turn (l := (env.locals, It.fr b) :: l) (j := .any) (s' := { s' with heap := s'.heap.update it (Obj.mapFields (·.setIfInBounds 0 Value.none)) }) k rfl ⟨_, hit⟩ (fun c o hb e => (Heap.SameBut.update ..).extBut c o hb e) (GE.refl _) rfl
  show wpAny _ _ (newExc (.type "StopIteration") [] >>= fun e => (raiseNew e : Sem PySem.Fin)) _ _ _
  refine stopNew0 hh fun h' e keep hnew ⟨t', he⟩ => ?_
  have k₃ := k₂.cons (a := e) (i := .any) (s' := { s' with heap := h' }) hnew keep (GE.refl _) rfl ⟨_, he⟩
  exact hE e _ (k₃.hd hh) ⟨_, _, he, rfl, rfl, by simp, rfl, rfl⟩ rfl
end
end Mine
end
section -- Lh
open PySem PySem.W PyProof.Rows PySem.Calls
namespace Mine
theorem walksX {w : World} {A : Around} {e : Addr} {o : Obj} {vs : Array Value} (hh : A.handled = some (.ref e)) (hd : o.data = .fields vs) (h2 : vs[2]? = some .none) (I ax : Addr) (hne : ax ≠ I) (heI : e ≠ I) (items : Array Value) :
    Walks pw w A I [I, ax, e] [I] items.size (fun i v => items[i]? = some v) (fun i h => (h.IsListIter I ax i ∧ h.IsList ax items) ∧ h.get? e = some o) where
  sub := fun b hb => by simp at hb; simp [hb]
  frame := fun _ _ _ st hk => ⟨⟨st.1.1.at fun o e => hk I (by simp) o e, st.1.2.at fun o e => hk ax (by simp) o e⟩, hk e (by simp) o st.2⟩
  item := fun i s Q E hi st hQ => by
    refine wpAny_pyNext_list_item st.1.1 st.1.2 (x := items[i]) (by simp [hi]) fun h' hit' hs' => ?_
    exact hQ _ h' s.toks (by simp [hi]) ⟨⟨hit', st.1.2.extBut hs'.extBut hne⟩, hs'.extBut e o heI st.2⟩ fun b o hb e => hs'.extBut b o (fun h => hb (by simp [h])) e
  done := fun s Q E st hQ => by
    refine end_list (fun h' hs => ?_) st.1.1 st.1.2 (by simp) fun h' he' => hQ h' s.toks fun b o hb e => he' b o (fun h => hb (by simp [h])) e
    rw [hh]
    exact ⟨e, o, vs, rfl, hs e o heI st.2, hd, h2⟩
  self := fun _ _ _ _ st hQ => wpAny_pyIter_listiter st.1.1 hQ
section
variable {w : World} {A : Around} {E : Value → Shared → Prop} {n : Led} {P : Led → D → Prop}
/-- sum of ints, whatever is being handled -/
theorem bSumX {is : List Int} (h : P n (.int is.sum)) : ML w A E Rd (fun vs => call (.builtin "sum") vs) [.lst (is.map D.int)] n P := fun F Z s vs k q => by
  obtain hq | ⟨v, hq⟩ : A.handled = none ∨ ∃ v, A.handled = some v := by cases A.handled <;> simp
  · exact bSum hq h F Z s vs k q
  · have ho := k.ho
    rw [hq] at ho
    obtain ⟨e, o, fs, rfl, hze, hd, h2, _⟩ := ho
    have heo := k.fz _ _ hze
    apply Rds.cE q; intro _ _ q p
    (first | apply Rds.nE p | (apply Rd.iE p; intro _) | (apply Rd.sE p; intro _) | apply Rd.rE p | apply Rd.bE p | apply Rd.nE p | cases p)
    apply Rd.lE q; intro l xs f r
    obtain ⟨ps, rfl, rfl⟩ := intVals r
    have hl := f.list k
    have ee : (ps.map fun p => Value.int p.1 p.2).toArray = intItems ps.toArray := by simp [intItems]
    rw [ee] at hl
    refine call_sum_walkG (iter_intList hl fun s₂ e₂ st hfp hlI => ?_)
    subst e₂
    have heI : e ≠ s.heap.objs.size := Nat.ne_of_lt (Heap.lt_size heo)
    refine ⟨_, _, _, _, _, _, numAt ps.toArray, rfl, walksX (A := A.in1) hq hd h2 _ l hlI heI (intItems ps.toArray), ⟨st, Heap.get?_push_of_some _ heo⟩, ?_, (fun _ _ => intItems_at), fun h' tk t' hk => ?_⟩
    · intro b hb
      simp only [List.mem_cons, List.not_mem_nil, or_false] at hb
      rcases hb with rfl | rfl | rfl
      · exact hfp _ (by simp)
      · exact hfp _ (by simp)
      · exact Heap.lt_size (Heap.get?_push_of_some _ heo)
    · have e3 : preSum (numAt ps.toArray) (intItems ps.toArray).size = (ps.map (·.1)).sum := by
        rw [show (intItems ps.toArray).size = ps.toArray.size from by simp [intItems], preSum_eq, List.take_of_length_le (by simp)]
      rw [e3]
      exact Po.same rfl (k.keep (s' := { s with heap := h', toks := tk }) (old_kept hk) (GE.refl _) rfl) (Rd.int _ _) h
end
end Mine
end
section -- Li
open PySem PySem.W PyProof.Rows PySem.Calls
namespace Mine
theorem enterCF {w : World} {H : Option Value → Prop} {i fa c k : Nat} {o : Obj} {pm : Value} {names : List Str} {ds : List D} {P : D → Prop} (lb : Binds) (cl : List (Str × Nat × Option D))
    (ho : (H1 w.params).get? fa = some o) (hd : o.data = .func (mkF i 3 .none .none .none pm none (.ref c) .none 0)) (hc : (H1 w.params).CodeRec (.ref c) (fnName (stAt i)))
    (hbind : ∀ vals : List Value, vals.length = names.length → bindArgs (docDef (fnName (stAt i)) (fnArgs (stAt i)) (fnBody (stAt i)) (fnScope (stAt i)) pm (.ref c) .none) ⟨vals, []⟩ = pure (names.zip vals))
    (hlen : ds.length = names.length) (hnd : names.Nodup)
    (hkind : ∀ L : Nat, ∀ x ∈ names, (fnScope (stAt i)).names.lookup x = some .local ∨ ((fnScope (stAt i)).names.lookup x = some .cell ∧ ((cellsFrom (L + 1) (fnScope (stAt i)).names []).lookup x).isSome = true))
    (hcl : ∀ L : Nat, cellsFrom (L + 1) (fnScope (stAt i)).names [] = cl.map fun x => (x.1, L + x.2.1)) (hcn : (cl.map (·.1)).Nodup)
    (hlb : ∀ p ∈ lb, (names.zip ds).lookup p.1 = some p.2 ∧ (fnScope (stAt i)).names.lookup p.1 = some .local)
    (hcb : ∀ x ∈ cl, x.2.2 = none ∨ (x.2.2 = (names.zip ds).lookup x.1 ∧ (fnScope (stAt i)).names.lookup x.1 = some .cell))
    (hco : (fnScope (stAt i)).isCoroutine = false) (hgen : (fnScope (stAt i)).isGenerator = false) (hk : (fnScope (stAt i)).kind = .function)
    (h : ∀ A L, Rm k A → H A.handled → A.frames = some [envOfC (fnName (stAt i)) (fnScope (stAt i)) L fa (.ref c)] → Hs w A NoE (execs (fnBody (stAt i)) (envOfC (fnName (stAt i)) (fnScope (stAt i)) L fa (.ref c))) ((L, .fr lb) :: cellsAt L cl) (fun _ f => P (match f with | .ret d => d | _ => .none))) :
    ∀ (A : Around) (E : Value → Shared → Prop) (Z : ZM) (s : Shared) (vs : List Value), A.frames = some [] → Rm (k + 1) A → H A.handled → Top w Z → HOk Z A.handled → (∀ a ob, Z a = some ob → s.heap.get? a = some ob) → Rds Z vs ds →
      wpAny (Md w) A (call (.ref fa) vs) (fun v s' => ∃ Z' d, St w A.handled (here Z s) Z' [] s' ∧ Rd Z' v d ∧ P d) E s := fun A E Z s vs hfr hA hH t hO fz r => by
  have top : ∀ a ob, (H1 w.params).get? a = some ob → s.heap.get? a = some ob := fun a ob e => fz _ _ (t a ob e)
  have hl : vs.length = names.length := r.len.trans hlen
  have hndz : ((names.zip vs).map (·.1)).Nodup := by rw [List.map_fst_zip (by grind)]; exact hnd
  refine wpAny_call (call_cells_ret hA.room (top _ _ ho) hd ((noLim w.params).keeps top) (hc.keeps top) (hbind vs hl) (fun x hx => hkind _ _ (List.of_mem_zip hx).1) (fun h₁ tk F C => ?_) hco hgen hk)
  have k₁ := (start (hd := A.handled) t hO fz).cons (a := s.heap.objs.size) (i := .fr lb) (s' := { s with heap := h₁, toks := tk }) top_none F.keep (GE.refl _) rfl ⟨_, F.ns, fun x d e => by
    obtain ⟨e1, e2⟩ := hlb (x, d) (PySem.mem_of_lookup e)
    obtain ⟨v, hv, rv⟩ := zip_reads r x d e1
    exact ⟨v, bindL_spec hndz x v hv e2, rv⟩⟩
  have hlook : ∀ x ∈ cl, (cellsFrom (s.heap.objs.size + 1) (fnScope (stAt i)).names []).lookup x.1 = some (s.heap.objs.size + x.2.1) := by
    rw [hcl]
    clear h hlb hcb C hcl
    induction cl with
    | nil => intro x hx; cases hx
    | cons y r ih =>
      intro x hx
      rw [List.map_cons, List.nodup_cons] at hcn
      rw [List.map_cons, List.lookup_cons]
      rcases List.mem_cons.mp hx with rfl | hx
      · simp
      · have : (x.1 == y.1) = false := by
          rw [beq_eq_false_iff_ne]
          intro e
          exact hcn.1 (List.mem_map.mpr ⟨x, hx, e⟩)
        rw [this]
        exact ih hcn.2 x hx
  have hab : ∀ x ∈ cl, s.heap.objs.size < s.heap.objs.size + x.2.1 := fun x hx => C.above _ _ (PySem.mem_of_lookup (hlook x hx))
  have none_at : ∀ x ∈ cl, s.heap.get? (s.heap.objs.size + x.2.1) = none := fun x hx => by
    cases q : s.heap.get? (s.heap.objs.size + x.2.1) with
    | none => rfl
    | some o => exact absurd (Heap.lt_size q) (Nat.not_lt.mpr (Nat.le_add_right _ _))
  have k₂ : St w A.handled (here Z s) Z (cellsAt s.heap.objs.size cl ++ [(s.heap.objs.size, .fr lb)]) { s with heap := h₁, toks := tk } := by
    refine addCells (cm := bindC (envOfC (fnName (stAt i)) (fnScope (stAt i)) s.heap.objs.size fa (.ref c)).kindOf (names.zip vs) fun _ => none) k₁ (fun x hx => ?_) ?_
    · have z := (start (hd := A.handled) t hO fz).zlt (none_at x hx)
      refine ⟨C.cell _ _ (hlook x hx), fun d hd => ?_, z.1, z.2, fun p hp => ?_⟩
      · rcases hcb x hx with q | ⟨q, q2⟩
        · rw [q] at hd; cases hd
        · rw [hd] at q
          obtain ⟨v, hv, rv⟩ := zip_reads r x.1 d q.symm
          exact ⟨v, bindC_spec hndz x.1 v hv (by
            show (fnScope (stAt i)).names.lookup x.1 ≠ _
            rw [q2]; intro e; cases e), rv⟩
      · rcases List.mem_singleton.mp hp with rfl
        have := hab x hx
        show s.heap.objs.size ≠ _
        exact Nat.ne_of_lt (by assumption)
    · have := C.apart
      rw [hcl, List.pairwise_map] at this
      exact this
  refine wpAny_mono (h (A.deeper (envOfC (fnName (stAt i)) (fnScope (stAt i)) s.heap.objs.size fa (.ref c))) _ (hA.deeper _) hH (by show A.frames.map _ = _; rw [hfr]; rfl) _ _ _ (k₂.perm (by
    show (cellsAt s.heap.objs.size cl ++ [(s.heap.objs.size, It.fr lb)]).Perm ([(s.heap.objs.size, It.fr lb)] ++ cellsAt s.heap.objs.size cl)
    exact List.perm_append_comm))) (fun f s' q => ?_) fun _ _ f => f
  obtain ⟨Z', n', d, le, ge, k', rf, hp⟩ := q
  cases rf with
  | ret rv => exact ⟨Z', _, k'.drop (List.nil_sublist _), rv, hp⟩
  | _ => exact ⟨Z', .none, k'.drop (List.nil_sublist _), .none, hp⟩
end Mine
end
section -- F1
open PySem PySem.W PyProof.Rows PySem.Calls
namespace Mine
noncomputable def inB1 (c : Nat) : Bool := (setEnts.any fun e => e.1 == (c : Int))
theorem b1_set {w : World} {h : Heap} (t : ∀ a ob, (H1 w.params).get? a = some ob → h.get? a = some ob) : h.SetOf (intKind pw w) 65 (fun k => setEnts.any fun e => e.1 == k) 27 := by
  refine ⟨o_65 w.params, setEnts.toArray, 29, _, t _ _ (by kernel_rfl), ⟨rfl, rfl, rfl⟩, rfl, ?_, ?_, by decide +kernel, by kernel_rfl, by decide +kernel⟩
  · intro e he
    rw [List.toList_toArray] at he
    have : ∀ e ∈ setEnts, (∃ k t, e.2 = .int k t ∧ e.1 = hashInt k) := by
      unfold setEnts
      intro e he
      obtain ⟨⟨a, b⟩, hm, rfl⟩ := List.mem_map.mp he
      refine ⟨a, b, rfl, ?_⟩
      have := (List.of_mem_zip hm).1
      have q : ∀ a ∈ ([65024, 65025, 65026, 65027, 65028, 65029, 6150, 65030, 65031, 65032, 65033, 6155, 6156, 6157, 8203, 8204, 8205, 65034, 65035, 65036, 65037, 65038, 65039, 173, 847, 8288, 65279] : List Int), a = hashInt a := by decide +kernel
      exact q a this
    obtain ⟨k, tk, e1, e2⟩ := this e he
    rw [e1]
    exact ⟨⟨k, intKind_is .., e2⟩, rfl⟩
  · intro k
    rw [List.toList_toArray, List.any_eq_true]
    constructor
    · rintro ⟨e, he, q⟩
      refine ⟨e, he, ?_⟩
      have : ∃ a b, e = (a, .int a b) := by
        unfold setEnts at he
        obtain ⟨⟨a, b⟩, hm, rfl⟩ := List.mem_map.mp he
        exact ⟨a, b, rfl⟩
      obtain ⟨a, b, rfl⟩ := this
      rw [beq_iff_eq] at q
      dsimp only at q
      subst q
      exact intKind_is ..
    · rintro ⟨e, he, q⟩
      refine ⟨e, he, ?_⟩
      have : ∃ a b, e = (a, .int a b) := by
        unfold setEnts at he
        obtain ⟨⟨a, b⟩, hm, rfl⟩ := List.mem_map.mp he
        exact ⟨a, b, rfl⟩
      obtain ⟨a, b, rfl⟩ := this
      obtain ⟨t', e'⟩ := Value.isInt_shape (show Value.isInt k (Value.int a b) = true from q)
      (first | apply Rds.nE e' | (apply Rd.iE e'; intro _) | (apply Rd.sE e'; intro _) | apply Rd.rE e' | apply Rd.bE e' | apply Rd.nE e' | cases e')
      simp
theorem inSet {w : World} {A : Around} {E : Value → Shared → Prop} {n : Led} {P : Led → D → Prop} {c : Nat} (h : P n (.bool (inB1 c))) : M2 w A E Rd (compareOp .In) (.int c) (.raw (.ref 65)) n P := fun F Z s v u k r q => by
  (first | apply Rds.nE r | (apply Rd.iE r; intro _) | (apply Rd.sE r; intro _) | apply Rd.rE r | apply Rd.bE r | apply Rd.nE r | cases r); (first | apply Rds.nE q | (apply Rd.iE q; intro _) | (apply Rd.sE q; intro _) | apply Rd.rE q | apply Rd.bE q | apply Rd.nE q | cases q)
  exact wpAny_inSet_of (knd := intKind pw w) (intKind_is ..) rfl (b1_set k.topH) (Po.same rfl (k.tok _) (.bool _) h)
theorem c75 {w : World} {k c : Nat} : Cn w Aw (k + 1) 75 [.str ⟨#[c]⟩] (fun d => d = .bool (inB1 c)) := by
  refine enter (i := 11) (fa := 75) (c := 74) (o := o_75_s11 w.params) (names := [Str.ofString "code"]) (by kernel_rfl) rfl (codeRec_of (by kernel_rfl)) (fun vals h => ?_) rfl (by decide +kernel) (by decide +kernel) rfl rfl rfl (by decide +kernel) fun A L hA hH => ?_
  · exact len1 h fun _ => rfl
  conv => arg 4; arg 1; whnf
  refine exC (sRet (cmp rfl ?_))
  refine caB rfl rfl rfl (nmB rfl rfl rfl (by rfl) (by rfl) (bm_ord _) (bt_ord _) ⟨_, rfl, ?_⟩)
  refine spC rfl (nmL rfl rfl (by rfl) (by rfl) (by rfl) (spN ?_))
  refine bOrd rfl ?_
  refine nmG rfl rfl (by rfl) (by rfl) (gt_b1_set _) ?_
  exact inSet rfl
end Mine
end
section
open PySem PySem.W PyProof.Rows PySem.Calls
namespace Mine
local macro_rules | `(tactic| walk_at "upd") => `(tactic| (repeat first | exact Upd.here | apply Upd.there | exact Del.here | apply Del.there))
local macro_rules | `(tactic| walk_at "cells") => `(tactic| (simp only [List.forall_mem_cons]; repeat' first | exact trivial | exact Or.inl trivial | exact Or.inl (by rfl) | exact Or.inr ⟨by rfl, by rfl⟩ | exact (fun _ h => nomatch h) | exact (by rfl) | refine And.intro ?_ ?_))
local macro_rules | `(tactic| walk_at "keep") => `(tactic| (simp only [List.forall_mem_cons]; repeat' first | refine And.intro ?_ ?_ | exact (fun _ h => nomatch h) | kernel_rfl))
local macro_rules | `(tactic| walk_at "mem") => `(tactic| (repeat first | exact List.Mem.head _ | apply List.Mem.tail))
local macro_rules | `(tactic| walk_at $s:str) => do
  match s.getString.splitOn " " with
  | "!" :: p :: r =>
    let h ← `(?_)
    let tb : List Lean.Term := [h, ← `(rfl), ← `(by rfl), ← `(by assumption), ← `(by walk_at "upd"), ← `(by walk_at "mem"), ← `(fun _ => rfl), ← `(⟨⟨rfl, rfl, rfl, rfl⟩, rfl, rfl, rfl⟩), ← `(by omega)]
    let a := p.splitOn ":"
    let hs := (a.getLast!.toList.map fun c => tb.getD ("_rbaumfGw".toList.idxOf c) h).toArray
    let x := Lean.Syntax.mkApp (Lean.mkIdent a.head!.toName) hs
    let t ← if a.length == 2 then `(tactic| with_reducible refine $x) else if p.front == ':' then `(tactic| exact $(hs[0]!)) else `(tactic| refine $x)
    if r.isEmpty then return t else `(tactic| ($t; walk_at $(Lean.Syntax.mkStrLit (" ".intercalate ("!" :: r)))))
  | _ => Lean.Macro.throwUnsupported
section -- F2
theorem ent3_mem {step : Nat} : ∀ {l : List (Int × Str)} {t : Nat} {e : DictEntry}, e ∈ ent3 step l t → ∃ k v t, (k, v) ∈ l ∧ e = ⟨k, .int k t, .str v (t + 1)⟩ := by
  intro l
  induction l with
  | nil => intro t e h; exact absurd h List.not_mem_nil
  | cons p r ih =>
    intro t e h
    rcases List.mem_cons.mp (show e ∈ (⟨p.1, .int p.1 t, .str p.2 (t + 1)⟩ : DictEntry) :: ent3 step r (t + step) from h) with h | h
    · exact ⟨p.1, p.2, t, .head _, h⟩
    · obtain ⟨k', v', t', hm, h2⟩ := ih h
      exact ⟨k', v', t', .tail _ hm, h2⟩
theorem ent3_find {step : Nat} (k : Int) : ∀ (l : List (Int × Str)) (t : Nat), match l.lookup k with
    | none => (ent3 step l t).find? (fun e => Value.isInt k e.key) = none
    | some v => ∃ e u, (ent3 step l t).find? (fun e => Value.isInt k e.key) = some e ∧ e.val = .str v u
  | [], t => rfl
  | (k', v) :: r, t => by
    have ih := ent3_find (step := step) k r (t + step)
    rw [List.lookup_cons]
    unfold ent3
    rw [List.find?_cons]
    have e1 : Value.isInt k (Value.int k' t) = (k == k') := by
      show (k' == k) = (k == k')
      rw [Bool.eq_iff_iff, beq_iff_eq, beq_iff_eq]; exact eq_comm
    simp only [e1]
    cases hk : k == k' with
    | true => exact ⟨_, _, rfl, rfl⟩
    | false => exact ih
theorem b3_hash : (b3Pairs.all fun p => p.1 == hashInt p.1) = true := by decide +kernel
theorem b3_keys : ∀ e ∈ b3Ents, ∃ k v t, e = ⟨hashInt k, .int k t, .str v (t + 1)⟩ := by
  intro e he
  have key : ∃ k v t, (k, v) ∈ b3Pairs ∧ e = ⟨k, .int k t, .str v (t + 1)⟩ := by
    rcases List.mem_append.mp he with h | h
    · obtain ⟨k, v, t, hm, rfl⟩ := ent3_mem h
      exact ⟨k, v, t, List.mem_of_mem_take hm, rfl⟩
    · obtain ⟨k, v, t, hm, rfl⟩ := ent3_mem h
      exact ⟨k, v, t, List.mem_of_mem_drop hm, rfl⟩
  obtain ⟨k, v, t, hm, rfl⟩ := key
  have := List.all_eq_true.mp b3_hash (k, v) hm
  have h2 : k = hashInt k := beq_iff_eq.mp this
  exact ⟨k, v, t, by rw [← h2]⟩
theorem b3_find (k : Int) : match b3Pairs.lookup k with
    | none => b3Ents.find? (fun e => Value.isInt k e.key) = none
    | some v => ∃ e u, b3Ents.find? (fun e => Value.isInt k e.key) = some e ∧ e.val = .str v u := by
  have e1 : b3Pairs.lookup k = ((b3Pairs.take 646).lookup k).or ((b3Pairs.drop 646).lookup k) := by rw [← List.lookup_append, List.take_append_drop]
  have h1 := ent3_find (step := 3) k (b3Pairs.take 646) 351
  have h2 := ent3_find (step := 2) k (b3Pairs.drop 646) 2289
  rw [e1]
  unfold b3Ents
  rw [List.find?_append]
  cases q1 : (b3Pairs.take 646).lookup k with
  | some v =>
    rw [q1] at h1
    obtain ⟨e, u, he, hv⟩ := h1
    rw [he]
    exact ⟨e, u, rfl, hv⟩
  | none =>
    rw [q1] at h1
    rw [h1]
    cases q2 : (b3Pairs.drop 646).lookup k with
    | some v =>
      rw [q2] at h2
      obtain ⟨e, u, he, hv⟩ := h2
      rw [he]
      exact ⟨e, u, rfl, hv⟩
    | none => rw [q2] at h2; rw [h2]; rfl
theorem b3_map {w : World} {h : Heap} (t : ∀ a ob, (H1 w.params).get? a = some ob → h.get? a = some ob) : h.MapOf (intKind pw w) 76 (fun k => (b3Ents.find? fun e => Value.isInt k e.key).map (·.val)) := by
  refine ⟨o_76 w.params, b3Ents.toArray, b3Ents.length, t _ _ (by kernel_rfl), ⟨rfl, rfl, rfl⟩, rfl, fun e he => ?_, fun k => ?_⟩
  · obtain ⟨k, v, t, rfl⟩ := b3_keys e (by simpa using he)
    exact ⟨k, intKind_is .., rfl⟩
  · unfold findBy
    rw [List.find?_toArray]; rfl
noncomputable def b3Map (c : Nat) : Str := match b3Pairs.lookup (c : Int) with
  | some v => v
  | none => Txt.lower ⟨#[c]⟩
noncomputable def b3Get (k : Int) : D := match b3Pairs.lookup k with
  | some v => .str v
  | none => .none
theorem mGetB3 {w : World} {A : Around} {E : Value → Shared → Prop} {n : Led} {P : Led → D → Prop} {c : Int} (h : P n (b3Get c)) : ML w A E Rd (fun vs => call (.builtin "dict.get") vs) [.raw (.ref 76), .int c] n P := fun F Z s vs k q => by
  apply Rds.cE q; intro _ _ q p
  apply Rds.cE p; intro _ _ p x
  (first | apply Rds.nE x | (apply Rd.iE x; intro _) | (apply Rd.sE x; intro _) | apply Rd.rE x | apply Rd.bE x | apply Rd.nE x | cases x); (first | apply Rds.nE q | (apply Rd.iE q; intro _) | (apply Rd.sE q; intro _) | apply Rd.rE q | apply Rd.bE q | apply Rd.nE q | cases q); (first | apply Rds.nE p | (apply Rd.iE p; intro _) | (apply Rd.sE p; intro _) | apply Rd.rE p | apply Rd.bE p | apply Rd.nE p | cases p)
  have hm := b3_map k.topH
  refine call_meetsIn PySem.F.slot_dict_get hm.typeIs PySem.F.entry_dict_get (PySem.F.args_dict_get_2 _ _) (meets_dict_get (intKind pw w) 76 (intKind_is ..) rfl) ⟨_, hm, ?_⟩
  have hf := b3_find c
  refine Po.same rfl (k.tok _) ?_ h
  unfold b3Get
  cases q : b3Pairs.lookup c with
  | none => rw [q] at hf; simp only [hf]; exact .none
  | some v => rw [q] at hf; obtain ⟨e, u, he, hv⟩ := hf; simp only [he, Option.map_some, Option.getD_some, hv]; exact .str v u
theorem c121 {w : World} {k c : Nat} : Cn w Aw (k + 1) 121 [.str ⟨#[c]⟩] (fun d => d = .str (b3Map c)) := by
  refine enter (i := 13) (fa := 121) (c := 120) (o := o_121_s22 w.params) (names := [Str.ofString "code"]) (by kernel_rfl) rfl (codeRec_of (by kernel_rfl)) (fun vals h => ?_) rfl (by decide +kernel) (by decide +kernel) rfl rfl rfl (by decide +kernel) fun A L hA hH => ?_
  · exact len1 h fun _ => rfl
  conv => arg 4; arg 1; whnf
  walk_at "! exC:_ sAsgN:__ ::r me_get:______ ::r ::r ::r ::r ::r"
  refine nmG rfl rfl (by rfl) (by rfl) (gt_b3_exceptions _) ⟨tyDi (o := o_76 w.params) (by kernel_rfl) rfl rfl, ?_⟩
  walk_at "! spC:__ seC::r ca_ord:__ ::G spC:__ seC::r nmL::rrbbb_ spN:_ bOrd:__ ::r spN:_"
  refine mGetB3 ?_
  unfold b3Map b3Get
  show M1 _ _ _ _ _ (match b3Pairs.lookup (c : Int) with | some v => D.str v | none => D.none) _ _
  cases b3Pairs.lookup (c : Int) with
  | some v =>
    walk_at "! stL::rrb_ qN:_ exC:_ sIf:_ trC:__ ::r nmL::rrbbb_ kN:_ isNotNS:_"
    refine ⟨true, rfl, ?_⟩
    refine iT rfl ?_
    walk_at "! exC:_ sRet:_ nmL::rrbbb_ qR:_ qR:_"
    rfl
  | none =>
    walk_at "! stL::rrb_ qN:_ exC:_ sIf:_ trC:__ ::r nmL::rrbbb_ kN:_ isNotNN:_"
    refine ⟨false, rfl, ?_⟩
    refine iF Bool.false_ne_true ?_
    walk_at "! exN:_ qN:_ exC:_ sRet:_ me_lower:___ ::r ::r nmL::rrbbb_ tySA::_"
    exact mLower (by have := len_lower ⟨#[c]⟩; unfold Builtin.Str.tooLong; rw [sizeLine_eq]; exact decide_eq_false (by have e : (⟨#[c]⟩ : Str).length = 1 := rfl; grind)) rfl
end
section -- F3
noncomputable def filst : Str := Str.ofString "filst"
noncomputable def lnA : List Int := [0, 1, 2, 4, 7, 8, 9, 10, 11, 12]
noncomputable def lnB : List Int := [5, 8, 11, 18, 19]
noncomputable def lnC : List Int := [8497, 8464, 8466, 383, 119983]
noncomputable def lnD : List Int := [64256, 64257, 64258, 223, 64262]
noncomputable def lnE : List Str := [Str.ofString "ff", Str.ofString "fi", Str.ofString "fl", Str.ofString "ss", Str.ofString "st"]
noncomputable def lnF : List Str := [Str.ofString "filst", Str.ofString "FILST"]
noncomputable def signOf (l f : Nat) : Str :=
  if f < 2 then ⟨#[(lnF.getD f Str.empty).cps.getD l 0]⟩ else if f < 12 then ⟨#[(119808 + 52 * lnA.getD (f - 2) 0 + lnB.getD l 0).toNat]⟩ else if f = 12 then ⟨#[(lnC.getD l 0).toNat]⟩ else ⟨#[(lnD.getD l 0).toNat]⟩
noncomputable def nameOf (l f : Nat) : Str := if f < 13 then ⟨#[filst.cps.getD l 0]⟩ else lnE.getD l Str.empty
theorem nthS {l : List Str} {j : Nat} {i : Int} (hi : i = j) (h : j < l.length) : (l.map D.str)[i.toNat]? = some (D.str (l.getD j Str.empty)) := by
  subst hi
  rw [Int.toNat_natCast, List.getElem?_map, List.getD_eq_getElem?_getD, List.getElem?_eq_getElem h]; rfl
theorem nthI {l : List Int} {j : Nat} {i : Int} (hi : i = j) (h : j < l.length) : (l.map D.int)[i.toNat]? = some (D.int (l.getD j 0)) := by
  subst hi
  rw [Int.toNat_natCast, List.getElem?_map, List.getD_eq_getElem?_getD, List.getElem?_eq_getElem h]; rfl
theorem nthC {x : Str} {j : Nat} {i : Int} (hi : i = j) (h : j < x.cps.size) : x.cps[i.toNat]? = some (x.cps.getD j 0) := by
  subst hi
  rw [Int.toNat_natCast, Array.getD_eq_getD_getElem?, Array.getElem?_eq_getElem h]; rfl
theorem itLI {w : World} {A : Around} {E : Value → Shared → Prop} {n : Led} {P : Led → D → Prop} {e sl : Expr} {ds : List D} {i : Int} (l : List Int) (j : Nat) (hs : Subs sl) (hds : ds = l.map D.int) (hi : i = j) (hf : j < 2 ^ 63) (hj : j < l.length) (h : P n (.int (l.getD j 0))) :
    M2 w A E Rd (subscriptTail e sl) (.lst ds) (.int i) n P := by
  subst hds; exact itL hs (by grind) (by lia) (nthI hi hj) h
theorem itLS {w : World} {A : Around} {E : Value → Shared → Prop} {n : Led} {P : Led → D → Prop} {e sl : Expr} {ds : List D} {i : Int} (l : List Str) (j : Nat) (hs : Subs sl) (hds : ds = l.map D.str) (hi : i = j) (hf : j < 2 ^ 63) (hj : j < l.length) (h : P n (.str (l.getD j Str.empty))) :
    M2 w A E Rd (subscriptTail e sl) (.lst ds) (.int i) n P := by
  subst hds; exact itL hs (by grind) (by lia) (nthS hi hj) h
theorem ln_range : ∀ a < 10, ∀ l < 5, 0 ≤ 119808 + 52 * lnA.getD a 0 + lnB.getD l 0 ∧ 119808 + 52 * lnA.getD a 0 + lnB.getD l 0 ≤ 1114111 := by decide
theorem lnC_range : ∀ l < 5, 0 ≤ lnC.getD l 0 ∧ lnC.getD l 0 ≤ 1114111 := by decide
theorem lnD_range : ∀ l < 5, 0 ≤ lnD.getD l 0 ∧ lnD.getD l 0 ≤ 1114111 := by decide
theorem lnF_size : ∀ f < 2, (lnF.getD f Str.empty).cps.size = 5 := by decide +kernel
theorem c128 {w : World} {k l f : Nat} (hl : l < 5) (hf : f < 14) : Cn w Aw (k + 1) 128 [.int l, .int f] (fun d => d = .tup [.str (signOf l f), .str (nameOf l f)]) := by
  refine enter (i := 15) (fa := 128) (c := 127) (o := o_128_s22 w.params) (names := [Str.ofString "letter", Str.ofString "form"]) (by kernel_rfl) rfl (codeRec_of (by kernel_rfl)) (fun vals h => ?_) rfl (by decide +kernel) (by decide +kernel) rfl rfl rfl (by decide +kernel) fun A L hA hH => ?_
  · exact len2 h fun _ _ => rfl
  conv => arg 4; arg 1; whnf
  walk_at "! exC:_ sIf:_ trC:__ ::r nmL::rrbbb_ kI:_ ltI:_"
  refine ⟨_, rfl, ?_⟩
  by_cases h1 : f < 2
  · refine iT (by simp; exact Int.ofNat_lt.mpr (by assumption)) ?_
    walk_at "! exC:_ sRet:_ tup_:_ spC:__ seC::r sub:_ sub:_ lstC:_ spC:__ seC::r kS:_ spC:__ seC::r kS:_ spN:_"
    refine ⟨szl (by simp), ?_⟩
    walk_at "! nmL::rrbbb_"
    refine itLS lnF f (fun _ _ => ⟨_, rfl⟩) (by rfl) rfl (by exact Nat.lt_of_lt_of_le (by assumption) (by decide)) h1 ?_
    walk_at "! nmL::rrbbb_"
    have hs := lnF_size f h1
    refine itS (fun _ _ => ⟨_, rfl⟩) (by exact Int.natCast_nonneg _) (by omega) (by show _ < ((lnF.getD f Str.empty).cps.size : Int); lia) (nthC rfl (by simp only [*])) ?_
    walk_at "! spC:__ seC::r sub:_ kS:_ nmL::rrbbb_"
    refine itS (fun _ _ => ⟨_, rfl⟩) (by exact Int.natCast_nonneg _) (by omega) (by show _ < (5 : Int); exact Int.ofNat_lt.mpr (by assumption)) (nthC (x := filst) rfl (show l < 5 from hl)) ?_
    walk_at "! spN:_"
    refine ⟨szl (by simp), ?_⟩
    walk_at "! qR:_ qR:_"
    simp only [signOf, nameOf, if_pos h1, if_pos (show f < 13 by exact Nat.lt_of_lt_of_le (by assumption) (by decide))]
  · refine iF (by simp; lia) ?_
    walk_at "! exN:_ qN:_ exC:_ sIf:_ trC:__ ::r nmL::rrbbb_ kI:_ ltI:_"
    refine ⟨_, rfl, ?_⟩
    by_cases h2 : f < 12
    · refine iT (by simp; exact Int.ofNat_lt.mpr (by assumption)) ?_
      walk_at "! exC:_ sAsgN:__ ::r sub:_ lstC:_ spC:__ seC::r kI:_ spC:__ seC::r kI:_ spC:__ seC::r kI:_ spC:__ seC::r kI:_ spC:__ seC::r kI:_ spC:__ seC::r kI:_ spC:__ seC::r kI:_ spC:__ seC::r kI:_ spC:__ seC::r kI:_ spC:__ seC::r kI:_ spN:_"
      refine ⟨szl (by simp), ?_⟩
      walk_at "! bin:_ nmL::rrbbb_ kI:_ subI:_"
      refine itLI lnA (f - 2) (fun _ _ => ⟨_, rfl⟩) (by rfl) (by grind) (by omega) (show f - 2 < 10 by omega) ?_
      walk_at "! stL::rrb_ qN:_ exC:_ sRet:_ tup_:_ spC:__ seC::r ca_chr:__ ::G spC:__ seC::r bin:_ bin:_ kI:_ bin:_ kI:_ nmL::rrbbb_"
      refine mulI (.of_left (by decide)) ?_
      walk_at "! addI:_ sub:_ lstC:_ spC:__ seC::r kI:_ spC:__ seC::r kI:_ spC:__ seC::r kI:_ spC:__ seC::r kI:_ spC:__ seC::r kI:_ spN:_"
      refine ⟨szl (by simp), ?_⟩
      walk_at "! nmL::rrbbb_"
      refine itLI lnB l (fun _ _ => ⟨_, rfl⟩) (by rfl) rfl (by exact Nat.lt_of_lt_of_le (by assumption) (by decide)) hl ?_
      walk_at "! addI:_ spN:_"
      have hr := ln_range (f - 2) (by omega) l hl
      refine bChr hr.1 hr.2 ?_
      walk_at "! spC:__ seC::r sub:_ kS:_ nmL::rrbbb_"
      refine itS (fun _ _ => ⟨_, rfl⟩) (by exact Int.natCast_nonneg _) (by omega) (by show _ < (5 : Int); exact Int.ofNat_lt.mpr (by assumption)) (nthC (x := filst) rfl (show l < 5 from hl)) ?_
      walk_at "! spN:_"
      refine ⟨szl (by simp), ?_⟩
      walk_at "! qR:_ qR:_"
      simp only [signOf, nameOf, if_neg h1, if_pos h2, if_pos (show f < 13 by exact Nat.lt_succ_of_lt (by assumption))]
    · refine iF (by simp; lia) ?_
      walk_at "! exN:_ qN:_ exC:_ sIf:_ trC:__ ::r nmL::rrbbb_ kI:_ eqI:_"
      refine ⟨_, rfl, ?_⟩
      by_cases h3 : f = 12
      · refine iT (by simp; (subst_vars; rfl)) ?_
        walk_at "! exC:_ sRet:_ tup_:_ spC:__ seC::r ca_chr:__ ::G spC:__ seC::r sub:_ lstC:_ spC:__ seC::r kI:_ spC:__ seC::r kI:_ spC:__ seC::r kI:_ spC:__ seC::r kI:_ spC:__ seC::r kI:_ spN:_"
        refine ⟨szl (by simp), ?_⟩
        walk_at "! nmL::rrbbb_"
        refine itLI lnC l (fun _ _ => ⟨_, rfl⟩) (by rfl) rfl (by omega) hl ?_
        walk_at "! spN:_"
        have hr := lnC_range l hl
        refine bChr hr.1 hr.2 ?_
        walk_at "! spC:__ seC::r sub:_ kS:_ nmL::rrbbb_"
        refine itS (fun _ _ => ⟨_, rfl⟩) (by exact Int.natCast_nonneg _) (by omega) (by show _ < (5 : Int); exact Int.ofNat_lt.mpr (by assumption)) (nthC (x := filst) rfl (show l < 5 from hl)) ?_
        walk_at "! spN:_"
        refine ⟨szl (by simp), ?_⟩
        walk_at "! qR:_ qR:_"
        simp only [signOf, nameOf, if_neg h1, if_neg h2, if_pos h3, if_pos (show f < 13 by (subst_vars; decide))]
      · refine iF (by simp; grind) ?_
        walk_at "! exN:_ qN:_ exC:_ sRet:_ tup_:_ spC:__ seC::r ca_chr:__ ::G spC:__ seC::r sub:_ lstC:_ spC:__ seC::r kI:_ spC:__ seC::r kI:_ spC:__ seC::r kI:_ spC:__ seC::r kI:_ spC:__ seC::r kI:_ spN:_"
        refine ⟨szl (by simp), ?_⟩
        walk_at "! nmL::rrbbb_"
        refine itLI lnD l (fun _ _ => ⟨_, rfl⟩) (by rfl) rfl (by omega) hl ?_
        walk_at "! spN:_"
        have hr := lnD_range l hl
        refine bChr hr.1 hr.2 ?_
        walk_at "! spC:__ seC::r sub:_ lstC:_ spC:__ seC::r kS:_ spC:__ seC::r kS:_ spC:__ seC::r kS:_ spC:__ seC::r kS:_ spC:__ seC::r kS:_ spN:_"
        refine ⟨szl (by simp), ?_⟩
        walk_at "! nmL::rrbbb_"
        refine itLS lnE l (fun _ _ => ⟨_, rfl⟩) (by rfl) rfl (by omega) hl ?_
        walk_at "! spN:_"
        refine ⟨szl (by simp), ?_⟩
        walk_at "! qR:_"
        simp only [signOf, nameOf, if_neg h1, if_neg h2, if_neg h3, if_neg (show ¬ f < 13 by grind)]
end
section -- F4
noncomputable def flagPairs : List (Int × Str) := [(1, Str.ofString "OPTIMIZED"), (2, Str.ofString "NEWLOCALS"), (4, Str.ofString "VARARGS"), (8, Str.ofString "VARKEYWORDS"), (16, Str.ofString "NESTED"), (32, Str.ofString "GENERATOR"), (64, Str.ofString "NOFREE"), (128, Str.ofString "COROUTINE"), (256, Str.ofString "ITERABLE_COROUTINE"), (512, Str.ofString "ASYNC_GENERATOR")]
theorem fl_keys : ∀ e ∈ ent3 2 flagPairs 189, ∃ k v t, e = ⟨hashInt k, .int k t, .str v (t + 1)⟩ := by
  intro e he
  obtain ⟨k, v, t, hm, rfl⟩ := ent3_mem he
  have hh : (flagPairs.all fun p => p.1 == hashInt p.1) = true := by decide +kernel
  have h2 : k = hashInt k := beq_iff_eq.mp (List.all_eq_true.mp hh (k, v) hm)
  exact ⟨k, v, t, by rw [← h2]⟩
theorem fl_map {w : World} {h : Heap} (t : ∀ a ob, (H1 w.params).get? a = some ob → h.get? a = some ob) : h.MapOf (intKind pw w) 15 (fun k => ((ent3 2 flagPairs 189).find? fun e => Value.isInt k e.key).map (·.val)) := by
  refine ⟨⟨.type "dict", none, .dict (ent3 2 flagPairs 189).toArray 10, #[]⟩, (ent3 2 flagPairs 189).toArray, 10, t _ _ (by kernel_rfl), ⟨rfl, rfl, rfl⟩, rfl, fun e he => ?_, fun k => ?_⟩
  · obtain ⟨k, v, t, rfl⟩ := fl_keys e (by simpa using he)
    exact ⟨k, intKind_is .., rfl⟩
  · unfold findBy
    rw [List.find?_toArray]; rfl
noncomputable def flGet (k : Int) (d : Str) : Str := match flagPairs.lookup k with
  | some v => v
  | none => d
theorem mGetFl {w : World} {A : Around} {E : Value → Shared → Prop} {n : Led} {P : Led → D → Prop} {c : Int} {d : Str} (h : P n (.str (flGet c d))) : ML w A E Rd (fun vs => call (.builtin "dict.get") vs) [.raw (.ref 15), .int c, .str d] n P := fun F Z s vs k q => by
  apply Rds.cE q; intro _ _ q p
  apply Rds.cE p; intro _ _ p x
  apply Rds.cE x; intro _ _ x y
  (first | apply Rds.nE y | (apply Rd.iE y; intro _) | (apply Rd.sE y; intro _) | apply Rd.rE y | apply Rd.bE y | apply Rd.nE y | cases y); (first | apply Rds.nE q | (apply Rd.iE q; intro _) | (apply Rd.sE q; intro _) | apply Rd.rE q | apply Rd.bE q | apply Rd.nE q | cases q); (first | apply Rds.nE p | (apply Rd.iE p; intro _) | (apply Rd.sE p; intro _) | apply Rd.rE p | apply Rd.bE p | apply Rd.nE p | cases p); (first | apply Rds.nE x | (apply Rd.iE x; intro _) | (apply Rd.sE x; intro _) | apply Rd.rE x | apply Rd.bE x | apply Rd.nE x | cases x)
  have hm := fl_map k.topH
  refine call_meetsIn PySem.F.slot_dict_get hm.typeIs PySem.F.entry_dict_get (PySem.F.args_dict_get_3 _ _ _) (meets_dict_get_default (intKind pw w) 15 (intKind_is ..) rfl _) ⟨_, hm, ?_⟩
  have hf := ent3_find (step := 2) c flagPairs 189
  refine Po.same rfl (k.tok _) ?_ h
  unfold flGet
  cases q : flagPairs.lookup c with
  | none => rw [q] at hf; simp only [hf]; exact .str _ _
  | some v => rw [q] at hf; obtain ⟨e, u, he, hv⟩ := hf; simp only [he, Option.map_some, Option.getD_some, hv]; exact .str v u
/-- the loop of pretty_flags: what is to come, the flags, the names -/
noncomputable def pfLoop : List Nat → Int → List Str → List Str × Int × Bool
  | [], fl, ns => (ns, fl, false)
  | i :: r, fl, ns =>
    let flag : Int := 1 * 2 ^ ((i : Int)).toNat
    if Builtin.bitAnd fl flag != 0 then
      let fl' := Builtin.bitXor fl flag
      let ns' := ns ++ [flGet flag (baseText "0x" 16 flag)]
      if fl' != 0 then pfLoop r fl' ns' else (ns', fl', true)
    else pfLoop r fl ns
noncomputable def pfNames (fl : Int) : List Str :=
  let r := pfLoop (List.range 32) fl []
  if r.2.2 then r.1 else r.1 ++ [baseText "0x" 16 r.2.1]
noncomputable def prettyFlags (fl : Int) : Str := Txt.join (Str.ofString ", ") (pfNames fl)
theorem pf_cons {i : Nat} {r : List Nat} {fl : Int} {ns : List Str} : pfLoop (i :: r) fl ns = if Builtin.bitAnd fl (1 * 2 ^ ((0 + (i : Int) * 1)).toNat) != 0 then
      if Builtin.bitXor fl (1 * 2 ^ ((0 + (i : Int) * 1)).toNat) != 0 then pfLoop r (Builtin.bitXor fl (1 * 2 ^ ((0 + (i : Int) * 1)).toNat)) (ns ++ [flGet (1 * 2 ^ ((0 + (i : Int) * 1)).toNat) (baseText "0x" 16 (1 * 2 ^ ((0 + (i : Int) * 1)).toNat))]) else (ns ++ [flGet (1 * 2 ^ ((0 + (i : Int) * 1)).toNat) (baseText "0x" 16 (1 * 2 ^ ((0 + (i : Int) * 1)).toNat))], Builtin.bitXor fl (1 * 2 ^ ((0 + (i : Int) * 1)).toNat), true) else pfLoop r fl ns := by
  have e : (0 + (i : Int) * 1) = i := by simp +arith only
  rw [e]; rfl
theorem hexFew : ∀ i < 32, (baseText "0x" 16 (1 * 2 ^ ((0 + ((i : Nat) : Int) * 1)).toNat)).length ≤ 1000 := by decide +kernel
inductive InvF4 (L a : Addr) (fl : Int) (l : List D) (n : Led) : Prop
  | mk (is : List Nat) (fl' : Int) (ns : List Str) (h3 : l = is.map (fun (j : Nat) => D.int (0 + j * 1))) (h4 : n = [(L, .fr [(Str.ofString "flags", .int fl'), (Str.ofString "names", .raw (.ref a))]), (a, .lst (ns.map D.str))]) (h5 : (∀ i ∈ is, i < 32)) (h6 : ns.length + is.length ≤ 32) (h7 : pfLoop is fl' ns = pfLoop (List.range 32) fl [])
theorem c22 {w : World} {k : Nat} {fl : Int} (hx : (pfLoop (List.range 32) fl []).2.2 = false → (baseText "0x" 16 (pfLoop (List.range 32) fl []).2.1).length ≤ 1000) (hj : JoinOk (Str.ofString ", ") (pfNames fl) = true) : Cn w Aw (k + 1) 22 [.int fl] (fun d => d = .str (prettyFlags fl)) := by
  refine enter (i := 2) (fa := 22) (c := 21) (o := o_22_s9 w.params) (names := [Str.ofString "flags"]) (by kernel_rfl) rfl (codeRec_of (by kernel_rfl)) (fun vals h => ?_) rfl (by decide +kernel) (by decide +kernel) rfl rfl rfl (by decide +kernel) fun A L hA hH => ?_
  · exact len1 h fun _ => rfl
  conv => arg 4; arg 1; whnf
  walk_at "! exC:_"
  walk_at "! sAsgN:__ ::r"
  refine lstO ?_
  walk_at "! spN:_"
  refine ⟨szl (by simp), _, _, rfl, fun a => ?_⟩
  walk_at "! stL::rrb_ qN:_ exC:_ sFor:__ ::f ca_range:__ ::G spC:__ seC::r kI:_ spN:_ bRng1:_"
  refine ⟨_, .rng (by decide) (k := 32) rfl, ?_⟩
  refine ForP.forget (b' := [(Str.ofString "flags", .int fl), (Str.ofString "names", .raw (.ref a))]) (by walk_at "keep") ?_
  refine ForP.ind (InvF4 L a fl) ?_ ?_ ⟨List.range 32, fl, [], rfl, rfl, by simp, by simp, rfl⟩
  · rintro n ⟨is, fl', ns, hl, rfl, hi, hn, he⟩
    cases is with
    | cons _ _ => (first | apply Rds.nE hl | (apply Rd.iE hl; intro _) | (apply Rd.sE hl; intro _) | apply Rd.rE hl | apply Rd.bE hl | apply Rd.nE hl | cases hl)
    | nil =>
    rw [← he] at hx
    have hp : pfNames fl = ns ++ [baseText "0x" 16 fl'] := by unfold pfNames; rw [← he]; rfl
    walk_at "! exC:_ sExp:___ ::r ::r me_append:______ ::r ::r ::r ::r ::r nmL::rrbbb_ tyOA::m_ spC:__ seC::r ca_hex:__ ::G spC:__ seC::r nmL::rrbbb_ spN:_"
    refine bHex (szl (hx rfl)) ?_
    walk_at "! spN:_"
    refine mAppend (l := [_]) rfl (szl (by simp at hn ⊢; exact Nat.le_trans (by assumption) (by decide))) ?_
    refine ⟨.inl rfl, ?_⟩
    refine frz (Str.ofString "names") (l := []) (by rfl) (by rfl) ?_
    walk_at "! exN:_ qN:_ exC:_ sRet:_ me_join:______ ::r ::r ::r ::r ::r kS:_ tySA::_ spC:__ seC::r nmL::rrbbb_ spN:_"
    have e2 : ns.map D.str ++ [D.str (baseText "0x" 16 fl')] = (pfNames fl).map D.str := by rw [hp]; simp
    rw [e2]
    refine mJoin hj ?_
    walk_at "! qR:_"
    rfl
  · rintro d r n ⟨is, fl', ns, hl, rfl, hi, hn, he⟩ ih
    cases is with
    | nil => (first | apply Rds.nE hl | (apply Rd.iE hl; intro _) | (apply Rd.sE hl; intro _) | apply Rd.rE hl | apply Rd.bE hl | apply Rd.nE hl | cases hl)
    | cons i is =>
    rw [List.map_cons] at hl
    injection hl with h1 h2
    subst h1 h2
    have hi0 := hi i (.head _)
    rw [pf_cons] at he
    rw [List.length_cons] at hn
    have hxi := hexFew i hi0
    have h2 : (2:Int) ^ ((0 + (i : Int) * 1)).toNat = 2 ^ ((0 + (i : Int) * 1)).toNat := rfl
    walk_at "! asN:_ stL::rrb_ exC:_ sAsgN:__ ::r bin:_ kI:_ nmL::rrbbb_"
    refine shlI (by exact Int.natCast_nonneg _) (by lia) (by decide) ?_
    generalize (1 * 2 ^ ((0 + (i : Int) * 1)).toNat : Int) = flag at *
    walk_at "! stL::rrb_ qN:_ exC:_ sIf:_ trPb:__ ::r bin:_ nmL::rrbbb_ nmL::rrbbb_ andI:_ tyI:_"
    by_cases hb : (Builtin.bitAnd fl' flag != 0) = true
    · rw [if_pos hb] at he
      refine iT hb ?_
      walk_at "! exC:_ sExp:___ ::r ::r me_append:______ ::r ::r ::r ::r ::r nmL::rrbbb_ tyOA::m_ spC:__ seC::r me_get:______ ::r ::r ::r ::r ::r"
      refine nmG rfl rfl (by rfl) (by rfl) (gt_COMPILER_FLAG_NAMES _) ⟨tyDi (o := o_15_s9 w.params) (by kernel_rfl) rfl rfl, ?_⟩
      walk_at "! spC:__ seC::r nmL::rrbbb_ spC:__ seC::r ca_hex:__ ::G spC:__ seC::r nmL::rrbbb_ spN:_"
      refine bHex (szl hxi) ?_
      walk_at "! spN:_"
      refine mGetFl ?_
      walk_at "! spN:_"
      refine mAppend (l := [_]) rfl (szl (by simp at hn ⊢; grind)) ?_
      refine ⟨.inl rfl, ?_⟩
      walk_at "! qN:_ exC:_ sAug::rrbb_ nmL::rrbbb_ ixorI:_ stL::rrb_ qN:_ exC:_ sIf:_ trN:_ trPn:__ ::r nmL::rrbbb_ tyI:_"
      have e2 : ∀ x, ns.map D.str ++ [D.str x] = (ns ++ [x]).map D.str := by simp
      rw [e2]
      by_cases hb2 : (Builtin.bitXor fl' flag != 0) = true
      · rw [if_pos hb2] at he
        refine iF (by rw [hb2]; decide) ?_
        walk_at "! exN:_ qN:_ exN:_ qN:_ exN:_ zN:_"
        exact ForP.forget (b' := [(Str.ofString "flags", .int (Builtin.bitXor fl' flag)), (Str.ofString "names", .raw (.ref a))]) (by walk_at "keep") (ih _ ⟨is, _, _, rfl, rfl, fun j hj => hi j (.tail _ hj), by simp at hn ⊢; lia, he⟩)
      · rw [if_neg hb2] at he
        have hb3 : (Builtin.bitXor fl' flag != 0) = false := by simpa using hb2
        refine iT (by rw [hb3]; rfl) ?_
        have hp : pfNames fl = ns ++ [flGet flag (baseText "0x" 16 flag)] := by unfold pfNames; rw [← he]; rfl
        rw [← hp]
        refine frz (Str.ofString "names") (l := []) (by rfl) (by rfl) ?_
        walk_at "! exC:_ sBrk:_ qB:_ qB:_ qB:_ zB:_ qN:_ exC:_ sRet:_ me_join:______ ::r ::r ::r ::r ::r kS:_ tySA::_ spC:__ seC::r nmL::rrbbb_ spN:_"
        refine mJoin hj ?_
        walk_at "! qR:_"
        rfl
    · rw [if_neg hb] at he
      refine iF hb ?_
      walk_at "! exN:_ qN:_ exN:_ zN:_"
      refine ForP.forget (b' := [(Str.ofString "flags", .int fl'), (Str.ofString "names", .raw (.ref a))]) (by walk_at "keep") (ih _ ⟨is, fl', ns, rfl, rfl, fun j hj => hi j (.tail _ hj), by exact Nat.le_of_lt (by assumption), he⟩)
end
section -- F5
/-- _parse_varint from a digit on: the value and what is left; none where it does not end, or is too big -/
noncomputable def vLoop : Int → Int → List Int → Option (Int × List Int)
  | b, val, [] => if Builtin.bitAnd b 64 != 0 then none else some (val, [])
  | b, val, c :: r => if Builtin.bitAnd b 64 != 0 then if val.natAbs < 2 ^ 1000 then vLoop c (Builtin.bitOr (val * 2 ^ (6 : Int).toNat) (Builtin.bitAnd c 63)) r else none else some (val, c :: r)
noncomputable def varint : List Int → Option (Int × List Int)
  | [] => none
  | b :: r => vLoop b (Builtin.bitAnd b 63) r
theorem c29 {w : World} {A : Around} {E : Value → Shared → Prop} {n : Led} {P : Led → D → Prop} {k : Nat} {it : Addr} {l r : Led} {ds ds' : List Int} {v : Int} (hA : Rm (k + 1) A) (hn : n = l ++ (it, .li (ds.map D.int)) :: r) (hv : varint ds = some (v, ds'))
    (hP : P (l ++ (it, .li (ds'.map D.int)) :: r) (.int v)) : ML w A E Rd (fun vs => call (.ref 29) vs) [.raw (.ref it)] n P := by
  subst hn
  refine enterR (i := 3) (fa := 29) (c := 28) (o := o_29_s9 w.params) (names := [Str.ofString "iterator"]) hA (by kernel_rfl) rfl (codeRec_of (by kernel_rfl)) (fun vals h => ?_) rfl (by decide +kernel) (by decide +kernel) rfl rfl rfl (by decide +kernel) fun B L hB hBh => ?_
  · exact len1 h fun _ => rfl
  conv => arg 4; arg 1; whnf
  cases ds with
  | nil => cases hv
  | cons b ds =>
  walk_at "! exC:_ sAsgN:__ ::r ca_next:__ ::G spC:__ seC::r nmL::rrbbb_ spN:_"
  refine bNext (l := _ :: l) (by rfl) ?_
  walk_at "! stL::rrb_ qN:_ exC:_ sAsgN:__ ::r bin:_ nmL::rrbbb_ kI:_ andI:_ stL::rrb_ qN:_ exC:_ sWhi:_"
  refine HW.forget (b' := [(Str.ofString "iterator", .raw (.ref it)), (Str.ofString "b", .int b), (Str.ofString "val", .int (Builtin.bitAnd b 63))]) (by walk_at "keep") ?_
  replace hv : vLoop b (Builtin.bitAnd b 63) ds = some (v, ds') := hv
  generalize Builtin.bitAnd b 63 = val at *
  induction ds generalizing b val with
  | nil =>
    unfold vLoop at hv
    split at hv
    · cases hv
    · rename_i hb
      obtain ⟨rfl, rfl⟩ : val = v ∧ [] = ds' := by simpa using hv
      refine wTurn ?_
      walk_at "! trPb:__ ::r bin:_ nmL::rrbbb_ kI:_ andI:_ tyI:_"
      refine iF (by simpa using hb) ?_
      walk_at "! exN:_ qN:_ exC:_ sRet:_ nmL::rrbbb_ qR:_"
      exact ⟨_, _, rfl, hP⟩
  | cons c ds ih =>
    unfold vLoop at hv
    split at hv
    · rename_i hb
      split at hv
      · rename_i hc
        refine wTurn ?_
        walk_at "! trPb:__ ::r bin:_ nmL::rrbbb_ kI:_ andI:_ tyI:_"
        refine iT (by simpa using hb) ?_
        walk_at "! exC:_ sAug::rrbb_ kI:_"
        refine ishlI (by decide) (by have := PySem.intBits_le_iff.mpr hc; omega) ?_
        walk_at "! stL::rrb_ qN:_ exC:_ sAsgN:__ ::r ca_next:__ ::G spC:__ seC::r nmL::rrbbb_ spN:_"
        refine bNext (l := _ :: l) (by rfl) ?_
        walk_at "! stL::rrb_ qN:_ exC:_ sAug::rrbb_ bin:_ nmL::rrbbb_ kI:_ andI:_ iorI:_ stL::rrb_ qN:_ exN:_ zN:_"
        refine HW.forget (b' := [(Str.ofString "iterator", .raw (.ref it)), (Str.ofString "b", .int c), (Str.ofString "val", .int (Builtin.bitOr (val * 2 ^ (6 : Int).toNat) (Builtin.bitAnd c 63)))]) (by walk_at "keep") ?_
        exact ih _ _ hv
      · cases hv
    · rename_i hb
      obtain ⟨rfl, rfl⟩ : val = v ∧ c :: ds = ds' := by simpa using hv
      refine wTurn ?_
      walk_at "! trPb:__ ::r bin:_ nmL::rrbbb_ kI:_ andI:_ tyI:_"
      refine iF (by simpa using hb) ?_
      walk_at "! exN:_ qN:_ exC:_ sRet:_ nmL::rrbbb_ qR:_"
      exact ⟨_, _, rfl, hP⟩
end
section -- F6
/-- what _iter_escaped_chars yields -/
noncomputable def escFrom : Nat → Bool → List Nat → List (Nat × Str)
  | i, true, [] => [(i - 1, ⟨#[92]⟩)]
  | _, false, [] => []
  | i, true, c :: r => (i, ⟨#[92, c]⟩) :: escFrom (i + 1) false r
  | i, false, c :: r => if c = 92 then escFrom (i + 1) true r else (i, ⟨#[c]⟩) :: escFrom (i + 1) false r
noncomputable def escD (x : Nat × Str) : D := .tup [.int x.1, .str x.2]
noncomputable def escOf (x : Str) : List (Nat × Str) := escFrom 0 false x.cps.toList
noncomputable def escItems (x : Str) : List D := (escOf x).map escD
noncomputable def GPost (w : World) (F : Bs) (Z : ZM) (s : Shared) : List D → End → Shared → Prop
  | [], e, s' => e = .ret (.ok (.ret .none)) ∧ ∃ Z', Le Z Z' ∧ GE s.gens s'.gens ∧ St w none F Z' [] s'
  | d :: l, e, s' => e.quiet = true ∧ ∃ v g lv k c p fs, e = .susp v g lv k c p fs ∧ ∃ Z' n', Le Z Z' ∧ GE s.gens s'.gens ∧ St w none F Z' n' s' ∧ Rd Z' v d ∧ GRun w l n' e.genState
theorem GRun.mk {w : World} {l : List D} {n : Led} {gs : GenState} (h : ∀ A F Z s, Rm 8 A → A.handled = none → St w none F Z n s → GoesP w A gs s (GPost w F Z s l)) : GRun w l n gs := by
  cases l <;> exact h
theorem GPost.lift {w : World} {F : Bs} {Z Z' : ZM} {s s' : Shared} (le : Le Z Z') (ge : GE s.gens s'.gens) : ∀ {l : List D} {e : End} {t : Shared}, GPost w F Z' s' l e t → GPost w F Z s l e t
  | [], _, _, ⟨a, Z'', l, g, k⟩ => ⟨a, Z'', le.trans l, ge.trans g, k⟩
  | _ :: _, _, _, ⟨q, v, g, lv, k, c, p, fs, e, Z'', n', l, g', r⟩ => ⟨q, v, g, lv, k, c, p, fs, e, Z'', n', le.trans l, ge.trans g', r⟩
section
variable {w : World} {A : Around} {Φ : End → Shared → Prop} {c : Code} {fs : List Frame} {s : Shared} {env : Env} {K : Flow → Sem Fin} {H : Value → Sem Fin} {gd : Bool → Bool} {lv : List Value → List Value} {n : Led} {F : Bs} {Z : ZM}
theorem sp_IfH {t : Expr} {b o : List Stmt} {pos : Pos} (k : St w (A.over c fs).handled F Z n s) (h : Hb w (A.over c fs) (fun x s' => SegP w A Φ c (H x) fs s') (isTrue t env (eval t env)) n fun n' x => ∀ Z' s', Le Z Z' → GE s.gens s'.gens → St w (A.over c fs).handled F Z' n' s' →
      if x = true then SegP w A Φ c ((execs b env).wrap K H gd lv) fs s' else SegP w A Φ c ((execs o env).wrap K H gd lv) fs s') : SegP w A Φ c ((exec (.If t b o pos) env).wrap K H gd lv) fs s :=
  sp_If (Po.map (h F Z s k) fun x x' n' Z' s' le ge k' (e : x = x') hx => by subst e; exact hx _ _ le ge k')
theorem sp_YieldH {e : Expr} {ypos pos : Pos} (hfs : splitAtGen fs = none) (k : St w (A.over c fs).handled F Z n s)
    (h : Hv w (A.over c fs) (fun x s' => SegP w A Φ c (H x) fs s') (eval e env) n fun n' d => ∀ Z' s' v, Le Z Z' → GE s.gens s'.gens → St w (A.over c fs).handled F Z' n' s' → Rd Z' v d →
      ∀ (k : Resume → Sem Fin) l p, (∀ A' Φ' s'', SegP w A' Φ' c (K .next) fs s'' → SegP w A' Φ' c (k (.send .none)) fs s'') → Φ (.susp v (gd false) l k c p fs) s')
    (hco : env.scope.isCoroutine = false := by rfl) (hi : interactive env = false := by rfl) :
    SegP w A Φ c ((exec (.Expr (.Yield (some e) ypos) pos) env).wrap K H gd lv) fs s :=
  sp_Yield hfs (Po.map (h F Z s k) fun _v _d _n' _Z' _s' le ge k' rv h' kk l p hk => h' _ _ _ le ge k' rv kk l p hk) hco hi
theorem sp_func {body : List Stmt} (h : SegP w A Φ (.func body env) ((execs body env).wrap (fun f => .pure (.done (.ret (match f with | .ret v => v | _ => .none)))) (fun e => (leaving env e).wrap (fun _ => .raise e) .raise id id) id id) fs s) :
    SegP w A Φ (.func body env) ((Md w).den (.func body env)) fs s := by
  show SegP w A Φ _ (.point [] fun _ => ((execs body env).onRaise (leaving env)) >>= _) fs s
  refine sp_point ?_
  rw [Sem.onRaise_eq_wrap, Sem.bind_eq_wrap', Sem.wrap_wrap]
  rw [Sem.wrap_congr (execs body env) _ _ (K' := fun f => .pure (.done (.ret (match f with | .ret v => v | _ => .none))))
    (H' := fun e => (leaving env e).wrap (fun _ => .raise e) .raise id id) (fun f => by cases f <;> rfl)
    (fun e => by rw [Sem.bind_eq_wrap, Sem.wrap_wrap]; rfl)]
  exact h
end
noncomputable def esTarget : Expr := match fnBody (stAt 5) with | _ :: _ :: .For t _ _ _ _ :: _ => t | _ => .Name (Str.ofString "") ⟨0, 0, 0, 0⟩
noncomputable def esBody : List Stmt := match fnBody (stAt 5) with | _ :: _ :: .For _ _ b _ _ :: _ => b | _ => []
noncomputable abbrev env36 (L : Addr) : Env := envOf (fnName (stAt 5)) (fnScope (stAt 5)) L 36 (.ref 35)
noncomputable def enumO (it : Addr) (i : Nat) (old : Value) : Obj := { cls := .type "enumerate", dict := none, data := .fields #[.none, .bool false, .ref it, rawInt i, .none, old], slots := #[] }
theorem over_loop {A : Around} {k : Nat} {L : Addr} {kont g l p kp c} (hA : Rm (k + 4) A) (hc : c.weight = 0) (hu : c.cUnits = 0) : Rm k (A.over c [.ret kont none g l (.func (fnBody (stAt 5)) (env36 L)) p kp]) := by
  have h1 := hA.d
  have h2 := hA.u
  constructor
  · show A.depth + frameCount [(Code.func (fnBody (stAt 5)) (env36 L), p)] + c.weight + k < 1000
    rw [hc, frameCount_cons]
    have : (Code.func (fnBody (stAt 5)) (env36 L)).weight = 1 := rfl
    rw [this]
    have : frameCount [] = 0 := rfl
    rw [this]; lia
  · show A.units + unitsOf [(Code.func (fnBody (stAt 5)) (env36 L), p)] + c.cUnits + 4 * k + 20 < 9900
    rw [hu, unitsOf_cons]
    have : (Code.func (fnBody (stAt 5)) (env36 L)).cUnits = 3 := rfl
    rw [this]
    have : unitsOf [] = 0 := rfl
    rw [this]; lia
theorem drawsS {w : World} {A : Around} (hh : A.handled = none) (it : Addr) (x : Str) (t : Tok) :
    Draws pw w A it [it] x.cps.size (fun i v => ∃ c u, x.cps[i]? = some c ∧ v = .str ⟨#[c]⟩ u) (fun i h => h.IsStrIter it (strIterType x) x t i) := by
  unfold strIterType
  split
  · exact .strAscii hh it x t
  · exact .strWide hh it x t
end
section -- F7
theorem St.adopt {w : World} {hd : Option Value} {F : Bs} {Z : ZM} {n : Led} {s : Shared} (k : St w hd F Z n s) {a : Addr} {o : Obj} (ha : s.heap.get? a = some o) (hz : Z a = none) (hb : F.b a = none) (hn : ∀ p ∈ n, p.1 ≠ a) : Le Z (ins Z a o) ∧ St w hd F (ins Z a o) n s := by
  have k' : St w hd F Z ((a, .obj o) :: n) s := ⟨k.tp, k.ho, k.kp, k.z0, k.fz, fun p hp => by
    rcases List.mem_cons.mp hp with rfl | hp
    · exact ⟨ha, hz, hb⟩
    · exact k.nw p hp, by
    rw [List.map_cons, List.nodup_cons]
    refine ⟨fun hm => ?_, k.nd⟩
    obtain ⟨p, hp, e⟩ := List.mem_map.mp hm
    exact hn p hp e, k.ge, k.os⟩
  exact k'.freeze (l := []) rfl ha
theorem St.ne_new {w : World} {hd : Option Value} {F : Bs} {Z : ZM} {n : Led} {s : Shared} (k : St w hd F Z n s) : ∀ p ∈ n, p.1 ≠ s.heap.objs.size := fun p hp e => by
  obtain ⟨o, ho⟩ := (k.nw p hp).1.lt
  rw [e, top_none] at ho; (first | apply Rds.nE ho | (apply Rd.iE ho; intro _) | (apply Rd.sE ho; intro _) | apply Rd.rE ho | apply Rd.bE ho | apply Rd.nE ho | cases ho)
/-- one more turn of the generator's loop -/
theorem escLoop {w : World} {L it en : Addr} {x : Str} {t : Tok} {kont : Result → Sem Fin} {lv₀ : List Value} {p₀ : Pos} {kp₀ : List Value} (hne : en ≠ it)
    (hend : ∀ A F Z s (i : Nat) (esc : Bool), Rm 8 A → A.handled = none → St w none F Z [(L, .fr [(Str.ofString "addr", .str x), (Str.ofString "pos", .int ((i - 1 : Nat) : Int)), (Str.ofString "escape", .bool esc)])] s →
      SegP w A (GPost w F Z s ((escFrom i esc []).map escD)) (.func (fnBody (stAt 5)) (env36 L)) (kont (.ok .next)) [] s) :
    ∀ (rest : List Nat) (i : Nat) (esc : Bool), x.cps.toList.drop i = rest → i ≤ x.cps.size → ∀ A F Z s old oi, Rm 8 A → A.handled = none → oi.cls = .type (strIterType x) → oi.data = .fields #[.str x t, .int i 0] →
      St w none F Z [(L, .fr [(Str.ofString "addr", .str x), (Str.ofString "pos", .int ((i - 1 : Nat) : Int)), (Str.ofString "escape", .bool esc)]), (en, .obj (enumO it i old)), (it, .obj oi)] s →
      SegP w A (GPost w F Z s ((escFrom i esc rest).map escD)) (.forLoop esTarget (.ref en) esBody [] (env36 L)) ((Md w).den (.forLoop esTarget (.ref en) esBody [] (env36 L))) [.ret kont none false lv₀ (.func (fnBody (stAt 5)) (env36 L)) p₀ kp₀] s := by
  intro rest
  induction rest with
  | nil =>
    intro i esc hr hi A F Z s old oi hA hh hc hd k
    have hsz : i = x.cps.size := by
      have := congrArg List.length hr
      simp at this; grind
    show SegP w A _ _ ((forTurn esTarget (.ref en) esBody [] (env36 L)).onRaise (fun x => do noteFrame x (env36 L); theTreesLotGoes x)) _ s
    rw [Sem.onRaise_eq_wrap]
    simp only [forTurn]
    have he := (k.nw (en, .obj (enumO it i old)) (by simp)).1
    have hi' := (k.nw (it, .obj oi) (by simp)).1
    have Dr := drawsS (w := w) (A := (A.over (.forLoop esTarget (.ref en) esBody [] (env36 L)) [.ret kont none false lv₀ (.func (fnBody (stAt 5)) (env36 L)) p₀ kp₀]).in1) hh it x t
    refine sp_bw (wpAny_standAt (sp_bw (wpAny_onRaise (wpAny_pyNext_enum_endD Dr he (hsz ▸ ⟨oi, hi', hc, hd⟩) fun h' hs => ?_))))
    refine sp_again rfl (sp_leaf (.ok .next) ?_)
    have k₁ : St w none F Z [(L, .fr [(Str.ofString "addr", .str x), (Str.ofString "pos", .int ((i - 1 : Nat) : Int)), (Str.ofString "escape", .bool esc)]), (en, .obj (enumO it i old))] { s with heap := h' } :=
      (k.perm ((List.Perm.cons _ (.swap _ _ _)).trans (.swap _ _ _))).lose (fun b o hb e => hs b o hb e) (GE.refl _) rfl
    exact (hend A F Z _ i esc hA hh (k₁.drop (by simp))).mono fun e s' q => GPost.lift (Le.refl _) (GE.refl _) q
  | cons c rest ih =>
    intro i esc hr hi A F Z s old oi hA hh hc hd k
    have hlt : i < x.cps.size := by
      have := congrArg List.length hr
      simp at this; omega
    have hx : x.cps[i]? = some c := by
      have := congrArg (fun l => l[0]?) hr
      simpa using this
    have hr' : x.cps.toList.drop (i + 1) = rest := by
      have := congrArg List.tail hr
      simpa using this
    show SegP w A _ _ ((forTurn esTarget (.ref en) esBody [] (env36 L)).onRaise (fun x => do noteFrame x (env36 L); theTreesLotGoes x)) _ s
    rw [Sem.onRaise_eq_wrap]
    simp only [forTurn]
    have he := (k.nw (en, .obj (enumO it i old)) (by simp)).1
    have hi' := (k.nw (it, .obj oi) (by simp)).1
    have Dr := drawsS (w := w) (A := (A.over (.forLoop esTarget (.ref en) esBody [] (env36 L)) [.ret kont none false lv₀ (.func (fnBody (stAt 5)) (env36 L)) p₀ kp₀]).in1) hh it x t
    refine sp_bw (wpAny_standAt (sp_bw (wpAny_onRaise (wpAny_pyNext_enum_itemD Dr he ⟨oi, hi', hc, hd⟩ hlt hne (by simpa using hne) fun v h' tk hP hout hst htup hsz hk => ?_))))
    obtain ⟨c', u, hx', rfl⟩ := hP
    obtain rfl : c = c' := by rw [hx] at hx'; injection hx'
    obtain ⟨oi', ho', hc', hd'⟩ := hst
    refine sp_bw (wpAny_letOwnedTupleGo_enum (elts := _) (x1 := _) (pos := _) hout fun h'' he'' hs'' => ?_)
    have hsz1 : en ≠ s.heap.objs.size := (k.ne_new (en, .obj (enumO it i old)) (by simp))
    have k₁ := k.turn2 (i' := .obj (enumO it (i + 1 : Nat) (.str ⟨#[c]⟩ u))) (j' := .obj oi') (s' := { s with heap := h'', toks := tk + 1 }) (by
      show h''.get? en = _
      exact he''.trans (by simp [enumO])) (by
      show h''.get? it = _
      exact hs''.extBut it _ (Ne.symm hne) ho') (fun b o h1 h2 e => hs''.extBut b o h1 (hk b o h1 h2 e)) (GE.refl _) rfl
    obtain ⟨le₁, k₂⟩ := k₁.adopt (a := s.heap.objs.size) (hs''.extBut _ _ (Ne.symm hsz1) htup) (k.zlt top_none).1 (k.zlt top_none).2 (fun p hp => by
      obtain ⟨q, hq, e⟩ : ∃ q ∈ [(L, It.fr [(Str.ofString "addr", .str x), (Str.ofString "pos", .int ((i - 1 : Nat) : Int)), (Str.ofString "escape", .bool esc)]), (en, .obj (enumO it i old)), (it, .obj oi)], q.1 = p.1 := by
        simp only [List.mem_cons, List.not_mem_nil, or_false] at hp
        rcases hp with rfl | rfl | rfl
        · exact ⟨_, .head _, rfl⟩
        · exact ⟨_, .tail _ (.head _), rfl⟩
        · exact ⟨_, .tail _ (.tail _ (.head _)), rfl⟩
      rw [← e]; exact k.ne_new q hq)
    have ho : (A.over (.forLoop esTarget (.ref en) esBody [] (env36 L)) [.ret kont none false lv₀ (.func (fnBody (stAt 5)) (env36 L)) p₀ kp₀]).handled = none := hh
    have hB : Rm 4 (A.over (.forLoop esTarget (.ref en) esBody [] (env36 L)) [.ret kont none false lv₀ (.func (fnBody (stAt 5)) (env36 L)) p₀ kp₀]) := over_loop hA rfl rfl
    generalize hAo : A.over (.forLoop esTarget (.ref en) esBody [] (env36 L)) [.ret kont none false lv₀ (.func (fnBody (stAt 5)) (env36 L)) p₀ kp₀] = B at ho hB
    have k₃ := k₂.hd ho.symm
    refine sp_bw (hAo ▸ Po.map ((show M1 w B _ RU (assign (.Tuple _ _ _) (env36 L)) (.tup [.int i, .str ⟨#[c]⟩]) _ (fun n' _ => n' = [(L, .fr [(Str.ofString "addr", .str x), (Str.ofString "pos", .int i), (Str.ofString "escape", .bool esc), (Str.ofString "ch", .str ⟨#[c]⟩)]), (en, .obj (enumO it (i + 1 : Nat) (.str ⟨#[c]⟩ u))), (it, .obj oi')]) from ?_) F _ _ _ k₃ (.tup ⟨_, ins_self⟩ (.cons (.int _ _) (.cons (.str _ _) .nil)))) fun _ _ n₄ Z₄ s₄ le₄ ge₄ k₄ _ hn₄ => ?_)
    · refine asT2 ho rfl ?_
      walk_at "! asN:_ stL::rrb_ asN:_ stL::rrb_"
      rfl
    subst hn₄
    have k₅ := k₄.forget (b' := [(Str.ofString "addr", .str x), (Str.ofString "pos", .int i), (Str.ofString "escape", .bool esc), (Str.ofString "ch", .str ⟨#[c]⟩)]) (by walk_at "keep")
    have le₀ := le₁.trans le₄
    have ge₀ : GE s.gens s₄.gens := ge₄
    rw [Sem.bind_eq_wrap', Sem.wrap_wrap]
    conv => arg 5; arg 5; arg 1; whnf
    subst hAo
    have go : ∀ (A' : Around) (F' : Bs) (Z' : ZM) (s' : Shared) (b : Bool) (bs : Binds), Rm 8 A' → A'.handled = none →
        (∀ p ∈ [(Str.ofString "addr", D.str x), (Str.ofString "pos", .int ((i + 1 - 1 : Nat) : Int)), (Str.ofString "escape", .bool b)], bs.lookup p.1 = some p.2) →
        St w none F' Z' [(L, .fr bs), (en, .obj (enumO it (i + 1 : Nat) (.str ⟨#[c]⟩ u))), (it, .obj oi')] s' →
        SegP w A' (GPost w F' Z' s' ((escFrom (i + 1) b rest).map escD)) (.forLoop esTarget (.ref en) esBody [] (env36 L)) ((Md w).den (.forLoop esTarget (.ref en) esBody [] (env36 L))) [.ret kont none false lv₀ (.func (fnBody (stAt 5)) (env36 L)) p₀ kp₀] s' :=
      fun A' F' Z' s' b bs hA' hh' hb k' => ih (i + 1) b hr' hlt A' F' Z' s' _ oi' hA' hh' hc' (by exact hd') (k'.forget hb)
    have hB' : ∀ A' : Around, Rm 8 A' → Rm 4 (A'.over (.forLoop esTarget (.ref en) esBody [] (env36 L)) [.ret kont none false lv₀ (.func (fnBody (stAt 5)) (env36 L)) p₀ kp₀]) := fun A' h => over_loop h rfl rfl
    cases esc with
    | true =>
      refine sp_execs_cons (sp_IfH k₄ ?_)
      walk_at "! trPn:__ ::r nmL::rrbbb_ tyB:_"
      intro Z₆ s₆ le₆ ge₆ k₆
      refine iT rfl ?_
      refine sp_execs_cons (sp_YieldH rfl k₆ ?_)
      walk_at "! tup_:_ spC:__ seC::r nmL::rrbbb_ spC:__ seC::r bin:_ kS:_ nmL::rrbbb_"
      refine addS (szl (show 1 + 1 ≤ 1000 by decide)) ?_
      walk_at "! spN:_"
      refine ⟨szl (by simp), ?_⟩
      intro Z₇ s₇ v le₇ ge₇ k₇ rv kk l p hkk
      refine ⟨rfl, v, _, _, _, _, _, _, rfl, Z₇, _, (le₀.trans le₆).trans le₇, (ge₀.trans ge₆).trans ge₇, k₇.hd ho, rv, GRun.mk fun A' F' Z' s' hA' hh' k' => hkk A' _ s' ?_⟩
      refine sp_execs_cons (sp_plain (k'.hd (show none = (A'.over _ _).handled from hh'.symm)) ?_)
      walk_at "! sAsgN:__ ::r kB:_ stL::rrb_"
      refine ⟨rfl, fun Z₈ s₈ le₈ ge₈ k₈ => ?_⟩
      refine sp_again rfl ?_
      exact (go A' F' Z₈ s₈ false _ hA' hh' (by walk_at "keep") (k₈.hd hh')).mono fun e s' q => GPost.lift le₈ ge₈ q
    | false =>
      refine sp_execs_cons (sp_IfH k₄ ?_)
      walk_at "! trPn:__ ::r nmL::rrbbb_ tyB:_"
      intro Z₆ s₆ le₆ ge₆ k₆
      refine iF Bool.false_ne_true ?_
      refine sp_execs_cons (sp_IfH k₆ ?_)
      walk_at "! trC:__ ::r nmL::rrbbb_ kS:_ eqS:_"
      refine ⟨_, rfl, ?_⟩
      intro Z₇ s₇ le₇ ge₇ k₇
      by_cases hq : c = 92
      · subst hq
        refine iT (by decide) ?_
        rw [show escFrom i false (92 :: rest) = escFrom (i + 1) true rest from by simp [escFrom]]
        refine sp_execs_cons (sp_plain k₇ ?_)
        walk_at "! sAsgN:__ ::r kB:_ stL::rrb_"
        refine ⟨rfl, fun Z₈ s₈ le₈ ge₈ k₈ => ?_⟩
        refine sp_again rfl ?_
        exact (go A F Z₈ s₈ true _ hA hh (by walk_at "keep") (k₈.hd ho)).mono fun e s' q => GPost.lift (((le₀.trans le₆).trans le₇).trans le₈) (((ge₀.trans ge₆).trans ge₇).trans ge₈) q
      · have hq' : ((⟨#[c]⟩ : Str) == Str.ofString "\\") = false := by
          rw [beq_eq_false_iff_ne]
          intro e
          have e2 : (#[c] : Array Nat) = #[92] := congrArg Str.cps e
          apply hq
          simpa using e2
        refine iF (by rw [hq']; exact Bool.false_ne_true) ?_
        rw [show escFrom i false (c :: rest) = (i, ⟨#[c]⟩) :: escFrom (i + 1) false rest from by simp [escFrom, hq]]
        refine sp_execs_cons (sp_YieldH rfl k₇ ?_)
        walk_at "! tup_:_ spC:__ seC::r nmL::rrbbb_ spC:__ seC::r nmL::rrbbb_ spN:_"
        refine ⟨szl (by simp), ?_⟩
        intro Z₈ s₈ v le₈ ge₈ k₈ rv kk l p hkk
        refine ⟨rfl, v, _, _, _, _, _, _, rfl, Z₈, _, (((le₀.trans le₆).trans le₇).trans le₈), (((ge₀.trans ge₆).trans ge₇).trans ge₈), k₈.hd ho, rv, GRun.mk fun A' F' Z' s' hA' hh' k' => hkk A' _ s' ?_⟩
        refine sp_again rfl ?_
        exact go A' F' Z' s' false _ hA' hh' (by walk_at "keep") k'
theorem bEnumS {w : World} {A : Around} {E : Value → Shared → Prop} {n : Led} {P : Led → D → Prop} {p : Addr × It} {x : Str} (h : ∀ it en t oi, en ≠ it → oi.cls = .type (strIterType x) → oi.data = .fields #[.str x t, .int (0 : Nat) 0] → P (p :: (en, .obj (enumO it (0 : Nat) .none)) :: (it, .obj oi) :: n) (.raw (.ref en))) :
    ML w A E Rd (fun vs => call (.type "enumerate") vs) [.str x] (p :: n) P := fun F Z s vs k q => by
  apply Rds.cE q; intro _ _ q r
  (first | apply Rds.nE r | (apply Rd.iE r; intro _) | (apply Rd.sE r; intro _) | apply Rd.rE r | apply Rd.bE r | apply Rd.nE r | cases r); (first | apply Rds.nE q | (apply Rd.iE q; intro _) | (apply Rd.sE q; intro _) | apply Rd.rE q | apply Rd.bE q | apply Rd.nE q | cases q)
  rename_i t
  refine call_enumerate_str fun h' he hi hsz hk => ?_
  obtain ⟨oi, ho, hc, hd⟩ := id hi
  have n1 : s.heap.get? (s.heap.objs.size + 1) = none := by
    cases q : s.heap.get? (s.heap.objs.size + 1) with
    | none => rfl
    | some o => exact absurd (Heap.lt_size q) (Nat.not_lt.mpr (Nat.le_succ _))
  have ge : GE s.gens ({ s with heap := h' } : Shared).gens := GE.refl _
  have k1 := k.own (a := s.heap.objs.size) (i := .obj oi) (s' := { s with heap := h' }) top_none hk ge rfl ho
  have z1 := k.zlt n1
  have k2 : St w A.handled F Z ((s.heap.objs.size + 1, .obj (enumO s.heap.objs.size (0 : Nat) .none)) :: p :: (s.heap.objs.size, .obj oi) :: n) { s with heap := h' } := by
    refine ⟨k1.tp, k1.ho, k1.kp, k1.z0, k1.fz, fun y hy => ?_, ?_, k1.ge, k1.os⟩
    · rcases List.mem_cons.mp hy with rfl | hy
      · exact ⟨he, z1⟩
      · exact k1.nw y hy
    · rw [List.map_cons, List.nodup_cons]
      refine ⟨fun hm => ?_, k1.nd⟩
      obtain ⟨y, hy, e⟩ := List.mem_map.mp hm
      have e' : y.1 = s.heap.objs.size + 1 := e
      rcases List.mem_cons.mp hy with rfl | hy
      · obtain ⟨o, q⟩ := (k.nw _ (.head _)).1.lt
        rw [e', n1] at q; (first | apply Rds.nE q | (apply Rd.iE q; intro _) | (apply Rd.sE q; intro _) | apply Rd.rE q | apply Rd.bE q | apply Rd.nE q | cases q)
      · rcases List.mem_cons.mp hy with rfl | hy
        · exact absurd e' (Nat.ne_of_lt (Nat.lt_succ_self _))
        · obtain ⟨o, q⟩ := (k.nw _ (.tail _ hy)).1.lt
          rw [e', n1] at q; (first | apply Rds.nE q | (apply Rd.iE q; intro _) | (apply Rd.sE q; intro _) | apply Rd.rE q | apply Rd.bE q | apply Rd.nE q | cases q)
  exact Po.at (Le.refl _) ge (k2.perm (.swap _ _ _)) (.raw _) (h _ _ t oi (Nat.ne_of_gt (Nat.lt_succ_self _)) hc (by simpa using hd))
/-- a fresh generator of _iter_escaped_chars -/
theorem gen36 {w : World} {L : Addr} {x : Str} : GRun w (escItems x) [(L, .fr [(Str.ofString "addr", .str x)])] (.fresh (.func (fnBody (stAt 5)) (env36 L))) := by
  refine GRun.mk fun A F Z s hA hh k => ?_
  show SegP w A _ (.func (fnBody (stAt 5)) (env36 L)) ((Md w).den (.func (fnBody (stAt 5)) (env36 L))) [] s
  refine sp_func ?_
  have ho : (A.over (.func (fnBody (stAt 5)) (env36 L)) []).handled = none := hh
  conv => arg 5; arg 5; arg 1; whnf
  refine sp_execs_cons (sp_plain (k.hd ho.symm) ?_)
  walk_at "! sAsgN:__ ::r kI:_ stL::rrb_"
  refine ⟨rfl, fun Z₁ s₁ le₁ ge₁ k₁ => ?_⟩
  refine sp_execs_cons (sp_plain k₁ ?_)
  walk_at "! sAsgN:__ ::r kB:_ stL::rrb_"
  refine ⟨rfl, fun Z₂ s₂ le₂ ge₂ k₂ => ?_⟩
  replace k₂ := k₂.forget (b' := [(Str.ofString "addr", .str x), (Str.ofString "pos", .int ((0 - 1 : Nat) : Int)), (Str.ofString "escape", .bool false)]) (by walk_at "keep")
  refine sp_execs_cons ?_
  rw [exec_For]
  refine sp_bw (wpAny_standAt (sp_bw (Po.map ((show Hv w _ _ (eval (.Call (.Name (Str.ofString "enumerate") _) [.Name (Str.ofString "addr") _] [] _) (env36 L)) _ (fun n' d => ∃ it en t oi, en ≠ it ∧ oi.cls = .type (strIterType x) ∧ oi.data = .fields #[.str x t, .int (0 : Nat) 0] ∧ n' = [(L, .fr [(Str.ofString "addr", .str x), (Str.ofString "pos", .int ((0 - 1 : Nat) : Int)), (Str.ofString "escape", .bool false)]), (en, .obj (enumO it (0 : Nat) .none)), (it, .obj oi)] ∧ d = .raw (.ref en)) from ?_) F _ _ k₂) fun v d n₃ Z₃ s₃ le₃ ge₃ k₃ r₃ h₃ => ?_)))
  · refine caT rfl (seC rfl) rfl (nmB rfl rfl rfl (by rfl) (by rfl) (bm_enumerate _) (bt_enumerate _) ⟨_, rfl, ?_⟩)
    walk_at "! spC:__ seC::r nmL::rrbbb_ spN:_"
    refine bEnumS fun it en t oi h1 h2 h3 => ⟨it, en, t, oi, h1, h2, h3, by rfl, rfl⟩
  obtain ⟨it, en, t, oi, hne, hc, hd, rfl, rfl⟩ := h₃
  (first | apply Rds.nE r₃ | (apply Rd.iE r₃; intro _) | (apply Rd.sE r₃; intro _) | apply Rd.rE r₃ | apply Rd.bE r₃ | apply Rd.nE r₃ | cases r₃)
  have he := (k₃.nw (en, .obj (enumO it (0 : Nat) .none)) (by simp)).1
  refine sp_bw (wpAny_of_eq rfl (sp_bw (wpAny_standAt (sp_bw (wpAny_holding (wpAny_pyIter_enum he ?_))))))
  refine sp_call fun p => ?_
  refine (escLoop hne ?_ x.cps.toList 0 false rfl (Nat.zero_le _) A F Z₃ s₃ .none oi hA hh hc hd (k₃.hd ho)).mono fun e s' q => GPost.lift (((le₁.trans le₂).trans le₃)) ((ge₁.trans ge₂).trans ge₃) q
  intro A' F' Z' s' i esc hA' hh' k'
  have ho' : (A'.over (.func (fnBody (stAt 5)) (env36 L)) []).handled = none := hh'
  refine sp_execs_cons (sp_IfH (k'.hd ho'.symm) ?_)
  walk_at "! trPn:__ ::r nmL::rrbbb_ tyB:_"
  intro Z₆ s₆ le₆ ge₆ k₆
  cases esc with
  | false =>
    refine iF Bool.false_ne_true ?_
    exact sp_end (.ok (.ret .none)) ⟨rfl, Z₆, le₆, ge₆, (k₆.hd ho').drop (List.nil_sublist _)⟩
  | true =>
    refine iT rfl ?_
    refine sp_execs_cons (sp_YieldH rfl k₆ ?_)
    walk_at "! tup_:_ spC:__ seC::r nmL::rrbbb_ spC:__ seC::r kS:_ spN:_"
    refine ⟨szl (by simp), ?_⟩
    intro Z₈ s₈ v le₈ ge₈ k₈ rv kk l p hkk
    refine ⟨rfl, v, _, _, _, _, _, _, rfl, Z₈, _, le₆.trans le₈, ge₆.trans ge₈, k₈.hd ho', rv, GRun.mk fun A' F' Z' s' hA' hh' k' => hkk A' _ s' ?_⟩
    exact sp_end (.ok (.ret .none)) ⟨rfl, Z', Le.refl _, GE.refl _, k'.drop (List.nil_sublist _)⟩
end
section -- F8
theorem GE.push (a : Array GenState) (x : GenState) (hb : x.bare = true) : GE a (a.push x) := ⟨fun i y e => by
  have hi : i < a.size := (Array.getElem?_eq_some_iff.mp e).1
  rw [Array.getElem?_push]
  rw [if_neg (by exact Nat.ne_of_lt (by assumption))]
  exact e, fun h y hy => by
  rcases Array.mem_push.mp hy with h1 | rfl
  · exact h y h1
  · exact hb⟩
/-- the call that makes the generator -/
theorem c36 {w : World} {A : Around} {E : Value → Shared → Prop} {F : Bs} {Z : ZM} {n : Led} {s : Shared} {v : Value} {x : Str} {Q : Value → Shared → Prop} (hA : Rm 1 A) (k : St w A.handled F Z n s) (rv : Rd Z v (.str x))
    (h : ∀ a og L s', GenO og s.gens.size → s'.gens[s.gens.size]? = some (.fresh (.func (fnBody (stAt 5)) (env36 L))) → GE s.gens s'.gens → St w A.handled F Z ((a, .obj og) :: (L, .fr [(Str.ofString "addr", .str x)]) :: n) s' → Q (.ref a) s') :
    wpAny (Md w) A (call (.ref 36) [v]) Q E s := by
  have top := k.topH
  refine wpAny_call (codeAny_call_generator (o := o_36_s9 w.params) (fd := mkF 5 3 .none .none .none _ none (.ref 35) .none 0) hA.room (top _ _ (by kernel_rfl)) rfl rfl rfl rfl ((codeRec_of (c := 35) (nm := fnName (stAt 5)) (by kernel_rfl)).keeps top) ?_)
  refine wpAny_of_eq (a := [(Str.ofString "addr", v)]) rfl ?_
  refine wpAny_newFunctionEnv (by decide +kernel) (fun y hy => by rcases List.mem_singleton.mp hy with rfl; exact (by decide +kernel : (fnScope (stAt 5)).names.lookup (Str.ofString "addr") = some .local)) (fun h' hn hs' => ?_) rfl
  have keep : ∀ b o, s.heap.get? b = some o → h'.get? b = some o := fun b o e => hs'.extBut b o (Nat.ne_of_lt (Heap.lt_size e)) (Heap.get?_push_of_some _ e)
  have k₁ : St w A.handled F Z ((s.heap.objs.size, .fr [(Str.ofString "addr", .str x)]) :: n) { s with heap := h', toks := s.toks + 1 } := k.cons top_none keep (GE.refl _) rfl ⟨_, hn, fun y d e => by
    rw [List.lookup_cons] at e
    cases hy : y == Str.ofString "addr" with
    | true =>
      rw [hy] at e; (first | apply Rds.nE e | (apply Rd.iE e; intro _) | (apply Rd.sE e; intro _) | apply Rd.rE e | apply Rd.bE e | apply Rd.nE e | cases e)
      have := beq_iff_eq.mp hy
      subst this
      exact ⟨v, by simp, rv⟩
    | false => rw [hy] at e; cases e⟩
  refine ⟨(noLim w.params).keeps k₁.topH, ?_⟩
  refine h h'.objs.size ⟨.type "generator", none, .fields #[.int s.gens.size 0, .str (fnName (stAt 5)) (s.toks + 1), .str (fnName (stAt 5)) (s.toks + 1 + 1)], #[]⟩ s.heap.objs.size _ ⟨_, _, rfl, rfl, rfl⟩ ?_ (GE.push s.gens (.fresh (.func (fnBody (stAt 5)) (env36 s.heap.objs.size))) rfl) ?_
  · show (s.gens.push _)[s.gens.size]? = some _
    rw [Array.getElem?_push_size]; rfl
  · exact k₁.cons (i := .obj _) top_none (fun b o e => Heap.get?_push_of_some _ e) (GE.push s.gens (.fresh (.func (fnBody (stAt 5)) (env36 s.heap.objs.size))) rfl) rfl (Heap.get?_push_size _ rfl)
/-- for over the generator -/
theorem sForG {w : World} {A : Around} {E : Value → Shared → Prop} {n : Led} {P : Led → Fl → Prop} {env : Env} {target e : Expr} {body orelse : List Stmt} {fp cp pos : Pos} (hA : Rm 9 A) (hh : A.handled = none)
    (hc : eval (.Call (.Name (Str.ofString "_iter_escaped_chars") fp) [e] [] cp) env = (do callWith cp (← eval (.Name (Str.ofString "_iter_escaped_chars") fp) env) [] (backTo cp (starEach [e] env)) (backToKw cp (keywordEach [] env))))
    (he : starEach [e] env = (false, eval e env) :: starEach [] env) (hs : ∀ x, foldedSetIterable (.Call (.Name (Str.ofString "_iter_escaped_chars") fp) [e] [] cp) env x = pure x)
    (hg : env.globals = mainGlobals) (hk : env.scope.kind = .function) (hl : env.kindOf (Str.ofString "_iter_escaped_chars") = some .globalImplicit)
    (h : Hv w A E (eval e env) n fun n₁ d => ∃ x, d = .str x ∧ ForP w A E target body orelse env P (escItems x) n₁) :
    Hs w A E (exec (.For target (.Call (.Name (Str.ofString "_iter_escaped_chars") fp) [e] [] cp) body orelse pos) env) n P := fun F Z s k => by
  refine wpAny_For ?_ hs
  refine Call_ (Po.map (nmG (n := n) (P := fun n' d => n' = n ∧ d = .raw (.ref 36)) hg hk hl (by rfl) (gt_iter_escaped_chars _) ⟨rfl, rfl⟩ F Z s k) fun v d n₁ Z₁ s₁ le₁ ge₁ k₁ r₁ h₁ => ?_) hc
  obtain ⟨rfl, rfl⟩ := h₁
  (first | apply Rds.nE r₁ | (apply Rd.iE r₁; intro _) | (apply Rd.sE r₁; intro _) | apply Rd.rE r₁ | apply Rd.bE r₁ | apply Rd.nE r₁ | cases r₁)
  have hl : Hl w A E (spliced (backTo cp (starEach [e] env))) n₁ fun n₂ ds => ∃ x, ds = [.str x] ∧ ForP w A E target body orelse env P (escItems x) n₂ := by
    refine spC he (h.mono fun n₂ d q => ?_)
    obtain ⟨x, rfl, q⟩ := q
    exact spN ⟨x, rfl, q⟩
  rw [he] at hl ⊢
  obtain ⟨fd, hfd⟩ : ∃ fd, (o_36_s9 w.params).data = .func fd := ⟨_, rfl⟩
  refine callWith_function (o := o_36_s9 w.params) (fd := fd) (evalArgs_plain ?_)
  refine Po.map (hl F Z₁ s₁ k₁) fun vs ds n₂ Z₂ s₂ le₂ ge₂ k₂ r₂ h₂ => ?_
  obtain ⟨x, rfl, h₂⟩ := h₂
  refine ⟨⟨k₂.topH _ _ (by kernel_rfl), hfd⟩, ?_⟩
  apply Rds.cE r₂; intro _ _ rv q
  (first | apply Rds.nE q | (apply Rd.iE q; intro _) | (apply Rd.sE q; intro _) | apply Rd.rE q | apply Rd.bE q | apply Rd.nE q | cases q)
  have k₃ := k₂.rebase
  refine c36 (hA.le (by decide)) k₃ rv fun a og L s' hog hgs hge k₄ => ?_
  have k₅ : St w none _ Z₂ ((a, .obj og) :: (L, .fr [(Str.ofString "addr", .str x)]) :: n₂) s' := k₄.hd hh
  have ho : s'.heap.get? a = some og := (k₅.nw (a, .obj og) (.head _)).1
  refine wpAny_pyIter_gen (hog.at ho) ?_
  have ge : GE s.gens s₂.gens := ge₁.trans ge₂
  refine codeAny_mono (forLoopG hA hh hog (by show s₂.gens[s₂.gens.size]? = none; simp) (escItems x) n₂ [(L, .fr [(Str.ofString "addr", .str x)])] _ Z₂ s' (k₅.perm (.cons _ (show List.Perm ([(L, It.fr [(Str.ofString "addr", .str x)])] ++ n₂) (n₂ ++ [(L, It.fr [(Str.ofString "addr", .str x)])]) from List.perm_append_comm))) hgs gen36 h₂) fun r s'' q => ?_
  cases r with
  | error e => exact q
  | ok f =>
    obtain ⟨Z', n', d, le, k₆, rf, hp⟩ := q
    refine Po.at ((le₁.trans le₂).trans le) (ge.trans k₆.ge) ((k₆.unbase k₂.ge).hd hh.symm) rf hp
theorem sForK {w : World} {A : Around} {E : Value → Shared → Prop} {n : Led} {P : Led → Fl → Prop} {env : Env} {target e : Expr} {body orelse : List Stmt} {fp cp pos : Pos} {k : Nat} (hA : Rm k A) (hle : 9 ≤ k) : type_of% (@sForG w A E n P env target e body orelse fp cp pos (hA.le hle)) := sForG (hA.le hle)
end
section -- F9
section
variable {w : World} {A : Around} {E : Value → Shared → Prop} {F : Bs} {R : Result → Shared → Prop}
theorem extLoopG {a S : Addr} {og : Obj} {g : Nat} {res : Value} (hA : Rm 10 A) (hh : A.handled = none) (hog : GenO og g) (hF : F.g[g]? = none) : ∀ (l acc : List D) (n nG : Led) (gs : GenState) (Z : ZM) (s : Shared), acc.length + l.length ≤ sizeLine →
    St w none F Z (((a, .obj og) :: (S, .lst acc) :: n) ++ nG) s → s.gens[g]? = some gs → GRun w l nG gs → (∀ Z' s', Le Z Z' → St w none F Z' ((S, .lst (acc ++ l)) :: n) s' → R (.ok (.ret res)) s') →
    codeAny (Md w) A (.builtin "list.extend.loop" ⟨[.ref S, .ref a, res], []⟩) R s
  | [], acc, n, nG, gs, Z, s, hz, k, hgs, hr, h => by
    refine codeAny_builtin PySem.F.entry_extend_loop ?_
    rw [Around.under_plainId PySem.F.plain_extend_loop _]
    show wpAny _ A.in1 (pyNext (.ref a) >>= _) _ _ s
    refine wpAny_bind (pyNextG hA.in1 hh k hog hF hgs hr (fun _ Z₁ s₁ le₁ k₁ => ?_) fun _ _ e => nomatch e)
    exact wpAny_pure (h _ _ le₁ (by rw [List.append_nil]; exact k₁))
  | d :: l, acc, n, nG, gs, Z, s, hz, k, hgs, hr, h => by
    rw [List.length_cons] at hz
    refine codeAny_builtin PySem.F.entry_extend_loop ?_
    rw [Around.under_plainId PySem.F.plain_extend_loop _]
    show wpAny _ A.in1 (pyNext (.ref a) >>= _) _ _ s
    refine wpAny_bind (pyNextG hA.in1 hh k hog hF hgs hr (fun e => nomatch e) fun d' l' e v Z₁ nG' gs' s₁ le₁ k₁ rv hgs' hr' => ?_)
    injection e with e1 e2
    subst e1 e2
    show wpAny _ A.in1 (updateSeq S (·.push v) >>= _) _ _ _
    obtain ⟨⟨xs, ⟨c, hS⟩, rs⟩, _⟩ := k₁.nw (S, .lst acc) (by simp)
    refine wpAny_bind (wpAny_updateSeq hS rfl (wpAny_pure ⟨plainId_quiet PySem.F.plain_extend_loop _, ?_⟩) (by simp only [List.size_toArray, rs.len]; grind) (by show (xs.toArray.push v).size ≤ sizeLine + 1; rw [Array.size_push, List.size_toArray, rs.len]; grind))
    have hS₂ := Heap.get?_update_self (Obj.mapSeq (·.push v)) hS rfl
    have k₂ : St w none F Z₁ ([(a, It.obj og)] ++ (S, .lst (acc ++ [d])) :: (n ++ nG')) { s₁ with heap := s₁.heap.update S (Obj.mapSeq (·.push v)) } :=
      St.turn (l := [(a, It.obj og)]) (i := .lst acc) (r := n ++ nG') k₁ (by simp) ⟨xs ++ [v], ⟨_, by rw [hS₂]; simp [Obj.mapSeq]; rfl⟩, rs.append (.one rv)⟩ (fun b o hb e => (Heap.get?_update_other _ _ (Ne.symm hb)).trans e) (GE.refl _) rfl
    exact extLoopG hA hh hog hF l (acc ++ [d]) n nG' gs' Z₁ _ (by simp; lia) k₂ hgs' hr' fun Z' s' le k' => h Z' s' (le₁.trans le) (by rw [List.append_assoc] at k'; exact k')
theorem callListG {a : Addr} {og : Obj} {g : Nat} {n nG : Led} {gs : GenState} {Z : ZM} {s : Shared} {l : List D} {Q : Value → Shared → Prop} (hA : Rm 12 A) (hh : A.handled = none) (hog : GenO og g) (hF : F.g[g]? = none) (hz : l.length ≤ sizeLine)
    (k : St w none F Z (((a, .obj og) :: n) ++ nG) s) (hgs : s.gens[g]? = some gs) (hr : GRun w l nG gs) (h : ∀ Z' s' S, Le Z Z' → St w none F Z' ((S, .lst l) :: n) s' → Q (.ref S) s') : wpAny (Md w) A (call (.type "list") [.ref a]) Q E s := by
  refine callType_codes (Q₁ := fun obj s₁ => obj = .ref s.heap.objs.size ∧ s₁ = { s with heap := s.heap.push { cls := .type "list", data := .seq #[] } }) PySem.F.called_list (PySem.F.typeCall_list_1 _) PySem.F.entry_list_init
    (code_list_new _ ⟨rfl, rfl⟩) fun obj s₁ h₁ => ?_
  obtain ⟨rfl, rfl⟩ := h₁
  have hS : (s.heap.push { cls := .type "list", data := .seq #[] }).get? s.heap.objs.size = some { cls := .type "list", data := .seq #[] } := Heap.get?_push_size _ rfl
  generalize hSs : s.heap.objs.size = S at hS
  have hSa : S ≠ a := fun e => by
    obtain ⟨o, ho⟩ := (k.nw (a, .obj og) (by simp)).1.lt
    have := Heap.lt_size ho
    rw [← e, ← hSs] at this
    exact absurd this (Nat.lt_irrefl _)
  have k₁ := k.own (n := n ++ nG) (p := (a, .obj og)) (a := S) (i := .lst []) (s' := { s with heap := s.heap.push { cls := .type "list", data := .seq #[] } }) (by rw [← hSs]; exact top_none) (fun b o e => Heap.get?_push_of_some _ e) (GE.refl _) rfl ⟨[], ⟨_, hS⟩, .nil⟩
  have ha : ∀ h', (∀ b o, b ≠ S → (s.heap.push { cls := .type "list", data := .seq #[] }).get? b = some o → h'.get? b = some o) → Shared.TypeIs { s with heap := h' } (.ref a) "generator" := fun h' hk =>
    (hog.at (hk a _ (Ne.symm hSa) (k₁.nw (a, .obj og) (by simp)).1)).typeIs (s := { s with heap := h' })
  refine ⟨⟨_, hS, rfl⟩, PySem.F.args_list_init_2 _ _, ?_⟩
  show wpAny _ A.in1.in1 (do let old ← Builtin.List.listItems (.ref S); Builtin.List.listUpdate (.ref S) (fun _ => #[]); letGo old.toList.reverse; Builtin.List.listExtendWith (.ref S) (.ref a) .none) _ _ _
  refine wpAny_bind ?_
  unfold Builtin.List.listItems
  refine wpAny_bind (wpAny_seqItems hS rfl (wpAny_pure ?_))
  show wpAny _ A.in1.in1 (updateSeq S (fun _ => #[]) >>= fun _ => letGo (#[] : Array Value).toList.reverse >>= fun _ => Builtin.List.listExtendWith (.ref S) (.ref a) .none) _ _ _
  refine wpAny_bind (wpAny_updateSeq hS rfl ?_)
  have hS₂ := Heap.get?_update_self (Obj.mapSeq (fun _ => (#[] : Array Value))) hS rfl
  refine wpAny_bind (wpAny_letGo ?_)
  unfold Builtin.List.listExtendWith
  have oth₁ : ∀ b o, b ≠ S → (s.heap.push { cls := .type "list", data := .seq #[] }).get? b = some o → ((s.heap.push { cls := .type "list", data := .seq #[] }).update S (Obj.mapSeq (fun _ => (#[] : Array Value)))).get? b = some o :=
    fun b o hb e => (Heap.get?_update_other _ _ (Ne.symm hb)).trans e
  refine wpAny_bind (wpAny_typeOf (ha _ oth₁) ?_)
  have h1 : Builtin.List.listSameRef (.ref S) (.ref a) = false := by simp [Builtin.List.listSameRef, hSa]
  have h2 : (Value.type "generator" == Value.type "list") = false := by decide
  have h3 : (Value.type "generator" == Value.type "tuple") = false := by decide
  simp only [h1, h2, h3, Bool.or_false, Bool.false_eq_true, if_false]
  refine wpAny_bind (wpAny_pyIter_gen (hog.at (oth₁ a _ (Ne.symm hSa) (k₁.nw (a, .obj og) (by simp)).1)) ?_)
  refine wpAny_bind (wpAny_holding ?_)
  unfold Builtin.List.listLengthHint
  refine wpAny_bind (wpAny_specialOf (ha _ oth₁) PySem.F.gen_no_len ?_)
  show wpAny _ A.in1.in1 (specialOf (Value.ref a) (Str.ofString "__length_hint__") >>= _) _ _ _
  refine wpAny_bind (wpAny_specialOf (ha _ oth₁) PySem.F.gen_no_hint ?_)
  refine wpAny_pure ?_
  show wpAny _ A.in1.in1 (rule "list.extend.makes-room" >>= fun _ => Builtin.List.listTouch (.ref S) >>= fun _ =>
    again (.builtin "list.extend.loop" ⟨[.ref S, .ref a, .none], []⟩)) _ _ _
  refine wpAny_bind (wpAny_rule ?_)
  refine wpAny_bind ?_
  show wpAny _ A.in1.in1 (updateSeq S (·.push .none) >>= fun _ => updateSeq S (·.pop)) _ _ _
  refine wpAny_bind (wpAny_updateSeq hS₂ rfl ?_)
  have hS₃ := Heap.get?_update_self (Obj.mapSeq (·.push Value.none)) hS₂ rfl
  refine wpAny_updateSeq (hz := by seq_fits) hS₃ rfl ?_
  have hS₄ := Heap.get?_update_self (Obj.mapSeq (·.pop)) hS₃ rfl
  refine wpAny_pure ⟨plainId_quiet PySem.F.plain_extend_loop _, ?_⟩
  have k₂ := St.turn (l := [(a, It.obj og)]) (i := .lst []) (j := .lst []) (r := n ++ nG) (s' := { s with heap := (((s.heap.push { cls := .type "list", data := .seq #[] }).update S (Obj.mapSeq fun _ => (#[] : Array Value))).update S (Obj.mapSeq (·.push Value.none))).update S (Obj.mapSeq (·.pop)) }) k₁ rfl
    ⟨[], ⟨_, hS₄⟩, .nil⟩ (fun b o hb e => (Heap.get?_update_other _ _ (Ne.symm hb)).trans ((Heap.get?_update_other _ _ (Ne.symm hb)).trans (oth₁ b o hb e))) (GE.refl _) rfl
  refine extLoopG (hA.in1.le (by decide)) hh hog hF l [] n nG gs Z _ (by simpa using hz) k₂ hgs hr fun Z' s' le k' => ?_
  exact ⟨rfl, h Z' s' S le k'⟩
/-- list(_iter_escaped_chars(e)), frozen -/
theorem lstG {n : Led} {P : Led → D → Prop} {env : Env} {e : Expr} {fp cp lp pos : Pos} (hA : Rm 12 A) (hh : A.handled = none)
    (hc : eval (.Call (.Name (Str.ofString "_iter_escaped_chars") fp) [e] [] cp) env = (do callWith cp (← eval (.Name (Str.ofString "_iter_escaped_chars") fp) env) [] (backTo cp (starEach [e] env)) (backToKw cp (keywordEach [] env))))
    (he : starEach [e] env = (false, eval e env) :: starEach [] env)
    (hc₂ : eval (.Call (.Name (Str.ofString "list") lp) [.Call (.Name (Str.ofString "_iter_escaped_chars") fp) [e] [] cp] [] pos) env = (do callWith pos (← eval (.Name (Str.ofString "list") lp) env) [] (backTo pos (starEach [.Call (.Name (Str.ofString "_iter_escaped_chars") fp) [e] [] cp] env)) (backToKw pos (keywordEach [] env))))
    (hg : env.globals = mainGlobals) (hb : env.builtins = builtinsNs) (hk : env.scope.kind = .function) (hl : env.kindOf (Str.ofString "_iter_escaped_chars") = some .globalImplicit) (hl₂ : env.kindOf (Str.ofString "list") = some .globalImplicit)
    (h : Hv w A E (eval e env) n fun n₁ d => ∃ x, d = .str x ∧ (escItems x).length ≤ sizeLine ∧ P n₁ (.lst (escItems x))) :
    Hv w A E (eval (.Call (.Name (Str.ofString "list") lp) [.Call (.Name (Str.ofString "_iter_escaped_chars") fp) [e] [] cp] [] pos) env) n P := fun F Z s k => by
  refine Call_ (Po.map (nmB (n := n) (P := fun n' d => n' = n ∧ d = .raw (.type "list")) hg hb hk hl₂ (by rfl) (bm_list _) (bt_list _) ⟨rfl, rfl⟩ F Z s k) fun v d n₁ Z₁ s₁ le₁ ge₁ k₁ r₁ h₁ => ?_) hc₂
  obtain ⟨rfl, rfl⟩ := h₁
  (first | apply Rds.nE r₁ | (apply Rd.iE r₁; intro _) | (apply Rd.sE r₁; intro _) | apply Rd.rE r₁ | apply Rd.bE r₁ | apply Rd.nE r₁ | cases r₁)
  refine PySem.callWith_type rfl (evalArgs_plain ?_)
  show wpAny (Md w) A (spliced (backTo pos (starEach [.Call (.Name (Str.ofString "_iter_escaped_chars") fp) [e] [] cp] env))) _ E s₁
  refine spliced_more ?_ rfl
  refine Call_ (Po.map (nmG (n := n₁) (P := fun n' d => n' = n₁ ∧ d = .raw (.ref 36)) hg hk hl (by rfl) (gt_iter_escaped_chars _) ⟨rfl, rfl⟩ F Z₁ s₁ k₁) fun v d n₂ Z₂ s₂ le₂ ge₂ k₂ r₂ h₂ => ?_) hc
  obtain ⟨rfl, rfl⟩ := h₂
  (first | apply Rds.nE r₂ | (apply Rd.iE r₂; intro _) | (apply Rd.sE r₂; intro _) | apply Rd.rE r₂ | apply Rd.bE r₂ | apply Rd.nE r₂ | cases r₂)
  have hl : Hl w A E (spliced (backTo cp (starEach [e] env))) n₂ fun n₂ ds => ∃ x, ds = [.str x] ∧ (escItems x).length ≤ sizeLine ∧ P n₂ (.lst (escItems x)) := by
    refine spC he (h.mono fun n₂ d q => ?_)
    obtain ⟨x, rfl, q⟩ := q
    exact spN ⟨x, rfl, q⟩
  rw [he] at hl ⊢
  obtain ⟨fd, hfd⟩ : ∃ fd, (o_36_s9 w.params).data = .func fd := ⟨_, rfl⟩
  refine callWith_function (o := o_36_s9 w.params) (fd := fd) (evalArgs_plain ?_)
  refine Po.map (hl F Z₂ s₂ k₂) fun vs ds n₃ Z₃ s₃ le₃ ge₃ k₃ r₃ h₃ => ?_
  obtain ⟨x, rfl, hz, h₃⟩ := h₃
  refine ⟨⟨k₃.topH _ _ (by kernel_rfl), hfd⟩, ?_⟩
  apply Rds.cE r₃; intro _ _ rv q
  (first | apply Rds.nE q | (apply Rd.iE q; intro _) | (apply Rd.sE q; intro _) | apply Rd.rE q | apply Rd.bE q | apply Rd.nE q | cases q)
  have k₄ := k₃.rebase
  refine c36 (hA.le (by decide)) k₄ rv fun a og L s' hog hgs hge k₅ => ?_
  have k₆ : St w none _ Z₃ ((a, .obj og) :: (L, .fr [(Str.ofString "addr", .str x)]) :: n₃) s' := k₅.hd hh
  have ge : GE s.gens s₃.gens := (ge₁.trans ge₂).trans ge₃
  refine spliced_none ?_
  refine callListG hA hh hog (by show s₃.gens[s₃.gens.size]? = none; simp) hz (k₆.perm (.cons _ (show List.Perm ([(L, It.fr [(Str.ofString "addr", .str x)])] ++ n₃) (n₃ ++ [(L, It.fr [(Str.ofString "addr", .str x)])]) from List.perm_append_comm))) hgs gen36 fun Z' s'' S le k₇ => ?_
  obtain ⟨Z'', v, le', k₈, rfl, rv⟩ := k₇.seqZ
  exact Po.at ((((le₁.trans le₂).trans le₃).trans le).trans le') (ge.trans k₈.ge) ((k₈.unbase k₃.ge).hd hh.symm) rv h₃
end
theorem lstK {w : World} {A : Around} {E : Value → Shared → Prop} {k : Nat} {n : Led} {P : Led → D → Prop} {env : Env} {e : Expr} {fp cp lp pos : Pos} (hA : Rm k A) (hle : 12 ≤ k) : type_of% (@lstG w A E n P env e fp cp lp pos (hA.le hle)) := lstG (hA.le hle)
end
section -- FA
/-- the loop of _strip_quoted_realnames -/
noncomputable def stripLoop (x : Str) : List (Nat × Str) → Nat → Option Nat → List Str → Nat × List Str
  | [], st, _, res => (st, res)
  | (p, ch) :: r, st, op, res => if ch == Str.ofString "\"" then match op with
      | none => stripLoop x r st (some p) res
      | some o => stripLoop x r (p + 1) none (if (st : Int) != (o : Int) then res ++ [Txt.slice x (some (st : Int)) (some (o : Int))] else res)
    else stripLoop x r st op res
theorem strip_cons {x : Str} {p : Nat} {ch : Str} {r : List (Nat × Str)} {st : Nat} {op : Option Nat} {res : List Str} : stripLoop x ((p, ch) :: r) st op res = if ch == Str.ofString "\"" then match op with
      | none => stripLoop x r st (some p) res
      | some o => stripLoop x r (p + 1) none (if (st : Int) != (o : Int) then res ++ [Txt.slice x (some (st : Int)) (some (o : Int))] else res)
    else stripLoop x r st op res := by cases op <;> rfl
noncomputable def stripRes (x : Str) : List Str := let r := stripLoop x (escOf x) 0 none []
  if (r.1 : Int) < (x.length : Int) then r.2 ++ [Txt.slice x (some (r.1 : Int)) none] else r.2
noncomputable def stripQ (x : Str) : Str := if Txt.contains x (Str.ofString "\"") then Txt.join (Str.ofString "") (stripRes x) else x
noncomputable def opD : Option Nat → D
  | none => .none
  | some o => .int o
inductive InvFA (L a : Addr) (x : Str) (l : List D) (n : Led) : Prop
  | mk (is : List (Nat × Str)) (st : Nat) (op : Option Nat) (rs : List Str) (h4 : l = is.map escD) (h5 : n = [(L, .fr [(Str.ofString "addr", .str x), (Str.ofString "start", .int st), (Str.ofString "open_pos", opD op), (Str.ofString "result", .raw (.ref a))]), (a, .lst (rs.map D.str))]) (h6 : rs.length + is.length ≤ 900) (h7 : stripLoop x is st op rs = stripLoop x (escOf x) 0 none [])
theorem c43 {w : World} {k : Nat} {x : Str} (hx : x.length ≤ 900) (hi : (escOf x).length ≤ 900) (hj : JoinOk (Str.ofString "") (stripRes x) = true) : Cn w Nn (k + 10) 43 [.str x] (fun d => d = .str (stripQ x)) := by
  refine enter (i := 6) (fa := 43) (c := 42) (o := o_43_s9 w.params) (names := [Str.ofString "addr"]) (by kernel_rfl) rfl (codeRec_of (by kernel_rfl)) (fun vals h => ?_) rfl (by decide +kernel) (by decide +kernel) rfl rfl rfl (by decide +kernel) fun A L hA hH => ?_
  · exact len1 h fun _ => rfl
  conv => arg 4; arg 1; whnf
  walk_at "! exC:_ sIf:_ trC:__ ::r kS:_ nmL::rrbbb_ notInS:_"
  refine ⟨_, rfl, ?_⟩
  by_cases hc : Txt.contains x (Str.ofString "\"") = true
  · refine iF (by rw [hc]; decide) ?_
    walk_at "! exN:_ qN:_ exC:_ sAsgN:__ ::r kI:_ stL::rrb_ qN:_ exC:_ sAsgN:__ ::r kN:_ stL::rrb_ qN:_ exC:_ sAsgN:__ ::r"
    refine lstO ?_
    walk_at "! spN:_"
    refine ⟨szl (by simp), _, _, rfl, fun a => ?_⟩
    walk_at "! stL::rrb_"
    walk_at "! qN:_"
    walk_at "! exC:_"
    refine sForG (hA.le (by exact Nat.le_add_left _ _)) hH rfl (seC rfl) (fun _ => rfl) rfl rfl (by rfl) ?_
    walk_at "! nmL::rrbbb_"
    refine ⟨x, rfl, ?_⟩
    refine ForP.forget (b' := [(Str.ofString "addr", .str x), (Str.ofString "start", .int (0 : Nat)), (Str.ofString "open_pos", opD none), (Str.ofString "result", .raw (.ref a))]) (by walk_at "keep") ?_
    have hfin : stripQ x = Txt.join (Str.ofString "") (stripRes x) := by unfold stripQ; rw [if_pos hc]
    refine ForP.ind (InvFA L a x) ?_ ?_ ⟨escOf x, 0, none, [], rfl, rfl, by simpa using hi, rfl⟩
    · rintro n ⟨is, st, op, rs, hl, rfl, hn, he⟩
      cases is with
      | cons _ _ => cases hl
      | nil =>
      have hr : stripRes x = if (st : Int) < (x.length : Int) then rs ++ [Txt.slice x (some (st : Int)) none] else rs := by unfold stripRes; rw [← he]; rfl
      walk_at "! exN:_ qN:_ exC:_ sIf:_ trC:__ ::r nmL::rrbbb_ ca_len:__ ::G spC:__ seC::r nmL::rrbbb_ spN:_"
      refine bLenS (by lia) ?_
      walk_at "! ltI:_"
      refine ⟨_, rfl, ?_⟩
      by_cases hs : (st : Int) < (x.length : Int)
      · rw [if_pos hs] at hr
        refine iT (by simpa using hs) ?_
        walk_at "! exC:_ sExp:___ ::r ::r me_append:______ ::r ::r ::r ::r ::r nmL::rrbbb_ tyOA::m_ spC:__ seC::r sub:_ nmL::rrbbb_ slc:_ ptS:_ nmL::rrbbb_ ptN:_ ptN:_"
        refine slS (fun _ _ => ⟨_, rfl⟩) rfl rfl (szl (by exact Nat.le_trans (by assumption) (by decide))) ?_
        walk_at "! spN:_"
        refine mAppend (l := [_]) rfl (szl (by simp at hn ⊢; exact Nat.le_trans (by assumption) (by decide))) ?_
        refine ⟨.inl rfl, ?_⟩
        refine frz (Str.ofString "result") (l := []) (by rfl) (by rfl) ?_
        walk_at "! exN:_ qN:_ exC:_ sRet:_ me_join:______ ::r ::r ::r ::r ::r kS:_ tySA::_ spC:__ seC::r nmL::rrbbb_ spN:_"
        rw [show rs.map D.str ++ [D.str (Txt.slice x (some (st : Int)) none)] = (stripRes x).map D.str from by rw [hr]; simp]
        refine mJoin hj ?_
        walk_at "! qR:_"
        rw [hfin]
      · rw [if_neg hs] at hr
        refine iF (by simpa using hs) ?_
        refine frz (Str.ofString "result") (l := []) (by rfl) (by rfl) ?_
        walk_at "! exN:_ qN:_ exC:_ sRet:_ me_join:______ ::r ::r ::r ::r ::r kS:_ tySA::_ spC:__ seC::r nmL::rrbbb_ spN:_"
        rw [← hr]
        refine mJoin hj ?_
        walk_at "! qR:_"
        rw [hfin]
    · rintro d r n ⟨is, st, op, rs, hl, rfl, hn, he⟩ ih
      cases is with
      | nil => cases hl
      | cons i is =>
      rw [List.map_cons] at hl
      injection hl with h1 h2
      subst h1 h2
      rw [List.length_cons] at hn
      obtain ⟨p, ch⟩ := i
      refine asT2 hH rfl ?_
      walk_at "! asN:_ stL::rrb_ asN:_ stL::rrb_ exC:_ sIf:_ trC:__ ::r nmL::rrbbb_ kS:_ eqS:_"
      refine ⟨_, rfl, ?_⟩
      rw [strip_cons] at he
      by_cases hq : (ch == Str.ofString "\"") = true
      · rw [if_pos hq] at he
        refine iT hq ?_
        cases op with
        | none =>
          replace he : stripLoop x is st (some p) rs = stripLoop x (escOf x) 0 none [] := he
          walk_at "! exC:_ sIf:_ trC:__ ::r nmL::rrbbb_ kN:_"
          refine isN nnN ?_
          skip
          refine ⟨_, rfl, ?_⟩
          refine iT rfl ?_
          walk_at "! exC:_ sAsgN:__ ::r nmL::rrbbb_ stL::rrb_ qN:_ exN:_ qN:_ exN:_ qN:_ exN:_ zN:_"
          exact ForP.forget (b' := [(Str.ofString "addr", .str x), (Str.ofString "start", .int st), (Str.ofString "open_pos", opD (some p)), (Str.ofString "result", .raw (.ref a))]) (by walk_at "keep") (ih _ ⟨is, st, some p, rs, rfl, rfl, by exact Nat.le_of_lt (by assumption), he⟩)
        | some o =>
          walk_at "! exC:_ sIf:_ trC:__ ::r nmL::rrbbb_ kN:_"
          refine isN nnI ?_
          skip
          refine ⟨_, rfl, ?_⟩
          refine iF (by decide) ?_
          walk_at "! exC:_ sIf:_ trC:__ ::r nmL::rrbbb_ nmL::rrbbb_"
          refine neI ?_
          refine ⟨_, rfl, ?_⟩
          by_cases hne : ((st : Int) != (o : Int)) = true
          · refine iT hne ?_
            simp only [if_pos hne] at he
            walk_at "! exC:_ sExp:___ ::r ::r me_append:______ ::r ::r ::r ::r ::r nmL::rrbbb_ tyOA::m_ spC:__ seC::r sub:_ nmL::rrbbb_ slc:_ ptS:_ nmL::rrbbb_ ptS:_ nmL::rrbbb_ ptN:_"
            refine slS (fun _ _ => ⟨_, rfl⟩) rfl rfl (szl (by exact Nat.le_trans (by assumption) (by decide))) ?_
            walk_at "! spN:_"
            refine mAppend (l := [_]) rfl (szl (by simp at hn ⊢; grind)) ?_
            refine ⟨.inl rfl, ?_⟩
            walk_at "! qN:_ exN:_ qN:_ exC:_ sAsgN:__ ::r bin:_ nmL::rrbbb_ kI:_ addI:_ stL::rrb_ qN:_ exC:_ sAsgN:__ ::r kN:_ stL::rrb_ qN:_ exN:_ qN:_ exN:_ qN:_ exN:_ zN:_"
            rw [show ∀ y, rs.map D.str ++ [D.str y] = (rs ++ [y]).map D.str from by simp]
            exact ForP.forget (b' := [(Str.ofString "addr", .str x), (Str.ofString "start", .int (p + 1 : Nat)), (Str.ofString "open_pos", opD none), (Str.ofString "result", .raw (.ref a))]) (by walk_at "keep") (ih _ ⟨is, p + 1, none, _, rfl, rfl, by simp at hn ⊢; lia, he⟩)
          · refine iF hne ?_
            simp only [if_neg hne] at he
            walk_at "! exN:_ qN:_ exC:_ sAsgN:__ ::r bin:_ nmL::rrbbb_ kI:_ addI:_ stL::rrb_ qN:_ exC:_ sAsgN:__ ::r kN:_ stL::rrb_ qN:_ exN:_ qN:_ exN:_ qN:_ exN:_ zN:_"
            exact ForP.forget (b' := [(Str.ofString "addr", .str x), (Str.ofString "start", .int (p + 1 : Nat)), (Str.ofString "open_pos", opD none), (Str.ofString "result", .raw (.ref a))]) (by walk_at "keep") (ih _ ⟨is, p + 1, none, _, rfl, rfl, by exact Nat.le_of_lt (by assumption), he⟩)
      · rw [if_neg hq] at he
        refine iF hq ?_
        walk_at "! exN:_ qN:_ exN:_ zN:_"
        exact ForP.forget (b' := [(Str.ofString "addr", .str x), (Str.ofString "start", .int st), (Str.ofString "open_pos", opD op), (Str.ofString "result", .raw (.ref a))]) (by walk_at "keep") (ih _ ⟨is, st, op, rs, rfl, rfl, by exact Nat.le_of_lt (by assumption), he⟩)
  · refine iT (by simpa using hc) ?_
    walk_at "! exC:_ sRet:_ nmL::rrbbb_ qR:_ qR:_"
    show D.str x = _
    unfold stripQ
    rw [if_neg hc]
end
section -- FB
noncomputable def checkLoop : List (Nat × Str) → Int → Option Int
  | [], o => some o
  | (_, ch) :: r, o => if ch == Str.ofString "(" then checkLoop r (o + 1) else if ch == Str.ofString ")" then if o - 1 < 0 then none else checkLoop r (o - 1) else checkLoop r o
noncomputable def checkP (x : Str) : Bool := match checkLoop (escOf (stripQ x)) 0 with
  | some o => o == 0
  | none => false
noncomputable def StripOk (x : Str) : Prop := x.length ≤ 900 ∧ (escOf x).length ≤ 900 ∧ JoinOk (Str.ofString "") (stripRes x) = true
inductive InvFB (L : Addr) (x : Str) (l : List D) (n : Led) : Prop
  | mk (is : List (Nat × Str)) (o : Int) (h2 : l = is.map escD) (h3 : n = [(L, .fr [(Str.ofString "addr", .str (stripQ x)), (Str.ofString "opens", .int o)])]) (h4 : checkLoop is o = checkLoop (escOf (stripQ x)) 0)
theorem c50 {w : World} {k : Nat} {x : Str} (hx : StripOk x) : Cn w Nn (k + 11) 50 [.str x] (fun d => d = .bool (checkP x)) := by
  refine enter (i := 7) (fa := 50) (c := 49) (o := o_50_s9 w.params) (names := [Str.ofString "addr"]) (by kernel_rfl) rfl (codeRec_of (by kernel_rfl)) (fun vals h => ?_) rfl (by decide +kernel) (by decide +kernel) rfl rfl rfl (by decide +kernel) fun A L hA hH => ?_
  · exact len1 h fun _ => rfl
  conv => arg 4; arg 1; whnf
  walk_at "! exC:_ sAsgN:__ ::r cg_43:__ ::G spC:__ seC::r nmL::rrbbb_ spN:_"
  refine mF hA hH (c43 hx.1 hx.2.1 hx.2.2) fun d hd => ?_
  subst hd
  walk_at "! stL::rrb_ qN:_ exC:_ sAsgN:__ ::r kI:_ stL::rrb_ qN:_ exC:_ sForK:a_a_______ ::w ::r seC::r ::f ::r ::r ::r nmL::rrbbb_"
  refine ⟨stripQ x, rfl, ?_⟩
  refine ForP.forget (b' := [(Str.ofString "addr", .str (stripQ x)), (Str.ofString "opens", .int 0)]) (by walk_at "keep") ?_
  refine ForP.ind (InvFB L x) ?_ ?_ ⟨escOf (stripQ x), 0, rfl, rfl, rfl⟩
  · rintro n ⟨is, o, hl, rfl, he⟩
    cases is with
    | cons _ _ => cases hl
    | nil =>
    walk_at "! exN:_ qN:_ exC:_ sRet:_ cmp:__ ::r nmL::rrbbb_ kI:_ eqI:_ qR:_"
    show D.bool (o == 0) = _
    unfold checkP
    rw [← he]; rfl
  · rintro d r n ⟨is, o, hl, rfl, he⟩ ih
    cases is with
    | nil => cases hl
    | cons i is =>
    rw [List.map_cons] at hl
    injection hl with h1 h2
    subst h1 h2
    obtain ⟨p, ch⟩ := i
    rw [checkLoop] at he
    refine asT2 hH rfl ?_
    walk_at "! asN:_ stL::rrb_ asN:_ stL::rrb_ exC:_ sIf:_ trC:__ ::r nmL::rrbbb_ kS:_ eqS:_"
    refine ⟨_, rfl, ?_⟩
    by_cases h1 : (ch == Str.ofString "(") = true
    · rw [if_pos h1] at he
      refine iT h1 ?_
      walk_at "! exC:_ sAug::rrbb_ kI:_ iaddI:_ stL::rrb_ qN:_ exN:_ qN:_ exN:_ zN:_"
      exact ForP.forget (b' := [(Str.ofString "addr", .str (stripQ x)), (Str.ofString "opens", .int (o + 1))]) (by walk_at "keep") (ih _ ⟨is, _, rfl, rfl, he⟩)
    · rw [if_neg h1] at he
      refine iF h1 ?_
      walk_at "! exC:_ sIf:_ trC:__ ::r nmL::rrbbb_ kS:_ eqS:_"
      refine ⟨_, rfl, ?_⟩
      by_cases h2 : (ch == Str.ofString ")") = true
      · rw [if_pos h2] at he
        refine iT h2 ?_
        walk_at "! exC:_ sAug::rrbb_ kI:_ isubI:_ stL::rrb_ qN:_ exC:_ sIf:_ trC:__ ::r nmL::rrbbb_ kI:_ ltI:_"
        refine ⟨_, rfl, ?_⟩
        by_cases h3 : o - 1 < 0
        · rw [if_pos h3] at he
          refine iT (by simpa using h3) ?_
          walk_at "! exC:_ sRet:_ kB:_ qR:_ qR:_ qR:_ qR:_ zR:_ qR:_"
          show D.bool false = _
          unfold checkP
          rw [← he]
        · rw [if_neg h3] at he
          refine iF (by simpa using h3) ?_
          walk_at "! exN:_ qN:_ exN:_ qN:_ exN:_ qN:_ exN:_ zN:_"
          exact ForP.forget (b' := [(Str.ofString "addr", .str (stripQ x)), (Str.ofString "opens", .int (o - 1))]) (by walk_at "keep") (ih _ ⟨is, _, rfl, rfl, he⟩)
      · rw [if_neg h2] at he
        refine iF h2 ?_
        walk_at "! exN:_ qN:_ exN:_ qN:_ exN:_ zN:_"
        exact ForP.forget (b' := [(Str.ofString "addr", .str (stripQ x)), (Str.ofString "opens", .int o)]) (by walk_at "keep") (ih _ ⟨is, _, rfl, rfl, he⟩)
end
section -- FC
theorem range_all {α : Type} : ∀ (l : List α), (List.range l.length).filterMap (l[·]?) = l
  | [] => rfl
  | a :: l => by
    rw [List.length_cons, List.range_succ_eq_map, List.filterMap_cons]
    simp only [List.getElem?_cons_zero, List.filterMap_map]
    congr 1
    exact range_all l
theorem pick_from {α : Type} (l : List α) (a : Nat) (ha : a ≤ l.length) : pick l (some (a : Int)) none none = l.drop a := by
  unfold pick idxs
  rw [sliceBounds_plain]
  simp only [Option.elim_some, Option.elim_none]
  have hc : clipAt l.length (a : Int) = a := by unfold clipAt; grind
  rw [hc, sliceRange_one, List.filterMap_map]
  have := range_all (l.drop a)
  rw [List.length_drop] at this
  conv => rhs; rw [← this]
  congr 1
  funext j
  simp
noncomputable def badPair : Str := Str.ofString "('', '')"
noncomputable def prepOne (t : Str) : Str := if checkP t then t else badPair
inductive InvFC (L a : Addr) (ts : List Str) (l : List D) (n : Led) : Prop
  | mk (is : List Str) (rs : List Str) (h2 : l = is.map D.str) (h3 : n = [(L, .fr [(Str.ofString "email_header_fields", .lst (ts.map D.str)), (Str.ofString "accepted_values", .raw (.ref a))]), (a, .lst (rs.map D.str))]) (h4 : (∀ t ∈ is, StripOk t)) (h5 : rs.length + is.length ≤ 900) (h6 : rs ++ is.map prepOne = ts.map prepOne)
theorem c57 {w : World} {k : Nat} {ts : List Str} (ht : ∀ t ∈ ts, StripOk t) (hl : ts.length ≤ 900) : Cn w Nn (k + 12) 57 [.lst (ts.map D.str)] (fun d => d = .lst ((ts.map prepOne).map D.str)) := by
  refine enter (i := 8) (fa := 57) (c := 56) (o := o_57_s9 w.params) (names := [Str.ofString "email_header_fields"]) (by kernel_rfl) rfl (codeRec_of (by kernel_rfl)) (fun vals h => ?_) rfl (by decide +kernel) (by decide +kernel) rfl rfl rfl (by decide +kernel) fun A L hA hH => ?_
  · exact len1 h fun _ => rfl
  conv => arg 4; arg 1; whnf
  walk_at "! exC:_ sAsgN:__ ::r"
  refine lstO ?_
  walk_at "! spN:_"
  refine ⟨szl (by simp), _, _, rfl, fun a => ?_⟩
  walk_at "! stL::rrb_ qN:_ exC:_ sFor:__ ::f nmL::rrbbb_"
  refine ⟨_, .lst _, ?_⟩
  refine ForP.forget (b' := [(Str.ofString "email_header_fields", .lst (ts.map D.str)), (Str.ofString "accepted_values", .raw (.ref a))]) (by walk_at "keep") ?_
  refine ForP.ind (InvFC L a ts) ?_ ?_ ⟨ts, [], rfl, rfl, ht, by simpa using hl, rfl⟩
  · rintro n ⟨is, rs, hl, rfl, hi, hn, he⟩
    cases is with
    | cons _ _ => cases hl
    | nil =>
    refine frz (Str.ofString "accepted_values") (l := []) (by rfl) (by rfl) ?_
    walk_at "! exN:_ qN:_ exC:_ sRet:_ nmL::rrbbb_ qR:_"
    rw [List.map_nil, List.append_nil] at he
    rw [← he]
  · rintro d r n ⟨is, rs, hl, rfl, hi, hn, he⟩ ih
    cases is with
    | nil => cases hl
    | cons i is =>
    rw [List.map_cons] at hl
    injection hl with h1 h2
    subst h1 h2
    rw [List.length_cons] at hn
    rw [List.map_cons] at he
    walk_at "! asN:_ stL::rrb_ exC:_ sIf:_ trN:_ trPc:__ ::r cg_50:__ ::G spC:__ seC::r nmL::rrbbb_ spN:_"
    refine mF hA hH (c50 (hi i (.head _))) fun d hd => ?_
    subst hd
    walk_at "! tyB:_"
    have e2 : ∀ y, rs.map D.str ++ [D.str y] = (rs ++ [y]).map D.str := by simp
    by_cases hc : checkP i = true
    · have hp : prepOne i = i := by unfold prepOne; rw [if_pos hc]
      refine iF (by rw [hc]; decide) ?_
      walk_at "! exN:_ qN:_ exC:_ sExp:___ ::r ::r me_append:______ ::r ::r ::r ::r ::r nmL::rrbbb_ tyOA::m_ spC:__ seC::r nmL::rrbbb_ spN:_"
      refine mAppend (l := [_]) rfl (szl (by simp; grind)) ?_
      refine ⟨.inl rfl, ?_⟩
      walk_at "! qN:_ exN:_ zN:_"
      rw [e2]
      exact ForP.forget (b' := [(Str.ofString "email_header_fields", .lst (ts.map D.str)), (Str.ofString "accepted_values", .raw (.ref a))]) (by walk_at "keep") (ih _ ⟨is, rs ++ [i], rfl, rfl, fun t h => hi t (.tail _ h), by simp; lia, by rw [← he, hp]; simp⟩)
    · have hp : prepOne i = badPair := by unfold prepOne; rw [if_neg hc]
      refine iT (by simpa using hc) ?_
      walk_at "! exC:_ sAsgN:__ ::r kS:_ stL::rrb_ qN:_ exN:_ qN:_ exC:_ sExp:___ ::r ::r me_append:______ ::r ::r ::r ::r ::r nmL::rrbbb_ tyOA::m_ spC:__ seC::r nmL::rrbbb_ spN:_"
      refine mAppend (l := [_]) rfl (szl (by simp; omega)) ?_
      refine ⟨.inl rfl, ?_⟩
      walk_at "! qN:_ exN:_ zN:_"
      rw [e2]
      exact ForP.forget (b' := [(Str.ofString "email_header_fields", .lst (ts.map D.str)), (Str.ofString "accepted_values", .raw (.ref a))]) (by walk_at "keep") (ih _ ⟨is, rs ++ [badPair], rfl, rfl, fun t h => hi t (.tail _ h), by simp; omega, by rw [← he, hp]; simp⟩)
/-- the product of 64 ** i - 1 -/
noncomputable def prodI : List Nat → Int
  | [] => 1
  | i :: r => (64 ^ i - 1) * prodI r
theorem pow_bits {i : Nat} (hi : i ≤ 20) : Builtin.Int.intBits ((64 : Int) ^ i - 1) ≤ 130 := by
  rw [PySem.intBits_le_iff]
  have e : (64 : Int) ^ i = ((64 ^ i : Nat) : Int) := by simp
  have h2 : 64 ^ i ≤ 64 ^ 20 := Nat.pow_le_pow_right (by decide) hi
  have h0 : 0 < 64 ^ i := Nat.pow_pos (by decide)
  have h3 : 64 ^ 20 < 2 ^ 130 := by decide
  rw [e]
  omega
theorem prod_bits : ∀ {is : List Nat}, (∀ i ∈ is, i ≤ 20) → Builtin.Int.intBits (prodI is) ≤ 130 * is.length + 1
  | [], _ => by decide
  | i :: r, h => by
    have := intBits_mul_le (pow_bits (h i (.head _))) (prod_bits (is := r) fun j hj => h j (.tail _ hj))
    rw [List.length_cons]
    unfold prodI
    lia
theorem c160 {w : World} : ∀ {is : List Nat} {k : Nat}, (∀ i ∈ is, i ≤ 20) → is.length ≤ 100 → Cn w Aw (k + is.length + 1) 160 [.lst (is.map fun i : Nat => D.int i)] (fun d => d = .int (prodI is)) := by
  intro is
  induction is with
  | nil =>
    intro k hi hn
    refine enter (i := 21) (fa := 160) (c := 159) (o := o_160_s22 w.params) (names := [Str.ofString "numbers"]) (by kernel_rfl) rfl (codeRec_of (by kernel_rfl)) (fun vals h => ?_) rfl (by decide +kernel) (by decide +kernel) rfl rfl rfl (by decide +kernel) fun A L hA hH => ?_
    · exact len1 h fun _ => rfl
    conv => arg 4; arg 1; whnf
    walk_at "! exC:_ sRet:_ ife:_ trPn:__ ::r nmL::rrbbb_"
    refine tyL (by simp) ?_
    refine iF (by simp) ?_
    walk_at "! kI:_ qR:_"
    rfl
  | cons i is ih =>
    intro k hi hn
    rw [List.length_cons] at hn
    refine enter (i := 21) (fa := 160) (c := 159) (o := o_160_s22 w.params) (names := [Str.ofString "numbers"]) (by kernel_rfl) rfl (codeRec_of (by kernel_rfl)) (fun vals h => ?_) rfl (by decide +kernel) (by decide +kernel) rfl rfl rfl (by decide +kernel) fun A L hA hH => ?_
    · exact len1 h fun _ => rfl
    conv => arg 4; arg 1; whnf
    have h1 := hi i (.head _)
    walk_at "! exC:_ sRet:_ ife:_ trPn:__ ::r nmL::rrbbb_"
    refine tyL (by simp; omega) ?_
    refine iT (by simp) ?_
    walk_at "! bin:_ bin:_ bin:_ kI:_ sub:_ nmL::rrbbb_ kI:_"
    refine itL (fun _ _ => ⟨_, rfl⟩) (by decide) (by decide) (d := .int i) (by simp) ?_
    skip
    refine powI (by exact Int.natCast_nonneg _) (by rw [show Builtin.Int.intBits 64 = 7 from rfl]; lia) ?_
    walk_at "! kI:_ subI:_ cg_160:__ ::G spC:__ seC::r sub:_ nmL::rrbbb_ slc:_ ptS:_ kI:_ ptN:_ ptN:_"
    refine slL (fun _ _ => ⟨_, rfl⟩) rfl rfl rfl (by decide) (szl (by simp; lia)) ?_
    rw [show pick (List.map (fun i : Nat => D.int i) (i :: is)) (some 1) none none = is.map (fun i : Nat => D.int i) from by rw [show (1 : Int) = ((1 : Nat) : Int) from rfl, pick_from _ _ (by simp)]; rfl]
    walk_at "! spN:_"
    refine mF (hA.le (k := k + is.length + 1) (by simp; exact Nat.le_refl _)) trivial (ih (fun j hj => hi j (.tail _ hj)) (by exact Nat.le_of_lt (by assumption))) fun d hd => ?_
    subst hd
    refine mulI (IntMulOk.of_le (m := 130) (n := 130 * is.length + 1) (by rw [Int.toNat_natCast]; exact pow_bits h1) (prod_bits fun j hj => hi j (.tail _ hj)) (by grind)) ?_
    rw [Int.toNat_natCast]
    rfl
end
section -- FD
noncomputable def unseenL : List Nat := [173, 847, 6150, 6155, 6156, 6157, 8203, 8204, 8205, 8288, 65279] ++ (List.range 16).map (65024 + ·)
noncomputable def hiddenL : List Str := Str.ofString "" :: unseenL.map fun c => ⟨#[c]⟩
noncomputable def pieceL : List Str := [Str.ofString "", Str.ofString "\\)", Str.ofString "\"(\"", Str.ofString "\\\"", Str.ofString "\\\\", Str.ofString "\"\\\")\"", Str.ofString "\\("]
noncomputable def pleftL : List Str := [Str.ofString "", Str.ofString "\\)", Str.ofString "", Str.ofString "\\\"", Str.ofString "\\\\", Str.ofString "", Str.ofString "\\("]
structure Nst where
  t : Str
  l : Str
  m : List Str
  o : List Int
  s : List Nat
noncomputable def popN : Nat → Str → Str → List Nat → Str × Str × List Nat
  | 0, t, l, s => (t, l, s)
  | p + 1, t, l, s => popN p (t ++ Str.ofString ")") (l ++ Str.ofString ")") s.dropLast
noncomputable def popsOf (c len : Nat) : Nat := max (len - 3) (c % 60 % (len + 1))
noncomputable def nestStep (c k : Nat) (x : Nst) : Nst :=
  let y := popN (popsOf c x.s.length) x.t x.l x.s
  let sign := signOf (c / 60 % 5) (c / 300 % 14)
  let name := nameOf (c / 60 % 5) (c / 300 % 14)
  let piece := pieceL.getD (c / 4200 % 7) Str.empty
  { t := y.1 ++ Str.ofString "(" ++ Txt.slice piece none (some 1) ++ hiddenL.getD (c / 29400 % 28) Str.empty ++ Txt.slice piece (some 1) none ++ sign
    l := y.2.1 ++ Str.ofString "(" ++ pleftL.getD (c / 4200 % 7) Str.empty ++ name
    m := x.m ++ [name]
    o := x.o ++ [match y.2.2.getLast? with | some j => (j : Int) | none => -1]
    s := y.2.2 ++ [k] }
noncomputable def nestFrom (cells : List Nat) : List Nat → Nst → Nst
  | [], x => x
  | k :: r, x => nestFrom cells r (nestStep (cells.getD k 0) k x)
noncomputable def nestOf (cells : List Nat) (many : Nat) : Nst := nestFrom cells (List.range many) ⟨Str.ofString "", Str.ofString "", [], [], []⟩
noncomputable def typedOf (cells : List Nat) (many : Nat) : Str := let x := nestOf cells many; x.t ++ Txt.mul (Str.ofString ")") x.s.length
noncomputable def leftOf (cells : List Nat) (many : Nat) : Str := let x := nestOf cells many; x.l ++ Txt.mul (Str.ofString ")") x.s.length
theorem pieces_len : ∀ i < 7, (pieceL.getD i Str.empty).length ≤ 5 ∧ (pleftL.getD i Str.empty).length ≤ 2 := by decide +kernel
theorem hidden_len : ∀ i < 28, (hiddenL.getD i Str.empty).length ≤ 1 := by decide +kernel
theorem sign_len (l f : Nat) : (signOf l f).length = 1 := by unfold signOf; split; rfl; split; rfl; split <;> rfl
theorem name_len : ∀ l < 5, ∀ f < 14, (nameOf l f).length ≤ 2 := by decide +kernel
theorem nthN {l : List Nat} {j : Nat} {i : Int} (hi : i = j) (h : j < l.length) : (l.map fun c : Nat => D.int c)[i.toNat]? = some (D.int ((l.getD j 0 : Nat) : Int)) := by
  subst hi
  rw [Int.toNat_natCast, List.getElem?_map, List.getD_eq_getElem?_getD, List.getElem?_eq_getElem h]; rfl
theorem itLN {w : World} {A : Around} {E : Value → Shared → Prop} {n : Led} {P : Led → D → Prop} {e sl : Expr} {ds : List D} {i : Int} (l : List Nat) (j : Nat) (hs : Subs sl) (hds : ds = l.map fun c : Nat => D.int c) (hi : i = j) (hf : j < 2 ^ 63) (hj : j < l.length) (h : P n (.int ((l.getD j 0 : Nat) : Int))) :
    M2 w A E Rd (subscriptTail e sl) (.lst ds) (.int i) n P := by
  subst hds; exact itL hs (by grind) (by lia) (nthN hi hj) h
inductive InvFD (L a b c : Addr) (cells : List Nat) (many : Nat) (l : List D) (n : Led) : Prop
  | mk (ks : List Nat) (x : Nst) (j : Nat) (h3 : l = ks.map (fun k : Nat => D.int k)) (h4 : n = [(L, .fr [(Str.ofString "cells", .lst (cells.map fun c : Nat => D.int c)), (Str.ofString "many", .int many), (Str.ofString "hidden", .lst (hiddenL.map D.str)), (Str.ofString "typed", .str x.t), (Str.ofString "left", .str x.l), (Str.ofString "meant", .raw (.ref a)), (Str.ofString "outer", .raw (.ref b)), (Str.ofString "standing", .raw (.ref c))]), (c, .lst (x.s.map fun k : Nat => D.int k)), (b, .lst (x.o.map D.int)), (a, .lst (x.m.map D.str))]) (h5 : nestFrom cells ks x = nestOf cells many) (h6 : j + ks.length = many) (h7 : (∀ k ∈ ks, k < many)) (h8 : x.s.length ≤ j) (h9 : x.m.length ≤ j) (h10 : x.o.length ≤ j) (h11 : x.t.length ≤ 40 * j) (h12 : x.l.length ≤ 40 * j)
inductive InvFD2 (L a b c : Addr) (cells : List Nat) (many i p j : Nat) (x : Nst) (l : List D) (n : Led) : Prop
  | mk (is : List Nat) (t₁ l₁ : Str) (s₁ : List Nat) (h3 : l = is.map (fun k : Nat => D.int k)) (h4 : n = [(L, .fr [(Str.ofString "cells", .lst (cells.map fun c : Nat => D.int c)), (Str.ofString "many", .int many), (Str.ofString "hidden", .lst (hiddenL.map D.str)), (Str.ofString "typed", .str t₁), (Str.ofString "left", .str l₁), (Str.ofString "meant", .raw (.ref a)), (Str.ofString "outer", .raw (.ref b)), (Str.ofString "standing", .raw (.ref c)), (Str.ofString "k", .int i)]), (c, .lst (s₁.map fun k : Nat => D.int k)), (b, .lst (x.o.map D.int)), (a, .lst (x.m.map D.str))]) (h5 : popN is.length t₁ l₁ s₁ = popN p x.t x.l x.s) (h6 : is.length ≤ s₁.length) (h7 : s₁.length ≤ j) (h8 : t₁.length + is.length ≤ 40 * j + p) (h9 : l₁.length + is.length ≤ 40 * j + p)
theorem c133 {w : World} {k many : Nat} {cells : List Nat} (hm : many ≤ 5) (hc : cells.length = 6) : Cn w Nn (k + 2) 133 [.lst (cells.map fun c : Nat => D.int c), .int many]
    (fun d => d = .tup [.str (typedOf cells many), .str (leftOf cells many), .lst ((nestOf cells many).m.map D.str), .lst ((nestOf cells many).o.map D.int)]) := by
  refine enter (i := 16) (fa := 133) (c := 132) (o := o_133_s22 w.params) (names := [Str.ofString "cells", Str.ofString "many"]) (by kernel_rfl) rfl (codeRec_of (by kernel_rfl)) (fun vals h => ?_) rfl (by decide +kernel) (by decide +kernel) rfl rfl rfl (by decide +kernel) fun A L hA hH => ?_
  · exact len2 h fun _ _ => rfl
  conv => arg 4; arg 1; whnf
  walk_at "! exC:_ sAsgN:__ ::r bin:_ lstC:_ spC:__ seC::r kI:_ spC:__ seC::r kI:_ spC:__ seC::r kI:_ spC:__ seC::r kI:_ spC:__ seC::r kI:_ spC:__ seC::r kI:_ spC:__ seC::r kI:_ spC:__ seC::r kI:_ spC:__ seC::r kI:_ spC:__ seC::r kI:_ spC:__ seC::r kI:_ spN:_"
  refine ⟨szl (by simp), ?_⟩
  walk_at "! ca_list:__ ::G spC:__ seC::r ca_range:__ ::G spC:__ seC::r kI:_ spC:__ seC::r kI:_ spN:_ bRng2:_ spN:_"
  refine bListR hH (m := 16) (by decide +kernel) (by decide +kernel) (by decide) ?_
  refine addL (szl (by simp)) ?_
  walk_at "! stL::rrb_ qN:_ exC:_ sAsgN:__ ::r bin:_ lstC:_ spC:__ seC::r kS:_ spN:_"
  refine ⟨szl (by simp), ?_⟩
  refine lcFM unseenL (fun c : Nat => D.int c) (fun c => [(Str.ofString "code", D.int c)]) (fun _ => true) (fun c => D.str ⟨#[c]⟩) rfl rfl (by decide +kernel) (by decide +kernel) (fun _ => rfl) ?_
  walk_at "! nmL::rrbbb_"
  refine ⟨.lst _, by decide, ?_, ?_, ?_, ?_⟩
  · intro C a ha
    walk_at "! asN:_ stL::rrb_"
    rfl
  · intro C a ha
    walk_at "! te0:_"
    exact ⟨rfl, rfl⟩
  · intro C a ha _
    walk_at "! ca_chr:__ ::G spC:__ seC::r nmL::rrbbb_ spN:_"
    have hu : ∀ a ∈ unseenL, a ≤ 1114111 := by decide +kernel
    have := hu a ha
    refine bChr (by exact Int.natCast_nonneg _) (by exact Int.ofNat_le.mpr (by assumption)) ?_
    exact ⟨rfl, by rw [Int.toNat_natCast]⟩
  refine addL (szl (by decide)) ?_
  walk_at "! stL::rrb_ qN:_ exC:_ sAsgT:___ ::r ::r tup_:_ spC:__ seC::r kS:_ spC:__ seC::r kS:_ spC:__ seC::r"
  refine lstO ?_
  walk_at "! spN:_"
  refine ⟨szl (by simp), _, _, rfl, fun a => ?_⟩
  walk_at "! spC:__ seC::r"
  refine lstO ?_
  walk_at "! spN:_"
  refine ⟨szl (by simp), _, _, rfl, fun b => ?_⟩
  walk_at "! spC:__ seC::r"
  refine lstO ?_
  walk_at "! spN:_"
  refine ⟨szl (by simp), _, _, rfl, fun c => ?_⟩
  walk_at "! spN:_"
  refine ⟨szl (by simp), ?_⟩
  walk_at "! asT5:___ ::a ::r asN:_ stL::rrb_ asN:_ stL::rrb_ asN:_ stL::rrb_ asN:_ stL::rrb_ asN:_ stL::rrb_ qN:_ exC:_ sFor:__ ::f ca_range:__ ::G spC:__ seC::r nmL::rrbbb_ spN:_ bRng1:_"
  refine ⟨_, itemsN many rfl (by exact Nat.lt_of_le_of_lt (by assumption) (by decide)), ?_⟩
  refine ForP.forget (b' := [(Str.ofString "cells", .lst (cells.map fun c : Nat => D.int c)), (Str.ofString "many", .int many), (Str.ofString "hidden", .lst (hiddenL.map D.str)), (Str.ofString "typed", .str (Str.ofString "")), (Str.ofString "left", .str (Str.ofString "")), (Str.ofString "meant", .raw (.ref a)), (Str.ofString "outer", .raw (.ref b)), (Str.ofString "standing", .raw (.ref c))]) (by walk_at "keep") ?_
  refine ForP.ind (InvFD L a b c cells many) ?_ ?_
    ⟨List.range many, ⟨Str.ofString "", Str.ofString "", [], [], []⟩, 0, rfl, rfl, rfl, by simp, by simp, by simp, by simp, by simp, by decide, by decide⟩
  · rintro n ⟨ks, x, j, hl, rfl, he, hj, hk, h1, h2, h3, h4, h5⟩
    cases ks with
    | cons _ _ => cases hl
    | nil =>
    rw [nestFrom] at he
    subst he
    refine frz (Str.ofString "meant") (l := [_, _]) (by rfl) (by rfl) ?_
    refine frz (Str.ofString "outer") (l := [_]) (by rfl) (by rfl) ?_
    walk_at "! exN:_ qN:_ exC:_ sRet:_ tup_:_ spC:__ seC::r bin:_ nmL::rrbbb_ bin:_ kS:_ ca_len:__ ::G spC:__ seC::r nmL::rrbbb_ spN:_"
    have hs5 : (nestOf cells many).s.length ≤ 5 := by simp at hj; lia
    have hml : (Txt.mul (Str.ofString ")") ((nestOf cells many).s.length : Int)).length ≤ 5 := by
      have : ∀ q < 6, (Txt.mul (Str.ofString ")") ((q : Nat) : Int)).length ≤ 5 := by decide +kernel
      exact this _ (by exact Nat.lt_of_le_of_lt (by assumption) (by decide))
    have hmo : MulOk (Str.ofString ")") ((nestOf cells many).s.length : Int) := by
      have : ∀ q < 6, MulOk (Str.ofString ")") ((q : Nat) : Int) := by unfold MulOk; decide +kernel
      exact this _ (by omega)
    simp only [List.length_nil, Nat.add_zero] at hj
    refine bLenO (ds := (nestOf cells many).s.map fun k : Nat => D.int k) (by exact .tail _ (.head _)) (by simp; omega) ?_
    rw [List.length_map]
    refine mulS hmo ?_
    refine addS' 200 5 (by grind) hml (by decide) fun _ => ?_
    walk_at "! spC:__ seC::r bin:_ nmL::rrbbb_ bin:_ kS:_ ca_len:__ ::G spC:__ seC::r nmL::rrbbb_ spN:_"
    refine bLenO (ds := (nestOf cells many).s.map fun k : Nat => D.int k) (by exact .tail _ (.head _)) (by simp; omega) ?_
    rw [List.length_map]
    refine mulS hmo ?_
    refine addS' 200 5 (by grind) hml (by decide) fun _ => ?_
    walk_at "! spC:__ seC::r nmL::rrbbb_ spC:__ seC::r nmL::rrbbb_ spN:_"
    refine ⟨szl (by simp), ?_⟩
    rfl
  · rintro d r n ⟨ks, x, j, hl, rfl, he, hj, hk, h1, h2, h3, h4, h5⟩ ih
    cases ks with
    | nil => cases hl
    | cons i ks =>
    rw [List.map_cons] at hl
    injection hl with e1 e2
    subst e1 e2
    rw [List.length_cons] at hj
    have hi := hk i (.head _)
    walk_at "! asN:_ stL::rrb_ exC:_ sFor:__ ::f ca_range:__ ::G spC:__ seC::r ca_max:__ ::G spC:__ seC::r bin:_ ca_len:__ ::G spC:__ seC::r nmL::rrbbb_ spN:_"
    refine bLenO (ds := x.s.map fun k : Nat => D.int k) (by walk_at "mem") (by simp; omega) ?_
    walk_at "! kI:_ subI:_ spC:__ seC::r bin:_ bin:_ sub:_ nmL::rrbbb_ nmL::rrbbb_"
    refine itLN cells i (fun _ _ => ⟨_, rfl⟩) rfl rfl (by lia) (by lia) ?_
    walk_at "! kI:_"
    refine modN (cells.getD i 0) 60 rfl rfl (by decide) ?_
    walk_at "! bin:_ ca_len:__ ::G spC:__ seC::r nmL::rrbbb_ spN:_"
    refine bLenO (ds := x.s.map fun k : Nat => D.int k) (by walk_at "mem") (by simp; omega) ?_
    walk_at "! kI:_ addI:_"
    refine modN _ (x.s.length + 1) rfl (by simp) (by exact Nat.succ_pos _) ?_
    walk_at "! spN:_"
    refine bMax hH ?_
    have hp : (if ((cells.getD i 0 % 60 % (x.s.length + 1) : Nat) : Int) > ((x.s.map fun k : Nat => D.int k).length : Int) - 3 then ((cells.getD i 0 % 60 % (x.s.length + 1) : Nat) : Int) else ((x.s.map fun k : Nat => D.int k).length : Int) - 3) = (popsOf (cells.getD i 0) x.s.length : Nat) := by
      unfold popsOf
      rw [List.length_map]
      split <;> lia
    rw [hp]
    have hple : popsOf (cells.getD i 0) x.s.length ≤ x.s.length := by
      unfold popsOf
      have := Nat.mod_lt (cells.getD i 0 % 60) (Nat.succ_pos x.s.length)
      simp only [Nat.succ_eq_add_one] at this
      lia
    walk_at "! spN:_ bRng1:_"
    refine ⟨_, itemsN _ rfl (by grind), ?_⟩
    generalize hpp : popsOf (cells.getD i 0) x.s.length = p at *
    refine ForP.forget (b' := [(Str.ofString "cells", .lst (cells.map fun c : Nat => D.int c)), (Str.ofString "many", .int many), (Str.ofString "hidden", .lst (hiddenL.map D.str)), (Str.ofString "typed", .str x.t), (Str.ofString "left", .str x.l), (Str.ofString "meant", .raw (.ref a)), (Str.ofString "outer", .raw (.ref b)), (Str.ofString "standing", .raw (.ref c)), (Str.ofString "k", .int i)]) (by walk_at "keep") ?_
    refine ForP.ind (InvFD2 L a b c cells many i p j x) ?_ ?_
      ⟨List.range p, x.t, x.l, x.s, rfl, rfl, by rw [List.length_range], by simpa using hple, h1, by simp; simp only [*], by simp; simp only [*]⟩
    · rintro n ⟨is, t₁, l₁, s₁, hl, rfl, hq, g1, g2, g3, g4⟩
      cases is with
      | cons _ _ => cases hl
      | nil =>
      walk_at "! exN:_ qN:_ exC:_ sAsgT:___ ::r ::r cg_128:__ ::G spC:__ seC::r bin:_ bin:_ sub:_ nmL::rrbbb_ nmL::rrbbb_"
      replace hq : (t₁, l₁, s₁) = popN p x.t x.l x.s := hq
      rw [List.length_nil, Nat.add_zero] at g3 g4
      have hcl : i < cells.length := by lia
      generalize hci : cells.getD i 0 = c₀ at *
      refine itLN cells i (fun _ _ => ⟨_, rfl⟩) rfl rfl (by lia) hcl ?_
      rw [hci]
      walk_at "! kI:_"
      refine divN c₀ 60 rfl rfl (by decide) (by decide) ?_
      walk_at "! kI:_"
      refine modN _ 5 rfl rfl (by decide) ?_
      walk_at "! spC:__ seC::r bin:_ bin:_ sub:_ nmL::rrbbb_ nmL::rrbbb_"
      refine itLN cells i (fun _ _ => ⟨_, rfl⟩) rfl rfl (by omega) hcl ?_
      rw [hci]
      walk_at "! kI:_"
      refine divN c₀ 300 rfl rfl (by decide) (by decide) ?_
      walk_at "! kI:_"
      refine modN _ 14 rfl rfl (by decide) ?_
      walk_at "! spN:_"
      have b1 : c₀ / 60 % 5 < 5 := Nat.mod_lt _ (by decide)
      have b2 : c₀ / 300 % 14 < 14 := Nat.mod_lt _ (by decide)
      have b3 : c₀ / 4200 % 7 < 7 := Nat.mod_lt _ (by decide)
      have b4 : c₀ / 29400 % 28 < 28 := Nat.mod_lt _ (by decide)
      refine mF hA trivial (c128 b1 b2) fun d hd => ?_
      subst hd
      walk_at "! asT2:___ ::a ::r asN:_ stL::rrb_ asN:_ stL::rrb_ qN:_ exC:_ sAsgN:__ ::r sub:_ lstC:_ spC:__ seC::r kS:_ spC:__ seC::r kS:_ spC:__ seC::r kS:_ spC:__ seC::r kS:_ spC:__ seC::r kS:_ spC:__ seC::r kS:_ spC:__ seC::r kS:_ spN:_"
      refine ⟨szl (by simp), ?_⟩
      walk_at "! bin:_ bin:_ sub:_ nmL::rrbbb_ nmL::rrbbb_"
      refine itLN cells i (fun _ _ => ⟨_, rfl⟩) rfl rfl (by omega) hcl ?_
      rw [hci]
      walk_at "! kI:_"
      refine divN c₀ 4200 rfl rfl (by decide) (by decide) ?_
      walk_at "! kI:_"
      refine modN _ 7 rfl rfl (by decide) ?_
      refine itLS pieceL (c₀ / 4200 % 7) (fun _ _ => ⟨_, rfl⟩) (by rfl) rfl (by exact Nat.lt_of_lt_of_le (by assumption) (by decide)) b3 ?_
      have hpl := (pieces_len _ b3).1
      have hpr := (pieces_len _ b3).2
      have hhl := hidden_len _ b4
      have hsl := sign_len (c₀ / 60 % 5) (c₀ / 300 % 14)
      have hnl := name_len _ b1 _ b2
      have hs1 := Txt.slice_le (pieceL.getD (c₀ / 4200 % 7) Str.empty) none (some 1)
      have hs2 := Txt.slice_le (pieceL.getD (c₀ / 4200 % 7) Str.empty) (some 1) none
      walk_at "! stL::rrb_ qN:_ exC:_ sAsgN:__ ::r bin:_ bin:_ bin:_ bin:_ bin:_ nmL::rrbbb_ kS:_"
      refine addS' (40 * j + p) 1 g3 (by decide) (by grind) fun z1 => ?_
      walk_at "! sub:_ nmL::rrbbb_ slc:_ ptN:_ ptS:_ kI:_ ptN:_"
      refine slS (fun _ _ => ⟨_, rfl⟩) rfl rfl (szl (by exact Nat.le_trans (by assumption) (by decide))) ?_
      refine addS' (40 * j + p + 1) 5 z1 (by omega) (by grind) fun z2 => ?_
      walk_at "! sub:_ nmL::rrbbb_ bin:_ bin:_ sub:_ nmL::rrbbb_ nmL::rrbbb_"
      refine itLN cells i (fun _ _ => ⟨_, rfl⟩) rfl rfl (by omega) hcl ?_
      rw [hci]
      walk_at "! kI:_"
      refine divN c₀ 29400 rfl rfl (by decide) (by decide) ?_
      walk_at "! kI:_"
      refine modN _ 28 rfl rfl (by decide) ?_
      refine itLS hiddenL (c₀ / 29400 % 28) (fun _ _ => ⟨_, rfl⟩) (by rfl) rfl (by omega) b4 ?_
      refine addS' (40 * j + p + 1 + 5) 1 z2 (by omega) (by omega) fun z3 => ?_
      walk_at "! sub:_ nmL::rrbbb_ slc:_ ptS:_ kI:_ ptN:_ ptN:_"
      refine slS (fun _ _ => ⟨_, rfl⟩) rfl rfl (szl (by omega)) ?_
      refine addS' (40 * j + p + 1 + 5 + 1) 5 z3 (by omega) (by omega) fun z4 => ?_
      walk_at "! nmL::rrbbb_"
      refine addS' (40 * j + p + 1 + 5 + 1 + 5) 1 z4 (by omega) (by omega) fun z5 => ?_
      walk_at "! stL::rrb_ qN:_ exC:_ sAsgN:__ ::r bin:_ bin:_ bin:_ nmL::rrbbb_ kS:_"
      refine addS' (40 * j + p) 1 g4 (by decide) (by omega) fun y1 => ?_
      walk_at "! sub:_ lstC:_ spC:__ seC::r kS:_ spC:__ seC::r kS:_ spC:__ seC::r kS:_ spC:__ seC::r kS:_ spC:__ seC::r kS:_ spC:__ seC::r kS:_ spC:__ seC::r kS:_ spN:_"
      refine ⟨szl (by simp), ?_⟩
      walk_at "! bin:_ bin:_ sub:_ nmL::rrbbb_ nmL::rrbbb_"
      refine itLN cells i (fun _ _ => ⟨_, rfl⟩) rfl rfl (by omega) hcl ?_
      rw [hci]
      walk_at "! kI:_"
      refine divN c₀ 4200 rfl rfl (by decide) (by decide) ?_
      walk_at "! kI:_"
      refine modN _ 7 rfl rfl (by decide) ?_
      refine itLS pleftL (c₀ / 4200 % 7) (fun _ _ => ⟨_, rfl⟩) (by rfl) rfl (by omega) b3 ?_
      refine addS' (40 * j + p + 1) 2 y1 (by omega) (by omega) fun y2 => ?_
      walk_at "! nmL::rrbbb_"
      refine addS' (40 * j + p + 1 + 2) 2 y2 (by omega) (by omega) fun y3 => ?_
      walk_at "! stL::rrb_ qN:_ exC:_ sExp:___ ::r ::r me_append:______ ::r ::r ::r ::r ::r nmL::rrbbb_ tyOA::m_ spC:__ seC::r nmL::rrbbb_ spN:_"
      refine mAppend (l := [_, _, _]) (by rfl) (szl (by simp; omega)) ?_
      refine ⟨.inl rfl, ?_⟩
      walk_at "! qN:_ exC:_ sExp:___ ::r ::r me_append:______ ::r ::r ::r ::r ::r nmL::rrbbb_ tyOA::m_ spC:__ seC::r ife:_ trPn:__ ::r nmL::rrbbb_"
      refine tyO (ds := s₁.map fun k : Nat => D.int k) (by exact .tail _ (.head _)) (by simp; omega) ?_
      have hN : nestStep c₀ i x = ⟨(t₁ ++ Str.ofString "(" ++ Txt.slice (pieceL.getD (c₀ / 4200 % 7) Str.empty) none (some 1) ++ hiddenL.getD (c₀ / 29400 % 28) Str.empty ++ Txt.slice (pieceL.getD (c₀ / 4200 % 7) Str.empty) (some 1) none ++ signOf (c₀ / 60 % 5) (c₀ / 300 % 14)), (l₁ ++ Str.ofString "(" ++ pleftL.getD (c₀ / 4200 % 7) Str.empty ++ nameOf (c₀ / 60 % 5) (c₀ / 300 % 14)), x.m ++ [nameOf (c₀ / 60 % 5) (c₀ / 300 % 14)], x.o ++ [match s₁.getLast? with | some j => (j : Int) | none => -1], s₁ ++ [i]⟩ := by
        unfold nestStep; rw [hpp, ← hq]
      rw [nestFrom, hci, hN] at he
      rw [show x.m.map D.str ++ [D.str (nameOf (c₀ / 60 % 5) (c₀ / 300 % 14))] = (x.m ++ [nameOf (c₀ / 60 % 5) (c₀ / 300 % 14)]).map D.str from by simp]
      rcases List.eq_nil_or_concat s₁ with rfl | ⟨s₂, q, rfl⟩
      · refine iF (by simp) ?_
        walk_at "! una:_ kI:_ negI:_ spN:_"
        refine mAppend (l := [_, _]) (acc := x.o.map D.int) (by rfl) (szl (by rw [List.length_map]; omega)) ?_
        refine ⟨.inl rfl, ?_⟩
        walk_at "! qN:_ exC:_ sExp:___ ::r ::r me_append:______ ::r ::r ::r ::r ::r nmL::rrbbb_ tyOA::m_ spC:__ seC::r nmL::rrbbb_ spN:_"
        refine mAppend (l := [_]) (by rfl) (szl (by simp)) ?_
        refine ⟨.inl rfl, ?_⟩
        walk_at "! qN:_ exN:_ zN:_"
        rw [show x.o.map D.int ++ [D.int (-1)] = (x.o ++ [-1]).map D.int from by simp]
        exact ForP.forget (b' := [(Str.ofString "cells", .lst (cells.map fun c : Nat => D.int c)), (Str.ofString "many", .int many), (Str.ofString "hidden", .lst (hiddenL.map D.str)), (Str.ofString "typed", .str (t₁ ++ Str.ofString "(" ++ Txt.slice (pieceL.getD (c₀ / 4200 % 7) Str.empty) none (some 1) ++ hiddenL.getD (c₀ / 29400 % 28) Str.empty ++ Txt.slice (pieceL.getD (c₀ / 4200 % 7) Str.empty) (some 1) none ++ signOf (c₀ / 60 % 5) (c₀ / 300 % 14))), (Str.ofString "left", .str (l₁ ++ Str.ofString "(" ++ pleftL.getD (c₀ / 4200 % 7) Str.empty ++ nameOf (c₀ / 60 % 5) (c₀ / 300 % 14))), (Str.ofString "meant", .raw (.ref a)), (Str.ofString "outer", .raw (.ref b)), (Str.ofString "standing", .raw (.ref c))]) (by walk_at "keep") (ih _ ⟨ks, _, j + 1, rfl, rfl, he, by omega, fun k h => hk k (.tail _ h), by simp, by simp; omega, by simp; omega, Nat.le_trans z5 (by omega), Nat.le_trans y3 (by omega)⟩)
      · rw [List.concat_eq_append] at *
        refine iT (by simp) ?_
        rw [List.length_append, List.length_singleton] at g2
        walk_at "! sub:_ nmL::rrbbb_ una:_ kI:_ negI:_"
        refine itON (ds := (s₂ ++ [q]).map fun k : Nat => D.int k) (fun _ _ => ⟨_, rfl⟩) (by exact .tail _ (.head _)) (by decide) (by simp; omega) (by decide) (d := .int q) (by
          rw [List.length_map, List.length_append, List.length_singleton, show (-1 + ((s₂.length + 1 : Nat) : Int)).toNat = s₂.length from by omega]; simp) ?_
        walk_at "! spN:_"
        refine mAppend (l := [_, _]) (acc := x.o.map D.int) (by rfl) (szl (by rw [List.length_map]; omega)) ?_
        refine ⟨.inl rfl, ?_⟩
        walk_at "! qN:_ exC:_ sExp:___ ::r ::r me_append:______ ::r ::r ::r ::r ::r nmL::rrbbb_ tyOA::m_ spC:__ seC::r nmL::rrbbb_ spN:_"
        refine mAppend (l := [_]) (by rfl) (szl (by simp; omega)) ?_
        refine ⟨.inl rfl, ?_⟩
        walk_at "! qN:_ exN:_ zN:_"
        rw [show x.o.map D.int ++ [D.int (q : Int)] = (x.o ++ [(q : Int)]).map D.int from by simp]
        rw [show (s₂ ++ [q]).map (fun k : Nat => D.int k) ++ [D.int (i : Int)] = (s₂ ++ [q] ++ [i]).map (fun k : Nat => D.int k) from by simp]
        rw [show (match (s₂ ++ [q]).getLast? with | some j => (j : Int) | none => -1) = (q : Int) from by simp] at he
        exact ForP.forget (b' := [(Str.ofString "cells", .lst (cells.map fun c : Nat => D.int c)), (Str.ofString "many", .int many), (Str.ofString "hidden", .lst (hiddenL.map D.str)), (Str.ofString "typed", .str (t₁ ++ Str.ofString "(" ++ Txt.slice (pieceL.getD (c₀ / 4200 % 7) Str.empty) none (some 1) ++ hiddenL.getD (c₀ / 29400 % 28) Str.empty ++ Txt.slice (pieceL.getD (c₀ / 4200 % 7) Str.empty) (some 1) none ++ signOf (c₀ / 60 % 5) (c₀ / 300 % 14))), (Str.ofString "left", .str (l₁ ++ Str.ofString "(" ++ pleftL.getD (c₀ / 4200 % 7) Str.empty ++ nameOf (c₀ / 60 % 5) (c₀ / 300 % 14))), (Str.ofString "meant", .raw (.ref a)), (Str.ofString "outer", .raw (.ref b)), (Str.ofString "standing", .raw (.ref c))]) (by walk_at "keep") (ih _ ⟨ks, _, j + 1, rfl, rfl, he, by omega, fun k h => hk k (.tail _ h), by simp; omega, by simp; omega, by simp; omega, Nat.le_trans z5 (by omega), Nat.le_trans y3 (by omega)⟩)
    · rintro d r n ⟨is, t₁, l₁, s₁, hl, rfl, hq, g1, g2, g3, g4⟩ ih₂
      cases is with
      | nil => cases hl
      | cons i₁ is =>
      rw [List.map_cons] at hl
      injection hl with e1 e2
      subst e1 e2
      rw [List.length_cons] at g1 g3 g4 hq
      rcases List.eq_nil_or_concat s₁ with rfl | ⟨s₂, q, rfl⟩
      · simp at g1
      rw [List.concat_eq_append] at *
      rw [show (s₂ ++ [q]).map (fun k : Nat => D.int k) = s₂.map (fun k : Nat => D.int k) ++ [D.int q] from by simp]
      rw [List.length_append, List.length_singleton] at g1 g2
      rw [popN, List.dropLast_concat] at hq
      walk_at "! asN:_ stL::rrb_ exC:_ sExp:___ ::r ::r me_pop:___ ::r ::r nmL::rrbbb_ tyOA::m_"
      refine mPop (l := [_]) (acc := s₂.map fun k : Nat => D.int k) (y := .int q) (by rfl) (szl (by simp; omega)) ?_
      refine ⟨.inr ⟨_, rfl⟩, ?_⟩
      walk_at "! qN:_ exC:_ sAsgW::arr_ tup_:_ spC:__ seC::r bin:_ nmL::rrbbb_ kS:_"
      refine addS' (40 * j + p) 1 (by omega) (by decide) (by omega) fun z1 => ?_
      walk_at "! spC:__ seC::r bin:_ nmL::rrbbb_ kS:_"
      refine addS' (40 * j + p) 1 (by omega) (by decide) (by omega) fun y1 => ?_
      walk_at "! spN:_"
      refine ⟨szl (by simp), _, rfl, rfl, ?_⟩
      show ML _ _ _ _ (assignInOrder [bindName _ (Str.ofString "left"), bindName _ (Str.ofString "typed")]) [_, _] _ _
      walk_at "! aoC:_ bnM:_ stL::rrb_ aoC:_ bnM:_ stL::rrb_ aoN:_ qN:_ exN:_ zN:_"
      exact ForP.forget (b' := [(Str.ofString "cells", .lst (cells.map fun c : Nat => D.int c)), (Str.ofString "many", .int many), (Str.ofString "hidden", .lst (hiddenL.map D.str)), (Str.ofString "typed", .str (t₁ ++ Str.ofString ")")), (Str.ofString "left", .str (l₁ ++ Str.ofString ")")), (Str.ofString "meant", .raw (.ref a)), (Str.ofString "outer", .raw (.ref b)), (Str.ofString "standing", .raw (.ref c)), (Str.ofString "k", .int i)]) (by walk_at "keep") (ih₂ _ ⟨is, _, _, s₂, rfl, rfl, hq, by omega, by omega, by rw [Str.length_append]; show _ + 1 + _ ≤ _; omega, by rw [Str.length_append]; show _ + 1 + _ ≤ _; omega⟩)
end
section -- FE
noncomputable def sizeStep (outer : List Int) (k : Nat) (sz : List Nat) : List Nat :=
  if 0 ≤ outer.getD k (-1) then sz.set (outer.getD k (-1)).toNat (sz.getD (outer.getD k (-1)).toNat 0 + sz.getD k 0) else sz
noncomputable def sizesFrom (outer : List Int) : List Nat → List Nat → List Nat
  | [], sz => sz
  | k :: r, sz => sizesFrom outer r (sizeStep outer k sz)
noncomputable def downTo (m : Nat) : List Nat := (List.range m).map fun j => m - j
noncomputable def sizesOf (outer : List Int) : List Nat := sizesFrom outer (downTo (outer.length - 1)) (List.replicate outer.length 1)
noncomputable def digitOf (number k p : Nat) : Nat := number / 64 ^ p % 64 + (if p > 0 then 64 else 0) + 128 * ((k + p) % 2)
noncomputable def digitsOf (number k : Nat) : List Nat := [3, 2, 1, 0].map (digitOf number k)
noncomputable def tapeFrom (sz cells : List Nat) : List Nat → List Nat → List Nat
  | [], t => t
  | k :: r, t => tapeFrom sz cells r (t ++ digitsOf (sz.getD k 0 + 11 * cells.getD k 0) k)
noncomputable def tapeOf (outer : List Int) (cells : List Nat) : List Nat := tapeFrom (sizesOf outer) cells (List.range outer.length) [] ++ List.replicate (cells.getD 5 0 / 180 % 2) 64
theorem rngDown : ∀ p : Nat, p < 64 → Builtin.Range.small (p : Int) 0 (-1) = true ∧ Builtin.Range.rangeSize (p : Int) 0 (-1) = p := by decide +kernel
inductive InvFE (L b : Addr) (outer : List Int) (cells : List Nat) (l : List D) (n : Led) : Prop
  | mk (ks sz : List Nat) (h1 : l = natD ks) (h2 : (∀ k ∈ ks, k < outer.length)) (ck : Option D) (h4 : n = [(L, .fr [(Str.ofString "outer", .lst (outer.map D.int)), (Str.ofString "cells", .lst (natD cells)), (Str.ofString "tape", .lst []), (Str.ofString "sizes", .raw (.ref b))]), (b, .lst (natD sz)), (L + 2, .cell none), (L + 1, .cell ck)]) (h5 : sz.length = outer.length) (h6 : sizesFrom outer ks sz = sizesOf outer)
inductive InvFE2 (L b : Addr) (outer : List Int) (cells : List Nat) (l : List D) (n : Led) : Prop
  | mk (ks ts : List Nat) (h1 : l = natD ks) (h2 : (∀ k ∈ ks, k < outer.length)) (cn ck : Option D) (h4 : n = [(L, .fr [(Str.ofString "outer", .lst (outer.map D.int)), (Str.ofString "cells", .lst (natD cells)), (Str.ofString "tape", .lst (natD ts)), (Str.ofString "sizes", .raw (.ref b))]), (b, .lst (natD (sizesOf outer))), (L + 2, .cell cn), (L + 1, .cell ck)]) (h5 : ts.length + 4 * ks.length ≤ 20) (h6 : tapeFrom (sizesOf outer) cells ks ts = tapeFrom (sizesOf outer) cells (List.range outer.length) [])
theorem c138 {w : World} {k : Nat} {outer : List Int} {cells : List Nat} (hm0 : 0 < outer.length) (hm : outer.length ≤ 5) (hc : cells.length = 6) (ho : ∀ k < outer.length, outer.getD k (-1) < outer.length) : Cn w Nn (k + 2) 138 [.lst (outer.map D.int), .lst (natD cells)]
    (fun d => d = .lst (natD (tapeOf outer cells))) := by
  refine enterC (i := 17) (fa := 138) (c := 137) (o := o_138_s22 w.params) (names := [Str.ofString "outer", Str.ofString "cells"]) [(Str.ofString "outer", .lst (outer.map D.int)), (Str.ofString "cells", .lst (natD cells))] [(Str.ofString "number", 2, none), (Str.ofString "k", 1, none)]
    (by kernel_rfl) rfl (codeRec_of (by kernel_rfl)) (fun vals h => ?_) rfl (by decide +kernel) (fun L => ?_) (fun L => by rfl) (by decide +kernel) ?_ ?_ rfl rfl rfl fun A L hA hH => ?_
  · exact len2 h fun _ _ => rfl
  · walk_at "cells"
  · walk_at "cells"
  · walk_at "cells"
  conv => arg 4; arg 1; whnf
  unfold cellsAt
  simp only [List.map_cons, List.map_nil]
  walk_at "! exC:_ sAsgW::arr_ tup_:_ spC:__ seC::r bin:_ lstC:_ spC:__ seC::r kI:_ spN:_"
  refine ⟨szl (by simp), ?_⟩
  walk_at "! ca_len:__ ::G spC:__ seC::r nmL::rrbbb_ spN:_"
  refine bLenL (by simp; omega) ?_
  skip
  refine mulLO (by exact Int.natCast_nonneg _) (by simp; exact Nat.le_trans (by assumption) (by decide)) (by simp; omega) fun b => ?_
  walk_at "! spC:__ seC::r"
  refine lst_ ?_
  walk_at "! spN:_"
  refine ⟨szl (by simp), ?_⟩
  walk_at "! spN:_"
  refine ⟨szl (by simp), ?_⟩
  skip
  refine ⟨_, rfl, rfl, ?_⟩
  show ML _ _ _ _ (assignInOrder [bindName _ (Str.ofString "tape"), bindName _ (Str.ofString "sizes")]) [_, _] _ _
  walk_at "! aoC:_ bnM:_ stL::rrb_ aoC:_ bnM:_ stL::rrb_ aoN:_ qN:_ exC:_ sFor:__ ::f ca_range:__ ::G spC:__ seC::r bin:_ ca_len:__ ::G spC:__ seC::r nmL::rrbbb_ spN:_"
  refine bLenL (ds := outer.map D.int) (by simp; omega) ?_
  walk_at "! kI:_ subI:_ spC:__ seC::r kI:_ spC:__ seC::r una:_ kI:_ negI:_ spN:_"
  refine bRng3 (by decide) rfl ?_
  have e0 : (List.replicate ((outer.map D.int).length : Int).toNat [D.int 1]).flatten = natD (List.replicate outer.length 1) := by
    rw [List.length_map, Int.toNat_natCast]
    induction outer.length with
    | zero => rfl
    | succ m ih => rw [List.replicate_succ, List.flatten_cons, ih]; rfl
  rw [e0]
  have hr := rngDown (outer.length - 1) (by omega)
  refine ⟨_, .rng (k := outer.length - 1) (by rw [List.length_map, show ((outer.length : Nat) : Int) - 1 = ((outer.length - 1 : Nat) : Int) from by omega]; exact hr.1) (by rw [List.length_map, show ((outer.length : Nat) : Int) - 1 = ((outer.length - 1 : Nat) : Int) from by omega]; exact hr.2), ?_⟩
  rw [show ((List.range (outer.length - 1)).map fun j : Nat => D.int (((outer.map D.int).length : Int) - 1 + j * -1)) = natD (downTo (outer.length - 1)) from by
    unfold downTo natD
    rw [List.map_map]
    apply List.map_congr_left
    intro j hj
    have := List.mem_range.mp hj
    show D.int _ = D.int _
    congr 1
    rw [List.length_map]
    show ((outer.length : Nat) : Int) - 1 + (j : Int) * -1 = ((outer.length - 1 - j : Nat) : Int)
    omega]
  refine ForP.ind (InvFE L b outer cells) ?_ ?_ ⟨_, _, rfl, fun k hk => by
      obtain ⟨j, hj, rfl⟩ := List.mem_map.mp hk
      have := List.mem_range.mp hj
      show outer.length - 1 - j < _
      omega, none, rfl, by simp, rfl⟩
  · rintro n ⟨ks, sz, hl, hk, ck, rfl, hs, he⟩
    cases ks with
    | cons _ _ => cases hl
    | nil =>
    replace he : sz = sizesOf outer := he
    subst he
    clear hl hk
    walk_at "! exN:_ qN:_ exC:_ sFor:__ ::f ca_range:__ ::G spC:__ seC::r ca_len:__ ::G spC:__ seC::r nmL::rrbbb_ spN:_"
    refine bLenL (ds := outer.map D.int) (by simp; omega) ?_
    walk_at "! spN:_ bRng1:_"
    refine ⟨_, itemsN outer.length (by simp) (by exact Nat.lt_of_le_of_lt (by assumption) (by decide)), ?_⟩
    refine ForP.ind (InvFE2 L b outer cells) ?_ ?_ ⟨List.range outer.length, [], rfl, fun k hk => List.mem_range.mp hk, none, ck, rfl, by simp; grind, rfl⟩
    · rintro n ⟨ks, ts, hl, hk, cn, ck, rfl, hn, he⟩
      cases ks with
      | cons _ _ => cases hl
      | nil =>
      replace he : ts = tapeFrom (sizesOf outer) cells (List.range outer.length) [] := he
      walk_at "! exN:_ qN:_ exC:_ sRet:_ bin:_ nmL::rrbbb_ bin:_ lstC:_ spC:__ seC::r kI:_ spN:_"
      refine ⟨szl (by simp), ?_⟩
      walk_at "! bin:_ bin:_ sub:_ nmL::rrbbb_ kI:_"
      refine itLN cells 5 (fun _ _ => ⟨_, rfl⟩) rfl rfl (by exact Nat.le_add_left _ _) (by grind) ?_
      walk_at "! kI:_"
      refine divN _ 180 rfl rfl (by decide) (by decide) ?_
      walk_at "! kI:_"
      refine modN _ 2 rfl rfl (by decide) ?_
      have h2 : cells.getD 5 0 / 180 % 2 < 2 := Nat.mod_lt _ (by decide)
      refine mulL (by exact Int.natCast_nonneg _) (by simp; lia) (by omega) ?_
      refine addL (szl (by simp at hn ⊢; lia)) ?_
      have e1 : (List.replicate ((cells.getD 5 0 / 180 % 2 : Nat) : Int).toNat [D.int 64]).flatten = natD (List.replicate (cells.getD 5 0 / 180 % 2) 64) := by
        rw [Int.toNat_natCast]
        generalize cells.getD 5 0 / 180 % 2 = q
        induction q with
        | zero => rfl
        | succ m ih => rw [List.replicate_succ, List.flatten_cons, ih]; rfl
      rw [e1]
      show D.lst _ = D.lst _
      congr 1
      unfold tapeOf
      rw [← he]
      simp [natD]
    · rintro d r n ⟨ks, ts, hl, hk, cn, ck, rfl, hn, he⟩ ih₂
      cases ks with
      | nil => cases hl
      | cons i ks =>
      unfold natD at hl
      rw [List.map_cons] at hl
      injection hl with e1 e2
      subst e1 e2
      have hi := hk i (.head _)
      have hsl : (sizesOf outer).length = outer.length := hs
      walk_at "! asN:_ stCU::rbru_ exC:_ sAsgN:__ ::r bin:_ sub:_ nmL::rrbbb_ nmC::rbbrm_"
      refine itO (a := b) (ds := natD (sizesOf outer)) (fun _ _ => ⟨_, rfl⟩) (by walk_at "mem") (by exact Int.natCast_nonneg _) (by omega) (nthN rfl (by simp only [*])) ?_
      walk_at "! bin:_ kI:_ sub:_ nmL::rrbbb_ nmC::rbbrm_"
      refine itLN cells i (fun _ _ => ⟨_, rfl⟩) rfl rfl (by lia) (by lia) ?_
      refine mulI (.of_left (by decide)) ?_
      walk_at "! addI:_ stCU::rbru_ qN:_ exC:_ sAsgN:__ ::r bin:_ nmL::rrbbb_"
      have en : ((sizesOf outer).getD i 0 : Int) + 11 * (cells.getD i 0 : Int) = (((sizesOf outer).getD i 0 + 11 * cells.getD i 0 : Nat) : Int) := by push_cast; rfl
      rw [tapeFrom] at he
      rw [List.length_cons] at hn
      generalize hnum : (sizesOf outer).getD i 0 + 11 * cells.getD i 0 = num at *
      rw [en]
      refine lcFM [3, 2, 1, 0] (fun p : Nat => D.int p) (fun p => [(Str.ofString "place", D.int p)]) (fun _ => true) (fun p => D.int (digitOf num i p : Nat)) rfl rfl (by decide +kernel) (by decide +kernel) (fun _ => rfl) ?_
      walk_at "! tup_:_ spC:__ seC::r kI:_ spC:__ seC::r kI:_ spC:__ seC::r kI:_ spC:__ seC::r kI:_ spN:_"
      refine ⟨szl (by simp), ?_⟩
      refine ⟨.tup _, by decide, ?_, ?_, ?_, ?_⟩
      · intro C a ha
        walk_at "! asN:_ stL::rrb_"
        rfl
      · intro C a ha
        walk_at "! te0:_"
        exact ⟨rfl, rfl⟩
      · intro C a ha _
        have ha3 : a ≤ 3 := by simp at ha; lia
        walk_at "! bin:_ bin:_ bin:_ bin:_ nmC::rbbrm_ bin:_ kI:_ nmL::rrbbb_"
        refine powI (by exact Int.natCast_nonneg _) (by rw [show Builtin.Int.intBits 64 = 7 from rfl]; lia) ?_
        have h64 : 64 ^ a < 2 ^ 200 := Nat.lt_of_le_of_lt (Nat.pow_le_pow_right (by decide) ha3) (by decide)
        refine divN num (64 ^ a) rfl (by rw [Int.toNat_natCast]; simp) (Nat.pow_pos (by decide)) h64 ?_
        walk_at "! kI:_"
        refine modN _ 64 rfl rfl (by decide) ?_
        walk_at "! ife:_ trC:__ ::r nmL::rrbbb_ kI:_ gtI:_"
        refine ⟨_, rfl, ?_⟩
        by_cases hp : 0 < a
        · refine iT (by simpa using hp) ?_
          walk_at "! kI:_ addI:_ bin:_ kI:_ bin:_ bin:_ nmC::rbbrm_ nmL::rrbbb_ addI:_ kI:_"
          refine modN (i + a) 2 (by push_cast; rfl) rfl (by decide) ?_
          refine mulI (.of_left (by decide)) ?_
          walk_at "! addI:_"
          refine ⟨rfl, ?_⟩
          show D.int _ = D.int _
          congr 1
          unfold digitOf
          rw [if_pos (show a > 0 from hp)]
          push_cast
          rfl
        · refine iF (by simpa using hp) ?_
          walk_at "! kI:_ addI:_ bin:_ kI:_ bin:_ bin:_ nmC::rbbrm_ nmL::rrbbb_ addI:_ kI:_"
          refine modN (i + a) 2 (by push_cast; rfl) rfl (by decide) ?_
          refine mulI (.of_left (by decide)) ?_
          walk_at "! addI:_"
          refine ⟨rfl, ?_⟩
          show D.int _ = D.int _
          congr 1
          unfold digitOf
          rw [if_neg (show ¬ a > 0 from hp)]
          push_cast
          rfl
      · refine addL (szl (by simp; grind)) ?_
        walk_at "! stL::rrb_ qN:_ exN:_ zN:_"
        rw [show natD ts ++ ([3, 2, 1, 0].filter fun _ : Nat => true).map (fun p => D.int (digitOf num i p : Nat)) = natD (ts ++ digitsOf num i) from by simp [natD, digitsOf]]
        exact ForP.forget (b' := [(Str.ofString "outer", .lst (outer.map D.int)), (Str.ofString "cells", .lst (natD cells)), (Str.ofString "tape", .lst (natD (ts ++ digitsOf num i))), (Str.ofString "sizes", .raw (.ref b))]) (by walk_at "keep") (ih₂ _ ⟨ks, _, rfl, fun k h => hk k (.tail _ h), _, _, rfl, by simp [digitsOf]; lia, he⟩)
  · rintro d r n ⟨ks, sz, hl, hk, ck, rfl, hs, he⟩ ih
    cases ks with
    | nil => cases hl
    | cons i ks =>
    unfold natD at hl
    rw [List.map_cons] at hl
    injection hl with e1 e2
    subst e1 e2
    have hi := hk i (.head _)
    have ho' := ho i hi
    have eo : outer.getD i 0 = outer.getD i (-1) := by simp [List.getD_eq_getElem?_getD, List.getElem?_eq_getElem hi]
    rw [sizesFrom] at he
    unfold sizeStep at he
    walk_at "! asN:_ stCU::rbru_ exC:_ sIf:_ trC:__ ::r sub:_ nmL::rrbbb_ nmC::rbbrm_"
    refine itLI outer i (fun _ _ => ⟨_, rfl⟩) rfl rfl (by lia) hi ?_
    rw [eo]
    generalize outer.getD i (-1) = o at *
    walk_at "! kI:_ geI:_"
    refine ⟨_, rfl, ?_⟩
    by_cases h0 : 0 ≤ o
    · rw [if_pos h0] at he
      refine iT (by simpa using h0) ?_
      walk_at "! exC:_ sAsgS:__ ::r bin:_ sub:_ nmL::rrbbb_ sub:_ nmL::rrbbb_ nmC::rbbrm_"
      refine itLI outer i (fun _ _ => ⟨_, rfl⟩) rfl rfl (by lia) hi ?_
      rw [eo]
      refine itO (a := b) (ds := natD sz) (fun _ _ => ⟨_, rfl⟩) (by walk_at "mem") h0 (by lia) (nthN (j := o.toNat) (by rw [Int.toNat_of_nonneg h0]) (by lia)) ?_
      walk_at "! sub:_ nmL::rrbbb_ nmC::rbbrm_"
      refine itO (a := b) (ds := natD sz) (fun _ _ => ⟨_, rfl⟩) (by walk_at "mem") (by exact Int.natCast_nonneg _) (by omega) (nthN rfl (by simp only [*])) ?_
      walk_at "! addI:_ nmL::rrbbb_ sub:_ nmL::rrbbb_ nmC::rbbrm_"
      refine itLI outer i (fun _ _ => ⟨_, rfl⟩) rfl rfl (by omega) hi ?_
      rw [eo]
      refine setO (l := [_]) (by rfl) h0 (by omega) (by simp; simp only [*]) ?_
      walk_at "! qN:_ exN:_ qN:_ exN:_ zN:_"
      rw [show (natD sz).set o.toNat (D.int ((sz.getD o.toNat 0 : Nat) + (sz.getD i 0 : Nat))) = natD (sz.set o.toNat (sz.getD o.toNat 0 + sz.getD i 0)) from by unfold natD; rw [List.map_set]; rfl]
      exact ForP.forget (b' := [(Str.ofString "outer", .lst (outer.map D.int)), (Str.ofString "cells", .lst (natD cells)), (Str.ofString "tape", .lst []), (Str.ofString "sizes", .raw (.ref b))]) (by walk_at "keep") (ih _ ⟨ks, _, rfl, fun k h => hk k (.tail _ h), _, rfl, by rw [List.length_set]; exact hs, he⟩)
    · rw [if_neg h0] at he
      refine iF (by simpa using h0) ?_
      walk_at "! exN:_ qN:_ exN:_ zN:_"
      exact ForP.forget (b' := [(Str.ofString "outer", .lst (outer.map D.int)), (Str.ofString "cells", .lst (natD cells)), (Str.ofString "tape", .lst []), (Str.ofString "sizes", .raw (.ref b))]) (by walk_at "keep") (ih _ ⟨ks, _, rfl, fun k h => hk k (.tail _ h), _, rfl, hs, he⟩)
end
section -- FF
noncomputable def isOpen (u : Nat × Str) : Bool := u.2 == Str.ofString "("
noncomputable def isClose (u : Nat × Str) : Bool := u.2 == Str.ofString ")"
noncomputable def unitsOfS (shown : Str) : List (Nat × Str) := escOf (shown ++ Str.ofString "\\")
noncomputable def startsOf (shown : Str) : List Nat := ((unitsOfS shown).filter isOpen).map (·.1)
noncomputable def endsOf (shown : Str) : List Nat := ((unitsOfS shown).filter isClose).map (·.1 + 1)
noncomputable def cutOf (shown : Str) (p e : Nat) : Str := Txt.slice shown (some (p : Int)) (some (e : Int))
noncomputable def laterOf (shown : Str) (p : Nat) : List Nat → List Nat
  | [] => []
  | e :: r => if checkP (cutOf shown p e) then e :: r else laterOf shown p r
noncomputable def twos (starts : List Nat) (p e : Nat) : List Nat := (List.range starts.length).filter fun k => p < starts.getD k 0 && starts.getD k 0 < e
noncomputable def sumTwos (l : List Nat) : Int := (l.map fun k : Nat => (2 : Int) ^ k).sum
noncomputable def innerAt (shown : Str) (p : Nat) : Int := match laterOf shown p ((endsOf shown).filter fun e => p < e) with
  | [] => -1
  | e :: _ => sumTwos (twos (startsOf shown) p e)
/-- the loop of _law_read, where it goes through -/
noncomputable def readLoop (shown : Str) : List (Nat × Str) → Str → List Str → List Int → Option (Str × List Str × List Int)
  | [], r, ns, is => some (r, ns, is)
  | (p, u) :: us, r, ns, is =>
    if (r ++ u).length = p + 1 then
      if u == Str.ofString "(" then readLoop shown us (r ++ u) (ns ++ [Str.ofString ""]) (is ++ [innerAt shown p])
      else if (u != Str.ofString ")") && (u.length == 1 && decide (p < shown.length)) then
        match ns.getLast? with
        | none => none
        | some x => readLoop shown us (r ++ u) (ns.dropLast ++ [x ++ u]) is
      else readLoop shown us (r ++ u) ns is
    else none
theorem esc_len2 : ∀ {l : List Nat} {i : Nat} {e : Bool} {u : Nat × Str}, u ∈ escFrom i e l → u.2.length ≤ 2
  | [], i, true, u, h => by rw [escFrom, List.mem_singleton] at h; subst h; exact (by decide : 1 ≤ 2)
  | [], i, false, u, h => by rw [escFrom] at h; cases h
  | c :: r, i, true, u, h => by
    rw [escFrom] at h
    rcases List.mem_cons.mp h with rfl | h
    · exact (by decide : 2 ≤ 2)
    · exact esc_len2 h
  | c :: r, i, false, u, h => by
    rw [escFrom] at h
    split at h
    · exact esc_len2 h
    · rcases List.mem_cons.mp h with rfl | h
      · exact (by decide : 1 ≤ 2)
      · exact esc_len2 h
inductive InvFF (L a b : Addr) (shown : Str) (ns : List Str) (is : List Int) (l : List D) (n : Led) : Prop
  | mk (us : List (Nat × Str)) (r : Str) (ms : List Str) (js : List Int) (h4 : l = us.map escD) (h5 : (∀ u ∈ us, u.2.length ≤ 2)) (cl cp : Option D) (h7 : n = [(L, .fr [(Str.ofString "shown", .str shown), (Str.ofString "units", .lst (escItems (shown ++ Str.ofString "\\"))), (Str.ofString "ends", .lst (natD (endsOf shown))), (Str.ofString "read", .str r), (Str.ofString "names", .raw (.ref a)), (Str.ofString "inner", .raw (.ref b))]), (b, .lst (js.map D.int)), (a, .lst (ms.map D.str)), (L + 3, .cell cl), (L + 2, .cell (some (.lst (natD (startsOf shown))))), (L + 1, .cell cp)]) (h8 : readLoop shown us r ms js = some (shown ++ Str.ofString "\\", ns, is)) (h9 : r.length + 2 * us.length ≤ 800) (h10 : ms.length + us.length ≤ 400) (h11 : js.length + us.length ≤ 400) (h12 : ∀ x ∈ ms, x.length + us.length ≤ 400)
theorem c143 {w : World} {k : Nat} {shown : Str} {ns : List Str} {is : List Int} (hsh : shown.length ≤ 400) (hu : (unitsOfS shown).length ≤ 400) (hst : (startsOf shown).length < 64) (hS : ∀ p e, StripOk (cutOf shown p e)) (hr : readLoop shown (unitsOfS shown) (Str.ofString "") [] [] = some (shown ++ Str.ofString "\\", ns, is)) :
    Cn w Nn (k + 14) 143 [.str shown] (fun d => d = .tup [.lst (ns.map D.str), .lst (is.map D.int)]) := by
  refine enterC (i := 18) (fa := 143) (c := 142) (o := o_143_s22 w.params) (names := [Str.ofString "shown"]) [(Str.ofString "shown", .str shown)] [(Str.ofString "later", 3, none), (Str.ofString "starts", 2, none), (Str.ofString "place", 1, none)]
    (by kernel_rfl) rfl (codeRec_of (by kernel_rfl)) (fun vals h => ?_) rfl (by decide +kernel) (fun L => ?_) (fun L => by rfl) (by decide +kernel) ?_ ?_ rfl rfl rfl fun A L hA hH => ?_
  · exact len1 h fun _ => rfl
  · walk_at "cells"
  · walk_at "cells"
  · walk_at "cells"
  conv => arg 4; arg 1; whnf
  unfold cellsAt
  simp only [List.map_cons, List.map_nil]
  have hlu : (shown ++ Str.ofString "\\").length ≤ 401 := by rw [Str.length_append]; show _ + 1 ≤ _; exact Nat.lt_of_le_of_lt (by assumption) (by decide)
  have hei : (escItems (shown ++ Str.ofString "\\")).length ≤ 400 := by unfold escItems; rw [List.length_map]; exact hu
  walk_at "! exC:_ sAsgT:___ ::r ::r tup_:_ spC:__ seC::r lstK:a_a_________ ::w ::r seC::r ::r ::r ::r ::r ::r ::r bin:_ nmL::rrbbb_ kS:_"
  refine addS' 400 1 hsh (by decide) (by decide) fun _ => ?_
  refine ⟨_, rfl, szl (by exact Nat.le_trans (by assumption) (by decide)), ?_⟩
  walk_at "! spC:__ seC::r"
  refine lstO ?_
  walk_at "! spN:_"
  refine ⟨szl (by simp), _, _, rfl, fun a => ?_⟩
  walk_at "! spC:__ seC::r"
  refine lstO ?_
  walk_at "! spN:_"
  refine ⟨szl (by simp), _, _, rfl, fun b => ?_⟩
  walk_at "! spC:__ seC::r kS:_ spN:_"
  refine ⟨szl (by simp), ?_⟩
  walk_at "! asT4:___ ::a ::r asN:_ stL::rrb_ asN:_ stL::rrb_ asN:_ stL::rrb_ asN:_ stL::rrb_ qN:_ exC:_ sAsgN:__ ::r"
  refine lcFM (unitsOfS shown) escD (fun u => [(Str.ofString "place", D.int (u.1 : Nat)), (Str.ofString "unit", D.str u.2)]) isOpen (fun u => D.int (u.1 : Nat)) rfl rfl (by decide +kernel) (by decide +kernel) (fun _ => rfl) ?_
  walk_at "! nmL::rrbbb_"
  refine ⟨.lst _, by exact Nat.le_trans (by assumption) (by decide), ?_, ?_, ?_, ?_⟩
  · intro C u _
    show M1 _ _ _ _ _ (D.tup [.int (u.1 : Nat), .str u.2]) _ _
    refine asT2 hH rfl ?_
    walk_at "! asN:_ stL::rrb_ asN:_ stL::rrb_"
    rfl
  · intro C u _
    walk_at "! te1:_ trC:__ ::r nmL::rrbbb_ kS:_ eqS:_"
    exact ⟨_, rfl, rfl, rfl⟩
  · intro C u _ _
    walk_at "! nmL::rrbbb_"
    exact ⟨rfl, rfl⟩
  rw [show (((unitsOfS shown).filter isOpen).map fun u => D.int (u.1 : Nat)) = natD (startsOf shown) from by unfold startsOf natD; rw [List.map_map]; rfl]
  walk_at "! stCU::rbru_ qN:_ exC:_"
  refine sAsgFM (unitsOfS shown) escD (fun u => [(Str.ofString "place", D.int (u.1 : Nat)), (Str.ofString "unit", D.str u.2)]) isClose (fun u => D.int (u.1 + 1 : Nat)) rfl rfl rfl (by decide +kernel) (by decide +kernel) (fun _ => rfl) ?_
  walk_at "! nmL::rrbbb_"
  refine ⟨.lst _, by omega, ?_, ?_, ?_, ?_⟩
  · intro C u _
    show M1 _ _ _ _ _ (D.tup [.int (u.1 : Nat), .str u.2]) _ _
    refine asT2 hH rfl ?_
    walk_at "! asN:_ stL::rrb_ asN:_ stL::rrb_"
    rfl
  · intro C u _
    walk_at "! te1:_ trC:__ ::r nmL::rrbbb_ kS:_ eqS:_"
    exact ⟨_, rfl, rfl, rfl⟩
  · intro C u _ _
    walk_at "! bin:_ nmL::rrbbb_ kI:_ addI:_"
    exact ⟨rfl, rfl⟩
  rw [show (((unitsOfS shown).filter isClose).map fun u => D.int (u.1 + 1 : Nat)) = natD (endsOf shown) from by unfold endsOf natD; rw [List.map_map]; rfl]
  walk_at "! stL::rrb_ qN:_ exC:_ sFor:__ ::f nmL::rrbbb_"
  refine ⟨_, .lst _, ?_⟩
  refine ForP.forget (b' := [(Str.ofString "shown", .str shown), (Str.ofString "units", .lst (escItems (shown ++ Str.ofString "\\"))), (Str.ofString "ends", .lst (natD (endsOf shown))), (Str.ofString "read", .str (Str.ofString "")), (Str.ofString "names", .raw (.ref a)), (Str.ofString "inner", .raw (.ref b))]) (by walk_at "keep") ?_
  refine ForP.ind (InvFF L a b shown ns is) ?_ ?_
    ⟨unitsOfS shown, Str.ofString "", [], [], rfl, fun u hu => esc_len2 hu, none, none, rfl, hr, by show 0 + _ ≤ _; grind, by show 0 + _ ≤ _; lia, by show 0 + _ ≤ _; omega, fun _ h => nomatch h⟩
  · rintro n ⟨us, r, ms, js, hl, hu2, cl, cp, rfl, he, g1, g2, g3, g4⟩
    cases us with
    | cons _ _ => cases hl
    | nil =>
    rw [readLoop] at he
    obtain ⟨rfl, rfl, rfl⟩ : r = shown ++ Str.ofString "\\" ∧ ms = ns ∧ js = is := by simpa using he
    refine frz (Str.ofString "names") (l := [_]) (by rfl) (by rfl) ?_
    refine frz (Str.ofString "inner") (l := []) (by rfl) (by rfl) ?_
    walk_at "! exN:_ qN:_ exC:_ sRet:_ ife:_ trC:__ ::r nmL::rrbbb_ bin:_ nmL::rrbbb_ kS:_"
    refine addS' 400 1 hsh (by decide) (by decide) fun _ => ?_
    walk_at "! eqS:_"
    refine ⟨_, rfl, ?_⟩
    refine iT (by simp) ?_
    walk_at "! tup_:_ spC:__ seC::r nmL::rrbbb_ spC:__ seC::r nmL::rrbbb_ spN:_"
    exact ⟨szl (by simp), rfl⟩
  · rintro d rr n ⟨us, r, ms, js, hl, hu2, cl, cp, rfl, he, g1, g2, g3, g4⟩ ih
    cases us with
    | nil => cases hl
    | cons u us =>
    rw [List.map_cons] at hl
    injection hl with h1 h2
    subst h1 h2
    obtain ⟨p, u⟩ := u
    have hul : u.length ≤ 2 := hu2 (p, u) (.head _)
    rw [List.length_cons] at g1 g2 g3 g4
    rw [readLoop] at he
    have hlen : (r ++ u).length = p + 1 := by
      by_cases q : (r ++ u).length = p + 1
      · exact q
      · rw [if_neg q] at he; cases he
    rw [if_pos hlen] at he
    show M1 _ _ _ _ _ (D.tup [.int (p : Nat), .str u]) _ _
    refine asT2 hH rfl ?_
    walk_at "! asN:_ stCU::rbru_ asN:_ stL::rrb_ exC:_ sAsgN:__ ::r bin:_ nmL::rrbbb_ nmL::rrbbb_"
    refine addS' 798 2 (by grind) hul (by decide) fun hru => ?_
    walk_at "! stL::rrb_ qN:_ exC:_ sIf:_ trC:__ ::r ca_len:__ ::G spC:__ seC::r nmL::rrbbb_ spN:_"
    replace hru : (r ++ u).length ≤ 800 := hru
    refine bLenS (by show ¬ (((r ++ u).length : Nat) : Int) ≥ 2 ^ 63; grind) ?_
    walk_at "! bin:_ nmC::rbbrm_ kI:_ addI:_ neI:_"
    refine ⟨_, rfl, ?_⟩
    refine iF (by
      show ¬ ((((r ++ u).length : Nat) : Int) != (p : Int) + 1) = true
      rw [hlen]; simp) ?_
    walk_at "! exN:_ qN:_ exC:_ sIf:_ trC:__ ::r nmL::rrbbb_ kS:_ eqS:_"
    refine ⟨_, rfl, ?_⟩
    by_cases hop : (u == Str.ofString "(") = true
    · rw [if_pos hop] at he
      refine iT hop ?_
      walk_at "! exC:_ sAsgN:__ ::r"
      refine lcFM (endsOf shown) (fun e : Nat => D.int e) (fun e => [(Str.ofString "end", D.int (e : Nat))]) (fun e => decide (p < e)) (fun e => D.int (e : Nat)) rfl rfl (by decide +kernel) (by decide +kernel) (fun _ => rfl) ?_
      walk_at "! nmL::rrbbb_"
      refine ⟨.lst _, by unfold endsOf; rw [List.length_map]; exact Nat.le_trans (List.length_filter_le _ _) (by exact Nat.le_trans (by assumption) (by decide)), ?_, ?_, ?_, ?_⟩
      · intro C e _
        walk_at "! asN:_ stL::rrb_"
        rfl
      · intro C e _
        walk_at "! te1:_ trC:__ ::r nmL::rrbbb_ nmC::rbbrm_ gtI:_"
        exact ⟨_, rfl, rfl, by simp⟩
      · intro C e _ _
        walk_at "! nmL::rrbbb_"
        exact ⟨rfl, rfl⟩
      walk_at "! stCU::rbru_ qN:_ exC:_ sWhi:_"
      rw [show ((endsOf shown).filter fun e => decide (p < e)).map (fun e : Nat => D.int e) = natD ((endsOf shown).filter fun e => decide (p < e)) from rfl]
      have hel : ((endsOf shown).filter fun e => decide (p < e)).length ≤ 400 := Nat.le_trans (List.length_filter_le _ _) (by unfold endsOf; rw [List.length_map]; exact Nat.le_trans (List.length_filter_le _ _) hu)
      have hin : innerAt shown p = match laterOf shown p ((endsOf shown).filter fun e => decide (p < e)) with
        | [] => -1
        | e :: _ => sumTwos (twos (startsOf shown) p e) := rfl
      have hsl : (startsOf shown).length ≤ 400 := by unfold startsOf; rw [List.length_map]; exact Nat.le_trans (List.length_filter_le _ _) hu
      refine HW.forget (b' := [(Str.ofString "shown", .str shown), (Str.ofString "units", .lst (escItems (shown ++ Str.ofString "\\"))), (Str.ofString "ends", .lst (natD (endsOf shown))), (Str.ofString "read", .str (r ++ u)), (Str.ofString "names", .raw (.ref a)), (Str.ofString "inner", .raw (.ref b)), (Str.ofString "unit", .str u)]) (by walk_at "keep") ?_
      generalize (endsOf shown).filter (fun e => decide (p < e)) = lt at *
      induction lt with
      | nil =>
        rw [laterOf] at hin
        refine wTurn ?_
        walk_at "! trA:_ trC:__ ::r nmC::rbbrm_"
        refine lst_ ?_
        walk_at "! spN:_"
        refine ⟨szl (by simp), ?_⟩
        refine neLN (b := []) hA ?_
        refine ⟨_, rfl, ?_⟩
        refine iF (by decide) ?_
        refine iF (by decide) ?_
        walk_at "! exN:_ qN:_ exC:_ sExp:___ ::r ::r me_append:______ ::r ::r ::r ::r ::r nmL::rrbbb_ tyOA::m_ spC:__ seC::r kS:_ spN:_"
        refine mAppU (acc := ms.map D.str) (by walk_at "upd") (by rw [List.length_map]; grind) ?_
        refine ⟨.inl rfl, ?_⟩
        walk_at "! qN:_ exC:_ sExp:___ ::r ::r me_append:______ ::r ::r ::r ::r ::r nmL::rrbbb_ tyOA::m_ spC:__ seC::r ife:_ trC:__ ::r nmC::rbbrm_"
        refine lst_ ?_
        walk_at "! spN:_"
        refine ⟨szl (by simp), ?_⟩
        refine neLN (a := []) (b := []) hA ?_
        refine ⟨_, rfl, ?_⟩
        refine iF (by decide) ?_
        walk_at "! una:_ kI:_ negI:_ spN:_"
        refine mAppU (acc := js.map D.int) (by walk_at "upd") (by rw [List.length_map]; grind) ?_
        refine ⟨.inl rfl, ?_⟩
        walk_at "! qN:_ exN:_ qN:_ exN:_ zN:_"
        rw [hin] at he
        rw [show js.map D.int ++ [D.int (-1)] = (js ++ [-1]).map D.int from by simp]
        rw [show ms.map D.str ++ [D.str (Str.ofString "")] = (ms ++ [Str.ofString ""]).map D.str from by simp]
        exact ForP.forget (b' := [(Str.ofString "shown", .str shown), (Str.ofString "units", .lst (escItems (shown ++ Str.ofString "\\"))), (Str.ofString "ends", .lst (natD (endsOf shown))), (Str.ofString "read", .str (r ++ u)), (Str.ofString "names", .raw (.ref a)), (Str.ofString "inner", .raw (.ref b))]) (by walk_at "keep") (ih _ ⟨us, r ++ u, _, _, rfl, fun v hv => hu2 v (.tail _ hv), _, _, rfl, he, by rw [Str.length_append]; grind, by simp; lia, by simp; lia, fun x hx => by
          rcases List.mem_append.mp hx with hx | hx
          · have := g4 x hx; exact Nat.le_of_lt (by assumption)
          · rcases List.mem_singleton.mp hx with rfl; show 0 + _ ≤ _; grind⟩)
      | cons e lt ihl =>
        rw [laterOf] at hin
        rw [List.length_cons] at hel
        refine wTurn ?_
        walk_at "! trA:_ trC:__ ::r nmC::rbbrm_"
        refine lst_ ?_
        walk_at "! spN:_"
        refine ⟨szl (by simp), ?_⟩
        refine neLN (b := []) hA ?_
        refine ⟨_, rfl, ?_⟩
        refine iT (by simp) ?_
        walk_at "! trA:_ trC:__ ::r cg_50:__ ::G spC:__ seC::r sub:_ nmL::rrbbb_ slc:_ ptS:_ nmC::rbbrm_ ptS:_ sub:_ nmC::rbbrm_ kI:_"
        refine itLN (e :: lt) 0 (fun _ _ => ⟨_, rfl⟩) rfl rfl (by decide) (by simp) ?_
        rw [show (e :: lt).getD 0 0 = e from rfl]
        walk_at "! ptN:_"
        refine slS (fun _ _ => ⟨_, rfl⟩) rfl rfl (szl (by exact Nat.le_trans (by assumption) (by decide))) ?_
        rw [show Txt.slice shown (some (p : Int)) (some (e : Int)) = cutOf shown p e from rfl]
        walk_at "! spN:_"
        refine mF (hA.le (by exact Nat.add_le_add_left (by decide) _)) hH (c50 (k := k) (hS p e)) fun d hd => ?_
        subst hd
        walk_at "! kB:_ isNotB:_"
        refine ⟨_, rfl, ?_⟩
        by_cases hch : checkP (cutOf shown p e) = true
        · rw [if_pos hch] at hin
          rw [hch]
          refine iF (by decide) ?_
          refine iF (by decide) ?_
          walk_at "! exN:_ qN:_ exC:_ sExp:___ ::r ::r me_append:______ ::r ::r ::r ::r ::r nmL::rrbbb_ tyOA::m_ spC:__ seC::r kS:_ spN:_"
          refine mAppU (acc := ms.map D.str) (by walk_at "upd") (by rw [List.length_map]; grind) ?_
          refine ⟨.inl rfl, ?_⟩
          walk_at "! qN:_ exC:_ sExp:___ ::r ::r me_append:______ ::r ::r ::r ::r ::r nmL::rrbbb_ tyOA::m_ spC:__ seC::r ife:_ trC:__ ::r nmC::rbbrm_"
          refine lst_ ?_
          walk_at "! spN:_"
          refine ⟨szl (by simp), ?_⟩
          refine neLN (a := e :: lt) (b := []) hA ?_
          refine ⟨_, rfl, ?_⟩
          refine iT (by simp) ?_
          walk_at "! ca_sum:__ ::G spC:__ seC::r"
          refine lcFM (List.range (startsOf shown).length) (fun j : Nat => D.int j) (fun j => [(Str.ofString "k", D.int (j : Nat))]) (fun j => decide (p < (startsOf shown).getD j 0) && decide ((startsOf shown).getD j 0 < e)) (fun j => D.int ((2 : Int) ^ j)) rfl rfl (by decide +kernel) (by decide +kernel) (fun _ => rfl) ?_
          walk_at "! ca_range:__ ::G spC:__ seC::r ca_len:__ ::G spC:__ seC::r nmC::rbbrm_ spN:_"
          refine bLenL (ds := natD (startsOf shown)) (by rw [List.length_map]; omega) ?_
          walk_at "! spN:_ bRng1:_"
          refine ⟨itemsN _ (by rw [List.length_map]) hst, by rw [List.length_range]; exact Nat.le_trans (by assumption) (by decide), ?_, ?_, ?_, ?_⟩
          · intro C j _
            walk_at "! asN:_ stL::rrb_"
            rfl
          · intro C j hj
            have hjl := List.mem_range.mp hj
            walk_at "! te1:_ trC2:__ ::r nmC::rbbrm_ sub:_ nmC::rbbrm_ nmL::rrbbb_"
            refine itLN (startsOf shown) j (fun _ _ => ⟨_, rfl⟩) rfl rfl (by lia) hjl ?_
            walk_at "! ltI:_"
            refine ⟨_, rfl, ?_⟩
            by_cases hq : p < (startsOf shown).getD j 0
            · refine iT (by simpa using hq) ?_
              walk_at "! sub:_ nmC::rbbrm_ kI:_"
              refine itLN (e :: lt) 0 (fun _ _ => ⟨_, rfl⟩) rfl rfl (by decide) (by simp) ?_
              rw [show (e :: lt).getD 0 0 = e from rfl]
              walk_at "! ltI:_"
              refine ⟨_, rfl, rfl, ?_⟩
              rw [decide_eq_true hq, Bool.true_and]
              simp
            · refine iF (by simpa using hq) ?_
              exact ⟨rfl, by rw [decide_eq_false hq, Bool.false_and]⟩
          · intro C j hj _
            have hjl := List.mem_range.mp hj
            walk_at "! bin:_ kI:_ nmL::rrbbb_"
            refine powI (by exact Int.natCast_nonneg _) (by rw [show Builtin.Int.intBits 2 = 2 from rfl]; lia) ?_
            exact ⟨rfl, by rw [Int.toNat_natCast]⟩
          rw [show ((List.range (startsOf shown).length).filter fun j => decide (p < (startsOf shown).getD j 0) && decide ((startsOf shown).getD j 0 < e)).map (fun j => D.int ((2 : Int) ^ j)) = ((twos (startsOf shown) p e).map fun k : Nat => (2 : Int) ^ k).map D.int from by rw [List.map_map]; rfl]
          walk_at "! spN:_"
          refine bSum hH ?_
          rw [show ((twos (startsOf shown) p e).map fun k : Nat => (2 : Int) ^ k).sum = innerAt shown p from hin.symm]
          walk_at "! spN:_"
          refine mAppU (acc := js.map D.int) (by walk_at "upd") (by rw [List.length_map]; grind) ?_
          refine ⟨.inl rfl, ?_⟩
          walk_at "! qN:_ exN:_ qN:_ exN:_ zN:_"
          rw [show js.map D.int ++ [D.int (innerAt shown p)] = (js ++ [innerAt shown p]).map D.int from by simp]
          rw [show ms.map D.str ++ [D.str (Str.ofString "")] = (ms ++ [Str.ofString ""]).map D.str from by simp]
          exact ForP.forget (b' := [(Str.ofString "shown", .str shown), (Str.ofString "units", .lst (escItems (shown ++ Str.ofString "\\"))), (Str.ofString "ends", .lst (natD (endsOf shown))), (Str.ofString "read", .str (r ++ u)), (Str.ofString "names", .raw (.ref a)), (Str.ofString "inner", .raw (.ref b))]) (by walk_at "keep") (ih _ ⟨us, r ++ u, _, _, rfl, fun v hv => hu2 v (.tail _ hv), _, _, rfl, he, by rw [Str.length_append]; grind, by simp; lia, by simp; lia, fun x hx => by
            rcases List.mem_append.mp hx with hx | hx
            · have := g4 x hx; exact Nat.le_of_lt (by assumption)
            · rcases List.mem_singleton.mp hx with rfl; show 0 + _ ≤ _; grind⟩)
        · rw [if_neg hch] at hin
          have hch' : checkP (cutOf shown p e) = false := by simpa using hch
          rw [hch']
          refine iT (by decide) ?_
          walk_at "! trA0:_"
          refine iT rfl ?_
          walk_at "! exC:_ sAsgN:__ ::r sub:_ nmC::rbbrm_ slc:_ ptS:_ kI:_ ptN:_ ptN:_"
          refine slL (fun _ _ => ⟨_, rfl⟩) rfl rfl rfl (by decide) (szl (by simp; lia)) ?_
          rw [show pick (natD (e :: lt)) (some 1) none none = natD lt from by rw [show (1 : Int) = ((1 : Nat) : Int) from rfl, pick_from _ _ (by simp)]; rfl]
          walk_at "! stCU::rbru_ qN:_ exN:_ zN:_"
          exact ihl (by exact Nat.le_of_lt (by assumption)) hin
    · rw [if_neg hop] at he
      refine iF hop ?_
      walk_at "! exC:_ sIf:_ trA:_ trC:__ ::r nmL::rrbbb_ kS:_ neS:_"
      refine ⟨_, rfl, ?_⟩
      by_cases hc1 : (u != Str.ofString ")") = true
      · refine iT hc1 ?_
        rw [hc1, Bool.true_and] at he
        walk_at "! trA:_ trC:__ ::r ca_len:__ ::G spC:__ seC::r nmL::rrbbb_ spN:_"
        refine bLenS (by lia) ?_
        walk_at "! kI:_ eqI:_"
        refine ⟨_, rfl, ?_⟩
        have hq1 : ((u.length : Int) == 1) = (u.length == 1) := by
          rw [Bool.eq_iff_iff, beq_iff_eq, beq_iff_eq]; grind
        rw [hq1]
        by_cases hc2 : (u.length == 1) = true
        · refine iT hc2 ?_
          rw [hc2, Bool.true_and] at he
          walk_at "! trA:_ trC:__ ::r nmC::rbbrm_ ca_len:__ ::G spC:__ seC::r nmL::rrbbb_ spN:_"
          refine bLenS (by lia) ?_
          walk_at "! ltI:_"
          refine ⟨_, rfl, ?_⟩
          by_cases hc3 : p < shown.length
          · refine iT (by simpa using hc3) ?_
            rw [if_pos (by simpa using hc3)] at he
            walk_at "! trA0:_"
            refine iT rfl ?_
            rcases List.eq_nil_or_concat ms with rfl | ⟨m₂, x, rfl⟩
            · cases he
            rw [List.concat_eq_append] at *
            have hx := g4 x (by simp)
            rw [List.length_append, List.length_singleton] at g2
            rw [show (m₂ ++ [x]).getLast? = some x from by simp] at he
            simp only [List.dropLast_concat] at he
            walk_at "! exC:_ sAsgS:__ ::r bin:_ sub:_ nmL::rrbbb_ una:_ kI:_ negI:_"
            refine itON (ds := (m₂ ++ [x]).map D.str) (fun _ _ => ⟨_, rfl⟩) (by walk_at "mem") (by decide) (by simp; grind) (by decide) (d := .str x) (by
              rw [List.length_map, List.length_append, List.length_singleton, show (-1 + ((m₂.length + 1 : Nat) : Int)).toNat = m₂.length from by grind]; simp) ?_
            walk_at "! nmL::rrbbb_"
            have hu1 : u.length = 1 := beq_iff_eq.mp hc2
            refine addS' 400 2 (by grind) hul (by decide) fun _ => ?_
            walk_at "! nmL::rrbbb_ una:_ kI:_ negI:_"
            refine setUN (by walk_at "upd") (by decide) (by decide) (by simp; omega) ?_
            walk_at "! qN:_ exN:_ qN:_ exN:_ qN:_ exN:_ zN:_"
            rw [show ((m₂ ++ [x]).map D.str).set (-1 + ((((m₂ ++ [x]).map D.str).length : Nat) : Int)).toNat (D.str (x ++ u)) = (m₂ ++ [x ++ u]).map D.str from by
              rw [List.length_map, List.length_append, List.length_singleton, show (-1 + ((m₂.length + 1 : Nat) : Int)).toNat = m₂.length from by omega]; simp]
            exact ForP.forget (b' := [(Str.ofString "shown", .str shown), (Str.ofString "units", .lst (escItems (shown ++ Str.ofString "\\"))), (Str.ofString "ends", .lst (natD (endsOf shown))), (Str.ofString "read", .str (r ++ u)), (Str.ofString "names", .raw (.ref a)), (Str.ofString "inner", .raw (.ref b))]) (by walk_at "keep") (ih _ ⟨us, r ++ u, _, _, rfl, fun v hv => hu2 v (.tail _ hv), _, _, rfl, he, by rw [Str.length_append]; grind, by simp; exact Nat.le_of_lt (by assumption), by exact Nat.le_of_lt (by assumption), fun y hy => by
              rcases List.mem_append.mp hy with hy | hy
              · have := g4 y (by simp [hy]); exact Nat.le_of_lt (by assumption)
              · rcases List.mem_singleton.mp hy with rfl; rw [Str.length_append]; grind⟩)
          · refine iF (by simpa using hc3) ?_
            rw [if_neg (by simpa using hc3)] at he
            refine iF (by decide) ?_
            walk_at "! exN:_ qN:_ exN:_ qN:_ exN:_ zN:_"
            exact ForP.forget (b' := [(Str.ofString "shown", .str shown), (Str.ofString "units", .lst (escItems (shown ++ Str.ofString "\\"))), (Str.ofString "ends", .lst (natD (endsOf shown))), (Str.ofString "read", .str (r ++ u)), (Str.ofString "names", .raw (.ref a)), (Str.ofString "inner", .raw (.ref b))]) (by walk_at "keep") (ih _ ⟨us, r ++ u, _, _, rfl, fun v hv => hu2 v (.tail _ hv), _, _, rfl, he, by rw [Str.length_append]; omega, by exact Nat.le_of_lt (by assumption), by exact Nat.le_of_lt (by assumption), fun y hy => by have := g4 y hy; exact Nat.le_of_lt (by assumption)⟩)
        · have hc2' : (u.length == 1) = false := by simpa using hc2
          refine iF hc2 ?_
          rw [hc2', Bool.false_and, if_neg Bool.false_ne_true] at he
          refine iF (by decide) ?_
          walk_at "! exN:_ qN:_ exN:_ qN:_ exN:_ zN:_"
          exact ForP.forget (b' := [(Str.ofString "shown", .str shown), (Str.ofString "units", .lst (escItems (shown ++ Str.ofString "\\"))), (Str.ofString "ends", .lst (natD (endsOf shown))), (Str.ofString "read", .str (r ++ u)), (Str.ofString "names", .raw (.ref a)), (Str.ofString "inner", .raw (.ref b))]) (by walk_at "keep") (ih _ ⟨us, r ++ u, _, _, rfl, fun v hv => hu2 v (.tail _ hv), _, _, rfl, he, by rw [Str.length_append]; omega, by exact Nat.le_of_lt (by assumption), by exact Nat.le_of_lt (by assumption), fun y hy => by have := g4 y hy; exact Nat.le_of_lt (by assumption)⟩)
      · have hc1' : (u != Str.ofString ")") = false := by simpa using hc1
        refine iF hc1 ?_
        rw [hc1', Bool.false_and, if_neg Bool.false_ne_true] at he
        refine iF (by decide) ?_
        walk_at "! exN:_ qN:_ exN:_ qN:_ exN:_ zN:_"
        exact ForP.forget (b' := [(Str.ofString "shown", .str shown), (Str.ofString "units", .lst (escItems (shown ++ Str.ofString "\\"))), (Str.ofString "ends", .lst (natD (endsOf shown))), (Str.ofString "read", .str (r ++ u)), (Str.ofString "names", .raw (.ref a)), (Str.ofString "inner", .raw (.ref b))]) (by walk_at "keep") (ih _ ⟨us, r ++ u, _, _, rfl, fun v hv => hu2 v (.tail _ hv), _, _, rfl, he, by rw [Str.length_append]; omega, by exact Nat.le_of_lt (by assumption), by exact Nat.le_of_lt (by assumption), fun y hy => by have := g4 y hy; exact Nat.le_of_lt (by assumption)⟩)
end
section -- FG
noncomputable def stepOf (c : Nat) : Nat := c / 32 % 8 + 1
noncomputable def aboveOf (c : Nat) : Int := ((c / 256 % 31 : Nat) : Int) - 15
noncomputable def placesOf (falls many : Nat) : List Nat := ((List.range (many - 1)).filter fun k => falls / 2 ^ k % 2 == 1).map (· + 1)
noncomputable def flagAt (c many place : Nat) : Nat := c % (32 - stepOf c * (many - 2)) + stepOf c * (place - 1)
noncomputable def flagsOf (falls c many : Nat) : List Nat := (placesOf falls many).map (flagAt c many)
noncomputable def flagNames : List Str := flagPairs.map (·.2)
noncomputable def dueAt (k : Nat) : Str := if k < 10 then flagNames.getD k Str.empty else Str.ofString "0x" ++ ⟨#[(Str.ofString "1248").cps.getD (k % 4) 0]⟩ ++ Txt.mul (Str.ofString "0") ((k / 4 : Nat) : Int)
noncomputable def restOf (above : Int) : List Str := if above == 0 then [Str.ofString "0x0"] else [(if above < 0 then Str.ofString "-" else Str.ofString "") ++ Str.ofString "0x" ++ ⟨#[(Str.ofString "0123456789abcdef").cps.getD above.natAbs 0]⟩ ++ Str.ofString "00000000"]
noncomputable def flagArg (falls c many : Nat) : Int := ((flagsOf falls c many).map fun k : Nat => (2 : Int) ^ k).sum + aboveOf c * 2 ^ 32
noncomputable def dueOf (falls c many : Nat) : List Str := let due := (flagsOf falls c many).map dueAt
  if due != [] && aboveOf c == 0 then due else due ++ restOf (aboveOf c)
noncomputable def sumOf (falls c many : Nat) : Int := if prettyFlags (flagArg falls c many) == Txt.join (Str.ofString ", ") (dueOf falls c many) then ((placesOf falls many).map fun k : Nat => (k : Int)).sum else -1
theorem small_mul {a b : Int} (ha : a.natAbs < 2 ^ 60) (hb : b.natAbs < 2 ^ 60) : IntMulOk a b := IntMulOk.of_le (m := 60) (n := 60) (PySem.intBits_le_iff.mpr ha) (PySem.intBits_le_iff.mpr hb) (by decide)
theorem filt {α : Type} (l : List α) : (l.filter fun _ => true) = l := List.filter_eq_self.mpr (by simp)
theorem Hv.res {w : World} {A : Around} {E : Value → Shared → Prop} {m : Sem Value} {n : Led} {P : Led → D → Prop} (d₀ : D) (h : Hv w A E m n (fun n' d => n' = n ∧ d = d₀)) (hp : P n d₀) : Hv w A E m n P := h.mono fun _ _ ⟨e1, e2⟩ => e1 ▸ e2 ▸ hp
theorem eqOne (a : Nat) : (((a : Nat) : Int) == 1) = (a == 1) := by
  rw [Bool.eq_iff_iff, beq_iff_eq, beq_iff_eq]; grind
theorem c148 {w : World} {k falls c many : Nat} (hm2 : 4 ≤ many) (hm : many ≤ 5) (_hc : c < 1000000) (_hf : falls < 64) (hx : (pfLoop (List.range 32) (flagArg falls c many) []).2.2 = false → (baseText "0x" 16 (pfLoop (List.range 32) (flagArg falls c many) []).2.1).length ≤ 1000)
    (hj : JoinOk (Str.ofString ", ") (pfNames (flagArg falls c many)) = true) (hj2 : JoinOk (Str.ofString ", ") (dueOf falls c many) = true) : Cn w Nn (k + 2) 148 [.int falls, .int c, .int many] (fun d => d = .int (sumOf falls c many)) := by
  refine enterC (i := 19) (fa := 148) (c := 147) (o := o_148_s22 w.params) (names := [Str.ofString "falls", Str.ofString "cell", Str.ofString "many"]) [] [(Str.ofString "step", 5, none), (Str.ofString "names", 4, none), (Str.ofString "many", 3, some (.int many)), (Str.ofString "cell", 2, some (.int c)), (Str.ofString "falls", 1, some (.int falls))]
    (by kernel_rfl) rfl (codeRec_of (by kernel_rfl)) (fun vals h => ?_) rfl (by decide +kernel) (fun L => ?_) (fun L => by rfl) (by simp only [List.map_cons, List.map_nil]; decide +kernel) (fun _ h => nomatch h) ?_ rfl rfl rfl fun A L hA hH => ?_
  · exact len3 h fun _ _ _ => rfl
  · walk_at "cells"
  · walk_at "cells"
  conv => arg 4; arg 1; whnf
  unfold cellsAt
  simp only [List.map_cons, List.map_nil]
  have hs8 : stepOf c ≤ 8 := by unfold stepOf; exact Nat.mod_lt _ (Nat.succ_pos _)
  have hs1 : 1 ≤ stepOf c := by unfold stepOf; exact Nat.succ_pos _
  walk_at "! exC:_ sAsgN:__ ::r lstC:_ spC:__ seC::r kS:_ spC:__ seC::r kS:_ spC:__ seC::r kS:_ spC:__ seC::r kS:_ spC:__ seC::r kS:_ spC:__ seC::r kS:_ spC:__ seC::r kS:_ spC:__ seC::r kS:_ spC:__ seC::r kS:_ spC:__ seC::r kS:_ spN:_"
  refine ⟨szl (by simp), ?_⟩
  walk_at "! stCU::rbru_ qN:_ exC:_ sAsgT:___ ::r ::r tup_:_ spC:__ seC::r bin:_ bin:_ bin:_ nmC::rbbrm_ kI:_"
  refine divN c 32 rfl rfl (by decide) (by decide) ?_
  walk_at "! kI:_"
  refine modN _ 8 rfl rfl (by decide) ?_
  walk_at "! kI:_ addI:_ spC:__ seC::r bin:_ bin:_ bin:_ nmC::rbbrm_ kI:_"
  refine divN c 256 rfl rfl (by decide) (by decide) ?_
  walk_at "! kI:_"
  refine modN _ 31 rfl rfl (by decide) ?_
  walk_at "! kI:_ subI:_ spN:_"
  refine ⟨szl (by simp), ?_⟩
  rw [show ((c / 32 % 8 : Nat) : Int) + 1 = ((stepOf c : Nat) : Int) from by unfold stepOf; push_cast; rfl, show ((c / 256 % 31 : Nat) : Int) - 15 = aboveOf c from rfl]
  walk_at "! asT2:___ ::a ::r asN:_ stCU::rbru_ asN:_ stL::rrb_ qN:_ exC:_"
  refine sAsgFM (List.range (many - 1)) (fun j : Nat => D.int j) (fun j => [(Str.ofString "k", D.int (j : Nat))]) (fun j => falls / 2 ^ j % 2 == 1) (fun j => D.int ((j + 1 : Nat) : Int)) rfl rfl rfl (by decide +kernel) (by decide +kernel) (fun _ => rfl) ?_
  walk_at "! ca_range:__ ::G spC:__ seC::r bin:_ nmC::rbbrm_ kI:_ subI:_ spN:_ bRng1:_"
  refine ⟨itemsN (many - 1) (by omega) (by omega), by rw [List.length_range]; lia, ?_, ?_, ?_, ?_⟩
  · intro C j _
    walk_at "! asN:_ stL::rrb_"
    rfl
  · intro C j hj
    have hjl := List.mem_range.mp hj
    walk_at "! te1:_ trC:__ ::r bin:_ bin:_ nmC::rbbrm_ bin:_ kI:_ nmL::rrbbb_"
    refine powI (by exact Int.natCast_nonneg _) (by rw [show Builtin.Int.intBits 2 = 2 from rfl]; lia) ?_
    refine divN falls (2 ^ j) rfl (by rw [Int.toNat_natCast]; simp) (Nat.pow_pos (by decide)) (Nat.lt_of_le_of_lt (Nat.pow_le_pow_right (by decide) (show j ≤ 10 by lia)) (by decide)) ?_
    walk_at "! kI:_"
    refine modN _ 2 rfl rfl (by decide) ?_
    walk_at "! kI:_ eqI:_"
    exact ⟨_, rfl, rfl, eqOne _⟩
  · intro C j _ _
    walk_at "! bin:_ nmL::rrbbb_ kI:_ addI:_"
    exact ⟨rfl, rfl⟩
  rw [show ((List.range (many - 1)).filter fun j => falls / 2 ^ j % 2 == 1).map (fun j => D.int ((j + 1 : Nat) : Int)) = natD (placesOf falls many) from by unfold placesOf natD; rw [List.map_map]; rfl]
  have hpl : ∀ p ∈ placesOf falls many, 1 ≤ p ∧ p ≤ 4 := by
    intro p hp
    obtain ⟨j, hj, rfl⟩ := List.mem_map.mp hp
    have := List.mem_range.mp (List.mem_filter.mp hj).1
    show 1 ≤ j + 1 ∧ j + 1 ≤ 4
    lia
  have hpn : (placesOf falls many).length ≤ 4 := by
    unfold placesOf; rw [List.length_map]
    exact Nat.le_trans (List.length_filter_le _ _) (by rw [List.length_range]; lia)
  have hsm : stepOf c * (many - 2) ≤ 24 := Nat.le_trans (Nat.mul_le_mul hs8 (show many - 2 ≤ 3 by grind)) (by decide)
  have hfl : ∀ p ∈ placesOf falls many, flagAt c many p < 32 := by
    intro p hp
    have := hpl p hp
    unfold flagAt
    have h1 := Nat.mod_lt c (show 0 < 32 - stepOf c * (many - 2) by omega)
    have h2 : p - 1 ≤ many - 2 := by
      obtain ⟨j, hj, rfl⟩ := List.mem_map.mp hp
      have := List.mem_range.mp (List.mem_filter.mp hj).1
      grind
    have h3 := Nat.mul_le_mul_left (stepOf c) h2
    grind
  walk_at "! stL::rrb_ qN:_ exC:_"
  refine sAsgFM (placesOf falls many) (fun j : Nat => D.int j) (fun j => [(Str.ofString "place", D.int (j : Nat))]) (fun _ => true) (fun j => D.int ((flagAt c many j : Nat) : Int)) rfl rfl rfl (by decide +kernel) (by decide +kernel) (fun _ => rfl) ?_
  walk_at "! nmL::rrbbb_"
  refine ⟨.lst _, by exact Nat.le_trans (by assumption) (by decide), ?_, ?_, ?_, ?_⟩
  · intro C j _
    walk_at "! asN:_ stL::rrb_"
    rfl
  · intro C j _
    walk_at "! te0:_"
    exact ⟨rfl, rfl⟩
  · intro C j hj _
    have hj1 := hpl j hj
    walk_at "! bin:_ bin:_ nmC::rbbrm_ bin:_ kI:_ bin:_ nmC::rbbrm_ bin:_ nmC::rbbrm_ kI:_ subI:_"
    refine mulI (small_mul (by exact Nat.lt_of_le_of_lt (by assumption) (by decide)) (by omega)) ?_
    walk_at "! subI:_"
    refine modN c (32 - stepOf c * (many - 2)) rfl (by rw [Int.ofNat_sub (by exact Nat.le_trans (by assumption) (by decide)), Int.natCast_mul, Int.ofNat_sub (by lia)]; rfl) (by omega) ?_
    walk_at "! bin:_ nmC::rbbrm_ bin:_ nmL::rrbbb_ kI:_ subI:_"
    refine mulI (small_mul (by omega) (by omega)) ?_
    walk_at "! addI:_"
    refine ⟨rfl, ?_⟩
    show D.int _ = D.int _
    congr 1
    unfold flagAt
    rw [Int.natCast_add, Int.natCast_mul, Int.ofNat_sub (by exact And.left (by assumption))]; rfl
  rw [show ((placesOf falls many).filter fun _ => true).map (fun j => D.int ((flagAt c many j : Nat) : Int)) = natD (flagsOf falls c many) from by unfold flagsOf natD; rw [List.map_map, filt]; rfl]
  have hfl2 : ∀ f ∈ flagsOf falls c many, f < 32 := by
    intro f hf
    obtain ⟨p, hp, rfl⟩ := List.mem_map.mp hf
    exact hfl p hp
  have hfn : (flagsOf falls c many).length ≤ 4 := by unfold flagsOf; rw [List.length_map]; exact hpn
  walk_at "! stL::rrb_ qN:_ exC:_"
  refine sAsgFM (flagsOf falls c many) (fun j : Nat => D.int j) (fun j => [(Str.ofString "k", D.int (j : Nat))]) (fun _ => true) (fun j => D.str (dueAt j)) rfl rfl rfl (by decide +kernel) (by decide +kernel) (fun _ => rfl) ?_
  walk_at "! nmL::rrbbb_"
  refine ⟨.lst _, by exact Nat.le_trans (by assumption) (by decide), ?_, ?_, ?_, ?_⟩
  · intro C j _
    walk_at "! asN:_ stL::rrb_"
    rfl
  · intro C j _
    walk_at "! te0:_"
    exact ⟨rfl, rfl⟩
  · intro C j hj _
    have hj1 := hfl2 j hj
    walk_at "! ife:_ trC:__ ::r nmL::rrbbb_ kI:_ ltI:_"
    refine ⟨_, rfl, ?_⟩
    by_cases h10 : j < 10
    · refine iT (by have : (j : Int) < 10 := by exact Int.ofNat_lt.mpr (by assumption)
                    simpa using this) ?_
      walk_at "! sub:_ nmC::rbbrm_ nmL::rrbbb_"
      refine itLS flagNames j (fun _ _ => ⟨_, rfl⟩) (by rfl) rfl (by exact Nat.lt_of_lt_of_le (by assumption) (by decide)) h10 ?_
      exact ⟨rfl, by unfold dueAt; rw [if_pos h10]⟩
    · refine iF (by have : ¬ (j : Int) < 10 := by lia
                    simpa using this) ?_
      walk_at "! bin:_ bin:_ kS:_ sub:_ kS:_ bin:_ nmL::rrbbb_ kI:_"
      refine modN j 4 rfl rfl (by decide) ?_
      have h4 : j % 4 < 4 := Nat.mod_lt _ (by decide)
      refine itS (fun _ _ => ⟨_, rfl⟩) (by exact Int.natCast_nonneg _) (by omega) (by show _ < (4 : Int); exact Int.ofNat_lt.mpr (by assumption)) (nthC rfl h4) ?_
      refine addS' 2 1 (by decide) (by show 1 ≤ 1; decide) (by decide) fun hz => ?_
      walk_at "! bin:_ kS:_ bin:_ nmL::rrbbb_ kI:_"
      refine divN j 4 rfl rfl (by decide) (by decide) ?_
      have hmo : ∀ q < 8, MulOk (Str.ofString "0") ((q : Nat) : Int) := by unfold MulOk; decide +kernel
      have hml : ∀ q < 8, (Txt.mul (Str.ofString "0") ((q : Nat) : Int)).length ≤ 8 := by decide +kernel
      refine mulS (hmo _ (by grind)) ?_
      refine addS' 3 8 hz (hml _ (by omega)) (by decide) fun _ => ?_
      exact ⟨rfl, by unfold dueAt; rw [if_neg h10]⟩
  rw [show ((flagsOf falls c many).filter fun _ => true).map (fun j => D.str (dueAt j)) = ((flagsOf falls c many).map dueAt).map D.str from by rw [List.map_map, filt]; rfl]
  walk_at "! stL::rrb_"
  walk_at "! qN:_"
  walk_at "! exC:_"
  walk_at "! sAsgN:__ ::r"
  refine Hv.res (.lst ((restOf (aboveOf c)).map D.str)) ?_ ?_
  · walk_at "! ife:_ trC:__ ::r nmL::rrbbb_ kI:_ eqI:_"
    refine ⟨_, rfl, ?_⟩
    by_cases ha : (aboveOf c == 0) = true
    · refine iT ha ?_
      walk_at "! lstC:_ spC:__ seC::r kS:_ spN:_"
      refine ⟨szl (by simp), rfl, ?_⟩
      unfold restOf; rw [if_pos ha]; rfl
    · refine iF ha ?_
      have hra : aboveOf c ≤ 15 ∧ -15 ≤ aboveOf c := by unfold aboveOf; lia
      have hab : (if aboveOf c < 0 then -aboveOf c else aboveOf c) = ((aboveOf c).natAbs : Int) := by grind
      have hdg : (⟨#[(Str.ofString "0123456789abcdef").cps.getD (aboveOf c).natAbs 0]⟩ : Str).length ≤ 1 := by show 1 ≤ 1; decide
      walk_at "! lstC:_ spC:__ seC::r bin:_ bin:_ bin:_ ife:_ trC:__ ::r nmL::rrbbb_ kI:_ ltI:_"
      refine ⟨_, rfl, ?_⟩
      by_cases hn : aboveOf c < 0
      · refine iT (by simpa using hn) ?_
        walk_at "! kS:_ kS:_"
        refine addS' 1 2 (by decide) (by decide) (by decide) fun z1 => ?_
        walk_at "! sub:_ kS:_ ca_abs:__ ::G spC:__ seC::r nmL::rrbbb_ spN:_ bAbs:_"
        rw [hab]
        refine itS (fun _ _ => ⟨_, rfl⟩) (by exact Int.natCast_nonneg _) (by omega) (by show _ < (16 : Int); lia) (nthC (x := Str.ofString "0123456789abcdef") rfl (show _ < 16 by lia)) ?_
        refine addS' 3 1 z1 hdg (by decide) fun z2 => ?_
        walk_at "! kS:_"
        refine addS' 4 8 z2 (by decide) (by decide) fun _ => ?_
        walk_at "! spN:_"
        refine ⟨szl (by simp), rfl, ?_⟩
        unfold restOf; rw [if_neg ha, if_pos hn]; rfl
      · refine iF (by simpa using hn) ?_
        walk_at "! kS:_ kS:_"
        refine addS' 1 2 (by decide) (by decide) (by decide) fun z1 => ?_
        walk_at "! sub:_ kS:_ ca_abs:__ ::G spC:__ seC::r nmL::rrbbb_ spN:_ bAbs:_"
        rw [hab]
        refine itS (fun _ _ => ⟨_, rfl⟩) (by exact Int.natCast_nonneg _) (by omega) (by show _ < (16 : Int); lia) (nthC (x := Str.ofString "0123456789abcdef") rfl (show _ < 16 by lia)) ?_
        refine addS' 3 1 z1 hdg (by decide) fun z2 => ?_
        walk_at "! kS:_"
        refine addS' 4 8 z2 (by decide) (by decide) fun _ => ?_
        walk_at "! spN:_"
        refine ⟨szl (by simp), rfl, ?_⟩
        unfold restOf; rw [if_neg ha, if_neg hn]; rfl
  walk_at "! stL::rrb_ qN:_ exC:_ sAsgN:__ ::r cg_22:__ ::G spC:__ seC::r bin:_ ca_sum:__ ::G spC:__ seC::r"
  refine lcFM (flagsOf falls c many) (fun j : Nat => D.int j) (fun j => [(Str.ofString "k", D.int (j : Nat))]) (fun _ => true) (fun j => D.int ((2 : Int) ^ j)) rfl rfl (by decide +kernel) (by decide +kernel) (fun _ => rfl) ?_
  walk_at "! nmL::rrbbb_"
  refine ⟨.lst _, by omega, ?_, ?_, ?_, ?_⟩
  · intro C j _
    walk_at "! asN:_ stL::rrb_"
    rfl
  · intro C j _
    walk_at "! te0:_"
    exact ⟨rfl, rfl⟩
  · intro C j hj _
    have hj1 := hfl2 j hj
    walk_at "! bin:_ kI:_ nmL::rrbbb_"
    refine powI (by exact Int.natCast_nonneg _) (by rw [show Builtin.Int.intBits 2 = 2 from rfl]; lia) ?_
    exact ⟨rfl, by rw [Int.toNat_natCast]⟩
  rw [show ((flagsOf falls c many).filter fun _ => true).map (fun j => D.int ((2 : Int) ^ j)) = ((flagsOf falls c many).map fun k : Nat => (2 : Int) ^ k).map D.int from by rw [List.map_map, filt]; rfl]
  walk_at "! spN:_"
  refine bSum hH ?_
  walk_at "! bin:_ nmL::rrbbb_ bin:_ kI:_ kI:_"
  refine powI (by decide) (by decide) ?_
  refine mulI (small_mul (by unfold aboveOf; lia) (by decide)) ?_
  walk_at "! addI:_ spN:_"
  rw [show ((flagsOf falls c many).map fun k : Nat => (2 : Int) ^ k).sum + aboveOf c * 2 ^ (32 : Int).toNat = flagArg falls c many from rfl]
  refine mF hA trivial (c22 hx hj) fun d hd => ?_
  subst hd
  walk_at "! stL::rrb_ qN:_ exC:_ sRet:_ ife:_ trC:__ ::r nmL::rrbbb_ me_join:______ ::r ::r ::r ::r ::r kS:_ tySA::_ spC:__ seC::r ife:_ trA:_ trC:__ ::r nmL::rrbbb_"
  refine lst_ ?_
  walk_at "! spN:_"
  refine ⟨szl (by simp), ?_⟩
  refine neLS (b := []) hA ?_
  refine ⟨_, rfl, ?_⟩
  by_cases hd1 : ((flagsOf falls c many).map dueAt != []) = true
  · refine iT hd1 ?_
    walk_at "! trA:_ trC:__ ::r nmL::rrbbb_ kI:_ eqI:_"
    refine ⟨_, rfl, ?_⟩
    by_cases hd2 : (aboveOf c == 0) = true
    · refine iT hd2 ?_
      walk_at "! trA0:_"
      refine iT rfl ?_
      have hdue : dueOf falls c many = (flagsOf falls c many).map dueAt := by unfold dueOf; simp only [hd1, hd2, Bool.and_self, if_true]
      walk_at "! nmL::rrbbb_ spN:_"
      refine mJoin (by rw [← hdue]; exact hj2) ?_
      walk_at "! eqS:_"
      refine ⟨_, rfl, ?_⟩
      rw [← hdue]
      by_cases hq : (prettyFlags (flagArg falls c many) == Txt.join (Str.ofString ", ") (dueOf falls c many)) = true
      · refine iT hq ?_
        walk_at "! ca_sum:__ ::G spC:__ seC::r nmL::rrbbb_ spN:_"
        rw [show natD (placesOf falls many) = ((placesOf falls many).map fun k : Nat => (k : Int)).map D.int from by rw [List.map_map]; rfl]
        refine bSum hH ?_
        show D.int _ = D.int _
        unfold sumOf
        rw [if_pos hq]
      · refine iF hq ?_
        walk_at "! una:_ kI:_ negI:_ qR:_"
        show D.int _ = D.int _
        unfold sumOf
        rw [if_neg hq]
    · refine iF hd2 ?_
      refine iF Bool.false_ne_true ?_
      have hd2' : (aboveOf c == 0) = false := by simpa using hd2
      have hdue : dueOf falls c many = (flagsOf falls c many).map dueAt ++ restOf (aboveOf c) := by unfold dueOf; simp only [hd1, hd2', Bool.and_false, Bool.false_eq_true, if_false]
      walk_at "! bin:_ nmL::rrbbb_ nmL::rrbbb_"
      refine addL (szl (by unfold restOf; split <;> simp <;> exact Nat.le_trans (by assumption) (by decide))) ?_
      rw [← List.map_append]
      walk_at "! spN:_"
      refine mJoin (by rw [← hdue]; exact hj2) ?_
      walk_at "! eqS:_"
      refine ⟨_, rfl, ?_⟩
      rw [← hdue]
      by_cases hq : (prettyFlags (flagArg falls c many) == Txt.join (Str.ofString ", ") (dueOf falls c many)) = true
      · refine iT hq ?_
        walk_at "! ca_sum:__ ::G spC:__ seC::r nmL::rrbbb_ spN:_"
        rw [show natD (placesOf falls many) = ((placesOf falls many).map fun k : Nat => (k : Int)).map D.int from by rw [List.map_map]; rfl]
        refine bSum hH ?_
        show D.int _ = D.int _
        unfold sumOf
        rw [if_pos hq]
      · refine iF hq ?_
        walk_at "! una:_ kI:_ negI:_ qR:_"
        show D.int _ = D.int _
        unfold sumOf
        rw [if_neg hq]
  · refine iF hd1 ?_
    refine iF Bool.false_ne_true ?_
    have hd1' : ((flagsOf falls c many).map dueAt != []) = false := by simpa using hd1
    have hdue : dueOf falls c many = (flagsOf falls c many).map dueAt ++ restOf (aboveOf c) := by unfold dueOf; simp only [hd1', Bool.false_and, Bool.false_eq_true, if_false]
    walk_at "! bin:_ nmL::rrbbb_ nmL::rrbbb_"
    refine addL (szl (by unfold restOf; split <;> simp <;> omega)) ?_
    rw [← List.map_append]
    walk_at "! spN:_"
    refine mJoin (by rw [← hdue]; exact hj2) ?_
    walk_at "! eqS:_"
    refine ⟨_, rfl, ?_⟩
    rw [← hdue]
    by_cases hq : (prettyFlags (flagArg falls c many) == Txt.join (Str.ofString ", ") (dueOf falls c many)) = true
    · refine iT hq ?_
      walk_at "! ca_sum:__ ::G spC:__ seC::r nmL::rrbbb_ spN:_"
      rw [show natD (placesOf falls many) = ((placesOf falls many).map fun k : Nat => (k : Int)).map D.int from by rw [List.map_map]; rfl]
      refine bSum hH ?_
      show D.int _ = D.int _
      unfold sumOf
      rw [if_pos hq]
    · refine iF hq ?_
      walk_at "! una:_ kI:_ negI:_ qR:_"
      show D.int _ = D.int _
      unfold sumOf
      rw [if_neg hq]
end
section -- FH
noncomputable abbrev Row := Nat × Int × Nat
noncomputable def rowD (x : Row) : D := .tup [.int (x.1 : Nat), .int x.2.1, .int (x.2.2 : Nat)]
noncomputable def fallAdd (names : List Str) (place : Nat) (last : Int) (k : Nat) : Nat := if 0 ≤ last ∧ gtSI (names.getD last.toNat Str.empty) last (names.getD k Str.empty) k = true then 2 ^ (place - 1) else 0
noncomputable def rowOk (inner : List Int) (x : Row) (k : Nat) : Bool := x.1 / 2 ^ k % 2 == 0 && (Builtin.bitAnd (inner.getD k 0) x.1 == inner.getD k 0)
noncomputable def rowNext (names : List Str) (place : Nat) (x : Row) (k : Nat) : Row := (x.1 + 2 ^ k, (k : Int), x.2.2 + fallAdd names place x.2.1 k)
noncomputable def rowsStep (names : List Str) (inner : List Int) (place : Nat) (rows : List Row) : List Row := rows.flatMap fun x => ((List.range names.length).filter (rowOk inner x)).map (rowNext names place x)
noncomputable def rowsFrom (names : List Str) (inner : List Int) : List Nat → List Row → List Row
  | [], rows => rows
  | p :: ps, rows => rowsFrom names inner ps (rowsStep names inner p rows)
noncomputable def rowsOf (names : List Str) (inner : List Int) : List Row := rowsFrom names inner (List.range names.length) [(0, -1, 0)]
noncomputable def countFrom (sums : List Int) : List Row → List Nat → List Nat
  | [], cs => cs
  | x :: r, cs => countFrom sums r (cs.set (sums.getD x.2.2 0).toNat (cs.getD (sums.getD x.2.2 0).toNat 0 + 1))
noncomputable def countsOf (names : List Str) (inner sums : List Int) : List Nat := countFrom sums (rowsOf names inner) (List.replicate (names.length * (names.length - 1) / 2 + 1) 0)
theorem rowsStep_len {names : List Str} {inner : List Int} {place : Nat} : ∀ {rows : List Row}, (rowsStep names inner place rows).length ≤ rows.length * names.length
  | [] => by simp [rowsStep]
  | x :: r => by
    have ih := rowsStep_len (names := names) (inner := inner) (place := place) (rows := r)
    unfold rowsStep at *
    rw [List.flatMap_cons, List.length_append, List.length_map, List.length_cons, Nat.succ_mul]
    have := List.length_filter_le (rowOk inner x) (List.range names.length)
    rw [List.length_range] at this
    grind
inductive InvFH (L b : Addr) (names : List Str) (inner sums : List Int) (l : List D) (n : Led) : Prop
  | mk (ps : List Nat) (rows : List Row) (h2 : l = ps.map (fun k : Nat => D.int k)) (h3 : (∀ p ∈ ps, p < names.length)) (h4 : ps.Pairwise (· < ·)) (h5 : (∀ x ∈ rows, x.2.1 < names.length ∧ (0 ≤ x.2.1 → ∀ p ∈ ps, 1 ≤ p))) (h6 : rows.length * 5 ^ ps.length ≤ 3125) (h7 : rowsFrom names inner ps rows = rowsOf names inner) (cp : Option D) (h9 : n = [(L, .fr [(Str.ofString "sums", .lst (sums.map D.int)), (Str.ofString "rows", .lst (rows.map rowD)), (Str.ofString "counts", .raw (.ref b))]), (b, .lst (natD (List.replicate (names.length * (names.length - 1) / 2 + 1) 0))), (L + 4, .cell cp), (L + 3, .cell (some (.int (names.length : Nat)))), (L + 2, .cell (some (.lst (inner.map D.int)))), (L + 1, .cell (some (.lst (names.map D.str))))])
inductive InvFH2 (L b : Addr) (names : List Str) (inner sums : List Int) (cp : Option D) (l : List D) (n : Led) : Prop
  | mk (rs : List Row) (cs : List Nat) (h2 : l = rs.map rowD) (h3 : (∀ x ∈ rs, x ∈ rowsOf names inner)) (h4 : cs.length = names.length * (names.length - 1) / 2 + 1) (h5 : countFrom sums rs cs = countsOf names inner sums) (h6 : n = [(L, .fr [(Str.ofString "sums", .lst (sums.map D.int)), (Str.ofString "rows", .lst ((rowsOf names inner).map rowD)), (Str.ofString "counts", .raw (.ref b))]), (b, .lst (natD cs)), (L + 4, .cell cp), (L + 3, .cell (some (.int (names.length : Nat)))), (L + 2, .cell (some (.lst (inner.map D.int)))), (L + 1, .cell (some (.lst (names.map D.str))))])
theorem c153 {w : World} {k : Nat} {names : List Str} {inner sums : List Int} (hm : names.length ≤ 5) (hm1 : 0 < names.length) (hin : inner.length = names.length) (hs : sums.length ≤ 100) (hlast : ∀ x ∈ rowsOf names inner, x.2.2 < sums.length ∧ 0 ≤ sums.getD x.2.2 0 ∧ sums.getD x.2.2 0 < (names.length * (names.length - 1) / 2 + 1 : Nat)) :
    Cn w Nn (k + 2) 153 [.lst (names.map D.str), .lst (inner.map D.int), .lst (sums.map D.int)] (fun d => d = .lst (natD (countsOf names inner sums))) := by
  refine enterC (i := 20) (fa := 153) (c := 152) (o := o_153_s22 w.params) (names := [Str.ofString "names", Str.ofString "inner", Str.ofString "sums"]) [(Str.ofString "sums", .lst (sums.map D.int))] [(Str.ofString "place", 4, none), (Str.ofString "many", 3, none), (Str.ofString "inner", 2, some (.lst (inner.map D.int))), (Str.ofString "names", 1, some (.lst (names.map D.str)))]
    (by kernel_rfl) rfl (codeRec_of (by kernel_rfl)) (fun vals h => ?_) rfl (by decide +kernel) (fun L => ?_) (fun L => by rfl) (by simp only [List.map_cons, List.map_nil]; decide +kernel) ?_ ?_ rfl rfl rfl fun A L hA hH => ?_
  · exact len3 h fun _ _ _ => rfl
  · walk_at "cells"
  · walk_at "cells"
  · walk_at "cells"
  conv => arg 4; arg 1; whnf
  unfold cellsAt
  simp only [List.map_cons, List.map_nil]
  walk_at "! exC:_ sAsgT:___ ::r ::r tup_:_ spC:__ seC::r ca_len:__ ::G spC:__ seC::r nmC::rbbrm_ spN:_"
  refine bLenL (ds := names.map D.str) (by simp; omega) ?_
  walk_at "! spC:__ seC::r lstC:_ spC:__ seC::r tup_:_ spC:__ seC::r kI:_ spC:__ seC::r una:_ kI:_ negI:_ spC:__ seC::r kI:_ spN:_"
  refine ⟨szl (by simp), ?_⟩
  walk_at "! spN:_"
  refine ⟨szl (by simp), ?_⟩
  walk_at "! spC:__ seC::r bin:_ lstC:_ spC:__ seC::r kI:_ spN:_"
  refine ⟨szl (by simp), ?_⟩
  walk_at "! bin:_ bin:_ bin:_ ca_len:__ ::G spC:__ seC::r nmC::rbbrm_ spN:_"
  refine bLenL (ds := names.map D.str) (by simp; omega) ?_
  walk_at "! bin:_ ca_len:__ ::G spC:__ seC::r nmC::rbbrm_ spN:_"
  refine bLenL (ds := names.map D.str) (by simp; omega) ?_
  walk_at "! kI:_ subI:_"
  rw [List.length_map]
  have hmm : names.length * (names.length - 1) ≤ 20 := Nat.le_trans (Nat.mul_le_mul hm (show names.length - 1 ≤ 4 by lia)) (by decide)
  refine mulI (small_mul (by exact Nat.lt_of_le_of_lt (by assumption) (by decide)) (by omega)) ?_
  walk_at "! kI:_"
  refine divN (names.length * (names.length - 1)) 2 (by rw [Int.natCast_mul, Int.ofNat_sub (by assumption)]; rfl) rfl (by decide) (by decide) ?_
  walk_at "! kI:_ addI:_"
  have hN : names.length * (names.length - 1) / 2 + 1 ≤ 11 := by grind
  refine mulLO (by exact Int.natCast_nonneg _) (by simp; exact Int.ofNat_lt.mpr (Nat.lt_of_lt_of_le (by assumption) (by decide))) (by omega) fun b => ?_
  rw [show (List.replicate (((names.length * (names.length - 1) / 2 : Nat) : Int) + 1).toNat [D.int 0]).flatten = natD (List.replicate (names.length * (names.length - 1) / 2 + 1) 0) from by
    rw [show (((names.length * (names.length - 1) / 2 : Nat) : Int) + 1).toNat = names.length * (names.length - 1) / 2 + 1 from by exact rfl]
    generalize names.length * (names.length - 1) / 2 + 1 = q
    induction q with
    | zero => rfl
    | succ m ih => rw [List.replicate_succ, List.flatten_cons, ih]; rfl]
  walk_at "! spN:_"
  refine ⟨szl (by simp), ?_⟩
  walk_at "! asT3:___ ::a ::r asN:_ stCU::rbru_ asN:_ stL::rrb_ asN:_ stL::rrb_ qN:_ exC:_ sFor:__ ::f ca_range:__ ::G spC:__ seC::r nmC::rbbrm_ spN:_ bRng1:_"
  refine ⟨_, itemsN names.length rfl (by exact Nat.lt_of_le_of_lt (by assumption) (by decide)), ?_⟩
  refine ForP.forget (b' := [(Str.ofString "sums", .lst (sums.map D.int)), (Str.ofString "rows", .lst ([((0 : Nat), (-1 : Int), (0 : Nat))].map rowD)), (Str.ofString "counts", .raw (.ref b))]) (by walk_at "keep") ?_
  refine ForP.ind (InvFH L b names inner sums) ?_ ?_
    ⟨List.range names.length, [(0, -1, 0)], rfl, fun p hp => List.mem_range.mp hp, List.pairwise_lt_range, fun x hx => by
      rcases List.mem_singleton.mp hx with rfl
      exact ⟨by show (-1 : Int) < _; exact Int.natCast_nonneg _, fun h => absurd h (by decide)⟩, by
      rw [List.length_range, List.length_singleton, Nat.one_mul]
      exact Nat.pow_le_pow_right (by decide) hm, rfl, none, rfl⟩
  · rintro n ⟨ps, rows, hl, hp, hpw, hrw, hrl, he, cp, rfl⟩
    cases ps with
    | cons _ _ => cases hl
    | nil =>
    replace he : rows = rowsOf names inner := he
    subst he
    walk_at "! exN:_ qN:_ exC:_ sFor:__ ::f nmL::rrbbb_"
    refine ⟨_, .lst _, ?_⟩
    refine ForP.ind (InvFH2 L b names inner sums cp) ?_ ?_ ⟨rowsOf names inner, _, rfl, fun _ h => h, List.length_replicate, rfl, rfl⟩
    · rintro n ⟨rs, cs, hl, hmem, hcl, he, rfl⟩
      cases rs with
      | cons _ _ => cases hl
      | nil =>
      replace he : cs = countsOf names inner sums := he
      subst he
      refine frzU (Str.ofString "counts") (by rfl) (by walk_at "upd") ?_
      walk_at "! exN:_ qN:_ exC:_ sRet:_ nmL::rrbbb_ qR:_"
      rfl
    · rintro d r n ⟨rs, cs, hl, hmem, hcl, he, rfl⟩ ih
      cases rs with
      | nil => cases hl
      | cons x rs =>
      rw [List.map_cons] at hl
      injection hl with e1 e2
      subst e1 e2
      obtain ⟨dn, la, fa⟩ := x
      obtain ⟨v1, v2, v3⟩ := hlast _ (hmem _ (.head _))
      simp only at v1 v2 v3
      rw [countFrom] at he
      simp only at he
      show M1 _ _ _ _ _ (D.tup [.int (dn : Nat), .int la, .int (fa : Nat)]) _ _
      refine asT3 hH rfl ?_
      walk_at "! asN:_ stL::rrb_ asN:_ stL::rrb_ asN:_ stL::rrb_ exC:_ sAsgS:__ ::r bin:_ sub:_ nmL::rrbbb_ sub:_ nmL::rrbbb_ nmL::rrbbb_"
      refine itLI sums fa (fun _ _ => ⟨_, rfl⟩) rfl rfl (by lia) v1 ?_
      generalize hq : sums.getD fa 0 = q at *
      refine itO (a := b) (ds := natD cs) (fun _ _ => ⟨_, rfl⟩) (by walk_at "mem") v2 (by grind) (nthN (j := q.toNat) (by rw [Int.toNat_of_nonneg v2]) (by lia)) ?_
      walk_at "! kI:_ addI:_ nmL::rrbbb_ sub:_ nmL::rrbbb_ nmL::rrbbb_"
      refine itLI sums fa (fun _ _ => ⟨_, rfl⟩) rfl rfl (by lia) v1 ?_
      rw [hq]
      refine setU (by walk_at "upd") v2 (by omega) (by simp; simp only [*]) ?_
      walk_at "! qN:_ exN:_ zN:_"
      rw [show (natD cs).set q.toNat (D.int (((cs.getD q.toNat 0 : Nat) : Int) + 1)) = natD (cs.set q.toNat (cs.getD q.toNat 0 + 1)) from by unfold natD; rw [List.map_set]; rfl]
      exact ForP.forget (b' := [(Str.ofString "sums", .lst (sums.map D.int)), (Str.ofString "rows", .lst ((rowsOf names inner).map rowD)), (Str.ofString "counts", .raw (.ref b))]) (by walk_at "keep") (ih _ ⟨rs, _, rfl, fun y hy => hmem y (.tail _ hy), by rw [List.length_set]; exact hcl, he, rfl⟩)
  · rintro d r n ⟨ps, rows, hl, hp, hpw, hrw, hrl, he, cp, rfl⟩ ih
    cases ps with
    | nil => cases hl
    | cons pl ps =>
    rw [List.map_cons] at hl
    injection hl with e1 e2
    subst e1 e2
    walk_at "! asN:_ stCU::rbru_ exC:_"
    have hpl : pl < names.length := hp pl (.head _)
    rw [List.pairwise_cons] at hpw
    rw [rowsFrom] at he
    have hrl0 : rows.length ≤ 3125 := Nat.le_trans (Nat.le_mul_of_pos_right _ (Nat.pow_pos (by decide))) hrl
    refine sAsgU2 rfl rfl rfl (by decide +kernel) (by decide +kernel) (fun _ => rfl) (fun _ _ => rfl) ?_
    walk_at "! nmL::rrbbb_"
    refine ⟨_, .lst _, fun C => comp2FM rowD (fun x => [(Str.ofString "done", D.int (x.1 : Nat)), (Str.ofString "last", D.int x.2.1), (Str.ofString "falls", D.int (x.2.2 : Nat))]) (fun _ => List.range names.length) (fun j : Nat => D.int j) (fun x j => [(Str.ofString "done", D.int (x.1 : Nat)), (Str.ofString "last", D.int x.2.1), (Str.ofString "falls", D.int (x.2.2 : Nat)), (Str.ofString "k", D.int (j : Nat))]) (rowOk inner) (fun x j => rowD (rowNext names pl x j)) rows ?_ ?_ ?_ ?_ ?_ [] [] ?_ fun b' => ⟨_, _, rfl, ?_⟩⟩
    · intro x hx
      refine ⟨by walk_at "keep", ?_⟩
      show M1 _ _ _ _ _ (D.tup [.int (x.1 : Nat), .int x.2.1, .int (x.2.2 : Nat)]) _ _
      refine asT3 hH rfl ?_
      walk_at "! asN:_ stL::rrb_ asN:_ stL::rrb_ asN:_ stL::rrb_"
      rfl
    · intro x hx
      walk_at "! ca_range:__ ::G spC:__ seC::r nmC::rbbrm_ spN:_ bRng1:_"
      exact ⟨rfl, itemsN _ rfl (by exact Nat.lt_of_le_of_lt (by assumption) (by decide))⟩
    · intro x hx j hj
      refine ⟨by walk_at "keep", ?_⟩
      walk_at "! asN:_ stL::rrb_"
      rfl
    · intro x hx j hj
      have hjl := List.mem_range.mp hj
      walk_at "! te1:_ trA:_ trC:__ ::r bin:_ bin:_ nmL::rrbbb_ bin:_ kI:_ nmL::rrbbb_"
      refine powI (by exact Int.natCast_nonneg _) (by rw [show Builtin.Int.intBits 2 = 2 from rfl]; lia) ?_
      refine divN x.1 (2 ^ j) rfl (by rw [Int.toNat_natCast]; simp) (Nat.pow_pos (by decide)) (Nat.lt_of_le_of_lt (Nat.pow_le_pow_right (by decide) (show j ≤ 10 by lia)) (by decide)) ?_
      walk_at "! kI:_"
      refine modN _ 2 rfl rfl (by decide) ?_
      walk_at "! kI:_ eqI:_"
      refine ⟨_, rfl, ?_⟩
      have hz : (((x.1 / 2 ^ j % 2 : Nat) : Int) == 0) = (x.1 / 2 ^ j % 2 == 0) := by
        rw [Bool.eq_iff_iff, beq_iff_eq, beq_iff_eq]; grind
      rw [hz]
      by_cases h0 : (x.1 / 2 ^ j % 2 == 0) = true
      · refine iT h0 ?_
        walk_at "! trA:_ trC:__ ::r bin:_ sub:_ nmC::rbbrm_ nmL::rrbbb_"
        refine itLI inner j (fun _ _ => ⟨_, rfl⟩) rfl rfl (by lia) (by simp only [*]) ?_
        walk_at "! nmL::rrbbb_ andI:_ sub:_ nmC::rbbrm_ nmL::rrbbb_"
        refine itLI inner j (fun _ _ => ⟨_, rfl⟩) rfl rfl (by omega) (by omega) ?_
        walk_at "! eqI:_"
        refine ⟨_, rfl, ?_⟩
        by_cases h1 : (Builtin.bitAnd (inner.getD j 0) x.1 == inner.getD j 0) = true
        · refine iT h1 ?_
          walk_at "! trA0:_"
          refine ⟨rfl, ?_⟩
          unfold rowOk; rw [h0, h1]; rfl
        · refine iF h1 ?_
          refine ⟨rfl, ?_⟩
          unfold rowOk
          have h1' : (Builtin.bitAnd (inner.getD j 0) x.1 == inner.getD j 0) = false := by simpa using h1
          rw [h0, h1']; rfl
      · refine iF h0 ?_
        refine ⟨rfl, ?_⟩
        unfold rowOk
        have h0' : (x.1 / 2 ^ j % 2 == 0) = false := by simpa using h0
        rw [h0']; rfl
    · intro x hx j hj _
      have hjl := List.mem_range.mp hj
      obtain ⟨w1, w2⟩ := hrw x hx
      walk_at "! tup_:_ spC:__ seC::r bin:_ nmL::rrbbb_ bin:_ kI:_ nmL::rrbbb_"
      refine powI (by exact Int.natCast_nonneg _) (by rw [show Builtin.Int.intBits 2 = 2 from rfl]; omega) ?_
      walk_at "! addI:_ spC:__ seC::r nmL::rrbbb_ spC:__ seC::r bin:_ nmL::rrbbb_ ife:_ trA:_ trC:__ ::r nmL::rrbbb_ kI:_ geI:_"
      refine ⟨_, rfl, ?_⟩
      by_cases h0 : 0 ≤ x.2.1
      · refine iT (by simpa using h0) ?_
        have hpl1 := w2 h0 pl (.head _)
        walk_at "! trA:_ trC:__ ::r tup_:_ spC:__ seC::r sub:_ nmC::rbbrm_ nmL::rrbbb_"
        refine itLS names x.2.1.toNat (fun _ _ => ⟨_, rfl⟩) rfl (by rw [Int.toNat_of_nonneg h0]) (by lia) (by lia) ?_
        walk_at "! spC:__ seC::r nmL::rrbbb_ spN:_"
        refine ⟨szl (by simp), ?_⟩
        walk_at "! tup_:_ spC:__ seC::r sub:_ nmC::rbbrm_ nmL::rrbbb_"
        refine itLS names j (fun _ _ => ⟨_, rfl⟩) rfl rfl (by lia) hjl ?_
        walk_at "! spC:__ seC::r nmL::rrbbb_ spN:_"
        refine ⟨szl (by simp), ?_⟩
        refine gtT hA ?_
        refine ⟨_, rfl, ?_⟩
        by_cases h1 : gtSI (names.getD x.2.1.toNat Str.empty) x.2.1 (names.getD j Str.empty) (j : Nat) = true
        · refine iT h1 ?_
          walk_at "! trA0:_"
          refine iT rfl ?_
          walk_at "! bin:_ kI:_ bin:_ nmC::rbbrm_ kI:_ subI:_"
          refine powI (by grind) (by rw [show Builtin.Int.intBits 2 = 2 from rfl]; lia) ?_
          walk_at "! addI:_ spN:_"
          refine ⟨szl (by simp), rfl, ?_⟩
          unfold rowD rowNext fallAdd
          rw [if_pos (⟨h0, h1⟩)]
          rw [Int.toNat_natCast, show ((pl : Int) - 1).toNat = pl - 1 from by simp]
          push_cast
          rfl
        · refine iF h1 ?_
          refine iF Bool.false_ne_true ?_
          walk_at "! kI:_ addI:_ spN:_"
          refine ⟨szl (by simp), rfl, ?_⟩
          unfold rowD rowNext fallAdd
          rw [if_neg (fun h => h1 h.2)]
          rw [Int.toNat_natCast]
          push_cast
          rfl
      · refine iF (by simpa using h0) ?_
        refine iF Bool.false_ne_true ?_
        walk_at "! kI:_ addI:_ spN:_"
        refine ⟨szl (by simp), rfl, ?_⟩
        unfold rowD rowNext fallAdd
        rw [if_neg (fun h => h0 h.1)]
        rw [Int.toNat_natCast]
        push_cast
        rfl
    · have hsum : ∀ l : List Row, (l.map fun _ : Row => (List.range names.length).length).sum ≤ l.length * 5 := by
        intro l
        induction l with
        | nil => exact Nat.le_refl _
        | cons x r ihr => rw [List.map_cons, List.sum_cons, List.length_cons, List.length_range]; rw [List.length_range] at ihr; grind
      have := hsum rows
      rw [sizeLine_eq, List.length_nil]
      grind
    · rw [List.nil_append, show (rows.flatMap fun x => ((List.range names.length).filter (rowOk inner x)).map fun j => rowD (rowNext names pl x j)) = (rowsStep names inner pl rows).map rowD from by
        unfold rowsStep
        rw [List.map_flatMap]
        congr 1
        funext x
        rw [List.map_map]; rfl]
      walk_at "! stL::rrb_ qN:_ exN:_ zN:_"
      exact ForP.forget (b' := [(Str.ofString "sums", .lst (sums.map D.int)), (Str.ofString "rows", .lst ((rowsStep names inner pl rows).map rowD)), (Str.ofString "counts", .raw (.ref b))]) (by walk_at "keep") (ih _ ⟨ps, rowsStep names inner pl rows, rfl, fun q hq => hp q (.tail _ hq), hpw.2, fun y hy => by
        obtain ⟨x, hx, hy⟩ := List.mem_flatMap.mp hy
        obtain ⟨j, hj, rfl⟩ := List.mem_map.mp hy
        have := List.mem_range.mp (List.mem_filter.mp hj).1
        exact ⟨by show (j : Int) < _; exact Int.ofNat_lt.mpr (by assumption), fun _ q hq => Nat.lt_of_le_of_lt (Nat.zero_le _) (hpw.1 q hq)⟩, by
        have h1 := rowsStep_len (names := names) (inner := inner) (place := pl) (rows := rows)
        rw [List.length_cons, Nat.pow_succ] at hrl
        have h2 : (rowsStep names inner pl rows).length ≤ rows.length * 5 := Nat.le_trans h1 (Nat.mul_le_mul_left _ hm)
        calc (rowsStep names inner pl rows).length * 5 ^ ps.length ≤ rows.length * 5 * 5 ^ ps.length := Nat.mul_le_mul_right _ h2
          _ = rows.length * (5 ^ ps.length * 5) := by rw [Nat.mul_assoc, Nat.mul_comm 5]
          _ ≤ 3125 := hrl, he, _, rfl⟩)
end
section -- FI
noncomputable abbrev env29 (L : Addr) : Env := envOf (fnName (stAt 3)) (fnScope (stAt 3)) L 29 (.ref 28)
theorem cameBack {w : World} {A : Around} {E : Value → Shared → Prop} {F : Bs} {Z : ZM} {n : Led} {s : Shared} {env : Env} {e T : Addr} {fl : Value} (k : St w none F Z ((e, .any) :: (T, .any) :: n) s) (hx : XAt s.heap e T fl)
    (h : ∀ s', St w none F Z ((e, .any) :: (T, .any) :: n) s' → XAt s'.heap e T (env.frame.elim .none fun f => rawInt f) → s'.gens = s.gens → E (.ref e) s') : cameBackBy (Md w) A env E (.ref e) s := by
  obtain ⟨oe, vs, oT, ts, he, hc, hd, hz, h1, h2, r⟩ := id hx
  unfold cameBackBy
  refine wpAny_bind (wpAny_field he hd h1 ?_)
  rw [if_neg (by simp)]
  exact flight k hx h
theorem leaveNew {w : World} {A : Around} {E : Value → Shared → Prop} {F : Bs} {Z : ZM} {n : Led} {s : Shared} {env : Env} {outer : List Env} {L e : Addr} {Q : Unit → Shared → Prop} (hfr : A.frames = some (env :: outer)) (hok : FrOk (env :: outer) n) (hf : env.frame = some L) (k : St w none F Z ((e, .any) :: n) s) (hx : X0At s.heap e)
    (h : ∀ T s', St w none F Z ((e, .any) :: (T, .any) :: n) s' → XAt s'.heap e T .none → s'.gens = s.gens → Q () s') : wpAny (Md w) A (leaving env (.ref e)) Q E s := by
  unfold leaving
  exact wpAny_bind (noteNew hfr hok hf k hx fun T s' k' hx' hg => flight k' hx' fun s'' k'' hx'' hg' => h T s'' k'' hx'' (hg'.trans hg))
theorem leaveSame {w : World} {A : Around} {E : Value → Shared → Prop} {F : Bs} {Z : ZM} {n : Led} {s : Shared} {env : Env} {L e T : Addr} {Q : Unit → Shared → Prop} (hf : env.frame = some L) (k : St w none F Z ((e, .any) :: (T, .any) :: n) s) (hx : XAt s.heap e T (rawInt L))
    (h : ∀ s', St w none F Z ((e, .any) :: (T, .any) :: n) s' → XAt s'.heap e T .none → s'.gens = s.gens → Q () s') : wpAny (Md w) A (leaving env (.ref e)) Q E s := by
  unfold leaving
  exact wpAny_bind (noteSame hf hx (flight k hx fun s'' k'' hx'' hg' => h s'' k'' hx'' hg'))
theorem seqH {w : World} {A : Around} {E : Value → Shared → Prop} {F : Bs} {Z : ZM} {n n₁ : Led} {s : Shared} {env : Env} {st : Stmt} {rest : List Stmt} {Q : Flow → Shared → Prop} (k : St w A.handled F Z n s) (h : Hs w A E (exec st env) n (fun n' f => f = .next ∧ n' = n₁))
    (hk : ∀ Z' s', Le Z Z' → GE s.gens s'.gens → St w A.handled F Z' n₁ s' → wpAny (Md w) A (execs rest env) Q E s') : wpAny (Md w) A (execs (st :: rest) env) Q E s :=
  wpAny_execs_cons (Po.map (h F Z s k) fun f fd n₂ Z₂ s₂ le ge k₂ r₂ h₂ => by
    obtain ⟨rfl, rfl⟩ := h₂
    cases r₂
    exact hk _ _ le ge k₂)
theorem c29X {w : World} {A : Around} {E : Value → Shared → Prop} {F : Bs} {Z : ZM} {s : Shared} {l r : Led} {it : Addr} {outer : List Env} {ds : List D} {Q : Value → Shared → Prop} (hA : Rm 2 A) (hh : A.handled = none) (hfr : A.frames = some outer) (hok : FrOk outer (l ++ r))
    (k : St w A.handled F Z (l ++ (it, .li ds) :: r) s) (hds : ds = [] ∨ ds = [.int (64 : Nat)])
    (hE : ∀ e T Z' s', Le Z Z' → GE s.gens s'.gens → St w none F Z' ((e, .any) :: (T, .any) :: (l ++ (it, .any) :: r)) s' → XAt s'.heap e T .none → E (.ref e) s') : wpAny (Md w) A (call (.ref 29) [.ref it]) Q E s := by
  have top := k.topH
  refine wpAny_call (call_plain (o := o_29_s9 w.params) (name := fnName (stAt 3)) (params := fnArgs (stAt 3)) (body := fnBody (stAt 3)) (scope := fnScope (stAt 3)) (cd := .ref 28) (binds := [(Str.ofString "iterator", .ref it)]) hA.room (top _ _ (by kernel_rfl)) rfl ((noLim w.params).keeps top) ((codeRec_of (c := 28) (nm := fnName (stAt 3)) (by kernel_rfl)).keeps top) rfl (fun x hx => by
    rcases List.mem_singleton.mp hx with rfl; exact (by decide +kernel : (fnScope (stAt 3)).names.lookup (Str.ofString "iterator") = some .local)) (fun h₁ Fr₁ => ?_) rfl rfl rfl (by decide +kernel))
  generalize hL : s.heap.objs.size = L at Fr₁ ⊢
  have k₁ : St w (A.deeper (env29 L)).handled F Z ((L, .fr [(Str.ofString "iterator", .raw (.ref it))]) :: (l ++ (it, .li ds) :: r)) { s with heap := h₁, toks := s.toks + 1 } := k.cons (by rw [← hL]; exact top_none) Fr₁.keep (GE.refl _) rfl ⟨_, Fr₁.ns, fun y d e => by
    rw [List.lookup_cons] at e
    cases hy : y == Str.ofString "iterator" with
    | true =>
      rw [hy] at e; cases e
      have := beq_iff_eq.mp hy
      subst this
      exact ⟨.ref it, by simp, .raw _⟩
    | false => rw [hy] at e; cases e⟩
  have hfr' : (A.deeper (env29 L)).frames = some (env29 L :: outer) := by show A.frames.map _ = _; rw [hfr]; rfl
  have hok' : ∀ b, FrOk (env29 L :: outer) ((L, .fr b) :: (l ++ (it, .any) :: r)) := fun b env he => by
    rcases List.mem_cons.mp he with rfl | he
    · exact ⟨(by decide +kernel : (fnScope (stAt 3)).kind ≠ .module), L, b, rfl, .head _⟩
    · obtain ⟨a, L', b', c, d⟩ := hok env he
      refine ⟨a, L', b', c, .tail _ ?_⟩
      rcases List.mem_append.mp d with d | d
      · exact List.mem_append_left _ d
      · exact List.mem_append_right _ (.tail _ d)
  have hB : Rm 1 (A.deeper (env29 L)) := hA.deeper _
  show wpAny (Md w) (A.deeper (env29 L)) (execs (fnBody (stAt 3)) (env29 L)) _ _ _
  generalize hBq : A.deeper (env29 L) = B at *
  have hBh : B.handled = none := by rw [← hBq]; exact hh
  conv => arg 3; arg 1; whnf
  rcases hds with rfl | rfl
  · refine wpAny_execs_cons (wpAny_Assign_Name (nextX hBh rfl rfl rfl rfl (by rfl) (by rfl) (by rfl) k₁ rfl fun e s' k₂ hx hg => ?_) rfl)
    refine leaveNew hfr' (hok' _) rfl k₂ hx fun T s'' k₃ hx₃ hg₃ => ?_
    exact hE e T Z s'' (Le.refl _) (by rw [hg₃, hg]; exact GE.refl _) (k₃.drop (.cons_cons _ (.cons_cons _ (List.sublist_cons_self _ _)))) hx₃
  · refine seqH (n₁ := (L, .fr [(Str.ofString "iterator", .raw (.ref it)), (Str.ofString "b", .int (64 : Nat))]) :: (l ++ (it, .li []) :: r)) k₁ ?_ fun Z₂ s₂ le₂ ge₂ k₂ => ?_
    · walk_at "! sAsgN:__ ::r ca_next:__ ::G spC:__ seC::r nmL::rrbbb_ spN:_"
      refine bNext (l := _ :: l) (by rfl) ?_
      walk_at "! stL::rrb_"
      exact ⟨rfl, rfl⟩
    refine seqH (n₁ := (L, .fr [(Str.ofString "iterator", .raw (.ref it)), (Str.ofString "b", .int (64 : Nat)), (Str.ofString "val", .int 0)]) :: (l ++ (it, .li []) :: r)) k₂ ?_ fun Z₃ s₃ le₃ ge₃ k₃ => ?_
    · walk_at "! sAsgN:__ ::r bin:_ nmL::rrbbb_ kI:_ andI:_ stL::rrb_"
      exact ⟨rfl, rfl⟩
    refine wpAny_execs_cons (wpAny_While (codeAny_of_tree ?_))
    show wpAny _ B ((do
      if ← PySem.isTrue _ (env29 L) (eval _ (env29 L)) then
        match ← execs _ (env29 L) with
        | .next | .cont => again (.whileLoop _ _ _ (env29 L))
        | .brk => pure (.done .next)
        | .ret v => pure (.done (.ret v))
      else return .done (← execs _ (env29 L)) : Sem PySem.Fin).onRaise (fun x => do noteFrame x (env29 L); theTreesLotGoes x)) _ _ _
    refine wpAny_noted (wpAny_bind (Po.map ((show Hb w B _ _ _ (fun n' c => n' = (L, .fr [(Str.ofString "iterator", .raw (.ref it)), (Str.ofString "b", .int (64 : Nat)), (Str.ofString "val", .int 0)]) :: (l ++ (it, .li []) :: r) ∧ c = true) from ?_) F Z₃ _ k₃) fun c c' n₄ Z₄ s₄ le₄ ge₄ k₄ (rc : c = c') h₄ => ?_))
    · walk_at "! trPb:__ ::r bin:_ nmL::rrbbb_ kI:_ andI:_ tyI:_"
      exact ⟨rfl, by decide +kernel⟩
    obtain ⟨rfl, rfl⟩ := h₄
    subst rc
    rw [if_pos rfl]
    refine wpAny_bind ?_
    refine seqH (n₁ := (L, .fr [(Str.ofString "iterator", .raw (.ref it)), (Str.ofString "b", .int (64 : Nat)), (Str.ofString "val", .int 0)]) :: (l ++ (it, .li []) :: r)) k₄ ?_ fun Z₅ s₅ le₅ ge₅ k₅ => ?_
    · walk_at "! sAug::rrbb_ kI:_"
      refine ishlI (by decide) (by decide) ?_
      walk_at "! stL::rrb_"
      exact ⟨rfl, rfl⟩
    refine wpAny_execs_cons (wpAny_Assign_Name (nextX hBh rfl rfl rfl rfl (by rfl) (by rfl) (by rfl) k₅ rfl fun e s' k₆ hx hg => ?_) rfl)
    unfold notedBy
    refine noteNew hfr' (hok' _) rfl k₆ hx fun T s₇ k₇ hx₇ hg₇ => ?_
    refine cameBack k₇ hx₇ fun s₈ k₈ hx₈ hg₈ => ?_
    refine leaveSame rfl k₈ hx₈ fun s₉ k₉ hx₉ hg₉ => ?_
    exact hE e T Z₅ s₉ (((le₂.trans le₃).trans le₄).trans le₅) (by rw [hg₉, hg₈, hg₇, hg]; exact ((ge₂.trans ge₃).trans ge₄).trans ge₅) (k₉.drop (.cons_cons _ (.cons_cons _ (List.sublist_cons_self _ _)))) hx₉
end
section -- Lj
theorem sub_stop_base : isSubtype (.type "StopIteration") (.type "BaseException") = pure true := by rw [isSubtype_type]; kernel_rfl
theorem sub_stop_self : isSubtype (.type "StopIteration") (.type "StopIteration") = pure true := by rw [isSubtype_type]; kernel_rfl
theorem stop_meta : isSubtype (.type ((Manifest.find? "StopIteration").elim "type" fun x => x.metatype)) (.type "tuple") = pure false := by
  rw [show ((Manifest.find? "StopIteration").elim "type" fun x => x.metatype) = "type" from by kernel_rfl, isSubtype_type]; kernel_rfl
theorem cStatics_some (P : Params) : ((H1 P).get? cStatics).isSome = true := by kernel_rfl
theorem cStatics_top (P : Params) : ∃ o, (H1 P).get? cStatics = some o := Option.isSome_iff_exists.mp (cStatics_some P)
theorem St.un {w : World} {hd : Option Value} {F : Bs} {Z : ZM} {n : Led} {s : Shared} (k : St w hd F Z n s) : St w none F Z n s := ⟨k.tp, trivial, k.kp, k.z0, k.fz, k.nw, k.nd, k.ge, k.os⟩
theorem St.hold {w : World} {hd hd' : Option Value} {F : Bs} {Z : ZM} {n : Led} {s : Shared} (k : St w hd F Z n s) (h : HOk Z hd') : St w hd' F Z n s := ⟨k.tp, h, k.kp, k.z0, k.fz, k.nw, k.nd, k.ge, k.os⟩
theorem Rm.mark {k : Nat} {A : Around} (h : Rm k A) (v : Option Value) : Rm k (A.mark v) := ⟨h.d, h.u⟩
/-- the try of the law: what is read raises StopIteration, and the suite runs -/
theorem sTryX {w : World} {A : Around} {E : Value → Shared → Prop} {env : Env} {L it c : Addr} {b : Binds} {l r : Led} {ds : List D} {P : Led → Fl → Prop} {p₁ p₂ p₃ p₄ p₅ p₆ pos : Pos} {st₂ b₀ : Stmt} {suite : List Stmt} {k : Nat} (hA : Rm (k + 2) A) (hh : A.handled = none) (hfr : A.frames = some [env])
    (hL : env.locals = L) (hf : env.frame = some L) (hg : env.globals = mainGlobals) (hbt : env.builtins = builtinsNs) (hk : env.scope.kind = .function) (hl1 : env.kindOf (Str.ofString "_parse_varint") = some .globalImplicit) (hl2 : env.kindOf (Str.ofString "reader") = some .cell) (hl3 : env.kindOf (Str.ofString "StopIteration") = some .globalImplicit) (hi : interactive env = false)
    (hc₀ : env.cells.lookup (Str.ofString "reader") = some c) (hc : (c, It.cell (some (.raw (.ref it)))) ∈ l ++ r) (hds : ds = [] ∨ ds = [.int (64 : Nat)])
    (hcall : eval (.Call (.Name (Str.ofString "_parse_varint") p₁) [.Name (Str.ofString "reader") p₂] [] p₃) env = (do callWith p₃ (← eval (.Name (Str.ofString "_parse_varint") p₁) env) [] (backTo p₃ (starEach [.Name (Str.ofString "reader") p₂] env)) (backToKw p₃ (keywordEach [] env))))
    (hsw : swapsWith (.Call (.Name (Str.ofString "_parse_varint") p₁) [.Name (Str.ofString "reader") p₂] [] p₃) none p₄.line env = pure false)
    (h : ∀ A', Rm (k + 2) A' → Hs w A' NoE (execs (b₀ :: suite) env) ((L, .fr b) :: (l ++ (it, .any) :: r)) P) :
    Hs w A E (exec (.Try [.Expr (.Call (.Name (Str.ofString "_parse_varint") p₁) [.Name (Str.ofString "reader") p₂] [] p₃) p₄, st₂] [.ExceptHandler (some (.Name (Str.ofString "StopIteration") p₅)) none (b₀ :: suite) p₆] [] [] pos) env) ((L, .fr b) :: (l ++ (it, .li ds) :: r)) P := fun F Z s ks => by
  have kn := ks.hd hh
  have hcm : (c, It.cell (some (.raw (.ref it)))) ∈ (L, It.fr b) :: (l ++ (it, .li ds) :: r) := by
    rcases List.mem_append.mp hc with h | h
    · exact .tail _ (List.mem_append_left _ h)
    · exact .tail _ (List.mem_append_right _ (.tail _ h))
  have hok : ∀ i : It, FrOk [env] ((L, It.fr b) :: (l ++ (it, i) :: r)) := fun i env' he => by
    rcases List.mem_singleton.mp he with rfl
    exact ⟨by rw [hk]; decide, L, b, hf, .head _⟩
  refine wpAny_Try_except (wpAny_execs_cons (wpAny_Expr ?_ hi hsw))
  -- the call
  refine Call_ ?_ hcall
  have n1 : ∀ E', wpAny (Md w) A (eval (.Name (Str.ofString "_parse_varint") p₁) env) (fun v s' => v = .ref 29 ∧ s' = s) E' s := fun E' =>
    Name_function_global hk hl1 (loadGlobal_global (by rw [hg]; exact (nsG w.params).keeps ks.topH) (gt_parse_varint _) ⟨rfl, rfl⟩) (by rfl)
  refine wpAny_mono (n1 _) (fun v s' q => ?_) fun _ _ e => e
  obtain ⟨rfl, rfl⟩ := q
  obtain ⟨o29, fd, ho29, hfd⟩ := fn_29 w.params
  refine callWith_function (o := o29) (fd := fd) (evalArgs_plain ?_)
  show wpAny (Md w) A (spliced (backTo p₃ (starEach [.Name (Str.ofString "reader") p₂] env))) _ _ s'
  refine spliced_more ?_ rfl
  obtain ⟨⟨o, hoc, v, rfl, rv⟩, _⟩ := ks.nw _ hcm
  cases rv
  refine wpAny_Name (wpAny_loadName_cell hk hl2 hc₀ hoc ?_) (by rfl)
  refine spliced_none ⟨⟨ks.topH _ _ ho29, hfd⟩, ?_⟩
  refine c29X (l := (L, It.fr b) :: l) (r := r) (hA.le (by exact Nat.le_add_left _ _)) hh hfr (fun env' he => by
    rcases List.mem_singleton.mp he with rfl
    exact ⟨by rw [hk]; decide, L, b, hf, .head _⟩) ks hds fun e T Z₁ s₁ le₁ ge₁ k₁ hx₁ => ?_
  -- the law's own frame
  refine noteNext hfr (hok .any) hf k₁ hx₁ fun T₂ s₂ k₂ hx₂ hg₂ => ?_
  refine flight k₂ hx₂ fun s₃ k₃ hx₃ hg₃ => ?_
  have hty : s₃.TypeIs (.ref e) "StopIteration" := by
    obtain ⟨oe, vs, oT, ts, he, hce, _⟩ := hx₃
    exact ⟨oe, he, hce⟩
  refine wpAny_handleBy_builtin sub_stop_base stop_meta sub_stop_self ?_
  refine Name_function_global hk hl3 (loadGlobal_builtin (by rw [hg]; exact (nsG w.params).keeps k₃.topH) (bm_StopIteration _) (by rw [hbt]; exact (nsB w.params).keeps k₃.topH) (bt_StopIteration _) ⟨rfl, hty, ?_⟩) (by rfl)
  rw [if_pos rfl]
  refine flight k₃ hx₃ fun s₄ k₄ hx₄ hg₄ => ?_
  obtain ⟨oe, vs, oT, ts, he, hce, hd, hz, h1, h2, _⟩ := hx₄
  obtain ⟨le₂, k₅⟩ := k₄.freeze (l := []) rfl he
  have hne : e ≠ cStatics := fun q => by
    obtain ⟨o, ho⟩ := cStatics_top w.params
    have hz := (k₄.nw _ (.head _)).2.1
    rw [q] at hz
    rw [k₄.tp _ _ ho] at hz; cases hz
  have k₆ : St w (A.mark (some (.ref e))).handled F _ ((L, .fr b) :: (l ++ (it, .any) :: r)) s₄ := (k₅.drop (n' := (L, .fr b) :: (l ++ (it, .any) :: r)) (List.sublist_cons_self _ _)).hold ⟨e, oe, vs, rfl, ins_self, hd, h2, hne⟩
  refine wpAny_mono (h (A.mark (some (.ref e))) (hA.mark _) F _ s₄ k₆) (fun f s₅ q => ?_) fun _ _ f => f.elim
  obtain ⟨Z₅, n₅, fd₅, le₅, ge₅, k₇, r₇, h₇⟩ := q
  exact ⟨Z₅, n₅, fd₅, (le₁.trans le₂).trans le₅, by rw [show s₄.gens = s₁.gens from by rw [hg₄, hg₃, hg₂]] at ge₅; exact ge₁.trans ge₅, (k₇.un).hd hh.symm, r₇, h₇⟩
end
section -- FJ
noncomputable def ownL : List Int := [213960, 12180, 51301, 811082, 617340, 320]
noncomputable def cellOf (script : List Int) (p : Nat) : Nat := ((ownL.getD p 0 + (if p < 5 then (pick script (some (p : Int)) (some 60) (some 6)).sum else (pick script none (some 60) none).sum)).fmod 1000000).toNat
noncomputable def cellsOf (script : List Int) : List Nat := (List.range 6).map (cellOf script)
noncomputable def manyOf (script : List Int) : Nat := if 3 < script.length then 5 else 4
noncomputable def keptOf (t : Str) : List Nat := t.cps.toList.filter fun c => inB1 c != true
noncomputable def prepOf (t : Str) : Str := Txt.join (Str.ofString "") ((keptOf t).map b3Map)
noncomputable def rowsL (prepared shown : Str) : List Str := [Str.ofString "\"((((((\"" ++ prepared, Str.ofString "(" ++ shown, Str.ofString ")" ++ shown ++ Str.ofString "(", shown ++ Str.ofString "\")"]
noncomputable def readMany : Nat → List Int → Option (List Int × List Int)
  | 0, l => some ([], l)
  | n + 1, l => match varint l with
    | none => none
    | some (v, l') => match readMany n l' with
      | none => none
      | some (vs, r) => some (v :: vs, r)
noncomputable def sumsOf (c many : Nat) : List Int := (List.range (2 ^ (many - 1))).map fun f => sumOf f c many
noncomputable def packOf (c : Nat) (counts : List Nat) : List Nat := (downTo counts.length).map fun k => counts.getD (k - 1) 0 + (if k - 1 > 0 then 64 else 0) + 128 * ((c / 90 + (k - 1)) % 2)
noncomputable def leastL (many : Nat) (meant : List Str) (outer : List Int) : List Nat := (List.range many).filter fun k => decide (0 ≤ outer.getD k 0) && !(decide ((meant.getD k Str.empty).cps.toList < (meant.getD (outer.getD k 0).toNat Str.empty).cps.toList))
/-- what holds of the law's numbers and texts -/
structure LawOk (cells : List Nat) (many : Nat) (typed left : Str) (meant : List Str) (outer inner : List Int) (told : List Nat) (rest : List Int) (counts : List Nat) (number : Int) : Prop where
  ht : typedOf cells many = typed
  hl : leftOf cells many = left
  hm : (nestOf cells many).m = meant
  ho : (nestOf cells many).o = outer
  lt : typed.length ≤ 900
  jp : JoinOk (Str.ofString "") ((keptOf typed).map b3Map) = true
  lp : (prepOf typed).length ≤ 400
  sp : StripOk (prepOf typed)
  st : stripQ (prepOf typed) = left
  ll : left.length ≤ 400
  lu : (unitsOfS left).length ≤ 400
  ls : (startsOf left).length < 64
  sc : ∀ p e, StripOk (cutOf left p e)
  rd : readLoop left (unitsOfS left) (Str.ofString "") [] [] = some (left ++ Str.ofString "\\", meant, inner)
  nm : meant.length = many
  no : outer.length = many
  ni : inner.length = many
  oo : ∀ k < many, outer.getD k (-1) < many
  su : ∀ f < 2 ^ (many - 1), ((pfLoop (List.range 32) (flagArg f (cells.getD 5 0) many) []).2.2 = false → (baseText "0x" 16 (pfLoop (List.range 32) (flagArg f (cells.getD 5 0) many) []).2.1).length ≤ 1000) ∧
    JoinOk (Str.ofString ", ") (pfNames (flagArg f (cells.getD 5 0) many)) = true ∧ JoinOk (Str.ofString ", ") (dueOf f (cells.getD 5 0) many) = true
  sm : (sumsOf (cells.getD 5 0) many).contains (-1) = false
  pr : ∀ t ∈ rowsL (prepOf typed) left, StripOk t
  pv : (rowsL (prepOf typed) left).map prepOne = [Str.ofString "\"((((((\"" ++ prepOf typed, badPair, badPair, badPair]
  rm : readMany many ((tapeOf outer cells).map fun c : Nat => (c : Int)) = some (told.map fun c : Nat => (c : Int), rest)
  re : rest = [] ∨ rest = [64]
  tl : told.length = many
  td : (told.map fun c => c / 11) = cells.take many
  co : countsOf meant inner (sumsOf (cells.getD 5 0) many) = counts
  ch : ∀ x ∈ rowsOf meant inner, x.2.2 < (sumsOf (cells.getD 5 0) many).length ∧ 0 ≤ (sumsOf (cells.getD 5 0) many).getD x.2.2 0 ∧ (sumsOf (cells.getD 5 0) many).getD x.2.2 0 < (meant.length * (meant.length - 1) / 2 + 1 : Nat)
  cl : 0 < counts.length ∧ counts.length < 64
  vr : varint ((packOf (cells.getD 5 0) counts).map fun c : Nat => (c : Int)) = some (number, [])
  nb : number.natAbs < 2 ^ 200
  fin : number * prodI (told.map fun c => c % 11) = 64 ^ ((leastL many meant outer).map fun k => told.getD k 0 % 11).sum * prodI ((List.range many).map (· + 1))
theorem pick_map {α β : Type} (f : α → β) (l : List α) (a b c : Option Int) : pick (l.map f) a b c = (pick l a b c).map f := by
  unfold pick
  rw [List.length_map, List.map_filterMap]
  congr 1
  funext i
  rw [List.getElem?_map]
theorem cell_cast (script : List Int) (p : Nat) (x : Int) (hx : x = ownL.getD p 0 + (if p < 5 then (pick script (some (p : Int)) (some 60) (some 6)).sum else (pick script none (some 60) none).sum)) : Int.fmod x 1000000 = ((cellOf script p : Nat) : Int) := by
  subst hx
  unfold cellOf
  rw [Int.toNat_of_nonneg (Int.fmod_nonneg_of_pos _ (by decide))]
end
section -- FK
theorem c165 {w : World} {k : Nat} {script : List Int} {typed left : Str} {meant : List Str} {outer inner : List Int} {told : List Nat} {rest : List Int} {counts : List Nat} {number : Int} (hs : script.length ≤ 63)
    (ok : LawOk (cellsOf script) (manyOf script) typed left meant outer inner told rest counts number)
    (h2 : ∀ A L, Rm (k + 18) A → A.handled = none → A.frames = some [envOfC (fnName (stAt 22)) (fnScope (stAt 22)) L 165 (.ref 164)] → Hs w A NoE (execs ((fnBody (stAt 22)).drop 8) (envOfC (fnName (stAt 22)) (fnScope (stAt 22)) L 165 (.ref 164)))
      ((L, .fr [(Str.ofString "left", .str left), (Str.ofString "prepared", .str (prepOf typed)), (Str.ofString "shown", .str left)]) :: [(L + 9, .cell none), (L + 8, .cell none), (L + 7, .cell none), (L + 6, .cell (some (.lst (outer.map D.int)))), (L + 5, .cell (some (.lst (meant.map D.str)))), (L + 4, .cell (some (.int (manyOf script : Nat)))), (L + 3, .cell (some (.lst (natD (cellsOf script))))), (L + 2, .cell (some (.lst (ownL.map D.int)))), (L + 1, .cell (some (.lst (script.map D.int))))]) (fun _ f => (match f with | .ret d => d | _ => .none) = .bool true)) : ∀ (A : Around) (E : Value → Shared → Prop) (Z : ZM) (s : Shared) (vs : List Value), A.frames = some [] → Rm (k + 20) A → A.handled = none → Top w Z → HOk Z A.handled → (∀ a ob, Z a = some ob → s.heap.get? a = some ob) → Rds Z vs [.lst (script.map D.int)] →
      wpAny (Md w) A (call (.ref 165) vs) (fun v s' => ∃ Z' d, St w A.handled (here Z s) Z' [] s' ∧ Rd Z' v d ∧ d = .bool true) E s := by
  refine enterCF (H := Nn) (k := k + 19) (P := fun d => d = .bool true) (i := 22) (fa := 165) (c := 164) (o := o_165_s22 w.params) (names := [Str.ofString "script"]) [] [(Str.ofString "counts", 9, none), (Str.ofString "told", 8, none), (Str.ofString "reader", 7, none), (Str.ofString "outer", 6, none), (Str.ofString "meant", 5, none), (Str.ofString "many", 4, none), (Str.ofString "cells", 3, none), (Str.ofString "own", 2, none), (Str.ofString "script", 1, some (.lst (script.map D.int)))]
    (by kernel_rfl) rfl (codeRec_of (by kernel_rfl)) (fun vals h => ?_) rfl (by decide +kernel) (fun L => ?_) (fun L => by rfl) (by simp only [List.map_cons, List.map_nil]; decide +kernel) ?_ ?_ rfl rfl rfl fun A L hA hH hfr => ?_
  · exact len1 h fun _ => rfl
  · walk_at "cells"
  · exact fun _ h => nomatch h
  · walk_at "cells"
  conv => arg 4; arg 1; whnf
  unfold cellsAt
  simp only [List.map_cons, List.map_nil]
  walk_at "! exC:_ sAsgN:__ ::r lstC:_ spC:__ seC::r kI:_ spC:__ seC::r kI:_ spC:__ seC::r kI:_ spC:__ seC::r kI:_ spC:__ seC::r kI:_ spC:__ seC::r kI:_ spN:_"
  refine ⟨szl (by simp), ?_⟩
  walk_at "! stCU::rbru_ qN:_ exC:_ sAsgN:__ ::r"
  refine lcFM (List.range 6) (fun j : Nat => D.int j) (fun j => [(Str.ofString "place", D.int (j : Nat))]) (fun _ => true) (fun j => D.int (cellOf script j : Nat)) rfl rfl (by decide +kernel) (by decide +kernel) (fun _ => rfl) ?_
  walk_at "! ca_range:__ ::G spC:__ seC::r kI:_ spN:_ bRng1:_"
  refine ⟨itemsN 6 rfl (by decide), by decide, ?_, ?_, ?_, ?_⟩
  · intro C j _
    walk_at "! asN:_ stL::rrb_"
    rfl
  · intro C j _
    walk_at "! te0:_"
    exact ⟨rfl, rfl⟩
  · intro C j hj _
    have hjl := List.mem_range.mp hj
    walk_at "! bin:_ bin:_ sub:_ nmC::rbbrm_ nmL::rrbbb_"
    refine itLI ownL j (fun _ _ => ⟨_, rfl⟩) (by rfl) rfl (by exact Nat.lt_of_lt_of_le (by assumption) (by decide)) hjl ?_
    walk_at "! ca_sum:__ ::G spC:__ seC::r ife:_ trC:__ ::r nmL::rrbbb_ kI:_ ltI:_"
    refine ⟨_, rfl, ?_⟩
    by_cases h5 : j < 5
    · refine iT (by have : (j : Int) < 5 := by exact Int.ofNat_lt.mpr (by assumption)
                    simpa using this) ?_
      walk_at "! sub:_ nmC::rbbrm_ slc:_ ptS:_ nmL::rrbbb_ ptS:_ kI:_ ptS:_ kI:_"
      refine slL (fun _ _ => ⟨_, rfl⟩) rfl rfl rfl (by decide) (szl (by rw [List.length_map]; exact Nat.le_trans (by assumption) (by decide))) ?_
      rw [pick_map]
      walk_at "! spN:_"
      refine bSum hH ?_
      walk_at "! addI:_ bin:_ kI:_ kI:_"
      refine powI (by decide) (by decide) ?_
      refine modI (by decide) ?_
      exact ⟨rfl, congrArg D.int (cell_cast script j _ (by rw [if_pos h5]))⟩
    · refine iF (by have : ¬ (j : Int) < 5 := by grind
                    simpa using this) ?_
      walk_at "! sub:_ nmC::rbbrm_ slc:_ ptN:_ ptS:_ kI:_ ptN:_"
      refine slL (fun _ _ => ⟨_, rfl⟩) rfl rfl rfl (by decide) (szl (by rw [List.length_map]; omega)) ?_
      rw [pick_map]
      walk_at "! spN:_"
      refine bSum hH ?_
      walk_at "! addI:_ bin:_ kI:_ kI:_"
      refine powI (by decide) (by decide) ?_
      refine modI (by decide) ?_
      exact ⟨rfl, congrArg D.int (cell_cast script j _ (by rw [if_neg h5]))⟩
  rw [filt, show (List.range 6).map (fun j => D.int (cellOf script j : Nat)) = natD (cellsOf script) from by unfold cellsOf natD; rw [List.map_map]; rfl]
  have hcl : (cellsOf script).length = 6 := by unfold cellsOf; rw [List.length_map, List.length_range]
  generalize hcs : cellsOf script = cells at *
  walk_at "! stCU::rbru_"
  walk_at "! qN:_"
  walk_at "! exC:_"
  walk_at "! sAsgN:__ ::r"
  refine Hv.res (.int (manyOf script : Nat)) ?_ ?_
  · walk_at "! ife:_ trC:__ ::r ca_len:__ ::G spC:__ seC::r nmC::rbbrm_ spN:_"
    refine bLenL (ds := script.map D.int) (by simp; omega) ?_
    walk_at "! kI:_ gtI:_"
    refine ⟨_, rfl, ?_⟩
    rw [List.length_map]
    by_cases h3 : 3 < script.length
    · refine iT (by have : (3 : Int) < (script.length : Int) := by exact Int.ofNat_lt.mpr (by assumption)
                    simpa using this) ?_
      walk_at "! kI:_"
      exact ⟨rfl, by unfold manyOf; rw [if_pos h3]; rfl⟩
    · refine iF (by have : ¬ (3 : Int) < (script.length : Int) := by lia
                    simpa using this) ?_
      walk_at "! kI:_"
      exact ⟨rfl, by unfold manyOf; rw [if_neg h3]; rfl⟩
  have h45 : manyOf script = 4 ∨ manyOf script = 5 := by unfold manyOf; split <;> simp
  generalize hmy : manyOf script = many at *
  have h4 : 4 ≤ many := by (rcases ‹_ ∨ _› with h | h <;> rw [h] <;> decide)
  have h5 : many ≤ 5 := by (rcases ‹_ ∨ _› with h | h <;> rw [h] <;> decide)
  obtain ⟨ht, hl, hm, ho, olt, ojp, olp, osp, ost, oll, olu, ols, osc, ord, onm, ono, oni, ooo, osu, osm, opr, opv, orm, ore, otl, otd, oco, och, ocl, ovr, onb, ofin⟩ := ok
  walk_at "! stCU::rbru_ qN:_ exC:_ sAsgT:___ ::r ::r cg_133:__ ::G spC:__ seC::r nmC::rbbrm_ spC:__ seC::r nmC::rbbrm_ spN:_"
  refine mF (hA.le (by omega)) hH (c133 (k := k) h5 hcl) fun d hd => ?_
  subst hd
  rw [ht, hl, hm, ho]
  walk_at "! asT4:___ ::a ::r asN:_ stL::rrb_ asN:_ stL::rrb_ asN:_ stCU::rbru_ asN:_ stCU::rbru_ qN:_ exC:_"
  have hkl : typed.cps.toList.length ≤ 900 := by rw [Array.length_toList]; exact olt
  refine sAsgFM typed.cps.toList (fun c => D.str ⟨#[c]⟩) (fun c => [(Str.ofString "sign", D.str ⟨#[c]⟩)]) (fun c => inB1 c != true) (fun c => D.str ⟨#[c]⟩) rfl rfl rfl (by decide +kernel) (by decide +kernel) (fun _ => rfl) ?_
  walk_at "! nmL::rrbbb_"
  refine ⟨.str _, by omega, ?_, ?_, ?_, ?_⟩
  · intro C j _
    walk_at "! asN:_ stL::rrb_"
    rfl
  · intro C j _
    walk_at "! te1:_ trC:__ ::r cg_75:__ ::G spC:__ seC::r nmL::rrbbb_ spN:_"
    refine mF (hA.le (k := k + 1) (by omega)) trivial c75 fun d hd => ?_
    subst hd
    walk_at "! kB:_ isNotB:_"
    exact ⟨_, rfl, rfl, rfl⟩
  · intro C j _ _
    walk_at "! nmL::rrbbb_"
    exact ⟨rfl, rfl⟩
  rw [show (typed.cps.toList.filter fun c => inB1 c != true) = keptOf typed from rfl]
  have hkk : (keptOf typed).length ≤ 900 := Nat.le_trans (List.length_filter_le _ _) hkl
  walk_at "! stL::rrb_ qN:_ exC:_ sAsgN:__ ::r me_join:______ ::r ::r ::r ::r ::r kS:_ tySA::_ spC:__ seC::r"
  refine lcFM (keptOf typed) (fun c => D.str ⟨#[c]⟩) (fun c => [(Str.ofString "sign", D.str ⟨#[c]⟩)]) (fun _ => true) (fun c => D.str (b3Map c)) rfl rfl (by decide +kernel) (by decide +kernel) (fun _ => rfl) ?_
  walk_at "! nmL::rrbbb_"
  refine ⟨.lst _, by omega, ?_, ?_, ?_, ?_⟩
  · intro C j _
    walk_at "! asN:_ stL::rrb_"
    rfl
  · intro C j _
    walk_at "! te0:_"
    exact ⟨rfl, rfl⟩
  · intro C j _ _
    walk_at "! cg_121:__ ::G spC:__ seC::r nmL::rrbbb_ spN:_"
    refine mF (hA.le (k := k + 1) (by omega)) trivial c121 fun d hd => ?_
    subst hd
    exact ⟨rfl, rfl⟩
  rw [filt, show (keptOf typed).map (fun c => D.str (b3Map c)) = ((keptOf typed).map b3Map).map D.str from by rw [List.map_map]; rfl]
  walk_at "! spN:_"
  refine mJoin ojp ?_
  walk_at "! stL::rrb_ qN:_ exC:_ sAsgN:__ ::r cg_43:__ ::G spC:__ seC::r nmL::rrbbb_ spN:_"
  rw [show Txt.join (Str.ofString "") ((keptOf typed).map b3Map) = prepOf typed from rfl]
  refine mF (hA.le (k := k + 10) (by omega)) hH (c43 osp.1 osp.2.1 osp.2.2) fun d hd => ?_
  subst hd
  rw [ost]
  walk_at "! stL::rrb_ qN:_ exC:_ sIf:_ trO:_ trC:__ ::r nmL::rrbbb_ nmL::rrbbb_ neS:_"
  refine ⟨_, rfl, ?_⟩
  refine iF (by simp) ?_
  walk_at "! trO:_ trC:__ ::r"
  refine lcFM (keptOf typed) (fun c => D.str ⟨#[c]⟩) (fun c => [(Str.ofString "sign", D.str ⟨#[c]⟩)]) (fun c => inB1 c != false) (fun c => D.str ⟨#[c]⟩) rfl rfl (by decide +kernel) (by decide +kernel) (fun _ => rfl) ?_
  walk_at "! nmL::rrbbb_"
  refine ⟨.lst _, by omega, ?_, ?_, ?_, ?_⟩
  · intro C j _
    walk_at "! asN:_ stL::rrb_"
    rfl
  · intro C j _
    walk_at "! te1:_ trC:__ ::r cg_75:__ ::G spC:__ seC::r nmL::rrbbb_ spN:_"
    refine mF (hA.le (k := k + 1) (by omega)) trivial c75 fun d hd => ?_
    subst hd
    walk_at "! kB:_ isNotB:_"
    exact ⟨_, rfl, rfl, rfl⟩
  · intro C j _ _
    walk_at "! nmL::rrbbb_"
    exact ⟨rfl, rfl⟩
  rw [show ((keptOf typed).filter fun c => inB1 c != false).map (fun c => D.str ⟨#[c]⟩) = ([] : List Str).map D.str from by
    rw [show ((keptOf typed).filter fun c => inB1 c != false) = [] from by
      rw [List.filter_eq_nil_iff]
      intro c hc
      have := (List.mem_filter.mp hc).2
      cases hq : inB1 c <;> simp_all]
    rfl]
  skip
  refine lst_ ?_
  walk_at "! spN:_"
  refine ⟨szl (by simp), ?_⟩
  refine neLS (a := []) (b := []) hA ?_
  refine ⟨_, rfl, ?_⟩
  refine iF (by decide) ?_
  walk_at "! trO0:_"
  refine iF Bool.false_ne_true ?_
  refine exN ?_
  refine Hm.mono (forget (b' := [(Str.ofString "left", .str left), (Str.ofString "prepared", .str (prepOf typed)), (Str.ofString "shown", .str left)]) (by walk_at "keep") (h2 A L (hA.le (by omega)) hH hfr)) fun _ _ q => q
end
section -- FL
noncomputable def frA (left prepared : Str) : Binds := [(Str.ofString "left", .str left), (Str.ofString "prepared", .str prepared), (Str.ofString "shown", .str left)]
noncomputable def ledA (L : Nat) (script : List Int) (many : Nat) (cells : List Nat) (meant : List Str) (outer : List Int) : Led := [(L + 9, .cell none), (L + 8, .cell none), (L + 7, .cell none), (L + 6, .cell (some (.lst (outer.map D.int)))), (L + 5, .cell (some (.lst (meant.map D.str)))), (L + 4, .cell (some (.int (many : Nat)))), (L + 3, .cell (some (.lst (natD cells)))), (L + 2, .cell (some (.lst (ownL.map D.int)))), (L + 1, .cell (some (.lst (script.map D.int))))]
noncomputable def frB (prepared left : Str) (c5 many : Nat) (meant : List Str) (inner : List Int) : Binds := [(Str.ofString "names", .lst (meant.map D.str)), (Str.ofString "inner", .lst (inner.map D.int)), (Str.ofString "sums", .lst ((sumsOf c5 many).map D.int)), (Str.ofString "rows", .lst ((rowsL prepared left).map D.str)), (Str.ofString "texts", .lst ((rowsL prepared left).map D.str)), (Str.ofString "other", .str badPair)]
noncomputable def ledB (L it : Nat) (script : List Int) (many : Nat) (cells : List Nat) (meant : List Str) (outer : List Int) (told : List Nat) : Led := [(L + 9, .cell none), (L + 8, .cell (some (.lst (natD told)))), (L + 7, .cell (some (.raw (.ref it)))), (L + 6, .cell (some (.lst (outer.map D.int)))), (L + 5, .cell (some (.lst (meant.map D.str)))), (L + 4, .cell (some (.int (many : Nat)))), (L + 3, .cell (some (.lst (natD cells)))), (L + 2, .cell (some (.lst (ownL.map D.int)))), (L + 1, .cell (some (.lst (script.map D.int))))]
noncomputable abbrev env165 (L : Addr) : Env := envOfC (fnName (stAt 22)) (fnScope (stAt 22)) L 165 (.ref 164)
theorem law2 {w : World} {k many : Nat} {script : List Int} {cells : List Nat} {typed left : Str} {meant : List Str} {outer inner : List Int} {told : List Nat} {rest : List Int} {counts : List Nat} {number : Int} (h4 : 4 ≤ many) (h5 : many ≤ 5) (hcl : cells.length = 6) (hc5 : cells.getD 5 0 < 1000000)
    (ok : LawOk cells many typed left meant outer inner told rest counts number) {A : Around} {L : Addr} (hA : Rm (k + 18) A) (hH : A.handled = none) {P : Led → Fl → Prop}
    (h3 : ∀ it, Hs w A NoE (execs ((fnBody (stAt 22)).drop 14) (env165 L)) ((L, .fr (frB (prepOf typed) left (cells.getD 5 0) many meant inner)) :: (it, .li (rest.map D.int)) :: ledB L it script many cells meant outer told) P) :
    Hs w A NoE (execs ((fnBody (stAt 22)).drop 8) (env165 L)) ((L, .fr (frA left (prepOf typed))) :: ledA L script many cells meant outer) P := by
  obtain ⟨ht, hl, hm, ho, olt, ojp, olp, osp, ost, oll, olu, ols, osc, ord, onm, ono, oni, ooo, osu, osm, opr, opv, orm, ore, otl, otd, oco, och, ocl, ovr, onb, ofin⟩ := ok
  conv => arg 4; arg 1; whnf
  unfold ledA frA
  walk_at "! exC:_ sAsgT:___ ::r ::r cg_143:__ ::G spC:__ seC::r nmL::rrbbb_ spN:_"
  refine mF (hA.le (k := k + 14) (by exact Nat.add_le_add_left (by decide) _)) hH (c143 oll olu ols osc ord) fun d hd => ?_
  subst hd
  walk_at "! asT2:___ ::a ::r asN:_ stL::rrb_ asN:_ stL::rrb_ qN:_ exC:_"
  refine sAsgFM (List.range (2 ^ (many - 1))) (fun j : Nat => D.int j) (fun j => [(Str.ofString "falls", D.int (j : Nat))]) (fun _ => true) (fun j => D.int (sumOf j (cells.getD 5 0) many)) rfl rfl rfl (by decide +kernel) (by decide +kernel) (fun _ => rfl) ?_
  walk_at "! ca_range:__ ::G spC:__ seC::r bin:_ kI:_ bin:_ nmC::rbbrm_ kI:_ subI:_"
  refine powI (by omega) (by rw [show Builtin.Int.intBits 2 = 2 from rfl]; omega) ?_
  walk_at "! spN:_ bRng1:_"
  have hp16 : 2 ^ (many - 1) ≤ 16 := Nat.le_trans (Nat.pow_le_pow_right (by decide) (show many - 1 ≤ 4 by lia)) (by decide)
  refine ⟨itemsN (2 ^ (many - 1)) (by rw [show ((many : Nat) : Int) - 1 = ((many - 1 : Nat) : Int) from by lia, Int.toNat_natCast]; simp) (by exact Nat.lt_of_le_of_lt (by assumption) (by decide)), by rw [List.length_range]; exact Nat.le_trans (by assumption) (by decide), ?_, ?_, ?_, ?_⟩
  · intro C j _
    walk_at "! asN:_ stL::rrb_"
    rfl
  · intro C j _
    walk_at "! te0:_"
    exact ⟨rfl, rfl⟩
  · intro C j hj _
    have hjl := List.mem_range.mp hj
    walk_at "! cg_148:__ ::G spC:__ seC::r nmL::rrbbb_ spC:__ seC::r sub:_ nmC::rbbrm_ kI:_"
    refine itLN cells 5 (fun _ _ => ⟨_, rfl⟩) rfl rfl (by exact Nat.le_add_left _ _) (by grind) ?_
    walk_at "! spC:__ seC::r nmC::rbbrm_ spN:_"
    refine mF (hA.le (k := k + 2) (by exact Nat.add_le_add_left (by decide) _)) hH (c148 h4 h5 hc5 (by lia) (osu j hjl).1 (osu j hjl).2.1 (osu j hjl).2.2) fun d hd => ?_
    subst hd
    exact ⟨rfl, rfl⟩
  rw [filt, show (List.range (2 ^ (many - 1))).map (fun j => D.int (sumOf j (cells.getD 5 0) many)) = (sumsOf (cells.getD 5 0) many).map D.int from by unfold sumsOf; rw [List.map_map]; rfl]
  walk_at "! stL::rrb_ qN:_ exC:_ sAsgN:__ ::r lstC:_ spC:__ seC::r bin:_ kS:_ nmL::rrbbb_"
  refine addS' 8 400 (by decide) olp (by decide) fun _ => ?_
  walk_at "! spC:__ seC::r bin:_ kS:_ nmL::rrbbb_"
  refine addS' 1 400 (by decide) oll (by decide) fun _ => ?_
  walk_at "! spC:__ seC::r bin:_ bin:_ kS:_ nmL::rrbbb_"
  refine addS' 1 400 (by decide) oll (by decide) fun z => ?_
  walk_at "! kS:_"
  refine addS' 401 1 z (by decide) (by decide) fun _ => ?_
  walk_at "! spC:__ seC::r bin:_ nmL::rrbbb_ kS:_"
  refine addS' 400 2 oll (by decide) (by decide) fun _ => ?_
  walk_at "! spN:_"
  refine ⟨szl (by simp), ?_⟩
  walk_at "! stL::rrb_ qN:_ exC:_ sAsgW::arr_ tup_:_ spC:__ seC::r ca_list:__ ::G spC:__ seC::r nmL::rrbbb_ spN:_"
  refine bListL (szl (by simp)) ?_
  walk_at "! spC:__ seC::r kS:_ spN:_"
  refine ⟨szl (by simp), _, rfl, rfl, ?_⟩
  show ML _ _ _ _ (assignInOrder [bindName _ (Str.ofString "other"), bindName _ (Str.ofString "texts")]) [_, _] _ _
  walk_at "! aoC:_ bnM:_ stL::rrb_ aoC:_ bnM:_ stL::rrb_ aoN:_ qN:_ exC:_ sAsgN:__ ::r ca_iter:__ ::G spC:__ seC::r cg_138:__ ::G spC:__ seC::r nmC::rbbrm_ spC:__ seC::r nmC::rbbrm_ spN:_"
  refine mF (hA.le (k := k + 2) (by exact Nat.add_le_add_left (by decide) _)) hH (c138 (by grind) (by simp only [*]) hcl (by rw [ono]; exact ooo)) fun d hd => ?_
  subst hd
  walk_at "! spN:_"
  refine bIter fun it => ?_
  walk_at "! stCU::rbru_ qN:_ exC:_ sAsgN:__ ::r"
  refine lc rfl rfl (by decide +kernel) (by decide +kernel) (fun _ => rfl) ?_
  walk_at "! nmC::rbbrm_"
  refine ⟨_, .lst _, szl (by rw [List.length_map]; lia), fun C => ?_⟩
  rw [show natD (tapeOf outer cells) = ((tapeOf outer cells).map fun c : Nat => (c : Int)).map D.int from by unfold natD; rw [List.map_map]; rfl]
  rw [← onm] at orm
  refine CompP.ind (fun l acc n => ∃ (ms : List Str) (ds done vs : List Int) (b₀ : Binds), l = ms.map D.str ∧ acc = done.map D.int ∧ (∀ p ∈ frB (prepOf typed) left (cells.getD 5 0) many meant inner, b₀.lookup p.1 = some p.2) ∧ readMany ms.length ds = some (vs, rest) ∧ done ++ vs = (told.map fun c : Nat => (c : Int)) ∧
    n = (C, .fr []) :: (L, .fr b₀) :: (it, .li (ds.map D.int)) :: [(L + 9, .cell none), (L + 8, .cell none), (L + 7, .cell (some (.raw (.ref it)))), (L + 6, .cell (some (.lst (outer.map D.int)))), (L + 5, .cell (some (.lst (meant.map D.str)))), (L + 4, .cell (some (.int (many : Nat)))), (L + 3, .cell (some (.lst (natD cells)))), (L + 2, .cell (some (.lst (ownL.map D.int)))), (L + 1, .cell (some (.lst (script.map D.int))))]) ?_ ?_ ⟨meant, _, [], _, _, rfl, rfl, ?_, orm, rfl, by rfl⟩
  · rintro acc n ⟨ms, ds, done, vs, b₀, hl', rfl, hb, hr, he, rfl⟩
    cases ms with
    | cons _ _ => cases hl'
    | nil =>
    rw [List.length_nil, readMany] at hr
    obtain ⟨rfl, rfl⟩ : vs = [] ∧ ds = rest := by
      have := Option.some.inj hr
      exact ⟨(congrArg Prod.fst this).symm, congrArg Prod.snd this⟩
    rw [List.append_nil] at he
    subst he
    refine ⟨_, _, rfl, ?_⟩
    rw [show (told.map fun c : Nat => (c : Int)).map D.int = natD told from by unfold natD; rw [List.map_map]; rfl]
    walk_at "! stCU::rbru_"
    exact forget (b' := frB (prepOf typed) left (cells.getD 5 0) many meant inner) hb (h3 it)
  · rintro d r acc n ⟨ms, ds, done, vs, b₀, hl', rfl, hb, hr, he, rfl⟩ ih
    cases ms with
    | nil => cases hl'
    | cons m ms =>
    rw [List.map_cons] at hl'
    injection hl' with e1 e2
    subst e1 e2
    rw [List.length_cons, readMany] at hr
    cases hv : varint ds with
    | none => rw [hv] at hr; cases hr
    | some p =>
      obtain ⟨v, ds'⟩ := p
      rw [hv] at hr
      simp only at hr
      cases hr₂ : readMany ms.length ds' with
      | none => rw [hr₂] at hr; cases hr
      | some p =>
        obtain ⟨vs', r'⟩ := p
        rw [hr₂] at hr
        obtain ⟨rfl, rfl⟩ : v :: vs' = vs ∧ r' = rest := by
          have := Option.some.inj hr
          exact ⟨congrArg Prod.fst this, congrArg Prod.snd this⟩
        walk_at "! asN:_ stL::rrb_ te0:_"
        refine iT rfl ?_
        walk_at "! cg_29:__ ::G spC:__ seC::r nmC::rbbrm_ spN:_"
        refine c29 (l := [_, _]) (ds := ds) (hA.le (k := k + 1) (by exact Nat.add_le_add_left (by decide) _)) (by rfl) hv ?_
        rw [show done.map D.int ++ [D.int v] = (done ++ [v]).map D.int from by simp]
        refine CompP.fgt (b' := []) (fun _ h => nomatch h) ?_ (ih _ _ ⟨ms, ds', done ++ [v], vs', b₀, rfl, rfl, hb, hr₂, by rw [← he]; simp, rfl⟩)
        rintro acc n' ⟨c, n'', e, q⟩
        injection e with e1 e2
        exact ⟨_, _, rfl, e2 ▸ q⟩
  · unfold frB
    walk_at "keep"
end
section -- FM
theorem fm_congr {α β : Type} {f g : α → Option β} : ∀ {l : List α}, (∀ a ∈ l, f a = g a) → l.filterMap f = l.filterMap g
  | [], _ => rfl
  | a :: l, h => by rw [List.filterMap_cons, List.filterMap_cons, h a (.head _), fm_congr fun b hb => h b (.tail _ hb)]
theorem pick_upto {α : Type} (l : List α) (b : Nat) (hb : b ≤ l.length) : pick l none (some (b : Int)) none = l.take b := by
  unfold pick idxs
  rw [sliceBounds_plain]
  simp only [Option.elim_some, Option.elim_none]
  have hc : clipAt l.length (b : Int) = b := by unfold clipAt; grind
  rw [hc, sliceRange_one, List.filterMap_map]
  have := range_all (l.take b)
  rw [List.length_take, Nat.min_eq_left hb] at this
  conv => rhs; rw [← this]
  rw [Nat.sub_zero]
  apply fm_congr
  intro j hj
  have := List.mem_range.mp hj
  simp [this]
theorem rngDown1 : ∀ p : Nat, p < 64 → Builtin.Range.small ((p : Int) - 1) (-1) (-1) = true ∧ Builtin.Range.rangeSize ((p : Int) - 1) (-1) (-1) = p := by decide +kernel
theorem rngOne : ∀ p : Nat, p < 64 → Builtin.Range.small 1 ((p : Int) + 1) 1 = true ∧ Builtin.Range.rangeSize 1 ((p : Int) + 1) 1 = p := by decide +kernel
theorem intsum (l : List Nat) : (l.map fun c : Nat => (c : Int)).sum = ((l.sum : Nat) : Int) := by
  induction l with
  | nil => rfl
  | cons a l ih => rw [List.map_cons, List.sum_cons, List.sum_cons, ih]; push_cast; rfl
theorem sum_le {l : List Nat} {b : Nat} (h : ∀ x ∈ l, x ≤ b) : l.sum ≤ l.length * b := by
  induction l with
  | nil => exact Nat.zero_le _
  | cons a l ih =>
    rw [List.sum_cons, List.length_cons, Nat.succ_mul]
    have := ih fun x hx => h x (.tail _ hx)
    have := h a (.head _)
    grind
theorem law3 {w : World} {k many : Nat} {script : List Int} {cells : List Nat} {typed left : Str} {meant : List Str} {outer inner : List Int} {told : List Nat} {rest : List Int} {counts : List Nat} {number : Int} (h4 : 4 ≤ many) (h5 : many ≤ 5) (hcl : cells.length = 6)
    (ok : LawOk cells many typed left meant outer inner told rest counts number) {A : Around} {L it : Addr} (hA : Rm (k + 18) A) (hH : A.handled = none) (hfr : A.frames = some [env165 L]) :
    Hs w A NoE (execs ((fnBody (stAt 22)).drop 14) (env165 L)) ((L, .fr (frB (prepOf typed) left (cells.getD 5 0) many meant inner)) :: (it, .li (rest.map D.int)) :: ledB L it script many cells meant outer told) (fun _ f => (match f with | .ret d => d | _ => .none) = .bool true) := by
  obtain ⟨ht, hl, hm, ho, olt, ojp, olp, osp, ost, oll, olu, ols, osc, ord, onm, ono, oni, ooo, osu, osm, opr, opv, orm, ore, otl, otd, oco, och, ocl, ovr, onb, ofin⟩ := ok
  conv => arg 4; arg 1; whnf
  unfold ledB frB
  walk_at "! exC:_ sIf:_ trO:_ trC:__ ::r nmL::rrbbb_ nmC::rbbrm_"
  refine neLS hA ?_
  refine ⟨_, rfl, ?_⟩
  refine iF (by simp) ?_
  walk_at "! trO:_ trC:__ ::r una:_ kI:_ negI:_ nmL::rrbbb_"
  refine inLI ?_
  refine ⟨_, rfl, ?_⟩
  refine iF (by rw [osm]; decide) ?_
  walk_at "! trO:_ trC:__ ::r"
  refine lcFM told (fun j : Nat => D.int j) (fun j => [(Str.ofString "one", D.int (j : Nat))]) (fun _ => true) (fun j => D.int (j / 11 : Nat)) rfl rfl (by decide +kernel) (by decide +kernel) (fun _ => rfl) ?_
  walk_at "! nmC::rbbrm_"
  refine ⟨.lst _, by lia, ?_, ?_, ?_, ?_⟩
  · intro C j _
    walk_at "! asN:_ stL::rrb_"
    rfl
  · intro C j _
    walk_at "! te0:_"
    exact ⟨rfl, rfl⟩
  · intro C j hj _
    walk_at "! bin:_ nmL::rrbbb_ kI:_"
    refine divN j 11 rfl rfl (by decide) (by decide) ?_
    exact ⟨rfl, rfl⟩
  rw [filt, show told.map (fun j => D.int (j / 11 : Nat)) = natD (told.map fun c => c / 11) from by unfold natD; rw [List.map_map]; rfl]
  walk_at "! sub:_ nmC::rbbrm_ slc:_ ptN:_ ptS:_ nmC::rbbrm_ ptN:_"
  refine slL (fun _ _ => ⟨_, rfl⟩) rfl rfl rfl (by decide) (szl (by rw [List.length_map]; grind)) ?_
  rw [show pick (natD cells) none (some (many : Int)) none = natD (cells.take many) from by unfold natD; rw [pick_map, pick_upto _ _ (by lia)]]
  refine neLN hA ?_
  refine ⟨_, rfl, ?_⟩
  refine iF (by rw [otd]; simp) ?_
  walk_at "! trO:_ trC:__ ::r cg_57:__ ::G spC:__ seC::r nmL::rrbbb_ spN:_"
  refine mF (hA.le (k := k + 12) (by exact Nat.add_le_add_left (by decide) _)) hH (c57 opr (by simp [rowsL])) fun d hd => ?_
  subst hd
  walk_at "! lstC:_ spC:__ seC::r sub:_ nmL::rrbbb_ kI:_"
  refine itLS (rowsL (prepOf typed) left) 0 (fun _ _ => ⟨_, rfl⟩) rfl rfl (by decide) (by simp [rowsL]) ?_
  walk_at "! spC:__ seC::r nmL::rrbbb_ spC:__ seC::r nmL::rrbbb_ spC:__ seC::r nmL::rrbbb_ spN:_"
  refine ⟨szl (by simp), ?_⟩
  refine neLS (b := [(rowsL (prepOf typed) left).getD 0 Str.empty, badPair, badPair, badPair]) hA ?_
  refine ⟨_, rfl, ?_⟩
  refine iF (by rw [opv]; simp [rowsL]) ?_
  walk_at "! trO:_ trC:__ ::r nmL::rrbbb_ nmL::rrbbb_"
  refine neLS hA ?_
  refine ⟨_, rfl, ?_⟩
  refine iF (by simp) ?_
  walk_at "! trO0:_"
  refine iF Bool.false_ne_true ?_
  walk_at "! exN:_ qN:_ exC:_ sAsgN:__ ::r cg_153:__ ::G spC:__ seC::r nmL::rrbbb_ spC:__ seC::r nmL::rrbbb_ spC:__ seC::r nmL::rrbbb_ spN:_"
  refine mF (hA.le (k := k + 2) (by exact Nat.add_le_add_left (by decide) _)) hH (c153 (by simp only [*]) (by grind) (by simp only [*]) (by unfold sumsOf; rw [List.length_map, List.length_range]; exact Nat.le_trans (Nat.pow_le_pow_right (by decide) (show many - 1 ≤ 4 by lia)) (by decide)) och) fun d hd => ?_
  subst hd
  rw [oco]
  walk_at "! stCU::rbru_ qN:_ exC:_ sAsgN:__ ::r cg_29:__ ::G spC:__ seC::r ca_iter:__ ::G spC:__ seC::r"
  have hdn : ∀ v ∈ downTo counts.length, 1 ≤ v ∧ v ≤ counts.length := by
    intro v hv
    obtain ⟨j, hj, rfl⟩ := List.mem_map.mp hv
    have := List.mem_range.mp hj
    show 1 ≤ counts.length - j ∧ counts.length - j ≤ counts.length
    grind
  refine lcFM (downTo counts.length) (fun v : Nat => D.int ((v : Int) - 1)) (fun v => [(Str.ofString "k", D.int ((v : Int) - 1))]) (fun _ => true) (fun v => D.int ((counts.getD (v - 1) 0 + (if v - 1 > 0 then 64 else 0) + 128 * ((cells.getD 5 0 / 90 + (v - 1)) % 2) : Nat) : Int)) rfl rfl (by decide +kernel) (by decide +kernel) (fun _ => rfl) ?_
  walk_at "! ca_range:__ ::G spC:__ seC::r bin:_ ca_len:__ ::G spC:__ seC::r nmC::rbbrm_ spN:_"
  refine bLenL (ds := natD counts) (by rw [List.length_map]; omega) ?_
  walk_at "! kI:_ subI:_ spC:__ seC::r una:_ kI:_ negI:_ spC:__ seC::r una:_ kI:_ negI:_ spN:_"
  refine bRng3 (by decide) rfl ?_
  rw [List.length_map]
  have hr := rngDown1 counts.length ocl.2
  refine ⟨?_, by unfold downTo; rw [List.length_map, List.length_range]; lia, ?_, ?_, ?_, ?_⟩
  · have := Items.rng (a := (counts.length : Int) - 1) (b := -1) (c := -1) hr.1 hr.2
    rw [show ((List.range counts.length).map fun (j : Nat) => D.int ((counts.length : Int) - 1 + j * -1)) = (downTo counts.length).map (fun v : Nat => D.int ((v : Int) - 1)) from by
      unfold downTo
      rw [List.map_map]
      apply List.map_congr_left
      intro j hj
      have := List.mem_range.mp hj
      show D.int ((counts.length : Int) - 1 + (j : Int) * -1) = D.int (((counts.length - j : Nat) : Int) - 1)
      congr 1
      lia] at this
    exact this
  · intro C j _
    walk_at "! asN:_ stL::rrb_"
    rfl
  · intro C j _
    walk_at "! te0:_"
    exact ⟨rfl, rfl⟩
  · intro C v hv _
    obtain ⟨hv1, hv2⟩ := hdn v hv
    have ev : (v : Int) - 1 = ((v - 1 : Nat) : Int) := by lia
    rw [ev]
    walk_at "! bin:_ bin:_ sub:_ nmC::rbbrm_ nmL::rrbbb_"
    refine itLN counts (v - 1) (fun _ _ => ⟨_, rfl⟩) rfl rfl (by lia) (by lia) ?_
    walk_at "! ife:_ trC:__ ::r nmL::rrbbb_ kI:_ gtI:_"
    refine ⟨_, rfl, ?_⟩
    by_cases hp : v - 1 > 0
    · refine iT (by have : (0 : Int) < ((v - 1 : Nat) : Int) := by exact Int.ofNat_lt.mpr (by assumption)
                    simpa using this) ?_
      walk_at "! kI:_ addI:_ bin:_ kI:_ bin:_ bin:_ bin:_ sub:_ nmC::rbbrm_ kI:_"
      refine itLN cells 5 (fun _ _ => ⟨_, rfl⟩) rfl rfl (by exact Nat.le_add_left _ _) (by grind) ?_
      walk_at "! kI:_"
      refine divN _ 90 rfl rfl (by decide) (by decide) ?_
      walk_at "! nmL::rrbbb_ addI:_ kI:_"
      refine modN (cells.getD 5 0 / 90 + (v - 1)) 2 (by push_cast; rfl) rfl (by decide) ?_
      refine mulI (.of_left (by decide)) ?_
      walk_at "! addI:_"
      refine ⟨rfl, ?_⟩
      show D.int _ = D.int _
      congr 1
      rw [if_pos hp]
      push_cast
      rfl
    · refine iF (by have : ¬ (0 : Int) < ((v - 1 : Nat) : Int) := by grind
                    simpa using this) ?_
      walk_at "! kI:_ addI:_ bin:_ kI:_ bin:_ bin:_ bin:_ sub:_ nmC::rbbrm_ kI:_"
      refine itLN cells 5 (fun _ _ => ⟨_, rfl⟩) rfl rfl (by exact Nat.le_add_left _ _) (by omega) ?_
      walk_at "! kI:_"
      refine divN _ 90 rfl rfl (by decide) (by decide) ?_
      walk_at "! nmL::rrbbb_ addI:_ kI:_"
      refine modN (cells.getD 5 0 / 90 + (v - 1)) 2 (by push_cast; rfl) rfl (by decide) ?_
      refine mulI (.of_left (by decide)) ?_
      walk_at "! addI:_"
      refine ⟨rfl, ?_⟩
      show D.int _ = D.int _
      congr 1
      rw [if_neg hp]
      push_cast
      rfl
  rw [filt, show (downTo counts.length).map (fun v => D.int ((counts.getD (v - 1) 0 + (if v - 1 > 0 then 64 else 0) + 128 * ((cells.getD 5 0 / 90 + (v - 1)) % 2) : Nat) : Int)) = ((packOf (cells.getD 5 0) counts).map fun c : Nat => (c : Int)).map D.int from by unfold packOf; rw [List.map_map, List.map_map]; rfl]
  walk_at "! spN:_"
  refine bIter fun it₂ => ?_
  walk_at "! spN:_"
  refine c29 (l := [_]) (hA.le (k := k + 1) (by exact Nat.add_le_add_left (by decide) _)) (by rfl) ovr ?_
  walk_at "! stL::rrb_ qN:_ exC:_"
  refine sTryX (k := k + 16) (it := it) (l := [_]) (c := L + 7) (ds := rest.map D.int) hA hH hfr rfl rfl rfl rfl rfl (by rfl) (by rfl) (by rfl) rfl rfl (by walk_at "mem") (by rcases ore with rfl | rfl <;> simp) rfl rfl fun A' hA' => ?_
  walk_at "! exC:_ sAsgN:__ ::r ca_sum:__ ::G spC:__ seC::r"
  have hll : ∀ k ∈ leastL many meant outer, k < many ∧ 0 ≤ outer.getD k 0 := by
    intro j hj
    obtain ⟨h1, h2⟩ := List.mem_filter.mp hj
    rw [Bool.and_eq_true] at h2
    exact ⟨List.mem_range.mp h1, of_decide_eq_true h2.1⟩
  refine lcFM (List.range many) (fun j : Nat => D.int j) (fun j => [(Str.ofString "k", D.int (j : Nat))]) (fun k => decide (0 ≤ outer.getD k 0) && !(decide ((meant.getD k Str.empty).cps.toList < (meant.getD (outer.getD k 0).toNat Str.empty).cps.toList))) (fun j => D.int (told.getD j 0 % 11 : Nat)) rfl rfl (by decide +kernel) (by decide +kernel) (fun _ => rfl) ?_
  walk_at "! ca_range:__ ::G spC:__ seC::r nmC::rbbrm_ spN:_ bRng1:_"
  refine ⟨itemsN many rfl (by exact Nat.lt_of_le_of_lt (by assumption) (by decide)), by rw [List.length_range]; exact Nat.le_trans (by assumption) (by decide), ?_, ?_, ?_, ?_⟩
  · intro C j _
    walk_at "! asN:_ stL::rrb_"
    rfl
  · intro C j hj
    have hjl := List.mem_range.mp hj
    walk_at "! te1:_ trA:_ trC:__ ::r sub:_ nmC::rbbrm_ nmL::rrbbb_"
    refine itLI outer j (fun _ _ => ⟨_, rfl⟩) rfl rfl (by lia) (by simp only [*]) ?_
    walk_at "! kI:_ geI:_"
    refine ⟨_, rfl, ?_⟩
    by_cases h0 : 0 ≤ outer.getD j 0
    · refine iT (by simpa using h0) ?_
      have ho1 : outer.getD j 0 = outer.getD j (-1) := by simp [List.getD_eq_getElem?_getD, List.getElem?_eq_getElem (show j < outer.length by omega)]
      have ho2 := ooo j hjl
      rw [← ho1] at ho2
      walk_at "! trA:_ trC:__ ::r sub:_ nmC::rbbrm_ nmL::rrbbb_"
      refine itLS meant j (fun _ _ => ⟨_, rfl⟩) rfl rfl (by omega) (by omega) ?_
      walk_at "! sub:_ nmC::rbbrm_ sub:_ nmC::rbbrm_ nmL::rrbbb_"
      refine itLI outer j (fun _ _ => ⟨_, rfl⟩) rfl rfl (by omega) (by omega) ?_
      refine itLS meant (outer.getD j 0).toNat (fun _ _ => ⟨_, rfl⟩) rfl (by rw [Int.toNat_of_nonneg h0]) (by omega) (by omega) ?_
      walk_at "! geS:_"
      refine ⟨_, rfl, ?_⟩
      by_cases h1 : (!(decide ((meant.getD j Str.empty).cps.toList < (meant.getD (outer.getD j 0).toNat Str.empty).cps.toList))) = true
      · refine iT h1 ?_
        walk_at "! trA0:_"
        refine ⟨rfl, ?_⟩
        rw [decide_eq_true h0, h1]; rfl
      · refine iF h1 ?_
        refine ⟨rfl, ?_⟩
        rw [decide_eq_true h0, Bool.true_and]
        simpa using h1
    · refine iF (by simpa using h0) ?_
      refine ⟨rfl, ?_⟩
      rw [decide_eq_false h0, Bool.false_and]
  · intro C j hj _
    have hjl := List.mem_range.mp hj
    walk_at "! bin:_ sub:_ nmC::rbbrm_ nmL::rrbbb_"
    refine itLN told j (fun _ _ => ⟨_, rfl⟩) rfl rfl (by omega) (by omega) ?_
    walk_at "! kI:_"
    refine modN _ 11 rfl rfl (by decide) ?_
    exact ⟨rfl, rfl⟩
  rw [show ((List.range many).filter fun k => decide (0 ≤ outer.getD k 0) && !(decide ((meant.getD k Str.empty).cps.toList < (meant.getD (outer.getD k 0).toNat Str.empty).cps.toList))).map (fun j => D.int (told.getD j 0 % 11 : Nat)) = (((leastL many meant outer).map fun k => told.getD k 0 % 11).map fun c : Nat => (c : Int)).map D.int from by rw [List.map_map, List.map_map]; rfl]
  walk_at "! spN:_"
  refine bSumX ?_
  rw [intsum]
  have hlb : ((leastL many meant outer).map fun k => told.getD k 0 % 11).sum ≤ 50 := by
    refine Nat.le_trans (sum_le (b := 10) fun x hx => ?_) ?_
    · obtain ⟨j, _, rfl⟩ := List.mem_map.mp hx
      have := Nat.mod_lt (told.getD j 0) (show 0 < 11 by decide)
      omega
    · rw [List.length_map]
      have : (leastL many meant outer).length ≤ 5 := Nat.le_trans (List.length_filter_le _ _) (by rw [List.length_range]; exact h5)
      omega
  generalize ((leastL many meant outer).map fun k => told.getD k 0 % 11).sum = least at *
  walk_at "! stL::rrb_ qN:_ exN:_ qN:_ exC:_ sRet:_ cmp:__ ::r bin:_ nmL::rrbbb_ cg_160:__ ::G spC:__ seC::r"
  refine lcFM told (fun j : Nat => D.int j) (fun j => [(Str.ofString "one", D.int (j : Nat))]) (fun _ => true) (fun j => D.int (j % 11 : Nat)) rfl rfl (by decide +kernel) (by decide +kernel) (fun _ => rfl) ?_
  walk_at "! nmC::rbbrm_"
  refine ⟨.lst _, by omega, ?_, ?_, ?_, ?_⟩
  · intro C j _
    walk_at "! asN:_ stL::rrb_"
    rfl
  · intro C j _
    walk_at "! te0:_"
    exact ⟨rfl, rfl⟩
  · intro C j hj _
    walk_at "! bin:_ nmL::rrbbb_ kI:_"
    refine modN j 11 rfl rfl (by decide) ?_
    exact ⟨rfl, rfl⟩
  rw [filt, show told.map (fun j => D.int (j % 11 : Nat)) = (told.map fun c => c % 11).map (fun i : Nat => D.int i) from by rw [List.map_map]; rfl]
  walk_at "! spN:_"
  have hsz : ∀ i ∈ (told.map fun c => c % 11), i ≤ 20 := by
    intro i hi
    obtain ⟨j, _, rfl⟩ := List.mem_map.mp hi
    have := Nat.mod_lt j (show 0 < 11 by decide)
    omega
  refine mF (hA.le (by rw [List.length_map]; omega)) trivial (c160 (k := k) hsz (by rw [List.length_map]; omega)) fun d hd => ?_
  subst hd
  have hb1 := prod_bits hsz
  refine mulI (IntMulOk.of_le (PySem.intBits_le_iff.mpr onb) hb1 (by rw [List.length_map]; omega)) ?_
  walk_at "! bin:_ bin:_ kI:_ nmL::rrbbb_"
  refine powI (by omega) (by rw [show Builtin.Int.intBits 64 = 7 from rfl]; omega) ?_
  walk_at "! cg_160:__ ::G spC:__ seC::r ca_list:__ ::G spC:__ seC::r ca_range:__ ::G spC:__ seC::r kI:_ spC:__ seC::r bin:_ nmC::rbbrm_ kI:_ addI:_ spN:_ bRng2:_ spN:_"
  have hr1 := rngOne many (by omega)
  refine bListR hH (m := many) hr1.1 hr1.2 (by omega) ?_
  rw [show ((List.range many).map fun (j : Nat) => D.int (1 + j * 1)) = ((List.range many).map (· + 1)).map (fun i : Nat => D.int i) from by
    rw [List.map_map]
    apply List.map_congr_left
    intro j _
    show D.int (1 + (j : Int) * 1) = D.int ((j + 1 : Nat) : Int)
    congr 1
    omega]
  walk_at "! spN:_"
  have hs2 : ∀ i ∈ ((List.range many).map (· + 1)), i ≤ 20 := by
    intro i hi
    obtain ⟨j, hj, rfl⟩ := List.mem_map.mp hi
    have := List.mem_range.mp hj
    show j + 1 ≤ 20
    omega
  refine mF (hA.le (by rw [List.length_map, List.length_range]; omega)) trivial (c160 (k := k) hs2 (by rw [List.length_map, List.length_range]; omega)) fun d hd => ?_
  subst hd
  have hb2 := prod_bits hs2
  have hb3 : Builtin.Int.intBits ((64 : Int) ^ ((least : Nat) : Int).toNat) ≤ 400 := by
    rw [PySem.intBits_le_iff, Int.toNat_natCast]
    have e : (64 : Int) ^ least = ((64 ^ least : Nat) : Int) := by simp
    rw [e, Int.natAbs_natCast]
    exact Nat.lt_of_le_of_lt (Nat.pow_le_pow_right (by decide) hlb) (by decide +kernel)
  refine mulI (IntMulOk.of_le hb3 hb2 (by rw [List.length_map, List.length_range]; omega)) ?_
  walk_at "! eqI:_ qR:_"
  show D.bool (_ == _) = D.bool true
  rw [Int.toNat_natCast, ofin]
  simp
end
end Mine
end
section -- P1
open PySem PySem.W PyProof.Rows PySem.Calls
namespace Mine
/-- a text of its signs -/
noncomputable def tx (l : List Nat) : Str := ⟨l.toArray⟩
theorem tx_list (l : List Nat) : (tx l).cps.toList = l := by simp [tx]
theorem tx_of (x : Str) : tx x.cps.toList = x := by cases x; simp [tx]
theorem tx_len (l : List Nat) : (tx l).length = l.length := by simp [tx, Str.length]
theorem tx_app (a b : List Nat) : tx a ++ tx b = tx (a ++ b) := by
  refine Str.ext' ?_
  rw [Str.cps_append]; simp [tx]
theorem tx_inj {a b : List Nat} : tx a = tx b ↔ a = b := ⟨fun h => by rw [← tx_list a, ← tx_list b, h], fun h => by rw [h]⟩
theorem tx_beq (a b : List Nat) : (tx a == tx b) = (a == b) := by
  rw [Bool.eq_iff_iff, beq_iff_eq, beq_iff_eq, tx_inj]
theorem tx_quote : Str.ofString "\"" = tx [34] := by decide +kernel
theorem tx_open : Str.ofString "(" = tx [40] := by decide +kernel
theorem tx_close : Str.ofString ")" = tx [41] := by decide +kernel
theorem tx_back : Str.ofString "\\" = tx [92] := by decide +kernel
theorem tx_slice (l : List Nat) {a b : Nat} (hab : a ≤ b) (hb : b ≤ l.length) : Txt.slice (tx l) (some (a : Int)) (some (b : Int)) = tx ((l.drop a).take (b - a)) := by
  have := StrLaws.sliceText_nat (tx l) hab (by rw [tx_len]; exact hb)
  rw [tx_list] at this
  exact this
theorem tx_from (l : List Nat) {a : Nat} (h : a ≤ l.length) : Txt.slice (tx l) (some (a : Int)) none = tx (l.drop a) := by
  have := StrLaws.sliceText_from (x := tx l) (i := (a : Int)) ⟨by exact Int.natCast_nonneg _, by rw [tx_list]; exact Int.ofNat_le.mpr (by assumption)⟩
  rw [tx_list] at this
  have e : (((l.length : Nat) : Int) - (a : Int)).toNat = (l.drop a).length := by rw [List.length_drop]; simp
  rw [e, show ((a : Nat) : Int).toNat = a by exact Int.toNat_natCast _, List.take_length] at this
  exact this
theorem tx_has (l : List Nat) (c : Nat) : Txt.contains (tx l) (tx [c]) = decide (c ∈ l) := by
  have := StrLaws.found_one (tx l) c
  rw [tx_list] at this
  exact this
theorem join_empty : ∀ l : List (List Nat), Str.join (tx []) (l.map tx) = tx l.flatten
  | [] => rfl
  | [a] => by simp [Str.join]
  | a :: b :: r => by
    have h := join_empty (b :: r)
    show tx a ++ tx [] ++ Str.join (tx []) ((b :: r).map tx) = _
    rw [h, tx_app, tx_app]; simp
theorem tx_join (l : List (List Nat)) : Txt.join (Str.ofString "") (l.map tx) = tx l.flatten := by
  show Builtin.Str.glued _ _ = _
  rw [StrLaws.glued_eq_join]
  exact join_empty l
theorem tx_join' (l : List Str) : Txt.join (Str.ofString "") l = tx (l.flatMap fun x => x.cps.toList) := by
  have h := tx_join (l.map fun x => x.cps.toList)
  rw [List.map_map] at h
  have : l.map (tx ∘ fun x : Str => x.cps.toList) = l := by
    conv => rhs; rw [← List.map_id l]
    exact List.map_congr_left fun x _ => tx_of x
  rw [this] at h
  rw [h, List.flatMap_def]
theorem esc_len : ∀ (l : List Nat) (i : Nat) (e : Bool), (escFrom i e l).length ≤ l.length + (if e then 1 else 0)
  | [], i, true => by simp [escFrom]
  | [], i, false => by simp [escFrom]
  | c :: r, i, true => by
    have := esc_len r (i + 1) false
    simp [escFrom] at this ⊢; exact Nat.le_succ_of_le (by assumption)
  | c :: r, i, false => by
    have h1 := esc_len r (i + 1) false
    have h2 := esc_len r (i + 1) true
    rw [escFrom]
    split
    · simp at h2 ⊢; simp only [*]
    · simp at h1 ⊢; simp only [*]
theorem stripLoop_len {x : Str} : ∀ (l : List (Nat × Str)) (st : Nat) (op : Option Nat) (res : List Str), (∀ r ∈ res, r.length ≤ x.length) → (stripLoop x l st op res).2.length ≤ res.length + l.length ∧ ∀ r ∈ (stripLoop x l st op res).2, r.length ≤ x.length
  | [], st, op, res, h => ⟨by simp [stripLoop], h⟩
  | (p, ch) :: r, st, op, res, h => by
    rw [strip_cons]
    split
    · cases op with
      | none =>
        obtain ⟨a, b⟩ := stripLoop_len r st (some p) res h
        refine ⟨?_, b⟩
        simp only [List.length_cons] at a ⊢; exact Nat.le_succ_of_le (by assumption)
      | some o =>
        have hr : ∀ t ∈ (if (st : Int) != (o : Int) then res ++ [Txt.slice x (some (st : Int)) (some (o : Int))] else res), t.length ≤ x.length := by
          split
          · intro t ht
            rcases List.mem_append.mp ht with ht | ht
            · exact h t ht
            · rw [List.mem_singleton] at ht; subst ht; exact Txt.slice_le _ _ _
          · exact h
        obtain ⟨a, b⟩ := stripLoop_len r (p + 1) none _ hr
        refine ⟨?_, b⟩
        refine Nat.le_trans a ?_
        split <;> simp <;> simp +arith only
    · obtain ⟨a, b⟩ := stripLoop_len r st op res h
      refine ⟨?_, b⟩
      simp only [List.length_cons] at a ⊢; exact Nat.le_succ_of_le (by assumption)
theorem sum_le_mul {n : Nat} : ∀ {l : List Nat}, (∀ a ∈ l, a ≤ n) → l.sum ≤ l.length * n
  | [], _ => by simp
  | a :: l, h => by
    have h1 := h a (List.mem_cons_self ..)
    have h2 := sum_le_mul fun b hb => h b (List.mem_cons_of_mem a hb)
    rw [List.sum_cons, List.length_cons, Nat.add_mul]; lia
theorem stripOk_of {x : Str} (h : x.length ≤ 900) : StripOk x := by
  have he : (escOf x).length ≤ x.length := by
    have := esc_len x.cps.toList 0 false
    simpa [escOf, Str.length] using this
  refine ⟨h, by exact Nat.le_trans (by assumption) (by assumption), joinOk_of ?_⟩
  have hs := stripLoop_len (x := x) (escOf x) 0 none [] (by simp)
  have hl : (stripRes x).length ≤ 901 ∧ ∀ r ∈ stripRes x, r.length ≤ x.length := by
    unfold stripRes
    generalize stripLoop x (escOf x) 0 none [] = r at hs
    obtain ⟨h1, h2⟩ := hs
    dsimp only
    simp only [List.length_nil] at h1
    split
    · refine ⟨by simp; lia, fun t ht => ?_⟩
      rcases List.mem_append.mp ht with ht | ht
      · exact h2 t ht
      · rw [List.mem_singleton] at ht; subst ht; exact Txt.slice_le _ _ _
    · exact ⟨by lia, h2⟩
  have hsum := sum_le_mul (n := 900) (l := (stripRes x).map (·.length)) (by
    intro a ha
    obtain ⟨r, hr, rfl⟩ := List.mem_map.mp ha
    exact Nat.le_trans (hl.2 r hr) h)
  rw [List.length_map] at hsum
  have := hl.1
  have e : (Str.ofString "").length = 0 := rfl
  rw [e]
  have : (stripRes x).length * 900 ≤ 901 * 900 := Nat.mul_le_mul_right _ hl.1
  lia
end Mine
end
section -- P2
open PySem PySem.W PyProof.Rows PySem.Calls
namespace Mine
/-- a unit of an escaped text -/
noncomputable def Unit1 (u : List Nat) : Prop := (∃ c, u = [c] ∧ c ≠ 92) ∨ ∃ c, u = [92, c]
noncomputable def posU : Nat → List (List Nat) → List (Nat × Str)
  | _, [] => []
  | i, u :: us => (i + u.length - 1, tx u) :: posU (i + u.length) us
theorem posU_app : ∀ (us vs : List (List Nat)) (i : Nat), posU i (us ++ vs) = posU i us ++ posU (i + us.flatten.length) vs
  | [], vs, i => by simp [posU]
  | u :: us, vs, i => by
    rw [List.cons_append, posU, posU_app us vs, posU, List.cons_append, List.flatten_cons, List.length_append, Nat.add_assoc]
theorem esc_units : ∀ (us : List (List Nat)) (i : Nat) (tail : List Nat), (∀ u ∈ us, Unit1 u) → escFrom i false (us.flatten ++ tail) = posU i us ++ escFrom (i + us.flatten.length) false tail
  | [], i, tail, _ => by simp [posU]
  | u :: us, i, tail, h => by
    have ih := fun j => esc_units us j tail fun v hv => h v (List.mem_cons_of_mem _ hv)
    rcases h u (List.mem_cons_self ..) with ⟨c, rfl, hc⟩ | ⟨c, rfl⟩
    · rw [List.flatten_cons, List.append_assoc, List.singleton_append, escFrom, if_neg hc, ih, posU, List.cons_append]
      have e : i + (([c] : List Nat) ++ us.flatten).length = i + 1 + us.flatten.length := by simp; simp +arith only
      rw [e]; rfl
    · rw [List.flatten_cons, List.append_assoc]
      show escFrom i false (92 :: c :: (us.flatten ++ tail)) = _
      rw [escFrom, if_pos rfl, escFrom, ih, posU, List.cons_append]
      have e : i + (([92, c] : List Nat) ++ us.flatten).length = i + 1 + 1 + us.flatten.length := by simp; simp +arith only
      rw [e]; rfl
theorem esc_tx {us : List (List Nat)} (h : ∀ u ∈ us, Unit1 u) : escOf (tx us.flatten) = posU 0 us := by
  have := esc_units us 0 [] h
  unfold escOf
  rw [tx_list]
  simpa [escFrom] using this
/-- parentheses of units: true opens -/
noncomputable def parOf (u : List Nat) : Option Bool := if u = [40] then some true else if u = [41] then some false else none
noncomputable def balB : List Bool → Int → Option Int
  | [], o => some o
  | true :: r, o => balB r (o + 1)
  | false :: r, o => if o - 1 < 0 then none else balB r (o - 1)
theorem check_units : ∀ (us : List (List Nat)) (i : Nat) (o : Int), checkLoop (posU i us) o = balB (us.filterMap parOf) o
  | [], _, _ => rfl
  | u :: us, i, o => by
    rw [posU, checkLoop, tx_open, tx_close, tx_beq, tx_beq, check_units us, check_units us, check_units us, List.filterMap_cons]
    by_cases h1 : u = [40]
    · subst h1; rfl
    · by_cases h2 : u = [41]
      · subst h2; rfl
      · have e1 : (u == [40]) = false := by simpa using h1
        have e2 : (u == [41]) = false := by simpa using h2
        rw [e1, e2]
        unfold parOf
        rw [if_neg h1, if_neg h2]
        rfl
/-- blocks: a run of plain units, or a quoted one -/
noncomputable abbrev Blk := Bool × List (List Nat)
noncomputable def blkUnits (b : Blk) : List (List Nat) := if b.1 then [34] :: b.2 ++ [[34]] else b.2
noncomputable def allU (bs : List Blk) : List (List Nat) := bs.flatMap blkUnits
noncomputable def plainU (bs : List Blk) : List (List Nat) := bs.flatMap fun b => if b.1 then [] else b.2
noncomputable def BlkOk (b : Blk) : Prop := ∀ u ∈ b.2, Unit1 u ∧ u ≠ [34]
theorem strip_plain {x : Str} : ∀ (us : List (List Nat)) (i : Nat) (r : List (Nat × Str)) (st : Nat) (op : Option Nat) (res : List Str), (∀ u ∈ us, u ≠ [34]) → stripLoop x (posU i us ++ r) st op res = stripLoop x r st op res
  | [], _, _, _, _, _, _ => rfl
  | u :: us, i, r, st, op, res, h => by
    rw [posU, List.cons_append, strip_cons, tx_quote, tx_beq, if_neg (by simpa using h u (List.mem_cons_self ..))]
    exact strip_plain us _ r st op res fun v hv => h v (List.mem_cons_of_mem _ hv)
theorem strip_quoted {x : Str} {us : List (List Nat)} {i : Nat} {r : List (Nat × Str)} {st : Nat} {res : List Str} (h : ∀ u ∈ us, u ≠ [34]) : stripLoop x (posU i ([34] :: us ++ [[34]]) ++ r) st none res = stripLoop x r (i + ([34] :: us ++ [[34]]).flatten.length) none (if (st : Int) != (i : Int) then res ++ [Txt.slice x (some (st : Int)) (some (i : Int))] else res) := by
  rw [posU_app, List.append_assoc, posU, List.cons_append, strip_cons, tx_quote, tx_beq, if_pos (by rfl)]
  dsimp only
  rw [strip_plain us _ _ _ _ _ h]
  rw [posU, List.cons_append, strip_cons, tx_quote, tx_beq, if_pos (by rfl)]
  dsimp only
  have e : i + ([34] :: us).flatten.length + [34].length - 1 + 1 = i + ([34] :: us ++ [[34]]).flatten.length := by simp; exact Int.toNat_natCast _
  have e2 : i + [34].length - 1 = i := by simp
  rw [e, e2]
  rfl
/-- what the loop of _strip_quoted_realnames leaves of blocks -/
theorem strip_blocks {L : List Nat} : ∀ (bs : List Blk) (pre acc : List Nat) (st : Nat) (res : List (List Nat)), (∀ b ∈ bs, BlkOk b) → L = pre ++ (allU bs).flatten → st ≤ pre.length → res.flatten ++ pre.drop st = acc →
    ∃ (st' : Nat) (res' : List (List Nat)), stripLoop (tx L) (posU pre.length (allU bs)) st none (res.map tx) = (st', res'.map tx) ∧ st' ≤ L.length ∧ res'.flatten ++ L.drop st' = acc ++ (plainU bs).flatten
  | [], pre, acc, st, res, _, hL, hs, ha => by
    refine ⟨st, res, rfl, ?_, ?_⟩
    · rw [hL]; simpa [allU] using hs
    · rw [hL]; simpa [allU, plainU] using ha
  | (q, us) :: bs, pre, acc, st, res, hb, hL, hs, ha => by
    have hok := fun b h => hb b (List.mem_cons_of_mem (q, us) h)
    have h34 : ∀ u ∈ us, u ≠ [34] := fun u hu => (hb (q, us) (List.mem_cons_self ..) u hu).2
    have e : allU ((q, us) :: bs) = blkUnits (q, us) ++ allU bs := rfl
    rw [e] at hL ⊢
    rw [List.flatten_append, ← List.append_assoc] at hL
    rw [posU_app]
    have elen : pre.length + (blkUnits (q, us)).flatten.length = (pre ++ (blkUnits (q, us)).flatten).length := by simp
    rw [elen]
    cases q with
    | false =>
      have hbu : blkUnits (false, us) = us := rfl
      rw [hbu] at hL ⊢
      rw [strip_plain us _ _ _ _ _ h34]
      obtain ⟨st', res', h1, h2, h3⟩ := strip_blocks bs (pre ++ us.flatten) (acc ++ us.flatten) st res hok hL (by rw [List.length_append]; grind) (by rw [List.drop_append_of_le_length hs, ← List.append_assoc, ha])
      refine ⟨st', res', h1, h2, h3.trans ?_⟩
      rw [List.append_assoc]
      show _ = acc ++ (us ++ plainU bs).flatten
      rw [List.flatten_append]
    | true =>
      have hbu : blkUnits (true, us) = [34] :: us ++ [[34]] := rfl
      rw [hbu] at hL elen ⊢
      rw [strip_quoted h34]
      have hsl : Txt.slice (tx L) (some (st : Int)) (some (pre.length : Int)) = tx (pre.drop st) := by
        have hl : pre.length ≤ L.length := by rw [hL]; simp
        rw [tx_slice L hs hl]
        congr 1
        rw [hL, List.append_assoc, List.drop_append_of_le_length hs, List.take_append_of_le_length (by simp), List.take_of_length_le (by simp)]
      rw [hsl]
      have hres : ∃ res2 : List (List Nat), (if ((st : Int) != (pre.length : Int)) = true then res.map tx ++ [tx (pre.drop st)] else res.map tx) = res2.map tx ∧ res2.flatten = acc := by
        by_cases h0 : st = pre.length
        · refine ⟨res, ?_, ?_⟩
          · rw [h0]; simp
          · rw [← ha, h0]; simp
        · refine ⟨res ++ [pre.drop st], ?_, ?_⟩
          · rw [if_pos (by simp; grind)]; simp
          · rw [← ha]; simp
      obtain ⟨res2, e2, e3⟩ := hres
      rw [e2, elen]
      obtain ⟨st', res', h1, h2, h3⟩ := strip_blocks bs (pre ++ ([34] :: us ++ [[34]]).flatten) acc _ res2 hok hL (Nat.le_refl _) (by simp [e3])
      refine ⟨st', res', h1, h2, h3.trans ?_⟩
      rfl
theorem unit_quote {b : Blk} (h : BlkOk b) : ∀ u ∈ blkUnits b, Unit1 u := by
  intro u hu
  obtain ⟨q, us⟩ := b
  cases q with
  | false => exact (h u hu).1
  | true =>
    have hu' : u ∈ [34] :: us ++ [[34]] := hu
    simp only [List.cons_append, List.mem_cons, List.mem_append, List.not_mem_nil, or_false] at hu'
    rcases hu' with rfl | hu' | rfl
    · exact .inl ⟨34, rfl, by decide⟩
    · exact (h u hu').1
    · exact .inl ⟨34, rfl, by decide⟩
theorem strip_tx {bs : List Blk} (h : ∀ b ∈ bs, BlkOk b) : stripQ (tx (allU bs).flatten) = tx (plainU bs).flatten := by
  have hu : ∀ u ∈ allU bs, Unit1 u := by
    intro u hu
    obtain ⟨b, hb, hu⟩ := List.mem_flatMap.mp hu
    exact unit_quote (h b hb) u hu
  unfold stripQ
  rw [tx_quote, tx_has]
  by_cases hc : 34 ∈ (allU bs).flatten
  · rw [if_pos (by simpa using hc)]
    obtain ⟨st', res', h1, h2, h3⟩ := strip_blocks (L := (allU bs).flatten) bs [] [] 0 [] h (by simp) (by simp) (by simp)
    unfold stripRes
    rw [esc_tx hu]
    rw [show ([] : List Nat).length = 0 from rfl, show ([] : List (List Nat)).map tx = [] from rfl] at h1
    rw [h1]
    dsimp only
    rw [tx_len, tx_from _ h2]
    rw [List.nil_append] at h3
    by_cases hl : st' < (allU bs).flatten.length
    · rw [if_pos (by exact Int.ofNat_lt.mpr (by assumption)), show res'.map tx ++ [tx ((allU bs).flatten.drop st')] = (res' ++ [(allU bs).flatten.drop st']).map tx by simp, tx_join, ← h3]
      simp
    · rw [if_neg (by grind), tx_join, ← h3, List.drop_of_length_le (by exact Nat.le_of_not_lt (by assumption)), List.append_nil]
  · rw [if_neg (by simpa using hc)]
    congr 1
    congr 1
    unfold allU plainU at *
    rw [List.flatMap_def, List.flatMap_def]
    congr 1
    refine List.map_congr_left fun b hb => ?_
    obtain ⟨q, us⟩ := b
    cases q with
    | false => rfl
    | true =>
      refine absurd ?_ hc
      refine List.mem_flatten.mpr ⟨[34], List.mem_flatMap.mpr ⟨_, hb, ?_⟩, List.mem_singleton.mpr rfl⟩
      exact List.mem_append_left _ (List.mem_cons_self ..)
theorem check_blocks {bs : List Blk} (h : ∀ b ∈ bs, BlkOk b) : checkP (tx (allU bs).flatten) = (balB ((plainU bs).filterMap parOf) 0 == some 0) := by
  unfold checkP
  have hu : ∀ u ∈ plainU bs, Unit1 u := by
    intro u hu
    obtain ⟨b, hb, hu⟩ := List.mem_flatMap.mp hu
    obtain ⟨q, us⟩ := b
    cases q with
    | true => cases hu
    | false => exact (h _ hb u hu).1
  rw [strip_tx h, esc_tx hu, check_units]
  cases balB ((plainU bs).filterMap parOf) 0 with
  | none => rfl
  | some o => rfl
theorem check_plain {us : List (List Nat)} (h : ∀ u ∈ us, Unit1 u ∧ u ≠ [34]) : checkP (tx us.flatten) = (balB (us.filterMap parOf) 0 == some 0) := by
  have := check_blocks (bs := [(false, us)]) (by intro b hb; rw [List.mem_singleton] at hb; subst hb; exact h)
  simpa [allU, plainU, blkUnits] using this
theorem check_open {us : List (List Nat)} (h : ∀ u ∈ us, Unit1 u ∧ u ≠ [34]) : checkP (tx (us ++ [[34], [41]]).flatten) = (balB (us.filterMap parOf ++ [false]) 0 == some 0) := by
  have hu : ∀ u ∈ us ++ [[34], [41]], Unit1 u := by
    intro u hu
    rcases List.mem_append.mp hu with hu | hu
    · exact (h u hu).1
    · simp only [List.mem_cons, List.not_mem_nil, or_false] at hu
      rcases hu with rfl | rfl
      · exact .inl ⟨34, rfl, by decide⟩
      · exact .inl ⟨41, rfl, by decide⟩
  have hs : stripQ (tx (us ++ [[34], [41]]).flatten) = tx (us ++ [[34], [41]]).flatten := by
    unfold stripQ
    rw [tx_quote, tx_has, if_pos (by simp)]
    have hloop : ∀ (x : Str) (i : Nat), stripLoop x (posU i [[34], [41]]) 0 none [] = (0, []) := by
      intro x i
      rw [posU, strip_cons, tx_quote, tx_beq, if_pos (by rfl)]
      dsimp only
      rw [posU, strip_cons, tx_quote, tx_beq, if_neg (by decide)]
      rfl
    unfold stripRes
    rw [esc_tx hu, posU_app, strip_plain us _ _ _ _ _ fun u hu => (h u hu).2, hloop]
    dsimp only
    rw [tx_len, if_pos (by simp; grind), tx_from _ (Nat.zero_le _), List.nil_append]
    have := tx_join [(us ++ [[34], [41]]).flatten]
    simpa using this
  unfold checkP
  rw [hs, esc_tx hu, check_units]
  have e : (us ++ [[34], [41]]).filterMap parOf = us.filterMap parOf ++ [false] := by rw [List.filterMap_append]; rfl
  rw [e]
  cases balB (us.filterMap parOf ++ [false]) 0 with
  | none => rfl
  | some o => rfl
end Mine
end
section -- PA
open PySem PySem.W PyProof.Rows PySem.Calls
namespace Mine
/-- the name that pretty_flags tells for a place -/
noncomputable def nmAt (k : Nat) : Str := flGet (1 * 2 ^ ((k : Int)).toNat) (baseText "0x" 16 (1 * 2 ^ ((k : Int)).toNat))
noncomputable def bitsFrom : Nat → Nat → Int → List Nat
  | _, 0, _ => []
  | i, j + 1, m => if m % 2 = 1 then i :: bitsFrom (i + 1) j (m / 2) else bitsFrom (i + 1) j (m / 2)
theorem bits_zero : ∀ (j i : Nat), bitsFrom i j 0 = []
  | 0, _ => rfl
  | j + 1, i => by rw [bitsFrom, if_neg (by decide)]; exact bits_zero j (i + 1)
theorem pow_step (j : Nat) : (2 : Int) ^ (j + 1) = 2 * 2 ^ j := by rw [Int.pow_succ, Int.mul_comm]
theorem div_step (m : Int) (j : Nat) : m / 2 ^ (j + 1) = m / 2 / 2 ^ j := by
  rw [pow_step, ← Int.ediv_ediv_of_nonneg (by decide)]
theorem bits_none : ∀ (j i : Nat) (m : Int), bitsFrom i j m = [] → m / 2 ^ j = 0 → m = 0
  | 0, _, m, _, h => by simpa using h
  | j + 1, i, m, h, h2 => by
    rw [bitsFrom] at h
    split at h
    · cases h
    · rename_i hm
      have := bits_none j (i + 1) (m / 2) h (by rw [← div_step]; exact h2)
      grind
theorem bit_and (i : Nat) (m : Int) : Builtin.bitAnd (2 ^ i * m) (1 * 2 ^ ((i : Int)).toNat) = (m % 2) * 2 ^ i := by
  have hp := kbt_pos i
  rw [Int.one_mul, Int.toNat_natCast, kbt_bit, Int.mul_ediv_cancel_left _ (by grind)]
theorem pf_lemma : ∀ (j i : Nat) (m : Int) (ns : List Str), pfLoop (List.range' i j) (2 ^ i * m) ns =
    if m / 2 ^ j = 0 ∧ bitsFrom i j m ≠ [] then (ns ++ (bitsFrom i j m).map nmAt, 0, true) else (ns ++ (bitsFrom i j m).map nmAt, 2 ^ (i + j) * (m / 2 ^ j), false)
  | 0, i, m, ns => by simp [bitsFrom, pfLoop]
  | j + 1, i, m, ns => by
    have hp := kbt_pos i
    have ih := pf_lemma j (i + 1) (m / 2)
    rw [List.range'_succ, pfLoop]
    dsimp only
    rw [bit_and]
    by_cases hm : m % 2 = 1
    · have hx : Builtin.bitXor (2 ^ i * m) (1 * 2 ^ ((i : Int)).toNat) = 2 ^ (i + 1) * (m / 2) := by
        have e : m = 2 * (m / 2) + 1 := by grind
        rw [bitXor_and, bit_and, hm, Int.one_mul, Int.one_mul, Int.toNat_natCast, pow_step, Int.mul_assoc]
        conv => lhs; rw [e]
        rw [Int.mul_add, Int.mul_one]
        have : (2 : Int) ^ i * (2 * (m / 2)) = 2 * (2 ^ i * (m / 2)) := by rw [← Int.mul_assoc, ← Int.mul_assoc, Int.mul_comm (2 ^ i) 2]
        rw [this]; omega
      rw [if_pos (by rw [hm, Int.one_mul]; simp; grind), hx]
      have hb : bitsFrom i (j + 1) m = i :: bitsFrom (i + 1) j (m / 2) := by rw [bitsFrom, if_pos hm]
      rw [hb, div_step]
      by_cases h0 : m / 2 = 0
      · rw [h0, bits_zero]
        simp [nmAt]
      · have hne : (2 ^ (i + 1) * (m / 2) : Int) ≠ 0 := Int.mul_ne_zero (by have := kbt_pos (i + 1); grind) h0
        rw [if_pos (by simpa using hne), ih]
        by_cases h1 : m / 2 / 2 ^ j = 0
        · have hb2 : bitsFrom (i + 1) j (m / 2) ≠ [] := fun h => h0 (bits_none _ _ _ h h1)
          rw [if_pos ⟨h1, hb2⟩, if_pos ⟨h1, by simp⟩]
          simp [nmAt]
        · rw [if_neg (fun h => h1 h.1), if_neg (fun h => h1 h.1)]
          have e : i + 1 + j = i + (j + 1) := by exact Nat.add_right_comm _ _ _
          rw [e]
          simp [nmAt]
    · have h0 : m % 2 = 0 := by grind
      rw [if_neg (by rw [h0]; simp)]
      have e : (2 ^ i * m : Int) = 2 ^ (i + 1) * (m / 2) := by
        have e : m = 2 * (m / 2) := by grind
        conv => lhs; rw [e]
        rw [pow_step, Int.mul_assoc, ← Int.mul_assoc (2 ^ i), Int.mul_comm (2 ^ i) 2, Int.mul_assoc]
      have hb : bitsFrom i (j + 1) m = bitsFrom (i + 1) j (m / 2) := by rw [bitsFrom, if_neg hm]
      rw [e, ih, hb, div_step]
      have e : i + 1 + j = i + (j + 1) := by exact Nat.add_right_comm _ _ _
      rw [e]
theorem bits_sum : ∀ (j i : Nat) (fs : List Nat) (a : Int), fs.Pairwise (· < ·) → (∀ k ∈ fs, i ≤ k ∧ k < i + j) →
    bitsFrom i j ((fs.map fun k : Nat => (2 : Int) ^ (k - i)).sum + a * 2 ^ j) = fs ∧ ((fs.map fun k : Nat => (2 : Int) ^ (k - i)).sum + a * 2 ^ j) / 2 ^ j = a
  | 0, i, fs, a, _, h => by
    cases fs with
    | nil => simp [bitsFrom]
    | cons k r => have := h k (.head _); grind
  | j + 1, i, fs, a, hp, h => by
    have key : ∀ r : List Nat, (∀ k ∈ r, i < k) → (r.map fun k : Nat => (2 : Int) ^ (k - i)).sum = 2 * (r.map fun k : Nat => (2 : Int) ^ (k - (i + 1))).sum := by
      intro r
      induction r with
      | nil => intro _; simp
      | cons k r ih =>
        intro hr
        have h1 := ih fun x hx => hr x (.tail _ hx)
        have h2 := hr k (.head _)
        rw [List.map_cons, List.sum_cons, h1, List.map_cons, List.sum_cons, Int.mul_add]
        have e : k - i = (k - (i + 1)) + 1 := by grind
        rw [e, pow_step]
    have hpow : a * 2 ^ (j + 1) = 2 * (a * 2 ^ j) := by rw [pow_step, ← Int.mul_assoc, Int.mul_comm a 2, Int.mul_assoc]
    by_cases hc : ∃ r, fs = i :: r
    · obtain ⟨r, rfl⟩ := hc
      have hr : ∀ k ∈ r, i < k := (List.pairwise_cons.mp hp).1
      obtain ⟨i1, i2⟩ := bits_sum j (i + 1) r a (List.pairwise_cons.mp hp).2 fun k hk => ⟨hr k hk, by have := h k (.tail _ hk); lia⟩
      rw [List.map_cons, List.sum_cons, key r hr, hpow, Nat.sub_self, Int.pow_zero]
      have e : (1 + 2 * (r.map fun k : Nat => (2 : Int) ^ (k - (i + 1))).sum + 2 * (a * 2 ^ j)) / 2 = (r.map fun k : Nat => (2 : Int) ^ (k - (i + 1))).sum + a * 2 ^ j := by grind
      refine ⟨?_, ?_⟩
      · rw [bitsFrom, if_pos (by simp), e, i1]
      · rw [div_step, e, i2]
    · have hr : ∀ k ∈ fs, i < k := by
        intro k hk
        have h1 := (h k hk).1
        rcases Nat.lt_or_eq_of_le h1 with h2 | h2
        · exact h2
        · cases fs with
          | nil => cases hk
          | cons x r =>
            have h3 := (h x (.head _)).1
            rcases List.mem_cons.mp hk with h4 | h4
            · exact absurd ⟨r, by rw [h2, h4]⟩ hc
            · have := (List.pairwise_cons.mp hp).1 k h4; exact Nat.lt_of_le_of_lt (by assumption) (by assumption)
      obtain ⟨i1, i2⟩ := bits_sum j (i + 1) fs a hp fun k hk => ⟨hr k hk, by have := h k hk; omega⟩
      rw [key fs hr, hpow]
      have e : (2 * (fs.map fun k : Nat => (2 : Int) ^ (k - (i + 1))).sum + 2 * (a * 2 ^ j)) / 2 = (fs.map fun k : Nat => (2 : Int) ^ (k - (i + 1))).sum + a * 2 ^ j := by grind
      refine ⟨?_, ?_⟩
      · rw [bitsFrom, if_neg (by simp), e, i1]
      · rw [div_step, e, i2]
theorem places_sorted (f m : Nat) : (placesOf f m).Pairwise (· < ·) := by
  unfold placesOf
  rw [List.pairwise_map]
  refine List.Pairwise.imp (fun h => Nat.add_lt_add_right h 1) ?_
  exact List.Pairwise.filter _ List.pairwise_lt_range
theorem places_le {f m k : Nat} (h : k ∈ placesOf f m) : 1 ≤ k ∧ k ≤ m - 1 := by
  unfold placesOf at h
  obtain ⟨a, ha, rfl⟩ := List.mem_map.mp h
  have := List.mem_range.mp (List.mem_filter.mp ha).1
  lia
theorem flags_sorted (f c m : Nat) : (flagsOf f c m).Pairwise (· < ·) := by
  unfold flagsOf
  rw [List.pairwise_map]
  refine List.Pairwise.imp_of_mem ?_ (places_sorted f m)
  intro a b ha hb hab
  have h1 := places_le ha
  have hs : 1 ≤ stepOf c := by unfold stepOf; exact Nat.succ_pos _
  unfold flagAt
  have : stepOf c * (a - 1) < stepOf c * (b - 1) := Nat.mul_lt_mul_of_pos_left (by grind) (by assumption)
  lia
theorem flags_lt {f c m k : Nat} (h4 : 4 ≤ m) (h5 : m ≤ 5) (h : k ∈ flagsOf f c m) : k < 32 := by
  unfold flagsOf at h
  obtain ⟨a, ha, rfl⟩ := List.mem_map.mp h
  have h1 := places_le ha
  have hs : stepOf c ≤ 8 := by unfold stepOf; exact Nat.mod_lt _ (Nat.succ_pos _)
  unfold flagAt
  have h2 : stepOf c * (a - 1) ≤ stepOf c * (m - 2) := Nat.mul_le_mul_left _ (by grind)
  have h3 : stepOf c * (m - 2) ≤ 8 * (m - 2) := Nat.mul_le_mul_right _ hs
  have := Nat.mod_lt c (show 32 - stepOf c * (m - 2) > 0 by omega)
  omega
theorem due_is : ∀ k < 32, dueAt k = nmAt k := by decide +kernel
theorem nm_len : ∀ k < 32, (nmAt k).length ≤ 20 := by decide +kernel
theorem rest_is : ∀ a < 31, restOf (((a : Nat) : Int) - 15) = [baseText "0x" 16 (2 ^ 32 * (((a : Nat) : Int) - 15))] := by decide +kernel
theorem rest_len : ∀ a < 31, (baseText "0x" 16 (2 ^ 32 * (((a : Nat) : Int) - 15))).length ≤ 20 := by decide +kernel
theorem flags_law {f c m : Nat} (h4 : 4 ≤ m) (h5 : m ≤ 5) :
    ((pfLoop (List.range 32) (flagArg f c m) []).2.2 = false → (baseText "0x" 16 (pfLoop (List.range 32) (flagArg f c m) []).2.1).length ≤ 1000) ∧
    JoinOk (Str.ofString ", ") (pfNames (flagArg f c m)) = true ∧ JoinOk (Str.ofString ", ") (dueOf f c m) = true ∧ prettyFlags (flagArg f c m) = Txt.join (Str.ofString ", ") (dueOf f c m) := by
  have hs := bits_sum 32 0 (flagsOf f c m) (aboveOf c) (flags_sorted f c m) fun k hk => ⟨Nat.zero_le _, by have := flags_lt h4 h5 hk; assumption⟩
  simp only [Nat.sub_zero] at hs
  have hr : List.range 32 = List.range' 0 32 := List.range_eq_range'
  have hl := pf_lemma 32 0 (flagArg f c m) []
  have e0 : (2 ^ 0 * flagArg f c m : Int) = flagArg f c m := by rw [Int.pow_zero, Int.one_mul]
  rw [e0, ← hr] at hl
  have ea : flagArg f c m / 2 ^ 32 = aboveOf c := hs.2
  have eb : bitsFrom 0 32 (flagArg f c m) = flagsOf f c m := hs.1
  rw [ea, eb, List.nil_append] at hl
  have hA : c / 256 % 31 < 31 := Nat.mod_lt _ (by decide)
  have hrest : restOf (aboveOf c) = [baseText "0x" 16 (2 ^ 32 * aboveOf c)] := rest_is _ hA
  have hrl : (baseText "0x" 16 (2 ^ 32 * aboveOf c)).length ≤ 20 := rest_len _ hA
  have hdue : (flagsOf f c m).map dueAt = (flagsOf f c m).map nmAt := List.map_congr_left fun k hk => due_is k (flags_lt h4 h5 hk)
  have hcount : (flagsOf f c m).length ≤ 4 := by
    unfold flagsOf placesOf
    rw [List.length_map, List.length_map]
    refine Nat.le_trans (List.length_filter_le _ _) ?_
    rw [List.length_range]; lia
  have hpn : pfNames (flagArg f c m) = dueOf f c m := by
    unfold pfNames dueOf
    dsimp only
    rw [hl, hdue]
    by_cases h : aboveOf c = 0 ∧ flagsOf f c m ≠ []
    · rw [if_pos h, if_pos rfl, if_pos (by simp [h.1, h.2])]
    · rw [if_neg h, if_neg (by simp), if_neg (by simp; intro a b; exact h ⟨b, a⟩), hrest]
  have hj : JoinOk (Str.ofString ", ") (dueOf f c m) = true := by
    have hb : ∀ x ∈ dueOf f c m, x.length ≤ 20 := by
      intro x hx
      unfold dueOf at hx
      dsimp only at hx
      rw [hdue, hrest] at hx
      have hx2 : x ∈ (flagsOf f c m).map nmAt ++ [baseText "0x" 16 (2 ^ 32 * aboveOf c)] := by
        split at hx
        · exact List.mem_append_left _ hx
        · exact hx
      rcases List.mem_append.mp hx2 with h | h
      · obtain ⟨k, hk, rfl⟩ := List.mem_map.mp h
        exact nm_len k (flags_lt h4 h5 hk)
      · rw [List.mem_singleton] at h; subst h; exact hrl
    have hn : (dueOf f c m).length ≤ 5 := by
      unfold dueOf
      dsimp only
      rw [hdue, hrest]
      split <;> simp <;> exact Nat.le_trans (by assumption) (by decide)
    refine joinOk_of ?_
    have hsum := sum_le_mul (n := 20) (l := (dueOf f c m).map (·.length)) (by
      intro a ha
      obtain ⟨r, hr, rfl⟩ := List.mem_map.mp ha
      exact hb r hr)
    rw [List.length_map] at hsum
    have e : (Str.ofString ", ").length = 2 := rfl
    rw [e]
    grind
  refine ⟨fun h => ?_, by rw [hpn]; exact hj, hj, by unfold prettyFlags; rw [hpn]⟩
  rw [hl] at h ⊢
  split
  · rename_i h2; rw [if_pos h2] at h; cases h
  · refine Nat.le_trans hrl (by decide)
theorem sum_is {f c m : Nat} (h4 : 4 ≤ m) (h5 : m ≤ 5) : sumOf f c m = ((placesOf f m).map fun k : Nat => (k : Int)).sum := by
  unfold sumOf
  rw [if_pos (by rw [(flags_law h4 h5).2.2.2]; simp)]
end Mine
end
section -- PB
open PySem PySem.W PyProof.Rows PySem.Calls
namespace Mine
/-- octets whose every one but the last waits for the next -/
noncomputable def Enc : List Nat → Prop
  | [] => False
  | [b] => b % 128 < 64
  | b :: c :: r => 64 ≤ b % 128 ∧ Enc (c :: r)
noncomputable def valB : Nat → List Nat → Nat
  | v, [] => v
  | v, b :: r => valB (v * 64 + b % 64) r
theorem valB_le : ∀ (l : List Nat) (v : Nat), v ≤ valB v l
  | [], v => Nat.le_refl v
  | b :: r, v => by
    have := valB_le r (v * 64 + b % 64)
    rw [valB]; grind
theorem and_low (b : Nat) : Builtin.bitAnd ((b : Nat) : Int) 63 = ((b % 64 : Nat) : Int) := by
  rw [bitAnd_m6]; exact rfl
theorem and_cont (b : Nat) : (Builtin.bitAnd ((b : Nat) : Int) 64 != 0) = decide (64 ≤ b % 128) := by
  have h := kbt_bit (b : Int) 6
  rw [show (2 : Int) ^ 6 = 64 from rfl] at h
  rw [h, Bool.eq_iff_iff, bne_iff_ne, decide_eq_true_iff]
  grind
theorem or_low (v b : Nat) : Builtin.bitOr ((v : Int) * 2 ^ (6 : Int).toNat) (Builtin.bitAnd ((b : Nat) : Int) 63) = ((v * 64 + b % 64 : Nat) : Int) := by
  have hx : ∀ x y : Int, Builtin.bitOr x y = x + y - Builtin.bitAnd x y := by
    intro x y
    have := bitXor_and x y
    unfold Builtin.bitXor at this
    lia
  rw [and_low, hx, show (2 : Int) ^ (6 : Int).toNat = 64 from rfl]
  have h0 : Builtin.bitAnd ((v : Int) * 64) ((b % 64 : Nat) : Int) = 0 := by
    have h1 : ∀ z : Int, z = (v : Int) * 64 → z = ((v <<< 6 : Nat) : Int) := by intro z hz; rw [Nat.shiftLeft_eq]; assumption
    rw [h1 _ rfl, bitAnd_pp (by exact Int.natCast_nonneg _) (by exact Int.natCast_nonneg _), Int.toNat_natCast, Int.toNat_natCast]
    have : v <<< 6 &&& b % 64 = 0 := by
      apply Nat.eq_of_testBit_eq
      intro i
      rw [Nat.testBit_and, Nat.testBit_shiftLeft, Nat.zero_testBit]
      by_cases hi : 6 ≤ i
      · have : (b % 64).testBit i = false := by
          apply Nat.testBit_lt_two_pow
          exact Nat.lt_of_lt_of_le (Nat.mod_lt _ (by decide)) (Nat.pow_le_pow_right (n := 2) (by decide) hi)
        rw [this]; simp
      · simp [hi]
    rw [this]; rfl
  rw [h0]; exact rfl
theorem vLoop_enc : ∀ (l : List Nat) (b v : Nat) (rest : List Int), Enc (b :: l) → valB v l < 2 ^ 1000 → vLoop (b : Int) (v : Int) (l.map (fun c : Nat => (c : Int)) ++ rest) = some (((valB v l : Nat) : Int), rest)
  | [], b, v, rest, h, hv => by
    have h : b % 128 < 64 := h
    rw [List.map_nil, List.nil_append, valB]
    cases rest with
    | nil => rw [vLoop, and_cont, if_neg (by simp; assumption)]
    | cons c r => rw [vLoop, and_cont, if_neg (by simp; assumption)]
  | c :: r, b, v, rest, h, hv => by
    obtain ⟨h1, h2⟩ : 64 ≤ b % 128 ∧ Enc (c :: r) := h
    have hle := valB_le (c :: r) v
    rw [List.map_cons, List.cons_append, vLoop, and_cont, if_pos (by simpa using h1), if_pos (by rw [Int.natAbs_natCast]; exact Nat.lt_of_le_of_lt hle hv), or_low, vLoop_enc r c _ rest h2 hv]
    rfl
theorem varint_enc {l : List Nat} {rest : List Int} (h : Enc l) (hv : valB 0 l < 2 ^ 1000) : varint (l.map (fun c : Nat => (c : Int)) ++ rest) = some (((valB 0 l : Nat) : Int), rest) := by
  cases l with
  | nil => exact absurd h (by simp [Enc])
  | cons b r =>
    rw [List.map_cons, List.cons_append, varint, and_low]
    have e : 0 * 64 + b % 64 = b % 64 := by exact Nat.add_comm _ _
    rw [valB, e] at hv ⊢
    exact vLoop_enc r b _ rest h hv
theorem dg_hi {x y : Nat} : 64 ≤ (x % 64 + 64 + 128 * y) % 128 := by
  rw [Nat.add_mul_mod_self_left, Nat.mod_eq_of_lt (Nat.add_lt_add_right (Nat.mod_lt x (by decide)) 64)]
  exact Nat.le_add_left _ _
theorem dg_lo {x y : Nat} : (x % 64 + 0 + 128 * y) % 128 < 64 := by
  rw [Nat.add_mul_mod_self_left, Nat.add_zero, Nat.mod_eq_of_lt (Nat.lt_trans (Nat.mod_lt x (by decide)) (by decide))]
  exact Nat.mod_lt x (by decide)
theorem dg_v {x y : Nat} (z : Nat) : (x % 64 + 64 * z + 128 * y) % 64 = x % 64 := by
  rw [show x % 64 + 64 * z + 128 * y = x % 64 + 64 * (z + 2 * y) by rw [Nat.mul_add, ← Nat.mul_assoc, Nat.add_assoc], Nat.add_mul_mod_self_left, Nat.mod_mod]
theorem digitAt (n k p : Nat) : digitOf n k p % 64 = n / 64 ^ p % 64 := by
  unfold digitOf
  split
  · exact dg_v 1
  · exact dg_v 0
theorem dg_next (n a : Nat) : n / (a * 64) * 64 + n / a % 64 = n / a := by
  rw [← Nat.div_div_eq_div_mul]; exact Nat.div_add_mod' _ _
theorem digits_enc {n k : Nat} (hn : n < 64 ^ 4) : Enc (digitsOf n k) ∧ valB 0 (digitsOf n k) = n := by
  refine ⟨⟨dg_hi, dg_hi, dg_hi, dg_lo⟩, ?_⟩
  show (((0 * 64 + digitOf n k 3 % 64) * 64 + digitOf n k 2 % 64) * 64 + digitOf n k 1 % 64) * 64 + digitOf n k 0 % 64 = n
  rw [digitAt, digitAt, digitAt, digitAt, Nat.zero_mul, Nat.zero_add, Nat.mod_eq_of_lt (Nat.div_lt_of_lt_mul hn : n / 64 ^ 3 < 64)]
  have h2 := dg_next n (64 ^ 2)
  have h1 := dg_next n (64 ^ 1)
  have h0 := dg_next n (64 ^ 0)
  rw [show 64 ^ 2 * 64 = 64 ^ 3 from rfl] at h2
  rw [show 64 ^ 1 * 64 = 64 ^ 2 from rfl] at h1
  rw [show 64 ^ 0 * 64 = 64 ^ 1 from rfl] at h0
  rw [h2, h1, h0, Nat.pow_zero, Nat.div_one]
/-- the tape, read -/
theorem tapeFrom_is (sz cells : List Nat) : ∀ (ks t : List Nat), tapeFrom sz cells ks t = t ++ ks.flatMap fun k => digitsOf (sz.getD k 0 + 11 * cells.getD k 0) k
  | [], t => by simp [tapeFrom]
  | k :: r, t => by rw [tapeFrom, tapeFrom_is sz cells r]; simp
theorem readMany_is (f : Nat → Nat) : ∀ (ks : List Nat) (rest : List Int), (∀ k ∈ ks, f k < 64 ^ 4) → readMany ks.length ((ks.flatMap fun k => digitsOf (f k) k).map (fun c : Nat => (c : Int)) ++ rest) = some (ks.map fun k => (f k : Int), rest)
  | [], rest, _ => rfl
  | k :: r, rest, h => by
    obtain ⟨e1, e2⟩ := digits_enc (k := k) (h k (.head _))
    have hv : valB 0 (digitsOf (f k) k) < 2 ^ 1000 := by
      rw [e2]; exact Nat.lt_of_lt_of_le (h k (.head _)) (by decide)
    rw [List.flatMap_cons, List.map_append, List.append_assoc, List.length_cons, readMany, varint_enc e1 hv]
    dsimp only
    rw [readMany_is f r rest fun x hx => h x (.tail _ hx)]
    dsimp only
    rw [e2, List.map_cons]
noncomputable def toldOf (sz cells : List Nat) (many : Nat) : List Nat := (List.range many).map fun k => sz.getD k 0 + 11 * cells.getD k 0
theorem tape_read {outer : List Int} {cells : List Nat} {many : Nat} (hl : outer.length = many) (hs : ∀ k < many, (sizesOf outer).getD k 0 < 11) (hc : ∀ k < many, cells.getD k 0 < 1000000) :
    readMany many ((tapeOf outer cells).map fun c : Nat => (c : Int)) = some ((toldOf (sizesOf outer) cells many).map (fun c : Nat => (c : Int)), (List.replicate (cells.getD 5 0 / 180 % 2) 64).map fun c : Nat => (c : Int)) := by
  unfold tapeOf toldOf
  rw [tapeFrom_is, List.nil_append, List.map_append, hl]
  have := readMany_is (fun k => (sizesOf outer).getD k 0 + 11 * cells.getD k 0) (List.range many) ((List.replicate (cells.getD 5 0 / 180 % 2) 64).map fun c : Nat => (c : Int)) (fun k hk => by
    have h1 := hs k (List.mem_range.mp hk)
    have h2 := hc k (List.mem_range.mp hk)
    show _ < 16777216
    grind)
  rw [List.length_range] at this
  rw [this, List.map_map]
  rfl
theorem told_div {outer : List Int} {cells : List Nat} {many : Nat} (hs : ∀ k < many, (sizesOf outer).getD k 0 < 11) (hc : many ≤ cells.length) : ((toldOf (sizesOf outer) cells many).map fun c => c / 11) = cells.take many := by
  unfold toldOf
  rw [List.map_map]
  refine List.ext_getElem (by simp; grind) fun i h1 h2 => ?_
  simp only [List.getElem_map, List.getElem_range, List.getElem_take, Function.comp]
  have hi : i < many := by simpa using h1
  have := hs i hi
  rw [List.getD_eq_getElem?_getD (l := cells), List.getElem?_eq_getElem (by exact Nat.lt_of_lt_of_le (by assumption) (by assumption)), Option.getD_some]
  grind
theorem told_mod {outer : List Int} {cells : List Nat} {many : Nat} (hs : ∀ k < many, (sizesOf outer).getD k 0 < 11) : ((toldOf (sizesOf outer) cells many).map fun c => c % 11) = (List.range many).map fun k => (sizesOf outer).getD k 0 := by
  unfold toldOf
  rw [List.map_map]
  refine List.map_congr_left fun k hk => ?_
  have := hs k (List.mem_range.mp hk)
  show (_ + 11 * _) % 11 = _
  grind
/-- digits as one number -/
noncomputable def polyS (q : Nat) (d : Nat → Nat) : Nat → Nat
  | 0 => 0
  | n + 1 => polyS q d n + d n * q ^ n
theorem polyS_congr {q : Nat} {d e : Nat → Nat} : ∀ n, (∀ k < n, d k = e k) → polyS q d n = polyS q e n
  | 0, _ => rfl
  | n + 1, h => by rw [polyS, polyS, polyS_congr n fun k hk => h k (by exact Nat.lt_succ_of_lt (by assumption)), h n (by exact Nat.le_refl _)]
theorem polyS_lt {q : Nat} {d : Nat → Nat} (hq : 0 < q) : ∀ n, (∀ k < n, d k < q) → polyS q d n < q ^ n
  | 0, _ => by simp [polyS]
  | n + 1, h => by
    have h1 := polyS_lt hq n fun k hk => h k (by exact Nat.lt_succ_of_lt (by assumption))
    have h2 := h n (by exact Nat.le_refl _)
    rw [polyS, Nat.pow_succ]
    have : d n * q ^ n ≤ (q - 1) * q ^ n := Nat.mul_le_mul_right _ (by lia)
    have e : q ^ n * q = (q - 1) * q ^ n + q ^ n := by
      obtain ⟨p, rfl⟩ : ∃ p, q = p + 1 := ⟨q - 1, by lia⟩
      rw [Nat.mul_comm, Nat.add_one_mul]; rfl
    lia
theorem downTo_succ (n : Nat) : downTo (n + 1) = (n + 1) :: downTo n := by
  unfold downTo
  rw [List.range_succ_eq_map, List.map_cons, List.map_map]
  congr 1
  refine List.map_congr_left fun j _ => ?_
  show n + 1 - (j + 1) = n - j
  simp
theorem down_enc {g : Nat → Nat} (h1 : g 1 % 128 < 64) (h2 : ∀ k, 2 ≤ k → 64 ≤ g k % 128) : ∀ n, Enc ((downTo (n + 1)).map g)
  | 0 => h1
  | n + 1 => by
    have ih := down_enc h1 h2 n
    rw [downTo_succ (n + 1)]
    rw [downTo_succ n] at ih ⊢
    exact ⟨h2 (n + 2) (by exact Nat.le_add_left _ _), ih⟩
theorem down_val {g : Nat → Nat} : ∀ (n v : Nat), valB v ((downTo n).map g) = v * 64 ^ n + polyS 64 (fun k => g (k + 1) % 64) n
  | 0, v => by simp [downTo, valB, polyS]
  | n + 1, v => by
    rw [downTo_succ, List.map_cons, valB, down_val n, polyS, Nat.add_mul, Nat.pow_succ, Nat.mul_assoc, Nat.mul_comm 64 (64 ^ n)]
    simp +arith only
theorem pack_read {c : Nat} {cs : List Nat} (h0 : 0 < cs.length) (h1 : cs.length < 64) (hx : ∀ k < cs.length, cs.getD k 0 < 64) :
    varint ((packOf c cs).map fun c : Nat => (c : Int)) = some (((polyS 64 (fun k => cs.getD k 0) cs.length : Nat) : Int), []) := by
  have hd : ∀ k, cs.getD k 0 < 64 := by
    intro k
    by_cases h : k < cs.length
    · exact hx k h
    · rw [List.getD_eq_getElem?_getD, List.getElem?_eq_none (by exact Nat.le_of_not_lt (by assumption))]; decide
  obtain ⟨n, hn⟩ : ∃ n, cs.length = n + 1 := ⟨cs.length - 1, by lia⟩
  let g : Nat → Nat := fun k => cs.getD (k - 1) 0 + (if k - 1 > 0 then 64 else 0) + 128 * ((c / 90 + (k - 1)) % 2)
  have e1 : Enc ((downTo (n + 1)).map g) := by
    refine down_enc ?_ ?_ n
    · have := hd 0
      show (cs.getD 0 0 + 0 + 128 * ((c / 90 + 0) % 2)) % 128 < 64
      grind
    · intro k hk
      have := hd (k - 1)
      show 64 ≤ (cs.getD (k - 1) 0 + (if k - 1 > 0 then 64 else 0) + 128 * ((c / 90 + (k - 1)) % 2)) % 128
      rw [if_pos (by omega)]
      omega
  have e2 : valB 0 ((downTo (n + 1)).map g) = polyS 64 (fun k => cs.getD k 0) (n + 1) := by
    rw [down_val, Nat.zero_mul, Nat.zero_add]
    refine polyS_congr _ fun k _ => ?_
    have := hd k
    show (cs.getD (k + 1 - 1) 0 + (if k + 1 - 1 > 0 then 64 else 0) + 128 * ((c / 90 + (k + 1 - 1)) % 2)) % 64 = _
    rw [Nat.add_sub_cancel]
    split <;> grind
  have e3 : valB 0 ((downTo (n + 1)).map g) < 2 ^ 1000 := by
    rw [e2]
    refine Nat.lt_of_lt_of_le (polyS_lt (by decide) _ fun k _ => hd k) ?_
    have : (64 : Nat) ^ (n + 1) ≤ 64 ^ 64 := Nat.pow_le_pow_right (by decide) (by lia)
    exact Nat.le_trans this (by decide)
  have := varint_enc (rest := []) e1 e3
  rw [e2, List.append_nil] at this
  unfold packOf
  rw [hn]
  exact this
end Mine
end
section -- PC
open PySem PySem.W PyProof.Rows PySem.Calls
namespace Mine
noncomputable def sg {α : Type} : List α → (α → Int) → Int
  | [], _ => 0
  | a :: l, f => f a + sg l f
noncomputable def sn {α : Type} : List α → (α → Nat) → Nat
  | [], _ => 0
  | a :: l, f => f a + sn l f
theorem sg_congr {α : Type} {f g : α → Int} : ∀ {l : List α}, (∀ a ∈ l, f a = g a) → sg l f = sg l g
  | [], _ => rfl
  | a :: l, h => by rw [sg, sg, h a (.head _), sg_congr fun b hb => h b (.tail _ hb)]
theorem sn_congr {α : Type} {f g : α → Nat} : ∀ {l : List α}, (∀ a ∈ l, f a = g a) → sn l f = sn l g
  | [], _ => rfl
  | a :: l, h => by rw [sn, sn, h a (.head _), sn_congr fun b hb => h b (.tail _ hb)]
theorem sg_zero {α : Type} {f : α → Int} : ∀ {l : List α}, (∀ a ∈ l, f a = 0) → sg l f = 0
  | [], _ => rfl
  | a :: l, h => by rw [sg, h a (.head _), sg_zero fun b hb => h b (.tail _ hb)]; rfl
theorem sg_mul {α : Type} (c : Int) (f : α → Int) : ∀ l : List α, sg l (fun a => c * f a) = c * sg l f
  | [] => by simp [sg]
  | a :: l => by rw [sg, sg, sg_mul c f l, Int.mul_add]
theorem sg_mulr {α : Type} (c : Int) (f : α → Int) : ∀ l : List α, sg l (fun a => f a * c) = sg l f * c
  | [] => by simp [sg]
  | a :: l => by rw [sg, sg, sg_mulr c f l, Int.add_mul]
theorem sg_add {α : Type} (f g : α → Int) : ∀ l : List α, sg l (fun a => f a + g a) = sg l f + sg l g
  | [] => by simp [sg]
  | a :: l => by rw [sg, sg, sg, sg_add f g l]; simp +arith only
theorem sn_add {α : Type} (f g : α → Nat) : ∀ l : List α, sn l (fun a => f a + g a) = sn l f + sn l g
  | [] => by simp [sn]
  | a :: l => by rw [sn, sn, sn, sn_add f g l]; simp +arith only
theorem sg_app {α : Type} (f : α → Int) : ∀ l r : List α, sg (l ++ r) f = sg l f + sg r f
  | [], r => by simp [sg]
  | a :: l, r => by rw [List.cons_append, sg, sg, sg_app f l r, Int.add_assoc]
theorem sg_flat {α β : Type} (g : α → List β) (f : β → Int) : ∀ l : List α, sg (l.flatMap g) f = sg l fun a => sg (g a) f
  | [] => rfl
  | a :: l => by rw [List.flatMap_cons, sg_app, sg, sg_flat g f l]
theorem sg_fm {α β : Type} (p : α → Bool) (φ : α → β) (f : β → Int) : ∀ l : List α, sg ((l.filter p).map φ) f = sg l fun a => if p a = true then f (φ a) else 0
  | [] => rfl
  | a :: l => by
    rw [sg, List.filter_cons]
    split
    · rw [List.map_cons, sg, sg_fm p φ f l]
    · rw [sg_fm p φ f l, Int.zero_add]
theorem sg_filter {α : Type} (p : α → Bool) (f : α → Int) (l : List α) : sg (l.filter p) f = sg l fun a => if p a = true then f a else 0 := by
  have := sg_fm p id f l
  simpa using this
theorem sn_filter {α : Type} (p : α → Bool) (f : α → Nat) : ∀ l : List α, sn (l.filter p) f = sn l fun a => if p a = true then f a else 0
  | [] => rfl
  | a :: l => by
    rw [sn, List.filter_cons]
    split
    · rw [sn, sn_filter p f l]
    · rw [sn_filter p f l, Nat.zero_add]
theorem sg_swap {α β : Type} (F : α → β → Int) (l : List α) : ∀ r : List β, sg l (fun a => sg r fun b => F a b) = sg r fun b => sg l fun a => F a b
  | [] => sg_zero fun _ _ => rfl
  | b :: r => by
    rw [sg, ← sg_swap F l r, ← sg_add]
    rfl
theorem sn_sum {α : Type} (f : α → Nat) : ∀ l : List α, (l.map f).sum = sn l f
  | [] => rfl
  | a :: l => by rw [List.map_cons, List.sum_cons, sn_sum f l, sn]
/-- what lies above a threshold -/
noncomputable def upR (key h : Nat → Nat) (R : List Nat) (c : Nat) : Nat := sn R fun r => if c < key r then h r else 0
noncomputable def gI (q : Int) (key h : Nat → Nat) (R : List Nat) (c x : Nat) : Int := if c < key x then (q ^ h x - 1) * q ^ upR key h R (key x) else 0
theorem tele1 (q : Int) (key h : Nat → Nat) : ∀ (R : List Nat), R.Pairwise (fun a b => key a ≠ key b) → ∀ c, sg R (gI q key h R c) = q ^ upR key h R c - 1
  | [], _, c => by simp [sg, upR, sn]
  | z :: R, hp, c => by
    have hz := (List.pairwise_cons.mp hp).1
    have ih := tele1 q key h R (List.pairwise_cons.mp hp).2
    have hup : ∀ c, upR key h (z :: R) c = (if c < key z then h z else 0) + upR key h R c := fun c => rfl
    rw [sg]
    by_cases hc : c < key z
    · have hf : ∀ x ∈ R, gI q key h (z :: R) c x = q ^ h z * gI q key h R c x + (1 - q ^ h z) * gI q key h R (key z) x := by
        intro x hx
        have hne := hz x hx
        unfold gI
        rw [hup]
        by_cases h1 : key z < key x
        · have hcx : c < key x := by lia
          simp only [if_pos hcx, if_pos h1, if_neg (show ¬ key x < key z by lia), Nat.zero_add]
          generalize (q ^ h x - 1) * q ^ upR key h R (key x) = t
          rw [Int.sub_mul, Int.one_mul]; simp +arith only
        · by_cases h2 : c < key x
          · rw [if_pos h2, if_pos h2, if_neg h1, if_pos (by lia), Int.pow_add, Int.mul_zero, Int.add_zero]
            rw [← Int.mul_assoc, Int.mul_comm _ (q ^ h z), Int.mul_assoc]
          · rw [if_neg h2, if_neg h2, if_neg h1]; simp
      rw [sg_congr hf, sg_add, sg_mul, sg_mul, ih, ih, hup, if_pos hc]
      unfold gI
      rw [if_pos hc, hup, if_neg (by simp), Nat.zero_add, Int.pow_add]
      generalize q ^ h z = a
      generalize q ^ upR key h R (key z) = b
      generalize q ^ upR key h R c = d
      grind
    · have hf : ∀ x ∈ R, gI q key h (z :: R) c x = gI q key h R c x := by
        intro x hx
        unfold gI
        by_cases h2 : c < key x
        · rw [if_pos h2, if_pos h2, hup, if_neg (by lia), Nat.zero_add]
        · rw [if_neg h2, if_neg h2]
      rw [sg_congr hf, ih, hup, if_neg hc, Nat.zero_add]
      unfold gI
      rw [if_neg hc, Int.zero_add]
theorem tele2 (q : Int) (key h : Nat → Nat) {R : List Nat} (hp : R.Pairwise fun a b => key a ≠ key b) (hk : ∀ r ∈ R, 0 < key r) (c N : Nat) (hN : sn R h = N) :
    sg R (fun x => (q ^ h x - 1) * q ^ upR key h R (key x) * (if c < key x then q ^ N else 1)) = q ^ upR key h R c * (q ^ N - 1) := by
  have hf : ∀ x ∈ R, (q ^ h x - 1) * q ^ upR key h R (key x) * (if c < key x then q ^ N else 1) = gI q key h R 0 x + (q ^ N - 1) * gI q key h R c x := by
    intro x hx
    unfold gI
    rw [if_pos (hk x hx)]
    generalize (q ^ h x - 1) * q ^ upR key h R (key x) = t
    split
    · rw [Int.sub_mul, Int.one_mul, Int.mul_comm t]; simp +arith only
    · simp
  have h0 : upR key h R 0 = N := by
    rw [← hN]
    exact sn_congr fun r hr => if_pos (hk r hr)
  rw [sg_congr hf, sg_add, sg_mul, tele1 q key h R hp, tele1 q key h R hp, h0]
  generalize q ^ N = a
  generalize q ^ upR key h R c = b
  rw [Int.mul_sub, Int.mul_sub, Int.sub_mul, Int.mul_comm a b, Int.mul_one, Int.one_mul, Int.mul_one]
  simp +arith only
noncomputable def pg : List Nat → (Nat → Int) → Int
  | [], _ => 1
  | a :: l, f => f a * pg l f
theorem pg_congr {f g : Nat → Int} : ∀ {l : List Nat}, (∀ a ∈ l, f a = g a) → pg l f = pg l g
  | [], _ => rfl
  | a :: l, h => by rw [pg, pg, h a (.head _), pg_congr fun b hb => h b (.tail _ hb)]
theorem pg_one {f : Nat → Int} : ∀ {l : List Nat}, (∀ a ∈ l, f a = 1) → pg l f = 1
  | [], _ => rfl
  | a :: l, h => by rw [pg, h a (.head _), pg_one fun b hb => h b (.tail _ hb)]; rfl
theorem pg_at {f g : Nat → Int} {k : Nat} {a : Int} : ∀ {l : List Nat}, l.Nodup → k ∈ l → f k = g k * a → (∀ v ∈ l, v ≠ k → f v = g v) → pg l f = pg l g * a
  | [], _, hk, _, _ => by cases hk
  | v :: l, hn, hk, ha, hv => by
    have hn2 := List.nodup_cons.mp hn
    by_cases e : v = k
    · subst e
      have h2 : pg l f = pg l g := pg_congr fun b hb => hv b (.tail _ hb) (fun e => hn2.1 (e ▸ hb))
      rw [pg, pg, ha, h2, Int.mul_assoc, Int.mul_assoc, Int.mul_comm a]
    · have hk2 : k ∈ l := by
        rcases List.mem_cons.mp hk with h | h
        · exact absurd h.symm e
        · exact h
      rw [pg, pg, pg_at hn2.2 hk2 ha fun b hb => hv b (.tail _ hb), hv v (.head _) e, Int.mul_assoc]
/-- a forest: parents, what lies in each (as bits), how many lie in each -/
structure Fo where
  n : Nat
  par : List Int
  mask : List Nat
  h : List Nat
noncomputable def Fo.pa (F : Fo) (k : Nat) : Int := F.par.getD k (-1)
noncomputable def Fo.ma (F : Fo) (k : Nat) : Nat := F.mask.getD k 0
noncomputable def Fo.he (F : Fo) (k : Nat) : Nat := F.h.getD k 0
noncomputable def Fo.root (F : Fo) (I k : Nat) : Bool := I.testBit k && (decide (F.pa k < 0) || !I.testBit (F.pa k).toNat)
noncomputable def Fo.ideal (F : Fo) (I : Nat) : Bool := (List.range F.n).all fun v => !I.testBit v || (F.ma v &&& I == F.ma v)
noncomputable def popC (n I : Nat) : Nat := ((List.range n).filter fun v => I.testBit v).length
noncomputable def Fo.roots (F : Fo) (I : Nat) : List Nat := (List.range F.n).filter (F.root I)
noncomputable def bigQ (n : Nat) : Nat := ((List.range n).map fun i => 65536 ^ (i + 1) - 1).foldr (· * ·) 1
noncomputable def Fo.bigH (F : Fo) : Nat := ((List.range F.n).map fun v => 65536 ^ F.he v - 1).foldr (· * ·) 1
noncomputable def Fo.ok (F : Fo) : Bool :=
  ((List.range (2 ^ F.n)).all fun I => (!F.ideal I || sn (F.roots I) F.he == popC F.n I) && (List.range F.n).all fun k => !I.testBit k || ((F.ideal (I - 2 ^ k) && (F.ma k &&& (I - 2 ^ k) == F.ma k)) == (F.ideal I && F.root I k))) &&
  F.ideal (2 ^ F.n - 1) && ((List.range F.n).all fun v => decide (1 ≤ F.he v)) && ((List.range F.n).all fun v => decide (F.pa v < F.n)) && (F.bigH != 0) && (bigQ F.n % F.bigH == 0) && ((List.range 11).all fun j => decide (bigQ F.n / F.bigH / 65536 ^ j % 65536 < 64))
theorem bits5 : ∀ J < 32, ∀ k < 5, J.testBit k = true → 2 ^ k ≤ J ∧ popC 5 (J - 2 ^ k) + 1 = popC 5 J ∧ popC 4 (J - 2 ^ k) + (if k < 4 then 1 else 0) = popC 4 J ∧ ∀ v < 5, (J - 2 ^ k).testBit v = (J.testBit v && v != k) := by decide +kernel
theorem bits5' : ∀ I < 32, ∀ k < 5, I.testBit k = false → (I + 2 ^ k).testBit k = true ∧ (I + 2 ^ k < 32) ∧ (16 ≤ I ∨ 4 ≤ k ∨ I + 2 ^ k < 16) := by decide +kernel
noncomputable def Fo.least (F : Fo) (key : Nat → Nat) (I : Nat) : Nat := sn (List.range F.n) fun v => if I.testBit v = true ∧ 0 ≤ F.pa v ∧ I.testBit (F.pa v).toNat = true ∧ key (F.pa v).toNat < key v then F.he v else 0
noncomputable def Fo.upI (F : Fo) (key : Nat → Nat) (I c : Nat) : Nat := sn (List.range F.n) fun r => if F.root I r = true then (if c < key r then F.he r else 0) else 0
noncomputable def Fo.Hh (F : Fo) (q : Int) (I : Nat) : Int := pg (List.range F.n) fun v => if I.testBit v = true then q ^ F.he v - 1 else 1
noncomputable def Qp (q : Int) : Nat → Int
  | 0 => 1
  | p + 1 => Qp q p * (q ^ (p + 1) - 1)
noncomputable def Fo.Bf (F : Fo) (q : Int) (key : Nat → Nat) : Nat → Nat → Nat → Int
  | 0, I, _ => if I = 0 then 1 else 0
  | p + 1, J, c => sg (List.range F.n) fun k => if J.testBit k = true ∧ F.ma k &&& (J - 2 ^ k) = F.ma k then (if c < key k then q ^ (p + 1) else 1) * F.Bf q key p (J - 2 ^ k) (key k) else 0
section
variable {F : Fo} {key : Nat → Nat}
theorem up_is (I c : Nat) : F.upI key I c = upR key F.he (F.roots I) c := by
  unfold Fo.upI upR Fo.roots
  rw [sn_filter]
theorem Fo.ok_at (h : F.ok = true) {I : Nat} (hI : I < 2 ^ F.n) : (F.ideal I = true → sn (F.roots I) F.he = popC F.n I) ∧ ∀ k < F.n, I.testBit k = true → ((F.ideal (I - 2 ^ k) = true ∧ F.ma k &&& (I - 2 ^ k) = F.ma k) ↔ (F.ideal I = true ∧ F.root I k = true)) := by
  unfold Fo.ok at h
  simp only [Bool.and_eq_true, List.all_eq_true, List.mem_range] at h
  obtain ⟨h1, h2⟩ := h.1.1.1.1.1.1 I hI
  refine ⟨fun hi => ?_, fun k hk hb => ?_⟩
  · rw [hi] at h1; simpa using h1
  · have := h2 k hk
    rw [hb] at this
    simp only [Bool.not_true, Bool.false_or, beq_iff_eq] at this
    rw [Bool.eq_iff_iff] at this
    simpa using this
theorem drop_bit (hn : F.n = 4 ∨ F.n = 5) {J k : Nat} (hJ : J < 2 ^ F.n) (hk : k < F.n) (hb : J.testBit k = true) : 2 ^ k ≤ J ∧ popC F.n (J - 2 ^ k) + 1 = popC F.n J ∧ ∀ v < 5, (J - 2 ^ k).testBit v = (J.testBit v && v != k) := by
  rcases hn with e | e
  · rw [e] at hJ hk ⊢
    obtain ⟨a, _, b, d⟩ := bits5 J (by exact Nat.lt_of_lt_of_le (by assumption) (by decide)) k (by exact Nat.lt_succ_of_lt (by assumption)) hb
    rw [if_pos hk] at b
    exact ⟨a, b, d⟩
  · rw [e] at hJ hk ⊢
    obtain ⟨a, b, _, d⟩ := bits5 J (by assumption) k (by assumption) hb
    exact ⟨a, b, d⟩
theorem least_step (hn : F.n = 4 ∨ F.n = 5) (hpar : ∀ v < F.n, F.pa v < F.n) {J k : Nat} (hJ : J < 2 ^ F.n) (hk : k < F.n) (hr : F.root J k = true) : F.least key (J - 2 ^ k) + F.upI key (J - 2 ^ k) (key k) = F.least key J + F.upI key J (key k) := by
  have hb : J.testBit k = true := (Bool.and_eq_true_iff.mp hr).1
  have hr2 := (Bool.and_eq_true_iff.mp hr).2
  obtain ⟨_, _, hd⟩ := drop_bit hn hJ hk hb
  unfold Fo.least Fo.upI
  rw [← sn_add, ← sn_add]
  refine sn_congr fun v hv => ?_
  have hv := List.mem_range.mp hv
  have hv5 : v < 5 := by grind
  unfold Fo.root
  rw [hd v hv5]
  by_cases hp : F.pa v < 0
  · have hp' : ¬ 0 ≤ F.pa v := by lia
    by_cases e : v = k
    · subst e; simp [hp, hp']
    · simp [hp, hp', e]
  · have hp' : 0 ≤ F.pa v := by exact Int.not_lt.mp (by assumption)
    have hpn : (F.pa v).toNat < 5 := by have := hpar v hv; grind
    rw [hd _ hpn]
    by_cases e : v = k
    · subst e
      have : J.testBit (F.pa v).toNat = false := by simpa [hp] using hr2
      simp [hp, hp', this]
    · by_cases e2 : (F.pa v).toNat = k
      · rw [e2]
        cases hJv : J.testBit v <;> simp [hp, hp', e, hb]
      · cases hJv : J.testBit v <;> cases hJp : J.testBit (F.pa v).toNat <;> simp [hp, hp', e, e2]
theorem Hh_step (hn : F.n = 4 ∨ F.n = 5) {q : Int} {J k : Nat} (hJ : J < 2 ^ F.n) (hk : k < F.n) (hb : J.testBit k = true) : F.Hh q J = F.Hh q (J - 2 ^ k) * (q ^ F.he k - 1) := by
  obtain ⟨_, _, hd⟩ := drop_bit hn hJ hk hb
  unfold Fo.Hh
  refine pg_at List.nodup_range (List.mem_range.mpr hk) ?_ ?_
  · rw [if_pos hb, hd k (by grind)]; simp
  · intro v hv hne
    have hv := List.mem_range.mp hv
    rw [hd v (by grind)]
    simp [hne]
theorem popC_zero : ∀ I < 32, (popC 4 I = 0 → I < 16 → I = 0) ∧ (popC 5 I = 0 → I = 0) := by decide +kernel
theorem Bf_closed (hn : F.n = 4 ∨ F.n = 5) (hok : F.ok = true) (hpar : ∀ v < F.n, F.pa v < F.n) (hkey : ∀ a < F.n, ∀ b < F.n, key a = key b → a = b) (hk0 : ∀ a < F.n, 0 < key a) (q : Int) : ∀ (p I c : Nat), I < 2 ^ F.n →
    F.Bf q key p I c * F.Hh q I = if F.ideal I = true ∧ popC F.n I = p then q ^ (F.least key I + F.upI key I c) * Qp q p else 0
  | 0, I, c, hI => by
    rw [Fo.Bf]
    by_cases h0 : I = 0
    · subst h0
      have h1 : F.ideal 0 = true := by
        unfold Fo.ideal; simp
      have h2 : popC F.n 0 = 0 := by
        unfold popC; simp
      have h3 : F.least key 0 = 0 := by
        unfold Fo.least
        rw [sn_congr (g := fun _ => 0) fun a _ => if_neg (by simp)]
        generalize List.range F.n = l
        induction l with
        | nil => rfl
        | cons a l ih => rw [sn, ih]
      have h4 : F.upI key 0 c = 0 := by
        unfold Fo.upI
        rw [sn_congr (g := fun _ => 0) fun a _ => if_neg (by simp [Fo.root])]
        generalize List.range F.n = l
        induction l with
        | nil => rfl
        | cons a l ih => rw [sn, ih]
      have h5 : F.Hh q 0 = 1 := pg_one fun a _ => if_neg (by simp)
      rw [if_pos rfl, if_pos ⟨h1, h2⟩, h3, h4, h5]
      simp [Qp]
    · rw [if_neg h0, if_neg, Int.zero_mul]
      intro h
      refine h0 ?_
      rcases hn with e | e
      · rw [e] at h hI; exact (popC_zero I (by exact Nat.lt_of_lt_of_le (by assumption) (by decide))).1 h.2 (by assumption)
      · rw [e] at h hI; exact (popC_zero I (by assumption)).2 h.2
  | p + 1, J, c, hJ => by
    rw [Fo.Bf, ← sg_mulr]
    have ih := Bf_closed hn hok hpar hkey hk0 q p
    obtain ⟨hs, hi⟩ := Fo.ok_at hok hJ
    by_cases hg : F.ideal J = true ∧ popC F.n J = p + 1
    · rw [if_pos hg]
      have hf : ∀ k ∈ List.range F.n, (if J.testBit k = true ∧ F.ma k &&& (J - 2 ^ k) = F.ma k then (if c < key k then q ^ (p + 1) else 1) * F.Bf q key p (J - 2 ^ k) (key k) else 0) * F.Hh q J
          = q ^ F.least key J * Qp q p * (if F.root J k = true then (q ^ F.he k - 1) * q ^ upR key F.he (F.roots J) (key k) * (if c < key k then q ^ (p + 1) else 1) else 0) := by
        intro k hk
        have hk := List.mem_range.mp hk
        by_cases hr : F.root J k = true
        · have hb : J.testBit k = true := (Bool.and_eq_true_iff.mp hr).1
          obtain ⟨h1, h2⟩ := (hi k hk hb).mpr ⟨hg.1, hr⟩
          obtain ⟨h3, h4, _⟩ := drop_bit hn hJ hk hb
          rw [if_pos ⟨hb, h2⟩, if_pos hr, Hh_step hn hJ hk hb]
          have ih := ih (J - 2 ^ k) (key k) (Nat.lt_of_le_of_lt (Nat.sub_le _ _) hJ)
          rw [if_pos ⟨h1, by lia⟩, least_step hn hpar hJ hk hr, up_is, Int.pow_add] at ih
          generalize F.Bf q key p (J - 2 ^ k) (key k) = x at ih ⊢
          generalize F.Hh q (J - 2 ^ k) = y at ih ⊢
          generalize (if c < key k then q ^ (p + 1) else 1) = e
          generalize q ^ F.he k - 1 = d
          have : e * x * (y * d) = (x * y) * (d * e) := by
            rw [Int.mul_comm e x, Int.mul_assoc, ← Int.mul_assoc e y d, Int.mul_comm e y, Int.mul_assoc y e d, ← Int.mul_assoc, Int.mul_comm e d]
          rw [this, ih]
          generalize q ^ F.least key J = a
          generalize q ^ upR key F.he (F.roots J) (key k) = b
          generalize Qp q p = r
          rw [Int.mul_assoc a b r, Int.mul_comm b r, ← Int.mul_assoc a r b, Int.mul_assoc (a * r) b, ← Int.mul_assoc b d e, Int.mul_comm b d]
        · rw [if_neg hr, Int.mul_zero]
          by_cases h2 : J.testBit k = true ∧ F.ma k &&& (J - 2 ^ k) = F.ma k
          · obtain ⟨h3, h4, _⟩ := drop_bit hn hJ hk h2.1
            rw [if_pos h2, Hh_step hn hJ hk h2.1]
            have ih := ih (J - 2 ^ k) (key k) (Nat.lt_of_le_of_lt (Nat.sub_le _ _) hJ)
            rw [if_neg (fun h => hr ((hi k hk h2.1).mp ⟨h.1, h2.2⟩).2)] at ih
            rw [Int.mul_assoc, ← Int.mul_assoc (F.Bf q key p (J - 2 ^ k) (key k)), ih, Int.zero_mul, Int.mul_zero]
          · rw [if_neg h2, Int.zero_mul]
      rw [sg_congr hf, sg_mul]
      have hpw : (F.roots J).Pairwise fun a b => key a ≠ key b := by
        refine List.Pairwise.imp_of_mem ?_ (List.Pairwise.filter _ List.pairwise_lt_range)
        intro a b ha hb hab e
        have h1 := List.mem_range.mp (List.mem_filter.mp ha).1
        have h2 := List.mem_range.mp (List.mem_filter.mp hb).1
        have := hkey a h1 b h2 e
        grind
      have ht := tele2 q key F.he hpw (fun r hr => hk0 r (List.mem_range.mp (List.mem_filter.mp hr).1)) c (p + 1) (by rw [hs hg.1, hg.2])
      rw [← sg_filter]
      show _ * sg (F.roots J) _ = _
      rw [ht, up_is, Qp]
      generalize q ^ (p + 1) - 1 = d
      rw [Int.pow_add]
      generalize q ^ F.least key J = a
      generalize q ^ upR key F.he (F.roots J) c = b
      generalize Qp q p = r
      rw [Int.mul_assoc a r, ← Int.mul_assoc r b d, Int.mul_comm r b, Int.mul_assoc b r d, ← Int.mul_assoc a b]
    · rw [if_neg hg]
      refine sg_zero fun k hk => ?_
      have hk := List.mem_range.mp hk
      by_cases h2 : J.testBit k = true ∧ F.ma k &&& (J - 2 ^ k) = F.ma k
      · obtain ⟨h3, h4, _⟩ := drop_bit hn hJ hk h2.1
        rw [if_pos h2, Hh_step hn hJ hk h2.1]
        have ih := ih (J - 2 ^ k) (key k) (Nat.lt_of_le_of_lt (Nat.sub_le _ _) hJ)
        rw [if_neg (fun h => hg ⟨((hi k hk h2.1).mp ⟨h.1, h2.2⟩).1, by simp_all only⟩)] at ih
        rw [Int.mul_assoc, ← Int.mul_assoc (F.Bf q key p (J - 2 ^ k) (key k)), ih, Int.zero_mul, Int.mul_zero]
      · rw [if_neg h2, Int.zero_mul]
end
end Mine
end
section -- PD
open PySem PySem.W PyProof.Rows PySem.Calls
namespace Mine
/-- the places of a row's falls, added up -/
noncomputable def majOf (many f : Nat) : Nat := (placesOf f many).sum
theorem maj4 : ∀ p < 4, 1 ≤ p → ∀ f < 2 ^ (p - 1), majOf 4 (f + 2 ^ (p - 1)) = majOf 4 f + p := by decide +kernel
theorem maj5 : ∀ p < 5, 1 ≤ p → ∀ f < 2 ^ (p - 1), majOf 5 (f + 2 ^ (p - 1)) = majOf 5 f + p := by decide +kernel
theorem maj_le4 : ∀ f < 8, majOf 4 f ≤ 6 := by decide +kernel
theorem maj_le5 : ∀ f < 16, majOf 5 f ≤ 10 := by decide +kernel
theorem maj_step {n : Nat} (hn : n = 4 ∨ n = 5) {p f : Nat} (hp : p < n) (h1 : 1 ≤ p) (hf : f < 2 ^ (p - 1)) : majOf n (f + 2 ^ (p - 1)) = majOf n f + p := by
  rcases hn with rfl | rfl
  · exact maj4 p hp h1 f hf
  · exact maj5 p hp h1 f hf
section
variable {F : Fo} {key : Nat → Nat} {names : List Str} {inner : List Int}
structure RowIn (n p : Nat) (x : Row) : Prop where
  lt : x.1 < 2 ^ n
  pop : popC n x.1 = p
  last : x.2.1 < n
  zero : p = 0 → x = (0, -1, 0)
  pos : 0 < p → 0 ≤ x.2.1 ∧ x.2.2 < 2 ^ (p - 1)
theorem addBits4 : ∀ I < 16, ∀ k < 4, I / 2 ^ k % 2 = 0 → (I + 2 ^ k).testBit k = true ∧ I + 2 ^ k - 2 ^ k = I ∧ popC 4 (I + 2 ^ k) = popC 4 I + 1 ∧ I + 2 ^ k < 16 := by decide +kernel
theorem addBits5 : ∀ I < 32, ∀ k < 5, I / 2 ^ k % 2 = 0 → (I + 2 ^ k).testBit k = true ∧ I + 2 ^ k - 2 ^ k = I ∧ popC 5 (I + 2 ^ k) = popC 5 I + 1 ∧ I + 2 ^ k < 32 := by decide +kernel
theorem dropBits : ∀ J < 32, ∀ k < 5, J.testBit k = true → (J - 2 ^ k) / 2 ^ k % 2 = 0 ∧ J - 2 ^ k + 2 ^ k = J := by decide +kernel
theorem add_bits {n : Nat} (hn : n = 4 ∨ n = 5) {I k : Nat} (hI : I < 2 ^ n) (hk : k < n) (h : I / 2 ^ k % 2 = 0) : (I + 2 ^ k).testBit k = true ∧ I + 2 ^ k - 2 ^ k = I ∧ popC n (I + 2 ^ k) = popC n I + 1 ∧ I + 2 ^ k < 2 ^ n := by
  rcases hn with rfl | rfl
  · exact addBits4 I hI k hk h
  · exact addBits5 I hI k hk h
theorem rowOk_is {x : Row} {k : Nat} (hin : inner.getD k 0 = ((F.ma k : Nat) : Int)) : rowOk inner x k = true ↔ x.1 / 2 ^ k % 2 = 0 ∧ F.ma k &&& x.1 = F.ma k := by
  unfold rowOk
  rw [hin, bitAnd_pp (by exact Int.natCast_nonneg _) (by exact Int.natCast_nonneg _)]
  simp only [Int.toNat_natCast, Bool.and_eq_true, beq_iff_eq]
  constructor
  · rintro ⟨a, b⟩; exact ⟨a, by exact_mod_cast b⟩
  · rintro ⟨a, b⟩; exact ⟨a, by exact_mod_cast b⟩
theorem rows_in (hn : F.n = 4 ∨ F.n = 5) (hl : names.length = F.n) {p : Nat} (hp : p < F.n) {rows : List Row} (h : ∀ x ∈ rows, RowIn F.n p x) : ∀ x ∈ rowsStep names inner p rows, RowIn F.n (p + 1) x := by
  intro y hy
  obtain ⟨x, hx, hy⟩ := List.mem_flatMap.mp hy
  obtain ⟨k, hk, rfl⟩ := List.mem_map.mp hy
  obtain ⟨hk, ho⟩ := List.mem_filter.mp hk
  have hk := List.mem_range.mp hk
  rw [hl] at hk
  have hx := h x hx
  have ho : x.1 / 2 ^ k % 2 = 0 := by
    unfold rowOk at ho
    have := (Bool.and_eq_true_iff.mp ho).1
    simpa using this
  obtain ⟨a1, a2, a3, a4⟩ := add_bits hn hx.lt hk ho
  refine ⟨a4, by rw [rowNext]; show popC F.n (x.1 + 2 ^ k) = _; rw [a3, hx.pop], ?_, fun h => absurd h (by simp), fun _ => ⟨?_, ?_⟩⟩
  · show ((k : Nat) : Int) < _; exact Int.ofNat_lt.mpr (by assumption)
  · show 0 ≤ ((k : Nat) : Int); exact Int.natCast_nonneg _
  · show x.2.2 + fallAdd names p x.2.1 k < 2 ^ p
    by_cases h0 : p = 0
    · subst h0
      have := hx.zero rfl
      subst this
      unfold fallAdd
      rw [if_neg (by simp)]
      decide
    · have h2 := (hx.pos (by exact Nat.pos_of_ne_zero (by assumption))).2
      have h3 : fallAdd names p x.2.1 k ≤ 2 ^ (p - 1) := by unfold fallAdd; split <;> simp
      obtain ⟨r, rfl⟩ : ∃ r, p = r + 1 := ⟨p - 1, by grind⟩
      rw [Nat.add_sub_cancel] at h2 h3
      rw [Nat.pow_succ]; grind
noncomputable def wRow (q : Int) (n p : Nat) (key : Nat → Nat) (c I : Nat) (x : Row) : Int := if x.1 = I then q ^ majOf n x.2.2 * (if 0 ≤ x.2.1 ∧ c < key x.2.1.toNat then q ^ p else 1) else 0
theorem rows_sum (hn : F.n = 4 ∨ F.n = 5) (hl : names.length = F.n) (hin : ∀ k < F.n, inner.getD k 0 = ((F.ma k : Nat) : Int))
    (hgt : ∀ a < F.n, ∀ b < F.n, gtSI (names.getD a Str.empty) a (names.getD b Str.empty) b = decide (key b < key a)) (q : Int) {p : Nat} (hp : p < F.n) {rows : List Row} (h : ∀ x ∈ rows, RowIn F.n p x)
    (hs : ∀ c I, I < 2 ^ F.n → sg rows (wRow q F.n p key c I) = F.Bf q key p I c) : ∀ c J, J < 2 ^ F.n → sg (rowsStep names inner p rows) (wRow q F.n (p + 1) key c J) = F.Bf q key (p + 1) J c := by
  intro c J hJ
  unfold rowsStep
  rw [sg_flat]
  have e : (fun x => sg (((List.range names.length).filter (rowOk inner x)).map (rowNext names p x)) (wRow q F.n (p + 1) key c J)) = fun x => sg (List.range F.n) fun k => if rowOk inner x k = true then wRow q F.n (p + 1) key c J (rowNext names p x k) else 0 := by
    funext x; rw [sg_fm, hl]
  rw [e, sg_swap, Fo.Bf]
  refine sg_congr fun k hk => ?_
  have hk := List.mem_range.mp hk
  by_cases hc : J.testBit k = true ∧ F.ma k &&& (J - 2 ^ k) = F.ma k
  · rw [if_pos hc]
    obtain ⟨d1, d2⟩ := dropBits J (by rcases hn with e | e <;> rw [e] at hJ <;> exact Nat.lt_of_lt_of_le (by assumption) (by decide)) k (by grind) hc.1
    rw [← hs (key k) (J - 2 ^ k) (Nat.lt_of_le_of_lt (Nat.sub_le _ _) hJ), ← sg_mul]
    refine sg_congr fun x hx => ?_
    have hx := h x hx
    unfold wRow
    by_cases hI : x.1 = J - 2 ^ k
    · have ho : rowOk inner x k = true := (rowOk_is (hin k hk)).mpr ⟨by rw [hI]; exact d1, by rw [hI]; exact hc.2⟩
      rw [if_pos ho, if_pos hI]
      have e1 : (rowNext names p x k).1 = J := by show x.1 + 2 ^ k = J; rw [hI]; exact d2
      have e2 : (rowNext names p x k).2.1 = (k : Int) := rfl
      have e3 : (rowNext names p x k).2.2 = x.2.2 + fallAdd names p x.2.1 k := rfl
      rw [if_pos e1, e2, e3, Int.toNat_natCast]
      have e4 : (if (0 : Int) ≤ (k : Int) ∧ c < key k then q ^ (p + 1) else 1) = (if c < key k then q ^ (p + 1) else 1) := by
        by_cases h : c < key k
        · rw [if_pos h, if_pos ⟨by exact Int.natCast_nonneg _, h⟩]
        · rw [if_neg h, if_neg fun x => h x.2]
      rw [e4, Int.mul_comm]
      congr 1
      by_cases hf : 0 ≤ x.2.1 ∧ key k < key x.2.1.toNat
      · have hp0 : 0 < p := by
          rcases Nat.eq_zero_or_pos p with h0 | h0
          · have := hx.zero h0
            rw [this] at hf
            exact absurd hf.1 (by decide)
          · exact h0
        have hlt : x.2.1.toNat < F.n := by have := hx.last; lia
        have hg := hgt _ hlt k hk
        rw [Int.toNat_of_nonneg hf.1] at hg
        have ef : fallAdd names p x.2.1 k = 2 ^ (p - 1) := by
          unfold fallAdd
          rw [if_pos ⟨hf.1, by rw [hg]; simpa using hf.2⟩]
        rw [if_pos hf, ef, maj_step hn hp hp0 (hx.pos hp0).2, Int.pow_add]
      · have ef : fallAdd names p x.2.1 k = 0 := by
          unfold fallAdd
          rw [if_neg]
          rintro ⟨h0, h1⟩
          have hlt : x.2.1.toNat < F.n := by have := hx.last; lia
          have hg := hgt _ hlt k hk
          rw [Int.toNat_of_nonneg h0] at hg
          rw [hg] at h1
          exact hf ⟨h0, by simpa using h1⟩
        rw [if_neg hf, ef, Nat.add_zero, Int.mul_one]
    · rw [if_neg hI, Int.mul_zero]
      split
      · rw [if_neg]
        intro e1
        have e1 : x.1 + 2 ^ k = J := e1
        exact hI (by grind)
      · rfl
  · rw [if_neg hc]
    refine sg_zero fun x hx => ?_
    have hx := h x hx
    split
    · rename_i ho
      obtain ⟨o1, o2⟩ := (rowOk_is (hin k hk)).mp ho
      obtain ⟨a1, a2, a3, a4⟩ := add_bits hn hx.lt hk o1
      unfold wRow
      rw [if_neg]
      intro e1
      have e1 : x.1 + 2 ^ k = J := e1
      exact hc ⟨by rw [← e1]; exact a1, by rw [← e1, a2]; exact o2⟩
    · rfl
theorem rowsFrom_app (names : List Str) (inner : List Int) : ∀ (ps rs : List Nat) (rows : List Row), rowsFrom names inner (ps ++ rs) rows = rowsFrom names inner rs (rowsFrom names inner ps rows)
  | [], _, _ => rfl
  | p :: ps, rs, rows => by rw [List.cons_append, rowsFrom, rowsFrom, rowsFrom_app names inner ps rs]
theorem rows_all (hn : F.n = 4 ∨ F.n = 5) (hl : names.length = F.n) (hin : ∀ k < F.n, inner.getD k 0 = ((F.ma k : Nat) : Int))
    (hgt : ∀ a < F.n, ∀ b < F.n, gtSI (names.getD a Str.empty) a (names.getD b Str.empty) b = decide (key b < key a)) : ∀ p, p ≤ F.n →
    (∀ x ∈ rowsFrom names inner (List.range p) [(0, -1, 0)], RowIn F.n p x) ∧ ∀ (q : Int) c I, I < 2 ^ F.n → sg (rowsFrom names inner (List.range p) [(0, -1, 0)]) (wRow q F.n p key c I) = F.Bf q key p I c
  | 0, _ => by
    refine ⟨fun x hx => ?_, fun q c I hI => ?_⟩
    · have hx : x ∈ [((0 : Nat), (-1 : Int), (0 : Nat))] := hx
      rw [List.mem_singleton] at hx
      subst hx
      refine ⟨Nat.pow_pos (by decide), by unfold popC; simp, by show (-1 : Int) < _; exact Int.natCast_nonneg _, fun _ => rfl, fun h => absurd h (by decide)⟩
    · show sg [((0 : Nat), (-1 : Int), (0 : Nat))] _ = _
      rw [sg, sg, Fo.Bf]
      unfold wRow
      have hm : majOf F.n 0 = 0 := by
        rcases hn with e | e <;> rw [e] <;> decide +kernel
      dsimp only
      rw [hm]
      by_cases h0 : I = 0
      · rw [if_pos h0.symm, if_pos h0]; simp
      · rw [if_neg fun h => h0 h.symm, if_neg h0]; rfl
  | p + 1, hp => by
    obtain ⟨h1, h2⟩ := rows_all hn hl hin hgt p (by exact Nat.le_of_lt (by assumption))
    rw [List.range_succ, rowsFrom_app]
    exact ⟨rows_in hn hl (by assumption) h1, fun q => rows_sum hn hl hin hgt q (by assumption) h1 (h2 q)⟩
theorem pop_full : (∀ I < 16, popC 4 I = 4 → I = 15) ∧ ∀ I < 32, popC 5 I = 5 → I = 31 := by decide +kernel
/-- the q-hook formula, of the rows -/
theorem hook (hn : F.n = 4 ∨ F.n = 5) (hok : F.ok = true) (hl : names.length = F.n) (hin : ∀ k < F.n, inner.getD k 0 = ((F.ma k : Nat) : Int))
    (hgt : ∀ a < F.n, ∀ b < F.n, gtSI (names.getD a Str.empty) a (names.getD b Str.empty) b = decide (key b < key a)) (hpar : ∀ v < F.n, F.pa v < F.n) (hkey : ∀ a < F.n, ∀ b < F.n, key a = key b → a = b) (hk0 : ∀ a < F.n, 0 < key a) (q : Int) :
    sg (rowsOf names inner) (fun x => q ^ majOf F.n x.2.2) * F.Hh q (2 ^ F.n - 1) = q ^ F.least key (2 ^ F.n - 1) * Qp q F.n := by
  obtain ⟨h1, h2⟩ := rows_all hn hl hin hgt F.n (Nat.le_refl _)
  have hpos : 0 < 2 ^ F.n := Nat.pow_pos (by decide)
  obtain ⟨c, hc⟩ : ∃ c, ∀ k < F.n, key k ≤ c := by
    refine ⟨sn (List.range F.n) key, fun k hk => ?_⟩
    have : ∀ l : List Nat, k ∈ l → key k ≤ sn l key := by
      intro l
      induction l with
      | nil => intro h; cases h
      | cons a l ih =>
        intro h
        rw [sn]
        rcases List.mem_cons.mp h with h | h
        · rw [h]; exact Nat.le_add_right _ _
        · have := ih h; grind
    exact this _ (List.mem_range.mpr hk)
  have h3 := h2 q c (2 ^ F.n - 1) (by (rcases ‹_ ∨ _› with h | h <;> rw [h] <;> decide))
  have h4 := Bf_closed (key := key) hn hok hpar hkey hk0 q F.n (2 ^ F.n - 1) c (by (rcases ‹_ ∨ _› with h | h <;> rw [h] <;> decide))
  unfold rowsOf
  rw [hl]
  have e1 : sg (rowsFrom names inner (List.range F.n) [(0, -1, 0)]) (fun x => q ^ majOf F.n x.2.2) = sg (rowsFrom names inner (List.range F.n) [(0, -1, 0)]) (wRow q F.n F.n key c (2 ^ F.n - 1)) := by
    refine sg_congr fun x hx => ?_
    have hx := h1 x hx
    have hfull : x.1 = 2 ^ F.n - 1 := by
      have a := hx.lt
      have b := hx.pop
      rcases hn with e | e
      · rw [e] at a b ⊢; exact pop_full.1 _ (by assumption) b
      · rw [e] at a b ⊢; exact pop_full.2 _ (by assumption) b
    unfold wRow
    rw [if_pos hfull, if_neg, Int.mul_one]
    rintro ⟨a, b⟩
    have := hc x.2.1.toNat (by have := hx.last; grind)
    lia
  rw [e1, h3, h4, if_pos]
  · have : F.upI key (2 ^ F.n - 1) c = 0 := by
      rw [up_is]
      unfold upR
      rw [sn_congr (g := fun _ => 0) fun a ha => if_neg (by have := hc a (List.mem_range.mp (List.mem_filter.mp ha).1); exact Nat.not_lt_of_le (by assumption))]
      generalize F.roots (2 ^ F.n - 1) = l
      induction l with
      | nil => rfl
      | cons a l ih => rw [sn, ih]
    rw [this, Nat.add_zero]
  · refine ⟨?_, ?_⟩
    · unfold Fo.ok at hok
      simp only [Bool.and_eq_true] at hok
      exact hok.1.1.1.1.1.2
    · rcases hn with e | e <;> rw [e] <;> decide +kernel
end
end Mine
end
section -- PE
open PySem PySem.W PyProof.Rows PySem.Calls
namespace Mine
theorem intsum' (l : List Nat) : (l.map fun c : Nat => (c : Int)).sum = ((l.sum : Nat) : Int) := by
  induction l with
  | nil => rfl
  | cons a l ih => rw [List.map_cons, List.sum_cons, ih, List.sum_cons, Int.natCast_add]
theorem getD_set (cs : List Nat) (i a k : Nat) (hi : i < cs.length) : (cs.set i a).getD k 0 = if k = i then a else cs.getD k 0 := by
  rw [List.getD_eq_getElem?_getD, List.getElem?_set]
  by_cases e : k = i
  · subst e; rw [if_pos rfl, if_pos rfl, if_pos hi]; rfl
  · rw [if_neg fun h => e h.symm, if_neg e, List.getD_eq_getElem?_getD]
theorem polyS_set {q : Nat} {cs : List Nat} {i : Nat} (hi : i < cs.length) : ∀ m, polyS q (fun k => (cs.set i (cs.getD i 0 + 1)).getD k 0) m = polyS q (fun k => cs.getD k 0) m + if i < m then q ^ i else 0
  | 0 => rfl
  | m + 1 => by
    rw [polyS, polyS, polyS_set hi m, getD_set cs i _ m hi]
    by_cases e : m = i
    · subst e
      rw [if_pos rfl, if_neg (by simp), if_pos (by exact Nat.le_refl _), Nat.add_mul]; simp +arith only
    · rw [if_neg e]
      by_cases h : i < m
      · rw [if_pos h, if_pos (by exact Nat.lt_succ_of_lt (by assumption))]; exact Nat.add_right_comm _ _ _
      · rw [if_neg h, if_neg (by lia)]; exact Int.toNat_natCast _
noncomputable abbrev idxOf (sums : List Int) (x : Row) : Nat := (sums.getD x.2.2 0).toNat
theorem count_len (sums : List Int) : ∀ (rows : List Row) (cs : List Nat), (countFrom sums rows cs).length = cs.length
  | [], _ => rfl
  | x :: r, cs => by rw [countFrom, count_len sums r]; simp
theorem count_poly (q : Nat) (sums : List Int) : ∀ (rows : List Row) (cs : List Nat), (∀ x ∈ rows, idxOf sums x < cs.length) →
    ((polyS q (fun k => (countFrom sums rows cs).getD k 0) cs.length : Nat) : Int) = (polyS q (fun k => cs.getD k 0) cs.length : Nat) + sg rows fun x => (q : Int) ^ idxOf sums x
  | [], cs, _ => by rw [countFrom, sg, Int.add_zero]
  | x :: r, cs, h => by
    have hi := h x (.head _)
    have ih := count_poly q sums r (cs.set (idxOf sums x) (cs.getD (idxOf sums x) 0 + 1)) fun y hy => by rw [List.length_set]; exact h y (.tail _ hy)
    rw [List.length_set] at ih
    rw [countFrom, ih, polyS_set hi, if_pos hi, sg]
    have : ((q ^ idxOf sums x : Nat) : Int) = (q : Int) ^ idxOf sums x := by simp
    grind
theorem count_le (sums : List Int) (k : Nat) : ∀ (rows : List Row) (cs : List Nat), (∀ x ∈ rows, idxOf sums x < cs.length) → (countFrom sums rows cs).getD k 0 ≤ cs.getD k 0 + rows.length
  | [], cs, _ => Nat.le_refl _
  | x :: r, cs, h => by
    have hi := h x (.head _)
    have ih := count_le sums k r (cs.set (idxOf sums x) (cs.getD (idxOf sums x) 0 + 1)) fun y hy => by rw [List.length_set]; exact h y (.tail _ hy)
    rw [countFrom, List.length_cons]
    refine Nat.le_trans ih ?_
    rw [getD_set cs _ _ k hi]
    split
    · rename_i e; rw [e]; simp +arith only
    · simp +arith only
theorem rows_len (names : List Str) (inner : List Int) : ∀ p, (rowsFrom names inner (List.range p) [(0, -1, 0)]).length ≤ names.length ^ p
  | 0 => by simp [rowsFrom]
  | p + 1 => by
    rw [List.range_succ, rowsFrom_app]
    have h := rows_len names inner p
    refine Nat.le_trans (rowsStep_len (names := names) (inner := inner) (place := p)) ?_
    rw [Nat.pow_succ]
    exact Nat.mul_le_mul_right _ h
theorem polyS_digit {q : Nat} {d : Nat → Nat} (hq : 0 < q) : ∀ n, (∀ k < n, d k < q) → ∀ k < n, polyS q d n / q ^ k % q = d k
  | 0, _, k, hk => by grind
  | n + 1, h, k, hk => by
    have hlt := polyS_lt (d := d) hq n fun j hj => h j (by exact Nat.lt_succ_of_lt (by assumption))
    rw [polyS]
    by_cases e : k = n
    · subst e
      rw [Nat.add_mul_div_right _ _ (Nat.pow_pos hq), Nat.div_eq_of_lt hlt, Nat.zero_add, Nat.mod_eq_of_lt (h k (by assumption))]
    · have e2 : d n * q ^ n = (d n * q ^ (n - k - 1) * q) * q ^ k := by
        rw [Nat.mul_assoc, Nat.mul_assoc, ← Nat.pow_succ', ← Nat.pow_add]
        congr 2; grind
      rw [e2, Nat.add_mul_div_right _ _ (Nat.pow_pos hq), Nat.add_mul_mod_self_right]
      exact polyS_digit hq n (fun j hj => h j (by exact Nat.lt_succ_of_lt (by assumption))) k (by lia)
theorem sums_at {c many f : Nat} (h4 : 4 ≤ many) (h5 : many ≤ 5) (hf : f < 2 ^ (many - 1)) : (sumsOf c many).getD f 0 = ((majOf many f : Nat) : Int) := by
  unfold sumsOf
  rw [List.getD_eq_getElem?_getD, List.getElem?_map, List.getElem?_range hf]
  show sumOf f c many = _
  rw [sum_is h4 h5, intsum']
  rfl
theorem maj_le {many f : Nat} (hn : many = 4 ∨ many = 5) (hf : f < 2 ^ (many - 1)) : majOf many f ≤ many * (many - 1) / 2 := by
  rcases hn with rfl | rfl
  · exact maj_le4 f hf
  · exact maj_le5 f hf
/-- prod over a list as of the law -/
theorem prodI_pg (f : Nat → Nat) : ∀ l : List Nat, prodI (l.map f) = pg l fun v => 64 ^ f v - 1
  | [] => rfl
  | a :: l => by rw [List.map_cons, prodI, pg, prodI_pg f l]
theorem full_bit {n : Nat} (hn : n = 4 ∨ n = 5) {v : Nat} (hv : v < n) : (2 ^ n - 1).testBit v = true := by
  rcases hn with rfl | rfl
  · exact (by decide : ∀ v < 4, (2 ^ 4 - 1).testBit v = true) v hv
  · exact (by decide : ∀ v < 5, (2 ^ 5 - 1).testBit v = true) v hv
theorem Hh_full {F : Fo} (hn : F.n = 4 ∨ F.n = 5) (q : Int) : F.Hh q (2 ^ F.n - 1) = pg (List.range F.n) fun v => q ^ F.he v - 1 :=
  pg_congr fun _v hv => if_pos (full_bit hn (List.mem_range.mp hv))
theorem Qp_64 {n : Nat} (hn : n = 4 ∨ n = 5) : Qp 64 n = prodI ((List.range n).map (· + 1)) := by
  rcases hn with rfl | rfl <;> decide +kernel
theorem Qp_big {n : Nat} (hn : n = 4 ∨ n = 5) : Qp 65536 n = (bigQ n : Nat) := by
  rcases hn with rfl | rfl <;> decide +kernel
theorem H_big {F : Fo} (hn : F.n = 4 ∨ F.n = 5) (_h1 : ∀ v < F.n, 1 ≤ F.he v) : F.Hh 65536 (2 ^ F.n - 1) = (F.bigH : Nat) := by
  rw [Hh_full hn]
  unfold Fo.bigH
  generalize List.range F.n = l
  induction l with
  | nil => rfl
  | cons a l ih =>
    rw [pg, ih, List.map_cons, List.foldr_cons, Int.natCast_mul]
    congr 1
    have : 0 < 65536 ^ F.he a := Nat.pow_pos (by decide)
    rw [Int.natCast_sub this]
    simp
structure CountsOk (names : List Str) (inner : List Int) (c many least : Nat) (F : Fo) : Prop where
  len : (countsOf names inner (sumsOf c many)).length = many * (many - 1) / 2 + 1
  few : ∀ k, (countsOf names inner (sumsOf c many)).getD k 0 < 64
  fin : ((polyS 64 (fun k => (countsOf names inner (sumsOf c many)).getD k 0) (many * (many - 1) / 2 + 1) : Nat) : Int) * pg (List.range many) (fun v => 64 ^ F.he v - 1) = 64 ^ least * prodI ((List.range many).map (· + 1))
  ch : ∀ x ∈ rowsOf names inner, x.2.2 < (sumsOf c many).length ∧ 0 ≤ (sumsOf c many).getD x.2.2 0 ∧ (sumsOf c many).getD x.2.2 0 < (many * (many - 1) / 2 + 1 : Nat)
theorem counts_law {F : Fo} {key : Nat → Nat} {names : List Str} {inner : List Int} {c : Nat} (hn : F.n = 4 ∨ F.n = 5) (hok : F.ok = true) (hl : names.length = F.n) (hin : ∀ k < F.n, inner.getD k 0 = ((F.ma k : Nat) : Int))
    (hgt : ∀ a < F.n, ∀ b < F.n, gtSI (names.getD a Str.empty) a (names.getD b Str.empty) b = decide (key b < key a)) (hkey : ∀ a < F.n, ∀ b < F.n, key a = key b → a = b) (hk0 : ∀ a < F.n, 0 < key a) :
    CountsOk names inner c F.n (F.least key (2 ^ F.n - 1)) F := by
  have hok2 := hok
  unfold Fo.ok at hok2
  simp only [Bool.and_eq_true, List.all_eq_true, List.mem_range, decide_eq_true_eq, bne_iff_ne, beq_iff_eq] at hok2
  obtain ⟨⟨⟨⟨⟨⟨_, _⟩, hh1⟩, hpar⟩, hH0⟩, hQH⟩, hdig⟩ := hok2
  have hook := hook hn hok hl hin hgt hpar hkey hk0
  have h4 : 4 ≤ F.n := by (rcases ‹_ ∨ _› with h | h <;> rw [h] <;> decide)
  have h5 : F.n ≤ 5 := by omega
  have hrows := (rows_all (key := key) hn hl hin hgt F.n (Nat.le_refl _)).1
  have hf : ∀ x ∈ rowsOf names inner, x.2.2 < 2 ^ (F.n - 1) := by
    intro x hx
    unfold rowsOf at hx
    rw [hl] at hx
    exact ((hrows x hx).pos (by (rcases ‹_ ∨ _› with h | h <;> rw [h] <;> decide))).2
  have hidx : ∀ x ∈ rowsOf names inner, idxOf (sumsOf c F.n) x = majOf F.n x.2.2 := by
    intro x hx
    show ((sumsOf c F.n).getD x.2.2 0).toNat = _
    rw [sums_at h4 h5 (hf x hx), Int.toNat_natCast]
  have hlt : ∀ x ∈ rowsOf names inner, idxOf (sumsOf c F.n) x < (List.replicate (F.n * (F.n - 1) / 2 + 1) 0).length := by
    intro x hx
    rw [hidx x hx, List.length_replicate]
    have := maj_le hn (hf x hx)
    lia
  have hrep : ∀ (q m : Nat), polyS q (fun k => (List.replicate m 0).getD k 0) m = 0 := by
    intro q m
    have h0 : ∀ k, (List.replicate m 0).getD k 0 = 0 := by
      intro k
      rw [List.getD_eq_getElem?_getD, List.getElem?_replicate]
      split <;> rfl
    have : ∀ j, polyS q (fun k => (List.replicate m 0).getD k 0) j = 0 := by
      intro j
      induction j with
      | zero => rfl
      | succ j ih => rw [polyS, ih, h0]; simp
    exact this m
  have htot : ∀ q : Nat, ((polyS q (fun k => (countsOf names inner (sumsOf c F.n)).getD k 0) (F.n * (F.n - 1) / 2 + 1) : Nat) : Int) = sg (rowsOf names inner) fun x => (q : Int) ^ majOf F.n x.2.2 := by
    intro q
    have := count_poly q (sumsOf c F.n) (rowsOf names inner) (List.replicate (F.n * (F.n - 1) / 2 + 1) 0) hlt
    rw [List.length_replicate, hrep] at this
    unfold countsOf
    rw [hl, this]
    rw [sg_congr fun x hx => by rw [hidx x hx]]
    simp
  have hlen : (countsOf names inner (sumsOf c F.n)).length = F.n * (F.n - 1) / 2 + 1 := by
    unfold countsOf
    rw [count_len, List.length_replicate, hl]
  have hsmall : ∀ k, (countsOf names inner (sumsOf c F.n)).getD k 0 < 65536 := by
    intro k
    unfold countsOf
    rw [hl]
    refine Nat.lt_of_le_of_lt (count_le _ k _ _ hlt) ?_
    have h0 : (List.replicate (F.n * (F.n - 1) / 2 + 1) 0).getD k 0 = 0 := by
      rw [List.getD_eq_getElem?_getD, List.getElem?_replicate]
      split <;> rfl
    rw [h0]
    have := rows_len names inner names.length
    unfold rowsOf
    have h2 : names.length ^ names.length ≤ 5 ^ 5 := by
      rw [hl]
      exact Nat.le_trans (Nat.pow_le_pow_left h5 _) (Nat.pow_le_pow_right (by decide) h5)
    have : (5 : Nat) ^ 5 = 3125 := rfl
    lia
  have hfew : ∀ k, (countsOf names inner (sumsOf c F.n)).getD k 0 < 64 := by
    intro k
    by_cases hk : k < F.n * (F.n - 1) / 2 + 1
    · have hd := polyS_digit (q := 65536) (d := fun k => (countsOf names inner (sumsOf c F.n)).getD k 0) (by decide) (F.n * (F.n - 1) / 2 + 1) (fun j _ => hsmall j) k hk
      have hb := hook 65536
      have ht : _ = sg (rowsOf names inner) fun x => (65536 : Int) ^ majOf F.n x.2.2 := htot 65536
      rw [← ht, H_big hn hh1, Qp_big hn] at hb
      generalize hT : polyS 65536 (fun k => (countsOf names inner (sumsOf c F.n)).getD k 0) (F.n * (F.n - 1) / 2 + 1) = T at hb hd
      generalize F.least key (2 ^ F.n - 1) = m at hb
      have hb2 : T * F.bigH = 65536 ^ m * bigQ F.n := by
        have : ((T * F.bigH : Nat) : Int) = ((65536 ^ m * bigQ F.n : Nat) : Int) := by
          rw [Int.natCast_mul, Int.natCast_mul, hb]; simp
        exact_mod_cast this
      have hQ : bigQ F.n = bigQ F.n / F.bigH * F.bigH := by
        have := Nat.div_add_mod (bigQ F.n) F.bigH
        rw [hQH, Nat.add_zero, Nat.mul_comm] at this
        exact this.symm
      have hT2 : T = 65536 ^ m * (bigQ F.n / F.bigH) := by
        refine Nat.eq_of_mul_eq_mul_right (Nat.pos_of_ne_zero hH0) ?_
        rw [hb2, Nat.mul_assoc, ← hQ]
      have hk11 : k < 11 := by
        rcases hn with e | e <;> rw [e] at hk <;> omega
      have hd : T / 65536 ^ k % 65536 = (countsOf names inner (sumsOf c F.n)).getD k 0 := hd
      rw [← hd, hT2]
      by_cases hm : k < m
      · obtain ⟨j, rfl⟩ : ∃ j, m = k + 1 + j := ⟨m - k - 1, by omega⟩
        have e : 65536 ^ (k + 1 + j) * (bigQ F.n / F.bigH) = 65536 ^ k * (65536 * (65536 ^ j * (bigQ F.n / F.bigH))) := by
          rw [Nat.pow_add, Nat.pow_succ, Nat.mul_assoc, Nat.mul_assoc]
        rw [e, Nat.mul_div_cancel_left _ (Nat.pow_pos (by decide)), Nat.mul_mod_right]
        decide
      · obtain ⟨j, rfl⟩ : ∃ j, k = m + j := ⟨k - m, by omega⟩
        rw [Nat.pow_add, Nat.mul_div_mul_left _ _ (Nat.pow_pos (by decide))]
        exact hdig j (by omega)
    · rw [List.getD_eq_getElem?_getD, List.getElem?_eq_none (by lia)]; decide
  refine ⟨hlen, hfew, ?_, fun x hx => ?_⟩
  · have h64 := hook 64
    rw [← Hh_full hn 64, htot 64]
    rw [Qp_64 hn] at h64
    exact h64
  · have hx2 := hf x hx
    rw [sums_at h4 h5 hx2]
    have := maj_le hn hx2
    refine ⟨by unfold sumsOf; rw [List.length_map, List.length_range]; exact hx2, by exact Int.natCast_nonneg _, by lia⟩
end Mine
end
section -- PF
open PySem PySem.W PyProof.Rows PySem.Calls
namespace Mine
/-- the bare nest: parents, what stands open, brackets -/
structure Sk where
  o : List Int
  s : List Nat
  ps : List Bool
noncomputable def skStep (p k : Nat) (x : Sk) : Sk :=
  let s := x.s.take (x.s.length - p)
  { o := x.o ++ [match s.getLast? with | some j => (j : Int) | none => -1], s := s ++ [k], ps := x.ps ++ List.replicate p false ++ [true] }
noncomputable def skAll : Nat → List Sk
  | 0 => [⟨[], [], []⟩]
  | k + 1 => (skAll k).flatMap fun x => ((List.range (x.s.length + 1)).filter fun p => decide (x.s.length - 3 ≤ p)).map fun p => skStep p k x
noncomputable def Sk.all (x : Sk) : List Bool := x.ps ++ List.replicate x.s.length false
noncomputable def closeAt : List Bool → List Bool → Option Nat
  | [], _ => none
  | true :: r, mid => closeAt r (mid ++ [true])
  | false :: r, mid => if (balB (true :: mid ++ [false]) 0 == some 0) = true then some (mid.filter id).length else closeAt r (mid ++ [false])
noncomputable def maskI : List Bool → Nat → List Int
  | [], _ => []
  | true :: r, a => (match closeAt r [] with | some n => sumTwos (List.range' (a + 1) n) | none => -1) :: maskI r (a + 1)
  | false :: r, a => maskI r a
noncomputable def Sk.fo (x : Sk) : Fo := ⟨x.o.length, x.o, (maskI x.all 0).map Int.toNat, sizesOf x.o⟩
noncomputable def Sk.good (n : Nat) (x : Sk) : Bool :=
  x.fo.ok && (x.o.length == n) && (balB x.all 0 == some 0) && ((maskI x.all 0).length == n) && ((maskI x.all 0).all fun m => decide (0 ≤ m)) && ((List.range n).all fun v => decide (x.fo.pa v < v)) && ((List.range n).all fun v => decide (x.fo.he v < 11)) && decide (x.s.length ≤ 5)
theorem good4 : ((skAll 4).all (Sk.good 4)) = true := by decide +kernel
theorem good5 : ((skAll 5).all (Sk.good 5)) = true := by decide +kernel
theorem skStep_mem {k p : Nat} {x : Sk} (hx : x ∈ skAll k) (h1 : p ≤ x.s.length) (h2 : x.s.length - 3 ≤ p) : skStep p k x ∈ skAll (k + 1) := by
  rw [skAll]
  refine List.mem_flatMap.mpr ⟨x, hx, List.mem_map.mpr ⟨p, List.mem_filter.mpr ⟨List.mem_range.mpr (by lia), by simpa using h2⟩, rfl⟩⟩
structure SkOk (n : Nat) (x : Sk) : Prop where
  ok : x.fo.ok = true
  len : x.o.length = n
  bal : balB x.all 0 = some 0
  ml : (maskI x.all 0).length = n
  m0 : ∀ m ∈ maskI x.all 0, 0 ≤ m
  pa : ∀ v < n, x.fo.pa v < v
  he : ∀ v < n, x.fo.he v < 11
  sl : x.s.length ≤ 5
theorem sk_ok {n : Nat} (hn : n = 4 ∨ n = 5) {x : Sk} (hx : x ∈ skAll n) : SkOk n x := by
  have h : Sk.good n x = true := by
    rcases hn with rfl | rfl
    · exact List.all_eq_true.mp good4 x hx
    · exact List.all_eq_true.mp good5 x hx
  unfold Sk.good at h
  simp only [Bool.and_eq_true, List.all_eq_true, List.mem_range, decide_eq_true_eq, beq_iff_eq] at h
  obtain ⟨⟨⟨⟨⟨⟨⟨h1, h2⟩, h3⟩, h4⟩, h5⟩, h6⟩, h7⟩, h8⟩ := h
  exact ⟨h1, h2, h3, h4, h5, h6, h7, h8⟩
/-- names in order -/
noncomputable def nameL : List Str := [tx [102], tx [105], tx [108], tx [115], tx [116], tx [102, 102], tx [102, 105], tx [102, 108], tx [115, 115], tx [115, 116]]
noncomputable def codeOf (x : Str) : Nat := match x.cps.toList with
  | [] => 0
  | [a] => (a + 1) * 1000
  | a :: b :: _ => (a + 1) * 1000 + b + 1
theorem code_lt : ∀ x ∈ nameL, ∀ y ∈ nameL, decide (x.cps.toList < y.cps.toList) = decide (codeOf x < codeOf y) ∧ (x == y) = decide (codeOf x = codeOf y) := by decide +kernel
noncomputable def keyOf (names : List Str) (k : Nat) : Nat := codeOf (names.getD k Str.empty) * 8 + k + 1
theorem at_mem {names : List Str} (h : ∀ x ∈ names, x ∈ nameL) {a : Nat} (ha : a < names.length) : names.getD a Str.empty ∈ nameL := by
  rw [List.getD_eq_getElem?_getD, List.getElem?_eq_getElem ha]
  exact h _ (List.getElem_mem _)
theorem key_gt {names : List Str} (h : ∀ x ∈ names, x ∈ nameL) (h8 : names.length ≤ 8) {a b : Nat} (ha : a < names.length) (hb : b < names.length) :
    gtSI (names.getD a Str.empty) a (names.getD b Str.empty) b = decide (keyOf names b < keyOf names a) := by
  have c1 := code_lt _ (at_mem h ha) _ (at_mem h hb)
  have c2 := code_lt _ (at_mem h hb) _ (at_mem h ha)
  unfold gtSI keyOf
  rw [c1.2, c2.1, Bool.eq_iff_iff]
  generalize codeOf (names.getD a Str.empty) = x
  generalize codeOf (names.getD b Str.empty) = y
  by_cases e : x = y
  · rw [if_pos (by simpa using e), decide_eq_true_iff, decide_eq_true_iff]; lia
  · rw [if_neg (by simpa using e), decide_eq_true_iff, decide_eq_true_iff]; lia
theorem key_inj {names : List Str} (h8 : names.length ≤ 8) {a b : Nat} (ha : a < names.length) (hb : b < names.length) (e : keyOf names a = keyOf names b) : a = b := by
  unfold keyOf at e
  grind
theorem key_par {names : List Str} (h : ∀ x ∈ names, x ∈ nameL) (h8 : names.length ≤ 8) {v u : Nat} (hv : v < names.length) (hu : u < v) :
    (!(decide ((names.getD v Str.empty).cps.toList < (names.getD u Str.empty).cps.toList))) = decide (keyOf names u < keyOf names v) := by
  have c := code_lt _ (at_mem h hv) _ (at_mem h (a := u) (by lia))
  rw [c.1]
  unfold keyOf
  rw [Bool.eq_iff_iff]
  generalize codeOf (names.getD v Str.empty) = x
  generalize codeOf (names.getD u Str.empty) = y
  simp only [Bool.not_eq_true', decide_eq_false_iff_not, decide_eq_true_iff]
  lia
theorem getD_cong {l : List Int} {k : Nat} (h : k < l.length) (a b : Int) : l.getD k a = l.getD k b := by
  rw [List.getD_eq_getElem?_getD, List.getD_eq_getElem?_getD, List.getElem?_eq_getElem h]; rfl
theorem least_is {n : Nat} (hn : n = 4 ∨ n = 5) {x : Sk} (hx : SkOk n x) {names : List Str} {told : List Nat} (h : ∀ y ∈ names, y ∈ nameL) (hl : names.length = n) (ht : ∀ k < n, told.getD k 0 % 11 = x.fo.he k) :
    ((leastL n names x.o).map fun k => told.getD k 0 % 11).sum = x.fo.least (keyOf names) (2 ^ n - 1) := by
  have hnn : x.fo.n = n := hx.len
  rw [sn_sum]
  unfold leastL Fo.least
  rw [sn_filter, hnn]
  refine sn_congr fun v hv => ?_
  have hv := List.mem_range.mp hv
  have hpa := hx.pa v hv
  have e : x.o.getD v 0 = x.fo.pa v := getD_cong (by rw [hx.len]; exact hv) 0 (-1)
  rw [e, ht v hv, full_bit hn hv]
  by_cases h0 : 0 ≤ x.fo.pa v
  · have hu : (x.fo.pa v).toNat < v := by lia
    rw [full_bit hn (by lia), key_par h (by grind) (by simp only [*]) hu]
    by_cases hk : keyOf names (x.fo.pa v).toNat < keyOf names v
    · rw [if_pos (by simp [h0, hk]), if_pos ⟨rfl, h0, rfl, hk⟩]
    · rw [if_neg (by simp [hk]), if_neg fun z => hk z.2.2.2]
  · rw [if_neg (by simp [h0]), if_neg fun z => h0 z.2.1]
end Mine
end
section -- PH
open PySem PySem.W PyProof.Rows PySem.Calls
namespace Mine
noncomputable def endsU (i : Nat) (us : List (List Nat)) : List Nat := ((posU i us).filter isClose).map (·.1 + 1)
noncomputable def startsU (i : Nat) (us : List (List Nat)) : List Nat := ((posU i us).filter isOpen).map (·.1)
theorem open_tx (p : Nat) (u : List Nat) : isOpen (p, tx u) = (u == [40]) := by
  unfold isOpen; rw [tx_open, tx_beq]
theorem close_tx (p : Nat) (u : List Nat) : isClose (p, tx u) = (u == [41]) := by
  unfold isClose; rw [tx_close, tx_beq]
theorem endsU_cons (i : Nat) (u : List Nat) (us : List (List Nat)) : endsU i (u :: us) = if u = [41] then (i + 1) :: endsU (i + 1) us else endsU (i + u.length) us := by
  unfold endsU
  rw [posU, List.filter_cons, close_tx]
  by_cases h : u = [41]
  · subst h; rw [if_pos (by rfl), if_pos rfl]; simp
  · rw [if_neg (by simpa using h), if_neg h]
theorem startsU_cons (i : Nat) (u : List Nat) (us : List (List Nat)) : startsU i (u :: us) = if u = [40] then i :: startsU (i + 1) us else startsU (i + u.length) us := by
  unfold startsU
  rw [posU, List.filter_cons, open_tx]
  by_cases h : u = [40]
  · subst h; rw [if_pos (by rfl), if_pos rfl]; simp
  · rw [if_neg (by simpa using h), if_neg h]
theorem endsU_app (i : Nat) (us vs : List (List Nat)) : endsU i (us ++ vs) = endsU i us ++ endsU (i + us.flatten.length) vs := by
  unfold endsU; rw [posU_app]; simp
theorem startsU_app (i : Nat) (us vs : List (List Nat)) : startsU i (us ++ vs) = startsU i us ++ startsU (i + us.flatten.length) vs := by
  unfold startsU; rw [posU_app]; simp
theorem endsU_in : ∀ (us : List (List Nat)) (i : Nat), ∀ e ∈ endsU i us, i < e ∧ e ≤ i + us.flatten.length
  | [], _, e, h => by cases h
  | u :: us, i, e, h => by
    rw [endsU_cons] at h
    rw [List.flatten_cons, List.length_append]
    split at h
    · rename_i hu
      subst hu
      have e1 : ([41] : List Nat).length = 1 := rfl
      rw [e1]
      rcases List.mem_cons.mp h with rfl | h
      · simp
      · have := endsU_in us _ e h; lia
    · have := endsU_in us _ e h; lia
theorem startsU_in : ∀ (us : List (List Nat)) (i : Nat), ∀ e ∈ startsU i us, i ≤ e ∧ e < i + us.flatten.length
  | [], _, e, h => by cases h
  | u :: us, i, e, h => by
    rw [startsU_cons] at h
    rw [List.flatten_cons, List.length_append]
    split at h
    · rename_i hu
      subst hu
      have e1 : ([40] : List Nat).length = 1 := rfl
      rw [e1]
      rcases List.mem_cons.mp h with rfl | h
      · grind
      · have := startsU_in us _ e h; grind
    · have := startsU_in us _ e h; lia
theorem startsU_len : ∀ (us : List (List Nat)) (i : Nat), (startsU i us).length = ((us.filterMap parOf).filter id).length
  | [], _ => rfl
  | u :: us, i => by
    rw [startsU_cons, List.filterMap_cons]
    unfold parOf
    by_cases h : u = [40]
    · rw [if_pos h, if_pos h, List.length_cons, startsU_len us]; rfl
    · rw [if_neg h, if_neg h, startsU_len us]
      by_cases h2 : u = [41]
      · rw [if_pos h2]; rfl
      · rw [if_neg h2]; rfl
theorem units_shown {us : List (List Nat)} (h : ∀ u ∈ us, Unit1 u) : unitsOfS (tx us.flatten) = posU 0 us ++ [(us.flatten.length, tx [92])] := by
  unfold unitsOfS escOf
  rw [tx_back, tx_app, tx_list, esc_units us 0 [92] h, Nat.zero_add]
  rfl
theorem ends_shown {us : List (List Nat)} (h : ∀ u ∈ us, Unit1 u) : endsOf (tx us.flatten) = endsU 0 us := by
  unfold endsOf endsU
  rw [units_shown h, List.filter_append]
  have : [(us.flatten.length, tx [92])].filter isClose = [] := by rw [List.filter_cons, close_tx]; rfl
  rw [this, List.append_nil]
theorem starts_shown {us : List (List Nat)} (h : ∀ u ∈ us, Unit1 u) : startsOf (tx us.flatten) = startsU 0 us := by
  unfold startsOf startsU
  rw [units_shown h, List.filter_append]
  have : [(us.flatten.length, tx [92])].filter isOpen = [] := by rw [List.filter_cons, open_tx]; rfl
  rw [this, List.append_nil]
theorem filter_all {α : Type} {f : α → Bool} {l : List α} (h : ∀ x ∈ l, f x = true) : l.filter f = l := List.filter_eq_self.mpr h
theorem filter_no {α : Type} {f : α → Bool} {l : List α} (h : ∀ x ∈ l, f x = false) : l.filter f = [] := List.filter_eq_nil_iff.mpr fun x hx => by rw [h x hx]; decide
theorem twos_is {p e : Nat} {S A B C : List Nat} (hS : S = A ++ p :: (B ++ C)) (hA : ∀ x ∈ A, x < p) (hB : ∀ x ∈ B, p < x ∧ x < e) (hC : ∀ x ∈ C, e ≤ x) : twos S p e = List.range' (A.length + 1) B.length := by
  subst hS
  unfold twos
  have hl : (A ++ p :: (B ++ C)).length = (A.length + 1) + (B.length + C.length) := by simp; simp +arith only
  have e0 : List.range ((A.length + 1) + (B.length + C.length)) = List.range' 0 (A.length + 1) ++ (List.range' (A.length + 1) B.length ++ List.range' (A.length + 1 + B.length) C.length) := by
    rw [List.range_eq_range', List.range'_append_1, ← List.range'_append_1 (s := 0), Nat.zero_add]
  rw [hl, e0, List.filter_append, List.filter_append]
  have g : ∀ k, (A ++ p :: (B ++ C)).getD k 0 = if k < A.length then A.getD k 0 else if k = A.length then p else if k < A.length + 1 + B.length then B.getD (k - (A.length + 1)) 0 else C.getD (k - (A.length + 1 + B.length)) 0 := by
    intro k
    simp only [List.getD_eq_getElem?_getD, List.getElem?_append, List.getElem?_cons]
    by_cases h1 : k < A.length
    · rw [if_pos h1, if_pos h1]
    · rw [if_neg h1, if_neg h1]
      by_cases h2 : k = A.length
      · rw [if_pos h2, if_pos (by lia)]; rfl
      · rw [if_neg h2, if_neg (by grind)]
        by_cases h3 : k < A.length + 1 + B.length
        · rw [if_pos h3, if_pos (by omega)]; congr 2
        · rw [if_neg h3, if_neg (by omega)]; congr 2; grind
  have m : ∀ (l : List Nat) (k : Nat), k < l.length → l.getD k 0 ∈ l := by
    intro l k hk
    rw [List.getD_eq_getElem?_getD, List.getElem?_eq_getElem hk]
    exact List.getElem_mem _
  rw [filter_no, filter_all, filter_no, List.append_nil, List.nil_append]
  · intro k hk
    have hk := List.mem_range'_1.mp hk
    rw [g, if_neg (by grind), if_neg (by grind), if_neg (by lia)]
    have := hC _ (m C (k - (A.length + 1 + B.length)) (by omega))
    generalize C.getD (k - (A.length + 1 + B.length)) 0 = X at this ⊢
    rw [Bool.and_eq_false_iff, decide_eq_false_iff_not, decide_eq_false_iff_not]; lia
  · intro k hk
    have hk := List.mem_range'_1.mp hk
    rw [g, if_neg (by lia), if_neg (by grind), if_pos (by simp only [*])]
    have := hB _ (m B (k - (A.length + 1)) (by omega))
    generalize B.getD (k - (A.length + 1)) 0 = X at this ⊢
    rw [Bool.and_eq_true, decide_eq_true_iff, decide_eq_true_iff]; assumption
  · intro k hk
    have hk := List.mem_range'_1.mp hk
    rw [g]
    by_cases h1 : k < A.length
    · rw [if_pos h1]
      have := hA _ (m A k h1)
      generalize A.getD k 0 = X at this ⊢
      rw [Bool.and_eq_false_iff, decide_eq_false_iff_not, decide_eq_false_iff_not]; lia
    · rw [if_neg h1, if_pos (by lia)]
      simp
noncomputable def innerOfClose (a : Nat) : Option Nat → Int
  | some n => sumTwos (List.range' (a + 1) n)
  | none => -1
theorem later_is {us pre : List (List Nat)} (h : ∀ u ∈ us, Unit1 u ∧ u ≠ [34]) : ∀ (post mid : List (List Nat)), us = pre ++ ([40] :: (mid ++ post)) →
    (match laterOf (tx us.flatten) pre.flatten.length (endsU (pre.flatten.length + 1 + mid.flatten.length) post) with
      | [] => -1
      | e :: _ => sumTwos (twos (startsOf (tx us.flatten)) pre.flatten.length e)) = innerOfClose (startsU 0 pre).length (closeAt (post.filterMap parOf) (mid.filterMap parOf))
  | [], mid, hus => rfl
  | u :: r, mid, hus => by
    have hus2 : us = pre ++ ([40] :: ((mid ++ [u]) ++ r)) := by rw [hus]; simp
    have ih := later_is h r (mid ++ [u]) hus2
    have hlen : pre.flatten.length + 1 + (mid ++ [u]).flatten.length = pre.flatten.length + 1 + mid.flatten.length + u.length := by simp; exact (Nat.add_assoc _ _ _).symm
    rw [hlen] at ih
    rw [endsU_cons]
    by_cases h41 : u = [41]
    · subst h41
      rw [if_pos rfl]
      have hp : ([41] : List Nat) :: r = [[41]] ++ r := rfl
      have hcut : cutOf (tx us.flatten) pre.flatten.length (pre.flatten.length + 1 + mid.flatten.length + 1) = tx ([40] :: (mid ++ [[41]])).flatten := by
        unfold cutOf
        have hl : us.flatten = pre.flatten ++ (([40] :: (mid ++ [[41]])).flatten ++ r.flatten) := by rw [hus]; simp
        have hm : ([40] :: (mid ++ [[41]])).flatten.length = 1 + mid.flatten.length + 1 := by simp; exact Nat.add_comm _ _
        rw [tx_slice _ (by simp +arith only) (by rw [hl, List.length_append, List.length_append, hm]; simp +arith only), hl, List.drop_left, List.take_append_of_le_length (by grind), List.take_of_length_le (by grind)]
      have hchk : checkP (cutOf (tx us.flatten) pre.flatten.length (pre.flatten.length + 1 + mid.flatten.length + 1)) = (balB (true :: mid.filterMap parOf ++ [false]) 0 == some 0) := by
        rw [hcut, check_plain]
        · have : ([40] :: (mid ++ [[41]])).filterMap parOf = true :: mid.filterMap parOf ++ [false] := by
            rw [List.filterMap_cons]; simp [parOf]
          rw [this]
        · intro v hv
          refine h v ?_
          rw [hus]
          rcases List.mem_cons.mp hv with rfl | hv
          · simp
          · rcases List.mem_append.mp hv with hv | hv
            · simp [hv]
            · rw [List.mem_singleton] at hv; subst hv; simp
      have hpar : (([41] : List Nat) :: r).filterMap parOf = false :: r.filterMap parOf := rfl
      rw [hpar, closeAt, laterOf, hchk]
      by_cases hb : (balB (true :: mid.filterMap parOf ++ [false]) 0 == some 0) = true
      · rw [if_pos hb, if_pos hb]
        dsimp only
        rw [innerOfClose, starts_shown fun v hv => (h v hv).1]
        have hS : startsU 0 us = startsU 0 pre ++ pre.flatten.length :: (startsU (pre.flatten.length + 1) mid ++ startsU (pre.flatten.length + 1 + mid.flatten.length) ([41] :: r)) := by
          rw [hus, startsU_app, startsU_cons, if_pos rfl, startsU_app, Nat.zero_add]
        rw [twos_is hS, startsU_len mid]
        · intro x hx; have := startsU_in _ _ x hx; lia
        · intro x hx; have := startsU_in _ _ x hx; lia
        · intro x hx
          rw [startsU_cons, if_neg (by decide)] at hx
          exact (startsU_in _ _ x hx).1
      · rw [if_neg hb, if_neg hb]
        have e1 : (mid ++ [[41]]).filterMap parOf = mid.filterMap parOf ++ [false] := by rw [List.filterMap_append]; rfl
        rw [e1] at ih
        exact ih
    · rw [if_neg h41]
      by_cases h40 : u = [40]
      · subst h40
        have e1 : (mid ++ [[40]]).filterMap parOf = mid.filterMap parOf ++ [true] := by rw [List.filterMap_append]; rfl
        have e2 : (([40] : List Nat) :: r).filterMap parOf = true :: r.filterMap parOf := rfl
        rw [e1] at ih
        rw [e2, closeAt]
        exact ih
      · have e0 : parOf u = none := by unfold parOf; rw [if_neg h40, if_neg h41]
        have e1 : (mid ++ [u]).filterMap parOf = mid.filterMap parOf := by rw [List.filterMap_append]; simp [e0]
        have e2 : (u :: r).filterMap parOf = r.filterMap parOf := by rw [List.filterMap_cons, e0]
        rw [e1] at ih
        rw [e2]
        exact ih
theorem inner_is {us pre post : List (List Nat)} (h : ∀ u ∈ us, Unit1 u ∧ u ≠ [34]) (hus : us = pre ++ ([40] :: post)) :
    innerAt (tx us.flatten) pre.flatten.length = innerOfClose (startsU 0 pre).length (closeAt (post.filterMap parOf) []) := by
  have := later_is h post [] hus
  rw [← show ([] : List (List Nat)).filterMap parOf = [] from rfl, ← this]
  unfold innerAt
  have hf : ((endsOf (tx us.flatten)).filter fun e => decide (pre.flatten.length < e)) = endsU (pre.flatten.length + 1 + ([] : List (List Nat)).flatten.length) post := by
    rw [ends_shown fun v hv => (h v hv).1, hus, endsU_app, endsU_cons, if_neg (by decide), List.filter_append, filter_no, filter_all, List.nil_append]
    · simp
    · intro e he; have := endsU_in _ _ e he; first | (rw [decide_eq_false_iff_not]; omega) | (rw [decide_eq_true_iff]; have e1 : ([40] : List Nat).length = 1 := rfl; grind)
    · intro e he; have := endsU_in _ _ e he; first | (rw [decide_eq_false_iff_not]; lia) | (rw [decide_eq_true_iff]; have e1 : ([40] : List Nat).length = 1 := rfl; omega)
  rw [hf]
  all_goals rfl
/-- the names, read off units -/
noncomputable def nf : List (List Nat) → List (List Nat) → Option (List (List Nat))
  | [], ns => some ns
  | u :: us, ns => if u = [40] then nf us (ns ++ [[]]) else if u ≠ [41] ∧ u.length = 1 then (match ns.getLast? with
      | none => none
      | some x => nf us (ns.dropLast ++ [x ++ u])) else nf us ns
theorem maskI_cons (r : List Bool) (a : Nat) : maskI (true :: r) a = innerOfClose a (closeAt r []) :: maskI r (a + 1) := by
  rw [maskI]; unfold innerOfClose; rfl
theorem read_is {us : List (List Nat)} (h : ∀ u ∈ us, Unit1 u ∧ u ≠ [34]) : ∀ (post pre N : List (List Nat)) (is : List Int) (M : List (List Nat)), us = pre ++ post → nf post N = some M →
    readLoop (tx us.flatten) (posU pre.flatten.length post ++ [(us.flatten.length, tx [92])]) (tx pre.flatten) (N.map tx) is = some (tx us.flatten ++ tx [92], M.map tx, is ++ maskI (post.filterMap parOf) (startsU 0 pre).length)
  | [], pre, N, is, M, hus, hM => by
    rw [List.append_nil] at hus
    subst hus
    have hM : N = M := Option.some.inj hM
    subst hM
    rw [posU, List.nil_append, readLoop, if_pos (by first | (rw [tx_app, tx_len]; done) | (rw [tx_app, tx_len]; simp)), tx_open, tx_beq, if_neg (by decide), if_neg (by rw [tx_len, tx_len]; simp), readLoop]
    rw [show ([] : List (List Nat)).filterMap parOf = [] from rfl, maskI, List.append_nil]
  | u :: r, pre, N, is, M, hus, hM => by
    have hus2 : us = (pre ++ [u]) ++ r := by rw [hus]; simp
    have hu1 : Unit1 u := (h u (by rw [hus]; simp)).1
    have hul : 1 ≤ u.length := by rcases hu1 with ⟨c, rfl, _⟩ | ⟨c, rfl⟩ <;> simp
    have hl : (pre ++ [u]).flatten.length = pre.flatten.length + u.length := by simp
    have hfl : (pre ++ [u]).flatten = pre.flatten ++ u := by simp
    have hlt : pre.flatten.length + u.length ≤ us.flatten.length := by rw [hus]; simp
    rw [posU, List.cons_append, readLoop, if_pos (by rw [tx_app, tx_len, List.length_append]; grind), tx_app, tx_open, tx_close, tx_beq, tx_len, tx_len]
    rw [nf] at hM
    have hst : ∀ v : List Nat, (startsU 0 (pre ++ [v])).length = (startsU 0 pre).length + if v = [40] then 1 else 0 := by
      intro v
      rw [startsU_app, List.length_append, startsU_cons]
      split <;> rfl
    by_cases h40 : u = [40]
    · rw [if_pos h40] at hM
      rw [if_pos (by simpa using h40), show [Str.ofString ""] = [([] : List Nat)].map tx from rfl, ← List.map_append, ← hl, ← hfl, read_is h r (pre ++ [u]) _ _ M hus2 hM]
      have e1 : (u :: r).filterMap parOf = true :: r.filterMap parOf := by rw [h40]; rfl
      have hus3 : us = pre ++ ([40] :: r) := by rw [hus, h40]
      have e2 : (pre ++ [u]).flatten.length - 1 = pre.flatten.length := by rw [hl, h40]; simp
      rw [e1, maskI_cons, e2, inner_is h hus3, hst, if_pos h40, List.append_assoc]
      rfl
    · rw [if_neg h40] at hM
      rw [if_neg (by simpa using h40)]
      have e1 : maskI ((u :: r).filterMap parOf) (startsU 0 pre).length = maskI (r.filterMap parOf) (startsU 0 pre).length := by
        rw [List.filterMap_cons]
        unfold parOf
        rw [if_neg h40]
        by_cases h41 : u = [41]
        · rw [if_pos h41]; rfl
        · rw [if_neg h41]
      have e3 := hst u
      rw [if_neg h40, Nat.add_zero] at e3
      rw [e1]
      have hbne : (tx u != tx [41]) = decide (u ≠ [41]) := by
        rw [Bool.eq_iff_iff, bne_iff_ne, decide_eq_true_iff, ne_eq, tx_inj]
      by_cases hs : u ≠ [41] ∧ u.length = 1
      · rw [if_pos hs] at hM
        rw [if_pos (by rw [hbne]; simp only [Bool.and_eq_true, decide_eq_true_eq, beq_iff_eq]; exact ⟨hs.1, hs.2, by omega⟩), List.getLast?_map]
        cases hg : N.getLast? with
        | none => rw [hg] at hM; cases hM
        | some x =>
          rw [hg] at hM
          have hM : nf r (N.dropLast ++ [x ++ u]) = some M := hM
          rw [Option.map_some]
          dsimp only
          have e4 : (N.map tx).dropLast ++ [tx x ++ tx u] = (N.dropLast ++ [x ++ u]).map tx := by
            rw [List.map_append, List.map_dropLast, tx_app]; rfl
          rw [e4, ← hl, ← hfl, read_is h r (pre ++ [u]) _ _ M hus2 hM, e3]
      · rw [if_neg hs] at hM
        rw [if_neg (by
          rw [hbne]
          intro z
          simp only [Bool.and_eq_true, decide_eq_true_eq, beq_iff_eq] at z
          exact hs ⟨z.1, z.2.1⟩), ← hl, ← hfl, read_is h r (pre ++ [u]) _ _ M hus2 hM, e3]
theorem read_all {us : List (List Nat)} {M : List (List Nat)} (h : ∀ u ∈ us, Unit1 u ∧ u ≠ [34]) (hM : nf us [] = some M) :
    readLoop (tx us.flatten) (unitsOfS (tx us.flatten)) (Str.ofString "") [] [] = some (tx us.flatten ++ Str.ofString "\\", M.map tx, maskI (us.filterMap parOf) 0) := by
  have := read_is h us [] [] [] M rfl hM
  rw [units_shown fun v hv => (h v hv).1, tx_back]
  exact this
theorem nf_app : ∀ (us vs ns : List (List Nat)) (M : List (List Nat)), nf us ns = some M → nf (us ++ vs) ns = nf vs M
  | [], vs, ns, M, h => by rw [List.nil_append, Option.some.inj h]
  | u :: us, vs, ns, M, h => by
    rw [List.cons_append, nf]
    rw [nf] at h
    split
    · rename_i h1; rw [if_pos h1] at h; exact nf_app us vs _ M h
    · rename_i h1
      rw [if_neg h1] at h
      split
      · rename_i h2
        rw [if_pos h2] at h
        cases hg : ns.getLast? with
        | none => rw [hg] at h; cases h
        | some x => rw [hg] at h; exact nf_app us vs _ M h
      · rename_i h2
        rw [if_neg h2] at h
        exact nf_app us vs _ M h
end Mine
end
section -- PG
open PySem PySem.W PyProof.Rows PySem.Calls
namespace Mine
noncomputable abbrev L (x : Str) : List Nat := x.cps.toList
theorem L_app (a b : Str) : L (a ++ b) = L a ++ L b := by
  show (a ++ b).cps.toList = _
  rw [Str.cps_append]; simp
theorem L_len (a : Str) : (L a).length = a.length := by simp [Str.length]
noncomputable def prepL (l : List Nat) : List Nat := (l.filter fun c => inB1 c != true).flatMap fun c => L (b3Map c)
theorem prepL_app (a b : List Nat) : prepL (a ++ b) = prepL a ++ prepL b := by
  unfold prepL; rw [List.filter_append, List.flatMap_append]
theorem prep_is (t : Str) : prepOf t = tx (prepL (L t)) := by
  unfold prepOf keptOf prepL
  rw [tx_join']
  congr 1
  rw [List.flatMap_map]
noncomputable def blkL : List Blk := [(false, []), (false, [[92, 41]]), (true, [[40]]), (false, [[92, 34]]), (false, [[92, 92]]), (true, [[92, 34], [41]]), (false, [[92, 40]])]
noncomputable def blkAt (i : Nat) : Blk := blkL.getD i (false, [])
theorem pre_piece : ∀ i < 7, ∀ h < 28, prepL (L (Txt.slice (pieceL.getD i Str.empty) none (some 1)) ++ L (hiddenL.getD h Str.empty) ++ L (Txt.slice (pieceL.getD i Str.empty) (some 1) none)) = (blkUnits (blkAt i)).flatten := by decide +kernel
theorem len_piece : ∀ i < 7, ∀ h < 28, (L (Txt.slice (pieceL.getD i Str.empty) none (some 1)) ++ L (hiddenL.getD h Str.empty) ++ L (Txt.slice (pieceL.getD i Str.empty) (some 1) none)).length ≤ 6 := by decide +kernel
theorem pre_sign : ∀ l < 5, ∀ f < 14, prepL (L (signOf l f)) = L (nameOf l f) := by decide +kernel
theorem pre_brackets : prepL [40] = [40] ∧ prepL [41] = [41] := by decide +kernel
theorem left_piece : ∀ i < 7, L (pleftL.getD i Str.empty) = (plainU [blkAt i]).flatten ∧ (blkUnits (blkAt i)).flatten.length ≤ 5 ∧ (plainU [blkAt i]).filterMap parOf = [] ∧ (∀ u ∈ plainU [blkAt i], u.length = 2) := by decide +kernel
theorem name_in : ∀ l < 5, ∀ f < 14, nameOf l f ∈ nameL := by decide +kernel
theorem name_signs : ∀ x ∈ nameL, (∀ c ∈ L x, c ≠ 92 ∧ c ≠ 34 ∧ c ≠ 40 ∧ c ≠ 41) ∧ (L x).length ≤ 2 := by decide +kernel
theorem prep_rep : ∀ p, prepL (List.replicate p 41) = List.replicate p 41
  | 0 => rfl
  | p + 1 => by
    have : List.replicate (p + 1) 41 = [41] ++ List.replicate p 41 := rfl
    rw [this, prepL_app, pre_brackets.2, prep_rep p]
theorem blk_ok : ∀ i < 7, BlkOk (blkAt i) := by
  intro i hi u hu
  have e : u = [92, 41] ∨ u = [40] ∨ u = [92, 34] ∨ u = [92, 92] ∨ u = [41] ∨ u = [92, 40] := by
    have : ∀ i < 7, ∀ u ∈ (blkAt i).2, u = [92, 41] ∨ u = [40] ∨ u = [92, 34] ∨ u = [92, 92] ∨ u = [41] ∨ u = [92, 40] := by decide
    exact this i hi u hu
  rcases e with rfl | rfl | rfl | rfl | rfl | rfl
  · exact ⟨.inr ⟨_, rfl⟩, by decide⟩
  · exact ⟨.inl ⟨_, rfl, by decide⟩, by decide⟩
  · exact ⟨.inr ⟨_, rfl⟩, by decide⟩
  · exact ⟨.inr ⟨_, rfl⟩, by decide⟩
  · exact ⟨.inl ⟨_, rfl, by decide⟩, by decide⟩
  · exact ⟨.inr ⟨_, rfl⟩, by decide⟩
noncomputable def nameU (x : Str) : List (List Nat) := (L x).map fun c => [c]
theorem nameU_flat (x : Str) : (nameU x).flatten = L x := by
  unfold nameU
  generalize L x = l
  induction l with
  | nil => rfl
  | cons a l ih => rw [List.map_cons, List.flatten_cons, ih]; rfl
theorem name_ok {x : Str} (h : x ∈ nameL) : BlkOk (false, nameU x) := by
  intro u hu
  obtain ⟨c, hc, rfl⟩ := List.mem_map.mp hu
  have := (name_signs x h).1 c hc
  refine ⟨.inl ⟨c, rfl, this.1⟩, ?_⟩
  simpa using this.2.1
theorem name_par {x : Str} (h : x ∈ nameL) : (nameU x).filterMap parOf = [] := by
  rw [List.filterMap_eq_nil_iff]
  intro u hu
  obtain ⟨c, hc, rfl⟩ := List.mem_map.mp hu
  have := (name_signs x h).1 c hc
  unfold parOf
  rw [if_neg (by simpa using this.2.2.1), if_neg (by simpa using this.2.2.2)]
theorem nf_signs : ∀ (cs : List Nat), (∀ c ∈ cs, c ≠ 40 ∧ c ≠ 41) → ∀ (ns : List (List Nat)) (x : List Nat), nf (cs.map fun c => [c]) (ns ++ [x]) = some (ns ++ [x ++ cs])
  | [], _, ns, x => by simp [nf]
  | c :: cs, h, ns, x => by
    have hc := h c (.head _)
    rw [List.map_cons, nf, if_neg (by simpa using hc.1), if_pos ⟨by simpa using hc.2, rfl⟩]
    rw [List.getLast?_append, List.getLast?_singleton, Option.some_or]
    dsimp only
    rw [List.dropLast_concat, nf_signs cs (fun d hd => h d (.tail _ hd)) ns (x ++ [c])]
    simp
theorem nf_two : ∀ (us : List (List Nat)), (∀ u ∈ us, u.length = 2) → ∀ ns, nf us ns = some ns
  | [], _, _ => rfl
  | u :: us, h, ns => by
    have hu := h u (.head _)
    rw [nf, if_neg (by rintro rfl; simp at hu), if_neg (by rintro ⟨_, z⟩; lia)]
    exact nf_two us (fun v hv => h v (.tail _ hv)) ns
theorem nf_close : ∀ (p : Nat) ns, nf (List.replicate p [41]) ns = some ns
  | 0, _ => rfl
  | p + 1, ns => by
    rw [List.replicate_succ, nf, if_neg (by decide), if_neg (by simp)]
    exact nf_close p ns
theorem par_close : ∀ p : Nat, (List.replicate p ([41] : List Nat)).filterMap parOf = List.replicate p false
  | 0 => rfl
  | p + 1 => by
    rw [List.replicate_succ, List.filterMap_cons]
    have : parOf [41] = some false := rfl
    rw [this]
    dsimp only
    rw [par_close p]; rfl
theorem flat_close (p : Nat) : (List.replicate p ([41] : List Nat)).flatten = List.replicate p 41 := by
  induction p with
  | zero => rfl
  | succ p ih => rw [List.replicate_succ, List.flatten_cons, ih]; rfl
theorem rep_snoc (p : Nat) : List.replicate (p + 1) 41 = [41] ++ List.replicate p 41 := rfl
theorem popN_is : ∀ (p : Nat) (t l : Str) (s : List Nat), L (popN p t l s).1 = L t ++ List.replicate p 41 ∧ L (popN p t l s).2.1 = L l ++ List.replicate p 41 ∧ (popN p t l s).2.2 = s.take (s.length - p)
  | 0, t, l, s => by simp [popN]
  | p + 1, t, l, s => by
    obtain ⟨h1, h2, h3⟩ := popN_is p (t ++ Str.ofString ")") (l ++ Str.ofString ")") s.dropLast
    rw [popN, h1, h2, h3, L_app, L_app, tx_close]
    have e : L (tx [41]) = [41] := tx_list _
    rw [e, rep_snoc, List.append_assoc, List.append_assoc]
    refine ⟨rfl, rfl, ?_⟩
    rw [List.dropLast_eq_take, List.length_take, List.take_take]
    congr 1
    grind
noncomputable def stepBlks (c len : Nat) : List Blk := [(false, List.replicate (popsOf c len) [41] ++ [[40]]), blkAt (c / 4200 % 7), (false, nameU (nameOf (c / 60 % 5) (c / 300 % 14)))]
structure NestIn (k : Nat) (x : Nst) (sk : Sk) (bs : List Blk) : Prop where
  mem : sk ∈ skAll k
  o : x.o = sk.o
  s : x.s = sk.s
  sl : x.s.length ≤ k
  ml : x.m.length = k
  mn : ∀ y ∈ x.m, y ∈ nameL
  ok : ∀ b ∈ bs, BlkOk b
  prep : prepL (L x.t) = (allU bs).flatten
  left : L x.l = (plainU bs).flatten
  par : (plainU bs).filterMap parOf = sk.ps
  nm : nf (plainU bs) [] = some (x.m.map L)
  tl : (L x.t).length ≤ 20 * k
  al : (allU bs).flatten.length ≤ 20 * k
theorem allU_app (a b : List Blk) : allU (a ++ b) = allU a ++ allU b := List.flatMap_append
theorem plainU_app (a b : List Blk) : plainU (a ++ b) = plainU a ++ plainU b := List.flatMap_append
theorem pops_in (c len : Nat) : len - 3 ≤ popsOf c len ∧ popsOf c len ≤ len := by
  unfold popsOf
  have := Nat.mod_lt (c % 60) (show len + 1 > 0 by exact Nat.succ_pos _)
  omega
theorem nest_step {k : Nat} (hk : k < 8) (c : Nat) {x : Nst} {sk : Sk} {bs : List Blk} (h : NestIn k x sk bs) :
    NestIn (k + 1) (nestStep c k x) (skStep (popsOf c x.s.length) k sk) (bs ++ stepBlks c x.s.length) := by
  obtain ⟨p1, p2⟩ := pops_in c x.s.length
  obtain ⟨q1, q2, q3⟩ := popN_is (popsOf c x.s.length) x.t x.l x.s
  have h7 : c / 4200 % 7 < 7 := Nat.mod_lt _ (by decide)
  have h28 : c / 29400 % 28 < 28 := Nat.mod_lt _ (by decide)
  have h5 : c / 60 % 5 < 5 := Nat.mod_lt _ (by decide)
  have h14 : c / 300 % 14 < 14 := Nat.mod_lt _ (by decide)
  have hname := name_in _ h5 _ h14
  have hns := name_signs _ hname
  obtain ⟨l1, l2, l3, l4⟩ := left_piece _ h7
  have eo : L (Str.ofString "(") = [40] := by rw [tx_open]; exact tx_list _
  have hall : allU (stepBlks c x.s.length) = (List.replicate (popsOf c x.s.length) [41] ++ [[40]]) ++ (blkUnits (blkAt (c / 4200 % 7)) ++ nameU (nameOf (c / 60 % 5) (c / 300 % 14))) := by
    unfold stepBlks allU
    simp [blkUnits]
  have hpl : plainU (stepBlks c x.s.length) = (List.replicate (popsOf c x.s.length) [41] ++ [[40]]) ++ (plainU [blkAt (c / 4200 % 7)] ++ nameU (nameOf (c / 60 % 5) (c / 300 % 14))) := by
    unfold stepBlks plainU
    simp
  have ht : L (nestStep c k x).t = (L x.t ++ List.replicate (popsOf c x.s.length) 41) ++ [40] ++ (L (Txt.slice (pieceL.getD (c / 4200 % 7) Str.empty) none (some 1)) ++ L (hiddenL.getD (c / 29400 % 28) Str.empty) ++ L (Txt.slice (pieceL.getD (c / 4200 % 7) Str.empty) (some 1) none)) ++ L (signOf (c / 60 % 5) (c / 300 % 14)) := by
    unfold nestStep
    dsimp only
    rw [L_app, L_app, L_app, L_app, L_app, q1, eo]
    simp [List.append_assoc]
  have hsk : (nestStep c k x).s = (skStep (popsOf c x.s.length) k sk).s := by
    unfold nestStep skStep
    dsimp only
    rw [q3, h.s]
  refine ⟨?_, ?_, hsk, ?_, ?_, ?_, ?_, ?_, ?_, ?_, ?_, ?_, ?_⟩
  · rw [h.s] at p1 p2 ⊢
    exact skStep_mem h.mem p2 p1
  · unfold nestStep skStep
    dsimp only
    rw [q3, h.o, h.s]
    all_goals (generalize (List.take (sk.s.length - popsOf c sk.s.length) sk.s).getLast? = g; cases g <;> rfl)
  · have := h.sl
    unfold nestStep
    dsimp only
    rw [q3, List.length_append, List.length_take]
    simp; grind
  · unfold nestStep
    dsimp only
    rw [List.length_append, h.ml]; rfl
  · intro y hy
    unfold nestStep at hy
    dsimp only at hy
    rcases List.mem_append.mp hy with hy | hy
    · exact h.mn y hy
    · rw [List.mem_singleton] at hy; subst hy; exact hname
  · intro b hb
    rcases List.mem_append.mp hb with hb | hb
    · exact h.ok b hb
    · unfold stepBlks at hb
      simp only [List.mem_cons, List.not_mem_nil, or_false] at hb
      rcases hb with rfl | rfl | rfl
      · intro u hu
        rcases List.mem_append.mp hu with hu | hu
        · rw [(List.mem_replicate.mp hu).2]
          exact ⟨.inl ⟨41, rfl, by decide⟩, by decide⟩
        · rw [List.mem_singleton] at hu; subst hu
          exact ⟨.inl ⟨40, rfl, by decide⟩, by decide⟩
      · exact blk_ok _ h7
      · exact name_ok hname
  · rw [ht, prepL_app, prepL_app, prepL_app, prepL_app, h.prep, prep_rep, pre_brackets.1, pre_piece _ h7 _ h28, pre_sign _ h5 _ h14, allU_app, List.flatten_append, hall, List.flatten_append, List.flatten_append, List.flatten_append, flat_close, nameU_flat]
    simp [List.append_assoc]
  · have : L (nestStep c k x).l = (L x.l ++ List.replicate (popsOf c x.s.length) 41) ++ [40] ++ L (pleftL.getD (c / 4200 % 7) Str.empty) ++ L (nameOf (c / 60 % 5) (c / 300 % 14)) := by
      unfold nestStep
      dsimp only
      rw [L_app, L_app, L_app, q2, eo]
    rw [this, h.left, l1, plainU_app, List.flatten_append, hpl, List.flatten_append, List.flatten_append, List.flatten_append, flat_close, nameU_flat]
    simp [List.append_assoc]
  · rw [plainU_app, List.filterMap_append, h.par, hpl, List.filterMap_append, List.filterMap_append, List.filterMap_append, par_close, l3, name_par hname]
    unfold skStep
    simp [parOf]
  · rw [plainU_app, nf_app _ _ _ _ h.nm, hpl, List.append_assoc, nf_app _ _ _ _ (nf_close _ _)]
    show nf ([[40]] ++ _) _ = _
    have e1 : nf ([[40]] ++ (plainU [blkAt (c / 4200 % 7)] ++ nameU (nameOf (c / 60 % 5) (c / 300 % 14)))) (x.m.map L) = nf (plainU [blkAt (c / 4200 % 7)] ++ nameU (nameOf (c / 60 % 5) (c / 300 % 14))) (x.m.map L ++ [[]]) := rfl
    rw [e1, nf_app _ _ _ _ (nf_two _ l4 _)]
    unfold nameU
    rw [nf_signs _ (fun d hd => ⟨(hns.1 d hd).2.2.1, (hns.1 d hd).2.2.2⟩)]
    unfold nestStep
    dsimp only
    rw [List.map_append]
    rfl
  · rw [ht]
    have a1 := len_piece _ h7 _ h28
    have a2 := sign_len (c / 60 % 5) (c / 300 % 14)
    have a3 := L_len (signOf (c / 60 % 5) (c / 300 % 14))
    have a4 := h.tl
    have a5 := h.sl
    simp only [List.length_append, List.length_replicate, List.length_cons, List.length_nil] at a1 ⊢
    grind
  · rw [allU_app, hall, List.flatten_append, List.flatten_append, List.flatten_append, List.flatten_append, flat_close, nameU_flat]
    have a4 := h.al
    have a5 := h.sl
    have a6 := hns.2
    simp only [List.length_append, List.length_replicate]
    have e : ([[40]] : List (List Nat)).flatten.length = 1 := rfl
    rw [e]
    grind
theorem nest_from (cells : List Nat) : ∀ (m k : Nat) (x : Nst) (sk : Sk) (bs : List Blk), NestIn k x sk bs → k + m ≤ 8 → ∃ sk' bs', NestIn (k + m) (nestFrom cells (List.range' k m) x) sk' bs'
  | 0, k, x, sk, bs, h, _ => ⟨sk, bs, h⟩
  | m + 1, k, x, sk, bs, h, hm => by
    rw [List.range'_succ, nestFrom]
    obtain ⟨sk', bs', h2⟩ := nest_from cells m (k + 1) _ _ _ (nest_step (by grind) (cells.getD k 0) h) (by lia)
    refine ⟨sk', bs', ?_⟩
    rw [show k + (m + 1) = k + 1 + m by simp +arith only]
    exact h2
theorem nest_is (cells : List Nat) {many : Nat} (hm : many ≤ 8) : ∃ sk bs, NestIn many (nestOf cells many) sk bs := by
  have h0 : NestIn 0 ⟨Str.ofString "", Str.ofString "", [], [], []⟩ ⟨[], [], []⟩ [] :=
    ⟨List.mem_singleton.mpr rfl, rfl, rfl, Nat.le_refl _, rfl, (fun _ h => nomatch h), (fun _ h => nomatch h), rfl, rfl, rfl, rfl, Nat.le_refl _, Nat.le_refl _⟩
  have := nest_from cells many 0 _ _ _ h0 (by lia)
  rw [Nat.zero_add] at this
  unfold nestOf
  rw [List.range_eq_range']
  exact this
end Mine
end
section -- PJ
open PySem PySem.W PyProof.Rows PySem.Calls
namespace Mine
theorem balB_up {d : Int} (hd : 0 ≤ d) : ∀ (ps : List Bool) (o o' : Int), balB ps o = some o' → balB ps (o + d) = some (o' + d)
  | [], o, o', h => by rw [balB] at h ⊢; rw [Option.some.inj h]
  | true :: r, o, o', h => by
    rw [balB] at h ⊢
    have := balB_up hd r (o + 1) o' h
    rw [show o + d + 1 = o + 1 + d by simp +arith only]; exact this
  | false :: r, o, o', h => by
    rw [balB] at h ⊢
    split at h
    · cases h
    · have := balB_up hd r (o - 1) o' h
      rw [if_neg (by grind), show o + d - 1 = o - 1 + d by simp +arith only]; exact this
theorem balB_app : ∀ (a b : List Bool) (o o' : Int), balB a o = some o' → balB (a ++ b) o = balB b o'
  | [], b, o, o', h => by rw [balB] at h; rw [List.nil_append, Option.some.inj h]
  | true :: r, b, o, o', h => by
    rw [balB] at h
    rw [List.cons_append, balB]; exact balB_app r b _ _ h
  | false :: r, b, o, o', h => by
    rw [balB] at h
    rw [List.cons_append, balB]
    split at h
    · cases h
    · rename_i h2; rw [if_neg h2]; exact balB_app r b _ _ h
theorem maskI_len : ∀ (ps : List Bool) (a : Nat), (maskI ps a).length = (ps.filter id).length
  | [], _ => rfl
  | true :: r, a => by rw [maskI_cons, List.length_cons, maskI_len r]; rfl
  | false :: r, a => by rw [maskI, maskI_len r]; rfl
theorem mul_close : ∀ n ≤ 5, L (Txt.mul (Str.ofString ")") (n : Nat)) = List.replicate n 41 := by decide +kernel
theorem sum_map_len {α : Type} (f : α → List Nat) : ∀ l : List α, (l.map fun x => (f x).length).sum = (l.flatMap f).length
  | [] => rfl
  | a :: l => by rw [List.map_cons, List.sum_cons, sum_map_len f l, List.flatMap_cons, List.length_append]
theorem law_ok {cells : List Nat} {many : Nat} (hn : many = 4 ∨ many = 5) (hcl : cells.length = 6) (hc : ∀ k < 6, cells.getD k 0 < 1000000) :
    ∃ typed left meant outer inner told rest counts number, LawOk cells many typed left meant outer inner told rest counts number := by
  obtain ⟨sk, bs, h⟩ := nest_is cells (many := many) (by (rcases ‹_ ∨ _› with h | h <;> rw [h] <;> decide))
  have hx := sk_ok hn h.mem
  have hm4 : 4 ≤ many := by (rcases ‹_ ∨ _› with h | h <;> rw [h] <;> decide)
  have hm5 : many ≤ 5 := by (rcases ‹_ ∨ _› with h | h <;> rw [h] <;> decide)
  generalize hX : nestOf cells many = x at h
  let bf : List Blk := bs ++ [(false, List.replicate x.s.length [41])]
  have hsl : x.s.length ≤ 5 := by rw [h.s]; exact hx.sl
  have hbf : ∀ b ∈ bf, BlkOk b := by
    intro b hb
    rcases List.mem_append.mp hb with hb | hb
    · exact h.ok b hb
    · rw [List.mem_singleton] at hb; subst hb
      intro u hu
      rw [(List.mem_replicate.mp hu).2]
      exact ⟨.inl ⟨41, rfl, by decide⟩, by decide⟩
  have hpu : plainU bf = plainU bs ++ List.replicate x.s.length [41] := by
    show plainU (bs ++ _) = _
    rw [plainU_app]; congr 1
    unfold plainU; simp
  have hau : allU bf = allU bs ++ List.replicate x.s.length [41] := by
    show allU (bs ++ _) = _
    rw [allU_app]; congr 1
    unfold allU; simp [blkUnits]
  have hpar : (plainU bf).filterMap parOf = sk.all := by
    rw [hpu, List.filterMap_append, h.par, par_close, h.s]; rfl
  have hU : ∀ u ∈ plainU bf, Unit1 u ∧ u ≠ [34] := by
    intro u hu
    obtain ⟨b, hb, hu⟩ := List.mem_flatMap.mp hu
    obtain ⟨q, us⟩ := b
    cases q with
    | true => cases hu
    | false => exact hbf _ hb u hu
  have htyped : L (typedOf cells many) = L x.t ++ List.replicate x.s.length 41 := by
    unfold typedOf
    rw [hX]
    dsimp only
    rw [L_app, mul_close _ hsl]
  have hleft : leftOf cells many = tx (plainU bf).flatten := by
    have e : L (leftOf cells many) = (plainU bf).flatten := by
      unfold leftOf
      rw [hX]
      dsimp only
      rw [L_app, mul_close _ hsl, h.left, hpu, List.flatten_append, flat_close]
    rw [← e]; exact (tx_of _).symm
  have hprep : prepOf (typedOf cells many) = tx (allU bf).flatten := by
    rw [prep_is, htyped, prepL_app, h.prep, prep_rep, hau, List.flatten_append, flat_close]
  have htl : (typedOf cells many).length ≤ 110 := by
    rw [← L_len, htyped, List.length_append, List.length_replicate]
    have := h.tl; grind
  have hal : (allU bf).flatten.length ≤ 110 := by
    rw [hau, List.flatten_append, flat_close, List.length_append, List.length_replicate]
    have := h.al; grind
  have hst : stripQ (prepOf (typedOf cells many)) = leftOf cells many := by rw [hprep, hleft]; exact strip_tx hbf
  have hpl : (plainU bf).flatten.length ≤ 110 := by
    refine Nat.le_trans ?_ hal
    have : ∀ l : List Blk, (plainU l).flatten.length ≤ (allU l).flatten.length := by
      intro l
      induction l with
      | nil => exact Nat.le_refl _
      | cons b l ih =>
        have e1 : plainU (b :: l) = (if b.1 then [] else b.2) ++ plainU l := rfl
        have e2 : allU (b :: l) = blkUnits b ++ allU l := rfl
        rw [e1, e2, List.flatten_append, List.flatten_append, List.length_append, List.length_append]
        unfold blkUnits
        split
        · exact Nat.add_le_add (Nat.zero_le _) ih
        · lia
    exact this bf
  have hprl : (prepOf (typedOf cells many)).length ≤ 110 := by rw [hprep, tx_len]; exact hal
  have hll : (leftOf cells many).length ≤ 110 := by rw [hleft, tx_len]; exact hpl
  have hnf : nf (plainU bf) [] = some (x.m.map L) := by
    rw [hpu, nf_app _ _ _ _ h.nm, nf_close]
  have hread := read_all hU hnf
  rw [hpar] at hread
  have hmm : (x.m.map L).map tx = x.m := by
    rw [List.map_map]
    conv => rhs; rw [← List.map_id x.m]
    exact List.map_congr_left fun y _ => tx_of y
  rw [hmm, ← hleft] at hread
  have hFn : sk.fo.n = many := hx.len
  have hin : ∀ k < sk.fo.n, (maskI sk.all 0).getD k 0 = ((sk.fo.ma k : Nat) : Int) := by
    intro k hk
    have hk2 : k < (maskI sk.all 0).length := by rw [hx.ml]; simp_all only
    show _ = ((((maskI sk.all 0).map Int.toNat).getD k 0 : Nat) : Int)
    rw [List.getD_eq_getElem?_getD, List.getD_eq_getElem?_getD, List.getElem?_map, List.getElem?_eq_getElem hk2]
    have := hx.m0 _ (List.getElem_mem hk2)
    show _ = ((Int.toNat _ : Nat) : Int)
    rw [Int.toNat_of_nonneg this]; rfl
  have hml : x.m.length = many := h.ml
  have hsz : ∀ k < many, (sizesOf sk.o).getD k 0 < 11 := hx.he
  have hcount := counts_law (F := sk.fo) (key := keyOf x.m) (names := x.m) (inner := maskI sk.all 0) (c := cells.getD 5 0) (by rw [hFn]; exact hn) hx.ok (by rw [hml, hFn]) hin
    (fun a ha b hb => key_gt h.mn (by lia) (by simp_all only) (by simp_all only)) (fun a ha b hb e => key_inj (by omega) (by omega) (by omega) e) (fun a _ => Nat.succ_pos _)
  rw [hFn] at hcount
  have htold : ∀ k < many, (toldOf (sizesOf sk.o) cells many).getD k 0 % 11 = sk.fo.he k := by
    intro k hk
    have hm := told_mod (outer := sk.o) (cells := cells) hsz
    have e : ((toldOf (sizesOf sk.o) cells many).map fun c => c % 11).getD k 0 = ((List.range many).map fun k => (sizesOf sk.o).getD k 0).getD k 0 := by rw [hm]
    have hl : (toldOf (sizesOf sk.o) cells many).length = many := by unfold toldOf; simp
    rw [List.getD_eq_getElem?_getD, List.getD_eq_getElem?_getD, List.getElem?_map, List.getElem?_map, List.getElem?_range hk, List.getElem?_eq_getElem (by simp only [*])] at e
    rw [List.getD_eq_getElem?_getD, List.getElem?_eq_getElem (by simp only [*])]
    exact e
  have hleast := least_is hn hx h.mn hml htold
  have hbal := hx.bal
  refine ⟨typedOf cells many, leftOf cells many, x.m, x.o, maskI sk.all 0, toldOf (sizesOf sk.o) cells many, (List.replicate (cells.getD 5 0 / 180 % 2) 64).map fun c : Nat => (c : Int), countsOf x.m (maskI sk.all 0) (sumsOf (cells.getD 5 0) many), ((polyS 64 (fun k => (countsOf x.m (maskI sk.all 0) (sumsOf (cells.getD 5 0) many)).getD k 0) (many * (many - 1) / 2 + 1) : Nat) : Int), ?_⟩
  have h11 : many * (many - 1) / 2 + 1 ≤ 11 := by rcases hn with rfl | rfl <;> decide
  refine { ht := rfl, hl := rfl, hm := by rw [hX], ho := by rw [hX], lt := by omega, jp := ?_, lp := by omega, sp := stripOk_of (by omega), st := hst, ll := by omega, lu := ?_, ls := ?_, sc := ?_, rd := hread, nm := hml, no := by rw [h.o]; exact hx.len, ni := hx.ml, oo := ?_, su := ?_, sm := ?_, pr := ?_, pv := ?_, rm := ?_, re := ?_, tl := by unfold toldOf; simp, td := told_div hsz (by lia), co := rfl, ch := ?_, cl := by rw [hcount.len]; omega, vr := ?_, nb := ?_, fin := ?_ }
  · refine joinOk_of ?_
    have e : (Str.ofString "").length = 0 := rfl
    have e2 : (((keptOf (typedOf cells many)).map b3Map).map (·.length)).sum = (prepOf (typedOf cells many)).length := by
      rw [prep_is, tx_len]
      unfold prepL keptOf
      rw [List.map_map, ← sum_map_len]
      congr 1
    rw [e, e2]; omega
  · unfold unitsOfS escOf
    refine Nat.le_trans (esc_len _ 0 false) ?_
    show (L (leftOf cells many ++ Str.ofString "\\")).length + 0 ≤ 400
    have e3 : L (Str.ofString "\\") = [92] := by rw [tx_back]; exact tx_list _
    rw [L_app, e3, List.length_append, L_len]
    simp; omega
  · rw [hleft, starts_shown fun u hu => (hU u hu).1, startsU_len, hpar, ← maskI_len _ 0, hx.ml]; omega
  · intro p e
    refine stripOk_of (Nat.le_trans (Txt.slice_le _ _ _) ?_)
    omega
  · intro k hk
    have := hx.pa k hk
    rw [h.o]
    show sk.fo.pa k < _
    omega
  · intro f _
    have := flags_law (f := f) (c := cells.getD 5 0) hm4 hm5
    exact ⟨this.1, this.2.1, this.2.2.1⟩
  · rw [List.contains_eq_mem, decide_eq_false_iff_not]
    intro hmem
    unfold sumsOf at hmem
    obtain ⟨f, _, hf⟩ := List.mem_map.mp hmem
    rw [sum_is hm4 hm5, intsum'] at hf
    omega
  · have e6 : (Str.ofString "\"((((((\"").length = 8 := rfl
    have e1 : (Str.ofString "(").length = 1 := rfl
    have e2 : (Str.ofString ")").length = 1 := rfl
    have e3 : (Str.ofString "\")").length = 2 := rfl
    have ha : ∀ a b : Str, (a ++ b).length = a.length + b.length := by
      intro a b; rw [← L_len, L_app, List.length_append, L_len, L_len]
    intro t ht
    unfold rowsL at ht
    refine stripOk_of ?_
    simp only [List.mem_cons, List.not_mem_nil, or_false] at ht
    rcases ht with rfl | rfl | rfl | rfl
    · rw [ha]; omega
    · rw [ha]; omega
    · rw [ha, ha]; omega
    · rw [ha]; omega
  · have c0 : checkP (Str.ofString "\"((((((\"" ++ prepOf (typedOf cells many)) = true := by
      have e : Str.ofString "\"((((((\"" ++ prepOf (typedOf cells many) = tx (allU ((true, List.replicate 6 [40]) :: bf)).flatten := by
        rw [hprep, show Str.ofString "\"((((((\"" = tx [34, 40, 40, 40, 40, 40, 40, 34] by decide +kernel, tx_app]
        rfl
      rw [e, check_blocks]
      · show (balB ((plainU bf).filterMap parOf) 0 == some 0) = true
        rw [hpar, hbal]; rfl
      · intro b hb
        rcases List.mem_cons.mp hb with rfl | hb
        · intro u hu
          rw [(List.mem_replicate.mp hu).2]
          exact ⟨.inl ⟨40, rfl, by decide⟩, by decide⟩
        · exact hbf b hb
    have h40 : Unit1 [40] ∧ ([40] : List Nat) ≠ [34] := ⟨.inl ⟨40, rfl, by decide⟩, by decide⟩
    have h41 : Unit1 [41] ∧ ([41] : List Nat) ≠ [34] := ⟨.inl ⟨41, rfl, by decide⟩, by decide⟩
    have c1 : checkP (Str.ofString "(" ++ leftOf cells many) = false := by
      have e : Str.ofString "(" ++ leftOf cells many = tx ([40] :: plainU bf).flatten := by rw [hleft, tx_open, tx_app]; rfl
      rw [e, check_plain fun u hu => by
        rcases List.mem_cons.mp hu with rfl | hu
        · exact h40
        · exact hU u hu]
      have e2 : ([40] :: plainU bf).filterMap parOf = true :: sk.all := by rw [← hpar]; rfl
      have := balB_up (d := 1) (by decide) _ _ _ hbal
      rw [e2, balB, this]; rfl
    have c2 : checkP (Str.ofString ")" ++ leftOf cells many ++ Str.ofString "(") = false := by
      have e : Str.ofString ")" ++ leftOf cells many ++ Str.ofString "(" = tx ([41] :: (plainU bf ++ [[40]])).flatten := by rw [hleft, tx_open, tx_close, tx_app, tx_app]; congr 1; simp
      rw [e, check_plain fun u hu => by
        rcases List.mem_cons.mp hu with rfl | hu
        · exact h41
        · rcases List.mem_append.mp hu with hu | hu
          · exact hU u hu
          · rw [List.mem_singleton] at hu; subst hu; exact h40]
      have e2 : ([41] :: (plainU bf ++ [[40]])).filterMap parOf = false :: (sk.all ++ [true]) := by rw [← hpar, List.filterMap_cons, List.filterMap_append]; rfl
      rw [e2, balB]; rfl
    have c3 : checkP (leftOf cells many ++ Str.ofString "\")") = false := by
      have e : leftOf cells many ++ Str.ofString "\")" = tx (plainU bf ++ [[34], [41]]).flatten := by rw [hleft, show Str.ofString "\")" = tx [34, 41] by decide +kernel, tx_app]; congr 1; simp
      rw [e, check_open hU, hpar, balB_app _ _ _ _ hbal]; rfl
    unfold rowsL
    simp only [List.map_cons, List.map_nil]
    unfold prepOne
    rw [c0, c1, c2, c3]
    rfl
  · rw [h.o]
    exact tape_read hx.len hsz fun k hk => hc k (by omega)
  · have : cells.getD 5 0 / 180 % 2 = 0 ∨ cells.getD 5 0 / 180 % 2 = 1 := by omega
    rcases this with e | e
    · left; rw [e]; rfl
    · right; rw [e]; rfl
  · rw [hml]; exact hcount.ch
  · have := pack_read (c := cells.getD 5 0) (cs := countsOf x.m (maskI sk.all 0) (sumsOf (cells.getD 5 0) many)) (by rw [hcount.len]; omega) (by rw [hcount.len]; omega) (fun k _ => hcount.few k)
    rw [hcount.len] at this
    exact this
  · rw [Int.natAbs_natCast]
    refine Nat.lt_of_lt_of_le (polyS_lt (by decide) _ fun k _ => hcount.few k) ?_
    refine Nat.le_trans (Nat.pow_le_pow_right (by decide) h11) (by decide)
  · rw [told_mod hsz, h.o, hleast, ← hcount.fin]
    congr 1
    exact prodI_pg _ _
end Mine
end
section -- PK
open PySem PySem.W PyProof.Rows PySem.Calls
namespace Mine
theorem cells_len (script : List Int) : (cellsOf script).length = 6 := by unfold cellsOf; simp
theorem cells_lt (script : List Int) : ∀ k < 6, (cellsOf script).getD k 0 < 1000000 := by
  intro k hk
  unfold cellsOf
  rw [List.getD_eq_getElem?_getD, List.getElem?_map, List.getElem?_range hk]
  show cellOf script k < 1000000
  unfold cellOf
  have := Int.fmod_lt_of_pos (ownL.getD k 0 + (if k < 5 then (pick script (some (k : Int)) (some 60) (some 6)).sum else (pick script none (some 60) none).sum)) (show (0 : Int) < 1000000 by decide)
  omega
theorem law_runs {w : World} {k : Nat} {script : List Int} (hs : script.length ≤ 63) : ∀ (A : Around) (E : Value → Shared → Prop) (Z : ZM) (s : Shared) (vs : List Value), A.frames = some [] → Rm (k + 20) A → A.handled = none → Top w Z → HOk Z A.handled → (∀ a ob, Z a = some ob → s.heap.get? a = some ob) → Rds Z vs [.lst (script.map D.int)] →
      wpAny (Md w) A (call (.ref 165) vs) (fun v s' => ∃ Z' d, St w A.handled (here Z s) Z' [] s' ∧ Rd Z' v d ∧ d = .bool true) E s := by
  have hm : manyOf script = 4 ∨ manyOf script = 5 := by unfold manyOf; split <;> simp
  obtain ⟨typed, left, meant, outer, inner, told, rest, counts, number, ok⟩ := law_ok hm (cells_len script) (cells_lt script)
  refine c165 hs ok fun A L hA hH hfr => ?_
  exact law2 (by (rcases ‹_ ∨ _› with h | h <;> rw [h] <;> decide)) (by (rcases ‹_ ∨ _› with h | h <;> rw [h] <;> decide)) (cells_len script) (cells_lt script 5 (by decide)) ok hA hH fun it => law3 (by omega) (by omega) (cells_len script) ok hA hH hfr
theorem ns_eq {h : Heap} {a : Addr} {m₁ m₂ : Str → Option Value} (x : h.Ns a m₁) (y : h.Ns a m₂) (n : Str) : m₁ n = m₂ n := by
  obtain ⟨o, es, ep, h1, h2, _, h3⟩ := x
  obtain ⟨o', es', ep', g1, g2, _, g3⟩ := y
  rw [h1] at g1
  cases g1
  rw [h2] at g2
  cases g2
  rw [← h3, ← g3]
theorem ns_keep {h h' : Heap} {a : Addr} {m : Str → Option Value} (x : h.Ns a m) (k : ∀ b o, h.get? b = some o → h'.get? b = some o) : h'.Ns a m := by
  obtain ⟨o, es, ep, h1, r⟩ := x
  exact ⟨o, es, ep, k _ _ h1, r⟩
theorem ints_of : ∀ {xs : List WData}, WShape.hasItems [] xs .int = true → ∃ l : List Int, xs = l.map WData.int
  | [], _ => ⟨[], rfl⟩
  | d :: xs, h => by
    rw [WShape.hasItems, Bool.and_eq_true] at h
    obtain ⟨l, rfl⟩ := ints_of h.2
    cases d with
    | int i => exact ⟨i :: l, rfl⟩
    | _ => exact absurd (show false = true from h.1) Bool.false_ne_true
theorem rds_ints {Z : ZM} {P : Params} {h : Heap} : ∀ {vs : List Value} {l : List Int}, WellAll P h vs (l.map WData.int) → Rds Z vs (l.map D.int)
  | _, [], x => by cases x; exact .nil
  | _, i :: l, x => by
    cases x with
    | cons a r =>
      cases a
      exact .cons (.int _ _) (rds_ints r)
theorem law_at (P : Params) : (H1 P).nsMap mainGlobals (Str.ofString "law") = some (.ref 165) := by kernel_rfl
end Mine
end
section -- Mz
open PySem PySem.W PyProof.Rows
namespace Mine
theorem args_of {args : List WData} (h : PySem.Challenge.rw_ta0055_01.row.claim.pre args = true) : ∃ l : List Int, args = [.list (l.map WData.int)] ∧ l.length ≤ 63 := by
  obtain ⟨h1, h2⟩ : WShape.hasAll [] args [.list .int] = true ∧ (PySem.Challenge.rw_ta0055_01.pre).holds [] { args := args } = true := Bool.and_eq_true_iff.mp h
  cases args with
  | nil => cases h1
  | cons d r =>
    obtain ⟨a, b⟩ := Bool.and_eq_true_iff.mp h1
    cases r with
    | cons e r => cases b
    | nil =>
      obtain ⟨xs, rfl, hi⟩ := hasW_list a
      obtain ⟨l, rfl⟩ := ints_of hi
      refine ⟨l, rfl, ?_⟩
      unfold WTm.holds at h2
      by_cases hl : l.length ≤ 63
      · exact hl
      · exfalso
        have e1 : (63 : Int) < ((l.length : Nat) : Int) := by lia
        simp [PySem.Challenge.rw_ta0055_01, OpenLaw.pre, WTm.value] at h2
        have e2 : less? (WData.int 63) (WData.int (l.length : Nat)) = some true := by
          show some (decide ((63 : Int) < ((l.length : Nat) : Int))) = _
          rw [decide_eq_true e1]
        rw [e2] at h2
        simp at h2
abbrev bd0 : List Stmt := PySem.Challenge.rw_ta0055_01.row.prog.main.body
theorem out_vars : readsOut PySem.Challenge.rw_ta0055_01.row.prog bd0 (Str.ofString "vars") = false := by decide +kernel
theorem out_dir : readsOut PySem.Challenge.rw_ta0055_01.row.prog bd0 (Str.ofString "dir") = false := by decide +kernel
theorem out_locals : readsOut PySem.Challenge.rw_ta0055_01.row.prog bd0 (Str.ofString "locals") = false := by decide +kernel
theorem bare0 : ([Str.ofString "vars", Str.ofString "dir", Str.ofString "locals"] : List Str).filter (readsOut PySem.Challenge.rw_ta0055_01.row.prog bd0) = [] := by
  rw [List.filter_cons, out_vars, List.filter_cons, out_dir, List.filter_cons, out_locals]; rfl
theorem law_looks : looksOpen PySem.Challenge.rw_ta0055_01.row.prog = true := by
  unfold looksOpen
  refine look_both (look_both (look_both (look_both (look_both ?_ ?_) ?_) ?_) ?_) ?_
  all_goals first | (with_reducible show noRoadLSs _ _ = true; with_reducible refine (congrArg (fun b => noRoadLSs { strict := _, foot := none, bare := b } bd0) bare0).trans ?_; decide +kernel) | decide +kernel
theorem law_said : PySem.Challenge.rw_ta0055_01.wellSaid = true := by
  unfold OpenLaw.wellSaid OpenRow.wellSaid OpenRow.partSaid
  repeat' with_reducible refine look_both ?_ ?_
  all_goals first | with_reducible exact law_looks | decide +kernel
theorem law_tables : PySem.Challenge.rw_ta0055_01.row.prog.tablesWhole = true := by decide +kernel
theorem law_open : (chainsOk qv && opensWell PySem.Challenge.rw_ta0055_01.row.prog && (frees PySem.Challenge.rw_ta0055_01.row.toRowW && PySem.Challenge.rw_ta0055_01.row.within.isEmpty)) = true := by
  unfold opensWell
  repeat' with_reducible refine look_both ?_ ?_
  all_goals decide +kernel
end Mine
theorem PySem.Challenge.cw_ta0055_01_holds : PySem.Challenge.rw_ta0055_01.Holds := by
  w_on
  refine holds_law Mine.law_said fun said => ?_
  refine holds_openX (q := Mine.qv) (loose := Mine.looseN) (Xt := Mine.XtA) (XP := XL Mine.qv []) (Yf := fun s => (s.heap, s.toks)) (Ya := fun w => (Mine.H1 w.params, 2364)) (N := Mine.stepsAll) Mine.leftAll (fun s e => xl_of s (Bool.and_eq_true_iff.mp e).1) XL.keeps (by rfl) (by rfl) (by rfl) (fun s e => recFacts_of (Bool.and_eq_true_iff.mp e).2) (by rfl) (by assumption) Mine.law_open ⟨rfl, rfl, rfl, rfl, rfl, Mine.law_tables⟩ ?hw ?hc
  case hw => w_witness2
  case hc =>
    intro w s₀ s₁ mg mb G Y a o pm cd doc dV kV ho hd hcd hD hmg hg args vals as L hpre hlay hrd hwl hlo
    clear hd hcd hD
    have hY : s₀.heap = Mine.H1 w.params := congrArg Prod.fst Y
    have hkeep : ∀ b o, (Mine.H1 w.params).get? b = some o → s₁.heap.get? b = some o := by
      rw [← hY]; exact L.keeps
    have ha : a = 165 := by
      have h1 := Mine.ns_eq G.T.g (Mine.ns_keep (Mine.nsG w.params) hkeep) (Str.ofString "law")
      rw [Mine.law_at] at h1
      have h2 : mg (Str.ofString "law") = some (.ref a) := hmg
      rw [h2] at h1
      cases h1; rfl
    subst ha
    obtain ⟨l, rfl, hl⟩ := Mine.args_of hpre
    cases hwl with
    | cons hw1 hw2 =>
      cases hw2
      cases hw1 with
      | list hget hall =>
        have hr := Mine.law_runs (k := 0) (w := w) (script := l) hl callerA (fun e s' => GoodWG PySem.Challenge.rw_ta0055_01.row.claim (classAt s₀.heap) (ExcName.means s₀.heap) [.list (l.map WData.int)] s₁ (.error e) s') (fun b => s₁.heap.get? b) s₁ _ rfl ⟨by decide, by decide⟩ rfl hkeep trivial (fun _ _ h => h) (.cons (.lst ⟨_, hget⟩ (Mine.rds_ints hall)) .nil)
        refine wpAny_mono hr (fun v s' q => ?_) fun _ _ e => e
        obtain ⟨Z', d, k, rv, rfl⟩ := q
        cases rv
        have hk : ∀ b o, s₁.heap.get? b = some o → s'.heap.get? b = some o := fun b o e => k.fz b o (k.le0 (fun _ _ h => h) b o e)
        refine ⟨.inl ⟨_, .bool true, [], rfl, fun _ => rfl, .bool true, ?_, fun _ => ⟨List.nodup_nil, fun _ h => nomatch h⟩⟩, .of_keep hk, k.os, k.ge.2 (AllBare.of_eq hg)⟩
        exact postW_of (X := true) (by simp [PySem.Challenge.rw_ta0055_01, OpenLaw.row, WShape.has, WShape.arms]) (w_eq_bool (k := true) (l := true) rfl rfl) rfl
