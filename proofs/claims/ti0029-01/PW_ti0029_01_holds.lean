import PyProof.Rows.All
import Wide.All
import OpenK.AllK
import Wide.FinOn
import PySem.Challenge.RW_ti0029_01
set_option Elab.async false
section
open PySem PySem.W PyProof.Rows
set_option maxRecDepth 100000
set_option maxHeartbeats 0
namespace Mine
noncomputable section
noncomputable abbrev prog : Program := PySem.Challenge.pw_ti0029_01
noncomputable def stAt (i : Nat) : Stmt := (prog.main.body.drop i).headD (.Pass ⟨0, 0, 0, 0⟩)
noncomputable def fA (i : Nat) : Arguments := match stAt i with | .FunctionDef _ a _ _ _ _ _ _ _ _ => a | _ => ⟨[], [], none, [], [], none, []⟩
noncomputable def fB (i : Nat) : List Stmt := match stAt i with | .FunctionDef _ _ b _ _ _ _ _ _ _ => b | _ => []
noncomputable def fS (i : Nat) : Scope := match stAt i with | .FunctionDef _ _ _ _ _ _ s _ _ _ => s | _ => ⟨.function, [], false, false, []⟩
noncomputable def stPos (i : Nat) : Pos := match stAt i with | .FunctionDef _ _ _ _ _ _ _ _ _ p => p | .Assign ts _ _ => (match ts with | [.Name _ p] => p | _ => ⟨0, 0, 0, 0⟩) | _ => ⟨0, 0, 0, 0⟩
noncomputable def benv : Env := { scope := prog.main.scope, locals := mainNs, globals := mainNs, cells := [], code := .ref 13, frame := some 14 }
noncomputable abbrev bE : List Stmt := behindTheImports prog
noncomputable abbrev cE : Code := .body bE benv
noncomputable abbrev ann : Option Value := some (.ref 6)
noncomputable abbrev p0 : Pos := ⟨0, 0, 0, 0⟩
noncomputable abbrev st8 (T : BT) (n toks : Nat) (os : OsState) : SharedT := ⟨T, n, {}, Array.mk [], boot_drawn, toks, os⟩

noncomputable def T_s0 (P : Params) : BT := (((((((((((BT.nil.ins 0 (boot_o_0 P)).ins 1 (boot_o_1 P)).ins 2 (boot_o_2 P)).ins 3 (boot_o_3 P)).ins 4 (boot_o_4 P)).ins 5 (boot_o_5 P)).ins 6 (boot_o_6 P)).ins 7 (boot_o_7 P)).ins 8 (boot_o_8 P)).ins 9 (boot_o_9 P)).ins 10 (boot_o_10 P))
/-- the module's loader, as the booted dict of the module holds it -/
noncomputable def ldr (P : Params) : Value := match (boot_o_3 P).data with | .dict es _ => (match (es.toList.drop 3).head? with | some e => e.val | none => .none) | _ => .none
noncomputable def o11_pre (P : Params) : Obj := ⟨(.type "tuple"), none, (.seq #[] 0), #[]⟩
noncomputable def o12_pre (P : Params) : Obj := ⟨.none, none, (.fields #[]), #[]⟩
noncomputable def o13_pre (P : Params) : Obj := ⟨(.type "code"), none, (.fields #[(.str (Str.ofString "<module>") 182), (.str (Str.ofString "<module>") 183), (.str (Str.ofString "/claim/cut.py") 184), (.int 1 0), (.int 0 0), (.int 0 0), (.int 0 0), (.int 0 0), (.ref 11), (.bool false), (.int 181 0), (.ref 12), .none, .none, .none, .none, (.int 185 0), (.int 1 0), (.str (Str.ofString "/claim/cut.py") 186)]), #[]⟩
noncomputable def o14_pre (P : Params) : Obj := ⟨(.type "frame"), none, .plain, #[(some (.ref 13)), (some (.ref 3)), (some (.ref 3)), none, (some (.str (Str.ofString "__main__") 164)), none, (some (.ref 0))]⟩
noncomputable def T_pre (P : Params) : BT := (((((T_s0 P).ins 11 (o11_pre P)).ins 12 (o12_pre P)).ins 13 (o13_pre P)).ins 14 (o14_pre P))
noncomputable def o3_p0 (P : Params) : Obj := ⟨(.type "dict"), none, (.dict #[⟨PyData.keyHash P (Str.ofString "__name__"), (.str (Str.ofString "__name__") 165), (.str (Str.ofString "cpy313.doctest") 187)⟩, ⟨PyData.keyHash P (Str.ofString "__doc__"), (.str (Str.ofString "__doc__") 166), .none⟩, ⟨PyData.keyHash P (Str.ofString "__package__"), (.str (Str.ofString "__package__") 167), .none⟩, ⟨PyData.keyHash P (Str.ofString "__loader__"), (.str (Str.ofString "__loader__") 168), (ldr P)⟩, ⟨PyData.keyHash P (Str.ofString "__spec__"), (.str (Str.ofString "__spec__") 169), .none⟩, ⟨PyData.keyHash P (Str.ofString "__annotations__"), (.str (Str.ofString "__annotations__") 170), (.ref 6)⟩, ⟨PyData.keyHash P (Str.ofString "__builtins__"), (.str (Str.ofString "__builtins__") 171), (.ref 4)⟩, ⟨PyData.keyHash P (Str.ofString "__file__"), (.str (Str.ofString "__file__") 173), (.str (Str.ofString "/claim/cut.py") 172)⟩, ⟨PyData.keyHash P (Str.ofString "__cached__"), (.str (Str.ofString "__cached__") 174), .none⟩] 9), #[]⟩
noncomputable def T_p0 (P : Params) : BT := ((T_pre P).set 3 (fun _ => o3_p0 P))
noncomputable def o3_p1 (P : Params) : Obj := ⟨(.type "dict"), none, (.dict #[⟨PyData.keyHash P (Str.ofString "__name__"), (.str (Str.ofString "__name__") 165), (.str (Str.ofString "cpy313.doctest") 187)⟩, ⟨PyData.keyHash P (Str.ofString "__doc__"), (.str (Str.ofString "__doc__") 166), .none⟩, ⟨PyData.keyHash P (Str.ofString "__package__"), (.str (Str.ofString "__package__") 167), .none⟩, ⟨PyData.keyHash P (Str.ofString "__loader__"), (.str (Str.ofString "__loader__") 168), (ldr P)⟩, ⟨PyData.keyHash P (Str.ofString "__spec__"), (.str (Str.ofString "__spec__") 169), .none⟩, ⟨PyData.keyHash P (Str.ofString "__annotations__"), (.str (Str.ofString "__annotations__") 170), (.ref 6)⟩, ⟨PyData.keyHash P (Str.ofString "__builtins__"), (.str (Str.ofString "__builtins__") 171), (.ref 4)⟩, ⟨PyData.keyHash P (Str.ofString "__file__"), (.str (Str.ofString "__file__") 173), (.str (Str.ofString "/claim/cut.py") 172)⟩, ⟨PyData.keyHash P (Str.ofString "__cached__"), (.str (Str.ofString "__cached__") 174), .none⟩, ⟨PyData.keyHash P (Str.ofString "_strip_exception_details"), (.str (Str.ofString "_strip_exception_details") 198), (.ref 21)⟩] 10), #[]⟩
noncomputable def o12_p1 (P : Params) : Obj := ⟨.none, none, (.fields #[(.int 2 0), (.int 0 0), (.ref 20)]), #[]⟩
noncomputable def o15_p1 (P : Params) : Obj := ⟨(.type "tuple"), none, (.seq #[] 0), #[]⟩
noncomputable def o16_p1 (P : Params) : Obj := ⟨.none, none, (.fields #[]), #[]⟩
noncomputable def o17_p1 (P : Params) : Obj := ⟨(.type "tuple"), none, (.seq #[(.str (Str.ofString "msg") 192), (.str (Str.ofString "start") 193), (.str (Str.ofString "end") 194), (.str (Str.ofString "i") 195)] 0), #[]⟩
noncomputable def o18_p1 (P : Params) : Obj := ⟨(.type "tuple"), none, (.seq #[] 0), #[]⟩
noncomputable def o19_p1 (P : Params) : Obj := ⟨.none, none, (.func ⟨(Str.ofString "_strip_exception_details"), (Str.ofString "_strip_exception_details"), fA 1, .stmts (fB 1), fS 1, 0, [], .none, .none, .none, .none, none, .none, .none, 0⟩), #[]⟩
noncomputable def o20_p1 (P : Params) : Obj := ⟨(.type "code"), none, (.fields #[(.str (Str.ofString "_strip_exception_details") 189), (.str (Str.ofString "_strip_exception_details") 190), (.str (Str.ofString "/claim/cut.py") 191), (.int 2 0), (.int 1 0), (.int 0 0), (.int 0 0), (.int 3 0), (.ref 15), (.bool true), (.int 181 0), (.ref 16), .none, (.ref 17), (.ref 18), (.ref 19), (.int 196 0), (.int 2 0), (.str (Str.ofString "/claim/cut.py") 197)]), #[]⟩
noncomputable def o21_p1 (P : Params) : Obj := ⟨(.type "function"), none, (.func ⟨(Str.ofString "_strip_exception_details"), (Str.ofString "_strip_exception_details"), fA 1, .stmts (fB 1), fS 1, 3, [], .none, .none, .none, (.str (Str.ofString "cpy313.doctest") 187), none, (.ref 20), .none, 0⟩), #[]⟩
noncomputable def T_p1 (P : Params) : BT := ((((((((((T_p0 P).set 3 (fun _ => o3_p1 P)).set 12 (fun _ => o12_p1 P)).ins 15 (o15_p1 P)).ins 16 (o16_p1 P)).ins 17 (o17_p1 P)).ins 18 (o18_p1 P)).ins 19 (o19_p1 P)).ins 20 (o20_p1 P)).ins 21 (o21_p1 P))
noncomputable def o3_p2 (P : Params) : Obj := ⟨(.type "dict"), none, (.dict #[⟨PyData.keyHash P (Str.ofString "__name__"), (.str (Str.ofString "__name__") 165), (.str (Str.ofString "cpy313.locale") 199)⟩, ⟨PyData.keyHash P (Str.ofString "__doc__"), (.str (Str.ofString "__doc__") 166), .none⟩, ⟨PyData.keyHash P (Str.ofString "__package__"), (.str (Str.ofString "__package__") 167), .none⟩, ⟨PyData.keyHash P (Str.ofString "__loader__"), (.str (Str.ofString "__loader__") 168), (ldr P)⟩, ⟨PyData.keyHash P (Str.ofString "__spec__"), (.str (Str.ofString "__spec__") 169), .none⟩, ⟨PyData.keyHash P (Str.ofString "__annotations__"), (.str (Str.ofString "__annotations__") 170), (.ref 6)⟩, ⟨PyData.keyHash P (Str.ofString "__builtins__"), (.str (Str.ofString "__builtins__") 171), (.ref 4)⟩, ⟨PyData.keyHash P (Str.ofString "__file__"), (.str (Str.ofString "__file__") 173), (.str (Str.ofString "/claim/cut.py") 172)⟩, ⟨PyData.keyHash P (Str.ofString "__cached__"), (.str (Str.ofString "__cached__") 174), .none⟩, ⟨PyData.keyHash P (Str.ofString "_strip_exception_details"), (.str (Str.ofString "_strip_exception_details") 198), (.ref 21)⟩] 10), #[]⟩
noncomputable def T_p2 (P : Params) : BT := ((T_p1 P).set 3 (fun _ => o3_p2 P))
noncomputable def o3_p3 (P : Params) : Obj := ⟨(.type "dict"), none, (.dict #[⟨PyData.keyHash P (Str.ofString "__name__"), (.str (Str.ofString "__name__") 165), (.str (Str.ofString "cpy313.locale") 199)⟩, ⟨PyData.keyHash P (Str.ofString "__doc__"), (.str (Str.ofString "__doc__") 166), .none⟩, ⟨PyData.keyHash P (Str.ofString "__package__"), (.str (Str.ofString "__package__") 167), .none⟩, ⟨PyData.keyHash P (Str.ofString "__loader__"), (.str (Str.ofString "__loader__") 168), (ldr P)⟩, ⟨PyData.keyHash P (Str.ofString "__spec__"), (.str (Str.ofString "__spec__") 169), .none⟩, ⟨PyData.keyHash P (Str.ofString "__annotations__"), (.str (Str.ofString "__annotations__") 170), (.ref 6)⟩, ⟨PyData.keyHash P (Str.ofString "__builtins__"), (.str (Str.ofString "__builtins__") 171), (.ref 4)⟩, ⟨PyData.keyHash P (Str.ofString "__file__"), (.str (Str.ofString "__file__") 173), (.str (Str.ofString "/claim/cut.py") 172)⟩, ⟨PyData.keyHash P (Str.ofString "__cached__"), (.str (Str.ofString "__cached__") 174), .none⟩, ⟨PyData.keyHash P (Str.ofString "_strip_exception_details"), (.str (Str.ofString "_strip_exception_details") 198), (.ref 21)⟩, ⟨PyData.keyHash P (Str.ofString "_strcoll"), (.str (Str.ofString "_strcoll") 208), (.ref 28)⟩] 11), #[]⟩
noncomputable def o12_p3 (P : Params) : Obj := ⟨.none, none, (.fields #[(.int 2 0), (.int 0 0), (.ref 20), (.int 15 0), (.int 0 0), (.ref 27)]), #[]⟩
noncomputable def o22_p3 (P : Params) : Obj := ⟨(.type "tuple"), none, (.seq #[] 0), #[]⟩
noncomputable def o23_p3 (P : Params) : Obj := ⟨.none, none, (.fields #[]), #[]⟩
noncomputable def o24_p3 (P : Params) : Obj := ⟨(.type "tuple"), none, (.seq #[(.str (Str.ofString "a") 204), (.str (Str.ofString "b") 205)] 0), #[]⟩
noncomputable def o25_p3 (P : Params) : Obj := ⟨(.type "tuple"), none, (.seq #[] 0), #[]⟩
noncomputable def o26_p3 (P : Params) : Obj := ⟨.none, none, (.func ⟨(Str.ofString "_strcoll"), (Str.ofString "_strcoll"), fA 3, .stmts (fB 3), fS 3, 0, [], .none, .none, .none, .none, none, .none, .none, 0⟩), #[]⟩
noncomputable def o27_p3 (P : Params) : Obj := ⟨(.type "code"), none, (.fields #[(.str (Str.ofString "_strcoll") 201), (.str (Str.ofString "_strcoll") 202), (.str (Str.ofString "/claim/cut.py") 203), (.int 15 0), (.int 2 0), (.int 0 0), (.int 0 0), (.int 3 0), (.ref 22), (.bool true), (.int 181 0), (.ref 23), .none, (.ref 24), (.ref 25), (.ref 26), (.int 206 0), (.int 15 0), (.str (Str.ofString "/claim/cut.py") 207)]), #[]⟩
noncomputable def o28_p3 (P : Params) : Obj := ⟨(.type "function"), none, (.func ⟨(Str.ofString "_strcoll"), (Str.ofString "_strcoll"), fA 3, .stmts (fB 3), fS 3, 3, [], .none, .none, .none, (.str (Str.ofString "cpy313.locale") 199), none, (.ref 27), .none, 0⟩), #[]⟩
noncomputable def T_p3 (P : Params) : BT := ((((((((((T_p2 P).set 3 (fun _ => o3_p3 P)).set 12 (fun _ => o12_p3 P)).ins 22 (o22_p3 P)).ins 23 (o23_p3 P)).ins 24 (o24_p3 P)).ins 25 (o25_p3 P)).ins 26 (o26_p3 P)).ins 27 (o27_p3 P)).ins 28 (o28_p3 P))
noncomputable def o3_p4 (P : Params) : Obj := ⟨(.type "dict"), none, (.dict #[⟨PyData.keyHash P (Str.ofString "__name__"), (.str (Str.ofString "__name__") 165), (.str (Str.ofString "cpy313.locale") 199)⟩, ⟨PyData.keyHash P (Str.ofString "__doc__"), (.str (Str.ofString "__doc__") 166), .none⟩, ⟨PyData.keyHash P (Str.ofString "__package__"), (.str (Str.ofString "__package__") 167), .none⟩, ⟨PyData.keyHash P (Str.ofString "__loader__"), (.str (Str.ofString "__loader__") 168), (ldr P)⟩, ⟨PyData.keyHash P (Str.ofString "__spec__"), (.str (Str.ofString "__spec__") 169), .none⟩, ⟨PyData.keyHash P (Str.ofString "__annotations__"), (.str (Str.ofString "__annotations__") 170), (.ref 6)⟩, ⟨PyData.keyHash P (Str.ofString "__builtins__"), (.str (Str.ofString "__builtins__") 171), (.ref 4)⟩, ⟨PyData.keyHash P (Str.ofString "__file__"), (.str (Str.ofString "__file__") 173), (.str (Str.ofString "/claim/cut.py") 172)⟩, ⟨PyData.keyHash P (Str.ofString "__cached__"), (.str (Str.ofString "__cached__") 174), .none⟩, ⟨PyData.keyHash P (Str.ofString "_strip_exception_details"), (.str (Str.ofString "_strip_exception_details") 198), (.ref 21)⟩, ⟨PyData.keyHash P (Str.ofString "_strcoll"), (.str (Str.ofString "_strcoll") 208), (.ref 28)⟩, ⟨PyData.keyHash P (Str.ofString "_strxfrm"), (.str (Str.ofString "_strxfrm") 215), (.ref 35)⟩] 12), #[]⟩
noncomputable def o12_p4 (P : Params) : Obj := ⟨.none, none, (.fields #[(.int 2 0), (.int 0 0), (.ref 20), (.int 15 0), (.int 0 0), (.ref 27), (.int 17 0), (.int 0 0), (.ref 34)]), #[]⟩
noncomputable def o29_p4 (P : Params) : Obj := ⟨(.type "tuple"), none, (.seq #[] 0), #[]⟩
noncomputable def o30_p4 (P : Params) : Obj := ⟨.none, none, (.fields #[]), #[]⟩
noncomputable def o31_p4 (P : Params) : Obj := ⟨(.type "tuple"), none, (.seq #[(.str (Str.ofString "s") 212)] 0), #[]⟩
noncomputable def o32_p4 (P : Params) : Obj := ⟨(.type "tuple"), none, (.seq #[] 0), #[]⟩
noncomputable def o33_p4 (P : Params) : Obj := ⟨.none, none, (.func ⟨(Str.ofString "_strxfrm"), (Str.ofString "_strxfrm"), fA 4, .stmts (fB 4), fS 4, 0, [], .none, .none, .none, .none, none, .none, .none, 0⟩), #[]⟩
noncomputable def o34_p4 (P : Params) : Obj := ⟨(.type "code"), none, (.fields #[(.str (Str.ofString "_strxfrm") 209), (.str (Str.ofString "_strxfrm") 210), (.str (Str.ofString "/claim/cut.py") 211), (.int 17 0), (.int 1 0), (.int 0 0), (.int 0 0), (.int 3 0), (.ref 29), (.bool true), (.int 181 0), (.ref 30), .none, (.ref 31), (.ref 32), (.ref 33), (.int 213 0), (.int 17 0), (.str (Str.ofString "/claim/cut.py") 214)]), #[]⟩
noncomputable def o35_p4 (P : Params) : Obj := ⟨(.type "function"), none, (.func ⟨(Str.ofString "_strxfrm"), (Str.ofString "_strxfrm"), fA 4, .stmts (fB 4), fS 4, 3, [], .none, .none, .none, (.str (Str.ofString "cpy313.locale") 199), none, (.ref 34), .none, 0⟩), #[]⟩
noncomputable def T_p4 (P : Params) : BT := ((((((((((T_p3 P).set 3 (fun _ => o3_p4 P)).set 12 (fun _ => o12_p4 P)).ins 29 (o29_p4 P)).ins 30 (o30_p4 P)).ins 31 (o31_p4 P)).ins 32 (o32_p4 P)).ins 33 (o33_p4 P)).ins 34 (o34_p4 P)).ins 35 (o35_p4 P))
noncomputable def o3_p5 (P : Params) : Obj := ⟨(.type "dict"), none, (.dict #[⟨PyData.keyHash P (Str.ofString "__name__"), (.str (Str.ofString "__name__") 165), (.str (Str.ofString "cpy313.stringprep") 216)⟩, ⟨PyData.keyHash P (Str.ofString "__doc__"), (.str (Str.ofString "__doc__") 166), .none⟩, ⟨PyData.keyHash P (Str.ofString "__package__"), (.str (Str.ofString "__package__") 167), .none⟩, ⟨PyData.keyHash P (Str.ofString "__loader__"), (.str (Str.ofString "__loader__") 168), (ldr P)⟩, ⟨PyData.keyHash P (Str.ofString "__spec__"), (.str (Str.ofString "__spec__") 169), .none⟩, ⟨PyData.keyHash P (Str.ofString "__annotations__"), (.str (Str.ofString "__annotations__") 170), (.ref 6)⟩, ⟨PyData.keyHash P (Str.ofString "__builtins__"), (.str (Str.ofString "__builtins__") 171), (.ref 4)⟩, ⟨PyData.keyHash P (Str.ofString "__file__"), (.str (Str.ofString "__file__") 173), (.str (Str.ofString "/claim/cut.py") 172)⟩, ⟨PyData.keyHash P (Str.ofString "__cached__"), (.str (Str.ofString "__cached__") 174), .none⟩, ⟨PyData.keyHash P (Str.ofString "_strip_exception_details"), (.str (Str.ofString "_strip_exception_details") 198), (.ref 21)⟩, ⟨PyData.keyHash P (Str.ofString "_strcoll"), (.str (Str.ofString "_strcoll") 208), (.ref 28)⟩, ⟨PyData.keyHash P (Str.ofString "_strxfrm"), (.str (Str.ofString "_strxfrm") 215), (.ref 35)⟩] 12), #[]⟩
noncomputable def T_p5 (P : Params) : BT := ((T_p4 P).set 3 (fun _ => o3_p5 P))
noncomputable def o3_p6 (P : Params) : Obj := ⟨(.type "dict"), none, (.dict #[⟨PyData.keyHash P (Str.ofString "__name__"), (.str (Str.ofString "__name__") 165), (.str (Str.ofString "cpy313.stringprep") 216)⟩, ⟨PyData.keyHash P (Str.ofString "__doc__"), (.str (Str.ofString "__doc__") 166), .none⟩, ⟨PyData.keyHash P (Str.ofString "__package__"), (.str (Str.ofString "__package__") 167), .none⟩, ⟨PyData.keyHash P (Str.ofString "__loader__"), (.str (Str.ofString "__loader__") 168), (ldr P)⟩, ⟨PyData.keyHash P (Str.ofString "__spec__"), (.str (Str.ofString "__spec__") 169), .none⟩, ⟨PyData.keyHash P (Str.ofString "__annotations__"), (.str (Str.ofString "__annotations__") 170), (.ref 6)⟩, ⟨PyData.keyHash P (Str.ofString "__builtins__"), (.str (Str.ofString "__builtins__") 171), (.ref 4)⟩, ⟨PyData.keyHash P (Str.ofString "__file__"), (.str (Str.ofString "__file__") 173), (.str (Str.ofString "/claim/cut.py") 172)⟩, ⟨PyData.keyHash P (Str.ofString "__cached__"), (.str (Str.ofString "__cached__") 174), .none⟩, ⟨PyData.keyHash P (Str.ofString "_strip_exception_details"), (.str (Str.ofString "_strip_exception_details") 198), (.ref 21)⟩, ⟨PyData.keyHash P (Str.ofString "_strcoll"), (.str (Str.ofString "_strcoll") 208), (.ref 28)⟩, ⟨PyData.keyHash P (Str.ofString "_strxfrm"), (.str (Str.ofString "_strxfrm") 215), (.ref 35)⟩, ⟨PyData.keyHash P (Str.ofString "b1_set"), (.str (Str.ofString "b1_set") 277), (.ref 43)⟩] 13), #[]⟩
noncomputable def o36_p6 (P : Params) : Obj := ⟨(.type "list"), none, (.seq #[(.int 173 218), (.int 847 219), (.int 6150 220), (.int 6155 221), (.int 6156 222), (.int 6157 223), (.int 8203 224), (.int 8204 225), (.int 8205 226), (.int 8288 227), (.int 65279 228)] 0), #[]⟩
noncomputable def o37_p6 (P : Params) : Obj := ⟨(.type "range"), none, (.fields #[(.int 65024 229), (.int 65040 230), (.int 1 231)]), #[]⟩
noncomputable def o38_p6 (P : Params) : Obj := ⟨(.type "list"), none, (.seq #[(.int 65024 234), (.int 65025 235), (.int 65026 236), (.int 65027 237), (.int 65028 238), (.int 65029 239), (.int 65030 240), (.int 65031 241), (.int 65032 242), (.int 65033 243), (.int 65034 244), (.int 65035 245), (.int 65036 246), (.int 65037 247), (.int 65038 248), (.int 65039 249)] 18), #[]⟩
noncomputable def o39_p6 (P : Params) : Obj := ⟨(.type "range_iterator"), none, (.fields #[(.int 65040 0), (.int 0 0), (.int 1 0)]), #[]⟩
noncomputable def o40_p6 (P : Params) : Obj := ⟨(.type "tuple"), none, (.seq #[] 0), #[]⟩
noncomputable def o41_p6 (P : Params) : Obj := ⟨(.type "StopIteration"), none, (.fields #[(.ref 40), .none, .none, .none, (.bool false), .none]), #[]⟩
noncomputable def o42_p6 (P : Params) : Obj := ⟨(.type "list"), none, (.seq #[(.int 173 218), (.int 847 219), (.int 6150 220), (.int 6155 221), (.int 6156 222), (.int 6157 223), (.int 8203 224), (.int 8204 225), (.int 8205 226), (.int 8288 227), (.int 65279 228), (.int 65024 234), (.int 65025 235), (.int 65026 236), (.int 65027 237), (.int 65028 238), (.int 65029 239), (.int 65030 240), (.int 65031 241), (.int 65032 242), (.int 65033 243), (.int 65034 244), (.int 65035 245), (.int 65036 246), (.int 65037 247), (.int 65038 248), (.int 65039 249)] 0), #[]⟩
noncomputable def o43_p6 (P : Params) : Obj := ⟨(.type "set"), none, (.set #[(65024, (.int 65024 234)), (65025, (.int 65025 235)), (65026, (.int 65026 236)), (65027, (.int 65027 237)), (65028, (.int 65028 238)), (65029, (.int 65029 239)), (6150, (.int 6150 220)), (65030, (.int 65030 240)), (65031, (.int 65031 241)), (65032, (.int 65032 242)), (65033, (.int 65033 243)), (6155, (.int 6155 221)), (6156, (.int 6156 222)), (6157, (.int 6157 223)), (8203, (.int 8203 224)), (8204, (.int 8204 225)), (8205, (.int 8205 226)), (65034, (.int 65034 244)), (65035, (.int 65035 245)), (65036, (.int 65036 246)), (65037, (.int 65037 247)), (65038, (.int 65038 248)), (65039, (.int 65039 249)), (173, (.int 173 218)), (847, (.int 847 219)), (8288, (.int 8288 227)), (65279, (.int 65279 228))] 29 ⟨127, #[0, 1, 2, 3, 4, 5, 6, 7, 8, 9, 10, 11, 12, 13, 14, 15, 16, 17, 18, 19, 20, 21, 22, 45, 79, 96, 127], #[], 0, !P.followText "set-order", 2, true⟩), #[]⟩
noncomputable def o44_p6 (P : Params) : Obj := ⟨(.type "list_iterator"), none, (.fields #[.none, (.int 27 0)]), #[]⟩
noncomputable def o45_p6 (P : Params) : Obj := ⟨(.type "tuple"), none, (.seq #[] 0), #[]⟩
noncomputable def o46_p6 (P : Params) : Obj := ⟨(.type "StopIteration"), none, (.fields #[(.ref 45), .none, .none, .none, (.bool false), .none]), #[]⟩
noncomputable def T_p6 (P : Params) : BT := (((((((((((((T_p5 P).set 3 (fun _ => o3_p6 P)).ins 36 (o36_p6 P)).ins 37 (o37_p6 P)).ins 38 (o38_p6 P)).ins 39 (o39_p6 P)).ins 40 (o40_p6 P)).ins 41 (o41_p6 P)).ins 42 (o42_p6 P)).ins 43 (o43_p6 P)).ins 44 (o44_p6 P)).ins 45 (o45_p6 P)).ins 46 (o46_p6 P))
noncomputable def o3_p7 (P : Params) : Obj := ⟨(.type "dict"), none, (.dict #[⟨PyData.keyHash P (Str.ofString "__name__"), (.str (Str.ofString "__name__") 165), (.str (Str.ofString "cpy313.stringprep") 216)⟩, ⟨PyData.keyHash P (Str.ofString "__doc__"), (.str (Str.ofString "__doc__") 166), .none⟩, ⟨PyData.keyHash P (Str.ofString "__package__"), (.str (Str.ofString "__package__") 167), .none⟩, ⟨PyData.keyHash P (Str.ofString "__loader__"), (.str (Str.ofString "__loader__") 168), (ldr P)⟩, ⟨PyData.keyHash P (Str.ofString "__spec__"), (.str (Str.ofString "__spec__") 169), .none⟩, ⟨PyData.keyHash P (Str.ofString "__annotations__"), (.str (Str.ofString "__annotations__") 170), (.ref 6)⟩, ⟨PyData.keyHash P (Str.ofString "__builtins__"), (.str (Str.ofString "__builtins__") 171), (.ref 4)⟩, ⟨PyData.keyHash P (Str.ofString "__file__"), (.str (Str.ofString "__file__") 173), (.str (Str.ofString "/claim/cut.py") 172)⟩, ⟨PyData.keyHash P (Str.ofString "__cached__"), (.str (Str.ofString "__cached__") 174), .none⟩, ⟨PyData.keyHash P (Str.ofString "_strip_exception_details"), (.str (Str.ofString "_strip_exception_details") 198), (.ref 21)⟩, ⟨PyData.keyHash P (Str.ofString "_strcoll"), (.str (Str.ofString "_strcoll") 208), (.ref 28)⟩, ⟨PyData.keyHash P (Str.ofString "_strxfrm"), (.str (Str.ofString "_strxfrm") 215), (.ref 35)⟩, ⟨PyData.keyHash P (Str.ofString "b1_set"), (.str (Str.ofString "b1_set") 277), (.ref 43)⟩, ⟨PyData.keyHash P (Str.ofString "in_table_b1"), (.str (Str.ofString "in_table_b1") 284), (.ref 53)⟩] 14), #[]⟩
noncomputable def o12_p7 (P : Params) : Obj := ⟨.none, none, (.fields #[(.int 2 0), (.int 0 0), (.ref 20), (.int 15 0), (.int 0 0), (.ref 27), (.int 17 0), (.int 0 0), (.ref 34), (.int 21 0), (.int 0 0), (.ref 52)]), #[]⟩
noncomputable def o47_p7 (P : Params) : Obj := ⟨(.type "tuple"), none, (.seq #[] 0), #[]⟩
noncomputable def o48_p7 (P : Params) : Obj := ⟨.none, none, (.fields #[]), #[]⟩
noncomputable def o49_p7 (P : Params) : Obj := ⟨(.type "tuple"), none, (.seq #[(.str (Str.ofString "code") 281)] 0), #[]⟩
noncomputable def o50_p7 (P : Params) : Obj := ⟨(.type "tuple"), none, (.seq #[] 0), #[]⟩
noncomputable def o51_p7 (P : Params) : Obj := ⟨.none, none, (.func ⟨(Str.ofString "in_table_b1"), (Str.ofString "in_table_b1"), fA 7, .stmts (fB 7), fS 7, 0, [], .none, .none, .none, .none, none, .none, .none, 0⟩), #[]⟩
noncomputable def o52_p7 (P : Params) : Obj := ⟨(.type "code"), none, (.fields #[(.str (Str.ofString "in_table_b1") 278), (.str (Str.ofString "in_table_b1") 279), (.str (Str.ofString "/claim/cut.py") 280), (.int 21 0), (.int 1 0), (.int 0 0), (.int 0 0), (.int 3 0), (.ref 47), (.bool true), (.int 181 0), (.ref 48), .none, (.ref 49), (.ref 50), (.ref 51), (.int 282 0), (.int 21 0), (.str (Str.ofString "/claim/cut.py") 283)]), #[]⟩
noncomputable def o53_p7 (P : Params) : Obj := ⟨(.type "function"), none, (.func ⟨(Str.ofString "in_table_b1"), (Str.ofString "in_table_b1"), fA 7, .stmts (fB 7), fS 7, 3, [], .none, .none, .none, (.str (Str.ofString "cpy313.stringprep") 216), none, (.ref 52), .none, 0⟩), #[]⟩
noncomputable def T_p7 (P : Params) : BT := ((((((((((T_p6 P).set 3 (fun _ => o3_p7 P)).set 12 (fun _ => o12_p7 P)).ins 47 (o47_p7 P)).ins 48 (o48_p7 P)).ins 49 (o49_p7 P)).ins 50 (o50_p7 P)).ins 51 (o51_p7 P)).ins 52 (o52_p7 P)).ins 53 (o53_p7 P))
noncomputable def o3_p8 (P : Params) : Obj := ⟨(.type "dict"), none, (.dict #[⟨PyData.keyHash P (Str.ofString "__name__"), (.str (Str.ofString "__name__") 165), (.str (Str.ofString "cpy313.stringprep") 216)⟩, ⟨PyData.keyHash P (Str.ofString "__doc__"), (.str (Str.ofString "__doc__") 166), .none⟩, ⟨PyData.keyHash P (Str.ofString "__package__"), (.str (Str.ofString "__package__") 167), .none⟩, ⟨PyData.keyHash P (Str.ofString "__loader__"), (.str (Str.ofString "__loader__") 168), (ldr P)⟩, ⟨PyData.keyHash P (Str.ofString "__spec__"), (.str (Str.ofString "__spec__") 169), .none⟩, ⟨PyData.keyHash P (Str.ofString "__annotations__"), (.str (Str.ofString "__annotations__") 170), (.ref 6)⟩, ⟨PyData.keyHash P (Str.ofString "__builtins__"), (.str (Str.ofString "__builtins__") 171), (.ref 4)⟩, ⟨PyData.keyHash P (Str.ofString "__file__"), (.str (Str.ofString "__file__") 173), (.str (Str.ofString "/claim/cut.py") 172)⟩, ⟨PyData.keyHash P (Str.ofString "__cached__"), (.str (Str.ofString "__cached__") 174), .none⟩, ⟨PyData.keyHash P (Str.ofString "_strip_exception_details"), (.str (Str.ofString "_strip_exception_details") 198), (.ref 21)⟩, ⟨PyData.keyHash P (Str.ofString "_strcoll"), (.str (Str.ofString "_strcoll") 208), (.ref 28)⟩, ⟨PyData.keyHash P (Str.ofString "_strxfrm"), (.str (Str.ofString "_strxfrm") 215), (.ref 35)⟩, ⟨PyData.keyHash P (Str.ofString "b1_set"), (.str (Str.ofString "b1_set") 277), (.ref 43)⟩, ⟨PyData.keyHash P (Str.ofString "in_table_b1"), (.str (Str.ofString "in_table_b1") 284), (.ref 53)⟩, ⟨PyData.keyHash P (Str.ofString "b3_exceptions"), (.str (Str.ofString "b3_exceptions") 2235), (.ref 54)⟩] 15), #[]⟩
noncomputable def b3KV : List (Int × Str) := match stAt 8 with
  | .Assign _ (.Dict ks vs _) _ => (ks.zip vs).map fun (k, v) => ((match k with | some (.Constant (.int i) _ _) => i | _ => 0), match v with | .Constant (.str x) _ _ => x | _ => Str.empty)
  | _ => []
/-- the entries that a long run of pairs lays, and a short one -/
noncomputable def entsL : Nat → List (Int × Str) → List DictEntry
  | _, [] => []
  | tk, (k, x) :: r => ⟨k, .int k tk, .str x (tk + 1)⟩ :: entsL (tk + 3) r
noncomputable def entsS : Nat → List (Int × Str) → List DictEntry
  | _, [] => []
  | tk, (k, x) :: r => ⟨k, .int k tk, .str x (tk + 1)⟩ :: entsS (tk + 2) r
noncomputable abbrev dOb (es : Array DictEntry) (n : Nat) : Obj := ⟨.type "dict", none, .dict es n, #[]⟩
noncomputable def b3Ent : List DictEntry := entsL 285 (b3KV.take 646) ++ entsS 2223 (b3KV.drop 646)
noncomputable def chunkQ (j : Nat) : List (Int × Str) := (b3KV.drop (17 * j)).take 17
noncomputable def o54 : Obj := dOb b3Ent.toArray 650
noncomputable def subD (j : Nat) : Obj := dOb (entsL (285 + 51 * j) (chunkQ j)).toArray 17
noncomputable def subLast : Obj := dOb (entsS 2223 (b3KV.drop 646)).toArray 4
noncomputable def objs8 : List Obj := o54 :: ((List.range 37).map fun j => subD (j + 1)) ++ [subLast]
noncomputable def insAll : BT → Nat → List Obj → BT
  | T, _, [] => T
  | T, n, o :: l => insAll (T.ins n o) (n + 1) l
noncomputable def T_d (P : Params) : BT := insAll (T_p7 P) 54 objs8
noncomputable def T_p8 (P : Params) : BT := (T_d P).set 3 (fun _ => o3_p8 P)
noncomputable def o3_p9 (P : Params) : Obj := ⟨(.type "dict"), none, (.dict #[⟨PyData.keyHash P (Str.ofString "__name__"), (.str (Str.ofString "__name__") 165), (.str (Str.ofString "cpy313.stringprep") 216)⟩, ⟨PyData.keyHash P (Str.ofString "__doc__"), (.str (Str.ofString "__doc__") 166), .none⟩, ⟨PyData.keyHash P (Str.ofString "__package__"), (.str (Str.ofString "__package__") 167), .none⟩, ⟨PyData.keyHash P (Str.ofString "__loader__"), (.str (Str.ofString "__loader__") 168), (ldr P)⟩, ⟨PyData.keyHash P (Str.ofString "__spec__"), (.str (Str.ofString "__spec__") 169), .none⟩, ⟨PyData.keyHash P (Str.ofString "__annotations__"), (.str (Str.ofString "__annotations__") 170), (.ref 6)⟩, ⟨PyData.keyHash P (Str.ofString "__builtins__"), (.str (Str.ofString "__builtins__") 171), (.ref 4)⟩, ⟨PyData.keyHash P (Str.ofString "__file__"), (.str (Str.ofString "__file__") 173), (.str (Str.ofString "/claim/cut.py") 172)⟩, ⟨PyData.keyHash P (Str.ofString "__cached__"), (.str (Str.ofString "__cached__") 174), .none⟩, ⟨PyData.keyHash P (Str.ofString "_strip_exception_details"), (.str (Str.ofString "_strip_exception_details") 198), (.ref 21)⟩, ⟨PyData.keyHash P (Str.ofString "_strcoll"), (.str (Str.ofString "_strcoll") 208), (.ref 28)⟩, ⟨PyData.keyHash P (Str.ofString "_strxfrm"), (.str (Str.ofString "_strxfrm") 215), (.ref 35)⟩, ⟨PyData.keyHash P (Str.ofString "b1_set"), (.str (Str.ofString "b1_set") 277), (.ref 43)⟩, ⟨PyData.keyHash P (Str.ofString "in_table_b1"), (.str (Str.ofString "in_table_b1") 284), (.ref 53)⟩, ⟨PyData.keyHash P (Str.ofString "b3_exceptions"), (.str (Str.ofString "b3_exceptions") 2235), (.ref 54)⟩, ⟨PyData.keyHash P (Str.ofString "map_table_b3"), (.str (Str.ofString "map_table_b3") 2243), (.ref 99)⟩] 16), #[]⟩
noncomputable def o12_p9 (P : Params) : Obj := ⟨.none, none, (.fields #[(.int 2 0), (.int 0 0), (.ref 20), (.int 15 0), (.int 0 0), (.ref 27), (.int 17 0), (.int 0 0), (.ref 34), (.int 21 0), (.int 0 0), (.ref 52), (.int 24 0), (.int 0 0), (.ref 98)]), #[]⟩
noncomputable def o93_p9 (P : Params) : Obj := ⟨(.type "tuple"), none, (.seq #[] 0), #[]⟩
noncomputable def o94_p9 (P : Params) : Obj := ⟨.none, none, (.fields #[]), #[]⟩
noncomputable def o95_p9 (P : Params) : Obj := ⟨(.type "tuple"), none, (.seq #[(.str (Str.ofString "code") 2239), (.str (Str.ofString "r") 2240)] 0), #[]⟩
noncomputable def o96_p9 (P : Params) : Obj := ⟨(.type "tuple"), none, (.seq #[] 0), #[]⟩
noncomputable def o97_p9 (P : Params) : Obj := ⟨.none, none, (.func ⟨(Str.ofString "map_table_b3"), (Str.ofString "map_table_b3"), fA 9, .stmts (fB 9), fS 9, 0, [], .none, .none, .none, .none, none, .none, .none, 0⟩), #[]⟩
noncomputable def o98_p9 (P : Params) : Obj := ⟨(.type "code"), none, (.fields #[(.str (Str.ofString "map_table_b3") 2236), (.str (Str.ofString "map_table_b3") 2237), (.str (Str.ofString "/claim/cut.py") 2238), (.int 24 0), (.int 1 0), (.int 0 0), (.int 0 0), (.int 3 0), (.ref 93), (.bool true), (.int 181 0), (.ref 94), .none, (.ref 95), (.ref 96), (.ref 97), (.int 2241 0), (.int 24 0), (.str (Str.ofString "/claim/cut.py") 2242)]), #[]⟩
noncomputable def o99_p9 (P : Params) : Obj := ⟨(.type "function"), none, (.func ⟨(Str.ofString "map_table_b3"), (Str.ofString "map_table_b3"), fA 9, .stmts (fB 9), fS 9, 3, [], .none, .none, .none, (.str (Str.ofString "cpy313.stringprep") 216), none, (.ref 98), .none, 0⟩), #[]⟩
noncomputable def T_p9 (P : Params) : BT := ((((((((((T_p8 P).set 3 (fun _ => o3_p9 P)).set 12 (fun _ => o12_p9 P)).ins 93 (o93_p9 P)).ins 94 (o94_p9 P)).ins 95 (o95_p9 P)).ins 96 (o96_p9 P)).ins 97 (o97_p9 P)).ins 98 (o98_p9 P)).ins 99 (o99_p9 P))
noncomputable def o3_p10 (P : Params) : Obj := ⟨(.type "dict"), none, (.dict #[⟨PyData.keyHash P (Str.ofString "__name__"), (.str (Str.ofString "__name__") 165), (.str (Str.ofString "law_ti0029_01") 2244)⟩, ⟨PyData.keyHash P (Str.ofString "__doc__"), (.str (Str.ofString "__doc__") 166), .none⟩, ⟨PyData.keyHash P (Str.ofString "__package__"), (.str (Str.ofString "__package__") 167), .none⟩, ⟨PyData.keyHash P (Str.ofString "__loader__"), (.str (Str.ofString "__loader__") 168), (ldr P)⟩, ⟨PyData.keyHash P (Str.ofString "__spec__"), (.str (Str.ofString "__spec__") 169), .none⟩, ⟨PyData.keyHash P (Str.ofString "__annotations__"), (.str (Str.ofString "__annotations__") 170), (.ref 6)⟩, ⟨PyData.keyHash P (Str.ofString "__builtins__"), (.str (Str.ofString "__builtins__") 171), (.ref 4)⟩, ⟨PyData.keyHash P (Str.ofString "__file__"), (.str (Str.ofString "__file__") 173), (.str (Str.ofString "/claim/cut.py") 172)⟩, ⟨PyData.keyHash P (Str.ofString "__cached__"), (.str (Str.ofString "__cached__") 174), .none⟩, ⟨PyData.keyHash P (Str.ofString "_strip_exception_details"), (.str (Str.ofString "_strip_exception_details") 198), (.ref 21)⟩, ⟨PyData.keyHash P (Str.ofString "_strcoll"), (.str (Str.ofString "_strcoll") 208), (.ref 28)⟩, ⟨PyData.keyHash P (Str.ofString "_strxfrm"), (.str (Str.ofString "_strxfrm") 215), (.ref 35)⟩, ⟨PyData.keyHash P (Str.ofString "b1_set"), (.str (Str.ofString "b1_set") 277), (.ref 43)⟩, ⟨PyData.keyHash P (Str.ofString "in_table_b1"), (.str (Str.ofString "in_table_b1") 284), (.ref 53)⟩, ⟨PyData.keyHash P (Str.ofString "b3_exceptions"), (.str (Str.ofString "b3_exceptions") 2235), (.ref 54)⟩, ⟨PyData.keyHash P (Str.ofString "map_table_b3"), (.str (Str.ofString "map_table_b3") 2243), (.ref 99)⟩] 16), #[]⟩
noncomputable def T_p10 (P : Params) : BT := ((T_p9 P).set 3 (fun _ => o3_p10 P))
noncomputable def o3_p11 (P : Params) : Obj := ⟨(.type "dict"), none, (.dict #[⟨PyData.keyHash P (Str.ofString "__name__"), (.str (Str.ofString "__name__") 165), (.str (Str.ofString "law_ti0029_01") 2244)⟩, ⟨PyData.keyHash P (Str.ofString "__doc__"), (.str (Str.ofString "__doc__") 166), .none⟩, ⟨PyData.keyHash P (Str.ofString "__package__"), (.str (Str.ofString "__package__") 167), .none⟩, ⟨PyData.keyHash P (Str.ofString "__loader__"), (.str (Str.ofString "__loader__") 168), (ldr P)⟩, ⟨PyData.keyHash P (Str.ofString "__spec__"), (.str (Str.ofString "__spec__") 169), .none⟩, ⟨PyData.keyHash P (Str.ofString "__annotations__"), (.str (Str.ofString "__annotations__") 170), (.ref 6)⟩, ⟨PyData.keyHash P (Str.ofString "__builtins__"), (.str (Str.ofString "__builtins__") 171), (.ref 4)⟩, ⟨PyData.keyHash P (Str.ofString "__file__"), (.str (Str.ofString "__file__") 173), (.str (Str.ofString "/claim/cut.py") 172)⟩, ⟨PyData.keyHash P (Str.ofString "__cached__"), (.str (Str.ofString "__cached__") 174), .none⟩, ⟨PyData.keyHash P (Str.ofString "_strip_exception_details"), (.str (Str.ofString "_strip_exception_details") 198), (.ref 21)⟩, ⟨PyData.keyHash P (Str.ofString "_strcoll"), (.str (Str.ofString "_strcoll") 208), (.ref 28)⟩, ⟨PyData.keyHash P (Str.ofString "_strxfrm"), (.str (Str.ofString "_strxfrm") 215), (.ref 35)⟩, ⟨PyData.keyHash P (Str.ofString "b1_set"), (.str (Str.ofString "b1_set") 277), (.ref 43)⟩, ⟨PyData.keyHash P (Str.ofString "in_table_b1"), (.str (Str.ofString "in_table_b1") 284), (.ref 53)⟩, ⟨PyData.keyHash P (Str.ofString "b3_exceptions"), (.str (Str.ofString "b3_exceptions") 2235), (.ref 54)⟩, ⟨PyData.keyHash P (Str.ofString "map_table_b3"), (.str (Str.ofString "map_table_b3") 2243), (.ref 99)⟩, ⟨PyData.keyHash P (Str.ofString "_law_shown"), (.str (Str.ofString "_law_shown") 2254), (.ref 106)⟩] 17), #[]⟩
noncomputable def o12_p11 (P : Params) : Obj := ⟨.none, none, (.fields #[(.int 2 0), (.int 0 0), (.ref 20), (.int 15 0), (.int 0 0), (.ref 27), (.int 17 0), (.int 0 0), (.ref 34), (.int 21 0), (.int 0 0), (.ref 52), (.int 24 0), (.int 0 0), (.ref 98), (.int 30 0), (.int 0 0), (.ref 105)]), #[]⟩
noncomputable def o100_p11 (P : Params) : Obj := ⟨(.type "tuple"), none, (.seq #[] 0), #[]⟩
noncomputable def o101_p11 (P : Params) : Obj := ⟨.none, none, (.fields #[]), #[]⟩
noncomputable def o102_p11 (P : Params) : Obj := ⟨(.type "tuple"), none, (.seq #[(.str (Str.ofString "letter") 2249), (.str (Str.ofString "form") 2250), (.str (Str.ofString "alphabets") 2251)] 0), #[]⟩
noncomputable def o103_p11 (P : Params) : Obj := ⟨(.type "tuple"), none, (.seq #[] 0), #[]⟩
noncomputable def o104_p11 (P : Params) : Obj := ⟨.none, none, (.func ⟨(Str.ofString "_law_shown"), (Str.ofString "_law_shown"), fA 11, .stmts (fB 11), fS 11, 0, [], .none, .none, .none, .none, none, .none, .none, 0⟩), #[]⟩
noncomputable def o105_p11 (P : Params) : Obj := ⟨(.type "code"), none, (.fields #[(.str (Str.ofString "_law_shown") 2246), (.str (Str.ofString "_law_shown") 2247), (.str (Str.ofString "/claim/cut.py") 2248), (.int 30 0), (.int 2 0), (.int 0 0), (.int 0 0), (.int 3 0), (.ref 100), (.bool true), (.int 181 0), (.ref 101), .none, (.ref 102), (.ref 103), (.ref 104), (.int 2252 0), (.int 30 0), (.str (Str.ofString "/claim/cut.py") 2253)]), #[]⟩
noncomputable def o106_p11 (P : Params) : Obj := ⟨(.type "function"), none, (.func ⟨(Str.ofString "_law_shown"), (Str.ofString "_law_shown"), fA 11, .stmts (fB 11), fS 11, 3, [], .none, .none, .none, (.str (Str.ofString "law_ti0029_01") 2244), none, (.ref 105), .none, 0⟩), #[]⟩
noncomputable def T_p11 (P : Params) : BT := ((((((((((T_p10 P).set 3 (fun _ => o3_p11 P)).set 12 (fun _ => o12_p11 P)).ins 100 (o100_p11 P)).ins 101 (o101_p11 P)).ins 102 (o102_p11 P)).ins 103 (o103_p11 P)).ins 104 (o104_p11 P)).ins 105 (o105_p11 P)).ins 106 (o106_p11 P))
noncomputable def o3_p12 (P : Params) : Obj := ⟨(.type "dict"), none, (.dict #[⟨PyData.keyHash P (Str.ofString "__name__"), (.str (Str.ofString "__name__") 165), (.str (Str.ofString "law_ti0029_01") 2244)⟩, ⟨PyData.keyHash P (Str.ofString "__doc__"), (.str (Str.ofString "__doc__") 166), .none⟩, ⟨PyData.keyHash P (Str.ofString "__package__"), (.str (Str.ofString "__package__") 167), .none⟩, ⟨PyData.keyHash P (Str.ofString "__loader__"), (.str (Str.ofString "__loader__") 168), (ldr P)⟩, ⟨PyData.keyHash P (Str.ofString "__spec__"), (.str (Str.ofString "__spec__") 169), .none⟩, ⟨PyData.keyHash P (Str.ofString "__annotations__"), (.str (Str.ofString "__annotations__") 170), (.ref 6)⟩, ⟨PyData.keyHash P (Str.ofString "__builtins__"), (.str (Str.ofString "__builtins__") 171), (.ref 4)⟩, ⟨PyData.keyHash P (Str.ofString "__file__"), (.str (Str.ofString "__file__") 173), (.str (Str.ofString "/claim/cut.py") 172)⟩, ⟨PyData.keyHash P (Str.ofString "__cached__"), (.str (Str.ofString "__cached__") 174), .none⟩, ⟨PyData.keyHash P (Str.ofString "_strip_exception_details"), (.str (Str.ofString "_strip_exception_details") 198), (.ref 21)⟩, ⟨PyData.keyHash P (Str.ofString "_strcoll"), (.str (Str.ofString "_strcoll") 208), (.ref 28)⟩, ⟨PyData.keyHash P (Str.ofString "_strxfrm"), (.str (Str.ofString "_strxfrm") 215), (.ref 35)⟩, ⟨PyData.keyHash P (Str.ofString "b1_set"), (.str (Str.ofString "b1_set") 277), (.ref 43)⟩, ⟨PyData.keyHash P (Str.ofString "in_table_b1"), (.str (Str.ofString "in_table_b1") 284), (.ref 53)⟩, ⟨PyData.keyHash P (Str.ofString "b3_exceptions"), (.str (Str.ofString "b3_exceptions") 2235), (.ref 54)⟩, ⟨PyData.keyHash P (Str.ofString "map_table_b3"), (.str (Str.ofString "map_table_b3") 2243), (.ref 99)⟩, ⟨PyData.keyHash P (Str.ofString "_law_shown"), (.str (Str.ofString "_law_shown") 2254), (.ref 106)⟩, ⟨PyData.keyHash P (Str.ofString "_law_hidden"), (.str (Str.ofString "_law_hidden") 2261), (.ref 113)⟩] 18), #[]⟩
noncomputable def o12_p12 (P : Params) : Obj := ⟨.none, none, (.fields #[(.int 2 0), (.int 0 0), (.ref 20), (.int 15 0), (.int 0 0), (.ref 27), (.int 17 0), (.int 0 0), (.ref 34), (.int 21 0), (.int 0 0), (.ref 52), (.int 24 0), (.int 0 0), (.ref 98), (.int 30 0), (.int 0 0), (.ref 105), (.int 35 0), (.int 0 0), (.ref 112)]), #[]⟩
noncomputable def o107_p12 (P : Params) : Obj := ⟨(.type "tuple"), none, (.seq #[] 0), #[]⟩
noncomputable def o108_p12 (P : Params) : Obj := ⟨.none, none, (.fields #[]), #[]⟩
noncomputable def o109_p12 (P : Params) : Obj := ⟨(.type "tuple"), none, (.seq #[(.str (Str.ofString "spot") 2258)] 0), #[]⟩
noncomputable def o110_p12 (P : Params) : Obj := ⟨(.type "tuple"), none, (.seq #[] 0), #[]⟩
noncomputable def o111_p12 (P : Params) : Obj := ⟨.none, none, (.func ⟨(Str.ofString "_law_hidden"), (Str.ofString "_law_hidden"), fA 12, .stmts (fB 12), fS 12, 0, [], .none, .none, .none, .none, none, .none, .none, 0⟩), #[]⟩
noncomputable def o112_p12 (P : Params) : Obj := ⟨(.type "code"), none, (.fields #[(.str (Str.ofString "_law_hidden") 2255), (.str (Str.ofString "_law_hidden") 2256), (.str (Str.ofString "/claim/cut.py") 2257), (.int 35 0), (.int 1 0), (.int 0 0), (.int 0 0), (.int 3 0), (.ref 107), (.bool true), (.int 181 0), (.ref 108), .none, (.ref 109), (.ref 110), (.ref 111), (.int 2259 0), (.int 35 0), (.str (Str.ofString "/claim/cut.py") 2260)]), #[]⟩
noncomputable def o113_p12 (P : Params) : Obj := ⟨(.type "function"), none, (.func ⟨(Str.ofString "_law_hidden"), (Str.ofString "_law_hidden"), fA 12, .stmts (fB 12), fS 12, 3, [], .none, .none, .none, (.str (Str.ofString "law_ti0029_01") 2244), none, (.ref 112), .none, 0⟩), #[]⟩
noncomputable def T_p12 (P : Params) : BT := ((((((((((T_p11 P).set 3 (fun _ => o3_p12 P)).set 12 (fun _ => o12_p12 P)).ins 107 (o107_p12 P)).ins 108 (o108_p12 P)).ins 109 (o109_p12 P)).ins 110 (o110_p12 P)).ins 111 (o111_p12 P)).ins 112 (o112_p12 P)).ins 113 (o113_p12 P))
noncomputable def o3_p13 (P : Params) : Obj := ⟨(.type "dict"), none, (.dict #[⟨PyData.keyHash P (Str.ofString "__name__"), (.str (Str.ofString "__name__") 165), (.str (Str.ofString "law_ti0029_01") 2244)⟩, ⟨PyData.keyHash P (Str.ofString "__doc__"), (.str (Str.ofString "__doc__") 166), .none⟩, ⟨PyData.keyHash P (Str.ofString "__package__"), (.str (Str.ofString "__package__") 167), .none⟩, ⟨PyData.keyHash P (Str.ofString "__loader__"), (.str (Str.ofString "__loader__") 168), (ldr P)⟩, ⟨PyData.keyHash P (Str.ofString "__spec__"), (.str (Str.ofString "__spec__") 169), .none⟩, ⟨PyData.keyHash P (Str.ofString "__annotations__"), (.str (Str.ofString "__annotations__") 170), (.ref 6)⟩, ⟨PyData.keyHash P (Str.ofString "__builtins__"), (.str (Str.ofString "__builtins__") 171), (.ref 4)⟩, ⟨PyData.keyHash P (Str.ofString "__file__"), (.str (Str.ofString "__file__") 173), (.str (Str.ofString "/claim/cut.py") 172)⟩, ⟨PyData.keyHash P (Str.ofString "__cached__"), (.str (Str.ofString "__cached__") 174), .none⟩, ⟨PyData.keyHash P (Str.ofString "_strip_exception_details"), (.str (Str.ofString "_strip_exception_details") 198), (.ref 21)⟩, ⟨PyData.keyHash P (Str.ofString "_strcoll"), (.str (Str.ofString "_strcoll") 208), (.ref 28)⟩, ⟨PyData.keyHash P (Str.ofString "_strxfrm"), (.str (Str.ofString "_strxfrm") 215), (.ref 35)⟩, ⟨PyData.keyHash P (Str.ofString "b1_set"), (.str (Str.ofString "b1_set") 277), (.ref 43)⟩, ⟨PyData.keyHash P (Str.ofString "in_table_b1"), (.str (Str.ofString "in_table_b1") 284), (.ref 53)⟩, ⟨PyData.keyHash P (Str.ofString "b3_exceptions"), (.str (Str.ofString "b3_exceptions") 2235), (.ref 54)⟩, ⟨PyData.keyHash P (Str.ofString "map_table_b3"), (.str (Str.ofString "map_table_b3") 2243), (.ref 99)⟩, ⟨PyData.keyHash P (Str.ofString "_law_shown"), (.str (Str.ofString "_law_shown") 2254), (.ref 106)⟩, ⟨PyData.keyHash P (Str.ofString "_law_hidden"), (.str (Str.ofString "_law_hidden") 2261), (.ref 113)⟩, ⟨PyData.keyHash P (Str.ofString "_law_orders"), (.str (Str.ofString "_law_orders") 2271), (.ref 120)⟩] 19), #[]⟩
noncomputable def o12_p13 (P : Params) : Obj := ⟨.none, none, (.fields #[(.int 2 0), (.int 0 0), (.ref 20), (.int 15 0), (.int 0 0), (.ref 27), (.int 17 0), (.int 0 0), (.ref 34), (.int 21 0), (.int 0 0), (.ref 52), (.int 24 0), (.int 0 0), (.ref 98), (.int 30 0), (.int 0 0), (.ref 105), (.int 35 0), (.int 0 0), (.ref 112), (.int 39 0), (.int 0 0), (.ref 119)]), #[]⟩
noncomputable def o114_p13 (P : Params) : Obj := ⟨(.type "tuple"), none, (.seq #[] 0), #[]⟩
noncomputable def o115_p13 (P : Params) : Obj := ⟨.none, none, (.fields #[]), #[]⟩
noncomputable def o116_p13 (P : Params) : Obj := ⟨(.type "tuple"), none, (.seq #[(.str (Str.ofString "row") 2265), (.str (Str.ofString "count") 2266), (.str (Str.ofString "place") 2267), (.str (Str.ofString "sign") 2268)] 0), #[]⟩
noncomputable def o117_p13 (P : Params) : Obj := ⟨(.type "tuple"), none, (.seq #[] 0), #[]⟩
noncomputable def o118_p13 (P : Params) : Obj := ⟨.none, none, (.func ⟨(Str.ofString "_law_orders"), (Str.ofString "_law_orders"), fA 13, .stmts (fB 13), fS 13, 0, [], .none, .none, .none, .none, none, .none, .none, 0⟩), #[]⟩
noncomputable def o119_p13 (P : Params) : Obj := ⟨(.type "code"), none, (.fields #[(.str (Str.ofString "_law_orders") 2262), (.str (Str.ofString "_law_orders") 2263), (.str (Str.ofString "/claim/cut.py") 2264), (.int 39 0), (.int 1 0), (.int 0 0), (.int 0 0), (.int 3 0), (.ref 114), (.bool true), (.int 181 0), (.ref 115), .none, (.ref 116), (.ref 117), (.ref 118), (.int 2269 0), (.int 39 0), (.str (Str.ofString "/claim/cut.py") 2270)]), #[]⟩
noncomputable def o120_p13 (P : Params) : Obj := ⟨(.type "function"), none, (.func ⟨(Str.ofString "_law_orders"), (Str.ofString "_law_orders"), fA 13, .stmts (fB 13), fS 13, 3, [], .none, .none, .none, (.str (Str.ofString "law_ti0029_01") 2244), none, (.ref 119), .none, 0⟩), #[]⟩
noncomputable def T_p13 (P : Params) : BT := ((((((((((T_p12 P).set 3 (fun _ => o3_p13 P)).set 12 (fun _ => o12_p13 P)).ins 114 (o114_p13 P)).ins 115 (o115_p13 P)).ins 116 (o116_p13 P)).ins 117 (o117_p13 P)).ins 118 (o118_p13 P)).ins 119 (o119_p13 P)).ins 120 (o120_p13 P))
noncomputable def o3_p14 (P : Params) : Obj := ⟨(.type "dict"), none, (.dict #[⟨PyData.keyHash P (Str.ofString "__name__"), (.str (Str.ofString "__name__") 165), (.str (Str.ofString "law_ti0029_01") 2244)⟩, ⟨PyData.keyHash P (Str.ofString "__doc__"), (.str (Str.ofString "__doc__") 166), .none⟩, ⟨PyData.keyHash P (Str.ofString "__package__"), (.str (Str.ofString "__package__") 167), .none⟩, ⟨PyData.keyHash P (Str.ofString "__loader__"), (.str (Str.ofString "__loader__") 168), (ldr P)⟩, ⟨PyData.keyHash P (Str.ofString "__spec__"), (.str (Str.ofString "__spec__") 169), .none⟩, ⟨PyData.keyHash P (Str.ofString "__annotations__"), (.str (Str.ofString "__annotations__") 170), (.ref 6)⟩, ⟨PyData.keyHash P (Str.ofString "__builtins__"), (.str (Str.ofString "__builtins__") 171), (.ref 4)⟩, ⟨PyData.keyHash P (Str.ofString "__file__"), (.str (Str.ofString "__file__") 173), (.str (Str.ofString "/claim/cut.py") 172)⟩, ⟨PyData.keyHash P (Str.ofString "__cached__"), (.str (Str.ofString "__cached__") 174), .none⟩, ⟨PyData.keyHash P (Str.ofString "_strip_exception_details"), (.str (Str.ofString "_strip_exception_details") 198), (.ref 21)⟩, ⟨PyData.keyHash P (Str.ofString "_strcoll"), (.str (Str.ofString "_strcoll") 208), (.ref 28)⟩, ⟨PyData.keyHash P (Str.ofString "_strxfrm"), (.str (Str.ofString "_strxfrm") 215), (.ref 35)⟩, ⟨PyData.keyHash P (Str.ofString "b1_set"), (.str (Str.ofString "b1_set") 277), (.ref 43)⟩, ⟨PyData.keyHash P (Str.ofString "in_table_b1"), (.str (Str.ofString "in_table_b1") 284), (.ref 53)⟩, ⟨PyData.keyHash P (Str.ofString "b3_exceptions"), (.str (Str.ofString "b3_exceptions") 2235), (.ref 54)⟩, ⟨PyData.keyHash P (Str.ofString "map_table_b3"), (.str (Str.ofString "map_table_b3") 2243), (.ref 99)⟩, ⟨PyData.keyHash P (Str.ofString "_law_shown"), (.str (Str.ofString "_law_shown") 2254), (.ref 106)⟩, ⟨PyData.keyHash P (Str.ofString "_law_hidden"), (.str (Str.ofString "_law_hidden") 2261), (.ref 113)⟩, ⟨PyData.keyHash P (Str.ofString "_law_orders"), (.str (Str.ofString "_law_orders") 2271), (.ref 120)⟩, ⟨PyData.keyHash P (Str.ofString "_law_row"), (.str (Str.ofString "_law_row") 2284), (.ref 127)⟩] 20), #[]⟩
noncomputable def o12_p14 (P : Params) : Obj := ⟨.none, none, (.fields #[(.int 2 0), (.int 0 0), (.ref 20), (.int 15 0), (.int 0 0), (.ref 27), (.int 17 0), (.int 0 0), (.ref 34), (.int 21 0), (.int 0 0), (.ref 52), (.int 24 0), (.int 0 0), (.ref 98), (.int 30 0), (.int 0 0), (.ref 105), (.int 35 0), (.int 0 0), (.ref 112), (.int 39 0), (.int 0 0), (.ref 119), (.int 44 0), (.int 0 0), (.ref 126)]), #[]⟩
noncomputable def o121_p14 (P : Params) : Obj := ⟨(.type "tuple"), none, (.seq #[] 0), #[]⟩
noncomputable def o122_p14 (P : Params) : Obj := ⟨.none, none, (.fields #[]), #[]⟩
noncomputable def o123_p14 (P : Params) : Obj := ⟨(.type "tuple"), none, (.seq #[(.str (Str.ofString "numbers") 2275), (.str (Str.ofString "first") 2276), (.str (Str.ofString "letters") 2277), (.str (Str.ofString "row") 2278), (.str (Str.ofString "number") 2279), (.str (Str.ofString "kind") 2280), (.str (Str.ofString "rest") 2281)] 0), #[]⟩
noncomputable def o124_p14 (P : Params) : Obj := ⟨(.type "tuple"), none, (.seq #[] 0), #[]⟩
noncomputable def o125_p14 (P : Params) : Obj := ⟨.none, none, (.func ⟨(Str.ofString "_law_row"), (Str.ofString "_law_row"), fA 14, .stmts (fB 14), fS 14, 0, [], .none, .none, .none, .none, none, .none, .none, 0⟩), #[]⟩
noncomputable def o126_p14 (P : Params) : Obj := ⟨(.type "code"), none, (.fields #[(.str (Str.ofString "_law_row") 2272), (.str (Str.ofString "_law_row") 2273), (.str (Str.ofString "/claim/cut.py") 2274), (.int 44 0), (.int 1 0), (.int 0 0), (.int 0 0), (.int 3 0), (.ref 121), (.bool true), (.int 181 0), (.ref 122), .none, (.ref 123), (.ref 124), (.ref 125), (.int 2282 0), (.int 44 0), (.str (Str.ofString "/claim/cut.py") 2283)]), #[]⟩
noncomputable def o127_p14 (P : Params) : Obj := ⟨(.type "function"), none, (.func ⟨(Str.ofString "_law_row"), (Str.ofString "_law_row"), fA 14, .stmts (fB 14), fS 14, 3, [], .none, .none, .none, (.str (Str.ofString "law_ti0029_01") 2244), none, (.ref 126), .none, 0⟩), #[]⟩
noncomputable def T_p14 (P : Params) : BT := ((((((((((T_p13 P).set 3 (fun _ => o3_p14 P)).set 12 (fun _ => o12_p14 P)).ins 121 (o121_p14 P)).ins 122 (o122_p14 P)).ins 123 (o123_p14 P)).ins 124 (o124_p14 P)).ins 125 (o125_p14 P)).ins 126 (o126_p14 P)).ins 127 (o127_p14 P))
noncomputable def o3_p15 (P : Params) : Obj := ⟨(.type "dict"), none, (.dict #[⟨PyData.keyHash P (Str.ofString "__name__"), (.str (Str.ofString "__name__") 165), (.str (Str.ofString "law_ti0029_01") 2244)⟩, ⟨PyData.keyHash P (Str.ofString "__doc__"), (.str (Str.ofString "__doc__") 166), .none⟩, ⟨PyData.keyHash P (Str.ofString "__package__"), (.str (Str.ofString "__package__") 167), .none⟩, ⟨PyData.keyHash P (Str.ofString "__loader__"), (.str (Str.ofString "__loader__") 168), (ldr P)⟩, ⟨PyData.keyHash P (Str.ofString "__spec__"), (.str (Str.ofString "__spec__") 169), .none⟩, ⟨PyData.keyHash P (Str.ofString "__annotations__"), (.str (Str.ofString "__annotations__") 170), (.ref 6)⟩, ⟨PyData.keyHash P (Str.ofString "__builtins__"), (.str (Str.ofString "__builtins__") 171), (.ref 4)⟩, ⟨PyData.keyHash P (Str.ofString "__file__"), (.str (Str.ofString "__file__") 173), (.str (Str.ofString "/claim/cut.py") 172)⟩, ⟨PyData.keyHash P (Str.ofString "__cached__"), (.str (Str.ofString "__cached__") 174), .none⟩, ⟨PyData.keyHash P (Str.ofString "_strip_exception_details"), (.str (Str.ofString "_strip_exception_details") 198), (.ref 21)⟩, ⟨PyData.keyHash P (Str.ofString "_strcoll"), (.str (Str.ofString "_strcoll") 208), (.ref 28)⟩, ⟨PyData.keyHash P (Str.ofString "_strxfrm"), (.str (Str.ofString "_strxfrm") 215), (.ref 35)⟩, ⟨PyData.keyHash P (Str.ofString "b1_set"), (.str (Str.ofString "b1_set") 277), (.ref 43)⟩, ⟨PyData.keyHash P (Str.ofString "in_table_b1"), (.str (Str.ofString "in_table_b1") 284), (.ref 53)⟩, ⟨PyData.keyHash P (Str.ofString "b3_exceptions"), (.str (Str.ofString "b3_exceptions") 2235), (.ref 54)⟩, ⟨PyData.keyHash P (Str.ofString "map_table_b3"), (.str (Str.ofString "map_table_b3") 2243), (.ref 99)⟩, ⟨PyData.keyHash P (Str.ofString "_law_shown"), (.str (Str.ofString "_law_shown") 2254), (.ref 106)⟩, ⟨PyData.keyHash P (Str.ofString "_law_hidden"), (.str (Str.ofString "_law_hidden") 2261), (.ref 113)⟩, ⟨PyData.keyHash P (Str.ofString "_law_orders"), (.str (Str.ofString "_law_orders") 2271), (.ref 120)⟩, ⟨PyData.keyHash P (Str.ofString "_law_row"), (.str (Str.ofString "_law_row") 2284), (.ref 127)⟩, ⟨PyData.keyHash P (Str.ofString "_law_next"), (.str (Str.ofString "_law_next") 2294), (.ref 134)⟩] 21), #[]⟩
noncomputable def o12_p15 (P : Params) : Obj := ⟨.none, none, (.fields #[(.int 2 0), (.int 0 0), (.ref 20), (.int 15 0), (.int 0 0), (.ref 27), (.int 17 0), (.int 0 0), (.ref 34), (.int 21 0), (.int 0 0), (.ref 52), (.int 24 0), (.int 0 0), (.ref 98), (.int 30 0), (.int 0 0), (.ref 105), (.int 35 0), (.int 0 0), (.ref 112), (.int 39 0), (.int 0 0), (.ref 119), (.int 44 0), (.int 0 0), (.ref 126), (.int 59 0), (.int 0 0), (.ref 133)]), #[]⟩
noncomputable def o128_p15 (P : Params) : Obj := ⟨(.type "tuple"), none, (.seq #[] 0), #[]⟩
noncomputable def o129_p15 (P : Params) : Obj := ⟨.none, none, (.fields #[]), #[]⟩
noncomputable def o130_p15 (P : Params) : Obj := ⟨(.type "tuple"), none, (.seq #[(.str (Str.ofString "row") 2288), (.str (Str.ofString "place") 2289), (.str (Str.ofString "spot") 2290), (.str (Str.ofString "behind") 2291)] 0), #[]⟩
noncomputable def o131_p15 (P : Params) : Obj := ⟨(.type "tuple"), none, (.seq #[] 0), #[]⟩
noncomputable def o132_p15 (P : Params) : Obj := ⟨.none, none, (.func ⟨(Str.ofString "_law_next"), (Str.ofString "_law_next"), fA 15, .stmts (fB 15), fS 15, 0, [], .none, .none, .none, .none, none, .none, .none, 0⟩), #[]⟩
noncomputable def o133_p15 (P : Params) : Obj := ⟨(.type "code"), none, (.fields #[(.str (Str.ofString "_law_next") 2285), (.str (Str.ofString "_law_next") 2286), (.str (Str.ofString "/claim/cut.py") 2287), (.int 59 0), (.int 1 0), (.int 0 0), (.int 0 0), (.int 3 0), (.ref 128), (.bool true), (.int 181 0), (.ref 129), .none, (.ref 130), (.ref 131), (.ref 132), (.int 2292 0), (.int 59 0), (.str (Str.ofString "/claim/cut.py") 2293)]), #[]⟩
noncomputable def o134_p15 (P : Params) : Obj := ⟨(.type "function"), none, (.func ⟨(Str.ofString "_law_next"), (Str.ofString "_law_next"), fA 15, .stmts (fB 15), fS 15, 3, [], .none, .none, .none, (.str (Str.ofString "law_ti0029_01") 2244), none, (.ref 133), .none, 0⟩), #[]⟩
noncomputable def T_p15 (P : Params) : BT := ((((((((((T_p14 P).set 3 (fun _ => o3_p15 P)).set 12 (fun _ => o12_p15 P)).ins 128 (o128_p15 P)).ins 129 (o129_p15 P)).ins 130 (o130_p15 P)).ins 131 (o131_p15 P)).ins 132 (o132_p15 P)).ins 133 (o133_p15 P)).ins 134 (o134_p15 P))
noncomputable def o3_p16 (P : Params) : Obj := ⟨(.type "dict"), none, (.dict #[⟨PyData.keyHash P (Str.ofString "__name__"), (.str (Str.ofString "__name__") 165), (.str (Str.ofString "law_ti0029_01") 2244)⟩, ⟨PyData.keyHash P (Str.ofString "__doc__"), (.str (Str.ofString "__doc__") 166), .none⟩, ⟨PyData.keyHash P (Str.ofString "__package__"), (.str (Str.ofString "__package__") 167), .none⟩, ⟨PyData.keyHash P (Str.ofString "__loader__"), (.str (Str.ofString "__loader__") 168), (ldr P)⟩, ⟨PyData.keyHash P (Str.ofString "__spec__"), (.str (Str.ofString "__spec__") 169), .none⟩, ⟨PyData.keyHash P (Str.ofString "__annotations__"), (.str (Str.ofString "__annotations__") 170), (.ref 6)⟩, ⟨PyData.keyHash P (Str.ofString "__builtins__"), (.str (Str.ofString "__builtins__") 171), (.ref 4)⟩, ⟨PyData.keyHash P (Str.ofString "__file__"), (.str (Str.ofString "__file__") 173), (.str (Str.ofString "/claim/cut.py") 172)⟩, ⟨PyData.keyHash P (Str.ofString "__cached__"), (.str (Str.ofString "__cached__") 174), .none⟩, ⟨PyData.keyHash P (Str.ofString "_strip_exception_details"), (.str (Str.ofString "_strip_exception_details") 198), (.ref 21)⟩, ⟨PyData.keyHash P (Str.ofString "_strcoll"), (.str (Str.ofString "_strcoll") 208), (.ref 28)⟩, ⟨PyData.keyHash P (Str.ofString "_strxfrm"), (.str (Str.ofString "_strxfrm") 215), (.ref 35)⟩, ⟨PyData.keyHash P (Str.ofString "b1_set"), (.str (Str.ofString "b1_set") 277), (.ref 43)⟩, ⟨PyData.keyHash P (Str.ofString "in_table_b1"), (.str (Str.ofString "in_table_b1") 284), (.ref 53)⟩, ⟨PyData.keyHash P (Str.ofString "b3_exceptions"), (.str (Str.ofString "b3_exceptions") 2235), (.ref 54)⟩, ⟨PyData.keyHash P (Str.ofString "map_table_b3"), (.str (Str.ofString "map_table_b3") 2243), (.ref 99)⟩, ⟨PyData.keyHash P (Str.ofString "_law_shown"), (.str (Str.ofString "_law_shown") 2254), (.ref 106)⟩, ⟨PyData.keyHash P (Str.ofString "_law_hidden"), (.str (Str.ofString "_law_hidden") 2261), (.ref 113)⟩, ⟨PyData.keyHash P (Str.ofString "_law_orders"), (.str (Str.ofString "_law_orders") 2271), (.ref 120)⟩, ⟨PyData.keyHash P (Str.ofString "_law_row"), (.str (Str.ofString "_law_row") 2284), (.ref 127)⟩, ⟨PyData.keyHash P (Str.ofString "_law_next"), (.str (Str.ofString "_law_next") 2294), (.ref 134)⟩, ⟨PyData.keyHash P (Str.ofString "_law_told"), (.str (Str.ofString "_law_told") 2300), (.ref 139)⟩] 22), #[]⟩
noncomputable def o12_p16 (P : Params) : Obj := ⟨.none, none, (.fields #[(.int 2 0), (.int 0 0), (.ref 20), (.int 15 0), (.int 0 0), (.ref 27), (.int 17 0), (.int 0 0), (.ref 34), (.int 21 0), (.int 0 0), (.ref 52), (.int 24 0), (.int 0 0), (.ref 98), (.int 30 0), (.int 0 0), (.ref 105), (.int 35 0), (.int 0 0), (.ref 112), (.int 39 0), (.int 0 0), (.ref 119), (.int 44 0), (.int 0 0), (.ref 126), (.int 59 0), (.int 0 0), (.ref 133), (.int 70 0), (.int 0 0), (.ref 138)]), #[]⟩
noncomputable def o135_p16 (P : Params) : Obj := ⟨(.type "tuple"), none, (.seq #[] 0), #[]⟩
noncomputable def o136_p16 (P : Params) : Obj := ⟨.none, none, (.fields #[]), #[]⟩
noncomputable def o137_p16 (P : Params) : Obj := ⟨.none, none, (.func ⟨(Str.ofString "_law_told"), (Str.ofString "_law_told"), fA 16, .stmts (fB 16), fS 16, 0, [], .none, .none, .none, .none, none, .none, .none, 0⟩), #[]⟩
noncomputable def o138_p16 (P : Params) : Obj := ⟨(.type "code"), none, (.fields #[(.str (Str.ofString "_law_told") 2295), (.str (Str.ofString "_law_told") 2296), (.str (Str.ofString "/claim/cut.py") 2297), (.int 70 0), (.int 2 0), (.int 0 0), (.int 0 0), (.int 3 0), (.ref 135), (.bool true), (.int 181 0), (.ref 136), .none, .none, .none, (.ref 137), (.int 2298 0), (.int 70 0), (.str (Str.ofString "/claim/cut.py") 2299)]), #[]⟩
noncomputable def o139_p16 (P : Params) : Obj := ⟨(.type "function"), none, (.func ⟨(Str.ofString "_law_told"), (Str.ofString "_law_told"), fA 16, .stmts (fB 16), fS 16, 3, [], .none, .none, .none, (.str (Str.ofString "law_ti0029_01") 2244), none, (.ref 138), .none, 0⟩), #[]⟩
noncomputable def T_p16 (P : Params) : BT := ((((((((T_p15 P).set 3 (fun _ => o3_p16 P)).set 12 (fun _ => o12_p16 P)).ins 135 (o135_p16 P)).ins 136 (o136_p16 P)).ins 137 (o137_p16 P)).ins 138 (o138_p16 P)).ins 139 (o139_p16 P))
noncomputable def o3_p17 (P : Params) : Obj := ⟨(.type "dict"), none, (.dict #[⟨PyData.keyHash P (Str.ofString "__name__"), (.str (Str.ofString "__name__") 165), (.str (Str.ofString "law_ti0029_01") 2244)⟩, ⟨PyData.keyHash P (Str.ofString "__doc__"), (.str (Str.ofString "__doc__") 166), .none⟩, ⟨PyData.keyHash P (Str.ofString "__package__"), (.str (Str.ofString "__package__") 167), .none⟩, ⟨PyData.keyHash P (Str.ofString "__loader__"), (.str (Str.ofString "__loader__") 168), (ldr P)⟩, ⟨PyData.keyHash P (Str.ofString "__spec__"), (.str (Str.ofString "__spec__") 169), .none⟩, ⟨PyData.keyHash P (Str.ofString "__annotations__"), (.str (Str.ofString "__annotations__") 170), (.ref 6)⟩, ⟨PyData.keyHash P (Str.ofString "__builtins__"), (.str (Str.ofString "__builtins__") 171), (.ref 4)⟩, ⟨PyData.keyHash P (Str.ofString "__file__"), (.str (Str.ofString "__file__") 173), (.str (Str.ofString "/claim/cut.py") 172)⟩, ⟨PyData.keyHash P (Str.ofString "__cached__"), (.str (Str.ofString "__cached__") 174), .none⟩, ⟨PyData.keyHash P (Str.ofString "_strip_exception_details"), (.str (Str.ofString "_strip_exception_details") 198), (.ref 21)⟩, ⟨PyData.keyHash P (Str.ofString "_strcoll"), (.str (Str.ofString "_strcoll") 208), (.ref 28)⟩, ⟨PyData.keyHash P (Str.ofString "_strxfrm"), (.str (Str.ofString "_strxfrm") 215), (.ref 35)⟩, ⟨PyData.keyHash P (Str.ofString "b1_set"), (.str (Str.ofString "b1_set") 277), (.ref 43)⟩, ⟨PyData.keyHash P (Str.ofString "in_table_b1"), (.str (Str.ofString "in_table_b1") 284), (.ref 53)⟩, ⟨PyData.keyHash P (Str.ofString "b3_exceptions"), (.str (Str.ofString "b3_exceptions") 2235), (.ref 54)⟩, ⟨PyData.keyHash P (Str.ofString "map_table_b3"), (.str (Str.ofString "map_table_b3") 2243), (.ref 99)⟩, ⟨PyData.keyHash P (Str.ofString "_law_shown"), (.str (Str.ofString "_law_shown") 2254), (.ref 106)⟩, ⟨PyData.keyHash P (Str.ofString "_law_hidden"), (.str (Str.ofString "_law_hidden") 2261), (.ref 113)⟩, ⟨PyData.keyHash P (Str.ofString "_law_orders"), (.str (Str.ofString "_law_orders") 2271), (.ref 120)⟩, ⟨PyData.keyHash P (Str.ofString "_law_row"), (.str (Str.ofString "_law_row") 2284), (.ref 127)⟩, ⟨PyData.keyHash P (Str.ofString "_law_next"), (.str (Str.ofString "_law_next") 2294), (.ref 134)⟩, ⟨PyData.keyHash P (Str.ofString "_law_told"), (.str (Str.ofString "_law_told") 2300), (.ref 139)⟩, ⟨PyData.keyHash P (Str.ofString "_law_due"), (.str (Str.ofString "_law_due") 2306), (.ref 144)⟩] 23), #[]⟩
noncomputable def o12_p17 (P : Params) : Obj := ⟨.none, none, (.fields #[(.int 2 0), (.int 0 0), (.ref 20), (.int 15 0), (.int 0 0), (.ref 27), (.int 17 0), (.int 0 0), (.ref 34), (.int 21 0), (.int 0 0), (.ref 52), (.int 24 0), (.int 0 0), (.ref 98), (.int 30 0), (.int 0 0), (.ref 105), (.int 35 0), (.int 0 0), (.ref 112), (.int 39 0), (.int 0 0), (.ref 119), (.int 44 0), (.int 0 0), (.ref 126), (.int 59 0), (.int 0 0), (.ref 133), (.int 70 0), (.int 0 0), (.ref 138), (.int 86 0), (.int 0 0), (.ref 143)]), #[]⟩
noncomputable def o140_p17 (P : Params) : Obj := ⟨(.type "tuple"), none, (.seq #[] 0), #[]⟩
noncomputable def o141_p17 (P : Params) : Obj := ⟨.none, none, (.fields #[]), #[]⟩
noncomputable def o142_p17 (P : Params) : Obj := ⟨.none, none, (.func ⟨(Str.ofString "_law_due"), (Str.ofString "_law_due"), fA 17, .stmts (fB 17), fS 17, 0, [], .none, .none, .none, .none, none, .none, .none, 0⟩), #[]⟩
noncomputable def o143_p17 (P : Params) : Obj := ⟨(.type "code"), none, (.fields #[(.str (Str.ofString "_law_due") 2301), (.str (Str.ofString "_law_due") 2302), (.str (Str.ofString "/claim/cut.py") 2303), (.int 86 0), (.int 3 0), (.int 0 0), (.int 0 0), (.int 3 0), (.ref 140), (.bool true), (.int 181 0), (.ref 141), .none, .none, .none, (.ref 142), (.int 2304 0), (.int 86 0), (.str (Str.ofString "/claim/cut.py") 2305)]), #[]⟩
noncomputable def o144_p17 (P : Params) : Obj := ⟨(.type "function"), none, (.func ⟨(Str.ofString "_law_due"), (Str.ofString "_law_due"), fA 17, .stmts (fB 17), fS 17, 3, [], .none, .none, .none, (.str (Str.ofString "law_ti0029_01") 2244), none, (.ref 143), .none, 0⟩), #[]⟩
noncomputable def T_p17 (P : Params) : BT := ((((((((T_p16 P).set 3 (fun _ => o3_p17 P)).set 12 (fun _ => o12_p17 P)).ins 140 (o140_p17 P)).ins 141 (o141_p17 P)).ins 142 (o142_p17 P)).ins 143 (o143_p17 P)).ins 144 (o144_p17 P))
noncomputable def o3_p18 (P : Params) : Obj := ⟨(.type "dict"), none, (.dict #[⟨PyData.keyHash P (Str.ofString "__name__"), (.str (Str.ofString "__name__") 165), (.str (Str.ofString "law_ti0029_01") 2244)⟩, ⟨PyData.keyHash P (Str.ofString "__doc__"), (.str (Str.ofString "__doc__") 166), .none⟩, ⟨PyData.keyHash P (Str.ofString "__package__"), (.str (Str.ofString "__package__") 167), .none⟩, ⟨PyData.keyHash P (Str.ofString "__loader__"), (.str (Str.ofString "__loader__") 168), (ldr P)⟩, ⟨PyData.keyHash P (Str.ofString "__spec__"), (.str (Str.ofString "__spec__") 169), .none⟩, ⟨PyData.keyHash P (Str.ofString "__annotations__"), (.str (Str.ofString "__annotations__") 170), (.ref 6)⟩, ⟨PyData.keyHash P (Str.ofString "__builtins__"), (.str (Str.ofString "__builtins__") 171), (.ref 4)⟩, ⟨PyData.keyHash P (Str.ofString "__file__"), (.str (Str.ofString "__file__") 173), (.str (Str.ofString "/claim/cut.py") 172)⟩, ⟨PyData.keyHash P (Str.ofString "__cached__"), (.str (Str.ofString "__cached__") 174), .none⟩, ⟨PyData.keyHash P (Str.ofString "_strip_exception_details"), (.str (Str.ofString "_strip_exception_details") 198), (.ref 21)⟩, ⟨PyData.keyHash P (Str.ofString "_strcoll"), (.str (Str.ofString "_strcoll") 208), (.ref 28)⟩, ⟨PyData.keyHash P (Str.ofString "_strxfrm"), (.str (Str.ofString "_strxfrm") 215), (.ref 35)⟩, ⟨PyData.keyHash P (Str.ofString "b1_set"), (.str (Str.ofString "b1_set") 277), (.ref 43)⟩, ⟨PyData.keyHash P (Str.ofString "in_table_b1"), (.str (Str.ofString "in_table_b1") 284), (.ref 53)⟩, ⟨PyData.keyHash P (Str.ofString "b3_exceptions"), (.str (Str.ofString "b3_exceptions") 2235), (.ref 54)⟩, ⟨PyData.keyHash P (Str.ofString "map_table_b3"), (.str (Str.ofString "map_table_b3") 2243), (.ref 99)⟩, ⟨PyData.keyHash P (Str.ofString "_law_shown"), (.str (Str.ofString "_law_shown") 2254), (.ref 106)⟩, ⟨PyData.keyHash P (Str.ofString "_law_hidden"), (.str (Str.ofString "_law_hidden") 2261), (.ref 113)⟩, ⟨PyData.keyHash P (Str.ofString "_law_orders"), (.str (Str.ofString "_law_orders") 2271), (.ref 120)⟩, ⟨PyData.keyHash P (Str.ofString "_law_row"), (.str (Str.ofString "_law_row") 2284), (.ref 127)⟩, ⟨PyData.keyHash P (Str.ofString "_law_next"), (.str (Str.ofString "_law_next") 2294), (.ref 134)⟩, ⟨PyData.keyHash P (Str.ofString "_law_told"), (.str (Str.ofString "_law_told") 2300), (.ref 139)⟩, ⟨PyData.keyHash P (Str.ofString "_law_due"), (.str (Str.ofString "_law_due") 2306), (.ref 144)⟩, ⟨PyData.keyHash P (Str.ofString "law"), (.str (Str.ofString "law") 2312), (.ref 149)⟩] 24), #[]⟩
noncomputable def o12_p18 (P : Params) : Obj := ⟨.none, none, (.fields #[(.int 2 0), (.int 0 0), (.ref 20), (.int 15 0), (.int 0 0), (.ref 27), (.int 17 0), (.int 0 0), (.ref 34), (.int 21 0), (.int 0 0), (.ref 52), (.int 24 0), (.int 0 0), (.ref 98), (.int 30 0), (.int 0 0), (.ref 105), (.int 35 0), (.int 0 0), (.ref 112), (.int 39 0), (.int 0 0), (.ref 119), (.int 44 0), (.int 0 0), (.ref 126), (.int 59 0), (.int 0 0), (.ref 133), (.int 70 0), (.int 0 0), (.ref 138), (.int 86 0), (.int 0 0), (.ref 143), (.int 99 0), (.int 0 0), (.ref 148)]), #[]⟩
noncomputable def o145_p18 (P : Params) : Obj := ⟨(.type "tuple"), none, (.seq #[] 0), #[]⟩
noncomputable def o146_p18 (P : Params) : Obj := ⟨.none, none, (.fields #[]), #[]⟩
noncomputable def o147_p18 (P : Params) : Obj := ⟨.none, none, (.func ⟨(Str.ofString "law"), (Str.ofString "law"), fA 18, .stmts (fB 18), fS 18, 0, [], .none, .none, .none, .none, none, .none, .none, 0⟩), #[]⟩
noncomputable def o148_p18 (P : Params) : Obj := ⟨(.type "code"), none, (.fields #[(.str (Str.ofString "law") 2307), (.str (Str.ofString "law") 2308), (.str (Str.ofString "/claim/cut.py") 2309), (.int 99 0), (.int 1 0), (.int 0 0), (.int 0 0), (.int 3 0), (.ref 145), (.bool true), (.int 181 0), (.ref 146), .none, .none, .none, (.ref 147), (.int 2310 0), (.int 99 0), (.str (Str.ofString "/claim/cut.py") 2311)]), #[]⟩
noncomputable def o149_p18 (P : Params) : Obj := ⟨(.type "function"), none, (.func ⟨(Str.ofString "law"), (Str.ofString "law"), fA 18, .stmts (fB 18), fS 18, 3, [], .none, .none, .none, (.str (Str.ofString "law_ti0029_01") 2244), none, (.ref 148), .none, 0⟩), #[]⟩
noncomputable def T_p18 (P : Params) : BT := ((((((((T_p17 P).set 3 (fun _ => o3_p18 P)).set 12 (fun _ => o12_p18 P)).ins 145 (o145_p18 P)).ins 146 (o146_p18 P)).ins 147 (o147_p18 P)).ins 148 (o148_p18 P)).ins 149 (o149_p18 P))
noncomputable abbrev S_s0 (w : World) (os : OsState) : SharedT := st8 (T_s0 w.params) 11 181 os
noncomputable abbrev S_pre (w : World) (os : OsState) : SharedT := st8 (T_pre w.params) 15 187 os
noncomputable abbrev S_p0 (w : World) (os : OsState) : SharedT := st8 (T_p0 w.params) 15 189 os
noncomputable abbrev S_p1 (w : World) (os : OsState) : SharedT := st8 (T_p1 w.params) 22 199 os
noncomputable abbrev S_p2 (w : World) (os : OsState) : SharedT := st8 (T_p2 w.params) 22 201 os
noncomputable abbrev S_p3 (w : World) (os : OsState) : SharedT := st8 (T_p3 w.params) 29 209 os
noncomputable abbrev S_p4 (w : World) (os : OsState) : SharedT := st8 (T_p4 w.params) 36 216 os
noncomputable abbrev S_p5 (w : World) (os : OsState) : SharedT := st8 (T_p5 w.params) 36 218 os
noncomputable abbrev S_p6 (w : World) (os : OsState) : SharedT := st8 (T_p6 w.params) 47 278 os
noncomputable abbrev S_p7 (w : World) (os : OsState) : SharedT := st8 (T_p7 w.params) 54 285 os
noncomputable abbrev S_p8 (w : World) (os : OsState) : SharedT := st8 (T_p8 w.params) 93 2236 os
noncomputable abbrev S_p9 (w : World) (os : OsState) : SharedT := st8 (T_p9 w.params) 100 2244 os
noncomputable abbrev S_p10 (w : World) (os : OsState) : SharedT := st8 (T_p10 w.params) 100 2246 os
noncomputable abbrev S_p11 (w : World) (os : OsState) : SharedT := st8 (T_p11 w.params) 107 2255 os
noncomputable abbrev S_p12 (w : World) (os : OsState) : SharedT := st8 (T_p12 w.params) 114 2262 os
noncomputable abbrev S_p13 (w : World) (os : OsState) : SharedT := st8 (T_p13 w.params) 121 2272 os
noncomputable abbrev S_p14 (w : World) (os : OsState) : SharedT := st8 (T_p14 w.params) 128 2285 os
noncomputable abbrev S_p15 (w : World) (os : OsState) : SharedT := st8 (T_p15 w.params) 135 2295 os
noncomputable abbrev S_p16 (w : World) (os : OsState) : SharedT := st8 (T_p16 w.params) 140 2301 os
noncomputable abbrev S_p17 (w : World) (os : OsState) : SharedT := st8 (T_p17 w.params) 145 2307 os
noncomputable abbrev S_p18 (w : World) (os : OsState) : SharedT := st8 (T_p18 w.params) 150 2313 os
end
end Mine
end
section
open PySem PySem.W PyProof.Rows
set_option maxRecDepth 100000
set_option maxHeartbeats 0
namespace Mine
theorem seg_0 (w : World) (os : OsState) (pos : Pos) : segRunT treeTable prog w 11 ann 1 10 (S_pre w os) (piecesOf [stAt 0] benv cE pos [topFrame p0]) = some (.next, S_p0 w os, cE, stPos 0) := by kernel_rfl
theorem seg_1 (w : World) (os : OsState) (pos : Pos) : segRunT treeTable prog w 11 ann 1 33 (S_p0 w os) (piecesOf [stAt 1] benv cE pos [topFrame p0]) = some (.next, S_p1 w os, cE, stPos 1) := by kernel_rfl
theorem seg_2 (w : World) (os : OsState) (pos : Pos) : segRunT treeTable prog w 11 ann 1 10 (S_p1 w os) (piecesOf [stAt 2] benv cE pos [topFrame p0]) = some (.next, S_p2 w os, cE, stPos 2) := by kernel_rfl
theorem seg_3 (w : World) (os : OsState) (pos : Pos) : segRunT treeTable prog w 11 ann 1 31 (S_p2 w os) (piecesOf [stAt 3] benv cE pos [topFrame p0]) = some (.next, S_p3 w os, cE, stPos 3) := by kernel_rfl
theorem seg_4 (w : World) (os : OsState) (pos : Pos) : segRunT treeTable prog w 11 ann 1 30 (S_p3 w os) (piecesOf [stAt 4] benv cE pos [topFrame p0]) = some (.next, S_p4 w os, cE, stPos 4) := by kernel_rfl
theorem seg_5 (w : World) (os : OsState) (pos : Pos) : segRunT treeTable prog w 11 ann 1 10 (S_p4 w os) (piecesOf [stAt 5] benv cE pos [topFrame p0]) = some (.next, S_p5 w os, cE, stPos 5) := by kernel_rfl
theorem seg_7 (w : World) (os : OsState) (pos : Pos) : segRunT treeTable prog w 11 ann 1 30 (S_p6 w os) (piecesOf [stAt 7] benv cE pos [topFrame p0]) = some (.next, S_p7 w os, cE, stPos 7) := by kernel_rfl
theorem seg_9 (w : World) (os : OsState) (pos : Pos) : segRunT treeTable prog w 11 ann 1 31 (S_p8 w os) (piecesOf [stAt 9] benv cE pos [topFrame p0]) = some (.next, S_p9 w os, cE, stPos 9) := by kernel_rfl
theorem seg_10 (w : World) (os : OsState) (pos : Pos) : segRunT treeTable prog w 11 ann 1 10 (S_p9 w os) (piecesOf [stAt 10] benv cE pos [topFrame p0]) = some (.next, S_p10 w os, cE, stPos 10) := by kernel_rfl
theorem seg_11 (w : World) (os : OsState) (pos : Pos) : segRunT treeTable prog w 11 ann 1 32 (S_p10 w os) (piecesOf [stAt 11] benv cE pos [topFrame p0]) = some (.next, S_p11 w os, cE, stPos 11) := by kernel_rfl
theorem seg_12 (w : World) (os : OsState) (pos : Pos) : segRunT treeTable prog w 11 ann 1 30 (S_p11 w os) (piecesOf [stAt 12] benv cE pos [topFrame p0]) = some (.next, S_p12 w os, cE, stPos 12) := by kernel_rfl
theorem seg_13 (w : World) (os : OsState) (pos : Pos) : segRunT treeTable prog w 11 ann 1 33 (S_p12 w os) (piecesOf [stAt 13] benv cE pos [topFrame p0]) = some (.next, S_p13 w os, cE, stPos 13) := by kernel_rfl
theorem seg_14 (w : World) (os : OsState) (pos : Pos) : segRunT treeTable prog w 11 ann 1 36 (S_p13 w os) (piecesOf [stAt 14] benv cE pos [topFrame p0]) = some (.next, S_p14 w os, cE, stPos 14) := by kernel_rfl
theorem seg_15 (w : World) (os : OsState) (pos : Pos) : segRunT treeTable prog w 11 ann 1 33 (S_p14 w os) (piecesOf [stAt 15] benv cE pos [topFrame p0]) = some (.next, S_p15 w os, cE, stPos 15) := by kernel_rfl
theorem seg_16 (w : World) (os : OsState) (pos : Pos) : segRunT treeTable prog w 11 ann 1 27 (S_p15 w os) (piecesOf [stAt 16] benv cE pos [topFrame p0]) = some (.next, S_p16 w os, cE, stPos 16) := by kernel_rfl
theorem seg_17 (w : World) (os : OsState) (pos : Pos) : segRunT treeTable prog w 11 ann 1 27 (S_p16 w os) (piecesOf [stAt 17] benv cE pos [topFrame p0]) = some (.next, S_p17 w os, cE, stPos 17) := by kernel_rfl
theorem seg_18 (w : World) (os : OsState) (pos : Pos) : segRunT treeTable prog w 11 ann 1 27 (S_p17 w os) (piecesOf [stAt 18] benv cE pos [topFrame p0]) = some (.next, S_p18 w os, cE, stPos 18) := by kernel_rfl
end Mine
end
section
open PySem PySem.W PyProof.Rows
set_option maxRecDepth 100000
set_option maxHeartbeats 0
namespace Mine
noncomputable def St6 (w : World) : Prop := ∀ (os : OsState) (pos : Pos), segRunT treeTable prog w 11 ann 1 1200 (S_p5 w os) (piecesOf [stAt 6] benv cE pos [topFrame p0]) = some (.next, S_p6 w os, cE, stPos 6)
theorem seg_6_ff (w : World) : St6 ((w.withFollow "special-get-raises" false).withFollow "set-order" false) := by
  intro os pos
  unfold piecesOf
  rw [Fast.te10110043849684766642, Fast.te14364793385576792824, Fast.te12563942051412417395]
  kernel_rfl
theorem seg_6_ft (w : World) : St6 ((w.withFollow "special-get-raises" true).withFollow "set-order" false) := by
  intro os pos
  unfold piecesOf
  rw [Fast.te10110043849684766642, Fast.te14364793385576792824, Fast.te12563942051412417395]
  kernel_rfl
theorem seg_6_tf (w : World) : St6 ((w.withFollow "special-get-raises" false).withFollow "set-order" true) := by
  intro os pos
  unfold piecesOf
  rw [Fast.te10110043849684766642, Fast.te14364793385576792824, Fast.te12563942051412417395]
  kernel_rfl
theorem seg_6_tt (w : World) : St6 ((w.withFollow "special-get-raises" true).withFollow "set-order" true) := by
  intro os pos
  unfold piecesOf
  rw [Fast.te10110043849684766642, Fast.te14364793385576792824, Fast.te12563942051412417395]
  kernel_rfl
theorem seg_6 (w : World) : St6 w :=
  byRow2 "set-order" (P := St6) (byRow2 "special-get-raises" (P := fun w => St6 (w.withFollow "set-order" false)) seg_6_ff seg_6_ft)
    (byRow2 "special-get-raises" (P := fun w => St6 (w.withFollow "set-order" true)) seg_6_tf seg_6_tt) w
end Mine
end
section
open PySem PySem.W PyProof.Rows
set_option maxRecDepth 100000
set_option maxHeartbeats 400000
namespace Mine
noncomputable abbrev Pairs := List (Sem Value × Sem Value)
/-- what a full run of pairs does behind the first one -/
noncomputable def joinIn (d : Addr) (run : Pairs) : Sem (Option Addr) :=
  (holding [.ref d] (subDict run)).bind fun sub =>
    ((holding [.ref d, .ref sub] (mergeMapping d (.ref sub) false)).onRaise fun x => (holding [.ref d, x] (runValue (.builtin "proto.let_go" {}))).bind fun _ => .pure ()).bind fun _ => .pure (some d)
noncomputable def firstIn (run : Pairs) : Sem (Option Addr) := (subDict run).bind fun d => .pure (some d)
noncomputable def flushIn (run : Pairs) : Option Addr → Sem (Option Addr)
  | none => firstIn run
  | some d => joinIn d run
noncomputable def lastIn (run : Pairs) (main : Option Addr) : Sem Value :=
  (flushIn run main).bind fun m => match m with
    | some d => .pure (.ref d)
    | none => newDict
noncomputable def chunksIn (last : Pairs) : List Pairs → Option Addr → Sem Value
  | [], main => lastIn last main
  | c :: cs, main => (flushIn c main).bind fun m => chunksIn last cs m
noncomputable def asItems (run : Pairs) : List (Option (Sem Value) × Sem Value) := run.map fun p => (some p.1, p.2)

theorem sem_bind_assoc {α β γ : Type} (m : Sem α) (f : α → Sem β) (g : β → Sem γ) : (m.bind f).bind g = m.bind fun a => (f a).bind g := by
  rw [Sem.bind_eq_wrap, Sem.bind_eq_wrap, Sem.bind_eq_wrap, Sem.wrap_wrap]
  exact Sem.wrap_congr _ _ _ (fun a => (Sem.bind_eq_wrap _ _).symm) (fun _ => rfl)

section
variable {F : List (Sem Value × Sem Value) → Option Addr → Sem (Option Addr)} {body : (Option (Sem Value) × Sem Value) → (Option Addr × Pairs) → Sem (ForInStep (Option Addr × Pairs))}
  (hb : ∀ k v main run, body (some k, v) (main, run) = if ((run ++ [(k, v)]).length == 17) = true then (F (run ++ [(k, v)]) main).bind fun m => .pure (ForInStep.yield (m, [])) else .pure (ForInStep.yield (main, run ++ [(k, v)])))
include hb
theorem loop_short (rest : List (Option (Sem Value) × Sem Value)) (main : Option Addr) : ∀ (c run : Pairs), (run ++ c).length < 17 →
    forIn (asItems c ++ rest) (main, run) body = forIn rest (main, run ++ c) body
  | [], run, _ => by simp [asItems]
  | (k, v) :: c, run, h => by
    have h1 : ¬ ((run ++ [(k, v)]).length == 17) = true := by
      simp only [List.length_append, List.length_cons, List.length_nil, beq_iff_eq] at h ⊢; omega
    show forIn ((some k, v) :: (asItems c ++ rest)) (main, run) body = _
    rw [List.forIn_cons]
    show (body (some k, v) (main, run)).bind _ = _
    rw [hb, if_neg h1]
    show forIn (asItems c ++ rest) (main, run ++ [(k, v)]) body = _
    rw [loop_short rest main c (run ++ [(k, v)]) (by simpa using h)]
    simp
theorem loop_full (rest : List (Option (Sem Value) × Sem Value)) (main : Option Addr) (c : Pairs) (h : c.length = 17) :
    forIn (asItems c ++ rest) (main, ([] : Pairs)) body = (F c main).bind fun m => forIn rest (m, []) body := by
  have hne : c ≠ [] := by rintro rfl; simp at h
  obtain ⟨c', x, rfl⟩ : ∃ c' x, c = c' ++ [x] := ⟨c.dropLast, c.getLast hne, (List.dropLast_concat_getLast hne).symm⟩
  obtain ⟨k, v⟩ := x
  have hc' : c'.length = 16 := by simpa using h
  have e : asItems (c' ++ [(k, v)]) ++ rest = asItems c' ++ ((some k, v) :: rest) := by simp [asItems]
  rw [e, loop_short hb _ main c' [] (by simpa using (by omega : c'.length < 17))]
  rw [List.forIn_cons]
  show (body (some k, v) (main, [] ++ c')).bind _ = _
  rw [hb, if_pos (by simp [hc'])]
  rw [List.nil_append, sem_bind_assoc]
  rfl
theorem loop_all (last : Pairs) (hl2 : last.length < 17) : ∀ (cs : List Pairs) (main : Option Addr), (∀ c ∈ cs, c.length = 17) →
    ∀ (Z : (Option Addr × Pairs) → Sem Value), (forIn (asItems (cs.flatten ++ last)) (main, ([] : Pairs)) body).bind Z = cs.foldr (fun c (k : Option Addr → Sem Value) => fun m => (F c m).bind k) (fun m => Z (m, last)) main
  | [], main, _, Z => by
    have := loop_short hb [] main last [] (by simpa using hl2)
    rw [List.append_nil] at this
    simp only [List.flatten_nil, List.nil_append, List.foldr_nil, this]
    rfl
  | c :: cs, main, hc, Z => by
    have e : asItems ((c :: cs).flatten ++ last) = asItems c ++ asItems (cs.flatten ++ last) := by simp [asItems]
    rw [e, loop_full hb _ main c (hc c (.head _)), sem_bind_assoc]
    simp only [List.foldr_cons]
    congr 1
    funext m
    exact loop_all last hl2 cs m (fun c' h' => hc c' (.tail _ h')) Z
end

theorem display_of (last : Pairs) (hl : last ≠ []) (hl2 : last.length < 17) (cs : List Pairs) (hc : ∀ c ∈ cs, c.length = 17) :
    dictDisplay (asItems (cs.flatten ++ last)) = chunksIn last cs none := by
  unfold dictDisplay
  extract_lets flush
  have hf : ∀ c main, c ≠ [] → flush c main = flushIn c main := by
    intro c main hn
    have : c.isEmpty = false := by cases c <;> simp_all
    simp only [flush, this, Bool.false_eq_true, if_false]
    cases main <;> rfl
  refine (loop_all (F := flush) ?_ last hl2 cs none hc _).trans ?_
  · intro k v main run
    dsimp only
    split <;> rfl
  · have : ∀ (cs : List Pairs) (main : Option Addr), (∀ c ∈ cs, c.length = 17) → List.foldr (fun c (k : Option Addr → Sem Value) => fun m => (flush c m).bind k) (fun m => (flush last m).bind fun r => match r with | some d => pure (Value.ref d) | none => newDict) cs main = chunksIn last cs main := by
      intro cs
      induction cs with
      | nil => intro main _; simp only [List.foldr_nil, chunksIn, lastIn, hf last main hl]; rfl
      | cons c cs ih =>
        intro main hc
        have hn : c ≠ [] := by rintro rfl; simpa using hc [] (.head _)
        simp only [List.foldr_cons, chunksIn, hf c main hn]
        congr 1
        funext m
        exact ih m fun c' h' => hc c' (.tail _ h')
    exact this cs none hc
end Mine
end
section
open PySem PySem.W PyProof.Rows
set_option maxRecDepth 100000
set_option maxHeartbeats 1000000
namespace Mine
noncomputable abbrev Bp : List Frame := [topFrame p0]
noncomputable abbrev tRun (w : World) := topRun treeTable prog w 11 ann
/-- the tree m goes from s to a, s' in n steps, whatever stands behind it -/
noncomputable def Go {α : Type} (w : World) (n : Nat) (m : Sem α) (s : Shared) (pos : Pos) (a : α) (s' : Shared) (pos' : Pos) : Prop :=
  ∀ (K : α → Sem Fin) (H : Value → Sem Fin) (gd : Bool → Bool) (lv : List Value → List Value) (N : Nat) (r : Shared),
    tRun w N s' ⟨K a, cE, pos', Bp⟩ = some r → tRun w (N + n) s ⟨m.wrap K H gd lv, cE, pos, Bp⟩ = some r
variable {α β : Type} {w : World} {s s' s₁ : Shared} {pos pos' pos₁ : Pos} {n n' : Nat}
theorem Go.pure {a : α} : Go w 0 (Sem.pure a) s pos a s pos := fun _ _ _ _ _ _ h => h
theorem Go.bind {m : Sem α} {f : α → Sem β} {a : α} {b : β} (h : Go w n m s pos a s₁ pos₁) (k : Go w n' (f a) s₁ pos₁ b s' pos') : Go w (n' + n) (m.bind f) s pos b s' pos' := by
  intro K H gd lv N r e
  rw [Sem.bind_eq_wrap, Sem.wrap_wrap, ← Nat.add_assoc]
  exact h _ _ _ _ _ _ (k K H gd lv N r e)
theorem Go.keep {m : Sem α} {a : α} (vs : List Value) (h : Go w n m s pos a s' pos') : Go w n (m.keep vs) s pos a s' pos' := by
  intro K H gd lv N r e
  rw [Sem.keep_eq_wrap, Sem.wrap_wrap]
  exact h _ _ _ _ _ _ e
theorem Go.hold {m : Sem α} {a : α} (vs : List Value) (h : Go w n m s pos a s' pos') : Go w n (holding vs m) s pos a s' pos' := by
  unfold holding
  split
  · exact h
  · exact h.keep _
theorem Go.onRaise {m : Sem α} {a : α} {k : Value → Sem Unit} (h : Go w n m s pos a s' pos') : Go w n (m.onRaise k) s pos a s' pos' := by
  intro K H gd lv N r e
  rw [Sem.onRaise_eq_wrap, Sem.wrap_wrap]
  exact h _ _ _ _ _ _ e
theorem go_step {t : Sem Fin} {s₁ : Shared} {t₁ : Thread} {N : Nat} {r : Shared} (hp : ∀ f, t ≠ .pure f) (hok : stepOk 11 ann ⟨t, cE, pos, Bp⟩ = true) (hs : step (denote treeTable) prog w s ⟨t, cE, pos, Bp⟩ = .go s₁ t₁)
    (k : tRun w N s₁ t₁ = some r) : tRun w (N + 1) s ⟨t, cE, pos, Bp⟩ = some r := by
  unfold tRun topRun
  have ht : through ⟨t, cE, pos, Bp⟩ = false := rfl
  rw [ht, hok, hs]
  exact k
theorem Go.rule {tag : String} : Go w 1 (PySem.rule tag) s pos () s pos := fun K H gd lv N r e => by
  obtain ⟨heap, gens, drawn, toks, os⟩ := s
  exact go_step (by intro f h; cases h) rfl rfl e
theorem Go.at {p : Pos} : Go w 1 (standAt p) s pos () s p := fun K H gd lv N r e => by
  obtain ⟨heap, gens, drawn, toks, os⟩ := s
  exact go_step (by intro f h; cases h) rfl rfl e
theorem Go.point : Go w 1 PySem.point s pos () s pos := fun K H gd lv N r e => by
  obtain ⟨heap, gens, drawn, toks, os⟩ := s
  exact go_step (by intro f h; cases h) rfl rfl e
theorem Go.fresh : Go w 1 PySem.fresh s pos s.toks { s with toks := s.toks + 1 } pos := fun K H gd lv N r e => by
  obtain ⟨heap, gens, drawn, toks, os⟩ := s
  exact go_step (by intro f h; cases h) rfl rfl e
theorem Go.load {a : Addr} {part : Option Value} {o : Obj} (ho : s.heap.get? a = some o) : Go w 1 (loadPart a part) s pos o s pos := fun K H gd lv N r e => by
  obtain ⟨heap, gens, drawn, toks, os⟩ := s
  refine go_step (s₁ := ⟨heap, gens, drawn, toks, os⟩) (by intro f h; cases h) rfl ?_ e
  show step _ _ _ _ ⟨.load a part _, cE, pos, Bp⟩ = _
  simp only [step]
  rw [show heap.get? a = some o from ho]
  rfl
theorem Go.update {a : Addr} {part : Option Value} {f : Obj → Obj} {o : Obj} (ho : s.heap.get? a = some o) (ha : 11 ≤ a) : Go w 1 (updatePart a part f) s pos () { s with heap := s.heap.update a f } pos := fun K H gd lv N r e => by
  obtain ⟨heap, gens, drawn, toks, os⟩ := s
  have hok : stepOk 11 ann ⟨.update a part f fun x => ((Sem.pure x : Sem Unit)).wrap K H gd lv, cE, pos, Bp⟩ = true := by
    show (true && (Nat.ble 11 a || _ || _ || _)) = true
    rw [show Nat.ble 11 a = true from Nat.ble_eq_true_of_le ha]; rfl
  refine go_step (s₁ := ⟨heap.update a f, gens, drawn, toks, os⟩) (by intro f h; cases h) hok ?_ e
  show step _ _ _ _ ⟨.update a part f _, cE, pos, Bp⟩ = _
  simp only [step]
  rw [show heap.get? a = some o from ho]
  rfl
theorem Go.alloc {o : Obj} : Go w 1 (PySem.alloc o) s pos s.heap.objs.size { s with heap := s.heap.push o } pos := fun K H gd lv N r e => by
  obtain ⟨heap, gens, drawn, toks, os⟩ := s
  exact go_step (by intro f h; cases h) rfl rfl e
theorem Go.of_seg {m : Sem α} {a : α} (res : α → Flow) (hres : ∀ b, res b = res a → b = a)
    (h : ∀ (gd : Bool → Bool) (lv : List Value → List Value), segRun treeTable prog w 11 ann 1 n s ⟨m.wrap (fun a => .pure (.done (res a))) deadEnd gd lv, cE, pos, Bp⟩ = some (res a, s', cE, pos')) : Go w n m s pos a s' pos' := by
  intro K H gd lv N r e
  obtain ⟨b, hb, hN⟩ := seg_top (res := res) (K' := K) (H' := H) (gd := gd) (lv := lv) (B := Bp) rfl n s ⟨m.wrap (fun a => .pure (.done (res a))) deadEnd gd lv, cE, pos, Bp⟩ ⟨m.wrap K H gd lv, cE, pos, Bp⟩ _ _ _ _ ⟨rfl, rfl, .inl ⟨rfl, rfl, m, rfl, rfl⟩⟩ (h gd lv)
  obtain rfl := hres b hb
  rw [Nat.add_comm]
  exact hN N r e
end Mine
end
section
open PySem PySem.W PyProof.Rows
set_option maxRecDepth 100000
set_option maxHeartbeats 1000000
namespace Mine
theorem spec_hash (k : Int) (t : Tok) : specialOf (.int k t) "__hash__" = Sem.pure (some (.builtin "int.__hash__")) := by kernel_rfl
theorem pyHash_int_eq (k : Int) (t : Tok) : ∃ (refuse : Sem Value) (cont : Option Value → Sem Int), pyHash (.int k t) = (callSpecialIfBoundUnlessNone? (.int k t) "__hash__" refuse).bind cont ∧ ∀ i u, cont (some (.int i u)) = pyHashByItsType.reduced i := by
  unfold pyHash pyHashByItsType
  dsimp only
  rw [spec_hash]
  exact ⟨_, _, rfl, fun _ _ => rfl⟩
noncomputable def resV : Option Value → Flow | some v => .ret v | none => .next
noncomputable def hashI (x : Int) : Int := let h : Int := x.natAbs % (2 ^ 61 - 1 : Nat)
  let h := if x < 0 then -h else h
  if h == -1 then -2 else h
noncomputable def Hs (w : World) : Prop := ∀ (k : Int) (t : Tok) (refuse : Sem Value) (gd : Bool → Bool) (lv : List Value → List Value) (s : Shared) (pos : Pos),
  segRun treeTable prog w 11 ann 1 40 s ⟨(callSpecialIfBoundUnlessNone? (.int k t) "__hash__" refuse).wrap (fun a => .pure (.done (resV a))) deadEnd gd lv, cE, pos, Bp⟩ =
    some (resV (some (.int (hashI k) s.toks)), { s with toks := s.toks + 1 }, cE, pos)
theorem hs_f (w : World) : Hs (w.withFollow "special-get-raises" false) := by
  intro k t refuse gd lv s pos
  obtain ⟨heap, gens, drawn, toks, os⟩ := s
  kernel_rfl
theorem hs_t (w : World) : Hs (w.withFollow "special-get-raises" true) := by
  intro k t refuse gd lv s pos
  obtain ⟨heap, gens, drawn, toks, os⟩ := s
  kernel_rfl
theorem hs (w : World) : Hs w := byRow2 "special-get-raises" (P := Hs) hs_f hs_t w
end Mine
end
section
open PySem PySem.W PyProof.Rows
set_option maxRecDepth 100000
set_option maxHeartbeats 1000000
namespace Mine
variable {α β : Type} {w : World} {s s' s₁ : Shared} {pos pos' pos₁ : Pos} {n n' : Nat}

theorem hashI_small {k : Int} (h0 : 0 ≤ k) (h1 : k < 2 ^ 40) : hashI k = k := by
  unfold hashI
  have e : ((k.natAbs % (2 ^ 61 - 1 : Nat) : Nat) : Int) = k := by
    rw [Nat.mod_eq_of_lt (by omega)]; omega
  have : (k.natAbs : Int) % ((2 ^ 61 - 1 : Nat) : Int) = k := by omega
  simp only [this, if_neg (show ¬ k < 0 by omega)]
  rw [if_neg (by simp; omega)]
theorem go_pyHash {k : Int} {t : Tok} (h0 : 0 ≤ k) (h1 : k < 2 ^ 40) : Go w 40 (pyHash (.int k t)) s pos k { s with toks := s.toks + 1 } pos := by
  obtain ⟨refuse, cont, e, hc⟩ := pyHash_int_eq k t
  rw [e]
  refine Go.bind (n := 40) (n' := 0) (Go.of_seg resV ?_ (hs w k t refuse · · s pos)) ?_
  · intro b hb
    cases b with
    | none => cases hb
    | some v => injection hb with hb; rw [hb]
  · rw [hc, hashI_small h0 h1]
    unfold pyHashByItsType.reduced
    rw [if_pos (by simp only [Bool.and_eq_true, decide_eq_true_eq]; omega), if_neg (by simp; omega)]
    exact Go.pure

theorem go_dictEntries {d : Addr} {part : Option Value} {es : Array DictEntry} {ep : Nat} (ho : s.heap.get? d = some (dOb es ep)) : Go w 1 (dictEntries d part) s pos es s pos :=
  Go.bind (n := 1) (n' := 0) (Go.load ho) Go.pure
theorem go_dictEpoch {d : Addr} {part : Option Value} {es : Array DictEntry} {ep : Nat} (ho : s.heap.get? d = some (dOb es ep)) : Go w 1 (dictEpoch d part) s pos ep s pos :=
  Go.bind (n := 1) (n' := 0) (Go.load ho) Go.pure
theorem places_nil {es : Array DictEntry} {k : Int} (h : ∀ e ∈ es.toList, e.hash ≠ k) : placesWithHash es.size (fun i => es[i]?.map (·.hash)) k = [] := by
  unfold placesWithHash
  refine List.filter_eq_nil_iff.mpr fun i hi => ?_
  have hi : i < es.size := List.mem_range.mp hi
  simp only [Array.getElem?_eq_getElem hi, Option.map_some, beq_iff_eq, Option.some.injEq]
  exact h _ (by simp)
theorem go_dictFind {d : Addr} {es : Array DictEntry} {ep : Nat} {k : Int} {t : Tok} (ho : s.heap.get? d = some (dOb es ep)) (h : ∀ e ∈ es.toList, e.hash ≠ k) :
    Go w 1 (dictFind d (.int k t) k) s pos none s pos := by
  unfold dictFind
  refine Go.hold _ (Go.bind (n := 1) (n' := 0) (go_dictEntries ho) ?_)
  dsimp only
  rw [places_nil h]
  exact Go.pure
theorem go_updateKeys {d : Addr} {part : Option Value} {es : Array DictEntry} {ep : Nat} {f : Array DictEntry → Array DictEntry} (hd : 11 ≤ d) (ho : s.heap.get? d = some (dOb es ep)) (hf : (f es).size ≤ 1000) :
    Go w 3 (updateDictKeys d f part) s pos () { s with heap := s.heap.update d (Obj.mapDictKeys f) } pos := by
  have ho' : (s.heap.update d (Obj.mapDictKeys f)).get? d = some (dOb (f es) (ep + 1)) := Heap.get?_update_self _ ho rfl
  refine Go.bind (n := 1) (n' := 2) (Go.load ho) ?_
  refine Go.bind (n := 1) (n' := 1) (Go.update ho hd) ?_
  refine Go.bind (n := 1) (n' := 0) (Go.load ho') ?_
  have : ¬ (f es).size > sizeLine + 1 := by have := sizeLine_eq; omega
  simp only [Data.pastItsLine, if_neg this]
  exact Go.pure
noncomputable def put1 (k : Int) (t : Tok) (v : Value) : Obj → Obj := Obj.mapDictKeys (·.push ⟨k, .int k t, v⟩)
theorem go_dictPut {d : Addr} {es : Array DictEntry} {ep : Nat} {k : Int} {t : Tok} {v : Value} (hd : 11 ≤ d) (ho : s.heap.get? d = some (dOb es ep)) (h : ∀ e ∈ es.toList, e.hash ≠ k) (hs : es.size < 1000) :
    Go w 4 (dictPut d k (.int k t) v) s pos () { s with heap := s.heap.update d (put1 k t v) } pos := by
  unfold dictPut
  exact Go.bind (n := 1) (n' := 3) (go_dictFind ho h) (go_updateKeys hd ho (by simp only [Array.size_push]; omega))
theorem go_dictSet {d : Addr} {es : Array DictEntry} {ep : Nat} {k : Int} {t : Tok} {v : Value} (hd : 11 ≤ d) (ho : s.heap.get? d = some (dOb es ep)) (h : ∀ e ∈ es.toList, e.hash ≠ k) (hs : es.size < 1000) (h0 : 0 ≤ k) (h1 : k < 2 ^ 40) :
    Go w 45 (dictSet d (.int k t) v) s pos () { s with heap := s.heap.update d (put1 k t v), toks := s.toks + 1 } pos := by
  unfold dictSet dictSetHashed
  refine Go.hold _ (Go.bind (n := 40) (n' := 5) (go_pyHash h0 h1) (Go.hold _ ?_))
  refine Go.bind (n := 1) (n' := 4) (go_dictFind (s := { s with toks := s.toks + 1 }) ho h) ?_
  exact Go.bind (n := 1) (n' := 3) Go.rule (go_updateKeys (s := { s with toks := s.toks + 1 }) hd ho (by simp only [Array.size_push]; omega))

noncomputable abbrev pushE (e : DictEntry) : Obj → Obj := Obj.mapDictKeys (·.push e)
noncomputable def fill (d : Addr) (h : Heap) (es : List DictEntry) : Heap := es.foldl (fun h e => h.update d (pushE e)) h
theorem fill_get {d : Addr} : ∀ (l : List DictEntry) (h : Heap) (es : Array DictEntry) (ep : Nat), h.get? d = some (dOb es ep) → (fill d h l).get? d = some (dOb (es ++ l.toArray) (ep + l.length))
  | [], h, es, ep, ho => by simpa [fill] using ho
  | e :: l, h, es, ep, ho => by
    have := fill_get l (h.update d (pushE e)) (es.push e) (ep + 1) (Heap.get?_update_self _ ho rfl)
    rw [show fill d h (e :: l) = fill d (h.update d (pushE e)) l from rfl, this]
    simp only [List.length_cons]
    congr 2
    · simp
    · omega
theorem fill_other {d b : Addr} (hb : d ≠ b) : ∀ (l : List DictEntry) (h : Heap), (fill d h l).get? b = h.get? b
  | [], h => rfl
  | e :: l, h => by rw [show fill d h (e :: l) = fill d (h.update d (pushE e)) l from rfl, fill_other hb l, Heap.get?_update_other _ _ hb]
theorem fill_append {d : Addr} (a b : List DictEntry) (h : Heap) : fill d h (a ++ b) = fill d (fill d h a) b := by simp [fill]
theorem entsL_length : ∀ (l : List (Int × Str)) (tk : Nat), (entsL tk l).length = l.length
  | [], _ => rfl
  | (k, x) :: r, tk => by simp [entsL, entsL_length r]
theorem entsS_length : ∀ (l : List (Int × Str)) (tk : Nat), (entsS tk l).length = l.length
  | [], _ => rfl
  | (k, x) :: r, tk => by simp [entsS, entsS_length r]
theorem entsL_hash : ∀ (l : List (Int × Str)) (tk : Nat), (entsL tk l).map (·.hash) = l.map (·.1)
  | [], _ => rfl
  | (k, x) :: r, tk => by simp [entsL, entsL_hash r]
theorem entsS_hash : ∀ (l : List (Int × Str)) (tk : Nat), (entsS tk l).map (·.hash) = l.map (·.1)
  | [], _ => rfl
  | (k, x) :: r, tk => by simp [entsS, entsS_hash r]
inductive All2 {α β : Type} (R : α → β → Prop) : List α → List β → Prop
  | nil : All2 R [] []
  | cons {a : α} {b : β} {l₁ : List α} {l₂ : List β} : R a b → All2 R l₁ l₂ → All2 R (a :: l₁) (b :: l₂)
theorem All2.length {α β : Type} {R : α → β → Prop} {l₁ : List α} {l₂ : List β} (h : All2 R l₁ l₂) : l₁.length = l₂.length := by
  induction h with
  | nil => rfl
  | cons _ _ ih => simp [ih]
/-- the pair's trees make an int and a text -/
noncomputable def KV (posD : Pos) (w : World) (p : Sem Value × Sem Value) (q : Int × Str) : Prop :=
  (∀ s pos, Go w 1 p.1 s pos (.int q.1 s.toks) { s with toks := s.toks + 1 } pos) ∧ (∀ s pos, Go w 2 p.2 s pos (.str q.2 s.toks) { s with toks := s.toks + 1 } posD)
noncomputable def Small (l : List (Int × Str)) : Prop := ∀ q ∈ l, 0 ≤ q.1 ∧ q.1 < 2 ^ 40
theorem fresh_of {es : Array DictEntry} {k : Int} {ks : List Int} (h : (es.toList.map (·.hash) ++ k :: ks).Nodup) : ∀ e ∈ es.toList, e.hash ≠ k := by
  intro e he hk
  have := (List.nodup_append.mp h).2.2 e.hash (List.mem_map.mpr ⟨e, he, rfl⟩) k (.head _)
  exact this hk
theorem nodup_push {es : Array DictEntry} {e : DictEntry} {ks : List Int} (h : (es.toList.map (·.hash) ++ e.hash :: ks).Nodup) : ((es.push e).toList.map (·.hash) ++ ks).Nodup := by
  simpa using h
theorem go_loopL {posD : Pos} {d : Addr} (hd : 11 ≤ d) : ∀ (ps : Pairs) (qs : List (Int × Str)), All2 (KV posD w) ps qs → Small qs → ∀ (s : Shared) (pos : Pos) (es : Array DictEntry) (ep : Nat), s.heap.get? d = some (dOb es ep) → (es.toList.map (·.hash) ++ qs.map (·.1)).Nodup → es.size + qs.length ≤ 1000 →
    Go w (48 * qs.length) (forIn ps PUnit.unit (fun (x : Sem Value × Sem Value) (_ : PUnit) => do
        let kv ← x.1
        let vv ← holding [kv] x.2
        holding [kv, vv] (dictSet d kv vv)
        pure (ForInStep.yield PUnit.unit))) s pos PUnit.unit { s with heap := fill d s.heap (entsL s.toks qs), toks := s.toks + 3 * qs.length } (if qs = [] then pos else posD)
  | _, _, .nil, _, s, pos, es, ep, ho, hn, hz => Go.pure
  | _, _, .cons (a := p) (b := (k, x)) (l₁ := ps) (l₂ := qs) hp hr, hsm, s, pos, es, ep, ho, hn, hz => by
    have hk := hsm _ (.head _)
    simp only [List.map_cons] at hn
    simp only [List.length_cons] at hz
    rw [List.forIn_cons]
    have e1 : Go w 48 (p.1.bind fun kv => (holding [kv] p.2).bind fun vv => (holding [kv, vv] (dictSet d kv vv)).bind fun _ => .pure (ForInStep.yield PUnit.unit)) s pos (ForInStep.yield PUnit.unit)
        { s with heap := s.heap.update d (pushE ⟨k, .int k s.toks, .str x (s.toks + 1)⟩), toks := s.toks + 3 } posD := by
      refine Go.bind (n := 1) (n' := 47) (hp.1 s pos) ?_
      refine Go.bind (n := 2) (n' := 45) (Go.hold _ (hp.2 _ _)) ?_
      exact Go.bind (n := 45) (n' := 0) (Go.hold _ (go_dictSet (w := w) (s := { s with toks := s.toks + 1 + 1 }) (pos := posD) (t := s.toks) (v := .str x (s.toks + 1)) hd ho (fresh_of hn) (by omega) hk.1 hk.2)) Go.pure
    have ih := go_loopL hd ps qs hr (fun q hq => hsm q (.tail _ hq)) { s with heap := s.heap.update d (pushE ⟨k, .int k s.toks, .str x (s.toks + 1)⟩), toks := s.toks + 3 } posD (es.push ⟨k, .int k s.toks, .str x (s.toks + 1)⟩) (ep + 1)
      (Heap.get?_update_self _ ho rfl) (nodup_push (e := ⟨k, .int k s.toks, .str x (s.toks + 1)⟩) hn) (by simp only [Array.size_push]; omega)
    have hp' : (if qs = [] then posD else posD) = (if ((k, x) :: qs) = [] then pos else posD) := by simp
    rw [hp'] at ih
    simp only [List.length_cons, entsL, Nat.mul_add, Nat.mul_one]
    rw [show s.toks + (3 * qs.length + 3) = s.toks + 3 + 3 * qs.length by omega]
    refine Go.bind (n := 48) (n' := 48 * qs.length) e1 ?_
    exact ih
end Mine
end
section
open PySem PySem.W PyProof.Rows
set_option maxRecDepth 100000
set_option maxHeartbeats 1000000
namespace Mine
variable {α β : Type} {w : World} {s s' s₁ : Shared} {pos pos' pos₁ : Pos} {n n' : Nat}

theorem Go.then {m : Sem α} {f : α → Sem β} {a : α} {b : β} (h : Go w n m s pos a s' pos') (e : f a = Sem.pure b) : Go w n (m.bind f) s pos b s' pos' := by
  have := Go.bind (n' := 0) h (by rw [e]; exact Go.pure : Go w 0 (f a) s' pos' b s' pos')
  rwa [Nat.zero_add] at this
theorem go_subL {posD : Pos} {ps : Pairs} {qs : List (Int × Str)} (h : All2 (KV posD w) ps qs) (hs : Small qs) (hn : (qs.map (·.1)).Nodup) (h15 : 15 < qs.length) (hz : qs.length ≤ 1000) (hb : 11 ≤ s.heap.objs.size) :
    Go w (48 * qs.length + 2) (subDict ps) s pos s.heap.objs.size { s with heap := fill s.heap.objs.size (s.heap.push (dOb #[] 0)) (entsL s.toks qs), toks := s.toks + 3 * qs.length } posD := by
  have hl := h.length
  unfold subDict
  refine Go.bind (n := 1) (n' := 48 * qs.length + 1) Go.alloc ?_
  refine Go.then (n := 48 * qs.length + 1) (a := ()) (Go.hold _ ?_) rfl
  rw [if_neg (by omega)]
  refine Go.bind (n := 1) (n' := 48 * qs.length) Go.rule ?_
  have := go_loopL (w := w) hb ps qs h hs { s with heap := s.heap.push (dOb #[] 0) } pos #[] 0 (Heap.get?_push_size _ rfl) (by simpa using hn) (by simpa using hz)
  rw [if_neg (by rintro rfl; simp at h15)] at this
  exact Go.then this rfl

theorem go_evalPairs {posD : Pos} : ∀ (ps : Pairs) (qs : List (Int × Str)), All2 (KV posD w) ps qs → ∀ (s : Shared) (pos : Pos),
    Go w (3 * qs.length) (evalPairs ps) s pos ((entsS s.toks qs).map fun e => (e.key, e.val)) { s with toks := s.toks + 2 * qs.length } (if qs = [] then pos else posD)
  | _, _, .nil, s, pos => Go.pure
  | _, _, .cons (a := p) (b := (k, x)) (l₁ := ps) (l₂ := qs) hp hr, s, pos => by
    obtain ⟨a, b⟩ := p
    have ih := go_evalPairs ps qs hr { s with toks := s.toks + 2 } posD
    have hp' : (if qs = [] then posD else posD) = (if ((k, x) :: qs) = [] then pos else posD) := by simp
    rw [hp'] at ih
    simp only [List.length_cons, entsS, Nat.mul_add, Nat.mul_one, List.map_cons]
    rw [show s.toks + (2 * qs.length + 2) = s.toks + 2 + 2 * qs.length by omega, show 3 * qs.length + 3 = (3 * qs.length + 2) + 1 by omega]
    unfold evalPairs
    refine Go.bind (n := 1) (n' := 3 * qs.length + 2) (hp.1 s pos) ?_
    refine Go.bind (n := 2) (n' := 3 * qs.length) (Go.hold _ (hp.2 _ _)) ?_
    exact Go.then (n := 3 * qs.length) (Go.hold _ ih) rfl

noncomputable def IntE (e : DictEntry) : Prop := 0 ≤ e.hash ∧ e.hash < 2 ^ 40 ∧ ∃ t, e.key = .int e.hash t
theorem intE_S : ∀ (qs : List (Int × Str)) (tk : Nat), Small qs → ∀ e ∈ entsS tk qs, IntE e
  | [], _, _, e, he => by simp [entsS] at he
  | (k, x) :: r, tk, h, e, he => by
    simp only [entsS, List.mem_cons] at he
    rcases he with rfl | he
    · exact ⟨(h _ (.head _)).1, (h _ (.head _)).2, tk, rfl⟩
    · exact intE_S r _ (fun q hq => h q (.tail _ hq)) e he
theorem intE_L : ∀ (qs : List (Int × Str)) (tk : Nat), Small qs → ∀ e ∈ entsL tk qs, IntE e
  | [], _, _, e, he => by simp [entsL] at he
  | (k, x) :: r, tk, h, e, he => by
    simp only [entsL, List.mem_cons] at he
    rcases he with rfl | he
    · exact ⟨(h _ (.head _)).1, (h _ (.head _)).2, tk, rfl⟩
    · exact intE_L r _ (fun q hq => h q (.tail _ hq)) e he
theorem go_loopS {d : Addr} (hd : 11 ≤ d) : ∀ (l : List DictEntry), (∀ e ∈ l, IntE e) → ∀ (s : Shared) (pos : Pos) (es : Array DictEntry) (ep : Nat), s.heap.get? d = some (dOb es ep) → (es.toList.map (·.hash) ++ l.map (·.hash)).Nodup → es.size + l.length ≤ 1000 →
    Go w (45 * l.length) (forIn (l.map fun e => (e.key, e.val)) PUnit.unit (fun (x : Value × Value) (_ : PUnit) => do
        dictSet d x.1 x.2
        pure (ForInStep.yield PUnit.unit))) s pos PUnit.unit { s with heap := fill d s.heap l, toks := s.toks + l.length } pos
  | [], _, s, pos, es, ep, ho, hn, hz => Go.pure
  | ⟨k, key, v⟩ :: l, hi, s, pos, es, ep, ho, hn, hz => by
    obtain ⟨h0, h1, t, ht⟩ := hi _ (.head _)
    dsimp only at h0 h1 ht
    subst ht
    simp only [List.map_cons] at hn
    simp only [List.length_cons] at hz
    have ih := go_loopS hd l (fun e he => hi e (.tail _ he)) { s with heap := s.heap.update d (pushE ⟨k, .int k t, v⟩), toks := s.toks + 1 } pos (es.push ⟨k, .int k t, v⟩) (ep + 1)
      (Heap.get?_update_self _ ho rfl) (nodup_push (e := ⟨k, .int k t, v⟩) hn) (by simp only [Array.size_push]; omega)
    have e1 : Go w 45 ((dictSet d (.int k t) v).bind fun _ => .pure (ForInStep.yield PUnit.unit)) s pos (ForInStep.yield PUnit.unit) { s with heap := s.heap.update d (pushE ⟨k, .int k t, v⟩), toks := s.toks + 1 } pos :=
      Go.bind (n := 45) (n' := 0) (go_dictSet hd ho (fresh_of hn) (by omega) h0 h1) Go.pure
    simp only [List.length_cons, Nat.mul_add, Nat.mul_one, List.map_cons]
    rw [show s.toks + (l.length + 1) = s.toks + 1 + l.length by omega, List.forIn_cons]
    refine Go.bind (n := 45) (n' := 45 * l.length) e1 ?_
    exact ih
theorem go_subS {posD : Pos} {ps : Pairs} {qs : List (Int × Str)} (h : All2 (KV posD w) ps qs) (hs : Small qs) (hn : (qs.map (·.1)).Nodup) (h15 : qs.length ≤ 15) (h1 : qs ≠ []) (hb : 11 ≤ s.heap.objs.size) :
    Go w (48 * qs.length + 1) (subDict ps) s pos s.heap.objs.size { s with heap := fill s.heap.objs.size (s.heap.push (dOb #[] 0)) (entsS s.toks qs), toks := s.toks + 3 * qs.length } posD := by
  have hl := h.length
  unfold subDict
  refine Go.bind (n := 1) (n' := 48 * qs.length) Go.alloc ?_
  refine Go.then (n := 48 * qs.length) (a := ()) (Go.hold _ ?_) rfl
  rw [if_pos (by omega)]
  have e1 := go_evalPairs (w := w) ps qs h { s with heap := s.heap.push (dOb #[] 0) } pos
  rw [if_neg h1] at e1
  have e2 := go_loopS (w := w) hb (entsS s.toks qs) (intE_S qs _ hs) { s with heap := s.heap.push (dOb #[] 0), toks := s.toks + 2 * qs.length } posD #[] 0 (Heap.get?_push_size _ rfl)
    (by simpa [entsS_hash] using hn) (by simp only [entsS_length]; simp; omega)
  rw [entsS_length, show s.toks + 2 * qs.length + qs.length = s.toks + 3 * qs.length by omega] at e2
  rw [show 48 * qs.length = 45 * qs.length + 3 * qs.length by omega]
  refine Go.bind (n := 3 * qs.length) (n' := 45 * qs.length) e1 (Go.hold _ ?_)
  exact Go.then e2 rfl
end Mine
end
section
open PySem PySem.W PyProof.Rows
set_option maxRecDepth 100000
set_option maxHeartbeats 1000000
namespace Mine
variable {α β : Type} {w : World} {s s' s₁ : Shared} {pos pos' pos₁ : Pos} {n n' : Nat}
theorem sub_dict : isSubtype (.type "dict") (.type "dict") = Sem.pure true := by kernel_rfl
theorem dict_iter : typeLookup (.type "dict") "__iter__" = Sem.pure (some (.builtin "dict.__iter__")) := by kernel_rfl
theorem go_isDict {a : Addr} {es : Array DictEntry} {ep : Nat} (ho : s.heap.get? a = some (dOb es ep)) : Go w 1 (isInstance (.ref a) (.type "dict")) s pos true s pos := by
  unfold isInstance
  refine Go.bind (n := 1) (n' := 0) (a := .type "dict") (Go.bind (n := 1) (n' := 0) (Go.load ho) Go.pure) ?_
  rw [sub_dict]; exact Go.pure
theorem go_dictIter {a : Addr} {es : Array DictEntry} {ep : Nat} (ho : s.heap.get? a = some (dOb es ep)) : Go w 1 (specialOf (.ref a) "__iter__") s pos (some (.builtin "dict.__iter__")) s pos := by
  unfold specialOf
  refine Go.bind (n := 1) (n' := 0) (a := .type "dict") (Go.bind (n := 1) (n' := 0) (Go.load ho) Go.pure) ?_
  rw [dict_iter]; exact Go.pure
theorem go_mergeLoop {d a : Addr} (hd : 11 ≤ d) (hda : d ≠ a) {all : Array DictEntry} {epa : Nat} (hi : ∀ e ∈ all.toList, IntE e) : ∀ (m i : Nat), i + m = all.size → ∀ (s : Shared) (pos : Pos) (es : Array DictEntry) (ep : Nat), s.heap.get? d = some (dOb es ep) → s.heap.get? a = some (dOb all epa) →
      (es.toList.map (·.hash) ++ (all.toList.drop i).map (·.hash)).Nodup → es.size + m ≤ 1000 →
    Go w (6 * m) (forIn (List.range' i m) PUnit.unit (fun (i : Nat) (_ : PUnit) => do
        match (← dictEntries a)[i]? with
        | some e => do
          holding [e.key, e.val] (dictPut d e.hash e.key e.val)
          let q ← dictEpoch a
          if (q != epa) = true then do
            unsupported "dict.changed-during-merge"
            pure (ForInStep.yield PUnit.unit)
          else pure (ForInStep.yield PUnit.unit)
        | _ => do
          unsupported "dict.changed-during-merge"
          pure (ForInStep.yield PUnit.unit))) s pos PUnit.unit { s with heap := fill d s.heap (all.toList.drop i) } pos
  | 0, i, he, s, pos, es, ep, ho, ha, hn, hz => by
    rw [List.drop_eq_nil_of_le (by simp; omega)]
    exact Go.pure
  | m + 1, i, he, s, pos, es, ep, ho, ha, hn, hz => by
    have hlt : i < all.size := by omega
    have hdrop : all.toList.drop i = all[i] :: all.toList.drop (i + 1) := by
      rw [List.drop_eq_getElem_cons (by simpa using hlt)]; simp
    obtain ⟨h0, h1, t, ht⟩ := hi all[i] (by simp)
    rw [hdrop] at hn ⊢
    simp only [List.map_cons] at hn
    have hp := go_dictPut (w := w) (s := s) (pos := pos) (k := all[i].hash) (t := t) (v := all[i].val) hd ho (fresh_of hn) (by omega)
    have hee : (⟨all[i].hash, .int all[i].hash t, all[i].val⟩ : DictEntry) = all[i] := by rw [← ht]
    have hput : put1 all[i].hash t all[i].val = pushE all[i] := by unfold put1; rw [hee]
    rw [hput, ← ht] at hp
    have ha' : (s.heap.update d (pushE all[i])).get? a = some (dOb all epa) := by rw [Heap.get?_update_other _ _ hda]; exact ha
    have ih := go_mergeLoop hd hda hi m (i + 1) (by omega) { s with heap := s.heap.update d (pushE all[i]) } pos (es.push all[i]) (ep + 1) (Heap.get?_update_self _ ho rfl) ha' (nodup_push hn) (by simp only [Array.size_push]; omega)
    rw [List.range'_succ, List.forIn_cons, Nat.mul_add, Nat.mul_one]
    refine Go.bind (n := 6) (n' := 6 * m) (a := ForInStep.yield PUnit.unit) (s₁ := { s with heap := s.heap.update d (pushE all[i]) }) (pos₁ := pos) ?_ ih
    refine Go.bind (n := 1) (n' := 5) (go_dictEntries ha) ?_
    rw [Array.getElem?_eq_getElem hlt]
    refine Go.bind (n := 4) (n' := 1) (Go.hold _ hp) ?_
    refine Go.bind (n := 1) (n' := 0) (go_dictEpoch ha') ?_
    rw [if_neg (by simp)]
    exact Go.pure
theorem go_merge {d a : Addr} (hd : 11 ≤ d) (hda : d ≠ a) (ha1 : 11 ≤ a) {all : Array DictEntry} {epa : Nat} (hi : ∀ e ∈ all.toList, IntE e) {es : Array DictEntry} {ep : Nat} (ho : s.heap.get? d = some (dOb es ep)) (ha : s.heap.get? a = some (dOb all epa)) (hne : es ≠ #[])
      (hn : (es.toList.map (·.hash) ++ all.toList.map (·.hash)).Nodup) (hz : es.size + all.size ≤ 1000) :
    Go w (6 * all.size + 5) (mergeMapping d (.ref a) false) s pos () { s with heap := fill d s.heap all.toList } pos := by
  unfold mergeMapping
  refine Go.bind (n := 1) (n' := 6 * all.size + 4) (go_isDict ha) ?_
  rw [if_pos rfl]
  refine Go.bind (n := 1) (n' := 6 * all.size + 3) (go_dictIter ha) ?_
  dsimp only
  rw [show ((some (Value.builtin "dict.__iter__")) == some (Value.builtin "dict.__iter__")) = true from beq_self_eq_true _]
  refine Go.bind (n := 0) (n' := 6 * all.size + 3) Go.pure ?_
  dsimp only
  have hsm : (a == sysModules) = false := by rw [beq_eq_false_iff_ne]; unfold sysModules; intro e; subst e; exact absurd ha1 (by decide)
  rw [hsm]
  simp only [Bool.false_eq_true, if_false]
  refine Go.bind (n := 1) (n' := 6 * all.size + 2) (go_dictEntries ho) ?_
  have he : es.isEmpty = false := by simpa using hne
  rw [he]
  simp only [Bool.false_eq_true, if_false]
  refine Go.bind (n := 1) (n' := 6 * all.size + 1) (go_dictEntries ha) ?_
  refine Go.bind (n := 1) (n' := 6 * all.size) (go_dictEpoch ha) ?_
  have := go_mergeLoop (w := w) hd hda hi all.size 0 (by omega) s pos es ep ho ha (by simpa using hn) hz
  rw [List.range_eq_range']
  refine Go.then (a := PUnit.unit) ?_ rfl
  exact this
end Mine
end
section
open PySem PySem.W PyProof.Rows
set_option maxRecDepth 100000
set_option maxHeartbeats 1000000
namespace Mine
variable {α β : Type} {w : World} {s s' s₁ : Shared} {pos pos' pos₁ : Pos} {n n' : Nat}
noncomputable def app (h : Heap) (L : List Obj) : Heap := L.foldl Heap.push h
theorem app_snoc (h : Heap) (L : List Obj) (o : Obj) : app h (L ++ [o]) = (app h L).push o := by simp [app]
theorem app_objs : ∀ (L : List Obj) (h : Heap), app h L = ⟨h.objs ++ L.toArray, h.life⟩
  | [], h => by simp [app]
  | o :: L, h => by
    show app (h.push o) L = _
    rw [app_objs L (h.push o)]
    obtain ⟨os, l⟩ := h
    show Heap.mk (os.push o ++ L.toArray) l = _
    congr 1
    simp
theorem app_size (L : List Obj) (h : Heap) : (app h L).objs.size = h.objs.size + L.length := by rw [app_objs]; simp
theorem app_update (h : Heap) (o : Obj) (L : List Obj) (f : Obj → Obj) : (app h (o :: L)).update h.objs.size f = app h (f o :: L) := by
  rw [app_objs, app_objs]
  obtain ⟨os, l⟩ := h
  show Heap.mk _ l = Heap.mk _ l
  congr 1
  apply Array.ext_getElem?
  intro i
  rw [Array.getElem?_modify]
  simp only [Array.getElem?_append]
  by_cases h1 : i < os.size
  · simp [h1, Nat.ne_of_gt h1]
  · simp only [h1, if_false]
    by_cases h2 : os.size = i
    · subst h2; simp
    · rw [if_neg h2]
      obtain ⟨k, hk⟩ : ∃ k, i - os.size = k + 1 := ⟨i - os.size - 1, by omega⟩
      rw [hk]; simp
theorem app_fill (h : Heap) (L : List Obj) : ∀ (E : List DictEntry) (es : Array DictEntry) (ep : Nat), fill h.objs.size (app h (dOb es ep :: L)) E = app h (dOb (es ++ E.toArray) (ep + E.length) :: L)
  | [], es, ep => by simp [fill]
  | e :: E, es, ep => by
    show fill h.objs.size ((app h (dOb es ep :: L)).update h.objs.size (pushE e)) E = _
    rw [app_update]
    show fill h.objs.size (app h (dOb (es.push e) (ep + 1) :: L)) E = _
    rw [app_fill h L E]
    congr 3
    · simp
    · simp only [List.length_cons]; omega
theorem app_get (h : Heap) (o : Obj) (L : List Obj) (hf : o.isFreed = false) : (app h (o :: L)).get? h.objs.size = some o := by
  have : ∀ (L : List Obj) (g : Heap) (a : Addr), g.get? a = some o → (app g L).get? a = some o := by
    intro L
    induction L with
    | nil => exact fun _ _ e => e
    | cons x L ih => exact fun g a e => ih (g.push x) a (Heap.get?_push_of_some x e)
  exact this L (h.push o) _ (Heap.get?_push_size h hf)
theorem intE_app {a b : List DictEntry} (ha : ∀ e ∈ a, IntE e) (hb : ∀ e ∈ b, IntE e) : ∀ e ∈ a ++ b, IntE e := fun e he => (List.mem_append.mp he).elim (ha e) (hb e)
/-- one chunk joined to the main dict -/
theorem go_join {posD : Pos} {h : Heap} {L : List Obj} {es : Array DictEntry} {ep k : Nat} {E : List DictEntry} {ps : Pairs} {tk tk' : Nat} (hs : s.heap = app h (dOb es ep :: L)) (hh : 11 ≤ h.objs.size) (hi : ∀ e ∈ E, IntE e) (hne : es ≠ #[])
    (hn : (es.toList.map (·.hash) ++ E.map (·.hash)).Nodup) (hz : es.size + E.length ≤ 1000)
    (sub : ∀ s : Shared, 11 ≤ s.heap.objs.size → s.toks = tk → Go w k (subDict ps) s pos s.heap.objs.size { s with heap := fill s.heap.objs.size (s.heap.push (dOb #[] 0)) E, toks := tk' } posD) (ht : s.toks = tk) :
    Go w (6 * E.length + 5 + k) (flushIn ps (some h.objs.size)) s pos (some h.objs.size) { s with heap := app h (dOb (es ++ E.toArray) (ep + E.length) :: (L ++ [dOb E.toArray E.length])), toks := tk' } posD := by
  unfold flushIn joinIn
  have hsz : s.heap.objs.size = h.objs.size + (L.length + 1) := by rw [hs, app_size]; rfl
  have e1 : fill s.heap.objs.size (s.heap.push (dOb #[] 0)) E = app h (dOb es ep :: (L ++ [dOb E.toArray E.length])) := by
    have := app_fill s.heap [] E #[] 0
    rw [Array.empty_append, Nat.zero_add] at this
    rw [show s.heap.push (dOb #[] 0) = app s.heap [dOb #[] 0] from rfl, this]
    rw [show app s.heap [dOb E.toArray E.length] = s.heap.push (dOb E.toArray E.length) from rfl, hs, ← app_snoc]
    rfl
  have g1 := sub s (by omega) ht
  rw [e1] at g1
  refine Go.bind (n := k) (n' := 6 * E.length + 5) (Go.hold _ g1) ?_
  have hget : (app h (dOb es ep :: (L ++ [dOb E.toArray E.length]))).get? s.heap.objs.size = some (dOb E.toArray E.length) := by
    rw [show dOb es ep :: (L ++ [dOb E.toArray E.length]) = (dOb es ep :: L) ++ [dOb E.toArray E.length] from rfl, app_snoc, ← hs]
    exact Heap.get?_push_size _ rfl
  have hgm : (app h (dOb es ep :: (L ++ [dOb E.toArray E.length]))).get? h.objs.size = some (dOb es ep) := app_get _ _ _ rfl
  have m := go_merge (w := w) (s := { s with heap := app h (dOb es ep :: (L ++ [dOb E.toArray E.length])), toks := tk' }) (pos := posD) (d := h.objs.size) (a := s.heap.objs.size) hh (show @Ne Nat h.objs.size s.heap.objs.size by omega) (show @LE.le Nat _ 11 s.heap.objs.size by omega) (by simpa using hi) hgm hget hne (by simpa using hn) (by simpa using hz)
  rw [List.toList_toArray, app_fill] at m
  simp only [List.size_toArray] at m
  exact Go.then (Go.onRaise (Go.hold _ m)) rfl
theorem go_first {posD : Pos} {E : List DictEntry} {ps : Pairs} {tk tk' k : Nat}
    (sub : ∀ s : Shared, 11 ≤ s.heap.objs.size → s.toks = tk → Go w k (subDict ps) s pos s.heap.objs.size { s with heap := fill s.heap.objs.size (s.heap.push (dOb #[] 0)) E, toks := tk' } posD) (ht : s.toks = tk) (hh : 11 ≤ s.heap.objs.size) :
    Go w k (flushIn ps none) s pos (some s.heap.objs.size) { s with heap := app s.heap [dOb E.toArray E.length], toks := tk' } posD := by
  unfold flushIn firstIn
  have g1 := sub s hh ht
  have := app_fill s.heap [] E #[] 0
  rw [Array.empty_append, Nat.zero_add] at this
  rw [show s.heap.push (dOb #[] 0) = app s.heap [dOb #[] 0] from rfl, this] at g1
  exact Go.then g1 rfl

theorem entsL_append : ∀ (a b : List (Int × Str)) (tk : Nat), entsL tk (a ++ b) = entsL tk a ++ entsL (tk + 3 * a.length) b
  | [], b, tk => by simp [entsL]
  | (k, x) :: a, b, tk => by
    simp only [List.cons_append, entsL, entsL_append a b, List.length_cons]
    rw [show tk + 3 + 3 * a.length = tk + 3 * (a.length + 1) by omega]
/-- all the chunks behind the first one -/
theorem go_chunks {posD : Pos} {h : Heap} (hh : 11 ≤ h.objs.size) {lastP : Pairs} {lastQ : List (Int × Str)} (hl : All2 (KV posD w) lastP lastQ) (hls : Small lastQ) (hl15 : lastQ.length ≤ 15) (hl0 : lastQ ≠ []) :
    ∀ (cs : List Pairs) (qs : List (List (Int × Str))), All2 (All2 (KV posD w)) cs qs → (∀ q ∈ qs, Small q ∧ q.length = 17) → ∀ (es : List (Int × Str)) (tk0 : Nat) (L : List Obj) (s : Shared) (pos : Pos), es ≠ [] → s.heap = app h (dOb (entsL tk0 es).toArray es.length :: L) → s.toks = tk0 + 3 * es.length →
      ((es ++ qs.flatten ++ lastQ).map (·.1)).Nodup → (es ++ qs.flatten ++ lastQ).length ≤ 1000 →
      ∃ n, Go w n (chunksIn lastP cs (some h.objs.size)) s pos (.ref h.objs.size)
        { s with heap := app h (dOb (entsL tk0 (es ++ qs.flatten) ++ entsS (tk0 + 3 * (es ++ qs.flatten).length) lastQ).toArray (es ++ qs.flatten ++ lastQ).length ::
            (L ++ (qs.zipIdx.map fun (q, j) => dOb (entsL (tk0 + 3 * es.length + 51 * j) q).toArray 17) ++ [dOb (entsS (tk0 + 3 * (es ++ qs.flatten).length) lastQ).toArray lastQ.length])), toks := tk0 + 3 * (es ++ qs.flatten ++ lastQ).length } posD ∧ n ≤ 70 * (qs.flatten ++ lastQ).length + 100 * qs.length + 100
  | _, _, .nil, _, es, tk0, L, s, pos, he, hs, ht, hn, hz => by
    simp only [List.flatten_nil, List.append_nil] at hn hz ⊢
    refine ⟨6 * lastQ.length + 5 + (48 * lastQ.length + 1), ?_, by simp; omega⟩
    have hnl : (lastQ.map (·.1)).Nodup := by rw [List.map_append] at hn; exact (List.nodup_append.mp hn).2.1
    have := go_join (w := w) (pos := pos) (posD := posD) (k := 48 * lastQ.length + 1) (E := entsS s.toks lastQ) (ps := lastP) (tk := s.toks) (tk' := s.toks + 3 * lastQ.length) hs hh (intE_S _ _ hls)
      (by intro e; have := congrArg Array.size e; simp [entsL_length] at this; exact he this) (by simpa [entsL_hash, entsS_hash] using hn) (by simpa [entsL_length, entsS_length] using hz)
      (fun s2 h2 t2 => by have := go_subS (w := w) (s := s2) (pos := pos) hl hls hnl hl15 hl0 h2; rw [t2] at this; exact this) rfl
    unfold chunksIn lastIn
    rw [entsS_length, ht] at this
    refine Go.then (a := some h.objs.size) (b := Value.ref h.objs.size) ?_ rfl
    simp only [List.map_nil, List.zipIdx_nil, List.append_nil]
    rw [show tk0 + 3 * (es ++ lastQ).length = tk0 + 3 * es.length + 3 * lastQ.length by simp; omega]
    simpa using this
  | _, _, .cons (a := c) (b := q) (l₁ := cs) (l₂ := qs) hc hr, hq, es, tk0, L, s, pos, he, hs, ht, hn, hz => by
    have hq1 := hq _ (.head _)
    simp only [List.flatten_cons] at hn hz ⊢
    have hnq : (q.map (·.1)).Nodup := by
      simp only [List.map_append] at hn
      exact (List.nodup_append.mp (List.nodup_append.mp (List.nodup_append.mp hn).1).2.1).1
    have hneq : (es.map (·.1) ++ q.map (·.1)).Nodup := by
      simp only [List.map_append, ← List.append_assoc] at hn
      exact (List.nodup_append.mp (List.nodup_append.mp hn).1).1
    have g := go_join (w := w) (pos := pos) (posD := posD) (k := 48 * q.length + 2) (E := entsL s.toks q) (ps := c) (tk := s.toks) (tk' := s.toks + 3 * q.length) hs hh (intE_L _ _ hq1.1)
      (by intro e; have := congrArg Array.size e; simp [entsL_length] at this; exact he this) (by simpa [entsL_hash] using hneq) (by simp only [List.length_append] at hz; simp [entsL_length]; omega)
      (fun s2 h2 t2 => by have := go_subL (w := w) (s := s2) (pos := pos) hc hq1.1 hnq (by omega) (by omega) h2; rw [t2] at this; exact this) rfl
    rw [entsL_length, ht] at g
    have e1 : dOb ((entsL tk0 es).toArray ++ (entsL (tk0 + 3 * es.length) q).toArray) (es.length + q.length) = dOb (entsL tk0 (es ++ q)).toArray (es ++ q).length := by
      rw [entsL_append]; simp
    rw [e1] at g
    obtain ⟨m, ih, hm⟩ := go_chunks hh hl hls hl15 hl0 cs qs hr (fun x hx => hq x (.tail _ hx)) (es ++ q) tk0 (L ++ [dOb (entsL (tk0 + 3 * es.length) q).toArray q.length])
      { s with heap := app h (dOb (entsL tk0 (es ++ q)).toArray (es ++ q).length :: (L ++ [dOb (entsL (tk0 + 3 * es.length) q).toArray q.length])), toks := tk0 + 3 * es.length + 3 * q.length } posD (by simp [he]) rfl (by simp; omega)
      (by simpa [List.append_assoc] using hn) (by simpa [List.append_assoc] using hz)
    refine ⟨m + (6 * q.length + 5 + (48 * q.length + 2)), ?_, ?_⟩
    · unfold chunksIn
      refine Go.bind g ?_
      have e2 : ∀ X : List Obj, (L ++ [dOb (entsL (tk0 + 3 * es.length) q).toArray q.length]) ++ (qs.zipIdx.map fun (q', j) => dOb (entsL (tk0 + 3 * (es ++ q).length + 51 * j) q').toArray 17) ++ X = L ++ ((q :: qs).zipIdx.map fun (q', j) => dOb (entsL (tk0 + 3 * es.length + 51 * j) q').toArray 17) ++ X := by
        intro X
        rw [hq1.2]
        simp only [List.zipIdx_cons, List.map_cons, Nat.mul_zero, Nat.add_zero, List.append_assoc, List.cons_append, List.nil_append]
        congr 3
        rw [List.zipIdx_succ, List.map_map]
        refine List.map_congr_left fun x _ => ?_
        obtain ⟨q', j⟩ := x
        simp only [Function.comp, List.length_append, hq1.2]
        rw [show tk0 + 3 * (es.length + 17) + 51 * j = tk0 + 3 * es.length + 51 * (j + 1) by omega]
      rw [e2] at ih
      simpa [List.append_assoc] using ih
    · simp only [List.length_append, List.length_cons] at hm ⊢
      omega
end Mine
end
section
open PySem PySem.W PyProof.Rows
set_option maxRecDepth 100000
set_option maxHeartbeats 200000
namespace Mine
variable {α β : Type} {w : World} {s s' s₁ : Shared} {pos pos' pos₁ : Pos} {n n' : Nat}
noncomputable abbrev KVE := Option Expr × Expr
noncomputable def okKV : KVE → Bool
  | (some (.Constant (.int i) _ _), .Constant (.str _) _ _) => decide (0 ≤ i) && decide (i < 2 ^ 40)
  | _ => false
noncomputable def toQ : KVE → Int × Str := fun (k, v) => ((match k with | some (.Constant (.int i) _ _) => i | _ => 0), match v with | .Constant (.str x) _ _ => x | _ => Str.empty)
noncomputable def pairOf (posD : Pos) (p : KVE) : Sem Value × Sem Value := ((match p.1 with | some k => eval k benv | none => .pure .none), (eval p.2 benv).bind fun x => (standAt posD).bind fun _ => .pure x)
theorem eval_int (i : Int) (k : Nat) (p : Pos) : eval (.Constant (.int i) k p) benv = PySem.fresh.bind fun t => .pure (.int i t) := by rfl
theorem eval_str (x : Str) (k : Nat) (p : Pos) : eval (.Constant (.str x) k p) benv = PySem.fresh.bind fun t => .pure (.str x t) := by rfl
theorem okKV_inv {p : KVE} (h : okKV p = true) : ∃ i k1 p1 x k2 p2, p = (some (.Constant (.int i) k1 p1), .Constant (.str x) k2 p2) := by
  unfold okKV at h
  split at h
  · exact ⟨_, _, _, _, _, _, rfl⟩
  · cases h
theorem kv_of {posD : Pos} : ∀ (p : KVE), okKV p = true → KV posD w (pairOf posD p) (toQ p) := fun p h => by
    obtain ⟨i, k1, p1, x, k2, p2, rfl⟩ := okKV_inv h
    refine ⟨fun s pos => ?_, fun s pos => ?_⟩
    · show Go w 1 (eval (.Constant (.int i) k1 p1) benv) s pos _ _ _
      rw [eval_int]
      exact Go.then Go.fresh rfl
    · show Go w 2 ((eval (.Constant (.str x) k2 p2) benv).bind _) s pos _ _ _
      rw [eval_str]
      refine Go.bind (n := 1) (n' := 1) (Go.then Go.fresh rfl) (Go.then Go.at rfl)
theorem all2_of {posD : Pos} : ∀ (l : List KVE), l.all okKV = true → All2 (KV posD w) (l.map (pairOf posD)) (l.map toQ) ∧ Small (l.map toQ)
  | [], _ => ⟨.nil, fun _ h => nomatch h⟩
  | p :: l, h => by
    rw [List.all_cons, Bool.and_eq_true] at h
    have ih := all2_of (posD := posD) l h.2
    refine ⟨.cons (kv_of p h.1) ih.1, fun q hq => ?_⟩
    rcases List.mem_cons.mp hq with rfl | hq
    · have := h.1
      unfold okKV at this
      split at this
      · simpa [toQ] using this
      · cases this
    · exact ih.2 q hq
theorem items_of {posD : Pos} : ∀ (ks : List (Option Expr)) (vs : List Expr), (ks.zip vs).all okKV = true →
    (evalEachOpt ks benv).zip ((evalEach vs benv).map fun v => do let x ← v; standAt posD; pure x) = asItems ((ks.zip vs).map (pairOf posD))
  | [], vs, _ => by cases vs <;> rfl
  | k :: ks, [], _ => by rfl
  | k :: ks, v :: vs, h => by
    rw [List.zip_cons_cons, List.all_cons, Bool.and_eq_true] at h
    have ih := items_of (posD := posD) ks vs h.2
    cases k with
    | none => have := h.1; unfold okKV at this; split at this <;> simp_all
    | some k =>
      show (some (eval k benv), _) :: (evalEachOpt ks benv).zip ((evalEach vs benv).map _) = _
      rw [ih]
      rfl
theorem chunks_flat {γ : Type} (l : List γ) : ∀ m, 17 * m ≤ l.length → ((List.range m).map fun j => (l.drop (17 * j)).take 17).flatten = l.take (17 * m)
  | 0, _ => by simp
  | m + 1, h => by
    rw [List.range_succ, List.map_append, List.flatten_append, chunks_flat l m (by omega)]
    simp only [List.map_cons, List.map_nil, List.flatten_cons, List.flatten_nil, List.append_nil]
    rw [Nat.mul_add, Nat.mul_one, List.take_add]
noncomputable def okAll : BT → Nat → List Obj → Bool
  | _, _, [] => true
  | T, n, o :: l => ((T.ins n o).get n).isSome && okAll (T.ins n o) (n + 1) l
theorem absHeap_insAll (life : Life) : ∀ (l : List Obj) (T : BT) (n : Nat), okAll T n l = true → absHeap (insAll T n l) (n + l.length) life = app (absHeap T n life) l
  | [], T, n, _ => rfl
  | o :: l, T, n, h => by
    rw [okAll, Bool.and_eq_true] at h
    show absHeap (insAll (T.ins n o) (n + 1) l) (n + (l.length + 1)) life = app ((absHeap T n life).push o) l
    rw [show n + (l.length + 1) = (n + 1) + l.length by omega, absHeap_insAll life l _ _ h.2, absHeap_ins h.1]

theorem exec_dict (nm : Str) (pn : Pos) (ks : List (Option Expr)) (vs : List Expr) (pd ps : Pos) : exec (.Assign [.Name nm pn] (.Dict ks vs pd) ps) benv =
    (standAt ps).bind fun _ => ((standAt pd).bind fun _ => dictDisplay ((evalEachOpt ks benv).zip ((evalEach vs benv).map fun v => do let x ← v; standAt pd; pure x))).bind fun v =>
      assignStores benv v none ((assignEach [.Name nm pn] benv).map (·.2)) := by rfl
noncomputable def k8 : List (Option Expr) := match stAt 8 with | .Assign _ (.Dict ks _ _) _ => ks | _ => []
noncomputable def v8 : List Expr := match stAt 8 with | .Assign _ (.Dict _ vs _) _ => vs | _ => []
noncomputable def pD : Pos := match stAt 8 with | .Assign _ (.Dict _ _ p) _ => p | _ => p0
noncomputable def pS : Pos := match stAt 8 with | .Assign _ _ p => p | _ => p0
theorem st8_eq : stAt 8 = .Assign [.Name "b3_exceptions" (stPos 8)] (.Dict k8 v8 pD) pS := by kernel_rfl
theorem kv8_ok : (k8.zip v8).all okKV = true := by decide +kernel
theorem kv8_len : (k8.zip v8).length = 650 := by decide +kernel
noncomputable def incr : List Int → Bool
  | a :: b :: r => decide (a < b) && incr (b :: r)
  | _ => true
theorem incr_lt : ∀ (l : List Int) (a : Int), incr (a :: l) = true → ∀ b ∈ l, a < b
  | [], _, _, _, h => nomatch h
  | c :: l, a, h, b, hb => by
    rw [incr, Bool.and_eq_true, decide_eq_true_eq] at h
    rcases List.mem_cons.mp hb with rfl | hb
    · exact h.1
    · exact Int.lt_trans h.1 (incr_lt l c h.2 b hb)
theorem incr_nodup : ∀ (l : List Int), incr l = true → l.Nodup
  | [], _ => .nil
  | a :: l, h => by
    have h2 : incr l = true := by
      cases l with
      | nil => rfl
      | cons b r => rw [incr, Bool.and_eq_true] at h; exact h.2
    exact List.nodup_cons.mpr ⟨fun hm => absurd (incr_lt l a h a hm) (Int.lt_irrefl _), incr_nodup l h2⟩
theorem kv8_incr : incr (((k8.zip v8).map toQ).map (·.1)) = true := by decide +kernel
theorem b3KV_eq : b3KV = (k8.zip v8).map toQ := by rfl
theorem ok8 (P : Params) : okAll (T_p7 P) 54 objs8 = true := by kernel_rfl
theorem seg_8e (w : World) (os : OsState) (pos : Pos) (gd : Bool → Bool) (lv : List Value → List Value) : segRunT treeTable prog w 11 ann 1 20 (st8 (T_d w.params) 93 2235 os) ⟨(assignStores benv (.ref 54) none ((assignEach [.Name "b3_exceptions" (stPos 8)] benv).map (·.2))).wrap (fun a => .pure (.done (id a))) deadEnd gd lv, cE, pos, Bp⟩ = some (.next, S_p8 w os, cE, stPos 8) := by kernel_rfl

theorem zipIdx_range {γ : Type} (f : Nat → γ) (g : γ → Nat → Obj) : ∀ m, ((List.range m).map f).zipIdx.map (fun (q, j) => g q j) = (List.range m).map fun j => g (f j) j := by
  intro m
  apply List.ext_getElem
  · simp
  · intro i h1 h2
    simp
theorem dict_go (w : World) (os : OsState) (pos : Pos) : ∃ n, n ≤ 60000 ∧ Go w n (exec (stAt 8) benv) (S_p7 w os).abs pos .next (S_p8 w os).abs (stPos 8) := by
  obtain ⟨hA, hS⟩ := all2_of (w := w) (posD := pD) (k8.zip v8) kv8_ok
  generalize hl : k8.zip v8 = l at *
  have hlen : l.length = 650 := by rw [← hl]; exact kv8_len
  have hnd : ((l.map toQ).map (·.1)).Nodup := incr_nodup _ (by rw [← hl]; exact kv8_incr)
  have hb : b3KV = l.map toQ := by rw [b3KV_eq, hl]
  let ch := fun j => (l.drop (17 * j)).take 17
  have hflat : ((List.range 38).map ch).flatten = l.take 646 := chunks_flat l 38 (by omega)
  have hsp : l = ((List.range 38).map ch).flatten ++ l.drop 646 := by rw [hflat, List.take_append_drop]
  have hchlen : ∀ j < 38, (ch j).length = 17 := by intro j hj; simp only [ch, List.length_take, List.length_drop]; omega
  have hok : ∀ m : List KVE, (∀ x ∈ m, x ∈ l) → All2 (KV pD w) (m.map (pairOf pD)) (m.map toQ) ∧ Small (m.map toQ) := by
    intro m hm
    refine all2_of m (List.all_eq_true.mpr fun x hx => ?_)
    have := kv8_ok; rw [hl] at this
    exact List.all_eq_true.mp this x (hm x hx)
  have hin : ∀ j, ∀ x ∈ ch j, x ∈ l := fun j x hx => List.mem_of_mem_drop (List.mem_of_mem_take hx)
  have hcq : ∀ j, chunkQ j = (ch j).map toQ := by intro j; unfold chunkQ; rw [hb, List.map_take, List.map_drop]
  have hlast := hok (l.drop 646) (fun x hx => List.mem_of_mem_drop hx)
  have hlq : b3KV.drop 646 = (l.drop 646).map toQ := by rw [hb, List.map_drop]
  have hll : (l.drop 646).length = 4 := by simp [hlen]
  -- the display as chunks
  have e1 : dictDisplay ((evalEachOpt k8 benv).zip ((evalEach v8 benv).map fun v => do let x ← v; standAt pD; pure x)) =
      chunksIn ((l.drop 646).map (pairOf pD)) ((List.range 38).map fun j => (ch j).map (pairOf pD)) none := by
    rw [items_of k8 v8 kv8_ok, hl]
    rw [← display_of ((l.drop 646).map (pairOf pD)) (by intro e; have := congrArg List.length e; simp [hlen] at this) (by simp [hlen]) _ (by
      intro c hc
      obtain ⟨j, hj, rfl⟩ := List.mem_map.mp hc
      rw [List.length_map]; exact hchlen j (List.mem_range.mp hj))]
    congr 2
    rw [show (List.range 38).map (fun j => (ch j).map (pairOf pD)) = ((List.range 38).map ch).map (List.map (pairOf pD)) by rw [List.map_map]; rfl, ← List.map_flatten, ← List.map_append, ← hsp]
  have hr38 : List.range 38 = 0 :: (List.range 37).map (· + 1) := by rw [show (38 : Nat) = 37 + 1 from rfl, List.range_succ_eq_map]
  rw [hr38, List.map_cons, List.map_map] at e1
  -- the first chunk
  have h0 := hok (ch 0) (hin 0)
  have hn0 : (((ch 0).map toQ).map (·.1)).Nodup := by
    have hs : List.Sublist (ch 0) l := (List.take_sublist _ _).trans (List.drop_sublist _ _)
    exact List.Sublist.nodup ((hs.map toQ).map _) hnd
  have hA0 := hchlen 0 (by omega)
  obtain ⟨h, hh_def⟩ : ∃ h, h = absHeap (T_p7 w.params) 54 {} := ⟨_, rfl⟩
  have hh : h.objs.size = 54 := by rw [hh_def]; exact absHeap_size _ _ _
  have hS7 : (S_p7 w os).abs = ⟨h, Array.mk [], boot_drawn, 285, os⟩ := by rw [hh_def]; kernel_rfl
  have sub0 : ∀ s2 : Shared, 11 ≤ s2.heap.objs.size → s2.toks = 285 → Go w (48 * 17 + 2) (subDict ((ch 0).map (pairOf pD))) s2 pD s2.heap.objs.size { s2 with heap := fill s2.heap.objs.size (s2.heap.push (dOb #[] 0)) (entsL 285 ((ch 0).map toQ)), toks := 285 + 3 * 17 } pD := by
    intro s2 h2 t2
    have h17 : ((ch 0).map toQ).length = 17 := by rw [List.length_map]; exact hA0
    have := go_subL (w := w) (s := s2) (pos := pD) h0.1 h0.2 hn0 (by omega) (by omega) h2
    rw [t2, h17] at this
    exact this
  have g0 := go_first (w := w) (s := ⟨h, Array.mk [], boot_drawn, 285, os⟩) (pos := pD) (posD := pD) (E := entsL 285 ((ch 0).map toQ)) (ps := (ch 0).map (pairOf pD)) (tk := 285) (tk' := 285 + 3 * 17) (k := 48 * 17 + 2) sub0 rfl (by show 11 ≤ h.objs.size; omega)
  -- the others
  obtain ⟨m, g1, hm⟩ := go_chunks (w := w) (h := h) (posD := pD) (by omega) hlast.1 hlast.2 (by simp [hlen]) (by intro e; have := congrArg List.length e; simp [hlen] at this)
    ((List.range 37).map fun j => (ch (j + 1)).map (pairOf pD)) ((List.range 37).map fun j => (ch (j + 1)).map toQ)
    (by
      have : ∀ r : List Nat, All2 (All2 (KV pD w)) (r.map fun j => (ch (j + 1)).map (pairOf pD)) (r.map fun j => (ch (j + 1)).map toQ) := by
        intro r
        induction r with
        | nil => exact .nil
        | cons j r ih => exact .cons (hok _ (hin _)).1 ih
      exact this _)
    (by
      intro q hq
      obtain ⟨j, hj, rfl⟩ := List.mem_map.mp hq
      exact ⟨(hok _ (hin _)).2, by rw [List.length_map]; exact hchlen _ (by have := List.mem_range.mp hj; omega)⟩)
    ((ch 0).map toQ) 285 [] ⟨app h [dOb (entsL 285 ((ch 0).map toQ)).toArray (entsL 285 ((ch 0).map toQ)).length], Array.mk [], boot_drawn, 285 + 3 * 17, os⟩ pD
    (by intro e; have := congrArg List.length e; simp [hA0] at this) (by rw [entsL_length]) (by simp [hA0])
    (by
      have : (ch 0).map toQ ++ ((List.range 37).map fun j => (ch (j + 1)).map toQ).flatten ++ (l.drop 646).map toQ = l.map toQ := by
        conv => rhs; rw [hsp, hr38]
        simp only [List.map_cons, List.flatten_cons, List.map_append, List.map_flatten, List.map_map]
        rfl
      rw [this]; exact hnd)
    (by
      have : (ch 0).map toQ ++ ((List.range 37).map fun j => (ch (j + 1)).map toQ).flatten ++ (l.drop 646).map toQ = l.map toQ := by
        conv => rhs; rw [hsp, hr38]
        simp only [List.map_cons, List.flatten_cons, List.map_append, List.map_flatten, List.map_map]
        rfl
      rw [this, List.length_map]; omega)
  have hall : (ch 0).map toQ ++ ((List.range 37).map fun j => (ch (j + 1)).map toQ).flatten = b3KV.take 646 := by
    rw [hb, ← List.map_take, ← hflat, hr38]
    simp only [List.map_cons, List.flatten_cons, List.map_append, List.map_flatten, List.map_map]
    rfl
  have hl646 : (b3KV.take 646).length = 646 := by rw [hb]; simp [hlen]
  have hsub : (((List.range 37).map fun j => (ch (j + 1)).map toQ).zipIdx.map fun (q, j) => dOb (entsL (285 + 3 * ((ch 0).map toQ).length + 51 * j) q).toArray 17) = (List.range 37).map fun j => subD (j + 1) := by
    rw [zipIdx_range (fun j => (ch (j + 1)).map toQ) (fun q j => dOb (entsL (285 + 3 * ((ch 0).map toQ).length + 51 * j) q).toArray 17) 37]
    refine List.map_congr_left fun j _ => ?_
    unfold subD
    rw [hcq, List.length_map, hA0, show 285 + 3 * 17 + 51 * j = 285 + 51 * (j + 1) by omega]
  rw [hsub, hall, hl646, show 285 + 3 * 646 = 2223 from rfl, ← hlq] at g1
  have hl650 : (b3KV.take 646 ++ b3KV.drop 646).length = 650 := by rw [List.take_append_drop, hb, List.length_map, hlen]
  have hl4 : (b3KV.drop 646).length = 4 := by rw [hlq, List.length_map, hll]
  rw [hl650, hl4, show 285 + 3 * 650 = 2235 from rfl] at g1
  have hheap : app h (dOb (entsL 285 (b3KV.take 646) ++ entsS 2223 (b3KV.drop 646)).toArray 650 :: ([] ++ ((List.range 37).map fun j => subD (j + 1)) ++ [dOb (entsS 2223 (b3KV.drop 646)).toArray 4])) = absHeap (T_d w.params) 93 {} :=
    by rw [hh_def]; exact (absHeap_insAll {} objs8 (T_p7 w.params) 54 (ok8 w.params)).symm
  rw [hheap, hh] at g1
  have g3 : Go w 20 (assignStores benv (.ref 54) none ((assignEach [.Name "b3_exceptions" (stPos 8)] benv).map (·.2))) (st8 (T_d w.params) 93 2235 os).abs (pD) .next (S_p8 w os).abs (stPos 8) :=
    Go.of_seg id (fun _ e => e) fun gd lv => segRun_of (seg_8e w os pD gd lv)
  obtain ⟨hd, hd_def⟩ : ∃ hd, hd = absHeap (T_d w.params) 93 {} := ⟨_, rfl⟩
  have hSd : (st8 (T_d w.params) 93 2235 os).abs = ⟨hd, Array.mk [], boot_drawn, 2235, os⟩ := by rw [hd_def]; kernel_rfl
  rw [hSd] at g3
  rw [← hd_def] at g1
  generalize (S_p8 w os).abs = S8 at g3 ⊢
  refine ⟨20 + (m + (48 * 17 + 2) + 1) + 1, ?_, ?_⟩
  · have : (((List.range 37).map fun j => (ch (j + 1)).map toQ).flatten ++ (l.drop 646).map toQ).length ≤ 650 := by
      have e : ((ch 0).map toQ ++ (((List.range 37).map fun j => (ch (j + 1)).map toQ).flatten ++ (l.drop 646).map toQ)).length = 650 := by
        rw [← List.append_assoc, hall, ← hlq]; exact hl650
      rw [List.length_append] at e
      omega
    simp only [List.length_map, List.length_range] at hm
    omega
  · rw [st8_eq, exec_dict, e1, hS7]
    refine Go.bind (n := 1) Go.at (Go.bind (n := m + (48 * 17 + 2) + 1) (n' := 20) (a := .ref 54) (pos₁ := pD) (s₁ := ⟨hd, Array.mk [], boot_drawn, 2235, os⟩) (Go.bind (n := 1) (n' := m + (48 * 17 + 2)) Go.at ?_) g3)
    unfold chunksIn
    exact Go.bind (n := 48 * 17 + 2) (n' := m) g0 (by rw [hh]; exact g1)
end Mine
end
section
open PySem PySem.W PyProof.Rows
set_option maxRecDepth 100000
set_option maxHeartbeats 1000000
namespace Mine
theorem body_is : bE = [stAt 0, stAt 1, stAt 2, stAt 3, stAt 4, stAt 5, stAt 6, stAt 7, stAt 8, stAt 9, stAt 10, stAt 11, stAt 12, stAt 13, stAt 14, stAt 15, stAt 16, stAt 17, stAt 18] := by kernel_rfl
theorem run_pre (w : World) (os : OsState) : topGo treeTable prog w 11 ann 12 ⟨boot_heap w.params, Array.mk [], boot_drawn, boot_toks, os⟩ (topStub prog) = some ((S_pre w os).abs, ⟨denote treeTable cE, cE, p0, Bp⟩) := by kernel_rfl
theorem run_block (w : World) (os : OsState) : segRun treeTable prog w 11 ann 1 1 (S_pre w os).abs (blockOf bE benv cE p0 Bp) = some (.next, (S_pre w os).abs, cE, p0) := by kernel_rfl
theorem run_fin (w : World) (os : OsState) : topRun treeTable prog w 11 ann 3 (S_p18 w os).abs ⟨doneF .next, cE, stPos 18, Bp⟩ = some (S_p18 w os).abs := by kernel_rfl
theorem dict_stmt (w : World) (os : OsState) (pos : Pos) (rest : List Stmt) {N : Nat} {r : Shared} (k : topRun treeTable prog w 11 ann N (S_p8 w os).abs (restOf rest benv cE (stPos 8) Bp) = some r) :
    topRun treeTable prog w 11 ann (N + 60000) (S_p7 w os).abs (restOf (stAt 8 :: rest) benv cE pos Bp) = some r := by
  obtain ⟨n, hn, g⟩ := dict_go w os pos
  unfold restOf at k ⊢
  rw [execs_cons_wrap]
  have := topRun_mono (60000 - n) _ _ _ _ (g (fun f => match f with | .next => (execs rest benv).wrap doneF (leaveH benv) id id | f => doneF f) (leaveH benv) id id N r k)
  rwa [show N + n + (60000 - n) = N + 60000 by omega] at this

theorem run_19 (w : World) (os : OsState) : topRun treeTable prog w 11 ann 3 (S_p18 w os).abs (restOf [] benv cE (stPos 18) Bp) = some (S_p18 w os).abs := piece_nil (run_fin w os)
theorem run_18 (w : World) (os : OsState) : topRun treeTable prog w 11 ann 30 (S_p17 w os).abs (restOf [stAt 18] benv cE (stPos 17) Bp) = some (S_p18 w os).abs := by
  have := piece_app (l := [stAt 18]) (segRun_of (seg_18 w os (stPos 17))) (run_19 w os)
  exact this
theorem run_17 (w : World) (os : OsState) : topRun treeTable prog w 11 ann 57 (S_p16 w os).abs (restOf [stAt 17, stAt 18] benv cE (stPos 16) Bp) = some (S_p18 w os).abs := by
  have := piece_app (l := [stAt 17]) (segRun_of (seg_17 w os (stPos 16))) (run_18 w os)
  exact this
theorem run_16 (w : World) (os : OsState) : topRun treeTable prog w 11 ann 84 (S_p15 w os).abs (restOf [stAt 16, stAt 17, stAt 18] benv cE (stPos 15) Bp) = some (S_p18 w os).abs := by
  have := piece_app (l := [stAt 16]) (segRun_of (seg_16 w os (stPos 15))) (run_17 w os)
  exact this
theorem run_15 (w : World) (os : OsState) : topRun treeTable prog w 11 ann 117 (S_p14 w os).abs (restOf [stAt 15, stAt 16, stAt 17, stAt 18] benv cE (stPos 14) Bp) = some (S_p18 w os).abs := by
  have := piece_app (l := [stAt 15]) (segRun_of (seg_15 w os (stPos 14))) (run_16 w os)
  exact this
theorem run_14 (w : World) (os : OsState) : topRun treeTable prog w 11 ann 153 (S_p13 w os).abs (restOf [stAt 14, stAt 15, stAt 16, stAt 17, stAt 18] benv cE (stPos 13) Bp) = some (S_p18 w os).abs := by
  have := piece_app (l := [stAt 14]) (segRun_of (seg_14 w os (stPos 13))) (run_15 w os)
  exact this
theorem run_13 (w : World) (os : OsState) : topRun treeTable prog w 11 ann 186 (S_p12 w os).abs (restOf [stAt 13, stAt 14, stAt 15, stAt 16, stAt 17, stAt 18] benv cE (stPos 12) Bp) = some (S_p18 w os).abs := by
  have := piece_app (l := [stAt 13]) (segRun_of (seg_13 w os (stPos 12))) (run_14 w os)
  exact this
theorem run_12 (w : World) (os : OsState) : topRun treeTable prog w 11 ann 216 (S_p11 w os).abs (restOf [stAt 12, stAt 13, stAt 14, stAt 15, stAt 16, stAt 17, stAt 18] benv cE (stPos 11) Bp) = some (S_p18 w os).abs := by
  have := piece_app (l := [stAt 12]) (segRun_of (seg_12 w os (stPos 11))) (run_13 w os)
  exact this
theorem run_11 (w : World) (os : OsState) : topRun treeTable prog w 11 ann 248 (S_p10 w os).abs (restOf [stAt 11, stAt 12, stAt 13, stAt 14, stAt 15, stAt 16, stAt 17, stAt 18] benv cE (stPos 10) Bp) = some (S_p18 w os).abs := by
  have := piece_app (l := [stAt 11]) (segRun_of (seg_11 w os (stPos 10))) (run_12 w os)
  exact this
theorem run_10 (w : World) (os : OsState) : topRun treeTable prog w 11 ann 258 (S_p9 w os).abs (restOf [stAt 10, stAt 11, stAt 12, stAt 13, stAt 14, stAt 15, stAt 16, stAt 17, stAt 18] benv cE (stPos 9) Bp) = some (S_p18 w os).abs := by
  have := piece_app (l := [stAt 10]) (segRun_of (seg_10 w os (stPos 9))) (run_11 w os)
  exact this
theorem run_9 (w : World) (os : OsState) : topRun treeTable prog w 11 ann 289 (S_p8 w os).abs (restOf [stAt 9, stAt 10, stAt 11, stAt 12, stAt 13, stAt 14, stAt 15, stAt 16, stAt 17, stAt 18] benv cE (stPos 8) Bp) = some (S_p18 w os).abs := by
  have := piece_app (l := [stAt 9]) (segRun_of (seg_9 w os (stPos 8))) (run_10 w os)
  exact this
theorem run_8 (w : World) (os : OsState) : topRun treeTable prog w 11 ann 60289 (S_p7 w os).abs (restOf [stAt 8, stAt 9, stAt 10, stAt 11, stAt 12, stAt 13, stAt 14, stAt 15, stAt 16, stAt 17, stAt 18] benv cE (stPos 7) Bp) = some (S_p18 w os).abs := dict_stmt w os (stPos 7) _ (run_9 w os)
theorem run_7 (w : World) (os : OsState) : topRun treeTable prog w 11 ann 60319 (S_p6 w os).abs (restOf [stAt 7, stAt 8, stAt 9, stAt 10, stAt 11, stAt 12, stAt 13, stAt 14, stAt 15, stAt 16, stAt 17, stAt 18] benv cE (stPos 6) Bp) = some (S_p18 w os).abs := by
  have := piece_app (l := [stAt 7]) (segRun_of (seg_7 w os (stPos 6))) (run_8 w os)
  exact this
theorem run_6 (w : World) (os : OsState) : topRun treeTable prog w 11 ann 61519 (S_p5 w os).abs (restOf [stAt 6, stAt 7, stAt 8, stAt 9, stAt 10, stAt 11, stAt 12, stAt 13, stAt 14, stAt 15, stAt 16, stAt 17, stAt 18] benv cE (stPos 5) Bp) = some (S_p18 w os).abs := by
  have := piece_app (l := [stAt 6]) (segRun_of (seg_6 w os (stPos 5))) (run_7 w os)
  exact this
theorem run_5 (w : World) (os : OsState) : topRun treeTable prog w 11 ann 61529 (S_p4 w os).abs (restOf [stAt 5, stAt 6, stAt 7, stAt 8, stAt 9, stAt 10, stAt 11, stAt 12, stAt 13, stAt 14, stAt 15, stAt 16, stAt 17, stAt 18] benv cE (stPos 4) Bp) = some (S_p18 w os).abs := by
  have := piece_app (l := [stAt 5]) (segRun_of (seg_5 w os (stPos 4))) (run_6 w os)
  exact this
theorem run_4 (w : World) (os : OsState) : topRun treeTable prog w 11 ann 61559 (S_p3 w os).abs (restOf [stAt 4, stAt 5, stAt 6, stAt 7, stAt 8, stAt 9, stAt 10, stAt 11, stAt 12, stAt 13, stAt 14, stAt 15, stAt 16, stAt 17, stAt 18] benv cE (stPos 3) Bp) = some (S_p18 w os).abs := by
  have := piece_app (l := [stAt 4]) (segRun_of (seg_4 w os (stPos 3))) (run_5 w os)
  exact this
theorem run_3 (w : World) (os : OsState) : topRun treeTable prog w 11 ann 61590 (S_p2 w os).abs (restOf [stAt 3, stAt 4, stAt 5, stAt 6, stAt 7, stAt 8, stAt 9, stAt 10, stAt 11, stAt 12, stAt 13, stAt 14, stAt 15, stAt 16, stAt 17, stAt 18] benv cE (stPos 2) Bp) = some (S_p18 w os).abs := by
  have := piece_app (l := [stAt 3]) (segRun_of (seg_3 w os (stPos 2))) (run_4 w os)
  exact this
theorem run_2 (w : World) (os : OsState) : topRun treeTable prog w 11 ann 61600 (S_p1 w os).abs (restOf [stAt 2, stAt 3, stAt 4, stAt 5, stAt 6, stAt 7, stAt 8, stAt 9, stAt 10, stAt 11, stAt 12, stAt 13, stAt 14, stAt 15, stAt 16, stAt 17, stAt 18] benv cE (stPos 1) Bp) = some (S_p18 w os).abs := by
  have := piece_app (l := [stAt 2]) (segRun_of (seg_2 w os (stPos 1))) (run_3 w os)
  exact this
theorem run_1 (w : World) (os : OsState) : topRun treeTable prog w 11 ann 61633 (S_p0 w os).abs (restOf [stAt 1, stAt 2, stAt 3, stAt 4, stAt 5, stAt 6, stAt 7, stAt 8, stAt 9, stAt 10, stAt 11, stAt 12, stAt 13, stAt 14, stAt 15, stAt 16, stAt 17, stAt 18] benv cE (stPos 0) Bp) = some (S_p18 w os).abs := by
  have := piece_app (l := [stAt 1]) (segRun_of (seg_1 w os (stPos 0))) (run_2 w os)
  exact this
theorem run_0 (w : World) (os : OsState) : topRun treeTable prog w 11 ann 61643 (S_pre w os).abs (restOf [stAt 0, stAt 1, stAt 2, stAt 3, stAt 4, stAt 5, stAt 6, stAt 7, stAt 8, stAt 9, stAt 10, stAt 11, stAt 12, stAt 13, stAt 14, stAt 15, stAt 16, stAt 17, stAt 18] benv cE p0 Bp) = some (S_p18 w os).abs := by
  have := piece_app (l := [stAt 0]) (segRun_of (seg_0 w os p0)) (run_1 w os)
  exact this
theorem run_all (w : World) (os : OsState) : topRun treeTable prog w 11 ann 61656 ⟨boot_heap w.params, Array.mk [], boot_drawn, boot_toks, os⟩ (topStub prog) = some (S_p18 w os).abs := by
  have h0 := run_0 w os
  rw [← body_is] at h0
  have h1 := piece_block (run_block w os) h0
  have h2 := go_top (run_pre w os) h1
  exact h2
end Mine
end
section
open PySem PySem.W PyProof.Rows
set_option maxRecDepth 100000
set_option maxHeartbeats 1000000
namespace Mine
noncomputable def KK : Params → Frag := fun P => (nat_lit 2, boot_o_2 P) ::
  (nat_lit 3, o3_p18 P) ::
  (nat_lit 6, boot_o_6 P) ::
  (nat_lit 15, o15_p1 P) ::
  (nat_lit 17, o17_p1 P) ::
  (nat_lit 18, o18_p1 P) ::
  (nat_lit 20, o20_p1 P) ::
  (nat_lit 21, o21_p1 P) ::
  (nat_lit 22, o22_p3 P) ::
  (nat_lit 24, o24_p3 P) ::
  (nat_lit 25, o25_p3 P) ::
  (nat_lit 27, o27_p3 P) ::
  (nat_lit 28, o28_p3 P) ::
  (nat_lit 29, o29_p4 P) ::
  (nat_lit 31, o31_p4 P) ::
  (nat_lit 32, o32_p4 P) ::
  (nat_lit 34, o34_p4 P) ::
  (nat_lit 35, o35_p4 P) ::
  (nat_lit 43, o43_p6 P) ::
  (nat_lit 47, o47_p7 P) ::
  (nat_lit 49, o49_p7 P) ::
  (nat_lit 50, o50_p7 P) ::
  (nat_lit 52, o52_p7 P) ::
  (nat_lit 53, o53_p7 P) ::
  (nat_lit 54, o54) ::
  (nat_lit 93, o93_p9 P) ::
  (nat_lit 95, o95_p9 P) ::
  (nat_lit 96, o96_p9 P) ::
  (nat_lit 98, o98_p9 P) ::
  (nat_lit 99, o99_p9 P) ::
  (nat_lit 100, o100_p11 P) ::
  (nat_lit 102, o102_p11 P) ::
  (nat_lit 103, o103_p11 P) ::
  (nat_lit 105, o105_p11 P) ::
  (nat_lit 106, o106_p11 P) ::
  (nat_lit 107, o107_p12 P) ::
  (nat_lit 109, o109_p12 P) ::
  (nat_lit 110, o110_p12 P) ::
  (nat_lit 112, o112_p12 P) ::
  (nat_lit 113, o113_p12 P) ::
  (nat_lit 114, o114_p13 P) ::
  (nat_lit 116, o116_p13 P) ::
  (nat_lit 117, o117_p13 P) ::
  (nat_lit 119, o119_p13 P) ::
  (nat_lit 120, o120_p13 P) ::
  (nat_lit 121, o121_p14 P) ::
  (nat_lit 123, o123_p14 P) ::
  (nat_lit 124, o124_p14 P) ::
  (nat_lit 126, o126_p14 P) ::
  (nat_lit 127, o127_p14 P) ::
  (nat_lit 128, o128_p15 P) ::
  (nat_lit 130, o130_p15 P) ::
  (nat_lit 131, o131_p15 P) ::
  (nat_lit 133, o133_p15 P) ::
  (nat_lit 134, o134_p15 P) ::
  (nat_lit 135, o135_p16 P) ::
  (nat_lit 138, o138_p16 P) ::
  (nat_lit 139, o139_p16 P) ::
  (nat_lit 140, o140_p17 P) ::
  (nat_lit 143, o143_p17 P) ::
  (nat_lit 144, o144_p17 P) ::
  (nat_lit 145, o145_p18 P) ::
  (nat_lit 148, o148_p18 P) ::
  (nat_lit 149, o149_p18 P) :: []
noncomputable abbrev KAs : List Addr := [nat_lit 2, nat_lit 3, nat_lit 6, nat_lit 15, nat_lit 17, nat_lit 18, nat_lit 20, nat_lit 21, nat_lit 22, nat_lit 24, nat_lit 25, nat_lit 27, nat_lit 28, nat_lit 29, nat_lit 31, nat_lit 32, nat_lit 34, nat_lit 35, nat_lit 43, nat_lit 47, nat_lit 49, nat_lit 50, nat_lit 52, nat_lit 53, nat_lit 54, nat_lit 93, nat_lit 95, nat_lit 96, nat_lit 98, nat_lit 99, nat_lit 100, nat_lit 102, nat_lit 103, nat_lit 105, nat_lit 106, nat_lit 107, nat_lit 109, nat_lit 110, nat_lit 112, nat_lit 113, nat_lit 114, nat_lit 116, nat_lit 117, nat_lit 119, nat_lit 120, nat_lit 121, nat_lit 123, nat_lit 124, nat_lit 126, nat_lit 127, nat_lit 128, nat_lit 130, nat_lit 131, nat_lit 133, nat_lit 134, nat_lit 135, nat_lit 138, nat_lit 139, nat_lit 140, nat_lit 143, nat_lit 144, nat_lit 145, nat_lit 148, nat_lit 149]
noncomputable def HH (P : Params) : Heap := absHeap (T_p18 P) 150 {}
noncomputable def qq : Program := view prog [1, 3, 4, 6, 7, 8, 9, 11, 12, 13, 14, 15, 16, 17, 18]
noncomputable abbrev lz : List Str := ["b1_set", "b3_exceptions"]
theorem kas_is (P : Params) : KAs = (KK P).map (·.1) := by kernel_rfl
noncomputable def myHook : Hook := kHook KK KAs kas_is
abbrev lawRow : OpenRow := PySem.Challenge.rw_ti0029_01.row
end Mine
end
section
open PySem PySem.W PyProof.Rows
set_option maxRecDepth 100000
set_option maxHeartbeats 1000000
namespace Mine
/-- the tables stand: the names but one name none, and that one's is an int table that stands -/
theorem tables_of {p : Program} {h : Heap} {nm : Str} {D : List (PyData × PyData)} (e1 : tupIntsOf p nm = none) (e2 : tupStrsOf p nm = none) (e3 : tabIntOf p nm = some D) (e4 : h.tabIntOk nm D = true)
    (rest : ((valNames p).all fun x => x == nm || ((tupIntsOf p x).isNone && (tupStrsOf p x).isNone && (tabIntOf p x).isNone)) = true) : tablesOk p h = true := by
  unfold tablesOk
  rw [List.all_eq_true] at rest ⊢
  intro x hx
  have r := rest x hx
  rw [Bool.or_eq_true, Bool.and_eq_true, Bool.and_eq_true, Option.isNone_iff_eq_none, Option.isNone_iff_eq_none, Option.isNone_iff_eq_none] at r
  rcases r with r | ⟨⟨r1, r2⟩, r3⟩
  · obtain rfl := beq_iff_eq.mp r
    simp only [e1, e2, e3, e4, Bool.and_true]
  · simp only [r1, r2, r3, Bool.and_true]
/-- int keys that rise from each pair to the next -/
noncomputable def rising : Int → List (PyData × PyData) → Bool
  | _, [] => true
  | n, (.int k, _) :: D => decide (n < k) && rising k D
  | _, _ => false
theorem rising_no {k : Int} : ∀ {D : List (PyData × PyData)} {n : Int}, k ≤ n → rising n D = true → hasIntKey k D = false
  | [], _, _, _ => rfl
  | (.int j, _) :: D, n, h, r => by
    rw [rising, Bool.and_eq_true, decide_eq_true_eq] at r
    rw [hasIntKey, rising_no (by omega) r.2, Bool.or_false, beq_eq_false_iff_ne]
    omega
theorem rising_apart : ∀ {D : List (PyData × PyData)} {n : Int}, rising n D = true → keysApartInt D = true
  | [], _, _ => rfl
  | (.int j, _) :: D, n, r => by
    rw [rising, Bool.and_eq_true] at r
    rw [keysApartInt, rising_no (Int.le_refl j) r.2, rising_apart r.2]
    rfl
theorem tab_ok {h : Heap} {nm : Str} {D : List (PyData × PyData)} {a : Addr} {o : Obj} {es : Array DictEntry} {t} (h1 : h.nsMap mainGlobals nm = some (.ref a)) (h2 : h.get? a = some o)
    (h3 : o.cls = .type "dict") (h4 : o.dict = none) (h5 : o.data = .dict es t) (h6 : ((o.slots.size == 0) && entriesAreInt es.toList D && (a != sysModules)) = true) (h7 : keysApartInt D = true) : h.tabIntOk nm D = true := by
  unfold Heap.tabIntOk
  simp only [h1, h2, h3, h4, h5, h7, Bool.and_true]
  simpa using h6
noncomputable def D3 : List (PyData × PyData) := (tabIntOf qq "b3_exceptions").getD []
theorem d3_eq : tabIntOf qq "b3_exceptions" = some D3 := by kernel_rfl
theorem d3_apart : keysApartInt D3 = true := rising_apart (n := 0) (by kernel_rfl)
theorem size_ok (w : World) : ((boot_heap w.params).isNs mainGlobals && (Array.mk [] : Array GenState).size == 0, (boot_heap w.params).objs.size, (boot_heap w.params).nsMap mainGlobals "__annotations__") = (true, 11, ann) := by kernel_rfl
theorem open_ok : ∀ w : World, (fencedOpening treeTable prog w 70000).map (fun s => (s.heap, s.gens, s.drawn, s.toks)) = some (boot_heap w.params, Array.mk [], boot_drawn, boot_toks) :=
  boot_open (by kernel_rfl) (by decide) (fun s => by kernel_rfl)
theorem look_a (w : World) (os : OsState) : (staticsOk (importedModules prog.main.body) (boot_heap w.params) (HH w.params) && namesBound prog (HH w.params) && gensDone ⟨HH w.params, Array.mk [], boot_drawn, 2313, os⟩ && laidKept (boot_heap w.params) (HH w.params)) = true := by kernel_rfl
theorem look_c (w : World) (os : OsState) : myHook.obs ⟨HH w.params, Array.mk [], boot_drawn, 2313, os⟩ = myHook.val w := by kernel_rfl
theorem d3_ok (w : World) : (HH w.params).tabIntOk "b3_exceptions" D3 = true :=
  tab_ok (a := 54) (o := o54) (by kernel_rfl) (by kernel_rfl) (by kernel_rfl) (by kernel_rfl) (es := b3Ent.toArray) (t := 650) (by kernel_rfl) (by kernel_rfl) d3_apart
theorem nf_eq : tupIntsOf qq "b3_exceptions" = none ∧ tupStrsOf qq "b3_exceptions" = none := ⟨by kernel_rfl, by kernel_rfl⟩
theorem tables_ok (w : World) : tablesOk qq (HH w.params) = true := tables_of nf_eq.1 nf_eq.2 d3_eq (d3_ok w) (by kernel_rfl)
theorem nine {α₁ α₂ α₃ α₄ α₅ α₆ α₇ α₈ α₉ : Type} {a₁ b₁ : α₁} {a₂ b₂ : α₂} {a₃ b₃ : α₃} {a₄ b₄ : α₄} {a₅ b₅ : α₅} {a₆ b₆ : α₆} {a₇ b₇ : α₇} {a₈ b₈ : α₈} {a₉ b₉ : α₉} (h₁ : a₁ = b₁) (h₂ : a₂ = b₂) (h₃ : a₃ = b₃) (h₄ : a₄ = b₄)
    (h₅ : a₅ = b₅) (h₆ : a₆ = b₆) (h₇ : a₇ = b₇) (h₈ : a₈ = b₈) (h₉ : a₉ = b₉) : (a₁, a₂, a₃, a₄, a₅, a₆, a₇, a₈, a₉) = (b₁, b₂, b₃, b₄, b₅, b₆, b₇, b₈, b₉) := by
  subst h₁ h₂ h₃ h₄ h₅ h₆ h₇ h₈ h₉; rfl
theorem look_b (w : World) (os : OsState) : openSeen qq lz (importedModules prog.main.body) (fun s => xlAt qq [] s && recOk lawRow.toRowW.records s) true ⟨HH w.params, Array.mk [], boot_drawn, 2313, os⟩ = openGood qq lz := by
  unfold openSeen openGood
  refine nine ?_ ?_ ?_ ?_ ?_ ?_ ?_ ?_ ?_
  · kernel_rfl
  · kernel_rfl
  · refine look_both (look_both (look_both ?_ (tables_ok w)) ?_) ?_
    · kernel_rfl
    · kernel_rfl
    · kernel_rfl
  · kernel_rfl
  · kernel_rfl
  · kernel_rfl
  · kernel_rfl
  · kernel_rfl
  · kernel_rfl
end Mine
end
section
open PySem PySem.W PyProof.Rows
set_option maxRecDepth 100000
set_option maxHeartbeats 1000000
namespace Mine
theorem run_ok (w : World) (os : OsState) : topRun treeTable prog w 11 ann 61656 ⟨boot_heap w.params, Array.mk [], boot_drawn, boot_toks, os⟩ (topStub prog) = some ⟨HH w.params, Array.mk [], boot_drawn, 2313, os⟩ :=
  (run_all w os).trans (by kernel_rfl)
theorem left_ok : LeftO prog qq lz (fun s => xlAt qq [] s && recOk lawRow.toRowW.records s) myHook.obs myHook.val 70000 :=
  LeftO.of_pieces open_ok size_ok run_ok (by decide) fun w => funext fun os => Prod.ext (look_a w os) (Prod.ext (look_b w os) (look_c w os))
end Mine
end
section
open PySem PySem.W PyProof.Rows
set_option maxRecDepth 100000
set_option maxHeartbeats 8000000
namespace Mine
/-- the law's call, over a script laid at l -/
noncomputable def LawWalk : Prop := ∀ (w : World) (s : Shared) (mg mb : Str → Option Value), TopRead qq (looseW qq lz) mg mb s.heap → (KK w.params).In s.heap →
  ∀ (l : Addr) (vs : List Value) (ns : List Int), s.heap.IsList l vs.toArray → IntsAre vs ns → ns.length ≤ 63 →
   wpAny (model prog w) callerA (PySem.call (.ref 149) [.ref l]) (fun v s' => v = .bool true ∧ ∃ h' tk, s' = { s with heap := h', toks := tk } ∧ ∀ b o, s.heap.get? b = some o → h'.get? b = some o) (fun _ _ => False) s
theorem look0 : looksOpen PySem.Challenge.rw_ti0029_01.row.prog = true := by
  unfold looksOpen
  with_reducible iterate 5 (refine look_both ?_ (by decide +kernel))
  decide +kernel
theorem said1 : PySem.Challenge.rw_ti0029_01.row.partSaid = true := by
  unfold OpenRow.partSaid
  with_reducible iterate 13 (refine look_both ?_ (by decide +kernel))
  exact look0
theorem said0 : PySem.Challenge.rw_ti0029_01.row.wellSaid = true := by
  unfold OpenRow.wellSaid
  with_reducible iterate 2 (refine look_both ?_ (by decide +kernel))
  exact said1
theorem said : PySem.Challenge.rw_ti0029_01.wellSaid = true := by
  unfold OpenLaw.wellSaid
  with_reducible iterate 18 (refine look_both ?_ (by decide +kernel))
  exact said0
theorem holds_of (W : LawWalk) : PySem.Challenge.rw_ti0029_01.Holds := by
  w_on
  refine holds_law said fun _ => ?_
  refine holds_open (q := qq) (loose := lz) (Xt := fun s => xlAt qq [] s && recOk (RowW.records lawRow.toRowW) s) (XP := XL qq []) (Yf := Hook.obs myHook) (Ya := Hook.val myHook) (YP := Hook.says myHook) (N := 70000) left_ok (Hook.of myHook) (Hook.keeps myHook) (fun s e => xl_of s (Bool.and_eq_true_iff.mp e).1) XL.keeps (by rfl) (by rfl) (by rfl) (fun s e => recFacts_of (Bool.and_eq_true_iff.mp e).2) (by rfl) (by first | assumption | decide +kernel) (by decide +kernel) ⟨rfl, rfl, rfl, rfl, rfl, by decide +kernel⟩ ?hw ?hc
  case hw => w_witness2
  intro w s₀ s₁ mg mb G Y a o pm cd dV kV doc ho hd hcd hD hmg hg args vals as hpre hlay hrd hwl hlo
  have X : (KK w.params).In s₁.heap := kIn_of Y
  have T := topRead_of (Ground.T G)
  have ha : mg "law" = some (.ref 149) := mg_of X T.g (by kernel_rfl)
  have ha' : some (Value.ref a) = some (Value.ref 149) := hmg.symm.trans ha
  obtain rfl : a = 149 := Value.ref.inj (Option.some.inj ha')
  clear hd ho hmg ha ha' hcd hD G Y
  wrow_args hpre hlay hrd hwl hlo
  rename_i _ ns _ _ _ _ _ _ _ l vs _ hL ra _ _ hI _ hc _
  have hlen : ns.length ≤ 63 := by omega
  refine wpAny_mono (W w s₁ mg mb T X l vs ns hL hI hlen) ?_ (fun _ _ e => e.elim)
  rintro v s' ⟨rfl, h', tk, rfl, hk⟩
  exact GoodW.toG ⟨.inl ⟨_, .bool true, [], rfl, fun _ => rfl, .bool true, postW_of (r := lawRow.toRowW) (X := (true == true)) rfl (w_eq_bool (w_res rfl) w_lit) rfl, unshared_nil⟩, hk, rfl, hg⟩
end Mine
end
section
open PySem PySem.W PyProof.Rows PySem.Calls PySem.StrLaws
namespace Mine
open PySem.Builtin PySem.Builtin.Str
/-- msg.find(sub, 0, j), msg.rfind(sub, 0, j) -/
noncomputable def find4 (x y : Str) (j : Int) : Int := match occurrences x y (fromIndex x.length 0) (min (fromIndex x.length j) x.length) 1 with | k :: _ => (k : Int) | [] => -1
noncomputable def rfind4 (x y : Str) (j : Int) : Int := match lastOccurrence x y (fromIndex x.length 0) (min (fromIndex x.length j) x.length) with | some k => (k : Int) | none => -1
theorem gives_find4 (x y : Str) (j : Int) (t u v v' : Tok) : Gives («str.find» ⟨[.str x t, .str y u, .int 0 v, .int j v'], []⟩) (.int (find4 x y j)) := by
  show Gives (match occurrences x y (fromIndex x.length 0) (min (fromIndex x.length j) x.length) 1 with | k :: _ => retInt k | [] => (do rule "str.find.not-found"; retInt (-1))) _
  unfold find4
  cases occurrences x y (fromIndex x.length 0) (min (fromIndex x.length j) x.length) 1 with
  | nil => exact .rule (.of_eq rfl)
  | cons k _ => exact .of_eq rfl
theorem gives_rfind4 (x y : Str) (j : Int) (t u v v' : Tok) : Gives («str.rfind» ⟨[.str x t, .str y u, .int 0 v, .int j v'], []⟩) (.int (rfind4 x y j)) := by
  show Gives (match lastOccurrence x y (fromIndex x.length 0) (min (fromIndex x.length j) x.length) with | some k => retInt k | none => (do rule "str.rfind.not-found"; retInt (-1))) _
  unfold rfind4
  cases lastOccurrence x y (fromIndex x.length 0) (min (fromIndex x.length j) x.length) with
  | none => exact .rule (.of_eq rfl)
  | some k => exact .of_eq rfl
section
variable {prog : Program} {w : World} {A : Around} {E : Value → Shared → Prop} {s : Shared} {x y : Str} {t u v v' : Tok} {j : Int} {Q : Value → Shared → Prop}
theorem call_find4 (hq : Q (.int (find4 x y j) s.toks) { s with toks := s.toks + 1 }) : wpAny (model prog w) A (call (.builtin "str.find") [.str x t, .str y u, .int 0 v, .int j v']) Q E s :=
  call_gives F.slot_str_find (typeIs_str _ _ _) F.entry_str_find (F.args_str_find_4 _ _ _ _) (gives_find4 x y j t u v v') hq
theorem call_rfind4 (hq : Q (.int (rfind4 x y j) s.toks) { s with toks := s.toks + 1 }) : wpAny (model prog w) A (call (.builtin "str.rfind") [.str x t, .str y u, .int 0 v, .int j v']) Q E s :=
  call_gives F.slot_str_rfind (typeIs_str _ _ _) F.entry_str_rfind (F.args_str_rfind_4 _ _ _ _) (gives_rfind4 x y j t u v v') hq
end
theorem at_one (x : Str) (c hi i : Nat) (hh : hi ≤ x.length) : At x ⟨#[c]⟩ hi i ↔ i < hi ∧ x.cps.toList[i]? = some c := by
  unfold At
  rw [subAt_eq, show (⟨#[c]⟩ : Str).length = 1 from rfl, show (⟨#[c]⟩ : Str).cps.toList = [c] from rfl, take1_drop]
  constructor
  · rintro ⟨a, b⟩; exact ⟨by omega, b⟩
  · rintro ⟨a, b⟩; exact ⟨by omega, b⟩
theorem fromIndex_in {n : Nat} {j : Int} (h0 : 0 ≤ j) : fromIndex n j = j.toNat := by
  unfold fromIndex
  rw [if_neg (by omega), Int.max_eq_right h0]
theorem find4_spec (x : Str) (c : Nat) (j : Nat) (hj : j ≤ x.length) :
    (find4 x ⟨#[c]⟩ j = -1 ∧ ∀ i, i < j → x.cps.toList[i]? ≠ some c) ∨ ∃ i : Nat, find4 x ⟨#[c]⟩ j = i ∧ i < j ∧ x.cps.toList[i]? = some c ∧ ∀ k, k < i → x.cps.toList[k]? ≠ some c := by
  unfold find4
  rw [fromIndex_in (Int.le_refl 0), fromIndex_in (Int.natCast_nonneg j), Int.toNat_natCast, Nat.min_eq_left hj, show (0 : Int).toNat = 0 from rfl, occ_eq]
  rcases occ_first x ⟨#[c]⟩ j 1 (Nat.le_refl _) (List.range' 0 (j + 1 - 0)) 0 (fun _ _ => Nat.zero_le _) with ⟨h0, hn⟩ | ⟨pre, a, post, e, h0, ha, hn⟩
  · rw [h0]
    refine .inl ⟨rfl, fun i hi hc => hn i ?_ ((at_one x c j i hj).mpr ⟨hi, hc⟩)⟩
    simp [List.mem_range']; omega
  · have h1 := (at_one x c j a hj).mp ha
    refine .inr ⟨a, ?_, h1.1, h1.2, fun k hk hc => hn k (range'_split e k hk) ((at_one x c j k hj).mpr ⟨by omega, hc⟩)⟩
    generalize (forIn (List.range' 0 (j + 1 - 0)) ((#[] : Array Nat), 0) (occBody x ⟨#[c]⟩ j 1)).run.fst = arr at h0
    have h1 : arr.toList[0]? = some a := by simpa using h0
    cases hL : arr.toList with
    | nil => rw [hL] at h1; cases h1
    | cons b t => rw [hL] at h1; simp at h1; rw [h1]
theorem rfind4_spec (x : Str) (c : Nat) (j : Nat) (hj : j ≤ x.length) :
    (rfind4 x ⟨#[c]⟩ j = -1 ∧ ∀ i, i < j → x.cps.toList[i]? ≠ some c) ∨ ∃ i : Nat, rfind4 x ⟨#[c]⟩ j = i ∧ i < j ∧ x.cps.toList[i]? = some c ∧ ∀ k, i < k → k < j → x.cps.toList[k]? ≠ some c := by
  unfold rfind4
  rw [fromIndex_in (Int.le_refl 0), fromIndex_in (Int.natCast_nonneg j), Int.toNat_natCast, Nat.min_eq_left hj, show (0 : Int).toNat = 0 from rfl, last_eq]
  have key := last_run x ⟨#[c]⟩ j (List.range' 0 (j + 1 - 0)) [] none (fun _ h => nomatch h) (fun _ h => nomatch h) (by simpa using List.pairwise_lt_range' (s := 0) (n := j + 1 - 0))
  rw [List.nil_append] at key
  generalize (forIn (List.range' 0 (j + 1 - 0)) none (lastBody x ⟨#[c]⟩ j)).run = r at key
  have mem : ∀ i, i < j → i ∈ List.range' 0 (j + 1 - 0) := fun i hi => by simp [List.mem_range']; omega
  cases r with
  | none => exact .inl ⟨rfl, fun i hi hc => key i (mem i hi) ((at_one x c j i hj).mpr ⟨hi, hc⟩)⟩
  | some a =>
    have h1 := (at_one x c j a hj).mp key.1
    exact .inr ⟨a, rfl, h1.1, h1.2, fun k hk hkj hc => key.2 k (mem k hkj) hk ((at_one x c j k hj).mpr ⟨hkj, hc⟩)⟩

/-- the bare name of a text -/
noncomputable def upTo (p : Nat → Bool) (l : List Nat) : List Nat := l.takeWhile fun c => !p c
noncomputable def behind (c : Nat) (l : List Nat) : List Nat := (l.reverse.takeWhile fun d => d != c).reverse
noncomputable def bareOf (l : List Nat) : List Nat := behind 46 (upTo (fun c => c == 10 || c == 58) l)

theorem upTo_take (p : Nat → Bool) : ∀ (l : List Nat) (b : Nat), b ≤ l.length → (∀ i, i < b → ∀ c, l[i]? = some c → p c = false) → (∀ c, l[b]? = some c → p c = true) → upTo p l = l.take b
  | [], b, hb, _, _ => by simp at hb; subst hb; rfl
  | c :: l, 0, _, _, h => by
    have := h c rfl
    simp [upTo, this]
  | c :: l, b + 1, hb, h1, h2 => by
    have hc := h1 0 (by omega) c rfl
    have ih := upTo_take p l b (by simpa using hb) (fun i hi d hd => h1 (i + 1) (by omega) d (by simpa using hd)) (fun d hd => h2 d (by simpa using hd))
    simp only [upTo, List.takeWhile_cons, hc, Bool.not_false, if_true, List.take_succ_cons]
    rw [← ih]; rfl
theorem takeWhile_all {p : Nat → Bool} : ∀ {l : List Nat}, (∀ x ∈ l, p x = true) → l.takeWhile p = l
  | [], _ => rfl
  | a :: l, h => by rw [List.takeWhile_cons, if_pos (h a (.head _)), takeWhile_all fun x hx => h x (.tail _ hx)]
theorem behind_none {c : Nat} {l : List Nat} (h : ∀ x ∈ l, x ≠ c) : behind c l = l := by
  unfold behind
  rw [takeWhile_all (by intro x hx; simpa using h x (by simpa using hx)), List.reverse_reverse]
theorem behind_append {c : Nat} {a b : List Nat} (h : ∀ x ∈ b, x ≠ c) : behind c (a ++ c :: b) = b := by
  unfold behind
  rw [List.reverse_append, List.reverse_cons, List.append_assoc, List.takeWhile_append_of_pos (by intro x hx; simpa using h x (by simpa using hx))]
  simp
theorem behind_drop (c : Nat) (l : List Nat) (a : Nat) (ha : l[a]? = some c) (h : ∀ k, a < k → l[k]? ≠ some c) : behind c l = l.drop (a + 1) := by
  have hl : a < l.length := by
    rcases Nat.lt_or_ge a l.length with h | h
    · exact h
    · rw [List.getElem?_eq_none h] at ha; cases ha
  have e : l = l.take a ++ c :: l.drop (a + 1) := by
    have h1 : l[a] = c := by rw [List.getElem?_eq_getElem hl] at ha; exact Option.some.inj ha
    rw [← h1, List.getElem_cons_drop, List.take_append_drop]
  conv => lhs; rw [e]
  refine behind_append fun x hx => ?_
  rintro rfl
  obtain ⟨k, hk⟩ := List.mem_iff_getElem?.mp hx
  rw [List.getElem?_drop] at hk
  exact h (a + 1 + k) (by omega) hk
end Mine
namespace Mine
theorem nl_is : Str.ofString "\n" = ⟨#[10]⟩ := by decide +kernel
theorem colon_is : Str.ofString ":" = ⟨#[58]⟩ := by decide +kernel
theorem dot_is : Str.ofString "." = ⟨#[46]⟩ := by decide +kernel
theorem find_is (x y : Str) : Txt.find x y = find4 x y x.length := by
  unfold Txt.find find4
  rw [fromIndex_in (Int.le_refl 0), fromIndex_in (Int.natCast_nonneg _), Int.toNat_natCast, Nat.min_self]
  rfl
theorem strip_end (x : Str) {r e b : Int} (hr : (0 ≤ Txt.find x (Str.ofString "\n") ∧ r = Txt.find x (Str.ofString "\n")) ∨ (¬ 0 ≤ Txt.find x (Str.ofString "\n") ∧ r = x.length))
    (he : (0 ≤ find4 x (Str.ofString ":") r ∧ e = find4 x (Str.ofString ":") r) ∨ (¬ 0 ≤ find4 x (Str.ofString ":") r ∧ e = r))
    (hb : (0 ≤ rfind4 x (Str.ofString ".") e ∧ b = rfind4 x (Str.ofString ".") e + 1) ∨ (¬ 0 ≤ rfind4 x (Str.ofString ".") e ∧ b = 0)) :
    Txt.slice x (some b) (some e) = ⟨(bareOf x.cps.toList).toArray⟩ := by
  rw [nl_is, find_is] at hr
  rw [colon_is] at he
  rw [dot_is] at hb
  have hlen : x.length = x.cps.toList.length := by simp [Str.length]
  -- the first end
  obtain ⟨n, rfl, hn, hn1, hn2⟩ : ∃ n : Nat, r = n ∧ n ≤ x.length ∧ (∀ i, i < n → x.cps.toList[i]? ≠ some 10) ∧ (∀ c, x.cps.toList[n]? = some c → c = 10) := by
    rcases find4_spec x 10 x.length (Nat.le_refl _) with ⟨h1, h2⟩ | ⟨i, h1, h2, h3, h4⟩
    · rcases hr with hr | hr
      · omega
      · exact ⟨x.length, hr.2, Nat.le_refl _, h2, fun c hc => by rw [List.getElem?_eq_none (by omega)] at hc; cases hc⟩
    · rcases hr with hr | hr
      · exact ⟨i, by omega, by omega, h4, fun c hc => by rw [h3] at hc; exact (Option.some.inj hc).symm⟩
      · omega
  -- the second
  obtain ⟨m, rfl, hm, hm1, hm2⟩ : ∃ m : Nat, e = m ∧ m ≤ x.length ∧ (∀ i, i < m → ∀ c, x.cps.toList[i]? = some c → (c == 10 || c == 58) = false) ∧ (∀ c, x.cps.toList[m]? = some c → (c == 10 || c == 58) = true) := by
    have both : ∀ i k, i < k → k ≤ n → (∀ i, i < k → x.cps.toList[i]? ≠ some 58) → ∀ c, x.cps.toList[i]? = some c → (c == 10 || c == 58) = false := by
      intro i k hik hkn h c hc
      have e1 : c ≠ 10 := by rintro rfl; exact hn1 i (by omega) hc
      have e2 : c ≠ 58 := by rintro rfl; exact h i hik hc
      simp [e1, e2]
    rcases find4_spec x 58 n hn with ⟨h1, h2⟩ | ⟨i, h1, h2, h3, h4⟩
    · rcases he with he | he
      · omega
      · exact ⟨n, he.2, hn, fun i hi => both i n hi (Nat.le_refl _) h2, fun c hc => by simp [hn2 c hc]⟩
    · rcases he with he | he
      · exact ⟨i, by omega, by omega, fun k hk => both k i hk (by omega) h4, fun c hc => by rw [h3] at hc; simp [← Option.some.inj hc]⟩
      · omega
  have eU := upTo_take (fun c => c == 10 || c == 58) x.cps.toList m (by omega) hm1 hm2
  unfold bareOf
  rw [eU]
  rcases rfind4_spec x 46 m hm with ⟨h1, h2⟩ | ⟨a, h1, h2, h3, h4⟩
  · have hb0 : b = 0 := by rcases hb with hb | hb <;> omega
    subst hb0
    rw [behind_none (fun c hc hcc => by
      obtain ⟨i, hi⟩ := List.mem_iff_getElem?.mp hc
      rw [List.getElem?_take] at hi
      split at hi
      · subst hcc; exact h2 i (by assumption) hi
      · cases hi)]
    have := sliceText_nat x (a := 0) (b := m) (Nat.zero_le _) hm
    show sliceText x (some 0) (some (m : Int)) = _
    refine Eq.trans this ?_
    simp
  · have hb1 : b = ((a + 1 : Nat) : Int) := by rcases hb with hb | hb <;> omega
    subst hb1
    rw [behind_drop 46 _ a (by rw [List.getElem?_take, if_pos h2]; exact h3) (fun k hk hc => by
      rw [List.getElem?_take] at hc
      split at hc
      · exact h4 k hk (by assumption) hc
      · cases hc)]
    have := sliceText_nat x (a := a + 1) (b := m) (by omega) hm
    show sliceText x (some ((a + 1 : Nat) : Int)) (some (m : Int)) = _
    refine Eq.trans this ?_
    rw [List.drop_take]
end Mine
end
section
open PySem PySem.W PyProof.Rows PySem.Calls
set_option maxRecDepth 100000
set_option maxHeartbeats 1000000
namespace Mine
noncomputable def dAt? (i : Nat) : Option (Str × Arguments × List Stmt × Scope) := match stAt i with | .FunctionDef n a b _ _ _ s _ _ _ => some (n, a, b, s) | _ => none
noncomputable abbrev lz' : List Str := looseW qq lz
noncomputable abbrev kk (w : World) : Frag := KK w.params
/-- what every walk uses of the heap -/
structure Base (w : World) (mg mb : Str → Option Value) (h : Heap) : Prop where
  X : (kk w).In h
  T : TopRead qq lz' mg mb h
theorem Base.keeps {w : World} {mg mb : Str → Option Value} {h h' : Heap} (B : Base w mg mb h) (k : ∀ b o, h.get? b = some o → h'.get? b = some o) : Base w mg mb h' := ⟨B.X.keeps k, B.T.keeps k⟩
/-- nothing is lost -/
noncomputable def Ext (s s' : Shared) : Prop := ∃ h' tk, s' = { s with heap := h', toks := tk } ∧ ∀ b o, s.heap.get? b = some o → h'.get? b = some o
theorem Ext.refl {s : Shared} : Ext s s := ⟨s.heap, s.toks, rfl, fun _ _ e => e⟩
theorem Ext.trans {s s₁ s₂ : Shared} (a : Ext s s₁) (b : Ext s₁ s₂) : Ext s s₂ := by
  obtain ⟨h1, t1, rfl, k1⟩ := a
  obtain ⟨h2, t2, rfl, k2⟩ := b
  exact ⟨h2, t2, rfl, fun b o e => k2 b o (k1 b o e)⟩
theorem Ext.keep {s s' : Shared} (a : Ext s s') : ∀ b o, s.heap.get? b = some o → s'.heap.get? b = some o := by
  obtain ⟨h1, t1, rfl, k1⟩ := a; exact k1
/-- what stands around a walk at level k (k calls may lie deeper) -/
noncomputable def AB (k : Nat) : Around := { handled := none, depth := 900 - 10 * k, frames := none, guards := none, units := 9000 - 100 * k }
/-- from A a def may be entered whose body is walked at level k -/
structure Lv (k : Nat) (A : Around) : Prop where
  hd : A.handled = none
  depth : A.depth + 1 ≤ 900 - 10 * k
  units : A.units + 3 ≤ 9000 - 100 * k
theorem wpAny_AB {M : Model} {A : Around} {k : Nat} {α : Type} {t : Sem α} {Q : α → Shared → Prop} {E : Value → Shared → Prop} {s : Shared} (h1 : A.handled = none) (h2 : A.depth ≤ 900 - 10 * k) (h3 : A.units ≤ 9000 - 100 * k)
    (h : wpAny M (AB k) t Q E s) : wpAny M A t Q E s := fun Γ p hΓ =>
  h Γ p ⟨hΓ.1.trans h1, Nat.le_trans hΓ.2.1 h2, (fun l hl => nomatch hl), (fun g hg => nomatch hg), Nat.le_trans hΓ.2.2.2.2 h3⟩
/-- the def of statement i stands at a -/
noncomputable def FnAt (P : Params) (i : Nat) (a : Addr) (n : Str) : Prop := ∃ o pm cd, (KK P).lookup a = some o ∧ o.data = .func (docDef n (fA i) (fB i) (fS i) pm cd .none) ∧ codeIn (KK P) cd n = true
theorem call_fn {w : World} {mg mb : Str → Option Value} {A : Around} {s : Shared} {i : Nat} {a : Addr} {n : Str} {ps : Arguments} {b : List Stmt} {sc : Scope} {args : List Value} {binds : List (Str × Value)} {R : Result → Shared → Prop} (k : Nat)
    (hd : dAt? i = some (n, ps, b, sc)) (hf : FnAt w.params i a n) (B : Base w mg mb s.heap) (hr : Lv k A)
    (hbind : ∀ pm cd, bindArgs (docDef n ps b sc pm cd .none) ⟨args, []⟩ = pure binds) (hloc : ∀ x ∈ binds, sc.names.lookup x.1 = some .local)
    (h : ∀ cd h₁ tk (Q : Flow → Shared → Prop), (∀ v s', R (.ok (.ret v)) s' → Q (.ret v) s') → Fr s.heap s.heap.objs.size h₁ (fun x => binds.reverse.lookup x) → News s.heap s.heap.objs.size h₁ [] → (KK w.params).In s.heap → TopRead qq lz' mg mb s.heap →
      wpAny (model prog w) (AB k) (execs b (envOf n sc s.heap.objs.size a cd)) Q (fun _ _ => False) { s with heap := h₁, toks := tk })
    (hco : sc.isCoroutine = false) (hgen : sc.isGenerator = false) (hk : sc.kind = .function) (hcell : ∀ x ∈ sc.names, x.2 ≠ .cell) :
    codeAny (model prog w) A (.call (.ref a) ⟨args, []⟩) R s := by
  obtain ⟨o, pm, cd, h1, h2, h3⟩ := hf
  have e : fA i = ps ∧ fB i = b ∧ fS i = sc := by
    unfold dAt? at hd
    unfold fA fB fS
    split at hd
    · rename_i q
      simp only [Option.some.injEq, Prod.mk.injEq] at hd
      (try rw [q]); exact ⟨hd.2.1, hd.2.2.1, hd.2.2.2⟩
    · cases hd
  obtain ⟨rfl, rfl, rfl⟩ := e
  refine call_plain_ret (by have := hr.depth; show A.depth < 1000; omega) (B.X _ _ h1) h2 B.T.nolimit (codeRec_of B.X h3) (hbind pm cd) hloc (fun h₁ F => ?_) hco hgen hk hcell
  exact wpAny_AB (k := k) hr.hd hr.depth hr.units (h cd h₁ _ _ (fun v s' hv => hv) F News.nil B.X B.T)
end Mine
end
section
open PySem PySem.W PyProof.Rows PySem.Calls
set_option maxRecDepth 100000
set_option maxHeartbeats 1000000
namespace Mine
theorem at_strip (P : Params) : FnAt P 1 21 "_strip_exception_details" := ⟨o21_p1 P, .str "cpy313.doctest" 187, .ref 20, by kernel_rfl, by kernel_rfl, by kernel_rfl⟩
theorem at_coll (P : Params) : FnAt P 3 28 "_strcoll" := ⟨o28_p3 P, .str "cpy313.locale" 199, .ref 27, by kernel_rfl, by kernel_rfl, by kernel_rfl⟩
theorem at_xfrm (P : Params) : FnAt P 4 35 "_strxfrm" := ⟨o35_p4 P, .str "cpy313.locale" 199, .ref 34, by kernel_rfl, by kernel_rfl, by kernel_rfl⟩
variable {w : World} {mg mb : Str → Option Value} {A : Around} {s : Shared} {R : Result → Shared → Prop}
local macro_rules | `(tactic| walk_at "call builtin:str.find") => `(tactic| refine call_find4 ?_)
local macro_rules | `(tactic| walk_at "call builtin:str.rfind") => `(tactic| refine call_rfind4 ?_)
theorem spec_xfrm {x : Str} {t : Tok} (hrow : lawRow = lawRow) (B : Base w mg mb s.heap) (hr : Lv 0 A) (h : ∀ s', Ext s s' → R (.ok (.ret (.str x t))) s') : codeAny (model prog w) A (.call (.ref 35) ⟨[.str x t], []⟩) R s := by
  refine call_fn (i := 4) (binds := [("s", .str x t)]) 0 rfl (at_xfrm _) B hr (fun _ _ => rfl) (locs rfl) ?_ rfl rfl rfl (by decide)
  intro cd h₁ tk Q hQ F N KX TX
  revert hrow KX; k_fill; intro hrow KX
  k_steps
  exact hQ _ _ (h _ ⟨_, _, rfl, Fr.keep (by assumption)⟩)
theorem spec_coll {x y : Str} {t u : Tok} (hrow : lawRow = lawRow) (B : Base w mg mb s.heap) (hr : Lv 0 A) (h : ∀ s' t', Ext s s' → R (.ok (.ret (.int (b2i (decide (y.cps.toList < x.cps.toList)) - b2i (decide (x.cps.toList < y.cps.toList))) t'))) s') : codeAny (model prog w) A (.call (.ref 28) ⟨[.str x t, .str y u], []⟩) R s := by
  refine call_fn (i := 3) (binds := [("a", .str x t), ("b", .str y u)]) 0 rfl (at_coll _) B hr (fun _ _ => rfl) (locs rfl) ?_ rfl rfl rfl (by decide)
  intro cd h₁ tk Q hQ F N KX TX
  revert hrow KX; k_fill; intro hrow KX
  k_steps
  exact hQ _ _ (h _ _ ⟨_, _, rfl, Fr.keep (by assumption)⟩)
theorem spec_strip {x : Str} {t : Tok} (hx : x.length ≤ 1000) (hrow : lawRow = lawRow) (B : Base w mg mb s.heap) (hr : Lv 0 A) (h : ∀ s' t', Ext s s' → R (.ok (.ret (.str ⟨(bareOf x.cps.toList).toArray⟩ t'))) s') : codeAny (model prog w) A (.call (.ref 21) ⟨[.str x t], []⟩) R s := by
  refine call_fn (i := 1) (binds := [("msg", .str x t)]) 0 rfl (at_strip _) B hr (fun _ _ => rfl) (locs rfl) ?_ rfl rfl rfl (by decide)
  intro cd h₁ tk Q hQ F N KX TX
  revert hrow KX; k_fill; intro hrow KX
  k_steps
  all_goals
    refine hQ _ _ ?_
    first
    | rw [strip_end x (by assumption) (.inl ⟨by assumption, rfl⟩) (.inl ⟨by assumption, rfl⟩)]
    | rw [strip_end x (by assumption) (.inl ⟨by assumption, rfl⟩) (.inr ⟨by assumption, rfl⟩)]
    | rw [strip_end x (by assumption) (.inr ⟨by assumption, rfl⟩) (.inl ⟨by assumption, rfl⟩)]
    | rw [strip_end x (by assumption) (.inr ⟨by assumption, rfl⟩) (.inr ⟨by assumption, rfl⟩)]
    exact h _ _ ⟨_, _, rfl, Fr.keep (by assumption)⟩
end Mine
end
section
open PySem PySem.W PyProof.Rows PySem.Calls
set_option maxRecDepth 100000
set_option maxHeartbeats 2000000
namespace Mine
theorem at_b1 (P : Params) : FnAt P 7 53 "in_table_b1" := ⟨o53_p7 P, .str "cpy313.stringprep" 216, .ref 52, by kernel_rfl, by kernel_rfl, by kernel_rfl⟩
theorem at_b3 (P : Params) : FnAt P 9 99 "map_table_b3" := ⟨o99_p9 P, .str "cpy313.stringprep" 216, .ref 98, by kernel_rfl, by kernel_rfl, by kernel_rfl⟩
theorem at_shown (P : Params) : FnAt P 11 106 "_law_shown" := ⟨o106_p11 P, .str "law_ti0029_01" 2244, .ref 105, by kernel_rfl, by kernel_rfl, by kernel_rfl⟩
theorem at_hidden (P : Params) : FnAt P 12 113 "_law_hidden" := ⟨o113_p12 P, .str "law_ti0029_01" 2244, .ref 112, by kernel_rfl, by kernel_rfl, by kernel_rfl⟩
theorem hashInt_small {k : Int} (h0 : 0 ≤ k) (h1 : k < 2 ^ 40) : hashInt k = k := by
  have e : rawHash k = k := hashI_small h0 h1
  unfold hashInt
  rw [e, if_neg (by simp; omega)]
/-- the signs of table B.1 -/
noncomputable def b1List : List Int := [65024, 65025, 65026, 65027, 65028, 65029, 6150, 65030, 65031, 65032, 65033, 6155, 6156, 6157, 8203, 8204, 8205, 65034, 65035, 65036, 65037, 65038, 65039, 173, 847, 8288, 65279]
theorem b1_es (P : Params) : ∃ (es : Array (Int × Value)) (ep : Nat) (t : SetTable) (tk : List Nat), (o43_p6 P).data = .set es ep t ∧ (o43_p6 P).ExactSet ∧ t.fits es.size = true ∧ es.size = 27 ∧ es.toList = b1List.zipWith (fun k t => (k, Value.int k t)) tk ∧ tk.length = 27 :=
  ⟨_, _, _, [234, 235, 236, 237, 238, 239, 220, 240, 241, 242, 243, 221, 222, 223, 224, 225, 226, 244, 245, 246, 247, 248, 249, 218, 219, 227, 228], rfl, ⟨rfl, rfl, rfl⟩, rfl, rfl, rfl, rfl⟩
theorem zip_mem {l : List Int} : ∀ {tk : List Nat}, ∀ e ∈ l.zipWith (fun k t => (k, Value.int k t)) tk, e.1 ∈ l ∧ ∃ t, e.2 = .int e.1 t := by
  induction l with
  | nil => intro tk e he; simp at he
  | cons a l ih =>
    intro tk e he
    cases tk with
    | nil => simp at he
    | cons t tk =>
      rw [List.zipWith_cons_cons] at he
      rcases List.mem_cons.mp he with rfl | he
      · exact ⟨.head _, t, rfl⟩
      · obtain ⟨h1, h2⟩ := ih e he; exact ⟨.tail _ h1, h2⟩
theorem mem_zip {l : List Int} : ∀ {tk : List Nat}, tk.length = l.length → ∀ k ∈ l, ∃ t, (k, Value.int k t) ∈ l.zipWith (fun k t => (k, Value.int k t)) tk := by
  induction l with
  | nil => intro tk _ k hk; cases hk
  | cons a l ih =>
    intro tk hl k hk
    cases tk with
    | nil => cases hl
    | cons t tk =>
      rw [List.zipWith_cons_cons]
      rcases List.mem_cons.mp hk with rfl | hk
      · exact ⟨t, .head _⟩
      · obtain ⟨t', h⟩ := ih (by simpa using hl) k hk; exact ⟨t', .tail _ h⟩
theorem b1_small : ∀ k ∈ b1List, 0 ≤ k ∧ k < 2 ^ 40 := by decide
theorem b1_set (w : World) {h : Heap} (X : (KK w.params).In h) : h.SetOf (intKind prog w) 43 (fun k => decide (k ∈ b1List)) 27 := by
  obtain ⟨es, ep, t, tk, h1, h2, h3, h4, h5, h6⟩ := b1_es w.params
  refine ⟨o43_p6 w.params, es, ep, t, X _ _ (by kernel_rfl), h2, h1, fun e he => ?_, fun k => ?_, by rw [h4]; decide, h3, h4⟩
  · rw [h5] at he
    obtain ⟨h7, t', h8⟩ := zip_mem e he
    exact ⟨⟨e.1, by rw [h8]; exact intKind_is prog w _ _, (hashInt_small (b1_small _ h7).1 (b1_small _ h7).2).symm⟩, by rw [h8]; rfl⟩
  · rw [decide_eq_true_eq, h5]
    constructor
    · intro hk
      obtain ⟨t', h⟩ := mem_zip (tk := tk) (by rw [h6]; rfl) k hk
      exact ⟨_, h, intKind_is prog w _ _⟩
    · rintro ⟨e, he, hk⟩
      obtain ⟨h7, t', h8⟩ := zip_mem e he
      rw [h8] at hk
      have : k = e.1 := by
        have hk' : Value.isInt k (.int e.1 t') = true := hk
        have := hk'
        simp only [Value.isInt] at this
        exact (by simpa using this : e.1 = k).symm
      rw [this]; exact h7

theorem b3_incr : incr (b3KV.map (·.1)) = true := by rw [b3KV_eq]; exact kv8_incr
theorem b3_small : Small b3KV := by
  rw [b3KV_eq]
  exact (all2_of (w := ⟨fun _ _ => 0, { strHash := fun _ => 0, shareClass := fun _ => 0, mergeTok := id, idOf := fun _ => 0, idOfShared := fun _ _ => 0, followText := fun _ => false, idOfImm := fun _ => 0 }⟩) (posD := p0) _ kv8_ok).2
theorem small_take (l : List (Int × Str)) (n : Nat) (h : Small l) : Small (l.take n) := fun q hq => h q (List.mem_of_mem_take hq)
theorem small_drop (l : List (Int × Str)) (n : Nat) (h : Small l) : Small (l.drop n) := fun q hq => h q (List.mem_of_mem_drop hq)
theorem b3_intE : ∀ e ∈ b3Ent, IntE e := by
  intro e he
  rcases List.mem_append.mp he with he | he
  · exact intE_L _ _ (small_take _ _ b3_small) e he
  · exact intE_S _ _ (small_drop _ _ b3_small) e he
theorem b3_hash : b3Ent.map (·.hash) = b3KV.map (·.1) := by
  unfold b3Ent
  rw [List.map_append, entsL_hash, entsS_hash, ← List.map_append, List.take_append_drop]
noncomputable def b3Kvs : List (Int × Value) := b3Ent.map fun e => (e.hash, e.val)
theorem pairs_of {w : World} : ∀ (l : List DictEntry), (∀ e ∈ l, IntE e) → PySem.Pairs (intKind prog w) l (l.map fun e => (e.hash, e.val))
  | [], _ => .nil
  | e :: l, h => by
    obtain ⟨_, _, t, ht⟩ := h e (.head _)
    exact .cons (by rw [ht]; exact intKind_is prog w _ _) rfl (pairs_of l fun e he => h e (.tail _ he))
theorem b3_dict (w : World) {h : Heap} (X : (KK w.params).In h) : h.DictOf (intKind prog w) 54 b3Kvs := by
  refine ⟨o54, b3Ent.toArray, 650, X _ _ (by kernel_rfl), ⟨rfl, rfl, rfl⟩, rfl, fun e he => ?_, ?_, ?_⟩
  · obtain ⟨h0, h1, t, ht⟩ := b3_intE e (by simpa using he)
    exact ⟨e.hash, by rw [ht]; exact intKind_is prog w _ _, (hashInt_small h0 h1).symm⟩
  · exact pairs_of _ b3_intE
  · unfold b3Kvs
    rw [List.map_map]
    show (b3Ent.map (·.hash)).Nodup
    rw [b3_hash]
    exact incr_nodup _ b3_incr
noncomputable def b3Find (c : Int) : Option Str := (b3KV.find? fun p => p.1 == c).map (·.2)
theorem ents_find (k : Int) : ∀ (l : List (Int × Str)) (tk : Nat),
    (match (l.find? fun p => p.1 == k).map (·.2) with | some x => ∃ t, (((entsL tk l).map fun e => (e.hash, e.val)).find? fun kv => kv.1 = k).map (·.2) = some (.str x t) | none => (((entsL tk l).map fun e => (e.hash, e.val)).find? fun kv => kv.1 = k).map (·.2) = none) ∧
    (match (l.find? fun p => p.1 == k).map (·.2) with | some x => ∃ t, (((entsS tk l).map fun e => (e.hash, e.val)).find? fun kv => kv.1 = k).map (·.2) = some (.str x t) | none => (((entsS tk l).map fun e => (e.hash, e.val)).find? fun kv => kv.1 = k).map (·.2) = none)
  | [], _ => ⟨rfl, rfl⟩
  | (a, x) :: l, tk => by
    by_cases h : a = k
    · subst h
      constructor <;> simp [entsL, entsS]
    · have h1 := (ents_find k l (tk + 3)).1
      have h2 := (ents_find k l (tk + 2)).2
      have e0 : (a == k) = false := by simpa using h
      have e1 : (decide (a = k)) = false := by simpa using h
      simp only [entsL, entsS, List.map_cons, List.find?_cons, e0, e1]
      exact ⟨h1, h2⟩
theorem b3_value (k : Int) : match b3Find k with | some x => ∃ t, valueAt b3Kvs k = some (.str x t) | none => valueAt b3Kvs k = none := by
  have e : b3KV = b3KV.take 646 ++ b3KV.drop 646 := (List.take_append_drop _ _).symm
  have h1 := (ents_find k (b3KV.take 646) 285).1
  have h2 := (ents_find k (b3KV.drop 646) 2223).2
  unfold b3Find valueAt b3Kvs b3Ent
  rw [e, List.find?_append, ← e, List.map_append, List.find?_append]
  generalize ((entsL 285 (b3KV.take 646)).map fun e => (e.hash, e.val)).find? (fun kv => kv.1 = k) = r1 at h1 ⊢
  generalize ((entsS 2223 (b3KV.drop 646)).map fun e => (e.hash, e.val)).find? (fun kv => kv.1 = k) = r2 at h2 ⊢
  cases hf : (b3KV.take 646).find? (fun p => p.1 == k) with
  | some p =>
    rw [hf] at h1
    cases r1 with
    | none => obtain ⟨t, ht⟩ := h1; cases ht
    | some v => exact h1
  | none =>
    rw [hf] at h1
    cases r1 with
    | some v => cases h1
    | none => exact h2
section
variable {w : World} {A : Around} {E : Value → Shared → Prop} {s : Shared} {Q : Value → Shared → Prop} {h₀ : Heap} {L : Addr} {m : Str → Option Value}
theorem in_b1 {k : Int} {t : Tok} (F : Fr h₀ L s.heap m) (X : (KK w.params).In h₀) (h : Q (.bool (decide (k ∈ b1List))) { s with toks := s.toks + 1 }) : wpAny (model prog w) A (compareOp .In (.int k t) (.ref 43)) Q E s :=
  wpAny_inSet_of (knd := intKind prog w) (intKind_is prog w k t) rfl (b1_set w (X.keeps F.keep)) h
theorem meth_b3 {pl : Sem Bool} {Q : Value × List Value → Shared → Prop} (F : Fr h₀ L s.heap m) (X : (KK w.params).In h₀) (h : Q (.builtin "dict.get", [.ref 54]) s) : wpAny (model prog w) A (getMethod (.ref 54) "get" pl) Q E s :=
  have hd := b3_dict w (X.keeps F.keep)
  getMethod_builtin hd.typeIs PySem.F.plainAttrs_dict PySem.F.slot_dict_get PySem.F.type_dict_get hd.mapOf.noDict h
theorem get_b3 {k : Int} {t : Tok} {v : Value} (F : Fr h₀ L s.heap m) (X : (KK w.params).In h₀) (hv : (valueAt b3Kvs k).getD .none = v) (h : Q v { s with toks := s.toks + 1 }) : wpAny (model prog w) A (call (.builtin "dict.get") [.ref 54, .int k t]) Q E s := by
  have hd := b3_dict w (X.keeps F.keep)
  subst hv
  exact call_meetsIn PySem.F.slot_dict_get hd.typeIs PySem.F.entry_dict_get (PySem.F.args_dict_get_2 _ _) (meets_dict_get (intKind prog w) 54 (intKind_is prog w k t) (by decide)) ⟨_, hd.mapOf, h⟩
end
local macro_rules | `(tactic| walk_at "compareOp In int ref") => `(tactic| (k_here; k_dflt (refine' in_b1 ?k1 ?k2 ?_; (case k1 => k_asm); (case k2 => k_asm))))
local macro_rules | `(tactic| walk_at "getMethod ref") => `(tactic| (k_here; k_dflt (refine' meth_b3 ?k1 ?k2 ?_; (case k1 => k_asm); (case k2 => k_asm))))
local macro_rules | `(tactic| walk_at "call builtin:dict.get") => `(tactic| (k_here; k_dflt (refine' get_b3 ?k1 ?k2 ?k3 ?_; (case k1 => k_asm); (case k2 => k_asm); (case k3 => assumption))))
local macro_rules | `(tactic| walk_at "call builtin:str.lower") => `(tactic| (refine SCL.lower (show (1 : Nat) ≤ 5592405 by decide) ?_; intro _))
variable {w : World} {mg mb : Str → Option Value} {A : Around} {s : Shared} {R : Result → Shared → Prop}
theorem spec_b1 {c : Nat} {t : Tok} (hrow : lawRow = lawRow) (B : Base w mg mb s.heap) (hr : Lv 0 A) (h : ∀ s', Ext s s' → R (.ok (.ret (.bool (decide ((c : Int) ∈ b1List))))) s') : codeAny (model prog w) A (.call (.ref 53) ⟨[.str ⟨#[c]⟩ t], []⟩) R s := by
  refine call_fn (i := 7) (binds := [("code", .str ⟨#[c]⟩ t)]) 0 rfl (at_b1 _) B hr (fun _ _ => rfl) (locs rfl) ?_ rfl rfl rfl (by decide)
  intro cd h₁ tk Q hQ F N KX TX
  revert hrow KX; k_fill; intro hrow KX
  k_steps
  exact hQ _ _ (h _ ⟨_, _, rfl, Fr.keep (by assumption)⟩)
theorem spec_b3_hit {c : Nat} {x : Str} {t u : Tok} (hv : (valueAt b3Kvs c).getD .none = .str x u) (hrow : lawRow = lawRow) (B : Base w mg mb s.heap) (hr : Lv 0 A) (h : ∀ s', Ext s s' → R (.ok (.ret (.str x u))) s') : codeAny (model prog w) A (.call (.ref 99) ⟨[.str ⟨#[c]⟩ t], []⟩) R s := by
  refine call_fn (i := 9) (binds := [("code", .str ⟨#[c]⟩ t)]) 0 rfl (at_b3 _) B hr (fun _ _ => rfl) (locs rfl) ?_ rfl rfl rfl (by decide)
  intro cd h₁ tk Q hQ F N KX TX
  revert hrow KX; k_fill; intro hrow KX
  k_steps
  exact hQ _ _ (h _ ⟨_, _, rfl, Fr.keep (by assumption)⟩)
theorem spec_b3_miss {c : Nat} {t : Tok} (hv : (valueAt b3Kvs c).getD .none = .none) (hrow : lawRow = lawRow) (B : Base w mg mb s.heap) (hr : Lv 0 A) (h : ∀ s' u, Ext s s' → R (.ok (.ret (.str (Txt.lower ⟨#[c]⟩) u))) s') : codeAny (model prog w) A (.call (.ref 99) ⟨[.str ⟨#[c]⟩ t], []⟩) R s := by
  refine call_fn (i := 9) (binds := [("code", .str ⟨#[c]⟩ t)]) 0 rfl (at_b3 _) B hr (fun _ _ => rfl) (locs rfl) ?_ rfl rfl rfl (by decide)
  intro cd h₁ tk Q hQ F N KX TX
  revert hrow KX; k_fill; intro hrow KX
  k_steps
  exact hQ _ _ (h _ _ ⟨_, _, rfl, Fr.keep (by assumption)⟩)
noncomputable def b3Val (c : Nat) : Str := match b3Find c with | some x => x | none => Txt.lower ⟨#[c]⟩
theorem spec_b3 {c : Nat} {t : Tok} (B : Base w mg mb s.heap) (hr : Lv 0 A) (h : ∀ s' u, Ext s s' → R (.ok (.ret (.str (b3Val c) u))) s') : codeAny (model prog w) A (.call (.ref 99) ⟨[.str ⟨#[c]⟩ t], []⟩) R s := by
  have := b3_value c
  unfold b3Val at h
  cases hf : b3Find c with
  | some x =>
    rw [hf] at this h
    obtain ⟨u, hu⟩ := this
    exact spec_b3_hit (by rw [hu]; rfl) rfl B hr (fun s' => h s' u)
  | none =>
    rw [hf] at this h
    exact spec_b3_miss (by rw [this]; rfl) rfl B hr h
end Mine
end
section
open PySem PySem.W PyProof.Rows PySem.Calls
set_option maxRecDepth 100000
set_option maxHeartbeats 2000000
namespace Mine
noncomputable def alphs : List Int := [119808, 119860, 119912, 120016, 120172, 120224, 120276, 120328, 120380, 120432]
noncomputable def hids : List Int := [173, 847, 6150, 6155, 6156, 6157, 8203, 8204, 8205, 8288, 65279]
noncomputable def shownC (c : Nat) (f : Int) : Nat := if f < 2 then (c - 32 * f : Int).toNat else (alphs.getD (f - 2).toNat 0 + c - 97).toNat
noncomputable def hiddenC (f : Int) : Nat := if 10 < f then (65013 + f).toNat else (hids.getD f.toNat 0).toNat
theorem alphs_in : ∀ i, i < 10 → 119808 ≤ alphs.getD i 0 ∧ alphs.getD i 0 ≤ 120432 := by decide
theorem hids_in : ∀ i, i < 11 → 0 ≤ hids.getD i 0 ∧ hids.getD i 0 ≤ 65279 := by decide
theorem alphs_at {f : Int} (h0 : ¬ f < 2) (h1 : f < 12) : 119808 ≤ [119808, 119860, 119912, 120016, 120172, 120224, 120276, 120328, 120380, 120432].getD (f - 2).toNat (0 : Int) ∧ [119808, 119860, 119912, 120016, 120172, 120224, 120276, 120328, 120380, 120432].getD (f - 2).toNat (0 : Int) ≤ 120432 := alphs_in _ (by omega)
theorem hids_at {f : Int} (h0 : 0 ≤ f) (h1 : ¬ 10 < f) : 0 ≤ [173, 847, 6150, 6155, 6156, 6157, 8203, 8204, 8205, 8288, 65279].getD f.toNat (0 : Int) ∧ [173, 847, 6150, 6155, 6156, 6157, 8203, 8204, 8205, 8288, 65279].getD f.toNat (0 : Int) ≤ 65279 := hids_in _ (by omega)
variable {w : World} {mg mb : Str → Option Value} {A : Around} {s : Shared} {R : Result → Shared → Prop}
theorem spec_shown {c : Nat} {f : Int} {t u : Tok} (hc : 97 ≤ c ∧ c ≤ 122) (hf : 0 ≤ f ∧ f < 12) (hrow : lawRow = lawRow) (B : Base w mg mb s.heap) (hr : Lv 0 A) (h : ∀ s' b, Ext s s' → R (.ok (.ret (.str ⟨#[shownC c f]⟩ b))) s') : codeAny (model prog w) A (.call (.ref 106) ⟨[.str ⟨#[c]⟩ t, .int f u], []⟩) R s := by
  refine call_fn (i := 11) (binds := [("letter", .str ⟨#[c]⟩ t), ("form", .int f u)]) 0 rfl (at_shown _) B hr (fun _ _ => rfl) (locs rfl) ?_ rfl rfl rfl (by decide)
  intro cd h₁ tk Q hQ F N KX TX
  revert hrow KX; k_fill; intro hrow KX
  k_steps
  · have e : shownC c f = (c - 32 * f : Int).toNat := if_pos (by assumption)
    rw [← e]
    exact hQ _ _ (h _ _ ⟨_, _, rfl, Fr.keep (by assumption)⟩)
  · have hb := alphs_at (f := f) (by assumption) hf.2
    have e : shownC c f = (alphs.getD (f - 2).toNat 0 + c - 97).toNat := if_neg (by assumption)
    unfold alphs at e
    refine chr_of_range (by omega) (by omega) ?_
    rw [← e]
    exact hQ _ _ (h _ _ ⟨_, _, rfl, Fr.keep (by assumption)⟩)
theorem spec_hidden {f : Int} {u : Tok} (hf : 0 ≤ f ∧ f < 27) (hrow : lawRow = lawRow) (B : Base w mg mb s.heap) (hr : Lv 0 A) (h : ∀ s' b, Ext s s' → R (.ok (.ret (.str ⟨#[hiddenC f]⟩ b))) s') : codeAny (model prog w) A (.call (.ref 113) ⟨[.int f u], []⟩) R s := by
  refine call_fn (i := 12) (binds := [("spot", .int f u)]) 0 rfl (at_hidden _) B hr (fun _ _ => rfl) (locs rfl) ?_ rfl rfl rfl (by decide)
  intro cd h₁ tk Q hQ F N KX TX
  revert hrow KX; k_fill; intro hrow KX
  k_steps
  · have e : hiddenC f = (65013 + f).toNat := if_pos (by assumption)
    rw [← e]
    exact hQ _ _ (h _ _ ⟨_, _, rfl, Fr.keep (by assumption)⟩)
  · have hb := hids_at (f := f) hf.1 (by assumption)
    have e : hiddenC f = (hids.getD f.toNat 0).toNat := if_neg (by assumption)
    unfold hids at e
    refine chr_of_range (by omega) (by omega) ?_
    rw [← e]
    exact hQ _ _ (h _ _ ⟨_, _, rfl, Fr.keep (by assumption)⟩)
end Mine
end
section
open PySem PySem.W PyProof.Rows PySem.Calls
set_option maxRecDepth 100000
set_option maxHeartbeats 2000000
namespace Mine
/-- a slice of a list of strs -/
noncomputable def pickS {α : Type} (l : List α) (lo hi : Option Int) : List α := (l.drop (kms_lo lo l.length)).take (kms_hi hi l.length - kms_lo lo l.length)
theorem strsAre_pick {vs : List Value} {as : List Str} (h : StrsAre vs as) (lo hi : Option Int) : StrsAre (slicePick vs.toArray lo hi none).toList (pickS as lo hi) := by
  rw [kms_pick_eq]
  show StrsAre (kms_pick vs lo hi) _
  unfold kms_pick pickS
  rw [h.length]
  exact (h.drop' _).take' _
theorem pickS_length_le {α : Type} (l : List α) (lo hi : Option Int) : (pickS l lo hi).length ≤ l.length := by
  unfold pickS; simp only [List.length_take, List.length_drop]; omega
theorem pickS_upto {α : Type} (l : List α) {y : Int} (h : 0 ≤ y) : pickS l none (some y) = l.take y.toNat := by
  unfold pickS kms_lo kms_hi
  simp only [if_neg (show ¬ y < 0 by omega), List.drop_zero, Nat.sub_zero]
  exact kmk_take_min l _
theorem pickS_from {α : Type} (l : List α) {x : Int} (h : 0 ≤ x) : pickS l (some x) none = l.drop x.toNat := by
  unfold pickS kms_lo kms_hi
  simp only [if_neg (show ¬ x < 0 by omega)]
  rw [kmk_drop_min, List.take_of_length_le (by simp only [List.length_drop]; omega)]
theorem pickS_run {α : Type} (l : List α) {x y : Int} (h : 0 ≤ x) (h2 : 0 ≤ y) : pickS l (some x) (some y) = (l.take y.toNat).drop x.toNat := by
  unfold pickS kms_lo kms_hi
  simp only [if_neg (show ¬ x < 0 by omega), if_neg (show ¬ y < 0 by omega)]
  apply List.ext_getElem?
  intro i
  simp only [List.getElem?_take, List.getElem?_drop]
  by_cases h1 : i < min y.toNat l.length - min x.toNat l.length
  · rw [if_pos h1, if_pos (by omega), show min x.toNat l.length = x.toNat by omega]
  · rw [if_neg h1]
    split
    · exact (List.getElem?_eq_none (by omega)).symm
    · rfl
section
variable {prog : Program} {w : World} {A : Around} {E : Value → Shared → Prop} {s : Shared} {h₀ : Heap} {L l : Addr} {m : Str → Option Value} {news : List (Addr × Obj)} {value slice : PySem.Expr} {vs : List Value} {as : List Str} {vl vu : Value} {lo hi : Option Int} {Q : Value → Shared → Prop}
theorem sl_strs (F : Fr h₀ L s.heap m) (N : News h₀ L s.heap news) (hl : s.heap.IsList l vs.toArray) (hs : StrsAre vs as) (pl : IsPart vl lo) (pu : IsPart vu hi) (hz : as.length ≤ 1000)
    (h : ∀ D ws h', Fr h₀ L h' m → News h₀ L h' ((D, listOf (List.toArray ws) 0) :: news) → (∀ p ∈ news, p.1 < D) → StrsAre ws (pickS as lo hi) → Q (.ref D) { s with heap := h' })
    (hx : subscripted slice false (.ref l) (.ref s.heap.objs.size) = operate [.ref s.heap.objs.size, .ref l] (getItem (.ref l) (.ref s.heap.objs.size))) (ht : ∀ r, letTemporaryGo value (.ref l) r = pure ()) :
    wpAny (model prog w) A (subscriptTail value slice (.ref l) (.ref s.heap.objs.size)) Q E { s with heap := s.heap.push { cls := .type "slice", data := .fields #[vl, vu, .none] } } := by
  have e : vs.toArray.size = as.length := by simp [hs.length]
  refine kmk_slice F N hl pl pu (fun D h' F' N' l1 => h D (slicePick vs.toArray lo hi none).toList h' F' ?_ l1 (strsAre_pick hs lo hi)) hx ht (by rw [e]; unfold sizeLine; omega)
  rw [Array.toArray_toList]
  exact N'
end
theorem at_orders (P : Params) : FnAt P 13 120 "_law_orders" := ⟨o120_p13 P, .str "law_ti0029_01" 2244, .ref 119, by kernel_rfl, by kernel_rfl, by kernel_rfl⟩
noncomputable def ordStep (as : List Str) (T : Int) (a : Str) (i : Nat) : Int := (T * ((i : Int) + 1)).fdiv ((as.take (i + 1)).count a : Nat)
noncomputable def ordersOf (as : List Str) : Int := as.zipIdx.foldl (fun T p => ordStep as T p.1 p.2) 1
noncomputable def ordPre (as : List Str) (i : Nat) : Int := (as.zipIdx.take i).foldl (fun T p => ordStep as T p.1 p.2) 1
section
variable {prog : Program} {w : World} {A : Around} {E : Value → Shared → Prop} {s : Shared} {env : Env} {h₀ : Heap} {m : Str → Option Value} {news : List (Addr × Obj)}
variable {xi xc : Str} {Q : Flow → Shared → Prop} {xv : Value}
theorem Pair_accF {α β : Type} {K : ItemKind α} {Kt : ItemKind β} {as : List α} (stp : β → α → Nat → β) {T₀ : β} {v₀ : Value} {t : Str} {body : List Stmt} (S : PairSrc prog w A E h₀ env K as xv s m news)
    (hmt : m t = some v₀) (h0 : Kt.is T₀ v₀) (htc : t ≠ xc) (hti : t ≠ xi)
    (turn : ∀ (i : Nat) a ti v vT s₁ own, as[i]? = some a → K.is a v → Kt.is ((as.zipIdx.take i).foldl (fun T p => stp T p.1 p.2) T₀) vT → Fr h₀ env.locals s₁.heap (accMap (bindM m xi (some (.int i ti))) t xc (some v) vT) → News h₀ env.locals s₁.heap (own ++ news) →
      wpAny (model prog w) A (execs body env) (AccStep h₀ env.locals own news Kt (bindM m xi (some (.int i ti))) t xc v (stp ((as.zipIdx.take i).foldl (fun T p => stp T p.1 p.2) T₀) a i) s₁) E s₁)
    (done : ∀ h' tk vi vl v', Fr h₀ env.locals h' (accMap (bindM m xi vi) t xc vl v') → News h₀ env.locals h' news → Kt.is (as.zipIdx.foldl (fun T p => stp T p.1 p.2) T₀) v' → Q .next { s with heap := h', toks := tk }) :
    wpAny (model prog w) A (pyIter xv) (fun it s₂ => PairAt3 prog w A h₀ env xi xc body Q E it s₂) E s := by
  refine S xi xc _ Q (PairJ (fun mb => AccJ Kt mb news t xc as.zipIdx (fun T p => stp T p.1 p.2) T₀) m xi) ⟨m xi, ?_⟩ (fun i a ti v m₁ news₁ s₁ own _ ha hk hJ _ _ F₁ N₁ => ?_) (fun h' tk m' news' F' N' _ hJ => ?_)
  · rw [← bindM_start m xi]; exact acc_zero hmt h0
  · obtain ⟨vi, vl, vT, rfl, hT, rfl⟩ := hJ
    rw [bind2_acc htc hti] at F₁
    exact wpAny_mono (turn i a ti v vT s₁ own ha hk hT F₁ N₁) (fun f s₂ h => LoopStep3.mono (fun _ _ hj => ⟨_, hj⟩) (LoopStep3.of2 (acc_step (stp := fun T p => stp T p.1 p.2) (zipIdx_get ha) h))) fun _ _ e => e
  · obtain ⟨vi, vl, vT, rfl, hT, rfl⟩ := hJ
    exact done h' tk vi vl vT F' N' (by rw [List.take_of_length_le (by simp)] at hT; exact hT)
end
theorem ordStep_bound {as : List Str} {T : Int} {a : Str} {i n : Nat} (h0 : 0 ≤ T) (h1 : T ≤ n) : 0 ≤ ordStep as T a i ∧ ordStep as T a i ≤ (n * (i + 1) : Nat) := by
  unfold ordStep
  have hm : 0 ≤ T * ((i : Int) + 1) := Int.mul_nonneg h0 (by omega)
  have hm2 : T * ((i : Int) + 1) ≤ (n * (i + 1) : Nat) := by
    rw [Int.natCast_mul]; exact Int.mul_le_mul h1 (by omega) (by omega) (by omega)
  rw [Int.fdiv_eq_ediv_of_nonneg _ (Int.natCast_nonneg _)]
  exact ⟨Int.ediv_nonneg hm (Int.natCast_nonneg _), Int.le_trans (Int.ediv_le_self _ hm) hm2⟩
noncomputable def fac : Nat → Nat | 0 => 1 | n + 1 => fac n * (n + 1)
theorem ordPre_bound (as : List Str) : ∀ i, i ≤ as.length → 0 ≤ ordPre as i ∧ ordPre as i ≤ fac i
  | 0, _ => by simp [ordPre, fac]
  | i + 1, hi => by
    obtain ⟨h0, h1⟩ := ordPre_bound as i (by omega)
    have e : ordPre as (i + 1) = ordStep as (ordPre as i) as[i] i := by
      unfold ordPre
      rw [foldl_take_succ (fun T (p : Str × Nat) => ordStep as T p.1 p.2) 1 (a := (as[i], i)) (by simp [List.getElem?_zipIdx, List.getElem?_eq_getElem (show i < as.length by omega)])]
    rw [e]
    exact ordStep_bound h0 h1
theorem fac_le {i : Nat} (h : i ≤ 7) : fac i ≤ 5040 := by
  have : ∀ i, i ≤ 7 → fac i ≤ 5040 := by decide
  exact this i h
theorem Pair_orders {prog : Program} {w : World} {A : Around} {E : Value → Shared → Prop} {s : Shared} {env : Env} {h₀ : Heap} {m : Str → Option Value} {news : List (Addr × Obj)} {xi xc : Str} {Q : Flow → Shared → Prop} {xv : Value} {as : List Str} {t₀ : Tok} {t : Str} {body : List Stmt} (S : PairSrc prog w A E h₀ env ItemKind.str as xv s m news)
    (hmt : m t = some (.int 1 t₀)) (hn : as.length ≤ 7) (htc : t ≠ xc) (hti : t ≠ xi)
    (turn : ∀ (i : Nat) a ti u uT s₁ own, as[i]? = some a → 0 ≤ ordPre as i → ordPre as i ≤ 5040 → Fr h₀ env.locals s₁.heap (accMap (bindM m xi (some (.int i ti))) t xc (some (.str a u)) (.int (ordPre as i) uT)) → News h₀ env.locals s₁.heap (own ++ news) →
      wpAny (model prog w) A (execs body env) (AccStep h₀ env.locals own news ItemKind.int (bindM m xi (some (.int i ti))) t xc (.str a u) (ordStep as (ordPre as i) a i) s₁) E s₁)
    (done : ∀ h' tk vi vl t', Fr h₀ env.locals h' (accMap (bindM m xi vi) t xc vl (.int (ordersOf as) t')) → News h₀ env.locals h' news → Q .next { s with heap := h', toks := tk }) :
    wpAny (model prog w) A (pyIter xv) (fun it s₂ => PairAt3 prog w A h₀ env xi xc body Q E it s₂) E s := by
  refine Pair_accF (Kt := ItemKind.int) (ordStep as) S hmt (ItemKind.int_mk _ _) htc hti (fun i a ti v vT s₁ own ha hv hT F N => ?_) (fun h' tk vi vl v' F N hv => ?_)
  · obtain ⟨u, rfl⟩ := ItemKind.str_is hv
    obtain ⟨uT, rfl⟩ := ItemKind.int_is hT
    have hi := (List.getElem?_eq_some_iff.mp ha).1
    obtain ⟨h0, h1⟩ := ordPre_bound as i (by omega)
    have := fac_le (i := i) (by omega)
    exact turn i a ti u uT s₁ own ha h0 (by omega) F N
  · obtain ⟨t', rfl⟩ := ItemKind.int_is hv
    exact done h' tk vi vl t' F N
theorem countIn_strs (x : Str) : ∀ ns : List Str, Spec.countIn (.str x) (ns.map .str) = ((ns.count x : Nat) : Int)
  | [] => rfl
  | y :: r => by
    simp only [List.map_cons, Spec.countIn, List.count_cons, countIn_strs x r]
    show (if (y == x) = true then (1 : Int) else 0) + _ = _
    split <;> omega
theorem signs_upto (x : Str) {j : Int} (h : 0 ≤ j ∧ j ≤ x.length) : signs (Txt.slice x none (some j)) = (signs x).take j.toNat := by
  have h' : 0 ≤ j ∧ j ≤ x.cps.toList.length := by simpa [Str.length] using h
  rw [beq_iff_eq.mp (slice_closes_to h')]
  unfold signs
  simp [List.map_take]
theorem count_signs (x : Str) {a : Str} (h : a.length = 1) : Txt.count x a = (((signs x).count a : Nat) : Int) := by
  have ha : ∃ c, a = ⟨#[c]⟩ := by
    obtain ⟨⟨l⟩⟩ := a
    match l, h with
    | [c], _ => exact ⟨c, rfl⟩
  obtain ⟨c, rfl⟩ := ha
  rw [count_is, ← countIn_strs]
  unfold signs
  rw [List.map_map]; rfl
theorem sign_len {x a : Str} {i : Nat} (h : (signs x)[i]? = some a) : a.length = 1 := by
  obtain ⟨c, rfl⟩ := signs_one x a (List.mem_of_getElem? h)
  rfl
theorem count_slice {x a : Str} {i : Nat} (h : (signs x)[i]? = some a) : Txt.count (Txt.slice x none (some ((i : Int) + 1))) a = ((((signs x).take (i + 1)).count a : Nat) : Int) := by
  have hi := (List.getElem?_eq_some_iff.mp h).1
  rw [signs_length] at hi
  rw [count_signs _ (sign_len h), signs_upto x ⟨by omega, by omega⟩]
  rfl
theorem count_take_pos {as : List Str} {a : Str} {i : Nat} (hg : as[i]? = some a) : 1 ≤ (as.take (i + 1)).count a := by
  rw [Nat.succ_le_iff, List.count_pos_iff]
  obtain ⟨hi, e⟩ := List.getElem?_eq_some_iff.mp hg
  exact List.mem_iff_getElem.mpr ⟨i, by simp only [List.length_take]; omega, by rw [List.getElem_take]; exact e⟩
theorem fd_orders {prog : Program} {w : World} {A : Around} {E : Value → Shared → Prop} {s : Shared} {as : List Str} {a : Str} {i : Nat} {t u : Tok} {k : Int} {Q : Value → Shared → Prop} (hg : as[i]? = some a) (hn : as.length ≤ 7) (hk : k = ((as.take (i + 1)).count a : Nat))
    (h : Q (.int (ordStep as (ordPre as i) a i) s.toks) { s with toks := s.toks + 1 }) :
    wpAny (model prog w) A (binaryOp .FloorDiv (.int (ordPre as i * ((i : Int) + 1)) t) (.int k u)) Q E s := by
  subst hk
  have h1 := count_take_pos hg
  have h2 : (as.take (i + 1)).count a ≤ as.length := Nat.le_trans List.count_le_length (by simp only [List.length_take]; omega)
  exact floordiv_int (by omega) h (Or.inl (PyProof.noPylong_small (by omega)))
variable {w : World} {mg mb : Str → Option Value} {A : Around} {s : Shared} {R : Result → Shared → Prop}
local macro_rules | `(tactic| walk_at "pyIter ref") => `(tactic| (((with_reducible show wpAny _ _ _ (fun it s₂ => PairAt3 _ _ _ _ _ _ _ _ _ _ it s₂) _ _)); refine Pair_orders (t := "count") (PairSrcL.at (by assumption) _ rfl) (by with_unfolding_all rfl) (by first | assumption | (rw [signs_length]; assumption)) (by decide) (by decide) ?_ ?_; (rotate_left); (intro _ _ _ _ _ _ _); (rotate_left); (intro i' _ _ _ _ _ _ hg' hp0' hp1' _ _)))
local macro_rules | `(tactic| walk_at "subscriptTail Name Slice ref ref") => `(tactic| (k_here; k_dflt (refine' sl_strs ?F ?N ?l ?hs ?p ?q ?z ?_ ?s ?t; (case F => k_asm); (case N => k_asm); (case l => kmk_list); (case p => kmk_part); (case q => kmk_part); (case hs => assumption); (case z => omega); (case s => with_unfolding_all rfl); (case t => kmk_pure)); intro D' ws' h' F' N' l1 hI'; (try k_lt l1); (try k_sweep)))
local macro_rules | `(tactic| walk_at "call builtin:list.count") => `(tactic| (k_here; k_dflt (refine' count_list_strs ?l ?hs ?_; (case l => kmk_list); (case hs => assumption))))
local macro_rules | `(tactic| walk_at "binaryOp FloorDiv int int") => `(tactic| (refine fd_orders (by assumption) (by first | assumption | (rw [signs_length]; assumption)) (by first | (rw [countIn_strs, pickS_upto _ (by omega)]; rfl) | (exact count_slice (by assumption))) ?_))
theorem spec_orders_list {l : Addr} {vs : List Value} {as : List Str} (hl : s.heap.IsList l vs.toArray) (hs : StrsAre vs as) (hn : as.length ≤ 7) (hrow : lawRow = lawRow) (B : Base w mg mb s.heap) (hr : Lv 0 A) (h : ∀ s' t, Ext s s' → R (.ok (.ret (.int (ordersOf as) t))) s') : codeAny (model prog w) A (.call (.ref 120) ⟨[.ref l], []⟩) R s := by
  refine call_fn (i := 13) (binds := [("row", .ref l)]) 0 rfl (at_orders _) B hr (fun _ _ => rfl) (locs rfl) ?_ rfl rfl rfl (by decide)
  intro cd h₁ tk Q hQ F N KX TX
  revert hrow KX; k_fill; intro hrow KX
  k_steps
  · refine AccStep.store (by assumption) ?_ ⟨_, rfl⟩
    rename News _ _ _ _ => N'
    exact fun p hp => N' p (.tail _ hp)
  · exact hQ _ _ (h _ _ ⟨_, _, rfl, Fr.keep (by assumption)⟩)
theorem spec_orders_str {x : Str} {u : Tok} (hn : x.length ≤ 7) (hrow : lawRow = lawRow) (B : Base w mg mb s.heap) (hr : Lv 0 A) (h : ∀ s' t, Ext s s' → R (.ok (.ret (.int (ordersOf (signs x)) t))) s') : codeAny (model prog w) A (.call (.ref 120) ⟨[.str x u], []⟩) R s := by
  refine call_fn (i := 13) (binds := [("row", .str x u)]) 0 rfl (at_orders _) B hr (fun _ _ => rfl) (locs rfl) ?_ rfl rfl rfl (by decide)
  intro cd h₁ tk Q hQ F N KX TX
  revert hrow KX; k_fill; intro hrow KX
  k_steps
  exact hQ _ _ (h _ _ ⟨_, _, rfl, Fr.keep (by assumption)⟩)
end Mine
end
section
open PySem PySem.W PyProof.Rows PySem.Calls
set_option maxRecDepth 100000
set_option maxHeartbeats 2000000
namespace Mine
/-- a mark at which the walker stops -/
noncomputable def Stop (p : Prop) : Prop := p
theorem stop_ {p : Prop} (h : Stop p) : p := h
section
variable {prog : Program} {w : World} {A : Around} {E : Value → Shared → Prop} {s : Shared} {h₀ : Heap} {L a b : Addr} {m : Str → Option Value} {news : List (Addr × Obj)} {vs ws : List Value} {ns ms : List Str} {Q : Value → Shared → Prop}
theorem add_strs (F : Fr h₀ L s.heap m) (N : News h₀ L s.heap news) (ha : s.heap.IsList a vs.toArray) (hb : s.heap.IsList b ws.toArray) (hi : StrsAre vs ns) (hj : StrsAre ws ms)
    (h : ∀ D us h', Fr h₀ L h' m → News h₀ L h' ((D, listOf (List.toArray us) 0) :: news) → (∀ p ∈ news, p.1 < D) → StrsAre us (ns ++ ms) → Q (.ref D) { s with heap := h' })
    (hz : ns.length + ms.length ≤ 1000) : wpAny (model prog w) A (binaryOp .Add (.ref a) (.ref b)) Q E s := by
  refine kmk_add_lit F N ha hb rfl (fun D h' F' N' l1 => h D (vs ++ ws) h' F' N' l1 (hi.append' hj)) ?_
  have e1 := hi.length
  have e2 := hj.length
  simp only [List.toList_toArray]
  rw [show vs.length = ns.length from e1, show ws.length = ms.length from e2]
  unfold sizeLine; omega
theorem strsAre_reverse {vs : List Value} {ns : List Str} (hi : StrsAre vs ns) : StrsAre vs.reverse ns.reverse := by
  induction hi with
  | nil => exact .nil
  | cons n t _ ih => simp only [List.reverse_cons]; exact ih.append' (.cons _ _ .nil)
theorem krv_strs {l : Addr} {value slice : PySem.Expr} {vk : Value} {ops : List Value} (F : Fr h₀ L s.heap m) (N : News h₀ L s.heap news) (hl : s.heap.IsList l vs.toArray) (pk : IsPart vk (some (-1))) (hi : StrsAre vs ns) (hz : ns.length ≤ 1000)
    (h : ∀ D ws h', Fr h₀ L h' m → News h₀ L h' ((D, listOf (List.toArray ws) 0) :: news) → (∀ p ∈ news, p.1 < D) → StrsAre ws ns.reverse → Q (.ref D) { s with heap := h' })
    (hs : subscripted slice false (.ref l) (.ref s.heap.objs.size) = operate ops (getItem (.ref l) (.ref s.heap.objs.size))) (ht : ∀ r, letTemporaryGo value (.ref l) r = pure ()) :
    wpAny (model prog w) A (subscriptTail value slice (.ref l) (.ref s.heap.objs.size)) Q E { s with heap := s.heap.push { cls := .type "slice", data := .fields #[.none, .none, vk] } } := by
  refine krv_lit (its := vs.toArray) (zs := vs.reverse) F N hl pk rfl (fun D h' F' N' l1 => h D vs.reverse h' F' N' l1 (strsAre_reverse hi)) hs ht ?_
  have e1 := hi.length
  simp only [List.size_toArray]
  rw [show vs.length = ns.length from e1]; unfold sizeLine; omega
end
theorem Lv.ab {k : Nat} (h : k ≤ 50) : Lv k (AB (k + 1)) := ⟨rfl, by show 900 - 10 * (k + 1) + 1 ≤ 900 - 10 * k; omega, by show 9000 - 100 * (k + 1) + 3 ≤ 9000 - 100 * k; omega⟩
theorem Lv.up {k j : Nat} {A : Around} (h : Lv k A) (hk : j ≤ k) : Lv j A := ⟨h.hd, by have := h.depth; omega, by have := h.units; omega⟩
section
variable {w : World} {mg mb : Str → Option Value} {A : Around} {E : Value → Shared → Prop} {s : Shared} {h₀ : Heap} {L : Addr} {m : Str → Option Value} {news : List (Addr × Obj)} {Q : Value → Shared → Prop}
theorem call_coll {x y : Str} {t u : Tok} (F : Fr h₀ L s.heap m) (N : News h₀ L s.heap news) (hrow : lawRow = lawRow) (KX : (KK w.params).In h₀) (TX : TopRead qq lz' mg mb h₀) (hr : Lv 0 A)
    (h : ∀ h' tk t', Fr h₀ L h' m → News h₀ L h' news → Q (.int (b2i (decide (y.cps.toList < x.cps.toList)) - b2i (decide (x.cps.toList < y.cps.toList))) t') { s with heap := h', toks := tk }) :
    wpAny (model prog w) A (PySem.call (.ref 28) [.str x t, .str y u]) Q E s := by
  refine wpAny_call (spec_coll hrow (Base.keeps ⟨KX, TX⟩ F.keep) hr fun s' t' e => ?_)
  obtain ⟨h', tk, rfl, k⟩ := e
  exact h h' tk t' (F.keeps k) (N.grown k)
theorem call_orders_list {l : Addr} {vs : List Value} {as : List Str} (F : Fr h₀ L s.heap m) (N : News h₀ L s.heap news) (hl : s.heap.IsList l vs.toArray) (hs : StrsAre vs as) (hn : as.length ≤ 7) (hrow : lawRow = lawRow) (KX : (KK w.params).In h₀) (TX : TopRead qq lz' mg mb h₀) (hr : Lv 0 A)
    (h : ∀ h' tk t', Fr h₀ L h' m → News h₀ L h' news → Q (.int (ordersOf as) t') { s with heap := h', toks := tk }) :
    wpAny (model prog w) A (PySem.call (.ref 120) [.ref l]) Q E s := by
  refine wpAny_call (spec_orders_list hl hs hn hrow (Base.keeps ⟨KX, TX⟩ F.keep) hr fun s' t' e => ?_)
  obtain ⟨h', tk, rfl, k⟩ := e
  exact h h' tk t' (F.keeps k) (N.grown k)
theorem call_orders_str {x : Str} {u : Tok} (F : Fr h₀ L s.heap m) (N : News h₀ L s.heap news) (hn : x.length ≤ 7) (hrow : lawRow = lawRow) (KX : (KK w.params).In h₀) (TX : TopRead qq lz' mg mb h₀) (hr : Lv 0 A)
    (h : ∀ h' tk t', Fr h₀ L h' m → News h₀ L h' news → Q (.int (ordersOf (signs x)) t') { s with heap := h', toks := tk }) :
    wpAny (model prog w) A (PySem.call (.ref 120) [.str x u]) Q E s := by
  refine wpAny_call (spec_orders_str hn hrow (Base.keeps ⟨KX, TX⟩ F.keep) hr fun s' t' e => ?_)
  obtain ⟨h', tk, rfl, k⟩ := e
  exact h h' tk t' (F.keeps k) (N.grown k)
theorem call_shown {c : Nat} {f : Int} {t u : Tok} (F : Fr h₀ L s.heap m) (N : News h₀ L s.heap news) (hc : 97 ≤ c ∧ c ≤ 122) (hf : 0 ≤ f ∧ f < 12) (hrow : lawRow = lawRow) (KX : (KK w.params).In h₀) (TX : TopRead qq lz' mg mb h₀) (hr : Lv 0 A)
    (h : ∀ h' tk t', Fr h₀ L h' m → News h₀ L h' news → Q (.str ⟨#[shownC c f]⟩ t') { s with heap := h', toks := tk }) :
    wpAny (model prog w) A (PySem.call (.ref 106) [.str ⟨#[c]⟩ t, .int f u]) Q E s := by
  refine wpAny_call (spec_shown hc hf hrow (Base.keeps ⟨KX, TX⟩ F.keep) hr fun s' t' e => ?_)
  obtain ⟨h', tk, rfl, k⟩ := e
  exact h h' tk t' (F.keeps k) (N.grown k)
theorem call_hidden {f : Int} {u : Tok} (F : Fr h₀ L s.heap m) (N : News h₀ L s.heap news) (hf : 0 ≤ f ∧ f < 27) (hrow : lawRow = lawRow) (KX : (KK w.params).In h₀) (TX : TopRead qq lz' mg mb h₀) (hr : Lv 0 A)
    (h : ∀ h' tk t', Fr h₀ L h' m → News h₀ L h' news → Q (.str ⟨#[hiddenC f]⟩ t') { s with heap := h', toks := tk }) :
    wpAny (model prog w) A (PySem.call (.ref 113) [.int f u]) Q E s := by
  refine wpAny_call (spec_hidden hf hrow (Base.keeps ⟨KX, TX⟩ F.keep) hr fun s' t' e => ?_)
  obtain ⟨h', tk, rfl, k⟩ := e
  exact h h' tk t' (F.keeps k) (N.grown k)
theorem call_strip {x : Str} {u : Tok} (F : Fr h₀ L s.heap m) (N : News h₀ L s.heap news) (hx : x.length ≤ 1000) (hrow : lawRow = lawRow) (KX : (KK w.params).In h₀) (TX : TopRead qq lz' mg mb h₀) (hr : Lv 0 A)
    (h : ∀ h' tk t', Fr h₀ L h' m → News h₀ L h' news → Q (.str ⟨(bareOf x.cps.toList).toArray⟩ t') { s with heap := h', toks := tk }) :
    wpAny (model prog w) A (PySem.call (.ref 21) [.str x u]) Q E s := by
  refine wpAny_call (spec_strip hx hrow (Base.keeps ⟨KX, TX⟩ F.keep) hr fun s' t' e => ?_)
  obtain ⟨h', tk, rfl, k⟩ := e
  exact h h' tk t' (F.keeps k) (N.grown k)
theorem call_b1 {c : Nat} {u : Tok} (F : Fr h₀ L s.heap m) (N : News h₀ L s.heap news) (hrow : lawRow = lawRow) (KX : (KK w.params).In h₀) (TX : TopRead qq lz' mg mb h₀) (hr : Lv 0 A)
    (h : ∀ h' tk, Fr h₀ L h' m → News h₀ L h' news → Q (.bool (decide ((c : Int) ∈ b1List))) { s with heap := h', toks := tk }) :
    wpAny (model prog w) A (PySem.call (.ref 53) [.str ⟨#[c]⟩ u]) Q E s := by
  refine wpAny_call (spec_b1 hrow (Base.keeps ⟨KX, TX⟩ F.keep) hr fun s' e => ?_)
  obtain ⟨h', tk, rfl, k⟩ := e
  exact h h' tk (F.keeps k) (N.grown k)
theorem call_b3 {c : Nat} {u : Tok} (F : Fr h₀ L s.heap m) (N : News h₀ L s.heap news) (KX : (KK w.params).In h₀) (TX : TopRead qq lz' mg mb h₀) (hr : Lv 0 A)
    (h : ∀ h' tk t', Fr h₀ L h' m → News h₀ L h' news → Q (.str (b3Val c) t') { s with heap := h', toks := tk }) :
    wpAny (model prog w) A (PySem.call (.ref 99) [.str ⟨#[c]⟩ u]) Q E s := by
  refine wpAny_call (spec_b3 (Base.keeps ⟨KX, TX⟩ F.keep) hr fun s' t' e => ?_)
  obtain ⟨h', tk, rfl, k⟩ := e
  exact h h' tk t' (F.keeps k) (N.grown k)
end
end Mine
end
section
open PySem PySem.W PyProof.Rows PySem.Calls
set_option maxRecDepth 100000
set_option maxHeartbeats 2000000
namespace Mine
theorem at_next (P : Params) : FnAt P 15 134 "_law_next" := ⟨o134_p15 P, .str "law_ti0029_01" 2244, .ref 133, by kernel_rfl, by kernel_rfl, by kernel_rfl⟩
noncomputable def getS (as : List Str) (i : Nat) : Str := as.getD i Str.empty
noncomputable def ltS (x y : Str) : Bool := decide (x.cps.toList < y.cps.toList)
/-- one more than the last place whose sign is less than the next one (0: none) -/
noncomputable def piv (as : List Str) : Nat → Nat
  | 0 => 0
  | k + 1 => if ltS (getS as k) (getS as (k + 1)) then k + 1 else piv as k
noncomputable def spt (as : List Str) (p : Nat) : Nat → Nat
  | 0 => 0
  | k + 1 => if ltS (getS as p) (getS as (k + 1)) then k + 1 else spt as p k
noncomputable def nextAt (as : List Str) (p q : Nat) : List Str := (as.take p ++ [getS as q]) ++ (((as.take q).drop (p + 1) ++ [getS as p]) ++ as.drop (q + 1)).reverse
noncomputable def nextS (as : List Str) : List Str :=
  match piv as (as.length - 1) with
  | 0 => []
  | p + 1 => nextAt as p (spt as p (as.length - 1))
theorem ltS_asymm {x y : Str} (h : ltS x y = true) : ltS y x = false := by
  unfold ltS at *
  simp only [decide_eq_true_eq] at h
  simp only [decide_eq_false_iff_not]
  exact fun h2 => List.lt_irrefl _ (List.lt_trans h h2)
theorem coll_ge {x y : Str} : 0 ≤ b2i (decide (y.cps.toList < x.cps.toList)) - b2i (decide (x.cps.toList < y.cps.toList)) ↔ ltS x y = false := by
  show 0 ≤ b2i (ltS y x) - b2i (ltS x y) ↔ _
  cases h : ltS x y with
  | false => cases ltS y x <;> simp [b2i]
  | true => rw [ltS_asymm h]; simp [b2i]
theorem piv_start {as : List Str} : piv as (as.length - 1) = piv as ((as.length : Int) - 2 + 1).toNat := by
  congr 1; omega
theorem piv_step {as : List Str} {k : Int} (h0 : 0 ≤ k) (h : ltS (getS as k.toNat) (getS as (k + 1).toNat) = false) : piv as (k + 1).toNat = piv as (k - 1 + 1).toNat := by
  have e : (k + 1).toNat = k.toNat + 1 := by omega
  have e2 : (k - 1 + 1).toNat = k.toNat := by omega
  rw [e] at h
  rw [e, e2]
  simp [piv, h]
theorem piv_hit {as : List Str} {k : Int} (h0 : 0 ≤ k) (h : ltS (getS as k.toNat) (getS as (k + 1).toNat) = true) : piv as (k + 1).toNat = k.toNat + 1 := by
  have e : (k + 1).toNat = k.toNat + 1 := by omega
  rw [e] at h
  rw [e]
  simp [piv, h]
theorem spt_step {as : List Str} {p : Nat} {k : Int} (h0 : 1 ≤ k) (h : ltS (getS as p) (getS as k.toNat) = false) : spt as p k.toNat = spt as p (k - 1).toNat := by
  obtain ⟨j, e1, e2⟩ : ∃ j : Nat, k.toNat = j + 1 ∧ (k - 1).toNat = j := ⟨k.toNat - 1, by omega, by omega⟩
  rw [e1] at h
  rw [e1, e2]
  simp [spt, h]
theorem spt_hit {as : List Str} {p : Nat} {k : Int} (h0 : 1 ≤ k) (h : ltS (getS as p) (getS as k.toNat) = true) : spt as p k.toNat = k.toNat := by
  obtain ⟨j, e1⟩ : ∃ j : Nat, k.toNat = j + 1 := ⟨k.toNat - 1, by omega⟩
  rw [e1] at h
  rw [e1]
  simp [spt, h]
theorem pickS_length {α : Type} (l : List α) (lo hi : Option Int) : (pickS l lo hi).length = min (kms_hi hi l.length - kms_lo lo l.length) (l.length - kms_lo lo l.length) := by
  unfold pickS; simp
theorem zA {as : List Str} {lo hi : Option Int} {x : Str} (h : as.length ≤ 7) : (pickS as lo hi).length + [x].length ≤ 1000 := by
  have := pickS_length_le as lo hi
  simp only [List.length_cons, List.length_nil]; omega
theorem zB {as : List Str} {lo hi lo' hi' : Option Int} {x : Str} (h : as.length ≤ 7) : (pickS as lo hi ++ [x]).length + (pickS as lo' hi').length ≤ 1000 := by
  have := pickS_length_le as lo hi
  have := pickS_length_le as lo' hi'
  simp only [List.length_append, List.length_cons, List.length_nil]; omega
theorem zC {as : List Str} {lo hi lo' hi' lo2 hi2 : Option Int} {x y : Str} (h : as.length ≤ 7) : (pickS as lo hi ++ [x]).length + ((pickS as lo' hi' ++ [y] ++ pickS as lo2 hi2).reverse).length ≤ 1000 := by
  have := pickS_length_le as lo hi
  have := pickS_length_le as lo' hi'
  have := pickS_length_le as lo2 hi2
  simp only [List.length_append, List.length_cons, List.length_nil, List.length_reverse]; omega
theorem zD {as : List Str} {lo' hi' lo2 hi2 : Option Int} {y : Str} (h : as.length ≤ 7) : (pickS as lo' hi' ++ [y] ++ pickS as lo2 hi2).length ≤ 1000 := by
  have := pickS_length_le as lo' hi'
  have := pickS_length_le as lo2 hi2
  simp only [List.length_append, List.length_cons, List.length_nil]; omega
theorem not_ltS_eq {x y : Str} (h : ¬ ltS x y = false) : ltS x y = true := by cases e : ltS x y; exact absurd e h; rfl
variable {w : World} {mg mb : Str → Option Value} {A : Around} {s : Shared} {R : Result → Shared → Prop}
local macro_rules | `(tactic| walk_at "subscriptTail Name Slice ref ref") => `(tactic| (k_here; k_dflt (refine' sl_strs ?F ?N ?l ?hs ?p ?q ?z ?_ ?s ?t; (case F => k_asm); (case N => k_asm); (case l => kmk_list); (case p => kmk_part); (case q => kmk_part); (case hs => assumption); (case z => omega); (case s => with_unfolding_all rfl); (case t => kmk_pure)); intro D' ws' h' F' N' l1 hI'; (try k_lt l1); (try k_sweep)))
local macro_rules | `(tactic| walk_at "call ref") => `(tactic| (k_here; k_dflt (refine' call_coll ?F ?N ?h ?k ?x ?r ?_; (case F => k_asm); (case N => k_asm); (case h => assumption); (case k => assumption); (case x => assumption); (case r => exact Lv.ab (by decide)))))
theorem Fr_eq {h₀ h : Heap} {L : Addr} {m m' : Str → Option Value} (F : Fr h₀ L h m) (e : ∀ z, m z = m' z) : Fr h₀ L h m' := (funext e : m = m') ▸ F
theorem next_is {as : List Str} {k q : Int} (hk : 0 ≤ k) (hq : k + 1 ≤ q) (hp : piv as (as.length - 1) = k.toNat + 1) (hs : spt as k.toNat (as.length - 1) = q.toNat) :
    (pickS as none (some k) ++ [as.getD q.toNat Str.empty]) ++ ((pickS as (some (k + 1)) (some q) ++ [as.getD k.toNat Str.empty]) ++ pickS as (some (q + 1)) none).reverse = nextS as := by
  unfold nextS
  rw [hp]
  show _ = nextAt as k.toNat (spt as k.toNat (as.length - 1))
  rw [hs]
  unfold nextAt
  rw [pickS_upto _ hk, pickS_run _ (by omega) (by omega), pickS_from _ (by omega), show (k + 1).toNat = k.toNat + 1 by omega, show (q + 1).toNat = q.toNat + 1 by omega]
  rfl
theorem nextS_nil {as : List Str} (h : piv as (as.length - 1) = 0) : nextS as = [] := by unfold nextS; rw [h]
local macro_rules | `(tactic| walk_at "exec While") => `(tactic| refine stop_ ?_)
local macro_rules | `(tactic| walk_at "binaryOp Add ref ref") => `(tactic| (k_here; k_dflt (refine' add_strs ?F ?N ?a ?b ?i ?j ?_ ?z; (case F => k_asm); (case N => k_asm); (case a => kmk_list); (case b => kmk_list); (case i => first | assumption | exact .cons _ _ .nil); (case j => first | assumption | exact .cons _ _ .nil); (case z => first | exact zA (by assumption) | exact zB (by assumption) | exact zC (by assumption))); intro D' ws' h' F' N' l1 hI'; (try k_lt l1); (try k_sweep)))
local macro_rules | `(tactic| walk_at "subscriptTail Name Slice ref ref") => `(tactic| (k_here; (with_reducible show wpAny _ _ (subscriptTail _ (PySem.Expr.Slice none none (some _) _) (Value.ref _) (Value.ref _)) _ _ _); k_dflt (refine' krv_strs ?F ?N ?l ?k ?i ?z ?_ ?s ?t; (case F => k_asm); (case N => k_asm); (case l => kmk_list); (case k => exact IsPart.int _ _); (case i => assumption); (case z => exact zD (by assumption)); (case s => with_unfolding_all rfl); (case t => kmk_pure)); intro D' ws' h' F' N' l1 hI'; (try k_lt l1); (try k_sweep)))
theorem spec_next {l : Addr} {vs : List Value} {as : List Str} (hl : s.heap.IsList l vs.toArray) (hs : StrsAre vs as) (hn : as.length ≤ 7) (hn1 : 1 ≤ as.length) (hrow : lawRow = lawRow) (B : Base w mg mb s.heap) (hr : Lv 1 A) (h : ∀ s' D ws n, Ext s s' → s'.heap.get? D = some (W.listOf (List.toArray ws) n) → s.heap.get? D = none → StrsAre ws (nextS as) → R (.ok (.ret (.ref D))) s') : codeAny (model prog w) A (.call (.ref 134) ⟨[.ref l], []⟩) R s := by
  refine call_fn (i := 15) (binds := [("row", .ref l)]) 1 rfl (at_next _) B hr (fun _ _ => rfl) (locs rfl) ?_ rfl rfl rfl (by decide)
  intro cd h₁ tk Q hQ F N KX TX
  revert hrow KX; k_fill; intro hrow KX
  k_steps
  rename Fr _ _ _ _ => F0
  rename News _ _ _ _ => N0
  refine ksw_while (σ := Int × Tok) (fun _ => []) (fun c => [("place", .int c.1 c.2)]) (fun _ => True) [] (fun c => -1 ≤ c.1 ∧ c.1 + 2 ≤ as.length ∧ piv as (as.length - 1) = piv as (c.1 + 1).toNat) (fun c => (c.1 + 1).toNat) (_, _) F0 N0 trivial (fun p hp => by rw [List.mem_singleton.mp hp]; rfl) ?_ ?_
  · exact ⟨by show -1 ≤ (as.length : Int) - 2; omega, by show (as.length : Int) - 2 + 2 ≤ as.length; omega, piv_start⟩
  · rintro ⟨k, t⟩ u h1 tk1 _ ⟨hk0, hk1, hk2⟩ F N
    replace F : Fr s.heap s.heap.objs.size h1 (fun z => if z = Str.ofString "place" then some (.int k t) else List.lookup z [(Str.ofString "row", Value.ref l)].reverse) := by
      refine Fr_eq F fun z => ?_
      by_cases hz : z = Str.ofString "place"
      · subst hz; rfl
      · rw [if_neg hz]
        simp [kstB, hz]
    simp only at hk0 hk1 hk2
    clear F0 N0
    k_steps
    · rename 0 ≤ (_ - _ : Int) => hge
      have hk := piv_step (by assumption) (coll_ge.mp hge)
      refine ksw_end (k - 1, _) (by assumption) (by assumption) (fun p hp => (nomatch hp)) trivial (fun p hp => by rw [List.mem_singleton.mp hp]; rfl) ?_ ⟨?_, ?_, ?_⟩ ?_
      · ksw_same
      · show -1 ≤ k - 1; omega
      · show k - 1 + 2 ≤ _; omega
      · show _ = piv as (k - 1 + 1).toNat; rw [← hk]; exact hk2
      · show (k - 1 + 1).toNat < (k + 1).toNat; omega
    · rename ¬ (0 ≤ (_ - _ : Int)) => hlt
      have hlt' := not_ltS_eq (fun e => hlt (coll_ge.mpr e))
      have hp := hk2.trans (piv_hit (by assumption) hlt')
      rename Fr _ _ _ _ => F0
      rename News _ _ _ _ => N0
      refine ksw_while (σ := Int × Tok) (fun _ => []) (fun c => [("spot", .int c.1 c.2)]) (fun _ => True) [] (fun c => k + 1 ≤ c.1 ∧ c.1 + 1 ≤ as.length ∧ spt as k.toNat (as.length - 1) = spt as k.toNat c.1.toNat) (fun c => c.1.toNat) (_, _) F0 N0 trivial (fun p hp => by rw [List.mem_singleton.mp hp]; rfl) ?_ ?_
      · exact ⟨by show k + 1 ≤ (as.length : Int) - 1; omega, by show (as.length : Int) - 1 + 1 ≤ as.length; omega, by show _ = spt as k.toNat ((as.length : Int) - 1).toNat; congr 1; omega⟩
      · rintro ⟨q, tq⟩ u h2 tk2 _ ⟨hq0, hq1, hq2⟩ F N
        replace F : Fr s.heap s.heap.objs.size h2 (fun z => if z = Str.ofString "spot" then some (.int q tq) else if z = Str.ofString "place" then some (.int k t) else List.lookup z [(Str.ofString "row", Value.ref l)].reverse) := by
          refine Fr_eq F fun z => ?_
          by_cases hz : z = Str.ofString "spot"
          · subst hz; rfl
          · rw [if_neg hz]
            simp [kstB, hz]
        simp only at hq0 hq1 hq2
        clear F0 N0 hlt
        k_steps
        · rename 0 ≤ (_ - _ : Int) => hge
          have hg := coll_ge.mp hge
          have hne : q ≠ k + 1 := fun e => by
            have h9 : ltS (getS as k.toNat) (getS as q.toNat) = true := by rw [e]; exact hlt'
            exact absurd (h9.symm.trans hg) (by decide)
          have hq := spt_step (p := k.toNat) (by omega) hg
          refine ksw_end (q - 1, _) (by assumption) (by assumption) (fun p hp => (nomatch hp)) trivial (fun p hp => by rw [List.mem_singleton.mp hp]; rfl) ?_ ⟨?_, ?_, ?_⟩ ?_
          · ksw_same
          · show k + 1 ≤ q - 1; omega
          · show q - 1 + 1 ≤ _; omega
          · show _ = spt as k.toNat (q - 1).toNat; rw [← hq]; exact hq2
          · show (q - 1).toNat < q.toNat; omega
        · rename ¬ (0 ≤ (_ - _ : Int)) => hlt2
          have hlt3 := not_ltS_eq (fun e => hlt2 (coll_ge.mpr e))
          have hs9 := hq2.trans (spt_hit (p := k.toNat) (by omega) hlt3)
          have hall := next_is (by assumption) hq0 hp hs9
          rename StrsAre _ (_ ++ List.reverse _) => hS
          rw [hall] at hS
          rename News _ _ _ _ => N'
          exact hQ _ _ (h _ _ _ _ ⟨_, _, rfl, Fr.keep (by assumption)⟩ (N'.get (.head _)) (N'.fresh (.head _)) hS)
    · rename News _ _ _ _ => N'
      have e0 : nextS as = [] := nextS_nil (by rw [hk2, show (k + 1).toNat = 0 by omega]; rfl)
      exact hQ _ _ (h _ _ [] _ ⟨_, _, rfl, Fr.keep (by assumption)⟩ (N'.get (.head _)) (N'.fresh (.head _)) (by rw [e0]; exact .nil))
end Mine
end
section
open PySem PySem.W PyProof.Rows PySem.Calls
set_option maxRecDepth 100000
set_option maxHeartbeats 2000000
namespace Mine
theorem at_row (P : Params) : FnAt P 14 127 "_law_row" := ⟨o127_p14 P, .str "law_ti0029_01" 2244, .ref 126, by kernel_rfl, by kernel_rfl, by kernel_rfl⟩
noncomputable def trimN : Nat → List Str → List Str
  | 0, l => l
  | n + 1, l => if 30 < ordersOf l then trimN n l.dropLast else l
/-- the row without the last signs that make too many orders -/
noncomputable def trimS (l : List Str) : List Str := trimN l.length l
theorem trimS_pop {l : List Str} (h0 : l ≠ []) (h : 30 < ordersOf l) : trimS l = trimS l.dropLast := by
  obtain ⟨k, hk⟩ : ∃ k, l.length = k + 1 := ⟨l.length - 1, by have := List.length_pos_iff.mpr h0; omega⟩
  unfold trimS
  rw [hk, show l.dropLast.length = k by rw [List.length_dropLast]; omega]
  exact if_pos h
theorem trimS_stay {l : List Str} (h : ¬ 30 < ordersOf l) : trimS l = l := by
  unfold trimS
  cases hk : l.length with
  | zero => rfl
  | succ k => exact if_neg h
noncomputable def c0 (n : Int) : Nat := (97 + n.fmod 26).toNat
noncomputable def c1 (n : Int) : Nat := (97 + (n.fmod 26 + 1 + (n.fdiv 26).fmod 25).fmod 26).toNat
noncomputable def fst0 (n : Int) : Str := Txt.item ".:\n" ((n.fdiv 650).fmod 3)
/-- the sign that a number lays -/
noncomputable def signOf (n₀ n : Int) : Str :=
  if n.fmod 7 < 2 then ⟨#[shownC (if n.fmod 7 = 0 then c0 n₀ else c1 n₀) ((n.fdiv 7).fmod 12)]⟩
  else if n.fmod 7 = 2 then ⟨#[hiddenC ((n.fdiv 7).fmod 27)]⟩
  else Txt.item "㏇.:\n" (n.fmod 7 - 3)
theorem item2 {a b : Nat} {k : Int} (h : 0 ≤ k ∧ k < 2) : Txt.item ⟨#[a, b]⟩ k = ⟨#[if k = 0 then a else b]⟩ := by
  have : k = 0 ∨ k = 1 := by omega
  rcases this with rfl | rfl <;> rfl
theorem fmod_in (n : Int) {d : Int} (hd : 0 < d) : 0 ≤ n.fmod d ∧ n.fmod d < d := ⟨Int.fmod_nonneg_of_pos _ hd, Int.fmod_lt_of_pos _ hd⟩
theorem c_in (n₀ k : Int) : 97 ≤ (if k = 0 then c0 n₀ else c1 n₀) ∧ (if k = 0 then c0 n₀ else c1 n₀) ≤ 122 := by
  have h1 := fmod_in n₀ (d := 26) (by omega)
  have h2 := fmod_in (n₀.fmod 26 + 1 + (n₀.fdiv 26).fmod 25) (d := 26) (by omega)
  unfold c0 c1
  split <;> omega
section
variable {prog : Program} {w : World} {A : Around} {E : Value → Shared → Prop} {s : Shared} {h₀ : Heap} {L D : Addr} {m : Str → Option Value} {news : List (Addr × Obj)} {us : List Value} {n : Nat} {x : Value} {Q : Value → Shared → Prop}
theorem append_mine (keep : List (Addr × Obj)) (F : Fr h₀ L s.heap m) (N : News h₀ L s.heap news) (hm : (D, W.listOf us.toArray n) ∈ news) (hk : ∀ p ∈ keep, p ∈ news) (hne : ∀ p ∈ keep, p.1 ≠ D) (hz : us.length ≤ 1000)
    (h : ∀ h' us', us' = us ++ [x] → Fr h₀ L h' m → News h₀ L h' ((D, W.listOf (List.toArray us') (n + 1)) :: keep) → Q .none { s with heap := h' }) : wpAny (model prog w) A (PySem.call (.builtin "list.append") [.ref D, x]) Q E s := by
  have z := N _ hm
  refine append_at (hsz := by simp only [List.size_toArray]; unfold sizeLine; omega) z.1 fun h' hs ho' => h h' _ rfl (F.change hs z.2.1 z.2.2) ?_
  have e : us.toArray.push x = (us ++ [x]).toArray := by simp
  rw [e] at ho'
  intro p hp
  rcases List.mem_cons.mp hp with rfl | hp
  · exact ⟨ho', z.2⟩
  · exact ⟨(hs.2 _ (hne p hp)).trans (N p (hk p hp)).1, (N p (hk p hp)).2⟩
theorem pop_mine (keep : List (Addr × Obj)) (F : Fr h₀ L s.heap m) (N : News h₀ L s.heap news) (hm : (D, W.listOf us.toArray n) ∈ news) (hk : ∀ p ∈ keep, p ∈ news) (hne : ∀ p ∈ keep, p.1 ≠ D) (hz : us.length ≤ 1000) (h0 : us ≠ [])
    (h : ∀ h' us', us' = us.dropLast → Fr h₀ L h' m → News h₀ L h' ((D, W.listOf (List.toArray us') (n + 1)) :: keep) → Q (us.getLast h0) { s with heap := h' }) : wpAny (model prog w) A (PySem.call (.builtin "list.pop") [.ref D]) Q E s := by
  have z := N _ hm
  have hpos : 0 < us.length := List.length_pos_iff.mpr h0
  refine Copied.pop_at (y := us.getLast h0) (hsz := by simp only [List.size_toArray]; unfold sizeLine; omega) z.1 (by simp [List.getLast_eq_getElem]) fun h' hs ho' => h h' _ rfl (F.change hs z.2.1 z.2.2) ?_
  have e : us.toArray.pop = (us.dropLast).toArray := by simp
  rw [e] at ho'
  intro p hp
  rcases List.mem_cons.mp hp with rfl | hp
  · exact ⟨ho', z.2⟩
  · exact ⟨(hs.2 _ (hne p hp)).trans (N p (hk p hp)).1, (N p (hk p hp)).2⟩
end
section
variable {w : World} {mg mb : Str → Option Value} {A : Around} {E : Value → Shared → Prop} {s : Shared} {h₀ : Heap} {L : Addr} {m : Str → Option Value} {news : List (Addr × Obj)} {Q : Value → Shared → Prop}
theorem call_shown2 {n₀ k f : Int} {t u : Tok} (F : Fr h₀ L s.heap m) (N : News h₀ L s.heap news) (hk : 0 ≤ k ∧ k < 2) (hf : 0 ≤ f ∧ f < 12) (hrow : lawRow = lawRow) (KX : (KK w.params).In h₀) (TX : TopRead qq lz' mg mb h₀) (hr : Lv 0 A)
    (h : ∀ h' tk t', Fr h₀ L h' m → News h₀ L h' news → Q (.str ⟨#[shownC (if k = 0 then c0 n₀ else c1 n₀) f]⟩ t') { s with heap := h', toks := tk }) :
    wpAny (model prog w) A (PySem.call (.ref 106) [.str (Txt.item ⟨#[c0 n₀, c1 n₀]⟩ k) t, .int f u]) Q E s := by
  rw [item2 hk]
  exact call_shown F N (c_in n₀ k) hf hrow KX TX hr h
end
noncomputable def rowS (n₀ : Int) (ns : List Int) : List Str := trimS (fst0 n₀ :: ns.map (signOf n₀))
theorem strs_snoc' {us : List Value} {as : List Str} {x y : Str} {t : Tok} (h : StrsAre us as) (e : y = x) : StrsAre (us ++ [.str x t]) (as ++ [y]) := e ▸ h.append' (.cons _ _ .nil)
variable {w : World} {mg mb : Str → Option Value} {A : Around} {s : Shared} {R : Result → Shared → Prop}
local macro_rules | `(tactic| walk_at "exec While") => `(tactic| refine stop_ ?_)
local macro_rules | `(tactic| walk_at "call ref") => `(tactic| (k_here; k_dflt (refine' call_shown2 ?F ?N ?a ?b ?h ?k ?x ?r ?_; (case F => k_asm); (case N => k_asm); (case a => omega); (case b => exact fmod_in _ (by decide)); (case h => assumption); (case k => assumption); (case x => assumption); (case r => exact Lv.ab (by decide)))))
local macro_rules | `(tactic| walk_at "call ref") => `(tactic| (k_here; k_dflt (refine' call_hidden ?F ?N ?b ?h ?k ?x ?r ?_; (case F => k_asm); (case N => k_asm); (case b => exact fmod_in _ (by decide)); (case h => assumption); (case k => assumption); (case x => assumption); (case r => exact Lv.ab (by decide)))))
local macro_rules | `(tactic| walk_at "call ref") => `(tactic| (k_here; k_dflt (refine' call_orders_list ?F ?N ?l ?s ?n ?h ?k ?x ?r ?_; (case F => k_asm); (case N => k_asm); (case l => kmk_list); (case s => assumption); (case n => omega); (case h => assumption); (case k => assumption); (case x => assumption); (case r => exact Lv.ab (by decide)))))
local macro_rules | `(tactic| walk_at "call builtin:list.pop") => `(tactic| refine stop_ ?_)
local macro_rules | `(tactic| walk_at "call builtin:list.append") => `(tactic| refine stop_ ?_)
local macro_rules | `(tactic| walk_at "pyIter ref") => `(tactic| refine stop_ ?_)
local macro_rules | `(tactic| walk_at "exec For") => `(tactic| refine stop_ ?_)
theorem spec_row {l : Addr} {vs : List Value} {n₀ : Int} {ns : List Int} (hl : s.heap.IsList l vs.toArray) (hs : IntsAre vs (n₀ :: ns)) (hn : ns.length ≤ 5) (h0 : 0 ≤ n₀ ∧ n₀ < 1000000) (hb : ∀ n ∈ ns, 0 ≤ n ∧ n < 1000000) (hrow : lawRow = lawRow) (B : Base w mg mb s.heap) (hr : Lv 1 A) (h : ∀ s' D ws n, Ext s s' → s'.heap.get? D = some (W.listOf (List.toArray ws) n) → s.heap.get? D = none → StrsAre ws (rowS n₀ ns) → R (.ok (.ret (.ref D))) s') : codeAny (model prog w) A (.call (.ref 127) ⟨[.ref l], []⟩) R s := by
  refine call_fn (i := 14) (binds := [("numbers", .ref l)]) 1 rfl (at_row _) B hr (fun _ _ => rfl) (locs rfl) ?_ rfl rfl rfl (by decide)
  intro cd h₁ tk Q hQ F N KX TX
  revert hrow KX; k_fill; intro hrow KX
  k_steps
  unfold Stop
  rename Fr _ _ _ _ => F0
  rename News _ _ _ _ => N0
  refine For_invVF F0 ?k1 ?k2 ?_
  case k1 => exact rfl
  case k2 => exact rfl

  k_steps
  unfold Stop
  rename_i tl k9 a9 h9 tk9 t9 kx rl ha l1a hb9 D ws hh F N hI hC hL l1
  replace F : Fr s.heap s.heap.objs.size hh (fun y => if y = Str.ofString "row" then some (Value.ref rl) else if y = Str.ofString "letters" then some (Value.str ⟨#[c0 n₀, c1 n₀]⟩ tl) else if y = Str.ofString "first" then some (.int (n₀.fmod 26) _) else List.lookup y [(Str.ofString "numbers", Value.ref l)].reverse) := F
  replace N : News s.heap s.heap.objs.size hh [(D, W.listOf ws.toArray 0), (rl, W.listOf (List.toArray [Value.str (fst0 n₀) _]) 0)] := N
  replace hI : IntsAre ws ns := hI
  clear hC hL
  refine kst_listL (σ := List Value × List Str × Nat) (fun c => [(D, W.listOf ws.toArray 0), (rl, W.listOf c.1.toArray c.2.2)]) (fun _ => []) (fun c => StrsAre c.1 c.2.1) ["kind", "rest"] (fun pre c => c.2.1 = fst0 n₀ :: pre.map (signOf n₀)) ([Value.str (fst0 n₀) _], [fst0 n₀], 0) rfl (fun c => .head _) hI F N (.cons _ _ .nil) (fun p hp => (nomatch hp)) rfl ?_ ?_
  · rintro ⟨us, as, n9⟩ pre post n t u h2 tk2 own hns hmem hoff hS hP F N
    simp only at hS hP F N

    have hnb := hb n hmem
    have hm7 := fmod_in n (d := 7) (by decide)
    have hlen := hS.length
    have hpre : us.length ≤ 6 := by
      have e1 := congrArg List.length hns
      have e2 := congrArg List.length hP
      simp only [List.length_append, List.length_cons, List.length_map] at e1 e2
      omega
    have hkeep : ∀ (T : Addr × Obj), ∀ p ∈ (D, W.listOf ws.toArray 0) :: own, p ∈ T :: ([(D, W.listOf ws.toArray 0), (rl, W.listOf us.toArray n9)] ++ own) := fun T p hp => by
      rcases List.mem_cons.mp hp with rfl | hp
      · exact .tail _ (.head _)
      · exact .tail _ (.tail _ (.tail _ hp))
    k_steps
    · rename (_ ∨ _) => ho
      exact absurd ho (by show ¬ (n.fmod 7 < -(2:Int) ∨ (2:Int) ≤ n.fmod 7); omega)
    · unfold Stop
      rename Fr _ _ _ _ => F'
      rename News _ _ _ _ => N'
      refine append_mine ((D, W.listOf ws.toArray 0) :: own) F' N' (.tail _ (.tail _ (.head _))) (hkeep _) (fun p hp => by rcases List.mem_cons.mp hp with rfl | hp; exact Nat.ne_of_gt l1; exact hoff p hp rl (.tail _ (.head _))) (by omega) ?_
      intro h' us' hu F'' N''
      k_steps
      refine kst_end (us', as ++ [signOf n₀ n], n9 + 1) F'' N'' (fun p hp => ?_) (fun p hp => .tail _ (.tail _ hp)) rfl ?_ (fun p hp => (nomatch hp)) ?_ ?_
      · rcases List.mem_cons.mp hp with rfl | hp
        · exact .tail _ (.head _)
        · rw [List.mem_singleton.mp hp]; exact .head _
      · rw [hu]
        refine strs_snoc' hS ?_
        unfold signOf
        rw [if_pos (by assumption)]
      · intro z h1 _ h3; simp only [List.contains_cons, List.contains_nil, Bool.or_false, Bool.or_eq_false_iff, beq_eq_false_iff_ne, ne_eq] at h3; simp [h1, h3, kstB]
      · show as ++ [signOf n₀ n] = _
        rw [hP, List.map_append]; rfl
    · unfold Stop
      rename Fr _ _ _ _ => F'
      rename News _ _ _ _ => N'
      refine append_mine ((D, W.listOf ws.toArray 0) :: own) F' N' (.tail _ (.tail _ (.head _))) (hkeep _) (fun p hp => by rcases List.mem_cons.mp hp with rfl | hp; exact Nat.ne_of_gt l1; exact hoff p hp rl (.tail _ (.head _))) (by omega) ?_
      intro h' us' hu F'' N''
      k_steps
      refine kst_end (us', as ++ [signOf n₀ n], n9 + 1) F'' N'' (fun p hp => ?_) (fun p hp => .tail _ (.tail _ hp)) rfl ?_ (fun p hp => (nomatch hp)) ?_ ?_
      · rcases List.mem_cons.mp hp with rfl | hp
        · exact .tail _ (.head _)
        · rw [List.mem_singleton.mp hp]; exact .head _
      · rw [hu]
        refine strs_snoc' hS ?_
        unfold signOf
        rw [if_neg (by assumption), if_pos (by assumption)]
      · intro z h1 _ h3; simp only [List.contains_cons, List.contains_nil, Bool.or_false, Bool.or_eq_false_iff, beq_eq_false_iff_ne, ne_eq] at h3; simp [h1, h3, kstB]
      · show as ++ [signOf n₀ n] = _
        rw [hP, List.map_append]; rfl
    · unfold Stop
      rename Fr _ _ _ _ => F'
      rename News _ _ _ _ => N'
      refine append_mine ((D, W.listOf ws.toArray 0) :: own) F' N' (.tail _ (.tail _ (.head _))) (hkeep _) (fun p hp => by rcases List.mem_cons.mp hp with rfl | hp; exact Nat.ne_of_gt l1; exact hoff p hp rl (.tail _ (.head _))) (by omega) ?_
      intro h' us' hu F'' N''
      k_steps
      refine kst_end (us', as ++ [signOf n₀ n], n9 + 1) F'' N'' (fun p hp => ?_) (fun p hp => .tail _ (.tail _ hp)) rfl ?_ (fun p hp => (nomatch hp)) ?_ ?_
      · rcases List.mem_cons.mp hp with rfl | hp
        · exact .tail _ (.head _)
        · rw [List.mem_singleton.mp hp]; exact .head _
      · rw [hu]
        refine strs_snoc' hS ?_
        unfold signOf
        rw [if_neg (by assumption), if_neg (by assumption)]
      · intro z h1 _ h3; simp only [List.contains_cons, List.contains_nil, Bool.or_false, Bool.or_eq_false_iff, beq_eq_false_iff_ne, ne_eq] at h3; simp [h1, h3, kstB]
      · show as ++ [signOf n₀ n] = _
        rw [hP, List.map_append]; rfl
  · rintro ⟨us, as, n9⟩ u h2 tk2 hS hP F N
    simp only at hS hP F N
    k_steps
    unfold Stop
    rename Fr _ _ _ _ => F0
    rename News _ _ _ _ => N0
    refine ksw_while (σ := List Value × List Str × Nat) (fun c => [(rl, W.listOf c.1.toArray c.2.2)]) (fun _ => []) (fun c => StrsAre c.1 c.2.1) [] (fun c => trimS as = trimS c.2.1 ∧ c.2.1.length ≤ 6) (fun c => c.2.1.length) (us, as, n9) F0 (fun p hp => N0 p (.tail _ hp)) hS (fun p hp => (nomatch hp)) ⟨rfl, ?_⟩ ?_
    · have e2 := congrArg List.length hP
      simp only [List.length_cons, List.length_map] at e2
      show as.length ≤ 6
      omega
    · rintro ⟨us1, as1, n1⟩ u3 h3 tk3 hS1 ⟨hP1, hP2⟩ F N
      simp only at hS1 hP1 hP2 F N
      have hlen1 : us1.length = as1.length := hS1.length
      k_steps
      · unfold Stop
        rename (30 < _) => h30
        rename Fr _ _ _ _ => F'
        rename News _ _ _ _ => N'
        have hne : as1 ≠ [] := fun e => by rw [e] at h30; exact absurd h30 (by decide)
        have hne2 : us1 ≠ [] := fun e => by rw [e] at hlen1; exact hne (List.length_eq_zero_iff.mp hlen1.symm)
        refine pop_mine [] F' N' (.head _) (fun p hp => (nomatch hp)) (fun p hp => (nomatch hp)) (by omega) hne2 ?_
        intro h' us' hu F'' N''
        k_steps
        have hl9 := List.length_pos_iff.mpr hne
        refine ksw_end (us', as1.dropLast, n1 + 1) F'' N'' (fun p hp => hp) ?_ (fun p hp => (nomatch hp)) ?_ ⟨?_, ?_⟩ ?_
        · rw [hu]; exact strsAre_dropLast hS1
        · ksw_same
        · rw [hP1]; exact trimS_pop hne h30
        · show as1.dropLast.length ≤ 6
          rw [List.length_dropLast]; omega
        · show as1.dropLast.length < as1.length
          rw [List.length_dropLast]; omega
      · rename ¬ (30 < _) => h30
        rename News _ _ _ _ => N'
        have e9 : as1 = rowS n₀ ns := by rw [← trimS_stay h30, ← hP1, hP]; rfl
        exact hQ _ _ (h _ _ _ _ ⟨_, _, rfl, Fr.keep (by assumption)⟩ (N'.get (.head _)) (N'.fresh (.head _)) (e9 ▸ hS1))
end Mine
end
section
open PySem PySem.W PyProof.Rows PySem.Calls
set_option maxRecDepth 100000
set_option maxHeartbeats 2000000
namespace Mine
/-- what a turn leaves -/
noncomputable def TurnEnd (h₀ : Heap) (L I : Addr) (own : List (Addr × Obj)) (R : (Str → Option Value) → List (Addr × Obj) → Prop) (s₁ : Shared) (Q : Flow → Shared → Prop) (f : Flow) (s₂ : Shared) : Prop :=
  match f with
  | .ret v => Q (.ret v) s₂
  | .brk => Q .next s₂
  | _ => ∃ h' tk m' news', s₂ = { s₁ with heap := h', toks := tk } ∧ Fr h₀ L h' m' ∧ News h₀ L h' (own ++ news') ∧ (∀ p ∈ news', p.1 ≠ I) ∧ R m' news'
theorem TurnEnd.next {h₀ h' : Heap} {L I : Addr} {own news' : List (Addr × Obj)} {R : (Str → Option Value) → List (Addr × Obj) → Prop} {s₁ : Shared} {tk : Nat} {Q : Flow → Shared → Prop} {m' : Str → Option Value}
    (F : Fr h₀ L h' m') (N : News h₀ L h' (own ++ news')) (ha : ∀ p ∈ news', p.1 ≠ I) (hR : R m' news') : TurnEnd h₀ L I own R s₁ Q .next { s₁ with heap := h', toks := tk } := ⟨h', tk, m', news', rfl, F, N, ha, hR⟩
section
variable {prog : Program} {w : World} {A : Around} {E : Value → Shared → Prop} {s : Shared} {env : Env} {h₀ : Heap} {x : Str} {body : List Stmt} {Q : Flow → Shared → Prop}
theorem range_inv {r : Addr} {b₀ : Int} {t₀ u₀ v₀ : Tok} {n : Nat} {m : Str → Option Value} {news : List (Addr × Obj)} (R : Nat → (Str → Option Value) → List (Addr × Obj) → Prop)
    (hh : A.handled = none) (hr : IsRange s.heap r 0 b₀ 1 t₀ u₀ v₀) (hsmall : Builtin.Range.small 0 b₀ 1 = true) (hn : Builtin.Range.rangeSize 0 b₀ 1 = (n : Int)) (F : Fr h₀ env.locals s.heap m) (N : News h₀ env.locals s.heap news) (h0 : R 0 m news)
    (turn : ∀ i m₁ news₁ h tk I own t, i < n → R i m₁ news₁ → (∀ p ∈ news₁, p.1 ≠ I) → (∃ o, (I, o) ∈ own) → (∀ p ∈ own, p.1 = I) → Fr h₀ env.locals h (fun y => if y = x then some (.int (i : Nat) t) else m₁ y) → News h₀ env.locals h (own ++ news₁) →
      wpAny (model prog w) A (execs body env) (TurnEnd h₀ env.locals I own (R (i + 1)) { s with heap := h, toks := tk } Q) E { s with heap := h, toks := tk })
    (done : ∀ m₁ news₁ h tk, R n m₁ news₁ → Fr h₀ env.locals h m₁ → News h₀ env.locals h news₁ → Q .next { s with heap := h, toks := tk }) :
    wpAny (model prog w) A (pyIter (.ref r)) (fun it s₂ => LoopAtV prog w A h₀ env x body Q E it s₂) E s := by
  refine wpAny_pyIter_range hr hsmall ?_
  have W : Walks prog w A s.heap.objs.size [s.heap.objs.size] [s.heap.objs.size] n (fun i v => i < n ∧ ∃ t, v = .int (0 + i * 1) t)
      (fun i h => IsRangeIter h s.heap.objs.size (0 + (i : Nat) * 1) ((n : Int) - (i : Nat)) 1) := (Walks.range hh _ 0 1 n).bound
  have hI0 : ∀ p ∈ news, p.1 ∉ [s.heap.objs.size] := fun p hp hI => absurd (Heap.lt_size (N p hp).1) ((List.mem_singleton.mp hI) ▸ Nat.lt_irrefl _)
  refine ⟨s.heap.objs.size, _, _, n, _, _, m, news, R, rfl, W, ?_, ?_, hI0, (by show IsRangeIter _ _ _ _ _; rw [hn]; simpa using Heap.get?_push_size _ rfl), F.push _, (fun p hp => ⟨Heap.get?_push_of_some _ (N p hp).1, (N p hp).2⟩), h0, ?_, ?_⟩
  · intro hm
    exact absurd F.ns.lt ((List.mem_singleton.mp hm) ▸ Nat.lt_irrefl _)
  · intro b hb
    rw [List.mem_singleton.mp hb]
    exact next_is_new F
  · rintro i v m₁ news₁ s₁ own ⟨hh', tk', rfl⟩ hi ⟨_, t, rfl⟩ hR hoff hsub _ hall hst F₁ N₁
    have e1 : (0 : Int) + (i : Int) * 1 = ((i : Nat) : Int) := by omega
    rw [e1] at F₁
    have hIown : ∃ o, (s.heap.objs.size, o) ∈ own := ⟨_, hall _ (.head _) (next_is_new F) _ hst⟩
    refine wpAny_mono (turn i m₁ news₁ hh' tk' s.heap.objs.size own t hi hR (fun p hp e => hoff p hp (by rw [e]; exact .head _)) hIown (fun p hp => List.mem_singleton.mp (hsub p hp)) F₁ N₁) (fun f s₂ p => ?_) fun _ _ e => e
    have fin : ∀ {f : Flow}, (∃ h' tk m' news', s₂ = { s with heap := h', toks := tk } ∧ Fr h₀ env.locals h' m' ∧ News h₀ env.locals h' (own ++ news') ∧ (∀ p ∈ news', p.1 ≠ s.heap.objs.size) ∧ R (i + 1) m' news') → LoopStepU h₀ env.locals [s.heap.objs.size] own (R (i + 1)) { s with heap := hh', toks := tk' } .next s₂ := by
      rintro f ⟨h', tk, m', news', e, F', N', ha, hR'⟩
      exact ⟨rfl, h', tk, m', news', e, F', N', fun p hp hI => ha p hp (List.mem_singleton.mp hI), hR'⟩
    cases f with
    | ret v => exact .ret p
    | brk => exact .brk p
    | next => exact .next (fin (f := .next) p)
    | cont => exact .cont (fin (f := .next) p)
  · rintro h' tk m' news' F' N' _ hR
    exact done m' news' h' tk hR F' N'
end
/-- entering a def that has cells -/
theorem call_fnC {w : World} {mg mb : Str → Option Value} {A : Around} {s : Shared} {i : Nat} {a : Addr} {n : Str} {ps : Arguments} {b : List Stmt} {sc : Scope} {args : List Value} {binds : List (Str × Value)} {R : Result → Shared → Prop} (k : Nat)
    (hd : dAt? i = some (n, ps, b, sc)) (hf : FnAt w.params i a n) (B : Base w mg mb s.heap) (hr : Lv k A)
    (hbind : ∀ pm cd, bindArgs (docDef n ps b sc pm cd .none) ⟨args, []⟩ = pure binds)
    (hkind : ∀ x ∈ binds, sc.names.lookup x.1 = some .local ∨ (sc.names.lookup x.1 = some .cell ∧ ((cellsFrom (s.heap.objs.size + 1) sc.names []).lookup x.1).isSome = true))
    (hnd : ((cellsFrom 0 sc.names []).map (·.1)).Nodup)
    (h : ∀ cd h₁ tk cells (Q : Flow → Shared → Prop), (∀ v s', R (.ok (.ret v)) s' → Q (.ret v) s') → Fr s.heap s.heap.objs.size h₁ (bindL (envOfC n sc s.heap.objs.size a cd).kindOf binds fun _ => none) → News s.heap s.heap.objs.size h₁ cells →
      CellsAre (bindC (envOfC n sc s.heap.objs.size a cd).kindOf binds fun _ => none) (cellsFrom (s.heap.objs.size + 1) sc.names []) cells → (KK w.params).In s.heap → TopRead qq lz' mg mb s.heap →
      wpAny (model prog w) (AB k) (execs b (envOfC n sc s.heap.objs.size a cd)) Q (fun _ _ => False) { s with heap := h₁, toks := tk })
    (hco : sc.isCoroutine = false) (hgen : sc.isGenerator = false) (hk : sc.kind = .function) :
    codeAny (model prog w) A (.call (.ref a) ⟨args, []⟩) R s := by
  obtain ⟨o, pm, cd, h1, h2, h3⟩ := hf
  have e : fA i = ps ∧ fB i = b ∧ fS i = sc := by
    unfold dAt? at hd
    unfold fA fB fS
    split at hd
    · rename_i q
      simp only [Option.some.injEq, Prod.mk.injEq] at hd
      (try rw [q]); exact ⟨hd.2.1, hd.2.2.1, hd.2.2.2⟩
    · cases hd
  obtain ⟨rfl, rfl, rfl⟩ := e
  refine call_cellsN_ret (by have := hr.depth; show A.depth < 1000; omega) (B.X _ _ h1) h2 B.T.nolimit (codeRec_of B.X h3) (hbind pm cd) hkind hnd (fun h₁ tk cells F N Y => ?_) hco hgen hk
  exact wpAny_AB (k := k) hr.hd hr.depth hr.units (h cd h₁ tk cells _ (fun v s' hv => hv) F N Y B.X B.T)
end Mine
end
section
open PySem PySem.W PyProof.Rows PySem.Calls PyProof.V
set_option maxRecDepth 100000
set_option maxHeartbeats 4000000
namespace Mine
/-- a key function that hands its argument back -/
noncomputable def SelfEnd (h₀ : Heap) (L : Addr) (m : Str → Option Value) (need : List (Addr × Obj)) (v : Value) (s₁ : Shared) (r : Value) (s₂ : Shared) : Prop :=
  ∃ h' tk, s₂ = { s₁ with heap := h', toks := tk } ∧ r = v ∧ Fr h₀ L h' m ∧ News h₀ L h' need
section
variable {prog : Program} {w : World} {A : Around} {E : Value → Shared → Prop} {s : Shared} {h₀ : Heap} {L : Addr} {m : Str → Option Value} {news : List (Addr × Obj)} {a kS : Addr} {vs : List Value} {ss : List Str} {e e1 : Nat} {P : PySem.Fin → Shared → Prop}
noncomputable def OutS (ss : List Str) (out : Array Value) : Prop := ∃ ss', StrsAre out.toList ss' ∧ ss'.Perm ss ∧ sortedS ss' = true
theorem upd_at {h : Heap} {a : Addr} {n : Nat} {f : Array Value → Array Value} {xs ys : Array Value} (ho : h.get? a = some (seqObj "list" xs n)) (e : f xs = ys) : ∃ c, (h.update a (Obj.mapSeq f)).get? a = some (seqObj "list" ys c) := by
  subst e; exact ⟨_, get?_update_seq ho f⟩
theorem ss_tail {st : SortSt} (F : Fr h₀ L s.heap m) (N : News h₀ L s.heap (news ++ [(kS, seqObj "list" vs.toArray e), (a, seqObj "list" #[] e1)])) (hka : kS ≠ a) (hnk : ∀ p ∈ news, p.1 ≠ kS) (hna : ∀ p ∈ news, p.1 ≠ a)
    (hS : StrsAre vs ss) (h64 : vs.length < 64) (hp : (arrOf st).Perm (pairsOf vs)) (hs : SortedToK strKind (arrOf st) (pairsOf vs).size) (hfl : failedOf st = none)
    (h : ∀ h' tk out c, Fr h₀ L h' m → News h₀ L h' ((a, seqObj "list" out c) :: news) → OutS ss out → P (.done (.ret .none)) { s with heap := h', toks := tk }) :
    wpAny (model prog w) A (ksk_tail a false e1 (.ref kS) st) P E s := by
  have hpz : (pairsOf vs).size = vs.length := by
    have := congrArg List.length (pairsOf_toList (vs := vs))
    simpa using this
  have hout : ((arrOf st).map (·.2)).size = vs.length := by rw [Array.size_map, hp.size_eq, hpz]
  have nk := N (kS, seqObj "list" vs.toArray e) (List.mem_append_right _ (.head _))
  have na := N (a, seqObj "list" #[] e1) (List.mem_append_right _ (.tail _ (.head _)))
  have Nn : News h₀ L s.heap news := fun p hp => N p (List.mem_append_left _ hp)
  have s1 := Heap.SameBut.update s.heap kS (Obj.mapSeq fun _ => (#[] : Array Value))
  have na1 : (s.heap.update kS (Obj.mapSeq fun _ => (#[] : Array Value))).get? a = some (seqObj "list" #[] e1) := (s1.2 a hka.symm).trans na.1
  have s2 := Heap.SameBut.update (s.heap.update kS (Obj.mapSeq fun _ => (#[] : Array Value))) a (Obj.mapSeq fun _ => (arrOf st).map (·.2))
  obtain ⟨c2, hc2⟩ : ∃ c2, ((s.heap.update kS (Obj.mapSeq fun _ => (#[] : Array Value))).update a (Obj.mapSeq fun _ => (arrOf st).map (·.2))).get? a = some (seqObj "list" ((arrOf st).map (·.2)) c2) :=
    upd_at na1 rfl
  have N2 := ksk_news (ksk_news Nn s1 hnk) s2 hna
  unfold ksk_tail
  try dsimp only
  refine wpAny_bind (listUpdate_at nk.1 rfl ?_ (by rw [List.size_toArray, sizeLine_eq]; omega) (Nat.zero_le _))
  refine wpAny_bind (wpAny_letGo ?_)
  refine wpAny_bind (seqEpoch_at na1 rfl ?_)
  refine wpAny_bind (listUpdate_at na1 rfl ?_ (Nat.zero_le _) (Nat.le_trans (Nat.le_of_eq hout) (by rw [sizeLine_eq]; omega)))
  rw [hfl]
  simp only [bne_self_eq_false, Bool.false_eq_true, if_false]
  refine wpAny_pure (h _ _ _ c2 (ksk_fr (ksk_fr F s1 nk.2.1 nk.2.2) s2 na.2.1 na.2.2) (fun p hp => ?_) (sorted_out_str hS hp hs))
  rcases List.mem_cons.mp hp with rfl | hp
  · exact ⟨hc2, na.2⟩
  · exact N2 p hp
theorem ss_end (F : Fr h₀ L s.heap m) (N : News h₀ L s.heap (news ++ [(kS, seqObj "list" vs.toArray e), (a, seqObj "list" #[] e1)])) (hka : kS ≠ a) (hnk : ∀ p ∈ news, p.1 ≠ kS) (hna : ∀ p ∈ news, p.1 ≠ a)
    (hS : StrsAre vs ss) (h64 : vs.length < 64)
    (h : ∀ h' tk out c, Fr h₀ L h' m → News h₀ L h' ((a, seqObj "list" out c) :: news) → OutS ss out → P (.done (.ret .none)) { s with heap := h', toks := tk }) :
    wpAny (model prog w) A (ksk_end a false vs.toArray e1 (.ref kS) vs.toArray) P E s := by
  have hpz : (pairsOf vs).size = vs.length := by
    have := congrArg List.length (pairsOf_toList (vs := vs))
    simpa using this
  have ez : vs.toArray.zip vs.toArray = pairsOf vs := by
    apply Array.toList_inj.mp
    rw [pairsOf_toList]
    simp
  unfold ksk_end
  simp only [Bool.false_eq_true, if_false]
  rw [ez]
  by_cases h2 : vs.toArray.size < 2
  · rw [if_pos h2, if_pos h2]
    refine wpAny_bind (wpAny_pure ?_)
    rw [StateT.run_pure]
    refine wpAny_bind (wpAny_pure ?_)
    try dsimp only
    refine ss_tail (st := SortSt.mk' general' (pairsOf vs) #[] 7 none) F N hka hnk hna hS h64 (Array.Perm.refl _) ?_ rfl h
    intro i j hij hj
    rw [List.size_toArray] at h2
    have : i = j := by omega
    subst this
    exact strKind.irrefl _
  · rw [if_neg h2, if_neg h2]
    rw [List.size_toArray] at h2
    have hkk : keyKind' vs.toArray = pure oneType' := by
      match vs, hS, h2 with
      | v₁ :: v₂ :: r, hS, _ => exact keyKind_strs hS
      | [], _, h2 => exact absurd (by simp) h2
      | [_], _, h2 => exact absurd (by simp) h2
    rw [hkk]
    refine wpAny_bind (wpAny_pure ?_)
    refine wpAny_bind (wpAny_mono (wpS_sortRunsK (κ := strKind) (a₀ := pairsOf vs) (st := SortSt.mk' oneType' (pairsOf vs) #[] 7 none)
      (Q := fun _ st' => (arrOf st').Perm (pairsOf vs) ∧ failedOf st' = none ∧ SortedToK strKind (arrOf st') (pairsOf vs).size)
      strKind_oneLt hS.keysOf ⟨Array.Perm.refl _, rfl, rfl, rfl⟩ (by rw [hpz]; omega) (by rw [hpz]; exact h64) fun st' a1 a2 a3 => ⟨a1, a2, a3⟩) ?_ fun _ _ e => e)
    rintro ⟨⟨⟩, st'⟩ s' ⟨rfl, hp, hf, hs⟩
    try dsimp only
    exact ss_tail F N hka hnk hna hS h64 hp hs hf h
theorem ss_rest {f : Value} (F : Fr h₀ L s.heap m) (N : News h₀ L s.heap (news ++ [(kS, seqObj "list" #[] 0), (a, seqObj "list" #[] e1)])) (hka : kS ≠ a) (hnk : ∀ p ∈ news, p.1 ≠ kS) (hna : ∀ p ∈ news, p.1 ≠ a)
    (hS : StrsAre vs ss) (h64 : vs.length < 64)
    (turn : ∀ v ∈ vs, ∀ (h : Heap) (tk : Nat) (own : List (Addr × Obj)), Fr h₀ L h m → News h₀ L h (news ++ own) →
      wpAny (model prog w) A (PySem.call f [v]) (SelfEnd h₀ L m (news ++ own) v { s with heap := h, toks := tk }) (fun _ _ => False) { s with heap := h, toks := tk })
    (h : ∀ h' tk out c, Fr h₀ L h' m → News h₀ L h' ((a, seqObj "list" out c) :: news) → OutS ss out → P (.done (.ret .none)) { s with heap := h', toks := tk }) :
    wpAny (model prog w) A (ksk_rest a f false vs.toArray e1 (.ref kS)) P E s := by
  unfold ksk_rest
  refine wpAny_bind (wpAny_rule ?_)
  first
    | rw [List.forIn_toArray]
    | (rw [← Array.forIn_toList]; simp only [List.toList_toArray])
  refine wpAny_bind (ksk_fold (fun i s' => ∃ h' tk e, s' = { s with heap := h', toks := tk } ∧ Fr h₀ L h' m ∧ News h₀ L h' (news ++ [(kS, seqObj "list" (vs.take i).toArray e), (a, seqObj "list" #[] e1)])) vs 0 s
    ⟨s.heap, s.toks, 0, rfl, F, N⟩ ?step ?done)
  case step =>
    rintro j x s' hx ⟨h', tk, e, rfl, F', N'⟩
    simp only [Nat.zero_add] at N' ⊢
    have hj : j < vs.length := (List.getElem?_eq_some_iff.mp hx).1
    refine wpAny_bind (wpAny_attempt (wpAny_mono (turn x (List.mem_of_getElem? hx) h' tk _ F' N') (fun v s'' he => ?_) fun _ _ hF => hF.elim))
    rcases he with ⟨g, tk2, rfl, rfl, F2, N2⟩
    try dsimp only
    have nk := N2 (kS, seqObj "list" (vs.take j).toArray e) (List.mem_append_right _ (.head _))
    have na := N2 (a, seqObj "list" #[] e1) (List.mem_append_right _ (.tail _ (.head _)))
    have s1 := Heap.SameBut.update g kS (Obj.mapSeq (·.push v))
    have ea : (vs.take j).toArray.push v = (vs.take (j + 1)).toArray := by
      rw [List.take_add_one, hx]; simp
    obtain ⟨c2, hc2⟩ : ∃ c2, (g.update kS (Obj.mapSeq (·.push v))).get? kS = some (seqObj "list" (vs.take (j + 1)).toArray c2) := by
      exact upd_at nk.1 ea
    have hsz : (vs.take j).toArray.size ≤ vs.length := by simp only [List.size_toArray, List.length_take]; omega
    refine wpAny_bind (listUpdate_at nk.1 rfl ?_ (by rw [sizeLine_eq]; omega) (Nat.le_trans (Nat.le_of_eq (Array.size_push ..)) (by rw [sizeLine_eq]; omega)))
    refine wpAny_pure ⟨rfl, _, _, c2, rfl, ksk_fr F2 s1 nk.2.1 nk.2.2, fun p hp => ?_⟩
    rcases List.mem_append.mp hp with hp | hp
    · exact ksk_news (fun q hq => N2 q (List.mem_append_left _ hq)) s1 hnk p hp
    · rcases List.mem_cons.mp hp with rfl | hp
      · exact ⟨hc2, nk.2⟩
      · rw [List.mem_singleton.mp hp]
        exact ⟨(s1.2 a hka.symm).trans na.1, na.2⟩
  case done =>
    rintro s' ⟨h', tk, e, rfl, F', N'⟩
    rw [Nat.zero_add, List.take_length] at N'
    have nk := N' (kS, seqObj "list" vs.toArray e) (List.mem_append_right _ (.head _))
    try dsimp only
    refine wpAny_bind (listItems_at nk.1 rfl ?_)
    exact ss_end F' N' hka hnk hna hS h64 fun h3 tk3 out c F3 N3 k3 => h h3 tk3 out c F3 N3 k3
theorem ss_sort {f : Value} {n : Nat} (F : Fr h₀ L s.heap m) (N : News h₀ L s.heap news) (ho : s.heap.get? a = some (seqObj "list" vs.toArray n)) (haL : a ≠ L) (ha0 : h₀.get? a = none) (hna : ∀ p ∈ news, p.1 ≠ a)
    (hS : StrsAre vs ss) (h64 : vs.length < 64)
    (turn : ∀ v ∈ vs, ∀ (h : Heap) (tk : Nat) (own : List (Addr × Obj)), Fr h₀ L h m → News h₀ L h (news ++ own) →
      wpAny (model prog w) A (PySem.call f [v]) (SelfEnd h₀ L m (news ++ own) v { s with heap := h, toks := tk }) (fun _ _ => False) { s with heap := h, toks := tk })
    (h : ∀ h' tk out c, Fr h₀ L h' m → News h₀ L h' ((a, seqObj "list" out c) :: news) → OutS ss out → P (.done (.ret .none)) { s with heap := h', toks := tk }) :
    wpAny (model prog w) A (ksk_tree a f false) P E s := by
  have ha : a < s.heap.objs.size := Heap.lt_size ho
  have s1 := Heap.SameBut.update s.heap a (Obj.mapSeq fun _ => (#[] : Array Value))
  obtain ⟨e1, ho1⟩ : ∃ e1, (s.heap.update a (Obj.mapSeq fun _ => (#[] : Array Value))).get? a = some (seqObj "list" #[] e1) := upd_at ho rfl
  have F1 := ksk_fr F s1 haL ha0
  have N1 := ksk_news N s1 hna
  have hkS : ((s.heap.update a (Obj.mapSeq fun _ => (#[] : Array Value))).push (seqObj "tuple" vs.toArray 0)).objs.size = s.heap.objs.size + 1 := by rw [size_push', Heap.size_update]
  have hLk : L < ((s.heap.update a (Obj.mapSeq fun _ => (#[] : Array Value))).push (seqObj "tuple" vs.toArray 0)).objs.size := (F1.push _).ns.lt
  unfold ksk_tree
  refine wpAny_bind (listItems_at ho rfl ?_)
  refine wpAny_bind (listUpdate_at ho rfl ?_ (by rw [List.size_toArray, sizeLine_eq]; omega) (Nat.zero_le _))
  refine wpAny_bind (seqEpoch_at ho1 rfl ?_)
  refine wpAny_bind (wpAny_newTuple ?_ (by show vs.length ≤ _; rw [sizeLine_eq]; omega))
  refine wpAny_bind (wpAny_newList ?_ (Nat.zero_le _))
  refine wpAny_holding ?_
  refine ss_rest (s := { s with heap := ((s.heap.update a (Obj.mapSeq fun _ => (#[] : Array Value))).push (seqObj "tuple" vs.toArray 0)).push (seqObj "list" #[] 0) }) (kS := ((s.heap.update a (Obj.mapSeq fun _ => (#[] : Array Value))).push (seqObj "tuple" vs.toArray 0)).objs.size)
    ((F1.push _).push _) (fun p hp => ?_) (by rw [hkS]; exact Nat.ne_of_gt (Nat.lt_succ_of_lt ha)) (fun p hp => by rw [hkS]; exact Nat.ne_of_lt (Nat.lt_succ_of_lt (Heap.lt_size (N p hp).1))) hna hS h64 turn h
  rcases List.mem_append.mp hp with hp | hp
  · exact ⟨Heap.get?_push_of_some _ (Heap.get?_push_of_some _ (N1 p hp).1), (N1 p hp).2⟩
  · rcases List.mem_cons.mp hp with rfl | hp
    · exact ⟨Heap.get?_push_size _ rfl, Nat.ne_of_gt hLk, Heap.get?_none_of_le (Nat.le_trans F.above (Nat.le_of_lt hLk))⟩
    · rw [List.mem_singleton.mp hp]
      exact ⟨Heap.get?_push_of_some _ (Heap.get?_push_of_some _ ho1), haL, ha0⟩
end
section
variable {prog : Program} {w : World} {A : Around} {E : Value → Shared → Prop} {s : Shared} {h₀ : Heap} {L l : Addr} {m : Str → Option Value} {news : List (Addr × Obj)} {vs : List Value} {ss : List Str} {Q : Value → Shared → Prop}
theorem ss_sorted {f : Value} {kw : List (Str × Value)} (F : Fr h₀ L s.heap m) (N : News h₀ L s.heap news) (hl : s.heap.IsList l vs.toArray) (hS : StrsAre vs ss) (h64 : ss.length < 64)
    (ha1 : argsOk "sorted" ⟨[.ref l], kw⟩) (ha2 : ∀ x, argsOk "list.sort" ⟨[.ref x], kw⟩) (ht : ∀ x, Builtin.«list.sort» ⟨[.ref x], kw⟩ = ksk_tree x f false)
    (turn : ∀ v ∈ vs, ∀ (h : Heap) (tk : Nat) (own : List (Addr × Obj)), Fr h₀ L h m → News h₀ L h (news ++ own) →
      wpAny (model prog w) A.in1.in1 (PySem.call f [v]) (SelfEnd h₀ L m (news ++ own) v { s with heap := h, toks := tk }) (fun _ _ => False) { s with heap := h, toks := tk })
    (h : ∀ D h' tk vs' ss' c, Fr h₀ L h' m → News h₀ L h' ((D, W.listOf (List.toArray vs') c) :: news) → (∀ q ∈ news, q.1 < D) → StrsAre vs' ss' → ss'.Perm ss → sortedS ss' = true → Q (.ref D) { s with heap := h', toks := tk }) :
    wpAny (model prog w) A (PySem.call (.builtin "sorted") [.ref l] kw) Q E s := by
  have hlen : vs.length = ss.length := hS.length
  refine call_function_entry_kw kind_sorted plain_sorted entry_sorted ha1 ?_
  unfold Builtin.«sorted»
  refine wpAny_bind (m := checkCount "sorted" 1 1 _) (wpAny_pure ?_)
  refine wpAny_bind (collect_list hl ?_ (by rw [sizeLine_eq]; omega))
  refine wpAny_bind (wpAny_newList ?_ (by rw [sizeLine_eq]; omega))
  have hsz : ((s.heap.push (seqObj "list" #[] 0)).update s.heap.objs.size (Obj.mapSeq (· ++ vs.toArray))).objs.size = s.heap.objs.size + 1 := by
    rw [Heap.size_update, size_push']
  have hoL : (((s.heap.push (seqObj "list" #[] 0)).update s.heap.objs.size (Obj.mapSeq (· ++ vs.toArray))).push (seqObj "list" vs.toArray 0)).get? (s.heap.objs.size + 1) = some (seqObj "list" vs.toArray 0) := by
    rw [← hsz]; exact Heap.get?_push_size _ rfl
  have keep : ∀ b o, s.heap.get? b = some o → (((s.heap.push (seqObj "list" #[] 0)).update s.heap.objs.size (Obj.mapSeq (· ++ vs.toArray))).push (seqObj "list" vs.toArray 0)).get? b = some o := fun b o q => by
    have hlt : b < s.heap.objs.size := Heap.lt_size q
    rw [Heap.get?_push_ne _ _ _ (by rw [hsz]; exact Nat.ne_of_lt (Nat.lt_succ_of_lt hlt)), Heap.get?_update_ne _ _ _ _ (Nat.ne_of_lt hlt), Heap.get?_push_ne _ _ _ (Nat.ne_of_lt hlt)]
    exact q
  have hL : L < s.heap.objs.size := F.ns.lt
  show wpAny _ _ _ _ _ { s with heap := ((s.heap.push (seqObj "list" #[] 0)).update s.heap.objs.size (Obj.mapSeq (· ++ vs.toArray))).push (seqObj "list" vs.toArray 0) }
  rw [hsz]
  refine wpAny_bind (wpAny_holding (wpAny_call_entry_kw slot_list_sort ⟨_, hoL, rfl⟩ entry_list_sort ?body (ha2 _)))
  case body =>
    have ht' := ht (s.heap.objs.size + 1)
    show wpAny (model prog w) A.in1.in1 (Builtin.«list.sort» ⟨[.ref (s.heap.objs.size + 1)], kw⟩) _ _ _
    rw [ht']
    refine ss_sort (s := { s with heap := ((s.heap.push (seqObj "list" #[] 0)).update s.heap.objs.size (Obj.mapSeq (· ++ vs.toArray))).push (seqObj "list" vs.toArray 0) })
      (F.kept keep) (N.grown keep) hoL (Nat.ne_of_gt (Nat.lt_succ_of_lt hL)) (Heap.get?_none_of_le (Nat.le_trans F.above (Nat.le_succ_of_le (Nat.le_of_lt hL))))
      (fun p hp => Nat.ne_of_lt (Nat.lt_succ_of_lt (Heap.lt_size (N p hp).1))) hS (by omega) turn fun h' tk out c F' N' k' => ⟨_, rfl, ?_⟩
    rcases k' with ⟨ss', k1, k2, k3⟩
    refine wpAny_pure ⟨_, rfl, h _ h' tk out.toList ss' c F' ?_ (fun q hq => Nat.lt_succ_of_lt (Heap.lt_size (N q hq).1)) k1 k2 k3⟩
    rw [Array.toArray_toList]; exact N'
end
end Mine
end
section
open PySem PySem.W PyProof.Rows PySem.Calls PyProof.V
set_option maxRecDepth 100000
set_option maxHeartbeats 2000000
namespace Mine
/-- what a comprehension goes through: a list of strs, or a str -/
noncomputable def SrcS (h : Heap) (xv : Value) (as : List Str) : Prop := (∃ ax vs, xv = .ref ax ∧ h.IsList ax (List.toArray vs) ∧ StrsAre vs as) ∨ ∃ x t, xv = .str x t ∧ as = signs x
noncomputable def ElemS (v : Value) (as : List Str) : Prop := ∃ a u, v = .str a u ∧ a ∈ as
noncomputable def strTest (pz : Str → Bool) (v : Value) : Bool := match v with | .str a _ => pz a | _ => false
theorem paired_strs {pz : Str → Bool} {f : Str → Str} : ∀ {vs ys : List Value} {as : List Str}, StrsAre vs as → Paired (fun v y => ∃ a u t, v = .str a u ∧ y = .str (f a) t) (vs.filter (strTest pz)) ys → StrsAre ys ((as.filter pz).map f) := by
  intro vs ys as hS hP
  induction hS generalizing ys with
  | nil => cases hP; exact .nil
  | cons a u hS ih =>
    rename_i vs' as'
    cases hp : pz a with
    | false =>
      have e1 : (Value.str a u :: vs').filter (strTest pz) = vs'.filter (strTest pz) := by simp [strTest, hp]
      rw [e1] at hP
      simp only [List.filter_cons, hp]
      exact ih hP
    | true =>
      have e1 : (Value.str a u :: vs').filter (strTest pz) = .str a u :: vs'.filter (strTest pz) := by simp [strTest, hp]
      rw [e1] at hP
      simp only [List.filter_cons, hp, if_true, List.map_cons]
      cases hP with
      | cons hh ht =>
        obtain ⟨a', u', t, e, rfl⟩ := hh
        cases e
        exact .cons _ _ (ih ht)
section
variable {prog : Program} {w : World} {A : Around} {E : Value → Shared → Prop} {s : Shared} {env : Env} {h₀ : Heap} {L : Addr} {m : Str → Option Value} {news : List (Addr × Obj)}
noncomputable def QuietS (prog : Program) (w : World) (A : Around) (env : Env) (scope : Scope) (cl : List (Str × Addr)) (x : Str) (ifs : List Expr) (elt : Expr) (pz : Str → Bool) (f : Str → Str) (as : List Str) (s₁ : Shared) : Prop :=
  (∀ C a u s₂ m₂ E', a ∈ as → s₂.heap.Ns (compEnvC scope cl C env).locals m₂ → m₂ x = some (.str a u) → (∀ b o, s₁.heap.get? b = some o → s₂.heap.get? b = some o) →
    wpAny (model prog w) A (forIn ifs true fun c r => if r = true then do let ok ← isTrue c (compEnvC scope cl C env) (eval c (compEnvC scope cl C env)); pure (ForInStep.yield ok) else pure (ForInStep.yield r))
      (fun ok s₃ => ok = pz a ∧ Keeps s₂ s₃) E' s₂) ∧
  (∀ C a u s₂ m₂ E', a ∈ as → pz a = true → s₂.heap.Ns (compEnvC scope cl C env).locals m₂ → m₂ x = some (.str a u) → (∀ b o, s₁.heap.get? b = some o → s₂.heap.get? b = some o) →
    wpAny (model prog w) A (eval elt (compEnvC scope cl C env)) (fun y s₃ => (∃ t, y = .str (f a) t) ∧ Keeps s₂ s₃) E' s₂)
theorem comp_gen {elt iter : Expr} {x : Str} {px : Pos} {ifs : List Expr} {scope : Scope} {cl : List (Str × Addr)} {pos : Pos} {Q : Value → Shared → Prop} (pz : Str → Bool) (f : Str → Str)
    (hh : A.handled = none) (hclos : closureFor scope env = pure cl) (hcell : ∀ y ∈ scope.names, y.2 ≠ .cell) (hkind : scope.kind = .function)
    (hnames : ∀ y ∈ scope.names, y.2 = .local → scope.names.lookup y.1 = some .local) (hx : scope.names.lookup x = some .local)
    (h : wpAny (model prog w) A (eval iter env) (fun xv s₁ => ∃ as, SrcS s₁.heap xv as ∧ as.length ≤ 1000 ∧ Fr h₀ L s₁.heap m ∧ News h₀ L s₁.heap news ∧ QuietS prog w A env scope cl x ifs elt pz f as s₁ ∧
      (∀ D (ys : List Value) n h' tk, Fr h₀ L h' m → News h₀ L h' ((D, W.listOf (List.toArray ys) n) :: news) → (∀ p ∈ news, p.1 ≠ D) → StrsAre ys ((as.filter pz).map f) → Q (.ref D) { s₁ with heap := h', toks := tk })) E s)
    (hs : ∀ x, foldedSetIterable iter env x = pure x) :
    wpAny (model prog w) A (eval (.ListComp elt [⟨.Name x px, iter, ifs, 0⟩] scope pos) env) Q E s := by
  refine wpAny_ListComp_free (strTest pz) (fun v y => ∃ a u t, v = .str a u ∧ y = .str (f a) t) hclos hcell hkind hnames hx (wpAny_mono h (fun xv s₁ h₁ => ?_) fun _ _ e => e) hs
  obtain ⟨as, src, hsz, F, N, ⟨htests, helt⟩, hQ⟩ := h₁
  have fin : ∀ (o : Obj) {D : Addr} {h' : Heap} {tk : Nat} {ys : Array Value} {vs : List Value}, StrsAre vs as → (s₁.heap.push o).get? D = none → h'.PlainList D ys → Paired (fun v y => ∃ a u t, v = .str a u ∧ y = .str (f a) t) (vs.filter (strTest pz)) ys.toList →
      (∀ b o', b ∉ [s₁.heap.objs.size] → (s₁.heap.push o).get? b = some o' → h'.get? b = some o') → Q (.ref D) { s₁ with heap := h', toks := tk } := by
    intro o D h' tk ys vs hS hnew hpl hP hk
    have keep : ∀ b o, s₁.heap.get? b = some o → h'.get? b = some o := fun b o' e => hk b o' (fun hm => by rw [List.mem_singleton.mp hm] at e; exact Nat.lt_irrefl _ (Heap.lt_size e)) (Heap.get?_push_of_some _ e)
    obtain ⟨n, hD⟩ := hpl
    have hne : ∀ p ∈ news, p.1 ≠ D := fun p hp e => by rw [← e, Heap.get?_push_of_some _ (N p hp).1] at hnew; cases hnew
    have hDL : D ≠ L := by
      rintro rfl
      obtain ⟨ob, _, _, e, _⟩ := F.ns
      rw [Heap.get?_push_of_some _ e] at hnew; cases hnew
    have hD0 : h₀.get? D = none := by
      cases e : h₀.get? D with
      | none => rfl
      | some o' => rw [Heap.get?_push_of_some _ (F.keep _ _ e)] at hnew; cases hnew
    refine hQ D ys.toList n h' tk (F.keeps keep) (fun p hp => ?_) hne (paired_strs hS hP)
    rcases List.mem_cons.mp hp with rfl | hp
    · exact ⟨by rw [Array.toArray_toList]; exact hD, hDL, hD0⟩
    · exact ⟨keep _ _ (N p hp).1, (N p hp).2⟩
  rcases src with ⟨ax, vs, rfl, hl, hS⟩ | ⟨xs, t, rfl, rfl⟩
  · have hlt : ax < s₁.heap.objs.size := by obtain ⟨_, e, _⟩ := hl; exact Heap.lt_size e
    have up : ∀ (s₃ : Shared), (∀ b o, b ∉ [s₁.heap.objs.size] → (s₁.heap.push { cls := .type "list_iterator", data := .fields #[.ref ax, .int 0 0] }).get? b = some o → s₃.heap.get? b = some o) → ∀ b o, s₁.heap.get? b = some o → s₃.heap.get? b = some o :=
      fun s₃ hk b o e => hk b o (fun hm => by rcases List.mem_cons.mp hm with rfl | hm; exact Nat.lt_irrefl _ (Heap.lt_size e); cases hm) (Heap.get?_push_of_some _ e)
    have hel : ∀ {i : Nat} {v : Value}, vs.toArray[i]? = some v → ∃ a u, v = .str a u ∧ a ∈ as := fun {i v} hv => by
      obtain ⟨y, t, e, hy⟩ := hS.item i v (by simpa using hv)
      exact ⟨y, t, e, List.mem_of_getElem? hy⟩
    refine wpAny_pyIter_list hl ⟨s₁.heap.objs.size, [s₁.heap.objs.size, ax], [s₁.heap.objs.size], vs.toArray.size, _, _, rfl, Walks.list hh _ _ (Nat.ne_of_lt hlt) vs.toArray, (by rw [List.size_toArray, hS.length]; unfold sizeLine; omega), ⟨⟨_, Heap.get?_push_size _ rfl, rfl, rfl⟩, hl.push _⟩, ?_, ⟨?_, ?_⟩, ?_⟩
    · intro b hb
      show b < (s₁.heap.push _).objs.size
      rw [Heap.size_push]
      rcases List.mem_cons.mp hb with rfl | hb
      · exact Nat.lt_succ_self _
      · rw [List.mem_singleton.mp hb]; exact Nat.lt_succ_of_lt hlt
    · intro C i v s₃ m₃ E' hC hP hn hm hk _
      obtain ⟨a, u, rfl, ha⟩ := hel hP
      exact htests C a u s₃ m₃ E' ha hn hm (up s₃ hk)
    · intro C i v s₃ m₃ E' hC hP hp hn hm hk _
      obtain ⟨a, u, rfl, ha⟩ := hel hP
      exact wpAny_mono (helt C a u s₃ m₃ E' ha hp hn hm (up s₃ hk)) (fun y s₄ h₄ => ⟨let ⟨t, e⟩ := h₄.1; ⟨a, u, t, rfl, e⟩, h₄.2⟩) fun _ _ e => e
    · intro D h' tk ys vs' hnew hlD hplD hlen hP hF hk
      have e : vs' = vs := by simpa using list_of_places hlen hP
      subst e
      exact fin _ hS hnew hplD hF hk
  · refine wpAny_pyIter_str fun o St W hst => ?_
    have up : ∀ (s₃ : Shared), (∀ b o', b ∉ [s₁.heap.objs.size] → (s₁.heap.push o).get? b = some o' → s₃.heap.get? b = some o') → ∀ b o, s₁.heap.get? b = some o → s₃.heap.get? b = some o :=
      fun s₃ hk b o e => hk b o (fun hm => by rw [List.mem_singleton.mp hm] at e; exact Nat.lt_irrefl _ (Heap.lt_size e)) (Heap.get?_push_of_some _ e)
    have hel : ∀ {i : Nat} {v : Value}, SignAt xs i v → ∃ a u, v = .str a u ∧ (signs xs)[i]? = some a := fun {i v} hv => by
      obtain ⟨c, u, hc, rfl⟩ := hv
      exact ⟨_, u, rfl, signs_get hc⟩
    have hlen0 : xs.cps.size = (signs xs).length := (signs_length xs).symm
    refine ⟨s₁.heap.objs.size, [s₁.heap.objs.size], [s₁.heap.objs.size], xs.cps.size, _, _, rfl, W A hh, (by rw [hlen0]; unfold sizeLine; omega), hst, ?_, ⟨?_, ?_⟩, ?_⟩
    · intro b hb
      rw [List.mem_singleton.mp hb]
      show s₁.heap.objs.size < (s₁.heap.push _).objs.size
      rw [Heap.size_push]; exact Nat.lt_succ_self _
    · intro C i v s₃ m₃ E' hC hP hn hm hk _
      obtain ⟨a, u, rfl, ha⟩ := hel hP
      exact htests C a u s₃ m₃ E' (List.mem_of_getElem? ha) hn hm (up s₃ hk)
    · intro C i v s₃ m₃ E' hC hP hp hn hm hk _
      obtain ⟨a, u, rfl, ha⟩ := hel hP
      exact wpAny_mono (helt C a u s₃ m₃ E' (List.mem_of_getElem? ha) hp hn hm (up s₃ hk)) (fun y s₄ h₄ => ⟨let ⟨t, e⟩ := h₄.1; ⟨a, u, t, rfl, e⟩, h₄.2⟩) fun _ _ e => e
    · intro D h' tk ys vs' hnew hlD hplD hlen hP hF hk
      have hS : StrsAre vs' (signs xs) := by
        refine kdy_strs (by rw [hlen, hlen0]) fun j v hv => ?_
        obtain ⟨a, u, e, ha⟩ := hel (hP j v hv)
        exact ⟨a, ha, u, e⟩
      exact fin _ hS hnew hplD hF hk
end
end Mine
end
section
open PySem PySem.W PyProof.Rows PySem.Calls PyProof.V
set_option maxRecDepth 100000
set_option maxHeartbeats 2000000
namespace Mine
noncomputable def cpsOf (l : List Str) : List Nat := l.flatMap (·.cps.toList)
theorem glued_empty (ys : List Str) : Txt.join (Str.ofString "") ys = ⟨(cpsOf ys).toArray⟩ := by
  have e0 : (Str.ofString "").cps = #[] := rfl
  have key : ∀ (r : List Str) (a : Array Nat), r.foldl (fun acc p => acc ++ (Str.ofString "").cps ++ p.cps) a = a ++ (cpsOf r).toArray := by
    intro r
    induction r with
    | nil => intro a; simp [cpsOf]
    | cons y r ih =>
      intro a
      rw [List.foldl_cons, ih, e0]
      apply Array.toList_inj.mp
      simp [cpsOf]
  cases ys with
  | nil => rfl
  | cons y r =>
    show (⟨(r).foldl _ y.cps⟩ : Str) = _
    rw [key]
    congr 1
    apply Array.toList_inj.mp
    simp [cpsOf]
theorem cpsOf_length (ys : List Str) : (cpsOf ys).length = (ys.map (·.length)).sum := by
  unfold cpsOf
  rw [List.length_flatMap]
  rfl
section
variable {prog : Program} {w : World} {A : Around} {E : Value → Shared → Prop} {s : Shared}
theorem join_cps {D : Addr} {ys : List Value} {as : List Str} {t : Tok} {Q : Value → Shared → Prop} (hl : s.heap.IsList D (List.toArray ys)) (hi : StrsAre ys as) (hok : (cpsOf as).length ≤ 1000)
    (h : ∀ t' k, Q (.str ⟨(cpsOf as).toArray⟩ t') { s with toks := k }) : wpAny (model prog w) A (PySem.call (.builtin "str.join") [.str (Str.ofString "") t, .ref D]) Q E s := by
  refine join_list hl hi ?_ fun t' k => ?_
  · rw [← cpsOf_length]
    show (cpsOf as).length + as.length * 0 ≤ _
    omega
  · rw [glued_empty]; exact h t' k
theorem truthy_strs {D : Addr} {ys : List Value} {as : List Str} {Q : Bool → Shared → Prop} (hl : s.heap.IsList D (List.toArray ys)) (hi : StrsAre ys as) (hok : as.length ≤ 1000)
    (h : Q (decide (as ≠ [])) { s with toks := s.toks + 1 + 1 }) : wpAny (model prog w) A (truthy (.ref D)) Q E s := by
  have e := hi.length
  refine wpAny_truthy_list hl (by simp only [List.size_toArray]; rw [show ys.length = as.length from e]; omega) ?_
  have e2 : (!(List.toArray ys).isEmpty) = decide (as ≠ []) := by
    cases hi <;> simp
  rw [e2]; exact h
end
end Mine
end
section
open PySem PySem.W PyProof.Rows PySem.Calls PyProof.V
set_option maxRecDepth 100000
set_option maxHeartbeats 2000000
namespace Mine
/-- the table of a dict str -> str -/
noncomputable def foldD (c : List (Str × Str)) : List (PyData × PyData) := c.map fun p => (PyData.str p.1, PyData.str p.2)
noncomputable def foldF (fc : List (Str × Str)) (x : Str) : Str := ((fc.find? fun p => decide (p.1 = x)).map (·.2)).getD Str.empty
noncomputable def hasF (fc : List (Str × Str)) (x : Str) : Bool := fc.any fun p => decide (p.1 = x)
theorem foldD_lookup (x : Str) : ∀ fc : List (Str × Str), Spec.lookup (.str x) (foldD fc) = (fc.find? fun p => decide (p.1 = x)).map fun p => PyData.str p.2
  | [] => rfl
  | (i, v) :: c => by
    show (if PySem.Spec.same (PyData.str i) (PyData.str x) = true then some (PyData.str v) else PySem.Spec.lookup (PyData.str x) (foldD c)) = _
    rw [PyProof.V.same_str, foldD_lookup x c, List.find?_cons]
    by_cases h : i = x
    · simp [h]
    · simp [h]
theorem foldD_has {x : Str} {fc : List (Str × Str)} (h : hasF fc x = true) : Spec.lookup (.str x) (foldD fc) = some (.str (foldF fc x)) := by
  rw [foldD_lookup]
  unfold foldF
  unfold hasF at h
  rw [List.any_eq_true] at h
  obtain ⟨p, hp, hq⟩ := h
  cases e : fc.find? fun p => decide (p.1 = x) with
  | none => exact absurd hq (by simpa using List.find?_eq_none.mp e p hp)
  | some q => rfl
section
variable {prog : Program} {w : World} {A : Around} {E : Value → Shared → Prop} {s : Shared} {env : Env} {h₀ : Heap} {L : Addr} {m : Str → Option Value}
noncomputable def FoldSrc (h₀ : Heap) (L : Addr) (m : Str → Option Value) (news : List (Addr × Obj)) (fc : List (Str × Str)) (Q : Value → Shared → Prop) (xv : Value) (s₁ : Shared) : Prop :=
  ∃ as, SrcS s₁.heap xv as ∧ as.length ≤ 1000 ∧ (∀ a ∈ as, hasF fc a = true) ∧ Fr h₀ L s₁.heap m ∧ News h₀ L s₁.heap news ∧
    ∀ D (ys : List Value) n h' tk, Fr h₀ L h' m → News h₀ L h' ((D, PySem.W.listOf (List.toArray ys) n) :: news) → (∀ p ∈ news, p.1 ≠ D) → StrsAre ys (as.map (foldF fc)) → Q (.ref D) { s₁ with heap := h', toks := tk }
theorem FoldSrc.list {news : List (Addr × Obj)} {fc : List (Str × Str)} {Q : Value → Shared → Prop} {D : Addr} {vs : List Value} {as : List Str} {s₁ : Shared} (hl : s₁.heap.IsList D (List.toArray vs)) (hs : StrsAre vs as) (hz : as.length ≤ 1000) (hk : ∀ a ∈ as, hasF fc a = true)
    (F : Fr h₀ L s₁.heap m) (N : News h₀ L s₁.heap news) (h : ∀ D (ys : List Value) n h' tk, Fr h₀ L h' m → News h₀ L h' ((D, PySem.W.listOf (List.toArray ys) n) :: news) → (∀ p ∈ news, p.1 ≠ D) → StrsAre ys (as.map (foldF fc)) → Q (.ref D) { s₁ with heap := h', toks := tk }) :
    FoldSrc h₀ L m news fc Q (.ref D) s₁ := ⟨as, .inl ⟨D, vs, rfl, hl, hs⟩, hz, hk, F, N, h⟩
theorem FoldSrc.text {news : List (Addr × Obj)} {fc : List (Str × Str)} {Q : Value → Shared → Prop} {x : Str} {t : Tok} {s₁ : Shared} (hz : (signs x).length ≤ 1000) (hk : ∀ a ∈ signs x, hasF fc a = true)
    (F : Fr h₀ L s₁.heap m) (N : News h₀ L s₁.heap news) (h : ∀ D (ys : List Value) n h' tk, Fr h₀ L h' m → News h₀ L h' ((D, PySem.W.listOf (List.toArray ys) n) :: news) → (∀ p ∈ news, p.1 ≠ D) → StrsAre ys ((signs x).map (foldF fc)) → Q (.ref D) { s₁ with heap := h', toks := tk }) :
    FoldSrc h₀ L m news fc Q (.str x t) s₁ := ⟨signs x, .inr ⟨x, t, rfl, rfl⟩, hz, hk, F, N, h⟩
theorem comp_folds {iter : Expr} {px p1 p2 p3 : Pos} {scope : Scope} {cl : List (Str × Addr)} {pos : Pos} {Q : Value → Shared → Prop} {fd c : Addr} {oc : Obj} {fc : List (Str × Str)} {news : List (Addr × Obj)}
    (_F : Fr h₀ L s.heap m) (_N : News h₀ L s.heap news) (hf : StrTab prog w h₀ fd (foldD fc)) (hoc : oc.data = .cell (some (.ref fd))) (hin : (c, oc) ∈ news) (hh : A.handled = none) (hclos : closureFor scope env = pure cl) (hc : cl.lookup (Str.ofString "folds") = some c)
    (hcell : ∀ y ∈ scope.names, y.2 ≠ .cell) (hkind : scope.kind = .function)
    (hnames : ∀ y ∈ scope.names, y.2 = .local → scope.names.lookup y.1 = some .local) (hx : scope.names.lookup (Str.ofString "sign") = some NameKind.local) (hfr : scope.names.lookup (Str.ofString "folds") = some NameKind.free)
    (hk1 : ∀ C, (compEnvC scope cl C env).kindOf "folds" = some NameKind.cell) (hk2 : ∀ C, (compEnvC scope cl C env).kindOf "sign" = some .local) (hk3 : ∀ C, (compEnvC scope cl C env).scope.kind = .function)
    (h : wpAny (model prog w) A (eval iter env) (FoldSrc h₀ L m news fc Q) E s)
    (hs : ∀ x, foldedSetIterable iter env x = pure x) :
    wpAny (model prog w) A (eval (.ListComp (.Subscript (.Name "folds" p1) (.Name "sign" p2) p3) [⟨.Name "sign" px, iter, [], 0⟩] scope pos) env) Q E s := by

  refine comp_gen (h₀ := h₀) (L := L) (m := m) (news := news) (fun _ => true) (foldF fc) hh hclos hcell hkind hnames hx (wpAny_mono h (fun xv s₁ h₁ => ?_) fun _ _ e => e) hs
  obtain ⟨as, hsrc, hz, hkeys, F, N, hQ⟩ := h₁
  refine ⟨as, hsrc, hz, F, N, ⟨?_, ?_⟩, ?_⟩
  · intro C a u s₂ m₂ E' _ _ _ _
    exact wpAny_pure ⟨rfl, _, _, rfl, fun _ _ e => e⟩
  · intro C a u s₂ m₂ E' ha _ hn hm hk
    have hcl2 : s₂.heap.IsCell c (some (.ref fd)) := ⟨oc, hk _ _ (N _ hin).1, hoc⟩
    have T2 : StrTab prog w s₂.heap fd (foldD fc) := hf.keep fun b o e => hk b o (F.keep b o e)
    refine Subscript_ (ldCellK hc hcl2 (ldVarK hn hm ?_ (hk3 C) (hk2 C)) (hk3 C) (hk1 C))
    refine item_strTab T2 (foldD_has (hkeys a ha)) fun v hv => ?_
    obtain ⟨t, rfl⟩ := PyProof.V.Flat.str_inv hv
    exact ⟨⟨t, rfl⟩, _, _, rfl, fun _ _ e => e⟩
  · intro D ys n h' tk F' N' hne hS
    rw [List.filter_eq_self.mpr (fun _ _ => rfl)] at hS
    exact hQ D ys n h' tk F' N' hne hS
end
end Mine
end
section
open PySem PySem.W PyProof.Rows PySem.Calls PyProof.V
set_option maxRecDepth 100000
set_option maxHeartbeats 2000000
namespace Mine
theorem at_told (P : Params) : FnAt P 16 139 "_law_told" := ⟨o139_p16 P, .str "law_ti0029_01" 2244, .ref 138, by kernel_rfl, by kernel_rfl, by kernel_rfl⟩
noncomputable def bareS (l : List Str) : Str := ⟨(bareOf (cpsOf l)).toArray⟩
noncomputable def bump (c : List (Str × Int)) (k : Str) : List (Str × Int) := kdpPut c k (kdpLook c k 0 + 1)
structure TS where
  here : List Str
  last : List Str
  wr : List (Str × Int)
  br : List (Str × Int)
/-- one turn of the telling -/
noncomputable def stepT (f : Str → Str) (st : TS) : Option TS :=
  if st.here = [] then some st
  else if bareS ((signs (bareS st.here)).map f) = bareS (st.here.map f) then some ⟨nextS st.here, st.here, bump st.wr (bareS st.here), bump st.br (bareS (st.here.map f))⟩ else none
noncomputable def tell (f : Str → Str) (st : TS) : Nat → Option TS
  | 0 => some st
  | n + 1 => (tell f st n).bind (stepT f)
theorem map5 {m : Str → Option Value} {a b c d e : Value} (h1 : m (Str.ofString "here") = some a) (h2 : m (Str.ofString "last") = some b) (h3 : m (Str.ofString "written") = some c) (h4 : m (Str.ofString "bare") = some d) (h5 : m (Str.ofString "least") = some e) :
    ∀ z, m z = (fun z => if z = Str.ofString "here" then some a else if z = Str.ofString "last" then some b else if z = Str.ofString "written" then some c else if z = Str.ofString "bare" then some d else if z = Str.ofString "least" then some e else m z) z := by
  intro z
  show _ = (if z = Str.ofString "here" then some a else if z = Str.ofString "last" then some b else if z = Str.ofString "written" then some c else if z = Str.ofString "bare" then some d else if z = Str.ofString "least" then some e else m z)
  split
  · subst z; exact h1
  split
  · subst z; exact h2
  split
  · subst z; exact h3
  split
  · subst z; exact h4
  split
  · subst z; exact h5
  rfl
/-- what the telling needs to go well -/
noncomputable def Good (fc : List (Str × Str)) (least : List Str) (fin : TS) : Prop :=
  tell (foldF fc) ⟨least, [], [], []⟩ 31 = some fin ∧ fin.last = least.reverse ∧
  ∀ i st, i < 31 → tell (foldF fc) ⟨least, [], [], []⟩ i = some st → (∀ a ∈ st.here, hasF fc a = true) ∧ (∀ a ∈ signs (bareS st.here), hasF fc a = true) ∧ st.here.length ≤ 7 ∧ st.last.length ≤ 7 ∧ (cpsOf st.here).length ≤ 100 ∧ (cpsOf (st.here.map (foldF fc))).length ≤ 100 ∧ (cpsOf ((signs (bareS st.here)).map (foldF fc))).length ≤ 100 ∧ st.wr.length ≤ 31 ∧ st.br.length ≤ 31
theorem tell_some {f : Str → Str} {st0 fin : TS} : ∀ {n i : Nat}, tell f st0 n = some fin → i ≤ n → ∃ st, tell f st0 i = some st
  | 0, i, h, hi => ⟨fin, by rw [show i = 0 by omega]; exact h⟩
  | n + 1, i, h, hi => by
    by_cases e : i = n + 1
    · exact ⟨fin, by rw [e]; exact h⟩
    · have h' : (tell f st0 n).bind (stepT f) = some fin := h
      cases q : tell f st0 n with
      | none => rw [q] at h'; cases h'
      | some st => exact tell_some q (by omega)
theorem step_some {f : Str → Str} {st0 st fin : TS} {i n : Nat} (hi : i < n) (h : tell f st0 i = some st) (hn : tell f st0 n = some fin) : ∃ st', stepT f st = some st' := by
  obtain ⟨st', e⟩ := tell_some hn hi
  have e' : (tell f st0 i).bind (stepT f) = some st' := e
  rw [h] at e'
  exact ⟨st', e'⟩
theorem bareOf_length (l : List Nat) : (bareOf l).length ≤ l.length := by
  unfold bareOf behind upTo
  rw [List.length_reverse]
  refine Nat.le_trans (List.takeWhile_sublist _).length_le ?_
  rw [List.length_reverse]
  exact (List.takeWhile_sublist _).length_le
/-- a dict of counts -/
noncomputable def Cnt (prog : Program) (w : World) (o : Obj) (c : List (Str × Int)) : Prop := ∃ kvs, o.IsDictOf (PySem.strKind prog w) kvs ∧ FlatPairs PyData.str kvs (kdpD c)
section
variable {prog : Program} {w : World} {A : Around} {E : Value → Shared → Prop} {s : Shared} {h₀ : Heap} {L d : Addr} {m : Str → Option Value} {news : List (Addr × Obj)} {o : Obj} {c : List (Str × Int)} {k : Str} {e : Int} {tk te : Tok}
theorem cnt_meth {pl : Sem Bool} {Q : Value × List Value → Shared → Prop} (N : News h₀ L s.heap news) (hp : (d, o) ∈ news) (hc : Cnt prog w o c) (h : Q (.builtin "dict.get", [.ref d]) s) : wpAny (model prog w) A (getMethod (.ref d) "get" pl) Q E s := by
  obtain ⟨kvs, h1, h2⟩ := hc
  exact kdg_method N hp h1 h
theorem cnt_get {Q : Value → Shared → Prop} (N : News h₀ L s.heap news) (hp : (d, o) ∈ news) (lo : (d == sysModules) = false) (hc : Cnt prog w o c) (h : ∀ t, Q (.int (kdpLook c k e) t) { s with toks := s.toks + 1 }) : wpAny (model prog w) A (PySem.call (.builtin "dict.get") [.ref d, .str k tk, .int e te]) Q E s := by
  obtain ⟨kvs, h1, h2⟩ := hc
  exact kdp_get2 (TabAt.ofObj lo (N.get hp) h1 h2) h
theorem cnt_set {Q : Unit → Shared → Prop} (keep : List (Addr × Obj)) (F : Fr h₀ L s.heap m) (N : News h₀ L s.heap news) (hp : (d, o) ∈ news) (hk : ∀ p ∈ keep, p ∈ news) (hne : ∀ p ∈ keep, p.1 ≠ d) (hc : Cnt prog w o c) (hz : c.length ≤ 16777216)
    (h : ∀ h' o', Fr h₀ L h' m → News h₀ L h' ((d, o') :: keep) → Cnt prog w o' (kdpPut c k e) → Q () { s with heap := h', toks := s.toks + 1 }) :
    wpAny (model prog w) A (setItem (.ref d) (.str k tk) (.int e te)) Q E s := by
  obtain ⟨kvs, h1, h2⟩ := hc
  exact kdp_setItem F (N.perm (news' := (d, o) :: keep) fun p hp' => by rcases List.mem_cons.mp hp' with rfl | hp'; exact hp; exact hk p hp') (UpdF.head hne) h1 h2 hz fun h' o' kvs' F' N' a b => h h' o' F' N' ⟨kvs', a, b⟩
theorem carried_strs : ∀ {vs : List Value} {ns : List Str}, StrsAre vs ns → CarriedAll vs (ns.map PyData.str)
  | _, _, .nil => .nil
  | _, _, .cons _ t r => .cons (.str _ t) (carried_strs r)
theorem canLayAll_strs : ∀ ns : List Str, (∀ a ∈ ns, PyData.strOk a = true) → PyData.canLayAll0 (ns.map PyData.str) = true
  | [], _ => rfl
  | a :: r, h => by simp [PyData.canLayAll0, PyData.canLay0, canLayAll_strs r fun b hb => h b (List.mem_cons_of_mem _ hb), h a (List.mem_cons_self ..)]
theorem depthAll_strs : ∀ ns : List Str, PyData.depthAll (ns.map PyData.str) = 0
  | [] => rfl
  | _ :: r => by simp [PyData.depthAll, PyData.depth, depthAll_strs r]
theorem shaped_strsL (ns : List Str) (h : ∀ a ∈ ns, PyData.strOk a = true) : SeqAt.shaped (.list (ns.map PyData.str)) = true := by
  simp [SeqAt.shaped, PyData.canLay0, PyData.depth, canLayAll_strs ns h, depthAll_strs]
theorem sameAll_strs : ∀ ns ms : List Str, PySem.Spec.sameAll (ns.map PyData.str) (ms.map PyData.str) = decide (ns = ms)
  | [], [] => by simp [PySem.Spec.sameAll]
  | [], _ :: _ => by simp [PySem.Spec.sameAll]
  | _ :: _, [] => by simp [PySem.Spec.sameAll]
  | a :: r, b :: t => by
    simp only [List.map_cons, PySem.Spec.sameAll, PyProof.V.same_str, sameAll_strs r t]
    by_cases h : a = b <;> by_cases h' : r = t <;> simp [h, h']
theorem ne_strs {a b : Addr} {xs ys : List Value} {ns ms : List Str} {Q : Value → Shared → Prop} (ha : s.heap.IsList a xs.toArray) (hb : s.heap.IsList b ys.toArray) (hi : StrsAre xs ns) (hj : StrsAre ys ms) (ho : ∀ a ∈ ns, PyData.strOk a = true) (ho' : ∀ a ∈ ms, PyData.strOk a = true) (hu : A.units + 64 < cLine) (h : Q (.bool (!decide (ns = ms))) s) :
    wpAny (model prog w) A (compareOp .NotEq (.ref a) (.ref b)) Q E s :=
  ne_dataH_same (reads_newData ha (carried_strs hi)) (reads_newData hb (carried_strs hj)) (shaped_strsL _ ho) (shaped_strsL _ ho') hu (SeqAt.noMix_of_shape (.list .str) rfl _ _ (list_map_has fun _ => rfl) (list_map_has fun _ => rfl)) (by
    have e : PySem.Spec.same (.list (ns.map PyData.str)) (.list (ms.map PyData.str)) = decide (ns = ms) := by simp only [PySem.Spec.same]; exact sameAll_strs ns ms
    rw [e]; exact h)
end
theorem fr_new {h₀ h : Heap} {L D : Addr} {m : Str → Option Value} (F : Fr h₀ L h m) (hf : h.get? D = none) : D ≠ L ∧ h₀.get? D = none := by
  constructor
  · intro e
    obtain ⟨o, es, ep, ho, _⟩ := F.ns
    rw [e, ho] at hf
    cases hf
  · cases q : h₀.get? D with
    | none => rfl
    | some o => have := F.keep _ _ q; rw [hf] at this; cases this
theorem news_new {h₀ h : Heap} {L D : Addr} {news : List (Addr × Obj)} (N : News h₀ L h news) (hf : h.get? D = none) : ∀ q ∈ news, q.1 ≠ D := fun q hq e => by have := (N _ hq).1; rw [e, hf] at this; cases this
theorem call_next {w : World} {mg mb : Str → Option Value} {A : Around} {E : Value → Shared → Prop} {s : Shared} {h₀ : Heap} {L : Addr} {m : Str → Option Value} {news : List (Addr × Obj)} {Q : Value → Shared → Prop} {l : Addr} {vs : List Value} {as : List Str} (F : Fr h₀ L s.heap m) (N : News h₀ L s.heap news) (hl : s.heap.IsList l vs.toArray) (hs : StrsAre vs as) (hn : as.length ≤ 7) (hn1 : 1 ≤ as.length) (hrow : lawRow = lawRow) (KX : (KK w.params).In h₀) (TX : TopRead qq lz' mg mb h₀) (hr : Lv 1 A)
    (h : ∀ h' tk D ws n, Fr h₀ L h' m → News h₀ L h' ((D, W.listOf (List.toArray ws) n) :: news) → (∀ q ∈ news, q.1 ≠ D) → StrsAre ws (nextS as) → Q (.ref D) { s with heap := h', toks := tk }) :
    wpAny (model prog w) A (PySem.call (.ref 134) [.ref l]) Q E s := by
  refine wpAny_call (spec_next hl hs hn hn1 hrow (Base.keeps ⟨KX, TX⟩ F.keep) hr fun s' D ws n e ho hf hS => ?_)
  obtain ⟨h', tk, rfl, k⟩ := e
  refine h h' tk D ws n (F.keeps k) ?_ (news_new N hf) hS
  intro q hq'
  rcases List.mem_cons.mp hq' with rfl | hq'
  · exact ⟨ho, fr_new F hf⟩
  · exact N.grown k q hq'
theorem tell_succ {f : Str → Str} {st0 st st' : TS} {i : Nat} (h : tell f st0 i = some st) (h' : stepT f st = some st') : tell f st0 (i + 1) = some st' := by
  show (tell f st0 i).bind (stepT f) = _
  rw [h]; exact h'
theorem step_empty {f : Str → Str} {st : TS} (h : st.here = []) : stepT f st = some st := if_pos h
theorem step_full {f : Str → Str} {st : TS} (h1 : st.here ≠ []) (h2 : (bareS ((signs (bareS st.here)).map f) != bareS (st.here.map f)) = false) : stepT f st = some ⟨nextS st.here, st.here, bump st.wr (bareS st.here), bump st.br (bareS (st.here.map f))⟩ := by
  unfold stepT
  rw [if_neg h1, if_pos (by simpa using h2)]
theorem step_none {f : Str → Str} {st : TS} (h1 : st.here ≠ []) (h2 : (bareS ((signs (bareS st.here)).map f) != bareS (st.here.map f)) = true) : stepT f st = none := by
  unfold stepT
  rw [if_neg h1, if_neg (by simpa using h2)]
structure TR (prog : Program) (w : World) (f : Str → Str) (st0 : TS) (W Bd Lst c : Addr) (lo oc : Obj) (i : Nat) (m : Str → Option Value) (news : List (Addr × Obj)) (st : TS) (hA lA : Addr) (hv lv : List Value) (nh nl : Nat) (ow ob : Obj) : Prop where
  tl : tell f st0 i = some st
  m1 : m (Str.ofString "here") = some (.ref hA)
  m2 : m (Str.ofString "last") = some (.ref lA)
  m3 : m (Str.ofString "written") = some (.ref W)
  m4 : m (Str.ofString "bare") = some (.ref Bd)
  m5 : m (Str.ofString "least") = some (.ref Lst)
  nw : news = [(hA, PySem.W.listOf hv.toArray nh), (lA, PySem.W.listOf lv.toArray nl), (W, ow), (Bd, ob), (Lst, lo), (c, oc)]
  s1 : StrsAre hv st.here
  s2 : StrsAre lv st.last
  c1 : Cnt prog w ow st.wr
  c2 : Cnt prog w ob st.br
  a1 : hA ≠ W
  a2 : hA ≠ Bd
  a3 : lA ≠ W
  a4 : lA ≠ Bd
variable {w : World} {mg mb : Str → Option Value} {A : Around} {s : Shared} {R : Result → Shared → Prop}
local macro_rules | `(tactic| walk_at "pyIter ref") => `(tactic| refine stop_ ?_)
local macro_rules | `(tactic| walk_at "exec While") => `(tactic| refine stop_ ?_)
local macro_rules | `(tactic| walk_at "exec For Name Call cons nil") => `(tactic| refine stop_ ?_)
local macro_rules | `(tactic| walk_at "eval ListComp") => `(tactic| refine stop_ ?_)
theorem call_stripC {w : World} {mg mb : Str → Option Value} {A : Around} {E : Value → Shared → Prop} {s : Shared} {h₀ : Heap} {L : Addr} {m : Str → Option Value} {news : List (Addr × Obj)} {Q : Value → Shared → Prop} {l : List Nat} {u : Tok} (F : Fr h₀ L s.heap m) (N : News h₀ L s.heap news) (hx : l.length ≤ 1000) (hrow : lawRow = lawRow) (KX : (KK w.params).In h₀) (TX : TopRead qq lz' mg mb h₀) (hr : Lv 0 A)
    (h : ∀ h' tk t', Fr h₀ L h' m → News h₀ L h' news → Q (.str ⟨(bareOf l).toArray⟩ t') { s with heap := h', toks := tk }) :
    wpAny (model prog w) A (PySem.call (.ref 21) [.str ⟨l.toArray⟩ u]) Q E s := call_strip F N (by show l.toArray.size ≤ 1000; simpa using hx) hrow KX TX hr h
local macro_rules | `(tactic| walk_at "truthy ref") => `(tactic| (k_here; k_dflt (refine' truthy_strs ?l ?hs ?z ?_; (case l => kmk_list); (case hs => assumption); (case z => omega))))
local macro_rules | `(tactic| walk_at "call builtin:str.join") => `(tactic| (k_here; k_dflt (refine' join_cps ?l ?hs ?z ?_; (case l => kmk_list); (case hs => assumption); (case z => omega)); intro _ _))
local macro_rules | `(tactic| walk_at "call ref") => `(tactic| (k_here; k_dflt (first
  | (refine' call_stripC ?F ?N ?z ?h ?k ?x ?r ?_; (case F => k_asm); (case N => k_asm); (case z => omega); (case h => assumption); (case k => assumption); (case x => assumption); (case r => exact Lv.up (Lv.ab (k := 1) (by decide)) (by decide)))
  | (refine' call_next ?F ?N ?l ?s ?z1 ?z2 ?h ?k ?x ?r ?_; (case F => k_asm); (case N => k_asm); (case l => kmk_list); (case s => assumption); (case z1 => omega); (case z2 => first | omega | exact Nat.pos_of_ne_zero fun e => absurd (List.eq_nil_of_length_eq_zero e) (by first | assumption | (intro; simp_all))); (case h => assumption); (case k => assumption); (case x => assumption); (case r => exact Lv.ab (k := 1) (by decide)); (intro h' tk' D' ws' n' F' N' l1 hS')))))
theorem xfrm_turn {w : World} {mg mb : Str → Option Value} {A : Around} {h₀ : Heap} {s : Shared} {L : Addr} {m : Str → Option Value} {news : List (Addr × Obj)} {vs : List Value} {as : List Str} (hS : StrsAre vs as) (hrow : lawRow = lawRow) (KX : (KK w.params).In h₀) (TX : TopRead qq lz' mg mb h₀) (hr : Lv 0 A.in1.in1) :
    ∀ v ∈ vs, ∀ (h : Heap) (tk : Nat) (own : List (Addr × Obj)), Fr h₀ L h m → News h₀ L h (news ++ own) →
      wpAny (model prog w) A.in1.in1 (PySem.call (.ref 35) [v]) (SelfEnd h₀ L m (news ++ own) v { s with heap := h, toks := tk }) (fun _ _ => False) { s with heap := h, toks := tk } := by
  intro v hv h tk own F N
  obtain ⟨x, t, rfl⟩ := hS.all v hv
  refine wpAny_call (spec_xfrm hrow (Base.keeps ⟨KX, TX⟩ F.keep) hr fun s' e => ?_)
  obtain ⟨h', tk', rfl, k⟩ := e
  exact ⟨h', tk', rfl, rfl, F.keeps k, N.grown k⟩
local macro_rules | `(tactic| walk_at "call builtin:sorted") => `(tactic| (k_here; ksk_show; k_dflt (refine' ss_sorted ?k1 ?k2 ?k3 ?k4 ?k5 ?a1 ?a2 ?a3 ?tt ?_; (case k1 => k_asm); (case k2 => k_asm); (case k3 => kmk_list); (case k4 => assumption); (case k5 => omega); (case a1 => ksk_a1); (case a2 => (intro x'; ksk_a2)); (case a3 => (intro x'; ksk_a3)); (case tt => (exact xfrm_turn (by assumption) (by assumption) (by assumption) (by assumption) ⟨rfl, by decide, by decide⟩))); intro D' h' tk' vs' ss' c' F' N' l1 hI' hP' hO'; (try k_lt l1); (try k_sweep)))
local macro_rules | `(tactic| walk_at "getMethod ref") => `(tactic| (k_here; k_dflt (refine' cnt_meth ?N ?hp ?hc ?_; (case N => k_asm); (case hp => repeat (first | exact List.Mem.head _ | refine List.Mem.tail _ ?_ | refine List.mem_append_right _ ?_)); (case hc => assumption))))
local macro_rules | `(tactic| walk_at "call builtin:dict.get") => `(tactic| (k_here; k_dflt (refine' cnt_get ?N ?hp ?lo ?hc ?_; (case N => k_asm); (case hp => repeat (first | exact List.Mem.head _ | refine List.Mem.tail _ ?_ | refine List.mem_append_right _ ?_)); (case lo => assumption); (case hc => assumption)); intro _))
local macro_rules | `(tactic| walk_at "setItem ref str") => `(tactic| refine stop_ ?_)
local macro_rules | `(tactic| walk_at "subscriptTail Name Slice ref ref") => `(tactic| (k_here; (with_reducible show wpAny _ _ (subscriptTail _ (PySem.Expr.Slice none none (some _) _) (Value.ref _) (Value.ref _)) _ _ _); k_dflt (refine' krv_strs ?F ?N ?l ?k ?i ?z ?_ ?s ?t; (case F => k_asm); (case N => k_asm); (case l => kmk_list); (case k => exact IsPart.int _ _); (case i => assumption); (case z => omega); (case s => with_unfolding_all rfl); (case t => kmk_pure)); intro D' ws' h' F' N' l1 hI'; (try k_lt l1); (try k_sweep)))
local macro_rules | `(tactic| walk_at "compareOp NotEq ref ref") => `(tactic| refine stop_ ?_)
/-- what the telling gives back -/
structure Told (prog : Program) (w : World) (s s' : Shared) (as : List Str) (fc : List (Str × Str)) (T W Bd : Addr) (ow ob : Obj) (least : List Str) (fin : TS) : Prop where
  ext : Ext s s'
  t : s'.heap.get? T = some { cls := .type "tuple", data := .seq #[.ref W, .ref Bd] }
  gw : s'.heap.get? W = some ow
  gb : s'.heap.get? Bd = some ob
  nt : s.heap.get? T = none
  nw : s.heap.get? W = none
  nb : s.heap.get? Bd = none
  lw : (W == sysModules) = false
  lb : (Bd == sysModules) = false
  cw : Cnt prog w ow fin.wr
  cb : Cnt prog w ob fin.br
  hp : least.Perm as
  hs : sortedS least = true
  hg : Good fc least fin
theorem spec_told {l fd : Addr} {vs : List Value} {as : List Str} {fc : List (Str × Str)} (hl : s.heap.IsList l vs.toArray) (hs : StrsAre vs as) (hn : as.length ≤ 7) (hn1 : 1 ≤ as.length) (hf : StrTab prog w s.heap fd (foldD fc)) (ho : ∀ a ∈ as, PyData.strOk a = true) (hg : ∀ least, least.Perm as → sortedS least = true → ∃ fin, Good fc least fin) (hrow : lawRow = lawRow) (B : Base w mg mb s.heap) (hr : Lv 2 A) (h : ∀ s' T W Bd ow ob least fin, Told prog w s s' as fc T W Bd ow ob least fin → R (.ok (.ret (.ref T))) s') : codeAny (model prog w) A (.call (.ref 139) ⟨[.ref l, .ref fd], []⟩) R s := by
  refine call_fnC (i := 16) (binds := [("row", .ref l), ("folds", .ref fd)]) 2 rfl (at_told _) B hr (fun _ _ => rfl) ?_ (by decide) ?_ rfl rfl rfl
  · intro x hx
    rcases List.mem_cons.mp hx with rfl | hx
    · exact .inl rfl
    · rw [List.mem_singleton.mp hx]; exact .inr ⟨rfl, rfl⟩
  intro cd h₁ tk cells Q hQ F N Y KX TX
  k_cells Y
  rename_i oc dc
  replace dc : oc.data = .cell (some (.ref fd)) := dc
  revert hrow KX; k_fill; intro hrow KX
  k_steps
  unfold Stop
  rename Fr _ _ _ _ => F0
  rename News _ _ _ _ => N0
  rename_i D2 hh0 tk0 vs0 least c0' hI0 hP0 hO0 l1a h11 tk1 W9 h10 ow lo1 hs1 fs1 hi1 fi1 l1b Bd9 h9 ob lo2 hs2 fs2 hi2 fi2 l1c D9 h8 l1d h7 h6 h5 tk2 La9 h4 l1e T9 h3 l1f h2 h1' h0' 
  refine For_invVF F0 ?k1 ?k2 ?_
  case k1 => exact rfl
  case k2 => exact rfl
  k_steps
  unfold Stop
  rename Fr _ _ _ _ => F1
  rename News _ _ _ _ => N1
  rename IsRange _ _ _ _ _ _ _ _ => hr1
  obtain ⟨fin, hG1, hG2, hG3⟩ := hg _ hP0 hO0
  refine range_inv (n := 31) (fun i m news => ∃ st hA lA hv lv nh nl ow ob, TR prog w (foldF fc) ⟨least, [], [], []⟩ W9 Bd9 D2 (s.heap.objs.size + 1) (PySem.W.listOf vs0.toArray c0') oc i m news st hA lA hv lv nh nl ow ob) rfl hr1 (by decide) (by decide) F1 (News.perm N1 (news' := [(D2, PySem.W.listOf vs0.toArray c0'), (La9, PySem.W.listOf #[] 0), (W9, ow), (Bd9, ob), (D2, PySem.W.listOf vs0.toArray c0'), (s.heap.objs.size + 1, oc)]) ?_) ?_ ?_ ?_
  · intro p hp
    simp only [List.mem_cons, List.not_mem_nil, or_false] at hp ⊢
    rcases hp with rfl | rfl | rfl | rfl | rfl | rfl <;> simp
  · exact ⟨⟨least, [], [], []⟩, D2, La9, vs0, [], c0', 0, ow, ob, rfl, rfl, rfl, rfl, rfl, rfl, rfl, hI0, .nil, ⟨_, hs1, fs1⟩, ⟨_, hs2, fs2⟩, Nat.ne_of_lt l1b.1, Nat.ne_of_lt l1c.2.1, Nat.ne_of_gt l1e.2.2.1, Nat.ne_of_gt l1e.2.1⟩
  · rintro i m₁ news₁ h12 tk3 I own t hi ⟨st, hA, lA, hv, lv, nh, nl, ow, ob, T⟩ hoff hIo hown F N
    have hk := hG3 i st hi T.tl
    replace F := Fr_eq (m' := fun y => if y = Str.ofString "turn" then some (.int (i : Nat) t) else if y = Str.ofString "here" then some (.ref hA) else if y = Str.ofString "last" then some (.ref lA) else if y = Str.ofString "written" then some (.ref W9) else if y = Str.ofString "bare" then some (.ref Bd9) else if y = Str.ofString "least" then some (.ref D2) else m₁ y) F (fun z => by
      show (if z = Str.ofString "turn" then _ else m₁ z) = (if z = Str.ofString "turn" then _ else _)
      split
      · rfl
      · exact map5 T.m1 T.m2 T.m3 T.m4 T.m5 z)
    rw [T.nw] at N
    clear F1 N1
    obtain ⟨k1, k2, k3, k4, k5, k6, k7, k8, k9⟩ := hk
    replace k2 : ∀ a ∈ signs ⟨(bareOf (cpsOf st.here)).toArray⟩, hasF fc a = true := k2
    replace k7 : (cpsOf ((signs ⟨(bareOf (cpsOf st.here)).toArray⟩).map (foldF fc))).length ≤ 100 := k7
    obtain ⟨st', hst'⟩ := step_some hi T.tl hG1
    have k2z : (signs ⟨(bareOf (cpsOf st.here)).toArray⟩).length ≤ 1000 := by
      have := bareOf_length (cpsOf st.here)
      simp [signs]; omega
    have s1 := T.s1
    have s2 := T.s2
    have c1 := T.c1
    have c2 := T.c2
    k_steps
    · unfold Stop
      rename Fr _ _ _ _ => F0'
      rename News _ _ _ _ => N0'
      k_here
      refine' comp_folds ?F ?N ?hf ?hoc ?hin rfl rfl rfl ?hcell rfl ?hnames rfl rfl (fun _ => rfl) (fun _ => rfl) (fun _ => rfl) ?_ ?hs
      case F => k_asm
      case N => k_asm
      case hf => assumption
      case hoc => assumption
      case hin => first | k_mem | (simp; done)
      case hcell => decide
      case hnames => decide
      case hs => exact fun _ => rfl
      walk1
      refine' FoldSrc.list ?l ?hs ?z ?kk ?F ?N ?_
      case l => kmk_list
      case hs => assumption
      case z => omega
      case kk => assumption
      case F => k_asm
      case N => k_asm
      intro D3 ys3 n3 h3' tk3' F3 N3 l3 hI3
      clear F0' N0'
      k_steps
      unfold Stop
      k_here
      refine' comp_folds ?F ?N ?hf ?hoc ?hin rfl rfl rfl ?hcell rfl ?hnames rfl rfl (fun _ => rfl) (fun _ => rfl) (fun _ => rfl) ?_ ?hs
      case F => k_asm
      case N => k_asm
      case hf => assumption
      case hoc => assumption
      case hin => first | k_mem | (simp; done)
      case hcell => decide
      case hnames => decide
      case hs => exact fun _ => rfl
      walk1
      refine' FoldSrc.text ?z ?kk ?F ?N ?_
      case z => assumption
      case kk => assumption
      case F => k_asm
      case N => k_asm
      intro D4 ys4 n4 h4' tk4' F4 N4 l4 hI4
      k_steps
      · rename (_ != _) = true => hne
        exfalso
        rename st.here ≠ [] => hn0
        rw [step_none hn0 hne] at hst'
        cases hst'
      · rename (_ != _) = false => hee
        rename News _ _ _ _ => N5
        rename Fr _ _ _ _ => F5
        unfold Stop
        k_here
        have hI : W9 ≠ I ∧ Bd9 ≠ I := ⟨hoff (W9, ow) (by rw [T.nw]; simp), hoff (Bd9, ob) (by rw [T.nw]; simp)⟩
        refine cnt_set (own ++ [(hA, PySem.W.listOf hv.toArray nh), (lA, PySem.W.listOf lv.toArray nl), (Bd9, ob), (D2, PySem.W.listOf vs0.toArray c0'), (s.heap.objs.size + 1, oc)]) F5 N5 ?_ ?_ ?_ c1 ?_ ?_
        · simp
        · intro p hp
          rcases List.mem_append.mp hp with hp | hp
          · exact .tail _ (.tail _ (List.mem_append_left _ hp))
          · refine .tail _ (.tail _ (List.mem_append_right _ ?_))
            simp only [List.mem_cons, List.not_mem_nil, or_false] at hp ⊢
            rcases hp with rfl | rfl | rfl | rfl | rfl <;> simp
        · intro p hp
          rcases List.mem_append.mp hp with hp | hp
          · rw [hown p hp]; exact fun e => hI.1 e.symm
          · simp only [List.mem_cons, List.not_mem_nil, or_false] at hp
            rcases hp with rfl | rfl | rfl | rfl | rfl
            · exact T.a1
            · exact T.a3
            · exact Nat.ne_of_gt l1c.1
            · exact Nat.ne_of_lt l1b.1
            · exact Nat.ne_of_lt l1b.2
        · omega
        intro h6 ow6 F6 N6 c6
        k_steps
        unfold Stop
        k_here
        rename News _ _ _ _ => N7
        rename Fr _ _ _ _ => F7
        refine cnt_set (own ++ [(hA, PySem.W.listOf hv.toArray nh), (lA, PySem.W.listOf lv.toArray nl), (W9, ow6), (D2, PySem.W.listOf vs0.toArray c0'), (s.heap.objs.size + 1, oc)]) F7 N7 ?_ ?_ ?_ c2 ?_ ?_
        · simp
        · intro p hp
          rcases List.mem_append.mp hp with hp | hp
          · exact .tail _ (List.mem_append_left _ hp)
          · simp only [List.mem_cons, List.not_mem_nil, or_false] at hp
            rcases hp with rfl | rfl | rfl | rfl | rfl <;> simp
        · intro p hp
          rcases List.mem_append.mp hp with hp | hp
          · rw [hown p hp]; exact fun e => hI.2 e.symm
          · simp only [List.mem_cons, List.not_mem_nil, or_false] at hp
            rcases hp with rfl | rfl | rfl | rfl | rfl
            · exact T.a2
            · exact T.a4
            · exact Nat.ne_of_lt l1c.1
            · exact Nat.ne_of_lt l1c.2.1
            · exact Nat.ne_of_lt l1c.2.2
        · omega
        intro h8 ob8 F8 N8 c8
        k_steps
        k_here
        rename News _ _ _ _ => N9
        rename Fr _ _ _ _ => F9
        have hlen : 1 ≤ st.here.length := Nat.pos_of_ne_zero fun e => absurd (List.eq_nil_of_length_eq_zero e) (by assumption)
        refine call_next F9 N9 (N9.isList (.tail _ (List.mem_append_right _ (.head _)))) s1 k3 hlen hrow KX TX (Lv.ab (k := 1) (by decide)) ?_
        intro h10 tk10 D10 ws10 n10 F10 N10 l10 hS10
        k_steps
        rename News _ _ _ _ => N11
        rename Fr _ _ _ _ => F11
        rename st.here ≠ [] => hn0
        obtain ⟨oI, hoI⟩ := hIo
        refine TurnEnd.next (news' := [(D10, PySem.W.listOf ws10.toArray n10), (hA, PySem.W.listOf hv.toArray nh), (W9, ow6), (Bd9, ob8), (D2, PySem.W.listOf vs0.toArray c0'), (s.heap.objs.size + 1, oc)]) F11 (N11.perm ?_) ?_ ⟨_, D10, hA, ws10, hv, n10, nh, ow6, ob8, ⟨tell_succ T.tl (step_full hn0 hee), rfl, rfl, rfl, rfl, rfl, rfl, hS10, s1, c6, c8, ?_, ?_, T.a1, T.a2⟩⟩
        · intro p hp
          rcases List.mem_append.mp hp with hp | hp
          · simp [hp]
          · simp only [List.mem_cons, List.not_mem_nil, or_false] at hp
            rcases hp with rfl | rfl | rfl | rfl | rfl | rfl <;> simp
        · intro p hp
          simp only [List.mem_cons, List.not_mem_nil, or_false] at hp
          rcases hp with rfl | rfl | rfl | rfl | rfl | rfl
          · exact fun e => l10 (I, oI) (by simp [hoI]) e.symm
          · exact hoff (hA, PySem.W.listOf hv.toArray nh) (by rw [T.nw]; simp)
          · exact hI.1
          · exact hI.2
          · exact hoff (D2, PySem.W.listOf vs0.toArray c0') (by rw [T.nw]; simp)
          · exact hoff (s.heap.objs.size + 1, oc) (by rw [T.nw]; simp)
        · exact fun e => l10 (W9, ow6) (by simp) e.symm
        · exact fun e => l10 (Bd9, ob8) (by simp) e.symm
    · rename News _ _ _ _ => N11
      rename Fr _ _ _ _ => F11
      have hn0 : st.here = [] := by
        by_cases e : st.here = []
        · exact e
        · simp_all
      refine TurnEnd.next F11 N11 (T.nw ▸ hoff) ⟨st, hA, lA, hv, lv, nh, nl, ow, ob, ⟨tell_succ T.tl (step_empty hn0), rfl, rfl, rfl, rfl, rfl, rfl, T.s1, T.s2, T.c1, T.c2, T.a1, T.a2, T.a3, T.a4⟩⟩
  · rintro m₁ news₁ h12 tk3 ⟨st, hA, lA, hv, lv, nh, nl, ow, ob, T⟩ F N
    have hfin : st = fin := Option.some.inj (T.tl.symm.trans hG1)
    subst hfin
    replace F := Fr_eq (m' := fun y => if y = Str.ofString "here" then some (.ref hA) else if y = Str.ofString "last" then some (.ref lA) else if y = Str.ofString "written" then some (.ref W9) else if y = Str.ofString "bare" then some (.ref Bd9) else if y = Str.ofString "least" then some (.ref D2) else m₁ y) F (map5 T.m1 T.m2 T.m3 T.m4 T.m5)
    rw [T.nw] at N
    clear F1 N1
    have s2 := T.s2
    have hz1 : least.length ≤ 7 := by rw [hP0.length_eq]; exact hn
    k_steps
    unfold Stop
    k_here
    rename StrsAre _ (List.reverse _) => hS9
    rename News _ _ _ _ => N9
    have hol : ∀ a ∈ least, PyData.strOk a = true := fun a ha => ho a (hP0.mem_iff.mp ha)
    refine ne_strs (N9.isList (.tail _ (.tail _ (.head _)))) (N9.isList (.head _)) s2 hS9 (fun a ha => hol a (List.mem_reverse.mp (hG2 ▸ ha))) (fun a ha => hol a (List.mem_reverse.mp ha)) (by ke_room) ?_
    rw [show (!decide (st.last = least.reverse)) = false by simp [hG2]]
    k_steps
    rename News _ _ _ _ => N12
    rename Fr _ _ _ _ => F12
    refine hQ _ _ (h _ _ W9 Bd9 ow ob least st ⟨⟨_, _, rfl, F12.keep⟩, N12.get (.head _), N12.get (by simp), N12.get (by simp), N12.fresh (.head _), N12.fresh (a := W9) (o := ow) (by simp), N12.fresh (a := Bd9) (o := ob) (by simp), lo1, lo2, T.c1, T.c2, hP0, hO0, ⟨hG1, hG2, hG3⟩⟩)
end Mine
end
section
open PySem PySem.W PyProof.Rows PySem.Calls PyProof.V
set_option maxRecDepth 100000
set_option maxHeartbeats 2000000
namespace Mine
/-- what a turn over two drawn things leaves; wr: what the iterator owns -/
noncomputable def TurnEndV (h₀ : Heap) (L : Addr) (wr : List Addr) (own : List (Addr × Obj)) (R : (Str → Option Value) → List (Addr × Obj) → Prop) (s₁ : Shared) (Q : Flow → Shared → Prop) (f : Flow) (s₂ : Shared) : Prop :=
  match f with
  | .ret v => Q (.ret v) s₂
  | .brk => Q .next s₂
  | _ => ∃ h' tk m' news', s₂ = { s₁ with heap := h', toks := tk } ∧ Fr h₀ L h' m' ∧ News h₀ L h' (own ++ news') ∧ (∀ p ∈ news', p.1 ∉ wr) ∧ R m' news'
theorem TurnEndV.next {h₀ h' : Heap} {L : Addr} {wr : List Addr} {own news' : List (Addr × Obj)} {R : (Str → Option Value) → List (Addr × Obj) → Prop} {s₁ : Shared} {tk : Nat} {Q : Flow → Shared → Prop} {m' : Str → Option Value}
    (F : Fr h₀ L h' m') (N : News h₀ L h' (own ++ news')) (ha : ∀ p ∈ news', p.1 ∉ wr) (hR : R m' news') : TurnEndV h₀ L wr own R s₁ Q .next { s₁ with heap := h', toks := tk } := ⟨h', tk, m', news', rfl, F, N, ha, hR⟩
section
variable {prog : Program} {w : World} {A : Around} {E : Value → Shared → Prop} {s : Shared} {env : Env} {h₀ : Heap}
/-- what a loop over an enumerate(str) is walked by -/
structure PairAtV (prog : Program) (w : World) (A : Around) (h₀ : Heap) (env : Env) (xi xc : Str) (body : List Stmt) (Q : Flow → Shared → Prop) (E : Value → Shared → Prop) (itv : Value) (s : Shared) (e it : Addr) (ty : String) (x : Str) (t : Tok) (m : Str → Option Value) (news : List (Addr × Obj)) (R : Nat → (Str → Option Value) → List (Addr × Obj) → Prop) : Prop where
  iv : itv = .ref e
  he : ∃ old, IsEnum s.heap e it 0 old
  hit : s.heap.IsStrIter it ty x t 0
  dr : Draws prog w A.in1 it [it] x.cps.size (fun i v => ∃ c u, x.cps[i]? = some c ∧ v = .str ⟨#[c]⟩ u) (fun i h => h.IsStrIter it ty x t i)
  hei : e ≠ it
  hLe : env.locals ≠ e
  hLi : env.locals ≠ it
  hne : h₀.get? e = none
  hni : h₀.get? it = none
  hnw : ∀ p ∈ news, p.1 ∉ [e, it]
  F : Fr h₀ env.locals s.heap m
  N : News h₀ env.locals s.heap news
  h0 : R 0 m news
  turn : ∀ i c ti u m₁ news₁ h tk own, x.cps[i]? = some c → R i m₁ news₁ → (∀ p ∈ news₁, p.1 ∉ [e, it]) → (∀ b ∈ [e, it], ∃ o, (b, o) ∈ own) → (∀ p ∈ own, p.1 ∈ [e, it]) →
    Fr h₀ env.locals h (fun y => if y = xc then some (.str ⟨#[c]⟩ u) else if y = xi then some (.int (i : Nat) ti) else m₁ y) → News h₀ env.locals h (own ++ news₁) →
    wpAny (model prog w) A (execs body env) (TurnEndV h₀ env.locals [e, it] own (R (i + 1)) { s with heap := h, toks := tk } Q) E { s with heap := h, toks := tk }
  done : ∀ m₁ news₁ h tk, R x.cps.size m₁ news₁ → Fr h₀ env.locals h m₁ → News h₀ env.locals h news₁ → Q .next { s with heap := h, toks := tk }
theorem loop_pairV {R' : Result → Shared → Prop} {xi xc : Str} {pk pv pt : Pos} {x1 : Nat} {body : List Stmt} {e it : Addr} {ty : String} {x : Str} {t : Tok} {m : Str → Option Value} {news : List (Addr × Obj)} {R : Nat → (Str → Option Value) → List (Addr × Obj) → Prop} (hh : A.handled = none)
    (P : PairAtV prog w A h₀ env xi xc body (fun f s' => R' (.ok f) s') (notedBy (model prog w) A env fun e s' => R' (.error e) s') (.ref e) s e it ty x t m news R)
    (hxi : env.kindOf xi = some .local) (hxc : env.kindOf xc = some .local)
    (hp : (env.scope.kind == .class || (env.scope.kind == .module && env.locals != env.globals)) = false) :
    codeAny (model prog w) A (.forLoop (.Tuple [.Name xi pk, .Name xc pv] x1 pt) (.ref e) body [] env) R' s := by
  have hef : e ∉ [it] := fun h => P.hei (List.mem_singleton.mp h)
  have W := WalksT.enumerateD (w := w) P.dr e P.hei hef (List.mem_singleton.mpr rfl)
  have hLw : env.locals ∉ [e, it] := fun h => by
    rcases List.mem_cons.mp h with h | h
    · exact P.hLe h
    · exact P.hLi (List.mem_singleton.mp h)
  have hwr : ∀ b ∈ [e, it], h₀.get? b = none := fun b hb => by
    rcases List.mem_cons.mp hb with rfl | hb
    · exact P.hne
    · rw [List.mem_singleton.mp hb]; exact P.hni
  have old : ∀ b o, h₀.get? b = some o → b ∉ [e, it] := fun b o q hb => by rw [hwr b hb] at q; cases q
  refine codeAny_forLoop_any
    (fun k s' => ∃ h' tk m' news', ∃ i : Nat, s' = { s with heap := h', toks := tk } ∧ ((∃ old, IsEnum h' e it i old) ∧ h'.IsStrIter it ty x t i) ∧ Fr h₀ env.locals h' m' ∧ News h₀ env.locals h' news' ∧ (∀ p ∈ news', p.1 ∉ [e, it]) ∧ R i m' news' ∧ i ≤ x.cps.size ∧ k = x.cps.size + 1 - i) ?_ (x.cps.size + 1)
    ⟨s.heap, s.toks, m, news, 0, rfl, ⟨P.he, P.hit⟩, P.F, P.N, P.hnw, P.h0, Nat.zero_le _, rfl⟩
  rintro k s' ⟨H, tk, m', news', i, rfl, hst', F', N', ha', hJ, hi, rfl⟩
  have next : ∀ h₁ : Heap, (∀ b o, b ∉ [e, it] → H.get? b = some o → h₁.get? b = some o) → Fr h₀ env.locals h₁ m' ∧ News h₀ env.locals h₁ news' := fun h₁ hk₁ =>
    ⟨⟨F'.ns.at' fun o q => hk₁ _ o hLw q, fun b o q => hk₁ b o (old b o q) (F'.keep b o q), F'.above⟩, fun p hp => ⟨hk₁ _ _ (ha' p hp) (N' p hp).1, (N' p hp).2⟩⟩
  by_cases hlt : i < x.cps.size
  · refine W.item i _ _ _ hlt hst' fun T vals h₁ tk₁ hPt _ hT hMid hk₁ => ?_
    obtain ⟨ti, v1, ⟨c, u, hc, rfl⟩, rfl⟩ := hPt
    refine W.go _ x1 pt i T _ _ _ hMid fun h₂ hst₂ hk₂ => ?_
    have ht₂ : h₂.IsTuple T #[.int i ti, .str ⟨#[c]⟩ u] := hT.at fun o q => hk₂ T o (W.apart i T h₁ hMid) q
    refine wpAny_assign_Tuple hh ht₂ rfl rfl fun h₃ hx₃ => ?_
    replace hx₃ : Heap.ExtBut h₂.objs.size h₂ h₃ := hx₃
    have up₃ : ∀ b o, h₂.get? b = some o → h₃.get? b = some o := fun b o q => hx₃ b o (Nat.ne_of_lt (Heap.lt_size q)) q
    obtain ⟨F₃, N₃⟩ := next h₃ fun b o hb q => up₃ b o (hk₂ b o hb (hk₁ b o hb q))
    show wpAny _ A (do holding [_] (assign (.Name xi pk) env _); do holding [] (assign (.Name xc pv) env _); pure ()) _ _ _
    refine wpAny_bind (wpAny_holding (wpAny_assign_Name (wpAny_storeName_local hxi F₃.ns (fun h₄ hn₄ hs₄ => ?_) hp)))
    replace hs₄ : Heap.SameBut env.locals h₃ h₄ := hs₄
    have F₄ := F₃.set hn₄ hs₄
    refine wpAny_bind (wpAny_holding (wpAny_assign_Name (wpAny_storeName_local hxc F₄.ns (fun h₅ hn₅ hs₅ => wpAny_pure ?_) hp)))
    replace hs₅ : Heap.SameBut env.locals h₄ h₅ := hs₅
    have F₅ := F₄.set hn₅ hs₅
    have N₅ : News h₀ env.locals h₅ news' := (N₃.set hs₄).set hs₅
    have hst₅ := W.frame _ _ h₅ hst₂ fun b hb o q => hs₅.extBut b o (fun r => hLw (r ▸ hb)) (hs₄.extBut b o (fun r => hLw (r ▸ hb)) (up₃ b o q))
    have hown : ∀ b ∈ [e, it], ∃ o, (b, o) ∈ ownOf h₀ [e, it] h₅ := fun b hb => by
      have : ∃ o, h₅.get? b = some o := by
        rcases List.mem_cons.mp hb with rfl | hb
        · obtain ⟨⟨old, h1⟩, _⟩ := hst₅
          exact ⟨_, h1⟩
        · rw [List.mem_singleton.mp hb]
          obtain ⟨_, o, h1, _⟩ := hst₅
          exact ⟨o, h1⟩
      obtain ⟨o, ho⟩ := this
      exact ⟨o, mem_ownOf hb (hwr b hb) ho⟩
    refine wpAny_mono (P.turn i c ti u m' news' h₅ _ (ownOf h₀ [e, it] h₅) hc hJ ha' hown ownOf_sub F₅ ((news_ownOf hLw).append N₅)) (fun f s₃ h₆ => ?_) fun _ _ q => q
    have fin : (∃ h' tk m' news', s₃ = { s with heap := h', toks := tk } ∧ Fr h₀ env.locals h' m' ∧ News h₀ env.locals h' (ownOf h₀ [e, it] h₅ ++ news') ∧ (∀ p ∈ news', p.1 ∉ [e, it]) ∧ R (i + 1) m' news') → ∃ k', k' < x.cps.size + 1 - i ∧ ∃ h' tk m' news', ∃ i : Nat, s₃ = { s with heap := h', toks := tk } ∧ ((∃ old, IsEnum h' e it i old) ∧ h'.IsStrIter it ty x t i) ∧ Fr h₀ env.locals h' m' ∧ News h₀ env.locals h' news' ∧ (∀ p ∈ news', p.1 ∉ [e, it]) ∧ R i m' news' ∧ i ≤ x.cps.size ∧ k' = x.cps.size + 1 - i := by
      rintro ⟨h₆', tk₆, m₂, news₂, rfl, F₆, N₆, ha₆, hJ₆⟩
      refine ⟨x.cps.size + 1 - (i + 1), by omega, h₆', tk₆, m₂, news₂, i + 1, rfl, ?_, F₆, N₆.right, ha₆, hJ₆, hlt, rfl⟩
      refine W.frame _ _ _ hst₅ fun b hb o q => ?_
      exact (N₆ _ (List.mem_append_left _ (mem_ownOf hb (hwr b hb) q))).1
    cases f with
    | ret v => exact h₆
    | brk => exact h₆
    | cont => exact fin h₆
    | next => exact fin h₆
  · have hin : i = x.cps.size := by omega
    subst hin
    refine W.done _ _ _ hst' fun h₁ tk₁ hk₁ => wpAny_execs_nil ?_
    obtain ⟨F₁, N₁⟩ := next h₁ hk₁
    exact P.done m' news' h₁ tk₁ hJ F₁ N₁
noncomputable def PairEx (prog : Program) (w : World) (A : Around) (h₀ : Heap) (env : Env) (xi xc : Str) (body : List Stmt) (Q : Flow → Shared → Prop) (E : Value → Shared → Prop) (itv : Value) (s : Shared) : Prop :=
  ∃ e it ty x t m news R, PairAtV prog w A h₀ env xi xc body Q E itv s e it ty x t m news R
theorem For_pairV {Q : Flow → Shared → Prop} {xi xc : Str} {pk pv pt pos : Pos} {x1 : Nat} {iter : Expr} {body : List Stmt} {m : Str → Option Value} (_F : Fr h₀ env.locals s.heap m) (hh : A.handled = none)
    (hxi : env.kindOf xi = some .local) (hxc : env.kindOf xc = some .local)
    (hp : (env.scope.kind == .class || (env.scope.kind == .module && env.locals != env.globals)) = false)
    (h : wpAny (model prog w) A (eval iter env) (fun xv s₁ => wpAny (model prog w) A (pyIter xv) (fun it s₂ => PairEx prog w A h₀ env xi xc body Q E it s₂) E s₁) E s)
    (hs : ∀ x, foldedSetIterable iter env x = pure x)
    (hE : PassesOwn (model prog w) A env E := by passes_own) :
    wpAny (model prog w) A (exec (.For (.Tuple [.Name xi pk, .Name xc pv] x1 pt) iter body [] pos) env) Q E s := by
  refine wpAny_For (wpAny_mono h (fun xv s₁ h₁ => wpAny_mono h₁ (fun it s₂ h₂ => ?_) fun _ _ e => e) fun _ _ e => e) hs
  obtain ⟨e, it', ty, x, t, m, news, R, P⟩ := h₂
  have iv := P.iv
  subst iv
  exact loop_pairV (R' := fun r s' => match r with | .ok f => Q f s' | .error e => cameBackBy (model prog w) A env E e s') hh { P with turn := by intros; exact wpAny_passesOwn hE (by apply P.turn <;> assumption) } hxi hxc hp
end
section
variable {prog : Program} {w : World} {A : Around} {E : Value → Shared → Prop} {s : Shared} {env : Env} {h₀ : Heap} {m : Str → Option Value} {news : List (Addr × Obj)} {xi xc : Str} {body : List Stmt} {Q : Flow → Shared → Prop}
theorem enum_str_inv {x : Str} {t : Tok} {e it : Addr} (R : Nat → (Str → Option Value) → List (Addr × Obj) → Prop) (hh : A.handled = none) (he : IsEnum s.heap e it 0 .none) (hit : s.heap.IsStrIter it (strIterType x) x t 0) (hei : e ≠ it) (hLe : env.locals ≠ e) (hLi : env.locals ≠ it) (hne : h₀.get? e = none) (hni : h₀.get? it = none)
    (hnw : ∀ p ∈ news, p.1 ∉ [e, it]) (F : Fr h₀ env.locals s.heap m) (N : News h₀ env.locals s.heap news) (h0 : R 0 m news)
    (turn : ∀ i c ti u m₁ news₁ h tk own, x.cps[i]? = some c → R i m₁ news₁ → (∀ p ∈ news₁, p.1 ∉ [e, it]) → (∀ b ∈ [e, it], ∃ o, (b, o) ∈ own) → (∀ p ∈ own, p.1 ∈ [e, it]) →
      Fr h₀ env.locals h (fun y => if y = xc then some (.str ⟨#[c]⟩ u) else if y = xi then some (.int (i : Nat) ti) else m₁ y) → News h₀ env.locals h (own ++ news₁) →
      wpAny (model prog w) A (execs body env) (TurnEndV h₀ env.locals [e, it] own (R (i + 1)) { s with heap := h, toks := tk } Q) E { s with heap := h, toks := tk })
    (done : ∀ m₁ news₁ h tk, R x.cps.size m₁ news₁ → Fr h₀ env.locals h m₁ → News h₀ env.locals h news₁ → Q .next { s with heap := h, toks := tk }) :
    wpAny (model prog w) A (pyIter (.ref e)) (fun itv s₂ => PairEx prog w A h₀ env xi xc body Q E itv s₂) E s := by
  refine wpAny_pyIter_enum he ?_
  refine ⟨e, it, strIterType x, x, t, m, news, R, ⟨rfl, ⟨_, he⟩, hit, ?_, hei, hLe, hLi, hne, hni, hnw, F, N, h0, turn, done⟩⟩
  unfold strIterType
  split
  · exact Draws.strAscii (A := A.in1) hh it x t
  · exact Draws.strWide (A := A.in1) hh it x t
end
end Mine
end
section
open PySem PySem.W PyProof.Rows PySem.Calls PyProof.V
set_option maxRecDepth 100000
set_option maxHeartbeats 2000000
namespace Mine
noncomputable def inS (sg a : Str) : Bool := !(Builtin.Str.occurrences sg a 0 sg.length 1).isEmpty
section
variable {prog : Program} {w : World} {A : Around} {E : Value → Shared → Prop} {s : Shared} {env : Env} {h₀ : Heap} {L : Addr} {m : Str → Option Value}
theorem comp_in {iter : Expr} {px p1 p2 p3 p4 : Pos} {scope : Scope} {cl : List (Str × Addr)} {pos : Pos} {Q : Value → Shared → Prop} {c : Addr} {oc : Obj} {sg : Str} {tg : Tok} {news : List (Addr × Obj)}
    (_F : Fr h₀ L s.heap m) (_N : News h₀ L s.heap news) (hoc : oc.data = .cell (some (.str sg tg))) (hin : (c, oc) ∈ news) (hh : A.handled = none) (hclos : closureFor scope env = pure cl) (hc : cl.lookup (Str.ofString "signs") = some c)
    (hcell : ∀ y ∈ scope.names, y.2 ≠ .cell) (hkind : scope.kind = .function)
    (hnames : ∀ y ∈ scope.names, y.2 = .local → scope.names.lookup y.1 = some .local) (hx : scope.names.lookup (Str.ofString "sign") = some NameKind.local) 
    (hk1 : ∀ C, (compEnvC scope cl C env).kindOf "signs" = some NameKind.cell) (hk2 : ∀ C, (compEnvC scope cl C env).kindOf "sign" = some .local) (hk3 : ∀ C, (compEnvC scope cl C env).scope.kind = .function)
    (h : wpAny (model prog w) A (eval iter env) (fun xv s₁ => ∃ as, SrcS s₁.heap xv as ∧ as.length ≤ 1000 ∧ Fr h₀ L s₁.heap m ∧ News h₀ L s₁.heap news ∧
      (∀ D (ys : List Value) n h' tk, Fr h₀ L h' m → News h₀ L h' ((D, W.listOf (List.toArray ys) n) :: news) → (∀ p ∈ news, p.1 ≠ D) → StrsAre ys (as.filter (inS sg)) → Q (.ref D) { s₁ with heap := h', toks := tk })) E s)
    (hs : ∀ x, foldedSetIterable iter env x = pure x) :
    wpAny (model prog w) A (eval (.ListComp (.Name "sign" p1) [⟨.Name "sign" px, iter, [.Compare (.Name "sign" p2) [.In] [.Name "signs" p3] p4], 0⟩] scope pos) env) Q E s := by
  refine comp_gen (h₀ := h₀) (L := L) (m := m) (news := news) (inS sg) (fun a => a) hh hclos hcell hkind hnames hx (wpAny_mono h (fun xv s₁ h₁ => ?_) fun _ _ e => e) hs
  obtain ⟨as, hsrc, hz, F, N, hQ⟩ := h₁
  refine ⟨as, hsrc, hz, F, N, ⟨?_, ?_⟩, ?_⟩
  · intro C a u s₂ m₂ E' ha hn hm hk
    have hcl2 : s₂.heap.IsCell c (some (.str sg tg)) := ⟨oc, hk _ _ (N _ hin).1, hoc⟩
    refine wpAny_tests_one (wpAny_isTrue_Compare1 (ldVarK hn hm (ldCellK hc hcl2 (in_str ?_) (hk3 C) (hk1 C)) (hk3 C) (hk2 C)))
    refine wpAny_truthy_bool ?_
    exact ⟨rfl, _, _, rfl, fun _ _ e => e⟩
  · intro C a u s₂ m₂ E' ha _ hn hm hk
    exact ldVarK hn hm ⟨⟨u, rfl⟩, _, _, rfl, fun _ _ e => e⟩ (hk3 C) (hk2 C)
  · intro D ys n h' tk F' N' hne hS
    rw [List.map_id'] at hS
    exact hQ D ys n h' tk F' N' hne hS
theorem comp_notin {iter : Expr} {px p1 p2 p3 p4 : Pos} {scope : Scope} {cl : List (Str × Addr)} {pos : Pos} {Q : Value → Shared → Prop} {c : Addr} {oc : Obj} {sg : Str} {tg : Tok} {news : List (Addr × Obj)}
    (_F : Fr h₀ L s.heap m) (_N : News h₀ L s.heap news) (hoc : oc.data = .cell (some (.str sg tg))) (hin : (c, oc) ∈ news) (hh : A.handled = none) (hclos : closureFor scope env = pure cl) (hc : cl.lookup (Str.ofString "signs") = some c)
    (hcell : ∀ y ∈ scope.names, y.2 ≠ .cell) (hkind : scope.kind = .function)
    (hnames : ∀ y ∈ scope.names, y.2 = .local → scope.names.lookup y.1 = some .local) (hx : scope.names.lookup (Str.ofString "sign") = some NameKind.local) 
    (hk1 : ∀ C, (compEnvC scope cl C env).kindOf "signs" = some NameKind.cell) (hk2 : ∀ C, (compEnvC scope cl C env).kindOf "sign" = some .local) (hk3 : ∀ C, (compEnvC scope cl C env).scope.kind = .function)
    (h : wpAny (model prog w) A (eval iter env) (fun xv s₁ => ∃ as, SrcS s₁.heap xv as ∧ as.length ≤ 1000 ∧ Fr h₀ L s₁.heap m ∧ News h₀ L s₁.heap news ∧
      (∀ D (ys : List Value) n h' tk, Fr h₀ L h' m → News h₀ L h' ((D, W.listOf (List.toArray ys) n) :: news) → (∀ p ∈ news, p.1 ≠ D) → StrsAre ys (as.filter (fun a => !inS sg a)) → Q (.ref D) { s₁ with heap := h', toks := tk })) E s)
    (hs : ∀ x, foldedSetIterable iter env x = pure x) :
    wpAny (model prog w) A (eval (.ListComp (.Name "sign" p1) [⟨.Name "sign" px, iter, [.Compare (.Name "sign" p2) [.NotIn] [.Name "signs" p3] p4], 0⟩] scope pos) env) Q E s := by
  refine comp_gen (h₀ := h₀) (L := L) (m := m) (news := news) (fun a => !inS sg a) (fun a => a) hh hclos hcell hkind hnames hx (wpAny_mono h (fun xv s₁ h₁ => ?_) fun _ _ e => e) hs
  obtain ⟨as, hsrc, hz, F, N, hQ⟩ := h₁
  refine ⟨as, hsrc, hz, F, N, ⟨?_, ?_⟩, ?_⟩
  · intro C a u s₂ m₂ E' ha hn hm hk
    have hcl2 : s₂.heap.IsCell c (some (.str sg tg)) := ⟨oc, hk _ _ (N _ hin).1, hoc⟩
    refine wpAny_tests_one (wpAny_isTrue_Compare1 (ldVarK hn hm (ldCellK hc hcl2 (notIn_str ?_) (hk3 C) (hk1 C)) (hk3 C) (hk2 C)))
    refine wpAny_truthy_bool ?_
    exact ⟨rfl, _, _, rfl, fun _ _ e => e⟩
  · intro C a u s₂ m₂ E' ha _ hn hm hk
    exact ldVarK hn hm ⟨⟨u, rfl⟩, _, _, rfl, fun _ _ e => e⟩ (hk3 C) (hk2 C)
  · intro D ys n h' tk F' N' hne hS
    rw [List.map_id'] at hS
    exact hQ D ys n h' tk F' N' hne hS
noncomputable def foldG (fc : List (Str × Str)) (x : Str) : Str := ((fc.find? fun p => decide (p.1 = x)).map (·.2)).getD x
theorem comp_gets {iter : Expr} {px p1 p2 p3 p4 p5 : Pos} {scope : Scope} {cl : List (Str × Addr)} {pos : Pos} {Q : Value → Shared → Prop} {fd c : Addr} {oc : Obj} {fc : List (Str × Str)} {news : List (Addr × Obj)}
    (_F : Fr h₀ L s.heap m) (_N : News h₀ L s.heap news) (hf : StrTab prog w h₀ fd (foldD fc)) (hoc : oc.data = .cell (some (.ref fd))) (hin : (c, oc) ∈ news) (hh : A.handled = none) (hclos : closureFor scope env = pure cl) (hc : cl.lookup (Str.ofString "folds") = some c)
    (hcell : ∀ y ∈ scope.names, y.2 ≠ .cell) (hkind : scope.kind = .function)
    (hnames : ∀ y ∈ scope.names, y.2 = .local → scope.names.lookup y.1 = some .local) (hx : scope.names.lookup (Str.ofString "sign") = some NameKind.local)
    (hk1 : ∀ C, (compEnvC scope cl C env).kindOf "folds" = some NameKind.cell) (hk2 : ∀ C, (compEnvC scope cl C env).kindOf "sign" = some .local) (hk3 : ∀ C, (compEnvC scope cl C env).scope.kind = .function)
    (hcall : ∀ C, ∃ pl : Sem Bool, ∀ (Q' : Value → Shared → Prop) E' s₂, wpAny (model prog w) A (eval (.Name "folds" p1) (compEnvC scope cl C env)) (fun ov s₁ => wpAny (model prog w) A (getMethod ov "get" pl) (fun fx s₂ => wpAny (model prog w) A (callWith p5 fx.1 fx.2 (backTo p5 (starEach [.Name "sign" p3, .Name "sign" p4] (compEnvC scope cl C env))) []) Q' E' s₂) E' s₁) E' s₂ →
      wpAny (model prog w) A (eval (.Call (.Attribute (.Name "folds" p1) "get" p2) [.Name "sign" p3, .Name "sign" p4] [] p5) (compEnvC scope cl C env)) Q' E' s₂)
    (h : wpAny (model prog w) A (eval iter env) (fun xv s₁ => ∃ as, SrcS s₁.heap xv as ∧ as.length ≤ 1000 ∧ Fr h₀ L s₁.heap m ∧ News h₀ L s₁.heap news ∧
      (∀ D (ys : List Value) n h' tk, Fr h₀ L h' m → News h₀ L h' ((D, W.listOf (List.toArray ys) n) :: news) → (∀ p ∈ news, p.1 ≠ D) → StrsAre ys (as.map (foldG fc)) → Q (.ref D) { s₁ with heap := h', toks := tk })) E s)
    (hs : ∀ x, foldedSetIterable iter env x = pure x) :
    wpAny (model prog w) A (eval (.ListComp (.Call (.Attribute (.Name "folds" p1) "get" p2) [.Name "sign" p3, .Name "sign" p4] [] p5) [⟨.Name "sign" px, iter, [], 0⟩] scope pos) env) Q E s := by
  refine comp_gen (h₀ := h₀) (L := L) (m := m) (news := news) (fun _ => true) (foldG fc) hh hclos hcell hkind hnames hx (wpAny_mono h (fun xv s₁ h₁ => ?_) fun _ _ e => e) hs
  obtain ⟨as, hsrc, hz, F, N, hQ⟩ := h₁
  refine ⟨as, hsrc, hz, F, N, ⟨?_, ?_⟩, ?_⟩
  · intro C a u s₂ m₂ E' _ _ _ _
    exact wpAny_pure ⟨rfl, _, _, rfl, fun _ _ e => e⟩
  · intro C a u s₂ m₂ E' ha _ hn hm hk
    have hcl2 : s₂.heap.IsCell c (some (.ref fd)) := ⟨oc, hk _ _ (N _ hin).1, hoc⟩
    have T2 : StrTab prog w s₂.heap fd (foldD fc) := hf.keep fun b o e => hk b o (F.keep b o e)
    obtain ⟨pl, hcl⟩ := hcall C
    refine hcl _ _ _ (ldCellK hc hcl2 ?_ (hk3 C) (hk1 C))
    refine getMethod_tab PySem.F.slot_dict_get PySem.F.type_dict_get T2 ?_
    walk1
    walk1
    refine ldVarK hn hm ?_ (hk3 C) (hk2 C)
    walk1
    refine ldVarK hn hm ?_ (hk3 C) (hk2 C)
    walk1
    refine call_get2_strTab T2 (PyProof.V.Flat.str a u) fun v hv => ?_
    have hv' : PyProof.V.Flat v (PyData.str (foldG fc a)) := by
      rw [foldD_lookup] at hv
      unfold foldG
      cases q : fc.find? fun p => decide (p.1 = a) with
      | none => rw [q] at hv; exact hv
      | some p => rw [q] at hv; exact hv
    obtain ⟨t, rfl⟩ := PyProof.V.Flat.str_inv hv'
    exact ⟨⟨t, rfl⟩, _, _, rfl, fun _ _ e => e⟩
  · intro D ys n h' tk F' N' hne hS
    rw [List.filter_eq_self.mpr (fun _ _ => rfl)] at hS
    exact hQ D ys n h' tk F' N' hne hS
end
end Mine
end
section
open PySem PySem.W PyProof.Rows PySem.Calls PyProof.V
set_option maxRecDepth 100000
set_option maxHeartbeats 2000000
namespace Mine
section
variable {prog : Program} {w : World} {A : Around} {E : Value → Shared → Prop} {s : Shared} {env : Env} {h₀ : Heap} {L : Addr} {m : Str → Option Value} {news : List (Addr × Obj)}
theorem comp_genA {elt iter : Expr} {x y : Str} {px py : Pos} {ifs : List Expr} {scope : Scope} {cl : List (Str × Addr)} {pos spos : Pos} {Q : Flow → Shared → Prop} (pz : Str → Bool) (f : Str → Str)
    (hsw : swapsWith (.ListComp elt [⟨.Name x px, iter, ifs, 0⟩] scope pos) (some (.Name y py)) spos.line env = pure true) (hL : env.locals = L) (hy : env.kindOf y = some .local) (hp : (env.scope.kind == .class || (env.scope.kind == .module && env.locals != env.globals)) = false)
    (hh : A.handled = none) (hclos : closureFor scope env = pure cl) (hcell : ∀ y ∈ scope.names, y.2 ≠ .cell) (hkind : scope.kind = .function)
    (hnames : ∀ y ∈ scope.names, y.2 = .local → scope.names.lookup y.1 = some .local) (hx : scope.names.lookup x = some .local)
    (h : wpAny (model prog w) A (eval iter env) (fun xv s₁ => ∃ as, SrcS s₁.heap xv as ∧ as.length ≤ 1000 ∧ Fr h₀ L s₁.heap m ∧ News h₀ L s₁.heap news ∧ QuietS prog w A env scope cl x ifs elt pz f as s₁ ∧
      (∀ D (ys : List Value) n h' tk, Fr h₀ L h' (fun z => if z = y then some (.ref D) else m z) → News h₀ L h' ((D, W.listOf (List.toArray ys) n) :: news) → (∀ p ∈ news, p.1 ≠ D) → StrsAre ys ((as.filter pz).map f) → Q .next { s₁ with heap := h', toks := tk })) E s)
    (hs : ∀ x, foldedSetIterable iter env x = pure x) :
    wpAny (model prog w) A (exec (.Assign [.Name y py] (.ListComp elt [⟨.Name x px, iter, ifs, 0⟩] scope pos) spos) env) Q E s := by
  subst hL
  refine wpAny_Assign_ListComp_free (strTest pz) (fun v y => ∃ a u t, v = .str a u ∧ y = .str (f a) t) hsw hclos hcell hkind hnames hx hy hp (wpAny_mono h (fun xv s₁ h₁ => ?_) fun _ _ e => e) hs
  obtain ⟨as, src, hsz, F, N, ⟨htests, helt⟩, hQ⟩ := h₁
  have fin : ∀ (o : Obj) {D : Addr} {h' : Heap} {tk : Nat} {ys : Array Value} {vs : List Value}, StrsAre vs as → (s₁.heap.push o).get? D = none → h'.PlainList D ys → Paired (fun v y => ∃ a u t, v = .str a u ∧ y = .str (f a) t) (vs.filter (strTest pz)) ys.toList → h'.Ns env.locals (fun z => if z = y then some (.ref D) else m z) →
      (∀ b o', b ≠ env.locals → b ∉ [s₁.heap.objs.size] → (s₁.heap.push o).get? b = some o' → h'.get? b = some o') → Q .next { s₁ with heap := h', toks := tk } := by
    intro o D h' tk ys vs hS hnew hpl hP hns hk
    have keep : ∀ b o, b ≠ env.locals → s₁.heap.get? b = some o → h'.get? b = some o := fun b o' hb e => hk b o' hb (fun hm => by rw [List.mem_singleton.mp hm] at e; exact Nat.lt_irrefl _ (Heap.lt_size e)) (Heap.get?_push_of_some _ e)
    obtain ⟨n, hD⟩ := hpl
    have hne : ∀ p ∈ news, p.1 ≠ D := fun p hp e => by rw [← e, Heap.get?_push_of_some _ (N p hp).1] at hnew; cases hnew
    have hDL : D ≠ env.locals := by
      rintro rfl
      obtain ⟨ob, _, _, e, _⟩ := F.ns
      rw [Heap.get?_push_of_some _ e] at hnew; cases hnew
    have hD0 : h₀.get? D = none := by
      cases e : h₀.get? D with
      | none => rfl
      | some o' => rw [Heap.get?_push_of_some _ (F.keep _ _ e)] at hnew; cases hnew
    refine hQ D ys.toList n h' tk ⟨hns, fun b o e => keep b o (fun q => absurd (Heap.lt_size e) (by have := F.above; rw [q]; exact Nat.not_lt.mpr this)) (F.keep b o e), F.above⟩ (fun p hp => ?_) hne (paired_strs hS hP)
    rcases List.mem_cons.mp hp with rfl | hp
    · exact ⟨by rw [Array.toArray_toList]; exact hD, hDL, hD0⟩
    · exact ⟨keep _ _ (N p hp).2.1 (N p hp).1, (N p hp).2⟩
  rcases src with ⟨ax, vs, rfl, hl, hS⟩ | ⟨xs, t, rfl, rfl⟩
  · have hlt : ax < s₁.heap.objs.size := by obtain ⟨_, e, _⟩ := hl; exact Heap.lt_size e
    have up : ∀ (s₃ : Shared), (∀ b o, b ∉ [s₁.heap.objs.size] → (s₁.heap.push { cls := .type "list_iterator", data := .fields #[.ref ax, .int 0 0] }).get? b = some o → s₃.heap.get? b = some o) → ∀ b o, s₁.heap.get? b = some o → s₃.heap.get? b = some o :=
      fun s₃ hk b o e => hk b o (fun hm => by rcases List.mem_cons.mp hm with rfl | hm; exact Nat.lt_irrefl _ (Heap.lt_size e); cases hm) (Heap.get?_push_of_some _ e)
    have hel : ∀ {i : Nat} {v : Value}, vs.toArray[i]? = some v → ∃ a u, v = .str a u ∧ a ∈ as := fun {i v} hv => by
      obtain ⟨y, t, e, hy⟩ := hS.item i v (by simpa using hv)
      exact ⟨y, t, e, List.mem_of_getElem? hy⟩
    refine wpAny_pyIter_list hl ⟨s₁.heap.objs.size, [s₁.heap.objs.size, ax], [s₁.heap.objs.size], vs.toArray.size, _, _, m, rfl, Walks.list hh _ _ (Nat.ne_of_lt hlt) vs.toArray, (by rw [List.size_toArray, hS.length]; unfold sizeLine; omega), ⟨⟨_, Heap.get?_push_size _ rfl, rfl, rfl⟩, hl.push _⟩, ?_, (fun hm => Nat.ne_of_lt F.ns.lt (List.mem_singleton.mp hm)), (F.push _).ns, ⟨?_, ?_⟩, ?_⟩
    · intro b hb
      show b < (s₁.heap.push _).objs.size
      rw [Heap.size_push]
      rcases List.mem_cons.mp hb with rfl | hb
      · exact Nat.lt_succ_self _
      · rw [List.mem_singleton.mp hb]; exact Nat.lt_succ_of_lt hlt
    · intro C i v s₃ m₃ E' hC hP hn hm hk _
      obtain ⟨a, u, rfl, ha⟩ := hel hP
      exact htests C a u s₃ m₃ E' ha hn hm (up s₃ hk)
    · intro C i v s₃ m₃ E' hC hP hp hn hm hk _
      obtain ⟨a, u, rfl, ha⟩ := hel hP
      exact wpAny_mono (helt C a u s₃ m₃ E' ha hp hn hm (up s₃ hk)) (fun y s₄ h₄ => ⟨let ⟨t, e⟩ := h₄.1; ⟨a, u, t, rfl, e⟩, h₄.2⟩) fun _ _ e => e
    · intro D h' tk ys vs' hnew hlD hplD hlen hP hF hns hk
      have e : vs' = vs := by simpa using list_of_places hlen hP
      subst e
      exact fin _ hS hnew hplD hF hns hk
  · refine wpAny_pyIter_str fun o St W hst => ?_
    have up : ∀ (s₃ : Shared), (∀ b o', b ∉ [s₁.heap.objs.size] → (s₁.heap.push o).get? b = some o' → s₃.heap.get? b = some o') → ∀ b o, s₁.heap.get? b = some o → s₃.heap.get? b = some o :=
      fun s₃ hk b o e => hk b o (fun hm => by rw [List.mem_singleton.mp hm] at e; exact Nat.lt_irrefl _ (Heap.lt_size e)) (Heap.get?_push_of_some _ e)
    have hel : ∀ {i : Nat} {v : Value}, SignAt xs i v → ∃ a u, v = .str a u ∧ (signs xs)[i]? = some a := fun {i v} hv => by
      obtain ⟨c, u, hc, rfl⟩ := hv
      exact ⟨_, u, rfl, signs_get hc⟩
    have hlen0 : xs.cps.size = (signs xs).length := (signs_length xs).symm
    refine ⟨s₁.heap.objs.size, [s₁.heap.objs.size], [s₁.heap.objs.size], xs.cps.size, _, _, m, rfl, W A hh, (by rw [hlen0]; unfold sizeLine; omega), hst, ?_, (fun hm => Nat.ne_of_lt F.ns.lt (List.mem_singleton.mp hm)), (F.push _).ns, ⟨?_, ?_⟩, ?_⟩
    · intro b hb
      rw [List.mem_singleton.mp hb]
      show s₁.heap.objs.size < (s₁.heap.push _).objs.size
      rw [Heap.size_push]; exact Nat.lt_succ_self _
    · intro C i v s₃ m₃ E' hC hP hn hm hk _
      obtain ⟨a, u, rfl, ha⟩ := hel hP
      exact htests C a u s₃ m₃ E' (List.mem_of_getElem? ha) hn hm (up s₃ hk)
    · intro C i v s₃ m₃ E' hC hP hp hn hm hk _
      obtain ⟨a, u, rfl, ha⟩ := hel hP
      exact wpAny_mono (helt C a u s₃ m₃ E' (List.mem_of_getElem? ha) hp hn hm (up s₃ hk)) (fun y s₄ h₄ => ⟨let ⟨t, e⟩ := h₄.1; ⟨a, u, t, rfl, e⟩, h₄.2⟩) fun _ _ e => e
    · intro D h' tk ys vs' hnew hlD hplD hlen hP hF hns hk
      have hS : StrsAre vs' (signs xs) := by
        refine kdy_strs (by rw [hlen, hlen0]) fun j v hv => ?_
        obtain ⟨a, u, e, ha⟩ := hel (hP j v hv)
        exact ⟨a, ha, u, e⟩
      exact fin _ hS hnew hplD hF hns hk
theorem comp_inA {iter : Expr} {y : Str} {py spos px p1 p2 p3 p4 : Pos} {scope : Scope} {cl : List (Str × Addr)} {pos : Pos} {Q : Flow → Shared → Prop} {c : Addr} {oc : Obj} {sg : Str} {tg : Tok} {news : List (Addr × Obj)}
    (_F : Fr h₀ L s.heap m) (_N : News h₀ L s.heap news) (hoc : oc.data = .cell (some (.str sg tg))) (hin : (c, oc) ∈ news)
    (hsw : swapsWith (.ListComp (.Name "sign" p1) [⟨.Name "sign" px, iter, [.Compare (.Name "sign" p2) [.In] [.Name "signs" p3] p4], 0⟩] scope pos) (some (.Name y py)) spos.line env = pure true) (hL : env.locals = L) (hy : env.kindOf y = some .local) (hp : (env.scope.kind == .class || (env.scope.kind == .module && env.locals != env.globals)) = false)
    (hh : A.handled = none) (hclos : closureFor scope env = pure cl) (hc : cl.lookup (Str.ofString "signs") = some c)
    (hcell : ∀ y ∈ scope.names, y.2 ≠ .cell) (hkind : scope.kind = .function)
    (hnames : ∀ y ∈ scope.names, y.2 = .local → scope.names.lookup y.1 = some .local) (hx : scope.names.lookup (Str.ofString "sign") = some NameKind.local) 
    (hk1 : ∀ C, (compEnvC scope cl C env).kindOf "signs" = some NameKind.cell) (hk2 : ∀ C, (compEnvC scope cl C env).kindOf "sign" = some .local) (hk3 : ∀ C, (compEnvC scope cl C env).scope.kind = .function)
    (h : wpAny (model prog w) A (eval iter env) (fun xv s₁ => ∃ as, SrcS s₁.heap xv as ∧ as.length ≤ 1000 ∧ Fr h₀ L s₁.heap m ∧ News h₀ L s₁.heap news ∧
      (∀ D (ys : List Value) n h' tk, Fr h₀ L h' (fun z => if z = y then some (.ref D) else m z) → News h₀ L h' ((D, W.listOf (List.toArray ys) n) :: news) → (∀ p ∈ news, p.1 ≠ D) → StrsAre ys (as.filter (inS sg)) → Q .next { s₁ with heap := h', toks := tk })) E s)
    (hs : ∀ x, foldedSetIterable iter env x = pure x) :
    wpAny (model prog w) A (exec (.Assign [.Name y py] (.ListComp (.Name "sign" p1) [⟨.Name "sign" px, iter, [.Compare (.Name "sign" p2) [.In] [.Name "signs" p3] p4], 0⟩] scope pos) spos) env) Q E s := by
  refine comp_genA (h₀ := h₀) (L := L) (m := m) (news := news) (inS sg) (fun a => a) hsw hL hy hp hh hclos hcell hkind hnames hx (wpAny_mono h (fun xv s₁ h₁ => ?_) fun _ _ e => e) hs
  obtain ⟨as, hsrc, hz, F, N, hQ⟩ := h₁
  refine ⟨as, hsrc, hz, F, N, ⟨?_, ?_⟩, ?_⟩
  · intro C a u s₂ m₂ E' ha hn hm hk
    have hcl2 : s₂.heap.IsCell c (some (.str sg tg)) := ⟨oc, hk _ _ (N _ hin).1, hoc⟩
    refine wpAny_tests_one (wpAny_isTrue_Compare1 (ldVarK hn hm (ldCellK hc hcl2 (in_str ?_) (hk3 C) (hk1 C)) (hk3 C) (hk2 C)))
    refine wpAny_truthy_bool ?_
    exact ⟨rfl, _, _, rfl, fun _ _ e => e⟩
  · intro C a u s₂ m₂ E' ha _ hn hm hk
    exact ldVarK hn hm ⟨⟨u, rfl⟩, _, _, rfl, fun _ _ e => e⟩ (hk3 C) (hk2 C)
  · intro D ys n h' tk F' N' hne hS
    rw [List.map_id'] at hS
    exact hQ D ys n h' tk F' N' hne hS
end
end Mine
end
section
open PySem PySem.W PyProof.Rows PySem.Calls PyProof.V
set_option maxRecDepth 100000
set_option maxHeartbeats 2000000
namespace Mine
theorem at_due (P : Params) : FnAt P 17 144 "_law_due" := ⟨o144_p17 P, .str "law_ti0029_01" 2244, .ref 143, by kernel_rfl, by kernel_rfl, by kernel_rfl⟩
/-- the words that a turn lays on -/
noncomputable def pushN (word rest : Str) : Nat → List (Str × Str)
  | 0 => []
  | i + 1 => pushN word rest i ++ (match rest.cps[i]? with
    | none => []
    | some c => if inS (Txt.slice rest none (some (i : Int))) ⟨#[c]⟩ then [] else [(word ++ ⟨#[c]⟩, Txt.slice rest none (some (i : Int)) ++ Txt.slice rest (some ((i : Int) + 1)) none)])
noncomputable def nodes : Nat → Nat
  | 0 => 1
  | r + 1 => 1 + (r + 1) * nodes r
noncomputable def nodesOf (ts : List (Str × Str)) : Nat := (ts.map fun p => nodes p.2.length).sum
noncomputable abbrev tupO (a b : Str) (t u : Tok) : Obj := { cls := .type "tuple", data := .seq #[.str a t, .str b u] }
inductive Tups : List (Str × Str) → List Value → List (Addr × Obj) → Prop
  | nil : Tups [] [] []
  | snoc {ts : List (Str × Str)} {refs : List Value} {tups : List (Addr × Obj)} {a b : Str} {t u : Tok} (T : Addr) : Tups ts refs tups → Tups (ts ++ [(a, b)]) (refs ++ [.ref T]) ((T, tupO a b t u) :: tups)
theorem Tups.length {ts : List (Str × Str)} {refs : List Value} {tups : List (Addr × Obj)} (h : Tups ts refs tups) : refs.length = ts.length := by
  induction h with
  | nil => rfl
  | snoc T _ ih => simp [ih]
theorem Tups.last {ts : List (Str × Str)} {refs : List Value} {tups : List (Addr × Obj)} (h : Tups ts refs tups) (hne : ts ≠ []) :
    ∃ ts' a b refs' T t u tups', ts = ts' ++ [(a, b)] ∧ refs = refs' ++ [.ref T] ∧ tups = (T, tupO a b t u) :: tups' ∧ Tups ts' refs' tups' := by
  cases h with
  | nil => exact absurd rfl hne
  | snoc T h => exact ⟨_, _, _, _, T, _, _, _, rfl, rfl, rfl, h⟩
/-- what the words' loop reaches -/
inductive DueR (nm : Str → Str) (g : Str → Int) (ts0 : List (Str × Str)) : List (Str × Str) → List (Str × Int) → Prop
  | start : DueR nm g ts0 ts0 []
  | step {ts : List (Str × Str)} {a b : Str} {due : List (Str × Int)} : DueR nm g ts0 (ts ++ [(a, b)]) due → DueR nm g ts0 (ts ++ pushN a b b.cps.size) (kdpPut due (nm a) (kdpLook due (nm a) 0 + g b))
noncomputable def nameW (fc : List (Str × Str)) (a : Str) : Str := ⟨(cpsOf ((signs a).map (foldG fc))).toArray⟩
theorem signs_from (x : Str) {j : Int} (h : 0 ≤ j ∧ j ≤ x.length) : signs (Txt.slice x (some j) none) = (signs x).drop j.toNat := by
  have h' : 0 ≤ j ∧ j ≤ x.cps.toList.length := by simpa [Str.length] using h
  rw [beq_iff_eq.mp (slice_closes_from h')]
  unfold signs
  simp only [List.map_take, List.map_drop]
  refine List.take_of_length_le ?_
  rw [List.length_drop, List.length_map]
  omega
theorem signs_app (x y : Str) : signs (x ++ y) = signs x ++ signs y := by
  show (x.cps ++ y.cps).toList.map _ = _
  simp [signs]
theorem pushN_mem (a b : Str) : ∀ i, i ≤ b.cps.size → ∀ q ∈ pushN a b i, q.1.length = a.length + 1 ∧ q.2.length + 1 = b.length
  | 0, _, q, hq => nomatch hq
  | i + 1, hi, q, hq => by
    have hi' : i < b.cps.size := hi
    unfold pushN at hq
    rcases List.mem_append.mp hq with hq | hq
    · exact pushN_mem a b i (by omega) q hq
    · rw [Array.getElem?_eq_getElem hi'] at hq
      simp only at hq
      split at hq
      · cases hq
      · rw [List.mem_singleton.mp hq]
        have hb : b.length = b.cps.size := rfl
        constructor
        · show (a ++ (⟨#[b.cps[i]]⟩ : Str)).length = _
          rw [← signs_length, signs_app, List.length_append, signs_length, signs_length]; rfl
        · show (Txt.slice b none (some (i : Int)) ++ Txt.slice b (some ((i : Int) + 1)) none).length + 1 = b.length
          rw [← signs_length, signs_app, List.length_append, signs_upto b (by omega), signs_from b (by omega), List.length_take, List.length_drop, signs_length]
          omega
theorem pushN_len (a b : Str) : ∀ i, (pushN a b i).length ≤ i
  | 0 => Nat.le_refl _
  | i + 1 => by
    have := pushN_len a b i
    unfold pushN
    rw [List.length_append]
    split
    · simp; omega
    · split
      · simp; omega
      · simp; omega
theorem nodesOf_app (x y : List (Str × Str)) : nodesOf (x ++ y) = nodesOf x + nodesOf y := by simp [nodesOf]
theorem pushN_nodes (a b : Str) : nodesOf (pushN a b b.cps.size) + 1 ≤ nodes b.length := by
  have key : ∀ l : List (Str × Str), (∀ q ∈ l, q.2.length + 1 = b.length) → nodesOf l ≤ l.length * nodes (b.length - 1) := by
    intro l
    induction l with
    | nil => intro _; exact Nat.zero_le _
    | cons q l ih =>
      intro h
      have h1 := h q (List.mem_cons_self ..)
      have h2 := ih fun q hq => h q (List.mem_cons_of_mem _ hq)
      show nodes q.2.length + nodesOf l ≤ (l.length + 1) * nodes (b.length - 1)
      rw [Nat.add_mul, show q.2.length = b.length - 1 by omega]; omega
  have h1 := key (pushN a b b.cps.size) fun q hq => (pushN_mem a b _ (Nat.le_refl _) q hq).2
  have h2 := pushN_len a b b.cps.size
  have h3 : b.length = b.cps.size := rfl
  cases e : b.cps.size with
  | zero => rw [h3, e]; exact Nat.le_refl _
  | succ r =>
    rw [e] at h1 h2 h3
    rw [h3] at h1 ⊢
    show _ ≤ 1 + (r + 1) * nodes r
    have := Nat.mul_le_mul_right (nodes r) h2
    have e2 : r + 1 - 1 = r := rfl
    rw [e2] at h1
    omega
theorem fold_len {fc : List (Str × Str)} (hfl : ∀ p ∈ fc, p.2.length ≤ 10) {a : Str} (ha : a.length ≤ 10) : (foldG fc a).length ≤ 10 := by
  unfold foldG
  cases q : fc.find? fun p => decide (p.1 = a) with
  | none => exact ha
  | some p => exact hfl p (List.mem_of_find?_eq_some q)
theorem cps_fold {fc : List (Str × Str)} (hfl : ∀ p ∈ fc, p.2.length ≤ 10) (x : List Str) (hx : ∀ a ∈ x, a.length = 1 := by intro a ha; obtain ⟨i, hi, rfl⟩ := List.getElem_of_mem ha; exact sign_len (List.getElem?_eq_getElem hi)) : (cpsOf (x.map (foldG fc))).length ≤ 10 * x.length := by
  induction x with
  | nil => exact Nat.le_refl _
  | cons a x ih =>
    have h1 := fold_len hfl (a := a) (by rw [hx a (List.mem_cons_self ..)]; decide)
    have h2 := ih fun b hb => hx b (List.mem_cons_of_mem _ hb)
    have e : (cpsOf ((a :: x).map (foldG fc))).length = (foldG fc a).length + (cpsOf (x.map (foldG fc))).length := by
      unfold cpsOf
      rw [List.map_cons, List.flatMap_cons, List.length_append]; rfl
    rw [e, List.length_cons]; omega
noncomputable abbrev stor : List Str := ["word", "rest", "name", "cuts", "place", "sign"]
theorem nodes_pos : ∀ r, 1 ≤ nodes r
  | 0 => Nat.le_refl _
  | r + 1 => by unfold nodes; omega
theorem ts_le_nodes : ∀ ts : List (Str × Str), ts.length ≤ nodesOf ts
  | [] => Nat.le_refl _
  | p :: ts => by
    have := ts_le_nodes ts
    have h1 := nodes_pos p.2.length
    unfold nodesOf at *
    simp only [List.map_cons, List.sum_cons, List.length_cons]
    omega
theorem Tups.objs {ts : List (Str × Str)} {refs : List Value} {tups : List (Addr × Obj)} (h : Tups ts refs tups) : ∀ p ∈ tups, ∃ a b t u, p.2 = tupO a b t u := by
  induction h with
  | nil => exact fun p hp => nomatch hp
  | snoc T h ih =>
    intro p hp
    rcases List.mem_cons.mp hp with rfl | hp
    · exact ⟨_, _, _, _, rfl⟩
    · exact ih p hp
theorem tup_apart {h₀ h : Heap} {L W : Addr} {news : List (Addr × Obj)} {xs : Array Value} {n : Nat} (N : News h₀ L h news) (hW : (W, PySem.W.listOf xs n) ∈ news) {p : Addr × Obj} (hp : p ∈ news) {a b : Str} {t u : Tok} (e : p.2 = tupO a b t u) : p.1 ≠ W := by
  refine N.twoPlaces hp hW ?_
  rw [e]
  intro e2
  have := congrArg Obj.cls e2
  simp [PySem.W.listOf] at this
theorem signs_cuts (r m : Nat) : signs (Txt.mul (Str.ofString "a") (r : Nat) ++ Txt.mul (Str.ofString ".") ((m : Nat) - 1 : Int)) = List.replicate r ⟨#[97]⟩ ++ List.replicate (m - 1) ⟨#[46]⟩ := by
  have e1 : Str.ofString "a" = ⟨#[97]⟩ := by decide +kernel
  have e2 : Str.ofString "." = ⟨#[46]⟩ := by decide +kernel
  have h1 := signs_mul_one 97 (r : Nat)
  have h2 := signs_mul_one 46 ((m : Nat) - 1 : Int)
  rw [e1, e2]
  have e3 : ∀ x y : Str, signs (x ++ y) = signs x ++ signs y := fun x y => by
    show (x.cps ++ y.cps).toList.map _ = _
    simp [signs]
  rw [e3, h1, h2]
  congr 2
  omega
theorem ord_bd (as : List Str) (h : as.length ≤ 7) : 0 ≤ ordersOf as ∧ ordersOf as ≤ 5040 := by
  have e : ordersOf as = ordPre as as.length := by unfold ordersOf ordPre; rw [List.take_of_length_le (by simp)]
  obtain ⟨h1, h2⟩ := ordPre_bound as as.length (Nat.le_refl _)
  have := fac_le h
  rw [e]
  exact ⟨h1, by omega⟩
noncomputable abbrev gOf (mk : List Str) (b : Str) : Int := ordersOf mk * ordersOf (signs b) * ordersOf (signs (Txt.mul (Str.ofString "a") (b.length : Nat) ++ Txt.mul (Str.ofString ".") ((mk.length : Nat) - 1 : Int)))
theorem Cnt.ne_tup {prog : Program} {w : World} {o : Obj} {c : List (Str × Int)} (h : Cnt prog w o c) {a b : Str} {t u : Tok} : o ≠ tupO a b t u := by
  rintro rfl
  obtain ⟨kvs, hd, _⟩ := h
  obtain ⟨es, ep, _, h2, _⟩ := hd
  cases h2
theorem mapWR {m : Str → Option Value} {a b c d e f : Value} (h5 : m (Str.ofString "word") = some e) (h6 : m (Str.ofString "rest") = some f) (h1 : m (Str.ofString "words") = some a) (h2 : m (Str.ofString "ways") = some b) (h3 : m (Str.ofString "due") = some c) (h4 : m (Str.ofString "marks") = some d) {v1 v2 : Value} :
    ∀ z, (fun y => if y = Str.ofString "sign" then some v1 else if y = Str.ofString "place" then some v2 else m y) z = (fun y => if y = Str.ofString "sign" then some v1 else if y = Str.ofString "place" then some v2 else if y = Str.ofString "word" then some e else if y = Str.ofString "rest" then some f else if y = Str.ofString "words" then some a else if y = Str.ofString "ways" then some b else if y = Str.ofString "due" then some c else if y = Str.ofString "marks" then some d else m y) z := by
  intro z
  show (if z = Str.ofString "sign" then some v1 else if z = Str.ofString "place" then some v2 else m z) = (if z = Str.ofString "sign" then some v1 else if z = Str.ofString "place" then some v2 else if z = Str.ofString "word" then some e else if z = Str.ofString "rest" then some f else if z = Str.ofString "words" then some a else if z = Str.ofString "ways" then some b else if z = Str.ofString "due" then some c else if z = Str.ofString "marks" then some d else m z)
  split
  · rfl
  split
  · rfl
  split
  · subst z; exact h5
  split
  · subst z; exact h6
  split
  · subst z; exact h1
  split
  · subst z; exact h2
  split
  · subst z; exact h3
  split
  · subst z; exact h4
  rfl
theorem stor_ne {z : Str} (h : stor.contains z = false) : z ≠ Str.ofString "word" ∧ z ≠ Str.ofString "rest" ∧ z ≠ Str.ofString "name" ∧ z ≠ Str.ofString "cuts" ∧ z ≠ Str.ofString "place" ∧ z ≠ Str.ofString "sign" := by
  simp only [List.contains_cons, List.contains_nil, Bool.or_false, Bool.or_eq_false_iff, beq_eq_false_iff_ne, ne_eq] at h
  exact h
theorem stor_turn {m m0 : Str → Option Value} {v1 v2 : Value} (g1 : ∀ z, stor.contains z = false → m z = m0 z) : ∀ z, stor.contains z = false → (fun y => if y = Str.ofString "sign" then some v1 else if y = Str.ofString "place" then some v2 else m y) z = m0 z := fun z hz => by
  obtain ⟨_, _, _, _, h5, h6⟩ := stor_ne hz
  show (if z = Str.ofString "sign" then some v1 else if z = Str.ofString "place" then some v2 else m z) = m0 z
  rw [if_neg h6, if_neg h5]; exact g1 z hz
theorem stor_body {m m0 : Str → Option Value} {v1 v2 v3 v4 : Value} (g1 : ∀ z, stor.contains z = false → m z = m0 z) : ∀ z, stor.contains z = false → (if z = Str.ofString "cuts" then some v1 else if z = Str.ofString "name" then some v2 else if z = Str.ofString "rest" then some v3 else if z = Str.ofString "word" then some v4 else m z) = m0 z := fun z hz => by
  obtain ⟨h1, h2, h3, h4, _, _⟩ := stor_ne hz
  rw [if_neg h4, if_neg h3, if_neg h2, if_neg h1]; exact g1 z hz
structure US where
  ts : List (Str × Str)
  refs : List Value
  tups : List (Addr × Obj)
  n : Nat
  due : List (Str × Int)
  ob : Obj
variable {w : World} {mg mb : Str → Option Value} {A : Around} {s : Shared} {R : Result → Shared → Prop}
local macro_rules | `(tactic| walk_at "pyIter ref") => `(tactic| refine stop_ ?_)
local macro_rules | `(tactic| walk_at "exec While") => `(tactic| refine stop_ ?_)
local macro_rules | `(tactic| walk_at "exec For Tuple Call") => `(tactic| refine stop_ ?_)
local macro_rules | `(tactic| walk_at "eval ListComp") => `(tactic| refine stop_ ?_)
local macro_rules | `(tactic| walk_at "call ref") => `(tactic| (k_here; k_dflt (first
  | (refine' call_orders_list ?F ?N ?l ?s ?z ?h ?k ?x ?r ?_; (case F => k_asm); (case N => k_asm); (case l => kmk_list); (case s => assumption); (case z => first | assumption | omega); (case h => assumption); (case k => assumption); (case x => assumption); (case r => exact Lv.up (Lv.ab (k := 1) (by decide)) (by decide)))
  | (refine' call_orders_str ?F ?N ?z ?h ?k ?x ?r ?_; (case F => k_asm); (case N => k_asm); (case z => first | assumption | omega); (case h => assumption); (case k => assumption); (case x => assumption); (case r => exact Lv.up (Lv.ab (k := 1) (by decide)) (by decide)))); intro _ _ _ _ _))
local macro_rules | `(tactic| walk_at "truthy ref") => `(tactic| refine stop_ ?_)
local macro_rules | `(tactic| walk_at "getMethod ref") => `(tactic| (k_here; k_dflt (refine' cnt_meth ?N ?hp ?hc ?_; (case N => k_asm); (case hp => repeat (first | exact List.Mem.head _ | refine List.Mem.tail _ ?_ | refine List.mem_append_right _ ?_)); (case hc => assumption))))
local macro_rules | `(tactic| walk_at "call builtin:dict.get") => `(tactic| (k_here; k_dflt (refine' cnt_get ?N ?hp ?lo ?hc ?_; (case N => k_asm); (case hp => repeat (first | exact List.Mem.head _ | refine List.Mem.tail _ ?_ | refine List.mem_append_right _ ?_)); (case lo => assumption); (case hc => assumption)); intro _))
local macro_rules | `(tactic| walk_at "call type:enumerate") => `(tactic| refine stop_ ?_)
local macro_rules | `(tactic| walk_at "call builtin:list.pop") => `(tactic| refine stop_ ?_)
local macro_rules | `(tactic| walk_at "call builtin:list.append") => `(tactic| refine stop_ ?_)
local macro_rules | `(tactic| walk_at "setItem ref str") => `(tactic| refine stop_ ?_)
local macro_rules | `(tactic| walk_at "call builtin:str.join") => `(tactic| (k_here; k_dflt (refine' join_cps ?l ?hs ?z ?_; (case l => kmk_list); (case hs => assumption); (case z => first | assumption | omega)); intro _ _))
theorem map4 {m : Str → Option Value} {a b c d : Value} (h1 : m (Str.ofString "words") = some a) (h2 : m (Str.ofString "ways") = some b) (h3 : m (Str.ofString "due") = some c) (h4 : m (Str.ofString "marks") = some d) :
    ∀ z, m z = (fun y => if y = Str.ofString "words" then some a else if y = Str.ofString "ways" then some b else if y = Str.ofString "due" then some c else if y = Str.ofString "marks" then some d else m y) z := by
  intro z
  show _ = (if z = Str.ofString "words" then some a else if z = Str.ofString "ways" then some b else if z = Str.ofString "due" then some c else if z = Str.ofString "marks" then some d else m z)
  split
  · subst z; exact h1
  split
  · subst z; exact h2
  split
  · subst z; exact h3
  split
  · subst z; exact h4
  rfl
theorem spec_due {l fd : Addr} {vs : List Value} {as : List Str} {sg : Str} {tg : Tok} {fc : List (Str × Str)} (hl : s.heap.IsList l vs.toArray) (hs : StrsAre vs as) (hn : as.length ≤ 7) (hn1 : 1 ≤ as.length) (hc1 : (cpsOf (as.filter fun a => !inS sg a)).length ≤ 5) (hc2 : (cpsOf (as.filter fun a => !inS sg a)).length + (as.filter (inS sg)).length ≤ 7) (hf : StrTab prog w s.heap fd (foldD fc)) (hfl : ∀ p ∈ fc, p.2.length ≤ 10) (hrow : lawRow = lawRow) (B : Base w mg mb s.heap) (hr : Lv 2 A) (h : ∀ s' D ob due, Ext s s' → s'.heap.get? D = some ob → s.heap.get? D = none → (D == sysModules) = false → Cnt prog w ob due → DueR (nameW fc) (gOf (as.filter (inS sg))) [(Str.ofString "", ⟨(cpsOf (as.filter fun a => !inS sg a)).toArray⟩)] [] due → R (.ok (.ret (.ref D))) s') : codeAny (model prog w) A (.call (.ref 144) ⟨[.ref l, .str sg tg, .ref fd], []⟩) R s := by
  refine call_fnC (i := 17) (binds := [("row", .ref l), ("signs", .str sg tg), ("folds", .ref fd)]) 2 rfl (at_due _) B hr (fun _ _ => rfl) ?_ (by decide) ?_ rfl rfl rfl
  · intro x hx
    rcases List.mem_cons.mp hx with rfl | hx
    · exact .inl rfl
    · rcases List.mem_cons.mp hx with rfl | hx
      · exact .inr ⟨rfl, rfl⟩
      · rw [List.mem_singleton.mp hx]; exact .inr ⟨rfl, rfl⟩
  intro cd h₁ tk cells Q hQ F N Y KX TX
  k_cells Y
  rename_i oF oS dF dS
  replace dF : oF.data = .cell (some (.ref fd)) := dF
  replace dS : oS.data = .cell (some (.str sg tg)) := dS
  revert hrow KX; k_fill; intro hrow KX
  have hm7 : (as.filter (inS sg)).length ≤ 7 := Nat.le_trans (List.length_filter_le _ _) hn
  walk1
  k_here
  rename Fr _ _ _ _ => F0
  rename News _ _ _ _ => N0
  refine' comp_inA F0 N0 dS ?hin rfl rfl rfl rfl rfl rfl rfl ?hcell rfl ?hnames rfl (fun _ => rfl) (fun _ => rfl) (fun _ => rfl) ?_ ?hs
  case hin => simp
  case hcell => decide
  case hnames => decide
  case hs => exact fun _ => rfl
  walk1
  rename Fr _ _ _ _ => F1
  rename News _ _ _ _ => N1
  refine' ⟨as, .inl ⟨l, vs, rfl, ?_, hs⟩, by omega, F1, N1, ?_⟩
  · exact F1.lst hl
  intro D1 ys1 n1 h1' tk1' F2 N2 l2 hI2
  k_steps
  unfold Stop
  k_here
  rename Fr _ _ _ _ => F3
  rename News _ _ _ _ => N3
  refine' comp_notin F3 N3 dS ?hin rfl rfl rfl ?hcell rfl ?hnames rfl (fun _ => rfl) (fun _ => rfl) (fun _ => rfl) ?_ ?hs
  case hin => simp
  case hcell => decide
  case hnames => decide
  case hs => exact fun _ => rfl
  walk1
  rename Fr _ _ _ _ => F4
  rename News _ _ _ _ => N4
  refine' ⟨as, .inl ⟨l, vs, rfl, ?_, hs⟩, by omega, F4, N4, ?_⟩
  · exact F4.lst hl
  intro D2 ys2 n2 h2' tk2' F5 N5 l5 hI5
  k_steps
  unfold Stop
  rename Fr _ _ _ _ => F6
  rename News _ _ _ _ => N6
  rename_i tw9 d9 h99 o9 lo9 hs9 fs9 hi9 fi9 l19 D9 h98 l18 h97a h97b h97c tk9 tj9 kj9 D8 h94 l17 W9 h93 l16 h92
  generalize hm0 : (fun y => if y = Str.ofString "words" then some (Value.ref W9) else _) = m0 at F6
  have q1 : m0 (Str.ofString "words") = some (.ref W9) := by rw [← hm0]; rfl
  have q2 : m0 (Str.ofString "ways") = some (.int (ordersOf (as.filter (inS sg))) tw9) := by rw [← hm0]; rfl
  have q3 : m0 (Str.ofString "due") = some (.ref d9) := by rw [← hm0]; rfl
  have q4 : m0 (Str.ofString "marks") = some (.ref D1) := by rw [← hm0]; rfl
  clear hm0
  have h99' : (d9 == sysModules) = false := lo9
  refine ksw_while (σ := US) (fun c => (W9, W.listOf c.refs.toArray c.n) :: (d9, c.ob) :: (D1, W.listOf ys1.toArray n1) :: (s.heap.objs.size + 1 + 1, oF) :: (s.heap.objs.size + 1, oS) :: c.tups) (fun _ => []) (fun c => Tups c.ts c.refs c.tups ∧ Cnt prog w c.ob c.due) stor
    (fun c => DueR (nameW fc) (gOf (as.filter (inS sg))) [(Str.ofString "", ⟨(cpsOf (as.filter fun a => !inS sg a)).toArray⟩)] c.ts c.due ∧ nodesOf c.ts + c.due.length ≤ 326 ∧ ∀ q ∈ c.ts, q.1.length + q.2.length ≤ 5 ∧ q.2.length + (as.filter (inS sg)).length ≤ 7) (fun c => nodesOf c.ts)
    ⟨[(Str.ofString "", ⟨(cpsOf (as.filter fun a => !inS sg a)).toArray⟩)], [.ref D8], [(D8, tupO (Str.ofString "") ⟨(cpsOf (as.filter fun a => !inS sg a)).toArray⟩ tk9 tj9)], 0, [], o9⟩ F6 (N6.perm ?_) ⟨Tups.snoc D8 .nil, _, hs9, fs9⟩ (fun p hp => (nomatch hp)) ⟨.start, ?_, ?_⟩ ?_
  · intro p hp
    simp only [List.mem_cons, List.not_mem_nil, or_false] at hp ⊢
    rcases hp with rfl | rfl | rfl | rfl | rfl | rfl <;> simp
  · show nodesOf [(Str.ofString "", (⟨(cpsOf (as.filter fun a => !inS sg a)).toArray⟩ : Str))] + 0 ≤ 326
    have h1 : (⟨(cpsOf (as.filter fun a => !inS sg a)).toArray⟩ : Str).length = (cpsOf (as.filter fun a => !inS sg a)).length := by show (cpsOf _).toArray.size = _; simp
    have h2 : ∀ r, r ≤ 5 → nodes r ≤ 326 := by decide
    have h3 := h2 _ hc1
    rw [← h1] at h3
    simpa [nodesOf] using h3
  · intro q hq
    rw [List.mem_singleton.mp hq]
    have h1 : (⟨(cpsOf (as.filter fun a => !inS sg a)).toArray⟩ : Str).length = (cpsOf (as.filter fun a => !inS sg a)).length := by show (cpsOf _).toArray.size = _; simp
    have h0 : (Str.ofString "").length = 0 := rfl
    constructor
    · show (Str.ofString "").length + (⟨(cpsOf (as.filter fun a => !inS sg a)).toArray⟩ : Str).length ≤ 5
      rw [h1, h0]; omega
    · show (⟨(cpsOf (as.filter fun a => !inS sg a)).toArray⟩ : Str).length + (as.filter (inS sg)).length ≤ 7
      rw [h1]; omega
  · rintro ⟨ts, refs, tups, n, due, ob⟩ u h1 tk1 ⟨hT, hC⟩ ⟨hR, hz, hq⟩ F N
    simp only at hT hC hR hz hq N
    generalize hM : kstB (fun z => if stor.contains z then u z else m0 z) [] = M at F
    have hM0 : ∀ z, stor.contains z = false → M z = m0 z := fun z hz => by
      rw [← hM]
      show (if stor.contains z = true then u z else m0 z) = m0 z
      rw [hz]; rfl
    clear hM
    replace F := Fr_eq (m' := fun y => if y = Str.ofString "words" then some (Value.ref W9) else if y = Str.ofString "ways" then some (.int (ordersOf (as.filter (inS sg))) tw9) else if y = Str.ofString "due" then some (.ref d9) else if y = Str.ofString "marks" then some (.ref D1) else M y) F (map4 ((hM0 (Str.ofString "words") (by decide)).trans q1) ((hM0 (Str.ofString "ways") (by decide)).trans q2) ((hM0 (Str.ofString "due") (by decide)).trans q3) ((hM0 (Str.ofString "marks") (by decide)).trans q4))
    clear F6 N6
    revert F N
    repeat (rename Fr _ _ _ _ => Fz; clear Fz)
    repeat (rename News _ _ _ _ => Nz; clear Nz)
    intro F N
    k_steps
    unfold Stop
    rename Fr _ _ _ _ => F7
    rename News _ _ _ _ => N7
    have hzt := ts_le_nodes ts
    have hlen := hT.length
    refine wpAny_truthy_list (N7.isList (.head _)) (by simp only [List.size_toArray]; omega) ?_
    by_cases hts : ts = []
    · have hr0 : refs = [] := List.eq_nil_of_length_eq_zero (by rw [hlen, hts]; rfl)
      rw [show (!(List.toArray refs).isEmpty) = false by rw [hr0]; rfl]
      k_steps
      rename Fr _ _ _ _ => F30
      rename News _ _ _ _ => N30
      subst hts
      exact hQ _ _ (h _ d9 ob due ⟨_, _, rfl, F30.keep⟩ (N30.get (.tail _ (.head _))) (N30.fresh (.tail _ (.head _))) h99' hC hR)
    · obtain ⟨ts', a, b, refs', T, t, u, tups', rfl, rfl, rfl, hT'⟩ := hT.last hts
      rw [show (!(List.toArray (refs' ++ [Value.ref T])).isEmpty) = true by simp]
      obtain ⟨hq1, hq2⟩ := hq (a, b) (by simp)
      simp only at hq1 hq2
      k_steps
      unfold Stop
      rename Fr _ _ _ _ => F8
      rename News _ _ _ _ => N8
      have hne : refs' ++ [Value.ref T] ≠ [] := by simp
      refine pop_mine ((d9, ob) :: (D1, W.listOf ys1.toArray n1) :: (s.heap.objs.size + 1 + 1, oF) :: (s.heap.objs.size + 1, oS) :: (T, tupO a b t u) :: tups') F8 N8 (.head _) (fun p hp => .tail _ hp) ?_ (by omega) hne ?_
      · intro p hp
        rcases List.mem_cons.mp hp with rfl | hp
        · exact Nat.ne_of_lt l16.2.2.2.1
        rcases List.mem_cons.mp hp with rfl | hp
        · exact Nat.ne_of_lt l16.2.2.2.2.1
        rcases List.mem_cons.mp hp with rfl | hp
        · exact Nat.ne_of_lt l16.2.2.2.2.2.1
        rcases List.mem_cons.mp hp with rfl | hp
        · exact Nat.ne_of_lt l16.2.2.2.2.2.2
        · obtain ⟨a', b', t', u', e⟩ := hT.objs p hp
          exact tup_apart N8 (.head _) (.tail _ (.tail _ (.tail _ (.tail _ (.tail _ hp))))) e
      intro h9' us9 hu9 F10 N10
      rw [show (refs' ++ [Value.ref T]).getLast hne = .ref T by simp]
      replace hu9 : us9 = refs' := by rw [hu9]; simp
      subst hu9
      clear F8 N8
      revert F10 N10
      repeat (rename Fr _ _ _ _ => Fz; clear Fz)
      repeat (rename News _ _ _ _ => Nz; clear Nz)
      intro F10 N10
      k_steps
      unfold Stop
      k_here
      rename Fr _ _ _ _ => F11
      rename News _ _ _ _ => N11
      refine' comp_gets F11 N11 hf dF ?hin rfl rfl rfl ?hcell rfl ?hnames rfl (fun _ => rfl) (fun _ => rfl) (fun _ => rfl) ?hcall ?_ ?hs
      case hin => simp
      case hcell => decide
      case hnames => decide
      case hcall => exact fun C => ⟨_, fun Q' E' s₂ h => MethodCall_ h⟩
      case hs => exact fun _ => rfl
      walk1
      rename Fr _ _ _ _ => F12
      rename News _ _ _ _ => N12
      refine' ⟨signs a, .inr ⟨a, _, rfl, rfl⟩, ?_, F12, N12, ?_⟩
      · rw [signs_length]; omega
      intro D3 ys3 n3 h3' tk3' F13 N13 l13 hI13
      revert F13 N13
      repeat (rename Fr _ _ _ _ => Fz; clear Fz)
      repeat (rename News _ _ _ _ => Nz; clear Nz)
      intro F13 N13
      have hnz : (cpsOf ((signs a).map (foldG fc))).length ≤ 100 := by
        have h1 := cps_fold hfl (signs a)
        rw [signs_length] at h1
        omega
      have hb1 := ord_bd (signs b) (by rw [signs_length]; omega)
      have hb2 := ord_bd (signs (Txt.mul (Str.ofString "a") (b.length : Nat) ++ Txt.mul (Str.ofString ".") (((as.filter (inS sg)).length : Nat) - 1 : Int))) (by rw [signs_cuts]; simp only [List.length_append, List.length_replicate]; omega)
      k_steps
      unfold Stop
      k_here
      rename Fr _ _ _ _ => F14
      rename News _ _ _ _ => N14
      refine cnt_set (c := due) ((D3, W.listOf ys3.toArray n3) :: (W9, W.listOf us9.toArray (n + 1)) :: (D1, W.listOf ys1.toArray n1) :: (s.heap.objs.size + 1 + 1, oF) :: (s.heap.objs.size + 1, oS) :: (T, tupO a b t u) :: tups') F14 N14 ?_ ?_ ?_ hC ?_ ?_
      · simp
      · intro p hp
        simp only [List.mem_cons] at hp ⊢
        rcases hp with rfl | rfl | rfl | rfl | rfl | rfl | hp <;> simp [*]
      · intro p hp
        rcases List.mem_cons.mp hp with rfl | hp
        · exact fun e => l13 (d9, ob) (by simp) e.symm
        rcases List.mem_cons.mp hp with rfl | hp
        · exact Nat.ne_of_gt l16.2.2.2.1
        rcases List.mem_cons.mp hp with rfl | hp
        · exact Nat.ne_of_lt l19.1
        rcases List.mem_cons.mp hp with rfl | hp
        · exact Nat.ne_of_lt l19.2.1
        rcases List.mem_cons.mp hp with rfl | hp
        · exact Nat.ne_of_lt l19.2.2
        · obtain ⟨a', b', t', u', e⟩ := hT.objs p hp
          refine N14.twoPlaces (p := p) (q := (d9, ob)) (by simp only [List.mem_cons] at hp ⊢; rcases hp with hp | hp <;> simp [hp]) (by simp) ?_
          rw [e]; exact fun e2 => hC.ne_tup e2.symm
      · omega
      intro h15 ob15 F15 N15 c15
      revert F15 N15
      repeat (rename Fr _ _ _ _ => Fz; clear Fz)
      repeat (rename News _ _ _ _ => Nz; clear Nz)
      intro F15 N15
      k_steps
      unfold Stop
      k_here
      rename Fr _ _ _ _ => F16
      rename News _ _ _ _ => N16
      refine' For_pairV F16 rfl rfl rfl rfl ?_ (fun _ => rfl)
      k_steps
      unfold Stop
      rename Fr _ _ _ _ => F17
      rename News _ _ _ _ => N17
      refine call_enumerate_str fun h18 he18 hit18 hsz18 hk18 => ?_
      have F18 := F17.keeps hk18
      have N18 := N17.grown hk18
      have hLs : s.heap.objs.size < _ := F17.ns.lt
      have hoff18 : ∀ p ∈ (W9, W.listOf us9.toArray (n + 1)) :: (d9, ob15) :: (D1, W.listOf ys1.toArray n1) :: (s.heap.objs.size + 1 + 1, oF) :: (s.heap.objs.size + 1, oS) :: tups', p.1 < _ := fun p hp => Heap.lt_size (N17 p (by
        simp only [List.mem_cons] at hp ⊢
        rcases hp with rfl | rfl | rfl | rfl | rfl | hp <;> simp [*])).1
      have N19 := N18.perm (news' := (W9, W.listOf us9.toArray (n + 1)) :: (d9, ob15) :: (D1, W.listOf ys1.toArray n1) :: (s.heap.objs.size + 1 + 1, oF) :: (s.heap.objs.size + 1, oS) :: tups') (fun p hp => by
        simp only [List.mem_cons] at hp ⊢
        rcases hp with rfl | rfl | rfl | rfl | rfl | hp <;> simp [*])
      clear N18 N17
      k_steps
      unfold Stop
      refine enum_str_inv (news := (W9, W.listOf us9.toArray (n + 1)) :: (d9, ob15) :: (D1, W.listOf ys1.toArray n1) :: (s.heap.objs.size + 1 + 1, oF) :: (s.heap.objs.size + 1, oS) :: tups') (fun i m news => ∃ refs2 tups2 n2, (∀ z, stor.contains z = false → m z = m0 z) ∧ m (Str.ofString "word") = some (.str a t) ∧ m (Str.ofString "rest") = some (.str b u) ∧ Tups (ts' ++ pushN a b i) refs2 tups2 ∧ news = (W9, W.listOf refs2.toArray n2) :: (d9, ob15) :: (D1, W.listOf ys1.toArray n1) :: (s.heap.objs.size + 1 + 1, oF) :: (s.heap.objs.size + 1, oS) :: tups2)
        rfl he18 hit18 ?_ ?_ ?_ ?_ ?_ ?_ F18 N19 ⟨us9, tups', n + 1, ?_, rfl, rfl, ?_, rfl⟩ ?_ ?_
      · exact Nat.succ_ne_self _
      · exact Nat.ne_of_lt (Nat.lt_succ_of_lt hLs)
      · exact Nat.ne_of_lt hLs
      · exact Heap.get?_none_of_le (Nat.le_of_lt (Nat.lt_succ_of_lt hLs))
      · exact Heap.get?_none_of_le (Nat.le_of_lt hLs)
      · intro p hp hm
        have := hoff18 p hp
        rcases List.mem_cons.mp hm with e | hm
        · exact absurd (e ▸ this) (Nat.not_lt.mpr (Nat.le_succ _))
        · exact absurd ((List.mem_singleton.mp hm) ▸ this) (Nat.lt_irrefl _)
      · exact stor_body fun z hz => ((map4 ((hM0 (Str.ofString "words") (by decide)).trans q1) ((hM0 (Str.ofString "ways") (by decide)).trans q2) ((hM0 (Str.ofString "due") (by decide)).trans q3) ((hM0 (Str.ofString "marks") (by decide)).trans q4)) z).symm.trans (hM0 z hz)
      · show Tups (ts' ++ []) _ _
        rw [List.append_nil]; exact hT'
      · clear F18 F17
        rintro i c ti u2 m₁ news₁ h19 tk19 own hc ⟨refs2, tups2, n2, g1, g2, g3, g4, rfl⟩ hnw hown hsub F N
        replace F := Fr_eq F (mapWR g2 g3 ((g1 (Str.ofString "words") (by decide)).trans q1) ((g1 (Str.ofString "ways") (by decide)).trans q2) ((g1 (Str.ofString "due") (by decide)).trans q3) ((g1 (Str.ofString "marks") (by decide)).trans q4))
        clear N19
        revert F N
        repeat (rename Fr _ _ _ _ => Fz; clear Fz)
        repeat (rename News _ _ _ _ => Nz; clear Nz)
        intro F N
        have hi5 : i < b.cps.size := (Array.getElem?_eq_some_iff.mp hc).1
        have hpl := pushN_len a b i
        have hg4 := g4.length
        have hb5 : b.length = b.cps.size := rfl
        rw [List.length_append] at hg4
        have hts5 : ts'.length ≤ 326 := by rw [List.length_append] at hzt; omega
        k_steps
        · rename (Builtin.Str.occurrences _ _ _ _ _).isEmpty = true => hoc
          have hinf : inS (Txt.slice b none (some (i : Int))) ⟨#[c]⟩ = false := by unfold inS; rw [hoc]; rfl
          have epush : pushN a b (i + 1) = pushN a b i ++ [(a ++ ⟨#[c]⟩, Txt.slice b none (some (i : Int)) ++ Txt.slice b (some ((i : Int) + 1)) none)] := by
            show pushN a b i ++ _ = _
            rw [hc]; simp only; rw [hinf]; rfl
          unfold Stop
          rename_i tA kA aA hA2 tA2 kA2 FA2 NA2 aA2 hP tP kP FP NP aP tB kB aB hB F20 N20 hkB xB nmB
          refine' append_mine (us := refs2) (n := n2) ((_, tupO (a ++ ⟨#[c]⟩) (Txt.slice b none (some (i : Int)) ++ Txt.slice b (some ((i : Int) + 1)) none) tA tB) :: (d9, ob15) :: (D1, W.listOf ys1.toArray n1) :: (s.heap.objs.size + 1 + 1, oF) :: (s.heap.objs.size + 1, oS) :: (tups2 ++ own)) F20 N20 ?hm ?hk ?hne ?hz ?h
          case hk =>
            intro p hp
            rcases List.mem_cons.mp hp with rfl | hp
            · exact .head _
            refine .tail _ ?_
            rcases List.mem_cons.mp hp with rfl | hp
            · exact List.mem_append_right _ (.tail _ (.head _))
            rcases List.mem_cons.mp hp with rfl | hp
            · exact List.mem_append_right _ (.tail _ (.tail _ (.head _)))
            rcases List.mem_cons.mp hp with rfl | hp
            · exact List.mem_append_right _ (.tail _ (.tail _ (.tail _ (.head _))))
            rcases List.mem_cons.mp hp with rfl | hp
            · exact List.mem_append_right _ (.tail _ (.tail _ (.tail _ (.tail _ (.head _)))))
            rcases List.mem_append.mp hp with hp | hp
            · exact List.mem_append_right _ (.tail _ (.tail _ (.tail _ (.tail _ (.tail _ hp)))))
            · exact List.mem_append_left _ hp
          case hm => exact .tail _ (List.mem_append_right _ (.head _))
          case hz => omega
          case hne =>
            intro p hp
            rcases List.mem_cons.mp hp with rfl | hp
            · exact tup_apart N20 (W := W9) (xs := refs2.toArray) (n := n2) (by simp) (.head _) rfl
            rcases List.mem_cons.mp hp with rfl | hp
            · exact Nat.ne_of_lt l16.2.2.2.1
            rcases List.mem_cons.mp hp with rfl | hp
            · exact Nat.ne_of_lt l16.2.2.2.2.1
            rcases List.mem_cons.mp hp with rfl | hp
            · exact Nat.ne_of_lt l16.2.2.2.2.2.1
            rcases List.mem_cons.mp hp with rfl | hp
            · exact Nat.ne_of_lt l16.2.2.2.2.2.2
            rcases List.mem_append.mp hp with hp | hp
            · obtain ⟨a', b', t', u', e⟩ := g4.objs p hp
              exact tup_apart N20 (W := W9) (xs := refs2.toArray) (n := n2) (by simp) (.tail _ (List.mem_append_right _ (.tail _ (.tail _ (.tail _ (.tail _ (.tail _ hp))))))) e
            · exact fun e => hnw (W9, W.listOf refs2.toArray n2) (.head _) (e ▸ hsub p hp)
          case h =>
            intro h21 us21 hu21 F21 N21
            k_steps
            rename Fr _ _ _ _ => F22
            rename News _ _ _ _ => N22
            subst hu21
            refine' TurnEndV.next (news' := (W9, W.listOf (refs2 ++ [Value.ref ?T9]).toArray (n2 + 1)) :: (d9, ob15) :: (D1, W.listOf ys1.toArray n1) :: (s.heap.objs.size + 1 + 1, oF) :: (s.heap.objs.size + 1, oS) :: (?T9, tupO (a ++ ⟨#[c]⟩) (Txt.slice b none (some (i : Int)) ++ Txt.slice b (some ((i : Int) + 1)) none) tA tB) :: tups2) F22 (N22.perm ?np) ?off ⟨_, _, n2 + 1, fun z hz => (mapWR g2 g3 ((g1 (Str.ofString "words") (by decide)).trans q1) ((g1 (Str.ofString "ways") (by decide)).trans q2) ((g1 (Str.ofString "due") (by decide)).trans q3) ((g1 (Str.ofString "marks") (by decide)).trans q4) z).symm.trans (stor_turn g1 z hz), rfl, rfl, ?tp, rfl⟩
            case np =>
              intro p hp
              rcases List.mem_append.mp hp with hp | hp
              · exact .tail _ (.tail _ (.tail _ (.tail _ (.tail _ (.tail _ (List.mem_append_right _ hp))))))
              rcases List.mem_cons.mp hp with rfl | hp
              · exact .head _
              rcases List.mem_cons.mp hp with rfl | hp
              · exact .tail _ (.tail _ (.head _))
              rcases List.mem_cons.mp hp with rfl | hp
              · exact .tail _ (.tail _ (.tail _ (.head _)))
              rcases List.mem_cons.mp hp with rfl | hp
              · exact .tail _ (.tail _ (.tail _ (.tail _ (.head _))))
              rcases List.mem_cons.mp hp with rfl | hp
              · exact .tail _ (.tail _ (.tail _ (.tail _ (.tail _ (.head _)))))
              rcases List.mem_cons.mp hp with rfl | hp
              · exact .tail _ (.head _)
              · exact .tail _ (.tail _ (.tail _ (.tail _ (.tail _ (.tail _ (List.mem_append_left _ hp))))))
            case tp => rw [epush, ← List.append_assoc]; exact g4.snoc _
            case off =>
              intro p hp
              rcases List.mem_cons.mp hp with rfl | hp
              · exact hnw (W9, W.listOf refs2.toArray n2) (.head _)
              rcases List.mem_cons.mp hp with rfl | hp
              · exact hnw _ (.tail _ (.head _))
              rcases List.mem_cons.mp hp with rfl | hp
              · exact hnw _ (.tail _ (.tail _ (.head _)))
              rcases List.mem_cons.mp hp with rfl | hp
              · exact hnw _ (.tail _ (.tail _ (.tail _ (.head _))))
              rcases List.mem_cons.mp hp with rfl | hp
              · exact hnw _ (.tail _ (.tail _ (.tail _ (.tail _ (.head _)))))
              rcases List.mem_cons.mp hp with rfl | hp
              · intro hm
                obtain ⟨o, ho⟩ := hown _ hm
                exact absurd (Heap.lt_size (NP _ (List.mem_append_left _ ho)).1) (Nat.lt_irrefl _)
              · exact hnw _ (.tail _ (.tail _ (.tail _ (.tail _ (.tail _ hp)))))
        · rename (Builtin.Str.occurrences _ _ _ _ _).isEmpty = false => hoc
          have hinf : inS (Txt.slice b none (some (i : Int))) ⟨#[c]⟩ = true := by unfold inS; rw [hoc]; rfl
          have epush : pushN a b (i + 1) = pushN a b i := by
            show pushN a b i ++ _ = _
            rw [hc]; simp only; rw [hinf]; simp
          rename Fr _ _ _ _ => F22
          rename News _ _ _ _ => N22
          refine TurnEndV.next (news' := (W9, W.listOf refs2.toArray n2) :: (d9, ob15) :: (D1, W.listOf ys1.toArray n1) :: (s.heap.objs.size + 1 + 1, oF) :: (s.heap.objs.size + 1, oS) :: tups2) F22 N22 hnw ⟨refs2, tups2, n2, fun z hz => (mapWR g2 g3 ((g1 (Str.ofString "words") (by decide)).trans q1) ((g1 (Str.ofString "ways") (by decide)).trans q2) ((g1 (Str.ofString "due") (by decide)).trans q3) ((g1 (Str.ofString "marks") (by decide)).trans q4) z).symm.trans (stor_turn g1 z hz), rfl, rfl, by rw [epush]; exact g4, rfl⟩
      · rintro m₁ news₁ h19 tk19 ⟨refs2, tups2, n2, g1, g2, g3, g4, rfl⟩ F N
        k_steps
        have hpn := pushN_nodes a b
        have hlen2 := kdpPut_len due (nameW fc a) (kdpLook due (nameW fc a) 0 + gOf (as.filter (inS sg)) b)
        have hnz2 : nodesOf (ts' ++ [(a, b)]) = nodesOf ts' + nodes b.length := nodesOf_app _ _
        have hnz3 := nodesOf_app ts' (pushN a b b.cps.size)
        refine ksw_end ⟨ts' ++ pushN a b b.cps.size, refs2, tups2, n2, kdpPut due (nameW fc a) (kdpLook due (nameW fc a) 0 + gOf (as.filter (inS sg)) b), ob15⟩ F N (fun p hp => hp) ⟨g4, c15⟩ (fun p hp => (nomatch hp)) (fun z _ hz => g1 z hz) ⟨DueR.step hR, ?_, ?_⟩ ?_
        · show nodesOf (ts' ++ pushN a b b.cps.size) + (kdpPut due (nameW fc a) (kdpLook due (nameW fc a) 0 + gOf (as.filter (inS sg)) b)).length ≤ 326
          omega
        · intro q hq'
          rcases List.mem_append.mp hq' with hq' | hq'
          · exact hq q (List.mem_append_left _ hq')
          · obtain ⟨e1, e2⟩ := pushN_mem a b _ (Nat.le_refl _) q hq'
            omega
        · show nodesOf (ts' ++ pushN a b b.cps.size) < nodesOf (ts' ++ [(a, b)])
          omega
end Mine
end
section
open PySem PySem.W PyProof.Rows PySem.Calls PyProof.V
set_option maxRecDepth 100000
set_option maxHeartbeats 2000000
namespace Mine
section
variable {w : World} {mg mb : Str → Option Value} {A : Around} {E : Value → Shared → Prop} {s : Shared} {env : Env} {scope : Scope} {cl : List (Str × Addr)} {C : Addr}
theorem ldGC {x : Str} {pos : Pos} {v : Value} {Q : Value → Shared → Prop} (X : (KK w.params).In s.heap) (T : TopRead qq lz' mg mb s.heap) (e : nsIn (KK w.params) mainGlobals x = some (some v)) (h : Q v s) (hg : env.globals = mainGlobals) (hk : (compEnvC scope cl C env).scope.kind = .function) (hx : (compEnvC scope cl C env).kindOf x = some .globalImplicit) (hd : (x == ("__debug__" : Str)) = false := by decide) :
    wpAny (model prog w) A (eval (.Name x pos) (compEnvC scope cl C env)) Q E s :=
  Name_function_global hk hx (loadGlobal_global (env := compEnvC scope cl C env) (show s.heap.Ns env.globals mg from hg ▸ T.g) (mg_of X T.g e) h) hd
theorem ldBC {x : Str} {pos : Pos} {v : Value} {Q : Value → Shared → Prop} (X : (KK w.params).In s.heap) (T : TopRead qq lz' mg mb s.heap) (e : nsIn (KK w.params) mainGlobals x = some none) (hv : bootBuiltins x = some v) (hn : x ≠ "__name__") (h : Q v s) (hg : env.globals = mainGlobals) (hb : env.builtins = builtinsNs) (hk : (compEnvC scope cl C env).scope.kind = .function) (hx : (compEnvC scope cl C env).kindOf x = some .globalImplicit) (hd : (x == ("__debug__" : Str)) = false := by decide) :
    wpAny (model prog w) A (eval (.Name x pos) (compEnvC scope cl C env)) Q E s :=
  Name_function_global hk hx (loadGlobal_builtin (env := compEnvC scope cl C env) (show s.heap.Ns env.globals mg from hg ▸ T.g) (mg_none_of X T.g e) (show s.heap.Ns env.builtins mb from hb ▸ T.b) ((T.builtins x hn).trans hv) h) hd
end
theorem g_b1 (P : Params) : nsIn (KK P) mainGlobals (Str.ofString "in_table_b1") = some (some (.ref 53)) := by kernel_rfl
theorem g_b3 (P : Params) : nsIn (KK P) mainGlobals (Str.ofString "map_table_b3") = some (some (.ref 99)) := by kernel_rfl
theorem g_int (P : Params) : nsIn (KK P) mainGlobals (Str.ofString "int") = some none := by kernel_rfl
theorem b_int : bootBuiltins (Str.ofString "int") = some (.type "int") := by kernel_rfl
section
variable {w : World} {mg mb : Str → Option Value} {A : Around} {E : Value → Shared → Prop} {s : Shared} {env : Env} {h₀ : Heap} {m : Str → Option Value} {news : List (Addr × Obj)}
theorem elt_int {scope : Scope} {cl : List (Str × Addr)} {C : Addr} {m₂ : Str → Option Value} {p1 p2 p3 p4 p5 p6 p7 : Pos} {n : Int} {u : Tok} {Q : Value → Shared → Prop} (X : (KK w.params).In s.heap) (T : TopRead qq lz' mg mb s.heap) (hg : env.globals = mainGlobals) (hb : env.builtins = builtinsNs) (hk : (compEnvC scope cl C env).scope.kind = .function) (hx : (compEnvC scope cl C env).kindOf (Str.ofString "int") = some .globalImplicit) (hl : (compEnvC scope cl C env).kindOf (Str.ofString "cell") = some .local)
    (hn : s.heap.Ns (compEnvC scope cl C env).locals m₂) (hm : m₂ (Str.ofString "cell") = some (.int n u)) (h : ∀ t k, Q (.int (n.fmod 1000000) t) { s with toks := k }) :
    wpAny (model prog w) A (eval (.BinOp (.Call (.Name "int" p1) [.Name "cell" p2] [] p3) .Mod (.BinOp (.Constant (.int 10) 0 p4) .Pow (.Constant (.int 6) 0 p5) p6) p7) (compEnvC scope cl C env)) Q E s := by
  walk1
  walk1
  refine ldBC X T (g_int _) b_int (by decide) ?_ hg hb hk hx
  walk1
  walk1
  refine ldVarK hn hm ?_ hk hl
  walk1
  walk1
  repeat walk1
  all_goals exact h _ _
/-- the prepared sign -/
noncomputable def foldC (c : Nat) : Str := if decide ((c : Int) ∈ b1List) then Str.ofString "" else b3Val c
theorem keep53 (P : Params) : keepIn (KK P) (.ref 53) = true := by kernel_rfl
theorem keep99 (P : Params) : keepIn (KK P) (.ref 99) = true := by kernel_rfl
theorem val_fold {scope : Scope} {cl : List (Str × Addr)} {C : Addr} {m₂ : Str → Option Value} {p1 p2 p3 p4 p5 p6 p7 p8 : Pos} {c : Nat} {u : Tok} {Q : Value → Shared → Prop} (hrow : lawRow = lawRow) (X : (KK w.params).In s.heap) (T : TopRead qq lz' mg mb s.heap) (hr : Lv 0 A) (hg : env.globals = mainGlobals) (hk : (compEnvC scope cl C env).scope.kind = .function) (hx : (compEnvC scope cl C env).kindOf (Str.ofString "in_table_b1") = some .globalImplicit) (hx2 : (compEnvC scope cl C env).kindOf (Str.ofString "map_table_b3") = some .globalImplicit) (hl : (compEnvC scope cl C env).kindOf (Str.ofString "sign") = some .local)
    (hn : s.heap.Ns (compEnvC scope cl C env).locals m₂) (hm : m₂ (Str.ofString "sign") = some (.str (⟨#[c]⟩ : Str) u)) (h : ∀ t s', Ext s s' → Q (.str (foldC c) t) s') :
    wpAny (model prog w) A (eval (.IfExp (.Call (.Name "in_table_b1" p1) [.Name "sign" p2] [] p3) (.Constant (.str (Str.ofString "")) 0 p4) (.Call (.Name "map_table_b3" p5) [.Name "sign" p6] [] p7) p8) (compEnvC scope cl C env)) Q E s := by
  walk1
  walk1
  walk1
  refine ldGC X T (g_b1 _) ?_ hg hk hx
  refine callWith_K X (keep53 _) ?_
  walk1
  refine ldVarK hn hm ?_ hk hl
  walk1
  refine ⟨X, ?_⟩
  refine wpAny_call (spec_b1 hrow ⟨X, T⟩ hr fun s' e => ?_)
  cases hb : decide ((c : Int) ∈ b1List) with
  | true =>
    obtain ⟨h', tk, rfl, k⟩ := e
    repeat walk1
    have e2 : foldC c = Str.ofString "" := by unfold foldC; rw [hb]; rfl
    have h' := h tk { s with heap := h', toks := tk + 1 } ⟨_, _, rfl, k⟩
    rw [e2] at h'
    exact h'
  | false =>
    walk1
    walk1
    obtain ⟨h', tk, rfl, k⟩ := e
    walk1
    refine ldGC (X.keeps k) (T.keeps k) (g_b3 _) ?_ hg hk hx2
    refine callWith_K (X.keeps k) (keep99 _) ?_
    walk1
    refine ldVarK (hn.keeps k) hm ?_ hk hl
    walk1
    refine ⟨X.keeps k, ?_⟩
    refine wpAny_call (spec_b3 ⟨X.keeps k, T.keeps k⟩ hr fun s'' u' e => ?_)
    have e2 : foldC c = b3Val c := by unfold foldC; rw [hb]; rfl
    have h' := h u' s'' (Ext.trans ⟨_, _, rfl, k⟩ e)
    rw [e2] at h'
    exact h'
/-- the drawn numbers -/
theorem paired_ints {f : Int → Int} : ∀ {vs ys : List Value} {ns : List Int}, IntsAre vs ns → Paired (fun v y => ∃ n u t, v = .int n u ∧ y = .int (f n) t) (vs.filter fun _ => true) ys → IntsAre ys (ns.map f) := by
  intro vs ys ns hS hP
  rw [List.filter_eq_self.mpr (fun _ _ => rfl)] at hP
  induction hS generalizing ys with
  | nil => cases hP; exact .nil
  | cons a u hS ih =>
    cases hP with
    | cons hh ht =>
      obtain ⟨a', u', t, e, rfl⟩ := hh
      cases e
      exact .cons _ _ (ih ht)
theorem ints_mem : ∀ {vs : List Value} {ns : List Int}, IntsAre vs ns → ∀ v ∈ vs, ∃ n t, v = .int n t := by
  intro vs ns h
  induction h with
  | nil => exact fun v hv => nomatch hv
  | cons a u _ ih =>
    intro v hv
    rcases List.mem_cons.mp hv with rfl | hv
    · exact ⟨a, u, rfl⟩
    · exact ih v hv
noncomputable def DrawnSrc (h₀ : Heap) (L : Addr) (m : Str → Option Value) (y : Str) (Q : Flow → Shared → Prop) (xv : Value) (s₁ : Shared) : Prop :=
  ∃ (news : List (Addr × Obj)) (ax : Addr) (vs : List Value) (ns : List Int), xv = .ref ax ∧ s₁.heap.IsList ax (List.toArray vs) ∧ IntsAre vs ns ∧ ns.length ≤ 1000 ∧ Fr h₀ L s₁.heap m ∧ News h₀ L s₁.heap news ∧
      (∀ D (ys : List Value) n h' tk, Fr h₀ L h' (fun z => if z = y then some (.ref D) else m z) → News h₀ L h' ((D, W.listOf (List.toArray ys) n) :: news) → (∀ p ∈ news, p.1 ≠ D) → IntsAre ys (ns.map fun n => n.fmod 1000000) → Q .next { s₁ with heap := h', toks := tk })
theorem comp_drawn {iter : Expr} {y : Str} {py spos px p1 p2 p3 p4 p5 p6 p7 : Pos} {scope : Scope} {cl : List (Str × Addr)} {pos : Pos} {Q : Flow → Shared → Prop} (_F : Fr h₀ env.locals s.heap m) (TX : TopRead qq lz' mg mb h₀) (KX : (KK w.params).In h₀)
    (hsw : swapsWith (.ListComp (.BinOp (.Call (.Name "int" p1) [.Name "cell" p2] [] p3) .Mod (.BinOp (.Constant (.int 10) 0 p4) .Pow (.Constant (.int 6) 0 p5) p6) p7) [⟨.Name "cell" px, iter, [], 0⟩] scope pos) (some (.Name y py)) spos.line env = pure true) (hy : env.kindOf y = some .local) (hp : (env.scope.kind == .class || (env.scope.kind == .module && env.locals != env.globals)) = false)
    (hh : A.handled = none) (hclos : closureFor scope env = pure cl)
    (hcell : ∀ y ∈ scope.names, y.2 ≠ .cell) (hkind : scope.kind = .function)
    (hnames : ∀ y ∈ scope.names, y.2 = .local → scope.names.lookup y.1 = some .local) (hx : scope.names.lookup (Str.ofString "cell") = some NameKind.local)
    (hg : env.globals = mainGlobals) (hb : env.builtins = builtinsNs)
    (hk1 : ∀ C, (compEnvC scope cl C env).kindOf "int" = some NameKind.globalImplicit) (hk2 : ∀ C, (compEnvC scope cl C env).kindOf "cell" = some .local) (hk3 : ∀ C, (compEnvC scope cl C env).scope.kind = .function)
    (h : wpAny (model prog w) A (eval iter env) (DrawnSrc h₀ env.locals m y Q) E s)
    (hs : ∀ x, foldedSetIterable iter env x = pure x) :
    wpAny (model prog w) A (exec (.Assign [.Name y py] (.ListComp (.BinOp (.Call (.Name "int" p1) [.Name "cell" p2] [] p3) .Mod (.BinOp (.Constant (.int 10) 0 p4) .Pow (.Constant (.int 6) 0 p5) p6) p7) [⟨.Name "cell" px, iter, [], 0⟩] scope pos) spos) env) Q E s := by
  refine wpAny_Assign_ListComp_free (fun _ => true) (fun v y => ∃ n u t, v = .int n u ∧ y = .int (n.fmod 1000000) t) hsw hclos hcell hkind hnames hx hy hp (wpAny_mono h (fun xv s₁ h₁ => ?_) fun _ _ e => e) hs
  obtain ⟨news, ax, vs, ns, rfl, hl, hS, hsz, F, N, hQ⟩ := h₁
  have hlt : ax < s₁.heap.objs.size := by obtain ⟨_, e, _⟩ := hl; exact Heap.lt_size e
  have up : ∀ (s₃ : Shared), (∀ b o, b ∉ [s₁.heap.objs.size] → (s₁.heap.push { cls := .type "list_iterator", data := .fields #[.ref ax, .int 0 0] }).get? b = some o → s₃.heap.get? b = some o) → ∀ b o, s₁.heap.get? b = some o → s₃.heap.get? b = some o :=
    fun s₃ hk b o e => hk b o (fun hm => by rw [List.mem_singleton.mp hm] at e; exact Nat.lt_irrefl _ (Heap.lt_size e)) (Heap.get?_push_of_some _ e)
  refine wpAny_pyIter_list hl ⟨s₁.heap.objs.size, [s₁.heap.objs.size, ax], [s₁.heap.objs.size], vs.toArray.size, _, _, m, rfl, Walks.list hh _ _ (Nat.ne_of_lt hlt) vs.toArray, (by rw [List.size_toArray, hS.length]; unfold sizeLine; omega), ⟨⟨_, Heap.get?_push_size _ rfl, rfl, rfl⟩, hl.push _⟩, ?_, (fun hm => Nat.ne_of_lt F.ns.lt (List.mem_singleton.mp hm)), (F.push _).ns, ⟨?_, ?_⟩, ?_⟩
  · intro b hb
    show b < (s₁.heap.push _).objs.size
    rw [Heap.size_push]
    rcases List.mem_cons.mp hb with rfl | hb
    · exact Nat.lt_succ_self _
    · rw [List.mem_singleton.mp hb]; exact Nat.lt_succ_of_lt hlt
  · intro C i v s₃ m₃ E' hC hP hn hm hk _
    exact wpAny_pure ⟨rfl, _, _, rfl, fun _ _ e => e⟩
  · intro C i v s₃ m₃ E' hC hP hp hn hm hk _
    obtain ⟨n, u, rfl⟩ := ints_mem hS v (List.mem_of_getElem? (by simpa using hP))
    have k9 : ∀ b o, h₀.get? b = some o → s₃.heap.get? b = some o := fun b o e => up s₃ hk b o (F.keep b o e)
    refine elt_int (KX.keeps k9) (TX.keeps k9) hg hb (hk3 C) (hk1 C) (hk2 C) hn hm fun t k => ?_
    exact ⟨⟨n, u, t, rfl, rfl⟩, _, _, rfl, fun _ _ e => e⟩
  · intro D h' tk ys vs' hnew hlD hplD hlen hP hF hns hk
    have e : vs' = vs := by simpa using list_of_places hlen hP
    subst e
    have keep : ∀ b o, b ≠ env.locals → s₁.heap.get? b = some o → h'.get? b = some o := fun b o' hb e => hk b o' hb (fun hm => by rw [List.mem_singleton.mp hm] at e; exact Nat.lt_irrefl _ (Heap.lt_size e)) (Heap.get?_push_of_some _ e)
    obtain ⟨n, hD⟩ := hplD
    have hne : ∀ p ∈ news, p.1 ≠ D := fun p hp e => by rw [← e, Heap.get?_push_of_some _ (N p hp).1] at hnew; cases hnew
    have hDL : D ≠ env.locals := by
      rintro rfl
      obtain ⟨ob, _, _, e, _⟩ := F.ns
      rw [Heap.get?_push_of_some _ e] at hnew; cases hnew
    have hD0 : h₀.get? D = none := by
      cases e : h₀.get? D with
      | none => rfl
      | some o' => rw [Heap.get?_push_of_some _ (F.keep _ _ e)] at hnew; cases hnew
    refine hQ D ys.toList n h' tk ⟨hns, fun b o e => keep b o (fun q => absurd (Heap.lt_size e) (by have := F.above; rw [q]; exact Nat.not_lt.mpr this)) (F.keep b o e), F.above⟩ (fun p hp => ?_) hne (paired_ints hS hF)
    rcases List.mem_cons.mp hp with rfl | hp
    · exact ⟨by rw [Array.toArray_toList]; exact hD, hDL, hD0⟩
    · exact ⟨keep _ _ (N p hp).2.1 (N p hp).1, (N p hp).2⟩
end
noncomputable def foldS (a : Str) : Str := foldC (a.cps.getD 0 0)
noncomputable def putS (c : List (Str × Str)) (k v : Str) : List (Str × Str) :=
  if c.any (fun p => decide (p.1 = k)) then c.map (fun p => if decide (p.1 = k) then (p.1, v) else p) else c ++ [(k, v)]
noncomputable def fcL (as : List Str) : List (Str × Str) := as.foldl (fun c a => putS c a (foldS a)) []
theorem foldD_any (c : List (Str × Str)) (k : Str) : ((foldD c).any fun p => PySem.Spec.same p.1 (PyData.str k)) = c.any fun p => decide (p.1 = k) := by
  induction c with
  | nil => rfl
  | cons p c ih =>
    show (PySem.Spec.same (PyData.str p.1) (PyData.str k) || (foldD c).any fun p => PySem.Spec.same p.1 (PyData.str k)) = (decide (p.1 = k) || c.any fun p => decide (p.1 = k))
    rw [ih, PyProof.V.same_str]
theorem foldD_put (c : List (Str × Str)) (k v : Str) : PyProof.V.putD (PyData.str k) (PyData.str v) (foldD c) = foldD (putS c k v) := by
  unfold PyProof.V.putD putS
  rw [foldD_any]
  by_cases hc : (c.any fun p => decide (p.1 = k)) = true
  · rw [if_pos hc, if_pos hc]
    unfold foldD
    rw [List.map_map, List.map_map]
    refine List.map_congr_left fun p _ => ?_
    simp only [Function.comp]
    rw [PyProof.V.same_str]
    by_cases hp : p.1 = k
    · rw [if_pos (decide_eq_true hp), if_pos (decide_eq_true hp)]
    · rw [if_neg (by simp [hp]), if_neg (by simp [hp])]
  · rw [if_neg hc, if_neg hc]
    unfold foldD
    rw [List.map_append]; rfl
theorem putAll_fold (as : List Str) : putAll PyData.str (fun a : Str => a) (fun a => PyData.str (foldS a)) as = foldD (fcL as) := by
  have key : ∀ (as : List Str) (c : List (Str × Str)), as.foldl (fun acc a => PyProof.V.putD (PyData.str a) (PyData.str (foldS a)) acc) (foldD c) = foldD (as.foldl (fun c a => putS c a (foldS a)) c) := by
    intro as
    induction as with
    | nil => intro c; rfl
    | cons a as ih => intro c; rw [List.foldl_cons, List.foldl_cons, foldD_put, ih]
  exact key as []
section
variable {K : Type} [DecidableEq K] {prog : Program} {w : World} {knd : KeyKind prog w K} {A : Around} {E : Value → Shared → Prop} {env : Env}
/-- a dict's comprehension, where the dict made lies behind all that was there -/
theorem dict_block {kx vx iter : Expr} {x : Str} {px : Pos} {ifs : List Expr} {scope : Scope} {cl : List (Str × Addr)} {pos : Pos} {s₂ : Shared} {I : Addr} {fp wr : List Addr} {n : Nat} {P : Nat → Value → Prop}
    {St : Nat → Heap → Prop} (W : Walks prog w A I fp wr n P St) (hsz : n ≤ sizeLine) (p : Value → Bool) (FK : Value → K → Prop) (FV : Value → Value → Prop) {RR : Value → Addr → Result → Shared → Prop}
    (hcell : ∀ y ∈ scope.names, y.2 ≠ .cell) (hkind : scope.kind = .function) (hx : scope.names.lookup x = some .local) (hst : St 0 s₂.heap) (hfp : ∀ b ∈ fp, b < s₂.heap.objs.size)
    (hq : QuietOnCD knd A env scope cl x ifs kx vx wr P p FK FV s₂)
    (hend : ∀ D C h' tk m' kvs (vs : List Value), s₂.heap.objs.size ≤ D → s₂.heap.objs.size ≤ C → D ≠ C → h'.Ns C m' → h'.DictOf knd D kvs → vs.length = n → (∀ j v, vs[j]? = some v → P j v) → StoredAll FK FV (vs.filter p) kvs →
      (∀ b o, b ∉ wr → s₂.heap.get? b = some o → h'.get? b = some o) → RR (.ref D) C (.ok .next) { s₂ with heap := h', toks := tk }) :
    wpAny (model prog w) A newDict (fun acc s₃ => wpAny (model prog w) A (newFunctionEnv scope env.globals cl [] env.qual none .none (some env)) (fun cenv s₄ =>
      codeAny (model prog w) A (.compStart (.DictComp kx vx [⟨.Name x px, iter, ifs, 0⟩] scope pos) 0 (.ref I) acc { cenv with scope := relabel scope env }) (RR acc cenv.locals) s₄) E s₃) E s₂ := by
  refine wpAny_newObj_type (wpAny_newFunctionEnv hcell (by intro y hy; simp at hy) (fun h₁ n₁ b₁ => ?_) hkind)
  dsimp only at n₁ b₁ ⊢
  have made : (s₂.heap.push { cls := .type "dict", dict := none, data := .dict #[] }).DictOf knd s₂.heap.objs.size [] := Heap.DictOf.new s₂.heap
  generalize eG : s₂.heap.push { cls := .type "dict", dict := none, data := .dict #[] } = G at n₁ b₁ made ⊢
  have zG : G.objs.size = s₂.heap.objs.size + 1 := by rw [← eG, Heap.size_push]
  have apart : s₂.heap.objs.size ≠ G.objs.size := by omega
  have low : ∀ b, b < s₂.heap.objs.size → b ≠ G.objs.size ∧ b ≠ s₂.heap.objs.size := fun b hb => ⟨by omega, Nat.ne_of_lt hb⟩
  have kept : ∀ b o, s₂.heap.get? b = some o → h₁.get? b = some o := fun b o e => b₁.extBut b o (low b (Heap.lt_size e)).1 (Heap.get?_push_of_some _ (eG ▸ Heap.get?_push_of_some _ e))
  have st₁ : St 0 h₁ := W.frame _ _ _ hst fun b _ o e => kept b o e
  have run : ∀ s₃ : Shared, s₃ = { s₂ with heap := h₁, toks := s₂.toks + ([] : List (Str × Value)).length } →
      codeAny (model prog w) A (.compLoop (.DictComp kx vx [⟨.Name x px, iter, ifs, 0⟩] scope pos) 0 (.ref I) (.ref s₂.heap.objs.size) (compEnvC scope cl G.objs.size env)) (RR (.ref s₂.heap.objs.size) G.objs.size) s₃ := by
    rintro s₃ rfl
    refine codeAny_compLoop_walkD (hsz := hsz) (knd := knd) (cenv := compEnvC scope cl G.objs.size env) W p FK FV (lookup_relabel_local hx) (by simp [compEnvC, relabel, hkind]) apart (fun hm => Nat.lt_irrefl _ (hfp _ hm)) (fun hm => by have h9 := hfp _ hm; rw [zG] at h9; exact Nat.lt_irrefl _ (Nat.lt_of_succ_lt h9)) st₁ (made.at fun o e => b₁.extBut _ _ apart (Heap.get?_push_of_some _ e)) n₁ ?_ ?_ ?_ ?_
    · exact fun i v s₃ m₃ hv hn hm hk => hq.tests _ i v s₃ m₃ _ hv hn hm fun b o hb e => hk b o (low b (Heap.lt_size e)).1 hb (low b (Heap.lt_size e)).2 (kept b o e)
    · exact fun i v s₃ m₃ hv hpv hn hm hk => hq.key _ i v s₃ m₃ _ hv hpv hn hm fun b o hb e => hk b o (low b (Heap.lt_size e)).1 hb (low b (Heap.lt_size e)).2 (kept b o e)
    · exact fun i v s₃ m₃ hv hpv hn hm hk => hq.val _ i v s₃ m₃ _ hv hpv hn hm fun b o hb e => hk b o (low b (Heap.lt_size e)).1 hb (low b (Heap.lt_size e)).2 (kept b o e)
    · exact fun h' tk m' kvs vs hn ha hl hP hF hk => hend _ _ h' tk m' kvs vs (Nat.le_refl _) (by omega) apart hn ha hl hP hF fun b o hb e => hk b o (low b (Heap.lt_size e)).1 hb (low b (Heap.lt_size e)).2 (kept b o e)
  exact codeAny_compStart_dict (run _ rfl) (W.self 0 _ _ _ st₁ (run _ rfl))
end
section
variable {w : World} {mg mb : Str → Option Value} {A : Around} {E : Value → Shared → Prop} {s : Shared} {env : Env} {h₀ : Heap} {m : Str → Option Value} {news : List (Addr × Obj)}
theorem comp_foldsD {iter : Expr} {y : Str} {py spos px p0 p1 p2 p3 p4 p5 p6 p7 p8 : Pos} {scope : Scope} {cl : List (Str × Addr)} {pos : Pos} {Q : Flow → Shared → Prop} (_F : Fr h₀ env.locals s.heap m) (_N : News h₀ env.locals s.heap news) (hrow : lawRow = lawRow) (TX : TopRead qq lz' mg mb h₀) (KX : (KK w.params).In h₀) (hr : Lv 0 A)
    (hsw : swapsWith (.DictComp (.Name "sign" p0) (.IfExp (.Call (.Name "in_table_b1" p1) [.Name "sign" p2] [] p3) (.Constant (.str (Str.ofString "")) 0 p4) (.Call (.Name "map_table_b3" p5) [.Name "sign" p6] [] p7) p8) [⟨.Name "sign" px, iter, [], 0⟩] scope pos) (some (.Name y py)) spos.line env = pure true) (hy : env.kindOf y = some .local) (hp : (env.scope.kind == .class || (env.scope.kind == .module && env.locals != env.globals)) = false)
    (hh : A.handled = none) (hclos : closureFor scope env = pure cl)
    (hcell : ∀ y ∈ scope.names, y.2 ≠ .cell) (hkind : scope.kind = .function)
    (hnames : ∀ y ∈ scope.names, y.2 = .local → scope.names.lookup y.1 = some .local) (hx : scope.names.lookup (Str.ofString "sign") = some NameKind.local)
    (hg : env.globals = mainGlobals)
    (hk1 : ∀ C, (compEnvC scope cl C env).kindOf "in_table_b1" = some NameKind.globalImplicit) (hk1' : ∀ C, (compEnvC scope cl C env).kindOf "map_table_b3" = some NameKind.globalImplicit) (hk2 : ∀ C, (compEnvC scope cl C env).kindOf "sign" = some .local) (hk3 : ∀ C, (compEnvC scope cl C env).scope.kind = .function)
    (h : wpAny (model prog w) A (eval iter env) (fun xv s₁ => ∃ ax vs as, xv = .ref ax ∧ s₁.heap.IsList ax (List.toArray vs) ∧ StrsAre vs as ∧ (∀ a ∈ as, ∃ c, a = (⟨#[c]⟩ : Str)) ∧ as.length ≤ 1000 ∧ Fr h₀ env.locals s₁.heap m ∧ News h₀ env.locals s₁.heap news ∧
      (∀ D o h' tk, Fr h₀ env.locals h' (fun z => if z = y then some (.ref D) else m z) → News h₀ env.locals h' ((D, o) :: news) → StrTab prog w h' D (foldD (fcL as)) → Q .next { s₁ with heap := h', toks := tk })) E s)
    (hs : ∀ x, foldedSetIterable iter env x = pure x) (hbig : sysModules < h₀.objs.size) :
    wpAny (model prog w) A (exec (.Assign [.Name y py] (.DictComp (.Name "sign" p0) (.IfExp (.Call (.Name "in_table_b1" p1) [.Name "sign" p2] [] p3) (.Constant (.str (Str.ofString "")) 0 p4) (.Call (.Name "map_table_b3" p5) [.Name "sign" p6] [] p7) p8) [⟨.Name "sign" px, iter, [], 0⟩] scope pos) spos) env) Q E s := by
  rw [exec_Assign_Name_used _ _ _ _ hsw]
  refine wpAny_bind (wpAny_standAt (wpAny_bind ?_))
  show wpAny _ A (do let _ ← comprehension (.DictComp _ _ [⟨.Name "sign" px, iter, [], 0⟩] scope pos) scope env _ newDict false (eval iter env) (some (assign (.Name y py) env))) _ _ s
  refine wpAny_bind (wpAny_mono (wpAny_comprehension_free (use := some (assign (.Name y py) env)) (Q := fun _ s' => Q .next s') rfl hs hclos hkind hnames (wpAny_mono h (fun xv s₁ h₁ => ?_) fun _ _ e => e)) (fun _ s' hq => wpAny_pure (wpAny_pure hq)) fun _ _ e => e)
  obtain ⟨ax, vs, as, rfl, hl, hS, hone, hsz, F, N, hQ⟩ := h₁
  have hi := hS.areOf
  have hlt : ax < s₁.heap.objs.size := by obtain ⟨_, e, _⟩ := hl; exact Heap.lt_size e
  have up : ∀ (s₃ : Shared), (∀ b o, b ∉ [s₁.heap.objs.size] → (s₁.heap.push { cls := .type "list_iterator", data := .fields #[.ref ax, .int 0 0] }).get? b = some o → s₃.heap.get? b = some o) → ∀ b o, s₁.heap.get? b = some o → s₃.heap.get? b = some o :=
    fun s₃ hk b o e => hk b o (fun hm => by rw [List.mem_singleton.mp hm] at e; exact Nat.lt_irrefl _ (Heap.lt_size e)) (Heap.get?_push_of_some _ e)
  refine wpAny_pyIter_list hl ?_
  refine dict_block (knd := PySem.strKind prog w) (RR := fun acc C => compPost (model prog w) A E (some (assign (.Name y py) env)) (fun _ s' => Q .next s') acc C) (Walks.list hh _ _ (Nat.ne_of_lt hlt) vs.toArray) (by rw [List.size_toArray, hi.length]; unfold sizeLine; omega) (ItemKind.str.lift fun _ => true)
    (fun v k => ∃ a, ItemKind.str.is a v ∧ k = a) (fun v y => ∃ a, ItemKind.str.is a v ∧ Carried y (PyData.str (foldS a))) hcell hkind hx ⟨⟨_, Heap.get?_push_size _ rfl, rfl, rfl⟩, hl.push _⟩ ?_ ⟨?_, ?_, ?_⟩ ?_
  · intro b hb
    show b < (s₁.heap.push _).objs.size
    rw [Heap.size_push]
    rcases List.mem_cons.mp hb with rfl | hb
    · exact Nat.lt_succ_self _
    · rw [List.mem_singleton.mp hb]; exact Nat.lt_succ_of_lt hlt
  · intro C i v s₃ m₃ E' hP hn hm hk
    obtain ⟨a, hmem, ha⟩ := hi.memD v (by simpa using Array.mem_of_getElem? hP)
    rw [ItemKind.lift_is ha]
    exact wpAny_pure ⟨rfl, _, _, rfl, fun _ _ e => e⟩
  · intro C i v s₃ m₃ E' hP hp' hn hm hk
    obtain ⟨a, hmem, ha⟩ := hi.memD v (by simpa using Array.mem_of_getElem? hP)
    obtain ⟨u, rfl⟩ := ItemKind.str_is ha
    exact ldVarK hn hm ⟨⟨a, strKind_is _ _ _ _, _, ha, rfl⟩, _, _, rfl, fun _ _ e => e⟩ (hk3 C) (hk2 C)
  · intro C i v s₃ m₃ E' hP hp' hn hm hk
    obtain ⟨a, hmem, ha⟩ := hi.memD v (by simpa using Array.mem_of_getElem? hP)
    obtain ⟨u, rfl⟩ := ItemKind.str_is ha
    obtain ⟨c, rfl⟩ := hone a hmem
    have k9 : ∀ b o, h₀.get? b = some o → s₃.heap.get? b = some o := fun b o e => up s₃ hk b o (F.keep b o e)
    exact val_fold hrow (KX.keeps k9) (TX.keeps k9) hr hg (hk3 C) (hk1 C) (hk1' C) (hk2 C) hn hm fun t s' e => ⟨⟨_, ha, .str _ t⟩, e⟩
  · intro D C h' tk m' kvs vs' hD hC hDC hnC hlD hlen hP hF hk
    have e : vs' = vs := by simpa using list_of_places hlen hP
    subst e
    have hsz1 : (s₁.heap.push { cls := .type "list_iterator", data := .fields #[.ref ax, .int 0 0] }).objs.size = s₁.heap.objs.size + 1 := Heap.size_push ..
    have hD' : s₁.heap.objs.size + 1 ≤ D := by rw [← hsz1]; exact hD
    have hC' : s₁.heap.objs.size + 1 ≤ C := by rw [← hsz1]; exact hC
    have hLs : env.locals < s₁.heap.objs.size := F.ns.lt
    have hLC : env.locals ≠ C := Nat.ne_of_lt (Nat.lt_of_lt_of_le (Nat.lt_succ_of_lt hLs) hC')
    have hLD : env.locals ≠ D := Nat.ne_of_lt (Nat.lt_of_lt_of_le (Nat.lt_succ_of_lt hLs) hD')
    show wpAny _ A (assign (.Name y py) env (.ref D)) _ _ _
    refine wpAny_assign_Name (wpAny_storeName_local hy ((F.ns.push _).at' fun o e => hk _ o (fun hm => Nat.ne_of_lt hLs (List.mem_singleton.mp hm)) e) (fun h₂ hn₂ hs₂ => ?_) hp)
    refine ⟨m', hnC.sameBut hs₂ (Ne.symm hLC), fun h₃ hs₃ => ?_⟩
    have keep : ∀ b o, b ≠ env.locals → s₁.heap.get? b = some o → h₃.get? b = some o := fun b o hb e =>
      hs₃.extBut b o (Nat.ne_of_lt (Nat.lt_of_lt_of_le (Nat.lt_succ_of_lt (Heap.lt_size e)) hC')) (hs₂.extBut b o hb (up { s₁ with heap := h' } hk b o e))
    have hdict : h₃.DictOf (PySem.strKind prog w) D kvs := (hlD.extBut hs₂.extBut (Ne.symm hLD)).extBut hs₃.extBut hDC
    have hflat := storedAll_flat (enc := PyData.str) (kf := fun a : Str => a) (d := fun a => PyData.str (foldS a)) PyProof.V.same_str hF _ (hi.filter fun _ => true)
    obtain ⟨o, ho, hio⟩ := Heap.dictOf_iff.mp hdict
    have hD0 : h₀.get? D = none := Heap.get?_none_of_le (Nat.le_trans F.above (Nat.le_trans (Nat.le_of_lt (Nat.lt_succ_of_lt hLs)) hD'))
    refine hQ D o h₃ _ ⟨hn₂.sameBut hs₃ hLC, fun b o e => keep b o (Nat.ne_of_lt (Nat.lt_of_lt_of_le (Heap.lt_size e) F.above)) (F.keep b o e), F.above⟩ (fun p hp => ?_) ⟨?_, kvs, hdict, ?_⟩
    · rcases List.mem_cons.mp hp with rfl | hp
      · exact ⟨ho, Ne.symm hLD, hD0⟩
      · exact ⟨keep _ _ (N p hp).2.1 (N p hp).1, (N p hp).2⟩
    · rw [beq_eq_false_iff_ne]
      exact Nat.ne_of_gt (Nat.lt_of_lt_of_le hbig (Nat.le_trans F.above (Nat.le_trans (Nat.le_of_lt (Nat.lt_succ_of_lt hLs)) hD')))
    · rw [List.filter_eq_self.mpr (fun _ _ => rfl), putAll_fold] at hflat
      exact hflat
end
end Mine
end
section
open PySem PySem.W PyProof.Rows PySem.Calls PyProof.V
set_option maxRecDepth 100000
set_option maxHeartbeats 2000000
namespace Mine
open PySem.SeqAt AutoSeq1 MeetsSeq MeetsSeq2 MeetsSeq3 SeqRoads2 in
theorem eq_tuple_true {prog : Program} {w : World} {A : Around} {E : Value → Shared → Prop} {s : Shared} {l b : Addr} {items items2 : Array Value} {n n2 : Nat} {Q : Value → Shared → Prop} (ho : s.heap.get? l = some { cls := .type "tuple", data := .seq items n }) (ho2 : s.heap.get? b = some { cls := .type "tuple", data := .seq items2 n2 }) (hsz : items.size = items2.size) (hu : A.units < cLine)
    (he : ∀ p ∈ items.toList.zip items2.toList, ∀ (E : Value → Shared → Prop) (Q : Bool → Shared → Prop), Q true s → wpAny (model prog w) A.in1 (eqBool p.1 p.2) Q E s) (h : Q (.bool true) s) : wpAny (model prog w) A (compareOp .Eq (.ref l) (.ref b)) Q E s := by
  refine wpAny_richCompare_same_room (op := .Eq) ⟨_, ho, rfl⟩ ⟨_, ho2, rfl⟩ PySem.F.slot_tuple_eq (wpAny_call_entry PySem.F.slot_tuple_eq ⟨_, ho, rfl⟩ PySem.F.entry_tuple_eq ?_ (PySem.F.args_tuple_eq_2 _ _)) hu
  obtain ⟨hp, g, d, tk, os⟩ := s
  have f2 := AutoSeq1.sub_tuple_tuple
  wp_walk using wpAny_loadPart' ho, wpAny_loadPart' ho2, wpAny_forIn_list _ (fun rest b s' => b.1 = none ∧ s' = ⟨hp, g, d, tk, os⟩ ∧ ∀ p ∈ rest, p ∈ items.toList.zip items2.toList) _
  case turn =>
    rintro ⟨y, x⟩ rest b s' ⟨hb', rfl, hm⟩
    refine wpAny_bind (he (y, x) (hm _ (List.mem_cons_self ..)) _ _ ?_)
    wp_walk
    exact ⟨rfl, rfl, fun p hp => hm p (List.mem_cons_of_mem _ hp)⟩
  case fin =>
    rintro ⟨b1, b2⟩ s' ⟨hb', rfl, hm⟩
    simp only at hb'
    subst hb'
    wp_walk
    refine ⟨_, rfl, fun x => (nomatch x), ?_⟩
    show Q (.bool (items.size == items2.size)) _
    rw [hsz, beq_self_eq_true]; exact h
  case h => exact ⟨rfl, rfl, fun p hp => hp⟩
theorem eqBool_refs {prog : Program} {w : World} {A : Around} {s : Shared} {a b : Addr} (hne : a ≠ b) (h : ∀ (E : Value → Shared → Prop) (Q : Value → Shared → Prop), Q (.bool true) s → wpAny (model prog w) A (compareOp .Eq (.ref a) (.ref b)) Q E s) :
    ∀ (E : Value → Shared → Prop) (Q : Bool → Shared → Prop), Q true s → wpAny (model prog w) A (eqBool (.ref a) (.ref b)) Q E s := by
  intro E Q hq
  unfold eqBool
  refine wpAny_holding ?_
  refine wpAny_ite_split (fun hab => absurd (by have := eq_of_beq hab; injection this) hne) (fun _ => ?_)
  exact wpAny_bind (h E _ (wpAny_truthy_bool hq))
theorem counts_rows {cb : List (Str × Int)} : ∀ {ca : List (Str × Int)}, (∀ p ∈ ca, kdpHas cb p.1 = true ∧ kdpLook cb p.1 0 = p.2) → KeqRows (kdpD cb) (kdpD ca) true
  | [], _ => .nil
  | (k, v) :: ca, h => by
    obtain ⟨h1, h2⟩ := h (k, v) (List.mem_cons_self ..)
    have hl := kdpD_item h1
    have h2' : kdpLook cb k 0 = v := h2
    rw [h2'] at hl
    have := KeqRows.hit (v := PyData.int v) hl (counts_rows fun p hp => h p (List.mem_cons_of_mem _ hp))
    have e : (PyData.eqv (PyData.int v) (PyData.int v) && true) = true := by simp [PyData.eqv]
    rw [e] at this
    exact this
theorem eq_counts {prog : Program} {w : World} {A : Around} {E : Value → Shared → Prop} {s : Shared} {a b : Addr} {oa ob : Obj} {ca cb : List (Str × Int)} {Q : Value → Shared → Prop} (ha : s.heap.get? a = some oa) (hb : s.heap.get? b = some ob) (la : (a == sysModules) = false) (lb : (b == sysModules) = false) (da : Cnt prog w oa ca) (db : Cnt prog w ob cb)
    (hl : ca.length = cb.length) (hr : ∀ p ∈ ca, kdpHas cb p.1 = true ∧ kdpLook cb p.1 0 = p.2) (hu : A.units < cLine) (h : Q (.bool true) s) : wpAny (model prog w) A (compareOp .Eq (.ref a) (.ref b)) Q E s := by
  obtain ⟨ka, da, fa⟩ := da
  obtain ⟨kb, db, fb⟩ := db
  exact keq_tabs (knd := PySem.strKind prog w) PyProof.V.same_str (TabAt.ofObj la ha da fa) (TabAt.ofObj lb hb db fb) (by rw [kdpD_length, kdpD_length]; exact hl) hu (counts_rows hr) h
/-- one dict of counts says what the other says -/
noncomputable def SameC (ca cb : List (Str × Int)) : Prop := ca.length = cb.length ∧ ∀ p ∈ ca, kdpHas cb p.1 = true ∧ kdpLook cb p.1 0 = p.2
theorem eq_pairs {prog : Program} {w : World} {A : Around} {E : Value → Shared → Prop} {s : Shared} {T U a b c d : Addr} {oa ob oc od : Obj} {ca cb cc cd : List (Str × Int)} {n n2 : Nat} {Q : Value → Shared → Prop} (hT : s.heap.get? T = some { cls := .type "tuple", data := .seq #[.ref a, .ref b] n }) (hU : s.heap.get? U = some { cls := .type "tuple", data := .seq #[.ref c, .ref d] n2 })
    (ha : s.heap.get? a = some oa) (hb : s.heap.get? b = some ob) (hc : s.heap.get? c = some oc) (hd : s.heap.get? d = some od) (la : (a == sysModules) = false) (lb : (b == sysModules) = false) (lc : (c == sysModules) = false) (ld : (d == sysModules) = false)
    (da : Cnt prog w oa ca) (db : Cnt prog w ob cb) (dc : Cnt prog w oc cc) (dd : Cnt prog w od cd) (hac : a ≠ c) (hbd : b ≠ d) (h1 : SameC ca cc) (h2 : SameC cb cd) (hu : A.units + 64 < cLine) (h : Q (.bool true) s) : wpAny (model prog w) A (compareOp .Eq (.ref T) (.ref U)) Q E s := by
  have hu1 : A.in1.units < cLine := Nat.lt_of_le_of_lt (by show A.units + 1 ≤ A.units + 64; omega) hu
  refine eq_tuple_true hT hU rfl (by omega) ?_ h
  intro p hp
  have hp' : p ∈ [((Value.ref a, Value.ref c) : Value × Value), (.ref b, .ref d)] := hp
  simp only [List.mem_cons, List.not_mem_nil, or_false] at hp'
  rcases hp' with rfl | rfl
  · exact eqBool_refs hac fun E Q hq => eq_counts ha hc la lc da dc h1.1 h1.2 hu1 hq
  · exact eqBool_refs hbd fun E Q hq => eq_counts hb hd lb ld db dd h2.1 h2.2 hu1 hq
theorem call_row {w : World} {mg mb : Str → Option Value} {A : Around} {E : Value → Shared → Prop} {s : Shared} {h₀ : Heap} {L : Addr} {m : Str → Option Value} {news : List (Addr × Obj)} {Q : Value → Shared → Prop} {l : Addr} {vs : List Value} {n₀ : Int} {ns : List Int} (F : Fr h₀ L s.heap m) (N : News h₀ L s.heap news) (hl : s.heap.IsList l vs.toArray) (hs : IntsAre vs (n₀ :: ns)) (hn : ns.length ≤ 5) (h0 : 0 ≤ n₀ ∧ n₀ < 1000000) (hb : ∀ n ∈ ns, 0 ≤ n ∧ n < 1000000) (hrow : lawRow = lawRow) (KX : (KK w.params).In h₀) (TX : TopRead qq lz' mg mb h₀) (hr : Lv 1 A)
    (h : ∀ h' tk D ws n, Fr h₀ L h' m → News h₀ L h' ((D, W.listOf (List.toArray ws) n) :: news) → StrsAre ws (rowS n₀ ns) → Q (.ref D) { s with heap := h', toks := tk }) :
    wpAny (model prog w) A (PySem.call (.ref 127) [.ref l]) Q E s := by
  refine wpAny_call (spec_row hl hs hn h0 hb hrow (Base.keeps ⟨KX, TX⟩ F.keep) hr fun s' D ws n e ho hf hS => ?_)
  obtain ⟨h', tk, rfl, k⟩ := e
  refine h h' tk D ws n (F.keeps k) ?_ hS
  intro q hq'
  rcases List.mem_cons.mp hq' with rfl | hq'
  · exact ⟨ho, fr_new F hf⟩
  · exact N.grown k q hq'
theorem call_told {w : World} {mg mb : Str → Option Value} {A : Around} {E : Value → Shared → Prop} {s : Shared} {h₀ : Heap} {L : Addr} {m : Str → Option Value} {news : List (Addr × Obj)} {Q : Value → Shared → Prop} {l fd : Addr} {vs : List Value} {as : List Str} {fc : List (Str × Str)} (F : Fr h₀ L s.heap m) (N : News h₀ L s.heap news) (hl : s.heap.IsList l vs.toArray) (hs : StrsAre vs as) (hn : as.length ≤ 7) (hn1 : 1 ≤ as.length) (hf : StrTab prog w s.heap fd (foldD fc)) (ho : ∀ a ∈ as, PyData.strOk a = true) (hg : ∀ least, least.Perm as → sortedS least = true → ∃ fin, Good fc least fin) (hrow : lawRow = lawRow) (KX : (KK w.params).In h₀) (TX : TopRead qq lz' mg mb h₀) (hr : Lv 2 A)
    (h : ∀ h' tk T W Bd ow ob least fin, Fr h₀ L h' m → (∀ b o, s.heap.get? b = some o → h'.get? b = some o) → News h₀ L h' ((T, { cls := .type "tuple", data := .seq #[.ref W, .ref Bd] }) :: (W, ow) :: (Bd, ob) :: news) → (W == sysModules) = false → (Bd == sysModules) = false → Cnt prog w ow fin.wr → Cnt prog w ob fin.br → least.Perm as → sortedS least = true → Good fc least fin → Q (.ref T) { s with heap := h', toks := tk }) :
    wpAny (model prog w) A (PySem.call (.ref 139) [.ref l, .ref fd]) Q E s := by
  refine wpAny_call (spec_told hl hs hn hn1 hf ho hg hrow (Base.keeps ⟨KX, TX⟩ F.keep) hr fun s' T W Bd ow ob least fin t => ?_)
  obtain ⟨⟨h', tk, rfl, k⟩, t1, t2, t3, t4, t5, t6, t7, t8, t9, t10, t11, t12, t13⟩ := t
  refine h h' tk T W Bd ow ob least fin (F.keeps k) k ?_ t7 t8 t9 t10 t11 t12 t13
  intro q hq'
  rcases List.mem_cons.mp hq' with rfl | hq'
  · exact ⟨t1, fr_new F t4⟩
  rcases List.mem_cons.mp hq' with rfl | hq'
  · exact ⟨t2, fr_new F t5⟩
  rcases List.mem_cons.mp hq' with rfl | hq'
  · exact ⟨t3, fr_new F t6⟩
  · exact N.grown k q hq'
theorem call_due {w : World} {mg mb : Str → Option Value} {A : Around} {E : Value → Shared → Prop} {s : Shared} {h₀ : Heap} {L : Addr} {m : Str → Option Value} {news : List (Addr × Obj)} {Q : Value → Shared → Prop} {l fd : Addr} {vs : List Value} {as : List Str} {sg : Str} {tg : Tok} {fc : List (Str × Str)} (F : Fr h₀ L s.heap m) (N : News h₀ L s.heap news) (hl : s.heap.IsList l vs.toArray) (hs : StrsAre vs as) (hn : as.length ≤ 7) (hn1 : 1 ≤ as.length) (hc1 : (cpsOf (as.filter fun a => !inS sg a)).length ≤ 5) (hc2 : (cpsOf (as.filter fun a => !inS sg a)).length + (as.filter (inS sg)).length ≤ 7) (hf : StrTab prog w s.heap fd (foldD fc)) (hfl : ∀ p ∈ fc, p.2.length ≤ 10) (hrow : lawRow = lawRow) (KX : (KK w.params).In h₀) (TX : TopRead qq lz' mg mb h₀) (hr : Lv 2 A)
    (h : ∀ h' tk D ob due, Fr h₀ L h' m → (∀ b o, s.heap.get? b = some o → h'.get? b = some o) → News h₀ L h' ((D, ob) :: news) → (∀ q ∈ news, q.1 ≠ D) → (D == sysModules) = false → Cnt prog w ob due → DueR (nameW fc) (gOf (as.filter (inS sg))) [(Str.ofString "", ⟨(cpsOf (as.filter fun a => !inS sg a)).toArray⟩)] [] due → Q (.ref D) { s with heap := h', toks := tk }) :
    wpAny (model prog w) A (PySem.call (.ref 144) [.ref l, .str sg tg, .ref fd]) Q E s := by
  refine wpAny_call (spec_due hl hs hn hn1 hc1 hc2 hf hfl hrow (Base.keeps ⟨KX, TX⟩ F.keep) hr fun s' D ob due e ho hn lo hC hR => ?_)
  obtain ⟨h', tk, rfl, k⟩ := e
  refine h h' tk D ob due (F.keeps k) k ?_ (news_new N hn) lo hC hR
  intro q hq'
  rcases List.mem_cons.mp hq' with rfl | hq'
  · exact ⟨ho, fr_new F hn⟩
  · exact N.grown k q hq'
end Mine
end
section
open PySem PySem.W PyProof.Rows PySem.Calls PyProof.V
set_option maxRecDepth 100000
set_option maxHeartbeats 2000000
namespace Mine
theorem at_law (P : Params) : FnAt P 18 149 "law" := ⟨o149_p18 P, .str "law_ti0029_01" 2244, .ref 148, by kernel_rfl, by kernel_rfl, by kernel_rfl⟩
/-- what is to be known of a row -/
structure LawOk (as : List Str) : Prop where
  len : as.length ≤ 6
  pos : 1 ≤ as.length
  one : ∀ a ∈ as, ∃ c, a = (⟨#[c]⟩ : Str)
  ok : ∀ a ∈ as, PyData.strOk a = true
  good : ∀ least, least.Perm as → sortedS least = true → ∃ fin, Good (fcL as) least fin
  c1 : (cpsOf (as.filter fun a => !inS (Str.ofString ".:\n") a)).length ≤ 5
  c2 : (cpsOf (as.filter fun a => !inS (Str.ofString ".:\n㏇") a)).length ≤ 5
  d1 : (cpsOf (as.filter fun a => !inS (Str.ofString ".:\n") a)).length + (as.filter (inS (Str.ofString ".:\n"))).length ≤ 7
  d2 : (cpsOf (as.filter fun a => !inS (Str.ofString ".:\n㏇") a)).length + (as.filter (inS (Str.ofString ".:\n㏇"))).length ≤ 7
  fl : ∀ p ∈ fcL as, p.2.length ≤ 10
  same : ∀ least fin e1 e2, least.Perm as → sortedS least = true → Good (fcL as) least fin → DueR (nameW []) (gOf (as.filter (inS (Str.ofString ".:\n")))) [(Str.ofString "", ⟨(cpsOf (as.filter fun a => !inS (Str.ofString ".:\n") a)).toArray⟩)] [] e1 →
    DueR (nameW (fcL as)) (gOf (as.filter (inS (Str.ofString ".:\n㏇")))) [(Str.ofString "", ⟨(cpsOf (as.filter fun a => !inS (Str.ofString ".:\n㏇") a)).toArray⟩)] [] e2 → SameC fin.wr e1 ∧ SameC fin.br e2
theorem intsAre_pick {vs : List Value} {as : List Int} (h : IntsAre vs as) (lo hi : Option Int) : IntsAre (slicePick vs.toArray lo hi none).toList (pickS as lo hi) := by
  rw [kms_pick_eq]
  show IntsAre (kms_pick vs lo hi) _
  unfold kms_pick pickS
  rw [h.length]
  exact (h.drop _).take _
theorem nums_ok (ns : List Int) (k : Nat) (hk : k = (ns.take 6).length) : ∃ n₀ ms, (ns.take 6).map (fun n => n.fmod 1000000) ++ ([655, 7, 3, 4, 142, 36] : List Int).drop k = n₀ :: ms ∧ ms.length ≤ 5 ∧ (0 ≤ n₀ ∧ n₀ < 1000000) ∧ ∀ n ∈ ms, 0 ≤ n ∧ n < 1000000 := by
  have hall : ∀ n ∈ (ns.take 6).map (fun n => n.fmod 1000000) ++ ([655, 7, 3, 4, 142, 36] : List Int).drop k, 0 ≤ n ∧ n < 1000000 := by
    intro n hn
    rcases List.mem_append.mp hn with hn | hn
    · obtain ⟨x, _, rfl⟩ := List.mem_map.mp hn
      exact fmod_in x (by decide)
    · have hd : ∀ n ∈ ([655, 7, 3, 4, 142, 36] : List Int), 0 ≤ n ∧ n < 1000000 := by decide
      exact hd n (List.mem_of_mem_drop hn)
  have hlen : ((ns.take 6).map (fun n => n.fmod 1000000) ++ ([655, 7, 3, 4, 142, 36] : List Int).drop k).length = 6 := by
    rw [List.length_append, List.length_map, List.length_drop, hk, List.length_take]
    show min 6 ns.length + (6 - min 6 ns.length) = 6
    omega
  generalize (ns.take 6).map (fun n => n.fmod 1000000) ++ ([655, 7, 3, 4, 142, 36] : List Int).drop k = l at hall hlen
  cases l with
  | nil => cases hlen
  | cons a l => exact ⟨a, l, rfl, by simp at hlen; omega, hall a (List.mem_cons_self ..), fun n hn => hall n (List.mem_cons_of_mem _ hn)⟩
variable {w : World} {mg mb : Str → Option Value} {A : Around} {s : Shared} {R : Result → Shared → Prop}
local macro_rules | `(tactic| walk_at "call ref") => `(tactic| refine stop_ ?_)
local macro_rules | `(tactic| walk_at "compareOp Eq ref ref") => `(tactic| refine stop_ ?_)
local macro_rules | `(tactic| walk_at "exec Assign cons DictComp") => `(tactic| refine stop_ ?_)
local macro_rules | `(tactic| walk_at "exec Assign cons ListComp") => `(tactic| refine stop_ ?_)
local macro_rules | `(tactic| walk_at "last subscriptTail") => `(tactic| refine stop_ ?_)
local macro_rules | `(tactic| walk_at "call builtin:len") => `(tactic| refine stop_ ?_)
theorem spec_law {l : Addr} {vs : List Value} {ns : List Int} (hl : s.heap.IsList l vs.toArray) (hs : IntsAre vs ns) (hn : ns.length ≤ 63) (hok : ∀ n₀ ms, ms.length ≤ 5 → 0 ≤ n₀ ∧ n₀ < 1000000 → (∀ n ∈ ms, 0 ≤ n ∧ n < 1000000) → LawOk (rowS n₀ ms)) (hrow : lawRow = lawRow) (B : Base w mg mb s.heap) (hr : Lv 3 A) (h : ∀ s', Ext s s' → R (.ok (.ret (.bool true))) s') : codeAny (model prog w) A (.call (.ref 149) ⟨[.ref l], []⟩) R s := by
  refine call_fn (i := 18) (binds := [("script", .ref l)]) 3 rfl (at_law _) B hr (fun _ _ => rfl) (locs rfl) ?_ rfl rfl rfl (by decide)
  intro cd h₁ tk Q hQ F N KX TX
  revert hrow KX; k_fill; intro hrow KX
  k_steps
  unfold Stop
  k_here
  rename Fr _ _ _ _ => F0
  refine' comp_drawn F0 TX KX rfl rfl rfl rfl rfl ?hcell rfl ?hnames rfl rfl rfl (fun _ => rfl) (fun _ => rfl) (fun _ => rfl) ?_ ?hs
  case hcell => decide
  case hnames => decide
  case hs => exact fun _ => rfl
  k_steps
  rename News _ _ _ _ => N1
  rename Fr _ _ _ _ => F1
  rename IntsAre _ (List.take 6 ns) => hI1
  refine ⟨_, _, _, ns.take 6, rfl, N1.isList (.head _), hI1, by rw [List.length_take]; omega, F1, N1, ?_⟩
  intro D2 ys2 n2 h2 tk2 F2 N2 l2 hI2
  have hlen2 : ys2.length ≤ 6 := by
    have := hI2.length
    rw [List.length_map, List.length_take] at this
    omega
  clear F1 N1
  k_steps
  unfold Stop
  rename News _ _ _ _ => N3
  refine Calls.call_len_list (items := ys2.toArray) (N3.isList (.tail _ (.head _))) (by simp only [List.size_toArray]; omega) ?_
  k_steps
  unfold Stop
  k_here
  rename Fr _ _ _ _ => F4
  rename News _ _ _ _ => N4
  have i655 : ∀ t1 t2 t3 t4 t5 t6 : Tok, IntsAre [Value.int 655 t1, Value.int 7 t2, Value.int 3 t3, Value.int 4 t4, Value.int 142 t5, Value.int 36 t6] [655, 7, 3, 4, 142, 36] := fun _ _ _ _ _ _ => .cons _ _ (.cons _ _ (.cons _ _ (.cons _ _ (.cons _ _ (.cons _ _ .nil)))))
  refine kba_turn (value' := PySem.Expr.Name (PySem.Str.ofString "_") ⟨0, 0, 0, 0⟩) (fun _ => rfl) ?_
  refine' kmk_slice_ints F4 N4 (N4.isList (.head _)) (IsPart.int _ _) ?q (i655 _ _ _ _ _ _) (intsAre_pick (i655 _ _ _ _ _ _) _ _) rfl ?_ ?s ?t ?z
  case q => kmk_part
  case s => with_unfolding_all rfl
  case t => kmk_pure
  case z => exact Nat.le_of_ble_eq_true rfl
  intro D5 ws5 h5 F5 N5 l5 hI5 _ _
  rw [pickS_from _ (Int.natCast_nonneg _)] at hI5
  clear F4 N4
  k_steps
  unfold Stop
  rename Fr _ _ _ _ => F6
  rename News _ _ _ _ => N6
  rename IntsAre _ (_ ++ _) => hI6
  have hsz : ((ys2.toArray.size : Nat) : Int).toNat = (ns.take 6).length := by
    have := hI2.length
    rw [List.length_map] at this
    rw [Int.toNat_natCast, List.size_toArray]; exact this
  obtain ⟨n₀, ms, e6, hms, hb0, hbs⟩ := nums_ok ns _ hsz
  rw [e6] at hI6
  refine call_row F6 N6 (N6.isList (.head _)) hI6 hms hb0 hbs hrow KX TX (Lv.up (Lv.ab (k := 2) (by decide)) (by decide)) ?_
  intro h7 tk7 D7 ws7 n7 F7 N7 hS7
  have OK := hok n₀ ms hms hb0 hbs
  clear F6 N6
  k_steps
  unfold Stop
  k_here
  rename Fr _ _ _ _ => F8
  rename News _ _ _ _ => N8
  refine' comp_foldsD F8 N8 hrow TX KX (Lv.up (Lv.ab (k := 2) (by decide)) (by decide)) rfl rfl rfl rfl rfl ?hcell rfl ?hnames rfl rfl (fun _ => rfl) (fun _ => rfl) (fun _ => rfl) (fun _ => rfl) ?_ ?hs (modules_low TX.nolimit)
  case hcell => decide
  case hnames => decide
  case hs => exact fun _ => rfl
  walk1
  refine ⟨D7, ws7, _, rfl, N8.isList (.head _), hS7, OK.one, by have := OK.len; omega, F8, N8, ?_⟩
  intro D8 o8 h9 tk9 F9 N9 T9
  obtain ⟨lo8, kv8, hd8, hf8⟩ := T9
  obtain ⟨o8', ho8, hio8⟩ := Heap.dictOf_iff.mp hd8
  have e8 : o8' = o8 := Option.some.inj (ho8.symm.trans (N9.get (.head _)))
  subst e8
  clear F8 N8 F7 N7
  k_steps
  unfold Stop
  rename Fr _ _ _ _ => F10
  rename News _ _ _ _ => N10
  have hlen := OK.len
  have hpos := OK.pos
  refine call_told F10 N10 (N10.isList (.tail _ (.head _))) hS7 (by omega) hpos (TabAt.ofObj lo8 (N10.get (.head _)) hio8 hf8) OK.ok OK.good hrow KX TX (Lv.ab (k := 2) (by decide)) ?_
  intro h11 tk11 T11 W11 B11 ow11 ob11 least fin F11 k11 N11 lW11 lB11 cW11 cB11 hP hSo hG
  clear F10 N10 k11
  k_steps
  unfold Stop
  rename Fr _ _ _ _ => F12
  rename News _ _ _ _ => N12
  rename_i d0 h12 o0 lo0 hs0 fs0 hi0 fi0 l12
  refine call_due (fc := []) F12 N12 (N12.isList (show (D7, W.listOf ws7.toArray n7) ∈ _ by simp)) hS7 (by omega) hpos OK.c1 OK.d1 (TabAt.ofObj lo0 (N12.get (.head _)) hs0 fs0) (fun p hp => (nomatch hp)) hrow KX TX (Lv.ab (k := 2) (by decide)) ?_
  intro h13 tk13 E1 oe1 e1 F13 k13 N13 g13 lE1 cE1 hR1
  clear F12 N12 k13
  k_steps
  unfold Stop
  rename Fr _ _ _ _ => F14
  rename News _ _ _ _ => N14
  refine call_due (fc := fcL (rowS n₀ ms)) F14 N14 (N14.isList (show (D7, W.listOf ws7.toArray n7) ∈ _ by simp)) hS7 (by omega) hpos OK.c2 OK.d2 (TabAt.ofObj lo8 (N14.get (show (D8, _) ∈ _ by simp)) hio8 hf8) OK.fl hrow KX TX (Lv.ab (k := 2) (by decide)) ?_
  intro h15 tk15 E2 oe2 e2 F15 k15 N15 g15 lE2 cE2 hR2
  clear F14 N14 k15
  obtain ⟨same1, same2⟩ := OK.same least fin e1 e2 hP hSo hG hR1 hR2
  have ne1 : W11 ≠ E1 := g13 (W11, ow11) (by simp)
  have ne2 : B11 ≠ E2 := g15 (B11, ob11) (by simp)
  k_steps
  unfold Stop
  rename Fr _ _ _ _ => F16
  rename News _ _ _ _ => N16
  refine eq_pairs (N16.get (show (T11, ({ cls := .type "tuple", data := .seq #[.ref W11, .ref B11] 0 } : Obj)) ∈ _ by simp)) (N16.get (.head _)) (N16.get (show (W11, ow11) ∈ _ by simp)) (N16.get (show (B11, ob11) ∈ _ by simp)) (N16.get (show (E1, oe1) ∈ _ by simp)) (N16.get (show (E2, oe2) ∈ _ by simp)) lW11 lB11 lE1 lE2 cW11 cB11 cE1 cE2 ne1 ne2 same1 same2 (by ke_room) ?_
  k_steps
  exact hQ _ _ (h _ ⟨_, _, rfl, F16.keep⟩)
end Mine
end
section
set_option maxRecDepth 10000
set_option maxHeartbeats 1000000
namespace Mine
/-- sum over a list -/
noncomputable def sm {α : Type} : List α → (α → Nat) → Nat
  | [], _ => 0
  | x :: l, f => f x + sm l f
theorem sm_congr {α : Type} {f g : α → Nat} : ∀ {l : List α}, (∀ x ∈ l, f x = g x) → sm l f = sm l g
  | [], _ => rfl
  | x :: l, h => by
    simp only [sm]
    rw [h x (List.mem_cons_self ..), sm_congr (l := l) fun y hy => h y (List.mem_cons_of_mem _ hy)]
theorem sm_add {α : Type} (f g : α → Nat) : ∀ l : List α, sm l (fun x => f x + g x) = sm l f + sm l g
  | [] => rfl
  | x :: l => by simp only [sm]; rw [sm_add f g l]; omega
theorem sm_mul {α : Type} (c : Nat) (f : α → Nat) : ∀ l : List α, sm l (fun x => c * f x) = c * sm l f
  | [] => rfl
  | x :: l => by simp only [sm]; rw [sm_mul c f l, Nat.mul_add]
theorem sm_const {α : Type} (c : Nat) : ∀ l : List α, sm l (fun _ => c) = l.length * c
  | [] => (Nat.zero_mul c).symm
  | x :: l => by simp only [sm, List.length_cons]; rw [sm_const c l, Nat.add_mul]; omega
theorem sm_zero {α : Type} (l : List α) : sm l (fun _ => 0) = 0 := by rw [sm_const]; rfl
theorem sm_append {α : Type} (f : α → Nat) : ∀ a b : List α, sm (a ++ b) f = sm a f + sm b f
  | [], b => (Nat.zero_add _).symm
  | x :: a, b => by simp only [List.cons_append, sm]; rw [sm_append f a b]; omega
theorem sm_map {α β : Type} (g : α → β) (f : β → Nat) : ∀ l : List α, sm (l.map g) f = sm l (fun x => f (g x))
  | [] => rfl
  | x :: l => by simp only [List.map_cons, sm]; rw [sm_map g f l]
theorem sm_flat {α β : Type} (g : α → List β) (f : β → Nat) : ∀ l : List α, sm (l.flatMap g) f = sm l (fun x => sm (g x) f)
  | [] => rfl
  | x :: l => by simp only [List.flatMap_cons, sm]; rw [sm_append, sm_flat g f l]
theorem sm_perm {α : Type} {f : α → Nat} {l l' : List α} (h : l.Perm l') : sm l f = sm l' f := by
  induction h with
  | nil => rfl
  | cons x _ ih => simp only [sm]; rw [ih]
  | swap x y l => simp only [sm]; omega
  | trans _ _ i1 i2 => rw [i1, i2]
theorem sm_erase {f : Nat → Nat} {l : List Nat} {x : Nat} (h : x ∈ l) : sm l f = f x + sm (l.erase x) f :=
  sm_perm (List.perm_cons_erase h)
theorem sm_filter {α : Type} (p : α → Bool) (f : α → Nat) : ∀ l : List α, sm l f = sm (l.filter p) f + sm (l.filter fun x => !p x) f
  | [] => rfl
  | x :: l => by
    have ih := sm_filter p f l
    cases h : p x <;> simp [List.filter_cons, h, sm] <;> omega
theorem sm_swap {α β : Type} (F : α → β → Nat) (b : List β) : ∀ a : List α, sm a (fun x => sm b fun y => F x y) = sm b fun y => sm a fun x => F x y
  | [] => by simp only [sm]; rw [sm_zero]
  | x :: a => by
    simp only [sm]
    rw [sm_swap F b a, sm_add]
theorem sm_pairs (F : Nat → Nat → Nat) (o : List Nat) : (sm o fun y => sm (o.erase y) fun x => F x y) = sm o fun x => sm (o.erase x) fun y => F x y := by
  have a : (sm o fun y => sm o fun x => F x y) = (sm o fun y => F y y) + sm o fun y => sm (o.erase y) fun x => F x y := by
    rw [← sm_add]; exact sm_congr fun y hy => sm_erase hy
  have b : (sm o fun x => sm o fun y => F x y) = (sm o fun x => F x x) + sm o fun x => sm (o.erase x) fun y => F x y := by
    rw [← sm_add]; exact sm_congr fun y hy => sm_erase hy
  have c := sm_swap (fun x y => F x y) o o
  omega
noncomputable def fct : Nat → Nat | 0 => 1 | n + 1 => (n + 1) * fct n
theorem fct_pos : ∀ n, 0 < fct n
  | 0 => Nat.one_pos
  | n + 1 => Nat.mul_pos (Nat.succ_pos n) (fct_pos n)
/-- labelled orders, weighed -/
noncomputable def LC : Nat → List Nat → (List Nat → Nat) → Nat
  | 0, _, P => P []
  | n + 1, l, P => sm l fun x => LC n (l.erase x) fun p => P (x :: p)
theorem LC_add : ∀ (n : Nat) (l : List Nat) (P Q : List Nat → Nat), LC n l (fun p => P p + Q p) = LC n l P + LC n l Q
  | 0, _, _, _ => rfl
  | n + 1, l, P, Q => by
    simp only [LC]
    rw [← sm_add]
    exact sm_congr fun x _ => LC_add n _ _ _
theorem LC_const (c : Nat) : ∀ (n : Nat) (l : List Nat), l.length = n → LC n l (fun _ => c) = fct n * c
  | 0, _, _ => (Nat.one_mul c).symm
  | n + 1, l, h => by
    simp only [LC]
    rw [sm_congr (g := fun _ => fct n * c) fun x hx => LC_const c n _ (by rw [List.length_erase_of_mem hx]; omega), sm_const, h]
    show _ = ((n + 1) * fct n) * c
    rw [Nat.mul_assoc]
theorem LC_zero (n : Nat) (l : List Nat) (h : l.length = n) : LC n l (fun _ => 0) = 0 := LC_const 0 n l h
theorem er_len {l : List Nat} {x n : Nat} (hx : x ∈ l) (h : l.length = n + 1) : (l.erase x).length = n := by
  rw [List.length_erase_of_mem hx]; omega
section
variable (k : Nat → Nat)
/-- a dot stands ahead of the first stop (0: a stop, 1: a dot) -/
noncomputable def hd : List Nat → Bool
  | [] => false
  | x :: p => if k x = 0 then false else if k x = 1 then true else hd p
noncomputable def seg : List Nat → List Nat
  | [] => []
  | x :: p => if k x = 0 then [] else if k x = 1 then seg p else if hd k p then seg p else x :: seg p
noncomputable def nS (l : List Nat) : Nat := (l.filter fun x => k x == 0).length
noncomputable def nD (l : List Nat) : Nat := (l.filter fun x => k x == 1).length
noncomputable def oth (l : List Nat) : List Nat := l.filter fun x => decide (2 ≤ k x)
theorem sm_kinds (f : Nat → Nat) : ∀ l : List Nat, sm l f = sm (l.filter fun x => k x == 0) f + sm (l.filter fun x => k x == 1) f + sm (oth k l) f
  | [] => rfl
  | x :: l => by
    have ih := sm_kinds f l
    unfold oth at *
    by_cases h0 : k x = 0
    · simp [List.filter_cons, h0, sm]; omega
    by_cases h1 : k x = 1
    · simp [List.filter_cons, h1, sm]; omega
    have h2 : 2 ≤ k x := by omega
    simp [List.filter_cons, h0, h1, h2, sm]; omega
theorem filter_erase' (p : Nat → Bool) (y : Nat) : ∀ l : List Nat, (l.erase y).filter p = if p y then (l.filter p).erase y else l.filter p
  | [] => by simp
  | x :: l => by
    have ih := filter_erase' p y l
    by_cases e : x = y
    · subst e
      cases hp : p x <;> simp [List.filter_cons, hp]
    · have e' : (x == y) = false := by simpa using e
      rw [List.erase_cons_tail (by simpa using e), List.filter_cons, List.filter_cons, ih]
      cases hp : p x <;> cases hy : p y <;> simp
      rw [List.erase_cons_tail (by simpa using e)]
theorem len_kinds (l : List Nat) : l.length = nS k l + nD k l + (oth k l).length := by
  have h := sm_kinds k (fun _ => 1) l
  rw [sm_const, sm_const, sm_const, sm_const] at h
  unfold nS nD
  omega
/-- the weight of a rest of r signs with m marks -/
noncomputable def om (r m : Nat) : Nat := if m = 0 then (if r = 0 then 1 else 0) else m * fct (r + m - 1)
noncomputable def wV : Nat → List Nat → Nat → (List Nat → Nat) → Nat
  | 0, _, m, Q => Q [] * om 0 m
  | r + 1, o, m, Q => Q [] * om (r + 1) m + sm o fun x => wV r (o.erase x) m fun p => Q (x :: p)
theorem V_unf {r : Nat} {o : List Nat} (h : o.length = r) (m : Nat) (Q : List Nat → Nat) : wV r o m Q = Q [] * om r m + sm o fun x => wV (r - 1) (o.erase x) m fun p => Q (x :: p) := by
  cases r with
  | zero => rw [List.eq_nil_of_length_eq_zero h]; rfl
  | succ r => rfl
theorem om_rec (r m : Nat) : (m + 1) * om r m + r * om (r - 1) (m + 1) = om r (m + 1) := by
  unfold om
  rw [if_neg (Nat.succ_ne_zero m), if_neg (Nat.succ_ne_zero m)]
  by_cases hm : m = 0
  · subst hm
    by_cases hr : r = 0
    · subst hr; rfl
    · rw [if_pos rfl, if_neg hr]
      obtain ⟨q, rfl⟩ : ∃ q, r = q + 1 := ⟨r - 1, by omega⟩
      show 1 * 0 + (q + 1) * (1 * fct (q + 1 - 1 + 1 - 1)) = 1 * fct (q + 1 + 1 - 1)
      rw [show q + 1 - 1 + 1 - 1 = q by omega, show q + 1 + 1 - 1 = q + 1 by omega]
      show _ = 1 * ((q + 1) * fct q)
      rw [Nat.one_mul, Nat.one_mul]; omega
  · rw [if_neg hm]
    obtain ⟨j, rfl⟩ : ∃ j, m = j + 1 := ⟨m - 1, by omega⟩
    rw [show r + (j + 1) - 1 = r + j by omega, show r + (j + 1 + 1) - 1 = r + j + 1 by omega]
    by_cases hr : r = 0
    · subst hr
      rw [Nat.zero_mul, Nat.add_zero, Nat.zero_add]
      show _ = (j + 1 + 1) * ((j + 1) * fct j)
      rfl
    · rw [show r - 1 + (j + 1 + 1) - 1 = r + j by omega]
      show _ = (j + 1 + 1) * ((r + j + 1) * fct (r + j))
      have a1 : (j + 1 + 1) * ((j + 1) * fct (r + j)) = ((j + 1 + 1) * (j + 1)) * fct (r + j) := (Nat.mul_assoc ..).symm
      have a2 : r * ((j + 1 + 1) * fct (r + j)) = (r * (j + 1 + 1)) * fct (r + j) := (Nat.mul_assoc ..).symm
      have a3 : (j + 1 + 1) * ((r + j + 1) * fct (r + j)) = ((j + 1 + 1) * (r + j + 1)) * fct (r + j) := (Nat.mul_assoc ..).symm
      rw [a1, a2, a3, ← Nat.add_mul, Nat.mul_comm r, ← Nat.mul_add]
      congr 2
      omega
theorem V_rec : ∀ (r : Nat) (o : List Nat), o.length = r → ∀ (m : Nat) (Q : List Nat → Nat), (m + 1) * wV r o m Q + (sm o fun y => wV (r - 1) (o.erase y) (m + 1) Q) = wV r o (m + 1) Q
  | 0, o, h, m, Q => by
    rw [List.eq_nil_of_length_eq_zero h]
    show (m + 1) * (Q [] * om 0 m) + 0 = Q [] * om 0 (m + 1)
    rw [← om_rec 0 m, Nat.mul_left_comm, Nat.zero_mul]; rfl
  | r + 1, o, h, m, Q => by
    have e1 : (sm o fun y => wV r (o.erase y) (m + 1) Q) = (r + 1) * (Q [] * om r (m + 1)) + sm o fun x => sm (o.erase x) fun y => wV (r - 1) ((o.erase x).erase y) (m + 1) fun p => Q (x :: p) := by
      rw [sm_congr (g := fun y => Q [] * om r (m + 1) + sm (o.erase y) fun x => wV (r - 1) ((o.erase y).erase x) (m + 1) fun p => Q (x :: p)) fun y hy => V_unf (er_len hy h) (m + 1) Q, sm_add, sm_const, h]
      congr 1
      rw [sm_congr (g := fun y => sm (o.erase y) fun x => wV (r - 1) ((o.erase x).erase y) (m + 1) fun p => Q (x :: p)) fun y _ => sm_congr fun x _ => by rw [List.erase_comm]]
      exact sm_pairs (fun x y => wV (r - 1) ((o.erase x).erase y) (m + 1) fun p => Q (x :: p)) o
    rw [show r + 1 - 1 = r from rfl, e1]
    show (m + 1) * (Q [] * om (r + 1) m + sm o fun x => wV r (o.erase x) m fun p => Q (x :: p)) + _ = Q [] * om (r + 1) (m + 1) + sm o fun x => wV r (o.erase x) (m + 1) fun p => Q (x :: p)
    rw [← om_rec (r + 1) m, ← sm_congr (fun x hx => V_rec r (o.erase x) (er_len hx h) m fun p => Q (x :: p)), sm_add, sm_mul, Nat.mul_add, Nat.mul_add, Nat.mul_left_comm (m + 1) (Q []), Nat.mul_left_comm (r + 1) (Q [])]
    rw [show r + 1 - 1 = r from rfl]
    omega
noncomputable def wB (Q : List Nat → Nat) (p : List Nat) : Nat := if hd k p then 0 else Q (seg k p)
noncomputable def wC (Q : List Nat → Nat) (p : List Nat) : Nat := if hd k p then Q (seg k p) else 0
theorem LC_split (n : Nat) (l : List Nat) (Q : List Nat → Nat) : LC n l (fun p => Q (seg k p)) = LC n l (wB k Q) + LC n l (wC k Q) := by
  rw [← LC_add]
  congr 1
  funext p
  unfold wB wC
  cases hd k p <;> simp
theorem mem_kind {l : List Nat} {p : Nat → Bool} {y : Nat} (h : y ∈ l.filter p) : y ∈ l ∧ p y = true := List.mem_filter.mp h
theorem main_count : ∀ (n : Nat) (l : List Nat), l.length = n → ∀ (Q : List Nat → Nat),
    ((nS k l + nD k l) * LC n l (wB k Q) = nS k l * wV (oth k l).length (oth k l) (nS k l + nD k l) Q ∧ (nS k l + nD k l = 0 → LC n l (wB k Q) = wV (oth k l).length (oth k l) 0 Q)) ∧
    ((nS k l + nD k l) * LC n l (wC k Q) = nD k l * wV (oth k l).length (oth k l) (nS k l + nD k l) Q ∧ (nS k l + nD k l = 0 → LC n l (wC k Q) = 0)) ∧
    LC n l (fun p => Q (seg k p)) = wV (oth k l).length (oth k l) (nS k l + nD k l) Q := by
  intro n
  induction n with
  | zero =>
    intro l h Q
    rw [List.eq_nil_of_length_eq_zero h]
    have e1 : LC 0 [] (wB k Q) = Q [] := rfl
    have e2 : LC 0 [] (wC k Q) = 0 := rfl
    have e3 : wV (oth k []).length (oth k []) 0 Q = Q [] * 1 := rfl
    refine ⟨⟨(Nat.zero_mul _).trans (Nat.zero_mul _).symm, fun _ => ?_⟩, ⟨(Nat.zero_mul _).symm, fun _ => rfl⟩, ?_⟩
    · rw [e1, e3, Nat.mul_one]
    · show Q [] = Q [] * 1
      rw [Nat.mul_one]
  | succ n ih =>
    intro l h Q
    have hlen := len_kinds k l
    -- what an erased sign leaves
    have k1 : ∀ y ∈ l.filter (fun x => k x == 1), oth k (l.erase y) = oth k l ∧ nS k (l.erase y) = nS k l ∧ nD k (l.erase y) + 1 = nD k l ∧ (l.erase y).length = n := by
      intro y hy
      obtain ⟨hm, hk⟩ := mem_kind hy
      have hk' : k y = 1 := by simpa using hk
      refine ⟨?_, ?_, ?_, er_len hm h⟩
      · unfold oth; rw [filter_erase']; simp [hk']
      · unfold nS; rw [filter_erase']; simp [hk']
      · unfold nD; rw [filter_erase']; simp only [hk', beq_self_eq_true, if_true]
        rw [List.length_erase_of_mem hy]
        have := List.length_pos_of_mem hy
        omega
    have k2 : ∀ y ∈ oth k l, oth k (l.erase y) = (oth k l).erase y ∧ nS k (l.erase y) = nS k l ∧ nD k (l.erase y) = nD k l ∧ (l.erase y).length = n ∧ ¬ k y = 0 ∧ ¬ k y = 1 ∧ (oth k (l.erase y)).length = (oth k l).length - 1 := by
      intro y hy
      obtain ⟨hm, hk⟩ := mem_kind hy
      have hk' : 2 ≤ k y := by simpa using hk
      have a : oth k (l.erase y) = (oth k l).erase y := by unfold oth; rw [filter_erase']; simp [hk']
      refine ⟨a, ?_, ?_, er_len hm h, by omega, by omega, ?_⟩
      · unfold nS; rw [filter_erase']; simp [show k y ≠ 0 by omega]
      · unfold nD; rw [filter_erase']; simp [show k y ≠ 1 by omega]
      · rw [a, List.length_erase_of_mem hy]
    have eB : LC (n + 1) l (wB k Q) = nS k l * (fct n * Q []) + sm (oth k l) fun y => LC n (l.erase y) (wB k fun p => Q (y :: p)) := by
      show (sm l fun x => LC n (l.erase x) fun p => wB k Q (x :: p)) = _
      rw [sm_kinds k]
      rw [sm_congr (l := l.filter fun x => k x == 0) (g := fun _ => fct n * Q []) (fun y hy => ?_), sm_const]
      rw [sm_congr (l := l.filter fun x => k x == 1) (g := fun _ => 0) (fun y hy => ?_), sm_zero, Nat.add_zero]
      · congr 1
        refine sm_congr fun y hy => ?_
        congr 1
        funext p
        obtain ⟨_, _, _, _, y0, y1, _⟩ := k2 y hy
        unfold wB
        simp only [hd, seg, if_neg y0, if_neg y1]
        cases hd k p <;> rfl
      · obtain ⟨hm, hk⟩ := mem_kind hy
        have hk' : k y = 1 := by simpa using hk
        rw [← LC_zero n (l.erase y) (er_len hm h)]
        congr 1
        funext p
        unfold wB
        simp [hd, hk']
      · obtain ⟨hm, hk⟩ := mem_kind hy
        have hk' : k y = 0 := by simpa using hk
        rw [← LC_const (Q []) n (l.erase y) (er_len hm h)]
        congr 1
        funext p
        unfold wB
        simp [hd, seg, hk']
    have eC : LC (n + 1) l (wC k Q) = nD k l * wV (oth k l).length (oth k l) (nS k l + nD k l - 1) Q + sm (oth k l) fun y => LC n (l.erase y) (wC k Q) := by
      show (sm l fun x => LC n (l.erase x) fun p => wC k Q (x :: p)) = _
      rw [sm_kinds k]
      rw [sm_congr (l := l.filter fun x => k x == 0) (g := fun _ => 0) (fun y hy => ?_), sm_zero, Nat.zero_add]
      rw [sm_congr (l := l.filter fun x => k x == 1) (g := fun _ => wV (oth k l).length (oth k l) (nS k l + nD k l - 1) Q) (fun y hy => ?_), sm_const]
      · congr 1
        refine sm_congr fun y hy => ?_
        congr 1
        funext p
        obtain ⟨_, _, _, _, y0, y1, _⟩ := k2 y hy
        unfold wC
        simp only [hd, seg, if_neg y0, if_neg y1]
        cases hd k p <;> rfl
      · obtain ⟨a, b, c, d⟩ := k1 y hy
        obtain ⟨hm, hk⟩ := mem_kind hy
        have hk' : k y = 1 := by simpa using hk
        have := (ih (l.erase y) d Q).2.2
        rw [a, b, show nS k l + nD k (l.erase y) = nS k l + nD k l - 1 by omega] at this
        rw [← this]
        congr 1
        funext p
        unfold wC
        simp [hd, seg, hk']
      · obtain ⟨hm, hk⟩ := mem_kind hy
        have hk' : k y = 0 := by simpa using hk
        rw [← LC_zero n (l.erase y) (er_len hm h)]
        congr 1
        funext p
        unfold wC
        simp [hd, hk']
    have hB : (nS k l + nD k l) * LC (n + 1) l (wB k Q) = nS k l * wV (oth k l).length (oth k l) (nS k l + nD k l) Q ∧ (nS k l + nD k l = 0 → LC (n + 1) l (wB k Q) = wV (oth k l).length (oth k l) 0 Q) := by
      constructor
      · by_cases hm : nS k l + nD k l = 0
        · rw [show nS k l = 0 by omega, show nD k l = 0 by omega, Nat.zero_mul, Nat.zero_mul]
        rw [eB, Nat.mul_add, ← sm_mul]
        rw [sm_congr (g := fun y => nS k l * wV ((oth k l).length - 1) ((oth k l).erase y) (nS k l + nD k l) fun p => Q (y :: p)) (fun y hy => ?_), sm_mul]
        · rw [V_unf rfl, Nat.mul_add]
          congr 1
          unfold om
          rw [if_neg hm, show (oth k l).length + (nS k l + nD k l) - 1 = n by omega, Nat.mul_left_comm, Nat.mul_comm (fct n) (Q []), Nat.mul_left_comm (nS k l + nD k l) (Q [])]
        · obtain ⟨a, b, c, d, _, _, e⟩ := k2 y hy
          have := (ih (l.erase y) d fun p => Q (y :: p)).1.1
          rw [a, b, c] at this
          rw [a] at e
          rw [e] at this
          exact this
      · intro hm
        rw [eB, show nS k l = 0 by omega, Nat.zero_mul, Nat.zero_add, V_unf rfl]
        unfold om
        rw [if_pos rfl, if_neg (by omega), Nat.mul_zero, Nat.zero_add]
        refine sm_congr fun y hy => ?_
        obtain ⟨a, b, c, d, _, _, e⟩ := k2 y hy
        have := (ih (l.erase y) d fun p => Q (y :: p)).1.2 (by omega)
        rw [a] at e
        rw [a, e] at this
        exact this
    have hC : (nS k l + nD k l) * LC (n + 1) l (wC k Q) = nD k l * wV (oth k l).length (oth k l) (nS k l + nD k l) Q ∧ (nS k l + nD k l = 0 → LC (n + 1) l (wC k Q) = 0) := by
      constructor
      · by_cases hm : nS k l + nD k l = 0
        · rw [show nS k l = 0 by omega, show nD k l = 0 by omega, Nat.zero_mul, Nat.zero_mul]
        rw [eC, Nat.mul_add, ← sm_mul]
        rw [sm_congr (g := fun y => nD k l * wV ((oth k l).length - 1) ((oth k l).erase y) (nS k l + nD k l) Q) (fun y hy => ?_), sm_mul]
        · have := V_rec (oth k l).length (oth k l) rfl (nS k l + nD k l - 1) Q
          rw [show nS k l + nD k l - 1 + 1 = nS k l + nD k l by omega] at this
          rw [← this, Nat.mul_add, Nat.mul_left_comm]
        · obtain ⟨a, b, c, d, _, _, e⟩ := k2 y hy
          have := (ih (l.erase y) d Q).2.1.1
          rw [a, b, c] at this
          rw [a] at e
          rw [e] at this
          exact this
      · intro hm
        rw [eC, show nD k l = 0 by omega, Nat.zero_mul, Nat.zero_add, ← sm_zero (oth k l)]
        refine sm_congr fun y hy => ?_
        obtain ⟨a, b, c, d, _, _, e⟩ := k2 y hy
        exact (ih (l.erase y) d Q).2.1.2 (by omega)
    refine ⟨hB, hC, ?_⟩
    rw [LC_split]
    by_cases hm : nS k l + nD k l = 0
    · rw [hB.2 hm, hC.2 hm, hm]; rfl
    · have := hB.1
      have := hC.1
      refine Nat.eq_of_mul_eq_mul_left (Nat.pos_of_ne_zero hm) ?_
      rw [Nat.mul_add, hB.1, hC.1, ← Nat.add_mul]
end
end Mine
end
section
set_option maxRecDepth 10000
set_option maxHeartbeats 1000000
namespace Mine
/-- the distinct signs, each where it stands first -/
noncomputable def nb : List Nat → List Nat
  | [] => []
  | x :: l => x :: (nb l).filter fun y => !(y == x)
theorem mem_nb {x : Nat} : ∀ {l : List Nat}, x ∈ nb l ↔ x ∈ l
  | [] => Iff.rfl
  | y :: l => by
    simp only [nb, List.mem_cons, List.mem_filter, mem_nb (l := l)]
    constructor
    · rintro (h | h)
      · exact .inl h
      · exact .inr h.1
    · rintro (h | h)
      · exact .inl h
      · by_cases e : x = y
        · exact .inl e
        · exact .inr ⟨h, by simpa using e⟩
theorem nb_filter (x : Nat) : ∀ l : List Nat, (nb l).filter (fun y => y == x) = if x ∈ l then [x] else []
  | [] => rfl
  | y :: l => by
    have ih := nb_filter x l
    simp only [nb, List.filter_cons, List.filter_filter]
    by_cases e : y = x
    · subst e
      rw [if_pos (beq_self_eq_true y), if_pos (List.mem_cons_self ..)]
      congr 1
      rw [List.filter_eq_nil_iff]
      intro a _
      cases h : a == y <;> simp
    · rw [if_neg (by simpa using e)]
      rw [List.filter_congr (q := fun a => a == x) (fun a _ => by
        by_cases h : a = x
        · subst h; simp; exact fun h => e h.symm
        · simp [h]), ih]
      have : (x ∈ y :: l) = (x ∈ l) := by
        simp only [List.mem_cons, eq_iff_iff, or_iff_right_iff_imp]
        exact fun h => absurd h.symm e
      simp only [this]
theorem sm_nb (f : Nat → Nat) : ∀ l : List Nat, sm l f = sm (nb l) fun x => l.count x * f x
  | [] => rfl
  | x :: l => by
    have ih := sm_nb f l
    have h := sm_filter (fun y => y == x) (fun y => l.count y * f y) (nb l)
    rw [nb_filter] at h
    simp only [sm, nb]
    rw [sm_congr (l := (nb l).filter fun y => !(y == x)) (g := fun y => l.count y * f y) (fun y hy => ?_)]
    · rw [ih, h, List.count_cons_self, Nat.add_mul]
      by_cases hx : x ∈ l
      · rw [if_pos hx]; simp only [sm]; omega
      · rw [if_neg hx, List.count_eq_zero.mpr hx]; simp only [sm]; omega
    · have := (List.mem_filter.mp hy).2
      have e : ¬ x = y := fun h => by rw [h] at this; simp at this
      show (x :: l).count y * _ = _
      rw [List.count_cons_of_ne e]
/-- the distinct orders, weighed -/
noncomputable def DC : Nat → List Nat → (List Nat → Nat) → Nat
  | 0, _, P => P []
  | n + 1, l, P => sm (nb l) fun x => DC n (l.erase x) fun p => P (x :: p)
noncomputable def fp : List Nat → Nat
  | [] => 1
  | x :: l => (l.count x + 1) * fp l
theorem fp_pos : ∀ l, 0 < fp l
  | [] => Nat.one_pos
  | _ :: l => Nat.mul_pos (Nat.succ_pos _) (fp_pos l)
theorem fp_erase {x : Nat} : ∀ {l : List Nat}, x ∈ l → fp l = l.count x * fp (l.erase x)
  | y :: l, h => by
    by_cases e : y = x
    · subst e
      rw [List.erase_cons_head, List.count_cons_self]; rfl
    · have hx : x ∈ l := (List.mem_cons.mp h).resolve_left fun h => e h.symm
      rw [List.erase_cons_tail (by simpa using e), List.count_cons_of_ne e]
      show (l.count y + 1) * fp l = l.count x * (((l.erase x).count y + 1) * fp (l.erase x))
      rw [fp_erase hx, List.count_erase_of_ne (by simpa using e), Nat.mul_left_comm]
theorem LC_DC : ∀ (n : Nat) (l : List Nat), l.length = n → ∀ P, LC n l P = fp l * DC n l P
  | 0, l, h, P => by rw [List.eq_nil_of_length_eq_zero h]; exact (Nat.one_mul _).symm
  | n + 1, l, h, P => by
    simp only [LC, DC]
    rw [sm_nb, ← sm_mul]
    refine sm_congr fun x hx => ?_
    have hm := mem_nb.mp hx
    rw [LC_DC n _ (er_len hm h), fp_erase hm, Nat.mul_assoc]
theorem fp_filter (p : Nat → Bool) : ∀ l : List Nat, fp l = fp (l.filter p) * fp (l.filter fun x => !p x)
  | [] => rfl
  | x :: l => by
    have ih := fp_filter p l
    cases h : p x
    · rw [List.filter_cons_of_neg (by simp [h]), List.filter_cons_of_pos (by simp [h])]
      show (l.count x + 1) * fp l = _ * (((l.filter fun x => !p x).count x + 1) * _)
      rw [List.count_filter (by simp [h]), ih, Nat.mul_left_comm]
    · rw [List.filter_cons_of_pos h, List.filter_cons_of_neg (by simp [h])]
      show (l.count x + 1) * fp l = ((l.filter p).count x + 1) * _ * _
      rw [List.count_filter h, ih, Nat.mul_assoc]
/-- the number of distinct orders -/
noncomputable def nOrd (l : List Nat) : Nat := DC l.length l fun _ => 1
theorem fp_W (l : List Nat) : fp l * nOrd l = fct l.length := by
  unfold nOrd
  rw [← LC_DC l.length l rfl, LC_const 1 l.length l rfl, Nat.mul_one]
/-- the words' tree -/
noncomputable def TD (g : List Nat → Nat) : Nat → List Nat → (List Nat → Nat) → Nat
  | 0, o, Q => Q [] * g o
  | r + 1, o, Q => Q [] * g o + sm (nb o) fun x => TD g r (o.erase x) fun p => Q (x :: p)
theorem TD_V {g : List Nat → Nat} {c m : Nat} (hg : ∀ o, c * (fp o * g o) = om o.length m) : ∀ (r : Nat) (o : List Nat), o.length = r → ∀ Q, c * (fp o * TD g r o Q) = wV r o m Q
  | 0, o, h, Q => by
    have := hg o
    rw [h] at this
    show c * (fp o * (Q [] * g o)) = Q [] * om 0 m
    rw [← this, Nat.mul_left_comm (fp o), Nat.mul_left_comm c]
  | r + 1, o, h, Q => by
    have := hg o
    rw [h] at this
    show c * (fp o * (Q [] * g o + sm (nb o) fun x => TD g r (o.erase x) fun p => Q (x :: p))) = Q [] * om (r + 1) m + sm o fun x => wV r (o.erase x) m fun p => Q (x :: p)
    rw [Nat.mul_add, Nat.mul_add, ← this, Nat.mul_left_comm (fp o), Nat.mul_left_comm c (Q [])]
    congr 1
    rw [sm_nb _ o, ← sm_mul, ← sm_mul]
    refine sm_congr fun x hx => ?_
    have hm := mem_nb.mp hx
    rw [← TD_V hg r _ (er_len hm h), fp_erase hm, Nat.mul_assoc, Nat.mul_left_comm]
/-- the law of the words: the orders told by their bare names are the words due -/
theorem told_due (k : Nat → Nat) (g : List Nat → Nat) (l : List Nat) (hg : ∀ o, fp (l.filter fun x => !decide (2 ≤ k x)) * (fp o * g o) = om o.length (l.filter fun x => !decide (2 ≤ k x)).length) (Q : List Nat → Nat) :
    DC l.length l (fun p => Q (seg k p)) = TD g (oth k l).length (oth k l) Q := by
  have h1 := (main_count k l.length l rfl Q).2.2
  rw [LC_DC l.length l rfl] at h1
  have hl : nS k l + nD k l = (l.filter fun x => !decide (2 ≤ k x)).length := by
    have a := len_kinds k l
    have b := sm_filter (fun x => decide (2 ≤ k x)) (fun _ => 1) l
    rw [sm_const, sm_const, sm_const] at b
    unfold oth at a
    omega
  have h2 := TD_V hg (oth k l).length (oth k l) rfl Q
  rw [← hl, ← h1] at h2
  have h3 := fp_filter (fun x => decide (2 ≤ k x)) l
  refine (Nat.eq_of_mul_eq_mul_left (fp_pos l) ?_).symm
  rw [← h2]
  rw [h3]
  unfold oth
  rw [← Nat.mul_assoc, Nat.mul_comm (fp (l.filter fun x => !decide (2 ≤ k x)))]
/-- the orders themselves, in the order of the letters where l is sorted -/
noncomputable def LX : Nat → List Nat → List (List Nat)
  | 0, _ => [[]]
  | n + 1, l => (nb l).flatMap fun x => (LX n (l.erase x)).map (x :: ·)
theorem sm_LX : ∀ (n : Nat) (l : List Nat) (P : List Nat → Nat), sm (LX n l) P = DC n l P
  | 0, _, _ => rfl
  | n + 1, l, P => by
    simp only [LX, DC]
    rw [sm_flat]
    refine sm_congr fun x _ => ?_
    rw [sm_map, sm_LX n]
theorem LX_length (l : List Nat) : (LX l.length l).length = nOrd l := by
  have := sm_LX l.length l fun _ => 1
  rw [sm_const, Nat.mul_one] at this
  exact this
theorem LX_perm : ∀ (n : Nat) (l : List Nat), l.length = n → ∀ p ∈ LX n l, p.Perm l
  | 0, l, h, p, hp => by
    rw [List.eq_nil_of_length_eq_zero h]
    rw [List.mem_singleton.mp hp]
  | n + 1, l, h, p, hp => by
    simp only [LX, List.mem_flatMap, List.mem_map] at hp
    obtain ⟨x, hx, q, hq, rfl⟩ := hp
    have hm := mem_nb.mp hx
    exact ((LX_perm n _ (er_len hm h) q hq).cons x).trans (List.perm_cons_erase hm).symm
/-- the next order -/
noncomputable def Nx (p q : List Nat) : Prop := ∃ pre x a y b, p = pre ++ x :: (a ++ y :: b) ∧ q = pre ++ y :: (a ++ x :: b).reverse ∧ (a ++ y :: b).Pairwise (fun i j => j ≤ i) ∧ x < y ∧ ∀ z ∈ b, z ≤ x
theorem Nx.cons {p q : List Nat} (h : Nx p q) (z : Nat) : Nx (z :: p) (z :: q) := by
  obtain ⟨pre, x, a, y, b, h1, h2, h3, h4, h5⟩ := h
  exact ⟨z :: pre, x, a, y, b, by rw [h1]; rfl, by rw [h2]; rfl, h3, h4, h5⟩
noncomputable def Ch : List (List Nat) → Prop
  | [] => True
  | [_] => True
  | p :: q :: t => Nx p q ∧ Ch (q :: t)
theorem Ch_map (z : Nat) : ∀ {L : List (List Nat)}, Ch L → Ch (L.map (z :: ·))
  | [], _ => trivial
  | [_], _ => trivial
  | _ :: _ :: _, h => ⟨h.1.cons z, Ch_map z h.2⟩
theorem Ch_append : ∀ {A B : List (List Nat)}, Ch A → Ch B → (∀ p q, A.getLast? = some p → B.head? = some q → Nx p q) → Ch (A ++ B)
  | [], _, _, hB, _ => hB
  | [p], [], _, _, _ => trivial
  | [p], q :: t, _, hB, h => ⟨h p q rfl rfl, hB⟩
  | p :: p' :: A, B, hA, hB, h => ⟨hA.1, Ch_append (A := p' :: A) hA.2 hB fun u v hu hv => h u v (by rw [List.getLast?_cons_cons]; exact hu) hv⟩
noncomputable def Srt (l : List Nat) : Prop := l.Pairwise (· ≤ ·)
theorem erase_mid : ∀ {lower : List Nat} {x : Nat} {rest : List Nat}, Srt (lower ++ x :: rest) → (lower ++ x :: rest).erase x = lower ++ rest
  | [], x, rest, _ => by rw [List.nil_append, List.erase_cons_head, List.nil_append]
  | z :: lower, x, rest, h => by
    have h' : Srt (lower ++ x :: rest) := (List.pairwise_cons.mp h).2
    have ih := erase_mid h'
    by_cases e : z = x
    · subst e
      rw [List.cons_append, List.erase_cons_head]
      -- all of lower is z
      have hall : ∀ y ∈ lower, y = z := fun y hy => by
        have a := (List.pairwise_cons.mp h).1 y (List.mem_append_left _ hy)
        have b := (List.pairwise_append.mp h').2.2 y hy z (List.mem_cons_self ..)
        omega
      clear ih h h'
      induction lower with
      | nil => rfl
      | cons y lower ih =>
        have e := hall y (List.mem_cons_self ..)
        subst e
        rw [List.cons_append, List.cons_append, ih fun u hu => hall u (List.mem_cons_of_mem _ hu)]
    · rw [List.cons_append, List.erase_cons_tail (by simpa using e), ih]; rfl
theorem Srt.erase {l : List Nat} (h : Srt l) (x : Nat) : Srt (l.erase x) := List.Pairwise.sublist (List.erase_sublist) h
theorem nb_gt {x : Nat} {l : List Nat} (h : ∀ y ∈ l, x < y) : (nb l).filter (fun y => !(y == x)) = nb l := by
  rw [List.filter_eq_self]
  intro y hy
  have := h y (mem_nb.mp hy)
  simp; omega
theorem nb_twice (x : Nat) (l : List Nat) : nb (x :: x :: l) = nb (x :: l) := by
  simp only [nb, List.filter_cons]
  simp [List.filter_filter]
theorem LX_ne : ∀ (n : Nat) (l : List Nat), l.length = n → LX n l ≠ []
  | n, l, h, e => by
    have := LX_length l
    rw [h, e] at this
    have h2 := fp_W l
    rw [← this] at h2
    have h3 := fct_pos l.length
    simp at h2
    omega
theorem LX_chain : ∀ (n : Nat) (l : List Nat), l.length = n → Srt l → Ch (LX n l) ∧ (LX n l).head? = some l ∧ (LX n l).getLast? = some l.reverse
  | 0, l, h, _ => by rw [List.eq_nil_of_length_eq_zero h]; exact ⟨trivial, rfl, rfl⟩
  | n + 1, l, h, hs => by
    have ih := LX_chain n
    have key : ∀ (u : List Nat) (x : Nat) (lower : List Nat), l = lower ++ x :: u →
        Ch ((nb (x :: u)).flatMap fun x => (LX n (l.erase x)).map (x :: ·)) ∧ ((nb (x :: u)).flatMap fun x => (LX n (l.erase x)).map (x :: ·)).head? = some (x :: l.erase x) ∧ ((nb (x :: u)).flatMap fun x => (LX n (l.erase x)).map (x :: ·)).getLast? = some l.reverse := by
      intro u
      induction u with
      | nil =>
        intro x lower e
        have hx : x ∈ l := by rw [e]; simp
        obtain ⟨a, b, c⟩ := ih (l.erase x) (er_len hx h) (hs.erase x)
        show Ch ([x].flatMap _) ∧ ([x].flatMap _).head? = _ ∧ ([x].flatMap _).getLast? = _
        simp only [List.flatMap_cons, List.flatMap_nil, List.append_nil]
        refine ⟨Ch_map x a, ?_, ?_⟩
        · rw [List.head?_map, b]; rfl
        · rw [List.getLast?_map, c]
          rw [e] at hs ⊢
          rw [erase_mid hs]
          simp
      | cons y u ihu =>
        intro x lower e
        have hx : x ∈ l := by rw [e]; simp
        have hs' := hs
        rw [e] at hs'
        have hxy : x ≤ y := (List.pairwise_cons.mp (List.pairwise_append.mp hs').2.1).1 y (List.mem_cons_self ..)
        have key2 := ihu y (lower ++ [x]) (by rw [e]; simp)
        by_cases exy : x = y
        · subst exy
          rw [nb_twice]
          exact key2
        · have hgt : ∀ z ∈ y :: u, x < z := by
            intro z hz
            have h1 := (List.pairwise_cons.mp (List.pairwise_append.mp hs').2.1).2
            rcases List.mem_cons.mp hz with rfl | hz
            · omega
            · have := (List.pairwise_cons.mp h1).1 z hz
              omega
          have enb : nb (x :: y :: u) = x :: nb (y :: u) := by
            show x :: (nb (y :: u)).filter (fun y => !(y == x)) = _
            rw [nb_gt hgt]
          rw [enb, List.flatMap_cons]
          obtain ⟨a, b, c⟩ := ih (l.erase x) (er_len hx h) (hs.erase x)
          have hne := LX_ne n (l.erase x) (er_len hx h)
          have e1 : l.erase x = lower ++ y :: u := by rw [e, erase_mid hs']
          have e2 : l.erase y = lower ++ x :: u := by
            rw [e, show lower ++ x :: y :: u = (lower ++ [x]) ++ y :: u by simp, erase_mid (by simpa using hs')]; simp
          refine ⟨Ch_append (Ch_map x a) key2.1 ?_, ?_, ?_⟩
          · intro p q hp hq
            rw [List.getLast?_map, c] at hp
            rw [key2.2.1] at hq
            have hp' := Option.some.inj hp
            have hq' := Option.some.inj hq
            rw [← hp', ← hq']
            refine ⟨[], x, u.reverse, y, lower.reverse, ?_, ?_, ?_, by omega, ?_⟩
            · rw [e1]; simp
            · rw [e2]; simp
            · rw [show u.reverse ++ y :: lower.reverse = (lower ++ y :: u).reverse by simp, List.pairwise_reverse]
              rw [← e1]
              exact hs.erase x
            · intro z hz
              exact (List.pairwise_append.mp hs').2.2 z (List.mem_reverse.mp hz) x (List.mem_cons_self ..)
          · rw [List.head?_append, List.head?_map, b]; rfl
          · rw [List.getLast?_append, key2.2.2]; rfl
    cases l with
    | nil => simp at h
    | cons x u =>
      have := key u x [] rfl
      refine ⟨this.1, ?_, this.2.2⟩
      rw [List.erase_cons_head] at this
      exact this.2.1
end Mine
end
section
open PySem PySem.W PyProof.Rows PySem.Calls PyProof.V
set_option maxRecDepth 100000
set_option maxHeartbeats 1000000
namespace Mine
/-- a sign -/
noncomputable abbrev sg (n : Nat) : Str := ⟨#[n]⟩
theorem sg_inj {a b : Nat} (h : sg a = sg b) : a = b := by
  have := congrArg (fun s : Str => s.cps.toList) h
  simpa using this
theorem sg_eq {a b : Nat} : (sg a = sg b) = (a = b) := by
  simp only [eq_iff_iff]; exact ⟨sg_inj, fun h => h ▸ rfl⟩
theorem count_sg (x : Nat) : ∀ l : List Nat, (l.map sg).count (sg x) = l.count x
  | [] => rfl
  | y :: l => by
    rw [List.map_cons, List.count_cons, List.count_cons, count_sg x l]
    congr 1
    by_cases h : y = x
    · simp [h]
    · have : ¬ sg y = sg x := fun e => h (sg_inj e)
      simp [h, this]
theorem fp_snoc (x : Nat) : ∀ l : List Nat, fp (l ++ [x]) = (l.count x + 1) * fp l
  | [] => rfl
  | y :: l => by
    show ((l ++ [x]).count y + 1) * fp (l ++ [x]) = ((y :: l).count x + 1) * ((l.count y + 1) * fp l)
    rw [fp_snoc x l, List.count_append, List.count_cons]
    by_cases h : y = x
    · subst h; simp
    · have h' : ¬ x = y := fun e => h e.symm
      simp [h, h']
      exact Nat.mul_left_comm ..
theorem nOrd_snoc (l : List Nat) (x : Nat) : (l.count x + 1) * nOrd (l ++ [x]) = (l.length + 1) * nOrd l := by
  have h1 := fp_W (l ++ [x])
  have h2 := fp_W l
  rw [fp_snoc, List.length_append] at h1
  have h3 : fct (l.length + [x].length) = (l.length + 1) * fct l.length := rfl
  rw [h3, ← h2] at h1
  refine Nat.eq_of_mul_eq_mul_left (fp_pos l) ?_
  rw [← Nat.mul_assoc, Nat.mul_comm (fp l), h1, Nat.mul_left_comm]
theorem ordPre_W (l : List Nat) : ∀ i, i ≤ l.length → ordPre (l.map sg) i = (nOrd (l.take i) : Nat)
  | 0, _ => rfl
  | i + 1, hi => by
    have ih := ordPre_W l i (by omega)
    have hlt : i < (l.map sg).length := by rw [List.length_map]; exact hi
    have e : ordPre (l.map sg) (i + 1) = ordStep (l.map sg) (ordPre (l.map sg) i) (l.map sg)[i] i := by
      unfold ordPre
      rw [foldl_take_succ (fun T (p : Str × Nat) => ordStep (l.map sg) T p.1 p.2) 1 (a := ((l.map sg)[i], i)) (by simp [List.getElem?_zipIdx, List.getElem?_eq_getElem (show i < l.length by simpa using hlt)])]
    have hl : i < l.length := hi
    rw [e, ih]
    unfold ordStep
    have e2 : (l.map sg).take (i + 1) = (l.take i ++ [l[i]]).map sg := by
      rw [← List.map_take, List.take_succ_eq_append_getElem hl]
    have e3 : (l.map sg)[i] = sg l[i] := by simp
    rw [e2, e3, count_sg]
    have e4 : (l.take i ++ [l[i]]).count l[i] = (l.take i).count l[i] + 1 := by rw [List.count_append, List.count_singleton_self]
    rw [e4]
    have h := nOrd_snoc (l.take i) l[i]
    rw [List.length_take, Nat.min_eq_left (by omega)] at h
    have e5 : ((nOrd (l.take i) : Nat) : Int) * ((i : Int) + 1) = (((l.take i).count l[i] + 1 : Nat) : Int) * ((nOrd (l.take i ++ [l[i]]) : Nat) : Int) := by
      rw [← Int.natCast_mul, h]
      push_cast
      rw [Int.mul_comm]
    rw [e5, Int.mul_fdiv_cancel_left _ (by omega), List.take_succ_eq_append_getElem hl]
theorem orders_W (l : List Nat) : ordersOf (l.map sg) = (nOrd l : Nat) := by
  have e : ordersOf (l.map sg) = ordPre (l.map sg) (l.map sg).length := by unfold ordersOf ordPre; rw [List.take_of_length_le (by simp)]
  rw [e, List.length_map, ordPre_W l _ (Nat.le_refl _), List.take_length]
theorem signs_sg (x : Str) : signs x = x.cps.toList.map sg := rfl
theorem ltS_sg (a b : Nat) : ltS (sg a) (sg b) = decide (a < b) := by
  unfold ltS
  congr 1
  simp [List.cons_lt_cons_iff]
theorem getS_sg {l : List Nat} {i : Nat} {a : Nat} (h : l[i]? = some a) : getS (l.map sg) i = sg a := by
  unfold getS
  rw [List.getD_eq_getElem?_getD, List.getElem?_map, h]; rfl
/-- where the pivot is -/
theorem piv_of {as : List Str} {p : Nat} (h1 : ltS (getS as p) (getS as (p + 1)) = true) : ∀ k, p < k → (∀ j, p < j → j < k → ltS (getS as j) (getS as (j + 1)) = false) → piv as k = p + 1
  | 0, h, _ => absurd h (Nat.not_lt_zero _)
  | k + 1, h, h2 => by
    unfold piv
    by_cases e : k = p
    · subst e; rw [if_pos h1]
    · rw [if_neg (by rw [h2 k (by omega) (by omega)]; decide)]
      exact piv_of h1 k (by omega) fun j hj hk => h2 j hj (by omega)
theorem piv_none {as : List Str} : ∀ k, (∀ j, j < k → ltS (getS as j) (getS as (j + 1)) = false) → piv as k = 0
  | 0, _ => rfl
  | k + 1, h => by
    unfold piv
    rw [if_neg (by rw [h k (by omega)]; decide)]
    exact piv_none k fun j hj => h j (by omega)
theorem spt_of {as : List Str} {p q : Nat} (hq0 : 0 < q) (h1 : ltS (getS as p) (getS as q) = true) : ∀ k, q ≤ k → (∀ j, q < j → j ≤ k → ltS (getS as p) (getS as j) = false) → spt as p k = q
  | 0, h, _ => by omega
  | k + 1, h, h2 => by
    unfold spt
    by_cases e : q = k + 1
    · subst e; rw [if_pos h1]
    · rw [if_neg (by rw [h2 (k + 1) (by omega) (Nat.le_refl _)]; decide)]
      exact spt_of hq0 h1 k (by omega) fun j hj hk => h2 j hj (by omega)
theorem next_Nx {p q : List Nat} (h : Nx p q) : nextS (p.map sg) = q.map sg := by
  obtain ⟨pre, x, a, y, b, rfl, rfl, hd, hxy, hb⟩ := h
  have g0 : (pre ++ x :: (a ++ y :: b))[pre.length]? = some x := by simp
  have gj : ∀ j, (pre ++ x :: (a ++ y :: b))[pre.length + 1 + j]? = (a ++ y :: b)[j]? := fun j => by
    rw [List.getElem?_append_right (by omega), show pre.length + 1 + j - pre.length = j + 1 by omega]; rfl
  have hlen : ((pre ++ x :: (a ++ y :: b)).map sg).length = pre.length + 1 + (a.length + 1 + b.length) := by simp; omega
  -- the signs behind the pivot fall
  have hfall : ∀ j, j + 1 < (a ++ y :: b).length → ltS (getS ((pre ++ x :: (a ++ y :: b)).map sg) (pre.length + 1 + j)) (getS ((pre ++ x :: (a ++ y :: b)).map sg) (pre.length + 1 + j + 1)) = false := by
    intro j hj
    rw [getS_sg ((gj j).trans (List.getElem?_eq_getElem (show j < _ by omega))), show pre.length + 1 + j + 1 = pre.length + 1 + (j + 1) from rfl, getS_sg ((gj (j + 1)).trans (List.getElem?_eq_getElem hj)), ltS_sg, decide_eq_false_iff_not]
    have := List.pairwise_iff_getElem.mp hd j (j + 1) (by omega) hj (by omega)
    omega
  have h0 : ∃ z, (a ++ y :: b)[0]? = some z ∧ x < z := by
    cases a with
    | nil => exact ⟨y, rfl, hxy⟩
    | cons z a =>
      refine ⟨z, rfl, ?_⟩
      have := (List.pairwise_cons.mp hd).1 y (by simp)
      omega
  obtain ⟨z, hz0, hxz⟩ := h0
  have hp : piv ((pre ++ x :: (a ++ y :: b)).map sg) (((pre ++ x :: (a ++ y :: b)).map sg).length - 1) = pre.length + 1 := by
    refine piv_of ?_ _ (by omega) ?_
    · rw [getS_sg g0, getS_sg ((gj 0).trans hz0), ltS_sg]
      exact decide_eq_true hxz
    · intro j h1 h2
      obtain ⟨i, rfl⟩ : ∃ i, j = pre.length + 1 + i := ⟨j - (pre.length + 1), by omega⟩
      exact hfall i (by simp only [List.length_append, List.length_cons]; omega)
  have gy : (a ++ y :: b)[a.length]? = some y := by simp
  have hs : spt ((pre ++ x :: (a ++ y :: b)).map sg) pre.length (((pre ++ x :: (a ++ y :: b)).map sg).length - 1) = pre.length + 1 + a.length := by
    refine spt_of (by omega) ?_ _ (by omega) ?_
    · rw [getS_sg g0, getS_sg ((gj a.length).trans gy), ltS_sg]
      exact decide_eq_true hxy
    · intro j h1 h2
      obtain ⟨i, rfl⟩ : ∃ i, j = pre.length + 1 + (a.length + 1 + i) := ⟨j - (pre.length + 1 + a.length + 1), by omega⟩
      have hi : i < b.length := by omega
      have gi : (a ++ y :: b)[a.length + 1 + i]? = some b[i] := by
        rw [List.getElem?_append_right (by omega), show a.length + 1 + i - a.length = i + 1 by omega, List.getElem?_cons_succ, List.getElem?_eq_getElem hi]
      rw [getS_sg g0, getS_sg ((gj (a.length + 1 + i)).trans gi), ltS_sg, decide_eq_false_iff_not]
      have := hb b[i] (List.getElem_mem hi)
      omega
  unfold nextS
  rw [hp]
  simp only
  rw [hs]
  unfold nextAt
  rw [getS_sg g0, getS_sg ((gj a.length).trans gy)]
  have e1 : ((pre ++ x :: (a ++ y :: b)).map sg).take pre.length = pre.map sg := by simp
  have e2 : (((pre ++ x :: (a ++ y :: b)).map sg).take (pre.length + 1 + a.length)).drop (pre.length + 1) = a.map sg := by
    have e : ((pre ++ x :: (a ++ y :: b)).map sg) = ((pre ++ [x]).map sg ++ a.map sg) ++ (y :: b).map sg := by simp
    rw [e, List.take_left' (by simp; omega), List.drop_left' (by simp)]
  have e3 : ((pre ++ x :: (a ++ y :: b)).map sg).drop (pre.length + 1 + a.length + 1) = b.map sg := by
    have e : ((pre ++ x :: (a ++ y :: b)).map sg) = ((pre ++ [x] ++ a ++ [y]).map sg) ++ b.map sg := by simp
    rw [e, List.drop_left' (by simp; omega)]
  rw [e1, e2, e3]
  simp
theorem next_last {l : List Nat} (h : l.Pairwise (fun i j => j ≤ i)) : nextS (l.map sg) = [] := by
  refine nextS_nil (piv_none _ fun j hj => ?_)
  rw [List.length_map] at hj
  rw [getS_sg (List.getElem?_eq_getElem (show j < l.length by omega)), getS_sg (List.getElem?_eq_getElem (show j + 1 < l.length by omega)), ltS_sg, decide_eq_false_iff_not]
  have := List.pairwise_iff_getElem.mp h j (j + 1) (by omega) (by omega) (by omega)
  omega
end Mine
end
section
open PySem PySem.W PyProof.Rows PySem.Calls PyProof.V
set_option maxRecDepth 100000
set_option maxHeartbeats 1000000
namespace Mine
theorem Ch_get : ∀ {L : List (List Nat)} {i : Nat} {p q : List Nat}, Ch L → L[i]? = some p → L[i + 1]? = some q → Nx p q
  | [], _, _, _, _, h, _ => by simp at h
  | [_], 0, _, _, _, _, h => by simp at h
  | [_], _ + 1, _, _, _, h, _ => by simp at h
  | _ :: _ :: _, 0, _, _, hc, h1, h2 => by
    simp at h1 h2
    subst h1 h2
    exact hc.1
  | _ :: q :: t, i + 1, _, _, hc, h1, h2 => Ch_get (L := q :: t) (i := i) hc.2 (by simpa using h1) (by simpa using h2)
noncomputable def hereAt (L : List (List Nat)) (i : Nat) : List Str := match L[i]? with | some p => p.map sg | none => []
noncomputable def lastAt (L : List (List Nat)) (i : Nat) : List Str := match (L.take i).getLast? with | some p => p.map sg | none => []
noncomputable def tally (key : List Nat → Str) (L : List (List Nat)) : List (Str × Int) := L.foldl (fun c p => bump c (key p)) []
noncomputable def keyW (p : List Nat) : Str := bareS (p.map sg)
noncomputable def keyB (f : Str → Str) (p : List Nat) : Str := bareS ((p.map sg).map f)
noncomputable def stateAt (f : Str → Str) (L : List (List Nat)) (i : Nat) : TS := ⟨hereAt L i, lastAt L i, tally keyW (L.take i), tally (keyB f) (L.take i)⟩
theorem tally_snoc (key : List Nat → Str) (L : List (List Nat)) (p : List Nat) : tally key (L ++ [p]) = bump (tally key L) (key p) := by
  unfold tally; rw [List.foldl_append]; rfl
theorem tell_at {f : Str → Str} {L : List (List Nat)} {least : List Nat} {n : Nat} (hn : 1 ≤ n) (hlen : least.length = n) (hL : ∀ p ∈ L, p.Perm least) (hc : Ch L) (h0 : L.head? = some least) (hlast : L.getLast? = some least.reverse) (hs : Srt least)
    (hf : ∀ p ∈ L, bareS ((signs (keyW p)).map f) = keyB f p) : ∀ i, tell f ⟨least.map sg, [], [], []⟩ i = some (stateAt f L i)
  | 0 => by
    have : L[0]? = some least := by rw [← List.head?_eq_getElem?]; exact h0
    show some _ = some _
    unfold stateAt hereAt lastAt
    rw [this]; rfl
  | i + 1 => by
    show (tell f ⟨least.map sg, [], [], []⟩ i).bind (stepT f) = _
    rw [tell_at hn hlen hL hc h0 hlast hs hf i]
    show stepT f (stateAt f L i) = _
    by_cases hi : i < L.length
    · have hp : L[i]? = some L[i] := List.getElem?_eq_getElem hi
      have hmem : L[i] ∈ L := List.getElem_mem hi
      have hlp : L[i].length = n := by rw [(hL _ hmem).length_eq]; exact hlen
      have hne : (stateAt f L i).here ≠ [] := by
        show hereAt L i ≠ []
        unfold hereAt
        rw [hp]
        intro e
        have e9 := congrArg List.length e
        rw [List.length_map, hlp] at e9
        have : n = 0 := e9
        omega
      have eh : (stateAt f L i).here = L[i].map sg := by show hereAt L i = _; unfold hereAt; rw [hp]
      have e1 : bareS ((signs (bareS (stateAt f L i).here)).map f) = bareS ((stateAt f L i).here.map f) := by rw [eh]; exact hf _ hmem
      unfold stepT
      rw [if_neg hne, if_pos e1, eh]
      have e2 : L.take (i + 1) = L.take i ++ [L[i]] := List.take_succ_eq_append_getElem hi
      have e3 : hereAt L (i + 1) = nextS (L[i].map sg) := by
        unfold hereAt
        by_cases hi2 : i + 1 < L.length
        · have hq : L[i + 1]? = some L[i + 1] := List.getElem?_eq_getElem hi2
          rw [hq]
          exact (next_Nx (Ch_get hc hp hq)).symm
        · rw [List.getElem?_eq_none (by omega)]
          have : L[i] = least.reverse := by
            have e : L.getLast? = some L[i] := by
              rw [List.getLast?_eq_getElem?, show L.length - 1 = i by omega]; exact hp
            rw [e] at hlast
            exact Option.some.inj hlast
          rw [this]
          refine (next_last ?_).symm
          rw [List.pairwise_reverse]
          exact hs
      show some _ = some (⟨hereAt L (i + 1), lastAt L (i + 1), tally keyW (L.take (i + 1)), tally (keyB f) (L.take (i + 1))⟩ : TS)
      rw [e3, e2, tally_snoc, tally_snoc]
      have e4 : lastAt L (i + 1) = L[i].map sg := by
        unfold lastAt
        rw [e2, List.getLast?_concat]
      rw [e4]
      rfl
    · have e0 : (stateAt f L i).here = [] := by show hereAt L i = _; unfold hereAt; rw [List.getElem?_eq_none (by omega)]
      unfold stepT
      rw [if_pos e0]
      have e1 : L.take (i + 1) = L.take i := by rw [List.take_of_length_le (by omega), List.take_of_length_le (by omega)]
      have e2 : hereAt L (i + 1) = hereAt L i := by unfold hereAt; rw [List.getElem?_eq_none (by omega), List.getElem?_eq_none (by omega)]
      have e3 : lastAt L (i + 1) = lastAt L i := by unfold lastAt; rw [e1]
      show _ = some (⟨hereAt L (i + 1), lastAt L (i + 1), tally keyW (L.take (i + 1)), tally (keyB f) (L.take (i + 1))⟩ : TS)
      rw [e1, e2, e3]; rfl
theorem cpsOf_sg (p : List Nat) : cpsOf (p.map sg) = p := by
  unfold cpsOf
  induction p with
  | nil => rfl
  | cons x p ih => rw [List.map_cons, List.flatMap_cons, ih]; rfl
theorem mem_bareOf {l : List Nat} {x : Nat} (h : x ∈ bareOf l) : x ∈ l := by
  unfold bareOf behind upTo at h
  have h1 := List.mem_reverse.mp h
  have h2 := (List.takeWhile_sublist _).subset h1
  have h3 := List.mem_reverse.mp h2
  exact (List.takeWhile_sublist _).subset h3
theorem tally_len (key : List Nat → Str) : ∀ L : List (List Nat), (tally key L.reverse).length ≤ L.length
  | [] => Nat.le_refl _
  | p :: L => by
    rw [List.reverse_cons, tally_snoc]
    have := tally_len key L
    have h2 := kdpPut_len (tally key L.reverse) (key p) (kdpLook (tally key L.reverse) (key p) 0 + 1)
    show (kdpPut _ _ _).length ≤ L.length + 1
    omega
theorem tally_len' (key : List Nat → Str) (L : List (List Nat)) : (tally key L).length ≤ L.length := by
  have := tally_len key L.reverse
  rw [List.reverse_reverse, List.length_reverse] at this
  exact this
theorem cps_bound {f : Str → Str} : ∀ (p : List Nat), (∀ a ∈ p, (f (sg a)).length ≤ 10) → (cpsOf ((p.map sg).map f)).length ≤ 10 * p.length
  | [], _ => Nat.le_refl _
  | a :: p, h => by
    have h1 := h a (List.mem_cons_self ..)
    have h2 := cps_bound p fun b hb => h b (List.mem_cons_of_mem _ hb)
    have e : (cpsOf (((a :: p).map sg).map f)).length = (f (sg a)).length + (cpsOf ((p.map sg).map f)).length := by
      unfold cpsOf
      rw [List.map_cons, List.map_cons, List.flatMap_cons, List.length_append]; rfl
    rw [e, List.length_cons]; omega
theorem good_of {fc : List (Str × Str)} {least : List Nat} (hn1 : 1 ≤ least.length) (hn : least.length ≤ 7) (hs : Srt least) (h30 : nOrd least ≤ 30)
    (hk : ∀ a ∈ least, hasF fc (sg a) = true) (hl : ∀ a ∈ least, (foldF fc (sg a)).length ≤ 10)
    (hf : ∀ p : List Nat, p.Perm least → bareS ((signs (keyW p)).map (foldF fc)) = keyB (foldF fc) p) :
    Good fc (least.map sg) ⟨[], (least.map sg).reverse, tally keyW (LX least.length least), tally (keyB (foldF fc)) (LX least.length least)⟩ := by
  obtain ⟨hc, h0, hlast⟩ := LX_chain least.length least rfl hs
  have hL := LX_perm least.length least rfl
  have hlen := LX_length least
  have ht := tell_at (f := foldF fc) (L := LX least.length least) hn1 rfl hL hc h0 hlast hs fun p hp => hf p (hL p hp)
  have e31 : stateAt (foldF fc) (LX least.length least) 31 = ⟨[], (least.map sg).reverse, tally keyW (LX least.length least), tally (keyB (foldF fc)) (LX least.length least)⟩ := by
    unfold stateAt hereAt lastAt
    rw [List.getElem?_eq_none (by omega), List.take_of_length_le (by omega), hlast]
    simp only [List.map_reverse]
  refine ⟨by rw [ht 31, e31], rfl, fun i st hi hst => ?_⟩
  have est : st = stateAt (foldF fc) (LX least.length least) i := Option.some.inj (hst.symm.trans (ht i))
  have key : st.here = [] ∨ ∃ p : List Nat, p.Perm least ∧ st.here = p.map sg := by
    rw [est]
    show hereAt _ i = [] ∨ ∃ p : List Nat, p.Perm least ∧ hereAt _ i = p.map sg
    unfold hereAt
    cases e : (LX least.length least)[i]? with
    | none => exact .inl rfl
    | some p => exact .inr ⟨p, hL p (List.mem_of_getElem? e), rfl⟩
  have keyl : st.last.length ≤ 7 := by
    rw [est]
    show (lastAt _ i).length ≤ 7
    unfold lastAt
    cases e : ((LX least.length least).take i).getLast? with
    | none => exact Nat.zero_le _
    | some p =>
      have := hL p (List.mem_of_mem_take (List.mem_of_getLast? e))
      simp only [List.length_map]
      rw [this.length_eq]; exact hn
  have hwr : st.wr.length ≤ 31 := by
    rw [est]
    have := tally_len' keyW ((LX least.length least).take i)
    rw [List.length_take] at this
    show (tally keyW _).length ≤ 31
    omega
  have hbr : st.br.length ≤ 31 := by
    rw [est]
    have := tally_len' (keyB (foldF fc)) ((LX least.length least).take i)
    rw [List.length_take] at this
    show (tally (keyB (foldF fc)) _).length ≤ 31
    omega
  rcases key with e | ⟨p, hp, e⟩
  · have eb : signs (bareS []) = [] := rfl
    have ec : cpsOf [] = [] := rfl
    rw [e, eb]
    refine ⟨fun a ha => (nomatch ha), fun a ha => (nomatch ha), Nat.zero_le _, keyl, Nat.zero_le _, Nat.zero_le _, Nat.zero_le _, hwr, hbr⟩
  · have hmem : ∀ a ∈ p, a ∈ least := fun a ha => hp.mem_iff.mp ha
    have hpl : p.length ≤ 7 := by rw [hp.length_eq]; exact hn
    have eb : signs (bareS (p.map sg)) = (bareOf p).map sg := by
      unfold bareS signs
      rw [cpsOf_sg]
    have hbl := bareOf_length p
    rw [e, eb]
    refine ⟨fun a ha => ?_, fun a ha => ?_, by rw [List.length_map]; exact hpl, keyl, by rw [cpsOf_sg]; omega, ?_, ?_, hwr, hbr⟩
    · obtain ⟨x, hx, rfl⟩ := List.mem_map.mp ha
      exact hk x (hmem x hx)
    · obtain ⟨x, hx, rfl⟩ := List.mem_map.mp ha
      exact hk x (hmem x (mem_bareOf hx))
    · have := cps_bound p fun a ha => hl a (hmem a ha)
      omega
    · have := cps_bound (bareOf p) fun a ha => hl a (hmem a (mem_bareOf ha))
      omega
end Mine
end
section
open PySem PySem.W PyProof.Rows PySem.Calls PyProof.V
set_option maxRecDepth 100000
set_option maxHeartbeats 1000000
namespace Mine
/-- the kinds of the written signs: 0 a stop, 1 a dot, 2 another -/
noncomputable def kW (x : Nat) : Nat := if x = 10 ∨ x = 58 then 0 else if x = 46 then 1 else 2
/-- of the prepared signs: U+33C7 is as good as a dot -/
noncomputable def kB (x : Nat) : Nat := if x = 10 ∨ x = 58 then 0 else if x = 46 ∨ x = 13255 then 1 else 2
theorem kW_stop {x : Nat} : kW x = 0 ↔ x = 10 ∨ x = 58 := by
  unfold kW
  constructor
  · intro h
    split at h
    · assumption
    · split at h <;> omega
  · intro h; rw [if_pos h]
theorem kW_dot {x : Nat} : kW x = 1 ↔ x = 46 := by
  unfold kW
  constructor
  · intro h
    split at h
    · omega
    · split at h
      · assumption
      · omega
  · intro h; subst h; rfl
theorem behind_cons_dot (l : List Nat) : behind 46 (46 :: l) = behind 46 l := by
  unfold behind
  rw [List.reverse_cons, List.takeWhile_append]
  split
  · rename_i h
    have e : List.takeWhile (fun d => d != 46) l.reverse = l.reverse := by
      have h1 := (List.takeWhile_sublist (fun d : Nat => d != 46) (l := l.reverse))
      exact h1.eq_of_length h
    rw [e]; simp
  · rfl
theorem behind_cons (x : Nat) (l : List Nat) (hx : x ≠ 46) : behind 46 (x :: l) = if 46 ∈ l then behind 46 l else x :: behind 46 l := by
  unfold behind
  rw [List.reverse_cons, List.takeWhile_append]
  by_cases h : 46 ∈ l
  · rw [if_pos h]
    have : ¬ (List.takeWhile (fun d => d != 46) l.reverse).length = l.reverse.length := by
      intro e
      have h1 := (List.takeWhile_sublist (fun d : Nat => d != 46) (l := l.reverse)).eq_of_length e
      have h2 : 46 ∈ List.takeWhile (fun d => d != 46) l.reverse := by rw [h1]; exact List.mem_reverse.mpr h
      have := List.all_takeWhile (p := fun d : Nat => d != 46) (l := l.reverse)
      have h3 := List.all_eq_true.mp this 46 h2
      simp at h3
    rw [if_neg this]
  · rw [if_neg h]
    have e : List.takeWhile (fun d => d != 46) l.reverse = l.reverse := takeWhile_all fun y hy => by
      have : y ≠ 46 := fun e => h (e ▸ List.mem_reverse.mp hy)
      simpa using this
    rw [e, if_pos rfl]
    have hx' : (x != 46) = true := by simpa using hx
    rw [List.takeWhile_cons, hx']
    simp
theorem hd_mem : ∀ l : List Nat, hd kW l = decide (46 ∈ upTo (fun c => c == 10 || c == 58) l)
  | [] => rfl
  | x :: l => by
    have ih := hd_mem l
    unfold upTo at *
    simp only [hd]
    by_cases h0 : kW x = 0
    · rw [if_pos h0]
      have hx := kW_stop.mp h0
      have : (!(x == 10 || x == 58)) = false := by rcases hx with rfl | rfl <;> rfl
      rw [List.takeWhile_cons, this]; rfl
    · rw [if_neg h0]
      have hx : ¬ (x = 10 ∨ x = 58) := fun h => h0 (kW_stop.mpr h)
      have : (!(x == 10 || x == 58)) = true := by
        have h1 : ¬ x = 10 := fun h => hx (.inl h)
        have h2 : ¬ x = 58 := fun h => hx (.inr h)
        simp [h1, h2]
      rw [List.takeWhile_cons, this]
      simp only [if_true, List.mem_cons]
      by_cases h1 : kW x = 1
      · rw [if_pos h1, kW_dot.mp h1]; simp
      · rw [if_neg h1, ih]
        have : ¬ 46 = x := fun e => h1 (kW_dot.mpr e.symm)
        simp [this]
theorem bare_seg : ∀ l : List Nat, bareOf l = seg kW l
  | [] => rfl
  | x :: l => by
    have ih := bare_seg l
    have hm := hd_mem l
    unfold bareOf at *
    simp only [seg]
    by_cases h0 : kW x = 0
    · rw [if_pos h0]
      have hx := kW_stop.mp h0
      have : (!(x == 10 || x == 58)) = false := by rcases hx with rfl | rfl <;> rfl
      unfold upTo
      rw [List.takeWhile_cons, this]; rfl
    · rw [if_neg h0]
      have hx : ¬ (x = 10 ∨ x = 58) := fun h => h0 (kW_stop.mpr h)
      have : (!(x == 10 || x == 58)) = true := by
        have h1 : ¬ x = 10 := fun h => hx (.inl h)
        have h2 : ¬ x = 58 := fun h => hx (.inr h)
        simp [h1, h2]
      have eu : upTo (fun c => c == 10 || c == 58) (x :: l) = x :: upTo (fun c => c == 10 || c == 58) l := by
        unfold upTo; rw [List.takeWhile_cons, this]; rfl
      rw [eu]
      by_cases h1 : kW x = 1
      · rw [if_pos h1, kW_dot.mp h1, behind_cons_dot, ih]
      · rw [if_neg h1, behind_cons x _ (fun e => h1 (kW_dot.mpr e)), ih, hm]
        by_cases h : 46 ∈ upTo (fun c => c == 10 || c == 58) l <;> simp [h]
/-- what a prepared sign is like -/
structure FoldOk (F : Nat → List Nat) (x : Nat) : Prop where
  stop : kB x = 0 → F x = [x]
  dot : x = 46 → F x = [46]
  co : x = 13255 → F x = [99, 111, 46]
  oth : 2 ≤ kB x → ∀ y ∈ F x, kW y = 2
theorem hd_oth : ∀ (w l : List Nat), (∀ y ∈ w, kW y = 2) → hd kW (w ++ l) = hd kW l
  | [], _, _ => rfl
  | y :: w, l, h => by
    have h2 := h y (List.mem_cons_self ..)
    show (if kW y = 0 then false else if kW y = 1 then true else hd kW (w ++ l)) = _
    rw [if_neg (by omega), if_neg (by omega), hd_oth w l fun z hz => h z (List.mem_cons_of_mem _ hz)]
theorem seg_oth : ∀ (w l : List Nat), (∀ y ∈ w, kW y = 2) → seg kW (w ++ l) = if hd kW l then seg kW l else w ++ seg kW l
  | [], l, _ => by simp
  | y :: w, l, h => by
    have h2 := h y (List.mem_cons_self ..)
    have h3 : ∀ z ∈ w, kW z = 2 := fun z hz => h z (List.mem_cons_of_mem _ hz)
    show (if kW y = 0 then [] else if kW y = 1 then seg kW (w ++ l) else if hd kW (w ++ l) then seg kW (w ++ l) else y :: seg kW (w ++ l)) = _
    rw [if_neg (by omega), if_neg (by omega), hd_oth w l h3, seg_oth w l h3]
    cases hd kW l <;> simp
theorem kB_cases (x : Nat) : kB x = 0 ∨ (kB x = 1 ∧ (x = 46 ∨ x = 13255)) ∨ kB x = 2 := by
  unfold kB
  split
  · exact .inl rfl
  · split
    · exact .inr (.inl ⟨rfl, by assumption⟩)
    · exact .inr (.inr rfl)
theorem kB_stop {x : Nat} (h : kB x = 0) : kW x = 0 := by
  unfold kB at h
  unfold kW
  split at h
  · rw [if_pos (by assumption)]
  · split at h <;> omega
theorem fold_seg {F : Nat → List Nat} : ∀ p : List Nat, (∀ x ∈ p, FoldOk F x) → hd kW (p.flatMap F) = hd kB p ∧ seg kW (p.flatMap F) = (seg kB p).flatMap F
  | [], _ => ⟨rfl, rfl⟩
  | x :: p, h => by
    obtain ⟨i1, i2⟩ := fold_seg p fun y hy => h y (List.mem_cons_of_mem _ hy)
    have hx := h x (List.mem_cons_self ..)
    rw [List.flatMap_cons]
    rcases kB_cases x with h0 | ⟨h1, he⟩ | h2
    · rw [hx.stop h0]
      have hw := kB_stop h0
      constructor
      · show (if kW x = 0 then _ else _) = (if kB x = 0 then _ else _)
        rw [if_pos h0, if_pos hw]
      · show (if kW x = 0 then _ else _) = List.flatMap F (if kB x = 0 then _ else _)
        rw [if_pos h0, if_pos hw]; rfl
    · have e1 : hd kB (x :: p) = true := by
        show (if kB x = 0 then _ else if kB x = 1 then _ else _) = true
        rw [if_neg (by omega), if_pos h1]
      have e2 : seg kB (x :: p) = seg kB p := by
        show (if kB x = 0 then _ else if kB x = 1 then _ else _) = _
        rw [if_neg (by omega), if_pos h1]
      rw [e1, e2]
      rcases he with rfl | rfl
      · rw [hx.dot rfl]
        exact ⟨rfl, i2⟩
      · rw [hx.co rfl]
        exact ⟨rfl, i2⟩
    · have hF := hx.oth (by omega)
      rw [hd_oth _ _ hF, seg_oth _ _ hF, i1, i2]
      constructor
      · show _ = (if kB x = 0 then _ else if kB x = 1 then _ else _)
        rw [if_neg (by omega), if_neg (by omega)]
      · show _ = List.flatMap F (if kB x = 0 then _ else if kB x = 1 then _ else if hd kB p then seg kB p else x :: seg kB p)
        rw [if_neg (show ¬ kB x = 0 by omega), if_neg (show ¬ kB x = 1 by omega)]
        cases hd kB p <;> simp
theorem kW_kB {x : Nat} : (kW x = 0 ↔ kB x = 0) ∧ (kW x = 1 → kB x = 1) := by
  unfold kW kB
  constructor
  · constructor
    · intro h
      split at h
      · rw [if_pos (by assumption)]
      · split at h <;> omega
    · intro h
      split at h
      · rw [if_pos (by assumption)]
      · split at h <;> omega
  · intro h
    split at h
    · omega
    · split at h
      · rename_i h1 h2
        rw [if_neg h1, if_pos (.inl h2)]
      · omega
theorem hd_up : ∀ p : List Nat, hd kW p = true → hd kB p = true
  | x :: p, h => by
    have k := kW_kB (x := x)
    have h' : (if kW x = 0 then false else if kW x = 1 then true else hd kW p) = true := h
    show (if kB x = 0 then false else if kB x = 1 then true else hd kB p) = true
    by_cases h0 : kW x = 0
    · rw [if_pos h0] at h'; cases h'
    · rw [if_neg h0] at h'
      rw [if_neg fun e => h0 (k.1.mpr e)]
      by_cases h1 : kB x = 1
      · rw [if_pos h1]
      · rw [if_neg h1]
        rw [if_neg fun e => h1 (k.2 e)] at h'
        exact hd_up p h'
theorem hd_seg : ∀ p : List Nat, hd kW p = false → hd kB (seg kW p) = hd kB p
  | [], _ => rfl
  | x :: p, h => by
    have k := kW_kB (x := x)
    have h' : (if kW x = 0 then false else if kW x = 1 then true else hd kW p) = false := h
    show hd kB (if kW x = 0 then [] else if kW x = 1 then seg kW p else if hd kW p then seg kW p else x :: seg kW p) = (if kB x = 0 then false else if kB x = 1 then true else hd kB p)
    by_cases h0 : kW x = 0
    · rw [if_pos h0, if_pos (k.1.mp h0)]; rfl
    · rw [if_neg h0] at h' ⊢
      rw [if_neg fun e => h0 (k.1.mpr e)]
      by_cases h1 : kW x = 1
      · rw [if_pos h1] at h'; cases h'
      · rw [if_neg h1] at h' ⊢
        rw [h']
        show (if kB x = 0 then false else if kB x = 1 then true else hd kB (seg kW p)) = _
        rw [if_neg fun e => h0 (k.1.mpr e), hd_seg p h']
theorem seg_seg : ∀ p : List Nat, seg kB (seg kW p) = seg kB p
  | [] => rfl
  | x :: p => by
    have k := kW_kB (x := x)
    have ih := seg_seg p
    show seg kB (if kW x = 0 then [] else if kW x = 1 then seg kW p else if hd kW p then seg kW p else x :: seg kW p) = (if kB x = 0 then [] else if kB x = 1 then seg kB p else if hd kB p then seg kB p else x :: seg kB p)
    by_cases h0 : kW x = 0
    · rw [if_pos h0, if_pos (k.1.mp h0)]; rfl
    · have h0' : ¬ kB x = 0 := fun e => h0 (k.1.mpr e)
      rw [if_neg h0, if_neg h0']
      by_cases h1 : kW x = 1
      · rw [if_pos h1, if_pos (k.2 h1), ih]
      · rw [if_neg h1]
        cases hh : hd kW p with
        | true =>
          rw [if_pos rfl, ih, hd_up p hh, if_pos rfl]
          split <;> rfl
        | false =>
          rw [if_neg (by decide)]
          show (if kB x = 0 then [] else if kB x = 1 then seg kB (seg kW p) else if hd kB (seg kW p) then seg kB (seg kW p) else x :: seg kB (seg kW p)) = _
          rw [if_neg h0', ih, hd_seg p hh]
noncomputable abbrev mkS (l : List Nat) : Str := ⟨l.toArray⟩
theorem keyW_seg (p : List Nat) : keyW p = mkS (seg kW p) := by
  unfold keyW bareS
  rw [cpsOf_sg, bare_seg]
theorem cpsOf_fold (f : Str → Str) (p : List Nat) : cpsOf ((p.map sg).map f) = p.flatMap fun x => (f (sg x)).cps.toList := by
  unfold cpsOf
  induction p with
  | nil => rfl
  | cons x p ih => rw [List.map_cons, List.map_cons, List.flatMap_cons, List.flatMap_cons, ih]
theorem keyB_seg {f : Str → Str} {p : List Nat} (h : ∀ x ∈ p, FoldOk (fun x => (f (sg x)).cps.toList) x) : keyB f p = mkS ((seg kB p).flatMap fun x => (f (sg x)).cps.toList) := by
  unfold keyB bareS
  rw [cpsOf_fold, bare_seg, (fold_seg p h).2]
theorem seg_mem {k : Nat → Nat} : ∀ {p : List Nat} {x : Nat}, x ∈ seg k p → x ∈ p
  | y :: p, x, h => by
    have h' : x ∈ (if k y = 0 then [] else if k y = 1 then seg k p else if hd k p then seg k p else y :: seg k p) := h
    split at h'
    · cases h'
    split at h'
    · exact List.mem_cons_of_mem _ (seg_mem h')
    split at h'
    · exact List.mem_cons_of_mem _ (seg_mem h')
    · rcases List.mem_cons.mp h' with rfl | h'
      · exact List.mem_cons_self ..
      · exact List.mem_cons_of_mem _ (seg_mem h')
theorem bare_fold {f : Str → Str} {p : List Nat} (h : ∀ x ∈ p, FoldOk (fun x => (f (sg x)).cps.toList) x) : bareS ((signs (keyW p)).map f) = keyB f p := by
  have e : signs (keyW p) = (seg kW p).map sg := by
    rw [keyW_seg]; unfold signs; simp
  rw [e, keyB_seg h]
  unfold bareS
  rw [cpsOf_fold, bare_seg, (fold_seg (seg kW p) fun x hx => h x (seg_mem hx)).2, seg_seg]
end Mine
end
section
open PySem PySem.W PyProof.Rows PySem.Calls PyProof.V
set_option maxRecDepth 100000
set_option maxHeartbeats 1000000
namespace Mine
theorem inS_find (x a : Str) : inS x a = decide (0 ≤ find4 x a x.length) := by
  unfold inS find4
  rw [fromIndex_in (Int.le_refl 0), fromIndex_in (Int.natCast_nonneg x.length), Int.toNat_natCast, Nat.min_self]
  show (!(Builtin.Str.occurrences x a 0 x.length 1).isEmpty) = decide (0 ≤ (match Builtin.Str.occurrences x a 0 x.length 1 with | k :: _ => (k : Int) | [] => -1))
  cases Builtin.Str.occurrences x a 0 x.length 1 with
  | nil => rfl
  | cons k t => simp
theorem inS_one (x : Str) (c : Nat) : inS x (sg c) = decide (c ∈ x.cps.toList) := by
  rw [inS_find]
  rcases find4_spec x c x.length (Nat.le_refl _) with ⟨h1, h2⟩ | ⟨i, h1, h2, h3, _⟩
  · have e : find4 x (sg c) x.length = -1 := h1
    rw [e]
    have : c ∉ x.cps.toList := fun hm => by
      obtain ⟨i, hi, he⟩ := List.getElem_of_mem hm
      exact h2 i (by simpa [Str.length] using hi) (by rw [List.getElem?_eq_getElem hi, he])
    simp [this]
  · have e : find4 x (sg c) x.length = i := h1
    rw [e]
    have : c ∈ x.cps.toList := List.mem_of_getElem? h3
    simp [this]
theorem nb_snoc (l : List Nat) (c : Nat) : nb (l ++ [c]) = nb l ++ (if c ∈ l then [] else [c]) := by
  induction l with
  | nil => rfl
  | cons x l ih =>
    show x :: (nb (l ++ [c])).filter (fun y => !(y == x)) = x :: (nb l).filter (fun y => !(y == x)) ++ _
    rw [ih, List.filter_append, List.cons_append]
    congr 2
    by_cases h : c ∈ l
    · rw [if_pos h, if_pos (List.mem_cons_of_mem _ h)]; rfl
    · rw [if_neg h]
      by_cases e : c = x
      · subst e
        rw [if_pos (List.mem_cons_self ..)]
        simp
      · rw [if_neg (by simp [e, h])]
        have : (c == x) = false := by simpa using e
        simp [this]
theorem erase_at {l : List Nat} {i : Nat} (hi : i < l.length) (h : l[i] ∉ l.take i) : l.erase l[i] = l.take i ++ l.drop (i + 1) := by
  have e : l = l.take i ++ l[i] :: l.drop (i + 1) := by
    rw [← List.drop_eq_getElem_cons hi, List.take_append_drop]
  have h2 := List.erase_append_right (l₁ := l.take i) (l[i] :: l.drop (i + 1)) h
  rw [List.erase_cons_head] at h2
  calc l.erase l[i] = (l.take i ++ l[i] :: l.drop (i + 1)).erase l[i] := by rw [← e]
    _ = _ := h2
theorem cps_signs (x : Str) : x.cps.toList.map sg = signs x := rfl
theorem map_sg_inj {a b : List Nat} (h : a.map sg = b.map sg) : a = b := by
  have := congrArg cpsOf h
  rwa [cpsOf_sg, cpsOf_sg] at this
theorem str_of_signs {x y : Str} (h : signs x = signs y) : x = y := by
  have h1 : x.cps.toList = y.cps.toList := map_sg_inj h
  obtain ⟨⟨a⟩⟩ := x
  obtain ⟨⟨b⟩⟩ := y
  simp only at h1
  rw [h1]
theorem pushN_eq (a : Str) (o : List Nat) : ∀ i, i ≤ o.length → pushN a (mkS o) i = (nb (o.take i)).map fun x => (a ++ sg x, mkS (o.erase x))
  | 0, _ => rfl
  | i + 1, hi => by
    have hi' : i < o.length := hi
    have ih := pushN_eq a o i (by omega)
    unfold pushN
    rw [ih]
    have e0 : (mkS o).cps[i]? = some o[i] := by simp [List.getElem?_eq_getElem hi']
    rw [e0, List.take_succ_eq_append_getElem hi', nb_snoc, List.map_append]
    congr 1
    have hl : (mkS o).length = o.length := by show o.toArray.size = _; simp
    have es : signs (Txt.slice (mkS o) none (some (i : Int))) = (o.take i).map sg := by
      rw [signs_upto _ (by rw [hl]; omega), Int.toNat_natCast, List.map_take]
      unfold signs; simp
    have ec : (Txt.slice (mkS o) none (some (i : Int))).cps.toList = o.take i := map_sg_inj es
    have ein : inS (Txt.slice (mkS o) none (some (i : Int))) ⟨#[o[i]]⟩ = decide (o[i] ∈ o.take i) := by
      have := inS_one (Txt.slice (mkS o) none (some (i : Int))) o[i]
      rw [ec] at this
      exact this
    simp only [ein]
    by_cases h : o[i] ∈ o.take i
    · rw [if_pos h]; simp [h]
    · rw [if_neg h]
      simp only [decide_eq_true_eq, if_neg h, List.map_cons, List.map_nil, List.cons.injEq, and_true, Prod.mk.injEq, true_and]
      apply str_of_signs
      rw [signs_app, es, signs_from _ (by rw [hl]; omega)]
      rw [erase_at hi' h]
      unfold signs
      simp only [List.map_append, List.map_take, List.map_drop]
      congr 1
theorem kdpLook_put (c : List (Str × Int)) (k j : Str) (v : Int) : kdpLook (kdpPut c k v) j 0 = if j = k then v else kdpLook c j 0 := by
  unfold kdpPut
  split
  · rename_i h
    induction c with
    | nil => simp at h
    | cons p c ih =>
      rw [List.map_cons]
      unfold kdpLook at *
      rw [List.find?_cons, List.find?_cons]
      by_cases hp : p.1 = k
      · rw [if_pos (decide_eq_true hp)]
        by_cases hj : j = k
        · subst hj
          simp [hp]
        · have h1 : ¬ p.1 = j := fun e => hj (e.symm.trans hp)
          simp only [h1, decide_false]
          rw [if_neg hj]
          by_cases hc : (c.any fun p => decide (p.1 = k)) = true
          · have := ih hc
            rw [if_neg hj] at this
            exact this
          · have : c.map (fun p => if decide (p.1 = k) = true then (p.1, v) else p) = c := by
              conv => rhs; rw [← List.map_id c]
              refine List.map_congr_left fun q hq => ?_
              have : ¬ q.1 = k := fun e => hc (List.any_eq_true.mpr ⟨q, hq, decide_eq_true e⟩)
              simp [this]
            rw [this]
      · have hc : (c.any fun p => decide (p.1 = k)) = true := by
          rw [List.any_cons] at h
          simpa [hp] using h
        rw [if_neg (by simp [hp])]
        by_cases hj : p.1 = j
        · have : ¬ j = k := fun e => hp (hj.trans e)
          rw [if_neg this]
          simp [hj]
        · simp only [hj, decide_false]
          exact ih hc
  · rename_i h
    unfold kdpLook
    rw [List.find?_append]
    by_cases hj : j = k
    · subst hj
      have : (c.find? fun p => decide (p.1 = j)) = none := by
        rw [List.find?_eq_none]
        intro q hq e
        exact h (List.any_eq_true.mpr ⟨q, hq, e⟩)
      rw [this]
      simp
    · have : ¬ k = j := fun e => hj e.symm
      rw [if_neg hj]
      simp [this]
/-- all counts are positive -/
noncomputable def PosD (c : List (Str × Int)) : Prop := ∀ p ∈ c, 0 < p.2
theorem PosD.put {c : List (Str × Int)} (h : PosD c) (k : Str) {v : Int} (hv : 0 < v) : PosD (kdpPut c k v) := by
  intro p hp
  unfold kdpPut at hp
  split at hp
  · obtain ⟨q, hq, rfl⟩ := List.mem_map.mp hp
    split
    · exact hv
    · exact h q hq
  · rcases List.mem_append.mp hp with hp | hp
    · exact h p hp
    · rw [List.mem_singleton.mp hp]; exact hv
theorem PosD.look {c : List (Str × Int)} (h : PosD c) (k : Str) : 0 ≤ kdpLook c k 0 ∧ (kdpHas c k = true ↔ 0 < kdpLook c k 0) := by
  unfold kdpLook kdpHas
  cases e : c.find? fun p => decide (p.1 = k) with
  | none =>
    have : (c.any fun p => decide (p.1 = k)) = false := by
      rw [List.any_eq_false]
      intro p hp
      have := List.find?_eq_none.mp e p hp
      exact this
    rw [this]; simp
  | some p =>
    have h1 := h p (List.mem_of_find?_eq_some e)
    have h2 : (c.any fun p => decide (p.1 = k)) = true := List.any_eq_true.mpr ⟨p, List.mem_of_find?_eq_some e, by simpa using List.find?_some (p := fun q : Str × Int => decide (q.1 = k)) e⟩
    rw [h2]
    simp only [Option.map_some, Option.getD_some]
    exact ⟨Int.le_of_lt h1, by simp [h1]⟩
end Mine
end
section
open PySem PySem.W PyProof.Rows PySem.Calls PyProof.V
set_option maxRecDepth 100000
set_option maxHeartbeats 1000000
namespace Mine
theorem TD_unf {G : List Nat → Nat} {r : Nat} {o : List Nat} (h : o.length = r) (Q : List Nat → Nat) : TD G r o Q = Q [] * G o + sm (nb o) fun x => TD G (r - 1) (o.erase x) fun v => Q (x :: v) := by
  cases r with
  | zero => rw [List.eq_nil_of_length_eq_zero h]; rfl
  | succ r => rfl
theorem mkS_toList (b : Str) : mkS b.cps.toList = b := by obtain ⟨⟨l⟩⟩ := b; rfl
theorem app_cons (a : Str) (x : Nat) (v : List Nat) : (a ++ sg x) ++ mkS v = a ++ mkS (x :: v) := by
  apply str_of_signs
  rw [signs_app, signs_app, signs_app, List.append_assoc]
  rfl
theorem app_nil (a : Str) : a ++ mkS [] = a := by
  apply str_of_signs
  rw [signs_app]
  show signs a ++ [] = signs a
  exact List.append_nil _
noncomputable def ind (b : Prop) [Decidable b] : Nat := if b then 1 else 0
noncomputable def wt (nm : Str → Str) (G : List Nat → Nat) (k : Str) (q : Str × Str) : Nat := TD G q.2.cps.toList.length q.2.cps.toList fun v => ind (nm (q.1 ++ mkS v) = k)
theorem wt_push (nm : Str → Str) (G : List Nat → Nat) (k a b : Str) : wt nm G k (a, b) = ind (nm a = k) * G b.cps.toList + sm (pushN a b b.cps.size) (wt nm G k) := by
  have e0 : b.cps.size = b.cps.toList.length := Array.length_toList.symm
  have e := pushN_eq a b.cps.toList b.cps.toList.length (Nat.le_refl _)
  rw [mkS_toList, List.take_length] at e
  rw [e0, e, sm_map]
  show TD G b.cps.toList.length b.cps.toList (fun v => ind (nm (a ++ mkS v) = k)) = _
  rw [TD_unf rfl, app_nil]
  congr 1
  refine sm_congr fun x hx => ?_
  show _ = TD G (b.cps.toList.erase x).length (b.cps.toList.erase x) (fun v => ind (nm ((a ++ sg x) ++ mkS v) = k))
  rw [List.length_erase_of_mem (mem_nb.mp hx)]
  congr 1
  funext v
  rw [app_cons]
theorem due_inv {nm : Str → Str} {g : Str → Int} {G : List Nat → Nat} (hg : ∀ b, g b = (G b.cps.toList : Nat)) (k : Str) {ts0 ts : List (Str × Str)} {due : List (Str × Int)} (h : DueR nm g ts0 ts due) :
    kdpLook due k 0 + (sm ts (wt nm G k) : Nat) = (sm ts0 (wt nm G k) : Nat) := by
  induction h with
  | start => exact Int.zero_add _
  | step h ih =>
    rename_i ts a b due
    rw [← ih, kdpLook_put, sm_append, sm_append]
    have e1 : sm [(a, b)] (wt nm G k) = wt nm G k (a, b) := Nat.add_zero _
    rw [e1, wt_push, hg]
    unfold ind
    by_cases h : k = nm a
    · rw [if_pos h, if_pos h.symm, h]; push_cast; omega
    · rw [if_neg h, if_neg (fun e => h e.symm)]; push_cast; omega
theorem due_pos {nm : Str → Str} {g : Str → Int} (hg : ∀ b, 0 < g b) {ts0 ts : List (Str × Str)} {due : List (Str × Int)} (h : DueR nm g ts0 ts due) : PosD due := by
  induction h with
  | start => exact fun p hp => nomatch hp
  | step h ih =>
    rename_i ts a b due
    refine ih.put _ ?_
    have := (ih.look (nm a)).1
    have := hg b
    omega
noncomputable def NodK (c : List (Str × Int)) : Prop := (c.map (·.1)).Nodup
theorem NodK.put {c : List (Str × Int)} (h : NodK c) (k : Str) (v : Int) : NodK (kdpPut c k v) := by
  unfold NodK kdpPut at *
  split
  · have : (c.map fun p => if decide (p.1 = k) = true then (p.1, v) else p).map (·.1) = c.map (·.1) := by
      rw [List.map_map]
      refine List.map_congr_left fun p _ => ?_
      show (if decide (p.1 = k) = true then (p.1, v) else p).1 = p.1
      split <;> rfl
    rw [this]; exact h
  · rename_i hc
    rw [List.map_append, List.nodup_append]
    refine ⟨h, by simp, ?_⟩
    intro a ha b hb e
    have hb' : b = k := by simpa using hb
    obtain ⟨p, hp, rfl⟩ := List.mem_map.mp ha
    exact hc (List.any_eq_true.mpr ⟨p, hp, decide_eq_true (e.trans hb')⟩)
theorem due_nod {nm : Str → Str} {g : Str → Int} {ts0 ts : List (Str × Str)} {due : List (Str × Int)} (h : DueR nm g ts0 ts due) : NodK due := by
  induction h with
  | start => exact List.nodup_nil
  | step h ih => exact ih.put _ _
theorem tally_from (key : List Nat → Str) (k : Str) : ∀ (L : List (List Nat)) (c : List (Str × Int)), PosD c → NodK c → kdpLook (L.foldl (fun c p => bump c (key p)) c) k 0 = kdpLook c k 0 + (sm L (fun p => ind (key p = k)) : Nat) ∧ PosD (L.foldl (fun c p => bump c (key p)) c) ∧ NodK (L.foldl (fun c p => bump c (key p)) c)
  | [], c, h, h2 => ⟨(Int.add_zero _).symm, h, h2⟩
  | p :: L, c, h, h2 => by
    have hp : PosD (bump c (key p)) := h.put _ (by have := (h.look (key p)).1; omega)
    obtain ⟨i1, i2, i3⟩ := tally_from key k L (bump c (key p)) hp (h2.put _ _)
    refine ⟨?_, i2, i3⟩
    rw [List.foldl_cons, i1]
    unfold bump
    rw [kdpLook_put]
    simp only [sm]
    unfold ind
    by_cases e : k = key p
    · rw [if_pos e, if_pos e.symm, e]; push_cast; omega
    · rw [if_neg e, if_neg fun h => e h.symm]; push_cast; omega
theorem tally_look (key : List Nat → Str) (k : Str) (L : List (List Nat)) : kdpLook (tally key L) k 0 = (sm L (fun p => ind (key p = k)) : Nat) ∧ PosD (tally key L) ∧ NodK (tally key L) := by
  obtain ⟨h1, h2, h3⟩ := tally_from key k L [] (fun p hp => nomatch hp) List.nodup_nil
  refine ⟨?_, h2, h3⟩
  have e : kdpLook ([] : List (Str × Int)) k 0 = 0 := rfl
  rw [e, Int.zero_add] at h1
  exact h1
theorem nodup_len {α : Type} [DecidableEq α] : ∀ {a b : List α}, a.Nodup → (∀ x ∈ a, x ∈ b) → a.length ≤ b.length
  | [], _, _, _ => Nat.zero_le _
  | x :: a, b, hn, hs => by
    have hx := hs x (List.mem_cons_self ..)
    obtain ⟨h1, h2⟩ := List.nodup_cons.mp hn
    have := nodup_len (b := b.erase x) h2 fun y hy => (List.mem_erase_of_ne (fun e => h1 (by rw [← e]; exact hy))).mpr (hs y (List.mem_cons_of_mem _ hy))
    rw [List.length_erase_of_mem hx] at this
    have := List.length_pos_of_mem hx
    rw [List.length_cons]; omega
theorem look_mem : ∀ {c : List (Str × Int)}, NodK c → ∀ p ∈ c, kdpLook c p.1 0 = p.2
  | q :: c, h, p, hp => by
    obtain ⟨h1, h2⟩ := List.nodup_cons.mp h
    unfold kdpLook
    rcases List.mem_cons.mp hp with rfl | hp
    · rw [List.find?_cons]; simp
    · have : ¬ q.1 = p.1 := fun e => h1 (by show q.1 ∈ _; rw [e]; exact List.mem_map.mpr ⟨p, hp, rfl⟩)
      rw [List.find?_cons]
      simp only [this, decide_false]
      exact look_mem h2 p hp
theorem mem_has {c : List (Str × Int)} {k : Str} : kdpHas c k = true ↔ k ∈ c.map (·.1) := by
  unfold kdpHas
  rw [List.any_eq_true]
  constructor
  · rintro ⟨p, hp, e⟩
    exact List.mem_map.mpr ⟨p, hp, of_decide_eq_true e⟩
  · intro h
    obtain ⟨p, hp, e⟩ := List.mem_map.mp h
    exact ⟨p, hp, decide_eq_true e⟩
theorem same_of {ca cb : List (Str × Int)} (pa : PosD ca) (pb : PosD cb) (na : NodK ca) (nb' : NodK cb) (h : ∀ k, kdpLook ca k 0 = kdpLook cb k 0) : SameC ca cb := by
  have hh : ∀ k, kdpHas ca k = true ↔ kdpHas cb k = true := fun k => by rw [(pa.look k).2, (pb.look k).2, h]
  constructor
  · have h1 := nodup_len (α := Str) (a := ca.map (fun p : Str × Int => p.1)) (b := cb.map (fun p : Str × Int => p.1)) na fun k hk => mem_has.mp ((hh k).mp (mem_has.mpr hk))
    have h2 := nodup_len (α := Str) (a := cb.map (fun p : Str × Int => p.1)) (b := ca.map (fun p : Str × Int => p.1)) nb' fun k hk => mem_has.mp ((hh k).mpr (mem_has.mpr hk))
    rw [List.length_map, List.length_map] at h1 h2
    omega
  · intro p hp
    have h1 : kdpHas ca p.1 = true := mem_has.mpr (List.mem_map.mpr ⟨p, hp, rfl⟩)
    exact ⟨(hh p.1).mp h1, by rw [← h]; exact look_mem na p hp⟩
theorem LC_perm : ∀ (n : Nat) {l l' : List Nat}, l.Perm l' → ∀ P, LC n l P = LC n l' P
  | 0, _, _, _, _ => rfl
  | n + 1, l, l', h, P => by
    simp only [LC]
    rw [sm_perm h]
    exact sm_congr fun x _ => LC_perm n (h.erase x) _
theorem fp_perm {l l' : List Nat} (h : l.Perm l') : fp l = fp l' := by
  induction h with
  | nil => rfl
  | cons x h ih => simp only [fp]; rw [h.count_eq, ih]
  | swap x y l =>
    simp only [fp, List.count_cons]
    by_cases e : x = y
    · subst e; rfl
    · have e' : ¬ y = x := fun h => e h.symm
      simp [e, e']
      exact Nat.mul_left_comm ..
  | trans _ _ i1 i2 => rw [i1, i2]
theorem DC_perm {l l' : List Nat} (h : l.Perm l') (P : List Nat → Nat) : DC l.length l P = DC l'.length l' P := by
  have h1 := LC_DC l.length l rfl P
  have h2 := LC_DC l'.length l' rfl P
  rw [← fp_perm h, ← h.length_eq, ← LC_perm l.length h] at h2
  rw [h1] at h2
  have := Nat.eq_of_mul_eq_mul_left (fp_pos l) h2
  rw [this, h.length_eq]
theorem fp_rep1 (b : Nat) : ∀ s, fp (List.replicate s b) = fct s
  | 0 => rfl
  | s + 1 => by
    rw [List.replicate_succ]
    show ((List.replicate s b).count b + 1) * fp (List.replicate s b) = (s + 1) * fct s
    rw [List.count_replicate_self, fp_rep1 b s]
theorem fp_rep {a b : Nat} (h : a ≠ b) (s : Nat) : ∀ r, fp (List.replicate r a ++ List.replicate s b) = fct r * fct s
  | 0 => by rw [List.replicate_zero, List.nil_append, fp_rep1]; exact (Nat.one_mul _).symm
  | r + 1 => by
    rw [List.replicate_succ, List.cons_append]
    show ((List.replicate r a ++ List.replicate s b).count a + 1) * fp (List.replicate r a ++ List.replicate s b) = ((r + 1) * fct r) * fct s
    rw [fp_rep h s r, List.count_append, List.count_replicate_self, List.count_eq_zero.mpr (fun hm => h (List.eq_of_mem_replicate hm)), Nat.add_zero, Nat.mul_assoc]
/-- the weight of a rest, as the program reckons it -/
noncomputable def gN (M : List Nat) (o : List Nat) : Nat := nOrd M * nOrd o * nOrd (List.replicate o.length 97 ++ List.replicate (M.length - 1) 46)
theorem nOrd_pos (l : List Nat) : 0 < nOrd l := by
  have h := fp_W l
  have h2 := fct_pos l.length
  rcases Nat.eq_zero_or_pos (nOrd l) with e | e
  · rw [e, Nat.mul_zero] at h; omega
  · exact e
theorem gN_om (M o : List Nat) (hM : 1 ≤ M.length) : fp M * (fp o * gN M o) = om o.length M.length := by
  unfold gN om
  rw [if_neg (by omega)]
  obtain ⟨j, hj⟩ : ∃ j, M.length = j + 1 := ⟨M.length - 1, by omega⟩
  have h1 := fp_W M
  have h2 := fp_W o
  have h3 := fp_W (List.replicate o.length 97 ++ List.replicate j 46)
  rw [fp_rep (by decide) j, List.length_append, List.length_replicate, List.length_replicate] at h3
  rw [hj] at h1 ⊢
  rw [show j + 1 - 1 = j by omega, show o.length + (j + 1) - 1 = o.length + j by omega, ← h3]
  have h4 : fct (j + 1) = (j + 1) * fct j := rfl
  rw [h4] at h1
  generalize nOrd (List.replicate o.length 97 ++ List.replicate j 46) = X
  calc fp M * (fp o * (nOrd M * nOrd o * X)) = (fp M * nOrd M) * ((fp o * nOrd o) * X) := by
        simp only [Nat.mul_assoc, Nat.mul_left_comm, Nat.mul_comm]
    _ = ((j + 1) * fct j) * (fct o.length * X) := by rw [h1, h2]
    _ = (j + 1) * (fct o.length * fct j * X) := by
        simp only [Nat.mul_assoc, Nat.mul_left_comm, Nat.mul_comm]
theorem gOf_gN (M : List Nat) (b : Str) : gOf (M.map sg) b = (gN M b.cps.toList : Nat) := by
  unfold gN
  show ordersOf (M.map sg) * ordersOf (signs b) * ordersOf (signs (Txt.mul (Str.ofString "a") (b.length : Nat) ++ Txt.mul (Str.ofString ".") (((M.map sg).length : Nat) - 1 : Int))) = _
  rw [signs_cuts, signs_sg, orders_W, orders_W]
  have e : List.replicate b.length (⟨#[97]⟩ : Str) ++ List.replicate ((M.map sg).length - 1) (⟨#[46]⟩ : Str) = (List.replicate b.cps.toList.length 97 ++ List.replicate (M.length - 1) 46).map sg := by
    rw [List.map_append, List.map_replicate, List.map_replicate, List.length_map]
    have : b.length = b.cps.toList.length := by show b.cps.size = _; simp
    rw [this]
  rw [e, orders_W]
  push_cast
  rfl
end Mine
end
section
open PySem PySem.W PyProof.Rows PySem.Calls PyProof.V
set_option maxRecDepth 100000
set_option maxHeartbeats 1000000
namespace Mine
/-- every sign that a row may hold -/
noncomputable def codesS : List Nat := (List.range 26).flatMap fun i => (List.range 12).map fun f : Nat => shownC (97 + i) (f : Int)
noncomputable def codesH : List Nat := (List.range 27).map fun f : Nat => hiddenC (f : Int)
noncomputable def codesM : List Nat := [46, 58, 10, 13255]
noncomputable def okF (x : Nat) (f : Str) : Bool := (match kB x with | 0 => f.cps.toList == [x] | 1 => if x = 46 then f.cps.toList == [46] else f.cps.toList == [99, 111, 46] | _ => f.cps.toList.all fun y => kW y == 2) && decide (f.cps.size ≤ 10) && decide (x < 1114112)
noncomputable def okC (x : Nat) : Bool := okF x (foldC x)
/-- the check of a sign whose row in the table is o -/
noncomputable def okO (x : Nat) (o : Option Str) : Bool := okF x (if decide ((x : Int) ∈ b1List) then Str.ofString "" else match o with | some v => v | none => Txt.lower ⟨#[x]⟩)
theorem okC_O (x : Nat) : okC x = okO x (b3Find x) := rfl
/-- the table and the codes gone through side by side -/
noncomputable def mscan : Nat → List (Int × Str) → List Nat → Bool
  | 0, _, cs => cs.isEmpty
  | _ + 1, _, [] => true
  | n + 1, [], c :: cs => okO c none && mscan n [] cs
  | n + 1, (k, v) :: kv, c :: cs => if k < (c : Int) then mscan n kv (c :: cs) else if k = (c : Int) then okO c (some v) && mscan n ((k, v) :: kv) cs else okO c none && mscan n ((k, v) :: kv) cs
theorem find_none_of_lt {kv : List (Int × Str)} {c : Int} (h : ∀ p ∈ kv, c < p.1) : kv.find? (fun p => p.1 == c) = none := by
  rw [List.find?_eq_none]
  intro p hp e
  have := h p hp
  have e' : p.1 = c := by simpa using e
  omega
theorem mscan_ok : ∀ (n : Nat) (kv : List (Int × Str)) (cs : List Nat), incr (kv.map (·.1)) = true → cs.Pairwise (· ≤ ·) → mscan n kv cs = true → ∀ c ∈ cs, okO c ((kv.find? fun p => p.1 == (c : Int)).map (·.2)) = true
  | 0, kv, cs, _, _, h, c, hc => by
    have : cs = [] := by simpa [mscan] using h
    rw [this] at hc; cases hc
  | _ + 1, _, [], _, _, _, c, hc => nomatch hc
  | n + 1, [], x :: cs, hi, hs, h, c, hc => by
    unfold mscan at h
    obtain ⟨h1, h2⟩ := Bool.and_eq_true_iff.mp h
    rcases List.mem_cons.mp hc with rfl | hc
    · exact h1
    · exact mscan_ok n [] cs hi (List.pairwise_cons.mp hs).2 h2 c hc
  | n + 1, (k, v) :: kv, x :: cs, hi, hs, h, c, hc => by
    have hlt := incr_lt (kv.map fun p : Int × Str => p.1) k hi
    have hlt' : ∀ p ∈ kv, k < p.1 := fun p hp => hlt p.1 (List.mem_map.mpr ⟨p, hp, rfl⟩)
    have hi' : incr (kv.map (·.1)) = true := by
      cases kv with
      | nil => rfl
      | cons q kv =>
        have hi2 : (decide (k < q.1) && incr ((q :: kv).map (·.1))) = true := hi
        exact (Bool.and_eq_true_iff.mp hi2).2
    obtain ⟨hs1, hs2⟩ := List.pairwise_cons.mp hs
    unfold mscan at h
    by_cases h1 : k < (x : Int)
    · rw [if_pos h1] at h
      have ih := mscan_ok n kv (x :: cs) hi' hs h c hc
      have hxc : (x : Int) ≤ c := by
        rcases List.mem_cons.mp hc with rfl | hc'
        · exact Int.le_refl _
        · have := hs1 c hc'; omega
      have hk : ¬ k = (c : Int) := by omega
      rw [List.find?_cons]
      have : (k == (c : Int)) = false := by simpa using hk
      simp only [this]
      exact ih
    · rw [if_neg h1] at h
      by_cases h2 : k = (x : Int)
      · rw [if_pos h2] at h
        obtain ⟨h3, h4⟩ := Bool.and_eq_true_iff.mp h
        rcases List.mem_cons.mp hc with rfl | hc
        · rw [List.find?_cons]
          have : (k == (c : Int)) = true := by simpa using h2
          simp only [this]
          exact h3
        · exact mscan_ok n ((k, v) :: kv) cs hi hs2 h4 c hc
      · rw [if_neg h2] at h
        obtain ⟨h3, h4⟩ := Bool.and_eq_true_iff.mp h
        rcases List.mem_cons.mp hc with rfl | hc
        · rw [find_none_of_lt]
          · exact h3
          · intro p hp
            rcases List.mem_cons.mp hp with rfl | hp
            · show (c : Int) < k
              omega
            · have := hlt' p hp; omega
        · exact mscan_ok n ((k, v) :: kv) cs hi hs2 h4 c hc
noncomputable def srt : List Nat := [10, 46, 58] ++ (List.range 26).map (65 + ·) ++ (List.range 26).map (97 + ·) ++ [173, 847, 6150, 6155, 6156, 6157, 8203, 8204, 8205, 8288, 13255] ++ (List.range 16).map (65024 + ·) ++ [65279] ++ [119808, 119860, 119912, 120016, 120172, 120224, 120276, 120328, 120380, 120432].flatMap fun b => (List.range 26).map (b + ·)
noncomputable def incN : List Nat → Bool
  | a :: b :: r => decide (a ≤ b) && incN (b :: r)
  | _ => true
theorem incN_ok : ∀ l : List Nat, incN l = true → l.Pairwise (· ≤ ·)
  | [], _ => .nil
  | [_], _ => List.pairwise_singleton ..
  | a :: b :: r, h => by
    have h' : (decide (a ≤ b) && incN (b :: r)) = true := h
    obtain ⟨h1, h2⟩ := Bool.and_eq_true_iff.mp h'
    have ih := incN_ok (b :: r) h2
    refine List.pairwise_cons.mpr ⟨fun x hx => ?_, ih⟩
    have h3 : a ≤ b := of_decide_eq_true h1
    rcases List.mem_cons.mp hx with rfl | hx
    · exact h3
    · have := (List.pairwise_cons.mp ih).1 x hx; omega
theorem srt_inc : incN srt = true := by decide +kernel
theorem srt_scan : mscan 2000 ((k8.zip v8).map toQ) srt = true := by decide +kernel
theorem srt_ok : ∀ c ∈ srt, okC c = true := by
  intro c hc
  rw [okC_O]
  unfold b3Find
  rw [b3KV_eq]
  exact mscan_ok 2000 _ srt kv8_incr (incN_ok _ srt_inc) srt_scan c hc
theorem all_srt : (codesS ++ (codesH ++ codesM)).all (fun c => srt.elem c) = true := by decide +kernel
theorem okCodes0 : ∀ c ∈ codesS ++ (codesH ++ codesM), okC c = true := fun c hc => srt_ok c (List.mem_of_elem_eq_true (List.all_eq_true.mp all_srt c hc))
end Mine
end
section
open PySem PySem.W PyProof.Rows PySem.Calls PyProof.V
set_option maxRecDepth 100000
set_option maxHeartbeats 1000000
namespace Mine
theorem ordersOf_one (a : Str) : ordersOf [a] = 1 := by
  show ordStep [a] 1 a 0 = 1
  unfold ordStep
  simp
theorem trimN_spec : ∀ (n : Nat) (l : List Str), l.length = n → l ≠ [] → ∃ k, 1 ≤ k ∧ trimN n l = l.take k ∧ ordersOf (trimN n l) ≤ 30
  | 0, l, h, hne => absurd (List.eq_nil_of_length_eq_zero h) hne
  | n + 1, l, h, hne => by
    unfold trimN
    by_cases h30 : 30 < ordersOf l
    · rw [if_pos h30]
      have h2 : 1 ≤ n := by
        rcases Nat.eq_zero_or_pos n with e | e
        · subst e
          match l, h with
          | [a], _ => rw [ordersOf_one] at h30; omega
        · exact e
      have hd : l.dropLast.length = n := by rw [List.length_dropLast, h]; rfl
      obtain ⟨k, k1, k2, k3⟩ := trimN_spec n l.dropLast hd (fun e => by rw [e] at hd; simp at hd; omega)
      refine ⟨min k n, by omega, ?_, k3⟩
      rw [k2, List.dropLast_eq_take, List.take_take, h]
      rfl
    · rw [if_neg h30]
      exact ⟨n + 1, by omega, by rw [← h, List.take_length], by omega⟩
noncomputable def codesAll : List Nat := codesS ++ (codesH ++ codesM)
theorem okCodes : ∀ c ∈ codesAll, okC c = true := okCodes0
theorem itemA : ∀ j : Nat, j < 3 → Txt.item (Str.ofString ".:\n") (j : Int) = sg (([46, 58, 10] : List Nat).getD j 0) := by decide +kernel
theorem itemB : ∀ j : Nat, j < 4 → Txt.item (Str.ofString "㏇.:\n") (j : Int) = sg (([13255, 46, 58, 10] : List Nat).getD j 0) := by decide +kernel
theorem fst_code (n : Int) : ∃ c, c ∈ ([46, 58, 10] : List Nat) ∧ fst0 n = sg c := by
  have h := fmod_in (n.fdiv 650) (d := 3) (by decide)
  obtain ⟨j, hj⟩ : ∃ j : Nat, (n.fdiv 650).fmod 3 = j := ⟨((n.fdiv 650).fmod 3).toNat, by omega⟩
  have hj3 : j < 3 := by omega
  refine ⟨([46, 58, 10] : List Nat).getD j 0, ?_, ?_⟩
  · have : ∀ j : Nat, j < 3 → ([46, 58, 10] : List Nat).getD j 0 ∈ ([46, 58, 10] : List Nat) := by decide
    exact this j hj3
  · unfold fst0
    rw [hj]
    exact itemA j hj3
theorem sign_code (n₀ n : Int) : ∃ c, c ∈ codesAll ∧ signOf n₀ n = sg c := by
  unfold signOf
  have h7 := fmod_in n (d := 7) (by decide)
  by_cases h1 : n.fmod 7 < 2
  · rw [if_pos h1]
    refine ⟨_, List.mem_append_left _ ?_, rfl⟩
    have hc : 97 ≤ (if n.fmod 7 = 0 then c0 n₀ else c1 n₀) ∧ (if n.fmod 7 = 0 then c0 n₀ else c1 n₀) ≤ 122 := c_in n₀ (n.fmod 7)
    have hf := fmod_in (n.fdiv 7) (d := 12) (by decide)
    generalize (if n.fmod 7 = 0 then c0 n₀ else c1 n₀) = c at hc
    obtain ⟨i, rfl⟩ : ∃ i, c = 97 + i := ⟨c - 97, by omega⟩
    obtain ⟨f, ef⟩ : ∃ f : Nat, (n.fdiv 7).fmod 12 = f := ⟨((n.fdiv 7).fmod 12).toNat, by omega⟩
    rw [ef]
    exact List.mem_flatMap.mpr ⟨i, List.mem_range.mpr (by omega), List.mem_map.mpr ⟨f, List.mem_range.mpr (by omega), rfl⟩⟩
  · rw [if_neg h1]
    by_cases h2 : n.fmod 7 = 2
    · rw [if_pos h2]
      refine ⟨_, List.mem_append_right _ (List.mem_append_left _ ?_), rfl⟩
      have hf := fmod_in (n.fdiv 7) (d := 27) (by decide)
      obtain ⟨f, ef⟩ : ∃ f : Nat, (n.fdiv 7).fmod 27 = f := ⟨((n.fdiv 7).fmod 27).toNat, by omega⟩
      rw [ef]
      exact List.mem_map.mpr ⟨f, List.mem_range.mpr (by omega), rfl⟩
    · rw [if_neg h2]
      obtain ⟨j, hj⟩ : ∃ j : Nat, n.fmod 7 - 3 = j := ⟨(n.fmod 7 - 3).toNat, by omega⟩
      have hj4 : j < 4 := by omega
      refine ⟨([13255, 46, 58, 10] : List Nat).getD j 0, ?_, ?_⟩
      · have : ∀ j : Nat, j < 4 → ([13255, 46, 58, 10] : List Nat).getD j 0 ∈ codesM := by decide
        exact List.mem_append_right _ (List.mem_append_right _ (this j hj4))
      · rw [hj]
        exact itemB j hj4
theorem row_codes {f : Int → Str} (h : ∀ n, ∃ c, c ∈ codesAll ∧ f n = sg c) : ∀ ns : List Int, ∃ R : List Nat, (∀ c ∈ R, c ∈ codesAll) ∧ ns.map f = R.map sg ∧ R.length = ns.length
  | [] => ⟨[], fun c hc => (nomatch hc), rfl, rfl⟩
  | n :: ns => by
    obtain ⟨R, h1, h2, h3⟩ := row_codes h ns
    obtain ⟨c, hc, e⟩ := h n
    refine ⟨c :: R, fun x hx => ?_, by rw [List.map_cons, List.map_cons, h2, e], by simp [h3]⟩
    rcases List.mem_cons.mp hx with rfl | hx
    · exact hc
    · exact h1 x hx
/-- what a row is -/
structure RowOk (R : List Nat) : Prop where
  len : R.length ≤ 6
  mark : ∃ c, c ∈ ([46, 58, 10] : List Nat) ∧ c ∈ R
  codes : ∀ c ∈ R, c ∈ codesAll
  few : nOrd R ≤ 30
theorem row_ok (n₀ : Int) (ns : List Int) (hn : ns.length ≤ 5) : ∃ R, rowS n₀ ns = R.map sg ∧ RowOk R := by
  obtain ⟨c, hc, e1⟩ := fst_code n₀
  obtain ⟨R', h1, h2, h3⟩ := row_codes (sign_code n₀) ns
  have hl : fst0 n₀ :: ns.map (signOf n₀) = (c :: R').map sg := by rw [List.map_cons, e1, h2]
  obtain ⟨k, k1, k2, k3⟩ := trimN_spec _ (fst0 n₀ :: ns.map (signOf n₀)) rfl (by simp)
  have er : rowS n₀ ns = ((c :: R').take k).map sg := by
    show trimN _ _ = _
    rw [k2, hl, List.map_take]
  refine ⟨(c :: R').take k, er, ?_, ?_, ?_, ?_⟩
  · rw [List.length_take, List.length_cons, h3]; omega
  · refine ⟨c, hc, ?_⟩
    obtain ⟨j, rfl⟩ : ∃ j, k = j + 1 := ⟨k - 1, by omega⟩
    exact List.mem_cons_self ..
  · intro x hx
    rcases List.mem_cons.mp (List.mem_of_mem_take hx) with rfl | hx
    · have : ∀ c ∈ ([46, 58, 10] : List Nat), c ∈ codesM := by decide
      exact List.mem_append_right _ (List.mem_append_right _ (this _ hc))
    · exact h1 x hx
  · have : ordersOf (rowS n₀ ns) ≤ 30 := k3
    rw [er, orders_W] at this
    omega
end Mine
end
section
open PySem PySem.W PyProof.Rows PySem.Calls PyProof.V
set_option maxRecDepth 100000
set_option maxHeartbeats 1000000
namespace Mine
/-- what the table of the prepared signs says -/
structure FcOk (as : List Str) (c : List (Str × Str)) : Prop where
  all : ∀ p ∈ c, p.2 = foldS p.1 ∧ p.1 ∈ as
theorem putS_spec {as : List Str} {c : List (Str × Str)} {a : Str} (h : FcOk as c) (ha : a ∈ as) : FcOk as (putS c a (foldS a)) ∧ hasF (putS c a (foldS a)) a = true ∧ ∀ b, hasF c b = true → hasF (putS c a (foldS a)) b = true := by
  unfold putS
  by_cases hc : (c.any fun p => decide (p.1 = a)) = true
  · rw [if_pos hc]
    have hkeys : ∀ b, hasF (c.map fun p => if decide (p.1 = a) = true then (p.1, foldS a) else p) b = hasF c b := by
      intro b
      unfold hasF
      rw [List.any_map]
      congr 1
      funext p
      show decide ((if decide (p.1 = a) = true then (p.1, foldS a) else p).1 = b) = _
      split <;> rfl
    refine ⟨⟨fun p hp => ?_⟩, by rw [hkeys]; exact hc, fun b hb => by rw [hkeys]; exact hb⟩
    obtain ⟨q, hq, rfl⟩ := List.mem_map.mp hp
    obtain ⟨h1, h2⟩ := h.all q hq
    split
    · rename_i e
      have e' : q.1 = a := of_decide_eq_true e
      exact ⟨by show foldS a = foldS q.1; rw [e'], h2⟩
    · exact ⟨h1, h2⟩
  · rw [if_neg hc]
    refine ⟨⟨fun p hp => ?_⟩, ?_, fun b hb => ?_⟩
    · rcases List.mem_append.mp hp with hp | hp
      · exact h.all p hp
      · rw [List.mem_singleton.mp hp]; exact ⟨rfl, ha⟩
    · unfold hasF; rw [List.any_append]; simp
    · unfold hasF at *; rw [List.any_append, hb]; rfl
theorem fcL_from {as : List Str} : ∀ (l : List Str) (c : List (Str × Str)), (∀ a ∈ l, a ∈ as) → FcOk as c → FcOk as (l.foldl (fun c a => putS c a (foldS a)) c) ∧ (∀ b, hasF c b = true → hasF (l.foldl (fun c a => putS c a (foldS a)) c) b = true) ∧ ∀ a ∈ l, hasF (l.foldl (fun c a => putS c a (foldS a)) c) a = true
  | [], c, _, h => ⟨h, fun _ hb => hb, fun a ha => nomatch ha⟩
  | a :: l, c, hl, h => by
    obtain ⟨p1, p2, p3⟩ := putS_spec h (hl a (List.mem_cons_self ..))
    obtain ⟨i1, i2, i3⟩ := fcL_from l _ (fun b hb => hl b (List.mem_cons_of_mem _ hb)) p1
    refine ⟨i1, fun b hb => i2 b (p3 b hb), fun b hb => ?_⟩
    rcases List.mem_cons.mp hb with rfl | hb
    · exact i2 _ p2
    · exact i3 b hb
theorem fcL_ok (as : List Str) : FcOk as (fcL as) ∧ ∀ a ∈ as, hasF (fcL as) a = true := by
  obtain ⟨h1, _, h3⟩ := fcL_from (as := as) as [] (fun _ h => h) ⟨fun p hp => nomatch hp⟩
  exact ⟨h1, h3⟩
theorem find_fc {as : List Str} {a : Str} (ha : a ∈ as) : ∃ p, (fcL as).find? (fun p => decide (p.1 = a)) = some p ∧ p.2 = foldS a := by
  obtain ⟨h1, h2⟩ := fcL_ok as
  have := h2 a ha
  unfold hasF at this
  obtain ⟨p, hp, e⟩ := List.any_eq_true.mp this
  cases q : (fcL as).find? (fun p => decide (p.1 = a)) with
  | none => exact absurd e (List.find?_eq_none.mp q p hp)
  | some r =>
    refine ⟨r, rfl, ?_⟩
    have e1 : r.1 = a := by simpa using List.find?_some (p := fun p : Str × Str => decide (p.1 = a)) q
    rw [(h1.all r (List.mem_of_find?_eq_some q)).1, e1]
theorem foldF_fc {as : List Str} {a : Str} (ha : a ∈ as) : foldF (fcL as) a = foldS a := by
  obtain ⟨p, h1, h2⟩ := find_fc ha
  unfold foldF
  rw [h1]; exact h2
theorem foldG_fc {as : List Str} {a : Str} (ha : a ∈ as) : foldG (fcL as) a = foldS a := by
  obtain ⟨p, h1, h2⟩ := find_fc ha
  unfold foldG
  rw [h1]; exact h2
theorem foldS_sg (c : Nat) : foldS (sg c) = foldC c := rfl
theorem ok_fold {c : Nat} (h : okC c = true) : FoldOk (fun x => (foldC x).cps.toList) c ∧ (foldC c).length ≤ 10 ∧ c < 1114112 := by
  unfold okC okF at h
  simp only [Bool.and_eq_true, decide_eq_true_eq] at h
  obtain ⟨⟨h1, h2⟩, h3⟩ := h
  refine ⟨⟨fun k0 => ?_, fun e => ?_, fun e => ?_, fun k2 => ?_⟩, h2, h3⟩
  · rw [k0] at h1
    simpa using h1
  · subst e
    have k1 : kB 46 = 1 := rfl
    rw [k1] at h1
    simpa using h1
  · subst e
    have k1 : kB 13255 = 1 := rfl
    rw [k1] at h1
    simpa using h1
  · have k2' : kB c = 2 := by rcases kB_cases c with h | ⟨h, _⟩ | h <;> omega
    rw [k2'] at h1
    intro y hy
    have := List.all_eq_true.mp h1 y hy
    simpa using this
theorem rising_sg : ∀ (M : List Nat) (p : Nat), risingS (sg p) (M.map sg) = true → Srt (p :: M)
  | [], p, _ => List.pairwise_singleton ..
  | x :: M, p, h => by
    have h' : (!PySem.Spec.ltCps [x] [p] && risingS (sg x) (M.map sg)) = true := h
    obtain ⟨h1, h2⟩ := Bool.and_eq_true_iff.mp h'
    have ih := rising_sg M x h2
    have hpx : p ≤ x := by
      have e : PySem.Spec.ltCps [x] [p] = (decide (x < p) || (x == p && false)) := rfl
      rw [e] at h1
      simp at h1
      exact h1
    refine List.pairwise_cons.mpr ⟨fun y hy => ?_, ih⟩
    rcases List.mem_cons.mp hy with rfl | hy
    · exact hpx
    · have := (List.pairwise_cons.mp ih).1 y hy
      omega
theorem sorted_sg {M : List Nat} (h : sortedS (M.map sg) = true) : Srt M := by
  cases M with
  | nil => exact List.Pairwise.nil
  | cons p M => exact rising_sg M p h
theorem least_sg {least : List Str} {R : List Nat} (h : least.Perm (R.map sg)) : least = (cpsOf least).map sg ∧ (cpsOf least).Perm R := by
  constructor
  · have hall : ∀ a ∈ least, ∃ c, a = sg c := fun a ha => by
      obtain ⟨c, _, e⟩ := List.mem_map.mp (h.mem_iff.mp ha)
      exact ⟨c, e.symm⟩
    clear h
    induction least with
    | nil => rfl
    | cons a l ih =>
      obtain ⟨c, rfl⟩ := hall a (List.mem_cons_self ..)
      have := ih fun b hb => hall b (List.mem_cons_of_mem _ hb)
      have e : cpsOf (sg c :: l) = c :: cpsOf l := rfl
      rw [e, List.map_cons, ← this]
  · have h1 : (cpsOf least).Perm (cpsOf (R.map sg)) := List.Perm.flatMap_right _ h
    rw [cpsOf_sg] at h1
    exact h1
theorem filter_marks (lit : Str) (k : Nat → Nat) (h : ∀ c, inS lit (sg c) = !decide (2 ≤ k c)) (R : List Nat) :
    (R.map sg).filter (inS lit) = (R.filter fun x => !decide (2 ≤ k x)).map sg ∧ cpsOf ((R.map sg).filter fun a => !inS lit a) = oth k R := by
  constructor
  · rw [List.filter_map]
    congr 1
    refine List.filter_congr fun x _ => ?_
    exact h x
  · rw [List.filter_map, cpsOf_sg]
    unfold oth
    refine List.filter_congr fun x _ => ?_
    show (!inS lit (sg x)) = _
    rw [h x]; simp
theorem lit1 : (Str.ofString ".:\n").cps.toList = [46, 58, 10] := by decide +kernel
theorem lit2 : (Str.ofString ".:\n㏇").cps.toList = [46, 58, 10, 13255] := by decide +kernel
theorem marks1 (c : Nat) : inS (Str.ofString ".:\n") (sg c) = !decide (2 ≤ kW c) := by
  rw [inS_one, lit1]
  unfold kW
  by_cases h1 : c = 10 ∨ c = 58
  · rw [if_pos h1]; rcases h1 with rfl | rfl <;> rfl
  · rw [if_neg h1]
    by_cases h2 : c = 46
    · rw [if_pos h2]; subst h2; rfl
    · rw [if_neg h2]
      have : c ∉ ([46, 58, 10] : List Nat) := by simp; omega
      simp [this]
theorem marks2 (c : Nat) : inS (Str.ofString ".:\n㏇") (sg c) = !decide (2 ≤ kB c) := by
  rw [inS_one, lit2]
  unfold kB
  by_cases h1 : c = 10 ∨ c = 58
  · rw [if_pos h1]; rcases h1 with rfl | rfl <;> rfl
  · rw [if_neg h1]
    by_cases h2 : c = 46 ∨ c = 13255
    · rw [if_pos h2]; rcases h2 with rfl | rfl <;> rfl
    · rw [if_neg h2]
      have : c ∉ ([46, 58, 10, 13255] : List Nat) := by simp; omega
      simp [this]
theorem oth_len (k : Nat → Nat) (R : List Nat) : (oth k R).length + (R.filter fun x => !decide (2 ≤ k x)).length = R.length := by
  have b := sm_filter (fun x => decide (2 ≤ k x)) (fun _ => 1) R
  rw [sm_const, sm_const, sm_const] at b
  unfold oth
  omega
/-- the plain law of one of the two tellings -/
theorem tell_due {R M : List Nat} (hM : M.Perm R) (k : Nat → Nat) (hm : 1 ≤ (R.filter fun x => !decide (2 ≤ k x)).length) (nm : Str → Str) (key : List Nat → Str) (hkey : ∀ p : List Nat, p.Perm M → key p = nm (mkS (seg k p)))
    {due : List (Str × Int)} (hD : DueR nm (gOf ((R.filter fun x => !decide (2 ≤ k x)).map sg)) [(Str.ofString "", mkS (oth k R))] [] due) : SameC (tally key (LX M.length M)) due := by
  have hg : ∀ b, gOf ((R.filter fun x => !decide (2 ≤ k x)).map sg) b = (gN (R.filter fun x => !decide (2 ≤ k x)) b.cps.toList : Nat) := fun b => gOf_gN _ b
  have hpos : ∀ b, 0 < gOf ((R.filter fun x => !decide (2 ≤ k x)).map sg) b := fun b => by
    rw [hg]
    have : 0 < gN (R.filter fun x => !decide (2 ≤ k x)) b.cps.toList := Nat.mul_pos (Nat.mul_pos (nOrd_pos _) (nOrd_pos _)) (nOrd_pos _)
    omega
  refine same_of (tally_look key (mkS []) _).2.1 (due_pos hpos hD) (tally_look key (mkS []) _).2.2 (due_nod hD) fun q => ?_
  rw [(tally_look key q _).1]
  have h1 := due_inv hg q hD
  have e0 : sm ([] : List (Str × Str)) (wt nm (gN (R.filter fun x => !decide (2 ≤ k x))) q) = 0 := rfl
  rw [e0] at h1
  have h1' : kdpLook due q 0 = (sm [(Str.ofString "", mkS (oth k R))] (wt nm (gN (R.filter fun x => !decide (2 ≤ k x))) q) : Nat) := by rw [← h1]; simp
  rw [h1']
  congr 1
  have e1 : sm (LX M.length M) (fun p => ind (key p = q)) = sm (LX M.length M) fun p => (fun v => ind (nm (mkS v) = q)) (seg k p) := sm_congr fun p hp => by rw [hkey p (LX_perm M.length M rfl p hp)]
  rw [e1, sm_LX, DC_perm hM]
  refine Eq.trans (told_due k (gN (R.filter fun x => !decide (2 ≤ k x))) R (fun o => gN_om _ o hm) fun v => ind (nm (mkS v) = q)) ?_
  show _ = wt nm _ q (Str.ofString "", mkS (oth k R)) + 0
  rw [Nat.add_zero]
  show _ = TD _ (oth k R).length (oth k R) fun v => ind (nm (Str.ofString "" ++ mkS v) = q)
  congr 1
  funext v
  have : Str.ofString "" ++ mkS v = mkS v := by
    apply str_of_signs
    rw [signs_app]; rfl
  rw [this]
theorem law_ok (n₀ : Int) (ns : List Int) (hn : ns.length ≤ 5) : LawOk (rowS n₀ ns) := by
  obtain ⟨R, er, hR⟩ := row_ok n₀ ns hn
  rw [er]
  obtain ⟨c, hc, hcR⟩ := hR.mark
  have hlen := hR.len
  have hpos : 1 ≤ R.length := List.length_pos_of_mem hcR
  have hok : ∀ x ∈ R, okC x = true := fun x hx => okCodes x (hR.codes x hx)
  have hmem : ∀ x ∈ R, sg x ∈ R.map sg := fun x hx => List.mem_map.mpr ⟨x, hx, rfl⟩
  have hF : ∀ x ∈ R, foldF (fcL (R.map sg)) (sg x) = foldC x := fun x hx => (foldF_fc (hmem x hx)).trans (foldS_sg x)
  have hG : ∀ x ∈ R, foldG (fcL (R.map sg)) (sg x) = foldC x := fun x hx => (foldG_fc (hmem x hx)).trans (foldS_sg x)
  have hFold : ∀ x ∈ R, FoldOk (fun y => (foldF (fcL (R.map sg)) (sg y)).cps.toList) x := fun x hx => by
    obtain ⟨a, b, d, e⟩ := (ok_fold (hok x hx)).1
    refine ⟨?_, ?_, ?_, ?_⟩ <;> simp only [hF x hx]
    · exact a
    · exact b
    · exact d
    · exact e
  obtain ⟨f1, f2⟩ := filter_marks (Str.ofString ".:\n") kW marks1 R
  obtain ⟨g1, g2⟩ := filter_marks (Str.ofString ".:\n㏇") kB marks2 R
  have l1 := oth_len kW R
  have l2 := oth_len kB R
  have m1 : 1 ≤ (R.filter fun x => !decide (2 ≤ kW x)).length := List.length_pos_of_mem (List.mem_filter.mpr ⟨hcR, by
    have : ∀ c ∈ ([46, 58, 10] : List Nat), (!decide (2 ≤ kW c)) = true := by decide
    exact this c hc⟩)
  have m2 : 1 ≤ (R.filter fun x => !decide (2 ≤ kB x)).length := List.length_pos_of_mem (List.mem_filter.mpr ⟨hcR, by
    have : ∀ c ∈ ([46, 58, 10] : List Nat), (!decide (2 ≤ kB c)) = true := by decide
    exact this c hc⟩)
  have good : ∀ M : List Nat, M.Perm R → Srt M → Good (fcL (R.map sg)) (M.map sg) ⟨[], (M.map sg).reverse, tally keyW (LX M.length M), tally (keyB (foldF (fcL (R.map sg)))) (LX M.length M)⟩ := by
    intro M hM hs
    have hin : ∀ x ∈ M, x ∈ R := fun x hx => hM.mem_iff.mp hx
    have hl := hM.length_eq
    refine good_of (by omega) (by omega) hs ?_ (fun x hx => (fcL_ok _).2 _ (hmem x (hin x hx))) (fun x hx => by rw [hF x (hin x hx)]; exact (ok_fold (hok x (hin x hx))).2.1) fun p hp => bare_fold fun x hx => hFold x (hin x (hp.mem_iff.mp hx))
    have : nOrd M = nOrd R := DC_perm hM _
    rw [this]; exact hR.few
  refine ⟨by rw [List.length_map]; exact hlen, by rw [List.length_map]; exact hpos, fun a ha => ?_, fun a ha => ?_, fun least hP hS => ?_, by rw [f2]; omega, by rw [g2]; omega, by rw [f2, f1, List.length_map]; omega, by rw [g2, g1, List.length_map]; omega, fun p hp => ?_, fun least fin e1 e2 hP hS hGd d1 d2 => ?_⟩
  · obtain ⟨x, _, rfl⟩ := List.mem_map.mp ha
    exact ⟨x, rfl⟩
  · obtain ⟨x, hx, rfl⟩ := List.mem_map.mp ha
    have := (ok_fold (hok x hx)).2.2
    simp [PyData.strOk, this]
  · obtain ⟨a1, a2⟩ := least_sg hP
    rw [a1] at hS ⊢
    exact ⟨_, good _ a2 (sorted_sg hS)⟩
  · obtain ⟨a1, a2⟩ := (fcL_ok (R.map sg)).1.all p hp
    obtain ⟨x, hx, e⟩ := List.mem_map.mp a2
    rw [a1, ← e]
    exact (ok_fold (hok x hx)).2.1
  · obtain ⟨a1, a2⟩ := least_sg hP
    rw [a1] at hS hGd
    have gd := good _ a2 (sorted_sg hS)
    have efin := Option.some.inj (hGd.1.symm.trans gd.1)
    rw [efin]
    rw [f1, f2] at d1
    rw [g1, g2] at d2
    refine ⟨tell_due a2 kW m1 _ keyW (fun p hp => ?_) d1, tell_due a2 kB m2 _ _ (fun p hp => ?_) d2⟩
    · rw [keyW_seg]
      unfold nameW
      have : (signs (mkS (seg kW p))).map (foldG []) = signs (mkS (seg kW p)) := by
        conv => rhs; rw [← List.map_id (signs (mkS (seg kW p)))]
        exact List.map_congr_left fun a _ => rfl
      rw [this, signs_sg, cpsOf_sg]
    · have hin : ∀ x ∈ p, x ∈ R := fun x hx => a2.mem_iff.mp (hp.mem_iff.mp hx)
      rw [keyB_seg fun x hx => hFold x (hin x hx)]
      unfold nameW
      rw [signs_sg, cpsOf_fold]
      show mkS _ = mkS _
      congr 1
      have : ∀ l : List Nat, (∀ x ∈ l, x ∈ R) → l.flatMap (fun x => (foldF (fcL (R.map sg)) (sg x)).cps.toList) = l.flatMap fun x => (foldG (fcL (R.map sg)) (sg x)).cps.toList := by
        intro l hl
        induction l with
        | nil => rfl
        | cons x l ih =>
          rw [List.flatMap_cons, List.flatMap_cons, ih fun y hy => hl y (List.mem_cons_of_mem _ hy), hF x (hl x (List.mem_cons_self ..)), hG x (hl x (List.mem_cons_self ..))]
      exact this _ fun x hx => hin x (seg_mem hx)
end Mine
end
open PySem PySem.W PyProof.Rows PySem.Calls
namespace Mine
theorem law_walk : LawWalk := by
  intro w s mg mb T X l vs ns hl hs hn
  refine wpAny_call (spec_law hl hs hn (fun n₀ ms h _ _ => law_ok n₀ ms h) rfl ⟨X, T⟩ ⟨rfl, by decide, by decide⟩ fun s' e => ?_)
  obtain ⟨h', tk, rfl, k⟩ := e
  exact ⟨rfl, h', tk, rfl, k⟩
end Mine
theorem PySem.Challenge.cw_ti0029_01_holds : PySem.Challenge.rw_ti0029_01.Holds :=
  Mine.holds_of Mine.law_walk

