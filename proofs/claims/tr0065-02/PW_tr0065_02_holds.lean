import PyProof.Rows.All
import Wide.All
import OpenK.AllK
import Wide.FinOn
import PySem.Challenge.RW_tr0065_02
set_option Elab.async false
set_option linter.unusedVariables false
section
open PySem PySem.W PySem.Calls PyProof.Rows
set_option maxRecDepth 100000
noncomputable section
namespace Hd
abbrev pr : Program := PySem.Challenge.pw_tr0065_02
abbrev rw' : OpenLaw := PySem.Challenge.rw_tr0065_02
noncomputable def st (i : Nat) : Stmt := match pr.main.body[i]? with | some s => s | none => .Pass default
noncomputable def cBody : Stmt → List Stmt | .ClassDef _ _ _ b _ _ _ _ _ _ _ => b | _ => []
noncomputable def sub (s : Stmt) (i : Nat) : Stmt := match (cBody s)[i]? with | some s => s | none => .Pass default
noncomputable def fArgs : Stmt → Arguments | .FunctionDef _ a _ _ _ _ _ _ _ _ => a | _ => default
noncomputable def fBody : Stmt → List Stmt | .FunctionDef _ _ b _ _ _ _ _ _ _ => b | _ => []
noncomputable def fScope : Stmt → Scope | .FunctionDef _ _ _ _ _ _ s _ _ _ => s | _ => default
abbrev kh (P : Params) (x : Str) : Int := PyData.keyHash P x
abbrev PD := Int × PySem.Str
abbrev dObj (es : List DictEntry) (n : Nat) : Obj := ⟨.type "dict", none, .dict es.toArray n, #[]⟩
noncomputable def entL (tk : Nat) : List PD → List DictEntry
  | [] => []
  | (k, s) :: r => ⟨hashInt k, .int k tk, .str s (tk + 1)⟩ :: entL (tk + 3) r
noncomputable def entS (tk : Nat) : List PD → List DictEntry
  | [] => []
  | (k, s) :: r => ⟨hashInt k, .int k tk, .str s (tk + 1)⟩ :: entS (tk + 2) r
noncomputable def subsOf (tk : Nat) : List (List PD) → List Obj
  | [] => []
  | c :: r => dObj (entL tk c) 17 :: subsOf (tk + 51) r
noncomputable def dataOf : List (Option PySem.Expr) → List PySem.Expr → List PD
  | some (.Constant (.int k) _ _) :: ks, .Constant (.str s) _ _ :: vs => (k, s) :: dataOf ks vs
  | _, _ => []
noncomputable def b3K : List (Option PySem.Expr) := match st 8 with | .Assign _ (.Dict ks _ _) _ => ks | _ => []
noncomputable def b3V : List PySem.Expr := match st 8 with | .Assign _ (.Dict _ vs _) _ => vs | _ => []
noncomputable def b3D : List PD := dataOf b3K b3V
noncomputable def b3c0 : List PD := b3D.take 17
noncomputable def b3cs : List (List PD) := (List.range 37).map fun j => (b3D.drop (17 * (j + 1))).take 17
noncomputable def b3last : List PD := b3D.drop 646
noncomputable def b3Ents : List DictEntry := entL 312 (b3c0 ++ b3cs.flatten) ++ entS (312 + 51 + 51 * 37) b3last
noncomputable def b3Main : Obj := dObj b3Ents 650
noncomputable def subsAll : List Obj := subsOf (312 + 51) b3cs ++ [dObj (entS (312 + 51 + 51 * 37) b3last) 4]
noncomputable def subAt (j : Nat) : Obj := (subsAll[j]?).getD default
noncomputable def o11 (P : Params) : Obj := ⟨(.type "tuple"), none, (.seq #[] 0), #[]⟩
noncomputable def o12 (P : Params) : Obj := ⟨.none, none, (.fields #[]), #[]⟩
noncomputable def o13 (P : Params) : Obj := ⟨(.type "code"), none, (.fields #[(.str "<module>" 182), (.str "<module>" 183), (.str "/claim/cut.py" 184), (.int 1 0), (.int 0 0), (.int 0 0), (.int 0 0), (.int 0 0), (.ref 11), (.bool false), (.int 181 0), (.ref 12), .none, .none, .none, .none, (.int 185 0), (.int 1 0), (.str "/claim/cut.py" 186)]), #[]⟩
noncomputable def o14 (P : Params) : Obj := ⟨(.type "frame"), none, .plain, #[(some (.ref 13)), (some (.ref 3)), (some (.ref 3)), none, (some (.str "__main__" 164)), none, (some (.ref 0))]⟩
noncomputable def tA (P : Params) : BT := (.node (boot_o_0 P) (.node (boot_o_1 P) (.node (boot_o_3 P) (.node (boot_o_7 P) .nil .nil) (.node (o11 P) .nil .nil)) (.node (boot_o_5 P) (.node (boot_o_9 P) .nil .nil) (.node (o13 P) .nil .nil))) (.node (boot_o_2 P) (.node (boot_o_4 P) (.node (boot_o_8 P) .nil .nil) (.node (o12 P) .nil .nil)) (.node (boot_o_6 P) (.node (boot_o_10 P) .nil .nil) (.node (o14 P) .nil .nil))))
noncomputable def tB (P : Params) : BT := (.node (boot_o_0 P) (.node (boot_o_1 P) (.node (boot_o_3 P) (.node (boot_o_7 P) .nil .nil) (.node (o11 P) .nil .nil)) (.node (boot_o_5 P) (.node (boot_o_9 P) .nil .nil) (.node (o13 P) .nil .nil))) (.node (boot_o_2 P) (.node (boot_o_4 P) (.node (boot_o_8 P) .nil .nil) (.node (o12 P) .nil .nil)) (.node (boot_o_6 P) (.node (boot_o_10 P) .nil .nil) (.node (o14 P) .nil .nil))))
noncomputable def o3v0 (P : Params) : Obj := ⟨(.type "dict"), none, (.dict #[⟨kh P "__name__", (.str "__name__" 165), (.str "__main__" 164)⟩, ⟨kh P "__doc__", (.str "__doc__" 166), .none⟩, ⟨kh P "__package__", (.str "__package__" 167), .none⟩, ⟨kh P "__loader__", (.str "__loader__" 168), (.builtin "__main__.__loader__#opaque")⟩, ⟨kh P "__spec__", (.str "__spec__" 169), .none⟩, ⟨kh P "__annotations__", (.str "__annotations__" 170), (.ref 6)⟩, ⟨kh P "__builtins__", (.str "__builtins__" 171), (.ref 4)⟩, ⟨kh P "__file__", (.str "__file__" 173), (.str "/claim/cut.py" 172)⟩, ⟨kh P "__cached__", (.str "__cached__" 174), .none⟩, ⟨kh P "_wall", (.str "_wall" 193), (.ref 21)⟩] 10), #[]⟩
noncomputable def o12v0 (P : Params) : Obj := ⟨.none, none, (.fields #[(.int 1 0), (.int 0 0), (.ref 20)]), #[]⟩
noncomputable def o15 (P : Params) : Obj := ⟨(.type "tuple"), none, (.seq #[] 0), #[]⟩
noncomputable def o16 (P : Params) : Obj := ⟨.none, none, (.fields #[]), #[]⟩
noncomputable def o17 (P : Params) : Obj := ⟨(.type "tuple"), none, (.seq #[(.str "k" 190)] 0), #[]⟩
noncomputable def o18 (P : Params) : Obj := ⟨(.type "tuple"), none, (.seq #[] 0), #[]⟩
noncomputable def o19 (P : Params) : Obj := ⟨.none, none, (.func ⟨"_wall", "_wall", fArgs (st 0), .stmts (fBody (st 0)), fScope (st 0), 0, [], .none, .none, .none, .none, none, .none, .none, 0⟩), #[]⟩
noncomputable def o20 (P : Params) : Obj := ⟨(.type "code"), none, (.fields #[(.str "_wall" 187), (.str "_wall" 188), (.str "/claim/cut.py" 189), (.int 1 0), (.int 1 0), (.int 0 0), (.int 0 0), (.int 3 0), (.ref 15), (.bool true), (.int 181 0), (.ref 16), .none, (.ref 17), (.ref 18), (.ref 19), (.int 191 0), (.int 1 0), (.str "/claim/cut.py" 192)]), #[]⟩
noncomputable def o21 (P : Params) : Obj := ⟨(.type "function"), none, (.func ⟨"_wall", "_wall", fArgs (st 0), .stmts (fBody (st 0)), fScope (st 0), 3, [], .none, .none, .none, (.str "__main__" 164), none, (.ref 20), .none, 0⟩), #[]⟩
noncomputable def t0 (P : Params) : BT := (.node (boot_o_0 P) (.node (boot_o_1 P) (.node (o3v0 P) (.node (boot_o_7 P) (.node (o15 P) .nil .nil) .nil) (.node (o11 P) (.node (o19 P) .nil .nil) .nil)) (.node (boot_o_5 P) (.node (boot_o_9 P) (.node (o17 P) .nil .nil) .nil) (.node (o13 P) (.node (o21 P) .nil .nil) .nil))) (.node (boot_o_2 P) (.node (boot_o_4 P) (.node (boot_o_8 P) (.node (o16 P) .nil .nil) .nil) (.node (o12v0 P) (.node (o20 P) .nil .nil) .nil)) (.node (boot_o_6 P) (.node (boot_o_10 P) (.node (o18 P) .nil .nil) .nil) (.node (o14 P) .nil .nil))))
noncomputable def o3v1 (P : Params) : Obj := ⟨(.type "dict"), none, (.dict #[⟨kh P "__name__", (.str "__name__" 165), (.str "cpy313.ftplib" 194)⟩, ⟨kh P "__doc__", (.str "__doc__" 166), .none⟩, ⟨kh P "__package__", (.str "__package__" 167), .none⟩, ⟨kh P "__loader__", (.str "__loader__" 168), (.builtin "__main__.__loader__#opaque")⟩, ⟨kh P "__spec__", (.str "__spec__" 169), .none⟩, ⟨kh P "__annotations__", (.str "__annotations__" 170), (.ref 6)⟩, ⟨kh P "__builtins__", (.str "__builtins__" 171), (.ref 4)⟩, ⟨kh P "__file__", (.str "__file__" 173), (.str "/claim/cut.py" 172)⟩, ⟨kh P "__cached__", (.str "__cached__" 174), .none⟩, ⟨kh P "_wall", (.str "_wall" 193), (.ref 21)⟩] 10), #[]⟩
noncomputable def t1 (P : Params) : BT := (.node (boot_o_0 P) (.node (boot_o_1 P) (.node (o3v1 P) (.node (boot_o_7 P) (.node (o15 P) .nil .nil) .nil) (.node (o11 P) (.node (o19 P) .nil .nil) .nil)) (.node (boot_o_5 P) (.node (boot_o_9 P) (.node (o17 P) .nil .nil) .nil) (.node (o13 P) (.node (o21 P) .nil .nil) .nil))) (.node (boot_o_2 P) (.node (boot_o_4 P) (.node (boot_o_8 P) (.node (o16 P) .nil .nil) .nil) (.node (o12v0 P) (.node (o20 P) .nil .nil) .nil)) (.node (boot_o_6 P) (.node (boot_o_10 P) (.node (o18 P) .nil .nil) .nil) (.node (o14 P) .nil .nil))))
noncomputable def o2v2 (P : Params) : Obj := ⟨.none, none, (.dict #[⟨kh P "type.__subclasses__.Exception.0", (.str "type.__subclasses__.Exception.0" 212), (.int 31 0)⟩, ⟨kh P "type.__subclasses__.Exception.n", (.str "type.__subclasses__.Exception.n" 213), (.int 1 0)⟩] 2), #[]⟩
noncomputable def o3v2 (P : Params) : Obj := ⟨(.type "dict"), none, (.dict #[⟨kh P "__name__", (.str "__name__" 165), (.str "cpy313.ftplib" 194)⟩, ⟨kh P "__doc__", (.str "__doc__" 166), .none⟩, ⟨kh P "__package__", (.str "__package__" 167), .none⟩, ⟨kh P "__loader__", (.str "__loader__" 168), (.builtin "__main__.__loader__#opaque")⟩, ⟨kh P "__spec__", (.str "__spec__" 169), .none⟩, ⟨kh P "__annotations__", (.str "__annotations__" 170), (.ref 6)⟩, ⟨kh P "__builtins__", (.str "__builtins__" 171), (.ref 4)⟩, ⟨kh P "__file__", (.str "__file__" 173), (.str "/claim/cut.py" 172)⟩, ⟨kh P "__cached__", (.str "__cached__" 174), .none⟩, ⟨kh P "_wall", (.str "_wall" 193), (.ref 21)⟩, ⟨kh P "Error", (.str "Error" 215), (.ref 31)⟩] 11), #[]⟩
noncomputable def o12v2 (P : Params) : Obj := ⟨.none, none, (.fields #[(.int 1 0), (.int 0 0), (.ref 20), (.int 5 0), (.int 0 0), (.ref 27)]), #[]⟩
noncomputable def o22 (P : Params) : Obj := ⟨(.type "tuple"), none, (.seq #[(.type "Exception")] 0), #[]⟩
noncomputable def o23 (P : Params) : Obj := ⟨(.type "builtin_function_or_method"), none, (.fields #[(.builtin "type.__prepare__"), (.type "type")]), #[]⟩
noncomputable def o24 (P : Params) : Obj := ⟨(.type "dict"), none, (.dict #[⟨kh P "__module__", (.str "__module__" 203), (.str "cpy313.ftplib" 194)⟩, ⟨kh P "__qualname__", (.str "__qualname__" 205), (.str "Error" 204)⟩, ⟨kh P "__firstlineno__", (.str "__firstlineno__" 207), (.int 5 206)⟩, ⟨kh P "__static_attributes__", (.str "__static_attributes__" 208), (.ref 29)⟩] 4), #[]⟩
noncomputable def o25 (P : Params) : Obj := ⟨(.type "tuple"), none, (.seq #[] 0), #[]⟩
noncomputable def o26 (P : Params) : Obj := ⟨.none, none, (.fields #[]), #[]⟩
noncomputable def o27 (P : Params) : Obj := ⟨(.type "code"), none, (.fields #[(.str "Error" 198), (.str "Error" 199), (.str "/claim/cut.py" 200), (.int 5 0), (.int 0 0), (.int 0 0), (.int 0 0), (.int 0 0), (.ref 25), (.bool false), (.int 181 0), (.ref 26), .none, .none, .none, .none, (.int 201 0), (.int 5 0), (.str "/claim/cut.py" 202)]), #[]⟩
noncomputable def o28 (P : Params) : Obj := ⟨(.type "frame"), none, .plain, #[(some (.ref 27)), (some (.ref 3)), (some (.ref 24)), none, (some (.str "cpy313.ftplib" 194)), none, (some (.ref 0))]⟩
noncomputable def o29 (P : Params) : Obj := ⟨(.type "tuple"), none, (.seq #[] 0), #[]⟩
noncomputable def o30 (P : Params) : Obj := ⟨(.type "dict"), none, (.dict #[⟨kh P "__module__", (.str "__module__" 203), (.str "cpy313.ftplib" 194)⟩, ⟨kh P "__firstlineno__", (.str "__firstlineno__" 207), (.int 5 206)⟩, ⟨kh P "__static_attributes__", (.str "__static_attributes__" 208), (.ref 29)⟩, ⟨kh P "__weakref__", (.str "__weakref__" 210), (.ref 32)⟩, ⟨kh P "__doc__", (.str "__doc__" 211), .none⟩] 3), #[]⟩
noncomputable def o31 (P : Params) : Obj := ⟨(.type "type"), none, (.cls ⟨"Error", [(.type "Exception")], [(.ref 31), (.type "Exception"), (.type "BaseException"), (.type "object")], 30, "Error", true, [], [], false, none, false⟩), #[(some (.ref 22)), none, (some (.str "Error" 196)), (some (.str "Error" 204)), (some (.builtin "Exception.__new__")), (some (.bool true))]⟩
noncomputable def o32 (P : Params) : Obj := ⟨(.type "getset_descriptor"), none, (.fields #[(.str "__weakref__" 209), (.ref 31), (.builtin "ExceptionGroup.__weakref__"), .none]), #[]⟩
noncomputable def o33 (P : Params) : Obj := ⟨(.type "super"), none, (.fields #[(.ref 31), (.ref 31), (.ref 31)]), #[]⟩
noncomputable def o34 (P : Params) : Obj := ⟨(.type "builtin_function_or_method"), none, (.fields #[(.builtin "object.__init_subclass__"), (.ref 31)]), #[]⟩
noncomputable def t2 (P : Params) : BT := (.node (boot_o_0 P) (.node (boot_o_1 P) (.node (o3v2 P) (.node (boot_o_7 P) (.node (o15 P) (.node (o31 P) .nil .nil) .nil) (.node (o23 P) .nil .nil)) (.node (o11 P) (.node (o19 P) .nil .nil) (.node (o27 P) .nil .nil))) (.node (boot_o_5 P) (.node (boot_o_9 P) (.node (o17 P) (.node (o33 P) .nil .nil) .nil) (.node (o25 P) .nil .nil)) (.node (o13 P) (.node (o21 P) .nil .nil) (.node (o29 P) .nil .nil)))) (.node (o2v2 P) (.node (boot_o_4 P) (.node (boot_o_8 P) (.node (o16 P) (.node (o32 P) .nil .nil) .nil) (.node (o24 P) .nil .nil)) (.node (o12v2 P) (.node (o20 P) .nil .nil) (.node (o28 P) .nil .nil))) (.node (boot_o_6 P) (.node (boot_o_10 P) (.node (o18 P) (.node (o34 P) .nil .nil) .nil) (.node (o26 P) .nil .nil)) (.node (o14 P) (.node (o22 P) .nil .nil) (.node (o30 P) .nil .nil)))))
noncomputable def o3v3 (P : Params) : Obj := ⟨(.type "dict"), none, (.dict #[⟨kh P "__name__", (.str "__name__" 165), (.str "cpy313.ftplib" 194)⟩, ⟨kh P "__doc__", (.str "__doc__" 166), .none⟩, ⟨kh P "__package__", (.str "__package__" 167), .none⟩, ⟨kh P "__loader__", (.str "__loader__" 168), (.builtin "__main__.__loader__#opaque")⟩, ⟨kh P "__spec__", (.str "__spec__" 169), .none⟩, ⟨kh P "__annotations__", (.str "__annotations__" 170), (.ref 6)⟩, ⟨kh P "__builtins__", (.str "__builtins__" 171), (.ref 4)⟩, ⟨kh P "__file__", (.str "__file__" 173), (.str "/claim/cut.py" 172)⟩, ⟨kh P "__cached__", (.str "__cached__" 174), .none⟩, ⟨kh P "_wall", (.str "_wall" 193), (.ref 21)⟩, ⟨kh P "Error", (.str "Error" 215), (.ref 31)⟩, ⟨kh P "error_reply", (.str "error_reply" 231), (.ref 44)⟩] 12), #[]⟩
noncomputable def o12v3 (P : Params) : Obj := ⟨.none, none, (.fields #[(.int 1 0), (.int 0 0), (.ref 20), (.int 5 0), (.int 0 0), (.ref 27), (.int 7 0), (.int 0 0), (.ref 40)]), #[]⟩
noncomputable def o31v3 (P : Params) : Obj := ⟨(.type "type"), none, (.cls ⟨"Error", [(.type "Exception")], [(.ref 31), (.type "Exception"), (.type "BaseException"), (.type "object")], 30, "Error", true, [], [(.ref 44)], false, none, false⟩), #[(some (.ref 22)), none, (some (.str "Error" 196)), (some (.str "Error" 204)), (some (.builtin "Exception.__new__")), (some (.bool true))]⟩
noncomputable def o35 (P : Params) : Obj := ⟨(.type "tuple"), none, (.seq #[(.ref 31)] 0), #[]⟩
noncomputable def o36 (P : Params) : Obj := ⟨(.type "builtin_function_or_method"), none, (.fields #[(.builtin "type.__prepare__"), (.type "type")]), #[]⟩
noncomputable def o37 (P : Params) : Obj := ⟨(.type "dict"), none, (.dict #[⟨kh P "__module__", (.str "__module__" 223), (.str "cpy313.ftplib" 194)⟩, ⟨kh P "__qualname__", (.str "__qualname__" 225), (.str "error_reply" 224)⟩, ⟨kh P "__firstlineno__", (.str "__firstlineno__" 227), (.int 7 226)⟩, ⟨kh P "__static_attributes__", (.str "__static_attributes__" 228), (.ref 42)⟩] 4), #[]⟩
noncomputable def o38 (P : Params) : Obj := ⟨(.type "tuple"), none, (.seq #[] 0), #[]⟩
noncomputable def o39 (P : Params) : Obj := ⟨.none, none, (.fields #[]), #[]⟩
noncomputable def o40 (P : Params) : Obj := ⟨(.type "code"), none, (.fields #[(.str "error_reply" 218), (.str "error_reply" 219), (.str "/claim/cut.py" 220), (.int 7 0), (.int 0 0), (.int 0 0), (.int 0 0), (.int 0 0), (.ref 38), (.bool false), (.int 181 0), (.ref 39), .none, .none, .none, .none, (.int 221 0), (.int 7 0), (.str "/claim/cut.py" 222)]), #[]⟩
noncomputable def o41 (P : Params) : Obj := ⟨(.type "frame"), none, .plain, #[(some (.ref 40)), (some (.ref 3)), (some (.ref 37)), none, (some (.str "cpy313.ftplib" 194)), none, (some (.ref 0))]⟩
noncomputable def o42 (P : Params) : Obj := ⟨(.type "tuple"), none, (.seq #[] 0), #[]⟩
noncomputable def o43 (P : Params) : Obj := ⟨(.type "dict"), none, (.dict #[⟨kh P "__module__", (.str "__module__" 223), (.str "cpy313.ftplib" 194)⟩, ⟨kh P "__firstlineno__", (.str "__firstlineno__" 227), (.int 7 226)⟩, ⟨kh P "__static_attributes__", (.str "__static_attributes__" 228), (.ref 42)⟩, ⟨kh P "__doc__", (.str "__doc__" 229), .none⟩] 2), #[]⟩
noncomputable def o44 (P : Params) : Obj := ⟨(.type "type"), none, (.cls ⟨"error_reply", [(.ref 31)], [(.ref 44), (.ref 31), (.type "Exception"), (.type "BaseException"), (.type "object")], 43, "error_reply", true, [], [], false, none, false⟩), #[(some (.ref 35)), none, (some (.str "error_reply" 216)), (some (.str "error_reply" 224)), (some (.builtin "Exception.__new__")), (some (.bool true))]⟩
noncomputable def o45 (P : Params) : Obj := ⟨(.type "super"), none, (.fields #[(.ref 44), (.ref 44), (.ref 44)]), #[]⟩
noncomputable def o46 (P : Params) : Obj := ⟨(.type "builtin_function_or_method"), none, (.fields #[(.builtin "object.__init_subclass__"), (.ref 44)]), #[]⟩
noncomputable def t3 (P : Params) : BT := (.node (boot_o_0 P) (.node (boot_o_1 P) (.node (o3v3 P) (.node (boot_o_7 P) (.node (o15 P) (.node (o31v3 P) .nil .nil) .nil) (.node (o23 P) (.node (o39 P) .nil .nil) .nil)) (.node (o11 P) (.node (o19 P) (.node (o35 P) .nil .nil) .nil) (.node (o27 P) (.node (o43 P) .nil .nil) .nil))) (.node (boot_o_5 P) (.node (boot_o_9 P) (.node (o17 P) (.node (o33 P) .nil .nil) .nil) (.node (o25 P) (.node (o41 P) .nil .nil) .nil)) (.node (o13 P) (.node (o21 P) (.node (o37 P) .nil .nil) .nil) (.node (o29 P) (.node (o45 P) .nil .nil) .nil)))) (.node (o2v2 P) (.node (boot_o_4 P) (.node (boot_o_8 P) (.node (o16 P) (.node (o32 P) .nil .nil) .nil) (.node (o24 P) (.node (o40 P) .nil .nil) .nil)) (.node (o12v3 P) (.node (o20 P) (.node (o36 P) .nil .nil) .nil) (.node (o28 P) (.node (o44 P) .nil .nil) .nil))) (.node (boot_o_6 P) (.node (boot_o_10 P) (.node (o18 P) (.node (o34 P) .nil .nil) .nil) (.node (o26 P) (.node (o42 P) .nil .nil) .nil)) (.node (o14 P) (.node (o22 P) (.node (o38 P) .nil .nil) .nil) (.node (o30 P) (.node (o46 P) .nil .nil) .nil)))))
noncomputable def o3v4 (P : Params) : Obj := ⟨(.type "dict"), none, (.dict #[⟨kh P "__name__", (.str "__name__" 165), (.str "cpy313.ftplib" 194)⟩, ⟨kh P "__doc__", (.str "__doc__" 166), .none⟩, ⟨kh P "__package__", (.str "__package__" 167), .none⟩, ⟨kh P "__loader__", (.str "__loader__" 168), (.builtin "__main__.__loader__#opaque")⟩, ⟨kh P "__spec__", (.str "__spec__" 169), .none⟩, ⟨kh P "__annotations__", (.str "__annotations__" 170), (.ref 6)⟩, ⟨kh P "__builtins__", (.str "__builtins__" 171), (.ref 4)⟩, ⟨kh P "__file__", (.str "__file__" 173), (.str "/claim/cut.py" 172)⟩, ⟨kh P "__cached__", (.str "__cached__" 174), .none⟩, ⟨kh P "_wall", (.str "_wall" 193), (.ref 21)⟩, ⟨kh P "Error", (.str "Error" 215), (.ref 31)⟩, ⟨kh P "error_reply", (.str "error_reply" 231), (.ref 44)⟩, ⟨kh P "parse257", (.str "parse257" 242), (.ref 53)⟩] 13), #[]⟩
noncomputable def o12v4 (P : Params) : Obj := ⟨.none, none, (.fields #[(.int 1 0), (.int 0 0), (.ref 20), (.int 5 0), (.int 0 0), (.ref 27), (.int 7 0), (.int 0 0), (.ref 40), (.int 9 0), (.int 0 0), (.ref 52)]), #[]⟩
noncomputable def o47 (P : Params) : Obj := ⟨(.type "tuple"), none, (.seq #[] 0), #[]⟩
noncomputable def o48 (P : Params) : Obj := ⟨.none, none, (.fields #[]), #[]⟩
noncomputable def o49 (P : Params) : Obj := ⟨(.type "tuple"), none, (.seq #[(.str "resp" 235), (.str "dirname" 236), (.str "i" 237), (.str "n" 238), (.str "c" 239)] 0), #[]⟩
noncomputable def o50 (P : Params) : Obj := ⟨(.type "tuple"), none, (.seq #[] 0), #[]⟩
noncomputable def o51 (P : Params) : Obj := ⟨.none, none, (.func ⟨"parse257", "parse257", fArgs (st 4), .stmts (fBody (st 4)), fScope (st 4), 0, [], .none, .none, .none, .none, none, .none, .none, 0⟩), #[]⟩
noncomputable def o52 (P : Params) : Obj := ⟨(.type "code"), none, (.fields #[(.str "parse257" 232), (.str "parse257" 233), (.str "/claim/cut.py" 234), (.int 9 0), (.int 1 0), (.int 0 0), (.int 0 0), (.int 3 0), (.ref 47), (.bool true), (.int 181 0), (.ref 48), .none, (.ref 49), (.ref 50), (.ref 51), (.int 240 0), (.int 9 0), (.str "/claim/cut.py" 241)]), #[]⟩
noncomputable def o53 (P : Params) : Obj := ⟨(.type "function"), none, (.func ⟨"parse257", "parse257", fArgs (st 4), .stmts (fBody (st 4)), fScope (st 4), 3, [], .none, .none, .none, (.str "cpy313.ftplib" 194), none, (.ref 52), .none, 0⟩), #[]⟩
noncomputable def t4 (P : Params) : BT := (.node (boot_o_0 P) (.node (boot_o_1 P) (.node (o3v4 P) (.node (boot_o_7 P) (.node (o15 P) (.node (o31v3 P) .nil .nil) (.node (o47 P) .nil .nil)) (.node (o23 P) (.node (o39 P) .nil .nil) .nil)) (.node (o11 P) (.node (o19 P) (.node (o35 P) .nil .nil) (.node (o51 P) .nil .nil)) (.node (o27 P) (.node (o43 P) .nil .nil) .nil))) (.node (boot_o_5 P) (.node (boot_o_9 P) (.node (o17 P) (.node (o33 P) .nil .nil) (.node (o49 P) .nil .nil)) (.node (o25 P) (.node (o41 P) .nil .nil) .nil)) (.node (o13 P) (.node (o21 P) (.node (o37 P) .nil .nil) (.node (o53 P) .nil .nil)) (.node (o29 P) (.node (o45 P) .nil .nil) .nil)))) (.node (o2v2 P) (.node (boot_o_4 P) (.node (boot_o_8 P) (.node (o16 P) (.node (o32 P) .nil .nil) (.node (o48 P) .nil .nil)) (.node (o24 P) (.node (o40 P) .nil .nil) .nil)) (.node (o12v4 P) (.node (o20 P) (.node (o36 P) .nil .nil) (.node (o52 P) .nil .nil)) (.node (o28 P) (.node (o44 P) .nil .nil) .nil))) (.node (boot_o_6 P) (.node (boot_o_10 P) (.node (o18 P) (.node (o34 P) .nil .nil) (.node (o50 P) .nil .nil)) (.node (o26 P) (.node (o42 P) .nil .nil) .nil)) (.node (o14 P) (.node (o22 P) (.node (o38 P) .nil .nil) .nil) (.node (o30 P) (.node (o46 P) .nil .nil) .nil)))))
noncomputable def o3v5 (P : Params) : Obj := ⟨(.type "dict"), none, (.dict #[⟨kh P "__name__", (.str "__name__" 165), (.str "cpy313.stringprep" 243)⟩, ⟨kh P "__doc__", (.str "__doc__" 166), .none⟩, ⟨kh P "__package__", (.str "__package__" 167), .none⟩, ⟨kh P "__loader__", (.str "__loader__" 168), (.builtin "__main__.__loader__#opaque")⟩, ⟨kh P "__spec__", (.str "__spec__" 169), .none⟩, ⟨kh P "__annotations__", (.str "__annotations__" 170), (.ref 6)⟩, ⟨kh P "__builtins__", (.str "__builtins__" 171), (.ref 4)⟩, ⟨kh P "__file__", (.str "__file__" 173), (.str "/claim/cut.py" 172)⟩, ⟨kh P "__cached__", (.str "__cached__" 174), .none⟩, ⟨kh P "_wall", (.str "_wall" 193), (.ref 21)⟩, ⟨kh P "Error", (.str "Error" 215), (.ref 31)⟩, ⟨kh P "error_reply", (.str "error_reply" 231), (.ref 44)⟩, ⟨kh P "parse257", (.str "parse257" 242), (.ref 53)⟩] 13), #[]⟩
noncomputable def t5 (P : Params) : BT := (.node (boot_o_0 P) (.node (boot_o_1 P) (.node (o3v5 P) (.node (boot_o_7 P) (.node (o15 P) (.node (o31v3 P) .nil .nil) (.node (o47 P) .nil .nil)) (.node (o23 P) (.node (o39 P) .nil .nil) .nil)) (.node (o11 P) (.node (o19 P) (.node (o35 P) .nil .nil) (.node (o51 P) .nil .nil)) (.node (o27 P) (.node (o43 P) .nil .nil) .nil))) (.node (boot_o_5 P) (.node (boot_o_9 P) (.node (o17 P) (.node (o33 P) .nil .nil) (.node (o49 P) .nil .nil)) (.node (o25 P) (.node (o41 P) .nil .nil) .nil)) (.node (o13 P) (.node (o21 P) (.node (o37 P) .nil .nil) (.node (o53 P) .nil .nil)) (.node (o29 P) (.node (o45 P) .nil .nil) .nil)))) (.node (o2v2 P) (.node (boot_o_4 P) (.node (boot_o_8 P) (.node (o16 P) (.node (o32 P) .nil .nil) (.node (o48 P) .nil .nil)) (.node (o24 P) (.node (o40 P) .nil .nil) .nil)) (.node (o12v4 P) (.node (o20 P) (.node (o36 P) .nil .nil) (.node (o52 P) .nil .nil)) (.node (o28 P) (.node (o44 P) .nil .nil) .nil))) (.node (boot_o_6 P) (.node (boot_o_10 P) (.node (o18 P) (.node (o34 P) .nil .nil) (.node (o50 P) .nil .nil)) (.node (o26 P) (.node (o42 P) .nil .nil) .nil)) (.node (o14 P) (.node (o22 P) (.node (o38 P) .nil .nil) .nil) (.node (o30 P) (.node (o46 P) .nil .nil) .nil)))))
noncomputable def o3v6 (P : Params) : Obj := ⟨(.type "dict"), none, (.dict #[⟨kh P "__name__", (.str "__name__" 165), (.str "cpy313.stringprep" 243)⟩, ⟨kh P "__doc__", (.str "__doc__" 166), .none⟩, ⟨kh P "__package__", (.str "__package__" 167), .none⟩, ⟨kh P "__loader__", (.str "__loader__" 168), (.builtin "__main__.__loader__#opaque")⟩, ⟨kh P "__spec__", (.str "__spec__" 169), .none⟩, ⟨kh P "__annotations__", (.str "__annotations__" 170), (.ref 6)⟩, ⟨kh P "__builtins__", (.str "__builtins__" 171), (.ref 4)⟩, ⟨kh P "__file__", (.str "__file__" 173), (.str "/claim/cut.py" 172)⟩, ⟨kh P "__cached__", (.str "__cached__" 174), .none⟩, ⟨kh P "_wall", (.str "_wall" 193), (.ref 21)⟩, ⟨kh P "Error", (.str "Error" 215), (.ref 31)⟩, ⟨kh P "error_reply", (.str "error_reply" 231), (.ref 44)⟩, ⟨kh P "parse257", (.str "parse257" 242), (.ref 53)⟩, ⟨kh P "b1_set", (.str "b1_set" 304), (.ref 61)⟩] 14), #[]⟩
noncomputable def o54 (P : Params) : Obj := ⟨(.type "list"), none, (.seq #[(.int 173 245), (.int 847 246), (.int 6150 247), (.int 6155 248), (.int 6156 249), (.int 6157 250), (.int 8203 251), (.int 8204 252), (.int 8205 253), (.int 8288 254), (.int 65279 255)] 0), #[]⟩
noncomputable def o55 (P : Params) : Obj := ⟨(.type "range"), none, (.fields #[(.int 65024 256), (.int 65040 257), (.int 1 258)]), #[]⟩
noncomputable def o56 (P : Params) : Obj := ⟨(.type "list"), none, (.seq #[(.int 65024 261), (.int 65025 262), (.int 65026 263), (.int 65027 264), (.int 65028 265), (.int 65029 266), (.int 65030 267), (.int 65031 268), (.int 65032 269), (.int 65033 270), (.int 65034 271), (.int 65035 272), (.int 65036 273), (.int 65037 274), (.int 65038 275), (.int 65039 276)] 18), #[]⟩
noncomputable def o57 (P : Params) : Obj := ⟨(.type "range_iterator"), none, (.fields #[(.int 65040 0), (.int 0 0), (.int 1 0)]), #[]⟩
noncomputable def o58 (P : Params) : Obj := ⟨(.type "tuple"), none, (.seq #[] 0), #[]⟩
noncomputable def o59 (P : Params) : Obj := ⟨(.type "StopIteration"), none, (.fields #[(.ref 58), .none, .none, .none, (.bool false), .none]), #[]⟩
noncomputable def o60 (P : Params) : Obj := ⟨(.type "list"), none, (.seq #[(.int 173 245), (.int 847 246), (.int 6150 247), (.int 6155 248), (.int 6156 249), (.int 6157 250), (.int 8203 251), (.int 8204 252), (.int 8205 253), (.int 8288 254), (.int 65279 255), (.int 65024 261), (.int 65025 262), (.int 65026 263), (.int 65027 264), (.int 65028 265), (.int 65029 266), (.int 65030 267), (.int 65031 268), (.int 65032 269), (.int 65033 270), (.int 65034 271), (.int 65035 272), (.int 65036 273), (.int 65037 274), (.int 65038 275), (.int 65039 276)] 0), #[]⟩
noncomputable def o61 (P : Params) : Obj := ⟨(.type "set"), none, (.set #[(65024, (.int 65024 261)), (65025, (.int 65025 262)), (65026, (.int 65026 263)), (65027, (.int 65027 264)), (65028, (.int 65028 265)), (65029, (.int 65029 266)), (6150, (.int 6150 247)), (65030, (.int 65030 267)), (65031, (.int 65031 268)), (65032, (.int 65032 269)), (65033, (.int 65033 270)), (6155, (.int 6155 248)), (6156, (.int 6156 249)), (6157, (.int 6157 250)), (8203, (.int 8203 251)), (8204, (.int 8204 252)), (8205, (.int 8205 253)), (65034, (.int 65034 271)), (65035, (.int 65035 272)), (65036, (.int 65036 273)), (65037, (.int 65037 274)), (65038, (.int 65038 275)), (65039, (.int 65039 276)), (173, (.int 173 245)), (847, (.int 847 246)), (8288, (.int 8288 254)), (65279, (.int 65279 255))] 29 { mask := 127, place := #[0, 1, 2, 3, 4, 5, 6, 7, 8, 9, 10, 11, 12, 13, 14, 15, 16, 17, 18, 19, 20, 21, 22, 45, 79, 96, 127], dummies := #[], finger := 0, led := !P.followText "set-order", moves := 2, plain := true }), #[]⟩
noncomputable def o62 (P : Params) : Obj := ⟨(.type "list_iterator"), none, (.fields #[.none, (.int 27 0)]), #[]⟩
noncomputable def o63 (P : Params) : Obj := ⟨(.type "tuple"), none, (.seq #[] 0), #[]⟩
noncomputable def o64 (P : Params) : Obj := ⟨(.type "StopIteration"), none, (.fields #[(.ref 63), .none, .none, .none, (.bool false), .none]), #[]⟩
noncomputable def t6 (P : Params) : BT := (.node (boot_o_0 P) (.node (boot_o_1 P) (.node (o3v6 P) (.node (boot_o_7 P) (.node (o15 P) (.node (o31v3 P) (.node (o63 P) .nil .nil) .nil) (.node (o47 P) .nil .nil)) (.node (o23 P) (.node (o39 P) .nil .nil) (.node (o55 P) .nil .nil))) (.node (o11 P) (.node (o19 P) (.node (o35 P) .nil .nil) (.node (o51 P) .nil .nil)) (.node (o27 P) (.node (o43 P) .nil .nil) (.node (o59 P) .nil .nil)))) (.node (boot_o_5 P) (.node (boot_o_9 P) (.node (o17 P) (.node (o33 P) .nil .nil) (.node (o49 P) .nil .nil)) (.node (o25 P) (.node (o41 P) .nil .nil) (.node (o57 P) .nil .nil))) (.node (o13 P) (.node (o21 P) (.node (o37 P) .nil .nil) (.node (o53 P) .nil .nil)) (.node (o29 P) (.node (o45 P) .nil .nil) (.node (o61 P) .nil .nil))))) (.node (o2v2 P) (.node (boot_o_4 P) (.node (boot_o_8 P) (.node (o16 P) (.node (o32 P) (.node (o64 P) .nil .nil) .nil) (.node (o48 P) .nil .nil)) (.node (o24 P) (.node (o40 P) .nil .nil) (.node (o56 P) .nil .nil))) (.node (o12v4 P) (.node (o20 P) (.node (o36 P) .nil .nil) (.node (o52 P) .nil .nil)) (.node (o28 P) (.node (o44 P) .nil .nil) (.node (o60 P) .nil .nil)))) (.node (boot_o_6 P) (.node (boot_o_10 P) (.node (o18 P) (.node (o34 P) .nil .nil) (.node (o50 P) .nil .nil)) (.node (o26 P) (.node (o42 P) .nil .nil) (.node (o58 P) .nil .nil))) (.node (o14 P) (.node (o22 P) (.node (o38 P) .nil .nil) (.node (o54 P) .nil .nil)) (.node (o30 P) (.node (o46 P) .nil .nil) (.node (o62 P) .nil .nil))))))
noncomputable def o3v7 (P : Params) : Obj := ⟨(.type "dict"), none, (.dict #[⟨kh P "__name__", (.str "__name__" 165), (.str "cpy313.stringprep" 243)⟩, ⟨kh P "__doc__", (.str "__doc__" 166), .none⟩, ⟨kh P "__package__", (.str "__package__" 167), .none⟩, ⟨kh P "__loader__", (.str "__loader__" 168), (.builtin "__main__.__loader__#opaque")⟩, ⟨kh P "__spec__", (.str "__spec__" 169), .none⟩, ⟨kh P "__annotations__", (.str "__annotations__" 170), (.ref 6)⟩, ⟨kh P "__builtins__", (.str "__builtins__" 171), (.ref 4)⟩, ⟨kh P "__file__", (.str "__file__" 173), (.str "/claim/cut.py" 172)⟩, ⟨kh P "__cached__", (.str "__cached__" 174), .none⟩, ⟨kh P "_wall", (.str "_wall" 193), (.ref 21)⟩, ⟨kh P "Error", (.str "Error" 215), (.ref 31)⟩, ⟨kh P "error_reply", (.str "error_reply" 231), (.ref 44)⟩, ⟨kh P "parse257", (.str "parse257" 242), (.ref 53)⟩, ⟨kh P "b1_set", (.str "b1_set" 304), (.ref 61)⟩, ⟨kh P "in_table_b1", (.str "in_table_b1" 311), (.ref 71)⟩] 15), #[]⟩
noncomputable def o12v7 (P : Params) : Obj := ⟨.none, none, (.fields #[(.int 1 0), (.int 0 0), (.ref 20), (.int 5 0), (.int 0 0), (.ref 27), (.int 7 0), (.int 0 0), (.ref 40), (.int 9 0), (.int 0 0), (.ref 52), (.int 28 0), (.int 0 0), (.ref 70)]), #[]⟩
noncomputable def o65 (P : Params) : Obj := ⟨(.type "tuple"), none, (.seq #[] 0), #[]⟩
noncomputable def o66 (P : Params) : Obj := ⟨.none, none, (.fields #[]), #[]⟩
noncomputable def o67 (P : Params) : Obj := ⟨(.type "tuple"), none, (.seq #[(.str "code" 308)] 0), #[]⟩
noncomputable def o68 (P : Params) : Obj := ⟨(.type "tuple"), none, (.seq #[] 0), #[]⟩
noncomputable def o69 (P : Params) : Obj := ⟨.none, none, (.func ⟨"in_table_b1", "in_table_b1", fArgs (st 7), .stmts (fBody (st 7)), fScope (st 7), 0, [], .none, .none, .none, .none, none, .none, .none, 0⟩), #[]⟩
noncomputable def o70 (P : Params) : Obj := ⟨(.type "code"), none, (.fields #[(.str "in_table_b1" 305), (.str "in_table_b1" 306), (.str "/claim/cut.py" 307), (.int 28 0), (.int 1 0), (.int 0 0), (.int 0 0), (.int 3 0), (.ref 65), (.bool true), (.int 181 0), (.ref 66), .none, (.ref 67), (.ref 68), (.ref 69), (.int 309 0), (.int 28 0), (.str "/claim/cut.py" 310)]), #[]⟩
noncomputable def o71 (P : Params) : Obj := ⟨(.type "function"), none, (.func ⟨"in_table_b1", "in_table_b1", fArgs (st 7), .stmts (fBody (st 7)), fScope (st 7), 3, [], .none, .none, .none, (.str "cpy313.stringprep" 243), none, (.ref 70), .none, 0⟩), #[]⟩
noncomputable def t7 (P : Params) : BT := (.node (boot_o_0 P) (.node (boot_o_1 P) (.node (o3v7 P) (.node (boot_o_7 P) (.node (o15 P) (.node (o31v3 P) (.node (o63 P) .nil .nil) .nil) (.node (o47 P) .nil .nil)) (.node (o23 P) (.node (o39 P) (.node (o71 P) .nil .nil) .nil) (.node (o55 P) .nil .nil))) (.node (o11 P) (.node (o19 P) (.node (o35 P) (.node (o67 P) .nil .nil) .nil) (.node (o51 P) .nil .nil)) (.node (o27 P) (.node (o43 P) .nil .nil) (.node (o59 P) .nil .nil)))) (.node (boot_o_5 P) (.node (boot_o_9 P) (.node (o17 P) (.node (o33 P) (.node (o65 P) .nil .nil) .nil) (.node (o49 P) .nil .nil)) (.node (o25 P) (.node (o41 P) .nil .nil) (.node (o57 P) .nil .nil))) (.node (o13 P) (.node (o21 P) (.node (o37 P) (.node (o69 P) .nil .nil) .nil) (.node (o53 P) .nil .nil)) (.node (o29 P) (.node (o45 P) .nil .nil) (.node (o61 P) .nil .nil))))) (.node (o2v2 P) (.node (boot_o_4 P) (.node (boot_o_8 P) (.node (o16 P) (.node (o32 P) (.node (o64 P) .nil .nil) .nil) (.node (o48 P) .nil .nil)) (.node (o24 P) (.node (o40 P) .nil .nil) (.node (o56 P) .nil .nil))) (.node (o12v7 P) (.node (o20 P) (.node (o36 P) (.node (o68 P) .nil .nil) .nil) (.node (o52 P) .nil .nil)) (.node (o28 P) (.node (o44 P) .nil .nil) (.node (o60 P) .nil .nil)))) (.node (boot_o_6 P) (.node (boot_o_10 P) (.node (o18 P) (.node (o34 P) (.node (o66 P) .nil .nil) .nil) (.node (o50 P) .nil .nil)) (.node (o26 P) (.node (o42 P) .nil .nil) (.node (o58 P) .nil .nil))) (.node (o14 P) (.node (o22 P) (.node (o38 P) (.node (o70 P) .nil .nil) .nil) (.node (o54 P) .nil .nil)) (.node (o30 P) (.node (o46 P) .nil .nil) (.node (o62 P) .nil .nil))))))
noncomputable def o3v8 (P : Params) : Obj := ⟨(.type "dict"), none, (.dict #[⟨kh P "__name__", (.str "__name__" 165), (.str "cpy313.stringprep" 243)⟩, ⟨kh P "__doc__", (.str "__doc__" 166), .none⟩, ⟨kh P "__package__", (.str "__package__" 167), .none⟩, ⟨kh P "__loader__", (.str "__loader__" 168), (.builtin "__main__.__loader__#opaque")⟩, ⟨kh P "__spec__", (.str "__spec__" 169), .none⟩, ⟨kh P "__annotations__", (.str "__annotations__" 170), (.ref 6)⟩, ⟨kh P "__builtins__", (.str "__builtins__" 171), (.ref 4)⟩, ⟨kh P "__file__", (.str "__file__" 173), (.str "/claim/cut.py" 172)⟩, ⟨kh P "__cached__", (.str "__cached__" 174), .none⟩, ⟨kh P "_wall", (.str "_wall" 193), (.ref 21)⟩, ⟨kh P "Error", (.str "Error" 215), (.ref 31)⟩, ⟨kh P "error_reply", (.str "error_reply" 231), (.ref 44)⟩, ⟨kh P "parse257", (.str "parse257" 242), (.ref 53)⟩, ⟨kh P "b1_set", (.str "b1_set" 304), (.ref 61)⟩, ⟨kh P "in_table_b1", (.str "in_table_b1" 311), (.ref 71)⟩, ⟨kh P "b3_exceptions", (.str "b3_exceptions" 2262), (.ref 72)⟩] 16), #[]⟩
noncomputable def o72 (P : Params) : Obj := b3Main
noncomputable def o73 (P : Params) : Obj := subAt 0
noncomputable def o74 (P : Params) : Obj := subAt 1
noncomputable def o75 (P : Params) : Obj := subAt 2
noncomputable def o76 (P : Params) : Obj := subAt 3
noncomputable def o77 (P : Params) : Obj := subAt 4
noncomputable def o78 (P : Params) : Obj := subAt 5
noncomputable def o79 (P : Params) : Obj := subAt 6
noncomputable def o80 (P : Params) : Obj := subAt 7
noncomputable def o81 (P : Params) : Obj := subAt 8
noncomputable def o82 (P : Params) : Obj := subAt 9
noncomputable def o83 (P : Params) : Obj := subAt 10
noncomputable def o84 (P : Params) : Obj := subAt 11
noncomputable def o85 (P : Params) : Obj := subAt 12
noncomputable def o86 (P : Params) : Obj := subAt 13
noncomputable def o87 (P : Params) : Obj := subAt 14
noncomputable def o88 (P : Params) : Obj := subAt 15
noncomputable def o89 (P : Params) : Obj := subAt 16
noncomputable def o90 (P : Params) : Obj := subAt 17
noncomputable def o91 (P : Params) : Obj := subAt 18
noncomputable def o92 (P : Params) : Obj := subAt 19
noncomputable def o93 (P : Params) : Obj := subAt 20
noncomputable def o94 (P : Params) : Obj := subAt 21
noncomputable def o95 (P : Params) : Obj := subAt 22
noncomputable def o96 (P : Params) : Obj := subAt 23
noncomputable def o97 (P : Params) : Obj := subAt 24
noncomputable def o98 (P : Params) : Obj := subAt 25
noncomputable def o99 (P : Params) : Obj := subAt 26
noncomputable def o100 (P : Params) : Obj := subAt 27
noncomputable def o101 (P : Params) : Obj := subAt 28
noncomputable def o102 (P : Params) : Obj := subAt 29
noncomputable def o103 (P : Params) : Obj := subAt 30
noncomputable def o104 (P : Params) : Obj := subAt 31
noncomputable def o105 (P : Params) : Obj := subAt 32
noncomputable def o106 (P : Params) : Obj := subAt 33
noncomputable def o107 (P : Params) : Obj := subAt 34
noncomputable def o108 (P : Params) : Obj := subAt 35
noncomputable def o109 (P : Params) : Obj := subAt 36
noncomputable def o110 (P : Params) : Obj := subAt 37
noncomputable def t8 (P : Params) : BT := (.node (boot_o_0 P) (.node (boot_o_1 P) (.node (o3v8 P) (.node (boot_o_7 P) (.node (o15 P) (.node (o31v3 P) (.node (o63 P) .nil .nil) (.node (o95 P) .nil .nil)) (.node (o47 P) (.node (o79 P) .nil .nil) .nil)) (.node (o23 P) (.node (o39 P) (.node (o71 P) .nil .nil) (.node (o103 P) .nil .nil)) (.node (o55 P) (.node (o87 P) .nil .nil) .nil))) (.node (o11 P) (.node (o19 P) (.node (o35 P) (.node (o67 P) .nil .nil) (.node (o99 P) .nil .nil)) (.node (o51 P) (.node (o83 P) .nil .nil) .nil)) (.node (o27 P) (.node (o43 P) (.node (o75 P) .nil .nil) (.node (o107 P) .nil .nil)) (.node (o59 P) (.node (o91 P) .nil .nil) .nil)))) (.node (boot_o_5 P) (.node (boot_o_9 P) (.node (o17 P) (.node (o33 P) (.node (o65 P) .nil .nil) (.node (o97 P) .nil .nil)) (.node (o49 P) (.node (o81 P) .nil .nil) .nil)) (.node (o25 P) (.node (o41 P) (.node (o73 P) .nil .nil) (.node (o105 P) .nil .nil)) (.node (o57 P) (.node (o89 P) .nil .nil) .nil))) (.node (o13 P) (.node (o21 P) (.node (o37 P) (.node (o69 P) .nil .nil) (.node (o101 P) .nil .nil)) (.node (o53 P) (.node (o85 P) .nil .nil) .nil)) (.node (o29 P) (.node (o45 P) (.node (o77 P) .nil .nil) (.node (o109 P) .nil .nil)) (.node (o61 P) (.node (o93 P) .nil .nil) .nil))))) (.node (o2v2 P) (.node (boot_o_4 P) (.node (boot_o_8 P) (.node (o16 P) (.node (o32 P) (.node (o64 P) .nil .nil) (.node (o96 P) .nil .nil)) (.node (o48 P) (.node (o80 P) .nil .nil) .nil)) (.node (o24 P) (.node (o40 P) (.node (o72 P) .nil .nil) (.node (o104 P) .nil .nil)) (.node (o56 P) (.node (o88 P) .nil .nil) .nil))) (.node (o12v7 P) (.node (o20 P) (.node (o36 P) (.node (o68 P) .nil .nil) (.node (o100 P) .nil .nil)) (.node (o52 P) (.node (o84 P) .nil .nil) .nil)) (.node (o28 P) (.node (o44 P) (.node (o76 P) .nil .nil) (.node (o108 P) .nil .nil)) (.node (o60 P) (.node (o92 P) .nil .nil) .nil)))) (.node (boot_o_6 P) (.node (boot_o_10 P) (.node (o18 P) (.node (o34 P) (.node (o66 P) .nil .nil) (.node (o98 P) .nil .nil)) (.node (o50 P) (.node (o82 P) .nil .nil) .nil)) (.node (o26 P) (.node (o42 P) (.node (o74 P) .nil .nil) (.node (o106 P) .nil .nil)) (.node (o58 P) (.node (o90 P) .nil .nil) .nil))) (.node (o14 P) (.node (o22 P) (.node (o38 P) (.node (o70 P) .nil .nil) (.node (o102 P) .nil .nil)) (.node (o54 P) (.node (o86 P) .nil .nil) .nil)) (.node (o30 P) (.node (o46 P) (.node (o78 P) .nil .nil) (.node (o110 P) .nil .nil)) (.node (o62 P) (.node (o94 P) .nil .nil) .nil))))))
noncomputable def o3v9 (P : Params) : Obj := ⟨(.type "dict"), none, (.dict #[⟨kh P "__name__", (.str "__name__" 165), (.str "cpy313.stringprep" 243)⟩, ⟨kh P "__doc__", (.str "__doc__" 166), .none⟩, ⟨kh P "__package__", (.str "__package__" 167), .none⟩, ⟨kh P "__loader__", (.str "__loader__" 168), (.builtin "__main__.__loader__#opaque")⟩, ⟨kh P "__spec__", (.str "__spec__" 169), .none⟩, ⟨kh P "__annotations__", (.str "__annotations__" 170), (.ref 6)⟩, ⟨kh P "__builtins__", (.str "__builtins__" 171), (.ref 4)⟩, ⟨kh P "__file__", (.str "__file__" 173), (.str "/claim/cut.py" 172)⟩, ⟨kh P "__cached__", (.str "__cached__" 174), .none⟩, ⟨kh P "_wall", (.str "_wall" 193), (.ref 21)⟩, ⟨kh P "Error", (.str "Error" 215), (.ref 31)⟩, ⟨kh P "error_reply", (.str "error_reply" 231), (.ref 44)⟩, ⟨kh P "parse257", (.str "parse257" 242), (.ref 53)⟩, ⟨kh P "b1_set", (.str "b1_set" 304), (.ref 61)⟩, ⟨kh P "in_table_b1", (.str "in_table_b1" 311), (.ref 71)⟩, ⟨kh P "b3_exceptions", (.str "b3_exceptions" 2262), (.ref 72)⟩, ⟨kh P "map_table_b3", (.str "map_table_b3" 2270), (.ref 117)⟩] 17), #[]⟩
noncomputable def o12v9 (P : Params) : Obj := ⟨.none, none, (.fields #[(.int 1 0), (.int 0 0), (.ref 20), (.int 5 0), (.int 0 0), (.ref 27), (.int 7 0), (.int 0 0), (.ref 40), (.int 9 0), (.int 0 0), (.ref 52), (.int 28 0), (.int 0 0), (.ref 70), (.int 31 0), (.int 0 0), (.ref 116)]), #[]⟩
noncomputable def o111 (P : Params) : Obj := ⟨(.type "tuple"), none, (.seq #[] 0), #[]⟩
noncomputable def o112 (P : Params) : Obj := ⟨.none, none, (.fields #[]), #[]⟩
noncomputable def o113 (P : Params) : Obj := ⟨(.type "tuple"), none, (.seq #[(.str "code" 2266), (.str "r" 2267)] 0), #[]⟩
noncomputable def o114 (P : Params) : Obj := ⟨(.type "tuple"), none, (.seq #[] 0), #[]⟩
noncomputable def o115 (P : Params) : Obj := ⟨.none, none, (.func ⟨"map_table_b3", "map_table_b3", fArgs (st 9), .stmts (fBody (st 9)), fScope (st 9), 0, [], .none, .none, .none, .none, none, .none, .none, 0⟩), #[]⟩
noncomputable def o116 (P : Params) : Obj := ⟨(.type "code"), none, (.fields #[(.str "map_table_b3" 2263), (.str "map_table_b3" 2264), (.str "/claim/cut.py" 2265), (.int 31 0), (.int 1 0), (.int 0 0), (.int 0 0), (.int 3 0), (.ref 111), (.bool true), (.int 181 0), (.ref 112), .none, (.ref 113), (.ref 114), (.ref 115), (.int 2268 0), (.int 31 0), (.str "/claim/cut.py" 2269)]), #[]⟩
noncomputable def o117 (P : Params) : Obj := ⟨(.type "function"), none, (.func ⟨"map_table_b3", "map_table_b3", fArgs (st 9), .stmts (fBody (st 9)), fScope (st 9), 3, [], .none, .none, .none, (.str "cpy313.stringprep" 243), none, (.ref 116), .none, 0⟩), #[]⟩
noncomputable def t9 (P : Params) : BT := (.node (boot_o_0 P) (.node (boot_o_1 P) (.node (o3v9 P) (.node (boot_o_7 P) (.node (o15 P) (.node (o31v3 P) (.node (o63 P) .nil .nil) (.node (o95 P) .nil .nil)) (.node (o47 P) (.node (o79 P) .nil .nil) (.node (o111 P) .nil .nil))) (.node (o23 P) (.node (o39 P) (.node (o71 P) .nil .nil) (.node (o103 P) .nil .nil)) (.node (o55 P) (.node (o87 P) .nil .nil) .nil))) (.node (o11 P) (.node (o19 P) (.node (o35 P) (.node (o67 P) .nil .nil) (.node (o99 P) .nil .nil)) (.node (o51 P) (.node (o83 P) .nil .nil) (.node (o115 P) .nil .nil))) (.node (o27 P) (.node (o43 P) (.node (o75 P) .nil .nil) (.node (o107 P) .nil .nil)) (.node (o59 P) (.node (o91 P) .nil .nil) .nil)))) (.node (boot_o_5 P) (.node (boot_o_9 P) (.node (o17 P) (.node (o33 P) (.node (o65 P) .nil .nil) (.node (o97 P) .nil .nil)) (.node (o49 P) (.node (o81 P) .nil .nil) (.node (o113 P) .nil .nil))) (.node (o25 P) (.node (o41 P) (.node (o73 P) .nil .nil) (.node (o105 P) .nil .nil)) (.node (o57 P) (.node (o89 P) .nil .nil) .nil))) (.node (o13 P) (.node (o21 P) (.node (o37 P) (.node (o69 P) .nil .nil) (.node (o101 P) .nil .nil)) (.node (o53 P) (.node (o85 P) .nil .nil) (.node (o117 P) .nil .nil))) (.node (o29 P) (.node (o45 P) (.node (o77 P) .nil .nil) (.node (o109 P) .nil .nil)) (.node (o61 P) (.node (o93 P) .nil .nil) .nil))))) (.node (o2v2 P) (.node (boot_o_4 P) (.node (boot_o_8 P) (.node (o16 P) (.node (o32 P) (.node (o64 P) .nil .nil) (.node (o96 P) .nil .nil)) (.node (o48 P) (.node (o80 P) .nil .nil) (.node (o112 P) .nil .nil))) (.node (o24 P) (.node (o40 P) (.node (o72 P) .nil .nil) (.node (o104 P) .nil .nil)) (.node (o56 P) (.node (o88 P) .nil .nil) .nil))) (.node (o12v9 P) (.node (o20 P) (.node (o36 P) (.node (o68 P) .nil .nil) (.node (o100 P) .nil .nil)) (.node (o52 P) (.node (o84 P) .nil .nil) (.node (o116 P) .nil .nil))) (.node (o28 P) (.node (o44 P) (.node (o76 P) .nil .nil) (.node (o108 P) .nil .nil)) (.node (o60 P) (.node (o92 P) .nil .nil) .nil)))) (.node (boot_o_6 P) (.node (boot_o_10 P) (.node (o18 P) (.node (o34 P) (.node (o66 P) .nil .nil) (.node (o98 P) .nil .nil)) (.node (o50 P) (.node (o82 P) .nil .nil) (.node (o114 P) .nil .nil))) (.node (o26 P) (.node (o42 P) (.node (o74 P) .nil .nil) (.node (o106 P) .nil .nil)) (.node (o58 P) (.node (o90 P) .nil .nil) .nil))) (.node (o14 P) (.node (o22 P) (.node (o38 P) (.node (o70 P) .nil .nil) (.node (o102 P) .nil .nil)) (.node (o54 P) (.node (o86 P) .nil .nil) .nil)) (.node (o30 P) (.node (o46 P) (.node (o78 P) .nil .nil) (.node (o110 P) .nil .nil)) (.node (o62 P) (.node (o94 P) .nil .nil) .nil))))))
noncomputable def o3v10 (P : Params) : Obj := ⟨(.type "dict"), none, (.dict #[⟨kh P "__name__", (.str "__name__" 165), (.str "cpy313.tabnanny" 2271)⟩, ⟨kh P "__doc__", (.str "__doc__" 166), .none⟩, ⟨kh P "__package__", (.str "__package__" 167), .none⟩, ⟨kh P "__loader__", (.str "__loader__" 168), (.builtin "__main__.__loader__#opaque")⟩, ⟨kh P "__spec__", (.str "__spec__" 169), .none⟩, ⟨kh P "__annotations__", (.str "__annotations__" 170), (.ref 6)⟩, ⟨kh P "__builtins__", (.str "__builtins__" 171), (.ref 4)⟩, ⟨kh P "__file__", (.str "__file__" 173), (.str "/claim/cut.py" 172)⟩, ⟨kh P "__cached__", (.str "__cached__" 174), .none⟩, ⟨kh P "_wall", (.str "_wall" 193), (.ref 21)⟩, ⟨kh P "Error", (.str "Error" 215), (.ref 31)⟩, ⟨kh P "error_reply", (.str "error_reply" 231), (.ref 44)⟩, ⟨kh P "parse257", (.str "parse257" 242), (.ref 53)⟩, ⟨kh P "b1_set", (.str "b1_set" 304), (.ref 61)⟩, ⟨kh P "in_table_b1", (.str "in_table_b1" 311), (.ref 71)⟩, ⟨kh P "b3_exceptions", (.str "b3_exceptions" 2262), (.ref 72)⟩, ⟨kh P "map_table_b3", (.str "map_table_b3" 2270), (.ref 117)⟩] 17), #[]⟩
noncomputable def t10 (P : Params) : BT := (.node (boot_o_0 P) (.node (boot_o_1 P) (.node (o3v10 P) (.node (boot_o_7 P) (.node (o15 P) (.node (o31v3 P) (.node (o63 P) .nil .nil) (.node (o95 P) .nil .nil)) (.node (o47 P) (.node (o79 P) .nil .nil) (.node (o111 P) .nil .nil))) (.node (o23 P) (.node (o39 P) (.node (o71 P) .nil .nil) (.node (o103 P) .nil .nil)) (.node (o55 P) (.node (o87 P) .nil .nil) .nil))) (.node (o11 P) (.node (o19 P) (.node (o35 P) (.node (o67 P) .nil .nil) (.node (o99 P) .nil .nil)) (.node (o51 P) (.node (o83 P) .nil .nil) (.node (o115 P) .nil .nil))) (.node (o27 P) (.node (o43 P) (.node (o75 P) .nil .nil) (.node (o107 P) .nil .nil)) (.node (o59 P) (.node (o91 P) .nil .nil) .nil)))) (.node (boot_o_5 P) (.node (boot_o_9 P) (.node (o17 P) (.node (o33 P) (.node (o65 P) .nil .nil) (.node (o97 P) .nil .nil)) (.node (o49 P) (.node (o81 P) .nil .nil) (.node (o113 P) .nil .nil))) (.node (o25 P) (.node (o41 P) (.node (o73 P) .nil .nil) (.node (o105 P) .nil .nil)) (.node (o57 P) (.node (o89 P) .nil .nil) .nil))) (.node (o13 P) (.node (o21 P) (.node (o37 P) (.node (o69 P) .nil .nil) (.node (o101 P) .nil .nil)) (.node (o53 P) (.node (o85 P) .nil .nil) (.node (o117 P) .nil .nil))) (.node (o29 P) (.node (o45 P) (.node (o77 P) .nil .nil) (.node (o109 P) .nil .nil)) (.node (o61 P) (.node (o93 P) .nil .nil) .nil))))) (.node (o2v2 P) (.node (boot_o_4 P) (.node (boot_o_8 P) (.node (o16 P) (.node (o32 P) (.node (o64 P) .nil .nil) (.node (o96 P) .nil .nil)) (.node (o48 P) (.node (o80 P) .nil .nil) (.node (o112 P) .nil .nil))) (.node (o24 P) (.node (o40 P) (.node (o72 P) .nil .nil) (.node (o104 P) .nil .nil)) (.node (o56 P) (.node (o88 P) .nil .nil) .nil))) (.node (o12v9 P) (.node (o20 P) (.node (o36 P) (.node (o68 P) .nil .nil) (.node (o100 P) .nil .nil)) (.node (o52 P) (.node (o84 P) .nil .nil) (.node (o116 P) .nil .nil))) (.node (o28 P) (.node (o44 P) (.node (o76 P) .nil .nil) (.node (o108 P) .nil .nil)) (.node (o60 P) (.node (o92 P) .nil .nil) .nil)))) (.node (boot_o_6 P) (.node (boot_o_10 P) (.node (o18 P) (.node (o34 P) (.node (o66 P) .nil .nil) (.node (o98 P) .nil .nil)) (.node (o50 P) (.node (o82 P) .nil .nil) (.node (o114 P) .nil .nil))) (.node (o26 P) (.node (o42 P) (.node (o74 P) .nil .nil) (.node (o106 P) .nil .nil)) (.node (o58 P) (.node (o90 P) .nil .nil) .nil))) (.node (o14 P) (.node (o22 P) (.node (o38 P) (.node (o70 P) .nil .nil) (.node (o102 P) .nil .nil)) (.node (o54 P) (.node (o86 P) .nil .nil) .nil)) (.node (o30 P) (.node (o46 P) (.node (o78 P) .nil .nil) (.node (o110 P) .nil .nil)) (.node (o62 P) (.node (o94 P) .nil .nil) .nil))))))
noncomputable def o3v11 (P : Params) : Obj := ⟨(.type "dict"), none, (.dict #[⟨kh P "__name__", (.str "__name__" 165), (.str "cpy313.tabnanny" 2271)⟩, ⟨kh P "__doc__", (.str "__doc__" 166), .none⟩, ⟨kh P "__package__", (.str "__package__" 167), .none⟩, ⟨kh P "__loader__", (.str "__loader__" 168), (.builtin "__main__.__loader__#opaque")⟩, ⟨kh P "__spec__", (.str "__spec__" 169), .none⟩, ⟨kh P "__annotations__", (.str "__annotations__" 170), (.ref 6)⟩, ⟨kh P "__builtins__", (.str "__builtins__" 171), (.ref 4)⟩, ⟨kh P "__file__", (.str "__file__" 173), (.str "/claim/cut.py" 172)⟩, ⟨kh P "__cached__", (.str "__cached__" 174), .none⟩, ⟨kh P "_wall", (.str "_wall" 193), (.ref 21)⟩, ⟨kh P "Error", (.str "Error" 215), (.ref 31)⟩, ⟨kh P "error_reply", (.str "error_reply" 231), (.ref 44)⟩, ⟨kh P "parse257", (.str "parse257" 242), (.ref 53)⟩, ⟨kh P "b1_set", (.str "b1_set" 304), (.ref 61)⟩, ⟨kh P "in_table_b1", (.str "in_table_b1" 311), (.ref 71)⟩, ⟨kh P "b3_exceptions", (.str "b3_exceptions" 2262), (.ref 72)⟩, ⟨kh P "map_table_b3", (.str "map_table_b3" 2270), (.ref 117)⟩, ⟨kh P "Whitespace", (.str "Whitespace" 2368), (.ref 179)⟩] 18), #[]⟩
noncomputable def o12v11 (P : Params) : Obj := ⟨.none, none, (.fields #[(.int 1 0), (.int 0 0), (.ref 20), (.int 5 0), (.int 0 0), (.ref 27), (.int 7 0), (.int 0 0), (.ref 40), (.int 9 0), (.int 0 0), (.ref 52), (.int 28 0), (.int 0 0), (.ref 70), (.int 31 0), (.int 0 0), (.ref 116), (.int 37 0), (.int 0 0), (.ref 123)]), #[]⟩
noncomputable def o118 (P : Params) : Obj := ⟨(.type "tuple"), none, (.seq #[] 0), #[]⟩
noncomputable def o119 (P : Params) : Obj := ⟨(.type "builtin_function_or_method"), none, (.fields #[(.builtin "type.__prepare__"), (.type "type")]), #[]⟩
noncomputable def o120 (P : Params) : Obj := ⟨(.type "dict"), none, (.dict #[⟨kh P "__module__", (.str "__module__" 2280), (.str "cpy313.tabnanny" 2271)⟩, ⟨kh P "__qualname__", (.str "__qualname__" 2282), (.str "Whitespace" 2281)⟩, ⟨kh P "__firstlineno__", (.str "__firstlineno__" 2284), (.int 37 2283)⟩, ⟨kh P "S", (.str "S" 2288), (.str " " 2286)⟩, ⟨kh P "T", (.str "T" 2289), (.str "\t" 2287)⟩, ⟨kh P "__init__", (.str "__init__" 2304), (.ref 134)⟩, ⟨kh P "longest_run_of_spaces", (.str "longest_run_of_spaces" 2311), (.ref 141)⟩, ⟨kh P "indent_level", (.str "indent_level" 2323), (.ref 148)⟩, ⟨kh P "equal", (.str "equal" 2331), (.ref 155)⟩, ⟨kh P "not_equal_witness", (.str "not_equal_witness" 2339), (.ref 162)⟩, ⟨kh P "less", (.str "less" 2347), (.ref 169)⟩, ⟨kh P "not_less_witness", (.str "not_less_witness" 2355), (.ref 176)⟩, ⟨kh P "__static_attributes__", (.str "__static_attributes__" 2361), (.ref 177)⟩] 13), #[]⟩
noncomputable def o121 (P : Params) : Obj := ⟨(.type "tuple"), none, (.seq #[] 0), #[]⟩
noncomputable def o122 (P : Params) : Obj := ⟨.none, none, (.fields #[(.int 40 0), (.int 4 0), (.ref 133), (.int 63 0), (.int 4 0), (.ref 140), (.int 66 0), (.int 4 0), (.ref 147), (.int 73 0), (.int 4 0), (.ref 154), (.int 76 0), (.int 4 0), (.ref 161), (.int 79 0), (.int 4 0), (.ref 168), (.int 82 0), (.int 4 0), (.ref 175)]), #[]⟩
noncomputable def o123 (P : Params) : Obj := ⟨(.type "code"), none, (.fields #[(.str "Whitespace" 2275), (.str "Whitespace" 2276), (.str "/claim/cut.py" 2277), (.int 37 0), (.int 0 0), (.int 0 0), (.int 0 0), (.int 0 0), (.ref 121), (.bool false), (.int 181 0), (.ref 122), .none, .none, .none, .none, (.int 2278 0), (.int 37 0), (.str "/claim/cut.py" 2279)]), #[]⟩
noncomputable def o124 (P : Params) : Obj := ⟨(.type "frame"), none, .plain, #[(some (.ref 123)), (some (.ref 3)), (some (.ref 120)), none, (some (.str "cpy313.tabnanny" 2271)), none, (some (.ref 0))]⟩
noncomputable def o125 (P : Params) : Obj := ⟨(.type "str_ascii_iterator"), none, (.fields #[.none, (.int 2 0)]), #[]⟩
noncomputable def o126 (P : Params) : Obj := ⟨(.type "tuple"), none, (.seq #[] 0), #[]⟩
noncomputable def o127 (P : Params) : Obj := ⟨(.type "StopIteration"), none, (.fields #[(.ref 126), .none, .none, .none, (.bool false), .none]), #[]⟩
noncomputable def o128 (P : Params) : Obj := ⟨(.type "tuple"), none, (.seq #[] 0), #[]⟩
noncomputable def o129 (P : Params) : Obj := ⟨.none, none, (.fields #[]), #[]⟩
noncomputable def o130 (P : Params) : Obj := ⟨(.type "tuple"), none, (.seq #[(.str "self" 2293), (.str "ws" 2294), (.str "S" 2295), (.str "T" 2296), (.str "count" 2297), (.str "b" 2298), (.str "n" 2299), (.str "nt" 2300), (.str "ch" 2301)] 0), #[]⟩
noncomputable def o131 (P : Params) : Obj := ⟨(.type "tuple"), none, (.seq #[] 0), #[]⟩
noncomputable def o132 (P : Params) : Obj := ⟨.none, none, (.func ⟨"__init__", "Whitespace.__init__", fArgs (sub (st 11) 1), .stmts (fBody (sub (st 11) 1)), fScope (sub (st 11) 1), 0, [], .none, .none, .none, .none, none, .none, .none, 0⟩), #[]⟩
noncomputable def o133 (P : Params) : Obj := ⟨(.type "code"), none, (.fields #[(.str "__init__" 2290), (.str "Whitespace.__init__" 2291), (.str "/claim/cut.py" 2292), (.int 40 0), (.int 2 0), (.int 0 0), (.int 0 0), (.int 3 0), (.ref 128), (.bool true), (.int 181 0), (.ref 129), .none, (.ref 130), (.ref 131), (.ref 132), (.int 2302 0), (.int 40 0), (.str "/claim/cut.py" 2303)]), #[]⟩
noncomputable def o134 (P : Params) : Obj := ⟨(.type "function"), none, (.func ⟨"__init__", "Whitespace.__init__", fArgs (sub (st 11) 1), .stmts (fBody (sub (st 11) 1)), fScope (sub (st 11) 1), 3, [], .none, .none, .none, (.str "cpy313.tabnanny" 2271), none, (.ref 133), .none, 0⟩), #[]⟩
noncomputable def o135 (P : Params) : Obj := ⟨(.type "tuple"), none, (.seq #[] 0), #[]⟩
noncomputable def o136 (P : Params) : Obj := ⟨.none, none, (.fields #[]), #[]⟩
noncomputable def o137 (P : Params) : Obj := ⟨(.type "tuple"), none, (.seq #[(.str "self" 2308)] 0), #[]⟩
noncomputable def o138 (P : Params) : Obj := ⟨(.type "tuple"), none, (.seq #[] 0), #[]⟩
noncomputable def o139 (P : Params) : Obj := ⟨.none, none, (.func ⟨"longest_run_of_spaces", "Whitespace.longest_run_of_spaces", fArgs (sub (st 11) 2), .stmts (fBody (sub (st 11) 2)), fScope (sub (st 11) 2), 0, [], .none, .none, .none, .none, none, .none, .none, 0⟩), #[]⟩
noncomputable def o140 (P : Params) : Obj := ⟨(.type "code"), none, (.fields #[(.str "longest_run_of_spaces" 2305), (.str "Whitespace.longest_run_of_spaces" 2306), (.str "/claim/cut.py" 2307), (.int 63 0), (.int 1 0), (.int 0 0), (.int 0 0), (.int 3 0), (.ref 135), (.bool true), (.int 181 0), (.ref 136), .none, (.ref 137), (.ref 138), (.ref 139), (.int 2309 0), (.int 63 0), (.str "/claim/cut.py" 2310)]), #[]⟩
noncomputable def o141 (P : Params) : Obj := ⟨(.type "function"), none, (.func ⟨"longest_run_of_spaces", "Whitespace.longest_run_of_spaces", fArgs (sub (st 11) 2), .stmts (fBody (sub (st 11) 2)), fScope (sub (st 11) 2), 3, [], .none, .none, .none, (.str "cpy313.tabnanny" 2271), none, (.ref 140), .none, 0⟩), #[]⟩
noncomputable def o142 (P : Params) : Obj := ⟨(.type "tuple"), none, (.seq #[] 0), #[]⟩
noncomputable def o143 (P : Params) : Obj := ⟨.none, none, (.fields #[]), #[]⟩
noncomputable def o144 (P : Params) : Obj := ⟨(.type "tuple"), none, (.seq #[(.str "self" 2315), (.str "tabsize" 2316), (.str "count" 2317), (.str "trailing" 2318), (.str "il" 2319), (.str "i" 2320)] 0), #[]⟩
noncomputable def o145 (P : Params) : Obj := ⟨(.type "tuple"), none, (.seq #[] 0), #[]⟩
noncomputable def o146 (P : Params) : Obj := ⟨.none, none, (.func ⟨"indent_level", "Whitespace.indent_level", fArgs (sub (st 11) 3), .stmts (fBody (sub (st 11) 3)), fScope (sub (st 11) 3), 0, [], .none, .none, .none, .none, none, .none, .none, 0⟩), #[]⟩
noncomputable def o147 (P : Params) : Obj := ⟨(.type "code"), none, (.fields #[(.str "indent_level" 2312), (.str "Whitespace.indent_level" 2313), (.str "/claim/cut.py" 2314), (.int 66 0), (.int 2 0), (.int 0 0), (.int 0 0), (.int 3 0), (.ref 142), (.bool true), (.int 181 0), (.ref 143), .none, (.ref 144), (.ref 145), (.ref 146), (.int 2321 0), (.int 66 0), (.str "/claim/cut.py" 2322)]), #[]⟩
noncomputable def o148 (P : Params) : Obj := ⟨(.type "function"), none, (.func ⟨"indent_level", "Whitespace.indent_level", fArgs (sub (st 11) 3), .stmts (fBody (sub (st 11) 3)), fScope (sub (st 11) 3), 3, [], .none, .none, .none, (.str "cpy313.tabnanny" 2271), none, (.ref 147), .none, 0⟩), #[]⟩
noncomputable def o149 (P : Params) : Obj := ⟨(.type "tuple"), none, (.seq #[] 0), #[]⟩
noncomputable def o150 (P : Params) : Obj := ⟨.none, none, (.fields #[]), #[]⟩
noncomputable def o151 (P : Params) : Obj := ⟨(.type "tuple"), none, (.seq #[(.str "self" 2327), (.str "other" 2328)] 0), #[]⟩
noncomputable def o152 (P : Params) : Obj := ⟨(.type "tuple"), none, (.seq #[] 0), #[]⟩
noncomputable def o153 (P : Params) : Obj := ⟨.none, none, (.func ⟨"equal", "Whitespace.equal", fArgs (sub (st 11) 4), .stmts (fBody (sub (st 11) 4)), fScope (sub (st 11) 4), 0, [], .none, .none, .none, .none, none, .none, .none, 0⟩), #[]⟩
noncomputable def o154 (P : Params) : Obj := ⟨(.type "code"), none, (.fields #[(.str "equal" 2324), (.str "Whitespace.equal" 2325), (.str "/claim/cut.py" 2326), (.int 73 0), (.int 2 0), (.int 0 0), (.int 0 0), (.int 3 0), (.ref 149), (.bool true), (.int 181 0), (.ref 150), .none, (.ref 151), (.ref 152), (.ref 153), (.int 2329 0), (.int 73 0), (.str "/claim/cut.py" 2330)]), #[]⟩
noncomputable def o155 (P : Params) : Obj := ⟨(.type "function"), none, (.func ⟨"equal", "Whitespace.equal", fArgs (sub (st 11) 4), .stmts (fBody (sub (st 11) 4)), fScope (sub (st 11) 4), 3, [], .none, .none, .none, (.str "cpy313.tabnanny" 2271), none, (.ref 154), .none, 0⟩), #[]⟩
noncomputable def o156 (P : Params) : Obj := ⟨(.type "tuple"), none, (.seq #[] 0), #[]⟩
noncomputable def o157 (P : Params) : Obj := ⟨.none, none, (.fields #[]), #[]⟩
noncomputable def o158 (P : Params) : Obj := ⟨(.type "tuple"), none, (.seq #[(.str "self" 2335), (.str "other" 2336)] 0), #[]⟩
noncomputable def o159 (P : Params) : Obj := ⟨(.type "tuple"), none, (.seq #[] 0), #[]⟩
noncomputable def o160 (P : Params) : Obj := ⟨.none, none, (.func ⟨"not_equal_witness", "Whitespace.not_equal_witness", fArgs (sub (st 11) 5), .stmts (fBody (sub (st 11) 5)), fScope (sub (st 11) 5), 0, [], .none, .none, .none, .none, none, .none, .none, 0⟩), #[]⟩
noncomputable def o161 (P : Params) : Obj := ⟨(.type "code"), none, (.fields #[(.str "not_equal_witness" 2332), (.str "Whitespace.not_equal_witness" 2333), (.str "/claim/cut.py" 2334), (.int 76 0), (.int 2 0), (.int 0 0), (.int 0 0), (.int 3 0), (.ref 156), (.bool true), (.int 181 0), (.ref 157), .none, (.ref 158), (.ref 159), (.ref 160), (.int 2337 0), (.int 76 0), (.str "/claim/cut.py" 2338)]), #[]⟩
noncomputable def o162 (P : Params) : Obj := ⟨(.type "function"), none, (.func ⟨"not_equal_witness", "Whitespace.not_equal_witness", fArgs (sub (st 11) 5), .stmts (fBody (sub (st 11) 5)), fScope (sub (st 11) 5), 3, [], .none, .none, .none, (.str "cpy313.tabnanny" 2271), none, (.ref 161), .none, 0⟩), #[]⟩
noncomputable def o163 (P : Params) : Obj := ⟨(.type "tuple"), none, (.seq #[] 0), #[]⟩
noncomputable def o164 (P : Params) : Obj := ⟨.none, none, (.fields #[]), #[]⟩
noncomputable def o165 (P : Params) : Obj := ⟨(.type "tuple"), none, (.seq #[(.str "self" 2343), (.str "other" 2344)] 0), #[]⟩
noncomputable def o166 (P : Params) : Obj := ⟨(.type "tuple"), none, (.seq #[] 0), #[]⟩
noncomputable def o167 (P : Params) : Obj := ⟨.none, none, (.func ⟨"less", "Whitespace.less", fArgs (sub (st 11) 6), .stmts (fBody (sub (st 11) 6)), fScope (sub (st 11) 6), 0, [], .none, .none, .none, .none, none, .none, .none, 0⟩), #[]⟩
noncomputable def o168 (P : Params) : Obj := ⟨(.type "code"), none, (.fields #[(.str "less" 2340), (.str "Whitespace.less" 2341), (.str "/claim/cut.py" 2342), (.int 79 0), (.int 2 0), (.int 0 0), (.int 0 0), (.int 3 0), (.ref 163), (.bool true), (.int 181 0), (.ref 164), .none, (.ref 165), (.ref 166), (.ref 167), (.int 2345 0), (.int 79 0), (.str "/claim/cut.py" 2346)]), #[]⟩
noncomputable def o169 (P : Params) : Obj := ⟨(.type "function"), none, (.func ⟨"less", "Whitespace.less", fArgs (sub (st 11) 6), .stmts (fBody (sub (st 11) 6)), fScope (sub (st 11) 6), 3, [], .none, .none, .none, (.str "cpy313.tabnanny" 2271), none, (.ref 168), .none, 0⟩), #[]⟩
noncomputable def o170 (P : Params) : Obj := ⟨(.type "tuple"), none, (.seq #[] 0), #[]⟩
noncomputable def o171 (P : Params) : Obj := ⟨.none, none, (.fields #[]), #[]⟩
noncomputable def o172 (P : Params) : Obj := ⟨(.type "tuple"), none, (.seq #[(.str "self" 2351), (.str "other" 2352)] 0), #[]⟩
noncomputable def o173 (P : Params) : Obj := ⟨(.type "tuple"), none, (.seq #[] 0), #[]⟩
noncomputable def o174 (P : Params) : Obj := ⟨.none, none, (.func ⟨"not_less_witness", "Whitespace.not_less_witness", fArgs (sub (st 11) 7), .stmts (fBody (sub (st 11) 7)), fScope (sub (st 11) 7), 0, [], .none, .none, .none, .none, none, .none, .none, 0⟩), #[]⟩
noncomputable def o175 (P : Params) : Obj := ⟨(.type "code"), none, (.fields #[(.str "not_less_witness" 2348), (.str "Whitespace.not_less_witness" 2349), (.str "/claim/cut.py" 2350), (.int 82 0), (.int 2 0), (.int 0 0), (.int 0 0), (.int 3 0), (.ref 170), (.bool true), (.int 181 0), (.ref 171), .none, (.ref 172), (.ref 173), (.ref 174), (.int 2353 0), (.int 82 0), (.str "/claim/cut.py" 2354)]), #[]⟩
noncomputable def o176 (P : Params) : Obj := ⟨(.type "function"), none, (.func ⟨"not_less_witness", "Whitespace.not_less_witness", fArgs (sub (st 11) 7), .stmts (fBody (sub (st 11) 7)), fScope (sub (st 11) 7), 3, [], .none, .none, .none, (.str "cpy313.tabnanny" 2271), none, (.ref 175), .none, 0⟩), #[]⟩
noncomputable def o177 (P : Params) : Obj := ⟨(.type "tuple"), none, (.seq #[(.str "is_simple" 2356), (.str "n" 2357), (.str "norm" 2358), (.str "nt" 2359), (.str "raw" 2360)] 0), #[]⟩
noncomputable def o178 (P : Params) : Obj := ⟨(.type "dict"), none, (.dict #[⟨kh P "__module__", (.str "__module__" 2280), (.str "cpy313.tabnanny" 2271)⟩, ⟨kh P "__firstlineno__", (.str "__firstlineno__" 2284), (.int 37 2283)⟩, ⟨kh P "S", (.str "S" 2288), (.str " " 2286)⟩, ⟨kh P "T", (.str "T" 2289), (.str "\t" 2287)⟩, ⟨kh P "__init__", (.str "__init__" 2304), (.ref 134)⟩, ⟨kh P "longest_run_of_spaces", (.str "longest_run_of_spaces" 2311), (.ref 141)⟩, ⟨kh P "indent_level", (.str "indent_level" 2323), (.ref 148)⟩, ⟨kh P "equal", (.str "equal" 2331), (.ref 155)⟩, ⟨kh P "not_equal_witness", (.str "not_equal_witness" 2339), (.ref 162)⟩, ⟨kh P "less", (.str "less" 2347), (.ref 169)⟩, ⟨kh P "not_less_witness", (.str "not_less_witness" 2355), (.ref 176)⟩, ⟨kh P "__static_attributes__", (.str "__static_attributes__" 2361), (.ref 177)⟩, ⟨kh P "__dict__", (.str "__dict__" 2363), (.ref 180)⟩, ⟨kh P "__weakref__", (.str "__weakref__" 2365), (.ref 181)⟩, ⟨kh P "__doc__", (.str "__doc__" 2366), .none⟩] 4), #[]⟩
noncomputable def o179 (P : Params) : Obj := ⟨(.type "type"), none, (.cls ⟨"Whitespace", [(.type "object")], [(.ref 179), (.type "object")], 178, "Whitespace", true, [], [], false, none, false⟩), #[none, none, (some (.str "Whitespace" 2273)), (some (.str "Whitespace" 2281)), (some (.builtin "object.__new__")), (some (.bool true))]⟩
noncomputable def o180 (P : Params) : Obj := ⟨(.type "getset_descriptor"), none, (.fields #[(.str "__dict__" 2362), (.ref 179), (.builtin "function.__dict__"), (.builtin "function.__dict__#set")]), #[]⟩
noncomputable def o181 (P : Params) : Obj := ⟨(.type "getset_descriptor"), none, (.fields #[(.str "__weakref__" 2364), (.ref 179), (.builtin "ExceptionGroup.__weakref__"), .none]), #[]⟩
noncomputable def o182 (P : Params) : Obj := ⟨(.type "super"), none, (.fields #[(.ref 179), (.ref 179), (.ref 179)]), #[]⟩
noncomputable def o183 (P : Params) : Obj := ⟨(.type "builtin_function_or_method"), none, (.fields #[(.builtin "object.__init_subclass__"), (.ref 179)]), #[]⟩
noncomputable def t11 (P : Params) : BT := (.node (boot_o_0 P) (.node (boot_o_1 P) (.node (o3v11 P) (.node (boot_o_7 P) (.node (o15 P) (.node (o31v3 P) (.node (o63 P) (.node (o127 P) .nil .nil) .nil) (.node (o95 P) (.node (o159 P) .nil .nil) .nil)) (.node (o47 P) (.node (o79 P) (.node (o143 P) .nil .nil) .nil) (.node (o111 P) (.node (o175 P) .nil .nil) .nil))) (.node (o23 P) (.node (o39 P) (.node (o71 P) (.node (o135 P) .nil .nil) .nil) (.node (o103 P) (.node (o167 P) .nil .nil) .nil)) (.node (o55 P) (.node (o87 P) (.node (o151 P) .nil .nil) .nil) (.node (o119 P) (.node (o183 P) .nil .nil) .nil)))) (.node (o11 P) (.node (o19 P) (.node (o35 P) (.node (o67 P) (.node (o131 P) .nil .nil) .nil) (.node (o99 P) (.node (o163 P) .nil .nil) .nil)) (.node (o51 P) (.node (o83 P) (.node (o147 P) .nil .nil) .nil) (.node (o115 P) (.node (o179 P) .nil .nil) .nil))) (.node (o27 P) (.node (o43 P) (.node (o75 P) (.node (o139 P) .nil .nil) .nil) (.node (o107 P) (.node (o171 P) .nil .nil) .nil)) (.node (o59 P) (.node (o91 P) (.node (o155 P) .nil .nil) .nil) (.node (o123 P) .nil .nil))))) (.node (boot_o_5 P) (.node (boot_o_9 P) (.node (o17 P) (.node (o33 P) (.node (o65 P) (.node (o129 P) .nil .nil) .nil) (.node (o97 P) (.node (o161 P) .nil .nil) .nil)) (.node (o49 P) (.node (o81 P) (.node (o145 P) .nil .nil) .nil) (.node (o113 P) (.node (o177 P) .nil .nil) .nil))) (.node (o25 P) (.node (o41 P) (.node (o73 P) (.node (o137 P) .nil .nil) .nil) (.node (o105 P) (.node (o169 P) .nil .nil) .nil)) (.node (o57 P) (.node (o89 P) (.node (o153 P) .nil .nil) .nil) (.node (o121 P) .nil .nil)))) (.node (o13 P) (.node (o21 P) (.node (o37 P) (.node (o69 P) (.node (o133 P) .nil .nil) .nil) (.node (o101 P) (.node (o165 P) .nil .nil) .nil)) (.node (o53 P) (.node (o85 P) (.node (o149 P) .nil .nil) .nil) (.node (o117 P) (.node (o181 P) .nil .nil) .nil))) (.node (o29 P) (.node (o45 P) (.node (o77 P) (.node (o141 P) .nil .nil) .nil) (.node (o109 P) (.node (o173 P) .nil .nil) .nil)) (.node (o61 P) (.node (o93 P) (.node (o157 P) .nil .nil) .nil) (.node (o125 P) .nil .nil)))))) (.node (o2v2 P) (.node (boot_o_4 P) (.node (boot_o_8 P) (.node (o16 P) (.node (o32 P) (.node (o64 P) (.node (o128 P) .nil .nil) .nil) (.node (o96 P) (.node (o160 P) .nil .nil) .nil)) (.node (o48 P) (.node (o80 P) (.node (o144 P) .nil .nil) .nil) (.node (o112 P) (.node (o176 P) .nil .nil) .nil))) (.node (o24 P) (.node (o40 P) (.node (o72 P) (.node (o136 P) .nil .nil) .nil) (.node (o104 P) (.node (o168 P) .nil .nil) .nil)) (.node (o56 P) (.node (o88 P) (.node (o152 P) .nil .nil) .nil) (.node (o120 P) .nil .nil)))) (.node (o12v11 P) (.node (o20 P) (.node (o36 P) (.node (o68 P) (.node (o132 P) .nil .nil) .nil) (.node (o100 P) (.node (o164 P) .nil .nil) .nil)) (.node (o52 P) (.node (o84 P) (.node (o148 P) .nil .nil) .nil) (.node (o116 P) (.node (o180 P) .nil .nil) .nil))) (.node (o28 P) (.node (o44 P) (.node (o76 P) (.node (o140 P) .nil .nil) .nil) (.node (o108 P) (.node (o172 P) .nil .nil) .nil)) (.node (o60 P) (.node (o92 P) (.node (o156 P) .nil .nil) .nil) (.node (o124 P) .nil .nil))))) (.node (boot_o_6 P) (.node (boot_o_10 P) (.node (o18 P) (.node (o34 P) (.node (o66 P) (.node (o130 P) .nil .nil) .nil) (.node (o98 P) (.node (o162 P) .nil .nil) .nil)) (.node (o50 P) (.node (o82 P) (.node (o146 P) .nil .nil) .nil) (.node (o114 P) (.node (o178 P) .nil .nil) .nil))) (.node (o26 P) (.node (o42 P) (.node (o74 P) (.node (o138 P) .nil .nil) .nil) (.node (o106 P) (.node (o170 P) .nil .nil) .nil)) (.node (o58 P) (.node (o90 P) (.node (o154 P) .nil .nil) .nil) (.node (o122 P) .nil .nil)))) (.node (o14 P) (.node (o22 P) (.node (o38 P) (.node (o70 P) (.node (o134 P) .nil .nil) .nil) (.node (o102 P) (.node (o166 P) .nil .nil) .nil)) (.node (o54 P) (.node (o86 P) (.node (o150 P) .nil .nil) .nil) (.node (o118 P) (.node (o182 P) .nil .nil) .nil))) (.node (o30 P) (.node (o46 P) (.node (o78 P) (.node (o142 P) .nil .nil) .nil) (.node (o110 P) (.node (o174 P) .nil .nil) .nil)) (.node (o62 P) (.node (o94 P) (.node (o158 P) .nil .nil) .nil) (.node (o126 P) .nil .nil)))))))
noncomputable def o3v12 (P : Params) : Obj := ⟨(.type "dict"), none, (.dict #[⟨kh P "__name__", (.str "__name__" 165), (.str "law_tr0065_02" 2369)⟩, ⟨kh P "__doc__", (.str "__doc__" 166), .none⟩, ⟨kh P "__package__", (.str "__package__" 167), .none⟩, ⟨kh P "__loader__", (.str "__loader__" 168), (.builtin "__main__.__loader__#opaque")⟩, ⟨kh P "__spec__", (.str "__spec__" 169), .none⟩, ⟨kh P "__annotations__", (.str "__annotations__" 170), (.ref 6)⟩, ⟨kh P "__builtins__", (.str "__builtins__" 171), (.ref 4)⟩, ⟨kh P "__file__", (.str "__file__" 173), (.str "/claim/cut.py" 172)⟩, ⟨kh P "__cached__", (.str "__cached__" 174), .none⟩, ⟨kh P "_wall", (.str "_wall" 193), (.ref 21)⟩, ⟨kh P "Error", (.str "Error" 215), (.ref 31)⟩, ⟨kh P "error_reply", (.str "error_reply" 231), (.ref 44)⟩, ⟨kh P "parse257", (.str "parse257" 242), (.ref 53)⟩, ⟨kh P "b1_set", (.str "b1_set" 304), (.ref 61)⟩, ⟨kh P "in_table_b1", (.str "in_table_b1" 311), (.ref 71)⟩, ⟨kh P "b3_exceptions", (.str "b3_exceptions" 2262), (.ref 72)⟩, ⟨kh P "map_table_b3", (.str "map_table_b3" 2270), (.ref 117)⟩, ⟨kh P "Whitespace", (.str "Whitespace" 2368), (.ref 179)⟩] 18), #[]⟩
noncomputable def t12 (P : Params) : BT := (.node (boot_o_0 P) (.node (boot_o_1 P) (.node (o3v12 P) (.node (boot_o_7 P) (.node (o15 P) (.node (o31v3 P) (.node (o63 P) (.node (o127 P) .nil .nil) .nil) (.node (o95 P) (.node (o159 P) .nil .nil) .nil)) (.node (o47 P) (.node (o79 P) (.node (o143 P) .nil .nil) .nil) (.node (o111 P) (.node (o175 P) .nil .nil) .nil))) (.node (o23 P) (.node (o39 P) (.node (o71 P) (.node (o135 P) .nil .nil) .nil) (.node (o103 P) (.node (o167 P) .nil .nil) .nil)) (.node (o55 P) (.node (o87 P) (.node (o151 P) .nil .nil) .nil) (.node (o119 P) (.node (o183 P) .nil .nil) .nil)))) (.node (o11 P) (.node (o19 P) (.node (o35 P) (.node (o67 P) (.node (o131 P) .nil .nil) .nil) (.node (o99 P) (.node (o163 P) .nil .nil) .nil)) (.node (o51 P) (.node (o83 P) (.node (o147 P) .nil .nil) .nil) (.node (o115 P) (.node (o179 P) .nil .nil) .nil))) (.node (o27 P) (.node (o43 P) (.node (o75 P) (.node (o139 P) .nil .nil) .nil) (.node (o107 P) (.node (o171 P) .nil .nil) .nil)) (.node (o59 P) (.node (o91 P) (.node (o155 P) .nil .nil) .nil) (.node (o123 P) .nil .nil))))) (.node (boot_o_5 P) (.node (boot_o_9 P) (.node (o17 P) (.node (o33 P) (.node (o65 P) (.node (o129 P) .nil .nil) .nil) (.node (o97 P) (.node (o161 P) .nil .nil) .nil)) (.node (o49 P) (.node (o81 P) (.node (o145 P) .nil .nil) .nil) (.node (o113 P) (.node (o177 P) .nil .nil) .nil))) (.node (o25 P) (.node (o41 P) (.node (o73 P) (.node (o137 P) .nil .nil) .nil) (.node (o105 P) (.node (o169 P) .nil .nil) .nil)) (.node (o57 P) (.node (o89 P) (.node (o153 P) .nil .nil) .nil) (.node (o121 P) .nil .nil)))) (.node (o13 P) (.node (o21 P) (.node (o37 P) (.node (o69 P) (.node (o133 P) .nil .nil) .nil) (.node (o101 P) (.node (o165 P) .nil .nil) .nil)) (.node (o53 P) (.node (o85 P) (.node (o149 P) .nil .nil) .nil) (.node (o117 P) (.node (o181 P) .nil .nil) .nil))) (.node (o29 P) (.node (o45 P) (.node (o77 P) (.node (o141 P) .nil .nil) .nil) (.node (o109 P) (.node (o173 P) .nil .nil) .nil)) (.node (o61 P) (.node (o93 P) (.node (o157 P) .nil .nil) .nil) (.node (o125 P) .nil .nil)))))) (.node (o2v2 P) (.node (boot_o_4 P) (.node (boot_o_8 P) (.node (o16 P) (.node (o32 P) (.node (o64 P) (.node (o128 P) .nil .nil) .nil) (.node (o96 P) (.node (o160 P) .nil .nil) .nil)) (.node (o48 P) (.node (o80 P) (.node (o144 P) .nil .nil) .nil) (.node (o112 P) (.node (o176 P) .nil .nil) .nil))) (.node (o24 P) (.node (o40 P) (.node (o72 P) (.node (o136 P) .nil .nil) .nil) (.node (o104 P) (.node (o168 P) .nil .nil) .nil)) (.node (o56 P) (.node (o88 P) (.node (o152 P) .nil .nil) .nil) (.node (o120 P) .nil .nil)))) (.node (o12v11 P) (.node (o20 P) (.node (o36 P) (.node (o68 P) (.node (o132 P) .nil .nil) .nil) (.node (o100 P) (.node (o164 P) .nil .nil) .nil)) (.node (o52 P) (.node (o84 P) (.node (o148 P) .nil .nil) .nil) (.node (o116 P) (.node (o180 P) .nil .nil) .nil))) (.node (o28 P) (.node (o44 P) (.node (o76 P) (.node (o140 P) .nil .nil) .nil) (.node (o108 P) (.node (o172 P) .nil .nil) .nil)) (.node (o60 P) (.node (o92 P) (.node (o156 P) .nil .nil) .nil) (.node (o124 P) .nil .nil))))) (.node (boot_o_6 P) (.node (boot_o_10 P) (.node (o18 P) (.node (o34 P) (.node (o66 P) (.node (o130 P) .nil .nil) .nil) (.node (o98 P) (.node (o162 P) .nil .nil) .nil)) (.node (o50 P) (.node (o82 P) (.node (o146 P) .nil .nil) .nil) (.node (o114 P) (.node (o178 P) .nil .nil) .nil))) (.node (o26 P) (.node (o42 P) (.node (o74 P) (.node (o138 P) .nil .nil) .nil) (.node (o106 P) (.node (o170 P) .nil .nil) .nil)) (.node (o58 P) (.node (o90 P) (.node (o154 P) .nil .nil) .nil) (.node (o122 P) .nil .nil)))) (.node (o14 P) (.node (o22 P) (.node (o38 P) (.node (o70 P) (.node (o134 P) .nil .nil) .nil) (.node (o102 P) (.node (o166 P) .nil .nil) .nil)) (.node (o54 P) (.node (o86 P) (.node (o150 P) .nil .nil) .nil) (.node (o118 P) (.node (o182 P) .nil .nil) .nil))) (.node (o30 P) (.node (o46 P) (.node (o78 P) (.node (o142 P) .nil .nil) .nil) (.node (o110 P) (.node (o174 P) .nil .nil) .nil)) (.node (o62 P) (.node (o94 P) (.node (o158 P) .nil .nil) .nil) (.node (o126 P) .nil .nil)))))))
noncomputable def o3v13 (P : Params) : Obj := ⟨(.type "dict"), none, (.dict #[⟨kh P "__name__", (.str "__name__" 165), (.str "law_tr0065_02" 2369)⟩, ⟨kh P "__doc__", (.str "__doc__" 166), .none⟩, ⟨kh P "__package__", (.str "__package__" 167), .none⟩, ⟨kh P "__loader__", (.str "__loader__" 168), (.builtin "__main__.__loader__#opaque")⟩, ⟨kh P "__spec__", (.str "__spec__" 169), .none⟩, ⟨kh P "__annotations__", (.str "__annotations__" 170), (.ref 6)⟩, ⟨kh P "__builtins__", (.str "__builtins__" 171), (.ref 4)⟩, ⟨kh P "__file__", (.str "__file__" 173), (.str "/claim/cut.py" 172)⟩, ⟨kh P "__cached__", (.str "__cached__" 174), .none⟩, ⟨kh P "_wall", (.str "_wall" 193), (.ref 21)⟩, ⟨kh P "Error", (.str "Error" 215), (.ref 31)⟩, ⟨kh P "error_reply", (.str "error_reply" 231), (.ref 44)⟩, ⟨kh P "parse257", (.str "parse257" 242), (.ref 53)⟩, ⟨kh P "b1_set", (.str "b1_set" 304), (.ref 61)⟩, ⟨kh P "in_table_b1", (.str "in_table_b1" 311), (.ref 71)⟩, ⟨kh P "b3_exceptions", (.str "b3_exceptions" 2262), (.ref 72)⟩, ⟨kh P "map_table_b3", (.str "map_table_b3" 2270), (.ref 117)⟩, ⟨kh P "Whitespace", (.str "Whitespace" 2368), (.ref 179)⟩, ⟨kh P "_law_number", (.str "_law_number" 2379), (.ref 190)⟩] 19), #[]⟩
noncomputable def o12v13 (P : Params) : Obj := ⟨.none, none, (.fields #[(.int 1 0), (.int 0 0), (.ref 20), (.int 5 0), (.int 0 0), (.ref 27), (.int 7 0), (.int 0 0), (.ref 40), (.int 9 0), (.int 0 0), (.ref 52), (.int 28 0), (.int 0 0), (.ref 70), (.int 31 0), (.int 0 0), (.ref 116), (.int 37 0), (.int 0 0), (.ref 123), (.int 85 0), (.int 0 0), (.ref 189)]), #[]⟩
noncomputable def o184 (P : Params) : Obj := ⟨(.type "tuple"), none, (.seq #[] 0), #[]⟩
noncomputable def o185 (P : Params) : Obj := ⟨.none, none, (.fields #[]), #[]⟩
noncomputable def o186 (P : Params) : Obj := ⟨(.type "tuple"), none, (.seq #[(.str "script" 2374), (.str "k" 2375), (.str "behind" 2376)] 0), #[]⟩
noncomputable def o187 (P : Params) : Obj := ⟨(.type "tuple"), none, (.seq #[] 0), #[]⟩
noncomputable def o188 (P : Params) : Obj := ⟨.none, none, (.func ⟨"_law_number", "_law_number", fArgs (st 13), .stmts (fBody (st 13)), fScope (st 13), 0, [], .none, .none, .none, .none, none, .none, .none, 0⟩), #[]⟩
noncomputable def o189 (P : Params) : Obj := ⟨(.type "code"), none, (.fields #[(.str "_law_number" 2371), (.str "_law_number" 2372), (.str "/claim/cut.py" 2373), (.int 85 0), (.int 2 0), (.int 0 0), (.int 0 0), (.int 3 0), (.ref 184), (.bool true), (.int 181 0), (.ref 185), .none, (.ref 186), (.ref 187), (.ref 188), (.int 2377 0), (.int 85 0), (.str "/claim/cut.py" 2378)]), #[]⟩
noncomputable def o190 (P : Params) : Obj := ⟨(.type "function"), none, (.func ⟨"_law_number", "_law_number", fArgs (st 13), .stmts (fBody (st 13)), fScope (st 13), 3, [], .none, .none, .none, (.str "law_tr0065_02" 2369), none, (.ref 189), .none, 0⟩), #[]⟩
noncomputable def t13 (P : Params) : BT := (.node (boot_o_0 P) (.node (boot_o_1 P) (.node (o3v13 P) (.node (boot_o_7 P) (.node (o15 P) (.node (o31v3 P) (.node (o63 P) (.node (o127 P) .nil .nil) .nil) (.node (o95 P) (.node (o159 P) .nil .nil) .nil)) (.node (o47 P) (.node (o79 P) (.node (o143 P) .nil .nil) .nil) (.node (o111 P) (.node (o175 P) .nil .nil) .nil))) (.node (o23 P) (.node (o39 P) (.node (o71 P) (.node (o135 P) .nil .nil) .nil) (.node (o103 P) (.node (o167 P) .nil .nil) .nil)) (.node (o55 P) (.node (o87 P) (.node (o151 P) .nil .nil) .nil) (.node (o119 P) (.node (o183 P) .nil .nil) .nil)))) (.node (o11 P) (.node (o19 P) (.node (o35 P) (.node (o67 P) (.node (o131 P) .nil .nil) .nil) (.node (o99 P) (.node (o163 P) .nil .nil) .nil)) (.node (o51 P) (.node (o83 P) (.node (o147 P) .nil .nil) .nil) (.node (o115 P) (.node (o179 P) .nil .nil) .nil))) (.node (o27 P) (.node (o43 P) (.node (o75 P) (.node (o139 P) .nil .nil) .nil) (.node (o107 P) (.node (o171 P) .nil .nil) .nil)) (.node (o59 P) (.node (o91 P) (.node (o155 P) .nil .nil) .nil) (.node (o123 P) (.node (o187 P) .nil .nil) .nil))))) (.node (boot_o_5 P) (.node (boot_o_9 P) (.node (o17 P) (.node (o33 P) (.node (o65 P) (.node (o129 P) .nil .nil) .nil) (.node (o97 P) (.node (o161 P) .nil .nil) .nil)) (.node (o49 P) (.node (o81 P) (.node (o145 P) .nil .nil) .nil) (.node (o113 P) (.node (o177 P) .nil .nil) .nil))) (.node (o25 P) (.node (o41 P) (.node (o73 P) (.node (o137 P) .nil .nil) .nil) (.node (o105 P) (.node (o169 P) .nil .nil) .nil)) (.node (o57 P) (.node (o89 P) (.node (o153 P) .nil .nil) .nil) (.node (o121 P) (.node (o185 P) .nil .nil) .nil)))) (.node (o13 P) (.node (o21 P) (.node (o37 P) (.node (o69 P) (.node (o133 P) .nil .nil) .nil) (.node (o101 P) (.node (o165 P) .nil .nil) .nil)) (.node (o53 P) (.node (o85 P) (.node (o149 P) .nil .nil) .nil) (.node (o117 P) (.node (o181 P) .nil .nil) .nil))) (.node (o29 P) (.node (o45 P) (.node (o77 P) (.node (o141 P) .nil .nil) .nil) (.node (o109 P) (.node (o173 P) .nil .nil) .nil)) (.node (o61 P) (.node (o93 P) (.node (o157 P) .nil .nil) .nil) (.node (o125 P) (.node (o189 P) .nil .nil) .nil)))))) (.node (o2v2 P) (.node (boot_o_4 P) (.node (boot_o_8 P) (.node (o16 P) (.node (o32 P) (.node (o64 P) (.node (o128 P) .nil .nil) .nil) (.node (o96 P) (.node (o160 P) .nil .nil) .nil)) (.node (o48 P) (.node (o80 P) (.node (o144 P) .nil .nil) .nil) (.node (o112 P) (.node (o176 P) .nil .nil) .nil))) (.node (o24 P) (.node (o40 P) (.node (o72 P) (.node (o136 P) .nil .nil) .nil) (.node (o104 P) (.node (o168 P) .nil .nil) .nil)) (.node (o56 P) (.node (o88 P) (.node (o152 P) .nil .nil) .nil) (.node (o120 P) (.node (o184 P) .nil .nil) .nil)))) (.node (o12v13 P) (.node (o20 P) (.node (o36 P) (.node (o68 P) (.node (o132 P) .nil .nil) .nil) (.node (o100 P) (.node (o164 P) .nil .nil) .nil)) (.node (o52 P) (.node (o84 P) (.node (o148 P) .nil .nil) .nil) (.node (o116 P) (.node (o180 P) .nil .nil) .nil))) (.node (o28 P) (.node (o44 P) (.node (o76 P) (.node (o140 P) .nil .nil) .nil) (.node (o108 P) (.node (o172 P) .nil .nil) .nil)) (.node (o60 P) (.node (o92 P) (.node (o156 P) .nil .nil) .nil) (.node (o124 P) (.node (o188 P) .nil .nil) .nil))))) (.node (boot_o_6 P) (.node (boot_o_10 P) (.node (o18 P) (.node (o34 P) (.node (o66 P) (.node (o130 P) .nil .nil) .nil) (.node (o98 P) (.node (o162 P) .nil .nil) .nil)) (.node (o50 P) (.node (o82 P) (.node (o146 P) .nil .nil) .nil) (.node (o114 P) (.node (o178 P) .nil .nil) .nil))) (.node (o26 P) (.node (o42 P) (.node (o74 P) (.node (o138 P) .nil .nil) .nil) (.node (o106 P) (.node (o170 P) .nil .nil) .nil)) (.node (o58 P) (.node (o90 P) (.node (o154 P) .nil .nil) .nil) (.node (o122 P) (.node (o186 P) .nil .nil) .nil)))) (.node (o14 P) (.node (o22 P) (.node (o38 P) (.node (o70 P) (.node (o134 P) .nil .nil) .nil) (.node (o102 P) (.node (o166 P) .nil .nil) .nil)) (.node (o54 P) (.node (o86 P) (.node (o150 P) .nil .nil) .nil) (.node (o118 P) (.node (o182 P) .nil .nil) .nil))) (.node (o30 P) (.node (o46 P) (.node (o78 P) (.node (o142 P) .nil .nil) .nil) (.node (o110 P) (.node (o174 P) .nil .nil) .nil)) (.node (o62 P) (.node (o94 P) (.node (o158 P) .nil .nil) .nil) (.node (o126 P) (.node (o190 P) .nil .nil) .nil)))))))
noncomputable def o3v14 (P : Params) : Obj := ⟨(.type "dict"), none, (.dict #[⟨kh P "__name__", (.str "__name__" 165), (.str "law_tr0065_02" 2369)⟩, ⟨kh P "__doc__", (.str "__doc__" 166), .none⟩, ⟨kh P "__package__", (.str "__package__" 167), .none⟩, ⟨kh P "__loader__", (.str "__loader__" 168), (.builtin "__main__.__loader__#opaque")⟩, ⟨kh P "__spec__", (.str "__spec__" 169), .none⟩, ⟨kh P "__annotations__", (.str "__annotations__" 170), (.ref 6)⟩, ⟨kh P "__builtins__", (.str "__builtins__" 171), (.ref 4)⟩, ⟨kh P "__file__", (.str "__file__" 173), (.str "/claim/cut.py" 172)⟩, ⟨kh P "__cached__", (.str "__cached__" 174), .none⟩, ⟨kh P "_wall", (.str "_wall" 193), (.ref 21)⟩, ⟨kh P "Error", (.str "Error" 215), (.ref 31)⟩, ⟨kh P "error_reply", (.str "error_reply" 231), (.ref 44)⟩, ⟨kh P "parse257", (.str "parse257" 242), (.ref 53)⟩, ⟨kh P "b1_set", (.str "b1_set" 304), (.ref 61)⟩, ⟨kh P "in_table_b1", (.str "in_table_b1" 311), (.ref 71)⟩, ⟨kh P "b3_exceptions", (.str "b3_exceptions" 2262), (.ref 72)⟩, ⟨kh P "map_table_b3", (.str "map_table_b3" 2270), (.ref 117)⟩, ⟨kh P "Whitespace", (.str "Whitespace" 2368), (.ref 179)⟩, ⟨kh P "_law_number", (.str "_law_number" 2379), (.ref 190)⟩, ⟨kh P "_law_typed", (.str "_law_typed" 2392), (.ref 197)⟩] 20), #[]⟩
noncomputable def o12v14 (P : Params) : Obj := ⟨.none, none, (.fields #[(.int 1 0), (.int 0 0), (.ref 20), (.int 5 0), (.int 0 0), (.ref 27), (.int 7 0), (.int 0 0), (.ref 40), (.int 9 0), (.int 0 0), (.ref 52), (.int 28 0), (.int 0 0), (.ref 70), (.int 31 0), (.int 0 0), (.ref 116), (.int 37 0), (.int 0 0), (.ref 123), (.int 85 0), (.int 0 0), (.ref 189), (.int 88 0), (.int 0 0), (.ref 196)]), #[]⟩
noncomputable def o191 (P : Params) : Obj := ⟨(.type "tuple"), none, (.seq #[] 0), #[]⟩
noncomputable def o192 (P : Params) : Obj := ⟨.none, none, (.fields #[]), #[]⟩
noncomputable def o193 (P : Params) : Obj := ⟨(.type "tuple"), none, (.seq #[(.str "m" 2383), (.str "pairs" 2384), (.str "x" 2385), (.str "threes" 2386), (.str "twos" 2387), (.str "typed" 2388), (.str "i" 2389)] 0), #[]⟩
noncomputable def o194 (P : Params) : Obj := ⟨(.type "tuple"), none, (.seq #[] 0), #[]⟩
noncomputable def o195 (P : Params) : Obj := ⟨.none, none, (.func ⟨"_law_typed", "_law_typed", fArgs (st 14), .stmts (fBody (st 14)), fScope (st 14), 0, [], .none, .none, .none, .none, none, .none, .none, 0⟩), #[]⟩
noncomputable def o196 (P : Params) : Obj := ⟨(.type "code"), none, (.fields #[(.str "_law_typed" 2380), (.str "_law_typed" 2381), (.str "/claim/cut.py" 2382), (.int 88 0), (.int 3 0), (.int 0 0), (.int 0 0), (.int 3 0), (.ref 191), (.bool true), (.int 181 0), (.ref 192), .none, (.ref 193), (.ref 194), (.ref 195), (.int 2390 0), (.int 88 0), (.str "/claim/cut.py" 2391)]), #[]⟩
noncomputable def o197 (P : Params) : Obj := ⟨(.type "function"), none, (.func ⟨"_law_typed", "_law_typed", fArgs (st 14), .stmts (fBody (st 14)), fScope (st 14), 3, [], .none, .none, .none, (.str "law_tr0065_02" 2369), none, (.ref 196), .none, 0⟩), #[]⟩
noncomputable def t14 (P : Params) : BT := (.node (boot_o_0 P) (.node (boot_o_1 P) (.node (o3v14 P) (.node (boot_o_7 P) (.node (o15 P) (.node (o31v3 P) (.node (o63 P) (.node (o127 P) .nil .nil) (.node (o191 P) .nil .nil)) (.node (o95 P) (.node (o159 P) .nil .nil) .nil)) (.node (o47 P) (.node (o79 P) (.node (o143 P) .nil .nil) .nil) (.node (o111 P) (.node (o175 P) .nil .nil) .nil))) (.node (o23 P) (.node (o39 P) (.node (o71 P) (.node (o135 P) .nil .nil) .nil) (.node (o103 P) (.node (o167 P) .nil .nil) .nil)) (.node (o55 P) (.node (o87 P) (.node (o151 P) .nil .nil) .nil) (.node (o119 P) (.node (o183 P) .nil .nil) .nil)))) (.node (o11 P) (.node (o19 P) (.node (o35 P) (.node (o67 P) (.node (o131 P) .nil .nil) (.node (o195 P) .nil .nil)) (.node (o99 P) (.node (o163 P) .nil .nil) .nil)) (.node (o51 P) (.node (o83 P) (.node (o147 P) .nil .nil) .nil) (.node (o115 P) (.node (o179 P) .nil .nil) .nil))) (.node (o27 P) (.node (o43 P) (.node (o75 P) (.node (o139 P) .nil .nil) .nil) (.node (o107 P) (.node (o171 P) .nil .nil) .nil)) (.node (o59 P) (.node (o91 P) (.node (o155 P) .nil .nil) .nil) (.node (o123 P) (.node (o187 P) .nil .nil) .nil))))) (.node (boot_o_5 P) (.node (boot_o_9 P) (.node (o17 P) (.node (o33 P) (.node (o65 P) (.node (o129 P) .nil .nil) (.node (o193 P) .nil .nil)) (.node (o97 P) (.node (o161 P) .nil .nil) .nil)) (.node (o49 P) (.node (o81 P) (.node (o145 P) .nil .nil) .nil) (.node (o113 P) (.node (o177 P) .nil .nil) .nil))) (.node (o25 P) (.node (o41 P) (.node (o73 P) (.node (o137 P) .nil .nil) .nil) (.node (o105 P) (.node (o169 P) .nil .nil) .nil)) (.node (o57 P) (.node (o89 P) (.node (o153 P) .nil .nil) .nil) (.node (o121 P) (.node (o185 P) .nil .nil) .nil)))) (.node (o13 P) (.node (o21 P) (.node (o37 P) (.node (o69 P) (.node (o133 P) .nil .nil) (.node (o197 P) .nil .nil)) (.node (o101 P) (.node (o165 P) .nil .nil) .nil)) (.node (o53 P) (.node (o85 P) (.node (o149 P) .nil .nil) .nil) (.node (o117 P) (.node (o181 P) .nil .nil) .nil))) (.node (o29 P) (.node (o45 P) (.node (o77 P) (.node (o141 P) .nil .nil) .nil) (.node (o109 P) (.node (o173 P) .nil .nil) .nil)) (.node (o61 P) (.node (o93 P) (.node (o157 P) .nil .nil) .nil) (.node (o125 P) (.node (o189 P) .nil .nil) .nil)))))) (.node (o2v2 P) (.node (boot_o_4 P) (.node (boot_o_8 P) (.node (o16 P) (.node (o32 P) (.node (o64 P) (.node (o128 P) .nil .nil) (.node (o192 P) .nil .nil)) (.node (o96 P) (.node (o160 P) .nil .nil) .nil)) (.node (o48 P) (.node (o80 P) (.node (o144 P) .nil .nil) .nil) (.node (o112 P) (.node (o176 P) .nil .nil) .nil))) (.node (o24 P) (.node (o40 P) (.node (o72 P) (.node (o136 P) .nil .nil) .nil) (.node (o104 P) (.node (o168 P) .nil .nil) .nil)) (.node (o56 P) (.node (o88 P) (.node (o152 P) .nil .nil) .nil) (.node (o120 P) (.node (o184 P) .nil .nil) .nil)))) (.node (o12v14 P) (.node (o20 P) (.node (o36 P) (.node (o68 P) (.node (o132 P) .nil .nil) (.node (o196 P) .nil .nil)) (.node (o100 P) (.node (o164 P) .nil .nil) .nil)) (.node (o52 P) (.node (o84 P) (.node (o148 P) .nil .nil) .nil) (.node (o116 P) (.node (o180 P) .nil .nil) .nil))) (.node (o28 P) (.node (o44 P) (.node (o76 P) (.node (o140 P) .nil .nil) .nil) (.node (o108 P) (.node (o172 P) .nil .nil) .nil)) (.node (o60 P) (.node (o92 P) (.node (o156 P) .nil .nil) .nil) (.node (o124 P) (.node (o188 P) .nil .nil) .nil))))) (.node (boot_o_6 P) (.node (boot_o_10 P) (.node (o18 P) (.node (o34 P) (.node (o66 P) (.node (o130 P) .nil .nil) (.node (o194 P) .nil .nil)) (.node (o98 P) (.node (o162 P) .nil .nil) .nil)) (.node (o50 P) (.node (o82 P) (.node (o146 P) .nil .nil) .nil) (.node (o114 P) (.node (o178 P) .nil .nil) .nil))) (.node (o26 P) (.node (o42 P) (.node (o74 P) (.node (o138 P) .nil .nil) .nil) (.node (o106 P) (.node (o170 P) .nil .nil) .nil)) (.node (o58 P) (.node (o90 P) (.node (o154 P) .nil .nil) .nil) (.node (o122 P) (.node (o186 P) .nil .nil) .nil)))) (.node (o14 P) (.node (o22 P) (.node (o38 P) (.node (o70 P) (.node (o134 P) .nil .nil) .nil) (.node (o102 P) (.node (o166 P) .nil .nil) .nil)) (.node (o54 P) (.node (o86 P) (.node (o150 P) .nil .nil) .nil) (.node (o118 P) (.node (o182 P) .nil .nil) .nil))) (.node (o30 P) (.node (o46 P) (.node (o78 P) (.node (o142 P) .nil .nil) .nil) (.node (o110 P) (.node (o174 P) .nil .nil) .nil)) (.node (o62 P) (.node (o94 P) (.node (o158 P) .nil .nil) .nil) (.node (o126 P) (.node (o190 P) .nil .nil) .nil)))))))
noncomputable def o3v15 (P : Params) : Obj := ⟨(.type "dict"), none, (.dict #[⟨kh P "__name__", (.str "__name__" 165), (.str "law_tr0065_02" 2369)⟩, ⟨kh P "__doc__", (.str "__doc__" 166), .none⟩, ⟨kh P "__package__", (.str "__package__" 167), .none⟩, ⟨kh P "__loader__", (.str "__loader__" 168), (.builtin "__main__.__loader__#opaque")⟩, ⟨kh P "__spec__", (.str "__spec__" 169), .none⟩, ⟨kh P "__annotations__", (.str "__annotations__" 170), (.ref 6)⟩, ⟨kh P "__builtins__", (.str "__builtins__" 171), (.ref 4)⟩, ⟨kh P "__file__", (.str "__file__" 173), (.str "/claim/cut.py" 172)⟩, ⟨kh P "__cached__", (.str "__cached__" 174), .none⟩, ⟨kh P "_wall", (.str "_wall" 193), (.ref 21)⟩, ⟨kh P "Error", (.str "Error" 215), (.ref 31)⟩, ⟨kh P "error_reply", (.str "error_reply" 231), (.ref 44)⟩, ⟨kh P "parse257", (.str "parse257" 242), (.ref 53)⟩, ⟨kh P "b1_set", (.str "b1_set" 304), (.ref 61)⟩, ⟨kh P "in_table_b1", (.str "in_table_b1" 311), (.ref 71)⟩, ⟨kh P "b3_exceptions", (.str "b3_exceptions" 2262), (.ref 72)⟩, ⟨kh P "map_table_b3", (.str "map_table_b3" 2270), (.ref 117)⟩, ⟨kh P "Whitespace", (.str "Whitespace" 2368), (.ref 179)⟩, ⟨kh P "_law_number", (.str "_law_number" 2379), (.ref 190)⟩, ⟨kh P "_law_typed", (.str "_law_typed" 2392), (.ref 197)⟩, ⟨kh P "_law_listed", (.str "_law_listed" 2405), (.ref 204)⟩] 21), #[]⟩
noncomputable def o12v15 (P : Params) : Obj := ⟨.none, none, (.fields #[(.int 1 0), (.int 0 0), (.ref 20), (.int 5 0), (.int 0 0), (.ref 27), (.int 7 0), (.int 0 0), (.ref 40), (.int 9 0), (.int 0 0), (.ref 52), (.int 28 0), (.int 0 0), (.ref 70), (.int 31 0), (.int 0 0), (.ref 116), (.int 37 0), (.int 0 0), (.ref 123), (.int 85 0), (.int 0 0), (.ref 189), (.int 88 0), (.int 0 0), (.ref 196), (.int 97 0), (.int 0 0), (.ref 203)]), #[]⟩
noncomputable def o198 (P : Params) : Obj := ⟨(.type "tuple"), none, (.seq #[] 0), #[]⟩
noncomputable def o199 (P : Params) : Obj := ⟨.none, none, (.fields #[]), #[]⟩
noncomputable def o200 (P : Params) : Obj := ⟨(.type "tuple"), none, (.seq #[(.str "m" 2396), (.str "pairs" 2397), (.str "x" 2398), (.str "threes" 2399), (.str "twos" 2400), (.str "listed" 2401), (.str "i" 2402)] 0), #[]⟩
noncomputable def o201 (P : Params) : Obj := ⟨(.type "tuple"), none, (.seq #[] 0), #[]⟩
noncomputable def o202 (P : Params) : Obj := ⟨.none, none, (.func ⟨"_law_listed", "_law_listed", fArgs (st 15), .stmts (fBody (st 15)), fScope (st 15), 0, [], .none, .none, .none, .none, none, .none, .none, 0⟩), #[]⟩
noncomputable def o203 (P : Params) : Obj := ⟨(.type "code"), none, (.fields #[(.str "_law_listed" 2393), (.str "_law_listed" 2394), (.str "/claim/cut.py" 2395), (.int 97 0), (.int 3 0), (.int 0 0), (.int 0 0), (.int 3 0), (.ref 198), (.bool true), (.int 181 0), (.ref 199), .none, (.ref 200), (.ref 201), (.ref 202), (.int 2403 0), (.int 97 0), (.str "/claim/cut.py" 2404)]), #[]⟩
noncomputable def o204 (P : Params) : Obj := ⟨(.type "function"), none, (.func ⟨"_law_listed", "_law_listed", fArgs (st 15), .stmts (fBody (st 15)), fScope (st 15), 3, [], .none, .none, .none, (.str "law_tr0065_02" 2369), none, (.ref 203), .none, 0⟩), #[]⟩
noncomputable def t15 (P : Params) : BT := (.node (boot_o_0 P) (.node (boot_o_1 P) (.node (o3v15 P) (.node (boot_o_7 P) (.node (o15 P) (.node (o31v3 P) (.node (o63 P) (.node (o127 P) .nil .nil) (.node (o191 P) .nil .nil)) (.node (o95 P) (.node (o159 P) .nil .nil) .nil)) (.node (o47 P) (.node (o79 P) (.node (o143 P) .nil .nil) .nil) (.node (o111 P) (.node (o175 P) .nil .nil) .nil))) (.node (o23 P) (.node (o39 P) (.node (o71 P) (.node (o135 P) .nil .nil) (.node (o199 P) .nil .nil)) (.node (o103 P) (.node (o167 P) .nil .nil) .nil)) (.node (o55 P) (.node (o87 P) (.node (o151 P) .nil .nil) .nil) (.node (o119 P) (.node (o183 P) .nil .nil) .nil)))) (.node (o11 P) (.node (o19 P) (.node (o35 P) (.node (o67 P) (.node (o131 P) .nil .nil) (.node (o195 P) .nil .nil)) (.node (o99 P) (.node (o163 P) .nil .nil) .nil)) (.node (o51 P) (.node (o83 P) (.node (o147 P) .nil .nil) .nil) (.node (o115 P) (.node (o179 P) .nil .nil) .nil))) (.node (o27 P) (.node (o43 P) (.node (o75 P) (.node (o139 P) .nil .nil) (.node (o203 P) .nil .nil)) (.node (o107 P) (.node (o171 P) .nil .nil) .nil)) (.node (o59 P) (.node (o91 P) (.node (o155 P) .nil .nil) .nil) (.node (o123 P) (.node (o187 P) .nil .nil) .nil))))) (.node (boot_o_5 P) (.node (boot_o_9 P) (.node (o17 P) (.node (o33 P) (.node (o65 P) (.node (o129 P) .nil .nil) (.node (o193 P) .nil .nil)) (.node (o97 P) (.node (o161 P) .nil .nil) .nil)) (.node (o49 P) (.node (o81 P) (.node (o145 P) .nil .nil) .nil) (.node (o113 P) (.node (o177 P) .nil .nil) .nil))) (.node (o25 P) (.node (o41 P) (.node (o73 P) (.node (o137 P) .nil .nil) (.node (o201 P) .nil .nil)) (.node (o105 P) (.node (o169 P) .nil .nil) .nil)) (.node (o57 P) (.node (o89 P) (.node (o153 P) .nil .nil) .nil) (.node (o121 P) (.node (o185 P) .nil .nil) .nil)))) (.node (o13 P) (.node (o21 P) (.node (o37 P) (.node (o69 P) (.node (o133 P) .nil .nil) (.node (o197 P) .nil .nil)) (.node (o101 P) (.node (o165 P) .nil .nil) .nil)) (.node (o53 P) (.node (o85 P) (.node (o149 P) .nil .nil) .nil) (.node (o117 P) (.node (o181 P) .nil .nil) .nil))) (.node (o29 P) (.node (o45 P) (.node (o77 P) (.node (o141 P) .nil .nil) .nil) (.node (o109 P) (.node (o173 P) .nil .nil) .nil)) (.node (o61 P) (.node (o93 P) (.node (o157 P) .nil .nil) .nil) (.node (o125 P) (.node (o189 P) .nil .nil) .nil)))))) (.node (o2v2 P) (.node (boot_o_4 P) (.node (boot_o_8 P) (.node (o16 P) (.node (o32 P) (.node (o64 P) (.node (o128 P) .nil .nil) (.node (o192 P) .nil .nil)) (.node (o96 P) (.node (o160 P) .nil .nil) .nil)) (.node (o48 P) (.node (o80 P) (.node (o144 P) .nil .nil) .nil) (.node (o112 P) (.node (o176 P) .nil .nil) .nil))) (.node (o24 P) (.node (o40 P) (.node (o72 P) (.node (o136 P) .nil .nil) (.node (o200 P) .nil .nil)) (.node (o104 P) (.node (o168 P) .nil .nil) .nil)) (.node (o56 P) (.node (o88 P) (.node (o152 P) .nil .nil) .nil) (.node (o120 P) (.node (o184 P) .nil .nil) .nil)))) (.node (o12v15 P) (.node (o20 P) (.node (o36 P) (.node (o68 P) (.node (o132 P) .nil .nil) (.node (o196 P) .nil .nil)) (.node (o100 P) (.node (o164 P) .nil .nil) .nil)) (.node (o52 P) (.node (o84 P) (.node (o148 P) .nil .nil) .nil) (.node (o116 P) (.node (o180 P) .nil .nil) .nil))) (.node (o28 P) (.node (o44 P) (.node (o76 P) (.node (o140 P) .nil .nil) (.node (o204 P) .nil .nil)) (.node (o108 P) (.node (o172 P) .nil .nil) .nil)) (.node (o60 P) (.node (o92 P) (.node (o156 P) .nil .nil) .nil) (.node (o124 P) (.node (o188 P) .nil .nil) .nil))))) (.node (boot_o_6 P) (.node (boot_o_10 P) (.node (o18 P) (.node (o34 P) (.node (o66 P) (.node (o130 P) .nil .nil) (.node (o194 P) .nil .nil)) (.node (o98 P) (.node (o162 P) .nil .nil) .nil)) (.node (o50 P) (.node (o82 P) (.node (o146 P) .nil .nil) .nil) (.node (o114 P) (.node (o178 P) .nil .nil) .nil))) (.node (o26 P) (.node (o42 P) (.node (o74 P) (.node (o138 P) .nil .nil) (.node (o202 P) .nil .nil)) (.node (o106 P) (.node (o170 P) .nil .nil) .nil)) (.node (o58 P) (.node (o90 P) (.node (o154 P) .nil .nil) .nil) (.node (o122 P) (.node (o186 P) .nil .nil) .nil)))) (.node (o14 P) (.node (o22 P) (.node (o38 P) (.node (o70 P) (.node (o134 P) .nil .nil) (.node (o198 P) .nil .nil)) (.node (o102 P) (.node (o166 P) .nil .nil) .nil)) (.node (o54 P) (.node (o86 P) (.node (o150 P) .nil .nil) .nil) (.node (o118 P) (.node (o182 P) .nil .nil) .nil))) (.node (o30 P) (.node (o46 P) (.node (o78 P) (.node (o142 P) .nil .nil) .nil) (.node (o110 P) (.node (o174 P) .nil .nil) .nil)) (.node (o62 P) (.node (o94 P) (.node (o158 P) .nil .nil) .nil) (.node (o126 P) (.node (o190 P) .nil .nil) .nil)))))))
noncomputable def o3v16 (P : Params) : Obj := ⟨(.type "dict"), none, (.dict #[⟨kh P "__name__", (.str "__name__" 165), (.str "law_tr0065_02" 2369)⟩, ⟨kh P "__doc__", (.str "__doc__" 166), .none⟩, ⟨kh P "__package__", (.str "__package__" 167), .none⟩, ⟨kh P "__loader__", (.str "__loader__" 168), (.builtin "__main__.__loader__#opaque")⟩, ⟨kh P "__spec__", (.str "__spec__" 169), .none⟩, ⟨kh P "__annotations__", (.str "__annotations__" 170), (.ref 6)⟩, ⟨kh P "__builtins__", (.str "__builtins__" 171), (.ref 4)⟩, ⟨kh P "__file__", (.str "__file__" 173), (.str "/claim/cut.py" 172)⟩, ⟨kh P "__cached__", (.str "__cached__" 174), .none⟩, ⟨kh P "_wall", (.str "_wall" 193), (.ref 21)⟩, ⟨kh P "Error", (.str "Error" 215), (.ref 31)⟩, ⟨kh P "error_reply", (.str "error_reply" 231), (.ref 44)⟩, ⟨kh P "parse257", (.str "parse257" 242), (.ref 53)⟩, ⟨kh P "b1_set", (.str "b1_set" 304), (.ref 61)⟩, ⟨kh P "in_table_b1", (.str "in_table_b1" 311), (.ref 71)⟩, ⟨kh P "b3_exceptions", (.str "b3_exceptions" 2262), (.ref 72)⟩, ⟨kh P "map_table_b3", (.str "map_table_b3" 2270), (.ref 117)⟩, ⟨kh P "Whitespace", (.str "Whitespace" 2368), (.ref 179)⟩, ⟨kh P "_law_number", (.str "_law_number" 2379), (.ref 190)⟩, ⟨kh P "_law_typed", (.str "_law_typed" 2392), (.ref 197)⟩, ⟨kh P "_law_listed", (.str "_law_listed" 2405), (.ref 204)⟩, ⟨kh P "_law_gone", (.str "_law_gone" 2416), (.ref 211)⟩] 22), #[]⟩
noncomputable def o12v16 (P : Params) : Obj := ⟨.none, none, (.fields #[(.int 1 0), (.int 0 0), (.ref 20), (.int 5 0), (.int 0 0), (.ref 27), (.int 7 0), (.int 0 0), (.ref 40), (.int 9 0), (.int 0 0), (.ref 52), (.int 28 0), (.int 0 0), (.ref 70), (.int 31 0), (.int 0 0), (.ref 116), (.int 37 0), (.int 0 0), (.ref 123), (.int 85 0), (.int 0 0), (.ref 189), (.int 88 0), (.int 0 0), (.ref 196), (.int 97 0), (.int 0 0), (.ref 203), (.int 106 0), (.int 0 0), (.ref 210)]), #[]⟩
noncomputable def o205 (P : Params) : Obj := ⟨(.type "tuple"), none, (.seq #[] 0), #[]⟩
noncomputable def o206 (P : Params) : Obj := ⟨.none, none, (.fields #[]), #[]⟩
noncomputable def o207 (P : Params) : Obj := ⟨(.type "tuple"), none, (.seq #[(.str "n" 2409), (.str "every" 2410), (.str "ring" 2411), (.str "gone" 2412), (.str "at" 2413)] 0), #[]⟩
noncomputable def o208 (P : Params) : Obj := ⟨(.type "tuple"), none, (.seq #[] 0), #[]⟩
noncomputable def o209 (P : Params) : Obj := ⟨.none, none, (.func ⟨"_law_gone", "_law_gone", fArgs (st 16), .stmts (fBody (st 16)), fScope (st 16), 0, [], .none, .none, .none, .none, none, .none, .none, 0⟩), #[]⟩
noncomputable def o210 (P : Params) : Obj := ⟨(.type "code"), none, (.fields #[(.str "_law_gone" 2406), (.str "_law_gone" 2407), (.str "/claim/cut.py" 2408), (.int 106 0), (.int 2 0), (.int 0 0), (.int 0 0), (.int 3 0), (.ref 205), (.bool true), (.int 181 0), (.ref 206), .none, (.ref 207), (.ref 208), (.ref 209), (.int 2414 0), (.int 106 0), (.str "/claim/cut.py" 2415)]), #[]⟩
noncomputable def o211 (P : Params) : Obj := ⟨(.type "function"), none, (.func ⟨"_law_gone", "_law_gone", fArgs (st 16), .stmts (fBody (st 16)), fScope (st 16), 3, [], .none, .none, .none, (.str "law_tr0065_02" 2369), none, (.ref 210), .none, 0⟩), #[]⟩
noncomputable def t16 (P : Params) : BT := (.node (boot_o_0 P) (.node (boot_o_1 P) (.node (o3v16 P) (.node (boot_o_7 P) (.node (o15 P) (.node (o31v3 P) (.node (o63 P) (.node (o127 P) .nil .nil) (.node (o191 P) .nil .nil)) (.node (o95 P) (.node (o159 P) .nil .nil) .nil)) (.node (o47 P) (.node (o79 P) (.node (o143 P) .nil .nil) (.node (o207 P) .nil .nil)) (.node (o111 P) (.node (o175 P) .nil .nil) .nil))) (.node (o23 P) (.node (o39 P) (.node (o71 P) (.node (o135 P) .nil .nil) (.node (o199 P) .nil .nil)) (.node (o103 P) (.node (o167 P) .nil .nil) .nil)) (.node (o55 P) (.node (o87 P) (.node (o151 P) .nil .nil) .nil) (.node (o119 P) (.node (o183 P) .nil .nil) .nil)))) (.node (o11 P) (.node (o19 P) (.node (o35 P) (.node (o67 P) (.node (o131 P) .nil .nil) (.node (o195 P) .nil .nil)) (.node (o99 P) (.node (o163 P) .nil .nil) .nil)) (.node (o51 P) (.node (o83 P) (.node (o147 P) .nil .nil) (.node (o211 P) .nil .nil)) (.node (o115 P) (.node (o179 P) .nil .nil) .nil))) (.node (o27 P) (.node (o43 P) (.node (o75 P) (.node (o139 P) .nil .nil) (.node (o203 P) .nil .nil)) (.node (o107 P) (.node (o171 P) .nil .nil) .nil)) (.node (o59 P) (.node (o91 P) (.node (o155 P) .nil .nil) .nil) (.node (o123 P) (.node (o187 P) .nil .nil) .nil))))) (.node (boot_o_5 P) (.node (boot_o_9 P) (.node (o17 P) (.node (o33 P) (.node (o65 P) (.node (o129 P) .nil .nil) (.node (o193 P) .nil .nil)) (.node (o97 P) (.node (o161 P) .nil .nil) .nil)) (.node (o49 P) (.node (o81 P) (.node (o145 P) .nil .nil) (.node (o209 P) .nil .nil)) (.node (o113 P) (.node (o177 P) .nil .nil) .nil))) (.node (o25 P) (.node (o41 P) (.node (o73 P) (.node (o137 P) .nil .nil) (.node (o201 P) .nil .nil)) (.node (o105 P) (.node (o169 P) .nil .nil) .nil)) (.node (o57 P) (.node (o89 P) (.node (o153 P) .nil .nil) .nil) (.node (o121 P) (.node (o185 P) .nil .nil) .nil)))) (.node (o13 P) (.node (o21 P) (.node (o37 P) (.node (o69 P) (.node (o133 P) .nil .nil) (.node (o197 P) .nil .nil)) (.node (o101 P) (.node (o165 P) .nil .nil) .nil)) (.node (o53 P) (.node (o85 P) (.node (o149 P) .nil .nil) .nil) (.node (o117 P) (.node (o181 P) .nil .nil) .nil))) (.node (o29 P) (.node (o45 P) (.node (o77 P) (.node (o141 P) .nil .nil) (.node (o205 P) .nil .nil)) (.node (o109 P) (.node (o173 P) .nil .nil) .nil)) (.node (o61 P) (.node (o93 P) (.node (o157 P) .nil .nil) .nil) (.node (o125 P) (.node (o189 P) .nil .nil) .nil)))))) (.node (o2v2 P) (.node (boot_o_4 P) (.node (boot_o_8 P) (.node (o16 P) (.node (o32 P) (.node (o64 P) (.node (o128 P) .nil .nil) (.node (o192 P) .nil .nil)) (.node (o96 P) (.node (o160 P) .nil .nil) .nil)) (.node (o48 P) (.node (o80 P) (.node (o144 P) .nil .nil) (.node (o208 P) .nil .nil)) (.node (o112 P) (.node (o176 P) .nil .nil) .nil))) (.node (o24 P) (.node (o40 P) (.node (o72 P) (.node (o136 P) .nil .nil) (.node (o200 P) .nil .nil)) (.node (o104 P) (.node (o168 P) .nil .nil) .nil)) (.node (o56 P) (.node (o88 P) (.node (o152 P) .nil .nil) .nil) (.node (o120 P) (.node (o184 P) .nil .nil) .nil)))) (.node (o12v16 P) (.node (o20 P) (.node (o36 P) (.node (o68 P) (.node (o132 P) .nil .nil) (.node (o196 P) .nil .nil)) (.node (o100 P) (.node (o164 P) .nil .nil) .nil)) (.node (o52 P) (.node (o84 P) (.node (o148 P) .nil .nil) .nil) (.node (o116 P) (.node (o180 P) .nil .nil) .nil))) (.node (o28 P) (.node (o44 P) (.node (o76 P) (.node (o140 P) .nil .nil) (.node (o204 P) .nil .nil)) (.node (o108 P) (.node (o172 P) .nil .nil) .nil)) (.node (o60 P) (.node (o92 P) (.node (o156 P) .nil .nil) .nil) (.node (o124 P) (.node (o188 P) .nil .nil) .nil))))) (.node (boot_o_6 P) (.node (boot_o_10 P) (.node (o18 P) (.node (o34 P) (.node (o66 P) (.node (o130 P) .nil .nil) (.node (o194 P) .nil .nil)) (.node (o98 P) (.node (o162 P) .nil .nil) .nil)) (.node (o50 P) (.node (o82 P) (.node (o146 P) .nil .nil) (.node (o210 P) .nil .nil)) (.node (o114 P) (.node (o178 P) .nil .nil) .nil))) (.node (o26 P) (.node (o42 P) (.node (o74 P) (.node (o138 P) .nil .nil) (.node (o202 P) .nil .nil)) (.node (o106 P) (.node (o170 P) .nil .nil) .nil)) (.node (o58 P) (.node (o90 P) (.node (o154 P) .nil .nil) .nil) (.node (o122 P) (.node (o186 P) .nil .nil) .nil)))) (.node (o14 P) (.node (o22 P) (.node (o38 P) (.node (o70 P) (.node (o134 P) .nil .nil) (.node (o198 P) .nil .nil)) (.node (o102 P) (.node (o166 P) .nil .nil) .nil)) (.node (o54 P) (.node (o86 P) (.node (o150 P) .nil .nil) .nil) (.node (o118 P) (.node (o182 P) .nil .nil) .nil))) (.node (o30 P) (.node (o46 P) (.node (o78 P) (.node (o142 P) .nil .nil) (.node (o206 P) .nil .nil)) (.node (o110 P) (.node (o174 P) .nil .nil) .nil)) (.node (o62 P) (.node (o94 P) (.node (o158 P) .nil .nil) .nil) (.node (o126 P) (.node (o190 P) .nil .nil) .nil)))))))
noncomputable def o3v17 (P : Params) : Obj := ⟨(.type "dict"), none, (.dict #[⟨kh P "__name__", (.str "__name__" 165), (.str "law_tr0065_02" 2369)⟩, ⟨kh P "__doc__", (.str "__doc__" 166), .none⟩, ⟨kh P "__package__", (.str "__package__" 167), .none⟩, ⟨kh P "__loader__", (.str "__loader__" 168), (.builtin "__main__.__loader__#opaque")⟩, ⟨kh P "__spec__", (.str "__spec__" 169), .none⟩, ⟨kh P "__annotations__", (.str "__annotations__" 170), (.ref 6)⟩, ⟨kh P "__builtins__", (.str "__builtins__" 171), (.ref 4)⟩, ⟨kh P "__file__", (.str "__file__" 173), (.str "/claim/cut.py" 172)⟩, ⟨kh P "__cached__", (.str "__cached__" 174), .none⟩, ⟨kh P "_wall", (.str "_wall" 193), (.ref 21)⟩, ⟨kh P "Error", (.str "Error" 215), (.ref 31)⟩, ⟨kh P "error_reply", (.str "error_reply" 231), (.ref 44)⟩, ⟨kh P "parse257", (.str "parse257" 242), (.ref 53)⟩, ⟨kh P "b1_set", (.str "b1_set" 304), (.ref 61)⟩, ⟨kh P "in_table_b1", (.str "in_table_b1" 311), (.ref 71)⟩, ⟨kh P "b3_exceptions", (.str "b3_exceptions" 2262), (.ref 72)⟩, ⟨kh P "map_table_b3", (.str "map_table_b3" 2270), (.ref 117)⟩, ⟨kh P "Whitespace", (.str "Whitespace" 2368), (.ref 179)⟩, ⟨kh P "_law_number", (.str "_law_number" 2379), (.ref 190)⟩, ⟨kh P "_law_typed", (.str "_law_typed" 2392), (.ref 197)⟩, ⟨kh P "_law_listed", (.str "_law_listed" 2405), (.ref 204)⟩, ⟨kh P "_law_gone", (.str "_law_gone" 2416), (.ref 211)⟩, ⟨kh P "law", (.str "law" 2422), (.ref 216)⟩] 23), #[]⟩
noncomputable def o12v17 (P : Params) : Obj := ⟨.none, none, (.fields #[(.int 1 0), (.int 0 0), (.ref 20), (.int 5 0), (.int 0 0), (.ref 27), (.int 7 0), (.int 0 0), (.ref 40), (.int 9 0), (.int 0 0), (.ref 52), (.int 28 0), (.int 0 0), (.ref 70), (.int 31 0), (.int 0 0), (.ref 116), (.int 37 0), (.int 0 0), (.ref 123), (.int 85 0), (.int 0 0), (.ref 189), (.int 88 0), (.int 0 0), (.ref 196), (.int 97 0), (.int 0 0), (.ref 203), (.int 106 0), (.int 0 0), (.ref 210), (.int 115 0), (.int 0 0), (.ref 215)]), #[]⟩
noncomputable def o212 (P : Params) : Obj := ⟨(.type "tuple"), none, (.seq #[] 0), #[]⟩
noncomputable def o213 (P : Params) : Obj := ⟨.none, none, (.fields #[]), #[]⟩
noncomputable def o214 (P : Params) : Obj := ⟨.none, none, (.func ⟨"law", "law", fArgs (st 17), .stmts (fBody (st 17)), fScope (st 17), 0, [], .none, .none, .none, .none, none, .none, .none, 0⟩), #[]⟩
noncomputable def o215 (P : Params) : Obj := ⟨(.type "code"), none, (.fields #[(.str "law" 2417), (.str "law" 2418), (.str "/claim/cut.py" 2419), (.int 115 0), (.int 1 0), (.int 0 0), (.int 0 0), (.int 3 0), (.ref 212), (.bool true), (.int 181 0), (.ref 213), .none, .none, .none, (.ref 214), (.int 2420 0), (.int 115 0), (.str "/claim/cut.py" 2421)]), #[]⟩
noncomputable def o216 (P : Params) : Obj := ⟨(.type "function"), none, (.func ⟨"law", "law", fArgs (st 17), .stmts (fBody (st 17)), fScope (st 17), 3, [], .none, .none, .none, (.str "law_tr0065_02" 2369), none, (.ref 215), .none, 0⟩), #[]⟩
noncomputable def t17 (P : Params) : BT := (.node (boot_o_0 P) (.node (boot_o_1 P) (.node (o3v17 P) (.node (boot_o_7 P) (.node (o15 P) (.node (o31v3 P) (.node (o63 P) (.node (o127 P) .nil .nil) (.node (o191 P) .nil .nil)) (.node (o95 P) (.node (o159 P) .nil .nil) .nil)) (.node (o47 P) (.node (o79 P) (.node (o143 P) .nil .nil) (.node (o207 P) .nil .nil)) (.node (o111 P) (.node (o175 P) .nil .nil) .nil))) (.node (o23 P) (.node (o39 P) (.node (o71 P) (.node (o135 P) .nil .nil) (.node (o199 P) .nil .nil)) (.node (o103 P) (.node (o167 P) .nil .nil) .nil)) (.node (o55 P) (.node (o87 P) (.node (o151 P) .nil .nil) (.node (o215 P) .nil .nil)) (.node (o119 P) (.node (o183 P) .nil .nil) .nil)))) (.node (o11 P) (.node (o19 P) (.node (o35 P) (.node (o67 P) (.node (o131 P) .nil .nil) (.node (o195 P) .nil .nil)) (.node (o99 P) (.node (o163 P) .nil .nil) .nil)) (.node (o51 P) (.node (o83 P) (.node (o147 P) .nil .nil) (.node (o211 P) .nil .nil)) (.node (o115 P) (.node (o179 P) .nil .nil) .nil))) (.node (o27 P) (.node (o43 P) (.node (o75 P) (.node (o139 P) .nil .nil) (.node (o203 P) .nil .nil)) (.node (o107 P) (.node (o171 P) .nil .nil) .nil)) (.node (o59 P) (.node (o91 P) (.node (o155 P) .nil .nil) .nil) (.node (o123 P) (.node (o187 P) .nil .nil) .nil))))) (.node (boot_o_5 P) (.node (boot_o_9 P) (.node (o17 P) (.node (o33 P) (.node (o65 P) (.node (o129 P) .nil .nil) (.node (o193 P) .nil .nil)) (.node (o97 P) (.node (o161 P) .nil .nil) .nil)) (.node (o49 P) (.node (o81 P) (.node (o145 P) .nil .nil) (.node (o209 P) .nil .nil)) (.node (o113 P) (.node (o177 P) .nil .nil) .nil))) (.node (o25 P) (.node (o41 P) (.node (o73 P) (.node (o137 P) .nil .nil) (.node (o201 P) .nil .nil)) (.node (o105 P) (.node (o169 P) .nil .nil) .nil)) (.node (o57 P) (.node (o89 P) (.node (o153 P) .nil .nil) .nil) (.node (o121 P) (.node (o185 P) .nil .nil) .nil)))) (.node (o13 P) (.node (o21 P) (.node (o37 P) (.node (o69 P) (.node (o133 P) .nil .nil) (.node (o197 P) .nil .nil)) (.node (o101 P) (.node (o165 P) .nil .nil) .nil)) (.node (o53 P) (.node (o85 P) (.node (o149 P) .nil .nil) (.node (o213 P) .nil .nil)) (.node (o117 P) (.node (o181 P) .nil .nil) .nil))) (.node (o29 P) (.node (o45 P) (.node (o77 P) (.node (o141 P) .nil .nil) (.node (o205 P) .nil .nil)) (.node (o109 P) (.node (o173 P) .nil .nil) .nil)) (.node (o61 P) (.node (o93 P) (.node (o157 P) .nil .nil) .nil) (.node (o125 P) (.node (o189 P) .nil .nil) .nil)))))) (.node (o2v2 P) (.node (boot_o_4 P) (.node (boot_o_8 P) (.node (o16 P) (.node (o32 P) (.node (o64 P) (.node (o128 P) .nil .nil) (.node (o192 P) .nil .nil)) (.node (o96 P) (.node (o160 P) .nil .nil) .nil)) (.node (o48 P) (.node (o80 P) (.node (o144 P) .nil .nil) (.node (o208 P) .nil .nil)) (.node (o112 P) (.node (o176 P) .nil .nil) .nil))) (.node (o24 P) (.node (o40 P) (.node (o72 P) (.node (o136 P) .nil .nil) (.node (o200 P) .nil .nil)) (.node (o104 P) (.node (o168 P) .nil .nil) .nil)) (.node (o56 P) (.node (o88 P) (.node (o152 P) .nil .nil) (.node (o216 P) .nil .nil)) (.node (o120 P) (.node (o184 P) .nil .nil) .nil)))) (.node (o12v17 P) (.node (o20 P) (.node (o36 P) (.node (o68 P) (.node (o132 P) .nil .nil) (.node (o196 P) .nil .nil)) (.node (o100 P) (.node (o164 P) .nil .nil) .nil)) (.node (o52 P) (.node (o84 P) (.node (o148 P) .nil .nil) (.node (o212 P) .nil .nil)) (.node (o116 P) (.node (o180 P) .nil .nil) .nil))) (.node (o28 P) (.node (o44 P) (.node (o76 P) (.node (o140 P) .nil .nil) (.node (o204 P) .nil .nil)) (.node (o108 P) (.node (o172 P) .nil .nil) .nil)) (.node (o60 P) (.node (o92 P) (.node (o156 P) .nil .nil) .nil) (.node (o124 P) (.node (o188 P) .nil .nil) .nil))))) (.node (boot_o_6 P) (.node (boot_o_10 P) (.node (o18 P) (.node (o34 P) (.node (o66 P) (.node (o130 P) .nil .nil) (.node (o194 P) .nil .nil)) (.node (o98 P) (.node (o162 P) .nil .nil) .nil)) (.node (o50 P) (.node (o82 P) (.node (o146 P) .nil .nil) (.node (o210 P) .nil .nil)) (.node (o114 P) (.node (o178 P) .nil .nil) .nil))) (.node (o26 P) (.node (o42 P) (.node (o74 P) (.node (o138 P) .nil .nil) (.node (o202 P) .nil .nil)) (.node (o106 P) (.node (o170 P) .nil .nil) .nil)) (.node (o58 P) (.node (o90 P) (.node (o154 P) .nil .nil) .nil) (.node (o122 P) (.node (o186 P) .nil .nil) .nil)))) (.node (o14 P) (.node (o22 P) (.node (o38 P) (.node (o70 P) (.node (o134 P) .nil .nil) (.node (o198 P) .nil .nil)) (.node (o102 P) (.node (o166 P) .nil .nil) .nil)) (.node (o54 P) (.node (o86 P) (.node (o150 P) .nil .nil) (.node (o214 P) .nil .nil)) (.node (o118 P) (.node (o182 P) .nil .nil) .nil))) (.node (o30 P) (.node (o46 P) (.node (o78 P) (.node (o142 P) .nil .nil) (.node (o206 P) .nil .nil)) (.node (o110 P) (.node (o174 P) .nil .nil) .nil)) (.node (o62 P) (.node (o94 P) (.node (o158 P) .nil .nil) .nil) (.node (o126 P) (.node (o190 P) .nil .nil) .nil)))))))
noncomputable def objsF (P : Params) : List Obj := [(boot_o_0 P), (boot_o_1 P), (o2v2 P), (o3v17 P), (boot_o_4 P), (boot_o_5 P), (boot_o_6 P), (boot_o_7 P), (boot_o_8 P), (boot_o_9 P), (boot_o_10 P), (o11 P), (o12v17 P), (o13 P), (o14 P), (o15 P), (o16 P), (o17 P), (o18 P), (o19 P), (o20 P), (o21 P), (o22 P), (o23 P), (o24 P), (o25 P), (o26 P), (o27 P), (o28 P), (o29 P), (o30 P), (o31v3 P), (o32 P), (o33 P), (o34 P), (o35 P), (o36 P), (o37 P), (o38 P), (o39 P), (o40 P), (o41 P), (o42 P), (o43 P), (o44 P), (o45 P), (o46 P), (o47 P), (o48 P), (o49 P), (o50 P), (o51 P), (o52 P), (o53 P), (o54 P), (o55 P), (o56 P), (o57 P), (o58 P), (o59 P), (o60 P), (o61 P), (o62 P), (o63 P), (o64 P), (o65 P), (o66 P), (o67 P), (o68 P), (o69 P), (o70 P), (o71 P), (o72 P), (o73 P), (o74 P), (o75 P), (o76 P), (o77 P), (o78 P), (o79 P), (o80 P), (o81 P), (o82 P), (o83 P), (o84 P), (o85 P), (o86 P), (o87 P), (o88 P), (o89 P), (o90 P), (o91 P), (o92 P), (o93 P), (o94 P), (o95 P), (o96 P), (o97 P), (o98 P), (o99 P), (o100 P), (o101 P), (o102 P), (o103 P), (o104 P), (o105 P), (o106 P), (o107 P), (o108 P), (o109 P), (o110 P), (o111 P), (o112 P), (o113 P), (o114 P), (o115 P), (o116 P), (o117 P), (o118 P), (o119 P), (o120 P), (o121 P), (o122 P), (o123 P), (o124 P), (o125 P), (o126 P), (o127 P), (o128 P), (o129 P), (o130 P), (o131 P), (o132 P), (o133 P), (o134 P), (o135 P), (o136 P), (o137 P), (o138 P), (o139 P), (o140 P), (o141 P), (o142 P), (o143 P), (o144 P), (o145 P), (o146 P), (o147 P), (o148 P), (o149 P), (o150 P), (o151 P), (o152 P), (o153 P), (o154 P), (o155 P), (o156 P), (o157 P), (o158 P), (o159 P), (o160 P), (o161 P), (o162 P), (o163 P), (o164 P), (o165 P), (o166 P), (o167 P), (o168 P), (o169 P), (o170 P), (o171 P), (o172 P), (o173 P), (o174 P), (o175 P), (o176 P), (o177 P), (o178 P), (o179 P), (o180 P), (o181 P), (o182 P), (o183 P), (o184 P), (o185 P), (o186 P), (o187 P), (o188 P), (o189 P), (o190 P), (o191 P), (o192 P), (o193 P), (o194 P), (o195 P), (o196 P), (o197 P), (o198 P), (o199 P), (o200 P), (o201 P), (o202 P), (o203 P), (o204 P), (o205 P), (o206 P), (o207 P), (o208 P), (o209 P), (o210 P), (o211 P), (o212 P), (o213 P), (o214 P), (o215 P), (o216 P)]
noncomputable def K (P : Params) : Frag := (nat_lit 2, (o2v2 P)) :: (nat_lit 3, (o3v17 P)) :: (nat_lit 15, (o15 P)) :: (nat_lit 17, (o17 P)) :: (nat_lit 18, (o18 P)) :: (nat_lit 20, (o20 P)) :: (nat_lit 21, (o21 P)) :: (nat_lit 22, (o22 P)) :: (nat_lit 29, (o29 P)) :: (nat_lit 30, (o30 P)) :: (nat_lit 31, (o31v3 P)) :: (nat_lit 32, (o32 P)) :: (nat_lit 35, (o35 P)) :: (nat_lit 42, (o42 P)) :: (nat_lit 43, (o43 P)) :: (nat_lit 44, (o44 P)) :: (nat_lit 47, (o47 P)) :: (nat_lit 49, (o49 P)) :: (nat_lit 50, (o50 P)) :: (nat_lit 52, (o52 P)) :: (nat_lit 53, (o53 P)) :: (nat_lit 61, (o61 P)) :: (nat_lit 65, (o65 P)) :: (nat_lit 67, (o67 P)) :: (nat_lit 68, (o68 P)) :: (nat_lit 70, (o70 P)) :: (nat_lit 71, (o71 P)) :: (nat_lit 72, (o72 P)) :: (nat_lit 111, (o111 P)) :: (nat_lit 113, (o113 P)) :: (nat_lit 114, (o114 P)) :: (nat_lit 116, (o116 P)) :: (nat_lit 117, (o117 P)) :: (nat_lit 128, (o128 P)) :: (nat_lit 130, (o130 P)) :: (nat_lit 131, (o131 P)) :: (nat_lit 133, (o133 P)) :: (nat_lit 134, (o134 P)) :: (nat_lit 135, (o135 P)) :: (nat_lit 137, (o137 P)) :: (nat_lit 138, (o138 P)) :: (nat_lit 140, (o140 P)) :: (nat_lit 141, (o141 P)) :: (nat_lit 142, (o142 P)) :: (nat_lit 144, (o144 P)) :: (nat_lit 145, (o145 P)) :: (nat_lit 147, (o147 P)) :: (nat_lit 148, (o148 P)) :: (nat_lit 149, (o149 P)) :: (nat_lit 151, (o151 P)) :: (nat_lit 152, (o152 P)) :: (nat_lit 154, (o154 P)) :: (nat_lit 155, (o155 P)) :: (nat_lit 156, (o156 P)) :: (nat_lit 158, (o158 P)) :: (nat_lit 159, (o159 P)) :: (nat_lit 161, (o161 P)) :: (nat_lit 162, (o162 P)) :: (nat_lit 163, (o163 P)) :: (nat_lit 165, (o165 P)) :: (nat_lit 166, (o166 P)) :: (nat_lit 168, (o168 P)) :: (nat_lit 169, (o169 P)) :: (nat_lit 170, (o170 P)) :: (nat_lit 172, (o172 P)) :: (nat_lit 173, (o173 P)) :: (nat_lit 175, (o175 P)) :: (nat_lit 176, (o176 P)) :: (nat_lit 177, (o177 P)) :: (nat_lit 178, (o178 P)) :: (nat_lit 179, (o179 P)) :: (nat_lit 180, (o180 P)) :: (nat_lit 181, (o181 P)) :: (nat_lit 184, (o184 P)) :: (nat_lit 186, (o186 P)) :: (nat_lit 187, (o187 P)) :: (nat_lit 189, (o189 P)) :: (nat_lit 190, (o190 P)) :: (nat_lit 191, (o191 P)) :: (nat_lit 193, (o193 P)) :: (nat_lit 194, (o194 P)) :: (nat_lit 196, (o196 P)) :: (nat_lit 197, (o197 P)) :: (nat_lit 198, (o198 P)) :: (nat_lit 200, (o200 P)) :: (nat_lit 201, (o201 P)) :: (nat_lit 203, (o203 P)) :: (nat_lit 204, (o204 P)) :: (nat_lit 205, (o205 P)) :: (nat_lit 207, (o207 P)) :: (nat_lit 208, (o208 P)) :: (nat_lit 210, (o210 P)) :: (nat_lit 211, (o211 P)) :: (nat_lit 212, (o212 P)) :: (nat_lit 215, (o215 P)) :: (nat_lit 216, (o216 P)) :: []
noncomputable def kAs : List Nat := [nat_lit 2, nat_lit 3, nat_lit 15, nat_lit 17, nat_lit 18, nat_lit 20, nat_lit 21, nat_lit 22, nat_lit 29, nat_lit 30, nat_lit 31, nat_lit 32, nat_lit 35, nat_lit 42, nat_lit 43, nat_lit 44, nat_lit 47, nat_lit 49, nat_lit 50, nat_lit 52, nat_lit 53, nat_lit 61, nat_lit 65, nat_lit 67, nat_lit 68, nat_lit 70, nat_lit 71, nat_lit 72, nat_lit 111, nat_lit 113, nat_lit 114, nat_lit 116, nat_lit 117, nat_lit 128, nat_lit 130, nat_lit 131, nat_lit 133, nat_lit 134, nat_lit 135, nat_lit 137, nat_lit 138, nat_lit 140, nat_lit 141, nat_lit 142, nat_lit 144, nat_lit 145, nat_lit 147, nat_lit 148, nat_lit 149, nat_lit 151, nat_lit 152, nat_lit 154, nat_lit 155, nat_lit 156, nat_lit 158, nat_lit 159, nat_lit 161, nat_lit 162, nat_lit 163, nat_lit 165, nat_lit 166, nat_lit 168, nat_lit 169, nat_lit 170, nat_lit 172, nat_lit 173, nat_lit 175, nat_lit 176, nat_lit 177, nat_lit 178, nat_lit 179, nat_lit 180, nat_lit 181, nat_lit 184, nat_lit 186, nat_lit 187, nat_lit 189, nat_lit 190, nat_lit 191, nat_lit 193, nat_lit 194, nat_lit 196, nat_lit 197, nat_lit 198, nat_lit 200, nat_lit 201, nat_lit 203, nat_lit 204, nat_lit 205, nat_lit 207, nat_lit 208, nat_lit 210, nat_lit 211, nat_lit 212, nat_lit 215, nat_lit 216]
noncomputable def envE : Env := { scope := pr.main.scope, locals := mainNs, globals := mainNs, cells := [], code := .ref 13, frame := some 14 }
noncomputable def cE : Code := .body (behindTheImports pr) envE
abbrev bB : List Frame := [topFrame ⟨0, 0, 0, 0⟩]
abbrev S (t : Params → BT) (n tk : Nat) (w : World) (os : OsState) : SharedT := ⟨t w.params, n, {}, #[], {}, tk, os⟩
noncomputable def q : Program := { pr with main := { pr.main with body := [st 0, st 2, st 3, st 4, st 7, st 9, st 11, st 13, st 14, st 15, st 16, st 17] } }
noncomputable def loose : List Str := [Str.ofString "b1_set", Str.ofString "b3_exceptions", Str.ofString "Whitespace"]
noncomputable def hF (P : Params) : Heap := ⟨(objsF P).toArray, {}⟩
end Hd
end
end
section
open PySem PySem.W PySem.Calls PyProof.Rows
set_option maxRecDepth 100000
noncomputable section
namespace Hd
abbrev gg (w : World) (n : Nat) (s : Shared) (t : Thread) : Option (Shared × Thread) := segGo treeTable pr w 11 (some (.ref 6)) 1 n s t
theorem gg_add {w : World} : ∀ {n m : Nat} {s s₁ : Shared} {t t₁ : Thread} {r}, gg w n s t = some (s₁, t₁) → gg w m s₁ t₁ = some r → gg w (n + m) s t = some r
  | 0, m, s, s₁, t, t₁, r, h, k => by
    obtain ⟨rfl, rfl⟩ : s = s₁ ∧ t = t₁ := by simpa [gg, segGo] using h
    rw [Nat.zero_add]; exact k
  | n + 1, m, s, s₁, t, t₁, r, h, k => by
    rw [show n + 1 + m = n + m + 1 by omega]
    unfold gg segGo at h ⊢
    cases he : endAt 1 t with
    | some f => rw [he] at h; cases h
    | none =>
      rw [he] at h
      cases hk : stepOk 11 (some (.ref 6)) t with
      | false => rw [hk] at h; cases h
      | true =>
        rw [hk] at h
        cases hs : step (denote treeTable) pr w s t with
        | halt o s₂ => rw [hs] at h; cases h
        | go s₂ t₂ => rw [hs] at h; exact gg_add h k
theorem gg_step {w : World} {n : Nat} {s s₁ : Shared} {t t₁ : Thread} {r} (he : endAt 1 t = none) (hk : stepOk 11 (some (.ref 6)) t = true)
    (hs : step (denote treeTable) pr w s t = .go s₁ t₁) (h : gg w n s₁ t₁ = some r) : gg w (n + 1) s t = some r := by
  unfold gg segGo; rw [he, hk, hs]; exact h

noncomputable def Run {α : Type} (w : World) (n : Nat) (s : Shared) (p : Pos) (x : Sem α) (a : α) (s' : Shared) (p' : Pos) : Prop :=
  ∀ (K : α → Sem Fin) (H : Value → Sem Fin) (gd : Bool → Bool) (lv : List Value → List Value),
    gg w n s ⟨x.wrap K H gd lv, cE, p, bB⟩ = some (s', ⟨K a, cE, p', bB⟩)
section
variable {α β : Type} {w : World} {n m : Nat} {s s' s'' : Shared} {p p' p'' : Pos} {a : α} {b : β}
theorem run_pure : Run w 0 s p (.pure a) a s p := fun _ _ _ _ => rfl
theorem run_bind {x : Sem α} {f : α → Sem β} (h : Run w n s p x a s' p') (k : Run w m s' p' (f a) b s'' p'') : Run w (n + m) s p (x.bind f) b s'' p'' := fun K H gd lv => by
  rw [Sem.bind_eq_wrap, Sem.wrap_wrap]
  exact gg_add (h _ _ _ _) (k K H gd lv)
theorem run_bind' {x : Sem α} {f : α → Sem β} (h : Run w n s p x a s' p') (k : Run w m s' p' (f a) b s'' p'') : Run w (n + m) s p (x >>= f) b s'' p'' := run_bind h k
theorem run_keep {x : Sem α} {vs : List Value} (h : Run w n s p x a s' p') : Run w n s p (x.keep vs) a s' p' := fun K H gd lv => by
  rw [Sem.keep_eq_wrap, Sem.wrap_wrap]
  exact h _ _ _ _
theorem run_hold {x : Sem α} {vs : List Value} (h : Run w n s p x a s' p') : Run w n s p (holding vs x) a s' p' := by
  unfold holding; split
  · exact h
  · exact run_keep h
theorem run_onRaise {x : Sem α} {k : Value → Sem Unit} (h : Run w n s p x a s' p') : Run w n s p (x.onRaise k) a s' p' := fun K H gd lv => by
  rw [Sem.onRaise_eq_wrap, Sem.wrap_wrap]
  exact h _ _ _ _
theorem run_rule {tag : String} {k : Unit → Sem α} (h : Run w n s p (k ()) a s' p') : Run w (n + 1) s p (.rule tag k) a s' p' := fun K H gd lv => gg_step rfl rfl rfl (h K H gd lv)
theorem run_at {q : Pos} {k : Unit → Sem α} (h : Run w n s q (k ()) a s' p') : Run w (n + 1) s p (.at q k) a s' p' := fun K H gd lv => gg_step rfl rfl rfl (h K H gd lv)
theorem run_point {l : List Value} {k : Unit → Sem α} (h : Run w n s p (k ()) a s' p') : Run w (n + 1) s p (.point l k) a s' p' := fun K H gd lv => gg_step rfl rfl rfl (h K H gd lv)
theorem run_ask {k : Setting → Sem α} (h : Run w n s p (k ⟨pr, w.params⟩) a s' p') : Run w (n + 1) s p (.ask k) a s' p' := fun K H gd lv => gg_step rfl rfl rfl (h K H gd lv)
theorem run_fresh {k : Tok → Sem α} (h : Run w n { s with toks := s.toks + 1 } p (k s.toks) a s' p') : Run w (n + 1) s p (.fresh k) a s' p' := fun K H gd lv => by
  obtain ⟨heap, gens, drawn, toks, os⟩ := s
  exact gg_step rfl rfl rfl (h K H gd lv)
theorem run_load {c : Addr} {part : Option Value} {o : Obj} {k : Obj → Sem α} (ho : s.heap.get? c = some o) (h : Run w n s p (k o) a s' p') : Run w (n + 1) s p (.load c part k) a s' p' := fun K H gd lv => by
  obtain ⟨heap, gens, drawn, toks, os⟩ := s
  refine gg_step rfl rfl ?_ (h K H gd lv)
  simp only [Sem.wrap, step]
  rw [show heap.get? c = some o from ho]
theorem run_update {c : Addr} {part : Option Value} {f : Obj → Obj} {k : Unit → Sem α} (hc : 11 ≤ c) (ho : (s.heap.get? c).isSome = true) (h : Run w n { s with heap := s.heap.update c f } p (k ()) a s' p') : Run w (n + 1) s p (.update c part f k) a s' p' := fun K H gd lv => by
  obtain ⟨heap, gens, drawn, toks, os⟩ := s
  refine gg_step rfl ?_ ?_ (h K H gd lv)
  · simp only [Sem.wrap, stepOk, Bool.and_eq_true, Bool.or_eq_true]
    exact ⟨rfl, .inl (.inl (.inl (Nat.ble_eq_true_of_le hc)))⟩
  · simp only [Sem.wrap, step]
    rw [show (heap.get? c).isSome = true from ho]
    rfl
theorem run_alloc {o : Obj} {k : Addr → Sem α} (h : Run w n { s with heap := s.heap.push o } p (k s.heap.objs.size) a s' p') : Run w (n + 1) s p (.alloc o k) a s' p' := fun K H gd lv => by
  obtain ⟨heap, gens, drawn, toks, os⟩ := s
  exact gg_step rfl rfl rfl (h K H gd lv)
end
end Hd
end
end
section
open PySem PySem.W PySem.Calls PyProof.Rows
set_option maxRecDepth 100000
noncomputable section
namespace Hd
/-- a tree that only looks: how many steps -/
noncomputable def peekN {α : Type} (K : Frag) (S : Setting) : Sem α → Option (α × Nat)
  | .pure a => some (a, 0)
  | .rule _ k => (peekN K S (k ())).map fun x => (x.1, x.2 + 1)
  | .point _ k => (peekN K S (k ())).map fun x => (x.1, x.2 + 1)
  | .ask k => (peekN K S (k S)).map fun x => (x.1, x.2 + 1)
  | .load a _ k => match K.lookup a with
      | some o => (peekN K S (k o)).map fun x => (x.1, x.2 + 1)
      | none => none
  | _ => none
theorem run_peek {α : Type} {w : World} {K : Frag} {s : Shared} {p : Pos} (x : K.In s.heap) : ∀ (t : Sem α) (a : α) (n : Nat), peekN K ⟨pr, w.params⟩ t = some (a, n) → Run w n s p t a s p := by
  intro t
  induction t with
  | pure b => intro a n e; cases e; exact run_pure
  | rule _ k ih => intro a n e; obtain ⟨⟨a', n'⟩, h1, h2⟩ := Option.map_eq_some_iff.mp e; cases h2; exact run_rule (ih () _ _ h1)
  | point _ k ih => intro a n e; obtain ⟨⟨a', n'⟩, h1, h2⟩ := Option.map_eq_some_iff.mp e; cases h2; exact run_point (ih () _ _ h1)
  | ask k ih => intro a n e; obtain ⟨⟨a', n'⟩, h1, h2⟩ := Option.map_eq_some_iff.mp e; cases h2; exact run_ask (ih _ _ _ h1)
  | load c _ k ih =>
    intro a n e
    simp only [peekN] at e
    split at e
    · rename_i o ho
      obtain ⟨⟨a', n'⟩, h1, h2⟩ := Option.map_eq_some_iff.mp e; cases h2; exact run_load (x _ _ ho) (ih o _ _ h1)
    · cases e
  | _ => intro a n e; cases e
section
variable {w : World} {s : Shared} {p : Pos} {k : Int} {t : Tok}
theorem peek_hash : ∀ (w : World) (k : Int) (t : Tok), peekN [] ⟨pr, w.params⟩ (specialOf (.int k t) "__hash__") = some (some (.builtin "int.__hash__"), 0) := by
  intro w k t; kernel_rfl
theorem call_hash : ∀ (w : World) (h : Heap) (gens : Array GenState) (dr : Drawn) (tk : Nat) (os : OsState) (p : Pos) (k : Int) (t : Tok) (rf : Sem Value) (K : Option Value → Sem Fin) (H : Value → Sem Fin) (gd : Bool → Bool) (lv : List Value → List Value),
    gg w 5 ⟨h, gens, dr, tk, os⟩ ⟨(callSpecialIfBoundUnlessNone? (.int k t) "__hash__" rf).wrap K H gd lv, cE, p, bB⟩ = some (⟨h, gens, dr, tk + 1, os⟩, ⟨K (some (.int (rawHash k) tk)), cE, p, bB⟩) := by
  refine byRow2 "special-get-raises" ?_ ?_
  all_goals
    intro w h gens dr tk os p k t rf K H gd lv; kernel_rfl
end
end Hd
end
end
section
open PySem PySem.W PySem.Calls PyProof.Rows
set_option maxRecDepth 100000
noncomputable section
namespace Hd
theorem run_hash {w : World} {s : Shared} {p : Pos} {k : Int} {t : Tok} : Run w 5 s p (pyHash (.int k t)) (hashInt k) { s with toks := s.toks + 1 } p := by
  have hr := rawHash_range k
  have hX : Frag.In [] s.heap := fun a o e => by cases e
  show Run w (0 + (0 + (0 + (5 + 0)))) s p (pyHashByItsType (.int k t)) _ _ p
  unfold pyHashByItsType
  refine run_bind' (a := ()) (s' := s) (p' := p) (by rw [cRoomFor, if_neg (by rw [show [Value.int k t].any Value.onHeap = false from rfl]; exact Bool.false_ne_true)]; exact run_pure) ?_
  refine run_bind' (run_peek hX _ _ _ (peek_hash w k t)) ?_
  show Run w _ s p (if (some (Value.builtin "int.__hash__") == some Value.none) = true then _ else _) _ _ p
  rw [if_neg (by decide)]
  refine run_bind' (run_peek hX _ _ _ (peek_hash w k t)) ?_
  refine run_bind' (a := some (.int (rawHash k) s.toks)) (s' := { s with toks := s.toks + 1 }) (p' := p) (fun K H gd lv => ?_) ?_
  · obtain ⟨heap, gens, drawn, toks, os⟩ := s
    exact call_hash w heap gens drawn toks os p k t _ K H gd lv
  · show Run w 0 _ p (if (decide (-(2 : Int) ^ 63 ≤ rawHash k) && decide (rawHash k < 2 ^ 63)) = true then _ else _) _ _ p
    rw [if_pos (by rw [decide_eq_true hr.1, decide_eq_true hr.2]; rfl)]
    exact run_pure

theorem places_none (es : List DictEntry) (h : Int) (hn : ∀ e ∈ es, e.hash ≠ h) : placesWithHash es.toArray.size (fun i => es.toArray[i]?.map (·.hash)) h = [] := by
  unfold placesWithHash
  rw [List.filter_eq_nil_iff]
  intro i hi
  simp only [List.getElem?_toArray, beq_iff_eq]
  intro e
  obtain ⟨x, hx, hh⟩ := Option.map_eq_some_iff.mp e
  exact hn x (List.mem_of_getElem? hx) hh
theorem run_find {w : World} {s : Shared} {p : Pos} {k : Int} {t : Tok} {d : Addr} {es : List DictEntry} {n : Nat} {h : Int} (ho : s.heap.get? d = some (dObj es n)) (hn : ∀ e ∈ es, e.hash ≠ h) :
    Run w 1 s p (dictFind d (.int k t) h) none s p := by
  unfold dictFind
  refine run_hold ?_
  show Run w (1 + 0) s p _ none s p
  refine run_bind' (a := es.toArray) (s' := s) (p' := p) ?_ ?_
  · show Run w 1 s p (.load d _ _) _ s p
    exact run_load ho run_pure
  · dsimp only
    rw [places_none es h hn]
    exact run_pure
theorem run_push {w : World} {s : Shared} {p : Pos} {part : Option Value} {d : Addr} {es : List DictEntry} {n : Nat} {e : DictEntry} (hd : 11 ≤ d) (ho : s.heap.get? d = some (dObj es n)) (hz : es.length ≤ 1000) :
    Run w 3 s p (updateDictKeys d (·.push e) part) () { s with heap := s.heap.update d (Obj.mapDictKeys (·.push e)) } p := by
  unfold updateDictKeys
  show Run w (1 + (1 + 1)) s p _ () _ p
  refine run_bind' (a := dObj es n) (s' := s) (p' := p) (run_load ho run_pure) ?_
  dsimp only
  refine run_bind' (a := ()) (s' := { s with heap := s.heap.update d (Obj.mapDictKeys (·.push e)) }) (p' := p) ?_ ?_
  · exact run_update hd (by rw [ho]; rfl) run_pure
  · unfold lookBehind
    show Run w (1 + 0) _ p _ () _ p
    refine run_bind' (a := Obj.mapDictKeys (·.push e) (dObj es n)) (p' := p) (run_load (Heap.get?_update_self _ ho rfl) run_pure) ?_
    have : (Obj.mapDictKeys (·.push e) (dObj es n)).data.pastItsLine = none := by
      show (if (es.toArray.push e).size > sizeLine + 1 then _ else _) = none
      rw [if_neg]
      rw [Array.size_push, List.size_toArray, sizeLine_eq]; omega
    rw [this]
    exact run_pure
theorem run_dictSet {w : World} {s : Shared} {p : Pos} {k : Int} {t : Tok} {v : Value} {d : Addr} {es : List DictEntry} {n : Nat} (hd : 11 ≤ d) (ho : s.heap.get? d = some (dObj es n)) (hn : ∀ e ∈ es, e.hash ≠ hashInt k) (hz : es.length ≤ 1000) :
    Run w 10 s p (dictSet d (.int k t) v) () { s with heap := s.heap.update d (Obj.mapDictKeys (·.push ⟨hashInt k, .int k t, v⟩)), toks := s.toks + 1 } p := by
  unfold dictSet
  refine run_hold ?_
  show Run w (5 + 5) s p _ () _ p
  refine run_bind' run_hash ?_
  unfold dictSetHashed
  refine run_hold ?_
  show Run w (1 + 4) _ p _ () _ p
  refine run_bind' (run_find (s := { s with toks := s.toks + 1 }) ho hn) ?_
  dsimp only
  show Run w (1 + 3) _ p _ () _ p
  refine run_bind' (a := ()) (run_rule run_pure) ?_
  exact run_push (s := { s with toks := s.toks + 1 }) hd ho hz
theorem run_dictPut {w : World} {s : Shared} {p : Pos} {k : Int} {t : Tok} {h : Int} {v : Value} {d : Addr} {es : List DictEntry} {n : Nat} (hd : 11 ≤ d) (ho : s.heap.get? d = some (dObj es n)) (hn : ∀ e ∈ es, e.hash ≠ h) (hz : es.length ≤ 1000) :
    Run w 4 s p (dictPut d h (.int k t) v) () { s with heap := s.heap.update d (Obj.mapDictKeys (·.push ⟨h, .int k t, v⟩)) } p := by
  unfold dictPut
  show Run w (1 + 3) s p _ () _ p
  refine run_bind' (run_find ho hn) ?_
  exact run_push hd ho hz
end Hd
end
end
section
open PySem PySem.W PySem.Calls PyProof.Rows
set_option maxRecDepth 100000
noncomputable section
namespace Hd
theorem run_for {γ : Type} {w : World} {pos : Pos} {c : Nat} {f : γ → PUnit → Sem (ForInStep PUnit)} (st : Nat → Shared) : ∀ (xs : List γ) (i : Nat),
    (∀ j x, xs[j]? = some x → Run w c (st (i + j)) pos (f x ⟨⟩) (.yield ⟨⟩) (st (i + j + 1)) pos) → Run w (c * xs.length) (st i) pos (forIn xs PUnit.unit f) PUnit.unit (st (i + xs.length)) pos
  | [], i, _ => by rw [List.forIn_nil]; exact run_pure
  | x :: xs, i, h => by
    rw [List.forIn_cons, List.length_cons, Nat.mul_succ, Nat.add_comm (c * xs.length) c]
    refine run_bind' (h 0 x rfl) ?_
    dsimp only
    have := run_for st xs (i + 1) fun j y hy => by
      have := h (j + 1) y hy
      rwa [show i + (j + 1) = i + 1 + j by omega] at this
    rwa [show i + 1 + xs.length = i + (xs.length + 1) by omega] at this

noncomputable def pairsOf (pos : Pos) (ps : List PD) : List (Sem Value × Sem Value) := ps.map fun x => (mkInt x.1, do let v ← mkText x.2; standAt pos; pure v)
theorem entL_app (tk : Nat) (a b : List PD) : entL tk (a ++ b) = entL tk a ++ entL (tk + 3 * a.length) b := by
  induction a generalizing tk with
  | nil => rfl
  | cons x a ih => obtain ⟨k, s⟩ := x; simp only [List.cons_append, entL, ih, List.length_cons]; congr 3; omega
theorem entL_hash (tk : Nat) (ps : List PD) : (entL tk ps).map (·.hash) = ps.map fun x => hashInt x.1 := by
  induction ps generalizing tk with
  | nil => rfl
  | cons x a ih => obtain ⟨k, s⟩ := x; simp only [entL, List.map_cons, ih]
theorem entS_hash (tk : Nat) (ps : List PD) : (entS tk ps).map (·.hash) = ps.map fun x => hashInt x.1 := by
  induction ps generalizing tk with
  | nil => rfl
  | cons x a ih => obtain ⟨k, s⟩ := x; simp only [entS, List.map_cons, ih]
theorem entL_len (tk : Nat) (ps : List PD) : (entL tk ps).length = ps.length := by
  induction ps generalizing tk with
  | nil => rfl
  | cons x a ih => obtain ⟨k, s⟩ := x; simp only [entL, List.length_cons, ih]
theorem entS_len (tk : Nat) (ps : List PD) : (entS tk ps).length = ps.length := by
  induction ps generalizing tk with
  | nil => rfl
  | cons x a ih => obtain ⟨k, s⟩ := x; simp only [entS, List.length_cons, ih]

/-- a place of one dict in a heap -/
structure At (C : Obj → Heap) (d : Addr) : Prop where
  low : 11 ≤ d
  get : ∀ es n, (C (dObj es n)).get? d = some (dObj es n)
  upd : ∀ es n f, (C (dObj es n)).update d f = C (f (dObj es n))
theorem mapDictKeys_d (es : List DictEntry) (n : Nat) (e : DictEntry) : Obj.mapDictKeys (·.push e) (dObj es n) = dObj (es ++ [e]) (n + 1) := by
  show (⟨_, _, .dict (es.toArray.push e) (n + 1), _⟩ : Obj) = _
  rw [List.push_toArray]
section
variable {w : World} {pos : Pos} {C : Obj → Heap} {d : Addr} {gens : Array GenState} {dr : Drawn} {os : OsState}
theorem run_set1 (A : At C d) {es : List DictEntry} {n tk : Nat} {k : Int} {t : Tok} {v : Value} (hn : ∀ e ∈ es, e.hash ≠ hashInt k) (hz : es.length ≤ 1000) :
    Run w 10 ⟨C (dObj es n), gens, dr, tk, os⟩ pos (dictSet d (.int k t) v) () ⟨C (dObj (es ++ [⟨hashInt k, .int k t, v⟩]) (n + 1)), gens, dr, tk + 1, os⟩ pos := by
  have := run_dictSet (w := w) (p := pos) (s := ⟨C (dObj es n), gens, dr, tk, os⟩) (k := k) (t := t) (v := v) A.low (A.get es n) hn hz
  rwa [show ({ (⟨C (dObj es n), gens, dr, tk, os⟩ : Shared) with heap := (C (dObj es n)).update d (Obj.mapDictKeys (·.push ⟨hashInt k, .int k t, v⟩)), toks := tk + 1 } : Shared) = ⟨C (dObj (es ++ [⟨hashInt k, .int k t, v⟩]) (n + 1)), gens, dr, tk + 1, os⟩ by
    rw [A.upd, mapDictKeys_d]] at this
theorem run_put1 (A : At C d) {es : List DictEntry} {n tk : Nat} {k : Int} {t : Tok} {v : Value} {h : Int} (hn : ∀ e ∈ es, e.hash ≠ h) (hz : es.length ≤ 1000) :
    Run w 4 ⟨C (dObj es n), gens, dr, tk, os⟩ pos (dictPut d h (.int k t) v) () ⟨C (dObj (es ++ [⟨h, .int k t, v⟩]) (n + 1)), gens, dr, tk, os⟩ pos := by
  have := run_dictPut (w := w) (p := pos) (s := ⟨C (dObj es n), gens, dr, tk, os⟩) (k := k) (t := t) (v := v) A.low (A.get es n) hn hz
  rwa [show ({ (⟨C (dObj es n), gens, dr, tk, os⟩ : Shared) with heap := (C (dObj es n)).update d (Obj.mapDictKeys (·.push ⟨h, .int k t, v⟩)) } : Shared) = ⟨C (dObj (es ++ [⟨h, .int k t, v⟩]) (n + 1)), gens, dr, tk, os⟩ by
    rw [A.upd, mapDictKeys_d]] at this
/-- the hashes of a whole are told apart -/
theorem apart_take {es : List DictEntry} {ps : List PD} {x : PD} {i : Nat} {tk : Nat} (hd : (es.map (·.hash) ++ ps.map fun x => hashInt x.1).Nodup) (hx : ps[i]? = some x) : ∀ e ∈ es ++ entL tk (ps.take i), e.hash ≠ hashInt x.1 := by
  intro e he
  have h1 : e.hash ∈ es.map (·.hash) ++ (ps.take i).map fun x => hashInt x.1 := by
    rw [← entL_hash tk, ← List.map_append]; exact List.mem_map.mpr ⟨e, he, rfl⟩
  have h2 : (es.map (·.hash) ++ (ps.take i).map (fun x => hashInt x.1) ++ [hashInt x.1]).Nodup := by
    refine List.Nodup.sublist ?_ hd
    rw [List.append_assoc]
    refine List.Sublist.append (List.Sublist.refl _) ?_
    have : (ps.take i).map (fun x => hashInt x.1) ++ [hashInt x.1] = (ps.take (i + 1)).map fun x => hashInt x.1 := by
      rw [List.take_add_one, hx]; simp
    rw [this]
    exact (List.take_sublist _ _).map _
  intro e'
  rw [List.nodup_append] at h2
  exact h2.2.2 _ h1 _ (List.mem_singleton.mpr rfl) e'
theorem run_long (A : At C d) {f : Sem Value × Sem Value → PUnit → Sem (ForInStep PUnit)} (hf : f = fun x _ => (do let kv ← x.1; let vv ← holding [kv] x.2; holding [kv, vv] (dictSet d kv vv); pure (ForInStep.yield PUnit.unit)))
    {es : List DictEntry} {n tk : Nat} (ps : List PD) (hd : (es.map (·.hash) ++ ps.map fun x => hashInt x.1).Nodup) (hz : es.length + ps.length ≤ 1000) :
    Run w (13 * (pairsOf pos ps).length) ⟨C (dObj es n), gens, dr, tk, os⟩ pos (forIn (pairsOf pos ps) PUnit.unit f) PUnit.unit ⟨C (dObj (es ++ entL tk ps) (n + ps.length)), gens, dr, tk + 3 * ps.length, os⟩ pos := by
  have hl : (pairsOf pos ps).length = ps.length := by simp [pairsOf]
  have := run_for (w := w) (pos := pos) (c := 13) (f := f) (fun i => ⟨C (dObj (es ++ entL tk (ps.take i)) (n + i)), gens, dr, tk + 3 * i, os⟩) (pairsOf pos ps) 0 fun j x hx => by
    rw [pairsOf, List.getElem?_map] at hx
    obtain ⟨⟨k, s⟩, hy, hxy⟩ := Option.map_eq_some_iff.mp hx
    subst hxy
    rw [hf, Nat.zero_add]
    have hlt : j < ps.length := (List.getElem?_eq_some_iff.mp hy).1
    dsimp only
    show Run w (1 + (2 + (10 + 0))) _ pos _ _ _ pos
    refine run_bind' (a := .int k (tk + 3 * j)) (s' := ⟨C (dObj (es ++ entL tk (ps.take j)) (n + j)), gens, dr, tk + 3 * j + 1, os⟩) (p' := pos) (run_fresh run_pure) ?_
    refine run_bind' (a := .str s (tk + 3 * j + 1)) (s' := ⟨C (dObj (es ++ entL tk (ps.take j)) (n + j)), gens, dr, tk + 3 * j + 2, os⟩) (p' := pos) (run_hold ?_) ?_
    · exact run_fresh (run_at run_pure)
    refine run_bind' (a := ()) (run_hold (run_set1 A (es := es ++ entL tk (ps.take j)) (tk := tk + 3 * j + 2) (apart_take hd hy) (by rw [List.length_append, entL_len, List.length_take]; omega))) ?_
    have e : es ++ entL tk (ps.take j) ++ [⟨hashInt k, .int k (tk + 3 * j), .str s (tk + 3 * j + 1)⟩] = es ++ entL tk (ps.take (j + 1)) := by
      rw [List.take_add_one, hy, entL_app, List.append_assoc, List.length_take, Nat.min_eq_left (Nat.le_of_lt hlt)]; rfl
    rw [e, show tk + 3 * (j + 1) = tk + 3 * j + 2 + 1 by omega, show n + (j + 1) = n + j + 1 by omega]
    exact run_pure
  simpa only [Nat.zero_add, List.take_zero, entL, List.append_nil, Nat.add_zero, Nat.mul_zero, hl, List.take_length] using this
end
end Hd
end
end
section
open PySem PySem.W PySem.Calls PyProof.Rows
set_option maxRecDepth 100000
noncomputable section
namespace Hd
noncomputable def HP (L : List Obj) (M : Obj) (Ss : List Obj) : Heap := ⟨(L ++ M :: Ss).toArray, {}⟩
theorem get?_of {h : Heap} {a : Addr} {o : Obj} (e : h.objs[a]? = some o) (hf : o.isFreed = false) : h.get? a = some o := by
  unfold Heap.get?; rw [e]
  obtain ⟨c, d, dt, sl⟩ := o
  cases dt <;> first | rfl | cases hf
theorem hp_size (L : List Obj) (M : Obj) (Ss : List Obj) : (HP L M Ss).objs.size = L.length + 1 + Ss.length := by
  unfold HP; simp; omega
theorem hp_push (L : List Obj) (M : Obj) (Ss : List Obj) (o : Obj) : (HP L M Ss).push o = HP L M (Ss ++ [o]) := by
  show Heap.mk _ _ = Heap.mk _ _
  rw [List.push_toArray, List.append_assoc, List.cons_append]
theorem hp_first (L : List Obj) (o : Obj) : Heap.push ⟨L.toArray, {}⟩ o = HP L o [] := by
  show Heap.mk _ _ = Heap.mk _ _
  rw [List.push_toArray]
theorem hp_upd_main (L : List Obj) (M : Obj) (Ss : List Obj) (f : Obj → Obj) : (HP L M Ss).update L.length f = HP L (f M) Ss := by
  show Heap.mk _ _ = Heap.mk _ _
  congr 1
  apply Array.ext_getElem?
  intro i
  rw [Array.getElem?_modify, List.getElem?_toArray, List.getElem?_toArray]
  by_cases h : L.length = i
  · subst h; simp
  · rw [if_neg h]
    rcases Nat.lt_or_ge i L.length with h' | h'
    · rw [List.getElem?_append_left h', List.getElem?_append_left h']
    · obtain ⟨j, rfl⟩ : ∃ j, i = L.length + (j + 1) := ⟨i - L.length - 1, by omega⟩
      rw [List.getElem?_append_right (by omega), List.getElem?_append_right (by omega)]
      simp
theorem hp_upd_sub (L : List Obj) (M : Obj) (Ss : List Obj) (o : Obj) (f : Obj → Obj) : (HP L M (Ss ++ [o])).update (L.length + 1 + Ss.length) f = HP L M (Ss ++ [f o]) := by
  have e : ∀ x, HP L M (Ss ++ [x]) = ⟨((L ++ M :: Ss) ++ x :: []).toArray, {}⟩ := fun x => by unfold HP; simp
  rw [e, e]
  have := hp_upd_main (L ++ M :: Ss) o [] f
  rwa [show (L ++ M :: Ss).length = L.length + 1 + Ss.length by simp; omega] at this
theorem at_main (L : List Obj) (Ss : List Obj) (hl : 11 ≤ L.length) : At (fun o => HP L o Ss) L.length where
  low := hl
  get es n := get?_of (by show (L ++ dObj es n :: Ss).toArray[L.length]? = _; rw [List.getElem?_toArray, List.getElem?_append_right (Nat.le_refl _)]; simp) rfl
  upd es n f := hp_upd_main L _ Ss f
theorem at_sub (L : List Obj) (M : Obj) (Ss : List Obj) (hl : 11 ≤ L.length) : At (fun o => HP L M (Ss ++ [o])) (L.length + 1 + Ss.length) where
  low := Nat.le_trans hl (Nat.le_trans (Nat.le_succ _) (Nat.le_add_right _ _))
  get es n := get?_of (by show (L ++ M :: (Ss ++ [dObj es n])).toArray[L.length + 1 + Ss.length]? = _; rw [List.getElem?_toArray, List.getElem?_append_right (by omega), show L.length + 1 + Ss.length - L.length = Ss.length + 1 by omega]; simp) rfl
  upd es n f := hp_upd_sub L M Ss _ f
section
variable {w : World} {pos : Pos} {C : Obj → Heap} {d : Addr} {gens : Array GenState} {dr : Drawn} {os : OsState}
noncomputable def valsS (tk : Nat) : List PD → List (Value × Value)
  | [] => []
  | (k, s) :: r => (.int k tk, .str s (tk + 1)) :: valsS (tk + 2) r
theorem run_evalPairs {h : Heap} : ∀ (ps : List PD) (tk : Nat), Run w (3 * ps.length) ⟨h, gens, dr, tk, os⟩ pos (evalPairs (pairsOf pos ps)) (valsS tk ps) ⟨h, gens, dr, tk + 2 * ps.length, os⟩ pos
  | [], tk => run_pure
  | (k, s) :: r, tk => by
    rw [List.length_cons, show 3 * (r.length + 1) = 1 + (2 + (3 * r.length + 0)) by omega, show tk + 2 * (r.length + 1) = tk + 2 + 2 * r.length by omega]
    show Run w _ _ pos (evalPairs ((mkInt k, _) :: pairsOf pos r)) _ _ pos
    unfold evalPairs
    refine run_bind' (a := .int k tk) (s' := ⟨h, gens, dr, tk + 1, os⟩) (p' := pos) (run_fresh run_pure) ?_
    refine run_bind' (a := .str s (tk + 1)) (s' := ⟨h, gens, dr, tk + 2, os⟩) (p' := pos) (run_hold (run_fresh (run_at run_pure))) ?_
    refine run_bind' (run_hold (run_evalPairs r (tk + 2))) ?_
    exact run_pure
theorem valsS_get {ps : List PD} {i : Nat} : ∀ {tk : Nat}, (valsS tk ps)[i]? = (ps[i]?).map fun x => (.int x.1 (tk + 2 * i), .str x.2 (tk + 2 * i + 1)) := by
  induction ps generalizing i with
  | nil => intro tk; rfl
  | cons x r ih =>
    obtain ⟨k, s⟩ := x
    intro tk
    cases i with
    | zero => rfl
    | succ i =>
      show (valsS (tk + 2) r)[i]? = _
      rw [ih]
      simp only [List.getElem?_cons_succ]
      congr 1
      funext x
      rw [show tk + 2 + 2 * i = tk + 2 * (i + 1) by omega]
theorem valsS_len (tk : Nat) (ps : List PD) : (valsS tk ps).length = ps.length := by
  induction ps generalizing tk with
  | nil => rfl
  | cons x a ih => obtain ⟨k, s⟩ := x; simp only [valsS, List.length_cons, ih]
theorem entS_app (tk : Nat) (a b : List PD) : entS tk (a ++ b) = entS tk a ++ entS (tk + 2 * a.length) b := by
  induction a generalizing tk with
  | nil => rfl
  | cons x a ih => obtain ⟨k, s⟩ := x; simp only [List.cons_append, entS, ih, List.length_cons]; congr 3; omega
theorem apart_takeS {es : List DictEntry} {ps : List PD} {x : PD} {i : Nat} {tk : Nat} (hd : (es.map (·.hash) ++ ps.map fun x => hashInt x.1).Nodup) (hx : ps[i]? = some x) : ∀ e ∈ es ++ entS tk (ps.take i), e.hash ≠ hashInt x.1 := by
  intro e he
  have h1 : e.hash ∈ (es ++ entL tk (ps.take i)).map (·.hash) := by
    rw [List.map_append, entL_hash, ← entS_hash tk, ← List.map_append]; exact List.mem_map.mpr ⟨e, he, rfl⟩
  obtain ⟨e', he', hh⟩ := List.mem_map.mp h1
  rw [← hh]
  exact apart_take hd hx e' he'
theorem run_short (A : At C d) {f : Value × Value → PUnit → Sem (ForInStep PUnit)} (hf : f = fun x _ => (do dictSet d x.1 x.2; pure (ForInStep.yield PUnit.unit)))
    {es : List DictEntry} {n tk tk' : Nat} (ps : List PD) (hd : (es.map (·.hash) ++ ps.map fun x => hashInt x.1).Nodup) (hz : es.length + ps.length ≤ 1000) :
    Run w (10 * ps.length) ⟨C (dObj es n), gens, dr, tk', os⟩ pos (forIn (valsS tk ps) PUnit.unit f) PUnit.unit ⟨C (dObj (es ++ entS tk ps) (n + ps.length)), gens, dr, tk' + ps.length, os⟩ pos := by
  have := run_for (w := w) (pos := pos) (c := 10) (f := f) (fun i => ⟨C (dObj (es ++ entS tk (ps.take i)) (n + i)), gens, dr, tk' + i, os⟩) (valsS tk ps) 0 fun j x hx => by
    rw [valsS_get] at hx
    obtain ⟨⟨k, s⟩, hy, hxy⟩ := Option.map_eq_some_iff.mp hx
    subst hxy
    rw [hf, Nat.zero_add]
    have hlt : j < ps.length := (List.getElem?_eq_some_iff.mp hy).1
    dsimp only
    show Run w (10 + 0) _ pos _ _ _ pos
    refine run_bind' (a := ()) (run_set1 A (es := es ++ entS tk (ps.take j)) (apart_takeS hd hy) (by rw [List.length_append, entS_len, List.length_take]; omega)) ?_
    have e : es ++ entS tk (ps.take j) ++ [⟨hashInt k, .int k (tk + 2 * j), .str s (tk + 2 * j + 1)⟩] = es ++ entS tk (ps.take (j + 1)) := by
      rw [List.take_add_one, hy, entS_app, List.append_assoc, List.length_take, Nat.min_eq_left (Nat.le_of_lt hlt)]; rfl
    rw [e]
    exact run_pure
  simpa only [Nat.zero_add, List.take_zero, entS, List.append_nil, Nat.add_zero, Nat.mul_zero, valsS_len, List.take_length] using this
theorem pairs_len (ps : List PD) : (pairsOf pos ps).length = ps.length := by simp [pairsOf]
theorem run_subL (h : Heap) (A : At C h.objs.size) (hC : h.push (dObj [] 0) = C (dObj [] 0)) {tk : Nat} (ps : List PD) (hl : 15 < ps.length) (hd : (ps.map fun x => hashInt x.1).Nodup) (hz : ps.length ≤ 1000) :
    Run w (13 * ps.length + 2) ⟨h, gens, dr, tk, os⟩ pos (subDict (pairsOf pos ps)) h.objs.size ⟨C (dObj (entL tk ps) ps.length), gens, dr, tk + 3 * ps.length, os⟩ pos := by
  unfold subDict
  rw [show 13 * ps.length + 2 = 1 + (1 + 13 * ps.length + 0) by omega]
  refine run_bind' (a := h.objs.size) (s' := ⟨C (dObj [] 0), gens, dr, tk, os⟩) (p' := pos) (hC ▸ run_alloc (s := ⟨h, gens, dr, tk, os⟩) (o := dObj [] 0) run_pure) ?_
  refine run_bind' (a := PUnit.unit) (s' := ⟨C (dObj (entL tk ps) ps.length), gens, dr, tk + 3 * ps.length, os⟩) (p' := pos) (run_hold ?_) run_pure
  rw [if_neg (by rw [pairs_len]; omega)]
  refine run_bind' (a := ()) (run_rule run_pure) ?_
  have := run_long (w := w) (pos := pos) (gens := gens) (dr := dr) (os := os) (n := 0) (tk := tk) (es := []) A rfl ps (by simpa using hd) (by simpa using hz)
  rw [pairs_len] at this
  simpa using this
theorem run_subS (h : Heap) (A : At C h.objs.size) (hC : h.push (dObj [] 0) = C (dObj [] 0)) {tk : Nat} (ps : List PD) (hl : ps.length ≤ 15) (hd : (ps.map fun x => hashInt x.1).Nodup) :
    Run w (13 * ps.length + 1) ⟨h, gens, dr, tk, os⟩ pos (subDict (pairsOf pos ps)) h.objs.size ⟨C (dObj (entS tk ps) ps.length), gens, dr, tk + 3 * ps.length, os⟩ pos := by
  unfold subDict
  rw [show 13 * ps.length + 1 = 1 + (3 * ps.length + 10 * ps.length + 0) by omega, show tk + 3 * ps.length = tk + 2 * ps.length + ps.length by omega]
  refine run_bind' (a := h.objs.size) (s' := ⟨C (dObj [] 0), gens, dr, tk, os⟩) (p' := pos) (hC ▸ run_alloc (s := ⟨h, gens, dr, tk, os⟩) (o := dObj [] 0) run_pure) ?_
  refine run_bind' (a := PUnit.unit) (s' := ⟨C (dObj (entS tk ps) ps.length), gens, dr, tk + 2 * ps.length + ps.length, os⟩) (p' := pos) (run_hold ?_) run_pure
  rw [if_pos (by rw [pairs_len]; omega)]
  refine run_bind' (run_evalPairs ps tk) (run_hold ?_)
  have := run_short (w := w) (pos := pos) (gens := gens) (dr := dr) (os := os) (n := 0) (tk := tk) (tk' := tk + 2 * ps.length) (es := []) A rfl ps (by simpa using hd) (by simp; omega)
  simpa using this
end
end Hd
end
end
section
open PySem PySem.W PySem.Calls PyProof.Rows
set_option maxRecDepth 100000
noncomputable section
namespace Hd
section
variable {w : World} {pos : Pos} {C : Obj → Heap} {d : Addr} {gens : Array GenState} {dr : Drawn} {os : OsState}
theorem peek_isdict : ∀ w : World, peekN [] ⟨pr, w.params⟩ (isSubtype (.type "dict") (.type "dict")) = some (true, 0) := by intro w; kernel_rfl
theorem peek_iter : ∀ w : World, peekN [] ⟨pr, w.params⟩ (typeLookup (.type "dict") "__iter__") = some (some (.builtin "dict.__iter__"), 0) := by intro w; kernel_rfl
theorem run_typeOf {s : Shared} {a : Addr} {es : List DictEntry} {n : Nat} (h : s.heap.get? a = some (dObj es n)) : Run w 1 s pos (typeOf (.ref a)) (.type "dict") s pos :=
  run_bind' (n := 1) (m := 0) (run_load h run_pure) run_pure
theorem run_entries {s : Shared} {a : Addr} {part : Option Value} {es : List DictEntry} {n : Nat} (h : s.heap.get? a = some (dObj es n)) : Run w 1 s pos (dictEntries a part) es.toArray s pos :=
  run_bind' (n := 1) (m := 0) (run_load h run_pure) run_pure
theorem run_epoch {s : Shared} {a : Addr} {part : Option Value} {es : List DictEntry} {n : Nat} (h : s.heap.get? a = some (dObj es n)) : Run w 1 s pos (dictEpoch a part) n s pos :=
  run_bind' (n := 1) (m := 0) (run_load h run_pure) run_pure
theorem run_for0 {γ : Type} {c n : Nat} {f : γ → PUnit → Sem (ForInStep PUnit)} {xs : List γ} {s0 s1 : Shared} (st : Nat → Shared) (hn : n = c * xs.length) (h0 : st 0 = s0) (h1 : st xs.length = s1)
    (h : ∀ j x, xs[j]? = some x → Run w c (st j) pos (f x ⟨⟩) (.yield ⟨⟩) (st (j + 1)) pos) : Run w n s0 pos (forIn xs PUnit.unit f) PUnit.unit s1 pos := by
  subst hn h0 h1
  have := run_for (w := w) (pos := pos) (f := f) st xs 0 fun j x hx => by rw [Nat.zero_add]; exact h j x hx
  rwa [Nat.zero_add] at this
/-- entries whose keys are ints -/
noncomputable def IntKeys (es : List DictEntry) : Prop := ∀ e ∈ es, ∃ k t, e.key = .int k t
theorem entL_int (tk : Nat) (ps : List PD) : IntKeys (entL tk ps) := by
  induction ps generalizing tk with
  | nil => intro e he; cases he
  | cons x a ih => obtain ⟨k, s⟩ := x; intro e he; rcases List.mem_cons.mp he with rfl | he; exact ⟨_, _, rfl⟩; exact ih _ e he
theorem entS_int (tk : Nat) (ps : List PD) : IntKeys (entS tk ps) := by
  induction ps generalizing tk with
  | nil => intro e he; cases he
  | cons x a ih => obtain ⟨k, s⟩ := x; intro e he; rcases List.mem_cons.mp he with rfl | he; exact ⟨_, _, rfl⟩; exact ih _ e he
theorem nodup_take {a b : List Int} {i : Nat} {x : Int} (h : (a ++ b).Nodup) (hx : b[i]? = some x) : ∀ y ∈ a ++ b.take i, y ≠ x := by
  intro y hy e
  have h2 : (a ++ b.take i ++ [x]).Nodup := by
    refine List.Nodup.sublist ?_ h
    rw [List.append_assoc]
    refine List.Sublist.append (List.Sublist.refl _) ?_
    rw [show b.take i ++ [x] = b.take (i + 1) by rw [List.take_add_one, hx]; rfl]
    exact List.take_sublist _ _
  rw [List.nodup_append] at h2
  exact h2.2.2 _ hy _ (List.mem_singleton.mpr rfl) e
theorem run_merge (A : At C d) {a : Addr} {es es2 : List DictEntry} {n n2 tk : Nat} (ha : ∀ es n, (C (dObj es n)).get? a = some (dObj es2 n2)) (hs : (a == sysModules) = false) (h0 : es ≠ [])
    (hk : IntKeys es2) (hd : (es.map (·.hash) ++ es2.map (·.hash)).Nodup) (hz : es.length + es2.length ≤ 1000) :
    Run w (6 * es2.length + 5) ⟨C (dObj es n), gens, dr, tk, os⟩ pos (mergeMapping d (.ref a) false) () ⟨C (dObj (es ++ es2) (n + es2.length)), gens, dr, tk, os⟩ pos := by
  unfold mergeMapping
  have nX : ∀ h : Heap, Frag.In [] h := fun h a o e => by cases e
  rw [show 6 * es2.length + 5 = (1 + 0) + ((1 + 0) + (0 + (1 + (1 + (1 + (6 * es2.length + 0)))))) by omega]
  refine run_bind' (a := true) (s' := ⟨C (dObj es n), gens, dr, tk, os⟩) (p' := pos) (run_bind' (run_typeOf (ha _ _)) (run_peek (nX _) _ _ _ (peek_isdict w))) ?_
  rw [if_pos rfl]
  refine run_bind' (a := some (.builtin "dict.__iter__")) (run_bind' (run_typeOf (ha _ _)) (run_peek (nX _) _ _ _ (peek_iter w))) ?_
  refine run_bind' (n := 0) (a := true) (s' := ⟨C (dObj es n), gens, dr, tk, os⟩) (p' := pos) ?_ ?_
  · rw [show (some (Value.builtin "dict.__iter__") == some (Value.builtin "dict.__iter__")) = true from by decide]; exact run_pure
  dsimp only
  rw [if_neg (by rw [hs]; exact Bool.false_ne_true)]
  refine run_bind' (run_entries (A.get _ _)) ?_
  rw [if_neg (by cases es with | nil => exact absurd rfl h0 | cons _ _ => exact Bool.false_ne_true)]
  refine run_bind' (run_entries (ha _ _)) ?_
  refine run_bind' (run_epoch (ha _ _)) ?_
  refine run_bind' (a := PUnit.unit) (s' := ⟨C (dObj (es ++ es2) (n + es2.length)), gens, dr, tk, os⟩) (p' := pos) ?_ run_pure
  refine run_for0 (c := 6) (fun i => ⟨C (dObj (es ++ es2.take i) (n + i)), gens, dr, tk, os⟩) (by simp) (by simp) (by simp) fun j x hx => ?_
  have hj : j < es2.length := by have := (List.getElem?_eq_some_iff.mp hx).1; simpa using this
  obtain rfl : x = j := by rw [List.getElem?_range (by simpa using hj)] at hx; exact (Option.some.inj hx).symm
  obtain ⟨k, t, hkt⟩ := hk _ (List.getElem_mem hj)
  show Run w (1 + (4 + (1 + 0))) _ pos _ _ _ pos
  refine run_bind' (run_entries (ha _ _)) ?_
  rw [List.getElem?_toArray, List.getElem?_eq_getElem hj]
  dsimp only
  refine run_bind' (a := ()) (s' := ⟨C (dObj (es ++ es2.take (x + 1)) (n + (x + 1))), gens, dr, tk, os⟩) (p' := pos) (run_hold ?_) ?_
  · have := run_put1 (w := w) (pos := pos) (gens := gens) (dr := dr) (os := os) (n := n + x) (tk := tk) A (es := es ++ es2.take x) (k := k) (t := t) (v := es2[x].val) (h := es2[x].hash) (by
      intro e he
      have := nodup_take (i := x) (x := es2[x].hash) hd (by rw [List.getElem?_map, List.getElem?_eq_getElem hj]; rfl) e.hash (by
        rw [← List.map_take, ← List.map_append]; exact List.mem_map.mpr ⟨e, he, rfl⟩)
      exact this) (by rw [List.length_append, List.length_take]; omega)
    rw [if_neg Bool.false_ne_true, hkt]
    have e : es ++ es2.take x ++ [⟨es2[x].hash, .int k t, es2[x].val⟩] = es ++ es2.take (x + 1) := by
      rw [List.take_add_one, List.getElem?_eq_getElem hj, List.append_assoc, ← hkt]; rfl
    rw [e] at this
    exact this
  · refine run_bind' (run_epoch (ha _ _)) ?_
    rw [if_neg (by simp)]
    exact run_pure
end
end Hd
end
end
section
open PySem PySem.W PySem.Calls PyProof.Rows
set_option maxRecDepth 100000
noncomputable section
namespace Hd
abbrev Item := Option (Sem Value) × Sem Value
abbrev DSt := Option Addr × List (Sem Value × Sem Value)
noncomputable def mkI (ps : List (Sem Value × Sem Value)) : List Item := ps.map fun p => (some p.1, p.2)
theorem gather {F : Item → DSt → Sem (ForInStep DSt)} (few : ∀ (p : Sem Value × Sem Value) (run : List (Sem Value × Sem Value)) (main : Option Addr), run.length + 1 < 17 → F (some p.1, p.2) (main, run) = pure (.yield (main, run ++ [p])))
    (main : Option Addr) (rest : List Item) : ∀ (ps run : List (Sem Value × Sem Value)), run.length + ps.length < 17 → forIn (mkI ps ++ rest) ((main, run) : DSt) F = forIn rest ((main, run ++ ps) : DSt) F
  | [], run, _ => by rw [List.append_nil]; rfl
  | p :: ps, run, h => by
    rw [mkI, List.map_cons, List.cons_append, List.forIn_cons, few p run main (by simp at h; omega), pure_bind]
    have := gather few main rest ps (run ++ [p]) (by simp at h ⊢; omega)
    rw [List.append_assoc] at this
    exact this
theorem last_of {α : Type} {n : Nat} (ps : List α) (hl : ps.length = n + 1) : ∃ run p, run.length = n ∧ ps = run ++ [p] := by
  refine ⟨ps.take n, ps[n], by rw [List.length_take]; omega, ?_⟩
  have e := List.take_append_drop n ps
  rw [List.drop_eq_getElem_cons (by omega), List.drop_eq_nil_of_le (by omega)] at e
  exact e.symm
section
variable {w : World} {pos : Pos} {gens : Array GenState} {dr : Drawn} {os : OsState} {L : List Obj}
theorem flat_len : ∀ {cs : List (List PD)}, (∀ c ∈ cs, c.length = 17) → cs.flatten.length = 17 * cs.length
  | [], _ => rfl
  | c :: r, h => by rw [List.flatten_cons, List.length_append, h c (.head _), flat_len fun c hc => h c (.tail _ hc), List.length_cons]; omega
-- a turn of the display's loop, told by its runs: a pair joins the row, or the row is full and goes into the dict at L
structure Body (w : World) (pos : Pos) (gens : Array GenState) (dr : Drawn) (os : OsState) (L : List Obj) (F : Item → DSt → Sem (ForInStep DSt)) : Prop where
  few : ∀ (p : Sem Value × Sem Value) (run : List (Sem Value × Sem Value)) (main : Option Addr), run.length + 1 < 17 → F (some p.1, p.2) (main, run) = pure (.yield (main, run ++ [p]))
  one : ∀ (p : Sem Value × Sem Value) (run : List (Sem Value × Sem Value)) (c : List PD) (tk : Nat), run.length = 16 → pairsOf pos c = run ++ [p] → (c.map fun x => hashInt x.1).Nodup →
    Run w 223 ⟨⟨L.toArray, {}⟩, gens, dr, tk, os⟩ pos (F (some p.1, p.2) (none, run)) (.yield (some L.length, [])) ⟨HP L (dObj (entL tk c) 17) [], gens, dr, tk + 51, os⟩ pos
  more : ∀ (p : Sem Value × Sem Value) (run : List (Sem Value × Sem Value)) (c : List PD) (E : List DictEntry) (n tk : Nat) (Ss : List Obj), run.length = 16 → pairsOf pos c = run ++ [p] → E ≠ [] →
    (E.map (·.hash) ++ c.map fun x => hashInt x.1).Nodup → E.length + c.length ≤ 1000 →
    Run w 330 ⟨HP L (dObj E n) Ss, gens, dr, tk, os⟩ pos (F (some p.1, p.2) (some L.length, run)) (.yield (some L.length, [])) ⟨HP L (dObj (E ++ entL tk c) (n + 17)) (Ss ++ [dObj (entL tk c) 17]), gens, dr, tk + 51, os⟩ pos
theorem row_len {c : List PD} {run : List (Sem Value × Sem Value)} {p : Sem Value × Sem Value} (h : run.length = 16) (e : pairsOf pos c = run ++ [p]) : c.length = 17 := by
  rw [← pairs_len (pos := pos), e, List.length_append, h]; rfl
theorem main_run (hl : 11 ≤ L.length) {tk : Nat} (c : List PD) (h17 : c.length = 17) (hd : (c.map fun x => hashInt x.1).Nodup) :
    Run w 223 ⟨⟨L.toArray, {}⟩, gens, dr, tk, os⟩ pos (subDict (pairsOf pos c)) L.length ⟨HP L (dObj (entL tk c) 17) [], gens, dr, tk + 51, os⟩ pos := by
  have hz : (⟨L.toArray, {}⟩ : Heap).objs.size = L.length := by simp
  have := run_subL (w := w) (pos := pos) (gens := gens) (dr := dr) (os := os) (tk := tk) ⟨L.toArray, {}⟩ (C := fun o => HP L o []) (by rw [hz]; exact at_main L [] hl) (hp_first L _) c (by omega) hd (by omega)
  rw [h17, hz] at this
  exact this
section
variable {E : List DictEntry} {n tk : Nat} {Ss : List Obj}
theorem sub_run (hl : 11 ≤ L.length) (c : List PD) (h17 : c.length = 17) (hd : (c.map fun x => hashInt x.1).Nodup) :
    Run w 223 ⟨HP L (dObj E n) Ss, gens, dr, tk, os⟩ pos (subDict (pairsOf pos c)) (L.length + 1 + Ss.length) ⟨HP L (dObj E n) (Ss ++ [dObj (entL tk c) 17]), gens, dr, tk + 51, os⟩ pos := by
  have hs := hp_size L (dObj E n) Ss
  have := run_subL (w := w) (pos := pos) (gens := gens) (dr := dr) (os := os) (tk := tk) (HP L (dObj E n) Ss) (C := fun o => HP L (dObj E n) (Ss ++ [o])) (by rw [hs]; exact at_sub L (dObj E n) Ss hl) (hp_push _ _ _ _) c (by omega) hd (by omega)
  rw [h17, hs] at this
  exact this
theorem subS_run (hl : 11 ≤ L.length) (c : List PD) (h4 : c.length = 4) (hd : (c.map fun x => hashInt x.1).Nodup) :
    Run w 53 ⟨HP L (dObj E n) Ss, gens, dr, tk, os⟩ pos (subDict (pairsOf pos c)) (L.length + 1 + Ss.length) ⟨HP L (dObj E n) (Ss ++ [dObj (entS tk c) 4]), gens, dr, tk + 12, os⟩ pos := by
  have hs := hp_size L (dObj E n) Ss
  have := run_subS (w := w) (pos := pos) (gens := gens) (dr := dr) (os := os) (tk := tk) (HP L (dObj E n) Ss) (C := fun o => HP L (dObj E n) (Ss ++ [o])) (by rw [hs]; exact at_sub L (dObj E n) Ss hl) (hp_push _ _ _ _) c (by omega) hd
  rw [h4, hs] at this
  exact this
theorem join_run (hl : 11 ≤ L.length) (h72 : sysModules < 11) {es2 : List DictEntry} {k n2 : Nat} (hk : es2.length = k) (h0 : E ≠ []) (hi : IntKeys es2) (hd : (E.map (·.hash) ++ es2.map (·.hash)).Nodup) (hz : E.length + es2.length ≤ 1000) :
    Run w (6 * k + 5) ⟨HP L (dObj E n) (Ss ++ [dObj es2 n2]), gens, dr, tk, os⟩ pos (mergeMapping L.length (.ref (L.length + 1 + Ss.length)) false) () ⟨HP L (dObj (E ++ es2) (n + k)) (Ss ++ [dObj es2 n2]), gens, dr, tk, os⟩ pos := by
  subst hk
  refine run_merge (w := w) (pos := pos) (gens := gens) (dr := dr) (os := os) (at_main L (Ss ++ [dObj es2 n2]) hl) (fun es n => (at_sub L (dObj es n) Ss hl).get _ _) (beq_eq_false_iff_ne.mpr fun e => ?_) h0 hi hd hz
  rw [← e] at h72
  exact absurd h72 (Nat.not_lt.mpr (Nat.le_trans hl (Nat.le_trans (Nat.le_succ _) (Nat.le_add_right _ _))))
end
theorem pairs_app (a b : List PD) : pairsOf pos (a ++ b) = pairsOf pos a ++ pairsOf pos b := by simp [pairsOf]
theorem mkI_app (a b : List (Sem Value × Sem Value)) : mkI (a ++ b) = mkI a ++ mkI b := by simp [mkI]
-- a row of seventeen out of the first state, and what comes behind
theorem row_run {F : Item → DSt → Sem (ForInStep DSt)} (few : ∀ (p : Sem Value × Sem Value) (run : List (Sem Value × Sem Value)) (main : Option Addr), run.length + 1 < 17 → F (some p.1, p.2) (main, run) = pure (.yield (main, run ++ [p])))
    {main main' : Option Addr} (rest : List Item) (c : List PD) (h17 : c.length = 17) {a b : Nat} {s s₁ s' : Shared} {r : DSt} {p' : Pos}
    (turn : ∀ (p : Sem Value × Sem Value) (run : List (Sem Value × Sem Value)), run.length = 16 → pairsOf pos c = run ++ [p] → Run w a s pos (F (some p.1, p.2) (main, run)) (.yield (main', [])) s₁ pos)
    (k : Run w b s₁ pos (forIn rest ((main', []) : DSt) F) r s' p') : Run w (a + b) s pos (forIn (mkI (pairsOf pos c) ++ rest) ((main, []) : DSt) F) r s' p' := by
  obtain ⟨run, p, hn, e⟩ := last_of (n := 16) (pairsOf pos c) (by rw [pairs_len]; exact h17)
  have t := turn p run hn e
  rw [e, mkI_app, List.append_assoc, gather few main _ run [] (by rw [hn]; decide), List.nil_append]
  show Run w (a + b) s pos (forIn ((some p.1, p.2) :: rest) _ F) r s' p'
  rw [List.forIn_cons]
  exact run_bind' t k
theorem run_chunks {F} (B : Body w pos gens dr os L F) {r : DSt} {s' : Shared} {p' : Pos} {m : Nat} (rest : List Item) : ∀ (cs : List (List PD)) (tk n : Nat) (E : List DictEntry) (Ss : List Obj),
    (∀ c ∈ cs, c.length = 17) → E ≠ [] → (E.map (·.hash) ++ cs.flatten.map fun x => hashInt x.1).Nodup → E.length + 17 * cs.length ≤ 1000 →
    Run w m ⟨HP L (dObj (E ++ entL tk cs.flatten) (n + 17 * cs.length)) (Ss ++ subsOf tk cs), gens, dr, tk + 51 * cs.length, os⟩ pos (forIn rest ((some L.length, []) : DSt) F) r s' p' →
    Run w (330 * cs.length + m) ⟨HP L (dObj E n) Ss, gens, dr, tk, os⟩ pos (forIn (mkI (pairsOf pos cs.flatten) ++ rest) ((some L.length, []) : DSt) F) r s' p'
  | [], tk, n, E, Ss, _, _, _, _, h => by simpa [subsOf, entL, mkI, pairsOf] using h
  | c :: cs, tk, n, E, Ss, h17, h0, hd, hz, h => by
    have hc := h17 c (.head _)
    rw [List.flatten_cons] at hd ⊢
    rw [pairs_app, mkI_app, List.append_assoc, List.length_cons, show 330 * (cs.length + 1) + m = 330 + (330 * cs.length + m) by omega]
    rw [List.length_cons] at hz
    rw [List.map_append, ← List.append_assoc] at hd
    refine row_run B.few _ c hc (fun p run hn e => B.more p run c E n tk Ss hn e h0 (hd.sublist (List.sublist_append_left _ _)) (by omega)) ?_
    refine run_chunks B rest cs (tk + 51) (n + 17) (E ++ entL tk c) (Ss ++ [dObj (entL tk c) 17]) (fun x hx => h17 x (.tail _ hx)) (by simp [h0]) (by rw [List.map_append, entL_hash]; exact hd) (by rw [List.length_append, entL_len, hc]; omega) ?_
    rw [List.flatten_cons, entL_app, hc, List.length_cons] at h
    rw [List.append_assoc, List.append_assoc, show n + 17 + 17 * cs.length = n + 17 * (cs.length + 1) by omega, show tk + 51 + 51 * cs.length = tk + 51 * (cs.length + 1) by omega]
    exact h
end
end Hd
end
end
section
open PySem PySem.W PySem.Calls PyProof.Rows
set_option maxRecDepth 100000
noncomputable section
namespace Hd
section
variable {w : World} {pos : Pos} {gens : Array GenState} {dr : Drawn} {os : OsState} {L : List Obj}
theorem run_loop {F} (B : Body w pos gens dr os L F) {tk : Nat} (c0 : List PD) (cs : List (List PD)) (last : List PD) (h0 : c0.length = 17) (h17 : ∀ c ∈ cs, c.length = 17) (h4 : last.length = 4)
    (hd : ((c0 ++ (cs.flatten ++ last)).map fun x => hashInt x.1).Nodup) (hz : 17 * cs.length ≤ 900) :
    Run w (223 + (330 * cs.length + 0)) ⟨⟨L.toArray, {}⟩, gens, dr, tk, os⟩ pos (forIn (mkI (pairsOf pos (c0 ++ (cs.flatten ++ last)))) ((none, []) : DSt) F) (some L.length, pairsOf pos last)
      ⟨HP L (dObj (entL tk (c0 ++ cs.flatten)) (17 + 17 * cs.length)) (subsOf (tk + 51) cs), gens, dr, tk + 51 + 51 * cs.length, os⟩ pos := by
  rw [List.map_append] at hd
  have hd0 := hd.sublist (List.sublist_append_left _ _)
  rw [pairs_app, mkI_app]
  refine row_run B.few _ c0 h0 (fun p run hn e => B.one p run c0 tk hn e hd0) ?_
  rw [pairs_app, mkI_app]
  refine Eq.mp ?_ (run_chunks (w := w) (pos := pos) (gens := gens) (dr := dr) (os := os) (L := L) B (mkI (pairsOf pos last)) cs (tk + 51) 17 (entL tk c0) [] h17 (by intro e; have := congrArg List.length e; rw [entL_len, h0] at this; cases this)
    (by rw [entL_hash]; refine hd.sublist (List.Sublist.append (List.Sublist.refl _) ?_); rw [List.map_append]; exact List.sublist_append_left _ _) (by rw [entL_len]; omega) (m := 0)
    (r := (some L.length, pairsOf pos last)) (s' := ⟨HP L (dObj (entL tk (c0 ++ cs.flatten)) (17 + 17 * cs.length)) (subsOf (tk + 51) cs), gens, dr, tk + 51 + 51 * cs.length, os⟩) (p' := pos) ?_)
  · rfl
  · have := gather B.few (some L.length) [] (pairsOf pos last) [] (by rw [pairs_len]; simp; omega)
    rw [List.append_nil] at this
    rw [this, entL_app, h0]
    exact run_pure
theorem run_display (hl : 11 ≤ L.length) (h72 : sysModules < 11) {tk : Nat} (c0 : List PD) (cs : List (List PD)) (last : List PD) (h0 : c0.length = 17) (h17 : ∀ c ∈ cs, c.length = 17) (h4 : last.length = 4)
    (hd : ((c0 ++ (cs.flatten ++ last)).map fun x => hashInt x.1).Nodup) (hz : 17 * cs.length ≤ 900) :
    Run w (223 + (330 * cs.length + 0) + (82 + 0)) ⟨⟨L.toArray, {}⟩, gens, dr, tk, os⟩ pos (dictDisplay (mkI (pairsOf pos (c0 ++ (cs.flatten ++ last))))) (.ref L.length)
      ⟨HP L (dObj (entL tk (c0 ++ cs.flatten) ++ entS (tk + 51 + 51 * cs.length) last) (17 + 17 * cs.length + 4)) (subsOf (tk + 51) cs ++ [dObj (entS (tk + 51 + 51 * cs.length) last) 4]), gens, dr, tk + 51 + 51 * cs.length + 12, os⟩ pos := by
  unfold dictDisplay
  dsimp only
  refine run_bind' (run_loop (w := w) (pos := pos) (gens := gens) (dr := dr) (os := os) ⟨fun p run main h => ?_, fun p run c tk hn e hd => ?_, fun p run c E n tk Ss hn e h0 hd hz => ?_⟩ (tk := tk) c0 cs last h0 h17 h4 hd hz) ?_
  · have hne : ((run ++ [(p.1, p.2)]).length == 17) = false := beq_eq_false_iff_ne.mpr (by rw [List.length_append]; exact Nat.ne_of_lt h)
    simp only [hne, Bool.false_eq_true, if_false]
  · have hq : ((run ++ [(p.1, p.2)]).length == 17) = true := beq_iff_eq.mpr (by rw [List.length_append, hn]; rfl)
    have hem : (run ++ [(p.1, p.2)]).isEmpty = false := by cases run <;> rfl
    have S := main_run (w := w) (pos := pos) (gens := gens) (dr := dr) (os := os) hl (tk := tk) c (row_len hn e) hd
    simp only [hq, if_true, hem, Bool.false_eq_true, if_false]
    rw [e] at S
    exact run_bind' (n := 223 + 0) (m := 0) (run_bind' S run_pure) run_pure
  · have hc := row_len hn e
    have hq : ((run ++ [(p.1, p.2)]).length == 17) = true := beq_iff_eq.mpr (by rw [List.length_append, hn]; rfl)
    have hem : (run ++ [(p.1, p.2)]).isEmpty = false := by cases run <;> rfl
    have S := sub_run (w := w) (pos := pos) (gens := gens) (dr := dr) (os := os) (E := E) (n := n) (tk := tk) (Ss := Ss) hl c hc (hd.sublist (List.sublist_append_right _ _))
    have M := join_run (w := w) (pos := pos) (gens := gens) (dr := dr) (os := os) (E := E) (n := n) (tk := tk + 51) (Ss := Ss) (n2 := 17) hl h72 ((entL_len tk c).trans hc) h0 (entL_int _ _) (by rw [entL_hash]; exact hd) (by rw [entL_len]; exact hz)
    simp only [hq, if_true, hem, Bool.false_eq_true, if_false]
    rw [e] at S
    exact run_bind' (n := 223 + (107 + 0)) (m := 0) (run_bind' (run_hold S) (run_bind' (run_onRaise (run_hold M)) run_pure)) run_pure
  · dsimp only
    have hem : (pairsOf pos last).isEmpty = false := by cases last with | nil => cases h4 | cons _ _ => rfl
    rw [hem, if_neg Bool.false_ne_true]
    have hn := entL_len tk (c0 ++ cs.flatten)
    rw [List.length_append, h0, flat_len h17] at hn
    have hd' : ((entL tk (c0 ++ cs.flatten)).map (·.hash) ++ last.map fun x => hashInt x.1).Nodup := by
      rw [entL_hash, ← List.map_append, List.append_assoc]; exact hd
    have S := subS_run (w := w) (pos := pos) (gens := gens) (dr := dr) (os := os) (E := entL tk (c0 ++ cs.flatten)) (n := 17 + 17 * cs.length) (tk := tk + 51 + 51 * cs.length) (Ss := subsOf (tk + 51) cs) hl last h4 (hd'.sublist (List.sublist_append_right _ _))
    have M := join_run (w := w) (pos := pos) (gens := gens) (dr := dr) (os := os) (E := entL tk (c0 ++ cs.flatten)) (n := 17 + 17 * cs.length) (tk := tk + 51 + 51 * cs.length + 12) (Ss := subsOf (tk + 51) cs) (n2 := 4) hl h72
      ((entS_len (tk + 51 + 51 * cs.length) last).trans h4) (by intro e; rw [e] at hn; simp at hn; omega) (entS_int _ _) (by rw [entS_hash]; exact hd') (by rw [entS_len, hn]; omega)
    exact run_bind' (n := 53 + (29 + 0)) (m := 0) (run_bind' (run_hold S) (run_bind' (run_onRaise (run_hold M)) run_pure)) run_pure
end
noncomputable def okPairs : List (Option PySem.Expr) → List PySem.Expr → Bool
  | [], [] => true
  | some (.Constant (.int _) _ _) :: ks, .Constant (.str _) _ _ :: vs => okPairs ks vs
  | _, _ => false
theorem items_eq (env : Env) (pos : Pos) : ∀ (ks : List (Option PySem.Expr)) (vs : List PySem.Expr), okPairs ks vs = true →
    (evalEachOpt ks env).zip ((evalEach vs env).map fun v => do let x ← v; standAt pos; pure x) = mkI (pairsOf pos (dataOf ks vs))
  | [], [], _ => rfl
  | some (.Constant (.int k) _ _) :: ks, .Constant (.str s) _ _ :: vs, h => by
    have ih := items_eq env pos ks vs h
    exact congr (congrArg List.cons (show ((evalOpt (some (.Constant (.int k) _ _)) env, _) : Item) = (some (mkInt k), _) from rfl)) ih
end Hd
end
end
section
open PySem PySem.W PySem.Calls PyProof.Rows
set_option maxRecDepth 100000
noncomputable section
namespace Hd
noncomputable def b3T : List PySem.Expr := match st 8 with | .Assign ts _ _ => ts | _ => []
noncomputable def b3dp : Pos := match st 8 with | .Assign _ (.Dict _ _ p) _ => p | _ => default
noncomputable def b3p : Pos := match st 8 with | .Assign _ _ p => p | _ => default
noncomputable def t8p (P : Params) : BT := (t8 P).set 3 (fun _ => o3v7 P)
theorem st8_eq : st 8 = .Assign b3T (.Dict b3K b3V b3dp) b3p := by kernel_rfl
theorem store8 : ∀ (w : World) (os : OsState) (K : Flow → Sem Fin) (H : Value → Sem Fin) (gd : Bool → Bool) (lv : List Value → List Value), segGoT treeTable pr w 11 (some (.ref 6)) 1 7 (S t8p 111 2262 w os) ⟨(assignStores envE (.ref 72) none ((assignEach b3T envE).map (·.2))).wrap K H gd lv, cE, b3dp, bB⟩ = some (S t8 111 2263 w os, ⟨K .next, cE, ⟨30, 0, 30, 13⟩, bB⟩) := by
  intro w os K H gd lv; rw [PySem.W.Fast.te10295753902157049106, PySem.W.Fast.te14364793385576792824]; kernel_rfl
theorem sw8 : ∀ w : World, peekN [] ⟨pr, w.params⟩ (swapsWithSole b3T (.Dict b3K b3V b3dp) b3p.line envE) = some (false, 0) := by intro w; kernel_rfl
theorem sd8 : ∀ w : World, peekN [] ⟨pr, w.params⟩ (swappedStores b3T (.Dict b3K b3V b3dp) envE) = some (none, 0) := by intro w; kernel_rfl
theorem ok8 : okPairs b3K b3V = true := by kernel_rfl
theorem split8 : b3D = b3c0 ++ (b3cs.flatten ++ b3last) := by kernel_rfl
theorem len0 : b3c0.length = 17 := by kernel_rfl
theorem lens : (b3cs.all fun c => c.length == 17) = true := by kernel_rfl
theorem len4 : b3last.length = 4 := by kernel_rfl
theorem lencs : b3cs.length = 37 := by kernel_rfl
noncomputable def incr : Int → List Int → Bool
  | _, [] => true
  | a, b :: r => decide (a < b) && incr b r
theorem incr_pair : ∀ (l : List Int) (a : Int), incr a l = true → (a :: l).Pairwise (· < ·)
  | [], a, _ => List.pairwise_singleton _ _
  | b :: r, a, h => by
    simp only [incr, Bool.and_eq_true, decide_eq_true_eq] at h
    have ih := incr_pair r b h.2
    refine List.Pairwise.cons (fun x hx => ?_) ih
    rcases List.mem_cons.mp hx with rfl | hx
    · exact h.1
    · exact Int.lt_trans h.1 ((List.pairwise_cons.mp ih).1 x hx)
theorem hash_small {k : Int} (h0 : 0 ≤ k) (h1 : k < 2 ^ 60) : hashInt k = k := by
  have e : rawHash k = k := by
    unfold rawHash
    have h2 : (k.natAbs : Int) = k := Int.natAbs_of_nonneg h0
    have h3 : k % ((2 ^ 61 - 1 : Nat) : Int) = k := Int.emod_eq_of_lt h0 (by omega)
    have h4 : (k == -1) = false := beq_eq_false_iff_ne.mpr (by omega)
    have h5 : ¬ k < 0 := by omega
    simp only [h2, h3, h5, if_false, h4, Bool.false_eq_true]
  unfold hashInt
  rw [e]
  have : (k == -1) = false := beq_eq_false_iff_ne.mpr (by omega)
  rw [this, if_neg Bool.false_ne_true]
theorem inc8 : incr 0 (b3D.map (·.1)) = true := by decide +kernel
theorem small8 : (b3D.all fun x => decide (0 ≤ x.1) && decide (x.1 < 2 ^ 60)) = true := by decide +kernel
theorem nodup8 : ((b3c0 ++ (b3cs.flatten ++ b3last)).map fun x => hashInt x.1).Nodup := by
  rw [← split8]
  have h : b3D.map (fun x => hashInt x.1) = b3D.map (·.1) := by
    refine List.map_congr_left fun x hx => ?_
    have := List.all_eq_true.mp small8 x hx
    simp only [Bool.and_eq_true, decide_eq_true_eq] at this
    exact hash_small this.1 this.2
  rw [h]
  exact ((List.pairwise_cons.mp (incr_pair _ _ inc8)).2).imp fun h => Int.ne_of_lt h
theorem map_range_get (l : List Obj) : (List.range l.length).map (fun j => (l[j]?).getD default) = l := by
  apply List.ext_getElem
  · simp
  · intro i h1 h2
    simp
    rw [List.getElem?_eq_getElem h2]; rfl
theorem subs_len : subsAll.length = 38 := by kernel_rfl
theorem subs_eq : subsAll = (List.range 38).map subAt := by
  have := map_range_get subsAll
  rw [subs_len] at this
  exact this.symm
theorem heap8 (P : Params) : HP ((t7 P).list 72) b3Main subsAll = absHeap (t8p P) 111 {} := by
  rw [subs_eq]
  kernel_rfl
theorem arm_assign (ts : List PySem.Expr) (v : PySem.Expr) (p : Pos) (env : Env) : exec (.Assign ts v p) env = (do
    standAt p
    if ← swapsWithSole ts v p.line env then do
      evalThenUse v env fun v => assignAll v ((assignEach ts env).map (·.2))
      pure .next
    else do
      let x ← eval v env
      assignStores env x (← swappedStores ts v env) ((assignEach ts env).map (·.2))) := rfl
theorem run_assign_dict {w : World} {os : OsState} {tk : Nat} {L : List Obj} {T : List PySem.Expr} {ks : List (Option PySem.Expr)} {vs : List PySem.Expr} {dp p p0 p'' : Pos} {env : Env} {s'' : Shared} {n : Nat} (c0 : List PD) (cs : List (List PD)) (last : List PD)
    (sw : peekN [] ⟨pr, w.params⟩ (swapsWithSole T (.Dict ks vs dp) p.line env) = some (false, 0)) (sd : peekN [] ⟨pr, w.params⟩ (swappedStores T (.Dict ks vs dp) env) = some (none, 0)) (ok : okPairs ks vs = true)
    (hdata : dataOf ks vs = c0 ++ (cs.flatten ++ last)) (hl : 11 ≤ L.length) (h0 : c0.length = 17) (h17 : ∀ c ∈ cs, c.length = 17) (h4 : last.length = 4) (hd : ((c0 ++ (cs.flatten ++ last)).map fun x => hashInt x.1).Nodup) (hz : 17 * cs.length ≤ 900)
    (store : Run w n ⟨HP L (dObj (entL tk (c0 ++ cs.flatten) ++ entS (tk + 51 + 51 * cs.length) last) (17 + 17 * cs.length + 4)) (subsOf (tk + 51) cs ++ [dObj (entS (tk + 51 + 51 * cs.length) last) 4]), #[], {}, tk + 51 + 51 * cs.length + 12, os⟩ dp (assignStores env (.ref L.length) none ((assignEach T env).map (·.2))) .next s'' p'') :
    Run w (1 + (0 + (1 + (223 + (330 * cs.length + 0) + (82 + 0)) + (0 + n)))) ⟨⟨L.toArray, {}⟩, #[], {}, tk, os⟩ p0 (exec (.Assign T (.Dict ks vs dp) p) env) .next s'' p'' := by
  have nX : ∀ h : Heap, Frag.In [] h := fun h a o e => by cases e
  rw [arm_assign]
  refine run_bind' (a := ()) (p' := p) (run_at run_pure) ?_
  refine run_bind' (run_peek (nX _) _ _ _ sw) ?_
  rw [if_neg Bool.false_ne_true, arm_eval_Dict, items_eq env dp ks vs ok, hdata]
  refine run_bind' (a := .ref L.length) (run_bind' (a := ()) (p' := dp) (run_at run_pure) (run_display hl (by decide) c0 cs last h0 h17 h4 hd hz)) ?_
  exact run_bind' (run_peek (nX _) _ _ _ sd) store
theorem run8 (w : World) (os : OsState) : Run w (1 + (0 + (1 + (223 + (330 * b3cs.length + 0) + (82 + 0)) + (0 + 7)))) ⟨⟨((t7 w.params).list 72).toArray, {}⟩, #[], {}, 312, os⟩ ⟨28, 0, 29, 30⟩ (exec (.Assign b3T (.Dict b3K b3V b3dp) b3p) envE) .next (S t8 111 2263 w os).abs ⟨30, 0, 30, 13⟩ := by
  have hl : ((t7 w.params).list 72).length = 72 := by simp [BT.list]
  refine run_assign_dict b3c0 b3cs b3last (sw8 w) (sd8 w) ok8 split8 (by rw [hl]; decide) len0 (fun c hc => by have := List.all_eq_true.mp lens c hc; exact beq_iff_eq.mp this) len4 nodup8 (by rw [lencs]; decide) ?_
  rw [lencs, hl]
  have e := heap8 w.params
  show Run w 7 ⟨HP ((t7 w.params).list 72) b3Main subsAll, #[], {}, 2262, os⟩ _ _ _ _ _
  rw [e]
  exact fun K H gd lv => segGo_of (store8 w os K H gd lv)
theorem execs1 (s : Stmt) (env : Env) : (execs [s] env).wrap doneF deadEnd id id = (exec s env).wrap doneF deadEnd id id := by
  rw [execs_cons_wrap]
  exact Sem.wrap_congr _ _ _ (fun f => by cases f <;> rfl) fun _ => rfl
theorem abs7 (w : World) (os : OsState) : (S t7 72 312 w os).abs = ⟨⟨((t7 w.params).list 72).toArray, {}⟩, #[], {}, 312, os⟩ := rfl
theorem pc8 : ∀ (w : World) (os : OsState), segRun treeTable pr w 11 (some (.ref 6)) 1 12525 (S t7 72 312 w os).abs (piecesOf [st 8] envE cE ⟨28, 0, 29, 30⟩ bB) = some (.next, (S t8 111 2263 w os).abs, cE, ⟨30, 0, 30, 13⟩) := by
  intro w os
  have h := seg_go (N := 1) (r := (.next, (S t8 111 2263 w os).abs, cE, ⟨30, 0, 30, 13⟩)) (run8 w os doneF deadEnd id id) rfl
  rw [lencs, show 1 + (0 + (1 + (223 + (330 * 37 + 0) + (82 + 0)) + (0 + 7))) + 1 = 12525 from rfl, ← abs7, ← st8_eq, ← execs1] at h
  exact h

end Hd
end
end
section
open PySem PySem.W PySem.Calls PyProof.Rows
set_option maxRecDepth 100000
noncomputable section
namespace Hd

theorem pre : ∀ (w : World) (os : OsState), topGo treeTable pr w 11 (some (.ref 6)) 12 ⟨boot_heap w.params, Array.mk [], boot_drawn, boot_toks, os⟩ (topStub pr) = some ((S tA 15 187 w os).abs, ⟨denote treeTable cE, cE, ⟨0, 0, 0, 0⟩, bB⟩) := by
  intro w os; rw [PySem.W.Fast.te15667345088766844465, PySem.W.Fast.te14364793385576792824, PySem.W.Fast.te11892475500146522536]; kernel_rfl

theorem blk : ∀ (w : World) (os : OsState), segRun treeTable pr w 11 (some (.ref 6)) 1 1 (S tA 15 187 w os).abs (blockOf (behindTheImports pr) envE cE ⟨0, 0, 0, 0⟩ bB) = some (.next, (S tB 15 187 w os).abs, cE, ⟨0, 0, 0, 0⟩) := by
  intro w os; rw [PySem.W.Fast.te14374325043358763698, PySem.W.Fast.te14364793385576792824]; kernel_rfl

theorem pc0 : ∀ (w : World) (os : OsState), segRunT treeTable pr w 11 (some (.ref 6)) 1 30 (S tB 15 187 w os) (piecesOf [st 0] envE cE ⟨0, 0, 0, 0⟩ bB) = some (.next, (S t0 22 194 w os), cE, ⟨1, 0, 3, 12⟩) := by
    intro w os; rw [PySem.W.Fast.te10110043849684766642, PySem.W.Fast.te14364793385576792824]; dsimp only [piecesOf]; rw [PySem.W.Fast.te12563942051412417395]; kernel_rfl

theorem pc1 : ∀ (w : World) (os : OsState), segRunT treeTable pr w 11 (some (.ref 6)) 1 10 (S t0 22 194 w os) (piecesOf [st 1] envE cE ⟨1, 0, 3, 12⟩ bB) = some (.next, (S t1 22 196 w os), cE, ⟨4, 0, 4, 8⟩) := by
    intro w os; rw [PySem.W.Fast.te10110043849684766642, PySem.W.Fast.te14364793385576792824]; dsimp only [piecesOf]; rw [PySem.W.Fast.te12563942051412417395]; kernel_rfl

theorem pc2 : ∀ (w : World) (os : OsState), segRunT treeTable pr w 11 (some (.ref 6)) 1 197 (S t1 22 196 w os) (piecesOf [st 2] envE cE ⟨4, 0, 4, 8⟩ bB) = some (.next, (S t2 35 216 w os), cE, ⟨5, 0, 6, 8⟩) := by
    intro w os; rw [PySem.W.Fast.te10110043849684766642, PySem.W.Fast.te14364793385576792824]; dsimp only [piecesOf]; rw [PySem.W.Fast.te12563942051412417395]; kernel_rfl

theorem pc3 : ∀ (w : World) (os : OsState), segRunT treeTable pr w 11 (some (.ref 6)) 1 214 (S t2 35 216 w os) (piecesOf [st 3] envE cE ⟨5, 0, 6, 8⟩ bB) = some (.next, (S t3 47 232 w os), cE, ⟨7, 0, 8, 8⟩) := by
    intro w os; rw [PySem.W.Fast.te10110043849684766642, PySem.W.Fast.te14364793385576792824]; dsimp only [piecesOf]; rw [PySem.W.Fast.te12563942051412417395]; kernel_rfl

theorem pc4 : ∀ (w : World) (os : OsState), segRunT treeTable pr w 11 (some (.ref 6)) 1 34 (S t3 47 232 w os) (piecesOf [st 4] envE cE ⟨7, 0, 8, 8⟩ bB) = some (.next, (S t4 54 243 w os), cE, ⟨9, 0, 25, 18⟩) := by
    intro w os; rw [PySem.W.Fast.te10110043849684766642, PySem.W.Fast.te14364793385576792824]; dsimp only [piecesOf]; rw [PySem.W.Fast.te12563942051412417395]; kernel_rfl

theorem pc5 : ∀ (w : World) (os : OsState), segRunT treeTable pr w 11 (some (.ref 6)) 1 10 (S t4 54 243 w os) (piecesOf [st 5] envE cE ⟨9, 0, 25, 18⟩ bB) = some (.next, (S t5 54 245 w os), cE, ⟨26, 0, 26, 8⟩) := by
    intro w os; rw [PySem.W.Fast.te10110043849684766642, PySem.W.Fast.te14364793385576792824]; dsimp only [piecesOf]; rw [PySem.W.Fast.te12563942051412417395]; kernel_rfl

theorem pc6 : ∀ (w : World) (os : OsState), segRunT treeTable pr w 11 (some (.ref 6)) 1 999 (S t5 54 245 w os) (piecesOf [st 6] envE cE ⟨26, 0, 26, 8⟩ bB) = some (.next, (S t6 65 305 w os), cE, ⟨27, 0, 27, 6⟩) := by
  refine byRow2 "special-get-raises" ?_ ?_
  all_goals
    intro w os; rw [PySem.W.Fast.te10110043849684766642, PySem.W.Fast.te14364793385576792824]; dsimp only [piecesOf]; rw [PySem.W.Fast.te12563942051412417395]; kernel_rfl

theorem pc7 : ∀ (w : World) (os : OsState), segRunT treeTable pr w 11 (some (.ref 6)) 1 30 (S t6 65 305 w os) (piecesOf [st 7] envE cE ⟨27, 0, 27, 6⟩ bB) = some (.next, (S t7 72 312 w os), cE, ⟨28, 0, 29, 30⟩) := by
    intro w os; rw [PySem.W.Fast.te10110043849684766642, PySem.W.Fast.te14364793385576792824]; dsimp only [piecesOf]; rw [PySem.W.Fast.te12563942051412417395]; kernel_rfl

theorem pc9 : ∀ (w : World) (os : OsState), segRunT treeTable pr w 11 (some (.ref 6)) 1 31 (S t8 111 2263 w os) (piecesOf [st 9] envE cE ⟨30, 0, 30, 13⟩ bB) = some (.next, (S t9 118 2271 w os), cE, ⟨31, 0, 35, 23⟩) := by
    intro w os; rw [PySem.W.Fast.te10110043849684766642, PySem.W.Fast.te14364793385576792824]; dsimp only [piecesOf]; rw [PySem.W.Fast.te12563942051412417395]; kernel_rfl

theorem pc10 : ∀ (w : World) (os : OsState), segRunT treeTable pr w 11 (some (.ref 6)) 1 10 (S t9 118 2271 w os) (piecesOf [st 10] envE cE ⟨31, 0, 35, 23⟩ bB) = some (.next, (S t10 118 2273 w os), cE, ⟨36, 0, 36, 8⟩) := by
    intro w os; rw [PySem.W.Fast.te10110043849684766642, PySem.W.Fast.te14364793385576792824]; dsimp only [piecesOf]; rw [PySem.W.Fast.te12563942051412417395]; kernel_rfl

theorem pc11 : ∀ (w : World) (os : OsState), segRunT treeTable pr w 11 (some (.ref 6)) 1 489 (S t10 118 2273 w os) (piecesOf [st 11] envE cE ⟨36, 0, 36, 8⟩ bB) = some (.next, (S t11 184 2369 w os), cE, ⟨37, 0, 83, 16⟩) := by
  refine byRow2 "special-get-raises" ?_ ?_
  all_goals
    intro w os; rw [PySem.W.Fast.te10110043849684766642, PySem.W.Fast.te14364793385576792824]; dsimp only [piecesOf]; rw [PySem.W.Fast.te12563942051412417395]; kernel_rfl

theorem pc12 : ∀ (w : World) (os : OsState), segRunT treeTable pr w 11 (some (.ref 6)) 1 10 (S t11 184 2369 w os) (piecesOf [st 12] envE cE ⟨37, 0, 83, 16⟩ bB) = some (.next, (S t12 184 2371 w os), cE, ⟨84, 0, 84, 8⟩) := by
    intro w os; rw [PySem.W.Fast.te10110043849684766642, PySem.W.Fast.te14364793385576792824]; dsimp only [piecesOf]; rw [PySem.W.Fast.te12563942051412417395]; kernel_rfl

theorem pc13 : ∀ (w : World) (os : OsState), segRunT treeTable pr w 11 (some (.ref 6)) 1 32 (S t12 184 2371 w os) (piecesOf [st 13] envE cE ⟨84, 0, 84, 8⟩ bB) = some (.next, (S t13 191 2380 w os), cE, ⟨85, 0, 87, 72⟩) := by
    intro w os; rw [PySem.W.Fast.te10110043849684766642, PySem.W.Fast.te14364793385576792824]; dsimp only [piecesOf]; rw [PySem.W.Fast.te12563942051412417395]; kernel_rfl

theorem pc14 : ∀ (w : World) (os : OsState), segRunT treeTable pr w 11 (some (.ref 6)) 1 36 (S t13 191 2380 w os) (piecesOf [st 14] envE cE ⟨85, 0, 87, 72⟩ bB) = some (.next, (S t14 198 2393 w os), cE, ⟨88, 0, 96, 16⟩) := by
    intro w os; rw [PySem.W.Fast.te10110043849684766642, PySem.W.Fast.te14364793385576792824]; dsimp only [piecesOf]; rw [PySem.W.Fast.te12563942051412417395]; kernel_rfl

theorem pc15 : ∀ (w : World) (os : OsState), segRunT treeTable pr w 11 (some (.ref 6)) 1 36 (S t14 198 2393 w os) (piecesOf [st 15] envE cE ⟨88, 0, 96, 16⟩ bB) = some (.next, (S t15 205 2406 w os), cE, ⟨97, 0, 105, 17⟩) := by
    intro w os; rw [PySem.W.Fast.te10110043849684766642, PySem.W.Fast.te14364793385576792824]; dsimp only [piecesOf]; rw [PySem.W.Fast.te12563942051412417395]; kernel_rfl

theorem pc16 : ∀ (w : World) (os : OsState), segRunT treeTable pr w 11 (some (.ref 6)) 1 34 (S t15 205 2406 w os) (piecesOf [st 16] envE cE ⟨97, 0, 105, 17⟩ bB) = some (.next, (S t16 212 2417 w os), cE, ⟨106, 0, 114, 15⟩) := by
    intro w os; rw [PySem.W.Fast.te10110043849684766642, PySem.W.Fast.te14364793385576792824]; dsimp only [piecesOf]; rw [PySem.W.Fast.te12563942051412417395]; kernel_rfl

theorem pc17 : ∀ (w : World) (os : OsState), segRunT treeTable pr w 11 (some (.ref 6)) 1 27 (S t16 212 2417 w os) (piecesOf [st 17] envE cE ⟨106, 0, 114, 15⟩ bB) = some (.next, (S t17 217 2423 w os), cE, ⟨115, 0, 138, 38⟩) := by
    intro w os; rw [PySem.W.Fast.te10110043849684766642, PySem.W.Fast.te14364793385576792824]; dsimp only [piecesOf]; rw [PySem.W.Fast.te12563942051412417395]; kernel_rfl

theorem fin0 : ∀ (w : World) (os : OsState), topRun treeTable pr w 11 (some (.ref 6)) 2 (S t17 217 2423 w os).abs ⟨doneF .next, cE, ⟨115, 0, 138, 38⟩, bB⟩ = some (S t17 217 2423 w os).abs := by
  intro w os; rfl
theorem finH : ∀ P : Params, absHeap (t17 P) 217 {} = hF P := by
  intro P; kernel_rfl
theorem open0 : ∀ w : World, (fencedOpening treeTable pr w 40000).map (fun s => (s.heap, s.gens, s.drawn, s.toks)) = some (boot_heap w.params, Array.mk [], boot_drawn, boot_toks) :=
  boot_open (by kernel_rfl) (by decide) (fun s => by kernel_rfl)
theorem size0 : ∀ w : World, ((boot_heap w.params).isNs mainGlobals && (Array.mk [] : Array GenState).size == 0, (boot_heap w.params).objs.size, (boot_heap w.params).nsMap mainGlobals "__annotations__") = (true, 11, some (.ref 6)) := by
  intro w; kernel_rfl
theorem stmts0 : behindTheImports pr = [st 0] ++ ([st 1] ++ ([st 2] ++ ([st 3] ++ ([st 4] ++ ([st 5] ++ ([st 6] ++ ([st 7] ++ ([st 8] ++ ([st 9] ++ ([st 10] ++ ([st 11] ++ ([st 12] ++ ([st 13] ++ ([st 14] ++ ([st 15] ++ ([st 16] ++ ([st 17] ++ []))))))))))))))))) := by kernel_rfl

theorem run0 (pc8 : ∀ (w : World) (os : OsState), segRun treeTable pr w 11 (some (.ref 6)) 1 12525 (S t7 72 312 w os).abs (piecesOf [st 8] envE cE ⟨28, 0, 29, 30⟩ bB) = some (.next, (S t8 111 2263 w os).abs, cE, ⟨30, 0, 30, 13⟩)) : ∀ (w : World) (os : OsState), topRun treeTable pr w 11 (some (.ref 6)) (12 + (1 + (30 + (10 + (197 + (214 + (34 + (10 + (999 + (30 + (12525 + (31 + (10 + (489 + (10 + (32 + (36 + (36 + (34 + (27 + 2)))))))))))))))))))) ⟨boot_heap w.params, Array.mk [], boot_drawn, boot_toks, os⟩ (topStub pr) = some ⟨hF w.params, #[], {}, 2423, os⟩ := by
  intro w os
  rw [← finH]
  refine go_top (pre w os) (piece_block (blk w os) ?_)
  rw [stmts0]
  exact (piece_app (segRun_of (pc0 w os)) (piece_app (segRun_of (pc1 w os)) (piece_app (segRun_of (pc2 w os)) (piece_app (segRun_of (pc3 w os)) (piece_app (segRun_of (pc4 w os)) (piece_app (segRun_of (pc5 w os)) (piece_app (segRun_of (pc6 w os)) (piece_app (segRun_of (pc7 w os)) (piece_app (pc8 w os) (piece_app (segRun_of (pc9 w os)) (piece_app (segRun_of (pc10 w os)) (piece_app (segRun_of (pc11 w os)) (piece_app (segRun_of (pc12 w os)) (piece_app (segRun_of (pc13 w os)) (piece_app (segRun_of (pc14 w os)) (piece_app (segRun_of (pc15 w os)) (piece_app (segRun_of (pc16 w os)) (piece_app (segRun_of (pc17 w os)) (piece_nil (fin0 w os))))))))))))))))))))

end Hd
end
end
section
open PySem PySem.W PySem.Calls PyProof.Rows
set_option maxRecDepth 100000
noncomputable section
namespace Hd
theorem lk_l1 : ∀ (w : World) (os : OsState), (staticsOk (importedModules pr.main.body) (boot_heap w.params) (hF w.params) && namesBound pr (hF w.params) && gensDone (⟨hF w.params, #[], {}, 2423, os⟩ : Shared) && laidKept (boot_heap w.params) (hF w.params)) = true := by
  intro w os; kernel_rfl
theorem lk_s1 : ∀ (w : World) (os : OsState), seen ((recsOf q).map (·.name)) (ownsOf q) [] ({ (⟨hF w.params, #[], {}, 2423, os⟩ : Shared) with gens := #[] }) = expectedOf q := by
  intro w os; rw [PySem.W.Fast.te5160383126252970620, PySem.W.Fast.te3399658132070893891, PySem.W.Fast.te5991557255702980513]; kernel_rfl
theorem lk_s2 : ∀ (w : World) (os : OsState), (hF w.params).bltView = bltViewBooted := by
  intro w os; kernel_rfl
theorem lk_s3 : ∀ (w : World) (os : OsState), ((hF w.params).keysOk (looseW q loose) ((recsOf q).map (·.name)) ((litsOf q).map (·.1)) ((clssOf q (looseW q loose)).map (·.name)) && (hF w.params).accountedOkI (importedModules pr.main.body) && (hF w.params).isNs mainGlobals && (hF w.params).isNs builtinsNs && tablesOk q (hF w.params) && (xlAt q [] (⟨hF w.params, #[], {}, 2423, os⟩ : Shared) && recOk (RowW.records rw'.row.toRowW) (⟨hF w.params, #[], {}, 2423, os⟩ : Shared)) && true) = true := by
  intro w os; rw [PySem.W.Fast.te10880121769531294198, PySem.W.Fast.te821141287760084731, PySem.W.Fast.te3399658132070893891, PySem.W.Fast.te7409074990110511671, PySem.W.Fast.te13664370479719496447, PySem.W.Fast.te14722251495701143533, PySem.W.Fast.te10994771534591457954]; kernel_rfl
theorem lk_s4 : ∀ (w : World) (os : OsState), tabsOk q (⟨hF w.params, #[], {}, 2423, os⟩ : Shared) = true := by
  intro w os; rw [PySem.W.Fast.te479339242167458305]; kernel_rfl
theorem lk_s5 : ∀ (w : World) (os : OsState), pinSeenD q (drecsOf q) (⟨hF w.params, #[], {}, 2423, os⟩ : Shared) = pinGoodD (drecsOf q) := by
  intro w os; rw [PySem.W.Fast.te16090120013241838585, PySem.W.Fast.te3247288618530077131]; kernel_rfl
theorem lk_s6 : ∀ (w : World) (os : OsState), plainSeenE q (looseW q loose) (⟨hF w.params, #[], {}, 2423, os⟩ : Shared) = plainGoodE q (looseW q loose) := by
  intro w os; rw [PySem.W.Fast.te2386780881361962483, PySem.W.Fast.te821141287760084731]; kernel_rfl
theorem lk_s7 : ∀ (w : World) (os : OsState), plainSeenD q loose (⟨hF w.params, #[], {}, 2423, os⟩ : Shared) = plainGoodD q loose := by
  intro w os; rw [PySem.W.Fast.te11698064438423848299]; kernel_rfl
theorem lk_s8 : ∀ (w : World) (os : OsState), wideSeen q (⟨hF w.params, #[], {}, 2423, os⟩ : Shared) = wideGood q := by
  intro w os; rw [PySem.W.Fast.te7317090234206586261]; kernel_rfl
theorem lk_s9 : ∀ (w : World) (os : OsState), clsSeenW q loose (⟨hF w.params, #[], {}, 2423, os⟩ : Shared) = clsGoodW q loose := by
  intro w os; rw [PySem.W.Fast.te7369524293546568484]; kernel_rfl
theorem lk_s10 : ∀ (w : World) (os : OsState), kAs.map (⟨hF w.params, #[], {}, 2423, os⟩ : Shared).heap.get? = (K w.params).map (fun p => some p.2) := by
  intro w os; kernel_rfl
abbrev hk0 : Hook := kHook K kAs (fun _ => by kernel_rfl)
abbrev Xt0 : Shared → Bool := fun s => xlAt q [] s && recOk (RowW.records rw'.row.toRowW) s
theorem left0 : LeftO pr q loose Xt0 (Hook.obs hk0) (Hook.val hk0) 40000 :=
  LeftO.of_pieces (H₀ := boot_heap) (H₁ := hF) open0 size0 (run0 pc8) (by decide) (fun w => by
    funext os
    refine looks_pair (lk_l1 w os) (looks_pair ?_ (lk_s10 w os))
    exact looks_pair (lk_s1 w os) (looks_pair (lk_s2 w os) (looks_pair (lk_s3 w os) (looks_pair (lk_s4 w os) (looks_pair (lk_s5 w os) (looks_pair (lk_s6 w os) (looks_pair (lk_s7 w os) (looks_pair (lk_s8 w os) (lk_s9 w os)))))))))
theorem said_all : rw'.wellSaid = true := by
  unfold OpenLaw.wellSaid
  repeat' with_reducible refine look_both ?_ ?_
  all_goals (try unfold OpenRow.wellSaid)
  all_goals (repeat' with_reducible refine look_both ?_ ?_)
  all_goals (try unfold OpenRow.partSaid)
  all_goals (try unfold OpenScript.wellSaid)
  all_goals (repeat' with_reducible refine look_both ?_ ?_)
  all_goals (try unfold looksOpen)
  all_goals (repeat' with_reducible refine look_both ?_ ?_)
  all_goals ((try rw [PySem.W.Fast.te11788848310118352699]); (try rw [PySem.W.Fast.te2368527892694137696]); (try rw [PySem.W.Fast.te9807087744658564304]); (try rw [PySem.W.Fast.te12862048085361865435]); (try rw [PySem.W.Fast.te8377067652309620493]); (try rw [PySem.W.Fast.te18344453789297297638]); (try rw [PySem.W.Fast.te3471404346716756564]); (try rw [PySem.W.Fast.te14412699480532031325]); (try rw [PySem.W.Fast.te8326940854005059898]); (try rw [PySem.W.Fast.te5923862056798008813]); (try rw [PySem.W.Fast.te17691160309236699985]); (try rw [PySem.W.Fast.te13343964577679436407]); (try rw [PySem.W.Fast.te17119622794617984870]); (try rw [PySem.W.Fast.te17868728402115742887]); (try rw [PySem.W.Fast.te9706382859710513879]); (try rw [PySem.W.Fast.te2357444279172408678]); (try rw [PySem.W.Fast.te4857012375875476094]); (try rw [PySem.W.Fast.te13582783067957832011]); (try rw [PySem.W.Fast.te5318747976498570220]); (try rw [PySem.W.Fast.te4579403493507170074]); (try rw [PySem.W.Fast.te4274047373036748609]); (try rw [PySem.W.Fast.te12749700546528644094]); (try rw [PySem.W.Fast.te10501279942588096481]); (try rw [PySem.W.Fast.te8179353310426384613]); (try rw [PySem.W.Fast.te797321630700447069]); (try rw [PySem.W.Fast.te9572597257264208301]); (try rw [PySem.W.Fast.te9558739934217749035]); (try rw [PySem.W.Fast.te16286561074155671207]); (try rw [PySem.W.Fast.te6984425678791042302]); (try rw [PySem.W.Fast.te17095254045102204799]); (try rw [PySem.W.Fast.te12879404354523853263]); (try rw [PySem.W.Fast.te482687673346738481]); (try rw [PySem.W.Fast.te10792542408131684335]); (try rw [PySem.W.Fast.te7723801398212525404]); decide +kernel)
theorem head0 {d : DefRec} {kwd : List (PySem.Str × PySem.Expr)} (hdef : defOf q (Str.ofString "law") = some (d, kwd)) (hp : pr.theDef (Str.ofString "law") = some (d.params, d.body, d.scope))
    (hk : kwWritten? d.params.kwonlyargs d.params.kw_defaults = some kwd)
    (call : WalkO q loose (XL q []) (Hook.says hk0) rw'.row.toRowW d kwd fun f vs => PySem.call f vs) : rw'.Holds := by
  w_on
  refine holds_law said_all fun said => ?_
  refine holds_open (q := q) (loose := loose) (Xt := Xt0) (XP := XL q []) (Yf := Hook.obs hk0) (Ya := Hook.val hk0) (YP := Hook.says hk0) (N := 40000) left0 (Hook.of hk0) (Hook.keeps hk0)
    (fun s e => xl_of s (Bool.and_eq_true_iff.mp e).1) XL.keeps hdef hp hk (fun s e => recFacts_of (Bool.and_eq_true_iff.mp e).2) (by rfl) (by first | assumption | decide +kernel) (by decide +kernel) ⟨rfl, rfl, rfl, rfl, rfl, by decide +kernel⟩ ?hw call
  case hw => w_witness2

end Hd
end
end
section
open PySem PySem.W PySem.Calls PyProof.Rows
set_option maxRecDepth 100000
set_option maxHeartbeats 2000000
noncomputable section
namespace Hd
local macro_rules | `(tactic| walk_at "idle 0") => `(tactic| skip)
local macro_rules | `(tactic| walk_at "idle 1") => `(tactic| skip)
local macro_rules | `(tactic| walk_at "idle 2") => `(tactic| skip)
local macro_rules | `(tactic| walk_at "idle 3") => `(tactic| skip)
local macro_rules | `(tactic| walk_at "idle 4") => `(tactic| skip)
local macro_rules | `(tactic| walk_at "idle 5") => `(tactic| skip)
local macro_rules | `(tactic| walk_at "idle 6") => `(tactic| skip)
local macro_rules | `(tactic| walk_at "idle 7") => `(tactic| skip)
local macro_rules | `(tactic| walk_at "idle 8") => `(tactic| skip)
local macro_rules | `(tactic| walk_at "idle 9") => `(tactic| skip)
local macro_rules | `(tactic| walk_at "idle 10") => `(tactic| skip)
local macro_rules | `(tactic| walk_at "idle 11") => `(tactic| skip)
local macro_rules | `(tactic| walk_at "idle 12") => `(tactic| skip)
noncomputable def b1L : List Int := [173, 847, 6150, 6155, 6156, 6157, 8203, 8204, 8205, 8288, 65279, 65024, 65025, 65026, 65027, 65028, 65029, 65030, 65031, 65032, 65033, 65034, 65035, 65036, 65037, 65038, 65039]
noncomputable def b1 (k : Int) : Bool := b1L.contains k
noncomputable def b1Es : List (Int × Value) := match (o61 (aWorld 1).params).data with | .set es _ _ => es.toList | _ => []
theorem b1_elems : (b1Es.all fun e => match e.2 with | .int k _ => decide (e.1 = hashInt k) && b1L.contains k | _ => false) = true := by decide +kernel
theorem b1_has : (b1L.all fun k => b1Es.any fun e => match e.2 with | .int k' _ => decide (k = k') | _ => false) = true := by decide +kernel
theorem o61_eq (P : Params) : ∃ ep t, o61 P = ⟨.type "set", none, .set b1Es.toArray ep t, #[]⟩ ∧ t.fits b1Es.toArray.size = true := ⟨_, _, rfl, by rfl⟩
theorem setB1 {w : World} {h : Heap} (X : (K w.params).In h) : h.SetOf (intKind pr w) 61 b1 27 := by
  obtain ⟨ep, t, e, hf⟩ := o61_eq w.params
  have hg := X 61 (o61 w.params) (by rfl)
  refine ⟨_, b1Es.toArray, ep, t, hg, by rw [e]; exact ⟨rfl, rfl, rfl⟩, by rw [e], ?_, ?_, by decide +kernel, hf, by decide +kernel⟩
  · intro x hx
    have := List.all_eq_true.mp b1_elems x hx
    obtain ⟨h0, v⟩ := x
    cases v <;> simp only [Bool.false_eq_true] at this
    simp only [Bool.and_eq_true, decide_eq_true_eq] at this
    exact ⟨⟨_, intKind_is _ _ _ _, this.1⟩, rfl⟩
  · intro k
    constructor
    · intro hk
      have hk' : k ∈ b1L := List.contains_iff_mem.mp hk
      obtain ⟨x, hx, e⟩ := List.any_eq_true.mp (List.all_eq_true.mp b1_has k hk')
      refine ⟨x, hx, ?_⟩
      obtain ⟨h0, v⟩ := x
      cases v <;> simp only [Bool.false_eq_true, decide_eq_true_eq] at e
      subst e
      exact intKind_is _ _ _ _
    · rintro ⟨x, hx, e⟩
      have := List.all_eq_true.mp b1_elems x hx
      obtain ⟨h0, v⟩ := x
      cases v <;> simp only [Bool.false_eq_true] at this
      simp only [Bool.and_eq_true, decide_eq_true_eq] at this
      rename_i i tok
      have e2 : Value.isInt k (Value.int i tok) = true := e
      obtain ⟨t', e'⟩ := Value.isInt_shape e2
      cases e'
      exact this.2

/-- what a def of ints, bools and texts gives back; nothing that stood is turned -/
noncomputable def Spec (w : World) (mean : ExcName → Option Value) (mg mb : PySem.Str → Option Value) (n : Nat) (f : Addr) (vs : List Value) (R : Value → Prop) : Prop :=
  ∀ (news : List (Addr × Obj)) (dp un : Nat) (gd : Option (List Code)) (cn : PySem.Str) (cs : Scope) (a : Addr) (ccd : Value) (cl : List (PySem.Str × Addr)) (outer : List Env) (A₀ : Around) (base h₀ : Heap) (L : Addr) (m : PySem.Str → Option Value) (s : Shared) (Q E : Value → Shared → Prop),
    Below A₀ base outer h₀ → Fr h₀ L s.heap m → (K w.params).In h₀ → News h₀ L s.heap news → Top q (looseW q loose) mean mg mb h₀ → cs.kind = .function → dp + n < recursionLimit → un + 100 * n < cLine →
    (∀ v h' tk', R v → Fr h₀ L h' m → News h₀ L h' news → Q v { s with heap := h', toks := tk' }) →
    wpAny (model pr w) (ktrTop dp un gd cn cs L a ccd cl outer) (call (.ref f) vs) Q E s
section
variable {w : World} {mean : ExcName → Option Value} {mg mb : PySem.Str → Option Value}
theorem Spec.use {w : World} {mean : ExcName → Option Value} {mg mb : PySem.Str → Option Value} {n : Nat} {f : Addr} {vs : List Value} {R : Value → Prop} (S : Spec w mean mg mb n f vs R)
    {news : List (Addr × Obj)} {dp un : Nat} {gd : Option (List Code)} {cn : PySem.Str} {cs : Scope} {a : Addr} {ccd : Value} {cl : List (PySem.Str × Addr)} {outer : List Env} {A₀ : Around} {base h₀ : Heap} {L : Addr} {m : PySem.Str → Option Value} {s : Shared} {Q E : Value → Shared → Prop}
    (B : Below A₀ base outer h₀) (F : Fr h₀ L s.heap m) (X : (K w.params).In h₀) (N : News h₀ L s.heap news) (T : Top q (looseW q loose) mean mg mb h₀) (hk : cs.kind = .function) (hd : dp + n < recursionLimit) (hu : un + 100 * n < cLine)
    (hQ : ∀ v h' tk', R v → Fr h₀ L h' m → News h₀ L h' news → Q v { s with heap := h', toks := tk' }) :
    wpAny (model pr w) (ktrTop dp un gd cn cs L a ccd cl outer) (call (.ref f) vs) Q E s :=
  S news dp un gd cn cs a ccd cl outer A₀ base h₀ L m s Q E B F X N T hk hd hu hQ
theorem filled : rw' = PySem.Challenge.rw_tr0065_02 ∧ K = K := by
  k_fill
  w_top off
  exact ⟨rfl, rfl⟩
local macro_rules | `(tactic| walk_at "compareOp In int ref") => `(tactic| (k_here; (with_reducible show wpAny _ _ (compareOp CmpOp.In (Value.int _ _) (Value.ref 61)) _ _ _); refine wpAny_inSet_of (intKind_is _ _ _ _) rfl (setB1 (by k_in)) ?_))
theorem spec_b1 (c : Nat) (t : Tok) : Spec w mean mg mb 2 71 [.str ⟨#[c]⟩ t] (fun v => v = .bool (b1 c)) := by
  intro news dp un gd cn cs a ccd cl outer A₀ base h₀ L m s Q E B F X N T hk hd hu hret
  refine wpAny_call ?_
  k_dflt cell_enter
  conv in (fBody (st 7)) => whnf
  k_steps
  exact hret _ _ _ rfl (by assumption) (by assumption)
end
end Hd
end
end
section
open PySem PySem.W PySem.Calls PyProof.Rows
set_option maxRecDepth 100000
set_option maxHeartbeats 4000000
noncomputable section
namespace Hd
noncomputable def tx (l : List Nat) : PySem.Str := ⟨l.toArray⟩
theorem tx_len (l : List Nat) : (tx l).length = l.length := by simp [tx, PySem.Str.length]
theorem tx_app (a b : List Nat) : tx a ++ tx b = tx (a ++ b) := by
  show PySem.Str.mk (a.toArray ++ b.toArray) = PySem.Str.mk _
  simp
theorem tx_inj {a b : List Nat} : tx a = tx b ↔ a = b := by
  unfold tx
  constructor
  · intro h; have := congrArg (fun s : PySem.Str => s.cps.toList) h; simpa using this
  · rintro rfl; rfl
/-- the sign of a text at a place -/
noncomputable def sgn (x : PySem.Str) (i : Int) : Nat := x.cps.toList.getD i.toNat 0
theorem item_sgn {x : PySem.Str} {i : Int} (h0 : 0 ≤ i) (h1 : i < x.length) : Txt.item x i = tx [sgn x i] := by
  have e : seqIndex? i x.length = some i.toNat := by
    unfold seqIndex?
    have : ¬ i < 0 := by omega
    simp [h0, this]; omega
  have hlt : i.toNat < x.cps.size := by unfold PySem.Str.length at h1; omega
  unfold Txt.item Txt.charAt
  rw [e]
  have : sgn x i = x.cps[i.toNat] := by unfold sgn; simp [hlt]
  rw [this]
  simp [hlt, tx]
/-- what stands ahead of the quotation mark that ends a name -/
noncomputable def pq : List Nat → List Nat
  | [] => []
  | [c] => if c = 34 then [] else [c]
  | c :: c' :: r => if c = 34 then (if c' = 34 then 34 :: pq r else []) else c :: pq (c' :: r)
theorem pq_cons {c : Nat} {r : List Nat} (h : c ≠ 34) : pq (c :: r) = c :: pq r := by
  cases r with
  | nil => simp [pq, h]
  | cons c' r => simp [pq, h]
theorem pq_two (r : List Nat) : pq (34 :: 34 :: r) = 34 :: pq r := by simp [pq]
theorem pq_stop {r : List Nat} (h : ∀ r', r ≠ 34 :: r') : pq (34 :: r) = [] := by
  cases r with
  | nil => simp [pq]
  | cons c' r =>
    have : c' ≠ 34 := fun e => h r (by rw [e])
    simp [pq, this]
/-- between the turns of parse257's loop -/
noncomputable def PInv (x : PySem.Str) (l : List Nat) (i : Int) (d : PySem.Str) : Prop := 5 ≤ i ∧ i ≤ (x.length : Int) ∧ d.length ≤ i.toNat ∧ d.cps.toList ++ pq (l.drop (i.toNat - 5)) = pq l
section
variable {x : PySem.Str} {l : List Nat} {i : Int} {d : PySem.Str}
theorem pinv_start (hx : x = tx ([50, 53, 55, 32, 34] ++ l)) : PInv x l 5 (PySem.Str.ofString "") := by
  subst hx
  refine ⟨Int.le_refl _, by rw [tx_len]; simp; omega, by decide +kernel, ?_⟩
  show (PySem.Str.ofString "").cps.toList ++ _ = _
  rw [show (PySem.Str.ofString "").cps.toList = [] by decide +kernel]
  simp
theorem sgn_drop (hx : x = tx ([50, 53, 55, 32, 34] ++ l)) (h5 : 5 ≤ i) (hi : i < x.length) : l.drop (i.toNat - 5) = sgn x i :: l.drop ((i + 1).toNat - 5) := by
  subst hx
  rw [tx_len] at hi
  simp only [List.length_append, List.length_cons, List.length_nil] at hi
  obtain ⟨n, rfl⟩ : ∃ n : Nat, i = (n : Int) + 5 := ⟨(i - 5).toNat, by omega⟩
  have e1 : ((n : Int) + 5).toNat - 5 = n := by omega
  have e2 : ((n : Int) + 5 + 1).toNat - 5 = n + 1 := by omega
  have e3 : ((n : Int) + 5).toNat = n + 5 := by omega
  have hn : n < l.length := by omega
  rw [e1, e2, List.drop_eq_getElem_cons hn]
  congr 1
  unfold sgn tx
  rw [e3]
  simp [hn]
theorem pinv_one (hx : x = tx ([50, 53, 55, 32, 34] ++ l)) (P : PInv x l i d) (hi : i < x.length) (h : sgn x i ≠ 34) : PInv x l (i + 1) (d ++ tx [sgn x i]) := by
  obtain ⟨h1, h2, h3, h4⟩ := P
  refine ⟨by omega, by omega, by rw [PySem.Str.length_append, tx_len]; simp; omega, ?_⟩
  rw [sgn_drop hx h1 hi, pq_cons h] at h4
  rw [← h4]
  show (d.cps ++ _).toList ++ _ = _
  simp [tx]
theorem pinv_two (hx : x = tx ([50, 53, 55, 32, 34] ++ l)) (P : PInv x l i d) (hi : i + 1 < x.length) (h : sgn x i = 34) (h' : sgn x (i + 1) = 34) : PInv x l (i + 1 + 1) (d ++ tx [sgn x i]) := by
  obtain ⟨h1, h2, h3, h4⟩ := P
  refine ⟨by omega, by omega, by rw [PySem.Str.length_append, tx_len]; simp; omega, ?_⟩
  rw [sgn_drop hx h1 (by omega), sgn_drop hx (i := i + 1) (by omega) hi, h, h', pq_two] at h4
  rw [← h4, h]
  show (d.cps ++ _).toList ++ _ = _
  simp [tx]
theorem str_eta (d : PySem.Str) : d = tx d.cps.toList := by cases d; simp [tx]
theorem pinv_stop (hx : x = tx ([50, 53, 55, 32, 34] ++ l)) (P : PInv x l i d) (hi : i < x.length) (h : sgn x i = 34) (h' : ¬ i + 1 < x.length ∨ sgn x (i + 1) ≠ 34) : d = tx (pq l) := by
  obtain ⟨h1, h2, h3, h4⟩ := P
  rw [sgn_drop hx h1 hi, h, pq_stop, List.append_nil] at h4
  · rw [← h4]; exact str_eta d
  · intro r' e
    rcases h' with h' | h'
    · subst hx
      rw [tx_len] at hi h'
      simp only [List.length_append, List.length_cons, List.length_nil] at hi h'
      rw [List.drop_eq_nil_of_le (by omega)] at e
      cases e
    · by_cases hi' : i + 1 < x.length
      · rw [sgn_drop hx (i := i + 1) (by omega) hi'] at e
        exact h' (List.cons.inj e).1
      · subst hx
        rw [tx_len] at hi hi'
        simp only [List.length_append, List.length_cons, List.length_nil] at hi hi'
        rw [List.drop_eq_nil_of_le (by omega)] at e
        cases e
theorem pinv_end (hx : x = tx ([50, 53, 55, 32, 34] ++ l)) (P : PInv x l i d) (hi : ¬ i < x.length) : d = tx (pq l) := by
  obtain ⟨h1, h2, h3, h4⟩ := P
  subst hx
  rw [tx_len] at hi
  simp only [List.length_append, List.length_cons, List.length_nil] at hi
  rw [List.drop_eq_nil_of_le (by omega)] at h4
  simp only [pq, List.append_nil] at h4
  rw [← h4]; exact str_eta d
theorem slice3 (hx : x = tx ([50, 53, 55, 32, 34] ++ l)) : (Txt.slice x none (some 3) != PySem.Str.ofString "257") = false := by
  have : Txt.slice x none (some 3) = tx [50, 53, 55] := by
    subst hx
    show StrLaws.sliceText _ none (some ((3 : Nat) : Int)) = _
    rw [StrLaws.sliceText_to (by simp [tx]; omega)]
    simp [tx]
  rw [this]; decide +kernel
theorem slice35 (hx : x = tx ([50, 53, 55, 32, 34] ++ l)) : (Txt.slice x (some 3) (some 5) != PySem.Str.ofString " \"") = false := by
  have : Txt.slice x (some 3) (some 5) = tx [32, 34] := by
    subst hx
    show StrLaws.sliceText _ (some ((3 : Nat) : Int)) (some ((5 : Nat) : Int)) = _
    rw [StrLaws.sliceText_nat _ (by decide) (by rw [tx_len]; simp)]
    simp [tx]
  rw [this]; decide +kernel
end
section
variable {prog : Program} {w : World} {A : Around} {E : Value → Shared → Prop} {s : Shared}
theorem tail_sgn {value slice : PySem.Expr} {x : PySem.Str} {t u : Tok} {i : Int} {Q : Value → Shared → Prop} (h0 : 0 ≤ i) (h1 : i < x.length) (hb : x.length ≤ 16777216) (h : Q (.str (tx [sgn x i]) s.toks) { s with toks := s.toks + 1 })
    (hs : subscripted slice false (Value.str x t) (Value.int i u) = operate [Value.str x t, Value.int i u] (getItem (Value.str x t) (Value.int i u)) := by with_unfolding_all rfl)
    (hl : ∀ r : Value, letTemporaryGo value (Value.str x t) r = pure () := by intro _; rfl) : wpAny (model prog w) A (subscriptTail value slice (.str x t) (.int i u)) Q E s :=
  item_str (fitsSsize_of (N := 9223372036854775808) (by omega) (by omega) (Int.le_refl _)) (by omega) h1 (fun _ => by rw [item_sgn h0 h1]; exact h) hs hl
theorem eq_sgn {c : Nat} {t u : Tok} {Q : Value → Shared → Prop} (h : Q (.bool (decide (c = 34))) s) : wpAny (model prog w) A (compareOp .Eq (.str (tx [c]) t) (.str (PySem.Str.ofString "\"") u)) Q E s :=
  P.eq_str (by
    rw [show (PySem.Str.ofString "\"").cps.toList = [34] by decide +kernel, show (tx [c]).cps.toList = [c] by simp [tx]]
    have : (([c] : List Nat) == [34]) = decide (c = 34) := by by_cases e : c = 34 <;> simp [e]
    rw [this]; exact h)
theorem ne_sgn {c : Nat} {t u : Tok} {Q : Value → Shared → Prop} (h : Q (.bool (!decide (c = 34))) s) : wpAny (model prog w) A (compareOp .NotEq (.str (tx [c]) t) (.str (PySem.Str.ofString "\"") u)) Q E s :=
  P.ne_str (by
    rw [show (PySem.Str.ofString "\"").cps.toList = [34] by decide +kernel, show (tx [c]).cps.toList = [c] by simp [tx]]
    have : (([c] : List Nat) != [34]) = !decide (c = 34) := by by_cases e : c = 34 <;> simp [e]
    rw [this]; exact h)
end
end Hd
end
end
section
open PySem PySem.W PySem.Calls PyProof.Rows
set_option maxRecDepth 100000
set_option maxHeartbeats 4000000
noncomputable section
namespace Hd
local macro_rules | `(tactic| walk_at "idle 0") => `(tactic| skip)
local macro_rules | `(tactic| walk_at "idle 1") => `(tactic| skip)
local macro_rules | `(tactic| walk_at "idle 2") => `(tactic| skip)
local macro_rules | `(tactic| walk_at "idle 3") => `(tactic| skip)
local macro_rules | `(tactic| walk_at "idle 4") => `(tactic| skip)
local macro_rules | `(tactic| walk_at "idle 5") => `(tactic| skip)
local macro_rules | `(tactic| walk_at "idle 6") => `(tactic| skip)
local macro_rules | `(tactic| walk_at "idle 7") => `(tactic| skip)
local macro_rules | `(tactic| walk_at "idle 8") => `(tactic| skip)
local macro_rules | `(tactic| walk_at "idle 9") => `(tactic| skip)
local macro_rules | `(tactic| walk_at "idle 10") => `(tactic| skip)
local macro_rules | `(tactic| walk_at "idle 11") => `(tactic| skip)
local macro_rules | `(tactic| walk_at "idle 12") => `(tactic| skip)
local macro_rules | `(tactic| walk_at "idle 13") => `(tactic| skip)
local macro_rules | `(tactic| walk_at "idle 14") => `(tactic| skip)
local macro_rules | `(tactic| walk_at "idle 15") => `(tactic| skip)
local macro_rules | `(tactic| walk_at "idle 16") => `(tactic| skip)
local macro_rules | `(tactic| walk_at "idle 17") => `(tactic| skip)
local macro_rules | `(tactic| walk_at "idle 18") => `(tactic| skip)
local macro_rules | `(tactic| walk_at "idle 19") => `(tactic| skip)
local macro_rules | `(tactic| walk_at "idle 20") => `(tactic| skip)
local macro_rules | `(tactic| walk_at "idle 21") => `(tactic| skip)
local macro_rules | `(tactic| walk_at "idle 22") => `(tactic| skip)
local macro_rules | `(tactic| walk_at "idle 23") => `(tactic| skip)
local macro_rules | `(tactic| walk_at "idle 24") => `(tactic| skip)
local macro_rules | `(tactic| walk_at "idle 25") => `(tactic| skip)
theorem filled4 : rw' = PySem.Challenge.rw_tr0065_02 ∧ K = K := by
  k_fill
  w_top off
  exact ⟨rfl, rfl⟩
noncomputable def Hold (P : Prop) : Prop := P
theorem hold {P : Prop} (h : Hold P) : P := h
section
variable {w : World} {mean : ExcName → Option Value} {mg mb : PySem.Str → Option Value}
local macro_rules | `(tactic| walk_at "exec While Compare cons nil") => `(tactic| refine hold ?_)
local macro_rules | `(tactic| walk_at "exec While Compare") => `(tactic| refine hold ?_)
local macro_rules | `(tactic| walk_at "exec While") => `(tactic| refine hold ?_)
local macro_rules | `(tactic| walk_at "subscriptTail Name Name str int") => `(tactic| (k_here; k_dflt (refine tail_sgn (by omega) (by omega) (by omega) ?_)))
local macro_rules | `(tactic| walk_at "compareOp Eq str str") => `(tactic| (k_here; (with_reducible refine eq_sgn ?_)))
local macro_rules | `(tactic| walk_at "compareOp NotEq str str") => `(tactic| (k_here; (with_reducible refine ne_sgn ?_)))
local macro_rules | `(tactic| walk_at "binaryOp Add str str") => `(tactic| (k_here; k_dflt (refine SB.add (hsz := by rw [tx_len]; simp only [sizeLine_eq, List.length_cons, List.length_nil]; omega) ?_); intro _ _))
theorem spec_parse (x : PySem.Str) (l : List Nat) (t : Tok) (hx : x = tx ([50, 53, 55, 32, 34] ++ l)) (hl : l.length ≤ 100000) : Spec w mean mg mb 2 53 [.str x t] (fun v => ∃ tk, v = .str (tx (pq l)) tk) := by
  intro news dp un gd cn cs a ccd cl outer A₀ base h₀ L m s Q E B F X N T hk hd hu hret
  refine wpAny_call ?_
  k_dflt cell_enter
  conv in (fBody (st 4)) => whnf
  have hlen : x.length = l.length + 5 := by subst hx; simp [tx, PySem.Str.length]
  have hs3 := slice3 hx
  have hs35 := slice35 hx
  k_steps
  · unfold Hold
    k_with "state" => first | exact pinv_start hx | exact pinv_one hx (by assumption) (by assumption) (by assumption) | exact pinv_two hx (by assumption) (by omega) (by assumption) (by assumption)
    k_while (fun (_ : List Int) (i : Int) (d : PySem.Str) => PInv x l i d) (fun (_ : List Int) (i : Int) (_ : PySem.Str) => x.length - i.toNat) "i" "dirname"
    have hP := kInv
    have hP1 := hP.1
    have hP2 := hP.2.1
    have hP3 := hP.2.2.1
    k_steps
    · exact hret _ _ _ ⟨_, by rw [← pinv_stop hx hP (by omega) (by assumption) (.inl (by omega))]⟩ (by assumption) (by assumption)
    · exact hret _ _ _ ⟨_, by rw [← pinv_stop hx hP (by omega) (by assumption) (.inr (by assumption))]⟩ (by assumption) (by assumption)
    · exact hret _ _ _ ⟨_, by rw [← pinv_end hx hP (by omega)]⟩ (by assumption) (by assumption)
end
end Hd
end
end
section
open PySem PySem.W PySem.Calls PyProof.Rows PySem.Spec PyProof.V
set_option maxRecDepth 100000
set_option maxHeartbeats 4000000
noncomputable section
namespace Hd
section
variable {prog : Program} {w : World} {A : Around} {E : Value → Shared → Prop} {s : Shared} {env : Env} {h₀ : Heap} {x : PySem.Str} {body : List Stmt} {Q : Flow → Shared → Prop}
noncomputable def EndA (h₀ : Heap) (L : Addr) (J : (PySem.Str → Option Value) → List (Addr × Obj) → Prop) (I : Addr) (o : Obj) (s₁ s₂ : Shared) : Prop :=
  ∃ h' tk m' nx, s₂ = { s₁ with heap := h', toks := tk } ∧ Fr h₀ L h' m' ∧ News h₀ L h' (nx ++ [(I, o)]) ∧ (∀ p ∈ nx, p.1 ≠ I) ∧ J m' nx
noncomputable def PostA (h₀ : Heap) (L : Addr) (J : (PySem.Str → Option Value) → List (Addr × Obj) → Prop) (I : Addr) (o : Obj) (s₁ : Shared) (Q : Flow → Shared → Prop) (f : Flow) (s₂ : Shared) : Prop :=
  match f with
  | .ret v => Q (.ret v) s₂
  | .brk => Q .next s₂
  | _ => EndA h₀ L J I o s₁ s₂
theorem loopA {I : Addr} {n : Nat} {P : Nat → Value → Prop} {St : Nat → Heap → Prop} {m₀ : PySem.Str → Option Value} {news : List (Addr × Obj)} (J : Nat → (PySem.Str → Option Value) → List (Addr × Obj) → Prop)
    (W : Walks prog w A I [I] [I] n P St) (hSt : ∀ i h, St i h → ∃ o, h.get? I = some o) (hLf : env.locals ≠ I) (hwr : h₀.get? I = none) (hnw : ∀ p ∈ news, p.1 ≠ I) (hst : St 0 s.heap) (F : Fr h₀ env.locals s.heap m₀) (N : News h₀ env.locals s.heap news) (hj : J 0 m₀ news)
    (turn : ∀ i v m₁ nx h tk o, i < n → P i v → (∀ p ∈ nx, p.1 ≠ I) → J i m₁ nx → Fr h₀ env.locals h (fun y => if y = x then some v else m₁ y) → News h₀ env.locals h (nx ++ [(I, o)]) →
      wpAny (model prog w) A (execs body env) (PostA h₀ env.locals (J (i + 1)) I o { s with heap := h, toks := tk } Q) E { s with heap := h, toks := tk })
    (done : ∀ m₁ nx h tk, J n m₁ nx → Fr h₀ env.locals h m₁ → News h₀ env.locals h nx → Q .next { s with heap := h, toks := tk }) :
    LoopAtV prog w A h₀ env x body Q E (.ref I) s := by
  refine ⟨I, [I], [I], n, P, St, m₀, news, J, rfl, W, by simpa using hLf, by simpa using hwr, by simpa using hnw, hst, F, N, hj, ?_, ?_⟩
  · rintro i v m₁ news₁ s₁ own ⟨hh', tk', rfl⟩ hin hP hJ hnw₁ hof hog hin' hst₁ F₁ N₁
    obtain ⟨o, ho⟩ := hSt _ _ hst₁
    have hmem : (I, o) ∈ own := hin' I (List.mem_singleton.mpr rfl) hwr o ho
    have hall : ∀ p ∈ own, p = (I, o) := by
      intro p hp
      have e1 : p.1 = I := List.mem_singleton.mp (hof p hp)
      have e2 := hog p hp
      rw [e1] at e2
      have e3 : p.2 = o := Option.some.inj (e2.symm.trans ho)
      exact Prod.ext e1 e3
    have N₂ : News h₀ env.locals hh' (news₁ ++ [(I, o)]) := fun p hp => N₁ p ((List.mem_append.mp hp).elim (fun h => List.mem_append.mpr (.inr h)) fun h => List.mem_append.mpr (.inl (by rw [List.mem_singleton.mp h]; exact hmem)))
    refine wpAny_mono (turn i v m₁ news₁ hh' tk' o hin hP (fun p hp => by simpa using hnw₁ p hp) hJ F₁ N₂) (fun f s₂ p => ?_) fun _ _ e => e
    have fin : EndA h₀ env.locals (J (i + 1)) I o { s with heap := hh', toks := tk' } s₂ → LoopStepU h₀ env.locals [I] own (J (i + 1)) { s with heap := hh', toks := tk' } .next s₂ := by
      rintro ⟨h', tk, m', nx, e, F', N', hI, hJ'⟩
      refine ⟨rfl, h', tk, m', nx, e, F', fun p hp => ?_, fun p hp => by simpa using hI p hp, hJ'⟩
      rcases List.mem_append.mp hp with hp | hp
      · exact N' p (List.mem_append.mpr (.inr (by rw [hall p hp]; exact List.mem_singleton.mpr rfl)))
      · exact N' p (List.mem_append.mpr (.inl hp))
    cases f with
    | ret v => exact .ret p
    | brk => exact .brk p
    | next => exact .next (fin p)
    | cont => exact .cont (fin p)
  · rintro h' tk m' news' F' N' _ hJ
    exact done m' news' h' tk hJ F' N'
theorem iter_strA {xt : PySem.Str} {t : Tok} {m₀ : PySem.Str → Option Value} {news : List (Addr × Obj)} (J : Nat → (PySem.Str → Option Value) → List (Addr × Obj) → Prop)
    (hh : A.handled = none) (F : Fr h₀ env.locals s.heap m₀) (N : News h₀ env.locals s.heap news) (hj : J 0 m₀ news)
    (turn : ∀ i (c : Nat) u m₁ nx h tk I o, xt.cps[i]? = some c → (∀ p ∈ nx, p.1 ≠ I) → J i m₁ nx → Fr h₀ env.locals h (fun y => if y = x then some (.str ⟨#[c]⟩ u) else m₁ y) → News h₀ env.locals h (nx ++ [(I, o)]) →
      wpAny (model prog w) A (execs body env) (PostA h₀ env.locals (J (i + 1)) I o { s with heap := h, toks := tk } Q) E { s with heap := h, toks := tk })
    (done : ∀ m₁ nx h tk, J xt.cps.size m₁ nx → Fr h₀ env.locals h m₁ → News h₀ env.locals h nx → Q .next { s with heap := h, toks := tk }) :
    wpAny (model prog w) A (pyIter (.str xt t)) (fun it s₂ => LoopAtV prog w A h₀ env x body Q E it s₂) E s := by
  have key : ∀ (o : Obj) (St : Nat → Heap → Prop), Walks prog w A s.heap.objs.size [s.heap.objs.size] [s.heap.objs.size] xt.cps.size (SignAt xt) St → (∀ i h, St i h → ∃ o, h.get? s.heap.objs.size = some o) → St 0 (s.heap.push o) →
      LoopAtV prog w A h₀ env x body Q E (.ref s.heap.objs.size) { s with heap := s.heap.push o } := by
    intro o St W hSt hst
    refine loopA J W hSt ?_ (next_is_new F) ?_ hst (F.push _) (fun p hp => ⟨Heap.get?_push_of_some _ (N p hp).1, (N p hp).2⟩) hj ?_ done
    · intro e
      exact absurd F.ns.lt (e ▸ Nat.lt_irrefl _)
    · intro p hp hI
      exact absurd (Heap.lt_size (N p hp).1) (hI ▸ Nat.lt_irrefl _)
    · rintro i v m₁ nx h tk o' hi ⟨c, u, hc, rfl⟩ hI hJ F₁ N₁
      exact turn i c u m₁ nx h tk _ o' hc hI hJ F₁ N₁
  cases ha : xt.cps.all (· < 128)
  · exact wpAny_pyIter_wide ha (key _ _ (Walks.strWide hh _ xt t) (fun i h ⟨o, ho, _⟩ => ⟨o, ho⟩) ⟨_, Heap.get?_push_size _ rfl, rfl, rfl⟩)
  · exact wpAny_pyIter_ascii ha (key _ _ (Walks.strAscii hh _ xt t) (fun i h ⟨o, ho, _⟩ => ⟨o, ho⟩) ⟨_, Heap.get?_push_size _ rfl, rfl, rfl⟩)
end
end Hd
end
end
section
open PySem PySem.W PySem.Calls PyProof.Rows
set_option maxRecDepth 100000
set_option maxHeartbeats 4000000
noncomputable section
namespace Hd
noncomputable def bump (ks : List Int) (b : Nat) : List Int := (ks ++ List.replicate (b + 1 - ks.length) 0).set b ((ks ++ List.replicate (b + 1 - ks.length) 0).getD b 0 + 1)
structure WSt where
  ks : List Int
  b : Nat
  n : Nat
  nt : Nat
noncomputable def wsStep (σ : WSt) (c : Nat) : WSt := if c = 9 then ⟨bump σ.ks σ.b, 0, σ.n + 1, σ.nt + 1⟩ else ⟨σ.ks, σ.b + 1, σ.n + 1, σ.nt⟩
noncomputable def wsRun (l : List Nat) : WSt := l.foldl wsStep ⟨[], 0, 0, 0⟩
theorem wsRun_snoc (l : List Nat) (c : Nat) : wsRun (l ++ [c]) = wsStep (wsRun l) c := by simp [wsRun]
theorem bump_len (ks : List Int) (b : Nat) : (bump ks b).length = max ks.length (b + 1) := by
  simp [bump]; omega
theorem wsRun_bd (l : List Nat) : (wsRun l).n = l.length ∧ (wsRun l).b ≤ l.length ∧ (wsRun l).nt ≤ l.length ∧ (wsRun l).ks.length ≤ l.length := by
  have key : ∀ (r : List Nat) (σ : WSt) (k : Nat), σ.n = k ∧ σ.b ≤ k ∧ σ.nt ≤ k ∧ σ.ks.length ≤ k → (r.foldl wsStep σ).n = k + r.length ∧ (r.foldl wsStep σ).b ≤ k + r.length ∧ (r.foldl wsStep σ).nt ≤ k + r.length ∧ (r.foldl wsStep σ).ks.length ≤ k + r.length := by
    intro r
    induction r with
    | nil => intro σ k h; simpa using h
    | cons c r ih =>
      intro σ k h
      have := ih (wsStep σ c) (k + 1) (by
        unfold wsStep
        split
        · have := bump_len σ.ks σ.b
          refine ⟨?_, ?_, ?_, ?_⟩ <;> simp only <;> omega
        · refine ⟨?_, ?_, ?_, ?_⟩ <;> simp only <;> omega)
      simpa [Nat.add_assoc, Nat.add_comm 1] using this
  have := key l ⟨[], 0, 0, 0⟩ 0 (by simp)
  simpa [wsRun] using this
noncomputable def sCh : PySem.Str := PySem.Str.ofString "ch"
noncomputable def sCo : PySem.Str := PySem.Str.ofString "count"
noncomputable def sB : PySem.Str := PySem.Str.ofString "b"
noncomputable def sN : PySem.Str := PySem.Str.ofString "n"
noncomputable def sNt : PySem.Str := PySem.Str.ofString "nt"
noncomputable def wsMap (f : PySem.Str → Option Value) (ch : Option Value) (ca : Addr) (b n nt : Int) (tb tn tt : Tok) (y : PySem.Str) : Option Value :=
  if y = sCh then ch else if y = sCo then some (.ref ca) else if y = sB then some (.int b tb) else if y = sN then some (.int n tn) else if y = sNt then some (.int nt tt) else f y
noncomputable def WsJ (f : PySem.Str → Option Value) (R : List (Addr × Obj)) (l : List Nat) (i : Nat) (m : PySem.Str → Option Value) (nx : List (Addr × Obj)) : Prop :=
  ∃ ch ca vs tb tn tt, nx = (ca, W.listOf (List.toArray vs) 0) :: R ∧ (∀ p ∈ R, p.1 ≠ ca) ∧ IntsAre vs (wsRun (l.take i)).ks ∧ m = wsMap f ch ca (wsRun (l.take i)).b (wsRun (l.take i)).n (wsRun (l.take i)).nt tb tn tt
theorem wsMap_ch (f : PySem.Str → Option Value) (ch : Option Value) (ca : Addr) (b n nt : Int) (tb tn tt : Tok) (v : Value) : (fun y => if y = PySem.Str.ofString "ch" then some v else wsMap f ch ca b n nt tb tn tt y) = wsMap f (some v) ca b n nt tb tn tt := by
  funext y
  unfold wsMap sCh
  by_cases h : y = PySem.Str.ofString "ch" <;> simp [h]
end Hd
end
end
section
open PySem PySem.W PySem.Calls PyProof.Rows
set_option maxRecDepth 100000
set_option maxHeartbeats 4000000
noncomputable section
namespace Hd
local macro_rules | `(tactic| walk_at "idle 0") => `(tactic| skip)
local macro_rules | `(tactic| walk_at "idle 1") => `(tactic| skip)
local macro_rules | `(tactic| walk_at "idle 2") => `(tactic| skip)
local macro_rules | `(tactic| walk_at "idle 3") => `(tactic| skip)
local macro_rules | `(tactic| walk_at "idle 4") => `(tactic| skip)
local macro_rules | `(tactic| walk_at "idle 5") => `(tactic| skip)
local macro_rules | `(tactic| walk_at "idle 6") => `(tactic| skip)
local macro_rules | `(tactic| walk_at "idle 7") => `(tactic| skip)
local macro_rules | `(tactic| walk_at "idle 8") => `(tactic| skip)
local macro_rules | `(tactic| walk_at "idle 9") => `(tactic| skip)
local macro_rules | `(tactic| walk_at "idle 10") => `(tactic| skip)
local macro_rules | `(tactic| walk_at "idle 11") => `(tactic| skip)
local macro_rules | `(tactic| walk_at "idle 12") => `(tactic| skip)
local macro_rules | `(tactic| walk_at "idle 13") => `(tactic| skip)
local macro_rules | `(tactic| walk_at "idle 14") => `(tactic| skip)
local macro_rules | `(tactic| walk_at "idle 15") => `(tactic| skip)
local macro_rules | `(tactic| walk_at "idle 16") => `(tactic| skip)
local macro_rules | `(tactic| walk_at "idle 17") => `(tactic| skip)
local macro_rules | `(tactic| walk_at "idle 18") => `(tactic| skip)
local macro_rules | `(tactic| walk_at "idle 19") => `(tactic| skip)
local macro_rules | `(tactic| walk_at "idle 20") => `(tactic| skip)
local macro_rules | `(tactic| walk_at "idle 21") => `(tactic| skip)
local macro_rules | `(tactic| walk_at "idle 22") => `(tactic| skip)
local macro_rules | `(tactic| walk_at "idle 23") => `(tactic| skip)
local macro_rules | `(tactic| walk_at "idle 24") => `(tactic| skip)
local macro_rules | `(tactic| walk_at "idle 25") => `(tactic| skip)
local macro_rules | `(tactic| walk_at "idle 26") => `(tactic| skip)
local macro_rules | `(tactic| walk_at "idle 27") => `(tactic| skip)
local macro_rules | `(tactic| walk_at "idle 28") => `(tactic| skip)
local macro_rules | `(tactic| walk_at "idle 29") => `(tactic| skip)
local macro_rules | `(tactic| walk_at "idle 30") => `(tactic| skip)
local macro_rules | `(tactic| walk_at "idle 31") => `(tactic| skip)
local macro_rules | `(tactic| walk_at "idle 32") => `(tactic| skip)
local macro_rules | `(tactic| walk_at "idle 33") => `(tactic| skip)
local macro_rules | `(tactic| walk_at "idle 34") => `(tactic| skip)
local macro_rules | `(tactic| walk_at "idle 35") => `(tactic| skip)
local macro_rules | `(tactic| walk_at "idle 36") => `(tactic| skip)
local macro_rules | `(tactic| walk_at "idle 37") => `(tactic| skip)
local macro_rules | `(tactic| walk_at "idle 38") => `(tactic| skip)
theorem filledW : rw' = PySem.Challenge.rw_tr0065_02 ∧ K = K := by
  k_fill
  w_top off
  exact ⟨rfl, rfl⟩
theorem allLt_ne {d : Addr} : ∀ {l : List (Addr × Obj)}, AllLt d l → ∀ p ∈ l, p.1 ≠ d
  | [], _, p, hp => nomatch hp
  | _ :: _, h, p, hp => by
    rcases List.mem_cons.mp hp with rfl | hp
    · exact Nat.ne_of_lt h.1
    · exact allLt_ne h.2 p hp
theorem ints_set {vs : List Value} {ns : List Int} (h : IntsAre vs ns) (x : Int) (t : Tok) : ∀ k, IntsAre (vs.set k (.int x t)) (ns.set k x) := by
  induction h with
  | nil => intro k; exact .nil
  | cons a t' r ih =>
    intro k
    cases k with
    | zero => exact .cons _ _ r
    | succ k => exact .cons _ _ (ih k)
section
variable {prog : Program} {w : World} {A : Around} {E : Value → Shared → Prop} {s : Shared} {h₀ : Heap} {L D : Addr} {m : PySem.Str → Option Value} {R : List (Addr × Obj)} {vs : List Value} {ks : List Int} {n : Nat} {k x : Int} {t u : Tok}
theorem set_int {Q : Unit → Shared → Prop} (F : Fr h₀ L s.heap m) (N : News h₀ L s.heap ((D, W.listOf (List.toArray vs) n) :: R)) (hR : ∀ p ∈ R, p.1 ≠ D) (hi : IntsAre vs ks) (h0 : 0 ≤ k) (h1 : k < ks.length) (hb : ks.length < 2 ^ 62)
    (h : ∀ h' us, Fr h₀ L h' m → News h₀ L h' ((D, W.listOf (List.toArray us) n) :: R) → IntsAre us (ks.set k.toNat x) → Q () { s with heap := h' }) : wpAny (model prog w) A (setItem (.ref D) (.int k t) (.int x u)) Q E s := by
  have z := N _ (.head _)
  have hl : vs.length = ks.length := hi.length
  refine ki_setAt z.1 h0 (by omega) (by simp; omega) (h _ (vs.set k.toNat (.int x u)) (F.change (Heap.SameBut.update ..) z.2.1 z.2.2) (ki_turn (pre := []) _ N (fun _ h => (nomatch h)) hR ?_ ?_) (ints_set hi x u _))
  · apply Array.toList_inj.mp
    simp
  · rw [if_pos (by simp)]
end
theorem wsMap_self {m : PySem.Str → Option Value} {ca : Addr} {b n nt : Int} {tb tn tt : Tok} (h1 : m sCo = some (.ref ca)) (h2 : m sB = some (.int b tb)) (h3 : m sN = some (.int n tn)) (h4 : m sNt = some (.int nt tt)) : m = wsMap m (m sCh) ca b n nt tb tn tt := by
  have n1 : sCo ≠ sCh := by decide +kernel
  have n2 : sB ≠ sCh := by decide +kernel
  have n3 : sN ≠ sCh := by decide +kernel
  have n4 : sNt ≠ sCh := by decide +kernel
  have n5 : sB ≠ sCo := by decide +kernel
  have n6 : sN ≠ sCo := by decide +kernel
  have n7 : sNt ≠ sCo := by decide +kernel
  have n8 : sN ≠ sB := by decide +kernel
  have n9 : sNt ≠ sB := by decide +kernel
  have n10 : sNt ≠ sN := by decide +kernel
  funext y
  unfold wsMap
  by_cases e1 : y = sCh
  · simp [e1]
  by_cases e2 : y = sCo
  · rw [e2, if_neg n1, if_pos rfl, h1]
  by_cases e3 : y = sB
  · rw [e3, if_neg n2, if_neg n5, if_pos rfl, h2]
  by_cases e4 : y = sN
  · rw [e4, if_neg n3, if_neg n6, if_neg n8, if_pos rfl, h3]
  by_cases e5 : y = sNt
  · rw [e5, if_neg n4, if_neg n7, if_neg n9, if_neg n10, if_pos rfl, h4]
  rw [if_neg e1, if_neg e2, if_neg e3, if_neg e4, if_neg e5]
theorem news_gen {h₀ h : Heap} {L : Addr} {p : Addr × Obj} {R : List (Addr × Obj)} {G : Prop} (N : News h₀ L h (p :: R)) (k : ∀ R0, R0 = R → News h₀ L h (p :: R0) → G) : G := k R rfl N
theorem take_snoc {l : List Nat} {i c : Nat} (h : (tx l).cps[i]? = some c) : l.take (i + 1) = l.take i ++ [c] ∧ c ∈ l := by
  have h' : l[i]? = some c := by simpa [tx] using h
  refine ⟨?_, List.mem_of_getElem? h'⟩
  simp [List.take_add_one, h']
theorem wsMap_of {m f : PySem.Str → Option Value} {ca : Addr} {b n nt : Int} {tb tn tt : Tok} (h1 : m sCo = some (.ref ca)) (h2 : m sB = some (.int b tb)) (h3 : m sN = some (.int n tn)) (h4 : m sNt = some (.int nt tt))
    (hf : ∀ y, y ≠ PySem.Str.ofString "ch" → y ≠ PySem.Str.ofString "count" → y ≠ PySem.Str.ofString "b" → y ≠ PySem.Str.ofString "n" → y ≠ PySem.Str.ofString "nt" → m y = f y) : m = wsMap f (m sCh) ca b n nt tb tn tt := by
  refine (wsMap_self h1 h2 h3 h4).trans ?_
  funext y
  unfold wsMap
  by_cases e1 : y = sCh
  · simp [e1]
  rw [if_neg e1, if_neg e1]
  by_cases e2 : y = sCo
  · rw [if_pos e2, if_pos e2]
  rw [if_neg e2, if_neg e2]
  by_cases e3 : y = sB
  · rw [if_pos e3, if_pos e3]
  rw [if_neg e3, if_neg e3]
  by_cases e4 : y = sN
  · rw [if_pos e4, if_pos e4]
  rw [if_neg e4, if_neg e4]
  by_cases e5 : y = sNt
  · rw [if_pos e5, if_pos e5]
  rw [if_neg e5, if_neg e5]
  exact hf y e1 e2 e3 e4 e5
theorem wsEnd {h₀ h' : Heap} {L : Addr} {f m' : PySem.Str → Option Value} {R0 R2 : List (Addr × Obj)} {l : List Nat} {i : Nat} {I : Addr} {o : Obj} {s₁ : Shared} {Q : Flow → Shared → Prop} {ca : Addr} {vs : List Value} {ks : List Int} {b n nt : Int} {tb tn tt : Tok} {tk : Nat} {σ : WSt}
    (F : Fr h₀ L h' m') (N : News h₀ L h' ((ca, W.listOf (List.toArray vs) 0) :: R2)) (hm : (I, o) ∈ R2) (hsub : ∀ p ∈ R0, p ∈ R2) (hI : ∀ p ∈ R0, p.1 ≠ I) (hR : ∀ p ∈ R2, p.1 ≠ ca) (hi : IntsAre vs ks) (hs : wsRun (l.take (i + 1)) = σ)
    (ek : ks = σ.ks) (eb : b = σ.b) (en : n = σ.n) (et : nt = σ.nt) (h1 : m' sCo = some (.ref ca)) (h2 : m' sB = some (.int b tb)) (h3 : m' sN = some (.int n tn)) (h4 : m' sNt = some (.int nt tt))
    (hf : ∀ y, y ≠ PySem.Str.ofString "ch" → y ≠ PySem.Str.ofString "count" → y ≠ PySem.Str.ofString "b" → y ≠ PySem.Str.ofString "n" → y ≠ PySem.Str.ofString "nt" → m' y = f y) :
    PostA h₀ L (WsJ f R0 l (i + 1)) I o s₁ Q .next { s₁ with heap := h', toks := tk } := by
  subst ek eb en et
  refine ⟨h', tk, m', (ca, W.listOf (List.toArray vs) 0) :: R0, rfl, F, ?_, ?_, ?_⟩
  · intro p hp
    rcases List.mem_append.mp hp with hp | hp
    · rcases List.mem_cons.mp hp with rfl | hp
      · exact N _ (.head _)
      · exact N _ (.tail _ (hsub p hp))
    · rw [List.mem_singleton.mp hp]; exact N _ (.tail _ hm)
  · intro p hp
    rcases List.mem_cons.mp hp with rfl | hp
    · exact fun e => hR _ hm e.symm
    · exact hI p hp
  · refine ⟨m' sCh, ca, vs, tb, tn, tt, rfl, fun p hp => hR p (hsub p hp), by rw [hs]; exact hi, ?_⟩
    rw [hs]
    exact wsMap_of h1 h2 h3 h4 hf
theorem rep_flat (k : Nat) : (List.replicate k [(0 : Int)]).flatten = List.replicate k 0 := by
  induction k with
  | zero => rfl
  | succ k ih => rw [List.replicate_succ, List.flatten_cons, ih]; rfl
theorem bump_ext {ks : List Int} {b : Nat} (h : (ks.length : Int) ≤ b) : (ks ++ (List.replicate ((b : Int) - ks.length + 1).toNat [(0 : Int)]).flatten).set ((b : Int)).toNat ((ks ++ (List.replicate ((b : Int) - ks.length + 1).toNat [(0 : Int)]).flatten).getD ((b : Int)).toNat 0 + 1) = bump ks b := by
  have e : ((b : Int) - ks.length + 1).toNat = b + 1 - ks.length := by omega
  rw [rep_flat, e]; rfl
theorem bump_in {ks : List Int} {b : Nat} (h : ¬ (ks.length : Int) ≤ b) : ks.set ((b : Int)).toNat (ks.getD ((b : Int)).toNat 0 + 1) = bump ks b := by
  have e : b + 1 - ks.length = 0 := by omega
  unfold bump
  rw [e, List.replicate_zero, List.append_nil]; rfl
noncomputable def wsDict (P : Params) (raw : PySem.Str) (D : Addr) (n nt : Nat) (sm : Bool) (t t1 t2 t3 t4 t5 tn tt : Tok) : Obj :=
  dictOf [{ hash := PyData.keyHash P (PySem.Str.ofString "raw"), key := .str (PySem.Str.ofString "raw") t1, val := .str raw t },
    { hash := PyData.keyHash P (PySem.Str.ofString "n"), key := .str (PySem.Str.ofString "n") t2, val := .int n tn },
    { hash := PyData.keyHash P (PySem.Str.ofString "nt"), key := .str (PySem.Str.ofString "nt") t3, val := .int nt tt },
    { hash := PyData.keyHash P (PySem.Str.ofString "norm"), key := .str (PySem.Str.ofString "norm") t4, val := .ref D },
    { hash := PyData.keyHash P (PySem.Str.ofString "is_simple"), key := .str (PySem.Str.ofString "is_simple") t5, val := .bool sm }] 5
section
variable {w : World} {mean : ExcName → Option Value} {mg mb : PySem.Str → Option Value}
local macro_rules | `(tactic| walk_at "exec For Name Attribute cons nil") => `(tactic| refine hold ?_)
local macro_rules | `(tactic| walk_at "pyIter str") => `(tactic| refine hold ?_)
local macro_rules | `(tactic| walk_at "setItem ref int") => `(tactic| (k_here; k_dflt (refine' set_int ?k1 ?k2 ?k3 ?k4 ?k5 ?k6 ?k7 ?_; (case k1 => k_asm); (case k2 => k_asm); (case k3 => first | assumption | k_all); (case k4 => l_ints); (case k5 => omega); (case k6 => omega); (case k7 => omega)); intro h' us' F' N' i'))
local macro_rules | `(tactic| walk_at "call type:tuple") => `(tactic| (k_here; (with_reducible show wpAny _ _ (call (Value.type _) [Value.ref _]) _ _ _); k_dflt (refine' kde_tupleOf ?k1 ?k2 ?k3 ?k4 ?k5 ?_; (case k1 => k_asm); (case k2 => k_asm); (case k3 => exact News.isList (by k_asm) (by k_mem)); (case k4 => simp only [List.size_toArray]; omega); (case k5 => exact rfl)); intro D' h' F' N' l1; (try k_lt l1); (try k_sweep)))
local macro_rules | `(tactic| k_all) => `(tactic| exact allLt_ne (by assumption))
theorem ws_spec (l : List Nat) (t : Tok) (hl : l.length ≤ 10000) (hc : ∀ c ∈ l, c = 32 ∨ c = 9)
  (news : List (Addr × Obj)) (dp un : Nat) (gd : Option (List Code)) (cn : PySem.Str) (cs : Scope) (a : Addr) (ccd : Value) (cl : List (PySem.Str × Addr)) (outer : List Env) (A₀ : Around) (base h₀ : Heap) (L : Addr) (m : PySem.Str → Option Value) (s : Shared) (Q E : Value → Shared → Prop)
    (B : Below A₀ base outer h₀) (F : Fr h₀ L s.heap m) (X : (K w.params).In h₀) (N : News h₀ L s.heap news) (T : Top q (looseW q loose) mean mg mb h₀) (hk : cs.kind = .function) (hd : dp + 4 < recursionLimit) (hu : un + 400 < cLine)
    (hret : ∀ (x d D1 D2 : Addr) (vs : List Value) (sm : Bool) (t1 t2 t3 t4 t5 tb tn tt : Tok) (h' : Heap) (tk' : Nat), IntsAre vs (wsRun l).ks → (∀ p ∈ news, p.1 < d) → d < x → x < D1 → D1 < D2 → Fr h₀ L h' m →
      News h₀ L h' ((D2, ({ cls := .type "tuple", data := .seq #[.ref D1, .int (wsRun l).b tb] } : Obj)) :: (D1, ({ cls := .type "tuple", data := .seq vs.toArray } : Obj)) :: (x, instObj 179 d) :: (d, wsDict w.params (tx l) D2 (wsRun l).n (wsRun l).nt sm t t1 t2 t3 t4 t5 tn tt) :: news) → Q (.ref x) { s with heap := h', toks := tk' }) :
    wpAny (model pr w) (ktrTop dp un gd cn cs L a ccd cl outer) (call (.ref 179) [.str (tx l) t]) Q E s := by
  k_dflt (refine' call_cls ?k1 ?k2 ?k3 ?k4 ?k5 ?k6 ?_; (case k1 => k_asm); (case k2 => k_asm); (case k3 => k_asm); (case k4 => k_is); (case k5 => k_is); (case k6 => k_is))
  intro x' d' h' F' N' l1 l2
  (try k_lt l1); (try k_lt2 l2); (try k_sweep)
  k_dflt cell_enter
  conv in (fBody (sub (st 11) 1)) => whnf
  k_steps
  unfold Hold
  (rename Fr _ _ _ _ => lF')
  (with_unfolding_all refine' For_invVF lF' ?k1 ?k2 ?_; (case k1 => exact rfl); (case k2 => exact rfl); k_whole)
  k_steps
  unfold Hold
  (rename Fr _ _ _ _ => lF'); (rename News _ _ _ _ => lN')
  refine news_gen lN' fun R0 hR0 lN0 => ?_
  refine iter_strA (WsJ _ R0 l) (by rfl) lF' lN0 ⟨_, _, [], _, _, _, rfl, ?hR, .nil, wsMap_self (by rfl) (by rfl) (by rfl) (by rfl)⟩ ?turn ?done
  case hR => subst hR0; k_all
  case turn =>
    rintro i c u m₁ nx h tk I o hic hI ⟨ch, ca, vs, tb, tn, tt, rfl, hR, hi, rfl⟩ F' N'
    clear hR0 lN' lN0 lF'
    rw [wsMap_ch] at F'
    obtain ⟨htk, hcm⟩ := take_snoc hic
    have hbd := wsRun_bd (l.take i)
    have hlt : (l.take i).length ≤ 10000 := by rw [List.length_take]; omega
    have hs : wsRun (l.take (i + 1)) = wsStep (wsRun (l.take i)) c := by rw [htk, wsRun_snoc]
    generalize wsRun (l.take i) = σ at *
    have hIc : ca ≠ I := hI _ (.head _)
    have hR1 : ∀ p ∈ R0 ++ [(I, o)], p.1 ≠ ca := by
      intro p hp
      rcases List.mem_append.mp hp with hp | hp
      · exact hR p hp
      · rw [List.mem_singleton.mp hp]; exact fun e => hIc e.symm
    rw [List.cons_append] at N'
    have hI0 : ∀ p ∈ R0, p.1 ≠ I := fun p hp => hI p (.tail _ hp)
    have hIm : (I, o) ∈ R0 ++ [(I, o)] := List.mem_append.mpr (.inr (.head _))
    generalize hR1e : R0 ++ [(I, o)] = R1 at *
    have hbl : σ.b ≤ 10000 := by omega
    have hnl : σ.n ≤ 10000 := by omega
    have htl : σ.nt ≤ 10000 := by omega
    have hkl : σ.ks.length ≤ 10000 := by omega
    unfold wsMap sCh sCo sB sN sNt at F'
    have hsub : ∀ p ∈ R0, p ∈ R1 := fun p hp => by rw [← hR1e]; exact List.mem_append.mpr (.inl hp)
    rcases hc c hcm with rfl | rfl
    · k_steps
      refine wsEnd (by assumption) (by assumption) hIm hsub hI0 (by assumption) hi hs (by rfl) (by rfl) (by rfl) (by rfl) (by rfl) (by rfl) (by rfl) (by rfl) ?_
      intro y h1 h2 h3 h4 h5
      simp only [h1, h2, h3, h4, h5, if_false]
    · k_steps
      · refine wsEnd (by assumption) (by assumption) ?_ ?_ hI0 (by k_all) (by assumption) hs (bump_ext (by assumption)) (by rfl) (by rfl) (by rfl) (by rfl) (by rfl) (by rfl) (by rfl) ?_
        · simp only [List.mem_cons]; exact .inr (.inr (.inr hIm))
        · intro p hp; simp only [List.mem_cons]; exact .inr (.inr (.inr (hsub p hp)))
        intro y h1 h2 h3 h4 h5
        simp only [h1, h2, h3, h4, h5, if_false]
      · refine wsEnd (by assumption) (by assumption) hIm hsub hI0 (by assumption) (by assumption) hs (bump_in (by assumption)) (by rfl) (by rfl) (by rfl) (by rfl) (by rfl) (by rfl) (by rfl) ?_
        intro y h1 h2 h3 h4 h5
        simp only [h1, h2, h3, h4, h5, if_false]
  case done =>
    rintro m₁ nx h tk ⟨ch, ca, vs, tb, tn, tt, rfl, hR, hi, rfl⟩ F' N'
    have hsz : (tx l).cps.size = l.length := by simp [tx]
    rw [hsz, List.take_length] at F' hi
    have hbd := wsRun_bd l
    generalize hσ : wsRun l = σ at *
    have hbl : σ.b ≤ 10000 := by omega
    have hnl : σ.n ≤ 10000 := by omega
    have htl : σ.nt ≤ 10000 := by omega
    have hkl : σ.ks.length ≤ 10000 := by omega
    have hlk : vs.length = σ.ks.length := hi.length
    subst hR0
    clear lF' lN0 lN'
    obtain ⟨a1, a2, a3, a4⟩ : _ ∧ _ ∧ _ ∧ _ := by
      rw [List.forall_mem_cons, List.forall_mem_cons, List.forall_mem_cons] at hR
      exact hR
    dsimp only at a1 a2 a3
    have b1 := Ne.symm a1
    have b2 := Ne.symm a2
    have b3 := Ne.symm a3
    clear hR
    unfold wsMap sCh sCo sB sN sNt at F'
    k_steps
    subst hσ
    refine hret _ _ _ _ _ _ _ _ _ _ _ _ _ _ _ _ hi l1 l2 ?_ ?_ (by assumption) (by refine' cb_drop ?cbN ?cbS; (case cbN => assumption); (case cbS => kcj_all))
    · exact (by assumption : ca < _ ∧ _ ∧ x' < _ ∧ _).2.2.1
    · exact (by assumption : _ < _ ∧ _ < _ ∧ _ < _ ∧ _ < _ ∧ _ < _ ∧ _).1
end
end Hd
end
end
section
open PySem PySem.W PySem.Calls PyProof.Rows
set_option maxRecDepth 100000
set_option maxHeartbeats 4000000
noncomputable section
namespace Hd
theorem filledIn : rw' = PySem.Challenge.rw_tr0065_02 ∧ K = K := by
  k_fill
  w_top off
  exact ⟨rfl, rfl⟩
section
variable {prog : Program} {w : World} {A : Around} {E : Value → Shared → Prop} {s : Shared}
theorem len_tupI {t : Addr} {vs : List Value} {ks : List Int} {Q : Value → Shared → Prop} (ht : IsTup s.heap t vs.toArray) (hi : IntsAre vs ks) (hb : ks.length ≤ 10000)
    (h : Q (.int ks.length (s.toks + 1)) { s with toks := s.toks + 1 + 1 }) : wpAny (model prog w) A (call (.builtin "len") [.ref t]) Q E s := by
  have e : vs.toArray.size = ks.length := by simpa using hi.length
  refine PyProof.Rows.len_tuple ht (by omega) ?_
  rw [e]; exact h
end
theorem mulOk_small {a b : Int} (h1 : -1000000000000000 ≤ a) (h2 : a ≤ 1000000000000000) (h3 : -1000000000000000 ≤ b) (h4 : b ≤ 1000000000000000) : IntMulOk a b :=
  IntMulOk.of_le (m := 64) (n := 64) (intBits_le_iff.mpr (by omega)) (intBits_le_iff.mpr (by omega)) (by decide)
theorem fdiv_bd {k T0 : Int} (h0 : 0 ≤ k) (h1 : k ≤ 100000) (h2 : 1 ≤ T0) : 0 ≤ k.fdiv T0 ∧ k.fdiv T0 ≤ 100000 := by
  rw [Int.fdiv_eq_ediv_of_nonneg _ (by omega)]
  exact ⟨Int.ediv_nonneg h0 (by omega), Int.le_trans (Int.ediv_le_self _ h0) h1⟩
section
variable {w : World} {mean : ExcName → Option Value} {mg mb : PySem.Str → Option Value}
local macro_rules | `(tactic| walk_at "call builtin:len") => `(tactic| (k_here; k_dflt (refine' len_tupI ?k1 ?k2 ?k3 ?_; (case k1 => exact News.isTup (by k_asm) (by k_mem)); (case k2 => assumption); (case k3 => omega))))
local macro_rules | `(tactic| walk_at "pyIter ref") => `(tactic| refine hold ?_)
local macro_rules | `(tactic| walk_at "binaryOp Mult int int") => `(tactic| (k_here; k_dflt (first | refine mul_int ?_ (mulOk_small (by omega) (by omega) (by omega) (by omega)) | refine mul_int ?_)))
noncomputable def ilOf (ks : List Int) (T0 : Int) (pre : List Int) : Int := (pre.map fun k => k.fdiv T0 * ks.getD k.toNat 0).sum
theorem ilOf_snoc (ks : List Int) (T0 : Int) (pre : List Int) (k : Int) : ilOf ks T0 (pre ++ [k]) = ilOf ks T0 pre + k.fdiv T0 * ks.getD k.toNat 0 := by simp [ilOf]
theorem ilOf_step {ks : List Int} {T0 c k : Int} {pre : List Int} (h : c = ilOf ks T0 pre) : c + k.fdiv T0 * ks.getD k.toNat 0 = ilOf ks T0 (pre ++ [k]) := by rw [ilOf_snoc, h]
theorem spec_indent (raw : PySem.Str) (ks : List Int) (b n nt : Nat) (x d D1 D2 : Addr) (vs : List Value) (sm : Bool) (T0 : Int) (t tT t1 t2 t3 t4 t5 tb tn tt : Tok) (hi : IntsAre vs ks) (hks : ∀ i, 0 ≤ ks.getD i 0 ∧ ks.getD i 0 ≤ 100000) (hkl : ks.length ≤ 10000) (hbl : b ≤ 10000) (hntl : nt ≤ 10000) (h1 : 1 ≤ T0) (h2 : T0 ≤ 10000)
  (news : List (Addr × Obj)) (dp un : Nat) (gd : Option (List Code)) (cn : PySem.Str) (cs : Scope) (a : Addr) (ccd : Value) (cl : List (PySem.Str × Addr)) (outer : List Env) (A₀ : Around) (base h₀ : Heap) (L : Addr) (m : PySem.Str → Option Value) (s : Shared) (Q E : Value → Shared → Prop)
    (B : Below A₀ base outer h₀) (F : Fr h₀ L s.heap m) (X : (K w.params).In h₀)
    (N : News h₀ L s.heap ((D2, ({ cls := .type "tuple", data := .seq #[.ref D1, .int b tb] } : Obj)) :: (D1, ({ cls := .type "tuple", data := .seq vs.toArray } : Obj)) :: (x, instObj 179 d) :: (d, wsDict w.params raw D2 n nt sm t t1 t2 t3 t4 t5 tn tt) :: news))
    (T : Top q (looseW q loose) mean mg mb h₀) (hk : cs.kind = .function) (hd : dp + 4 < recursionLimit) (hu : un + 400 < cLine)
    (hret : ∀ tk h' tk', Fr h₀ L h' m → News h₀ L h' ((D2, ({ cls := .type "tuple", data := .seq #[.ref D1, .int b tb] } : Obj)) :: (D1, ({ cls := .type "tuple", data := .seq vs.toArray } : Obj)) :: (x, instObj 179 d) :: (d, wsDict w.params raw D2 n nt sm t t1 t2 t3 t4 t5 tn tt) :: news) → Q (.int (b + T0 * (ilOf ks T0 (rangeKs T0 (ks.length - T0).toNat) + nt)) tk) { s with heap := h', toks := tk' }) :
    wpAny (model pr w) (ktrTop dp un gd cn cs L a ccd cl outer) (call (.ref 148) [.ref x, .int T0 tT]) Q E s := by
  unfold wsDict at N
  refine wpAny_call ?_
  k_dflt cell_enter
  conv in (fBody (sub (st 11) 3)) => whnf
  k_steps
  unfold Hold
  k_with "state" => first | exact rfl | exact ilOf_step (by assumption)
  k_state (fun pre il => il = ilOf ks T0 pre) "il"
  · have hN0 : 0 ≤ kN := by omega
    have hN1 : kN ≤ 100000 := by omega
    have hfd := fdiv_bd hN0 hN1 h1
    have hv := hks kN.toNat
    have hfd1 := hfd.1
    have hfd2 := hfd.2
    have hv1 := hv.1
    have hv2 := hv.2
    k_steps
  · k_steps
    rw [kInv]
    exact hret _ _ _ (by assumption) (by refine' cb_drop ?cbN ?cbS; (case cbN => assumption); (case cbS => kcj_all))
end
end Hd
end
end
section
open PySem PySem.W PySem.Calls PyProof.Rows
set_option maxRecDepth 100000
set_option maxHeartbeats 2000000
noncomputable section
namespace Hd
noncomputable def b3Find (k : Int) : Option PySem.Str := (b3D.find? fun x => decide (x.1 = k)).map (·.2)
theorem entL_find (k : Int) : ∀ (ps : List PD) (tk : Nat), (∃ x, ps.find? (fun x => decide (x.1 = k)) = some x ∧ ∃ e t, (entL tk ps).find? (fun e => Value.isInt k e.key) = some e ∧ e.val = .str x.2 t) ∨
    (ps.find? (fun x => decide (x.1 = k)) = none ∧ (entL tk ps).find? (fun e => Value.isInt k e.key) = none)
  | [], tk => .inr ⟨rfl, rfl⟩
  | (j, s) :: r, tk => by
    by_cases h : j = k
    · subst h
      exact .inl ⟨(j, s), List.find?_cons_of_pos (by simp), ⟨hashInt j, .int j tk, .str s (tk + 1)⟩, tk + 1, List.find?_cons_of_pos (by simp [Value.isInt]), rfl⟩
    · have n1 : ¬ (decide (j = k)) = true := by simp [h]
      have n2 : ¬ (Value.isInt k (Value.int j tk)) = true := by simp [Value.isInt, h]
      rcases entL_find k r (tk + 3) with ⟨x, h1, e, t, h2, h3⟩ | ⟨h1, h2⟩
      · exact .inl ⟨x, by rw [List.find?_cons_of_neg (by exact n1)]; exact h1, e, t, by (show List.find? _ (_ :: entL (tk + 3) r) = _); rw [List.find?_cons_of_neg (by exact n2)]; exact h2, h3⟩
      · exact .inr ⟨by rw [List.find?_cons_of_neg (by exact n1)]; exact h1, by (show List.find? _ (_ :: entL (tk + 3) r) = _); rw [List.find?_cons_of_neg (by exact n2)]; exact h2⟩
theorem entS_find (k : Int) : ∀ (ps : List PD) (tk : Nat), (∃ x, ps.find? (fun x => decide (x.1 = k)) = some x ∧ ∃ e t, (entS tk ps).find? (fun e => Value.isInt k e.key) = some e ∧ e.val = .str x.2 t) ∨
    (ps.find? (fun x => decide (x.1 = k)) = none ∧ (entS tk ps).find? (fun e => Value.isInt k e.key) = none)
  | [], tk => .inr ⟨rfl, rfl⟩
  | (j, s) :: r, tk => by
    by_cases h : j = k
    · subst h
      exact .inl ⟨(j, s), List.find?_cons_of_pos (by simp), ⟨hashInt j, .int j tk, .str s (tk + 1)⟩, tk + 1, List.find?_cons_of_pos (by simp [Value.isInt]), rfl⟩
    · have n1 : ¬ (decide (j = k)) = true := by simp [h]
      have n2 : ¬ (Value.isInt k (Value.int j tk)) = true := by simp [Value.isInt, h]
      rcases entS_find k r (tk + 2) with ⟨x, h1, e, t, h2, h3⟩ | ⟨h1, h2⟩
      · exact .inl ⟨x, by rw [List.find?_cons_of_neg (by exact n1)]; exact h1, e, t, by (show List.find? _ (_ :: entS (tk + 2) r) = _); rw [List.find?_cons_of_neg (by exact n2)]; exact h2, h3⟩
      · exact .inr ⟨by rw [List.find?_cons_of_neg (by exact n1)]; exact h1, by (show List.find? _ (_ :: entS (tk + 2) r) = _); rw [List.find?_cons_of_neg (by exact n2)]; exact h2⟩
theorem split8' : b3D = (b3c0 ++ b3cs.flatten) ++ b3last := by kernel_rfl
theorem b3_find (k : Int) : (∃ s t, b3Find k = some s ∧ findBy Value.isInt b3Ents.toArray k = some (.str s t)) ∨ (b3Find k = none ∧ findBy Value.isInt b3Ents.toArray k = none) := by
  have e : findBy Value.isInt b3Ents.toArray k = (b3Ents.find? fun e => Value.isInt k e.key).map (·.val) := by
    unfold findBy; rw [List.find?_toArray]
  rw [e]
  have e2 : b3Find k = Option.map (·.2) (((b3c0 ++ b3cs.flatten).find? (fun x => decide (x.1 = k))).or (b3last.find? (fun x => decide (x.1 = k)))) := by
    unfold b3Find; rw [split8', List.find?_append (xs := b3c0 ++ b3cs.flatten)]
  have e3 : (b3Ents.find? fun e => Value.isInt k e.key) = ((entL 312 (b3c0 ++ b3cs.flatten)).find? (fun e => Value.isInt k e.key)).or ((entS (312 + 51 + 51 * 37) b3last).find? (fun e => Value.isInt k e.key)) := by
    unfold b3Ents; rw [List.find?_append]
  rw [e2, e3]
  rcases entL_find k (b3c0 ++ b3cs.flatten) 312 with ⟨x, h1, e, t, h2, h3⟩ | ⟨h1, h2⟩
  · exact .inl ⟨x.2, t, by rw [h1]; rfl, by rw [h2]; simp [h3]⟩
  · rw [h1, h2]
    rcases entS_find k b3last (312 + 51 + 51 * 37) with ⟨x, h1, e, t, h2, h3⟩ | ⟨h1, h2⟩
    · exact .inl ⟨x.2, t, by rw [h1]; rfl, by rw [h2]; simp [h3]⟩
    · exact .inr ⟨by rw [h1]; rfl, by rw [h2]; rfl⟩
theorem entL_keys {w : World} (tk : Nat) (ps : List PD) : ∀ e ∈ entL tk ps, ∃ k, (intKind pr w).is k e.key = true ∧ e.hash = (intKind pr w).hash k := by
  induction ps generalizing tk with
  | nil => intro e he; cases he
  | cons x a ih => obtain ⟨k, s⟩ := x; intro e he; rcases List.mem_cons.mp he with rfl | he; exact ⟨k, intKind_is _ _ _ _, rfl⟩; exact ih _ e he
theorem entS_keys {w : World} (tk : Nat) (ps : List PD) : ∀ e ∈ entS tk ps, ∃ k, (intKind pr w).is k e.key = true ∧ e.hash = (intKind pr w).hash k := by
  induction ps generalizing tk with
  | nil => intro e he; cases he
  | cons x a ih => obtain ⟨k, s⟩ := x; intro e he; rcases List.mem_cons.mp he with rfl | he; exact ⟨k, intKind_is _ _ _ _, rfl⟩; exact ih _ e he
theorem mapB3 {w : World} {h : Heap} (X : (K w.params).In h) : h.MapOf (intKind pr w) 72 (fun k => findBy Value.isInt b3Ents.toArray k) := by
  have hg := X 72 (o72 w.params) (by rfl)
  refine ⟨b3Main, b3Ents.toArray, 650, hg, ⟨rfl, rfl, rfl⟩, rfl, fun e he => ?_, fun k => rfl⟩
  have he' : e ∈ b3Ents := by simpa using he
  unfold b3Ents at he'
  rcases List.mem_append.mp he' with h | h
  · exact entL_keys _ _ e h
  · exact entS_keys _ _ e h
section
variable {w : World} {mean : ExcName → Option Value} {mg mb : PySem.Str → Option Value} {A : Around} {E : Value → Shared → Prop} {s : Shared}
theorem get_b3 {k : Int} {t : Tok} {Q : Value → Shared → Prop} (X : (K w.params).In s.heap) (h : Q ((findBy Value.isInt b3Ents.toArray k).getD .none) { s with toks := s.toks + 1 }) :
    wpAny (model pr w) A (call (.builtin "dict.get") [.ref 72, .int k t]) Q E s :=
  have hm := mapB3 X
  call_meetsIn PySem.F.slot_dict_get hm.typeIs PySem.F.entry_dict_get (PySem.F.args_dict_get_2 _ _) (meets_dict_get (intKind pr w) 72 (intKind_is _ _ _ _) (by decide)) ⟨_, hm, h⟩
theorem method_b3 {pl : Sem Bool} {Q : Value × List Value → Shared → Prop} (X : (K w.params).In s.heap) (h : Q (.builtin "dict.get", [.ref 72]) s) :
    wpAny (model pr w) A (getMethod (.ref 72) "get" pl) Q E s :=
  have hm := mapB3 X
  getMethod_builtin hm.typeIs PySem.F.plainAttrs_dict PySem.F.slot_dict_get PySem.F.type_dict_get hm.noDict h
end
end Hd
end
end
section
open PySem PySem.W PySem.Calls PyProof.Rows
set_option maxRecDepth 100000
set_option maxHeartbeats 2000000
noncomputable section
namespace Hd
local macro_rules | `(tactic| walk_at "idle 0") => `(tactic| skip)
local macro_rules | `(tactic| walk_at "idle 1") => `(tactic| skip)
local macro_rules | `(tactic| walk_at "idle 2") => `(tactic| skip)
local macro_rules | `(tactic| walk_at "idle 3") => `(tactic| skip)
local macro_rules | `(tactic| walk_at "idle 4") => `(tactic| skip)
local macro_rules | `(tactic| walk_at "idle 5") => `(tactic| skip)
local macro_rules | `(tactic| walk_at "idle 6") => `(tactic| skip)
local macro_rules | `(tactic| walk_at "idle 7") => `(tactic| skip)
local macro_rules | `(tactic| walk_at "idle 8") => `(tactic| skip)
local macro_rules | `(tactic| walk_at "idle 9") => `(tactic| skip)
local macro_rules | `(tactic| walk_at "idle 10") => `(tactic| skip)
local macro_rules | `(tactic| walk_at "idle 11") => `(tactic| skip)
local macro_rules | `(tactic| walk_at "idle 12") => `(tactic| skip)
theorem filled6 : rw' = PySem.Challenge.rw_tr0065_02 ∧ K = K := by
  k_fill
  w_top off
  exact ⟨rfl, rfl⟩
section
variable {w : World} {mean : ExcName → Option Value} {mg mb : PySem.Str → Option Value}
local macro_rules | `(tactic| walk_at "getMethod ref") => `(tactic| (k_here; (with_reducible show wpAny _ _ (getMethod (Value.ref 72) _ _) _ _ _); refine method_b3 (by k_in) ?_))
local macro_rules | `(tactic| walk_at "call builtin:dict.get") => `(tactic| (k_here; (with_reducible show wpAny _ _ (call (Value.builtin "dict.get") [Value.ref 72, Value.int _ _]) _ _ _); refine get_b3 (by k_in) ?_; (try simp only [*, Option.getD_some, Option.getD_none])))
local macro_rules | `(tactic| walk_at "call builtin:str.lower") => `(tactic| (k_here; refine SCL.lower (by exact Nat.le_of_ble_eq_true rfl) ?_; intro _))
theorem spec_b3 (c : Nat) (t : Tok) : Spec w mean mg mb 2 117 [.str ⟨#[c]⟩ t] (fun v => ∃ tk, v = .str ((b3Find c).getD (Txt.lower ⟨#[c]⟩)) tk) := by
  intro news dp un gd cn cs a ccd cl outer A₀ base h₀ L m s Q E B F X N T hk hd hu hret
  refine wpAny_call ?_
  k_dflt cell_enter
  conv in (fBody (st 9)) => whnf
  rcases b3_find (c : Int) with ⟨bs, bt, hb1, hb2⟩ | ⟨hb1, hb2⟩
  · k_steps
    exact hret _ _ _ ⟨bt, by rw [hb1]; rfl⟩ (by assumption) (by assumption)
  · k_steps
    exact hret _ _ _ ⟨_, by rw [hb1]; rfl⟩ (by assumption) (by assumption)
end
end Hd
end
end
section
open PySem PySem.W PySem.Calls PyProof.Rows PyProof.Rows.LCg PyProof.Rows.LCt
set_option maxRecDepth 100000
set_option maxHeartbeats 2000000
noncomputable section
namespace Hd
section
variable {prog : Program} {w : World} {A : Around} {E : Value → Shared → Prop} {s : Shared} {h₀ : Heap} {L : Addr} {m : PySem.Str → Option Value} {env : Env}
theorem list_out {M : Model} {C D : Addr} {h : Heap} {tk : Nat} {m' : PySem.Str → Option Value} {ys : List Value} {nw : List (Addr × Obj)} {Q : Value → Shared → Prop} (F : Fr h₀ L h m) (N : News h₀ L h ((D, lst ys) :: nw)) (o : Off1 D nw) (v : h.Ns C m')
    (c0 : h₀.get? C = none) (cL : C ≠ L) (cD : C ≠ D) (off : ∀ p ∈ nw, p.1 ≠ C) (fin : FinE h₀ L m s Q ys nw) : compPost M A E none Q (.ref D) C (.ok .next) { s with heap := h, toks := tk } := by
  refine ⟨m', v, fun h' e => fin D h' tk (F.change e cL c0) (fun p hp => ⟨(e.2 p.1 ?_).trans (N p hp).1, (N p hp).2⟩) o⟩
  exact (List.forall_mem_cons (p := fun p : Addr × Obj => p.1 ≠ C)).mpr ⟨Ne.symm cD, off⟩ p hp
-- a text's iterator, ASCII or wide: what the two have in common
theorem text_iter (hh : A.handled = none) {y : PySem.Str} {t : Tok} {Q : Value → Shared → Prop}
    (h : ∀ (a : Addr) (o : Obj) (St : Nat → Heap → Prop), a = s.heap.objs.size → Walks prog w A a [a] [a] y.cps.size (SignAt y) St → (∀ i g, St i g → ∃ o, g.get? a = some o) → (∀ i g g', St i g → (∀ o, g.get? a = some o → g'.get? a = some o) → St i g') →
      St 0 (s.heap.push o) → Q (.ref a) { s with heap := s.heap.push o }) : wpAny (model prog w) A (pyIter (.str y t)) Q E s := by
  have at1 : ∀ {St : Nat → Heap → Prop}, Walks prog w A s.heap.objs.size [s.heap.objs.size] [s.heap.objs.size] y.cps.size (SignAt y) St → ∀ i g g', St i g → (∀ o, g.get? s.heap.objs.size = some o → g'.get? s.heap.objs.size = some o) → St i g' :=
    fun W i g g' st k => W.frame i g g' st fun b hb => by rw [List.mem_singleton.mp hb]; exact k
  by_cases ha : y.cps.all (· < 128) = true
  · have W := Walks.strAscii (prog := prog) (w := w) hh s.heap.objs.size y t
    exact wpAny_pyIter_ascii ha (h _ _ _ rfl W (fun i g st => st.imp fun _ e => e.1) (at1 W) ⟨_, Heap.get?_push_size _ rfl, rfl, rfl⟩)
  · have W := Walks.strWide (prog := prog) (w := w) hh s.heap.objs.size y t
    exact wpAny_pyIter_wide (Bool.eq_false_iff.mpr ha) (h _ _ _ rfl W (fun i g st => st.imp fun _ e => e.1) (at1 W) ⟨_, Heap.get?_push_size _ rfl, rfl, rfl⟩)
theorem push_lt {h : Heap} {o : Obj} {a : Addr} (e : a = h.objs.size) : ∀ b ∈ [a], b < (h.push o).objs.size := fun b hb => by
  rw [List.mem_singleton.mp hb, e, Heap.size_push]; exact Nat.lt_succ_self _
theorem news_lt {h : Heap} {nw : List (Addr × Obj)} (N : News h₀ L h nw) {a : Addr} (e : a = h.objs.size) : ∀ p ∈ nw, p.1 ≠ a := fun p hp => e ▸ Nat.ne_of_lt (Heap.lt_size (N p hp).1)
theorem up_push {h : Heap} {o : Obj} : ∀ b x, h.get? b = some x → (h.push o).get? b = some x := fun _ _ => Heap.get?_push_of_some o
theorem ListComp_S {ct elt iter : PySem.Expr} {x : PySem.Str} {px : Pos} {scope : Scope} {cl : List (PySem.Str × Addr)} {pos : Pos} {Q : Value → Shared → Prop} (F₀ : Fr h₀ L s.heap m)
    (hclos : closureFor scope env = pure cl) (hcell : ∀ y ∈ scope.names, y.2 ≠ .cell) (hkind : scope.kind = .function)
    (hnames : ∀ y ∈ scope.names, y.2 = .local → scope.names.lookup y.1 = some .local) (hx : scope.names.lookup x = some .local)
    (h : wpAny (model prog w) A (eval iter env) (fun xv s₁ => ∃ y t news, xv = .str y t ∧ A.handled = none ∧ Fr h₀ L s₁.heap m ∧ News h₀ L s₁.heap news ∧ y.cps.size ≤ sizeLine ∧
      ∀ s₂ : Shared, (∃ h, s₂ = { s₁ with heap := h }) → CompRestT prog w A h₀ L m env ct elt x scope cl s₂ (fun _ => True) (SignAt y) (FinE h₀ L m s₂ Q) y.cps.size 0 [] news) E s)
    (hs : ∀ x, foldedSetIterable iter env x = pure x := by intro _; rfl) :
    wpAny (model prog w) A (eval (.ListComp elt [⟨.Name x px, iter, [ct], 0⟩] scope pos) env) Q E s := by
  rw [eval_ListComp]
  refine wpAny_comprehension_free (use := none) rfl hs hclos hkind hnames (wpAny_mono h ?_ fun _ _ e => e)
  rintro _ s₁ ⟨y, t, news, rfl, hh, F, N, hsz, R⟩
  refine text_iter hh fun a o St ea W g1 g2 g3 => ?_
  exact block_T W hsz g1 (fun i h h' o' nw st e1 e2 _ _ _ => g2 i h h' st fun o'' e => by rw [e1] at e; cases e; exact e2) hcell hkind hx g3 (push_lt ea) (F.keeps up_push) (N.grown up_push)
    (ea ▸ Nat.ne_of_lt F.ns.lt) (ea ▸ next_is_new F) (news_lt N ea) trivial (R _ ⟨_, rfl⟩) fun D C h tk m' ys nw F' N' o1 v c0 _ cL _ cD off fin => list_out F' N' o1 v c0 cL cD off fin
end
end Hd
end
end
section
open PySem PySem.W PySem.Calls PyProof.Rows
set_option maxRecDepth 100000
set_option maxHeartbeats 4000000
noncomputable section
namespace Hd
local macro_rules | `(tactic| walk_at "idle 0") => `(tactic| skip)
local macro_rules | `(tactic| walk_at "idle 1") => `(tactic| skip)
local macro_rules | `(tactic| walk_at "idle 2") => `(tactic| skip)
local macro_rules | `(tactic| walk_at "idle 3") => `(tactic| skip)
local macro_rules | `(tactic| walk_at "idle 4") => `(tactic| skip)
local macro_rules | `(tactic| walk_at "idle 5") => `(tactic| skip)
local macro_rules | `(tactic| walk_at "idle 6") => `(tactic| skip)
local macro_rules | `(tactic| walk_at "idle 7") => `(tactic| skip)
local macro_rules | `(tactic| walk_at "idle 8") => `(tactic| skip)
local macro_rules | `(tactic| walk_at "idle 9") => `(tactic| skip)
local macro_rules | `(tactic| walk_at "idle 10") => `(tactic| skip)
local macro_rules | `(tactic| walk_at "idle 11") => `(tactic| skip)
local macro_rules | `(tactic| walk_at "idle 12") => `(tactic| skip)
local macro_rules | `(tactic| walk_at "idle 13") => `(tactic| skip)
local macro_rules | `(tactic| walk_at "idle 14") => `(tactic| skip)
local macro_rules | `(tactic| walk_at "idle 15") => `(tactic| skip)
local macro_rules | `(tactic| walk_at "idle 16") => `(tactic| skip)
local macro_rules | `(tactic| walk_at "idle 17") => `(tactic| skip)
local macro_rules | `(tactic| walk_at "idle 18") => `(tactic| skip)
local macro_rules | `(tactic| walk_at "idle 19") => `(tactic| skip)
local macro_rules | `(tactic| walk_at "idle 20") => `(tactic| skip)
local macro_rules | `(tactic| walk_at "idle 21") => `(tactic| skip)
local macro_rules | `(tactic| walk_at "idle 22") => `(tactic| skip)
local macro_rules | `(tactic| walk_at "idle 23") => `(tactic| skip)
local macro_rules | `(tactic| walk_at "idle 24") => `(tactic| skip)
local macro_rules | `(tactic| walk_at "idle 25") => `(tactic| skip)
theorem filledN : rw' = PySem.Challenge.rw_tr0065_02 ∧ K = K := by
  k_fill
  w_top off
  exact ⟨rfl, rfl⟩
noncomputable def SpecL (w : World) (mean : ExcName → Option Value) (mg mb : PySem.Str → Option Value) (n : Nat) (l : Addr) (vs : List Value) (f : Addr) (args : List Value) (R : Value → Prop) : Prop :=
  ∀ (news : List (Addr × Obj)) (dp un : Nat) (gd : Option (List Code)) (cn : PySem.Str) (cs : Scope) (a : Addr) (ccd : Value) (cl : List (PySem.Str × Addr)) (outer : List Env) (A₀ : Around) (base h₀ : Heap) (L : Addr) (m : PySem.Str → Option Value) (s : Shared) (Q E : Value → Shared → Prop),
    Below A₀ base outer h₀ → Fr h₀ L s.heap m → (K w.params).In h₀ → News h₀ L s.heap news → Top q (looseW q loose) mean mg mb h₀ → h₀.IsList l vs.toArray → cs.kind = .function → dp + n < recursionLimit → un + 100 * n < cLine →
    (∀ v h' tk', R v → Fr h₀ L h' m → News h₀ L h' news → Q v { s with heap := h', toks := tk' }) →
    wpAny (model pr w) (ktrTop dp un gd cn cs L a ccd cl outer) (call (.ref f) args) Q E s
theorem fr_list {h₀ h : Heap} {L l : Addr} {m : PySem.Str → Option Value} {its : Array Value} (F : Fr h₀ L h m) (hl : h₀.IsList l its) : h.IsList l its := let ⟨o, ho, r⟩ := hl; ⟨o, F.keep l o ho, r⟩
section
variable {w : World} {mean : ExcName → Option Value} {mg mb : PySem.Str → Option Value}
theorem SpecL.use {n : Nat} {l : Addr} {vs : List Value} {f : Addr} {args : List Value} {R : Value → Prop} (S : SpecL w mean mg mb n l vs f args R)
    {news : List (Addr × Obj)} {dp un : Nat} {gd : Option (List Code)} {cn : PySem.Str} {cs : Scope} {a : Addr} {ccd : Value} {cl : List (PySem.Str × Addr)} {outer : List Env} {A₀ : Around} {base h₀ : Heap} {L : Addr} {m : PySem.Str → Option Value} {s : Shared} {Q E : Value → Shared → Prop}
    (B : Below A₀ base outer h₀) (F : Fr h₀ L s.heap m) (X : (K w.params).In h₀) (N : News h₀ L s.heap news) (T : Top q (looseW q loose) mean mg mb h₀) (hl : h₀.IsList l vs.toArray) (hk : cs.kind = .function) (hd : dp + n < recursionLimit) (hu : un + 100 * n < cLine)
    (hQ : ∀ v h' tk', R v → Fr h₀ L h' m → News h₀ L h' news → Q v { s with heap := h', toks := tk' }) :
    wpAny (model pr w) (ktrTop dp un gd cn cs L a ccd cl outer) (call (.ref f) args) Q E s :=
  S news dp un gd cn cs a ccd cl outer A₀ base h₀ L m s Q E B F X N T hl hk hd hu hQ
theorem spec_number (l : Addr) (vs : List Value) (ns : List Int) (hi : IntsAre vs ns) (hlay : PyData.layable0 (.list (ns.map .int)) = true) (k : Int) (tk : Tok) (hk0 : 0 ≤ k) (hk1 : k < 3) : SpecL w mean mg mb 2 l vs 190 [.ref l, .int k tk] (fun v => ∃ x t, v = .int x t ∧ 0 ≤ x ∧ x < 1000000) := by
  intro news dp un gd cn cs a ccd cl outer A₀ base h₀ L m s Q E B F X N T hl hk hd hu hret
  refine wpAny_call ?_
  k_dflt cell_enter
  conv in (fBody (st 13)) => whnf
  have hl2 := fr_list (by assumption : Fr h₀ L _ m) hl
  clear hl
  k_steps
  · refine hret _ _ _ ⟨_, _, rfl, ?_, ?_⟩ (by assumption) (by refine' cb_drop ?cbN ?cbS; (case cbN => assumption); (case cbS => kcj_all))
    · exact Int.fmod_nonneg_of_pos _ (by decide)
    · exact Int.fmod_lt_of_pos _ (by decide)
  · have hd : ∀ i, 0 ≤ ([5, 0, 0] : List Int).getD i 0 ∧ ([5, 0, 0] : List Int).getD i 0 < 1000000 := by
      intro i
      by_cases h : i < 3
      · have : ∀ j, j < 3 → 0 ≤ ([5, 0, 0] : List Int).getD j 0 ∧ ([5, 0, 0] : List Int).getD j 0 < 1000000 := by decide
        exact this i h
      · rw [List.getD_eq_getElem?_getD, List.getElem?_eq_none (by simpa using h)]; decide
    exact hret _ _ _ ⟨_, _, rfl, (hd _).1, (hd _).2⟩ (by assumption) (by refine' cb_drop ?cbN ?cbS; (case cbN => assumption); (case cbS => kcj_all))
end
end Hd
end
end
section
open PySem PySem.W PySem.Calls PyProof.Rows
set_option maxRecDepth 100000
set_option maxHeartbeats 4000000
noncomputable section
namespace Hd
theorem foldl_rep (c : Nat) : ∀ (k : Nat) (acc : Array Nat), (List.replicate k (#[c] : Array Nat)).foldl (· ++ ·) acc = acc ++ (List.replicate k c).toArray
  | 0, acc => by simp
  | k + 1, acc => by
    rw [List.replicate_succ, List.foldl_cons, foldl_rep c k, List.replicate_succ]
    apply Array.toList_inj.mp
    simp
theorem mul_tx (c : Nat) (j : Int) : Txt.mul (tx [c]) j = tx (List.replicate j.toNat c) := by
  unfold Txt.mul
  by_cases h : j < 1
  · rw [if_pos h]
    have e : j.toNat = 0 := by omega
    rw [e]; rfl
  · rw [if_neg h]
    by_cases h1 : j = 1
    · subst h1; rfl
    · have hf : (j == 1 || (tx [c]).length == 0) = false := by
        rw [tx_len]; simp [h1]
      rw [hf]
      simp only [Bool.false_eq_true, if_false]
      refine PySem.Str.ext' ?_
      show List.foldl (· ++ ·) #[] (List.replicate j.toNat ((tx [c]).cps)) = _
      have : (tx [c]).cps = #[c] := rfl
      rw [this, foldl_rep]
      simp [tx]
theorem sp_tx : PySem.Str.ofString " " = tx [32] := by decide +kernel
theorem tab_tx : PySem.Str.ofString "\t" = tx [9] := by decide +kernel
theorem join_tx0 : ∀ l : List (List Nat), PySem.Str.join (PySem.Str.ofString "") (l.map tx) = tx l.flatten
  | [] => by rfl
  | [x] => by
    show tx x = _
    simp
  | x :: y :: r => by
    have e : PySem.Str.join (PySem.Str.ofString "") ((x :: y :: r).map tx) = tx x ++ PySem.Str.ofString "" ++ PySem.Str.join (PySem.Str.ofString "") ((y :: r).map tx) := rfl
    have e0 : PySem.Str.ofString "" = tx [] := by decide +kernel
    rw [e, join_tx0 (y :: r), e0, tx_app, tx_app]
    simp
theorem join_tx (l : List (List Nat)) : Txt.join (PySem.Str.ofString "") (l.map tx) = tx l.flatten := by
  exact (StrLaws.glued_eq_join _ _).trans (join_tx0 l)
section
variable {prog : Program} {w : World} {A : Around} {E : Value → Shared → Prop} {s : Shared} {t u : Tok} {Q : Value → Shared → Prop} {x y : PySem.Str} {c : Nat} {j : Int} {a b : List Nat}
theorem mul_one (e : x = tx [c]) (h0 : -1000000 ≤ j) (h1 : j ≤ 1000000) (h : ∀ t' k, Q (.str (tx (List.replicate j.toNat c)) t') { s with toks := k }) : wpAny (model prog w) A (binaryOp .Mult (.str x t) (.int j u)) Q E s := by
  subst e
  refine SB.mul (mulOk_of 16 1048576 (by rw [tx_len]; simp) (by omega) (by omega) (by decide) (by decide)) fun t' k => ?_
  rw [mul_tx]; exact h t' k
theorem add_tx (e1 : x = tx a) (e2 : y = tx b) (h1 : a.length ≤ 1000000) (h2 : b.length ≤ 1000000) (h : ∀ t' k, Q (.str (tx (a ++ b)) t') { s with toks := k }) : wpAny (model prog w) A (binaryOp .Add (.str x t) (.str y u)) Q E s := by
  subst e1 e2
  refine SB.add (fun t' k => ?_) (by rw [tx_len, tx_len, sizeLine_eq]; omega)
  rw [tx_app]; exact h t' k
theorem sum_len : ∀ (l : List (List Nat)) (B : Nat), (∀ x ∈ l, x.length ≤ B) → ((l.map tx).map (·.length)).sum ≤ l.length * B
  | [], B, h => by simp
  | x :: r, B, h => by
    have ih := sum_len r B fun y hy => h y (.tail _ hy)
    have hx := h x (.head _)
    simp only [List.map_cons, List.sum_cons, List.length_cons, tx_len]
    rw [Nat.succ_mul]; omega
theorem join_K {D : Addr} {items : Array Value} {l : List (List Nat)} {B : Nat} (hl : s.heap.IsList D items) (hi : StrsAre items.toList (l.map tx)) (hB : ∀ x ∈ l, x.length ≤ B) (hb : l.length * B + l.length ≤ 1048576) (e : x = PySem.Str.ofString "")
    (h : ∀ t' k, Q (.str (tx l.flatten) t') { s with toks := k }) : wpAny (model prog w) A (call (.builtin "str.join") [.str x t, .ref D]) Q E s := by
  subst e
  refine join_listW hl hi (by decide) (by have := sum_len l B hB; rw [List.length_map]; omega) fun t' k => ?_
  rw [join_tx]; exact h t' k
end
noncomputable def TsEl (news : List (Addr × Obj)) (r : List Nat) (y : Value) (news' : List (Addr × Obj)) : Prop := news' = news ∧ ∃ t : Tok, y = .str (tx r) t
section
variable {prog : Program} {w : World} {A : Around} {h₀ : Heap} {L : Addr} {m : PySem.Str → Option Value} {env : Env} {elt : PySem.Expr} {x : PySem.Str} {scope : Scope} {cl : List (PySem.Str × Addr)} {s : Shared} {S : List (Addr × Obj) → Prop} {P : Nat → Value → Prop} {Fin : List Value → List (Addr × Obj) → Prop} {news : List (Addr × Obj)}
theorem strs_back {α : Type} {f : α → PySem.Str} : ∀ {ys : List Value} {l : List α}, CarriedAll ys (l.map fun a => PyData.str (f a)) → StrsAre ys (l.map f)
  | _, [], .nil => .nil
  | _, _ :: _, .cons (.str _ t) r => .cons _ t (strs_back r)
theorem ts_range {n : Nat} {a : Int} (g : Int → List Nat)
    (turn : ∀ k t I oI C oC D m₂ ys h tk (E' : Value → Shared → Prop), a ≤ k → k < a + (n : Int) → LCg.NsObj oC m₂ → m₂ x = some (.int k t) → Fr h₀ L h m → News h₀ L h ((I, oI) :: (C, oC) :: (D, LCg.lst ys) :: news) → LCg.Off3 I C D news → ((@Ne Nat I C) ∧ (@Ne Nat I D) ∧ (@Ne Nat C D)) →
      wpAny (model prog w) A (eval elt (compEnvC scope cl C env)) (LCg.CompEnd h₀ L m { s with heap := h, toks := tk } I oI C oC D (LCg.lst ys) S (fun y news' => TsEl news (g k) y news')) E' { s with heap := h, toks := tk })
    (fin : ∀ ys, StrsAre ys (((rangeKs a n).map g).map tx) → Fin ys news) : LCg.CompRest prog w A h₀ L m env elt x scope cl s S (fun i v => ∃ t, v = .int (a + (i : Int)) t) Fin n 0 [] news :=
  kct_range (fun k => tx (g k)) (fun k t I oI C oC D m₂ ys h tk E' h1 h2 hC hx F N off ne _ => turn k t I oI C oC D m₂ ys h tk E' h1 h2 hC hx F N off ne)
    fun ys hy _ => fin ys (by rw [List.map_map]; exact strs_back hy)
end
end Hd
end
end
section
open PySem PySem.W PySem.Calls PyProof.Rows PyProof.Rows.LCg PyProof.Rows.LCt
set_option maxRecDepth 100000
set_option maxHeartbeats 4000000
noncomputable section
namespace Hd
section
variable {prog : Program} {w : World} {A : Around} {h₀ : Heap} {L : Addr} {m : PySem.Str → Option Value} {env : Env} {ct elt : PySem.Expr} {x : PySem.Str} {scope : Scope} {cl : List (PySem.Str × Addr)} {s : Shared} {S : List (Addr × Obj) → Prop} {Fin : List Value → List (Addr × Obj) → Prop} {news : List (Addr × Obj)}
theorem end_imp {I C D : Addr} {oI oC oD : Obj} {R R' : Value → List (Addr × Obj) → Prop} {s₁ s₂ : Shared} {y : Value} (e : CompEnd h₀ L m s₁ I oI C oC D oD S R y s₂) (k : ∀ nw, R y nw → R' y nw) : CompEnd h₀ L m s₁ I oI C oC D oD S R' y s₂ :=
  let ⟨g, tk, nw, e1, F, N, o, hS, r⟩ := e; ⟨g, tk, nw, e1, F, N, o, hS, k nw r⟩
-- the turns of a comprehension with a test, over a list of things that are laid as values by `val`
theorem restT {α : Type} {P : Nat → Value → Prop} (l : List α) (val : α → Tok → Value) (p : α → Bool) (f : α → PySem.Str) (hP : ∀ i v, i < l.length → P i v → ∃ a u, l[i]? = some a ∧ v = val a u)
    (turn : ∀ a u I oI C oC D m₂ ys h tk (E' : Value → Shared → Prop), a ∈ l → NsObj oC m₂ → m₂ x = some (val a u) → Fr h₀ L h m → News h₀ L h ((I, oI) :: (C, oC) :: (D, lst ys) :: news) → Off3 I C D news → ((@Ne Nat I C) ∧ (@Ne Nat I D) ∧ (@Ne Nat C D)) →
      wpAny (model prog w) A (isTrue ct (compEnvC scope cl C env) (eval ct (compEnvC scope cl C env))) (fun ok s' => if ok = true then
        wpAny (model prog w) A (eval elt (compEnvC scope cl C env)) (CompEnd h₀ L m { s with heap := h, toks := tk } I oI C oC D (lst ys) S (fun y nw => nw = news ∧ p a = true ∧ ∃ t : Tok, y = .str (f a) t)) E' s'
        else CompEnd h₀ L m { s with heap := h, toks := tk } I oI C oC D (lst ys) S (fun _ nw => nw = news ∧ p a = false) Value.none s') E' { s with heap := h, toks := tk })
    (fin : ∀ ys, StrsAre ys ((l.filter p).map f) → Fin ys news) : CompRestT prog w A h₀ L m env ct elt x scope cl s S P Fin l.length 0 [] news := by
  suffices H : ∀ (r q : List α), q ++ r = l → ∀ ys, StrsAre ys ((q.filter p).map f) → CompRestT prog w A h₀ L m env ct elt x scope cl s S P Fin r.length q.length ys news from H l [] rfl [] .nil
  intro r
  induction r with
  | nil => intro q e ys hy; exact CompRestT.zero (fin ys (by rw [← e, List.append_nil]; exact hy))
  | cons b r ih =>
    intro q e ys hy
    have more : ∀ ys', StrsAre ys' (((q ++ [b]).filter p).map f) → CompRestT prog w A h₀ L m env ct elt x scope cl s S P Fin r.length (q.length + 1) ys' news := fun ys' hy' => by
      have z := ih (q ++ [b]) (by rw [List.append_assoc]; exact e) ys' hy'
      rwa [List.length_append] at z
    rw [List.filter_append, List.map_append] at more
    refine CompRestT.succ fun v I oI C oC D m₂ h tk E' hv hC hx F N off ne => ?_
    obtain ⟨a, u, ha, rfl⟩ := hP _ v (by rw [← e]; simp) hv
    obtain rfl : b = a := by simpa [← e] using ha
    refine wpAny_mono (turn b u I oI C oC D m₂ ys h tk E' (by rw [← e]; simp) hC hx F N off ne) (fun ok s₂ z => ?_) fun _ _ e => e
    cases ok with
    | false =>
      rw [if_neg Bool.false_ne_true] at z ⊢
      refine end_imp z ?_
      rintro _ ⟨rfl, hp⟩
      exact more ys (by simpa [hp] using hy)
    | true =>
      rw [if_pos rfl] at z ⊢
      refine wpAny_mono z (fun y s₃ z => end_imp z ?_) fun _ _ e => e
      rintro _ ⟨rfl, hp, t, rfl⟩
      exact more _ (by simpa [hp] using kct_snoc hy)
theorem tsT_rest (l : List Nat) (p : Nat → Bool) (f : Nat → PySem.Str)
    (turn : ∀ c u I oI C oC D m₂ ys h tk (E' : Value → Shared → Prop), c ∈ l → NsObj oC m₂ → m₂ x = some (.str ⟨#[c]⟩ u) → Fr h₀ L h m → News h₀ L h ((I, oI) :: (C, oC) :: (D, lst ys) :: news) → Off3 I C D news → ((@Ne Nat I C) ∧ (@Ne Nat I D) ∧ (@Ne Nat C D)) →
      wpAny (model prog w) A (isTrue ct (compEnvC scope cl C env) (eval ct (compEnvC scope cl C env))) (fun ok s' => if ok = true then
        wpAny (model prog w) A (eval elt (compEnvC scope cl C env)) (CompEnd h₀ L m { s with heap := h, toks := tk } I oI C oC D (lst ys) S (fun y news' => news' = news ∧ p c = true ∧ ∃ t : Tok, y = .str (f c) t)) E' s'
        else CompEnd h₀ L m { s with heap := h, toks := tk } I oI C oC D (lst ys) S (fun _ news' => news' = news ∧ p c = false) Value.none s') E' { s with heap := h, toks := tk })
    (fin : ∀ ys, StrsAre ys ((l.filter p).map f) → Fin ys news) : CompRestT prog w A h₀ L m env ct elt x scope cl s S (SignAt (tx l)) Fin (tx l).cps.size 0 [] news := by
  have z := restT (prog := prog) (w := w) (A := A) (h₀ := h₀) (L := L) (m := m) (env := env) (ct := ct) (elt := elt) (x := x) (scope := scope) (cl := cl) (s := s) (S := S) (Fin := Fin) (news := news) (P := SignAt (tx l)) l (fun c u => .str ⟨#[c]⟩ u) p f
    (fun i v _ hv => by obtain ⟨c, u, hc, e⟩ := hv; exact ⟨c, u, by simpa [tx] using hc, e⟩) turn fin
  rwa [show l.length = (tx l).cps.size by simp [tx]] at z
end
section
variable {prog : Program} {w : World} {A : Around} {E : Value → Shared → Prop} {s : Shared} {h₀ : Heap} {L : Addr} {m : PySem.Str → Option Value} {env : Env}
theorem ListComp_SH {ct elt iter : PySem.Expr} {x : PySem.Str} {px : Pos} {scope : Scope} {cl : List (PySem.Str × Addr)} {pos : Pos} {Q : Value → Shared → Prop} (F₀ : Fr h₀ L s.heap m)
    (hclos : closureFor scope env = pure cl) (hcell : ∀ y ∈ scope.names, y.2 ≠ .cell) (hkind : scope.kind = .function)
    (hnames : ∀ y ∈ scope.names, y.2 = .local → scope.names.lookup y.1 = some .local) (hx : scope.names.lookup x = some .local)
    (h : wpAny (model prog w) A (eval iter env) (fun xv s₁ => Hold (∃ y t news, xv = .str y t ∧ A.handled = none ∧ Fr h₀ L s₁.heap m ∧ News h₀ L s₁.heap news ∧ y.cps.size ≤ sizeLine ∧
      ∀ s₂ : Shared, (∃ h, s₂ = { s₁ with heap := h }) → CompRestT prog w A h₀ L m env ct elt x scope cl s₂ (fun _ => True) (SignAt y) (FinE h₀ L m s₂ Q) y.cps.size 0 [] news)) E s)
    (hs : ∀ x, foldedSetIterable iter env x = pure x := by intro _; rfl) :
    wpAny (model prog w) A (eval (.ListComp elt [⟨.Name x px, iter, [ct], 0⟩] scope pos) env) Q E s :=
  ListComp_S F₀ hclos hcell hkind hnames hx h hs
end
end Hd
end
end
section
open PySem PySem.W PySem.Calls PyProof.Rows
set_option maxRecDepth 100000
set_option maxHeartbeats 8000000
noncomputable section
namespace Hd
local macro_rules | `(tactic| walk_at "idle 0") => `(tactic| skip)
local macro_rules | `(tactic| walk_at "idle 1") => `(tactic| skip)
local macro_rules | `(tactic| walk_at "idle 2") => `(tactic| skip)
local macro_rules | `(tactic| walk_at "idle 3") => `(tactic| skip)
local macro_rules | `(tactic| walk_at "idle 4") => `(tactic| skip)
local macro_rules | `(tactic| walk_at "idle 5") => `(tactic| skip)
local macro_rules | `(tactic| walk_at "idle 6") => `(tactic| skip)
local macro_rules | `(tactic| walk_at "idle 7") => `(tactic| skip)
local macro_rules | `(tactic| walk_at "idle 8") => `(tactic| skip)
local macro_rules | `(tactic| walk_at "idle 9") => `(tactic| skip)
local macro_rules | `(tactic| walk_at "idle 10") => `(tactic| skip)
local macro_rules | `(tactic| walk_at "idle 11") => `(tactic| skip)
local macro_rules | `(tactic| walk_at "idle 12") => `(tactic| skip)
local macro_rules | `(tactic| walk_at "idle 13") => `(tactic| skip)
local macro_rules | `(tactic| walk_at "idle 14") => `(tactic| skip)
local macro_rules | `(tactic| walk_at "idle 15") => `(tactic| skip)
local macro_rules | `(tactic| walk_at "idle 16") => `(tactic| skip)
local macro_rules | `(tactic| walk_at "idle 17") => `(tactic| skip)
local macro_rules | `(tactic| walk_at "idle 18") => `(tactic| skip)
local macro_rules | `(tactic| walk_at "idle 19") => `(tactic| skip)
local macro_rules | `(tactic| walk_at "idle 20") => `(tactic| skip)
local macro_rules | `(tactic| walk_at "idle 21") => `(tactic| skip)
local macro_rules | `(tactic| walk_at "idle 22") => `(tactic| skip)
local macro_rules | `(tactic| walk_at "idle 23") => `(tactic| skip)
local macro_rules | `(tactic| walk_at "idle 24") => `(tactic| skip)
local macro_rules | `(tactic| walk_at "idle 25") => `(tactic| skip)
local macro_rules | `(tactic| walk_at "idle 26") => `(tactic| skip)
local macro_rules | `(tactic| walk_at "idle 27") => `(tactic| skip)
local macro_rules | `(tactic| walk_at "idle 28") => `(tactic| skip)
local macro_rules | `(tactic| walk_at "idle 29") => `(tactic| skip)
local macro_rules | `(tactic| walk_at "idle 30") => `(tactic| skip)
local macro_rules | `(tactic| walk_at "idle 31") => `(tactic| skip)
local macro_rules | `(tactic| walk_at "idle 32") => `(tactic| skip)
local macro_rules | `(tactic| walk_at "idle 33") => `(tactic| skip)
local macro_rules | `(tactic| walk_at "idle 34") => `(tactic| skip)
local macro_rules | `(tactic| walk_at "idle 35") => `(tactic| skip)
local macro_rules | `(tactic| walk_at "idle 36") => `(tactic| skip)
local macro_rules | `(tactic| walk_at "idle 37") => `(tactic| skip)
local macro_rules | `(tactic| walk_at "idle 38") => `(tactic| skip)
theorem filledTy : rw' = PySem.Challenge.rw_tr0065_02 ∧ K = K := by
  k_fill
  w_top off
  exact ⟨rfl, rfl⟩
noncomputable def thrA : List Nat := (PySem.Str.ofString "℡㍱㎑㎒㎓㎔㎪㎫㎬㏙ﬃﬄ").cps.toList
noncomputable def twoA : List Nat := (PySem.Str.ofString "ßﬀﬁﬂﬅﬆ㏋㏗㎀₨№").cps.toList
noncomputable def thrC (i : Int) : Nat := thrA.getD (i.fmod 12).toNat 0
noncomputable def twoC (i : Int) : Nat := twoA.getD (i.fmod 11).toNat 0
theorem thr_nat : ∀ j : Nat, j < 12 → Txt.item (PySem.Str.ofString "℡㍱㎑㎒㎓㎔㎪㎫㎬㏙ﬃﬄ") (j : Int) = tx [thrA.getD j 0] := by decide +kernel
theorem two_nat : ∀ j : Nat, j < 11 → Txt.item (PySem.Str.ofString "ßﬀﬁﬂﬅﬆ㏋㏗㎀₨№") (j : Int) = tx [twoA.getD j 0] := by decide +kernel
theorem fmod_nat (i b : Int) (hb : 0 < b) : ∃ j : Nat, i.fmod b = j ∧ (j : Int) < b := by
  have h0 : 0 ≤ i.fmod b := Int.fmod_nonneg_of_pos _ hb
  have h1 : i.fmod b < b := Int.fmod_lt_of_pos _ hb
  exact ⟨(i.fmod b).toNat, by omega, by omega⟩
theorem thr_item (i : Int) : Txt.item (PySem.Str.ofString "℡㍱㎑㎒㎓㎔㎪㎫㎬㏙ﬃﬄ") (i.fmod 12) = tx [thrC i] := by
  obtain ⟨j, e, h⟩ := fmod_nat i 12 (by decide)
  unfold thrC
  rw [e, thr_nat j (by omega)]; rfl
theorem two_item (i : Int) : Txt.item (PySem.Str.ofString "ßﬀﬁﬂﬅﬆ㏋㏗㎀₨№") (i.fmod 11) = tx [twoC i] := by
  obtain ⟨j, e, h⟩ := fmod_nat i 11 (by decide)
  unfold twoC
  rw [e, two_nat j (by omega)]; rfl
noncomputable def typG (p : Bool) (i : Int) : List Nat := if p then [thrC i, twoC i] else [thrC i]
noncomputable def typL (p : Bool) (x : Int) (L : List Int) : List Nat := (65024 + x.fmod 16).toNat :: (L.map (typG p)).flatten
theorem typ_len (p : Bool) (x : Int) (L : List Int) : (typL p x L).length ≤ 1 + 2 * L.length := by
  unfold typL
  rw [List.length_cons]
  have : (L.map (typG p)).flatten.length ≤ 2 * L.length := by
    induction L with
    | nil => simp
    | cons a L ih =>
      simp only [List.map_cons, List.flatten_cons, List.length_append, List.length_cons]
      have : (typG p a).length ≤ 2 := by unfold typG; split <;> simp
      omega
  omega
theorem typ_one (x : Int) (L : List Int) (k : Int) : tx (typL false x L ++ [thrC k]) = tx (typL false x (L ++ [k])) := by
  simp [typL, typG]
theorem typ_two (x : Int) (L : List Int) (k : Int) : tx (typL true x L ++ [thrC k] ++ [twoC k]) = tx (typL true x (L ++ [k])) := by
  simp [typL, typG]
theorem chr_16 (x : Int) : (decide (65024 + x.fmod 16 < 0) || decide (65024 + x.fmod 16 > 0x10FFFF)) = false := by
  have h0 : 0 ≤ x.fmod 16 := Int.fmod_nonneg_of_pos _ (by decide)
  have h1 : x.fmod 16 < 16 := Int.fmod_lt_of_pos _ (by decide)
  simp only [Bool.or_eq_false_iff, decide_eq_false_iff_not]
  omega
section
variable {w : World} {mean : ExcName → Option Value} {mg mb : PySem.Str → Option Value}
local macro_rules | `(tactic| walk_at "call builtin:chr") => `(tactic| (k_here; refine P.chr_of_int (chr_16 _) ?_))
local macro_rules | `(tactic| walk_at "pyIter ref") => `(tactic| refine hold ?_)
local macro_rules | `(tactic| walk_at "binaryOp Add str str") => `(tactic| (k_here; k_dflt (refine add_tx rfl (by with_reducible first | exact thr_item _ | exact two_item _) (by assumption) (Nat.le_of_ble_eq_true rfl) ?_); intro _ _))
theorem spec_typed (m x : Int) (p : Bool) (t1 t2 : Tok) (hm0 : 0 ≤ m) (hm : m ≤ 30) (hx0 : 0 ≤ x) (hx : x ≤ 1000000) : Spec w mean mg mb 4 197 [.int m t1, .bool p, .int x t2] (fun v => ∃ t, v = .str (tx (typL p x (rangeKs x m.toNat))) t) := by
  intro news dp un gd cn cs a ccd cl outer A₀ base h₀ L mm s Q E B F X N T hk hd hu hret
  refine wpAny_call ?_
  k_dflt cell_enter
  conv in (fBody (st 14)) => whnf
  cases p
  · k_steps
    unfold Hold
    k_with "state" => first | exact typ_one _ _ _ | exact rfl
    k_state (fun pre typed => typed = tx (typL false x pre)) "typed"
    · rename_i typed ttyp
      subst kInv
      have hln0 := typ_len false x kPre
      have hln : (typL false x kPre).length ≤ 1000000 := by omega
      k_steps
    · k_steps
      rw [kInv, show (x + m - x).toNat = m.toNat by congr 1; omega]
      exact hret _ _ _ ⟨_, rfl⟩ (by assumption) (by refine' cb_drop ?cbN ?cbS; (case cbN => assumption); (case cbS => kcj_all))
  · k_steps
    unfold Hold
    k_with "state" => first | exact typ_two _ _ _ | exact rfl
    k_state (fun pre typed => typed = tx (typL true x pre)) "typed"
    · rename_i typed ttyp
      subst kInv
      have hln0 := typ_len true x kPre
      have hln : (typL true x kPre).length ≤ 1000000 := by omega
      have hln2 : (typL true x kPre ++ [thrC kN]).length ≤ 1000000 := by rw [List.length_append]; simp only [List.length_cons, List.length_nil]; omega
      k_steps
    · k_steps
      rw [kInv, show (x + m - x).toNat = m.toNat by congr 1; omega]
      exact hret _ _ _ ⟨_, rfl⟩ (by assumption) (by refine' cb_drop ?cbN ?cbS; (case cbN => assumption); (case cbS => kcj_all))
end
end Hd
end
end
section
open PySem PySem.W PySem.Calls PyProof.Rows
set_option maxRecDepth 100000
set_option maxHeartbeats 8000000
noncomputable section
namespace Hd
theorem filledLi : rw' = PySem.Challenge.rw_tr0065_02 ∧ K = K := by
  k_fill
  w_top off
  exact ⟨rfl, rfl⟩
noncomputable def thrT : List Nat := (PySem.Str.ofString "telhpakhzmhzghzthzkpampagpappmffiffl").cps.toList
noncomputable def twoT : List Nat := (PySem.Str.ofString "ssfffiflststhpphparsno").cps.toList
noncomputable def thrD (i : Int) : List Nat := (thrT.drop ((i.fmod 12).toNat * 3)).take 3
noncomputable def twoD (i : Int) : List Nat := (twoT.drop ((i.fmod 11).toNat * 2)).take 2
theorem thrD_nat : ∀ j : Nat, j < 12 → Txt.slice (PySem.Str.ofString "telhpakhzmhzghzthzkpampagpappmffiffl") (some ((j : Int) * 3)) (some ((j : Int) * 3 + 3)) = tx ((thrT.drop (j * 3)).take 3) ∧ ((thrT.drop (j * 3)).take 3).length = 3 := by decide +kernel
theorem twoD_nat : ∀ j : Nat, j < 11 → Txt.slice (PySem.Str.ofString "ssfffiflststhpphparsno") (some ((j : Int) * 2)) (some ((j : Int) * 2 + 2)) = tx ((twoT.drop (j * 2)).take 2) ∧ ((twoT.drop (j * 2)).take 2).length = 2 := by decide +kernel
theorem thrD_at (i : Int) : Txt.slice (PySem.Str.ofString "telhpakhzmhzghzthzkpampagpappmffiffl") (some (i.fmod 12 * 3)) (some (i.fmod 12 * 3 + 3)) = tx (thrD i) ∧ (thrD i).length = 3 := by
  obtain ⟨j, e, h⟩ := fmod_nat i 12 (by decide)
  unfold thrD
  rw [e]; exact thrD_nat j (by omega)
theorem twoD_at (i : Int) : Txt.slice (PySem.Str.ofString "ssfffiflststhpphparsno") (some (i.fmod 11 * 2)) (some (i.fmod 11 * 2 + 2)) = tx (twoD i) ∧ (twoD i).length = 2 := by
  obtain ⟨j, e, h⟩ := fmod_nat i 11 (by decide)
  unfold twoD
  rw [e]; exact twoD_nat j (by omega)
noncomputable def lisG (p : Bool) (i : Int) : List Nat := if p then thrD i ++ twoD i else thrD i
noncomputable def lisL (p : Bool) (L : List Int) : List Nat := (L.map (lisG p)).flatten
theorem lis_len (p : Bool) (L : List Int) : (lisL p L).length = (if p then 5 else 3) * L.length := by
  unfold lisL
  induction L with
  | nil => cases p <;> rfl
  | cons a L ih =>
    simp only [List.map_cons, List.flatten_cons, List.length_append, List.length_cons, ih]
    have h3 := (thrD_at a).2
    have h2 := (twoD_at a).2
    cases p
    · simp only [lisG, Bool.false_eq_true, if_false, h3]; omega
    · simp only [lisG, if_true, List.length_append, h3, h2]; omega
theorem lis_one (L : List Int) (k : Int) : tx (lisL false L ++ thrD k) = tx (lisL false (L ++ [k])) := by simp [lisL, lisG]
theorem lis_two (L : List Int) (k : Int) : tx (lisL true L ++ thrD k ++ twoD k) = tx (lisL true (L ++ [k])) := by simp [lisL, lisG]
section
variable {w : World} {mean : ExcName → Option Value} {mg mb : PySem.Str → Option Value}
local macro_rules | `(tactic| walk_at "pyIter ref") => `(tactic| refine hold ?_)
local macro_rules | `(tactic| walk_at "binaryOp Mult int int") => `(tactic| (k_here; k_dflt (refine mul_int ?_ (mulOk_small (by omega) (by omega) (by omega) (by omega)))))
local macro_rules | `(tactic| walk_at "binaryOp Add str str") => `(tactic| (k_here; k_dflt (refine add_tx rfl (by with_reducible first | exact (thrD_at _).1 | exact (twoD_at _).1) (by assumption) (by assumption) ?_); intro _ _))
theorem spec_listed (m x : Int) (p : Bool) (t1 t2 : Tok) (hm0 : 0 ≤ m) (hm : m ≤ 30) (hx0 : 0 ≤ x) (hx : x ≤ 1000000) : Spec w mean mg mb 4 204 [.int m t1, .bool p, .int x t2] (fun v => ∃ t, v = .str (tx (lisL p (rangeKs x m.toNat))) t) := by
  intro news dp un gd cn cs a ccd cl outer A₀ base h₀ L mm s Q E B F X N T hk hd hu hret
  refine wpAny_call ?_
  k_dflt cell_enter
  conv in (fBody (st 15)) => whnf
  cases p
  · k_steps
    unfold Hold
    k_with "state" => first | exact lis_one _ _ | exact rfl
    k_state (fun pre listed => listed = tx (lisL false pre)) "listed"
    · rename_i listed ttyp
      subst kInv
      have hln0 := lis_len false kPre
      simp only [Bool.false_eq_true, if_false] at hln0
      have hln : (lisL false kPre).length ≤ 1000000 := by omega
      have hl3 : (thrD kN).length ≤ 1000000 := by rw [(thrD_at kN).2]; decide
      have q0 : 0 ≤ kN.fmod 12 := Int.fmod_nonneg_of_pos _ (by decide)
      have q1 : kN.fmod 12 < 12 := Int.fmod_lt_of_pos _ (by decide)
      k_steps
    · k_steps
      rw [kInv, show (x + m - x).toNat = m.toNat by congr 1; omega]
      exact hret _ _ _ ⟨_, rfl⟩ (by assumption) (by refine' cb_drop ?cbN ?cbS; (case cbN => assumption); (case cbS => kcj_all))
  · k_steps
    unfold Hold
    k_with "state" => first | exact lis_two _ _ | exact rfl
    k_state (fun pre listed => listed = tx (lisL true pre)) "listed"
    · rename_i listed ttyp
      subst kInv
      have hln0 := lis_len true kPre
      simp only [if_true] at hln0
      have hln : (lisL true kPre).length ≤ 1000000 := by omega
      have hl3 : (thrD kN).length ≤ 1000000 := by rw [(thrD_at kN).2]; decide
      have hl2 : (twoD kN).length ≤ 1000000 := by rw [(twoD_at kN).2]; decide
      have hln2 : (lisL true kPre ++ thrD kN).length ≤ 1000000 := by rw [List.length_append, (thrD_at kN).2]; omega
      have q0 : 0 ≤ kN.fmod 12 := Int.fmod_nonneg_of_pos _ (by decide)
      have q1 : kN.fmod 12 < 12 := Int.fmod_lt_of_pos _ (by decide)
      have q2 : 0 ≤ kN.fmod 11 := Int.fmod_nonneg_of_pos _ (by decide)
      have q3 : kN.fmod 11 < 11 := Int.fmod_lt_of_pos _ (by decide)
      k_steps
    · k_steps
      rw [kInv, show (x + m - x).toNat = m.toNat by congr 1; omega]
      exact hret _ _ _ ⟨_, rfl⟩ (by assumption) (by refine' cb_drop ?cbN ?cbS; (case cbN => assumption); (case cbS => kcj_all))
end
end Hd
end
end
section
open PySem PySem.W PySem.Calls PyProof.Rows
set_option maxRecDepth 100000
set_option maxHeartbeats 8000000
noncomputable section
namespace Hd
local macro_rules | `(tactic| walk_at "idle 0") => `(tactic| skip)
local macro_rules | `(tactic| walk_at "idle 1") => `(tactic| skip)
local macro_rules | `(tactic| walk_at "idle 2") => `(tactic| skip)
local macro_rules | `(tactic| walk_at "idle 3") => `(tactic| skip)
local macro_rules | `(tactic| walk_at "idle 4") => `(tactic| skip)
local macro_rules | `(tactic| walk_at "idle 5") => `(tactic| skip)
local macro_rules | `(tactic| walk_at "idle 6") => `(tactic| skip)
local macro_rules | `(tactic| walk_at "idle 7") => `(tactic| skip)
local macro_rules | `(tactic| walk_at "idle 8") => `(tactic| skip)
local macro_rules | `(tactic| walk_at "idle 9") => `(tactic| skip)
local macro_rules | `(tactic| walk_at "idle 10") => `(tactic| skip)
local macro_rules | `(tactic| walk_at "idle 11") => `(tactic| skip)
local macro_rules | `(tactic| walk_at "idle 12") => `(tactic| skip)
theorem filledGo : rw' = PySem.Challenge.rw_tr0065_02 ∧ K = K := by
  k_fill
  w_top off
  exact ⟨rfl, rfl⟩
noncomputable def josF (e : Int) : Nat → List Int → Int → List Int
  | 0, _, _ => []
  | f + 1, ring, pos => ring.getD ((pos + e - 1).fmod ring.length).toNat 0 :: josF e f (ring.take ((pos + e - 1).fmod ring.length).toNat ++ ring.drop (((pos + e - 1).fmod ring.length).toNat + 1)) ((pos + e - 1).fmod ring.length)
noncomputable def gmap (f : PySem.Str → Option Value) (Dr Dg : Addr) (pos : Int) (t : Tok) (y : PySem.Str) : Option Value :=
  if y = PySem.Str.ofString "at" then some (.int pos t) else if y = PySem.Str.ofString "gone" then some (.ref Dg) else if y = PySem.Str.ofString "ring" then some (.ref Dr) else f y
noncomputable def GJ (f : PySem.Str → Option Value) (R : List (Addr × Obj)) (P : List Int → List Int → Int → Prop) (i : Nat) (m : PySem.Str → Option Value) (nx : List (Addr × Obj)) : Prop :=
  ∃ Dr Dg vr ring vg gone pos t cr cg, nx = (Dg, W.listOf (List.toArray vg) cg) :: (Dr, W.listOf (List.toArray vr) cr) :: R ∧ (∀ p ∈ R, p.1 ≠ Dr ∧ p.1 ≠ Dg) ∧ Dr ≠ Dg ∧ IntsAre vr ring ∧ IntsAre vg gone ∧ i = ring.length ∧ m = gmap f Dr Dg pos t ∧ P ring gone pos
theorem gmap_of {m f : PySem.Str → Option Value} {Dr Dg : Addr} {pos : Int} {t : Tok} (h1 : m (PySem.Str.ofString "at") = some (.int pos t)) (h2 : m (PySem.Str.ofString "gone") = some (.ref Dg)) (h3 : m (PySem.Str.ofString "ring") = some (.ref Dr))
    (hf : ∀ y, y ≠ PySem.Str.ofString "at" → y ≠ PySem.Str.ofString "gone" → y ≠ PySem.Str.ofString "ring" → m y = f y) : m = gmap f Dr Dg pos t := by
  funext y
  unfold gmap
  by_cases e1 : y = PySem.Str.ofString "at"
  · rw [if_pos e1, e1, h1]
  rw [if_neg e1]
  by_cases e2 : y = PySem.Str.ofString "gone"
  · rw [if_pos e2, e2, h2]
  rw [if_neg e2]
  by_cases e3 : y = PySem.Str.ofString "ring"
  · rw [if_pos e3, e3, h3]
  rw [if_neg e3]
  exact hf y e1 e2 e3
theorem jos_step {e : Int} {ring : List Int} {pos pn : Int} (h : 0 < ring.length) (hp : (pos + e - 1).fmod ring.length = pn) (q0 : 0 ≤ pn) (q1 : pn < ring.length) :
    josF e ring.length ring pos = ring.getD pn.toNat 0 :: josF e (ring.take pn.toNat ++ ring.drop (pn + 1).toNat).length (ring.take pn.toNat ++ ring.drop (pn + 1).toNat) pn ∧ (ring.take pn.toNat ++ ring.drop (pn + 1).toNat).length + 1 = ring.length := by
  have hl : (ring.take pn.toNat ++ ring.drop (pn + 1).toNat).length + 1 = ring.length := by
    rw [List.length_append, List.length_take, List.length_drop]; omega
  refine ⟨?_, hl⟩
  have e2 : (pn + 1).toNat = pn.toNat + 1 := by omega
  rw [e2] at hl ⊢
  generalize hk : (ring.take pn.toNat ++ ring.drop (pn.toNat + 1)).length = k at *
  rw [← hl]
  show ring.getD ((pos + e - 1).fmod ring.length).toNat 0 :: josF e k _ _ = _
  rw [hp]
theorem news_gen2 {h₀ h : Heap} {L : Addr} {p r : Addr × Obj} {R : List (Addr × Obj)} {G : Prop} (N : News h₀ L h (p :: r :: R)) (k : ∀ R0, R0 = R → News h₀ L h (p :: r :: R0) → G) : G := k R rfl N
theorem gone_start {n e : Int} (h1 : 1 ≤ n) (h2 : n ≤ 7) : [] ++ josF e (rangeKs 1 (n + 1 - 1).toNat).length (rangeKs 1 (n + 1 - 1).toNat) 0 = josF e n.toNat (rangeKs 1 n.toNat) 0 ∧ ([] : List Int).length + (rangeKs 1 (n + 1 - 1).toNat).length ≤ 7 ∧ (0 : Int) ≤ 0 ∧ (0 : Int) ≤ 7 := by
  rw [show (n + 1 - 1) = n by omega, rangeKs_length]
  exact ⟨rfl, by simp only [List.length_nil]; omega, by decide, by decide⟩
theorem news_sub {h₀ h : Heap} {L : Addr} {l : List (Addr × Obj)} (l' : List (Addr × Obj)) (N : News h₀ L h l) (hs : ∀ p ∈ l', p ∈ l) : News h₀ L h l' := fun p hp => N p (hs p hp)
section
variable {prog : Program} {w : World} {A : Around} {E : Value → Shared → Prop} {s : Shared} {h₀ : Heap} {L D : Addr} {m : PySem.Str → Option Value} {R : List (Addr × Obj)} {vs : List Value} {n : Nat} {x : Value}
theorem append_hd {Q : Value → Shared → Prop} (F : Fr h₀ L s.heap m) (N : News h₀ L s.heap ((D, W.listOf (List.toArray vs) n) :: R)) (hR : ∀ p ∈ R, p.1 ≠ D) (hsz : vs.length ≤ 1000)
    (h : ∀ h', Fr h₀ L h' m → News h₀ L h' ((D, W.listOf (List.toArray (vs ++ [x])) (n + 1)) :: R) → Q .none { s with heap := h' }) : wpAny (model prog w) A (call (.builtin "list.append") [.ref D, x]) Q E s := by
  have z := N _ (.head _)
  refine append_at (hsz := by rw [List.size_toArray, PySem.sizeLine_eq]; omega) z.1 fun h' hs ho' => h h' (F.change hs z.2.1 z.2.2) ?_
  have k := news_set (pre := []) N (fun _ h => (nomatch h)) hR hs ho'
  have e : (List.toArray vs).push x = List.toArray (vs ++ [x]) := by simp
  rw [← e]; exact k
end
section
variable {w : World} {mean : ExcName → Option Value} {mg mb : PySem.Str → Option Value}
local macro_rules | `(tactic| walk_at "exec While Compare cons nil") => `(tactic| refine hold ?_)
local macro_rules | `(tactic| walk_at "exec While Compare") => `(tactic| refine hold ?_)
local macro_rules | `(tactic| walk_at "exec While") => `(tactic| refine hold ?_)
local macro_rules | `(tactic| walk_at "call builtin:list.append") => `(tactic| refine hold ?_)
local macro_rules | `(tactic| walk_at "subscriptTail Name Slice ref ref") => `(tactic| (k_here; k_dflt (refine' kmk_slice_ints ?F ?N ?l ?p ?q ?i ?m ?c ?_ ?s ?t ?z; (case F => k_asm); (case N => k_asm); (case l => kmk_list); (case p => kmk_part); (case q => kmk_part); (case i => l_ints); (case m => kmk_nums); (case c => kmk_len); (case s => with_unfolding_all rfl); (case t => kmk_pure); (case z => kmk_size)); intro D' ws' h' F' N' l1 hI' hC' hL'; (try k_lt l1); (try k_sweep)))
theorem spec_gone (n e : Int) (t1 t2 : Tok) (hn0 : 1 ≤ n) (hn : n ≤ 7) (he0 : 1 ≤ e) (he : e ≤ 5)
  (news : List (Addr × Obj)) (dp un : Nat) (gd : Option (List Code)) (cn : PySem.Str) (cs : Scope) (a : Addr) (ccd : Value) (cl : List (PySem.Str × Addr)) (outer : List Env) (A₀ : Around) (base h₀ : Heap) (L : Addr) (m : PySem.Str → Option Value) (s : Shared) (Q E : Value → Shared → Prop)
    (B : Below A₀ base outer h₀) (F : Fr h₀ L s.heap m) (X : (K w.params).In h₀) (N : News h₀ L s.heap news) (T : Top q (looseW q loose) mean mg mb h₀) (hk : cs.kind = .function) (hd : dp + 4 < recursionLimit) (hu : un + 400 < cLine)
    (hret : ∀ (D : Addr) (vs : List Value) (nn : Nat) h' tk', (∀ p ∈ news, p.1 ≠ D) → IntsAre vs (josF e n.toNat (rangeKs 1 n.toNat) 0) → Fr h₀ L h' m → News h₀ L h' ((D, W.listOf (List.toArray vs) nn) :: news) → Q (.ref D) { s with heap := h', toks := tk' }) :
    wpAny (model pr w) (ktrTop dp un gd cn cs L a ccd cl outer) (call (.ref 211) [.int n t1, .int e t2]) Q E s := by
  refine wpAny_call ?_
  k_dflt cell_enter
  conv in (fBody (st 16)) => whnf
  k_steps
  unfold Hold
  (rename Fr _ _ _ _ => lF'); (rename News _ _ _ _ => lN')
  refine news_gen2 lN' fun R0 hR0 lN0 => ?_
  refine While_inv (GJ _ R0 (fun ring gone pos => gone ++ josF e ring.length ring pos = josF e n.toNat (rangeKs 1 n.toNat) 0 ∧ gone.length + ring.length ≤ 7 ∧ 0 ≤ pos ∧ pos ≤ 7)) lF' lN0 ⟨_, _, _, _, _, _, _, _, _, _, rfl, ?a1, ?a2, by assumption, .nil, rfl, rfl, gone_start hn0 hn⟩ ?turn
  case a1 => subst hR0; exact fun p hp => ⟨Nat.ne_of_lt ((by assumption : ∀ p ∈ _, p.1 < _) p hp), allLt_ne (by assumption : _ ∧ AllLt _ _).2 p hp⟩
  case a2 => exact Nat.ne_of_lt (by assumption : _ ∧ AllLt _ _).1
  case turn =>
    rintro i m₁ nx h₁ tk₁ F' N' ⟨Dr, Dg, vr, ring, vg, gone, pos, tp, cr, cg, rfl, hR, hrg, hvr, hvg, rfl, rfl, hP, hl7, hp0, hp7⟩
    clear lF' lN0 lN'
    unfold gmap at F'
    have hlr : vr.length = ring.length := hvr.length
    have hlg : vg.length = gone.length := hvg.length
    k_steps
    rotate_left
    · exfalso
      rcases ring with _ | ⟨a0, rr⟩
      · simp_all
      · simp_all
        omega
    · unfold Hold
      have hpos : 0 < ring.length := by
        rcases ring with _ | ⟨a0, rr⟩
        · simp_all
        · exact Nat.succ_pos _
      have q0 : 0 ≤ (pos + e - 1).fmod ring.length := Int.fmod_nonneg_of_pos _ (by omega)
      have q1 : (pos + e - 1).fmod ring.length < ring.length := Int.fmod_lt_of_pos _ (by omega)
      (rename Fr _ _ _ _ => F9'); (rename News _ _ _ _ => N9')
      have N8 := news_sub ((Dg, W.listOf (List.toArray vg) cg) :: (Dr, W.listOf (List.toArray vr) cr) :: R0) N9' (by kcj_all)
      have hRg : ∀ p ∈ (Dr, W.listOf (List.toArray vr) cr) :: R0, p.1 ≠ Dg := by
        intro p hp
        rcases List.mem_cons.mp hp with rfl | hp
        · exact hrg
        · exact (hR p hp).2
      refine append_hd F9' N8 hRg (by omega) ?_
      clear N9' N8 F9'
      intro h9 F9 N9
      generalize hp : (pos + e - 1).fmod ring.length = pn at *
      k_steps
      rename_i G1 w1 k1 i1 c1 e1 l1 G2 w2 k2 i2 c2 e2 l2 G3 w3 k3 i3 l3 k4 F8 N8
      obtain ⟨js, jl⟩ := jos_step (e := e) (pos := pos) hpos hp q0 q1
      refine' WhileStep.intro (n' := (ring.take pn.toNat ++ ring.drop (pn + 1).toNat).length) F8 (news_sub ((Dg, W.listOf (List.toArray (vg ++ [_])) (cg + 1)) :: (G3, W.listOf (List.toArray w3) 0) :: R0) N8 (by kcj_all)) (by omega) ⟨G3, Dg, w3, _, _, gone ++ [ring.getD pn.toNat 0], pn, _, 0, cg + 1, rfl, ?b1, ?b2, i3, ?b3, rfl, ?b4, ?b5, ?b6, q0, by omega⟩
      case b1 => exact fun p hp => ⟨allLt_ne l3.2.2.2.2 p hp, (hR p hp).2⟩
      case b2 => exact Nat.ne_of_gt l3.2.2.1
      case b3 => exact IntsAre.append hvg (.cons _ _ .nil)
      case b4 =>
        refine gmap_of (by rfl) (by rfl) (by rfl) ?_
        intro y h1 h2 h3
        simp only [h1, h2, h3, if_false]
      case b5 => rw [← hP, js, List.append_assoc]; rfl
      case b6 => rw [List.length_append, List.length_singleton]; omega
    · rename decide (ring = []) = true => hz
      have hz' : ring = [] := by simpa using hz
      subst hz'
      rw [show josF e ([] : List Int).length [] pos = [] from rfl, List.append_nil] at hP
      rw [hP] at hvg
      refine hret _ _ cg _ _ (by subst hR0; exact fun p hp => (hR p hp).2) hvg (by assumption) ?_
      subst hR0
      refine' cb_drop ?cbN ?cbS; (case cbN => assumption); (case cbS => kcj_all)
end
end Hd
end
end
section
open PySem PySem.W PySem.Calls PyProof.Rows
set_option maxRecDepth 100000
noncomputable section
namespace Hd
noncomputable def m3 (c : Nat) : List Nat := ((b3Find c).getD (Txt.lower ⟨#[c]⟩)).cps.toList
theorem m3_tx (c : Nat) : (b3Find c).getD (Txt.lower ⟨#[c]⟩) = tx (m3 c) := by
  unfold m3 tx
  refine PySem.Str.ext' ?_
  simp
noncomputable def nb1 (d : Nat) : Bool := !b1 (d : Int)
theorem thr_m3 : ∀ j : Nat, j < 12 → m3 (thrA.getD j 0) = (thrT.drop (j * 3)).take 3 ∧ nb1 (thrA.getD j 0) = true := by decide +kernel
theorem two_m3 : ∀ j : Nat, j < 11 → m3 (twoA.getD j 0) = (twoT.drop (j * 2)).take 2 ∧ nb1 (twoA.getD j 0) = true := by decide +kernel
theorem sel_b1 : ∀ j : Nat, j < 16 → nb1 ((65024 + (j : Int)).toNat) = false := by decide +kernel
theorem thrC_m3 (i : Int) : m3 (thrC i) = thrD i ∧ nb1 (thrC i) = true := by
  obtain ⟨j, e, h⟩ := fmod_nat i 12 (by decide)
  unfold thrC thrD
  rw [e]; exact thr_m3 j (by omega)
theorem twoC_m3 (i : Int) : m3 (twoC i) = twoD i ∧ nb1 (twoC i) = true := by
  obtain ⟨j, e, h⟩ := fmod_nat i 11 (by decide)
  unfold twoC twoD
  rw [e]; exact two_m3 j (by omega)
theorem typ_lis (p : Bool) (x : Int) (L : List Int) : (((typL p x L).filter nb1).map m3).flatten = lisL p L := by
  obtain ⟨j, e, h⟩ := fmod_nat x 16 (by decide)
  have h0 : nb1 ((65024 + x.fmod 16).toNat) = false := by rw [e]; exact sel_b1 j (by omega)
  unfold typL lisL
  rw [List.filter_cons_of_neg (by rw [h0]; decide)]
  induction L with
  | nil => rfl
  | cons a L ih =>
    simp only [List.map_cons, List.flatten_cons, List.filter_append, List.map_append, List.flatten_append, ih]
    congr 1
    have h3 := thrC_m3 a
    have h2 := twoC_m3 a
    cases p
    · simp [typG, lisG, h3.1, h3.2]
    · simp [typG, lisG, h3.1, h3.2, h2.1, h2.2]
theorem mul34 : ∀ n : Nat, n ≤ 64 → PySem.Str.ofString "257 \"" ++ Txt.mul (PySem.Str.ofString "\"") n ++ PySem.Str.ofString "x" = tx ([50, 53, 55, 32, 34] ++ (List.replicate n 34 ++ [120])) := by decide +kernel
theorem rd_len : ∀ n : Nat, n ≤ 64 → (pq (List.replicate n 34 ++ [120])).length ≤ 1000 := by decide +kernel
theorem rd_count : ∀ n : Nat, n ≤ 64 → Txt.count (tx (pq (List.replicate n 34 ++ [120]))) (PySem.Str.ofString "\"") = ((n / 2 : Nat) : Int) := by decide +kernel
noncomputable def ksN (N : Nat) : List Int := List.replicate N 0 ++ [1]
noncomputable def okIl (N T : Nat) : Bool := decide (ilOf (ksN N) (T : Int) (rangeKs T ((ksN N).length - (T : Int)).toNat) = ((N / T : Nat) : Int)) && (ksN N).all fun v => decide (0 ≤ v) && decide (v ≤ 100000)
theorem il2 : ∀ N : Nat, N < 80 → okIl N 2 = true := by decide +kernel
theorem il4 : ∀ N : Nat, N < 80 → okIl N 4 = true := by decide +kernel
noncomputable def b2 (t : Nat) (n b : Int) : Int := if t = 1 then (3 * (b - n) - 1) / 2 else (5 * (b - n) - 1) / 2 / 2
noncomputable def fin2 (t : Nat) (n : Int) : Nat → Int → Int
  | 0, b => b
  | f + 1, b => if n < b then fin2 t n f (b2 t n b) else b
noncomputable def lastB (t : Nat) (n b : Int) : Int := fin2 t n 30 b
noncomputable def okF (t : Nat) (e n b : Int) : Bool := !decide (n < b) || !decide (b ≤ e * n) || (decide (1 ≤ b2 t n b) && decide (b2 t n b < b) && decide (lastB t n (b2 t n b) = lastB t n b) && decide ((e * (e * n + 1 - b) - 1) / (e - 1) + 1 = e * n + 1 - b2 t n b))
theorem f1 : ∀ n : Nat, n < 8 → ∀ b : Nat, b < 22 → okF 1 3 n b = true := by decide +kernel
theorem f2 : ∀ n : Nat, n < 4 → ∀ b : Nat, b < 16 → okF 2 5 n b = true := by decide +kernel
theorem okF_of {t : Nat} {e n b : Int} (h : okF t e n b = true) (h1 : n < b) (h2 : b ≤ e * n) : 1 ≤ b2 t n b ∧ b2 t n b < b ∧ lastB t n (b2 t n b) = lastB t n b ∧ (e * (e * n + 1 - b) - 1) / (e - 1) + 1 = e * n + 1 - b2 t n b := by
  unfold okF at h
  simp only [h1, h2, decide_true, Bool.not_true, Bool.false_or, Bool.and_eq_true, decide_eq_true_eq] at h
  exact ⟨h.1.1.1, h.1.1.2, h.1.2, h.2⟩
theorem F1 {n b : Int} (h1 : 1 ≤ n) (h2 : n ≤ 7) (h3 : n < b) (h4 : b ≤ 3 * n) : 1 ≤ b2 1 n b ∧ b2 1 n b < b ∧ lastB 1 n (b2 1 n b) = lastB 1 n b ∧ (3 * (3 * n + 1 - b) - 1) / (3 - 1) + 1 = 3 * n + 1 - b2 1 n b := by
  obtain ⟨k, rfl⟩ := Int.eq_ofNat_of_zero_le (show 0 ≤ n by omega)
  obtain ⟨c, rfl⟩ := Int.eq_ofNat_of_zero_le (show 0 ≤ b by omega)
  exact okF_of (f1 k (by omega) c (by omega)) h3 h4
theorem F2 {n b : Int} (h1 : 1 ≤ n) (h2 : n ≤ 3) (h3 : n < b) (h4 : b ≤ 5 * n) : 1 ≤ b2 2 n b ∧ b2 2 n b < b ∧ lastB 2 n (b2 2 n b) = lastB 2 n b ∧ (5 * (5 * n + 1 - b) - 1) / (5 - 1) + 1 = 5 * n + 1 - b2 2 n b := by
  obtain ⟨k, rfl⟩ := Int.eq_ofNat_of_zero_le (show 0 ≤ n by omega)
  obtain ⟨c, rfl⟩ := Int.eq_ofNat_of_zero_le (show 0 ≤ b by omega)
  exact okF_of (f2 k (by omega) c (by omega)) h3 h4
theorem g1 : ∀ n : Nat, n < 8 → (rangeKs 1 n).map (fun k => lastB 1 n (3 * k)) = josF 3 n (rangeKs 1 n) 0 := by decide +kernel
theorem g2 : ∀ n : Nat, n < 4 → (rangeKs 1 n).map (fun k => lastB 2 n (5 * k)) = josF 5 n (rangeKs 1 n) 0 := by decide +kernel
theorem last_le (t : Nat) {n b : Int} (h : ¬ n < b) : lastB t n b = b := by
  show (if n < b then _ else b) = b
  rw [if_neg h]
end Hd
end
end
section
open PySem PySem.W PySem.Calls PyProof.Rows PyProof.Rows.LCg PyProof.Rows.LCt
set_option maxRecDepth 100000
set_option maxHeartbeats 8000000
noncomputable section
namespace Hd
local macro_rules | `(tactic| walk_at "idle 0") => `(tactic| skip)
local macro_rules | `(tactic| walk_at "idle 1") => `(tactic| skip)
local macro_rules | `(tactic| walk_at "idle 2") => `(tactic| skip)
local macro_rules | `(tactic| walk_at "idle 3") => `(tactic| skip)
local macro_rules | `(tactic| walk_at "idle 4") => `(tactic| skip)
local macro_rules | `(tactic| walk_at "idle 5") => `(tactic| skip)
local macro_rules | `(tactic| walk_at "idle 6") => `(tactic| skip)
local macro_rules | `(tactic| walk_at "idle 7") => `(tactic| skip)
local macro_rules | `(tactic| walk_at "idle 8") => `(tactic| skip)
local macro_rules | `(tactic| walk_at "idle 9") => `(tactic| skip)
local macro_rules | `(tactic| walk_at "idle 10") => `(tactic| skip)
local macro_rules | `(tactic| walk_at "idle 11") => `(tactic| skip)
local macro_rules | `(tactic| walk_at "idle 12") => `(tactic| skip)
local macro_rules | `(tactic| walk_at "idle 13") => `(tactic| skip)
local macro_rules | `(tactic| walk_at "idle 14") => `(tactic| skip)
local macro_rules | `(tactic| walk_at "idle 15") => `(tactic| skip)
local macro_rules | `(tactic| walk_at "idle 16") => `(tactic| skip)
local macro_rules | `(tactic| walk_at "idle 17") => `(tactic| skip)
local macro_rules | `(tactic| walk_at "idle 18") => `(tactic| skip)
local macro_rules | `(tactic| walk_at "idle 19") => `(tactic| skip)
local macro_rules | `(tactic| walk_at "idle 20") => `(tactic| skip)
local macro_rules | `(tactic| walk_at "idle 21") => `(tactic| skip)
local macro_rules | `(tactic| walk_at "idle 22") => `(tactic| skip)
local macro_rules | `(tactic| walk_at "idle 23") => `(tactic| skip)
local macro_rules | `(tactic| walk_at "idle 24") => `(tactic| skip)
local macro_rules | `(tactic| walk_at "idle 25") => `(tactic| skip)
theorem filledWh : rw' = PySem.Challenge.rw_tr0065_02 ∧ K = K := by
  k_fill
  w_top off
  exact ⟨rfl, rfl⟩
theorem typ_m3len (p : Bool) (x : Int) (L : List Int) : ∀ z ∈ ((typL p x L).filter nb1).map m3, z.length ≤ 100 := by
  obtain ⟨j, e, h⟩ := fmod_nat x 16 (by decide)
  have h0 : nb1 ((65024 + x.fmod 16).toNat) = false := by rw [e]; exact sel_b1 j (by omega)
  unfold typL
  rw [List.filter_cons_of_neg (by rw [h0]; decide)]
  intro z hz
  obtain ⟨c, hc, rfl⟩ := List.mem_map.mp hz
  have hc := (List.mem_filter.mp hc).1
  obtain ⟨l, hl, hcl⟩ := List.mem_flatten.mp hc
  obtain ⟨k, _, rfl⟩ := List.mem_map.mp hl
  have h3 := thrC_m3 k
  have h2 := twoC_m3 k
  have d3 := (thrD_at k).2
  have d2 := (twoD_at k).2
  cases p
  · simp only [typG, Bool.false_eq_true, if_false, List.mem_singleton] at hcl
    rw [hcl, h3.1, d3]; decide
  · simp only [typG, if_true, List.mem_cons, List.not_mem_nil, or_false] at hcl
    rcases hcl with rfl | rfl
    · rw [h3.1, d3]; decide
    · rw [h2.1, d2]; decide
theorem ws_rep (a : Nat) : ∀ σ : WSt, (List.replicate a 32).foldl wsStep σ = ⟨σ.ks, σ.b + a, σ.n + a, σ.nt⟩ := by
  induction a with
  | zero => intro σ; rfl
  | succ a ih =>
    intro σ
    rw [List.replicate_succ, List.foldl_cons, show wsStep σ 32 = ⟨σ.ks, σ.b + 1, σ.n + 1, σ.nt⟩ from rfl, ih, WSt.mk.injEq]
    refine ⟨rfl, ?_, ?_, rfl⟩ <;> dsimp only <;> omega
theorem bump_nil (N : Nat) : bump [] N = ksN N := by
  unfold bump ksN
  simp only [List.nil_append, List.length_nil, Nat.sub_zero]
  apply List.ext_getElem
  · simp
  · intro i h1 h2
    simp only [List.getElem_set, List.getElem_replicate, List.getElem_append, List.length_replicate, List.getD_eq_getElem?_getD]
    simp only [List.length_set, List.length_replicate] at h1
    by_cases e : N = i
    · subst e; simp
    · have : i < N := by omega
      simp [e, this]
theorem ws_one (N T : Nat) (hN : N < 80) (hT : T = 2 ∨ T = 4) :
    (((wsRun (List.replicate ((N : Int)).toNat 32 ++ [9])).b : Nat) : Int) + (T : Int) * (ilOf (wsRun (List.replicate ((N : Int)).toNat 32 ++ [9])).ks T (rangeKs T ((wsRun (List.replicate ((N : Int)).toNat 32 ++ [9])).ks.length - (T : Int)).toNat) + (((wsRun (List.replicate ((N : Int)).toNat 32 ++ [9])).nt : Nat) : Int)) = (T : Int) * (((N / T : Nat) : Int) + 1)
    ∧ ∀ i, 0 ≤ (wsRun (List.replicate ((N : Int)).toNat 32 ++ [9])).ks.getD i 0 ∧ (wsRun (List.replicate ((N : Int)).toNat 32 ++ [9])).ks.getD i 0 ≤ 100000 := by
  have e : wsRun (List.replicate ((N : Int)).toNat 32 ++ [9]) = ⟨ksN N, 0, N + 1, 1⟩ := by
    rw [Int.toNat_natCast]
    unfold wsRun
    rw [List.foldl_append, ws_rep]
    show wsStep _ 9 = _
    simp only [wsStep, if_true, Nat.zero_add, bump_nil]
  rw [e]
  dsimp only
  have ok : okIl N T = true := hT.elim (fun e => e ▸ il2 N hN) (fun e => e ▸ il4 N hN)
  unfold okIl at ok
  rw [Bool.and_eq_true, List.all_eq_true, decide_eq_true_eq] at ok
  refine ⟨by rw [ok.1]; simp, fun i => ?_⟩
  by_cases hi : i < (ksN N).length
  · have e : (ksN N).getD i 0 = (ksN N)[i] := by simp [List.getD, hi]
    rw [e]
    have hv := ok.2 _ (List.getElem_mem hi)
    rw [Bool.and_eq_true, decide_eq_true_eq, decide_eq_true_eq] at hv
    exact hv
  · have e : (ksN N).getD i 0 = 0 := by
      rw [List.getD_eq_getElem?_getD, List.getElem?_eq_none (by omega)]; rfl
    rw [e]; exact ⟨by decide, by decide⟩
theorem ws_one2 (N : Nat) (hN : N < 80) :
    (((wsRun (List.replicate ((N : Int)).toNat 32 ++ [9])).b : Nat) : Int) + 2 * (ilOf (wsRun (List.replicate ((N : Int)).toNat 32 ++ [9])).ks 2 (rangeKs 2 (((wsRun (List.replicate ((N : Int)).toNat 32 ++ [9])).ks.length : Int) - 2).toNat) + (((wsRun (List.replicate ((N : Int)).toNat 32 ++ [9])).nt : Nat) : Int)) = 2 * (((N / 2 : Nat) : Int) + 1)
    ∧ ∀ i, 0 ≤ (wsRun (List.replicate ((N : Int)).toNat 32 ++ [9])).ks.getD i 0 ∧ (wsRun (List.replicate ((N : Int)).toNat 32 ++ [9])).ks.getD i 0 ≤ 100000 := ws_one N 2 hN (by decide)
theorem ws_one4 (N : Nat) (hN : N < 80) :
    (((wsRun (List.replicate ((N : Int)).toNat 32 ++ [9])).b : Nat) : Int) + 4 * (ilOf (wsRun (List.replicate ((N : Int)).toNat 32 ++ [9])).ks 4 (rangeKs 4 (((wsRun (List.replicate ((N : Int)).toNat 32 ++ [9])).ks.length : Int) - 4).toNat) + (((wsRun (List.replicate ((N : Int)).toNat 32 ++ [9])).nt : Nat) : Int)) = 4 * (((N / 4 : Nat) : Int) + 1)
    ∧ ∀ i, 0 ≤ (wsRun (List.replicate ((N : Int)).toNat 32 ++ [9])).ks.getD i 0 ∧ (wsRun (List.replicate ((N : Int)).toNat 32 ++ [9])).ks.getD i 0 ≤ 100000 := ws_one N 4 hN (by decide)
noncomputable def wmap (f : PySem.Str → Option Value) (u1 u2 u3 u4 u5 u6 : Option Value) (va vb : Value) (y : PySem.Str) : Option Value :=
  if y = PySem.Str.ofString "m" then u1 else if y = PySem.Str.ofString "typed" then u2 else if y = PySem.Str.ofString "letters" then u3 else if y = PySem.Str.ofString "_" then u4 else if y = PySem.Str.ofString "lead" then u5 else if y = PySem.Str.ofString "rest" then u6
  else if y = PySem.Str.ofString "above" then some va else if y = PySem.Str.ofString "below" then some vb else f y
theorem wmap_of {m f : PySem.Str → Option Value} {va vb : Value} (h1 : m (PySem.Str.ofString "above") = some va) (h2 : m (PySem.Str.ofString "below") = some vb)
    (hf : ∀ y, y ≠ PySem.Str.ofString "m" → y ≠ PySem.Str.ofString "typed" → y ≠ PySem.Str.ofString "letters" → y ≠ PySem.Str.ofString "_" → y ≠ PySem.Str.ofString "lead" → y ≠ PySem.Str.ofString "rest" → y ≠ PySem.Str.ofString "above" → y ≠ PySem.Str.ofString "below" → m y = f y) :
    m = wmap f (m (PySem.Str.ofString "m")) (m (PySem.Str.ofString "typed")) (m (PySem.Str.ofString "letters")) (m (PySem.Str.ofString "_")) (m (PySem.Str.ofString "lead")) (m (PySem.Str.ofString "rest")) va vb := by
  funext y
  unfold wmap
  by_cases e1 : y = PySem.Str.ofString "m"
  · rw [if_pos e1, e1]
  rw [if_neg e1]
  by_cases e2 : y = PySem.Str.ofString "typed"
  · rw [if_pos e2, e2]
  rw [if_neg e2]
  by_cases e3 : y = PySem.Str.ofString "letters"
  · rw [if_pos e3, e3]
  rw [if_neg e3]
  by_cases e4 : y = PySem.Str.ofString "_"
  · rw [if_pos e4, e4]
  rw [if_neg e4]
  by_cases e5 : y = PySem.Str.ofString "lead"
  · rw [if_pos e5, e5]
  rw [if_neg e5]
  by_cases e6 : y = PySem.Str.ofString "rest"
  · rw [if_pos e6, e6]
  rw [if_neg e6]
  by_cases e7 : y = PySem.Str.ofString "above"
  · rw [if_pos e7, e7, h1]
  rw [if_neg e7]
  by_cases e8 : y = PySem.Str.ofString "below"
  · rw [if_pos e8, e8, h2]
  rw [if_neg e8]
  exact hf y e1 e2 e3 e4 e5 e6 e7 e8
theorem fr_eq {h₀ h : Heap} {L : Addr} {m m' : PySem.Str → Option Value} (e : m = m') (F : Fr h₀ L h m) : Fr h₀ L h m' := e ▸ F
noncomputable def lawS (i : Nat) : Stmt := match (fBody (st 17))[i]? with | some s => s | none => .Pass default
noncomputable def forB : Stmt → List Stmt | .For _ _ b _ _ => b | _ => []
noncomputable def inF (i : Nat) : Stmt := match (forB (lawS 5))[i]? with | some s => s | none => .Pass default
section
variable {prog : Program} {w : World} {A : Around} {E : Value → Shared → Prop} {s : Shared}
theorem sub_at {a b j : Int} {t u : Tok} {Q : Value → Shared → Prop} (e : a - b = j) (h : ∀ t' k, Q (.int j t') { s with toks := k }) : wpAny (model prog w) A (binaryOp .Sub (.int a t) (.int b u)) Q E s := by
  subst e
  exact sub_int (h _ _)
theorem join_E {D : Addr} {items : Array Value} {l : List (List Nat)} {r : List Nat} {x : PySem.Str} {t : Tok} {Q : Value → Shared → Prop} (hr : l.flatten = r) (hl : s.heap.IsList D items) (hi : StrsAre items.toList (l.map tx)) (hB : ∀ x ∈ l, x.length ≤ 100) (hb : l.length * 100 + l.length ≤ 1048576) (e : x = PySem.Str.ofString "")
    (h : ∀ t' k, Q (.str (tx r) t') { s with toks := k }) : wpAny (model prog w) A (call (.builtin "str.join") [.str x t, .ref D]) Q E s := by
  subst hr
  exact join_K hl hi hB hb e h
theorem eqb_at {a b : Int} {c : Bool} {t u : Tok} {Q : Value → Shared → Prop} (e : (a == b) = c) (h : Q (.bool c) s) : wpAny (model prog w) A (compareOp .Eq (.int a t) (.int b u)) Q E s := by
  subst e
  exact P.eq_int h
theorem count_at {x y : PySem.Str} {j : Int} {t u : Tok} {Q : Value → Shared → Prop} (e : Txt.count x y = j) (h : ∀ t' k, Q (.int j t') { s with toks := k }) : wpAny (model prog w) A (call (.builtin "str.count") [.str x t, .str y u]) Q E s := by
  subst e
  exact SC.count (h _ _)
end
section
variable {w : World} {mean : ExcName → Option Value} {mg mb : PySem.Str → Option Value}
local macro_rules | `(tactic| walk_at "exec While Compare cons nil") => `(tactic| refine hold ?_)
local macro_rules | `(tactic| walk_at "exec While Compare") => `(tactic| refine hold ?_)
local macro_rules | `(tactic| walk_at "exec While") => `(tactic| refine hold ?_)
local macro_rules | `(tactic| walk_at "compareOp Eq int int") => `(tactic| (k_here; k_dflt (first | refine eqb_at (c := false) (by rfl) ?_ | refine eqb_at (c := true) (by rfl) ?_)))
local macro_rules | `(tactic| walk_at "eval ListComp") => `(tactic| refine hold ?_)
local macro_rules | `(tactic| walk_at "binaryOp Sub int int") => `(tactic| (k_here; k_dflt (refine sub_at (by assumption) ?_); intro _ _))
local macro_rules | `(tactic| walk_at "call builtin:str.count") => `(tactic| (k_here; k_dflt (refine count_at (by assumption) ?_); intro _ _))
local macro_rules | `(tactic| walk_at "call ref") => `(tactic| (k_here; (with_reducible show wpAny _ _ (call (Value.ref 197) _) _ _ _); k_dflt (refine' Spec.use (spec_typed _ _ _ _ _ (by omega) (by omega) (by omega) (by omega)) (by k_asm) (by k_asm) (by k_asm) (by k_asm) (by k_asm) (by first | exact rfl | assumption) (by ktr_room) (by ktr_units) ?_); intro v9 h9 tk9 R9 F9 N9; obtain ⟨t9, R9⟩ := R9; subst R9; (try dsimp only)))
local macro_rules | `(tactic| walk_at "call ref") => `(tactic| (k_here; (with_reducible show wpAny _ _ (call (Value.ref 204) _) _ _ _); k_dflt (refine' Spec.use (spec_listed _ _ _ _ _ (by omega) (by omega) (by omega) (by omega)) (by k_asm) (by k_asm) (by k_asm) (by k_asm) (by k_asm) (by first | exact rfl | assumption) (by ktr_room) (by ktr_units) ?_); intro v9 h9 tk9 R9 F9 N9; obtain ⟨t9, R9⟩ := R9; subst R9; (try dsimp only)))
local macro_rules | `(tactic| walk_at "call ref") => `(tactic| (k_here; (with_reducible show wpAny _ _ (call (Value.ref 71) [Value.str _ _]) _ _ _); k_dflt (refine' Spec.use (spec_b1 _ _) (by k_asm) (by k_asm) (by k_asm) (by k_asm) (by k_asm) (by first | exact rfl | assumption) (by ktr_room) (by ktr_units) ?_); intro v9 h9 tk9 R9 F9 N9; replace R9 : v9 = _ := R9; subst R9; (try dsimp only)))
local macro_rules | `(tactic| walk_at "call ref") => `(tactic| (k_here; (with_reducible show wpAny _ _ (call (Value.ref 117) [Value.str _ _]) _ _ _); k_dflt (refine' Spec.use (spec_b3 _ _) (by k_asm) (by k_asm) (by k_asm) (by k_asm) (by k_asm) (by first | exact rfl | assumption) (by ktr_room) (by ktr_units) ?_); intro v9 h9 tk9 R9 F9 N9; obtain ⟨t9, R9⟩ := R9; subst R9; (try dsimp only)))
local macro_rules | `(tactic| walk_at "call builtin:str.join") => `(tactic| (k_here; k_dflt (refine' join_E (by assumption) (News.isList (by k_asm) (by k_mem)) (by assumption) (by assumption) (by assumption) rfl ?_); intro _ _))
local macro_rules | `(tactic| walk_at "binaryOp Mult int int") => `(tactic| (k_here; k_dflt (refine mul_int ?_ (mulOk_small (by omega) (by omega) (by omega) (by omega)))))
local macro_rules | `(tactic| walk_at "binaryOp Mult str int") => `(tactic| (k_here; k_dflt (refine mul_one sp_tx (by omega) (by omega) ?_); intro _ _))
local macro_rules | `(tactic| walk_at "binaryOp Add str str") => `(tactic| (k_here; k_dflt (refine add_tx rfl tab_tx (by assumption) (Nat.le_of_ble_eq_true rfl) ?_); intro _ _))
local macro_rules | `(tactic| walk_at "call ref") => `(tactic| (k_here; (with_reducible show wpAny _ _ (call (Value.ref 53) [Value.str _ _]) _ _ _); k_dflt (refine' Spec.use (spec_parse _ _ _ (by assumption) (by assumption)) (by k_asm) (by k_asm) (by k_asm) (by k_asm) (by k_asm) (by first | exact rfl | assumption) (by ktr_room) (by ktr_units) ?_); intro v9 h9 tk9 R9 F9 N9; obtain ⟨t9, R9⟩ := R9; subst R9; (try dsimp only)))
local macro_rules | `(tactic| walk_at "call ref") => `(tactic| (k_here; (with_reducible show wpAny _ _ (call (Value.ref 179) _) _ _ _); refine hold ?_))
local macro_rules | `(tactic| walk_at "call ref") => `(tactic| (k_here; (with_reducible show wpAny _ _ (call (Value.ref 148) _) _ _ _); refine hold ?_))
local macro_rules | `(tactic| walk_at "UnrEnd") => `(tactic| (k_here; (with_unfolding_all refine UnrEnd.intro (by assumption) (by assumption) _ (fun p hp => hp) (allLt_ne (by assumption)) ?_)))
theorem law_while (k n x a0 b0 : Int) (hn1 : 1 ≤ n) (hn7 : n ≤ 7) (hx0 : 0 ≤ x) (hx1 : x ≤ 1000000) (hb0 : 1 ≤ b0) (hb1 : b0 ≤ 3 * n) (ha : a0 = 3 * n + 1 - b0) (f : PySem.Str → Option Value) (ta tb tx' tn tt te : Tok) (fa : Addr) (cd : Value) (dp un : Nat) (gd : Option (List Code)) (A₀ : Around) (base h₀ : Heap) (L : Addr) (s : Shared) (news : List (Addr × Obj)) (cl : List (PySem.Str × Addr)) (Q : Flow → Shared → Prop)
    (B : Below A₀ base [] h₀) (F : Fr h₀ L s.heap (fun y => if y = PySem.Str.ofString "above" then some (.int a0 ta) else if y = PySem.Str.ofString "below" then some (.int b0 tb) else if y = PySem.Str.ofString "n" then some (.int n tn) else if y = PySem.Str.ofString "every" then some (.int 3 te) else if y = PySem.Str.ofString "times" then some (.int 1 tt) else if y = PySem.Str.ofString "x" then some (.int x tx') else f y))
    (X : (K w.params).In h₀) (N : News h₀ L s.heap news) (T : Top q (looseW q loose) mean mg mb h₀) (hd : dp + 10 < recursionLimit) (hu : un + 1000 < cLine)
    (hret : ∀ (a b : Int) (ta tb : Tok) (u1 u2 u3 u4 u5 u6 : Option Value) (h' : Heap) (tk' : Nat), b = lastB 1 n b0 → Fr h₀ L h' (wmap (fun y => if y = PySem.Str.ofString "n" then some (.int n tn) else if y = PySem.Str.ofString "every" then some (.int 3 te) else if y = PySem.Str.ofString "times" then some (.int 1 tt) else if y = PySem.Str.ofString "x" then some (.int x tx') else f y) u1 u2 u3 u4 u5 u6 (.int a ta) (.int b tb)) → News h₀ L h' news → Q .next { s with heap := h', toks := tk' }) :
    wpAny (model pr w) (ktrTop dp un gd (PySem.Str.ofString "law") (fScope (st 17)) L fa cd cl []) (exec (inF 2) (envOfC (PySem.Str.ofString "law") (fScope (st 17)) L fa cd)) Q (fun _ _ => False) s := by
  conv in (inF 2) => whnf
  k_with "state" => first | exact ⟨hb0, hb1, ha, rfl⟩ | exact ⟨by omega, by omega, by omega, by assumption⟩
  k_with "measure" => omega
  k_while (fun (_ : List Int) (b a : Int) => 1 ≤ b ∧ b ≤ 3 * n ∧ a = 3 * n + 1 - b ∧ lastB 1 n b = lastB 1 n b0) (fun (_ : List Int) (b _ : Int) => b.toNat) "below" "above"
  k_steps
  · unfold Hold
    rename_i b tb' a ta' c1 c2 c3 c4 hbn G1 G2 G3 G4 G5 F8 N8
    have hL := typ_len false x (rangeKs x (b - n).toNat)
    rw [rangeKs_length] at hL
    have hT := typ_lis false x (rangeKs x (b - n).toNat)
    have hLl := lis_len false (rangeKs x (b - n).toNat)
    rw [rangeKs_length] at hLl
    generalize hTL : typL false x (rangeKs x (b - n).toNat) = TL at *
    k_dflt (refine ListComp_SH (F₀ := by k_asm) (by with_unfolding_all rfl) (by decide) (by rfl) (by decide) (by rfl) ?_)
    k_steps
    unfold Hold
    refine ⟨tx TL, _, _, rfl, (by rfl), (by assumption), (by assumption), (by rw [sizeLine_eq]; have := tx_len TL; unfold PySem.Str.length at this; omega), ?_⟩
    rintro s₂ ⟨h', rfl⟩
    refine tsT_rest TL nb1 (fun d => tx (m3 d)) (fun d u' I' oI' C' oC' D' m' ys' h' tk' E' hd' hC' hx' F' N' off' ne' => ?_) (fun ys hys => ?_)
    · (try (simp only [LCg.Off3, and_true] at off'))
      k_steps
      all_goals first
        | exact CompEnd.intro (by assumption) (by assumption) _ (by kcf_all) (by first | assumption | (simp only [LCg.Off3, and_true]; done) | (simp only [LCg.Off3, and_true]; assumption)) (by first | lcg_src | assumption | trivial) ⟨rfl, by unfold nb1; rw [show b1 _ = true by assumption]; rfl⟩
        | exact CompEnd.intro (by assumption) (by assumption) _ (by kcf_all) (by first | assumption | (simp only [LCg.Off3, and_true]; done) | (simp only [LCg.Off3, and_true]; assumption)) (by first | lcg_src | assumption | trivial) ⟨rfl, by unfold nb1; rw [show b1 _ = false by assumption]; rfl, _, by rw [m3_tx]⟩
        | trace_state
    · have hB := typ_m3len false x (rangeKs x (b - n).toNat)
      rw [hTL] at hB
      have hBl : ((TL.filter nb1).map m3).length * 100 + ((TL.filter nb1).map m3).length ≤ 1048576 := by
        have := List.length_filter_le nb1 TL
        rw [List.length_map]; omega
      have hys' : StrsAre ys (((TL.filter nb1).map m3).map tx) := by rw [List.map_map]; exact hys
      clear hys
      simp only [Bool.false_eq_true, if_false] at hLl
      have hll : (tx (lisL false (rangeKs x (b - n).toNat))).length = 3 * (b - n).toNat := by rw [tx_len, hLl]
      obtain ⟨q, hq⟩ : ∃ q : Nat, ((tx (lisL false (rangeKs x (b - n).toNat))).length : Int) - 1 = (q : Int) := ⟨3 * (b - n).toNat - 1, by rw [hll]; omega⟩
      rw [hll] at hq
      have hq64 : q ≤ 64 := by omega
      rw [← hll] at hq
      have hx1 := mul34 q hq64
      have hl1 : (List.replicate q 34 ++ [120]).length ≤ 100000 := by simp; omega
      have hr1 := rd_len q hq64
      have hc1 := rd_count q hq64
      obtain ⟨Nn, hN⟩ : ∃ Nn : Nat, 3 * a - 1 = (Nn : Int) := ⟨(3 * a - 1).toNat, by omega⟩
      have hNl : (List.replicate ((Nn : Int)).toNat 32).length ≤ 1000000 := by rw [List.length_replicate]; omega
      k_steps
      · exfalso
        rename (_ != _) = true => hne
        simp at hne
      · unfold Hold
        (rename Fr _ _ _ _ => F9'); (rename News _ _ _ _ => N9')
        have hNe : ((Nn : Int)).toNat = Nn := Int.toNat_natCast _
        have hNc : ∀ c ∈ List.replicate ((Nn : Int)).toNat 32 ++ [9], c = 32 ∨ c = 9 := by
          intro c hc
          rcases List.mem_append.mp hc with h | h
          · exact .inl (List.eq_of_mem_replicate h)
          · exact .inr (List.mem_singleton.mp h)
        have hNl2 : (List.replicate ((Nn : Int)).toNat 32 ++ [9]).length ≤ 10000 := by rw [List.length_append, List.length_replicate]; simp only [List.length_cons, List.length_nil]; omega
        have hwb := wsRun_bd (List.replicate ((Nn : Int)).toNat 32 ++ [9])
        obtain ⟨hv, hkb⟩ := ws_one2 Nn (by omega)
        obtain ⟨u1, u2, u3, u4⟩ := F1 hn1 hn7 hbn c2
        have hb2 : b2 1 n b = ((q / 2 : Nat) : Int) := by
          rw [hll] at hq
          unfold b2; rw [if_pos rfl]; omega
        rw [hb2] at u1 u2 u3 u4
        have hlast := u3.trans c4
        refine ws_spec _ _ hNl2 hNc _ _ _ _ _ _ _ _ _ _ _ _ _ _ _ _ _ _ B F9' X N9' T (by rfl) (by ktr_room) (by ktr_units) ?_
        intro x9 d9 D1 D2 vs sm t1 t2 t3 t4 t5 tb2 tn2 tt2 h9 tk9 hi l1 l2 l3 l4 F8 N8
        have h31 : (3 : Int) - 1 = 2 := by decide
        k_steps
        unfold Hold
        (rename Fr _ _ _ _ => F7'); (rename News _ _ _ _ => N7')
        refine spec_indent (tx (List.replicate ((Nn : Int)).toNat 32 ++ [9])) (wsRun (List.replicate ((Nn : Int)).toNat 32 ++ [9])).ks (wsRun (List.replicate ((Nn : Int)).toNat 32 ++ [9])).b (wsRun (List.replicate ((Nn : Int)).toNat 32 ++ [9])).n (wsRun (List.replicate ((Nn : Int)).toNat 32 ++ [9])).nt x9 d9 D1 D2 vs sm 2 _ _ t1 t2 t3 t4 t5 tb2 tn2 tt2 hi hkb (by omega) (by omega) (by omega) (by decide) (by decide) _ _ _ _ _ _ _ _ _ _ _ _ _ _ _ _ _ _ B F7' X N7' T (by rfl) (by ktr_room) (by ktr_units) ?_
        intro t9' h9' tk9' F6 N6
        rw [hv]
        have he1 : ((2 : Int) * (((Nn / 2 : Nat) : Int) + 1)).fdiv 2 = ((Nn / 2 : Nat) : Int) + 1 := by rw [Int.fdiv_eq_ediv_of_nonneg _ (by decide)]; omega
        have he2 : ((2 : Int) * (((Nn / 2 : Nat) : Int) + 1)).fmod 2 = 0 := by rw [Int.fmod_eq_emod_of_nonneg _ (by decide)]; omega
        k_steps
        all_goals first
          | (exfalso; omega)
          | (exfalso; exact absurd he2 (by assumption))
          | exact ⟨by omega, by omega, by omega, by assumption⟩
  · rename_i b tb' a ta' c1 c2 c3 c4 hbn
    refine hret a b ta' tb' _ _ _ _ _ _ _ _ (by rw [← c4, last_le 1 hbn]) (fr_eq (wmap_of (by rfl) (by rfl) ?_) kFr) kNews
    intro y h1 h2 h3 h4 h5 h6 h7 h8
    simp [h1, h2, h3, h4, h5, h6, h7, h8]
end
end Hd
end
end
section
open PySem PySem.W PySem.Calls PyProof.Rows PyProof.Rows.LCg PyProof.Rows.LCt
set_option maxRecDepth 100000
set_option maxHeartbeats 8000000
noncomputable section
namespace Hd
local macro_rules | `(tactic| walk_at "idle 0") => `(tactic| skip)
local macro_rules | `(tactic| walk_at "idle 1") => `(tactic| skip)
local macro_rules | `(tactic| walk_at "idle 2") => `(tactic| skip)
local macro_rules | `(tactic| walk_at "idle 3") => `(tactic| skip)
local macro_rules | `(tactic| walk_at "idle 4") => `(tactic| skip)
local macro_rules | `(tactic| walk_at "idle 5") => `(tactic| skip)
local macro_rules | `(tactic| walk_at "idle 6") => `(tactic| skip)
local macro_rules | `(tactic| walk_at "idle 7") => `(tactic| skip)
local macro_rules | `(tactic| walk_at "idle 8") => `(tactic| skip)
local macro_rules | `(tactic| walk_at "idle 9") => `(tactic| skip)
local macro_rules | `(tactic| walk_at "idle 10") => `(tactic| skip)
local macro_rules | `(tactic| walk_at "idle 11") => `(tactic| skip)
local macro_rules | `(tactic| walk_at "idle 12") => `(tactic| skip)
local macro_rules | `(tactic| walk_at "idle 13") => `(tactic| skip)
local macro_rules | `(tactic| walk_at "idle 14") => `(tactic| skip)
local macro_rules | `(tactic| walk_at "idle 15") => `(tactic| skip)
local macro_rules | `(tactic| walk_at "idle 16") => `(tactic| skip)
local macro_rules | `(tactic| walk_at "idle 17") => `(tactic| skip)
local macro_rules | `(tactic| walk_at "idle 18") => `(tactic| skip)
local macro_rules | `(tactic| walk_at "idle 19") => `(tactic| skip)
local macro_rules | `(tactic| walk_at "idle 20") => `(tactic| skip)
local macro_rules | `(tactic| walk_at "idle 21") => `(tactic| skip)
local macro_rules | `(tactic| walk_at "idle 22") => `(tactic| skip)
local macro_rules | `(tactic| walk_at "idle 23") => `(tactic| skip)
local macro_rules | `(tactic| walk_at "idle 24") => `(tactic| skip)
local macro_rules | `(tactic| walk_at "idle 25") => `(tactic| skip)
local macro_rules | `(tactic| walk_at "idle 26") => `(tactic| skip)
local macro_rules | `(tactic| walk_at "idle 27") => `(tactic| skip)
local macro_rules | `(tactic| walk_at "idle 28") => `(tactic| skip)
local macro_rules | `(tactic| walk_at "idle 29") => `(tactic| skip)
local macro_rules | `(tactic| walk_at "idle 30") => `(tactic| skip)
local macro_rules | `(tactic| walk_at "idle 31") => `(tactic| skip)
local macro_rules | `(tactic| walk_at "idle 32") => `(tactic| skip)
local macro_rules | `(tactic| walk_at "idle 33") => `(tactic| skip)
local macro_rules | `(tactic| walk_at "idle 34") => `(tactic| skip)
local macro_rules | `(tactic| walk_at "idle 35") => `(tactic| skip)
local macro_rules | `(tactic| walk_at "idle 36") => `(tactic| skip)
local macro_rules | `(tactic| walk_at "idle 37") => `(tactic| skip)
local macro_rules | `(tactic| walk_at "idle 38") => `(tactic| skip)
theorem filledWj : rw' = PySem.Challenge.rw_tr0065_02 ∧ K = K := by
  k_fill
  w_top off
  exact ⟨rfl, rfl⟩
section
variable {w : World} {mean : ExcName → Option Value} {mg mb : PySem.Str → Option Value}
local macro_rules | `(tactic| walk_at "exec While Compare cons nil") => `(tactic| refine hold ?_)
local macro_rules | `(tactic| walk_at "exec While Compare") => `(tactic| refine hold ?_)
local macro_rules | `(tactic| walk_at "exec While") => `(tactic| refine hold ?_)
local macro_rules | `(tactic| walk_at "compareOp Eq int int") => `(tactic| (k_here; k_dflt (first | refine eqb_at (c := false) (by rfl) ?_ | refine eqb_at (c := true) (by rfl) ?_)))
local macro_rules | `(tactic| walk_at "eval ListComp") => `(tactic| refine hold ?_)
local macro_rules | `(tactic| walk_at "binaryOp Sub int int") => `(tactic| (k_here; k_dflt (refine sub_at (by assumption) ?_); intro _ _))
local macro_rules | `(tactic| walk_at "call builtin:str.count") => `(tactic| (k_here; k_dflt (refine count_at (by assumption) ?_); intro _ _))
local macro_rules | `(tactic| walk_at "call ref") => `(tactic| (k_here; (with_reducible show wpAny _ _ (call (Value.ref 197) _) _ _ _); k_dflt (refine' Spec.use (spec_typed _ _ _ _ _ (by omega) (by omega) (by omega) (by omega)) (by k_asm) (by k_asm) (by k_asm) (by k_asm) (by k_asm) (by first | exact rfl | assumption) (by ktr_room) (by ktr_units) ?_); intro v9 h9 tk9 R9 F9 N9; obtain ⟨t9, R9⟩ := R9; subst R9; (try dsimp only)))
local macro_rules | `(tactic| walk_at "call ref") => `(tactic| (k_here; (with_reducible show wpAny _ _ (call (Value.ref 204) _) _ _ _); k_dflt (refine' Spec.use (spec_listed _ _ _ _ _ (by omega) (by omega) (by omega) (by omega)) (by k_asm) (by k_asm) (by k_asm) (by k_asm) (by k_asm) (by first | exact rfl | assumption) (by ktr_room) (by ktr_units) ?_); intro v9 h9 tk9 R9 F9 N9; obtain ⟨t9, R9⟩ := R9; subst R9; (try dsimp only)))
local macro_rules | `(tactic| walk_at "call ref") => `(tactic| (k_here; (with_reducible show wpAny _ _ (call (Value.ref 71) [Value.str _ _]) _ _ _); k_dflt (refine' Spec.use (spec_b1 _ _) (by k_asm) (by k_asm) (by k_asm) (by k_asm) (by k_asm) (by first | exact rfl | assumption) (by ktr_room) (by ktr_units) ?_); intro v9 h9 tk9 R9 F9 N9; replace R9 : v9 = _ := R9; subst R9; (try dsimp only)))
local macro_rules | `(tactic| walk_at "call ref") => `(tactic| (k_here; (with_reducible show wpAny _ _ (call (Value.ref 117) [Value.str _ _]) _ _ _); k_dflt (refine' Spec.use (spec_b3 _ _) (by k_asm) (by k_asm) (by k_asm) (by k_asm) (by k_asm) (by first | exact rfl | assumption) (by ktr_room) (by ktr_units) ?_); intro v9 h9 tk9 R9 F9 N9; obtain ⟨t9, R9⟩ := R9; subst R9; (try dsimp only)))
local macro_rules | `(tactic| walk_at "call builtin:str.join") => `(tactic| (k_here; k_dflt (refine' join_E (by assumption) (News.isList (by k_asm) (by k_mem)) (by assumption) (by assumption) (by assumption) rfl ?_); intro _ _))
local macro_rules | `(tactic| walk_at "binaryOp Mult int int") => `(tactic| (k_here; k_dflt (refine mul_int ?_ (mulOk_small (by omega) (by omega) (by omega) (by omega)))))
local macro_rules | `(tactic| walk_at "binaryOp Mult str int") => `(tactic| (k_here; k_dflt (refine mul_one sp_tx (by omega) (by omega) ?_); intro _ _))
local macro_rules | `(tactic| walk_at "binaryOp Add str str") => `(tactic| (k_here; k_dflt (refine add_tx rfl tab_tx (by assumption) (Nat.le_of_ble_eq_true rfl) ?_); intro _ _))
local macro_rules | `(tactic| walk_at "call ref") => `(tactic| (k_here; (with_reducible show wpAny _ _ (call (Value.ref 53) [Value.str _ _]) _ _ _); k_dflt (refine' Spec.use (spec_parse _ _ _ (by assumption) (by assumption)) (by k_asm) (by k_asm) (by k_asm) (by k_asm) (by k_asm) (by first | exact rfl | assumption) (by ktr_room) (by ktr_units) ?_); intro v9 h9 tk9 R9 F9 N9; obtain ⟨t9, R9⟩ := R9; subst R9; (try dsimp only)))
local macro_rules | `(tactic| walk_at "call ref") => `(tactic| (k_here; (with_reducible show wpAny _ _ (call (Value.ref 179) _) _ _ _); refine hold ?_))
local macro_rules | `(tactic| walk_at "call ref") => `(tactic| (k_here; (with_reducible show wpAny _ _ (call (Value.ref 148) _) _ _ _); refine hold ?_))
local macro_rules | `(tactic| walk_at "UnrEnd") => `(tactic| (k_here; (with_unfolding_all refine UnrEnd.intro (by assumption) (by assumption) _ (fun p hp => hp) (allLt_ne (by assumption)) ?_)))
theorem law_while2 (k n x a0 b0 : Int) (hn1 : 1 ≤ n) (hn7 : n ≤ 3) (hx0 : 0 ≤ x) (hx1 : x ≤ 1000000) (hb0 : 1 ≤ b0) (hb1 : b0 ≤ 5 * n) (ha : a0 = 5 * n + 1 - b0) (f : PySem.Str → Option Value) (ta tb tx' tn tt te : Tok) (fa : Addr) (cd : Value) (dp un : Nat) (gd : Option (List Code)) (A₀ : Around) (base h₀ : Heap) (L : Addr) (s : Shared) (news : List (Addr × Obj)) (cl : List (PySem.Str × Addr)) (Q : Flow → Shared → Prop)
    (B : Below A₀ base [] h₀) (F : Fr h₀ L s.heap (fun y => if y = PySem.Str.ofString "above" then some (.int a0 ta) else if y = PySem.Str.ofString "below" then some (.int b0 tb) else if y = PySem.Str.ofString "n" then some (.int n tn) else if y = PySem.Str.ofString "every" then some (.int 5 te) else if y = PySem.Str.ofString "times" then some (.int 2 tt) else if y = PySem.Str.ofString "x" then some (.int x tx') else f y))
    (X : (K w.params).In h₀) (N : News h₀ L s.heap news) (T : Top q (looseW q loose) mean mg mb h₀) (hd : dp + 10 < recursionLimit) (hu : un + 1000 < cLine)
    (hret : ∀ (a b : Int) (ta tb : Tok) (u1 u2 u3 u4 u5 u6 : Option Value) (h' : Heap) (tk' : Nat), b = lastB 2 n b0 → Fr h₀ L h' (wmap (fun y => if y = PySem.Str.ofString "n" then some (.int n tn) else if y = PySem.Str.ofString "every" then some (.int 5 te) else if y = PySem.Str.ofString "times" then some (.int 2 tt) else if y = PySem.Str.ofString "x" then some (.int x tx') else f y) u1 u2 u3 u4 u5 u6 (.int a ta) (.int b tb)) → News h₀ L h' news → Q .next { s with heap := h', toks := tk' }) :
    wpAny (model pr w) (ktrTop dp un gd (PySem.Str.ofString "law") (fScope (st 17)) L fa cd cl []) (exec (inF 2) (envOfC (PySem.Str.ofString "law") (fScope (st 17)) L fa cd)) Q (fun _ _ => False) s := by
  conv in (inF 2) => whnf
  k_with "state" => first | exact ⟨hb0, hb1, ha, rfl⟩ | exact ⟨by omega, by omega, by omega, by assumption⟩
  k_with "measure" => omega
  k_while (fun (_ : List Int) (b a : Int) => 1 ≤ b ∧ b ≤ 5 * n ∧ a = 5 * n + 1 - b ∧ lastB 2 n b = lastB 2 n b0) (fun (_ : List Int) (b _ : Int) => b.toNat) "below" "above"
  k_steps
  · unfold Hold
    rename_i b tb' a ta' c1 c2 c3 c4 hbn G1 G2 G3 G4 G5 F8 N8
    have hL := typ_len true x (rangeKs x (b - n).toNat)
    rw [rangeKs_length] at hL
    have hT := typ_lis true x (rangeKs x (b - n).toNat)
    have hLl := lis_len true (rangeKs x (b - n).toNat)
    rw [rangeKs_length] at hLl
    generalize hTL : typL true x (rangeKs x (b - n).toNat) = TL at *
    k_dflt (refine ListComp_SH (F₀ := by k_asm) (by with_unfolding_all rfl) (by decide) (by rfl) (by decide) (by rfl) ?_)
    k_steps
    unfold Hold
    refine ⟨tx TL, _, _, rfl, (by rfl), (by assumption), (by assumption), (by rw [sizeLine_eq]; have := tx_len TL; unfold PySem.Str.length at this; omega), ?_⟩
    rintro s₂ ⟨h', rfl⟩
    refine tsT_rest TL nb1 (fun d => tx (m3 d)) (fun d u' I' oI' C' oC' D' m' ys' h' tk' E' hd' hC' hx' F' N' off' ne' => ?_) (fun ys hys => ?_)
    · (try (simp only [LCg.Off3, and_true] at off'))
      k_steps
      all_goals first
        | exact CompEnd.intro (by assumption) (by assumption) _ (by kcf_all) (by first | assumption | (simp only [LCg.Off3, and_true]; done) | (simp only [LCg.Off3, and_true]; assumption)) (by first | lcg_src | assumption | trivial) ⟨rfl, by unfold nb1; rw [show b1 _ = true by assumption]; rfl⟩
        | exact CompEnd.intro (by assumption) (by assumption) _ (by kcf_all) (by first | assumption | (simp only [LCg.Off3, and_true]; done) | (simp only [LCg.Off3, and_true]; assumption)) (by first | lcg_src | assumption | trivial) ⟨rfl, by unfold nb1; rw [show b1 _ = false by assumption]; rfl, _, by rw [m3_tx]⟩
        | trace_state
    · have hB := typ_m3len true x (rangeKs x (b - n).toNat)
      rw [hTL] at hB
      have hBl : ((TL.filter nb1).map m3).length * 100 + ((TL.filter nb1).map m3).length ≤ 1048576 := by
        have := List.length_filter_le nb1 TL
        rw [List.length_map]; omega
      have hys' : StrsAre ys (((TL.filter nb1).map m3).map tx) := by rw [List.map_map]; exact hys
      clear hys
      simp only [if_true] at hLl
      have hll : (tx (lisL true (rangeKs x (b - n).toNat))).length = 5 * (b - n).toNat := by rw [tx_len, hLl]
      obtain ⟨q, hq⟩ : ∃ q : Nat, ((tx (lisL true (rangeKs x (b - n).toNat))).length : Int) - 1 = (q : Int) := ⟨5 * (b - n).toNat - 1, by rw [hll]; omega⟩
      rw [hll] at hq
      have hq64 : q ≤ 64 := by omega
      rw [← hll] at hq
      have hx1 := mul34 q hq64
      have hl1 : (List.replicate q 34 ++ [120]).length ≤ 100000 := by simp; omega
      have hr1 := rd_len q hq64
      have hc1 := rd_count q hq64
      have hx2 := mul34 (q / 2) (by omega)
      have hl2 : (List.replicate (q / 2) 34 ++ [120]).length ≤ 100000 := by simp; omega
      have hr2 := rd_len (q / 2) (by omega)
      have hc2 := rd_count (q / 2) (by omega)
      obtain ⟨Nn, hN⟩ : ∃ Nn : Nat, 5 * a - 1 = (Nn : Int) := ⟨(5 * a - 1).toNat, by omega⟩
      have hNl : (List.replicate ((Nn : Int)).toNat 32).length ≤ 1000000 := by rw [List.length_replicate]; omega
      k_steps
      · exfalso
        rename (_ != _) = true => hne
        simp at hne
      · unfold Hold
        (rename Fr _ _ _ _ => F9'); (rename News _ _ _ _ => N9')
        have hNe : ((Nn : Int)).toNat = Nn := Int.toNat_natCast _
        have hNc : ∀ c ∈ List.replicate ((Nn : Int)).toNat 32 ++ [9], c = 32 ∨ c = 9 := by
          intro c hc
          rcases List.mem_append.mp hc with h | h
          · exact .inl (List.eq_of_mem_replicate h)
          · exact .inr (List.mem_singleton.mp h)
        have hNl2 : (List.replicate ((Nn : Int)).toNat 32 ++ [9]).length ≤ 10000 := by rw [List.length_append, List.length_replicate]; simp only [List.length_cons, List.length_nil]; omega
        have hwb := wsRun_bd (List.replicate ((Nn : Int)).toNat 32 ++ [9])
        obtain ⟨hv, hkb⟩ := ws_one4 Nn (by omega)
        obtain ⟨u1, u2, u3, u4⟩ := F2 hn1 hn7 hbn c2
        have hb2 : b2 2 n b = ((q / 2 / 2 : Nat) : Int) := by
          rw [hll] at hq
          unfold b2; rw [if_neg (by decide)]; omega
        rw [hb2] at u1 u2 u3 u4
        have hlast := u3.trans c4
        refine ws_spec _ _ hNl2 hNc _ _ _ _ _ _ _ _ _ _ _ _ _ _ _ _ _ _ B F9' X N9' T (by rfl) (by ktr_room) (by ktr_units) ?_
        intro x9 d9 D1 D2 vs sm t1 t2 t3 t4 t5 tb2 tn2 tt2 h9 tk9 hi l1 l2 l3 l4 F8 N8
        have h31 : (5 : Int) - 1 = 4 := by decide
        k_steps
        unfold Hold
        (rename Fr _ _ _ _ => F7'); (rename News _ _ _ _ => N7')
        refine spec_indent (tx (List.replicate ((Nn : Int)).toNat 32 ++ [9])) (wsRun (List.replicate ((Nn : Int)).toNat 32 ++ [9])).ks (wsRun (List.replicate ((Nn : Int)).toNat 32 ++ [9])).b (wsRun (List.replicate ((Nn : Int)).toNat 32 ++ [9])).n (wsRun (List.replicate ((Nn : Int)).toNat 32 ++ [9])).nt x9 d9 D1 D2 vs sm 4 _ _ t1 t2 t3 t4 t5 tb2 tn2 tt2 hi hkb (by omega) (by omega) (by omega) (by decide) (by decide) _ _ _ _ _ _ _ _ _ _ _ _ _ _ _ _ _ _ B F7' X N7' T (by rfl) (by ktr_room) (by ktr_units) ?_
        intro t9' h9' tk9' F6 N6
        rw [hv]
        have he1 : ((4 : Int) * (((Nn / 4 : Nat) : Int) + 1)).fdiv 4 = ((Nn / 4 : Nat) : Int) + 1 := by rw [Int.fdiv_eq_ediv_of_nonneg _ (by decide)]; omega
        have he2 : ((4 : Int) * (((Nn / 4 : Nat) : Int) + 1)).fmod 4 = 0 := by rw [Int.fmod_eq_emod_of_nonneg _ (by decide)]; omega
        k_steps
        all_goals first
          | (exfalso; omega)
          | (exfalso; exact absurd he2 (by assumption))
          | exact ⟨by omega, by omega, by omega, by assumption⟩
  · rename_i b tb' a ta' c1 c2 c3 c4 hbn
    refine hret a b ta' tb' _ _ _ _ _ _ _ _ (by rw [← c4, last_le 2 hbn]) (fr_eq (wmap_of (by rfl) (by rfl) ?_) kFr) kNews
    intro y h1 h2 h3 h4 h5 h6 h7 h8
    simp [h1, h2, h3, h4, h5, h6, h7, h8]
end
end Hd
end
end
section
open PySem PySem.W PySem.Calls PyProof.Rows
set_option maxRecDepth 100000
set_option maxHeartbeats 8000000
noncomputable section
namespace Hd
theorem filledFo : rw' = PySem.Challenge.rw_tr0065_02 ∧ K = K := by
  k_fill
  w_top off
  exact ⟨rfl, rfl⟩
theorem over6 {m : PySem.Str → Option Value} {k1 k2 k3 k4 k5 k6 : PySem.Str} {v1 v2 v3 v4 v5 v6 : Value} (h1 : m k1 = some v1) (h2 : m k2 = some v2) (h3 : m k3 = some v3) (h4 : m k4 = some v4) (h5 : m k5 = some v5) (h6 : m k6 = some v6) :
    (fun z => if z = k1 then some v1 else if z = k2 then some v2 else if z = k3 then some v3 else if z = k4 then some v4 else if z = k5 then some v5 else if z = k6 then some v6 else m z) = m := by
  funext z
  by_cases e1 : z = k1
  · rw [if_pos e1, e1, h1]
  rw [if_neg e1]
  by_cases e2 : z = k2
  · rw [if_pos e2, e2, h2]
  rw [if_neg e2]
  by_cases e3 : z = k3
  · rw [if_pos e3, e3, h3]
  rw [if_neg e3]
  by_cases e4 : z = k4
  · rw [if_pos e4, e4, h4]
  rw [if_neg e4]
  by_cases e5 : z = k5
  · rw [if_pos e5, e5, h5]
  rw [if_neg e5]
  by_cases e6 : z = k6
  · rw [if_pos e6, e6, h6]
  rw [if_neg e6]
structure ToldP (t : Nat) (n e : Int) (pre told : List Int) : Prop where
  eq : told = pre.map (fun k => lastB t n (e * k))
theorem ToldP.nil (t : Nat) (n e : Int) : ToldP t n e [] [] := ⟨List.map_nil.symm⟩
theorem ToldP.nil' (t : Nat) (n e : Int) {tl : List Int} (h : tl = []) : ToldP t n e [] tl := by subst h; exact ToldP.nil t n e
theorem ToldP.snoc {t : Nat} {n e k b : Int} {pre told : List Int} (h : ToldP t n e pre told) (hb : b = lastB t n (e * k)) : ToldP t n e (pre ++ [k]) (told ++ [b]) :=
  ⟨by rw [h.eq, hb, List.map_append]; rfl⟩
section
variable {w : World} {mean : ExcName → Option Value} {mg mb : PySem.Str → Option Value}
local macro_rules | `(tactic| walk_at "pyIter ref") => `(tactic| refine hold ?_)
local macro_rules | `(tactic| walk_at "exec While Compare cons nil") => `(tactic| refine hold ?_)
local macro_rules | `(tactic| walk_at "exec While Compare") => `(tactic| refine hold ?_)
local macro_rules | `(tactic| walk_at "exec While") => `(tactic| refine hold ?_)
local macro_rules | `(tactic| walk_at "binaryOp Mult int int") => `(tactic| (k_here; k_dflt (refine mul_int ?_ (mulOk_small (by omega) (by omega) (by omega) (by omega)))))
theorem law_for (n x : Int) (Dt : Addr) (hn1 : 1 ≤ n) (hn7 : n ≤ 7) (hx0 : 0 ≤ x) (hx1 : x ≤ 1000000) (f : PySem.Str → Option Value) (tx' tn tt te : Tok) (fa : Addr) (cd : Value) (dp un : Nat) (gd : Option (List Code)) (A₀ : Around) (base h₀ : Heap) (L : Addr) (s : Shared) (cl : List (PySem.Str × Addr)) (Q : Flow → Shared → Prop)
    (B : Below A₀ base [] h₀) (F : Fr h₀ L s.heap (fun y => if y = PySem.Str.ofString "told" then some (.ref Dt) else if y = PySem.Str.ofString "n" then some (.int n tn) else if y = PySem.Str.ofString "every" then some (.int 3 te) else if y = PySem.Str.ofString "times" then some (.int 1 tt) else if y = PySem.Str.ofString "x" then some (.int x tx') else f y))
    (X : (K w.params).In h₀) (vt : List Value) (tl : List Int) (ct : Nat) (hvt : IntsAre vt tl) (htl : tl = []) (N : News h₀ L s.heap [(Dt, W.listOf (List.toArray vt) ct)]) (T : Top q (looseW q loose) mean mg mb h₀) (hd : dp + 10 < recursionLimit) (hu : un + 1000 < cLine)
    (hret : ∀ (vt' : List Value) (tl' : List Int) (ct' : Nat) (m' : PySem.Str → Option Value) (h' : Heap) (tk' : Nat), IntsAre vt' tl' → tl' = (rangeKs 1 n.toNat).map (fun k => lastB 1 n (3 * k)) → m' (PySem.Str.ofString "told") = some (.ref Dt) → m' (PySem.Str.ofString "n") = some (.int n tn) → m' (PySem.Str.ofString "every") = some (.int 3 te) → Fr h₀ L h' m' → News h₀ L h' [(Dt, W.listOf (List.toArray vt') ct')] → Q .next { s with heap := h', toks := tk' }) :
    wpAny (model pr w) (ktrTop dp un gd (PySem.Str.ofString "law") (fScope (st 17)) L fa cd cl []) (exec (lawS 5) (envOfC (PySem.Str.ofString "law") (fScope (st 17)) L fa cd)) Q (fun _ _ => False) s := by
  conv in (lawS 5) => whnf
  have hn100 : n ≤ 100 := by omega
  have hn7' : Hold (n ≤ 7) := hn7
  clear hn7
  (with_unfolding_all refine' For_invVF F ?k1 ?k2 ?_; (case k1 => exact rfl); (case k2 => exact rfl); k_whole)
  k_steps
  unfold Hold
  k_with "state" => first | exact ToldP.nil' _ _ _ (by assumption) | exact ToldP.snoc (by assumption) (by assumption)
  k_state (fun pre told => ToldP 1 n 3 pre told) "told"
  · rename_i vt1 tl1 ct1 kl1
    have hn7 : n ≤ 7 := hn7'
    clear hn7'
    k_steps
    unfold Hold
    (rename Fr _ _ _ _ => F9'); (rename News _ _ _ _ => N9')
    refine law_while kN n x (3 * (n - kN) + 1) (3 * kN) hn1 hn7 hx0 hx1 (by omega) (by omega) (by omega) _ _ _ _ _ _ _ fa cd dp un gd _ _ h₀ L _ _ cl _ B (fr_eq (over6 (by rfl) (by rfl) (by rfl) (by rfl) (by rfl) (by rfl)).symm F9') X N9' T hd hu ?_
    intro a' b' ta' tb' u1 u2 u3 u4 u5 u6 h9 tk9 hb F8 N8
    clear F9' N9'
    unfold wmap at F8
    k_steps
    have hln := congrArg List.length kInv.eq
    rw [List.length_map] at hln
    (rename Fr _ _ _ _ => F9'); (rename News _ _ _ _ => N9')
    refine append_hd F9' N9' (OwnOff.ne kOff (by exact .head _)) (by omega) ?_
    clear F9' N9'
    intro h' F' N'
    k_steps
    (rename Fr _ _ _ _ => F9'); (rename News _ _ _ _ => N9')
    refine kst_end (vt1 ++ [.int b' tb'], tl1 ++ [b'], ct1 + 1) F9' N9' (fun p hp => by rcases List.mem_singleton.mp hp with rfl; exact .head _) (fun p hp => .tail _ hp) rfl (IntsAre.append kFacts (.cons _ _ .nil)) (fun p hp => nomatch hp) ?_ (ToldP.snoc kInv hb)
    intro z h1 _ h3
    simp only [List.contains_eq_mem, List.mem_cons, List.not_mem_nil, or_false, decide_eq_false_iff_not, not_or] at h3
    obtain ⟨g1, g2, g3, g4, g5, g6, g7, g8⟩ := h3
    have w1 : PySem.Str.ofString "n" ≠ PySem.Str.ofString "told" := by decide +kernel
    have w2 : PySem.Str.ofString "every" ≠ PySem.Str.ofString "told" := by decide +kernel
    have w3 : PySem.Str.ofString "times" ≠ PySem.Str.ofString "told" := by decide +kernel
    have w4 : PySem.Str.ofString "x" ≠ PySem.Str.ofString "told" := by decide +kernel
    by_cases e1 : z = PySem.Str.ofString "n"
    · simp only [h1, g1, g2, g3, g4, g5, g6, g7, g8, if_false, if_pos e1, if_neg (e1 ▸ w1 : z ≠ PySem.Str.ofString "told")]
    by_cases e2 : z = PySem.Str.ofString "every"
    · simp only [h1, g1, g2, g3, g4, g5, g6, g7, g8, e1, if_false, if_pos e2, if_neg (e2 ▸ w2 : z ≠ PySem.Str.ofString "told")]
    by_cases e3 : z = PySem.Str.ofString "times"
    · simp only [h1, g1, g2, g3, g4, g5, g6, g7, g8, e1, e2, if_false, if_pos e3, if_neg (e3 ▸ w3 : z ≠ PySem.Str.ofString "told")]
    by_cases e4 : z = PySem.Str.ofString "x"
    · simp only [h1, g1, g2, g3, g4, g5, g6, g7, g8, e1, e2, e3, if_false, if_pos e4, if_neg (e4 ▸ w4 : z ≠ PySem.Str.ofString "told")]
    simp [h1, g1, g2, g3, g4, g5, g6, g7, g8, e1, e2, e3, e4]
  · rename_i vt2 tl2 ct2 kl2
    have hInv := kInv.eq
    rw [show (n + 1 - 1) = n by omega] at hInv
    exact hret vt2 tl2 _ _ _ _ kFacts hInv (by rfl) (by rfl) (by rfl) kFr kNews
end
end Hd
end
end
section
open PySem PySem.W PySem.Calls PyProof.Rows
set_option maxRecDepth 100000
set_option maxHeartbeats 8000000
noncomputable section
namespace Hd
local macro_rules | `(tactic| walk_at "idle 0") => `(tactic| skip)
local macro_rules | `(tactic| walk_at "idle 1") => `(tactic| skip)
local macro_rules | `(tactic| walk_at "idle 2") => `(tactic| skip)
local macro_rules | `(tactic| walk_at "idle 3") => `(tactic| skip)
local macro_rules | `(tactic| walk_at "idle 4") => `(tactic| skip)
local macro_rules | `(tactic| walk_at "idle 5") => `(tactic| skip)
local macro_rules | `(tactic| walk_at "idle 6") => `(tactic| skip)
local macro_rules | `(tactic| walk_at "idle 7") => `(tactic| skip)
local macro_rules | `(tactic| walk_at "idle 8") => `(tactic| skip)
local macro_rules | `(tactic| walk_at "idle 9") => `(tactic| skip)
local macro_rules | `(tactic| walk_at "idle 10") => `(tactic| skip)
local macro_rules | `(tactic| walk_at "idle 11") => `(tactic| skip)
local macro_rules | `(tactic| walk_at "idle 12") => `(tactic| skip)
theorem filledFq : rw' = PySem.Challenge.rw_tr0065_02 ∧ K = K := by
  k_fill
  w_top off
  exact ⟨rfl, rfl⟩
section
variable {w : World} {mean : ExcName → Option Value} {mg mb : PySem.Str → Option Value}
local macro_rules | `(tactic| walk_at "pyIter ref") => `(tactic| refine hold ?_)
local macro_rules | `(tactic| walk_at "exec While Compare cons nil") => `(tactic| refine hold ?_)
local macro_rules | `(tactic| walk_at "exec While Compare") => `(tactic| refine hold ?_)
local macro_rules | `(tactic| walk_at "exec While") => `(tactic| refine hold ?_)
local macro_rules | `(tactic| walk_at "binaryOp Mult int int") => `(tactic| (k_here; k_dflt (refine mul_int ?_ (mulOk_small (by omega) (by omega) (by omega) (by omega)))))
theorem law_for2 (n x : Int) (Dt : Addr) (hn1 : 1 ≤ n) (hn7 : n ≤ 3) (hx0 : 0 ≤ x) (hx1 : x ≤ 1000000) (f : PySem.Str → Option Value) (tx' tn tt te : Tok) (fa : Addr) (cd : Value) (dp un : Nat) (gd : Option (List Code)) (A₀ : Around) (base h₀ : Heap) (L : Addr) (s : Shared) (cl : List (PySem.Str × Addr)) (Q : Flow → Shared → Prop)
    (B : Below A₀ base [] h₀) (F : Fr h₀ L s.heap (fun y => if y = PySem.Str.ofString "told" then some (.ref Dt) else if y = PySem.Str.ofString "n" then some (.int n tn) else if y = PySem.Str.ofString "every" then some (.int 5 te) else if y = PySem.Str.ofString "times" then some (.int 2 tt) else if y = PySem.Str.ofString "x" then some (.int x tx') else f y))
    (X : (K w.params).In h₀) (vt : List Value) (tl : List Int) (ct : Nat) (hvt : IntsAre vt tl) (htl : tl = []) (N : News h₀ L s.heap [(Dt, W.listOf (List.toArray vt) ct)]) (T : Top q (looseW q loose) mean mg mb h₀) (hd : dp + 10 < recursionLimit) (hu : un + 1000 < cLine)
    (hret : ∀ (vt' : List Value) (tl' : List Int) (ct' : Nat) (m' : PySem.Str → Option Value) (h' : Heap) (tk' : Nat), IntsAre vt' tl' → tl' = (rangeKs 1 n.toNat).map (fun k => lastB 2 n (5 * k)) → m' (PySem.Str.ofString "told") = some (.ref Dt) → m' (PySem.Str.ofString "n") = some (.int n tn) → m' (PySem.Str.ofString "every") = some (.int 5 te) → Fr h₀ L h' m' → News h₀ L h' [(Dt, W.listOf (List.toArray vt') ct')] → Q .next { s with heap := h', toks := tk' }) :
    wpAny (model pr w) (ktrTop dp un gd (PySem.Str.ofString "law") (fScope (st 17)) L fa cd cl []) (exec (lawS 5) (envOfC (PySem.Str.ofString "law") (fScope (st 17)) L fa cd)) Q (fun _ _ => False) s := by
  conv in (lawS 5) => whnf
  have hn100 : n ≤ 100 := by omega
  have hn7' : Hold (n ≤ 3) := hn7
  clear hn7
  (with_unfolding_all refine' For_invVF F ?k1 ?k2 ?_; (case k1 => exact rfl); (case k2 => exact rfl); k_whole)
  k_steps
  unfold Hold
  k_with "state" => first | exact ToldP.nil' _ _ _ (by assumption) | exact ToldP.snoc (by assumption) (by assumption)
  k_state (fun pre told => ToldP 2 n 5 pre told) "told"
  · rename_i vt1 tl1 ct1 kl1
    have hn7 : n ≤ 3 := hn7'
    clear hn7'
    k_steps
    unfold Hold
    (rename Fr _ _ _ _ => F9'); (rename News _ _ _ _ => N9')
    refine law_while2 kN n x (5 * (n - kN) + 1) (5 * kN) hn1 hn7 hx0 hx1 (by omega) (by omega) (by omega) _ _ _ _ _ _ _ fa cd dp un gd _ _ h₀ L _ _ cl _ B (fr_eq (over6 (by rfl) (by rfl) (by rfl) (by rfl) (by rfl) (by rfl)).symm F9') X N9' T hd hu ?_
    intro a' b' ta' tb' u1 u2 u3 u4 u5 u6 h9 tk9 hb F8 N8
    clear F9' N9'
    unfold wmap at F8
    k_steps
    have hln := congrArg List.length kInv.eq
    rw [List.length_map] at hln
    (rename Fr _ _ _ _ => F9'); (rename News _ _ _ _ => N9')
    refine append_hd F9' N9' (OwnOff.ne kOff (by exact .head _)) (by omega) ?_
    clear F9' N9'
    intro h' F' N'
    k_steps
    (rename Fr _ _ _ _ => F9'); (rename News _ _ _ _ => N9')
    refine kst_end (vt1 ++ [.int b' tb'], tl1 ++ [b'], ct1 + 1) F9' N9' (fun p hp => by rcases List.mem_singleton.mp hp with rfl; exact .head _) (fun p hp => .tail _ hp) rfl (IntsAre.append kFacts (.cons _ _ .nil)) (fun p hp => nomatch hp) ?_ (ToldP.snoc kInv hb)
    intro z h1 _ h3
    simp only [List.contains_eq_mem, List.mem_cons, List.not_mem_nil, or_false, decide_eq_false_iff_not, not_or] at h3
    obtain ⟨g1, g2, g3, g4, g5, g6, g7, g8⟩ := h3
    have w1 : PySem.Str.ofString "n" ≠ PySem.Str.ofString "told" := by decide +kernel
    have w2 : PySem.Str.ofString "every" ≠ PySem.Str.ofString "told" := by decide +kernel
    have w3 : PySem.Str.ofString "times" ≠ PySem.Str.ofString "told" := by decide +kernel
    have w4 : PySem.Str.ofString "x" ≠ PySem.Str.ofString "told" := by decide +kernel
    by_cases e1 : z = PySem.Str.ofString "n"
    · simp only [h1, g1, g2, g3, g4, g5, g6, g7, g8, if_false, if_pos e1, if_neg (e1 ▸ w1 : z ≠ PySem.Str.ofString "told")]
    by_cases e2 : z = PySem.Str.ofString "every"
    · simp only [h1, g1, g2, g3, g4, g5, g6, g7, g8, e1, if_false, if_pos e2, if_neg (e2 ▸ w2 : z ≠ PySem.Str.ofString "told")]
    by_cases e3 : z = PySem.Str.ofString "times"
    · simp only [h1, g1, g2, g3, g4, g5, g6, g7, g8, e1, e2, if_false, if_pos e3, if_neg (e3 ▸ w3 : z ≠ PySem.Str.ofString "told")]
    by_cases e4 : z = PySem.Str.ofString "x"
    · simp only [h1, g1, g2, g3, g4, g5, g6, g7, g8, e1, e2, e3, if_false, if_pos e4, if_neg (e4 ▸ w4 : z ≠ PySem.Str.ofString "told")]
    simp [h1, g1, g2, g3, g4, g5, g6, g7, g8, e1, e2, e3, e4]
  · rename_i vt2 tl2 ct2 kl2
    have hInv := kInv.eq
    rw [show (n + 1 - 1) = n by omega] at hInv
    exact hret vt2 tl2 _ _ _ _ kFacts hInv (by rfl) (by rfl) (by rfl) kFr kNews
end
end Hd
end
end
section
open PySem PySem.W PySem.Calls PyProof.Rows
set_option maxRecDepth 100000
set_option maxHeartbeats 8000000
noncomputable section
namespace Hd
local macro_rules | `(tactic| walk_at "idle 0") => `(tactic| skip)
local macro_rules | `(tactic| walk_at "idle 1") => `(tactic| skip)
local macro_rules | `(tactic| walk_at "idle 2") => `(tactic| skip)
local macro_rules | `(tactic| walk_at "idle 3") => `(tactic| skip)
local macro_rules | `(tactic| walk_at "idle 4") => `(tactic| skip)
local macro_rules | `(tactic| walk_at "idle 5") => `(tactic| skip)
local macro_rules | `(tactic| walk_at "idle 6") => `(tactic| skip)
local macro_rules | `(tactic| walk_at "idle 7") => `(tactic| skip)
local macro_rules | `(tactic| walk_at "idle 8") => `(tactic| skip)
local macro_rules | `(tactic| walk_at "idle 9") => `(tactic| skip)
local macro_rules | `(tactic| walk_at "idle 10") => `(tactic| skip)
local macro_rules | `(tactic| walk_at "idle 11") => `(tactic| skip)
local macro_rules | `(tactic| walk_at "idle 12") => `(tactic| skip)
local macro_rules | `(tactic| walk_at "idle 13") => `(tactic| skip)
local macro_rules | `(tactic| walk_at "idle 14") => `(tactic| skip)
local macro_rules | `(tactic| walk_at "idle 15") => `(tactic| skip)
local macro_rules | `(tactic| walk_at "idle 16") => `(tactic| skip)
local macro_rules | `(tactic| walk_at "idle 17") => `(tactic| skip)
local macro_rules | `(tactic| walk_at "idle 18") => `(tactic| skip)
local macro_rules | `(tactic| walk_at "idle 19") => `(tactic| skip)
local macro_rules | `(tactic| walk_at "idle 20") => `(tactic| skip)
local macro_rules | `(tactic| walk_at "idle 21") => `(tactic| skip)
local macro_rules | `(tactic| walk_at "idle 22") => `(tactic| skip)
local macro_rules | `(tactic| walk_at "idle 23") => `(tactic| skip)
local macro_rules | `(tactic| walk_at "idle 24") => `(tactic| skip)
local macro_rules | `(tactic| walk_at "idle 25") => `(tactic| skip)
theorem filledBd : rw' = PySem.Challenge.rw_tr0065_02 ∧ K = K := by
  k_fill
  w_top off
  exact ⟨rfl, rfl⟩
theorem over3 {m : PySem.Str → Option Value} {k1 k2 k3 : PySem.Str} {v1 v2 v3 : Value} (h1 : m k1 = some v1) (h2 : m k2 = some v2) (h3 : m k3 = some v3) : (fun z => if z = k1 then some v1 else if z = k2 then some v2 else if z = k3 then some v3 else m z) = m := by
  funext z
  by_cases e1 : z = k1
  · rw [if_pos e1, e1, h1]
  rw [if_neg e1]
  by_cases e2 : z = k2
  · rw [if_pos e2, e2, h2]
  rw [if_neg e2]
  by_cases e3 : z = k3
  · rw [if_pos e3, e3, h3]
  rw [if_neg e3]
section
variable {prog : Program} {w : World} {A : Around} {E : Value → Shared → Prop} {s : Shared}
theorem mod_at {a b j : Int} {t u : Tok} {Q : Value → Shared → Prop} (e : a.fmod b = j) (hb : (b == 0) = false) (h : ∀ t' k, Q (.int j t') { s with toks := k }) : wpAny (model prog w) A (binaryOp .Mod (.int a t) (.int b u)) Q E s := by
  refine wpAny_mono (PySem.AutoIntOps.mod_1 (Q := Q) (by rw [hb]; decide) (by rw [e]; exact h _ _)) (fun _ _ x => x) fun _ _ x => x
theorem add_at {a b j : Int} {t u : Tok} {Q : Value → Shared → Prop} (e : a + b = j) (h : ∀ t' k, Q (.int j t') { s with toks := k }) : wpAny (model prog w) A (binaryOp .Add (.int a t) (.int b u)) Q E s := by
  subst e
  exact add_int (h _ _)
end
section
variable {w : World} {mean : ExcName → Option Value} {mg mb : PySem.Str → Option Value}
local macro_rules | `(tactic| walk_at "call ref") => `(tactic| (k_here; (with_reducible show wpAny _ _ (call (Value.ref 211) _) _ _ _); refine hold ?_))
theorem law_end (n e : Int) (he : e = 3 ∨ e = 5) (hn1 : 1 ≤ n) (hn7 : n ≤ 7) (mm : PySem.Str → Option Value) (Dt : Addr) (vt : List Value) (tl : List Int) (ct : Nat) (tn te : Tok) (hvt : IntsAre vt tl) (htl : tl = josF e n.toNat (rangeKs 1 n.toNat) 0) (hto : mm (PySem.Str.ofString "told") = some (.ref Dt)) (hnn : mm (PySem.Str.ofString "n") = some (.int n tn)) (hee : mm (PySem.Str.ofString "every") = some (.int e te))
    (fa : Addr) (cd : Value) (dp un : Nat) (gd : Option (List Code)) (A₀ : Around) (base h₀ : Heap) (L : Addr) (s : Shared) (cl : List (PySem.Str × Addr)) (Q : Flow → Shared → Prop)
    (B : Below A₀ base [] h₀) (F : Fr h₀ L s.heap mm)
    (X : (K w.params).In h₀) (N : News h₀ L s.heap [(Dt, W.listOf (List.toArray vt) ct)]) (T : Top q (looseW q loose) mean mg mb h₀) (hd : dp + 10 < recursionLimit) (hu : un + 1000 < cLine)
    (hret : ∀ (m' : PySem.Str → Option Value) (h' : Heap) (tk' : Nat), Fr h₀ L h' m' → Q (.ret (.bool true)) { s with heap := h', toks := tk' }) :
    wpAny (model pr w) (ktrTop dp un gd (PySem.Str.ofString "law") (fScope (st 17)) L fa cd cl []) (exec (lawS 6) (envOfC (PySem.Str.ofString "law") (fScope (st 17)) L fa cd)) Q (fun _ _ => False) s := by
  conv in (lawS 6) => whnf
  have F0 := fr_eq (over3 hto hnn hee).symm F
  clear F
  k_steps
  unfold Hold
  (rename Fr _ _ _ _ => F9'); (rename News _ _ _ _ => N9')
  refine spec_gone n e _ _ hn1 hn7 (by omega) (by omega) _ _ _ _ _ _ _ _ _ _ _ _ _ _ _ _ _ _ B F9' X N9' T (by rfl) (by ktr_room) (by ktr_units) ?_
  intro D9 vs9 nn9 h9 tk9 hD hvs F8 N8
  have hD' := hD _ (.head _)
  rw [← htl] at hvs
  k_steps
  exact hret _ _ _ (by assumption)
end
end Hd
end
end
section
open PySem PySem.W PySem.Calls PyProof.Rows
set_option maxRecDepth 100000
set_option maxHeartbeats 8000000
noncomputable section
namespace Hd
local macro_rules | `(tactic| walk_at "idle 0") => `(tactic| skip)
local macro_rules | `(tactic| walk_at "idle 1") => `(tactic| skip)
local macro_rules | `(tactic| walk_at "idle 2") => `(tactic| skip)
local macro_rules | `(tactic| walk_at "idle 3") => `(tactic| skip)
local macro_rules | `(tactic| walk_at "idle 4") => `(tactic| skip)
local macro_rules | `(tactic| walk_at "idle 5") => `(tactic| skip)
local macro_rules | `(tactic| walk_at "idle 6") => `(tactic| skip)
local macro_rules | `(tactic| walk_at "idle 7") => `(tactic| skip)
local macro_rules | `(tactic| walk_at "idle 8") => `(tactic| skip)
local macro_rules | `(tactic| walk_at "idle 9") => `(tactic| skip)
local macro_rules | `(tactic| walk_at "idle 10") => `(tactic| skip)
local macro_rules | `(tactic| walk_at "idle 11") => `(tactic| skip)
local macro_rules | `(tactic| walk_at "idle 12") => `(tactic| skip)
local macro_rules | `(tactic| walk_at "idle 13") => `(tactic| skip)
local macro_rules | `(tactic| walk_at "idle 14") => `(tactic| skip)
local macro_rules | `(tactic| walk_at "idle 15") => `(tactic| skip)
local macro_rules | `(tactic| walk_at "idle 16") => `(tactic| skip)
local macro_rules | `(tactic| walk_at "idle 17") => `(tactic| skip)
local macro_rules | `(tactic| walk_at "idle 18") => `(tactic| skip)
local macro_rules | `(tactic| walk_at "idle 19") => `(tactic| skip)
local macro_rules | `(tactic| walk_at "idle 20") => `(tactic| skip)
local macro_rules | `(tactic| walk_at "idle 21") => `(tactic| skip)
local macro_rules | `(tactic| walk_at "idle 22") => `(tactic| skip)
local macro_rules | `(tactic| walk_at "idle 23") => `(tactic| skip)
local macro_rules | `(tactic| walk_at "idle 24") => `(tactic| skip)
local macro_rules | `(tactic| walk_at "idle 25") => `(tactic| skip)
local macro_rules | `(tactic| walk_at "idle 26") => `(tactic| skip)
local macro_rules | `(tactic| walk_at "idle 27") => `(tactic| skip)
local macro_rules | `(tactic| walk_at "idle 28") => `(tactic| skip)
local macro_rules | `(tactic| walk_at "idle 29") => `(tactic| skip)
local macro_rules | `(tactic| walk_at "idle 30") => `(tactic| skip)
local macro_rules | `(tactic| walk_at "idle 31") => `(tactic| skip)
local macro_rules | `(tactic| walk_at "idle 32") => `(tactic| skip)
local macro_rules | `(tactic| walk_at "idle 33") => `(tactic| skip)
local macro_rules | `(tactic| walk_at "idle 34") => `(tactic| skip)
local macro_rules | `(tactic| walk_at "idle 35") => `(tactic| skip)
local macro_rules | `(tactic| walk_at "idle 36") => `(tactic| skip)
local macro_rules | `(tactic| walk_at "idle 37") => `(tactic| skip)
local macro_rules | `(tactic| walk_at "idle 38") => `(tactic| skip)
theorem filledLb : rw' = PySem.Challenge.rw_tr0065_02 ∧ K = K := by
  k_fill
  w_top off
  exact ⟨rfl, rfl⟩
theorem G1 (k : Nat) (n : Int) (hk : n = k) (h : k ≤ 7) : (rangeKs 1 k).map (fun j => lastB 1 n (3 * j)) = josF 3 k (rangeKs 1 k) 0 := by
  subst hk
  exact g1 k (by omega)
theorem G2 (k : Nat) (n : Int) (hk : n = k) (h : k ≤ 3) : (rangeKs 1 k).map (fun j => lastB 2 n (5 * j)) = josF 5 k (rangeKs 1 k) 0 := by
  subst hk
  exact g2 k (by omega)
section
variable {w : World} {mean : ExcName → Option Value} {mg mb : PySem.Str → Option Value}
local macro_rules | `(tactic| walk_at "call ref") => `(tactic| (k_here; (with_reducible show wpAny _ _ (call (Value.ref 190) [Value.ref _, Value.int _ _]) _ _ _); k_dflt (refine' SpecL.use (spec_number _ _ _ (by assumption) (by assumption) _ _ (by omega) (by omega)) (by k_asm) (by k_asm) (by k_asm) (by k_asm) (by k_asm) (by assumption) (by first | exact rfl | assumption) (by ktr_room) (by ktr_units) ?_); intro v9 h9 tk9 R9 F9 N9; obtain ⟨x9, t9, R9, ge9, lt9⟩ := R9; subst R9; (try dsimp only); refine hold ?_))
local macro_rules | `(tactic| walk_at "exec For Name Call cons nil") => `(tactic| refine hold ?_)
local macro_rules | `(tactic| walk_at "exec For Name Call") => `(tactic| refine hold ?_)
local macro_rules | `(tactic| walk_at "binaryOp Mod int int") => `(tactic| (k_here; k_dflt (refine mod_at (by assumption) (by rfl) ?_); intro _ _))
local macro_rules | `(tactic| walk_at "binaryOp Add int int") => `(tactic| (k_here; k_dflt (refine add_at (by assumption) ?_); intro _ _))
theorem law_body (fa : Addr) (cd : Value) (l : Addr) (vs : List Value) (ns : List Int) (hi : IntsAre vs ns) (hlay : PyData.layable0 (.list (ns.map .int)) = true) (dp un : Nat) (gd : Option (List Code)) (h₀ : Heap) (s : Shared) (Q : Flow → Shared → Prop)
    (B : Below callerA h₀ [] h₀) (F : Fr h₀ h₀.objs.size s.heap (fun x => List.lookup x ([(PySem.Str.ofString "script", Value.ref l)].reverse)))
    (X : (K w.params).In h₀) (N : News h₀ h₀.objs.size s.heap []) (T : Top q (looseW q loose) mean mg mb h₀) (hl : h₀.IsList l vs.toArray) (hd : dp + 10 < recursionLimit) (hu : un + 1000 < cLine)
    (hret : ∀ (m' : PySem.Str → Option Value) (h' : Heap) (tk' : Nat), Fr h₀ h₀.objs.size h' m' → Q (.ret (.bool true)) { s with heap := h', toks := tk' }) :
    wpAny (model pr w) (ktrTop dp un gd (PySem.Str.ofString "law") (fScope (st 17)) h₀.objs.size fa cd [] [])
      (execs (fBody (st 17)) (envOf (PySem.Str.ofString "law") (fScope (st 17)) h₀.objs.size fa cd)) Q (fun _ _ => False) s := by
  conv in (fBody (st 17)) => whnf
  k_steps
  unfold Hold
  rename_i xx tx' gx lx
  k_steps
  unfold Hold
  rename_i xt tt' gt lt
  have t0 : 0 ≤ xt.fmod 2 := Int.fmod_nonneg_of_pos _ (by decide)
  have t1 : xt.fmod 2 < 2 := Int.fmod_lt_of_pos _ (by decide)
  obtain ht | ht : xt.fmod 2 = 0 ∨ xt.fmod 2 = 1 := by omega
  · have h10 : (1 : Int) + 0 = 1 := by decide
    k_steps
    unfold Hold
    rename_i xn tn' gn ln
    have n0 : 0 ≤ xn.fmod 7 := Int.fmod_nonneg_of_pos _ (by decide)
    have n1 : xn.fmod 7 < 7 := Int.fmod_lt_of_pos _ (by decide)
    obtain ⟨r, hr⟩ : ∃ r, xn.fmod 7 = r := ⟨_, rfl⟩
    obtain ⟨n, hn⟩ : ∃ n, 1 + r = n := ⟨_, rfl⟩
    k_steps
    unfold Hold
    (rename Fr _ _ _ _ => F9'); (rename News _ _ _ _ => N9')
    with_unfolding_all refine law_for n xx _ (by omega) (by omega) gx (by omega) _ _ _ _ _ fa cd dp un gd _ _ h₀ _ _ _ _ B F9' X [] [] 0 .nil rfl N9' T hd hu ?_
    intro vt' tl' ct' m' h5 tk5 hvt htl q1 q2 q3 F5 N5
    have htl' : tl' = josF 3 n.toNat (rangeKs 1 n.toNat) 0 := by rw [htl]; exact G1 n.toNat n (by omega) (by omega)
    dsimp only
    refine wpAny_execs_cons ?_
    with_unfolding_all refine law_end n 3 (Or.inl rfl) (by omega) (by omega) m' _ vt' tl' ct' _ _ hvt htl' q1 q2 q3 fa cd dp un gd _ _ h₀ _ _ _ _ B F5 X N5 T hd hu ?_
    exact hret
  · have h10 : (1 : Int) + 1 = 2 := by decide
    k_steps
    unfold Hold
    rename_i xn tn' gn ln
    have n0 : 0 ≤ xn.fmod 3 := Int.fmod_nonneg_of_pos _ (by decide)
    have n1 : xn.fmod 3 < 3 := Int.fmod_lt_of_pos _ (by decide)
    obtain ⟨r, hr⟩ : ∃ r, xn.fmod 3 = r := ⟨_, rfl⟩
    obtain ⟨n, hn⟩ : ∃ n, 1 + r = n := ⟨_, rfl⟩
    k_steps
    unfold Hold
    (rename Fr _ _ _ _ => F9'); (rename News _ _ _ _ => N9')
    with_unfolding_all refine law_for2 n xx _ (by omega) (by omega) gx (by omega) _ _ _ _ _ fa cd dp un gd _ _ h₀ _ _ _ _ B F9' X [] [] 0 .nil rfl N9' T hd hu ?_
    intro vt' tl' ct' m' h5 tk5 hvt htl q1 q2 q3 F5 N5
    have htl' : tl' = josF 5 n.toNat (rangeKs 1 n.toNat) 0 := by rw [htl]; exact G2 n.toNat n (by omega) (by omega)
    dsimp only
    refine wpAny_execs_cons ?_
    with_unfolding_all refine law_end n 5 (Or.inr rfl) (by omega) (by omega) m' _ vt' tl' ct' _ _ hvt htl' q1 q2 q3 fa cd dp un gd _ _ h₀ _ _ _ _ B F5 X N5 T hd hu ?_
    exact hret
end
end Hd
end
end
section
open PySem PySem.W PySem.Calls PyProof.Rows
set_option maxRecDepth 100000
set_option maxHeartbeats 8000000
noncomputable section
namespace Hd
local macro_rules | `(tactic| k_qdec) => `(tactic| decide +kernel)
theorem fin : rw'.Holds := by
  w_top off
  refine head0 (by rfl) (by rfl) (by rfl) ?_
  w_strict k_go0
  with_unfolding_all (change wpAny (model pr _) (callerA.deeper (envOf (PySem.Str.ofString "law") (fScope (st 17)) _ _ _)) (execs (fBody (st 17)) (envOf (PySem.Str.ofString "law") (fScope (st 17)) _ _ _)) _ _ _)
  refine wpAny_noRaise ?_
  with_unfolding_all refine' law_body _ _ _ _ _ ?hi ?hl _ _ _ _ _ _ ?B ?F ?X ?N ?T ?l ?d ?u ?r
  case B => with_unfolding_all assumption
  case F => with_unfolding_all assumption
  case N => with_unfolding_all assumption
  case hi => assumption
  case hl => assumption
  case X => assumption
  case T => assumption
  case l => assumption
  case d => decide
  case u => decide
  case r =>
    intro m' h' tk' Fx
    k_steps
end Hd
end
end
set_option maxRecDepth 100000 in
theorem PySem.Challenge.cw_tr0065_02_holds : PySem.Challenge.rw_tr0065_02.Holds :=
  Hd.fin
