import PyProof.Rows.All
import Wide.All
import OpenK.AllK
import Wide.FinOn
import PySem.Challenge.RW_tr0065_03
set_option Elab.async false
set_option linter.unusedVariables false
local macro_rules | `(tactic| walk_at $s:str) => `(tactic| k_extra $s)
section
open PySem PySem.W PySem.Calls PyProof.Rows
set_option maxRecDepth 100000
noncomputable section
namespace Hd
abbrev pr : Program := PySem.Challenge.pw_tr0065_03
abbrev rw' : OpenLaw := PySem.Challenge.rw_tr0065_03
noncomputable def st (i : Nat) : Stmt := match pr.main.body[i]? with | some s => s | none => .Pass default
noncomputable def cBody : Stmt → List Stmt | .ClassDef _ _ _ b _ _ _ _ _ _ _ => b | _ => []
noncomputable def sub (s : Stmt) (i : Nat) : Stmt := match (cBody s)[i]? with | some s => s | none => .Pass default
noncomputable def fArgs : Stmt → Arguments | .FunctionDef _ a _ _ _ _ _ _ _ _ => a | _ => default
noncomputable def fBody : Stmt → List Stmt | .FunctionDef _ _ b _ _ _ _ _ _ _ => b | _ => []
noncomputable def fScope : Stmt → Scope | .FunctionDef _ _ _ _ _ _ s _ _ _ => s | _ => default
abbrev kh (P : Params) (x : Str) : Int := PyData.keyHash P x
abbrev PD := Int × PySem.Str
abbrev dObj (es : List DictEntry) (n : Nat) : Obj := ⟨.type "dict", none, .dict es.toArray n, #[]⟩
noncomputable def entL (tk : Nat) : List PD → List DictEntry
  | [] => []
  | (k, s) :: r => ⟨hashInt k, .int k tk, .str s (tk + 1)⟩ :: entL (tk + 3) r
noncomputable def entS (tk : Nat) : List PD → List DictEntry
  | [] => []
  | (k, s) :: r => ⟨hashInt k, .int k tk, .str s (tk + 1)⟩ :: entS (tk + 2) r
noncomputable def subsOf (tk : Nat) : List (List PD) → List Obj
  | [] => []
  | c :: r => dObj (entL tk c) 17 :: subsOf (tk + 51) r
noncomputable def dataOf : List (Option PySem.Expr) → List PySem.Expr → List PD
  | some (.Constant (.int k) _ _) :: ks, .Constant (.str s) _ _ :: vs => (k, s) :: dataOf ks vs
  | _, _ => []
noncomputable def b3K : List (Option PySem.Expr) := match st 8 with | .Assign _ (.Dict ks _ _) _ => ks | _ => []
noncomputable def b3V : List PySem.Expr := match st 8 with | .Assign _ (.Dict _ vs _) _ => vs | _ => []
noncomputable def b3D : List PD := dataOf b3K b3V
noncomputable def b3c0 : List PD := b3D.take 17
noncomputable def b3cs : List (List PD) := (List.range 37).map fun j => (b3D.drop (17 * (j + 1))).take 17
noncomputable def b3last : List PD := b3D.drop 646
noncomputable def b3Ents : List DictEntry := entL 312 (b3c0 ++ b3cs.flatten) ++ entS (312 + 51 + 51 * 37) b3last
noncomputable def b3Main : Obj := dObj b3Ents 650
noncomputable def subsAll : List Obj := subsOf (312 + 51) b3cs ++ [dObj (entS (312 + 51 + 51 * 37) b3last) 4]
noncomputable def subAt (j : Nat) : Obj := (subsAll[j]?).getD default
noncomputable def o11 (P : Params) : Obj := ⟨(.type "tuple"), none, (.seq #[] 0), #[]⟩
noncomputable def o12 (P : Params) : Obj := ⟨.none, none, (.fields #[]), #[]⟩
noncomputable def o13 (P : Params) : Obj := ⟨(.type "code"), none, (.fields #[(.str "<module>" 182), (.str "<module>" 183), (.str "/claim/cut.py" 184), (.int 1 0), (.int 0 0), (.int 0 0), (.int 0 0), (.int 0 0), (.ref 11), (.bool false), (.int 181 0), (.ref 12), .none, .none, .none, .none, (.int 185 0), (.int 1 0), (.str "/claim/cut.py" 186)]), #[]⟩
noncomputable def o14 (P : Params) : Obj := ⟨(.type "frame"), none, .plain, #[(some (.ref 13)), (some (.ref 3)), (some (.ref 3)), none, (some (.str "__main__" 164)), none, (some (.ref 0))]⟩
noncomputable def tA (P : Params) : BT := (.node (boot_o_0 P) (.node (boot_o_1 P) (.node (boot_o_3 P) (.node (boot_o_7 P) .nil .nil) (.node (o11 P) .nil .nil)) (.node (boot_o_5 P) (.node (boot_o_9 P) .nil .nil) (.node (o13 P) .nil .nil))) (.node (boot_o_2 P) (.node (boot_o_4 P) (.node (boot_o_8 P) .nil .nil) (.node (o12 P) .nil .nil)) (.node (boot_o_6 P) (.node (boot_o_10 P) .nil .nil) (.node (o14 P) .nil .nil))))
noncomputable def tB (P : Params) : BT := (.node (boot_o_0 P) (.node (boot_o_1 P) (.node (boot_o_3 P) (.node (boot_o_7 P) .nil .nil) (.node (o11 P) .nil .nil)) (.node (boot_o_5 P) (.node (boot_o_9 P) .nil .nil) (.node (o13 P) .nil .nil))) (.node (boot_o_2 P) (.node (boot_o_4 P) (.node (boot_o_8 P) .nil .nil) (.node (o12 P) .nil .nil)) (.node (boot_o_6 P) (.node (boot_o_10 P) .nil .nil) (.node (o14 P) .nil .nil))))
noncomputable def o3v0 (P : Params) : Obj := ⟨(.type "dict"), none, (.dict #[⟨kh P "__name__", (.str "__name__" 165), (.str "__main__" 164)⟩, ⟨kh P "__doc__", (.str "__doc__" 166), .none⟩, ⟨kh P "__package__", (.str "__package__" 167), .none⟩, ⟨kh P "__loader__", (.str "__loader__" 168), (.builtin "__main__.__loader__#opaque")⟩, ⟨kh P "__spec__", (.str "__spec__" 169), .none⟩, ⟨kh P "__annotations__", (.str "__annotations__" 170), (.ref 6)⟩, ⟨kh P "__builtins__", (.str "__builtins__" 171), (.ref 4)⟩, ⟨kh P "__file__", (.str "__file__" 173), (.str "/claim/cut.py" 172)⟩, ⟨kh P "__cached__", (.str "__cached__" 174), .none⟩, ⟨kh P "_wall", (.str "_wall" 193), (.ref 21)⟩] 10), #[]⟩
noncomputable def o12v0 (P : Params) : Obj := ⟨.none, none, (.fields #[(.int 1 0), (.int 0 0), (.ref 20)]), #[]⟩
noncomputable def o15 (P : Params) : Obj := ⟨(.type "tuple"), none, (.seq #[] 0), #[]⟩
noncomputable def o16 (P : Params) : Obj := ⟨.none, none, (.fields #[]), #[]⟩
noncomputable def o17 (P : Params) : Obj := ⟨(.type "tuple"), none, (.seq #[(.str "k" 190)] 0), #[]⟩
noncomputable def o18 (P : Params) : Obj := ⟨(.type "tuple"), none, (.seq #[] 0), #[]⟩
noncomputable def o19 (P : Params) : Obj := ⟨.none, none, (.func ⟨"_wall", "_wall", fArgs (st 0), .stmts (fBody (st 0)), fScope (st 0), 0, [], .none, .none, .none, .none, none, .none, .none, 0⟩), #[]⟩
noncomputable def o20 (P : Params) : Obj := ⟨(.type "code"), none, (.fields #[(.str "_wall" 187), (.str "_wall" 188), (.str "/claim/cut.py" 189), (.int 1 0), (.int 1 0), (.int 0 0), (.int 0 0), (.int 3 0), (.ref 15), (.bool true), (.int 181 0), (.ref 16), .none, (.ref 17), (.ref 18), (.ref 19), (.int 191 0), (.int 1 0), (.str "/claim/cut.py" 192)]), #[]⟩
noncomputable def o21 (P : Params) : Obj := ⟨(.type "function"), none, (.func ⟨"_wall", "_wall", fArgs (st 0), .stmts (fBody (st 0)), fScope (st 0), 3, [], .none, .none, .none, (.str "__main__" 164), none, (.ref 20), .none, 0⟩), #[]⟩
noncomputable def t0 (P : Params) : BT := (.node (boot_o_0 P) (.node (boot_o_1 P) (.node (o3v0 P) (.node (boot_o_7 P) (.node (o15 P) .nil .nil) .nil) (.node (o11 P) (.node (o19 P) .nil .nil) .nil)) (.node (boot_o_5 P) (.node (boot_o_9 P) (.node (o17 P) .nil .nil) .nil) (.node (o13 P) (.node (o21 P) .nil .nil) .nil))) (.node (boot_o_2 P) (.node (boot_o_4 P) (.node (boot_o_8 P) (.node (o16 P) .nil .nil) .nil) (.node (o12v0 P) (.node (o20 P) .nil .nil) .nil)) (.node (boot_o_6 P) (.node (boot_o_10 P) (.node (o18 P) .nil .nil) .nil) (.node (o14 P) .nil .nil))))
noncomputable def o3v1 (P : Params) : Obj := ⟨(.type "dict"), none, (.dict #[⟨kh P "__name__", (.str "__name__" 165), (.str "cpy313.ftplib" 194)⟩, ⟨kh P "__doc__", (.str "__doc__" 166), .none⟩, ⟨kh P "__package__", (.str "__package__" 167), .none⟩, ⟨kh P "__loader__", (.str "__loader__" 168), (.builtin "__main__.__loader__#opaque")⟩, ⟨kh P "__spec__", (.str "__spec__" 169), .none⟩, ⟨kh P "__annotations__", (.str "__annotations__" 170), (.ref 6)⟩, ⟨kh P "__builtins__", (.str "__builtins__" 171), (.ref 4)⟩, ⟨kh P "__file__", (.str "__file__" 173), (.str "/claim/cut.py" 172)⟩, ⟨kh P "__cached__", (.str "__cached__" 174), .none⟩, ⟨kh P "_wall", (.str "_wall" 193), (.ref 21)⟩] 10), #[]⟩
noncomputable def t1 (P : Params) : BT := (.node (boot_o_0 P) (.node (boot_o_1 P) (.node (o3v1 P) (.node (boot_o_7 P) (.node (o15 P) .nil .nil) .nil) (.node (o11 P) (.node (o19 P) .nil .nil) .nil)) (.node (boot_o_5 P) (.node (boot_o_9 P) (.node (o17 P) .nil .nil) .nil) (.node (o13 P) (.node (o21 P) .nil .nil) .nil))) (.node (boot_o_2 P) (.node (boot_o_4 P) (.node (boot_o_8 P) (.node (o16 P) .nil .nil) .nil) (.node (o12v0 P) (.node (o20 P) .nil .nil) .nil)) (.node (boot_o_6 P) (.node (boot_o_10 P) (.node (o18 P) .nil .nil) .nil) (.node (o14 P) .nil .nil))))
noncomputable def o2v2 (P : Params) : Obj := ⟨.none, none, (.dict #[⟨kh P "type.__subclasses__.Exception.0", (.str "type.__subclasses__.Exception.0" 212), (.int 31 0)⟩, ⟨kh P "type.__subclasses__.Exception.n", (.str "type.__subclasses__.Exception.n" 213), (.int 1 0)⟩] 2), #[]⟩
noncomputable def o3v2 (P : Params) : Obj := ⟨(.type "dict"), none, (.dict #[⟨kh P "__name__", (.str "__name__" 165), (.str "cpy313.ftplib" 194)⟩, ⟨kh P "__doc__", (.str "__doc__" 166), .none⟩, ⟨kh P "__package__", (.str "__package__" 167), .none⟩, ⟨kh P "__loader__", (.str "__loader__" 168), (.builtin "__main__.__loader__#opaque")⟩, ⟨kh P "__spec__", (.str "__spec__" 169), .none⟩, ⟨kh P "__annotations__", (.str "__annotations__" 170), (.ref 6)⟩, ⟨kh P "__builtins__", (.str "__builtins__" 171), (.ref 4)⟩, ⟨kh P "__file__", (.str "__file__" 173), (.str "/claim/cut.py" 172)⟩, ⟨kh P "__cached__", (.str "__cached__" 174), .none⟩, ⟨kh P "_wall", (.str "_wall" 193), (.ref 21)⟩, ⟨kh P "Error", (.str "Error" 215), (.ref 31)⟩] 11), #[]⟩
noncomputable def o12v2 (P : Params) : Obj := ⟨.none, none, (.fields #[(.int 1 0), (.int 0 0), (.ref 20), (.int 5 0), (.int 0 0), (.ref 27)]), #[]⟩
noncomputable def o22 (P : Params) : Obj := ⟨(.type "tuple"), none, (.seq #[(.type "Exception")] 0), #[]⟩
noncomputable def o23 (P : Params) : Obj := ⟨(.type "builtin_function_or_method"), none, (.fields #[(.builtin "type.__prepare__"), (.type "type")]), #[]⟩
noncomputable def o24 (P : Params) : Obj := ⟨(.type "dict"), none, (.dict #[⟨kh P "__module__", (.str "__module__" 203), (.str "cpy313.ftplib" 194)⟩, ⟨kh P "__qualname__", (.str "__qualname__" 205), (.str "Error" 204)⟩, ⟨kh P "__firstlineno__", (.str "__firstlineno__" 207), (.int 5 206)⟩, ⟨kh P "__static_attributes__", (.str "__static_attributes__" 208), (.ref 29)⟩] 4), #[]⟩
noncomputable def o25 (P : Params) : Obj := ⟨(.type "tuple"), none, (.seq #[] 0), #[]⟩
noncomputable def o26 (P : Params) : Obj := ⟨.none, none, (.fields #[]), #[]⟩
noncomputable def o27 (P : Params) : Obj := ⟨(.type "code"), none, (.fields #[(.str "Error" 198), (.str "Error" 199), (.str "/claim/cut.py" 200), (.int 5 0), (.int 0 0), (.int 0 0), (.int 0 0), (.int 0 0), (.ref 25), (.bool false), (.int 181 0), (.ref 26), .none, .none, .none, .none, (.int 201 0), (.int 5 0), (.str "/claim/cut.py" 202)]), #[]⟩
noncomputable def o28 (P : Params) : Obj := ⟨(.type "frame"), none, .plain, #[(some (.ref 27)), (some (.ref 3)), (some (.ref 24)), none, (some (.str "cpy313.ftplib" 194)), none, (some (.ref 0))]⟩
noncomputable def o29 (P : Params) : Obj := ⟨(.type "tuple"), none, (.seq #[] 0), #[]⟩
noncomputable def o30 (P : Params) : Obj := ⟨(.type "dict"), none, (.dict #[⟨kh P "__module__", (.str "__module__" 203), (.str "cpy313.ftplib" 194)⟩, ⟨kh P "__firstlineno__", (.str "__firstlineno__" 207), (.int 5 206)⟩, ⟨kh P "__static_attributes__", (.str "__static_attributes__" 208), (.ref 29)⟩, ⟨kh P "__weakref__", (.str "__weakref__" 210), (.ref 32)⟩, ⟨kh P "__doc__", (.str "__doc__" 211), .none⟩] 3), #[]⟩
noncomputable def o31 (P : Params) : Obj := ⟨(.type "type"), none, (.cls ⟨"Error", [(.type "Exception")], [(.ref 31), (.type "Exception"), (.type "BaseException"), (.type "object")], 30, "Error", true, [], [], false, none, false⟩), #[(some (.ref 22)), none, (some (.str "Error" 196)), (some (.str "Error" 204)), (some (.builtin "Exception.__new__")), (some (.bool true))]⟩
noncomputable def o32 (P : Params) : Obj := ⟨(.type "getset_descriptor"), none, (.fields #[(.str "__weakref__" 209), (.ref 31), (.builtin "ExceptionGroup.__weakref__"), .none]), #[]⟩
noncomputable def o33 (P : Params) : Obj := ⟨(.type "super"), none, (.fields #[(.ref 31), (.ref 31), (.ref 31)]), #[]⟩
noncomputable def o34 (P : Params) : Obj := ⟨(.type "builtin_function_or_method"), none, (.fields #[(.builtin "object.__init_subclass__"), (.ref 31)]), #[]⟩
noncomputable def t2 (P : Params) : BT := (.node (boot_o_0 P) (.node (boot_o_1 P) (.node (o3v2 P) (.node (boot_o_7 P) (.node (o15 P) (.node (o31 P) .nil .nil) .nil) (.node (o23 P) .nil .nil)) (.node (o11 P) (.node (o19 P) .nil .nil) (.node (o27 P) .nil .nil))) (.node (boot_o_5 P) (.node (boot_o_9 P) (.node (o17 P) (.node (o33 P) .nil .nil) .nil) (.node (o25 P) .nil .nil)) (.node (o13 P) (.node (o21 P) .nil .nil) (.node (o29 P) .nil .nil)))) (.node (o2v2 P) (.node (boot_o_4 P) (.node (boot_o_8 P) (.node (o16 P) (.node (o32 P) .nil .nil) .nil) (.node (o24 P) .nil .nil)) (.node (o12v2 P) (.node (o20 P) .nil .nil) (.node (o28 P) .nil .nil))) (.node (boot_o_6 P) (.node (boot_o_10 P) (.node (o18 P) (.node (o34 P) .nil .nil) .nil) (.node (o26 P) .nil .nil)) (.node (o14 P) (.node (o22 P) .nil .nil) (.node (o30 P) .nil .nil)))))
noncomputable def o3v3 (P : Params) : Obj := ⟨(.type "dict"), none, (.dict #[⟨kh P "__name__", (.str "__name__" 165), (.str "cpy313.ftplib" 194)⟩, ⟨kh P "__doc__", (.str "__doc__" 166), .none⟩, ⟨kh P "__package__", (.str "__package__" 167), .none⟩, ⟨kh P "__loader__", (.str "__loader__" 168), (.builtin "__main__.__loader__#opaque")⟩, ⟨kh P "__spec__", (.str "__spec__" 169), .none⟩, ⟨kh P "__annotations__", (.str "__annotations__" 170), (.ref 6)⟩, ⟨kh P "__builtins__", (.str "__builtins__" 171), (.ref 4)⟩, ⟨kh P "__file__", (.str "__file__" 173), (.str "/claim/cut.py" 172)⟩, ⟨kh P "__cached__", (.str "__cached__" 174), .none⟩, ⟨kh P "_wall", (.str "_wall" 193), (.ref 21)⟩, ⟨kh P "Error", (.str "Error" 215), (.ref 31)⟩, ⟨kh P "error_reply", (.str "error_reply" 231), (.ref 44)⟩] 12), #[]⟩
noncomputable def o12v3 (P : Params) : Obj := ⟨.none, none, (.fields #[(.int 1 0), (.int 0 0), (.ref 20), (.int 5 0), (.int 0 0), (.ref 27), (.int 7 0), (.int 0 0), (.ref 40)]), #[]⟩
noncomputable def o31v3 (P : Params) : Obj := ⟨(.type "type"), none, (.cls ⟨"Error", [(.type "Exception")], [(.ref 31), (.type "Exception"), (.type "BaseException"), (.type "object")], 30, "Error", true, [], [(.ref 44)], false, none, false⟩), #[(some (.ref 22)), none, (some (.str "Error" 196)), (some (.str "Error" 204)), (some (.builtin "Exception.__new__")), (some (.bool true))]⟩
noncomputable def o35 (P : Params) : Obj := ⟨(.type "tuple"), none, (.seq #[(.ref 31)] 0), #[]⟩
noncomputable def o36 (P : Params) : Obj := ⟨(.type "builtin_function_or_method"), none, (.fields #[(.builtin "type.__prepare__"), (.type "type")]), #[]⟩
noncomputable def o37 (P : Params) : Obj := ⟨(.type "dict"), none, (.dict #[⟨kh P "__module__", (.str "__module__" 223), (.str "cpy313.ftplib" 194)⟩, ⟨kh P "__qualname__", (.str "__qualname__" 225), (.str "error_reply" 224)⟩, ⟨kh P "__firstlineno__", (.str "__firstlineno__" 227), (.int 7 226)⟩, ⟨kh P "__static_attributes__", (.str "__static_attributes__" 228), (.ref 42)⟩] 4), #[]⟩
noncomputable def o38 (P : Params) : Obj := ⟨(.type "tuple"), none, (.seq #[] 0), #[]⟩
noncomputable def o39 (P : Params) : Obj := ⟨.none, none, (.fields #[]), #[]⟩
noncomputable def o40 (P : Params) : Obj := ⟨(.type "code"), none, (.fields #[(.str "error_reply" 218), (.str "error_reply" 219), (.str "/claim/cut.py" 220), (.int 7 0), (.int 0 0), (.int 0 0), (.int 0 0), (.int 0 0), (.ref 38), (.bool false), (.int 181 0), (.ref 39), .none, .none, .none, .none, (.int 221 0), (.int 7 0), (.str "/claim/cut.py" 222)]), #[]⟩
noncomputable def o41 (P : Params) : Obj := ⟨(.type "frame"), none, .plain, #[(some (.ref 40)), (some (.ref 3)), (some (.ref 37)), none, (some (.str "cpy313.ftplib" 194)), none, (some (.ref 0))]⟩
noncomputable def o42 (P : Params) : Obj := ⟨(.type "tuple"), none, (.seq #[] 0), #[]⟩
noncomputable def o43 (P : Params) : Obj := ⟨(.type "dict"), none, (.dict #[⟨kh P "__module__", (.str "__module__" 223), (.str "cpy313.ftplib" 194)⟩, ⟨kh P "__firstlineno__", (.str "__firstlineno__" 227), (.int 7 226)⟩, ⟨kh P "__static_attributes__", (.str "__static_attributes__" 228), (.ref 42)⟩, ⟨kh P "__doc__", (.str "__doc__" 229), .none⟩] 2), #[]⟩
noncomputable def o44 (P : Params) : Obj := ⟨(.type "type"), none, (.cls ⟨"error_reply", [(.ref 31)], [(.ref 44), (.ref 31), (.type "Exception"), (.type "BaseException"), (.type "object")], 43, "error_reply", true, [], [], false, none, false⟩), #[(some (.ref 35)), none, (some (.str "error_reply" 216)), (some (.str "error_reply" 224)), (some (.builtin "Exception.__new__")), (some (.bool true))]⟩
noncomputable def o45 (P : Params) : Obj := ⟨(.type "super"), none, (.fields #[(.ref 44), (.ref 44), (.ref 44)]), #[]⟩
noncomputable def o46 (P : Params) : Obj := ⟨(.type "builtin_function_or_method"), none, (.fields #[(.builtin "object.__init_subclass__"), (.ref 44)]), #[]⟩
noncomputable def t3 (P : Params) : BT := (.node (boot_o_0 P) (.node (boot_o_1 P) (.node (o3v3 P) (.node (boot_o_7 P) (.node (o15 P) (.node (o31v3 P) .nil .nil) .nil) (.node (o23 P) (.node (o39 P) .nil .nil) .nil)) (.node (o11 P) (.node (o19 P) (.node (o35 P) .nil .nil) .nil) (.node (o27 P) (.node (o43 P) .nil .nil) .nil))) (.node (boot_o_5 P) (.node (boot_o_9 P) (.node (o17 P) (.node (o33 P) .nil .nil) .nil) (.node (o25 P) (.node (o41 P) .nil .nil) .nil)) (.node (o13 P) (.node (o21 P) (.node (o37 P) .nil .nil) .nil) (.node (o29 P) (.node (o45 P) .nil .nil) .nil)))) (.node (o2v2 P) (.node (boot_o_4 P) (.node (boot_o_8 P) (.node (o16 P) (.node (o32 P) .nil .nil) .nil) (.node (o24 P) (.node (o40 P) .nil .nil) .nil)) (.node (o12v3 P) (.node (o20 P) (.node (o36 P) .nil .nil) .nil) (.node (o28 P) (.node (o44 P) .nil .nil) .nil))) (.node (boot_o_6 P) (.node (boot_o_10 P) (.node (o18 P) (.node (o34 P) .nil .nil) .nil) (.node (o26 P) (.node (o42 P) .nil .nil) .nil)) (.node (o14 P) (.node (o22 P) (.node (o38 P) .nil .nil) .nil) (.node (o30 P) (.node (o46 P) .nil .nil) .nil)))))
noncomputable def o3v4 (P : Params) : Obj := ⟨(.type "dict"), none, (.dict #[⟨kh P "__name__", (.str "__name__" 165), (.str "cpy313.ftplib" 194)⟩, ⟨kh P "__doc__", (.str "__doc__" 166), .none⟩, ⟨kh P "__package__", (.str "__package__" 167), .none⟩, ⟨kh P "__loader__", (.str "__loader__" 168), (.builtin "__main__.__loader__#opaque")⟩, ⟨kh P "__spec__", (.str "__spec__" 169), .none⟩, ⟨kh P "__annotations__", (.str "__annotations__" 170), (.ref 6)⟩, ⟨kh P "__builtins__", (.str "__builtins__" 171), (.ref 4)⟩, ⟨kh P "__file__", (.str "__file__" 173), (.str "/claim/cut.py" 172)⟩, ⟨kh P "__cached__", (.str "__cached__" 174), .none⟩, ⟨kh P "_wall", (.str "_wall" 193), (.ref 21)⟩, ⟨kh P "Error", (.str "Error" 215), (.ref 31)⟩, ⟨kh P "error_reply", (.str "error_reply" 231), (.ref 44)⟩, ⟨kh P "parse257", (.str "parse257" 242), (.ref 53)⟩] 13), #[]⟩
noncomputable def o12v4 (P : Params) : Obj := ⟨.none, none, (.fields #[(.int 1 0), (.int 0 0), (.ref 20), (.int 5 0), (.int 0 0), (.ref 27), (.int 7 0), (.int 0 0), (.ref 40), (.int 9 0), (.int 0 0), (.ref 52)]), #[]⟩
noncomputable def o47 (P : Params) : Obj := ⟨(.type "tuple"), none, (.seq #[] 0), #[]⟩
noncomputable def o48 (P : Params) : Obj := ⟨.none, none, (.fields #[]), #[]⟩
noncomputable def o49 (P : Params) : Obj := ⟨(.type "tuple"), none, (.seq #[(.str "resp" 235), (.str "dirname" 236), (.str "i" 237), (.str "n" 238), (.str "c" 239)] 0), #[]⟩
noncomputable def o50 (P : Params) : Obj := ⟨(.type "tuple"), none, (.seq #[] 0), #[]⟩
noncomputable def o51 (P : Params) : Obj := ⟨.none, none, (.func ⟨"parse257", "parse257", fArgs (st 4), .stmts (fBody (st 4)), fScope (st 4), 0, [], .none, .none, .none, .none, none, .none, .none, 0⟩), #[]⟩
noncomputable def o52 (P : Params) : Obj := ⟨(.type "code"), none, (.fields #[(.str "parse257" 232), (.str "parse257" 233), (.str "/claim/cut.py" 234), (.int 9 0), (.int 1 0), (.int 0 0), (.int 0 0), (.int 3 0), (.ref 47), (.bool true), (.int 181 0), (.ref 48), .none, (.ref 49), (.ref 50), (.ref 51), (.int 240 0), (.int 9 0), (.str "/claim/cut.py" 241)]), #[]⟩
noncomputable def o53 (P : Params) : Obj := ⟨(.type "function"), none, (.func ⟨"parse257", "parse257", fArgs (st 4), .stmts (fBody (st 4)), fScope (st 4), 3, [], .none, .none, .none, (.str "cpy313.ftplib" 194), none, (.ref 52), .none, 0⟩), #[]⟩
noncomputable def t4 (P : Params) : BT := (.node (boot_o_0 P) (.node (boot_o_1 P) (.node (o3v4 P) (.node (boot_o_7 P) (.node (o15 P) (.node (o31v3 P) .nil .nil) (.node (o47 P) .nil .nil)) (.node (o23 P) (.node (o39 P) .nil .nil) .nil)) (.node (o11 P) (.node (o19 P) (.node (o35 P) .nil .nil) (.node (o51 P) .nil .nil)) (.node (o27 P) (.node (o43 P) .nil .nil) .nil))) (.node (boot_o_5 P) (.node (boot_o_9 P) (.node (o17 P) (.node (o33 P) .nil .nil) (.node (o49 P) .nil .nil)) (.node (o25 P) (.node (o41 P) .nil .nil) .nil)) (.node (o13 P) (.node (o21 P) (.node (o37 P) .nil .nil) (.node (o53 P) .nil .nil)) (.node (o29 P) (.node (o45 P) .nil .nil) .nil)))) (.node (o2v2 P) (.node (boot_o_4 P) (.node (boot_o_8 P) (.node (o16 P) (.node (o32 P) .nil .nil) (.node (o48 P) .nil .nil)) (.node (o24 P) (.node (o40 P) .nil .nil) .nil)) (.node (o12v4 P) (.node (o20 P) (.node (o36 P) .nil .nil) (.node (o52 P) .nil .nil)) (.node (o28 P) (.node (o44 P) .nil .nil) .nil))) (.node (boot_o_6 P) (.node (boot_o_10 P) (.node (o18 P) (.node (o34 P) .nil .nil) (.node (o50 P) .nil .nil)) (.node (o26 P) (.node (o42 P) .nil .nil) .nil)) (.node (o14 P) (.node (o22 P) (.node (o38 P) .nil .nil) .nil) (.node (o30 P) (.node (o46 P) .nil .nil) .nil)))))
noncomputable def o3v5 (P : Params) : Obj := ⟨(.type "dict"), none, (.dict #[⟨kh P "__name__", (.str "__name__" 165), (.str "cpy313.stringprep" 243)⟩, ⟨kh P "__doc__", (.str "__doc__" 166), .none⟩, ⟨kh P "__package__", (.str "__package__" 167), .none⟩, ⟨kh P "__loader__", (.str "__loader__" 168), (.builtin "__main__.__loader__#opaque")⟩, ⟨kh P "__spec__", (.str "__spec__" 169), .none⟩, ⟨kh P "__annotations__", (.str "__annotations__" 170), (.ref 6)⟩, ⟨kh P "__builtins__", (.str "__builtins__" 171), (.ref 4)⟩, ⟨kh P "__file__", (.str "__file__" 173), (.str "/claim/cut.py" 172)⟩, ⟨kh P "__cached__", (.str "__cached__" 174), .none⟩, ⟨kh P "_wall", (.str "_wall" 193), (.ref 21)⟩, ⟨kh P "Error", (.str "Error" 215), (.ref 31)⟩, ⟨kh P "error_reply", (.str "error_reply" 231), (.ref 44)⟩, ⟨kh P "parse257", (.str "parse257" 242), (.ref 53)⟩] 13), #[]⟩
noncomputable def t5 (P : Params) : BT := (.node (boot_o_0 P) (.node (boot_o_1 P) (.node (o3v5 P) (.node (boot_o_7 P) (.node (o15 P) (.node (o31v3 P) .nil .nil) (.node (o47 P) .nil .nil)) (.node (o23 P) (.node (o39 P) .nil .nil) .nil)) (.node (o11 P) (.node (o19 P) (.node (o35 P) .nil .nil) (.node (o51 P) .nil .nil)) (.node (o27 P) (.node (o43 P) .nil .nil) .nil))) (.node (boot_o_5 P) (.node (boot_o_9 P) (.node (o17 P) (.node (o33 P) .nil .nil) (.node (o49 P) .nil .nil)) (.node (o25 P) (.node (o41 P) .nil .nil) .nil)) (.node (o13 P) (.node (o21 P) (.node (o37 P) .nil .nil) (.node (o53 P) .nil .nil)) (.node (o29 P) (.node (o45 P) .nil .nil) .nil)))) (.node (o2v2 P) (.node (boot_o_4 P) (.node (boot_o_8 P) (.node (o16 P) (.node (o32 P) .nil .nil) (.node (o48 P) .nil .nil)) (.node (o24 P) (.node (o40 P) .nil .nil) .nil)) (.node (o12v4 P) (.node (o20 P) (.node (o36 P) .nil .nil) (.node (o52 P) .nil .nil)) (.node (o28 P) (.node (o44 P) .nil .nil) .nil))) (.node (boot_o_6 P) (.node (boot_o_10 P) (.node (o18 P) (.node (o34 P) .nil .nil) (.node (o50 P) .nil .nil)) (.node (o26 P) (.node (o42 P) .nil .nil) .nil)) (.node (o14 P) (.node (o22 P) (.node (o38 P) .nil .nil) .nil) (.node (o30 P) (.node (o46 P) .nil .nil) .nil)))))
noncomputable def o3v6 (P : Params) : Obj := ⟨(.type "dict"), none, (.dict #[⟨kh P "__name__", (.str "__name__" 165), (.str "cpy313.stringprep" 243)⟩, ⟨kh P "__doc__", (.str "__doc__" 166), .none⟩, ⟨kh P "__package__", (.str "__package__" 167), .none⟩, ⟨kh P "__loader__", (.str "__loader__" 168), (.builtin "__main__.__loader__#opaque")⟩, ⟨kh P "__spec__", (.str "__spec__" 169), .none⟩, ⟨kh P "__annotations__", (.str "__annotations__" 170), (.ref 6)⟩, ⟨kh P "__builtins__", (.str "__builtins__" 171), (.ref 4)⟩, ⟨kh P "__file__", (.str "__file__" 173), (.str "/claim/cut.py" 172)⟩, ⟨kh P "__cached__", (.str "__cached__" 174), .none⟩, ⟨kh P "_wall", (.str "_wall" 193), (.ref 21)⟩, ⟨kh P "Error", (.str "Error" 215), (.ref 31)⟩, ⟨kh P "error_reply", (.str "error_reply" 231), (.ref 44)⟩, ⟨kh P "parse257", (.str "parse257" 242), (.ref 53)⟩, ⟨kh P "b1_set", (.str "b1_set" 304), (.ref 61)⟩] 14), #[]⟩
noncomputable def o54 (P : Params) : Obj := ⟨(.type "list"), none, (.seq #[(.int 173 245), (.int 847 246), (.int 6150 247), (.int 6155 248), (.int 6156 249), (.int 6157 250), (.int 8203 251), (.int 8204 252), (.int 8205 253), (.int 8288 254), (.int 65279 255)] 0), #[]⟩
noncomputable def o55 (P : Params) : Obj := ⟨(.type "range"), none, (.fields #[(.int 65024 256), (.int 65040 257), (.int 1 258)]), #[]⟩
noncomputable def o56 (P : Params) : Obj := ⟨(.type "list"), none, (.seq #[(.int 65024 261), (.int 65025 262), (.int 65026 263), (.int 65027 264), (.int 65028 265), (.int 65029 266), (.int 65030 267), (.int 65031 268), (.int 65032 269), (.int 65033 270), (.int 65034 271), (.int 65035 272), (.int 65036 273), (.int 65037 274), (.int 65038 275), (.int 65039 276)] 18), #[]⟩
noncomputable def o57 (P : Params) : Obj := ⟨(.type "range_iterator"), none, (.fields #[(.int 65040 0), (.int 0 0), (.int 1 0)]), #[]⟩
noncomputable def o58 (P : Params) : Obj := ⟨(.type "tuple"), none, (.seq #[] 0), #[]⟩
noncomputable def o59 (P : Params) : Obj := ⟨(.type "StopIteration"), none, (.fields #[(.ref 58), .none, .none, .none, (.bool false), .none]), #[]⟩
noncomputable def o60 (P : Params) : Obj := ⟨(.type "list"), none, (.seq #[(.int 173 245), (.int 847 246), (.int 6150 247), (.int 6155 248), (.int 6156 249), (.int 6157 250), (.int 8203 251), (.int 8204 252), (.int 8205 253), (.int 8288 254), (.int 65279 255), (.int 65024 261), (.int 65025 262), (.int 65026 263), (.int 65027 264), (.int 65028 265), (.int 65029 266), (.int 65030 267), (.int 65031 268), (.int 65032 269), (.int 65033 270), (.int 65034 271), (.int 65035 272), (.int 65036 273), (.int 65037 274), (.int 65038 275), (.int 65039 276)] 0), #[]⟩
noncomputable def o61 (P : Params) : Obj := ⟨(.type "set"), none, (.set #[(65024, (.int 65024 261)), (65025, (.int 65025 262)), (65026, (.int 65026 263)), (65027, (.int 65027 264)), (65028, (.int 65028 265)), (65029, (.int 65029 266)), (6150, (.int 6150 247)), (65030, (.int 65030 267)), (65031, (.int 65031 268)), (65032, (.int 65032 269)), (65033, (.int 65033 270)), (6155, (.int 6155 248)), (6156, (.int 6156 249)), (6157, (.int 6157 250)), (8203, (.int 8203 251)), (8204, (.int 8204 252)), (8205, (.int 8205 253)), (65034, (.int 65034 271)), (65035, (.int 65035 272)), (65036, (.int 65036 273)), (65037, (.int 65037 274)), (65038, (.int 65038 275)), (65039, (.int 65039 276)), (173, (.int 173 245)), (847, (.int 847 246)), (8288, (.int 8288 254)), (65279, (.int 65279 255))] 29 { mask := 127, place := #[0, 1, 2, 3, 4, 5, 6, 7, 8, 9, 10, 11, 12, 13, 14, 15, 16, 17, 18, 19, 20, 21, 22, 45, 79, 96, 127], dummies := #[], finger := 0, led := !P.followText "set-order", moves := 2, plain := true }), #[]⟩
noncomputable def o62 (P : Params) : Obj := ⟨(.type "list_iterator"), none, (.fields #[.none, (.int 27 0)]), #[]⟩
noncomputable def o63 (P : Params) : Obj := ⟨(.type "tuple"), none, (.seq #[] 0), #[]⟩
noncomputable def o64 (P : Params) : Obj := ⟨(.type "StopIteration"), none, (.fields #[(.ref 63), .none, .none, .none, (.bool false), .none]), #[]⟩
noncomputable def t6 (P : Params) : BT := (.node (boot_o_0 P) (.node (boot_o_1 P) (.node (o3v6 P) (.node (boot_o_7 P) (.node (o15 P) (.node (o31v3 P) (.node (o63 P) .nil .nil) .nil) (.node (o47 P) .nil .nil)) (.node (o23 P) (.node (o39 P) .nil .nil) (.node (o55 P) .nil .nil))) (.node (o11 P) (.node (o19 P) (.node (o35 P) .nil .nil) (.node (o51 P) .nil .nil)) (.node (o27 P) (.node (o43 P) .nil .nil) (.node (o59 P) .nil .nil)))) (.node (boot_o_5 P) (.node (boot_o_9 P) (.node (o17 P) (.node (o33 P) .nil .nil) (.node (o49 P) .nil .nil)) (.node (o25 P) (.node (o41 P) .nil .nil) (.node (o57 P) .nil .nil))) (.node (o13 P) (.node (o21 P) (.node (o37 P) .nil .nil) (.node (o53 P) .nil .nil)) (.node (o29 P) (.node (o45 P) .nil .nil) (.node (o61 P) .nil .nil))))) (.node (o2v2 P) (.node (boot_o_4 P) (.node (boot_o_8 P) (.node (o16 P) (.node (o32 P) (.node (o64 P) .nil .nil) .nil) (.node (o48 P) .nil .nil)) (.node (o24 P) (.node (o40 P) .nil .nil) (.node (o56 P) .nil .nil))) (.node (o12v4 P) (.node (o20 P) (.node (o36 P) .nil .nil) (.node (o52 P) .nil .nil)) (.node (o28 P) (.node (o44 P) .nil .nil) (.node (o60 P) .nil .nil)))) (.node (boot_o_6 P) (.node (boot_o_10 P) (.node (o18 P) (.node (o34 P) .nil .nil) (.node (o50 P) .nil .nil)) (.node (o26 P) (.node (o42 P) .nil .nil) (.node (o58 P) .nil .nil))) (.node (o14 P) (.node (o22 P) (.node (o38 P) .nil .nil) (.node (o54 P) .nil .nil)) (.node (o30 P) (.node (o46 P) .nil .nil) (.node (o62 P) .nil .nil))))))
noncomputable def o3v7 (P : Params) : Obj := ⟨(.type "dict"), none, (.dict #[⟨kh P "__name__", (.str "__name__" 165), (.str "cpy313.stringprep" 243)⟩, ⟨kh P "__doc__", (.str "__doc__" 166), .none⟩, ⟨kh P "__package__", (.str "__package__" 167), .none⟩, ⟨kh P "__loader__", (.str "__loader__" 168), (.builtin "__main__.__loader__#opaque")⟩, ⟨kh P "__spec__", (.str "__spec__" 169), .none⟩, ⟨kh P "__annotations__", (.str "__annotations__" 170), (.ref 6)⟩, ⟨kh P "__builtins__", (.str "__builtins__" 171), (.ref 4)⟩, ⟨kh P "__file__", (.str "__file__" 173), (.str "/claim/cut.py" 172)⟩, ⟨kh P "__cached__", (.str "__cached__" 174), .none⟩, ⟨kh P "_wall", (.str "_wall" 193), (.ref 21)⟩, ⟨kh P "Error", (.str "Error" 215), (.ref 31)⟩, ⟨kh P "error_reply", (.str "error_reply" 231), (.ref 44)⟩, ⟨kh P "parse257", (.str "parse257" 242), (.ref 53)⟩, ⟨kh P "b1_set", (.str "b1_set" 304), (.ref 61)⟩, ⟨kh P "in_table_b1", (.str "in_table_b1" 311), (.ref 71)⟩] 15), #[]⟩
noncomputable def o12v7 (P : Params) : Obj := ⟨.none, none, (.fields #[(.int 1 0), (.int 0 0), (.ref 20), (.int 5 0), (.int 0 0), (.ref 27), (.int 7 0), (.int 0 0), (.ref 40), (.int 9 0), (.int 0 0), (.ref 52), (.int 28 0), (.int 0 0), (.ref 70)]), #[]⟩
noncomputable def o65 (P : Params) : Obj := ⟨(.type "tuple"), none, (.seq #[] 0), #[]⟩
noncomputable def o66 (P : Params) : Obj := ⟨.none, none, (.fields #[]), #[]⟩
noncomputable def o67 (P : Params) : Obj := ⟨(.type "tuple"), none, (.seq #[(.str "code" 308)] 0), #[]⟩
noncomputable def o68 (P : Params) : Obj := ⟨(.type "tuple"), none, (.seq #[] 0), #[]⟩
noncomputable def o69 (P : Params) : Obj := ⟨.none, none, (.func ⟨"in_table_b1", "in_table_b1", fArgs (st 7), .stmts (fBody (st 7)), fScope (st 7), 0, [], .none, .none, .none, .none, none, .none, .none, 0⟩), #[]⟩
noncomputable def o70 (P : Params) : Obj := ⟨(.type "code"), none, (.fields #[(.str "in_table_b1" 305), (.str "in_table_b1" 306), (.str "/claim/cut.py" 307), (.int 28 0), (.int 1 0), (.int 0 0), (.int 0 0), (.int 3 0), (.ref 65), (.bool true), (.int 181 0), (.ref 66), .none, (.ref 67), (.ref 68), (.ref 69), (.int 309 0), (.int 28 0), (.str "/claim/cut.py" 310)]), #[]⟩
noncomputable def o71 (P : Params) : Obj := ⟨(.type "function"), none, (.func ⟨"in_table_b1", "in_table_b1", fArgs (st 7), .stmts (fBody (st 7)), fScope (st 7), 3, [], .none, .none, .none, (.str "cpy313.stringprep" 243), none, (.ref 70), .none, 0⟩), #[]⟩
noncomputable def t7 (P : Params) : BT := (.node (boot_o_0 P) (.node (boot_o_1 P) (.node (o3v7 P) (.node (boot_o_7 P) (.node (o15 P) (.node (o31v3 P) (.node (o63 P) .nil .nil) .nil) (.node (o47 P) .nil .nil)) (.node (o23 P) (.node (o39 P) (.node (o71 P) .nil .nil) .nil) (.node (o55 P) .nil .nil))) (.node (o11 P) (.node (o19 P) (.node (o35 P) (.node (o67 P) .nil .nil) .nil) (.node (o51 P) .nil .nil)) (.node (o27 P) (.node (o43 P) .nil .nil) (.node (o59 P) .nil .nil)))) (.node (boot_o_5 P) (.node (boot_o_9 P) (.node (o17 P) (.node (o33 P) (.node (o65 P) .nil .nil) .nil) (.node (o49 P) .nil .nil)) (.node (o25 P) (.node (o41 P) .nil .nil) (.node (o57 P) .nil .nil))) (.node (o13 P) (.node (o21 P) (.node (o37 P) (.node (o69 P) .nil .nil) .nil) (.node (o53 P) .nil .nil)) (.node (o29 P) (.node (o45 P) .nil .nil) (.node (o61 P) .nil .nil))))) (.node (o2v2 P) (.node (boot_o_4 P) (.node (boot_o_8 P) (.node (o16 P) (.node (o32 P) (.node (o64 P) .nil .nil) .nil) (.node (o48 P) .nil .nil)) (.node (o24 P) (.node (o40 P) .nil .nil) (.node (o56 P) .nil .nil))) (.node (o12v7 P) (.node (o20 P) (.node (o36 P) (.node (o68 P) .nil .nil) .nil) (.node (o52 P) .nil .nil)) (.node (o28 P) (.node (o44 P) .nil .nil) (.node (o60 P) .nil .nil)))) (.node (boot_o_6 P) (.node (boot_o_10 P) (.node (o18 P) (.node (o34 P) (.node (o66 P) .nil .nil) .nil) (.node (o50 P) .nil .nil)) (.node (o26 P) (.node (o42 P) .nil .nil) (.node (o58 P) .nil .nil))) (.node (o14 P) (.node (o22 P) (.node (o38 P) (.node (o70 P) .nil .nil) .nil) (.node (o54 P) .nil .nil)) (.node (o30 P) (.node (o46 P) .nil .nil) (.node (o62 P) .nil .nil))))))
noncomputable def o3v8 (P : Params) : Obj := ⟨(.type "dict"), none, (.dict #[⟨kh P "__name__", (.str "__name__" 165), (.str "cpy313.stringprep" 243)⟩, ⟨kh P "__doc__", (.str "__doc__" 166), .none⟩, ⟨kh P "__package__", (.str "__package__" 167), .none⟩, ⟨kh P "__loader__", (.str "__loader__" 168), (.builtin "__main__.__loader__#opaque")⟩, ⟨kh P "__spec__", (.str "__spec__" 169), .none⟩, ⟨kh P "__annotations__", (.str "__annotations__" 170), (.ref 6)⟩, ⟨kh P "__builtins__", (.str "__builtins__" 171), (.ref 4)⟩, ⟨kh P "__file__", (.str "__file__" 173), (.str "/claim/cut.py" 172)⟩, ⟨kh P "__cached__", (.str "__cached__" 174), .none⟩, ⟨kh P "_wall", (.str "_wall" 193), (.ref 21)⟩, ⟨kh P "Error", (.str "Error" 215), (.ref 31)⟩, ⟨kh P "error_reply", (.str "error_reply" 231), (.ref 44)⟩, ⟨kh P "parse257", (.str "parse257" 242), (.ref 53)⟩, ⟨kh P "b1_set", (.str "b1_set" 304), (.ref 61)⟩, ⟨kh P "in_table_b1", (.str "in_table_b1" 311), (.ref 71)⟩, ⟨kh P "b3_exceptions", (.str "b3_exceptions" 2262), (.ref 72)⟩] 16), #[]⟩
noncomputable def o72 (P : Params) : Obj := b3Main
noncomputable def o73 (P : Params) : Obj := subAt 0
noncomputable def o74 (P : Params) : Obj := subAt 1
noncomputable def o75 (P : Params) : Obj := subAt 2
noncomputable def o76 (P : Params) : Obj := subAt 3
noncomputable def o77 (P : Params) : Obj := subAt 4
noncomputable def o78 (P : Params) : Obj := subAt 5
noncomputable def o79 (P : Params) : Obj := subAt 6
noncomputable def o80 (P : Params) : Obj := subAt 7
noncomputable def o81 (P : Params) : Obj := subAt 8
noncomputable def o82 (P : Params) : Obj := subAt 9
noncomputable def o83 (P : Params) : Obj := subAt 10
noncomputable def o84 (P : Params) : Obj := subAt 11
noncomputable def o85 (P : Params) : Obj := subAt 12
noncomputable def o86 (P : Params) : Obj := subAt 13
noncomputable def o87 (P : Params) : Obj := subAt 14
noncomputable def o88 (P : Params) : Obj := subAt 15
noncomputable def o89 (P : Params) : Obj := subAt 16
noncomputable def o90 (P : Params) : Obj := subAt 17
noncomputable def o91 (P : Params) : Obj := subAt 18
noncomputable def o92 (P : Params) : Obj := subAt 19
noncomputable def o93 (P : Params) : Obj := subAt 20
noncomputable def o94 (P : Params) : Obj := subAt 21
noncomputable def o95 (P : Params) : Obj := subAt 22
noncomputable def o96 (P : Params) : Obj := subAt 23
noncomputable def o97 (P : Params) : Obj := subAt 24
noncomputable def o98 (P : Params) : Obj := subAt 25
noncomputable def o99 (P : Params) : Obj := subAt 26
noncomputable def o100 (P : Params) : Obj := subAt 27
noncomputable def o101 (P : Params) : Obj := subAt 28
noncomputable def o102 (P : Params) : Obj := subAt 29
noncomputable def o103 (P : Params) : Obj := subAt 30
noncomputable def o104 (P : Params) : Obj := subAt 31
noncomputable def o105 (P : Params) : Obj := subAt 32
noncomputable def o106 (P : Params) : Obj := subAt 33
noncomputable def o107 (P : Params) : Obj := subAt 34
noncomputable def o108 (P : Params) : Obj := subAt 35
noncomputable def o109 (P : Params) : Obj := subAt 36
noncomputable def o110 (P : Params) : Obj := subAt 37
noncomputable def t8 (P : Params) : BT := (.node (boot_o_0 P) (.node (boot_o_1 P) (.node (o3v8 P) (.node (boot_o_7 P) (.node (o15 P) (.node (o31v3 P) (.node (o63 P) .nil .nil) (.node (o95 P) .nil .nil)) (.node (o47 P) (.node (o79 P) .nil .nil) .nil)) (.node (o23 P) (.node (o39 P) (.node (o71 P) .nil .nil) (.node (o103 P) .nil .nil)) (.node (o55 P) (.node (o87 P) .nil .nil) .nil))) (.node (o11 P) (.node (o19 P) (.node (o35 P) (.node (o67 P) .nil .nil) (.node (o99 P) .nil .nil)) (.node (o51 P) (.node (o83 P) .nil .nil) .nil)) (.node (o27 P) (.node (o43 P) (.node (o75 P) .nil .nil) (.node (o107 P) .nil .nil)) (.node (o59 P) (.node (o91 P) .nil .nil) .nil)))) (.node (boot_o_5 P) (.node (boot_o_9 P) (.node (o17 P) (.node (o33 P) (.node (o65 P) .nil .nil) (.node (o97 P) .nil .nil)) (.node (o49 P) (.node (o81 P) .nil .nil) .nil)) (.node (o25 P) (.node (o41 P) (.node (o73 P) .nil .nil) (.node (o105 P) .nil .nil)) (.node (o57 P) (.node (o89 P) .nil .nil) .nil))) (.node (o13 P) (.node (o21 P) (.node (o37 P) (.node (o69 P) .nil .nil) (.node (o101 P) .nil .nil)) (.node (o53 P) (.node (o85 P) .nil .nil) .nil)) (.node (o29 P) (.node (o45 P) (.node (o77 P) .nil .nil) (.node (o109 P) .nil .nil)) (.node (o61 P) (.node (o93 P) .nil .nil) .nil))))) (.node (o2v2 P) (.node (boot_o_4 P) (.node (boot_o_8 P) (.node (o16 P) (.node (o32 P) (.node (o64 P) .nil .nil) (.node (o96 P) .nil .nil)) (.node (o48 P) (.node (o80 P) .nil .nil) .nil)) (.node (o24 P) (.node (o40 P) (.node (o72 P) .nil .nil) (.node (o104 P) .nil .nil)) (.node (o56 P) (.node (o88 P) .nil .nil) .nil))) (.node (o12v7 P) (.node (o20 P) (.node (o36 P) (.node (o68 P) .nil .nil) (.node (o100 P) .nil .nil)) (.node (o52 P) (.node (o84 P) .nil .nil) .nil)) (.node (o28 P) (.node (o44 P) (.node (o76 P) .nil .nil) (.node (o108 P) .nil .nil)) (.node (o60 P) (.node (o92 P) .nil .nil) .nil)))) (.node (boot_o_6 P) (.node (boot_o_10 P) (.node (o18 P) (.node (o34 P) (.node (o66 P) .nil .nil) (.node (o98 P) .nil .nil)) (.node (o50 P) (.node (o82 P) .nil .nil) .nil)) (.node (o26 P) (.node (o42 P) (.node (o74 P) .nil .nil) (.node (o106 P) .nil .nil)) (.node (o58 P) (.node (o90 P) .nil .nil) .nil))) (.node (o14 P) (.node (o22 P) (.node (o38 P) (.node (o70 P) .nil .nil) (.node (o102 P) .nil .nil)) (.node (o54 P) (.node (o86 P) .nil .nil) .nil)) (.node (o30 P) (.node (o46 P) (.node (o78 P) .nil .nil) (.node (o110 P) .nil .nil)) (.node (o62 P) (.node (o94 P) .nil .nil) .nil))))))
noncomputable def o3v9 (P : Params) : Obj := ⟨(.type "dict"), none, (.dict #[⟨kh P "__name__", (.str "__name__" 165), (.str "cpy313.stringprep" 243)⟩, ⟨kh P "__doc__", (.str "__doc__" 166), .none⟩, ⟨kh P "__package__", (.str "__package__" 167), .none⟩, ⟨kh P "__loader__", (.str "__loader__" 168), (.builtin "__main__.__loader__#opaque")⟩, ⟨kh P "__spec__", (.str "__spec__" 169), .none⟩, ⟨kh P "__annotations__", (.str "__annotations__" 170), (.ref 6)⟩, ⟨kh P "__builtins__", (.str "__builtins__" 171), (.ref 4)⟩, ⟨kh P "__file__", (.str "__file__" 173), (.str "/claim/cut.py" 172)⟩, ⟨kh P "__cached__", (.str "__cached__" 174), .none⟩, ⟨kh P "_wall", (.str "_wall" 193), (.ref 21)⟩, ⟨kh P "Error", (.str "Error" 215), (.ref 31)⟩, ⟨kh P "error_reply", (.str "error_reply" 231), (.ref 44)⟩, ⟨kh P "parse257", (.str "parse257" 242), (.ref 53)⟩, ⟨kh P "b1_set", (.str "b1_set" 304), (.ref 61)⟩, ⟨kh P "in_table_b1", (.str "in_table_b1" 311), (.ref 71)⟩, ⟨kh P "b3_exceptions", (.str "b3_exceptions" 2262), (.ref 72)⟩, ⟨kh P "map_table_b3", (.str "map_table_b3" 2270), (.ref 117)⟩] 17), #[]⟩
noncomputable def o12v9 (P : Params) : Obj := ⟨.none, none, (.fields #[(.int 1 0), (.int 0 0), (.ref 20), (.int 5 0), (.int 0 0), (.ref 27), (.int 7 0), (.int 0 0), (.ref 40), (.int 9 0), (.int 0 0), (.ref 52), (.int 28 0), (.int 0 0), (.ref 70), (.int 31 0), (.int 0 0), (.ref 116)]), #[]⟩
noncomputable def o111 (P : Params) : Obj := ⟨(.type "tuple"), none, (.seq #[] 0), #[]⟩
noncomputable def o112 (P : Params) : Obj := ⟨.none, none, (.fields #[]), #[]⟩
noncomputable def o113 (P : Params) : Obj := ⟨(.type "tuple"), none, (.seq #[(.str "code" 2266), (.str "r" 2267)] 0), #[]⟩
noncomputable def o114 (P : Params) : Obj := ⟨(.type "tuple"), none, (.seq #[] 0), #[]⟩
noncomputable def o115 (P : Params) : Obj := ⟨.none, none, (.func ⟨"map_table_b3", "map_table_b3", fArgs (st 9), .stmts (fBody (st 9)), fScope (st 9), 0, [], .none, .none, .none, .none, none, .none, .none, 0⟩), #[]⟩
noncomputable def o116 (P : Params) : Obj := ⟨(.type "code"), none, (.fields #[(.str "map_table_b3" 2263), (.str "map_table_b3" 2264), (.str "/claim/cut.py" 2265), (.int 31 0), (.int 1 0), (.int 0 0), (.int 0 0), (.int 3 0), (.ref 111), (.bool true), (.int 181 0), (.ref 112), .none, (.ref 113), (.ref 114), (.ref 115), (.int 2268 0), (.int 31 0), (.str "/claim/cut.py" 2269)]), #[]⟩
noncomputable def o117 (P : Params) : Obj := ⟨(.type "function"), none, (.func ⟨"map_table_b3", "map_table_b3", fArgs (st 9), .stmts (fBody (st 9)), fScope (st 9), 3, [], .none, .none, .none, (.str "cpy313.stringprep" 243), none, (.ref 116), .none, 0⟩), #[]⟩
noncomputable def t9 (P : Params) : BT := (.node (boot_o_0 P) (.node (boot_o_1 P) (.node (o3v9 P) (.node (boot_o_7 P) (.node (o15 P) (.node (o31v3 P) (.node (o63 P) .nil .nil) (.node (o95 P) .nil .nil)) (.node (o47 P) (.node (o79 P) .nil .nil) (.node (o111 P) .nil .nil))) (.node (o23 P) (.node (o39 P) (.node (o71 P) .nil .nil) (.node (o103 P) .nil .nil)) (.node (o55 P) (.node (o87 P) .nil .nil) .nil))) (.node (o11 P) (.node (o19 P) (.node (o35 P) (.node (o67 P) .nil .nil) (.node (o99 P) .nil .nil)) (.node (o51 P) (.node (o83 P) .nil .nil) (.node (o115 P) .nil .nil))) (.node (o27 P) (.node (o43 P) (.node (o75 P) .nil .nil) (.node (o107 P) .nil .nil)) (.node (o59 P) (.node (o91 P) .nil .nil) .nil)))) (.node (boot_o_5 P) (.node (boot_o_9 P) (.node (o17 P) (.node (o33 P) (.node (o65 P) .nil .nil) (.node (o97 P) .nil .nil)) (.node (o49 P) (.node (o81 P) .nil .nil) (.node (o113 P) .nil .nil))) (.node (o25 P) (.node (o41 P) (.node (o73 P) .nil .nil) (.node (o105 P) .nil .nil)) (.node (o57 P) (.node (o89 P) .nil .nil) .nil))) (.node (o13 P) (.node (o21 P) (.node (o37 P) (.node (o69 P) .nil .nil) (.node (o101 P) .nil .nil)) (.node (o53 P) (.node (o85 P) .nil .nil) (.node (o117 P) .nil .nil))) (.node (o29 P) (.node (o45 P) (.node (o77 P) .nil .nil) (.node (o109 P) .nil .nil)) (.node (o61 P) (.node (o93 P) .nil .nil) .nil))))) (.node (o2v2 P) (.node (boot_o_4 P) (.node (boot_o_8 P) (.node (o16 P) (.node (o32 P) (.node (o64 P) .nil .nil) (.node (o96 P) .nil .nil)) (.node (o48 P) (.node (o80 P) .nil .nil) (.node (o112 P) .nil .nil))) (.node (o24 P) (.node (o40 P) (.node (o72 P) .nil .nil) (.node (o104 P) .nil .nil)) (.node (o56 P) (.node (o88 P) .nil .nil) .nil))) (.node (o12v9 P) (.node (o20 P) (.node (o36 P) (.node (o68 P) .nil .nil) (.node (o100 P) .nil .nil)) (.node (o52 P) (.node (o84 P) .nil .nil) (.node (o116 P) .nil .nil))) (.node (o28 P) (.node (o44 P) (.node (o76 P) .nil .nil) (.node (o108 P) .nil .nil)) (.node (o60 P) (.node (o92 P) .nil .nil) .nil)))) (.node (boot_o_6 P) (.node (boot_o_10 P) (.node (o18 P) (.node (o34 P) (.node (o66 P) .nil .nil) (.node (o98 P) .nil .nil)) (.node (o50 P) (.node (o82 P) .nil .nil) (.node (o114 P) .nil .nil))) (.node (o26 P) (.node (o42 P) (.node (o74 P) .nil .nil) (.node (o106 P) .nil .nil)) (.node (o58 P) (.node (o90 P) .nil .nil) .nil))) (.node (o14 P) (.node (o22 P) (.node (o38 P) (.node (o70 P) .nil .nil) (.node (o102 P) .nil .nil)) (.node (o54 P) (.node (o86 P) .nil .nil) .nil)) (.node (o30 P) (.node (o46 P) (.node (o78 P) .nil .nil) (.node (o110 P) .nil .nil)) (.node (o62 P) (.node (o94 P) .nil .nil) .nil))))))
noncomputable def o3v10 (P : Params) : Obj := ⟨(.type "dict"), none, (.dict #[⟨kh P "__name__", (.str "__name__" 165), (.str "cpy313.tabnanny" 2271)⟩, ⟨kh P "__doc__", (.str "__doc__" 166), .none⟩, ⟨kh P "__package__", (.str "__package__" 167), .none⟩, ⟨kh P "__loader__", (.str "__loader__" 168), (.builtin "__main__.__loader__#opaque")⟩, ⟨kh P "__spec__", (.str "__spec__" 169), .none⟩, ⟨kh P "__annotations__", (.str "__annotations__" 170), (.ref 6)⟩, ⟨kh P "__builtins__", (.str "__builtins__" 171), (.ref 4)⟩, ⟨kh P "__file__", (.str "__file__" 173), (.str "/claim/cut.py" 172)⟩, ⟨kh P "__cached__", (.str "__cached__" 174), .none⟩, ⟨kh P "_wall", (.str "_wall" 193), (.ref 21)⟩, ⟨kh P "Error", (.str "Error" 215), (.ref 31)⟩, ⟨kh P "error_reply", (.str "error_reply" 231), (.ref 44)⟩, ⟨kh P "parse257", (.str "parse257" 242), (.ref 53)⟩, ⟨kh P "b1_set", (.str "b1_set" 304), (.ref 61)⟩, ⟨kh P "in_table_b1", (.str "in_table_b1" 311), (.ref 71)⟩, ⟨kh P "b3_exceptions", (.str "b3_exceptions" 2262), (.ref 72)⟩, ⟨kh P "map_table_b3", (.str "map_table_b3" 2270), (.ref 117)⟩] 17), #[]⟩
noncomputable def t10 (P : Params) : BT := (.node (boot_o_0 P) (.node (boot_o_1 P) (.node (o3v10 P) (.node (boot_o_7 P) (.node (o15 P) (.node (o31v3 P) (.node (o63 P) .nil .nil) (.node (o95 P) .nil .nil)) (.node (o47 P) (.node (o79 P) .nil .nil) (.node (o111 P) .nil .nil))) (.node (o23 P) (.node (o39 P) (.node (o71 P) .nil .nil) (.node (o103 P) .nil .nil)) (.node (o55 P) (.node (o87 P) .nil .nil) .nil))) (.node (o11 P) (.node (o19 P) (.node (o35 P) (.node (o67 P) .nil .nil) (.node (o99 P) .nil .nil)) (.node (o51 P) (.node (o83 P) .nil .nil) (.node (o115 P) .nil .nil))) (.node (o27 P) (.node (o43 P) (.node (o75 P) .nil .nil) (.node (o107 P) .nil .nil)) (.node (o59 P) (.node (o91 P) .nil .nil) .nil)))) (.node (boot_o_5 P) (.node (boot_o_9 P) (.node (o17 P) (.node (o33 P) (.node (o65 P) .nil .nil) (.node (o97 P) .nil .nil)) (.node (o49 P) (.node (o81 P) .nil .nil) (.node (o113 P) .nil .nil))) (.node (o25 P) (.node (o41 P) (.node (o73 P) .nil .nil) (.node (o105 P) .nil .nil)) (.node (o57 P) (.node (o89 P) .nil .nil) .nil))) (.node (o13 P) (.node (o21 P) (.node (o37 P) (.node (o69 P) .nil .nil) (.node (o101 P) .nil .nil)) (.node (o53 P) (.node (o85 P) .nil .nil) (.node (o117 P) .nil .nil))) (.node (o29 P) (.node (o45 P) (.node (o77 P) .nil .nil) (.node (o109 P) .nil .nil)) (.node (o61 P) (.node (o93 P) .nil .nil) .nil))))) (.node (o2v2 P) (.node (boot_o_4 P) (.node (boot_o_8 P) (.node (o16 P) (.node (o32 P) (.node (o64 P) .nil .nil) (.node (o96 P) .nil .nil)) (.node (o48 P) (.node (o80 P) .nil .nil) (.node (o112 P) .nil .nil))) (.node (o24 P) (.node (o40 P) (.node (o72 P) .nil .nil) (.node (o104 P) .nil .nil)) (.node (o56 P) (.node (o88 P) .nil .nil) .nil))) (.node (o12v9 P) (.node (o20 P) (.node (o36 P) (.node (o68 P) .nil .nil) (.node (o100 P) .nil .nil)) (.node (o52 P) (.node (o84 P) .nil .nil) (.node (o116 P) .nil .nil))) (.node (o28 P) (.node (o44 P) (.node (o76 P) .nil .nil) (.node (o108 P) .nil .nil)) (.node (o60 P) (.node (o92 P) .nil .nil) .nil)))) (.node (boot_o_6 P) (.node (boot_o_10 P) (.node (o18 P) (.node (o34 P) (.node (o66 P) .nil .nil) (.node (o98 P) .nil .nil)) (.node (o50 P) (.node (o82 P) .nil .nil) (.node (o114 P) .nil .nil))) (.node (o26 P) (.node (o42 P) (.node (o74 P) .nil .nil) (.node (o106 P) .nil .nil)) (.node (o58 P) (.node (o90 P) .nil .nil) .nil))) (.node (o14 P) (.node (o22 P) (.node (o38 P) (.node (o70 P) .nil .nil) (.node (o102 P) .nil .nil)) (.node (o54 P) (.node (o86 P) .nil .nil) .nil)) (.node (o30 P) (.node (o46 P) (.node (o78 P) .nil .nil) (.node (o110 P) .nil .nil)) (.node (o62 P) (.node (o94 P) .nil .nil) .nil))))))
noncomputable def o3v11 (P : Params) : Obj := ⟨(.type "dict"), none, (.dict #[⟨kh P "__name__", (.str "__name__" 165), (.str "cpy313.tabnanny" 2271)⟩, ⟨kh P "__doc__", (.str "__doc__" 166), .none⟩, ⟨kh P "__package__", (.str "__package__" 167), .none⟩, ⟨kh P "__loader__", (.str "__loader__" 168), (.builtin "__main__.__loader__#opaque")⟩, ⟨kh P "__spec__", (.str "__spec__" 169), .none⟩, ⟨kh P "__annotations__", (.str "__annotations__" 170), (.ref 6)⟩, ⟨kh P "__builtins__", (.str "__builtins__" 171), (.ref 4)⟩, ⟨kh P "__file__", (.str "__file__" 173), (.str "/claim/cut.py" 172)⟩, ⟨kh P "__cached__", (.str "__cached__" 174), .none⟩, ⟨kh P "_wall", (.str "_wall" 193), (.ref 21)⟩, ⟨kh P "Error", (.str "Error" 215), (.ref 31)⟩, ⟨kh P "error_reply", (.str "error_reply" 231), (.ref 44)⟩, ⟨kh P "parse257", (.str "parse257" 242), (.ref 53)⟩, ⟨kh P "b1_set", (.str "b1_set" 304), (.ref 61)⟩, ⟨kh P "in_table_b1", (.str "in_table_b1" 311), (.ref 71)⟩, ⟨kh P "b3_exceptions", (.str "b3_exceptions" 2262), (.ref 72)⟩, ⟨kh P "map_table_b3", (.str "map_table_b3" 2270), (.ref 117)⟩, ⟨kh P "Whitespace", (.str "Whitespace" 2375), (.ref 179)⟩] 18), #[]⟩
noncomputable def o12v11 (P : Params) : Obj := ⟨.none, none, (.fields #[(.int 1 0), (.int 0 0), (.ref 20), (.int 5 0), (.int 0 0), (.ref 27), (.int 7 0), (.int 0 0), (.ref 40), (.int 9 0), (.int 0 0), (.ref 52), (.int 28 0), (.int 0 0), (.ref 70), (.int 31 0), (.int 0 0), (.ref 116), (.int 37 0), (.int 0 0), (.ref 123)]), #[]⟩
noncomputable def o118 (P : Params) : Obj := ⟨(.type "tuple"), none, (.seq #[] 0), #[]⟩
noncomputable def o119 (P : Params) : Obj := ⟨(.type "builtin_function_or_method"), none, (.fields #[(.builtin "type.__prepare__"), (.type "type")]), #[]⟩
noncomputable def o120 (P : Params) : Obj := ⟨(.type "dict"), none, (.dict #[⟨kh P "__module__", (.str "__module__" 2280), (.str "cpy313.tabnanny" 2271)⟩, ⟨kh P "__qualname__", (.str "__qualname__" 2282), (.str "Whitespace" 2281)⟩, ⟨kh P "__firstlineno__", (.str "__firstlineno__" 2284), (.int 37 2283)⟩, ⟨kh P "S", (.str "S" 2288), (.str " " 2286)⟩, ⟨kh P "T", (.str "T" 2289), (.str "\t" 2287)⟩, ⟨kh P "__init__", (.str "__init__" 2304), (.ref 134)⟩, ⟨kh P "longest_run_of_spaces", (.str "longest_run_of_spaces" 2313), (.ref 141)⟩, ⟨kh P "indent_level", (.str "indent_level" 2325), (.ref 148)⟩, ⟨kh P "equal", (.str "equal" 2333), (.ref 155)⟩, ⟨kh P "not_equal_witness", (.str "not_equal_witness" 2344), (.ref 162)⟩, ⟨kh P "less", (.str "less" 2354), (.ref 169)⟩, ⟨kh P "not_less_witness", (.str "not_less_witness" 2362), (.ref 176)⟩, ⟨kh P "__static_attributes__", (.str "__static_attributes__" 2368), (.ref 177)⟩] 13), #[]⟩
noncomputable def o121 (P : Params) : Obj := ⟨(.type "tuple"), none, (.seq #[] 0), #[]⟩
noncomputable def o122 (P : Params) : Obj := ⟨.none, none, (.fields #[(.int 40 0), (.int 4 0), (.ref 133), (.int 63 0), (.int 4 0), (.ref 140), (.int 67 0), (.int 4 0), (.ref 147), (.int 74 0), (.int 4 0), (.ref 154), (.int 77 0), (.int 4 0), (.ref 161), (.int 85 0), (.int 4 0), (.ref 168), (.int 96 0), (.int 4 0), (.ref 175)]), #[]⟩
noncomputable def o123 (P : Params) : Obj := ⟨(.type "code"), none, (.fields #[(.str "Whitespace" 2275), (.str "Whitespace" 2276), (.str "/claim/cut.py" 2277), (.int 37 0), (.int 0 0), (.int 0 0), (.int 0 0), (.int 0 0), (.ref 121), (.bool false), (.int 181 0), (.ref 122), .none, .none, .none, .none, (.int 2278 0), (.int 37 0), (.str "/claim/cut.py" 2279)]), #[]⟩
noncomputable def o124 (P : Params) : Obj := ⟨(.type "frame"), none, .plain, #[(some (.ref 123)), (some (.ref 3)), (some (.ref 120)), none, (some (.str "cpy313.tabnanny" 2271)), none, (some (.ref 0))]⟩
noncomputable def o125 (P : Params) : Obj := ⟨(.type "str_ascii_iterator"), none, (.fields #[.none, (.int 2 0)]), #[]⟩
noncomputable def o126 (P : Params) : Obj := ⟨(.type "tuple"), none, (.seq #[] 0), #[]⟩
noncomputable def o127 (P : Params) : Obj := ⟨(.type "StopIteration"), none, (.fields #[(.ref 126), .none, .none, .none, (.bool false), .none]), #[]⟩
noncomputable def o128 (P : Params) : Obj := ⟨(.type "tuple"), none, (.seq #[] 0), #[]⟩
noncomputable def o129 (P : Params) : Obj := ⟨.none, none, (.fields #[]), #[]⟩
noncomputable def o130 (P : Params) : Obj := ⟨(.type "tuple"), none, (.seq #[(.str "self" 2293), (.str "ws" 2294), (.str "S" 2295), (.str "T" 2296), (.str "count" 2297), (.str "b" 2298), (.str "n" 2299), (.str "nt" 2300), (.str "ch" 2301)] 0), #[]⟩
noncomputable def o131 (P : Params) : Obj := ⟨(.type "tuple"), none, (.seq #[] 0), #[]⟩
noncomputable def o132 (P : Params) : Obj := ⟨.none, none, (.func ⟨"__init__", "Whitespace.__init__", fArgs (sub (st 11) 1), .stmts (fBody (sub (st 11) 1)), fScope (sub (st 11) 1), 0, [], .none, .none, .none, .none, none, .none, .none, 0⟩), #[]⟩
noncomputable def o133 (P : Params) : Obj := ⟨(.type "code"), none, (.fields #[(.str "__init__" 2290), (.str "Whitespace.__init__" 2291), (.str "/claim/cut.py" 2292), (.int 40 0), (.int 2 0), (.int 0 0), (.int 0 0), (.int 3 0), (.ref 128), (.bool true), (.int 181 0), (.ref 129), .none, (.ref 130), (.ref 131), (.ref 132), (.int 2302 0), (.int 40 0), (.str "/claim/cut.py" 2303)]), #[]⟩
noncomputable def o134 (P : Params) : Obj := ⟨(.type "function"), none, (.func ⟨"__init__", "Whitespace.__init__", fArgs (sub (st 11) 1), .stmts (fBody (sub (st 11) 1)), fScope (sub (st 11) 1), 3, [], .none, .none, .none, (.str "cpy313.tabnanny" 2271), none, (.ref 133), .none, 0⟩), #[]⟩
noncomputable def o135 (P : Params) : Obj := ⟨(.type "tuple"), none, (.seq #[] 0), #[]⟩
noncomputable def o136 (P : Params) : Obj := ⟨.none, none, (.fields #[]), #[]⟩
noncomputable def o137 (P : Params) : Obj := ⟨(.type "tuple"), none, (.seq #[(.str "self" 2308), (.str "count" 2309), (.str "trailing" 2310)] 0), #[]⟩
noncomputable def o138 (P : Params) : Obj := ⟨(.type "tuple"), none, (.seq #[] 0), #[]⟩
noncomputable def o139 (P : Params) : Obj := ⟨.none, none, (.func ⟨"longest_run_of_spaces", "Whitespace.longest_run_of_spaces", fArgs (sub (st 11) 2), .stmts (fBody (sub (st 11) 2)), fScope (sub (st 11) 2), 0, [], .none, .none, .none, .none, none, .none, .none, 0⟩), #[]⟩
noncomputable def o140 (P : Params) : Obj := ⟨(.type "code"), none, (.fields #[(.str "longest_run_of_spaces" 2305), (.str "Whitespace.longest_run_of_spaces" 2306), (.str "/claim/cut.py" 2307), (.int 63 0), (.int 1 0), (.int 0 0), (.int 0 0), (.int 3 0), (.ref 135), (.bool true), (.int 181 0), (.ref 136), .none, (.ref 137), (.ref 138), (.ref 139), (.int 2311 0), (.int 63 0), (.str "/claim/cut.py" 2312)]), #[]⟩
noncomputable def o141 (P : Params) : Obj := ⟨(.type "function"), none, (.func ⟨"longest_run_of_spaces", "Whitespace.longest_run_of_spaces", fArgs (sub (st 11) 2), .stmts (fBody (sub (st 11) 2)), fScope (sub (st 11) 2), 3, [], .none, .none, .none, (.str "cpy313.tabnanny" 2271), none, (.ref 140), .none, 0⟩), #[]⟩
noncomputable def o142 (P : Params) : Obj := ⟨(.type "tuple"), none, (.seq #[] 0), #[]⟩
noncomputable def o143 (P : Params) : Obj := ⟨.none, none, (.fields #[]), #[]⟩
noncomputable def o144 (P : Params) : Obj := ⟨(.type "tuple"), none, (.seq #[(.str "self" 2317), (.str "tabsize" 2318), (.str "count" 2319), (.str "trailing" 2320), (.str "il" 2321), (.str "i" 2322)] 0), #[]⟩
noncomputable def o145 (P : Params) : Obj := ⟨(.type "tuple"), none, (.seq #[] 0), #[]⟩
noncomputable def o146 (P : Params) : Obj := ⟨.none, none, (.func ⟨"indent_level", "Whitespace.indent_level", fArgs (sub (st 11) 3), .stmts (fBody (sub (st 11) 3)), fScope (sub (st 11) 3), 0, [], .none, .none, .none, .none, none, .none, .none, 0⟩), #[]⟩
noncomputable def o147 (P : Params) : Obj := ⟨(.type "code"), none, (.fields #[(.str "indent_level" 2314), (.str "Whitespace.indent_level" 2315), (.str "/claim/cut.py" 2316), (.int 67 0), (.int 2 0), (.int 0 0), (.int 0 0), (.int 3 0), (.ref 142), (.bool true), (.int 181 0), (.ref 143), .none, (.ref 144), (.ref 145), (.ref 146), (.int 2323 0), (.int 67 0), (.str "/claim/cut.py" 2324)]), #[]⟩
noncomputable def o148 (P : Params) : Obj := ⟨(.type "function"), none, (.func ⟨"indent_level", "Whitespace.indent_level", fArgs (sub (st 11) 3), .stmts (fBody (sub (st 11) 3)), fScope (sub (st 11) 3), 3, [], .none, .none, .none, (.str "cpy313.tabnanny" 2271), none, (.ref 147), .none, 0⟩), #[]⟩
noncomputable def o149 (P : Params) : Obj := ⟨(.type "tuple"), none, (.seq #[] 0), #[]⟩
noncomputable def o150 (P : Params) : Obj := ⟨.none, none, (.fields #[]), #[]⟩
noncomputable def o151 (P : Params) : Obj := ⟨(.type "tuple"), none, (.seq #[(.str "self" 2329), (.str "other" 2330)] 0), #[]⟩
noncomputable def o152 (P : Params) : Obj := ⟨(.type "tuple"), none, (.seq #[] 0), #[]⟩
noncomputable def o153 (P : Params) : Obj := ⟨.none, none, (.func ⟨"equal", "Whitespace.equal", fArgs (sub (st 11) 4), .stmts (fBody (sub (st 11) 4)), fScope (sub (st 11) 4), 0, [], .none, .none, .none, .none, none, .none, .none, 0⟩), #[]⟩
noncomputable def o154 (P : Params) : Obj := ⟨(.type "code"), none, (.fields #[(.str "equal" 2326), (.str "Whitespace.equal" 2327), (.str "/claim/cut.py" 2328), (.int 74 0), (.int 2 0), (.int 0 0), (.int 0 0), (.int 3 0), (.ref 149), (.bool true), (.int 181 0), (.ref 150), .none, (.ref 151), (.ref 152), (.ref 153), (.int 2331 0), (.int 74 0), (.str "/claim/cut.py" 2332)]), #[]⟩
noncomputable def o155 (P : Params) : Obj := ⟨(.type "function"), none, (.func ⟨"equal", "Whitespace.equal", fArgs (sub (st 11) 4), .stmts (fBody (sub (st 11) 4)), fScope (sub (st 11) 4), 3, [], .none, .none, .none, (.str "cpy313.tabnanny" 2271), none, (.ref 154), .none, 0⟩), #[]⟩
noncomputable def o156 (P : Params) : Obj := ⟨(.type "tuple"), none, (.seq #[] 0), #[]⟩
noncomputable def o157 (P : Params) : Obj := ⟨.none, none, (.fields #[]), #[]⟩
noncomputable def o158 (P : Params) : Obj := ⟨(.type "tuple"), none, (.seq #[(.str "self" 2337), (.str "other" 2338), (.str "n" 2339), (.str "a" 2340), (.str "ts" 2341)] 0), #[]⟩
noncomputable def o159 (P : Params) : Obj := ⟨(.type "tuple"), none, (.seq #[] 0), #[]⟩
noncomputable def o160 (P : Params) : Obj := ⟨.none, none, (.func ⟨"not_equal_witness", "Whitespace.not_equal_witness", fArgs (sub (st 11) 5), .stmts (fBody (sub (st 11) 5)), fScope (sub (st 11) 5), 0, [], .none, .none, .none, .none, none, .none, .none, 0⟩), #[]⟩
noncomputable def o161 (P : Params) : Obj := ⟨(.type "code"), none, (.fields #[(.str "not_equal_witness" 2334), (.str "Whitespace.not_equal_witness" 2335), (.str "/claim/cut.py" 2336), (.int 77 0), (.int 2 0), (.int 0 0), (.int 0 0), (.int 3 0), (.ref 156), (.bool true), (.int 181 0), (.ref 157), .none, (.ref 158), (.ref 159), (.ref 160), (.int 2342 0), (.int 77 0), (.str "/claim/cut.py" 2343)]), #[]⟩
noncomputable def o162 (P : Params) : Obj := ⟨(.type "function"), none, (.func ⟨"not_equal_witness", "Whitespace.not_equal_witness", fArgs (sub (st 11) 5), .stmts (fBody (sub (st 11) 5)), fScope (sub (st 11) 5), 3, [], .none, .none, .none, (.str "cpy313.tabnanny" 2271), none, (.ref 161), .none, 0⟩), #[]⟩
noncomputable def o163 (P : Params) : Obj := ⟨(.type "tuple"), none, (.seq #[] 0), #[]⟩
noncomputable def o164 (P : Params) : Obj := ⟨.none, none, (.fields #[]), #[]⟩
noncomputable def o165 (P : Params) : Obj := ⟨(.type "tuple"), none, (.seq #[(.str "self" 2348), (.str "other" 2349), (.str "n" 2350), (.str "ts" 2351)] 0), #[]⟩
noncomputable def o166 (P : Params) : Obj := ⟨(.type "tuple"), none, (.seq #[] 0), #[]⟩
noncomputable def o167 (P : Params) : Obj := ⟨.none, none, (.func ⟨"less", "Whitespace.less", fArgs (sub (st 11) 6), .stmts (fBody (sub (st 11) 6)), fScope (sub (st 11) 6), 0, [], .none, .none, .none, .none, none, .none, .none, 0⟩), #[]⟩
noncomputable def o168 (P : Params) : Obj := ⟨(.type "code"), none, (.fields #[(.str "less" 2345), (.str "Whitespace.less" 2346), (.str "/claim/cut.py" 2347), (.int 85 0), (.int 2 0), (.int 0 0), (.int 0 0), (.int 3 0), (.ref 163), (.bool true), (.int 181 0), (.ref 164), .none, (.ref 165), (.ref 166), (.ref 167), (.int 2352 0), (.int 85 0), (.str "/claim/cut.py" 2353)]), #[]⟩
noncomputable def o169 (P : Params) : Obj := ⟨(.type "function"), none, (.func ⟨"less", "Whitespace.less", fArgs (sub (st 11) 6), .stmts (fBody (sub (st 11) 6)), fScope (sub (st 11) 6), 3, [], .none, .none, .none, (.str "cpy313.tabnanny" 2271), none, (.ref 168), .none, 0⟩), #[]⟩
noncomputable def o170 (P : Params) : Obj := ⟨(.type "tuple"), none, (.seq #[] 0), #[]⟩
noncomputable def o171 (P : Params) : Obj := ⟨.none, none, (.fields #[]), #[]⟩
noncomputable def o172 (P : Params) : Obj := ⟨(.type "tuple"), none, (.seq #[(.str "self" 2358), (.str "other" 2359)] 0), #[]⟩
noncomputable def o173 (P : Params) : Obj := ⟨(.type "tuple"), none, (.seq #[] 0), #[]⟩
noncomputable def o174 (P : Params) : Obj := ⟨.none, none, (.func ⟨"not_less_witness", "Whitespace.not_less_witness", fArgs (sub (st 11) 7), .stmts (fBody (sub (st 11) 7)), fScope (sub (st 11) 7), 0, [], .none, .none, .none, .none, none, .none, .none, 0⟩), #[]⟩
noncomputable def o175 (P : Params) : Obj := ⟨(.type "code"), none, (.fields #[(.str "not_less_witness" 2355), (.str "Whitespace.not_less_witness" 2356), (.str "/claim/cut.py" 2357), (.int 96 0), (.int 2 0), (.int 0 0), (.int 0 0), (.int 3 0), (.ref 170), (.bool true), (.int 181 0), (.ref 171), .none, (.ref 172), (.ref 173), (.ref 174), (.int 2360 0), (.int 96 0), (.str "/claim/cut.py" 2361)]), #[]⟩
noncomputable def o176 (P : Params) : Obj := ⟨(.type "function"), none, (.func ⟨"not_less_witness", "Whitespace.not_less_witness", fArgs (sub (st 11) 7), .stmts (fBody (sub (st 11) 7)), fScope (sub (st 11) 7), 3, [], .none, .none, .none, (.str "cpy313.tabnanny" 2271), none, (.ref 175), .none, 0⟩), #[]⟩
noncomputable def o177 (P : Params) : Obj := ⟨(.type "tuple"), none, (.seq #[(.str "is_simple" 2363), (.str "n" 2364), (.str "norm" 2365), (.str "nt" 2366), (.str "raw" 2367)] 0), #[]⟩
noncomputable def o178 (P : Params) : Obj := ⟨(.type "dict"), none, (.dict #[⟨kh P "__module__", (.str "__module__" 2280), (.str "cpy313.tabnanny" 2271)⟩, ⟨kh P "__firstlineno__", (.str "__firstlineno__" 2284), (.int 37 2283)⟩, ⟨kh P "S", (.str "S" 2288), (.str " " 2286)⟩, ⟨kh P "T", (.str "T" 2289), (.str "\t" 2287)⟩, ⟨kh P "__init__", (.str "__init__" 2304), (.ref 134)⟩, ⟨kh P "longest_run_of_spaces", (.str "longest_run_of_spaces" 2313), (.ref 141)⟩, ⟨kh P "indent_level", (.str "indent_level" 2325), (.ref 148)⟩, ⟨kh P "equal", (.str "equal" 2333), (.ref 155)⟩, ⟨kh P "not_equal_witness", (.str "not_equal_witness" 2344), (.ref 162)⟩, ⟨kh P "less", (.str "less" 2354), (.ref 169)⟩, ⟨kh P "not_less_witness", (.str "not_less_witness" 2362), (.ref 176)⟩, ⟨kh P "__static_attributes__", (.str "__static_attributes__" 2368), (.ref 177)⟩, ⟨kh P "__dict__", (.str "__dict__" 2370), (.ref 180)⟩, ⟨kh P "__weakref__", (.str "__weakref__" 2372), (.ref 181)⟩, ⟨kh P "__doc__", (.str "__doc__" 2373), .none⟩] 4), #[]⟩
noncomputable def o179 (P : Params) : Obj := ⟨(.type "type"), none, (.cls ⟨"Whitespace", [(.type "object")], [(.ref 179), (.type "object")], 178, "Whitespace", true, [], [], false, none, false⟩), #[none, none, (some (.str "Whitespace" 2273)), (some (.str "Whitespace" 2281)), (some (.builtin "object.__new__")), (some (.bool true))]⟩
noncomputable def o180 (P : Params) : Obj := ⟨(.type "getset_descriptor"), none, (.fields #[(.str "__dict__" 2369), (.ref 179), (.builtin "function.__dict__"), (.builtin "function.__dict__#set")]), #[]⟩
noncomputable def o181 (P : Params) : Obj := ⟨(.type "getset_descriptor"), none, (.fields #[(.str "__weakref__" 2371), (.ref 179), (.builtin "ExceptionGroup.__weakref__"), .none]), #[]⟩
noncomputable def o182 (P : Params) : Obj := ⟨(.type "super"), none, (.fields #[(.ref 179), (.ref 179), (.ref 179)]), #[]⟩
noncomputable def o183 (P : Params) : Obj := ⟨(.type "builtin_function_or_method"), none, (.fields #[(.builtin "object.__init_subclass__"), (.ref 179)]), #[]⟩
noncomputable def t11 (P : Params) : BT := (.node (boot_o_0 P) (.node (boot_o_1 P) (.node (o3v11 P) (.node (boot_o_7 P) (.node (o15 P) (.node (o31v3 P) (.node (o63 P) (.node (o127 P) .nil .nil) .nil) (.node (o95 P) (.node (o159 P) .nil .nil) .nil)) (.node (o47 P) (.node (o79 P) (.node (o143 P) .nil .nil) .nil) (.node (o111 P) (.node (o175 P) .nil .nil) .nil))) (.node (o23 P) (.node (o39 P) (.node (o71 P) (.node (o135 P) .nil .nil) .nil) (.node (o103 P) (.node (o167 P) .nil .nil) .nil)) (.node (o55 P) (.node (o87 P) (.node (o151 P) .nil .nil) .nil) (.node (o119 P) (.node (o183 P) .nil .nil) .nil)))) (.node (o11 P) (.node (o19 P) (.node (o35 P) (.node (o67 P) (.node (o131 P) .nil .nil) .nil) (.node (o99 P) (.node (o163 P) .nil .nil) .nil)) (.node (o51 P) (.node (o83 P) (.node (o147 P) .nil .nil) .nil) (.node (o115 P) (.node (o179 P) .nil .nil) .nil))) (.node (o27 P) (.node (o43 P) (.node (o75 P) (.node (o139 P) .nil .nil) .nil) (.node (o107 P) (.node (o171 P) .nil .nil) .nil)) (.node (o59 P) (.node (o91 P) (.node (o155 P) .nil .nil) .nil) (.node (o123 P) .nil .nil))))) (.node (boot_o_5 P) (.node (boot_o_9 P) (.node (o17 P) (.node (o33 P) (.node (o65 P) (.node (o129 P) .nil .nil) .nil) (.node (o97 P) (.node (o161 P) .nil .nil) .nil)) (.node (o49 P) (.node (o81 P) (.node (o145 P) .nil .nil) .nil) (.node (o113 P) (.node (o177 P) .nil .nil) .nil))) (.node (o25 P) (.node (o41 P) (.node (o73 P) (.node (o137 P) .nil .nil) .nil) (.node (o105 P) (.node (o169 P) .nil .nil) .nil)) (.node (o57 P) (.node (o89 P) (.node (o153 P) .nil .nil) .nil) (.node (o121 P) .nil .nil)))) (.node (o13 P) (.node (o21 P) (.node (o37 P) (.node (o69 P) (.node (o133 P) .nil .nil) .nil) (.node (o101 P) (.node (o165 P) .nil .nil) .nil)) (.node (o53 P) (.node (o85 P) (.node (o149 P) .nil .nil) .nil) (.node (o117 P) (.node (o181 P) .nil .nil) .nil))) (.node (o29 P) (.node (o45 P) (.node (o77 P) (.node (o141 P) .nil .nil) .nil) (.node (o109 P) (.node (o173 P) .nil .nil) .nil)) (.node (o61 P) (.node (o93 P) (.node (o157 P) .nil .nil) .nil) (.node (o125 P) .nil .nil)))))) (.node (o2v2 P) (.node (boot_o_4 P) (.node (boot_o_8 P) (.node (o16 P) (.node (o32 P) (.node (o64 P) (.node (o128 P) .nil .nil) .nil) (.node (o96 P) (.node (o160 P) .nil .nil) .nil)) (.node (o48 P) (.node (o80 P) (.node (o144 P) .nil .nil) .nil) (.node (o112 P) (.node (o176 P) .nil .nil) .nil))) (.node (o24 P) (.node (o40 P) (.node (o72 P) (.node (o136 P) .nil .nil) .nil) (.node (o104 P) (.node (o168 P) .nil .nil) .nil)) (.node (o56 P) (.node (o88 P) (.node (o152 P) .nil .nil) .nil) (.node (o120 P) .nil .nil)))) (.node (o12v11 P) (.node (o20 P) (.node (o36 P) (.node (o68 P) (.node (o132 P) .nil .nil) .nil) (.node (o100 P) (.node (o164 P) .nil .nil) .nil)) (.node (o52 P) (.node (o84 P) (.node (o148 P) .nil .nil) .nil) (.node (o116 P) (.node (o180 P) .nil .nil) .nil))) (.node (o28 P) (.node (o44 P) (.node (o76 P) (.node (o140 P) .nil .nil) .nil) (.node (o108 P) (.node (o172 P) .nil .nil) .nil)) (.node (o60 P) (.node (o92 P) (.node (o156 P) .nil .nil) .nil) (.node (o124 P) .nil .nil))))) (.node (boot_o_6 P) (.node (boot_o_10 P) (.node (o18 P) (.node (o34 P) (.node (o66 P) (.node (o130 P) .nil .nil) .nil) (.node (o98 P) (.node (o162 P) .nil .nil) .nil)) (.node (o50 P) (.node (o82 P) (.node (o146 P) .nil .nil) .nil) (.node (o114 P) (.node (o178 P) .nil .nil) .nil))) (.node (o26 P) (.node (o42 P) (.node (o74 P) (.node (o138 P) .nil .nil) .nil) (.node (o106 P) (.node (o170 P) .nil .nil) .nil)) (.node (o58 P) (.node (o90 P) (.node (o154 P) .nil .nil) .nil) (.node (o122 P) .nil .nil)))) (.node (o14 P) (.node (o22 P) (.node (o38 P) (.node (o70 P) (.node (o134 P) .nil .nil) .nil) (.node (o102 P) (.node (o166 P) .nil .nil) .nil)) (.node (o54 P) (.node (o86 P) (.node (o150 P) .nil .nil) .nil) (.node (o118 P) (.node (o182 P) .nil .nil) .nil))) (.node (o30 P) (.node (o46 P) (.node (o78 P) (.node (o142 P) .nil .nil) .nil) (.node (o110 P) (.node (o174 P) .nil .nil) .nil)) (.node (o62 P) (.node (o94 P) (.node (o158 P) .nil .nil) .nil) (.node (o126 P) .nil .nil)))))))
noncomputable def o3v12 (P : Params) : Obj := ⟨(.type "dict"), none, (.dict #[⟨kh P "__name__", (.str "__name__" 165), (.str "law_tr0065_03" 2376)⟩, ⟨kh P "__doc__", (.str "__doc__" 166), .none⟩, ⟨kh P "__package__", (.str "__package__" 167), .none⟩, ⟨kh P "__loader__", (.str "__loader__" 168), (.builtin "__main__.__loader__#opaque")⟩, ⟨kh P "__spec__", (.str "__spec__" 169), .none⟩, ⟨kh P "__annotations__", (.str "__annotations__" 170), (.ref 6)⟩, ⟨kh P "__builtins__", (.str "__builtins__" 171), (.ref 4)⟩, ⟨kh P "__file__", (.str "__file__" 173), (.str "/claim/cut.py" 172)⟩, ⟨kh P "__cached__", (.str "__cached__" 174), .none⟩, ⟨kh P "_wall", (.str "_wall" 193), (.ref 21)⟩, ⟨kh P "Error", (.str "Error" 215), (.ref 31)⟩, ⟨kh P "error_reply", (.str "error_reply" 231), (.ref 44)⟩, ⟨kh P "parse257", (.str "parse257" 242), (.ref 53)⟩, ⟨kh P "b1_set", (.str "b1_set" 304), (.ref 61)⟩, ⟨kh P "in_table_b1", (.str "in_table_b1" 311), (.ref 71)⟩, ⟨kh P "b3_exceptions", (.str "b3_exceptions" 2262), (.ref 72)⟩, ⟨kh P "map_table_b3", (.str "map_table_b3" 2270), (.ref 117)⟩, ⟨kh P "Whitespace", (.str "Whitespace" 2375), (.ref 179)⟩] 18), #[]⟩
noncomputable def t12 (P : Params) : BT := (.node (boot_o_0 P) (.node (boot_o_1 P) (.node (o3v12 P) (.node (boot_o_7 P) (.node (o15 P) (.node (o31v3 P) (.node (o63 P) (.node (o127 P) .nil .nil) .nil) (.node (o95 P) (.node (o159 P) .nil .nil) .nil)) (.node (o47 P) (.node (o79 P) (.node (o143 P) .nil .nil) .nil) (.node (o111 P) (.node (o175 P) .nil .nil) .nil))) (.node (o23 P) (.node (o39 P) (.node (o71 P) (.node (o135 P) .nil .nil) .nil) (.node (o103 P) (.node (o167 P) .nil .nil) .nil)) (.node (o55 P) (.node (o87 P) (.node (o151 P) .nil .nil) .nil) (.node (o119 P) (.node (o183 P) .nil .nil) .nil)))) (.node (o11 P) (.node (o19 P) (.node (o35 P) (.node (o67 P) (.node (o131 P) .nil .nil) .nil) (.node (o99 P) (.node (o163 P) .nil .nil) .nil)) (.node (o51 P) (.node (o83 P) (.node (o147 P) .nil .nil) .nil) (.node (o115 P) (.node (o179 P) .nil .nil) .nil))) (.node (o27 P) (.node (o43 P) (.node (o75 P) (.node (o139 P) .nil .nil) .nil) (.node (o107 P) (.node (o171 P) .nil .nil) .nil)) (.node (o59 P) (.node (o91 P) (.node (o155 P) .nil .nil) .nil) (.node (o123 P) .nil .nil))))) (.node (boot_o_5 P) (.node (boot_o_9 P) (.node (o17 P) (.node (o33 P) (.node (o65 P) (.node (o129 P) .nil .nil) .nil) (.node (o97 P) (.node (o161 P) .nil .nil) .nil)) (.node (o49 P) (.node (o81 P) (.node (o145 P) .nil .nil) .nil) (.node (o113 P) (.node (o177 P) .nil .nil) .nil))) (.node (o25 P) (.node (o41 P) (.node (o73 P) (.node (o137 P) .nil .nil) .nil) (.node (o105 P) (.node (o169 P) .nil .nil) .nil)) (.node (o57 P) (.node (o89 P) (.node (o153 P) .nil .nil) .nil) (.node (o121 P) .nil .nil)))) (.node (o13 P) (.node (o21 P) (.node (o37 P) (.node (o69 P) (.node (o133 P) .nil .nil) .nil) (.node (o101 P) (.node (o165 P) .nil .nil) .nil)) (.node (o53 P) (.node (o85 P) (.node (o149 P) .nil .nil) .nil) (.node (o117 P) (.node (o181 P) .nil .nil) .nil))) (.node (o29 P) (.node (o45 P) (.node (o77 P) (.node (o141 P) .nil .nil) .nil) (.node (o109 P) (.node (o173 P) .nil .nil) .nil)) (.node (o61 P) (.node (o93 P) (.node (o157 P) .nil .nil) .nil) (.node (o125 P) .nil .nil)))))) (.node (o2v2 P) (.node (boot_o_4 P) (.node (boot_o_8 P) (.node (o16 P) (.node (o32 P) (.node (o64 P) (.node (o128 P) .nil .nil) .nil) (.node (o96 P) (.node (o160 P) .nil .nil) .nil)) (.node (o48 P) (.node (o80 P) (.node (o144 P) .nil .nil) .nil) (.node (o112 P) (.node (o176 P) .nil .nil) .nil))) (.node (o24 P) (.node (o40 P) (.node (o72 P) (.node (o136 P) .nil .nil) .nil) (.node (o104 P) (.node (o168 P) .nil .nil) .nil)) (.node (o56 P) (.node (o88 P) (.node (o152 P) .nil .nil) .nil) (.node (o120 P) .nil .nil)))) (.node (o12v11 P) (.node (o20 P) (.node (o36 P) (.node (o68 P) (.node (o132 P) .nil .nil) .nil) (.node (o100 P) (.node (o164 P) .nil .nil) .nil)) (.node (o52 P) (.node (o84 P) (.node (o148 P) .nil .nil) .nil) (.node (o116 P) (.node (o180 P) .nil .nil) .nil))) (.node (o28 P) (.node (o44 P) (.node (o76 P) (.node (o140 P) .nil .nil) .nil) (.node (o108 P) (.node (o172 P) .nil .nil) .nil)) (.node (o60 P) (.node (o92 P) (.node (o156 P) .nil .nil) .nil) (.node (o124 P) .nil .nil))))) (.node (boot_o_6 P) (.node (boot_o_10 P) (.node (o18 P) (.node (o34 P) (.node (o66 P) (.node (o130 P) .nil .nil) .nil) (.node (o98 P) (.node (o162 P) .nil .nil) .nil)) (.node (o50 P) (.node (o82 P) (.node (o146 P) .nil .nil) .nil) (.node (o114 P) (.node (o178 P) .nil .nil) .nil))) (.node (o26 P) (.node (o42 P) (.node (o74 P) (.node (o138 P) .nil .nil) .nil) (.node (o106 P) (.node (o170 P) .nil .nil) .nil)) (.node (o58 P) (.node (o90 P) (.node (o154 P) .nil .nil) .nil) (.node (o122 P) .nil .nil)))) (.node (o14 P) (.node (o22 P) (.node (o38 P) (.node (o70 P) (.node (o134 P) .nil .nil) .nil) (.node (o102 P) (.node (o166 P) .nil .nil) .nil)) (.node (o54 P) (.node (o86 P) (.node (o150 P) .nil .nil) .nil) (.node (o118 P) (.node (o182 P) .nil .nil) .nil))) (.node (o30 P) (.node (o46 P) (.node (o78 P) (.node (o142 P) .nil .nil) .nil) (.node (o110 P) (.node (o174 P) .nil .nil) .nil)) (.node (o62 P) (.node (o94 P) (.node (o158 P) .nil .nil) .nil) (.node (o126 P) .nil .nil)))))))
noncomputable def o3v13 (P : Params) : Obj := ⟨(.type "dict"), none, (.dict #[⟨kh P "__name__", (.str "__name__" 165), (.str "law_tr0065_03" 2376)⟩, ⟨kh P "__doc__", (.str "__doc__" 166), .none⟩, ⟨kh P "__package__", (.str "__package__" 167), .none⟩, ⟨kh P "__loader__", (.str "__loader__" 168), (.builtin "__main__.__loader__#opaque")⟩, ⟨kh P "__spec__", (.str "__spec__" 169), .none⟩, ⟨kh P "__annotations__", (.str "__annotations__" 170), (.ref 6)⟩, ⟨kh P "__builtins__", (.str "__builtins__" 171), (.ref 4)⟩, ⟨kh P "__file__", (.str "__file__" 173), (.str "/claim/cut.py" 172)⟩, ⟨kh P "__cached__", (.str "__cached__" 174), .none⟩, ⟨kh P "_wall", (.str "_wall" 193), (.ref 21)⟩, ⟨kh P "Error", (.str "Error" 215), (.ref 31)⟩, ⟨kh P "error_reply", (.str "error_reply" 231), (.ref 44)⟩, ⟨kh P "parse257", (.str "parse257" 242), (.ref 53)⟩, ⟨kh P "b1_set", (.str "b1_set" 304), (.ref 61)⟩, ⟨kh P "in_table_b1", (.str "in_table_b1" 311), (.ref 71)⟩, ⟨kh P "b3_exceptions", (.str "b3_exceptions" 2262), (.ref 72)⟩, ⟨kh P "map_table_b3", (.str "map_table_b3" 2270), (.ref 117)⟩, ⟨kh P "Whitespace", (.str "Whitespace" 2375), (.ref 179)⟩, ⟨kh P "_law_sign", (.str "_law_sign" 2388), (.ref 190)⟩] 19), #[]⟩
noncomputable def o12v13 (P : Params) : Obj := ⟨.none, none, (.fields #[(.int 1 0), (.int 0 0), (.ref 20), (.int 5 0), (.int 0 0), (.ref 27), (.int 7 0), (.int 0 0), (.ref 40), (.int 9 0), (.int 0 0), (.ref 52), (.int 28 0), (.int 0 0), (.ref 70), (.int 31 0), (.int 0 0), (.ref 116), (.int 37 0), (.int 0 0), (.ref 123), (.int 99 0), (.int 0 0), (.ref 189)]), #[]⟩
noncomputable def o184 (P : Params) : Obj := ⟨(.type "tuple"), none, (.seq #[] 0), #[]⟩
noncomputable def o185 (P : Params) : Obj := ⟨.none, none, (.fields #[]), #[]⟩
noncomputable def o186 (P : Params) : Obj := ⟨(.type "tuple"), none, (.seq #[(.str "x" 2381), (.str "kind" 2382), (.str "more" 2383), (.str "held" 2384), (.str "many" 2385)] 0), #[]⟩
noncomputable def o187 (P : Params) : Obj := ⟨(.type "tuple"), none, (.seq #[] 0), #[]⟩
noncomputable def o188 (P : Params) : Obj := ⟨.none, none, (.func ⟨"_law_sign", "_law_sign", fArgs (st 13), .stmts (fBody (st 13)), fScope (st 13), 0, [], .none, .none, .none, .none, none, .none, .none, 0⟩), #[]⟩
noncomputable def o189 (P : Params) : Obj := ⟨(.type "code"), none, (.fields #[(.str "_law_sign" 2378), (.str "_law_sign" 2379), (.str "/claim/cut.py" 2380), (.int 99 0), (.int 1 0), (.int 0 0), (.int 0 0), (.int 3 0), (.ref 184), (.bool true), (.int 181 0), (.ref 185), .none, (.ref 186), (.ref 187), (.ref 188), (.int 2386 0), (.int 99 0), (.str "/claim/cut.py" 2387)]), #[]⟩
noncomputable def o190 (P : Params) : Obj := ⟨(.type "function"), none, (.func ⟨"_law_sign", "_law_sign", fArgs (st 13), .stmts (fBody (st 13)), fScope (st 13), 3, [], .none, .none, .none, (.str "law_tr0065_03" 2376), none, (.ref 189), .none, 0⟩), #[]⟩
noncomputable def t13 (P : Params) : BT := (.node (boot_o_0 P) (.node (boot_o_1 P) (.node (o3v13 P) (.node (boot_o_7 P) (.node (o15 P) (.node (o31v3 P) (.node (o63 P) (.node (o127 P) .nil .nil) .nil) (.node (o95 P) (.node (o159 P) .nil .nil) .nil)) (.node (o47 P) (.node (o79 P) (.node (o143 P) .nil .nil) .nil) (.node (o111 P) (.node (o175 P) .nil .nil) .nil))) (.node (o23 P) (.node (o39 P) (.node (o71 P) (.node (o135 P) .nil .nil) .nil) (.node (o103 P) (.node (o167 P) .nil .nil) .nil)) (.node (o55 P) (.node (o87 P) (.node (o151 P) .nil .nil) .nil) (.node (o119 P) (.node (o183 P) .nil .nil) .nil)))) (.node (o11 P) (.node (o19 P) (.node (o35 P) (.node (o67 P) (.node (o131 P) .nil .nil) .nil) (.node (o99 P) (.node (o163 P) .nil .nil) .nil)) (.node (o51 P) (.node (o83 P) (.node (o147 P) .nil .nil) .nil) (.node (o115 P) (.node (o179 P) .nil .nil) .nil))) (.node (o27 P) (.node (o43 P) (.node (o75 P) (.node (o139 P) .nil .nil) .nil) (.node (o107 P) (.node (o171 P) .nil .nil) .nil)) (.node (o59 P) (.node (o91 P) (.node (o155 P) .nil .nil) .nil) (.node (o123 P) (.node (o187 P) .nil .nil) .nil))))) (.node (boot_o_5 P) (.node (boot_o_9 P) (.node (o17 P) (.node (o33 P) (.node (o65 P) (.node (o129 P) .nil .nil) .nil) (.node (o97 P) (.node (o161 P) .nil .nil) .nil)) (.node (o49 P) (.node (o81 P) (.node (o145 P) .nil .nil) .nil) (.node (o113 P) (.node (o177 P) .nil .nil) .nil))) (.node (o25 P) (.node (o41 P) (.node (o73 P) (.node (o137 P) .nil .nil) .nil) (.node (o105 P) (.node (o169 P) .nil .nil) .nil)) (.node (o57 P) (.node (o89 P) (.node (o153 P) .nil .nil) .nil) (.node (o121 P) (.node (o185 P) .nil .nil) .nil)))) (.node (o13 P) (.node (o21 P) (.node (o37 P) (.node (o69 P) (.node (o133 P) .nil .nil) .nil) (.node (o101 P) (.node (o165 P) .nil .nil) .nil)) (.node (o53 P) (.node (o85 P) (.node (o149 P) .nil .nil) .nil) (.node (o117 P) (.node (o181 P) .nil .nil) .nil))) (.node (o29 P) (.node (o45 P) (.node (o77 P) (.node (o141 P) .nil .nil) .nil) (.node (o109 P) (.node (o173 P) .nil .nil) .nil)) (.node (o61 P) (.node (o93 P) (.node (o157 P) .nil .nil) .nil) (.node (o125 P) (.node (o189 P) .nil .nil) .nil)))))) (.node (o2v2 P) (.node (boot_o_4 P) (.node (boot_o_8 P) (.node (o16 P) (.node (o32 P) (.node (o64 P) (.node (o128 P) .nil .nil) .nil) (.node (o96 P) (.node (o160 P) .nil .nil) .nil)) (.node (o48 P) (.node (o80 P) (.node (o144 P) .nil .nil) .nil) (.node (o112 P) (.node (o176 P) .nil .nil) .nil))) (.node (o24 P) (.node (o40 P) (.node (o72 P) (.node (o136 P) .nil .nil) .nil) (.node (o104 P) (.node (o168 P) .nil .nil) .nil)) (.node (o56 P) (.node (o88 P) (.node (o152 P) .nil .nil) .nil) (.node (o120 P) (.node (o184 P) .nil .nil) .nil)))) (.node (o12v13 P) (.node (o20 P) (.node (o36 P) (.node (o68 P) (.node (o132 P) .nil .nil) .nil) (.node (o100 P) (.node (o164 P) .nil .nil) .nil)) (.node (o52 P) (.node (o84 P) (.node (o148 P) .nil .nil) .nil) (.node (o116 P) (.node (o180 P) .nil .nil) .nil))) (.node (o28 P) (.node (o44 P) (.node (o76 P) (.node (o140 P) .nil .nil) .nil) (.node (o108 P) (.node (o172 P) .nil .nil) .nil)) (.node (o60 P) (.node (o92 P) (.node (o156 P) .nil .nil) .nil) (.node (o124 P) (.node (o188 P) .nil .nil) .nil))))) (.node (boot_o_6 P) (.node (boot_o_10 P) (.node (o18 P) (.node (o34 P) (.node (o66 P) (.node (o130 P) .nil .nil) .nil) (.node (o98 P) (.node (o162 P) .nil .nil) .nil)) (.node (o50 P) (.node (o82 P) (.node (o146 P) .nil .nil) .nil) (.node (o114 P) (.node (o178 P) .nil .nil) .nil))) (.node (o26 P) (.node (o42 P) (.node (o74 P) (.node (o138 P) .nil .nil) .nil) (.node (o106 P) (.node (o170 P) .nil .nil) .nil)) (.node (o58 P) (.node (o90 P) (.node (o154 P) .nil .nil) .nil) (.node (o122 P) (.node (o186 P) .nil .nil) .nil)))) (.node (o14 P) (.node (o22 P) (.node (o38 P) (.node (o70 P) (.node (o134 P) .nil .nil) .nil) (.node (o102 P) (.node (o166 P) .nil .nil) .nil)) (.node (o54 P) (.node (o86 P) (.node (o150 P) .nil .nil) .nil) (.node (o118 P) (.node (o182 P) .nil .nil) .nil))) (.node (o30 P) (.node (o46 P) (.node (o78 P) (.node (o142 P) .nil .nil) .nil) (.node (o110 P) (.node (o174 P) .nil .nil) .nil)) (.node (o62 P) (.node (o94 P) (.node (o158 P) .nil .nil) .nil) (.node (o126 P) (.node (o190 P) .nil .nil) .nil)))))))
noncomputable def o3v14 (P : Params) : Obj := ⟨(.type "dict"), none, (.dict #[⟨kh P "__name__", (.str "__name__" 165), (.str "law_tr0065_03" 2376)⟩, ⟨kh P "__doc__", (.str "__doc__" 166), .none⟩, ⟨kh P "__package__", (.str "__package__" 167), .none⟩, ⟨kh P "__loader__", (.str "__loader__" 168), (.builtin "__main__.__loader__#opaque")⟩, ⟨kh P "__spec__", (.str "__spec__" 169), .none⟩, ⟨kh P "__annotations__", (.str "__annotations__" 170), (.ref 6)⟩, ⟨kh P "__builtins__", (.str "__builtins__" 171), (.ref 4)⟩, ⟨kh P "__file__", (.str "__file__" 173), (.str "/claim/cut.py" 172)⟩, ⟨kh P "__cached__", (.str "__cached__" 174), .none⟩, ⟨kh P "_wall", (.str "_wall" 193), (.ref 21)⟩, ⟨kh P "Error", (.str "Error" 215), (.ref 31)⟩, ⟨kh P "error_reply", (.str "error_reply" 231), (.ref 44)⟩, ⟨kh P "parse257", (.str "parse257" 242), (.ref 53)⟩, ⟨kh P "b1_set", (.str "b1_set" 304), (.ref 61)⟩, ⟨kh P "in_table_b1", (.str "in_table_b1" 311), (.ref 71)⟩, ⟨kh P "b3_exceptions", (.str "b3_exceptions" 2262), (.ref 72)⟩, ⟨kh P "map_table_b3", (.str "map_table_b3" 2270), (.ref 117)⟩, ⟨kh P "Whitespace", (.str "Whitespace" 2375), (.ref 179)⟩, ⟨kh P "_law_sign", (.str "_law_sign" 2388), (.ref 190)⟩, ⟨kh P "_law_named", (.str "_law_named" 2398), (.ref 197)⟩] 20), #[]⟩
noncomputable def o12v14 (P : Params) : Obj := ⟨.none, none, (.fields #[(.int 1 0), (.int 0 0), (.ref 20), (.int 5 0), (.int 0 0), (.ref 27), (.int 7 0), (.int 0 0), (.ref 40), (.int 9 0), (.int 0 0), (.ref 52), (.int 28 0), (.int 0 0), (.ref 70), (.int 31 0), (.int 0 0), (.ref 116), (.int 37 0), (.int 0 0), (.ref 123), (.int 99 0), (.int 0 0), (.ref 189), (.int 112 0), (.int 0 0), (.ref 196)]), #[]⟩
noncomputable def o191 (P : Params) : Obj := ⟨(.type "tuple"), none, (.seq #[] 0), #[]⟩
noncomputable def o192 (P : Params) : Obj := ⟨.none, none, (.fields #[]), #[]⟩
noncomputable def o193 (P : Params) : Obj := ⟨(.type "tuple"), none, (.seq #[(.str "text" 2392), (.str "pieces" 2393), (.str "name" 2394), (.str "k" 2395)] 0), #[]⟩
noncomputable def o194 (P : Params) : Obj := ⟨(.type "tuple"), none, (.seq #[] 0), #[]⟩
noncomputable def o195 (P : Params) : Obj := ⟨.none, none, (.func ⟨"_law_named", "_law_named", fArgs (st 14), .stmts (fBody (st 14)), fScope (st 14), 0, [], .none, .none, .none, .none, none, .none, .none, 0⟩), #[]⟩
noncomputable def o196 (P : Params) : Obj := ⟨(.type "code"), none, (.fields #[(.str "_law_named" 2389), (.str "_law_named" 2390), (.str "/claim/cut.py" 2391), (.int 112 0), (.int 1 0), (.int 0 0), (.int 0 0), (.int 3 0), (.ref 191), (.bool true), (.int 181 0), (.ref 192), .none, (.ref 193), (.ref 194), (.ref 195), (.int 2396 0), (.int 112 0), (.str "/claim/cut.py" 2397)]), #[]⟩
noncomputable def o197 (P : Params) : Obj := ⟨(.type "function"), none, (.func ⟨"_law_named", "_law_named", fArgs (st 14), .stmts (fBody (st 14)), fScope (st 14), 3, [], .none, .none, .none, (.str "law_tr0065_03" 2376), none, (.ref 196), .none, 0⟩), #[]⟩
noncomputable def t14 (P : Params) : BT := (.node (boot_o_0 P) (.node (boot_o_1 P) (.node (o3v14 P) (.node (boot_o_7 P) (.node (o15 P) (.node (o31v3 P) (.node (o63 P) (.node (o127 P) .nil .nil) (.node (o191 P) .nil .nil)) (.node (o95 P) (.node (o159 P) .nil .nil) .nil)) (.node (o47 P) (.node (o79 P) (.node (o143 P) .nil .nil) .nil) (.node (o111 P) (.node (o175 P) .nil .nil) .nil))) (.node (o23 P) (.node (o39 P) (.node (o71 P) (.node (o135 P) .nil .nil) .nil) (.node (o103 P) (.node (o167 P) .nil .nil) .nil)) (.node (o55 P) (.node (o87 P) (.node (o151 P) .nil .nil) .nil) (.node (o119 P) (.node (o183 P) .nil .nil) .nil)))) (.node (o11 P) (.node (o19 P) (.node (o35 P) (.node (o67 P) (.node (o131 P) .nil .nil) (.node (o195 P) .nil .nil)) (.node (o99 P) (.node (o163 P) .nil .nil) .nil)) (.node (o51 P) (.node (o83 P) (.node (o147 P) .nil .nil) .nil) (.node (o115 P) (.node (o179 P) .nil .nil) .nil))) (.node (o27 P) (.node (o43 P) (.node (o75 P) (.node (o139 P) .nil .nil) .nil) (.node (o107 P) (.node (o171 P) .nil .nil) .nil)) (.node (o59 P) (.node (o91 P) (.node (o155 P) .nil .nil) .nil) (.node (o123 P) (.node (o187 P) .nil .nil) .nil))))) (.node (boot_o_5 P) (.node (boot_o_9 P) (.node (o17 P) (.node (o33 P) (.node (o65 P) (.node (o129 P) .nil .nil) (.node (o193 P) .nil .nil)) (.node (o97 P) (.node (o161 P) .nil .nil) .nil)) (.node (o49 P) (.node (o81 P) (.node (o145 P) .nil .nil) .nil) (.node (o113 P) (.node (o177 P) .nil .nil) .nil))) (.node (o25 P) (.node (o41 P) (.node (o73 P) (.node (o137 P) .nil .nil) .nil) (.node (o105 P) (.node (o169 P) .nil .nil) .nil)) (.node (o57 P) (.node (o89 P) (.node (o153 P) .nil .nil) .nil) (.node (o121 P) (.node (o185 P) .nil .nil) .nil)))) (.node (o13 P) (.node (o21 P) (.node (o37 P) (.node (o69 P) (.node (o133 P) .nil .nil) (.node (o197 P) .nil .nil)) (.node (o101 P) (.node (o165 P) .nil .nil) .nil)) (.node (o53 P) (.node (o85 P) (.node (o149 P) .nil .nil) .nil) (.node (o117 P) (.node (o181 P) .nil .nil) .nil))) (.node (o29 P) (.node (o45 P) (.node (o77 P) (.node (o141 P) .nil .nil) .nil) (.node (o109 P) (.node (o173 P) .nil .nil) .nil)) (.node (o61 P) (.node (o93 P) (.node (o157 P) .nil .nil) .nil) (.node (o125 P) (.node (o189 P) .nil .nil) .nil)))))) (.node (o2v2 P) (.node (boot_o_4 P) (.node (boot_o_8 P) (.node (o16 P) (.node (o32 P) (.node (o64 P) (.node (o128 P) .nil .nil) (.node (o192 P) .nil .nil)) (.node (o96 P) (.node (o160 P) .nil .nil) .nil)) (.node (o48 P) (.node (o80 P) (.node (o144 P) .nil .nil) .nil) (.node (o112 P) (.node (o176 P) .nil .nil) .nil))) (.node (o24 P) (.node (o40 P) (.node (o72 P) (.node (o136 P) .nil .nil) .nil) (.node (o104 P) (.node (o168 P) .nil .nil) .nil)) (.node (o56 P) (.node (o88 P) (.node (o152 P) .nil .nil) .nil) (.node (o120 P) (.node (o184 P) .nil .nil) .nil)))) (.node (o12v14 P) (.node (o20 P) (.node (o36 P) (.node (o68 P) (.node (o132 P) .nil .nil) (.node (o196 P) .nil .nil)) (.node (o100 P) (.node (o164 P) .nil .nil) .nil)) (.node (o52 P) (.node (o84 P) (.node (o148 P) .nil .nil) .nil) (.node (o116 P) (.node (o180 P) .nil .nil) .nil))) (.node (o28 P) (.node (o44 P) (.node (o76 P) (.node (o140 P) .nil .nil) .nil) (.node (o108 P) (.node (o172 P) .nil .nil) .nil)) (.node (o60 P) (.node (o92 P) (.node (o156 P) .nil .nil) .nil) (.node (o124 P) (.node (o188 P) .nil .nil) .nil))))) (.node (boot_o_6 P) (.node (boot_o_10 P) (.node (o18 P) (.node (o34 P) (.node (o66 P) (.node (o130 P) .nil .nil) (.node (o194 P) .nil .nil)) (.node (o98 P) (.node (o162 P) .nil .nil) .nil)) (.node (o50 P) (.node (o82 P) (.node (o146 P) .nil .nil) .nil) (.node (o114 P) (.node (o178 P) .nil .nil) .nil))) (.node (o26 P) (.node (o42 P) (.node (o74 P) (.node (o138 P) .nil .nil) .nil) (.node (o106 P) (.node (o170 P) .nil .nil) .nil)) (.node (o58 P) (.node (o90 P) (.node (o154 P) .nil .nil) .nil) (.node (o122 P) (.node (o186 P) .nil .nil) .nil)))) (.node (o14 P) (.node (o22 P) (.node (o38 P) (.node (o70 P) (.node (o134 P) .nil .nil) .nil) (.node (o102 P) (.node (o166 P) .nil .nil) .nil)) (.node (o54 P) (.node (o86 P) (.node (o150 P) .nil .nil) .nil) (.node (o118 P) (.node (o182 P) .nil .nil) .nil))) (.node (o30 P) (.node (o46 P) (.node (o78 P) (.node (o142 P) .nil .nil) .nil) (.node (o110 P) (.node (o174 P) .nil .nil) .nil)) (.node (o62 P) (.node (o94 P) (.node (o158 P) .nil .nil) .nil) (.node (o126 P) (.node (o190 P) .nil .nil) .nil)))))))
noncomputable def o3v15 (P : Params) : Obj := ⟨(.type "dict"), none, (.dict #[⟨kh P "__name__", (.str "__name__" 165), (.str "law_tr0065_03" 2376)⟩, ⟨kh P "__doc__", (.str "__doc__" 166), .none⟩, ⟨kh P "__package__", (.str "__package__" 167), .none⟩, ⟨kh P "__loader__", (.str "__loader__" 168), (.builtin "__main__.__loader__#opaque")⟩, ⟨kh P "__spec__", (.str "__spec__" 169), .none⟩, ⟨kh P "__annotations__", (.str "__annotations__" 170), (.ref 6)⟩, ⟨kh P "__builtins__", (.str "__builtins__" 171), (.ref 4)⟩, ⟨kh P "__file__", (.str "__file__" 173), (.str "/claim/cut.py" 172)⟩, ⟨kh P "__cached__", (.str "__cached__" 174), .none⟩, ⟨kh P "_wall", (.str "_wall" 193), (.ref 21)⟩, ⟨kh P "Error", (.str "Error" 215), (.ref 31)⟩, ⟨kh P "error_reply", (.str "error_reply" 231), (.ref 44)⟩, ⟨kh P "parse257", (.str "parse257" 242), (.ref 53)⟩, ⟨kh P "b1_set", (.str "b1_set" 304), (.ref 61)⟩, ⟨kh P "in_table_b1", (.str "in_table_b1" 311), (.ref 71)⟩, ⟨kh P "b3_exceptions", (.str "b3_exceptions" 2262), (.ref 72)⟩, ⟨kh P "map_table_b3", (.str "map_table_b3" 2270), (.ref 117)⟩, ⟨kh P "Whitespace", (.str "Whitespace" 2375), (.ref 179)⟩, ⟨kh P "_law_sign", (.str "_law_sign" 2388), (.ref 190)⟩, ⟨kh P "_law_named", (.str "_law_named" 2398), (.ref 197)⟩, ⟨kh P "_law_lead", (.str "_law_lead" 2406), (.ref 204)⟩] 21), #[]⟩
noncomputable def o12v15 (P : Params) : Obj := ⟨.none, none, (.fields #[(.int 1 0), (.int 0 0), (.ref 20), (.int 5 0), (.int 0 0), (.ref 27), (.int 7 0), (.int 0 0), (.ref 40), (.int 9 0), (.int 0 0), (.ref 52), (.int 28 0), (.int 0 0), (.ref 70), (.int 31 0), (.int 0 0), (.ref 116), (.int 37 0), (.int 0 0), (.ref 123), (.int 99 0), (.int 0 0), (.ref 189), (.int 112 0), (.int 0 0), (.ref 196), (.int 120 0), (.int 0 0), (.ref 203)]), #[]⟩
noncomputable def o198 (P : Params) : Obj := ⟨(.type "tuple"), none, (.seq #[] 0), #[]⟩
noncomputable def o199 (P : Params) : Obj := ⟨.none, none, (.fields #[]), #[]⟩
noncomputable def o200 (P : Params) : Obj := ⟨(.type "tuple"), none, (.seq #[(.str "name" 2402), (.str "k" 2403)] 0), #[]⟩
noncomputable def o201 (P : Params) : Obj := ⟨(.type "tuple"), none, (.seq #[] 0), #[]⟩
noncomputable def o202 (P : Params) : Obj := ⟨.none, none, (.func ⟨"_law_lead", "_law_lead", fArgs (st 15), .stmts (fBody (st 15)), fScope (st 15), 0, [], .none, .none, .none, .none, none, .none, .none, 0⟩), #[]⟩
noncomputable def o203 (P : Params) : Obj := ⟨(.type "code"), none, (.fields #[(.str "_law_lead" 2399), (.str "_law_lead" 2400), (.str "/claim/cut.py" 2401), (.int 120 0), (.int 1 0), (.int 0 0), (.int 0 0), (.int 3 0), (.ref 198), (.bool true), (.int 181 0), (.ref 199), .none, (.ref 200), (.ref 201), (.ref 202), (.int 2404 0), (.int 120 0), (.str "/claim/cut.py" 2405)]), #[]⟩
noncomputable def o204 (P : Params) : Obj := ⟨(.type "function"), none, (.func ⟨"_law_lead", "_law_lead", fArgs (st 15), .stmts (fBody (st 15)), fScope (st 15), 3, [], .none, .none, .none, (.str "law_tr0065_03" 2376), none, (.ref 203), .none, 0⟩), #[]⟩
noncomputable def t15 (P : Params) : BT := (.node (boot_o_0 P) (.node (boot_o_1 P) (.node (o3v15 P) (.node (boot_o_7 P) (.node (o15 P) (.node (o31v3 P) (.node (o63 P) (.node (o127 P) .nil .nil) (.node (o191 P) .nil .nil)) (.node (o95 P) (.node (o159 P) .nil .nil) .nil)) (.node (o47 P) (.node (o79 P) (.node (o143 P) .nil .nil) .nil) (.node (o111 P) (.node (o175 P) .nil .nil) .nil))) (.node (o23 P) (.node (o39 P) (.node (o71 P) (.node (o135 P) .nil .nil) (.node (o199 P) .nil .nil)) (.node (o103 P) (.node (o167 P) .nil .nil) .nil)) (.node (o55 P) (.node (o87 P) (.node (o151 P) .nil .nil) .nil) (.node (o119 P) (.node (o183 P) .nil .nil) .nil)))) (.node (o11 P) (.node (o19 P) (.node (o35 P) (.node (o67 P) (.node (o131 P) .nil .nil) (.node (o195 P) .nil .nil)) (.node (o99 P) (.node (o163 P) .nil .nil) .nil)) (.node (o51 P) (.node (o83 P) (.node (o147 P) .nil .nil) .nil) (.node (o115 P) (.node (o179 P) .nil .nil) .nil))) (.node (o27 P) (.node (o43 P) (.node (o75 P) (.node (o139 P) .nil .nil) (.node (o203 P) .nil .nil)) (.node (o107 P) (.node (o171 P) .nil .nil) .nil)) (.node (o59 P) (.node (o91 P) (.node (o155 P) .nil .nil) .nil) (.node (o123 P) (.node (o187 P) .nil .nil) .nil))))) (.node (boot_o_5 P) (.node (boot_o_9 P) (.node (o17 P) (.node (o33 P) (.node (o65 P) (.node (o129 P) .nil .nil) (.node (o193 P) .nil .nil)) (.node (o97 P) (.node (o161 P) .nil .nil) .nil)) (.node (o49 P) (.node (o81 P) (.node (o145 P) .nil .nil) .nil) (.node (o113 P) (.node (o177 P) .nil .nil) .nil))) (.node (o25 P) (.node (o41 P) (.node (o73 P) (.node (o137 P) .nil .nil) (.node (o201 P) .nil .nil)) (.node (o105 P) (.node (o169 P) .nil .nil) .nil)) (.node (o57 P) (.node (o89 P) (.node (o153 P) .nil .nil) .nil) (.node (o121 P) (.node (o185 P) .nil .nil) .nil)))) (.node (o13 P) (.node (o21 P) (.node (o37 P) (.node (o69 P) (.node (o133 P) .nil .nil) (.node (o197 P) .nil .nil)) (.node (o101 P) (.node (o165 P) .nil .nil) .nil)) (.node (o53 P) (.node (o85 P) (.node (o149 P) .nil .nil) .nil) (.node (o117 P) (.node (o181 P) .nil .nil) .nil))) (.node (o29 P) (.node (o45 P) (.node (o77 P) (.node (o141 P) .nil .nil) .nil) (.node (o109 P) (.node (o173 P) .nil .nil) .nil)) (.node (o61 P) (.node (o93 P) (.node (o157 P) .nil .nil) .nil) (.node (o125 P) (.node (o189 P) .nil .nil) .nil)))))) (.node (o2v2 P) (.node (boot_o_4 P) (.node (boot_o_8 P) (.node (o16 P) (.node (o32 P) (.node (o64 P) (.node (o128 P) .nil .nil) (.node (o192 P) .nil .nil)) (.node (o96 P) (.node (o160 P) .nil .nil) .nil)) (.node (o48 P) (.node (o80 P) (.node (o144 P) .nil .nil) .nil) (.node (o112 P) (.node (o176 P) .nil .nil) .nil))) (.node (o24 P) (.node (o40 P) (.node (o72 P) (.node (o136 P) .nil .nil) (.node (o200 P) .nil .nil)) (.node (o104 P) (.node (o168 P) .nil .nil) .nil)) (.node (o56 P) (.node (o88 P) (.node (o152 P) .nil .nil) .nil) (.node (o120 P) (.node (o184 P) .nil .nil) .nil)))) (.node (o12v15 P) (.node (o20 P) (.node (o36 P) (.node (o68 P) (.node (o132 P) .nil .nil) (.node (o196 P) .nil .nil)) (.node (o100 P) (.node (o164 P) .nil .nil) .nil)) (.node (o52 P) (.node (o84 P) (.node (o148 P) .nil .nil) .nil) (.node (o116 P) (.node (o180 P) .nil .nil) .nil))) (.node (o28 P) (.node (o44 P) (.node (o76 P) (.node (o140 P) .nil .nil) (.node (o204 P) .nil .nil)) (.node (o108 P) (.node (o172 P) .nil .nil) .nil)) (.node (o60 P) (.node (o92 P) (.node (o156 P) .nil .nil) .nil) (.node (o124 P) (.node (o188 P) .nil .nil) .nil))))) (.node (boot_o_6 P) (.node (boot_o_10 P) (.node (o18 P) (.node (o34 P) (.node (o66 P) (.node (o130 P) .nil .nil) (.node (o194 P) .nil .nil)) (.node (o98 P) (.node (o162 P) .nil .nil) .nil)) (.node (o50 P) (.node (o82 P) (.node (o146 P) .nil .nil) .nil) (.node (o114 P) (.node (o178 P) .nil .nil) .nil))) (.node (o26 P) (.node (o42 P) (.node (o74 P) (.node (o138 P) .nil .nil) (.node (o202 P) .nil .nil)) (.node (o106 P) (.node (o170 P) .nil .nil) .nil)) (.node (o58 P) (.node (o90 P) (.node (o154 P) .nil .nil) .nil) (.node (o122 P) (.node (o186 P) .nil .nil) .nil)))) (.node (o14 P) (.node (o22 P) (.node (o38 P) (.node (o70 P) (.node (o134 P) .nil .nil) (.node (o198 P) .nil .nil)) (.node (o102 P) (.node (o166 P) .nil .nil) .nil)) (.node (o54 P) (.node (o86 P) (.node (o150 P) .nil .nil) .nil) (.node (o118 P) (.node (o182 P) .nil .nil) .nil))) (.node (o30 P) (.node (o46 P) (.node (o78 P) (.node (o142 P) .nil .nil) .nil) (.node (o110 P) (.node (o174 P) .nil .nil) .nil)) (.node (o62 P) (.node (o94 P) (.node (o158 P) .nil .nil) .nil) (.node (o126 P) (.node (o190 P) .nil .nil) .nil)))))))
noncomputable def o3v16 (P : Params) : Obj := ⟨(.type "dict"), none, (.dict #[⟨kh P "__name__", (.str "__name__" 165), (.str "law_tr0065_03" 2376)⟩, ⟨kh P "__doc__", (.str "__doc__" 166), .none⟩, ⟨kh P "__package__", (.str "__package__" 167), .none⟩, ⟨kh P "__loader__", (.str "__loader__" 168), (.builtin "__main__.__loader__#opaque")⟩, ⟨kh P "__spec__", (.str "__spec__" 169), .none⟩, ⟨kh P "__annotations__", (.str "__annotations__" 170), (.ref 6)⟩, ⟨kh P "__builtins__", (.str "__builtins__" 171), (.ref 4)⟩, ⟨kh P "__file__", (.str "__file__" 173), (.str "/claim/cut.py" 172)⟩, ⟨kh P "__cached__", (.str "__cached__" 174), .none⟩, ⟨kh P "_wall", (.str "_wall" 193), (.ref 21)⟩, ⟨kh P "Error", (.str "Error" 215), (.ref 31)⟩, ⟨kh P "error_reply", (.str "error_reply" 231), (.ref 44)⟩, ⟨kh P "parse257", (.str "parse257" 242), (.ref 53)⟩, ⟨kh P "b1_set", (.str "b1_set" 304), (.ref 61)⟩, ⟨kh P "in_table_b1", (.str "in_table_b1" 311), (.ref 71)⟩, ⟨kh P "b3_exceptions", (.str "b3_exceptions" 2262), (.ref 72)⟩, ⟨kh P "map_table_b3", (.str "map_table_b3" 2270), (.ref 117)⟩, ⟨kh P "Whitespace", (.str "Whitespace" 2375), (.ref 179)⟩, ⟨kh P "_law_sign", (.str "_law_sign" 2388), (.ref 190)⟩, ⟨kh P "_law_named", (.str "_law_named" 2398), (.ref 197)⟩, ⟨kh P "_law_lead", (.str "_law_lead" 2406), (.ref 204)⟩, ⟨kh P "_law_column", (.str "_law_column" 2416), (.ref 211)⟩] 22), #[]⟩
noncomputable def o12v16 (P : Params) : Obj := ⟨.none, none, (.fields #[(.int 1 0), (.int 0 0), (.ref 20), (.int 5 0), (.int 0 0), (.ref 27), (.int 7 0), (.int 0 0), (.ref 40), (.int 9 0), (.int 0 0), (.ref 52), (.int 28 0), (.int 0 0), (.ref 70), (.int 31 0), (.int 0 0), (.ref 116), (.int 37 0), (.int 0 0), (.ref 123), (.int 99 0), (.int 0 0), (.ref 189), (.int 112 0), (.int 0 0), (.ref 196), (.int 120 0), (.int 0 0), (.ref 203), (.int 125 0), (.int 0 0), (.ref 210)]), #[]⟩
noncomputable def o205 (P : Params) : Obj := ⟨(.type "tuple"), none, (.seq #[] 0), #[]⟩
noncomputable def o206 (P : Params) : Obj := ⟨.none, none, (.fields #[]), #[]⟩
noncomputable def o207 (P : Params) : Obj := ⟨(.type "tuple"), none, (.seq #[(.str "lead" 2410), (.str "size" 2411), (.str "column" 2412), (.str "sign" 2413)] 0), #[]⟩
noncomputable def o208 (P : Params) : Obj := ⟨(.type "tuple"), none, (.seq #[] 0), #[]⟩
noncomputable def o209 (P : Params) : Obj := ⟨.none, none, (.func ⟨"_law_column", "_law_column", fArgs (st 16), .stmts (fBody (st 16)), fScope (st 16), 0, [], .none, .none, .none, .none, none, .none, .none, 0⟩), #[]⟩
noncomputable def o210 (P : Params) : Obj := ⟨(.type "code"), none, (.fields #[(.str "_law_column" 2407), (.str "_law_column" 2408), (.str "/claim/cut.py" 2409), (.int 125 0), (.int 2 0), (.int 0 0), (.int 0 0), (.int 3 0), (.ref 205), (.bool true), (.int 181 0), (.ref 206), .none, (.ref 207), (.ref 208), (.ref 209), (.int 2414 0), (.int 125 0), (.str "/claim/cut.py" 2415)]), #[]⟩
noncomputable def o211 (P : Params) : Obj := ⟨(.type "function"), none, (.func ⟨"_law_column", "_law_column", fArgs (st 16), .stmts (fBody (st 16)), fScope (st 16), 3, [], .none, .none, .none, (.str "law_tr0065_03" 2376), none, (.ref 210), .none, 0⟩), #[]⟩
noncomputable def t16 (P : Params) : BT := (.node (boot_o_0 P) (.node (boot_o_1 P) (.node (o3v16 P) (.node (boot_o_7 P) (.node (o15 P) (.node (o31v3 P) (.node (o63 P) (.node (o127 P) .nil .nil) (.node (o191 P) .nil .nil)) (.node (o95 P) (.node (o159 P) .nil .nil) .nil)) (.node (o47 P) (.node (o79 P) (.node (o143 P) .nil .nil) (.node (o207 P) .nil .nil)) (.node (o111 P) (.node (o175 P) .nil .nil) .nil))) (.node (o23 P) (.node (o39 P) (.node (o71 P) (.node (o135 P) .nil .nil) (.node (o199 P) .nil .nil)) (.node (o103 P) (.node (o167 P) .nil .nil) .nil)) (.node (o55 P) (.node (o87 P) (.node (o151 P) .nil .nil) .nil) (.node (o119 P) (.node (o183 P) .nil .nil) .nil)))) (.node (o11 P) (.node (o19 P) (.node (o35 P) (.node (o67 P) (.node (o131 P) .nil .nil) (.node (o195 P) .nil .nil)) (.node (o99 P) (.node (o163 P) .nil .nil) .nil)) (.node (o51 P) (.node (o83 P) (.node (o147 P) .nil .nil) (.node (o211 P) .nil .nil)) (.node (o115 P) (.node (o179 P) .nil .nil) .nil))) (.node (o27 P) (.node (o43 P) (.node (o75 P) (.node (o139 P) .nil .nil) (.node (o203 P) .nil .nil)) (.node (o107 P) (.node (o171 P) .nil .nil) .nil)) (.node (o59 P) (.node (o91 P) (.node (o155 P) .nil .nil) .nil) (.node (o123 P) (.node (o187 P) .nil .nil) .nil))))) (.node (boot_o_5 P) (.node (boot_o_9 P) (.node (o17 P) (.node (o33 P) (.node (o65 P) (.node (o129 P) .nil .nil) (.node (o193 P) .nil .nil)) (.node (o97 P) (.node (o161 P) .nil .nil) .nil)) (.node (o49 P) (.node (o81 P) (.node (o145 P) .nil .nil) (.node (o209 P) .nil .nil)) (.node (o113 P) (.node (o177 P) .nil .nil) .nil))) (.node (o25 P) (.node (o41 P) (.node (o73 P) (.node (o137 P) .nil .nil) (.node (o201 P) .nil .nil)) (.node (o105 P) (.node (o169 P) .nil .nil) .nil)) (.node (o57 P) (.node (o89 P) (.node (o153 P) .nil .nil) .nil) (.node (o121 P) (.node (o185 P) .nil .nil) .nil)))) (.node (o13 P) (.node (o21 P) (.node (o37 P) (.node (o69 P) (.node (o133 P) .nil .nil) (.node (o197 P) .nil .nil)) (.node (o101 P) (.node (o165 P) .nil .nil) .nil)) (.node (o53 P) (.node (o85 P) (.node (o149 P) .nil .nil) .nil) (.node (o117 P) (.node (o181 P) .nil .nil) .nil))) (.node (o29 P) (.node (o45 P) (.node (o77 P) (.node (o141 P) .nil .nil) (.node (o205 P) .nil .nil)) (.node (o109 P) (.node (o173 P) .nil .nil) .nil)) (.node (o61 P) (.node (o93 P) (.node (o157 P) .nil .nil) .nil) (.node (o125 P) (.node (o189 P) .nil .nil) .nil)))))) (.node (o2v2 P) (.node (boot_o_4 P) (.node (boot_o_8 P) (.node (o16 P) (.node (o32 P) (.node (o64 P) (.node (o128 P) .nil .nil) (.node (o192 P) .nil .nil)) (.node (o96 P) (.node (o160 P) .nil .nil) .nil)) (.node (o48 P) (.node (o80 P) (.node (o144 P) .nil .nil) (.node (o208 P) .nil .nil)) (.node (o112 P) (.node (o176 P) .nil .nil) .nil))) (.node (o24 P) (.node (o40 P) (.node (o72 P) (.node (o136 P) .nil .nil) (.node (o200 P) .nil .nil)) (.node (o104 P) (.node (o168 P) .nil .nil) .nil)) (.node (o56 P) (.node (o88 P) (.node (o152 P) .nil .nil) .nil) (.node (o120 P) (.node (o184 P) .nil .nil) .nil)))) (.node (o12v16 P) (.node (o20 P) (.node (o36 P) (.node (o68 P) (.node (o132 P) .nil .nil) (.node (o196 P) .nil .nil)) (.node (o100 P) (.node (o164 P) .nil .nil) .nil)) (.node (o52 P) (.node (o84 P) (.node (o148 P) .nil .nil) .nil) (.node (o116 P) (.node (o180 P) .nil .nil) .nil))) (.node (o28 P) (.node (o44 P) (.node (o76 P) (.node (o140 P) .nil .nil) (.node (o204 P) .nil .nil)) (.node (o108 P) (.node (o172 P) .nil .nil) .nil)) (.node (o60 P) (.node (o92 P) (.node (o156 P) .nil .nil) .nil) (.node (o124 P) (.node (o188 P) .nil .nil) .nil))))) (.node (boot_o_6 P) (.node (boot_o_10 P) (.node (o18 P) (.node (o34 P) (.node (o66 P) (.node (o130 P) .nil .nil) (.node (o194 P) .nil .nil)) (.node (o98 P) (.node (o162 P) .nil .nil) .nil)) (.node (o50 P) (.node (o82 P) (.node (o146 P) .nil .nil) (.node (o210 P) .nil .nil)) (.node (o114 P) (.node (o178 P) .nil .nil) .nil))) (.node (o26 P) (.node (o42 P) (.node (o74 P) (.node (o138 P) .nil .nil) (.node (o202 P) .nil .nil)) (.node (o106 P) (.node (o170 P) .nil .nil) .nil)) (.node (o58 P) (.node (o90 P) (.node (o154 P) .nil .nil) .nil) (.node (o122 P) (.node (o186 P) .nil .nil) .nil)))) (.node (o14 P) (.node (o22 P) (.node (o38 P) (.node (o70 P) (.node (o134 P) .nil .nil) (.node (o198 P) .nil .nil)) (.node (o102 P) (.node (o166 P) .nil .nil) .nil)) (.node (o54 P) (.node (o86 P) (.node (o150 P) .nil .nil) .nil) (.node (o118 P) (.node (o182 P) .nil .nil) .nil))) (.node (o30 P) (.node (o46 P) (.node (o78 P) (.node (o142 P) .nil .nil) (.node (o206 P) .nil .nil)) (.node (o110 P) (.node (o174 P) .nil .nil) .nil)) (.node (o62 P) (.node (o94 P) (.node (o158 P) .nil .nil) .nil) (.node (o126 P) (.node (o190 P) .nil .nil) .nil)))))))
noncomputable def o3v17 (P : Params) : Obj := ⟨(.type "dict"), none, (.dict #[⟨kh P "__name__", (.str "__name__" 165), (.str "law_tr0065_03" 2376)⟩, ⟨kh P "__doc__", (.str "__doc__" 166), .none⟩, ⟨kh P "__package__", (.str "__package__" 167), .none⟩, ⟨kh P "__loader__", (.str "__loader__" 168), (.builtin "__main__.__loader__#opaque")⟩, ⟨kh P "__spec__", (.str "__spec__" 169), .none⟩, ⟨kh P "__annotations__", (.str "__annotations__" 170), (.ref 6)⟩, ⟨kh P "__builtins__", (.str "__builtins__" 171), (.ref 4)⟩, ⟨kh P "__file__", (.str "__file__" 173), (.str "/claim/cut.py" 172)⟩, ⟨kh P "__cached__", (.str "__cached__" 174), .none⟩, ⟨kh P "_wall", (.str "_wall" 193), (.ref 21)⟩, ⟨kh P "Error", (.str "Error" 215), (.ref 31)⟩, ⟨kh P "error_reply", (.str "error_reply" 231), (.ref 44)⟩, ⟨kh P "parse257", (.str "parse257" 242), (.ref 53)⟩, ⟨kh P "b1_set", (.str "b1_set" 304), (.ref 61)⟩, ⟨kh P "in_table_b1", (.str "in_table_b1" 311), (.ref 71)⟩, ⟨kh P "b3_exceptions", (.str "b3_exceptions" 2262), (.ref 72)⟩, ⟨kh P "map_table_b3", (.str "map_table_b3" 2270), (.ref 117)⟩, ⟨kh P "Whitespace", (.str "Whitespace" 2375), (.ref 179)⟩, ⟨kh P "_law_sign", (.str "_law_sign" 2388), (.ref 190)⟩, ⟨kh P "_law_named", (.str "_law_named" 2398), (.ref 197)⟩, ⟨kh P "_law_lead", (.str "_law_lead" 2406), (.ref 204)⟩, ⟨kh P "_law_column", (.str "_law_column" 2416), (.ref 211)⟩, ⟨kh P "_law_prepared", (.str "_law_prepared" 2422), (.ref 216)⟩] 23), #[]⟩
noncomputable def o12v17 (P : Params) : Obj := ⟨.none, none, (.fields #[(.int 1 0), (.int 0 0), (.ref 20), (.int 5 0), (.int 0 0), (.ref 27), (.int 7 0), (.int 0 0), (.ref 40), (.int 9 0), (.int 0 0), (.ref 52), (.int 28 0), (.int 0 0), (.ref 70), (.int 31 0), (.int 0 0), (.ref 116), (.int 37 0), (.int 0 0), (.ref 123), (.int 99 0), (.int 0 0), (.ref 189), (.int 112 0), (.int 0 0), (.ref 196), (.int 120 0), (.int 0 0), (.ref 203), (.int 125 0), (.int 0 0), (.ref 210), (.int 130 0), (.int 0 0), (.ref 215)]), #[]⟩
noncomputable def o212 (P : Params) : Obj := ⟨(.type "tuple"), none, (.seq #[] 0), #[]⟩
noncomputable def o213 (P : Params) : Obj := ⟨.none, none, (.fields #[]), #[]⟩
noncomputable def o214 (P : Params) : Obj := ⟨.none, none, (.func ⟨"_law_prepared", "_law_prepared", fArgs (st 17), .stmts (fBody (st 17)), fScope (st 17), 0, [], .none, .none, .none, .none, none, .none, .none, 0⟩), #[]⟩
noncomputable def o215 (P : Params) : Obj := ⟨(.type "code"), none, (.fields #[(.str "_law_prepared" 2417), (.str "_law_prepared" 2418), (.str "/claim/cut.py" 2419), (.int 130 0), (.int 1 0), (.int 0 0), (.int 0 0), (.int 3 0), (.ref 212), (.bool true), (.int 181 0), (.ref 213), .none, .none, .none, (.ref 214), (.int 2420 0), (.int 130 0), (.str "/claim/cut.py" 2421)]), #[]⟩
noncomputable def o216 (P : Params) : Obj := ⟨(.type "function"), none, (.func ⟨"_law_prepared", "_law_prepared", fArgs (st 17), .stmts (fBody (st 17)), fScope (st 17), 3, [], .none, .none, .none, (.str "law_tr0065_03" 2376), none, (.ref 215), .none, 0⟩), #[]⟩
noncomputable def t17 (P : Params) : BT := (.node (boot_o_0 P) (.node (boot_o_1 P) (.node (o3v17 P) (.node (boot_o_7 P) (.node (o15 P) (.node (o31v3 P) (.node (o63 P) (.node (o127 P) .nil .nil) (.node (o191 P) .nil .nil)) (.node (o95 P) (.node (o159 P) .nil .nil) .nil)) (.node (o47 P) (.node (o79 P) (.node (o143 P) .nil .nil) (.node (o207 P) .nil .nil)) (.node (o111 P) (.node (o175 P) .nil .nil) .nil))) (.node (o23 P) (.node (o39 P) (.node (o71 P) (.node (o135 P) .nil .nil) (.node (o199 P) .nil .nil)) (.node (o103 P) (.node (o167 P) .nil .nil) .nil)) (.node (o55 P) (.node (o87 P) (.node (o151 P) .nil .nil) (.node (o215 P) .nil .nil)) (.node (o119 P) (.node (o183 P) .nil .nil) .nil)))) (.node (o11 P) (.node (o19 P) (.node (o35 P) (.node (o67 P) (.node (o131 P) .nil .nil) (.node (o195 P) .nil .nil)) (.node (o99 P) (.node (o163 P) .nil .nil) .nil)) (.node (o51 P) (.node (o83 P) (.node (o147 P) .nil .nil) (.node (o211 P) .nil .nil)) (.node (o115 P) (.node (o179 P) .nil .nil) .nil))) (.node (o27 P) (.node (o43 P) (.node (o75 P) (.node (o139 P) .nil .nil) (.node (o203 P) .nil .nil)) (.node (o107 P) (.node (o171 P) .nil .nil) .nil)) (.node (o59 P) (.node (o91 P) (.node (o155 P) .nil .nil) .nil) (.node (o123 P) (.node (o187 P) .nil .nil) .nil))))) (.node (boot_o_5 P) (.node (boot_o_9 P) (.node (o17 P) (.node (o33 P) (.node (o65 P) (.node (o129 P) .nil .nil) (.node (o193 P) .nil .nil)) (.node (o97 P) (.node (o161 P) .nil .nil) .nil)) (.node (o49 P) (.node (o81 P) (.node (o145 P) .nil .nil) (.node (o209 P) .nil .nil)) (.node (o113 P) (.node (o177 P) .nil .nil) .nil))) (.node (o25 P) (.node (o41 P) (.node (o73 P) (.node (o137 P) .nil .nil) (.node (o201 P) .nil .nil)) (.node (o105 P) (.node (o169 P) .nil .nil) .nil)) (.node (o57 P) (.node (o89 P) (.node (o153 P) .nil .nil) .nil) (.node (o121 P) (.node (o185 P) .nil .nil) .nil)))) (.node (o13 P) (.node (o21 P) (.node (o37 P) (.node (o69 P) (.node (o133 P) .nil .nil) (.node (o197 P) .nil .nil)) (.node (o101 P) (.node (o165 P) .nil .nil) .nil)) (.node (o53 P) (.node (o85 P) (.node (o149 P) .nil .nil) (.node (o213 P) .nil .nil)) (.node (o117 P) (.node (o181 P) .nil .nil) .nil))) (.node (o29 P) (.node (o45 P) (.node (o77 P) (.node (o141 P) .nil .nil) (.node (o205 P) .nil .nil)) (.node (o109 P) (.node (o173 P) .nil .nil) .nil)) (.node (o61 P) (.node (o93 P) (.node (o157 P) .nil .nil) .nil) (.node (o125 P) (.node (o189 P) .nil .nil) .nil)))))) (.node (o2v2 P) (.node (boot_o_4 P) (.node (boot_o_8 P) (.node (o16 P) (.node (o32 P) (.node (o64 P) (.node (o128 P) .nil .nil) (.node (o192 P) .nil .nil)) (.node (o96 P) (.node (o160 P) .nil .nil) .nil)) (.node (o48 P) (.node (o80 P) (.node (o144 P) .nil .nil) (.node (o208 P) .nil .nil)) (.node (o112 P) (.node (o176 P) .nil .nil) .nil))) (.node (o24 P) (.node (o40 P) (.node (o72 P) (.node (o136 P) .nil .nil) (.node (o200 P) .nil .nil)) (.node (o104 P) (.node (o168 P) .nil .nil) .nil)) (.node (o56 P) (.node (o88 P) (.node (o152 P) .nil .nil) (.node (o216 P) .nil .nil)) (.node (o120 P) (.node (o184 P) .nil .nil) .nil)))) (.node (o12v17 P) (.node (o20 P) (.node (o36 P) (.node (o68 P) (.node (o132 P) .nil .nil) (.node (o196 P) .nil .nil)) (.node (o100 P) (.node (o164 P) .nil .nil) .nil)) (.node (o52 P) (.node (o84 P) (.node (o148 P) .nil .nil) (.node (o212 P) .nil .nil)) (.node (o116 P) (.node (o180 P) .nil .nil) .nil))) (.node (o28 P) (.node (o44 P) (.node (o76 P) (.node (o140 P) .nil .nil) (.node (o204 P) .nil .nil)) (.node (o108 P) (.node (o172 P) .nil .nil) .nil)) (.node (o60 P) (.node (o92 P) (.node (o156 P) .nil .nil) .nil) (.node (o124 P) (.node (o188 P) .nil .nil) .nil))))) (.node (boot_o_6 P) (.node (boot_o_10 P) (.node (o18 P) (.node (o34 P) (.node (o66 P) (.node (o130 P) .nil .nil) (.node (o194 P) .nil .nil)) (.node (o98 P) (.node (o162 P) .nil .nil) .nil)) (.node (o50 P) (.node (o82 P) (.node (o146 P) .nil .nil) (.node (o210 P) .nil .nil)) (.node (o114 P) (.node (o178 P) .nil .nil) .nil))) (.node (o26 P) (.node (o42 P) (.node (o74 P) (.node (o138 P) .nil .nil) (.node (o202 P) .nil .nil)) (.node (o106 P) (.node (o170 P) .nil .nil) .nil)) (.node (o58 P) (.node (o90 P) (.node (o154 P) .nil .nil) .nil) (.node (o122 P) (.node (o186 P) .nil .nil) .nil)))) (.node (o14 P) (.node (o22 P) (.node (o38 P) (.node (o70 P) (.node (o134 P) .nil .nil) (.node (o198 P) .nil .nil)) (.node (o102 P) (.node (o166 P) .nil .nil) .nil)) (.node (o54 P) (.node (o86 P) (.node (o150 P) .nil .nil) (.node (o214 P) .nil .nil)) (.node (o118 P) (.node (o182 P) .nil .nil) .nil))) (.node (o30 P) (.node (o46 P) (.node (o78 P) (.node (o142 P) .nil .nil) (.node (o206 P) .nil .nil)) (.node (o110 P) (.node (o174 P) .nil .nil) .nil)) (.node (o62 P) (.node (o94 P) (.node (o158 P) .nil .nil) .nil) (.node (o126 P) (.node (o190 P) .nil .nil) .nil)))))))
noncomputable def o3v18 (P : Params) : Obj := ⟨(.type "dict"), none, (.dict #[⟨kh P "__name__", (.str "__name__" 165), (.str "law_tr0065_03" 2376)⟩, ⟨kh P "__doc__", (.str "__doc__" 166), .none⟩, ⟨kh P "__package__", (.str "__package__" 167), .none⟩, ⟨kh P "__loader__", (.str "__loader__" 168), (.builtin "__main__.__loader__#opaque")⟩, ⟨kh P "__spec__", (.str "__spec__" 169), .none⟩, ⟨kh P "__annotations__", (.str "__annotations__" 170), (.ref 6)⟩, ⟨kh P "__builtins__", (.str "__builtins__" 171), (.ref 4)⟩, ⟨kh P "__file__", (.str "__file__" 173), (.str "/claim/cut.py" 172)⟩, ⟨kh P "__cached__", (.str "__cached__" 174), .none⟩, ⟨kh P "_wall", (.str "_wall" 193), (.ref 21)⟩, ⟨kh P "Error", (.str "Error" 215), (.ref 31)⟩, ⟨kh P "error_reply", (.str "error_reply" 231), (.ref 44)⟩, ⟨kh P "parse257", (.str "parse257" 242), (.ref 53)⟩, ⟨kh P "b1_set", (.str "b1_set" 304), (.ref 61)⟩, ⟨kh P "in_table_b1", (.str "in_table_b1" 311), (.ref 71)⟩, ⟨kh P "b3_exceptions", (.str "b3_exceptions" 2262), (.ref 72)⟩, ⟨kh P "map_table_b3", (.str "map_table_b3" 2270), (.ref 117)⟩, ⟨kh P "Whitespace", (.str "Whitespace" 2375), (.ref 179)⟩, ⟨kh P "_law_sign", (.str "_law_sign" 2388), (.ref 190)⟩, ⟨kh P "_law_named", (.str "_law_named" 2398), (.ref 197)⟩, ⟨kh P "_law_lead", (.str "_law_lead" 2406), (.ref 204)⟩, ⟨kh P "_law_column", (.str "_law_column" 2416), (.ref 211)⟩, ⟨kh P "_law_prepared", (.str "_law_prepared" 2422), (.ref 216)⟩, ⟨kh P "law", (.str "law" 2428), (.ref 221)⟩] 24), #[]⟩
noncomputable def o12v18 (P : Params) : Obj := ⟨.none, none, (.fields #[(.int 1 0), (.int 0 0), (.ref 20), (.int 5 0), (.int 0 0), (.ref 27), (.int 7 0), (.int 0 0), (.ref 40), (.int 9 0), (.int 0 0), (.ref 52), (.int 28 0), (.int 0 0), (.ref 70), (.int 31 0), (.int 0 0), (.ref 116), (.int 37 0), (.int 0 0), (.ref 123), (.int 99 0), (.int 0 0), (.ref 189), (.int 112 0), (.int 0 0), (.ref 196), (.int 120 0), (.int 0 0), (.ref 203), (.int 125 0), (.int 0 0), (.ref 210), (.int 130 0), (.int 0 0), (.ref 215), (.int 132 0), (.int 0 0), (.ref 220)]), #[]⟩
noncomputable def o217 (P : Params) : Obj := ⟨(.type "tuple"), none, (.seq #[] 0), #[]⟩
noncomputable def o218 (P : Params) : Obj := ⟨.none, none, (.fields #[]), #[]⟩
noncomputable def o219 (P : Params) : Obj := ⟨.none, none, (.func ⟨"law", "law", fArgs (st 18), .stmts (fBody (st 18)), fScope (st 18), 0, [], .none, .none, .none, .none, none, .none, .none, 0⟩), #[]⟩
noncomputable def o220 (P : Params) : Obj := ⟨(.type "code"), none, (.fields #[(.str "law" 2423), (.str "law" 2424), (.str "/claim/cut.py" 2425), (.int 132 0), (.int 1 0), (.int 0 0), (.int 0 0), (.int 3 0), (.ref 217), (.bool true), (.int 181 0), (.ref 218), .none, .none, .none, (.ref 219), (.int 2426 0), (.int 132 0), (.str "/claim/cut.py" 2427)]), #[]⟩
noncomputable def o221 (P : Params) : Obj := ⟨(.type "function"), none, (.func ⟨"law", "law", fArgs (st 18), .stmts (fBody (st 18)), fScope (st 18), 3, [], .none, .none, .none, (.str "law_tr0065_03" 2376), none, (.ref 220), .none, 0⟩), #[]⟩
noncomputable def t18 (P : Params) : BT := (.node (boot_o_0 P) (.node (boot_o_1 P) (.node (o3v18 P) (.node (boot_o_7 P) (.node (o15 P) (.node (o31v3 P) (.node (o63 P) (.node (o127 P) .nil .nil) (.node (o191 P) .nil .nil)) (.node (o95 P) (.node (o159 P) .nil .nil) .nil)) (.node (o47 P) (.node (o79 P) (.node (o143 P) .nil .nil) (.node (o207 P) .nil .nil)) (.node (o111 P) (.node (o175 P) .nil .nil) .nil))) (.node (o23 P) (.node (o39 P) (.node (o71 P) (.node (o135 P) .nil .nil) (.node (o199 P) .nil .nil)) (.node (o103 P) (.node (o167 P) .nil .nil) .nil)) (.node (o55 P) (.node (o87 P) (.node (o151 P) .nil .nil) (.node (o215 P) .nil .nil)) (.node (o119 P) (.node (o183 P) .nil .nil) .nil)))) (.node (o11 P) (.node (o19 P) (.node (o35 P) (.node (o67 P) (.node (o131 P) .nil .nil) (.node (o195 P) .nil .nil)) (.node (o99 P) (.node (o163 P) .nil .nil) .nil)) (.node (o51 P) (.node (o83 P) (.node (o147 P) .nil .nil) (.node (o211 P) .nil .nil)) (.node (o115 P) (.node (o179 P) .nil .nil) .nil))) (.node (o27 P) (.node (o43 P) (.node (o75 P) (.node (o139 P) .nil .nil) (.node (o203 P) .nil .nil)) (.node (o107 P) (.node (o171 P) .nil .nil) .nil)) (.node (o59 P) (.node (o91 P) (.node (o155 P) .nil .nil) (.node (o219 P) .nil .nil)) (.node (o123 P) (.node (o187 P) .nil .nil) .nil))))) (.node (boot_o_5 P) (.node (boot_o_9 P) (.node (o17 P) (.node (o33 P) (.node (o65 P) (.node (o129 P) .nil .nil) (.node (o193 P) .nil .nil)) (.node (o97 P) (.node (o161 P) .nil .nil) .nil)) (.node (o49 P) (.node (o81 P) (.node (o145 P) .nil .nil) (.node (o209 P) .nil .nil)) (.node (o113 P) (.node (o177 P) .nil .nil) .nil))) (.node (o25 P) (.node (o41 P) (.node (o73 P) (.node (o137 P) .nil .nil) (.node (o201 P) .nil .nil)) (.node (o105 P) (.node (o169 P) .nil .nil) .nil)) (.node (o57 P) (.node (o89 P) (.node (o153 P) .nil .nil) (.node (o217 P) .nil .nil)) (.node (o121 P) (.node (o185 P) .nil .nil) .nil)))) (.node (o13 P) (.node (o21 P) (.node (o37 P) (.node (o69 P) (.node (o133 P) .nil .nil) (.node (o197 P) .nil .nil)) (.node (o101 P) (.node (o165 P) .nil .nil) .nil)) (.node (o53 P) (.node (o85 P) (.node (o149 P) .nil .nil) (.node (o213 P) .nil .nil)) (.node (o117 P) (.node (o181 P) .nil .nil) .nil))) (.node (o29 P) (.node (o45 P) (.node (o77 P) (.node (o141 P) .nil .nil) (.node (o205 P) .nil .nil)) (.node (o109 P) (.node (o173 P) .nil .nil) .nil)) (.node (o61 P) (.node (o93 P) (.node (o157 P) .nil .nil) (.node (o221 P) .nil .nil)) (.node (o125 P) (.node (o189 P) .nil .nil) .nil)))))) (.node (o2v2 P) (.node (boot_o_4 P) (.node (boot_o_8 P) (.node (o16 P) (.node (o32 P) (.node (o64 P) (.node (o128 P) .nil .nil) (.node (o192 P) .nil .nil)) (.node (o96 P) (.node (o160 P) .nil .nil) .nil)) (.node (o48 P) (.node (o80 P) (.node (o144 P) .nil .nil) (.node (o208 P) .nil .nil)) (.node (o112 P) (.node (o176 P) .nil .nil) .nil))) (.node (o24 P) (.node (o40 P) (.node (o72 P) (.node (o136 P) .nil .nil) (.node (o200 P) .nil .nil)) (.node (o104 P) (.node (o168 P) .nil .nil) .nil)) (.node (o56 P) (.node (o88 P) (.node (o152 P) .nil .nil) (.node (o216 P) .nil .nil)) (.node (o120 P) (.node (o184 P) .nil .nil) .nil)))) (.node (o12v18 P) (.node (o20 P) (.node (o36 P) (.node (o68 P) (.node (o132 P) .nil .nil) (.node (o196 P) .nil .nil)) (.node (o100 P) (.node (o164 P) .nil .nil) .nil)) (.node (o52 P) (.node (o84 P) (.node (o148 P) .nil .nil) (.node (o212 P) .nil .nil)) (.node (o116 P) (.node (o180 P) .nil .nil) .nil))) (.node (o28 P) (.node (o44 P) (.node (o76 P) (.node (o140 P) .nil .nil) (.node (o204 P) .nil .nil)) (.node (o108 P) (.node (o172 P) .nil .nil) .nil)) (.node (o60 P) (.node (o92 P) (.node (o156 P) .nil .nil) (.node (o220 P) .nil .nil)) (.node (o124 P) (.node (o188 P) .nil .nil) .nil))))) (.node (boot_o_6 P) (.node (boot_o_10 P) (.node (o18 P) (.node (o34 P) (.node (o66 P) (.node (o130 P) .nil .nil) (.node (o194 P) .nil .nil)) (.node (o98 P) (.node (o162 P) .nil .nil) .nil)) (.node (o50 P) (.node (o82 P) (.node (o146 P) .nil .nil) (.node (o210 P) .nil .nil)) (.node (o114 P) (.node (o178 P) .nil .nil) .nil))) (.node (o26 P) (.node (o42 P) (.node (o74 P) (.node (o138 P) .nil .nil) (.node (o202 P) .nil .nil)) (.node (o106 P) (.node (o170 P) .nil .nil) .nil)) (.node (o58 P) (.node (o90 P) (.node (o154 P) .nil .nil) (.node (o218 P) .nil .nil)) (.node (o122 P) (.node (o186 P) .nil .nil) .nil)))) (.node (o14 P) (.node (o22 P) (.node (o38 P) (.node (o70 P) (.node (o134 P) .nil .nil) (.node (o198 P) .nil .nil)) (.node (o102 P) (.node (o166 P) .nil .nil) .nil)) (.node (o54 P) (.node (o86 P) (.node (o150 P) .nil .nil) (.node (o214 P) .nil .nil)) (.node (o118 P) (.node (o182 P) .nil .nil) .nil))) (.node (o30 P) (.node (o46 P) (.node (o78 P) (.node (o142 P) .nil .nil) (.node (o206 P) .nil .nil)) (.node (o110 P) (.node (o174 P) .nil .nil) .nil)) (.node (o62 P) (.node (o94 P) (.node (o158 P) .nil .nil) .nil) (.node (o126 P) (.node (o190 P) .nil .nil) .nil)))))))
noncomputable def objsF (P : Params) : List Obj := [(boot_o_0 P), (boot_o_1 P), (o2v2 P), (o3v18 P), (boot_o_4 P), (boot_o_5 P), (boot_o_6 P), (boot_o_7 P), (boot_o_8 P), (boot_o_9 P), (boot_o_10 P), (o11 P), (o12v18 P), (o13 P), (o14 P), (o15 P), (o16 P), (o17 P), (o18 P), (o19 P), (o20 P), (o21 P), (o22 P), (o23 P), (o24 P), (o25 P), (o26 P), (o27 P), (o28 P), (o29 P), (o30 P), (o31v3 P), (o32 P), (o33 P), (o34 P), (o35 P), (o36 P), (o37 P), (o38 P), (o39 P), (o40 P), (o41 P), (o42 P), (o43 P), (o44 P), (o45 P), (o46 P), (o47 P), (o48 P), (o49 P), (o50 P), (o51 P), (o52 P), (o53 P), (o54 P), (o55 P), (o56 P), (o57 P), (o58 P), (o59 P), (o60 P), (o61 P), (o62 P), (o63 P), (o64 P), (o65 P), (o66 P), (o67 P), (o68 P), (o69 P), (o70 P), (o71 P), (o72 P), (o73 P), (o74 P), (o75 P), (o76 P), (o77 P), (o78 P), (o79 P), (o80 P), (o81 P), (o82 P), (o83 P), (o84 P), (o85 P), (o86 P), (o87 P), (o88 P), (o89 P), (o90 P), (o91 P), (o92 P), (o93 P), (o94 P), (o95 P), (o96 P), (o97 P), (o98 P), (o99 P), (o100 P), (o101 P), (o102 P), (o103 P), (o104 P), (o105 P), (o106 P), (o107 P), (o108 P), (o109 P), (o110 P), (o111 P), (o112 P), (o113 P), (o114 P), (o115 P), (o116 P), (o117 P), (o118 P), (o119 P), (o120 P), (o121 P), (o122 P), (o123 P), (o124 P), (o125 P), (o126 P), (o127 P), (o128 P), (o129 P), (o130 P), (o131 P), (o132 P), (o133 P), (o134 P), (o135 P), (o136 P), (o137 P), (o138 P), (o139 P), (o140 P), (o141 P), (o142 P), (o143 P), (o144 P), (o145 P), (o146 P), (o147 P), (o148 P), (o149 P), (o150 P), (o151 P), (o152 P), (o153 P), (o154 P), (o155 P), (o156 P), (o157 P), (o158 P), (o159 P), (o160 P), (o161 P), (o162 P), (o163 P), (o164 P), (o165 P), (o166 P), (o167 P), (o168 P), (o169 P), (o170 P), (o171 P), (o172 P), (o173 P), (o174 P), (o175 P), (o176 P), (o177 P), (o178 P), (o179 P), (o180 P), (o181 P), (o182 P), (o183 P), (o184 P), (o185 P), (o186 P), (o187 P), (o188 P), (o189 P), (o190 P), (o191 P), (o192 P), (o193 P), (o194 P), (o195 P), (o196 P), (o197 P), (o198 P), (o199 P), (o200 P), (o201 P), (o202 P), (o203 P), (o204 P), (o205 P), (o206 P), (o207 P), (o208 P), (o209 P), (o210 P), (o211 P), (o212 P), (o213 P), (o214 P), (o215 P), (o216 P), (o217 P), (o218 P), (o219 P), (o220 P), (o221 P)]
noncomputable def K (P : Params) : Frag := (nat_lit 2, (o2v2 P)) :: (nat_lit 3, (o3v18 P)) :: (nat_lit 15, (o15 P)) :: (nat_lit 17, (o17 P)) :: (nat_lit 18, (o18 P)) :: (nat_lit 20, (o20 P)) :: (nat_lit 21, (o21 P)) :: (nat_lit 22, (o22 P)) :: (nat_lit 29, (o29 P)) :: (nat_lit 30, (o30 P)) :: (nat_lit 31, (o31v3 P)) :: (nat_lit 32, (o32 P)) :: (nat_lit 35, (o35 P)) :: (nat_lit 42, (o42 P)) :: (nat_lit 43, (o43 P)) :: (nat_lit 44, (o44 P)) :: (nat_lit 47, (o47 P)) :: (nat_lit 49, (o49 P)) :: (nat_lit 50, (o50 P)) :: (nat_lit 52, (o52 P)) :: (nat_lit 53, (o53 P)) :: (nat_lit 61, (o61 P)) :: (nat_lit 65, (o65 P)) :: (nat_lit 67, (o67 P)) :: (nat_lit 68, (o68 P)) :: (nat_lit 70, (o70 P)) :: (nat_lit 71, (o71 P)) :: (nat_lit 72, (o72 P)) :: (nat_lit 111, (o111 P)) :: (nat_lit 113, (o113 P)) :: (nat_lit 114, (o114 P)) :: (nat_lit 116, (o116 P)) :: (nat_lit 117, (o117 P)) :: (nat_lit 128, (o128 P)) :: (nat_lit 130, (o130 P)) :: (nat_lit 131, (o131 P)) :: (nat_lit 133, (o133 P)) :: (nat_lit 134, (o134 P)) :: (nat_lit 135, (o135 P)) :: (nat_lit 137, (o137 P)) :: (nat_lit 138, (o138 P)) :: (nat_lit 140, (o140 P)) :: (nat_lit 141, (o141 P)) :: (nat_lit 142, (o142 P)) :: (nat_lit 144, (o144 P)) :: (nat_lit 145, (o145 P)) :: (nat_lit 147, (o147 P)) :: (nat_lit 148, (o148 P)) :: (nat_lit 149, (o149 P)) :: (nat_lit 151, (o151 P)) :: (nat_lit 152, (o152 P)) :: (nat_lit 154, (o154 P)) :: (nat_lit 155, (o155 P)) :: (nat_lit 156, (o156 P)) :: (nat_lit 158, (o158 P)) :: (nat_lit 159, (o159 P)) :: (nat_lit 161, (o161 P)) :: (nat_lit 162, (o162 P)) :: (nat_lit 163, (o163 P)) :: (nat_lit 165, (o165 P)) :: (nat_lit 166, (o166 P)) :: (nat_lit 168, (o168 P)) :: (nat_lit 169, (o169 P)) :: (nat_lit 170, (o170 P)) :: (nat_lit 172, (o172 P)) :: (nat_lit 173, (o173 P)) :: (nat_lit 175, (o175 P)) :: (nat_lit 176, (o176 P)) :: (nat_lit 177, (o177 P)) :: (nat_lit 178, (o178 P)) :: (nat_lit 179, (o179 P)) :: (nat_lit 180, (o180 P)) :: (nat_lit 181, (o181 P)) :: (nat_lit 184, (o184 P)) :: (nat_lit 186, (o186 P)) :: (nat_lit 187, (o187 P)) :: (nat_lit 189, (o189 P)) :: (nat_lit 190, (o190 P)) :: (nat_lit 191, (o191 P)) :: (nat_lit 193, (o193 P)) :: (nat_lit 194, (o194 P)) :: (nat_lit 196, (o196 P)) :: (nat_lit 197, (o197 P)) :: (nat_lit 198, (o198 P)) :: (nat_lit 200, (o200 P)) :: (nat_lit 201, (o201 P)) :: (nat_lit 203, (o203 P)) :: (nat_lit 204, (o204 P)) :: (nat_lit 205, (o205 P)) :: (nat_lit 207, (o207 P)) :: (nat_lit 208, (o208 P)) :: (nat_lit 210, (o210 P)) :: (nat_lit 211, (o211 P)) :: (nat_lit 212, (o212 P)) :: (nat_lit 215, (o215 P)) :: (nat_lit 216, (o216 P)) :: (nat_lit 217, (o217 P)) :: (nat_lit 220, (o220 P)) :: (nat_lit 221, (o221 P)) :: []
noncomputable def kAs : List Nat := [nat_lit 2, nat_lit 3, nat_lit 15, nat_lit 17, nat_lit 18, nat_lit 20, nat_lit 21, nat_lit 22, nat_lit 29, nat_lit 30, nat_lit 31, nat_lit 32, nat_lit 35, nat_lit 42, nat_lit 43, nat_lit 44, nat_lit 47, nat_lit 49, nat_lit 50, nat_lit 52, nat_lit 53, nat_lit 61, nat_lit 65, nat_lit 67, nat_lit 68, nat_lit 70, nat_lit 71, nat_lit 72, nat_lit 111, nat_lit 113, nat_lit 114, nat_lit 116, nat_lit 117, nat_lit 128, nat_lit 130, nat_lit 131, nat_lit 133, nat_lit 134, nat_lit 135, nat_lit 137, nat_lit 138, nat_lit 140, nat_lit 141, nat_lit 142, nat_lit 144, nat_lit 145, nat_lit 147, nat_lit 148, nat_lit 149, nat_lit 151, nat_lit 152, nat_lit 154, nat_lit 155, nat_lit 156, nat_lit 158, nat_lit 159, nat_lit 161, nat_lit 162, nat_lit 163, nat_lit 165, nat_lit 166, nat_lit 168, nat_lit 169, nat_lit 170, nat_lit 172, nat_lit 173, nat_lit 175, nat_lit 176, nat_lit 177, nat_lit 178, nat_lit 179, nat_lit 180, nat_lit 181, nat_lit 184, nat_lit 186, nat_lit 187, nat_lit 189, nat_lit 190, nat_lit 191, nat_lit 193, nat_lit 194, nat_lit 196, nat_lit 197, nat_lit 198, nat_lit 200, nat_lit 201, nat_lit 203, nat_lit 204, nat_lit 205, nat_lit 207, nat_lit 208, nat_lit 210, nat_lit 211, nat_lit 212, nat_lit 215, nat_lit 216, nat_lit 217, nat_lit 220, nat_lit 221]
noncomputable def envE : Env := { scope := pr.main.scope, locals := mainNs, globals := mainNs, cells := [], code := .ref 13, frame := some 14 }
noncomputable def cE : Code := .body (behindTheImports pr) envE
abbrev bB : List Frame := [topFrame ⟨0, 0, 0, 0⟩]
abbrev S (t : Params → BT) (n tk : Nat) (w : World) (os : OsState) : SharedT := ⟨t w.params, n, {}, #[], {}, tk, os⟩
noncomputable def q : Program := { pr with main := { pr.main with body := [st 0, st 2, st 3, st 4, st 7, st 9, st 11, st 13, st 14, st 15, st 16, st 17, st 18] } }
noncomputable def loose : List Str := [Str.ofString "b1_set", Str.ofString "b3_exceptions", Str.ofString "Whitespace"]
noncomputable def hF (P : Params) : Heap := ⟨(objsF P).toArray, {}⟩
end Hd
end
end
section
open PySem PySem.W PySem.Calls PyProof.Rows
set_option maxRecDepth 100000
noncomputable section
namespace Hd
abbrev gg (w : World) (n : Nat) (s : Shared) (t : Thread) : Option (Shared × Thread) := segGo treeTable pr w 11 (some (.ref 6)) 1 n s t
theorem gg_add {w : World} : ∀ {n m : Nat} {s s₁ : Shared} {t t₁ : Thread} {r}, gg w n s t = some (s₁, t₁) → gg w m s₁ t₁ = some r → gg w (n + m) s t = some r
  | 0, m, s, s₁, t, t₁, r, h, k => by
    obtain ⟨rfl, rfl⟩ : s = s₁ ∧ t = t₁ := by simpa [gg, segGo] using h
    rw [Nat.zero_add]; exact k
  | n + 1, m, s, s₁, t, t₁, r, h, k => by
    rw [show n + 1 + m = n + m + 1 by omega]
    unfold gg segGo at h ⊢
    cases he : endAt 1 t with
    | some f => rw [he] at h; cases h
    | none =>
      rw [he] at h
      cases hk : stepOk 11 (some (.ref 6)) t with
      | false => rw [hk] at h; cases h
      | true =>
        rw [hk] at h
        cases hs : step (denote treeTable) pr w s t with
        | halt o s₂ => rw [hs] at h; cases h
        | go s₂ t₂ => rw [hs] at h; exact gg_add h k
theorem gg_step {w : World} {n : Nat} {s s₁ : Shared} {t t₁ : Thread} {r} (he : endAt 1 t = none) (hk : stepOk 11 (some (.ref 6)) t = true)
    (hs : step (denote treeTable) pr w s t = .go s₁ t₁) (h : gg w n s₁ t₁ = some r) : gg w (n + 1) s t = some r := by
  unfold gg segGo; rw [he, hk, hs]; exact h

noncomputable def Run {α : Type} (w : World) (n : Nat) (s : Shared) (p : Pos) (x : Sem α) (a : α) (s' : Shared) (p' : Pos) : Prop :=
  ∀ (K : α → Sem Fin) (H : Value → Sem Fin) (gd : Bool → Bool) (lv : List Value → List Value),
    gg w n s ⟨x.wrap K H gd lv, cE, p, bB⟩ = some (s', ⟨K a, cE, p', bB⟩)
section
variable {α β : Type} {w : World} {n m : Nat} {s s' s'' : Shared} {p p' p'' : Pos} {a : α} {b : β}
theorem run_pure : Run w 0 s p (.pure a) a s p := fun _ _ _ _ => rfl
theorem run_bind {x : Sem α} {f : α → Sem β} (h : Run w n s p x a s' p') (k : Run w m s' p' (f a) b s'' p'') : Run w (n + m) s p (x.bind f) b s'' p'' := fun K H gd lv => by
  rw [Sem.bind_eq_wrap, Sem.wrap_wrap]
  exact gg_add (h _ _ _ _) (k K H gd lv)
theorem run_bind' {x : Sem α} {f : α → Sem β} (h : Run w n s p x a s' p') (k : Run w m s' p' (f a) b s'' p'') : Run w (n + m) s p (x >>= f) b s'' p'' := run_bind h k
theorem run_keep {x : Sem α} {vs : List Value} (h : Run w n s p x a s' p') : Run w n s p (x.keep vs) a s' p' := fun K H gd lv => by
  rw [Sem.keep_eq_wrap, Sem.wrap_wrap]
  exact h _ _ _ _
theorem run_hold {x : Sem α} {vs : List Value} (h : Run w n s p x a s' p') : Run w n s p (holding vs x) a s' p' := by
  unfold holding; split
  · exact h
  · exact run_keep h
theorem run_onRaise {x : Sem α} {k : Value → Sem Unit} (h : Run w n s p x a s' p') : Run w n s p (x.onRaise k) a s' p' := fun K H gd lv => by
  rw [Sem.onRaise_eq_wrap, Sem.wrap_wrap]
  exact h _ _ _ _
theorem run_rule {tag : String} {k : Unit → Sem α} (h : Run w n s p (k ()) a s' p') : Run w (n + 1) s p (.rule tag k) a s' p' := fun K H gd lv => gg_step rfl rfl rfl (h K H gd lv)
theorem run_at {q : Pos} {k : Unit → Sem α} (h : Run w n s q (k ()) a s' p') : Run w (n + 1) s p (.at q k) a s' p' := fun K H gd lv => gg_step rfl rfl rfl (h K H gd lv)
theorem run_point {l : List Value} {k : Unit → Sem α} (h : Run w n s p (k ()) a s' p') : Run w (n + 1) s p (.point l k) a s' p' := fun K H gd lv => gg_step rfl rfl rfl (h K H gd lv)
theorem run_ask {k : Setting → Sem α} (h : Run w n s p (k ⟨pr, w.params⟩) a s' p') : Run w (n + 1) s p (.ask k) a s' p' := fun K H gd lv => gg_step rfl rfl rfl (h K H gd lv)
theorem run_fresh {k : Tok → Sem α} (h : Run w n { s with toks := s.toks + 1 } p (k s.toks) a s' p') : Run w (n + 1) s p (.fresh k) a s' p' := fun K H gd lv => by
  obtain ⟨heap, gens, drawn, toks, os⟩ := s
  exact gg_step rfl rfl rfl (h K H gd lv)
theorem run_load {c : Addr} {part : Option Value} {o : Obj} {k : Obj → Sem α} (ho : s.heap.get? c = some o) (h : Run w n s p (k o) a s' p') : Run w (n + 1) s p (.load c part k) a s' p' := fun K H gd lv => by
  obtain ⟨heap, gens, drawn, toks, os⟩ := s
  refine gg_step rfl rfl ?_ (h K H gd lv)
  simp only [Sem.wrap, step]
  rw [show heap.get? c = some o from ho]
theorem run_update {c : Addr} {part : Option Value} {f : Obj → Obj} {k : Unit → Sem α} (hc : 11 ≤ c) (ho : (s.heap.get? c).isSome = true) (h : Run w n { s with heap := s.heap.update c f } p (k ()) a s' p') : Run w (n + 1) s p (.update c part f k) a s' p' := fun K H gd lv => by
  obtain ⟨heap, gens, drawn, toks, os⟩ := s
  refine gg_step rfl ?_ ?_ (h K H gd lv)
  · simp only [Sem.wrap, stepOk, Bool.and_eq_true, Bool.or_eq_true]
    exact ⟨rfl, .inl (.inl (.inl (Nat.ble_eq_true_of_le hc)))⟩
  · simp only [Sem.wrap, step]
    rw [show (heap.get? c).isSome = true from ho]
    rfl
theorem run_alloc {o : Obj} {k : Addr → Sem α} (h : Run w n { s with heap := s.heap.push o } p (k s.heap.objs.size) a s' p') : Run w (n + 1) s p (.alloc o k) a s' p' := fun K H gd lv => by
  obtain ⟨heap, gens, drawn, toks, os⟩ := s
  exact gg_step rfl rfl rfl (h K H gd lv)
end
end Hd
end
end
section
open PySem PySem.W PySem.Calls PyProof.Rows
set_option maxRecDepth 100000
noncomputable section
namespace Hd
/-- a tree that only looks: how many steps -/
noncomputable def peekN {α : Type} (K : Frag) (S : Setting) : Sem α → Option (α × Nat)
  | .pure a => some (a, 0)
  | .rule _ k => (peekN K S (k ())).map fun x => (x.1, x.2 + 1)
  | .point _ k => (peekN K S (k ())).map fun x => (x.1, x.2 + 1)
  | .ask k => (peekN K S (k S)).map fun x => (x.1, x.2 + 1)
  | .load a _ k => match K.lookup a with
      | some o => (peekN K S (k o)).map fun x => (x.1, x.2 + 1)
      | none => none
  | _ => none
theorem run_peek {α : Type} {w : World} {K : Frag} {s : Shared} {p : Pos} (x : K.In s.heap) : ∀ (t : Sem α) (a : α) (n : Nat), peekN K ⟨pr, w.params⟩ t = some (a, n) → Run w n s p t a s p := by
  intro t
  induction t with
  | pure b => intro a n e; cases e; exact run_pure
  | rule _ k ih => intro a n e; obtain ⟨⟨a', n'⟩, h1, h2⟩ := Option.map_eq_some_iff.mp e; cases h2; exact run_rule (ih () _ _ h1)
  | point _ k ih => intro a n e; obtain ⟨⟨a', n'⟩, h1, h2⟩ := Option.map_eq_some_iff.mp e; cases h2; exact run_point (ih () _ _ h1)
  | ask k ih => intro a n e; obtain ⟨⟨a', n'⟩, h1, h2⟩ := Option.map_eq_some_iff.mp e; cases h2; exact run_ask (ih _ _ _ h1)
  | load c _ k ih =>
    intro a n e
    simp only [peekN] at e
    split at e
    · rename_i o ho
      obtain ⟨⟨a', n'⟩, h1, h2⟩ := Option.map_eq_some_iff.mp e; cases h2; exact run_load (x _ _ ho) (ih o _ _ h1)
    · cases e
  | _ => intro a n e; cases e
section
variable {w : World} {s : Shared} {p : Pos} {k : Int} {t : Tok}
theorem peek_hash : ∀ (w : World) (k : Int) (t : Tok), peekN [] ⟨pr, w.params⟩ (specialOf (.int k t) "__hash__") = some (some (.builtin "int.__hash__"), 0) := by
  intro w k t; kernel_rfl
theorem call_hash : ∀ (w : World) (h : Heap) (gens : Array GenState) (dr : Drawn) (tk : Nat) (os : OsState) (p : Pos) (k : Int) (t : Tok) (rf : Sem Value) (K : Option Value → Sem Fin) (H : Value → Sem Fin) (gd : Bool → Bool) (lv : List Value → List Value),
    gg w 5 ⟨h, gens, dr, tk, os⟩ ⟨(callSpecialIfBoundUnlessNone? (.int k t) "__hash__" rf).wrap K H gd lv, cE, p, bB⟩ = some (⟨h, gens, dr, tk + 1, os⟩, ⟨K (some (.int (rawHash k) tk)), cE, p, bB⟩) := by
  refine byRow2 "special-get-raises" ?_ ?_
  all_goals
    intro w h gens dr tk os p k t rf K H gd lv; kernel_rfl
end
end Hd
end
end
section
open PySem PySem.W PySem.Calls PyProof.Rows
set_option maxRecDepth 100000
noncomputable section
namespace Hd
theorem run_hash {w : World} {s : Shared} {p : Pos} {k : Int} {t : Tok} : Run w 5 s p (pyHash (.int k t)) (hashInt k) { s with toks := s.toks + 1 } p := by
  have hr := rawHash_range k
  have hX : Frag.In [] s.heap := fun a o e => by cases e
  show Run w (0 + (0 + (0 + (5 + 0)))) s p (pyHashByItsType (.int k t)) _ _ p
  unfold pyHashByItsType
  refine run_bind' (a := ()) (s' := s) (p' := p) (by rw [cRoomFor, if_neg (by rw [show [Value.int k t].any Value.onHeap = false from rfl]; exact Bool.false_ne_true)]; exact run_pure) ?_
  refine run_bind' (run_peek hX _ _ _ (peek_hash w k t)) ?_
  show Run w _ s p (if (some (Value.builtin "int.__hash__") == some Value.none) = true then _ else _) _ _ p
  rw [if_neg (by decide)]
  refine run_bind' (run_peek hX _ _ _ (peek_hash w k t)) ?_
  refine run_bind' (a := some (.int (rawHash k) s.toks)) (s' := { s with toks := s.toks + 1 }) (p' := p) (fun K H gd lv => ?_) ?_
  · obtain ⟨heap, gens, drawn, toks, os⟩ := s
    exact call_hash w heap gens drawn toks os p k t _ K H gd lv
  · show Run w 0 _ p (if (decide (-(2 : Int) ^ 63 ≤ rawHash k) && decide (rawHash k < 2 ^ 63)) = true then _ else _) _ _ p
    rw [if_pos (by rw [decide_eq_true hr.1, decide_eq_true hr.2]; rfl)]
    exact run_pure

theorem places_none (es : List DictEntry) (h : Int) (hn : ∀ e ∈ es, e.hash ≠ h) : placesWithHash es.toArray.size (fun i => es.toArray[i]?.map (·.hash)) h = [] := by
  unfold placesWithHash
  rw [List.filter_eq_nil_iff]
  intro i hi
  simp only [List.getElem?_toArray, beq_iff_eq]
  intro e
  obtain ⟨x, hx, hh⟩ := Option.map_eq_some_iff.mp e
  exact hn x (List.mem_of_getElem? hx) hh
theorem run_find {w : World} {s : Shared} {p : Pos} {k : Int} {t : Tok} {d : Addr} {es : List DictEntry} {n : Nat} {h : Int} (ho : s.heap.get? d = some (dObj es n)) (hn : ∀ e ∈ es, e.hash ≠ h) :
    Run w 1 s p (dictFind d (.int k t) h) none s p := by
  unfold dictFind
  refine run_hold ?_
  show Run w (1 + 0) s p _ none s p
  refine run_bind' (a := es.toArray) (s' := s) (p' := p) ?_ ?_
  · show Run w 1 s p (.load d _ _) _ s p
    exact run_load ho run_pure
  · dsimp only
    rw [places_none es h hn]
    exact run_pure
theorem run_push {w : World} {s : Shared} {p : Pos} {part : Option Value} {d : Addr} {es : List DictEntry} {n : Nat} {e : DictEntry} (hd : 11 ≤ d) (ho : s.heap.get? d = some (dObj es n)) (hz : es.length ≤ 1000) :
    Run w 3 s p (updateDictKeys d (·.push e) part) () { s with heap := s.heap.update d (Obj.mapDictKeys (·.push e)) } p := by
  unfold updateDictKeys
  show Run w (1 + (1 + 1)) s p _ () _ p
  refine run_bind' (a := dObj es n) (s' := s) (p' := p) (run_load ho run_pure) ?_
  dsimp only
  refine run_bind' (a := ()) (s' := { s with heap := s.heap.update d (Obj.mapDictKeys (·.push e)) }) (p' := p) ?_ ?_
  · exact run_update hd (by rw [ho]; rfl) run_pure
  · unfold lookBehind
    show Run w (1 + 0) _ p _ () _ p
    refine run_bind' (a := Obj.mapDictKeys (·.push e) (dObj es n)) (p' := p) (run_load (Heap.get?_update_self _ ho rfl) run_pure) ?_
    have : (Obj.mapDictKeys (·.push e) (dObj es n)).data.pastItsLine = none := by
      show (if (es.toArray.push e).size > sizeLine + 1 then _ else _) = none
      rw [if_neg]
      rw [Array.size_push, List.size_toArray, sizeLine_eq]; omega
    rw [this]
    exact run_pure
theorem run_dictSet {w : World} {s : Shared} {p : Pos} {k : Int} {t : Tok} {v : Value} {d : Addr} {es : List DictEntry} {n : Nat} (hd : 11 ≤ d) (ho : s.heap.get? d = some (dObj es n)) (hn : ∀ e ∈ es, e.hash ≠ hashInt k) (hz : es.length ≤ 1000) :
    Run w 10 s p (dictSet d (.int k t) v) () { s with heap := s.heap.update d (Obj.mapDictKeys (·.push ⟨hashInt k, .int k t, v⟩)), toks := s.toks + 1 } p := by
  unfold dictSet
  refine run_hold ?_
  show Run w (5 + 5) s p _ () _ p
  refine run_bind' run_hash ?_
  unfold dictSetHashed
  refine run_hold ?_
  show Run w (1 + 4) _ p _ () _ p
  refine run_bind' (run_find (s := { s with toks := s.toks + 1 }) ho hn) ?_
  dsimp only
  show Run w (1 + 3) _ p _ () _ p
  refine run_bind' (a := ()) (run_rule run_pure) ?_
  exact run_push (s := { s with toks := s.toks + 1 }) hd ho hz
theorem run_dictPut {w : World} {s : Shared} {p : Pos} {k : Int} {t : Tok} {h : Int} {v : Value} {d : Addr} {es : List DictEntry} {n : Nat} (hd : 11 ≤ d) (ho : s.heap.get? d = some (dObj es n)) (hn : ∀ e ∈ es, e.hash ≠ h) (hz : es.length ≤ 1000) :
    Run w 4 s p (dictPut d h (.int k t) v) () { s with heap := s.heap.update d (Obj.mapDictKeys (·.push ⟨h, .int k t, v⟩)) } p := by
  unfold dictPut
  show Run w (1 + 3) s p _ () _ p
  refine run_bind' (run_find ho hn) ?_
  exact run_push hd ho hz
end Hd
end
end
section
open PySem PySem.W PySem.Calls PyProof.Rows
set_option maxRecDepth 100000
noncomputable section
namespace Hd
theorem run_for {γ : Type} {w : World} {pos : Pos} {c : Nat} {f : γ → PUnit → Sem (ForInStep PUnit)} (st : Nat → Shared) : ∀ (xs : List γ) (i : Nat),
    (∀ j x, xs[j]? = some x → Run w c (st (i + j)) pos (f x ⟨⟩) (.yield ⟨⟩) (st (i + j + 1)) pos) → Run w (c * xs.length) (st i) pos (forIn xs PUnit.unit f) PUnit.unit (st (i + xs.length)) pos
  | [], i, _ => by rw [List.forIn_nil]; exact run_pure
  | x :: xs, i, h => by
    rw [List.forIn_cons, List.length_cons, Nat.mul_succ, Nat.add_comm (c * xs.length) c]
    refine run_bind' (h 0 x rfl) ?_
    dsimp only
    have := run_for st xs (i + 1) fun j y hy => by
      have := h (j + 1) y hy
      rwa [show i + (j + 1) = i + 1 + j by omega] at this
    rwa [show i + 1 + xs.length = i + (xs.length + 1) by omega] at this

noncomputable def pairsOf (pos : Pos) (ps : List PD) : List (Sem Value × Sem Value) := ps.map fun x => (mkInt x.1, do let v ← mkText x.2; standAt pos; pure v)
theorem entL_app (tk : Nat) (a b : List PD) : entL tk (a ++ b) = entL tk a ++ entL (tk + 3 * a.length) b := by
  induction a generalizing tk with
  | nil => rfl
  | cons x a ih => obtain ⟨k, s⟩ := x; simp only [List.cons_append, entL, ih, List.length_cons]; congr 3; omega
theorem entL_hash (tk : Nat) (ps : List PD) : (entL tk ps).map (·.hash) = ps.map fun x => hashInt x.1 := by
  induction ps generalizing tk with
  | nil => rfl
  | cons x a ih => obtain ⟨k, s⟩ := x; simp only [entL, List.map_cons, ih]
theorem entS_hash (tk : Nat) (ps : List PD) : (entS tk ps).map (·.hash) = ps.map fun x => hashInt x.1 := by
  induction ps generalizing tk with
  | nil => rfl
  | cons x a ih => obtain ⟨k, s⟩ := x; simp only [entS, List.map_cons, ih]
theorem entL_len (tk : Nat) (ps : List PD) : (entL tk ps).length = ps.length := by
  induction ps generalizing tk with
  | nil => rfl
  | cons x a ih => obtain ⟨k, s⟩ := x; simp only [entL, List.length_cons, ih]
theorem entS_len (tk : Nat) (ps : List PD) : (entS tk ps).length = ps.length := by
  induction ps generalizing tk with
  | nil => rfl
  | cons x a ih => obtain ⟨k, s⟩ := x; simp only [entS, List.length_cons, ih]

/-- a place of one dict in a heap -/
structure At (C : Obj → Heap) (d : Addr) : Prop where
  low : 11 ≤ d
  get : ∀ es n, (C (dObj es n)).get? d = some (dObj es n)
  upd : ∀ es n f, (C (dObj es n)).update d f = C (f (dObj es n))
theorem mapDictKeys_d (es : List DictEntry) (n : Nat) (e : DictEntry) : Obj.mapDictKeys (·.push e) (dObj es n) = dObj (es ++ [e]) (n + 1) := by
  show (⟨_, _, .dict (es.toArray.push e) (n + 1), _⟩ : Obj) = _
  rw [List.push_toArray]
section
variable {w : World} {pos : Pos} {C : Obj → Heap} {d : Addr} {gens : Array GenState} {dr : Drawn} {os : OsState}
theorem run_set1 (A : At C d) {es : List DictEntry} {n tk : Nat} {k : Int} {t : Tok} {v : Value} (hn : ∀ e ∈ es, e.hash ≠ hashInt k) (hz : es.length ≤ 1000) :
    Run w 10 ⟨C (dObj es n), gens, dr, tk, os⟩ pos (dictSet d (.int k t) v) () ⟨C (dObj (es ++ [⟨hashInt k, .int k t, v⟩]) (n + 1)), gens, dr, tk + 1, os⟩ pos := by
  have := run_dictSet (w := w) (p := pos) (s := ⟨C (dObj es n), gens, dr, tk, os⟩) (k := k) (t := t) (v := v) A.low (A.get es n) hn hz
  rwa [show ({ (⟨C (dObj es n), gens, dr, tk, os⟩ : Shared) with heap := (C (dObj es n)).update d (Obj.mapDictKeys (·.push ⟨hashInt k, .int k t, v⟩)), toks := tk + 1 } : Shared) = ⟨C (dObj (es ++ [⟨hashInt k, .int k t, v⟩]) (n + 1)), gens, dr, tk + 1, os⟩ by
    rw [A.upd, mapDictKeys_d]] at this
theorem run_put1 (A : At C d) {es : List DictEntry} {n tk : Nat} {k : Int} {t : Tok} {v : Value} {h : Int} (hn : ∀ e ∈ es, e.hash ≠ h) (hz : es.length ≤ 1000) :
    Run w 4 ⟨C (dObj es n), gens, dr, tk, os⟩ pos (dictPut d h (.int k t) v) () ⟨C (dObj (es ++ [⟨h, .int k t, v⟩]) (n + 1)), gens, dr, tk, os⟩ pos := by
  have := run_dictPut (w := w) (p := pos) (s := ⟨C (dObj es n), gens, dr, tk, os⟩) (k := k) (t := t) (v := v) A.low (A.get es n) hn hz
  rwa [show ({ (⟨C (dObj es n), gens, dr, tk, os⟩ : Shared) with heap := (C (dObj es n)).update d (Obj.mapDictKeys (·.push ⟨h, .int k t, v⟩)) } : Shared) = ⟨C (dObj (es ++ [⟨h, .int k t, v⟩]) (n + 1)), gens, dr, tk, os⟩ by
    rw [A.upd, mapDictKeys_d]] at this
/-- the hashes of a whole are told apart -/
theorem apart_take {es : List DictEntry} {ps : List PD} {x : PD} {i : Nat} {tk : Nat} (hd : (es.map (·.hash) ++ ps.map fun x => hashInt x.1).Nodup) (hx : ps[i]? = some x) : ∀ e ∈ es ++ entL tk (ps.take i), e.hash ≠ hashInt x.1 := by
  intro e he
  have h1 : e.hash ∈ es.map (·.hash) ++ (ps.take i).map fun x => hashInt x.1 := by
    rw [← entL_hash tk, ← List.map_append]; exact List.mem_map.mpr ⟨e, he, rfl⟩
  have h2 : (es.map (·.hash) ++ (ps.take i).map (fun x => hashInt x.1) ++ [hashInt x.1]).Nodup := by
    refine List.Nodup.sublist ?_ hd
    rw [List.append_assoc]
    refine List.Sublist.append (List.Sublist.refl _) ?_
    have : (ps.take i).map (fun x => hashInt x.1) ++ [hashInt x.1] = (ps.take (i + 1)).map fun x => hashInt x.1 := by
      rw [List.take_add_one, hx]; simp
    rw [this]
    exact (List.take_sublist _ _).map _
  intro e'
  rw [List.nodup_append] at h2
  exact h2.2.2 _ h1 _ (List.mem_singleton.mpr rfl) e'
theorem run_long (A : At C d) {f : Sem Value × Sem Value → PUnit → Sem (ForInStep PUnit)} (hf : f = fun x _ => (do let kv ← x.1; let vv ← holding [kv] x.2; holding [kv, vv] (dictSet d kv vv); pure (ForInStep.yield PUnit.unit)))
    {es : List DictEntry} {n tk : Nat} (ps : List PD) (hd : (es.map (·.hash) ++ ps.map fun x => hashInt x.1).Nodup) (hz : es.length + ps.length ≤ 1000) :
    Run w (13 * (pairsOf pos ps).length) ⟨C (dObj es n), gens, dr, tk, os⟩ pos (forIn (pairsOf pos ps) PUnit.unit f) PUnit.unit ⟨C (dObj (es ++ entL tk ps) (n + ps.length)), gens, dr, tk + 3 * ps.length, os⟩ pos := by
  have hl : (pairsOf pos ps).length = ps.length := by simp [pairsOf]
  have := run_for (w := w) (pos := pos) (c := 13) (f := f) (fun i => ⟨C (dObj (es ++ entL tk (ps.take i)) (n + i)), gens, dr, tk + 3 * i, os⟩) (pairsOf pos ps) 0 fun j x hx => by
    rw [pairsOf, List.getElem?_map] at hx
    obtain ⟨⟨k, s⟩, hy, hxy⟩ := Option.map_eq_some_iff.mp hx
    subst hxy
    rw [hf, Nat.zero_add]
    have hlt : j < ps.length := (List.getElem?_eq_some_iff.mp hy).1
    dsimp only
    show Run w (1 + (2 + (10 + 0))) _ pos _ _ _ pos
    refine run_bind' (a := .int k (tk + 3 * j)) (s' := ⟨C (dObj (es ++ entL tk (ps.take j)) (n + j)), gens, dr, tk + 3 * j + 1, os⟩) (p' := pos) (run_fresh run_pure) ?_
    refine run_bind' (a := .str s (tk + 3 * j + 1)) (s' := ⟨C (dObj (es ++ entL tk (ps.take j)) (n + j)), gens, dr, tk + 3 * j + 2, os⟩) (p' := pos) (run_hold ?_) ?_
    · exact run_fresh (run_at run_pure)
    refine run_bind' (a := ()) (run_hold (run_set1 A (es := es ++ entL tk (ps.take j)) (tk := tk + 3 * j + 2) (apart_take hd hy) (by rw [List.length_append, entL_len, List.length_take]; omega))) ?_
    have e : es ++ entL tk (ps.take j) ++ [⟨hashInt k, .int k (tk + 3 * j), .str s (tk + 3 * j + 1)⟩] = es ++ entL tk (ps.take (j + 1)) := by
      rw [List.take_add_one, hy, entL_app, List.append_assoc, List.length_take, Nat.min_eq_left (Nat.le_of_lt hlt)]; rfl
    rw [e, show tk + 3 * (j + 1) = tk + 3 * j + 2 + 1 by omega, show n + (j + 1) = n + j + 1 by omega]
    exact run_pure
  simpa only [Nat.zero_add, List.take_zero, entL, List.append_nil, Nat.add_zero, Nat.mul_zero, hl, List.take_length] using this
end
end Hd
end
end
section
open PySem PySem.W PySem.Calls PyProof.Rows
set_option maxRecDepth 100000
noncomputable section
namespace Hd
noncomputable def HP (L : List Obj) (M : Obj) (Ss : List Obj) : Heap := ⟨(L ++ M :: Ss).toArray, {}⟩
theorem get?_of {h : Heap} {a : Addr} {o : Obj} (e : h.objs[a]? = some o) (hf : o.isFreed = false) : h.get? a = some o := by
  unfold Heap.get?; rw [e]
  obtain ⟨c, d, dt, sl⟩ := o
  cases dt <;> first | rfl | cases hf
theorem hp_size (L : List Obj) (M : Obj) (Ss : List Obj) : (HP L M Ss).objs.size = L.length + 1 + Ss.length := by
  unfold HP; simp; omega
theorem hp_push (L : List Obj) (M : Obj) (Ss : List Obj) (o : Obj) : (HP L M Ss).push o = HP L M (Ss ++ [o]) := by
  show Heap.mk _ _ = Heap.mk _ _
  rw [List.push_toArray, List.append_assoc, List.cons_append]
theorem hp_first (L : List Obj) (o : Obj) : Heap.push ⟨L.toArray, {}⟩ o = HP L o [] := by
  show Heap.mk _ _ = Heap.mk _ _
  rw [List.push_toArray]
theorem hp_upd_main (L : List Obj) (M : Obj) (Ss : List Obj) (f : Obj → Obj) : (HP L M Ss).update L.length f = HP L (f M) Ss := by
  show Heap.mk _ _ = Heap.mk _ _
  congr 1
  apply Array.ext_getElem?
  intro i
  rw [Array.getElem?_modify, List.getElem?_toArray, List.getElem?_toArray]
  by_cases h : L.length = i
  · subst h; simp
  · rw [if_neg h]
    rcases Nat.lt_or_ge i L.length with h' | h'
    · rw [List.getElem?_append_left h', List.getElem?_append_left h']
    · obtain ⟨j, rfl⟩ : ∃ j, i = L.length + (j + 1) := ⟨i - L.length - 1, by omega⟩
      rw [List.getElem?_append_right (by omega), List.getElem?_append_right (by omega)]
      simp
theorem hp_upd_sub (L : List Obj) (M : Obj) (Ss : List Obj) (o : Obj) (f : Obj → Obj) : (HP L M (Ss ++ [o])).update (L.length + 1 + Ss.length) f = HP L M (Ss ++ [f o]) := by
  have e : ∀ x, HP L M (Ss ++ [x]) = ⟨((L ++ M :: Ss) ++ x :: []).toArray, {}⟩ := fun x => by unfold HP; simp
  rw [e, e]
  have := hp_upd_main (L ++ M :: Ss) o [] f
  rwa [show (L ++ M :: Ss).length = L.length + 1 + Ss.length by simp; omega] at this
theorem at_main (L : List Obj) (Ss : List Obj) (hl : 11 ≤ L.length) : At (fun o => HP L o Ss) L.length where
  low := hl
  get es n := get?_of (by show (L ++ dObj es n :: Ss).toArray[L.length]? = _; rw [List.getElem?_toArray, List.getElem?_append_right (Nat.le_refl _)]; simp) rfl
  upd es n f := hp_upd_main L _ Ss f
theorem at_sub (L : List Obj) (M : Obj) (Ss : List Obj) (hl : 11 ≤ L.length) : At (fun o => HP L M (Ss ++ [o])) (L.length + 1 + Ss.length) where
  low := Nat.le_trans hl (Nat.le_trans (Nat.le_succ _) (Nat.le_add_right _ _))
  get es n := get?_of (by show (L ++ M :: (Ss ++ [dObj es n])).toArray[L.length + 1 + Ss.length]? = _; rw [List.getElem?_toArray, List.getElem?_append_right (by omega), show L.length + 1 + Ss.length - L.length = Ss.length + 1 by omega]; simp) rfl
  upd es n f := hp_upd_sub L M Ss _ f
section
variable {w : World} {pos : Pos} {C : Obj → Heap} {d : Addr} {gens : Array GenState} {dr : Drawn} {os : OsState}
noncomputable def valsS (tk : Nat) : List PD → List (Value × Value)
  | [] => []
  | (k, s) :: r => (.int k tk, .str s (tk + 1)) :: valsS (tk + 2) r
theorem run_evalPairs {h : Heap} : ∀ (ps : List PD) (tk : Nat), Run w (3 * ps.length) ⟨h, gens, dr, tk, os⟩ pos (evalPairs (pairsOf pos ps)) (valsS tk ps) ⟨h, gens, dr, tk + 2 * ps.length, os⟩ pos
  | [], tk => run_pure
  | (k, s) :: r, tk => by
    rw [List.length_cons, show 3 * (r.length + 1) = 1 + (2 + (3 * r.length + 0)) by omega, show tk + 2 * (r.length + 1) = tk + 2 + 2 * r.length by omega]
    show Run w _ _ pos (evalPairs ((mkInt k, _) :: pairsOf pos r)) _ _ pos
    unfold evalPairs
    refine run_bind' (a := .int k tk) (s' := ⟨h, gens, dr, tk + 1, os⟩) (p' := pos) (run_fresh run_pure) ?_
    refine run_bind' (a := .str s (tk + 1)) (s' := ⟨h, gens, dr, tk + 2, os⟩) (p' := pos) (run_hold (run_fresh (run_at run_pure))) ?_
    refine run_bind' (run_hold (run_evalPairs r (tk + 2))) ?_
    exact run_pure
theorem valsS_get {ps : List PD} {i : Nat} : ∀ {tk : Nat}, (valsS tk ps)[i]? = (ps[i]?).map fun x => (.int x.1 (tk + 2 * i), .str x.2 (tk + 2 * i + 1)) := by
  induction ps generalizing i with
  | nil => intro tk; rfl
  | cons x r ih =>
    obtain ⟨k, s⟩ := x
    intro tk
    cases i with
    | zero => rfl
    | succ i =>
      show (valsS (tk + 2) r)[i]? = _
      rw [ih]
      simp only [List.getElem?_cons_succ]
      congr 1
      funext x
      rw [show tk + 2 + 2 * i = tk + 2 * (i + 1) by omega]
theorem valsS_len (tk : Nat) (ps : List PD) : (valsS tk ps).length = ps.length := by
  induction ps generalizing tk with
  | nil => rfl
  | cons x a ih => obtain ⟨k, s⟩ := x; simp only [valsS, List.length_cons, ih]
theorem entS_app (tk : Nat) (a b : List PD) : entS tk (a ++ b) = entS tk a ++ entS (tk + 2 * a.length) b := by
  induction a generalizing tk with
  | nil => rfl
  | cons x a ih => obtain ⟨k, s⟩ := x; simp only [List.cons_append, entS, ih, List.length_cons]; congr 3; omega
theorem apart_takeS {es : List DictEntry} {ps : List PD} {x : PD} {i : Nat} {tk : Nat} (hd : (es.map (·.hash) ++ ps.map fun x => hashInt x.1).Nodup) (hx : ps[i]? = some x) : ∀ e ∈ es ++ entS tk (ps.take i), e.hash ≠ hashInt x.1 := by
  intro e he
  have h1 : e.hash ∈ (es ++ entL tk (ps.take i)).map (·.hash) := by
    rw [List.map_append, entL_hash, ← entS_hash tk, ← List.map_append]; exact List.mem_map.mpr ⟨e, he, rfl⟩
  obtain ⟨e', he', hh⟩ := List.mem_map.mp h1
  rw [← hh]
  exact apart_take hd hx e' he'
theorem run_short (A : At C d) {f : Value × Value → PUnit → Sem (ForInStep PUnit)} (hf : f = fun x _ => (do dictSet d x.1 x.2; pure (ForInStep.yield PUnit.unit)))
    {es : List DictEntry} {n tk tk' : Nat} (ps : List PD) (hd : (es.map (·.hash) ++ ps.map fun x => hashInt x.1).Nodup) (hz : es.length + ps.length ≤ 1000) :
    Run w (10 * ps.length) ⟨C (dObj es n), gens, dr, tk', os⟩ pos (forIn (valsS tk ps) PUnit.unit f) PUnit.unit ⟨C (dObj (es ++ entS tk ps) (n + ps.length)), gens, dr, tk' + ps.length, os⟩ pos := by
  have := run_for (w := w) (pos := pos) (c := 10) (f := f) (fun i => ⟨C (dObj (es ++ entS tk (ps.take i)) (n + i)), gens, dr, tk' + i, os⟩) (valsS tk ps) 0 fun j x hx => by
    rw [valsS_get] at hx
    obtain ⟨⟨k, s⟩, hy, hxy⟩ := Option.map_eq_some_iff.mp hx
    subst hxy
    rw [hf, Nat.zero_add]
    have hlt : j < ps.length := (List.getElem?_eq_some_iff.mp hy).1
    dsimp only
    show Run w (10 + 0) _ pos _ _ _ pos
    refine run_bind' (a := ()) (run_set1 A (es := es ++ entS tk (ps.take j)) (apart_takeS hd hy) (by rw [List.length_append, entS_len, List.length_take]; omega)) ?_
    have e : es ++ entS tk (ps.take j) ++ [⟨hashInt k, .int k (tk + 2 * j), .str s (tk + 2 * j + 1)⟩] = es ++ entS tk (ps.take (j + 1)) := by
      rw [List.take_add_one, hy, entS_app, List.append_assoc, List.length_take, Nat.min_eq_left (Nat.le_of_lt hlt)]; rfl
    rw [e]
    exact run_pure
  simpa only [Nat.zero_add, List.take_zero, entS, List.append_nil, Nat.add_zero, Nat.mul_zero, valsS_len, List.take_length] using this
theorem pairs_len (ps : List PD) : (pairsOf pos ps).length = ps.length := by simp [pairsOf]
theorem run_subL (h : Heap) (A : At C h.objs.size) (hC : h.push (dObj [] 0) = C (dObj [] 0)) {tk : Nat} (ps : List PD) (hl : 15 < ps.length) (hd : (ps.map fun x => hashInt x.1).Nodup) (hz : ps.length ≤ 1000) :
    Run w (13 * ps.length + 2) ⟨h, gens, dr, tk, os⟩ pos (subDict (pairsOf pos ps)) h.objs.size ⟨C (dObj (entL tk ps) ps.length), gens, dr, tk + 3 * ps.length, os⟩ pos := by
  unfold subDict
  rw [show 13 * ps.length + 2 = 1 + (1 + 13 * ps.length + 0) by omega]
  refine run_bind' (a := h.objs.size) (s' := ⟨C (dObj [] 0), gens, dr, tk, os⟩) (p' := pos) (hC ▸ run_alloc (s := ⟨h, gens, dr, tk, os⟩) (o := dObj [] 0) run_pure) ?_
  refine run_bind' (a := PUnit.unit) (s' := ⟨C (dObj (entL tk ps) ps.length), gens, dr, tk + 3 * ps.length, os⟩) (p' := pos) (run_hold ?_) run_pure
  rw [if_neg (by rw [pairs_len]; omega)]
  refine run_bind' (a := ()) (run_rule run_pure) ?_
  have := run_long (w := w) (pos := pos) (gens := gens) (dr := dr) (os := os) (n := 0) (tk := tk) (es := []) A rfl ps (by simpa using hd) (by simpa using hz)
  rw [pairs_len] at this
  simpa using this
theorem run_subS (h : Heap) (A : At C h.objs.size) (hC : h.push (dObj [] 0) = C (dObj [] 0)) {tk : Nat} (ps : List PD) (hl : ps.length ≤ 15) (hd : (ps.map fun x => hashInt x.1).Nodup) :
    Run w (13 * ps.length + 1) ⟨h, gens, dr, tk, os⟩ pos (subDict (pairsOf pos ps)) h.objs.size ⟨C (dObj (entS tk ps) ps.length), gens, dr, tk + 3 * ps.length, os⟩ pos := by
  unfold subDict
  rw [show 13 * ps.length + 1 = 1 + (3 * ps.length + 10 * ps.length + 0) by omega, show tk + 3 * ps.length = tk + 2 * ps.length + ps.length by omega]
  refine run_bind' (a := h.objs.size) (s' := ⟨C (dObj [] 0), gens, dr, tk, os⟩) (p' := pos) (hC ▸ run_alloc (s := ⟨h, gens, dr, tk, os⟩) (o := dObj [] 0) run_pure) ?_
  refine run_bind' (a := PUnit.unit) (s' := ⟨C (dObj (entS tk ps) ps.length), gens, dr, tk + 2 * ps.length + ps.length, os⟩) (p' := pos) (run_hold ?_) run_pure
  rw [if_pos (by rw [pairs_len]; omega)]
  refine run_bind' (run_evalPairs ps tk) (run_hold ?_)
  have := run_short (w := w) (pos := pos) (gens := gens) (dr := dr) (os := os) (n := 0) (tk := tk) (tk' := tk + 2 * ps.length) (es := []) A rfl ps (by simpa using hd) (by simp; omega)
  simpa using this
end
end Hd
end
end
section
open PySem PySem.W PySem.Calls PyProof.Rows
set_option maxRecDepth 100000
noncomputable section
namespace Hd
section
variable {w : World} {pos : Pos} {C : Obj → Heap} {d : Addr} {gens : Array GenState} {dr : Drawn} {os : OsState}
theorem peek_isdict : ∀ w : World, peekN [] ⟨pr, w.params⟩ (isSubtype (.type "dict") (.type "dict")) = some (true, 0) := by intro w; kernel_rfl
theorem peek_iter : ∀ w : World, peekN [] ⟨pr, w.params⟩ (typeLookup (.type "dict") "__iter__") = some (some (.builtin "dict.__iter__"), 0) := by intro w; kernel_rfl
theorem run_typeOf {s : Shared} {a : Addr} {es : List DictEntry} {n : Nat} (h : s.heap.get? a = some (dObj es n)) : Run w 1 s pos (typeOf (.ref a)) (.type "dict") s pos :=
  run_bind' (n := 1) (m := 0) (run_load h run_pure) run_pure
theorem run_entries {s : Shared} {a : Addr} {part : Option Value} {es : List DictEntry} {n : Nat} (h : s.heap.get? a = some (dObj es n)) : Run w 1 s pos (dictEntries a part) es.toArray s pos :=
  run_bind' (n := 1) (m := 0) (run_load h run_pure) run_pure
theorem run_epoch {s : Shared} {a : Addr} {part : Option Value} {es : List DictEntry} {n : Nat} (h : s.heap.get? a = some (dObj es n)) : Run w 1 s pos (dictEpoch a part) n s pos :=
  run_bind' (n := 1) (m := 0) (run_load h run_pure) run_pure
theorem run_for0 {γ : Type} {c n : Nat} {f : γ → PUnit → Sem (ForInStep PUnit)} {xs : List γ} {s0 s1 : Shared} (st : Nat → Shared) (hn : n = c * xs.length) (h0 : st 0 = s0) (h1 : st xs.length = s1)
    (h : ∀ j x, xs[j]? = some x → Run w c (st j) pos (f x ⟨⟩) (.yield ⟨⟩) (st (j + 1)) pos) : Run w n s0 pos (forIn xs PUnit.unit f) PUnit.unit s1 pos := by
  subst hn h0 h1
  have := run_for (w := w) (pos := pos) (f := f) st xs 0 fun j x hx => by rw [Nat.zero_add]; exact h j x hx
  rwa [Nat.zero_add] at this
/-- entries whose keys are ints -/
noncomputable def IntKeys (es : List DictEntry) : Prop := ∀ e ∈ es, ∃ k t, e.key = .int k t
theorem entL_int (tk : Nat) (ps : List PD) : IntKeys (entL tk ps) := by
  induction ps generalizing tk with
  | nil => intro e he; cases he
  | cons x a ih => obtain ⟨k, s⟩ := x; intro e he; rcases List.mem_cons.mp he with rfl | he; exact ⟨_, _, rfl⟩; exact ih _ e he
theorem entS_int (tk : Nat) (ps : List PD) : IntKeys (entS tk ps) := by
  induction ps generalizing tk with
  | nil => intro e he; cases he
  | cons x a ih => obtain ⟨k, s⟩ := x; intro e he; rcases List.mem_cons.mp he with rfl | he; exact ⟨_, _, rfl⟩; exact ih _ e he
theorem nodup_take {a b : List Int} {i : Nat} {x : Int} (h : (a ++ b).Nodup) (hx : b[i]? = some x) : ∀ y ∈ a ++ b.take i, y ≠ x := by
  intro y hy e
  have h2 : (a ++ b.take i ++ [x]).Nodup := by
    refine List.Nodup.sublist ?_ h
    rw [List.append_assoc]
    refine List.Sublist.append (List.Sublist.refl _) ?_
    rw [show b.take i ++ [x] = b.take (i + 1) by rw [List.take_add_one, hx]; rfl]
    exact List.take_sublist _ _
  rw [List.nodup_append] at h2
  exact h2.2.2 _ hy _ (List.mem_singleton.mpr rfl) e
theorem run_merge (A : At C d) {a : Addr} {es es2 : List DictEntry} {n n2 tk : Nat} (ha : ∀ es n, (C (dObj es n)).get? a = some (dObj es2 n2)) (hs : (a == sysModules) = false) (h0 : es ≠ [])
    (hk : IntKeys es2) (hd : (es.map (·.hash) ++ es2.map (·.hash)).Nodup) (hz : es.length + es2.length ≤ 1000) :
    Run w (6 * es2.length + 5) ⟨C (dObj es n), gens, dr, tk, os⟩ pos (mergeMapping d (.ref a) false) () ⟨C (dObj (es ++ es2) (n + es2.length)), gens, dr, tk, os⟩ pos := by
  unfold mergeMapping
  have nX : ∀ h : Heap, Frag.In [] h := fun h a o e => by cases e
  rw [show 6 * es2.length + 5 = (1 + 0) + ((1 + 0) + (0 + (1 + (1 + (1 + (6 * es2.length + 0)))))) by omega]
  refine run_bind' (a := true) (s' := ⟨C (dObj es n), gens, dr, tk, os⟩) (p' := pos) (run_bind' (run_typeOf (ha _ _)) (run_peek (nX _) _ _ _ (peek_isdict w))) ?_
  rw [if_pos rfl]
  refine run_bind' (a := some (.builtin "dict.__iter__")) (run_bind' (run_typeOf (ha _ _)) (run_peek (nX _) _ _ _ (peek_iter w))) ?_
  refine run_bind' (n := 0) (a := true) (s' := ⟨C (dObj es n), gens, dr, tk, os⟩) (p' := pos) ?_ ?_
  · rw [show (some (Value.builtin "dict.__iter__") == some (Value.builtin "dict.__iter__")) = true from by decide]; exact run_pure
  dsimp only
  rw [if_neg (by rw [hs]; exact Bool.false_ne_true)]
  refine run_bind' (run_entries (A.get _ _)) ?_
  rw [if_neg (by cases es with | nil => exact absurd rfl h0 | cons _ _ => exact Bool.false_ne_true)]
  refine run_bind' (run_entries (ha _ _)) ?_
  refine run_bind' (run_epoch (ha _ _)) ?_
  refine run_bind' (a := PUnit.unit) (s' := ⟨C (dObj (es ++ es2) (n + es2.length)), gens, dr, tk, os⟩) (p' := pos) ?_ run_pure
  refine run_for0 (c := 6) (fun i => ⟨C (dObj (es ++ es2.take i) (n + i)), gens, dr, tk, os⟩) (by simp) (by simp) (by simp) fun j x hx => ?_
  have hj : j < es2.length := by have := (List.getElem?_eq_some_iff.mp hx).1; simpa using this
  obtain rfl : x = j := by rw [List.getElem?_range (by simpa using hj)] at hx; exact (Option.some.inj hx).symm
  obtain ⟨k, t, hkt⟩ := hk _ (List.getElem_mem hj)
  show Run w (1 + (4 + (1 + 0))) _ pos _ _ _ pos
  refine run_bind' (run_entries (ha _ _)) ?_
  rw [List.getElem?_toArray, List.getElem?_eq_getElem hj]
  dsimp only
  refine run_bind' (a := ()) (s' := ⟨C (dObj (es ++ es2.take (x + 1)) (n + (x + 1))), gens, dr, tk, os⟩) (p' := pos) (run_hold ?_) ?_
  · have := run_put1 (w := w) (pos := pos) (gens := gens) (dr := dr) (os := os) (n := n + x) (tk := tk) A (es := es ++ es2.take x) (k := k) (t := t) (v := es2[x].val) (h := es2[x].hash) (by
      intro e he
      have := nodup_take (i := x) (x := es2[x].hash) hd (by rw [List.getElem?_map, List.getElem?_eq_getElem hj]; rfl) e.hash (by
        rw [← List.map_take, ← List.map_append]; exact List.mem_map.mpr ⟨e, he, rfl⟩)
      exact this) (by rw [List.length_append, List.length_take]; omega)
    rw [if_neg Bool.false_ne_true, hkt]
    have e : es ++ es2.take x ++ [⟨es2[x].hash, .int k t, es2[x].val⟩] = es ++ es2.take (x + 1) := by
      rw [List.take_add_one, List.getElem?_eq_getElem hj, List.append_assoc, ← hkt]; rfl
    rw [e] at this
    exact this
  · refine run_bind' (run_epoch (ha _ _)) ?_
    rw [if_neg (by simp)]
    exact run_pure
end
end Hd
end
end
section
open PySem PySem.W PySem.Calls PyProof.Rows
set_option maxRecDepth 100000
noncomputable section
namespace Hd
abbrev Item := Option (Sem Value) × Sem Value
abbrev DSt := Option Addr × List (Sem Value × Sem Value)
noncomputable def mkI (ps : List (Sem Value × Sem Value)) : List Item := ps.map fun p => (some p.1, p.2)
theorem gather {F : Item → DSt → Sem (ForInStep DSt)} (few : ∀ (p : Sem Value × Sem Value) (run : List (Sem Value × Sem Value)) (main : Option Addr), run.length + 1 < 17 → F (some p.1, p.2) (main, run) = pure (.yield (main, run ++ [p])))
    (main : Option Addr) (rest : List Item) : ∀ (ps run : List (Sem Value × Sem Value)), run.length + ps.length < 17 → forIn (mkI ps ++ rest) ((main, run) : DSt) F = forIn rest ((main, run ++ ps) : DSt) F
  | [], run, _ => by rw [List.append_nil]; rfl
  | p :: ps, run, h => by
    rw [mkI, List.map_cons, List.cons_append, List.forIn_cons, few p run main (by simp at h; omega), pure_bind]
    have := gather few main rest ps (run ++ [p]) (by simp at h ⊢; omega)
    rw [List.append_assoc] at this
    exact this
theorem last_of {α : Type} {n : Nat} (ps : List α) (hl : ps.length = n + 1) : ∃ run p, run.length = n ∧ ps = run ++ [p] := by
  refine ⟨ps.take n, ps[n], by rw [List.length_take]; omega, ?_⟩
  have e := List.take_append_drop n ps
  rw [List.drop_eq_getElem_cons (by omega), List.drop_eq_nil_of_le (by omega)] at e
  exact e.symm
section
variable {w : World} {pos : Pos} {gens : Array GenState} {dr : Drawn} {os : OsState} {L : List Obj}
theorem flat_len : ∀ {cs : List (List PD)}, (∀ c ∈ cs, c.length = 17) → cs.flatten.length = 17 * cs.length
  | [], _ => rfl
  | c :: r, h => by rw [List.flatten_cons, List.length_append, h c (.head _), flat_len fun c hc => h c (.tail _ hc), List.length_cons]; omega
-- a turn of the display's loop, told by its runs: a pair joins the row, or the row is full and goes into the dict at L
structure Body (w : World) (pos : Pos) (gens : Array GenState) (dr : Drawn) (os : OsState) (L : List Obj) (F : Item → DSt → Sem (ForInStep DSt)) : Prop where
  few : ∀ (p : Sem Value × Sem Value) (run : List (Sem Value × Sem Value)) (main : Option Addr), run.length + 1 < 17 → F (some p.1, p.2) (main, run) = pure (.yield (main, run ++ [p]))
  one : ∀ (p : Sem Value × Sem Value) (run : List (Sem Value × Sem Value)) (c : List PD) (tk : Nat), run.length = 16 → pairsOf pos c = run ++ [p] → (c.map fun x => hashInt x.1).Nodup →
    Run w 223 ⟨⟨L.toArray, {}⟩, gens, dr, tk, os⟩ pos (F (some p.1, p.2) (none, run)) (.yield (some L.length, [])) ⟨HP L (dObj (entL tk c) 17) [], gens, dr, tk + 51, os⟩ pos
  more : ∀ (p : Sem Value × Sem Value) (run : List (Sem Value × Sem Value)) (c : List PD) (E : List DictEntry) (n tk : Nat) (Ss : List Obj), run.length = 16 → pairsOf pos c = run ++ [p] → E ≠ [] →
    (E.map (·.hash) ++ c.map fun x => hashInt x.1).Nodup → E.length + c.length ≤ 1000 →
    Run w 330 ⟨HP L (dObj E n) Ss, gens, dr, tk, os⟩ pos (F (some p.1, p.2) (some L.length, run)) (.yield (some L.length, [])) ⟨HP L (dObj (E ++ entL tk c) (n + 17)) (Ss ++ [dObj (entL tk c) 17]), gens, dr, tk + 51, os⟩ pos
theorem row_len {c : List PD} {run : List (Sem Value × Sem Value)} {p : Sem Value × Sem Value} (h : run.length = 16) (e : pairsOf pos c = run ++ [p]) : c.length = 17 := by
  rw [← pairs_len (pos := pos), e, List.length_append, h]; rfl
theorem main_run (hl : 11 ≤ L.length) {tk : Nat} (c : List PD) (h17 : c.length = 17) (hd : (c.map fun x => hashInt x.1).Nodup) :
    Run w 223 ⟨⟨L.toArray, {}⟩, gens, dr, tk, os⟩ pos (subDict (pairsOf pos c)) L.length ⟨HP L (dObj (entL tk c) 17) [], gens, dr, tk + 51, os⟩ pos := by
  have hz : (⟨L.toArray, {}⟩ : Heap).objs.size = L.length := by simp
  have := run_subL (w := w) (pos := pos) (gens := gens) (dr := dr) (os := os) (tk := tk) ⟨L.toArray, {}⟩ (C := fun o => HP L o []) (by rw [hz]; exact at_main L [] hl) (hp_first L _) c (by omega) hd (by omega)
  rw [h17, hz] at this
  exact this
section
variable {E : List DictEntry} {n tk : Nat} {Ss : List Obj}
theorem sub_run (hl : 11 ≤ L.length) (c : List PD) (h17 : c.length = 17) (hd : (c.map fun x => hashInt x.1).Nodup) :
    Run w 223 ⟨HP L (dObj E n) Ss, gens, dr, tk, os⟩ pos (subDict (pairsOf pos c)) (L.length + 1 + Ss.length) ⟨HP L (dObj E n) (Ss ++ [dObj (entL tk c) 17]), gens, dr, tk + 51, os⟩ pos := by
  have hs := hp_size L (dObj E n) Ss
  have := run_subL (w := w) (pos := pos) (gens := gens) (dr := dr) (os := os) (tk := tk) (HP L (dObj E n) Ss) (C := fun o => HP L (dObj E n) (Ss ++ [o])) (by rw [hs]; exact at_sub L (dObj E n) Ss hl) (hp_push _ _ _ _) c (by omega) hd (by omega)
  rw [h17, hs] at this
  exact this
theorem subS_run (hl : 11 ≤ L.length) (c : List PD) (h4 : c.length = 4) (hd : (c.map fun x => hashInt x.1).Nodup) :
    Run w 53 ⟨HP L (dObj E n) Ss, gens, dr, tk, os⟩ pos (subDict (pairsOf pos c)) (L.length + 1 + Ss.length) ⟨HP L (dObj E n) (Ss ++ [dObj (entS tk c) 4]), gens, dr, tk + 12, os⟩ pos := by
  have hs := hp_size L (dObj E n) Ss
  have := run_subS (w := w) (pos := pos) (gens := gens) (dr := dr) (os := os) (tk := tk) (HP L (dObj E n) Ss) (C := fun o => HP L (dObj E n) (Ss ++ [o])) (by rw [hs]; exact at_sub L (dObj E n) Ss hl) (hp_push _ _ _ _) c (by omega) hd
  rw [h4, hs] at this
  exact this
theorem join_run (hl : 11 ≤ L.length) (h72 : sysModules < 11) {es2 : List DictEntry} {k n2 : Nat} (hk : es2.length = k) (h0 : E ≠ []) (hi : IntKeys es2) (hd : (E.map (·.hash) ++ es2.map (·.hash)).Nodup) (hz : E.length + es2.length ≤ 1000) :
    Run w (6 * k + 5) ⟨HP L (dObj E n) (Ss ++ [dObj es2 n2]), gens, dr, tk, os⟩ pos (mergeMapping L.length (.ref (L.length + 1 + Ss.length)) false) () ⟨HP L (dObj (E ++ es2) (n + k)) (Ss ++ [dObj es2 n2]), gens, dr, tk, os⟩ pos := by
  subst hk
  refine run_merge (w := w) (pos := pos) (gens := gens) (dr := dr) (os := os) (at_main L (Ss ++ [dObj es2 n2]) hl) (fun es n => (at_sub L (dObj es n) Ss hl).get _ _) (beq_eq_false_iff_ne.mpr fun e => ?_) h0 hi hd hz
  rw [← e] at h72
  exact absurd h72 (Nat.not_lt.mpr (Nat.le_trans hl (Nat.le_trans (Nat.le_succ _) (Nat.le_add_right _ _))))
end
theorem pairs_app (a b : List PD) : pairsOf pos (a ++ b) = pairsOf pos a ++ pairsOf pos b := by simp [pairsOf]
theorem mkI_app (a b : List (Sem Value × Sem Value)) : mkI (a ++ b) = mkI a ++ mkI b := by simp [mkI]
-- a row of seventeen out of the first state, and what comes behind
theorem row_run {F : Item → DSt → Sem (ForInStep DSt)} (few : ∀ (p : Sem Value × Sem Value) (run : List (Sem Value × Sem Value)) (main : Option Addr), run.length + 1 < 17 → F (some p.1, p.2) (main, run) = pure (.yield (main, run ++ [p])))
    {main main' : Option Addr} (rest : List Item) (c : List PD) (h17 : c.length = 17) {a b : Nat} {s s₁ s' : Shared} {r : DSt} {p' : Pos}
    (turn : ∀ (p : Sem Value × Sem Value) (run : List (Sem Value × Sem Value)), run.length = 16 → pairsOf pos c = run ++ [p] → Run w a s pos (F (some p.1, p.2) (main, run)) (.yield (main', [])) s₁ pos)
    (k : Run w b s₁ pos (forIn rest ((main', []) : DSt) F) r s' p') : Run w (a + b) s pos (forIn (mkI (pairsOf pos c) ++ rest) ((main, []) : DSt) F) r s' p' := by
  obtain ⟨run, p, hn, e⟩ := last_of (n := 16) (pairsOf pos c) (by rw [pairs_len]; exact h17)
  have t := turn p run hn e
  rw [e, mkI_app, List.append_assoc, gather few main _ run [] (by rw [hn]; decide), List.nil_append]
  show Run w (a + b) s pos (forIn ((some p.1, p.2) :: rest) _ F) r s' p'
  rw [List.forIn_cons]
  exact run_bind' t k
theorem run_chunks {F} (B : Body w pos gens dr os L F) {r : DSt} {s' : Shared} {p' : Pos} {m : Nat} (rest : List Item) : ∀ (cs : List (List PD)) (tk n : Nat) (E : List DictEntry) (Ss : List Obj),
    (∀ c ∈ cs, c.length = 17) → E ≠ [] → (E.map (·.hash) ++ cs.flatten.map fun x => hashInt x.1).Nodup → E.length + 17 * cs.length ≤ 1000 →
    Run w m ⟨HP L (dObj (E ++ entL tk cs.flatten) (n + 17 * cs.length)) (Ss ++ subsOf tk cs), gens, dr, tk + 51 * cs.length, os⟩ pos (forIn rest ((some L.length, []) : DSt) F) r s' p' →
    Run w (330 * cs.length + m) ⟨HP L (dObj E n) Ss, gens, dr, tk, os⟩ pos (forIn (mkI (pairsOf pos cs.flatten) ++ rest) ((some L.length, []) : DSt) F) r s' p'
  | [], tk, n, E, Ss, _, _, _, _, h => by simpa [subsOf, entL, mkI, pairsOf] using h
  | c :: cs, tk, n, E, Ss, h17, h0, hd, hz, h => by
    have hc := h17 c (.head _)
    rw [List.flatten_cons] at hd ⊢
    rw [pairs_app, mkI_app, List.append_assoc, List.length_cons, show 330 * (cs.length + 1) + m = 330 + (330 * cs.length + m) by omega]
    rw [List.length_cons] at hz
    rw [List.map_append, ← List.append_assoc] at hd
    refine row_run B.few _ c hc (fun p run hn e => B.more p run c E n tk Ss hn e h0 (hd.sublist (List.sublist_append_left _ _)) (by omega)) ?_
    refine run_chunks B rest cs (tk + 51) (n + 17) (E ++ entL tk c) (Ss ++ [dObj (entL tk c) 17]) (fun x hx => h17 x (.tail _ hx)) (by simp [h0]) (by rw [List.map_append, entL_hash]; exact hd) (by rw [List.length_append, entL_len, hc]; omega) ?_
    rw [List.flatten_cons, entL_app, hc, List.length_cons] at h
    rw [List.append_assoc, List.append_assoc, show n + 17 + 17 * cs.length = n + 17 * (cs.length + 1) by omega, show tk + 51 + 51 * cs.length = tk + 51 * (cs.length + 1) by omega]
    exact h
end
end Hd
end
end
section
open PySem PySem.W PySem.Calls PyProof.Rows
set_option maxRecDepth 100000
noncomputable section
namespace Hd
section
variable {w : World} {pos : Pos} {gens : Array GenState} {dr : Drawn} {os : OsState} {L : List Obj}
theorem run_loop {F} (B : Body w pos gens dr os L F) {tk : Nat} (c0 : List PD) (cs : List (List PD)) (last : List PD) (h0 : c0.length = 17) (h17 : ∀ c ∈ cs, c.length = 17) (h4 : last.length = 4)
    (hd : ((c0 ++ (cs.flatten ++ last)).map fun x => hashInt x.1).Nodup) (hz : 17 * cs.length ≤ 900) :
    Run w (223 + (330 * cs.length + 0)) ⟨⟨L.toArray, {}⟩, gens, dr, tk, os⟩ pos (forIn (mkI (pairsOf pos (c0 ++ (cs.flatten ++ last)))) ((none, []) : DSt) F) (some L.length, pairsOf pos last)
      ⟨HP L (dObj (entL tk (c0 ++ cs.flatten)) (17 + 17 * cs.length)) (subsOf (tk + 51) cs), gens, dr, tk + 51 + 51 * cs.length, os⟩ pos := by
  rw [List.map_append] at hd
  have hd0 := hd.sublist (List.sublist_append_left _ _)
  rw [pairs_app, mkI_app]
  refine row_run B.few _ c0 h0 (fun p run hn e => B.one p run c0 tk hn e hd0) ?_
  rw [pairs_app, mkI_app]
  refine Eq.mp ?_ (run_chunks (w := w) (pos := pos) (gens := gens) (dr := dr) (os := os) (L := L) B (mkI (pairsOf pos last)) cs (tk + 51) 17 (entL tk c0) [] h17 (by intro e; have := congrArg List.length e; rw [entL_len, h0] at this; cases this)
    (by rw [entL_hash]; refine hd.sublist (List.Sublist.append (List.Sublist.refl _) ?_); rw [List.map_append]; exact List.sublist_append_left _ _) (by rw [entL_len]; omega) (m := 0)
    (r := (some L.length, pairsOf pos last)) (s' := ⟨HP L (dObj (entL tk (c0 ++ cs.flatten)) (17 + 17 * cs.length)) (subsOf (tk + 51) cs), gens, dr, tk + 51 + 51 * cs.length, os⟩) (p' := pos) ?_)
  · rfl
  · have := gather B.few (some L.length) [] (pairsOf pos last) [] (by rw [pairs_len]; simp; omega)
    rw [List.append_nil] at this
    rw [this, entL_app, h0]
    exact run_pure
theorem run_display (hl : 11 ≤ L.length) (h72 : sysModules < 11) {tk : Nat} (c0 : List PD) (cs : List (List PD)) (last : List PD) (h0 : c0.length = 17) (h17 : ∀ c ∈ cs, c.length = 17) (h4 : last.length = 4)
    (hd : ((c0 ++ (cs.flatten ++ last)).map fun x => hashInt x.1).Nodup) (hz : 17 * cs.length ≤ 900) :
    Run w (223 + (330 * cs.length + 0) + (82 + 0)) ⟨⟨L.toArray, {}⟩, gens, dr, tk, os⟩ pos (dictDisplay (mkI (pairsOf pos (c0 ++ (cs.flatten ++ last))))) (.ref L.length)
      ⟨HP L (dObj (entL tk (c0 ++ cs.flatten) ++ entS (tk + 51 + 51 * cs.length) last) (17 + 17 * cs.length + 4)) (subsOf (tk + 51) cs ++ [dObj (entS (tk + 51 + 51 * cs.length) last) 4]), gens, dr, tk + 51 + 51 * cs.length + 12, os⟩ pos := by
  unfold dictDisplay
  dsimp only
  refine run_bind' (run_loop (w := w) (pos := pos) (gens := gens) (dr := dr) (os := os) ⟨fun p run main h => ?_, fun p run c tk hn e hd => ?_, fun p run c E n tk Ss hn e h0 hd hz => ?_⟩ (tk := tk) c0 cs last h0 h17 h4 hd hz) ?_
  · have hne : ((run ++ [(p.1, p.2)]).length == 17) = false := beq_eq_false_iff_ne.mpr (by rw [List.length_append]; exact Nat.ne_of_lt h)
    simp only [hne, Bool.false_eq_true, if_false]
  · have hq : ((run ++ [(p.1, p.2)]).length == 17) = true := beq_iff_eq.mpr (by rw [List.length_append, hn]; rfl)
    have hem : (run ++ [(p.1, p.2)]).isEmpty = false := by cases run <;> rfl
    have S := main_run (w := w) (pos := pos) (gens := gens) (dr := dr) (os := os) hl (tk := tk) c (row_len hn e) hd
    simp only [hq, if_true, hem, Bool.false_eq_true, if_false]
    rw [e] at S
    exact run_bind' (n := 223 + 0) (m := 0) (run_bind' S run_pure) run_pure
  · have hc := row_len hn e
    have hq : ((run ++ [(p.1, p.2)]).length == 17) = true := beq_iff_eq.mpr (by rw [List.length_append, hn]; rfl)
    have hem : (run ++ [(p.1, p.2)]).isEmpty = false := by cases run <;> rfl
    have S := sub_run (w := w) (pos := pos) (gens := gens) (dr := dr) (os := os) (E := E) (n := n) (tk := tk) (Ss := Ss) hl c hc (hd.sublist (List.sublist_append_right _ _))
    have M := join_run (w := w) (pos := pos) (gens := gens) (dr := dr) (os := os) (E := E) (n := n) (tk := tk + 51) (Ss := Ss) (n2 := 17) hl h72 ((entL_len tk c).trans hc) h0 (entL_int _ _) (by rw [entL_hash]; exact hd) (by rw [entL_len]; exact hz)
    simp only [hq, if_true, hem, Bool.false_eq_true, if_false]
    rw [e] at S
    exact run_bind' (n := 223 + (107 + 0)) (m := 0) (run_bind' (run_hold S) (run_bind' (run_onRaise (run_hold M)) run_pure)) run_pure
  · dsimp only
    have hem : (pairsOf pos last).isEmpty = false := by cases last with | nil => cases h4 | cons _ _ => rfl
    rw [hem, if_neg Bool.false_ne_true]
    have hn := entL_len tk (c0 ++ cs.flatten)
    rw [List.length_append, h0, flat_len h17] at hn
    have hd' : ((entL tk (c0 ++ cs.flatten)).map (·.hash) ++ last.map fun x => hashInt x.1).Nodup := by
      rw [entL_hash, ← List.map_append, List.append_assoc]; exact hd
    have S := subS_run (w := w) (pos := pos) (gens := gens) (dr := dr) (os := os) (E := entL tk (c0 ++ cs.flatten)) (n := 17 + 17 * cs.length) (tk := tk + 51 + 51 * cs.length) (Ss := subsOf (tk + 51) cs) hl last h4 (hd'.sublist (List.sublist_append_right _ _))
    have M := join_run (w := w) (pos := pos) (gens := gens) (dr := dr) (os := os) (E := entL tk (c0 ++ cs.flatten)) (n := 17 + 17 * cs.length) (tk := tk + 51 + 51 * cs.length + 12) (Ss := subsOf (tk + 51) cs) (n2 := 4) hl h72
      ((entS_len (tk + 51 + 51 * cs.length) last).trans h4) (by intro e; rw [e] at hn; simp at hn; omega) (entS_int _ _) (by rw [entS_hash]; exact hd') (by rw [entS_len, hn]; omega)
    exact run_bind' (n := 53 + (29 + 0)) (m := 0) (run_bind' (run_hold S) (run_bind' (run_onRaise (run_hold M)) run_pure)) run_pure
end
noncomputable def okPairs : List (Option PySem.Expr) → List PySem.Expr → Bool
  | [], [] => true
  | some (.Constant (.int _) _ _) :: ks, .Constant (.str _) _ _ :: vs => okPairs ks vs
  | _, _ => false
theorem okP_inv (k : Option PySem.Expr) (ks : List (Option PySem.Expr)) (vs : List PySem.Expr) (h : okPairs (k :: ks) vs = true) :
    ∃ i a b s c d r, k = some (.Constant (.int i) a b) ∧ vs = .Constant (.str s) c d :: r ∧ okPairs ks r = true := by
  cases k with
  | none => exact absurd h Bool.false_ne_true
  | some e =>
    cases e with
    | Constant c p1 p2 =>
      cases c with
      | int i =>
        cases vs with
        | nil => exact absurd h Bool.false_ne_true
        | cons v r =>
          cases v with
          | Constant c2 q1 q2 =>
            cases c2 with
            | str s => exact ⟨_, _, _, _, _, _, _, rfl, rfl, h⟩
            | _ => exact absurd h Bool.false_ne_true
          | _ => exact absurd h Bool.false_ne_true
      | _ => exact absurd h Bool.false_ne_true
    | _ => exact absurd h Bool.false_ne_true
theorem items_eq (env : Env) (pos : Pos) : ∀ (ks : List (Option PySem.Expr)) (vs : List PySem.Expr), okPairs ks vs = true →
    (evalEachOpt ks env).zip ((evalEach vs env).map fun v => do let x ← v; standAt pos; pure x) = mkI (pairsOf pos (dataOf ks vs)) := by
  intro ks
  induction ks with
  | nil =>
    intro vs h
    cases vs with
    | nil => rfl
    | cons v vs => exact absurd h Bool.false_ne_true
  | cons k ks ih =>
    intro vs h
    obtain ⟨i, a, b, s, c, d, r, rfl, rfl, h'⟩ := okP_inv k ks vs h
    exact congr (congrArg List.cons (show ((evalOpt (some (.Constant (.int i) a b)) env, _) : Item) = (some (mkInt i), _) from rfl)) (ih r h')
end Hd
end
end
section
open PySem PySem.W PySem.Calls PyProof.Rows
set_option maxRecDepth 100000
noncomputable section
namespace Hd
noncomputable def b3T : List PySem.Expr := match st 8 with | .Assign ts _ _ => ts | _ => []
noncomputable def b3dp : Pos := match st 8 with | .Assign _ (.Dict _ _ p) _ => p | _ => default
noncomputable def b3p : Pos := match st 8 with | .Assign _ _ p => p | _ => default
noncomputable def t8p (P : Params) : BT := (t8 P).set 3 (fun _ => o3v7 P)
theorem st8_eq : st 8 = .Assign b3T (.Dict b3K b3V b3dp) b3p := by kernel_rfl
theorem store8 : ∀ (w : World) (os : OsState) (K : Flow → Sem Fin) (H : Value → Sem Fin) (gd : Bool → Bool) (lv : List Value → List Value), segGoT treeTable pr w 11 (some (.ref 6)) 1 7 (S t8p 111 2262 w os) ⟨(assignStores envE (.ref 72) none ((assignEach b3T envE).map (·.2))).wrap K H gd lv, cE, b3dp, bB⟩ = some (S t8 111 2263 w os, ⟨K .next, cE, ⟨30, 0, 30, 13⟩, bB⟩) := by
  intro w os K H gd lv; rw [PySem.W.Fast.te10295753902157049106, PySem.W.Fast.te14364793385576792824]; kernel_rfl
theorem sw8 : ∀ w : World, peekN [] ⟨pr, w.params⟩ (swapsWithSole b3T (.Dict b3K b3V b3dp) b3p.line envE) = some (false, 0) := by intro w; kernel_rfl
theorem sd8 : ∀ w : World, peekN [] ⟨pr, w.params⟩ (swappedStores b3T (.Dict b3K b3V b3dp) envE) = some (none, 0) := by intro w; kernel_rfl
theorem ok8 : okPairs b3K b3V = true := by kernel_rfl
theorem split8 : b3D = b3c0 ++ (b3cs.flatten ++ b3last) := by kernel_rfl
theorem len0 : b3c0.length = 17 := by kernel_rfl
theorem lens : (b3cs.all fun c => c.length == 17) = true := by kernel_rfl
theorem len4 : b3last.length = 4 := by kernel_rfl
theorem lencs : b3cs.length = 37 := by kernel_rfl
noncomputable def incr : Int → List Int → Bool
  | _, [] => true
  | a, b :: r => decide (a < b) && incr b r
theorem incr_pair : ∀ (l : List Int) (a : Int), incr a l = true → (a :: l).Pairwise (· < ·)
  | [], a, _ => List.pairwise_singleton _ _
  | b :: r, a, h => by
    simp only [incr, Bool.and_eq_true, decide_eq_true_eq] at h
    have ih := incr_pair r b h.2
    refine List.Pairwise.cons (fun x hx => ?_) ih
    rcases List.mem_cons.mp hx with rfl | hx
    · exact h.1
    · exact Int.lt_trans h.1 ((List.pairwise_cons.mp ih).1 x hx)
theorem hash_small {k : Int} (h0 : 0 ≤ k) (h1 : k < 2 ^ 60) : hashInt k = k := by
  have e : rawHash k = k := by
    unfold rawHash
    have h2 : (k.natAbs : Int) = k := Int.natAbs_of_nonneg h0
    have h3 : k % ((2 ^ 61 - 1 : Nat) : Int) = k := Int.emod_eq_of_lt h0 (by omega)
    have h4 : (k == -1) = false := beq_eq_false_iff_ne.mpr (by omega)
    have h5 : ¬ k < 0 := by omega
    simp only [h2, h3, h5, if_false, h4, Bool.false_eq_true]
  unfold hashInt
  rw [e]
  have : (k == -1) = false := beq_eq_false_iff_ne.mpr (by omega)
  rw [this, if_neg Bool.false_ne_true]
theorem inc8 : incr 0 (b3D.map (·.1)) = true := by decide +kernel
theorem small8 : (b3D.all fun x => decide (0 ≤ x.1) && decide (x.1 < 2 ^ 60)) = true := by decide +kernel
theorem nodup8 : ((b3c0 ++ (b3cs.flatten ++ b3last)).map fun x => hashInt x.1).Nodup := by
  rw [← split8]
  have h : b3D.map (fun x => hashInt x.1) = b3D.map (·.1) := by
    refine List.map_congr_left fun x hx => ?_
    have := List.all_eq_true.mp small8 x hx
    simp only [Bool.and_eq_true, decide_eq_true_eq] at this
    exact hash_small this.1 this.2
  rw [h]
  exact ((List.pairwise_cons.mp (incr_pair _ _ inc8)).2).imp fun h => Int.ne_of_lt h
theorem map_range_get (l : List Obj) : (List.range l.length).map (fun j => (l[j]?).getD default) = l := by
  apply List.ext_getElem
  · simp
  · intro i h1 h2
    simp
    rw [List.getElem?_eq_getElem h2]; rfl
theorem subs_len : subsAll.length = 38 := by kernel_rfl
theorem subs_eq : subsAll = (List.range 38).map subAt := by
  have := map_range_get subsAll
  rw [subs_len] at this
  exact this.symm
theorem heap8 (P : Params) : HP ((t7 P).list 72) b3Main subsAll = absHeap (t8p P) 111 {} := by
  rw [subs_eq]
  kernel_rfl
theorem arm_assign (ts : List PySem.Expr) (v : PySem.Expr) (p : Pos) (env : Env) : exec (.Assign ts v p) env = (do
    standAt p
    if ← swapsWithSole ts v p.line env then do
      evalThenUse v env fun v => assignAll v ((assignEach ts env).map (·.2))
      pure .next
    else do
      let x ← eval v env
      assignStores env x (← swappedStores ts v env) ((assignEach ts env).map (·.2))) := rfl
theorem run_assign_dict {w : World} {os : OsState} {tk : Nat} {L : List Obj} {T : List PySem.Expr} {ks : List (Option PySem.Expr)} {vs : List PySem.Expr} {dp p p0 p'' : Pos} {env : Env} {s'' : Shared} {n : Nat} (c0 : List PD) (cs : List (List PD)) (last : List PD)
    (sw : peekN [] ⟨pr, w.params⟩ (swapsWithSole T (.Dict ks vs dp) p.line env) = some (false, 0)) (sd : peekN [] ⟨pr, w.params⟩ (swappedStores T (.Dict ks vs dp) env) = some (none, 0)) (ok : okPairs ks vs = true)
    (hdata : dataOf ks vs = c0 ++ (cs.flatten ++ last)) (hl : 11 ≤ L.length) (h0 : c0.length = 17) (h17 : ∀ c ∈ cs, c.length = 17) (h4 : last.length = 4) (hd : ((c0 ++ (cs.flatten ++ last)).map fun x => hashInt x.1).Nodup) (hz : 17 * cs.length ≤ 900)
    (store : Run w n ⟨HP L (dObj (entL tk (c0 ++ cs.flatten) ++ entS (tk + 51 + 51 * cs.length) last) (17 + 17 * cs.length + 4)) (subsOf (tk + 51) cs ++ [dObj (entS (tk + 51 + 51 * cs.length) last) 4]), #[], {}, tk + 51 + 51 * cs.length + 12, os⟩ dp (assignStores env (.ref L.length) none ((assignEach T env).map (·.2))) .next s'' p'') :
    Run w (1 + (0 + (1 + (223 + (330 * cs.length + 0) + (82 + 0)) + (0 + n)))) ⟨⟨L.toArray, {}⟩, #[], {}, tk, os⟩ p0 (exec (.Assign T (.Dict ks vs dp) p) env) .next s'' p'' := by
  have nX : ∀ h : Heap, Frag.In [] h := fun h a o e => by cases e
  rw [arm_assign]
  refine run_bind' (a := ()) (p' := p) (run_at run_pure) ?_
  refine run_bind' (run_peek (nX _) _ _ _ sw) ?_
  rw [if_neg Bool.false_ne_true, arm_eval_Dict, items_eq env dp ks vs ok, hdata]
  refine run_bind' (a := .ref L.length) (run_bind' (a := ()) (p' := dp) (run_at run_pure) (run_display hl (by decide) c0 cs last h0 h17 h4 hd hz)) ?_
  exact run_bind' (run_peek (nX _) _ _ _ sd) store
theorem run8 (w : World) (os : OsState) : Run w (1 + (0 + (1 + (223 + (330 * b3cs.length + 0) + (82 + 0)) + (0 + 7)))) ⟨⟨((t7 w.params).list 72).toArray, {}⟩, #[], {}, 312, os⟩ ⟨28, 0, 29, 30⟩ (exec (.Assign b3T (.Dict b3K b3V b3dp) b3p) envE) .next (S t8 111 2263 w os).abs ⟨30, 0, 30, 13⟩ := by
  have hl : ((t7 w.params).list 72).length = 72 := by simp [BT.list]
  refine run_assign_dict b3c0 b3cs b3last (sw8 w) (sd8 w) ok8 split8 (by rw [hl]; decide) len0 (fun c hc => by have := List.all_eq_true.mp lens c hc; exact beq_iff_eq.mp this) len4 nodup8 (by rw [lencs]; decide) ?_
  rw [lencs, hl]
  have e := heap8 w.params
  show Run w 7 ⟨HP ((t7 w.params).list 72) b3Main subsAll, #[], {}, 2262, os⟩ _ _ _ _ _
  rw [e]
  exact fun K H gd lv => segGo_of (store8 w os K H gd lv)
theorem execs1 (s : Stmt) (env : Env) : (execs [s] env).wrap doneF deadEnd id id = (exec s env).wrap doneF deadEnd id id := by
  rw [execs_cons_wrap]
  exact Sem.wrap_congr _ _ _ (fun f => by cases f <;> rfl) fun _ => rfl
theorem abs7 (w : World) (os : OsState) : (S t7 72 312 w os).abs = ⟨⟨((t7 w.params).list 72).toArray, {}⟩, #[], {}, 312, os⟩ := rfl
theorem pc8 : ∀ (w : World) (os : OsState), segRun treeTable pr w 11 (some (.ref 6)) 1 12525 (S t7 72 312 w os).abs (piecesOf [st 8] envE cE ⟨28, 0, 29, 30⟩ bB) = some (.next, (S t8 111 2263 w os).abs, cE, ⟨30, 0, 30, 13⟩) := by
  intro w os
  have h := seg_go (N := 1) (r := (.next, (S t8 111 2263 w os).abs, cE, ⟨30, 0, 30, 13⟩)) (run8 w os doneF deadEnd id id) rfl
  rw [lencs, show 1 + (0 + (1 + (223 + (330 * 37 + 0) + (82 + 0)) + (0 + 7))) + 1 = 12525 from rfl, ← abs7, ← st8_eq, ← execs1] at h
  exact h

end Hd
end
end
section
open PySem PySem.W PySem.Calls PyProof.Rows
set_option maxRecDepth 100000
noncomputable section
namespace Hd

theorem pre : ∀ (w : World) (os : OsState), topGo treeTable pr w 11 (some (.ref 6)) 12 ⟨boot_heap w.params, Array.mk [], boot_drawn, boot_toks, os⟩ (topStub pr) = some ((S tA 15 187 w os).abs, ⟨denote treeTable cE, cE, ⟨0, 0, 0, 0⟩, bB⟩) := by
  intro w os; rw [PySem.W.Fast.te15667345088766844465, PySem.W.Fast.te14364793385576792824, PySem.W.Fast.te11892475500146522536]; kernel_rfl

theorem blk : ∀ (w : World) (os : OsState), segRun treeTable pr w 11 (some (.ref 6)) 1 1 (S tA 15 187 w os).abs (blockOf (behindTheImports pr) envE cE ⟨0, 0, 0, 0⟩ bB) = some (.next, (S tB 15 187 w os).abs, cE, ⟨0, 0, 0, 0⟩) := by
  intro w os; rw [PySem.W.Fast.te14374325043358763698, PySem.W.Fast.te14364793385576792824]; kernel_rfl

theorem pc0 : ∀ (w : World) (os : OsState), segRunT treeTable pr w 11 (some (.ref 6)) 1 30 (S tB 15 187 w os) (piecesOf [st 0] envE cE ⟨0, 0, 0, 0⟩ bB) = some (.next, (S t0 22 194 w os), cE, ⟨1, 0, 3, 12⟩) := by
    intro w os; rw [PySem.W.Fast.te10110043849684766642, PySem.W.Fast.te14364793385576792824]; dsimp only [piecesOf]; rw [PySem.W.Fast.te12563942051412417395]; kernel_rfl

theorem pc1 : ∀ (w : World) (os : OsState), segRunT treeTable pr w 11 (some (.ref 6)) 1 10 (S t0 22 194 w os) (piecesOf [st 1] envE cE ⟨1, 0, 3, 12⟩ bB) = some (.next, (S t1 22 196 w os), cE, ⟨4, 0, 4, 8⟩) := by
    intro w os; rw [PySem.W.Fast.te10110043849684766642, PySem.W.Fast.te14364793385576792824]; dsimp only [piecesOf]; rw [PySem.W.Fast.te12563942051412417395]; kernel_rfl

theorem pc2 : ∀ (w : World) (os : OsState), segRunT treeTable pr w 11 (some (.ref 6)) 1 197 (S t1 22 196 w os) (piecesOf [st 2] envE cE ⟨4, 0, 4, 8⟩ bB) = some (.next, (S t2 35 216 w os), cE, ⟨5, 0, 6, 8⟩) := by
    intro w os; rw [PySem.W.Fast.te10110043849684766642, PySem.W.Fast.te14364793385576792824]; dsimp only [piecesOf]; rw [PySem.W.Fast.te12563942051412417395]; kernel_rfl

theorem pc3 : ∀ (w : World) (os : OsState), segRunT treeTable pr w 11 (some (.ref 6)) 1 214 (S t2 35 216 w os) (piecesOf [st 3] envE cE ⟨5, 0, 6, 8⟩ bB) = some (.next, (S t3 47 232 w os), cE, ⟨7, 0, 8, 8⟩) := by
    intro w os; rw [PySem.W.Fast.te10110043849684766642, PySem.W.Fast.te14364793385576792824]; dsimp only [piecesOf]; rw [PySem.W.Fast.te12563942051412417395]; kernel_rfl

theorem pc4 : ∀ (w : World) (os : OsState), segRunT treeTable pr w 11 (some (.ref 6)) 1 34 (S t3 47 232 w os) (piecesOf [st 4] envE cE ⟨7, 0, 8, 8⟩ bB) = some (.next, (S t4 54 243 w os), cE, ⟨9, 0, 25, 18⟩) := by
    intro w os; rw [PySem.W.Fast.te10110043849684766642, PySem.W.Fast.te14364793385576792824]; dsimp only [piecesOf]; rw [PySem.W.Fast.te12563942051412417395]; kernel_rfl

theorem pc5 : ∀ (w : World) (os : OsState), segRunT treeTable pr w 11 (some (.ref 6)) 1 10 (S t4 54 243 w os) (piecesOf [st 5] envE cE ⟨9, 0, 25, 18⟩ bB) = some (.next, (S t5 54 245 w os), cE, ⟨26, 0, 26, 8⟩) := by
    intro w os; rw [PySem.W.Fast.te10110043849684766642, PySem.W.Fast.te14364793385576792824]; dsimp only [piecesOf]; rw [PySem.W.Fast.te12563942051412417395]; kernel_rfl

theorem pc6 : ∀ (w : World) (os : OsState), segRunT treeTable pr w 11 (some (.ref 6)) 1 999 (S t5 54 245 w os) (piecesOf [st 6] envE cE ⟨26, 0, 26, 8⟩ bB) = some (.next, (S t6 65 305 w os), cE, ⟨27, 0, 27, 6⟩) := by
  refine byRow2 "special-get-raises" ?_ ?_
  all_goals
    intro w os; rw [PySem.W.Fast.te10110043849684766642, PySem.W.Fast.te14364793385576792824]; dsimp only [piecesOf]; rw [PySem.W.Fast.te12563942051412417395]; kernel_rfl

theorem pc7 : ∀ (w : World) (os : OsState), segRunT treeTable pr w 11 (some (.ref 6)) 1 30 (S t6 65 305 w os) (piecesOf [st 7] envE cE ⟨27, 0, 27, 6⟩ bB) = some (.next, (S t7 72 312 w os), cE, ⟨28, 0, 29, 30⟩) := by
    intro w os; rw [PySem.W.Fast.te10110043849684766642, PySem.W.Fast.te14364793385576792824]; dsimp only [piecesOf]; rw [PySem.W.Fast.te12563942051412417395]; kernel_rfl

theorem pc9 : ∀ (w : World) (os : OsState), segRunT treeTable pr w 11 (some (.ref 6)) 1 31 (S t8 111 2263 w os) (piecesOf [st 9] envE cE ⟨30, 0, 30, 13⟩ bB) = some (.next, (S t9 118 2271 w os), cE, ⟨31, 0, 35, 23⟩) := by
    intro w os; rw [PySem.W.Fast.te10110043849684766642, PySem.W.Fast.te14364793385576792824]; dsimp only [piecesOf]; rw [PySem.W.Fast.te12563942051412417395]; kernel_rfl

theorem pc10 : ∀ (w : World) (os : OsState), segRunT treeTable pr w 11 (some (.ref 6)) 1 10 (S t9 118 2271 w os) (piecesOf [st 10] envE cE ⟨31, 0, 35, 23⟩ bB) = some (.next, (S t10 118 2273 w os), cE, ⟨36, 0, 36, 8⟩) := by
    intro w os; rw [PySem.W.Fast.te10110043849684766642, PySem.W.Fast.te14364793385576792824]; dsimp only [piecesOf]; rw [PySem.W.Fast.te12563942051412417395]; kernel_rfl

theorem pc11 : ∀ (w : World) (os : OsState), segRunT treeTable pr w 11 (some (.ref 6)) 1 496 (S t10 118 2273 w os) (piecesOf [st 11] envE cE ⟨36, 0, 36, 8⟩ bB) = some (.next, (S t11 184 2376 w os), cE, ⟨37, 0, 97, 16⟩) := by
  refine byRow2 "special-get-raises" ?_ ?_
  all_goals
    intro w os; rw [PySem.W.Fast.te10110043849684766642, PySem.W.Fast.te14364793385576792824]; dsimp only [piecesOf]; rw [PySem.W.Fast.te12563942051412417395]; kernel_rfl

theorem pc12 : ∀ (w : World) (os : OsState), segRunT treeTable pr w 11 (some (.ref 6)) 1 10 (S t11 184 2376 w os) (piecesOf [st 12] envE cE ⟨37, 0, 97, 16⟩ bB) = some (.next, (S t12 184 2378 w os), cE, ⟨98, 0, 98, 8⟩) := by
    intro w os; rw [PySem.W.Fast.te10110043849684766642, PySem.W.Fast.te14364793385576792824]; dsimp only [piecesOf]; rw [PySem.W.Fast.te12563942051412417395]; kernel_rfl

theorem pc13 : ∀ (w : World) (os : OsState), segRunT treeTable pr w 11 (some (.ref 6)) 1 34 (S t12 184 2378 w os) (piecesOf [st 13] envE cE ⟨98, 0, 98, 8⟩ bB) = some (.next, (S t13 191 2389 w os), cE, ⟨99, 0, 111, 53⟩) := by
    intro w os; rw [PySem.W.Fast.te10110043849684766642, PySem.W.Fast.te14364793385576792824]; dsimp only [piecesOf]; rw [PySem.W.Fast.te12563942051412417395]; kernel_rfl

theorem pc14 : ∀ (w : World) (os : OsState), segRunT treeTable pr w 11 (some (.ref 6)) 1 33 (S t13 191 2389 w os) (piecesOf [st 14] envE cE ⟨99, 0, 111, 53⟩ bB) = some (.next, (S t14 198 2399 w os), cE, ⟨112, 0, 119, 15⟩) := by
    intro w os; rw [PySem.W.Fast.te10110043849684766642, PySem.W.Fast.te14364793385576792824]; dsimp only [piecesOf]; rw [PySem.W.Fast.te12563942051412417395]; kernel_rfl

theorem pc15 : ∀ (w : World) (os : OsState), segRunT treeTable pr w 11 (some (.ref 6)) 1 31 (S t14 198 2399 w os) (piecesOf [st 15] envE cE ⟨112, 0, 119, 15⟩ bB) = some (.next, (S t15 205 2407 w os), cE, ⟨120, 0, 124, 19⟩) := by
    intro w os; rw [PySem.W.Fast.te10110043849684766642, PySem.W.Fast.te14364793385576792824]; dsimp only [piecesOf]; rw [PySem.W.Fast.te12563942051412417395]; kernel_rfl

theorem pc16 : ∀ (w : World) (os : OsState), segRunT treeTable pr w 11 (some (.ref 6)) 1 33 (S t15 205 2407 w os) (piecesOf [st 16] envE cE ⟨120, 0, 124, 19⟩ bB) = some (.next, (S t16 212 2417 w os), cE, ⟨125, 0, 129, 17⟩) := by
    intro w os; rw [PySem.W.Fast.te10110043849684766642, PySem.W.Fast.te14364793385576792824]; dsimp only [piecesOf]; rw [PySem.W.Fast.te12563942051412417395]; kernel_rfl

theorem pc17 : ∀ (w : World) (os : OsState), segRunT treeTable pr w 11 (some (.ref 6)) 1 27 (S t16 212 2417 w os) (piecesOf [st 17] envE cE ⟨125, 0, 129, 17⟩ bB) = some (.next, (S t17 217 2423 w os), cE, ⟨130, 0, 131, 82⟩) := by
    intro w os; rw [PySem.W.Fast.te10110043849684766642, PySem.W.Fast.te14364793385576792824]; dsimp only [piecesOf]; rw [PySem.W.Fast.te12563942051412417395]; kernel_rfl

theorem pc18 : ∀ (w : World) (os : OsState), segRunT treeTable pr w 11 (some (.ref 6)) 1 27 (S t17 217 2423 w os) (piecesOf [st 18] envE cE ⟨130, 0, 131, 82⟩ bB) = some (.next, (S t18 222 2429 w os), cE, ⟨132, 0, 172, 50⟩) := by
    intro w os; rw [PySem.W.Fast.te10110043849684766642, PySem.W.Fast.te14364793385576792824]; dsimp only [piecesOf]; rw [PySem.W.Fast.te12563942051412417395]; kernel_rfl

theorem fin0 : ∀ (w : World) (os : OsState), topRun treeTable pr w 11 (some (.ref 6)) 2 (S t18 222 2429 w os).abs ⟨doneF .next, cE, ⟨132, 0, 172, 50⟩, bB⟩ = some (S t18 222 2429 w os).abs := by
  intro w os; rfl
theorem finH : ∀ P : Params, absHeap (t18 P) 222 {} = hF P := by
  intro P; kernel_rfl
theorem open0 : ∀ w : World, (fencedOpening treeTable pr w 40000).map (fun s => (s.heap, s.gens, s.drawn, s.toks)) = some (boot_heap w.params, Array.mk [], boot_drawn, boot_toks) :=
  boot_open (by kernel_rfl) (by decide) (fun s => by kernel_rfl)
theorem size0 : ∀ w : World, ((boot_heap w.params).isNs mainGlobals && (Array.mk [] : Array GenState).size == 0, (boot_heap w.params).objs.size, (boot_heap w.params).nsMap mainGlobals "__annotations__") = (true, 11, some (.ref 6)) := by
  intro w; kernel_rfl
theorem stmts0 : behindTheImports pr = [st 0] ++ ([st 1] ++ ([st 2] ++ ([st 3] ++ ([st 4] ++ ([st 5] ++ ([st 6] ++ ([st 7] ++ ([st 8] ++ ([st 9] ++ ([st 10] ++ ([st 11] ++ ([st 12] ++ ([st 13] ++ ([st 14] ++ ([st 15] ++ ([st 16] ++ ([st 17] ++ ([st 18] ++ [])))))))))))))))))) := by kernel_rfl

theorem run0 (pc8 : ∀ (w : World) (os : OsState), segRun treeTable pr w 11 (some (.ref 6)) 1 12525 (S t7 72 312 w os).abs (piecesOf [st 8] envE cE ⟨28, 0, 29, 30⟩ bB) = some (.next, (S t8 111 2263 w os).abs, cE, ⟨30, 0, 30, 13⟩)) : ∀ (w : World) (os : OsState), topRun treeTable pr w 11 (some (.ref 6)) (12 + (1 + (30 + (10 + (197 + (214 + (34 + (10 + (999 + (30 + (12525 + (31 + (10 + (496 + (10 + (34 + (33 + (31 + (33 + (27 + (27 + 2))))))))))))))))))))) ⟨boot_heap w.params, Array.mk [], boot_drawn, boot_toks, os⟩ (topStub pr) = some ⟨hF w.params, #[], {}, 2429, os⟩ := by
  intro w os
  rw [← finH]
  refine go_top (pre w os) (piece_block (blk w os) ?_)
  rw [stmts0]
  exact (piece_app (segRun_of (pc0 w os)) (piece_app (segRun_of (pc1 w os)) (piece_app (segRun_of (pc2 w os)) (piece_app (segRun_of (pc3 w os)) (piece_app (segRun_of (pc4 w os)) (piece_app (segRun_of (pc5 w os)) (piece_app (segRun_of (pc6 w os)) (piece_app (segRun_of (pc7 w os)) (piece_app (pc8 w os) (piece_app (segRun_of (pc9 w os)) (piece_app (segRun_of (pc10 w os)) (piece_app (segRun_of (pc11 w os)) (piece_app (segRun_of (pc12 w os)) (piece_app (segRun_of (pc13 w os)) (piece_app (segRun_of (pc14 w os)) (piece_app (segRun_of (pc15 w os)) (piece_app (segRun_of (pc16 w os)) (piece_app (segRun_of (pc17 w os)) (piece_app (segRun_of (pc18 w os)) (piece_nil (fin0 w os)))))))))))))))))))))

end Hd
end
end
section
open PySem PySem.W PySem.Calls PyProof.Rows
set_option maxRecDepth 100000
noncomputable section
namespace Hd
theorem lk_l1 : ∀ (w : World) (os : OsState), (staticsOk (importedModules pr.main.body) (boot_heap w.params) (hF w.params) && namesBound pr (hF w.params) && gensDone (⟨hF w.params, #[], {}, 2429, os⟩ : Shared) && laidKept (boot_heap w.params) (hF w.params)) = true := by
  intro w os; kernel_rfl
theorem lk_s1 : ∀ (w : World) (os : OsState), seen ((recsOf q).map (·.name)) (ownsOf q) [] ({ (⟨hF w.params, #[], {}, 2429, os⟩ : Shared) with gens := #[] }) = expectedOf q := by
  intro w os; rw [PySem.W.Fast.te5160383126252970620, PySem.W.Fast.te3399658132070893891, PySem.W.Fast.te5991557255702980513]; kernel_rfl
theorem lk_s2 : ∀ (w : World) (os : OsState), (hF w.params).bltView = bltViewBooted := by
  intro w os; kernel_rfl
theorem lk_s3 : ∀ (w : World) (os : OsState), ((hF w.params).keysOk (looseW q loose) ((recsOf q).map (·.name)) ((litsOf q).map (·.1)) ((clssOf q (looseW q loose)).map (·.name)) && (hF w.params).accountedOkI (importedModules pr.main.body) && (hF w.params).isNs mainGlobals && (hF w.params).isNs builtinsNs && tablesOk q (hF w.params) && (xlAt q [] (⟨hF w.params, #[], {}, 2429, os⟩ : Shared) && recOk (RowW.records rw'.row.toRowW) (⟨hF w.params, #[], {}, 2429, os⟩ : Shared)) && true) = true := by
  intro w os; rw [PySem.W.Fast.te10880121769531294198, PySem.W.Fast.te821141287760084731, PySem.W.Fast.te3399658132070893891, PySem.W.Fast.te7409074990110511671, PySem.W.Fast.te13664370479719496447, PySem.W.Fast.te14722251495701143533, PySem.W.Fast.te10994771534591457954]; kernel_rfl
theorem lk_s4 : ∀ (w : World) (os : OsState), tabsOk q (⟨hF w.params, #[], {}, 2429, os⟩ : Shared) = true := by
  intro w os; rw [PySem.W.Fast.te479339242167458305]; kernel_rfl
theorem lk_s5 : ∀ (w : World) (os : OsState), pinSeenD q (drecsOf q) (⟨hF w.params, #[], {}, 2429, os⟩ : Shared) = pinGoodD (drecsOf q) := by
  intro w os; rw [PySem.W.Fast.te16090120013241838585, PySem.W.Fast.te3247288618530077131]; kernel_rfl
theorem lk_s6 : ∀ (w : World) (os : OsState), plainSeenE q (looseW q loose) (⟨hF w.params, #[], {}, 2429, os⟩ : Shared) = plainGoodE q (looseW q loose) := by
  intro w os; rw [PySem.W.Fast.te2386780881361962483, PySem.W.Fast.te821141287760084731]; kernel_rfl
theorem lk_s7 : ∀ (w : World) (os : OsState), plainSeenD q loose (⟨hF w.params, #[], {}, 2429, os⟩ : Shared) = plainGoodD q loose := by
  intro w os; rw [PySem.W.Fast.te11698064438423848299]; kernel_rfl
theorem lk_s8 : ∀ (w : World) (os : OsState), wideSeen q (⟨hF w.params, #[], {}, 2429, os⟩ : Shared) = wideGood q := by
  intro w os; rw [PySem.W.Fast.te7317090234206586261]; kernel_rfl
theorem lk_s9 : ∀ (w : World) (os : OsState), clsSeenW q loose (⟨hF w.params, #[], {}, 2429, os⟩ : Shared) = clsGoodW q loose := by
  intro w os; rw [PySem.W.Fast.te7369524293546568484]; kernel_rfl
theorem lk_s10 : ∀ (w : World) (os : OsState), kAs.map (⟨hF w.params, #[], {}, 2429, os⟩ : Shared).heap.get? = (K w.params).map (fun p => some p.2) := by
  intro w os; kernel_rfl
abbrev hk0 : Hook := kHook K kAs (fun _ => by kernel_rfl)
abbrev Xt0 : Shared → Bool := fun s => xlAt q [] s && recOk (RowW.records rw'.row.toRowW) s
theorem left0 : LeftO pr q loose Xt0 (Hook.obs hk0) (Hook.val hk0) 40000 :=
  LeftO.of_pieces (H₀ := boot_heap) (H₁ := hF) open0 size0 (run0 pc8) (by decide) (fun w => by
    funext os
    refine looks_pair (lk_l1 w os) (looks_pair ?_ (lk_s10 w os))
    exact looks_pair (lk_s1 w os) (looks_pair (lk_s2 w os) (looks_pair (lk_s3 w os) (looks_pair (lk_s4 w os) (looks_pair (lk_s5 w os) (looks_pair (lk_s6 w os) (looks_pair (lk_s7 w os) (looks_pair (lk_s8 w os) (lk_s9 w os)))))))))
theorem said_all : rw'.wellSaid = true := by
  unfold OpenLaw.wellSaid
  repeat' with_reducible refine look_both ?_ ?_
  all_goals (try unfold OpenRow.wellSaid)
  all_goals (repeat' with_reducible refine look_both ?_ ?_)
  all_goals (try unfold OpenRow.partSaid)
  all_goals (try unfold OpenScript.wellSaid)
  all_goals (repeat' with_reducible refine look_both ?_ ?_)
  all_goals (try unfold looksOpen)
  all_goals (repeat' with_reducible refine look_both ?_ ?_)
  all_goals ((try rw [PySem.W.Fast.te11788848310118352699]); (try rw [PySem.W.Fast.te2368527892694137696]); (try rw [PySem.W.Fast.te9807087744658564304]); (try rw [PySem.W.Fast.te12862048085361865435]); (try rw [PySem.W.Fast.te8377067652309620493]); (try rw [PySem.W.Fast.te18344453789297297638]); (try rw [PySem.W.Fast.te3471404346716756564]); (try rw [PySem.W.Fast.te14412699480532031325]); (try rw [PySem.W.Fast.te8326940854005059898]); (try rw [PySem.W.Fast.te5923862056798008813]); (try rw [PySem.W.Fast.te17691160309236699985]); (try rw [PySem.W.Fast.te13343964577679436407]); (try rw [PySem.W.Fast.te17119622794617984870]); (try rw [PySem.W.Fast.te17868728402115742887]); (try rw [PySem.W.Fast.te9706382859710513879]); (try rw [PySem.W.Fast.te2357444279172408678]); (try rw [PySem.W.Fast.te4857012375875476094]); (try rw [PySem.W.Fast.te13582783067957832011]); (try rw [PySem.W.Fast.te5318747976498570220]); (try rw [PySem.W.Fast.te4579403493507170074]); (try rw [PySem.W.Fast.te4274047373036748609]); (try rw [PySem.W.Fast.te12749700546528644094]); (try rw [PySem.W.Fast.te10501279942588096481]); (try rw [PySem.W.Fast.te8179353310426384613]); (try rw [PySem.W.Fast.te797321630700447069]); (try rw [PySem.W.Fast.te9572597257264208301]); (try rw [PySem.W.Fast.te9558739934217749035]); (try rw [PySem.W.Fast.te16286561074155671207]); (try rw [PySem.W.Fast.te6984425678791042302]); (try rw [PySem.W.Fast.te17095254045102204799]); (try rw [PySem.W.Fast.te12879404354523853263]); (try rw [PySem.W.Fast.te482687673346738481]); (try rw [PySem.W.Fast.te10792542408131684335]); (try rw [PySem.W.Fast.te7723801398212525404]); decide +kernel)
theorem head0 {d : DefRec} {kwd : List (PySem.Str × PySem.Expr)} (hdef : defOf q (Str.ofString "law") = some (d, kwd)) (hp : pr.theDef (Str.ofString "law") = some (d.params, d.body, d.scope))
    (hk : kwWritten? d.params.kwonlyargs d.params.kw_defaults = some kwd)
    (call : WalkO q loose (XL q []) (Hook.says hk0) rw'.row.toRowW d kwd fun f vs => PySem.call f vs) : rw'.Holds := by
  w_on
  refine holds_law said_all fun said => ?_
  refine holds_open (q := q) (loose := loose) (Xt := Xt0) (XP := XL q []) (Yf := Hook.obs hk0) (Ya := Hook.val hk0) (YP := Hook.says hk0) (N := 40000) left0 (Hook.of hk0) (Hook.keeps hk0)
    (fun s e => xl_of s (Bool.and_eq_true_iff.mp e).1) XL.keeps hdef hp hk (fun s e => recFacts_of (Bool.and_eq_true_iff.mp e).2) (by rfl) (by first | assumption | decide +kernel) (by decide +kernel) ⟨rfl, rfl, rfl, rfl, rfl, by decide +kernel⟩ ?hw call
  case hw => w_witness2

end Hd
end
end
section
open PySem PySem.W PySem.Calls PyProof.Rows
set_option maxRecDepth 100000
set_option maxHeartbeats 2000000
noncomputable section
namespace Hd
local macro_rules | `(tactic| walk_at "idle 0") => `(tactic| skip)
noncomputable def b1L : List Int := [173, 847, 6150, 6155, 6156, 6157, 8203, 8204, 8205, 8288, 65279, 65024, 65025, 65026, 65027, 65028, 65029, 65030, 65031, 65032, 65033, 65034, 65035, 65036, 65037, 65038, 65039]
noncomputable def b1 (k : Int) : Bool := b1L.contains k
noncomputable def b1Es : List (Int × Value) := match (o61 (aWorld 1).params).data with | .set es _ _ => es.toList | _ => []
theorem b1_elems : (b1Es.all fun e => match e.2 with | .int k _ => decide (e.1 = hashInt k) && b1L.contains k | _ => false) = true := by decide +kernel
theorem b1_has : (b1L.all fun k => b1Es.any fun e => match e.2 with | .int k' _ => decide (k = k') | _ => false) = true := by decide +kernel
theorem o61_eq (P : Params) : ∃ ep t, o61 P = ⟨.type "set", none, .set b1Es.toArray ep t, #[]⟩ ∧ t.fits b1Es.toArray.size = true := ⟨_, _, rfl, by rfl⟩
theorem setB1 {w : World} {h : Heap} (X : (K w.params).In h) : h.SetOf (intKind pr w) 61 b1 27 := by
  obtain ⟨ep, t, e, hf⟩ := o61_eq w.params
  have hg := X 61 (o61 w.params) (by rfl)
  refine ⟨_, b1Es.toArray, ep, t, hg, by rw [e]; exact ⟨rfl, rfl, rfl⟩, by rw [e], ?_, ?_, by decide +kernel, hf, by decide +kernel⟩
  · intro x hx
    have := List.all_eq_true.mp b1_elems x hx
    obtain ⟨h0, v⟩ := x
    cases v <;> simp only [Bool.false_eq_true] at this
    simp only [Bool.and_eq_true, decide_eq_true_eq] at this
    exact ⟨⟨_, intKind_is _ _ _ _, this.1⟩, rfl⟩
  · intro k
    constructor
    · intro hk
      have hk' : k ∈ b1L := List.contains_iff_mem.mp hk
      obtain ⟨x, hx, e⟩ := List.any_eq_true.mp (List.all_eq_true.mp b1_has k hk')
      refine ⟨x, hx, ?_⟩
      obtain ⟨h0, v⟩ := x
      cases v <;> simp only [Bool.false_eq_true, decide_eq_true_eq] at e
      subst e
      exact intKind_is _ _ _ _
    · rintro ⟨x, hx, e⟩
      have := List.all_eq_true.mp b1_elems x hx
      obtain ⟨h0, v⟩ := x
      cases v <;> simp only [Bool.false_eq_true] at this
      simp only [Bool.and_eq_true, decide_eq_true_eq] at this
      rename_i i tok
      have e2 : Value.isInt k (Value.int i tok) = true := e
      obtain ⟨t', e'⟩ := Value.isInt_shape e2
      cases e'
      exact this.2

/-- what a def of ints, bools and texts gives back; nothing that stood is turned -/
noncomputable def Spec (w : World) (mean : ExcName → Option Value) (mg mb : PySem.Str → Option Value) (n : Nat) (f : Addr) (vs : List Value) (R : Value → Prop) : Prop :=
  ∀ (news : List (Addr × Obj)) (dp un : Nat) (gd : Option (List Code)) (cn : PySem.Str) (cs : Scope) (a : Addr) (ccd : Value) (cl : List (PySem.Str × Addr)) (outer : List Env) (A₀ : Around) (base h₀ : Heap) (L : Addr) (m : PySem.Str → Option Value) (s : Shared) (Q E : Value → Shared → Prop),
    Below A₀ base outer h₀ → Fr h₀ L s.heap m → (K w.params).In h₀ → News h₀ L s.heap news → Top q (looseW q loose) mean mg mb h₀ → cs.kind = .function → dp + n < recursionLimit → un + 100 * n < cLine →
    (∀ v h' tk', R v → Fr h₀ L h' m → News h₀ L h' news → Q v { s with heap := h', toks := tk' }) →
    wpAny (model pr w) (ktrTop dp un gd cn cs L a ccd cl outer) (call (.ref f) vs) Q E s
section
variable {w : World} {mean : ExcName → Option Value} {mg mb : PySem.Str → Option Value}
theorem Spec.use {w : World} {mean : ExcName → Option Value} {mg mb : PySem.Str → Option Value} {n : Nat} {f : Addr} {vs : List Value} {R : Value → Prop} (S : Spec w mean mg mb n f vs R)
    {news : List (Addr × Obj)} {dp un : Nat} {gd : Option (List Code)} {cn : PySem.Str} {cs : Scope} {a : Addr} {ccd : Value} {cl : List (PySem.Str × Addr)} {outer : List Env} {A₀ : Around} {base h₀ : Heap} {L : Addr} {m : PySem.Str → Option Value} {s : Shared} {Q E : Value → Shared → Prop}
    (B : Below A₀ base outer h₀) (F : Fr h₀ L s.heap m) (X : (K w.params).In h₀) (N : News h₀ L s.heap news) (T : Top q (looseW q loose) mean mg mb h₀) (hk : cs.kind = .function) (hd : dp + n < recursionLimit) (hu : un + 100 * n < cLine)
    (hQ : ∀ v h' tk', R v → Fr h₀ L h' m → News h₀ L h' news → Q v { s with heap := h', toks := tk' }) :
    wpAny (model pr w) (ktrTop dp un gd cn cs L a ccd cl outer) (call (.ref f) vs) Q E s :=
  S news dp un gd cn cs a ccd cl outer A₀ base h₀ L m s Q E B F X N T hk hd hu hQ
theorem filled : rw' = PySem.Challenge.rw_tr0065_03 ∧ K = K := by
  k_fill
  w_top off
  exact ⟨rfl, rfl⟩
theorem spec_b1 (c : Nat) (t : Tok) : Spec w mean mg mb 2 71 [.str ⟨#[c]⟩ t] (fun v => v = .bool (b1 c)) := by
  k_with_none
  k_with "compareOp In int ref" => (k_here; (with_reducible show wpAny _ _ (compareOp CmpOp.In (Value.int _ _) (Value.ref 61)) _ _ _); refine wpAny_inSet_of (intKind_is _ _ _ _) rfl (setB1 (by k_in)) ?_)
  intro news dp un gd cn cs a ccd cl outer A₀ base h₀ L m s Q E B F X N T hk hd hu hret
  refine wpAny_call ?_
  k_dflt cell_enter
  conv in (fBody (st 7)) => whnf
  k_steps
  exact hret _ _ _ rfl (by assumption) (by assumption)
end
end Hd
end
end
section
open PySem PySem.W PySem.Calls PyProof.Rows
set_option maxRecDepth 100000
set_option maxHeartbeats 4000000
noncomputable section
namespace Hd
noncomputable def tx (l : List Nat) : PySem.Str := ⟨l.toArray⟩
theorem tx_len (l : List Nat) : (tx l).length = l.length := by simp [tx, PySem.Str.length]
theorem tx_app (a b : List Nat) : tx a ++ tx b = tx (a ++ b) := by
  show PySem.Str.mk (a.toArray ++ b.toArray) = PySem.Str.mk _
  simp
theorem tx_inj {a b : List Nat} : tx a = tx b ↔ a = b := by
  unfold tx
  constructor
  · intro h; have := congrArg (fun s : PySem.Str => s.cps.toList) h; simpa using this
  · rintro rfl; rfl
/-- the sign of a text at a place -/
noncomputable def sgn (x : PySem.Str) (i : Int) : Nat := x.cps.toList.getD i.toNat 0
theorem item_sgn {x : PySem.Str} {i : Int} (h0 : 0 ≤ i) (h1 : i < x.length) : Txt.item x i = tx [sgn x i] := by
  have e : seqIndex? i x.length = some i.toNat := by
    unfold seqIndex?
    have : ¬ i < 0 := by omega
    simp [h0, this]; omega
  have hlt : i.toNat < x.cps.size := by unfold PySem.Str.length at h1; omega
  unfold Txt.item Txt.charAt
  rw [e]
  have : sgn x i = x.cps[i.toNat] := by unfold sgn; simp [hlt]
  rw [this]
  simp [hlt, tx]
/-- what stands ahead of the quotation mark that ends a name -/
noncomputable def pq : List Nat → List Nat
  | [] => []
  | [c] => if c = 34 then [] else [c]
  | c :: c' :: r => if c = 34 then (if c' = 34 then 34 :: pq r else []) else c :: pq (c' :: r)
theorem pq_cons {c : Nat} {r : List Nat} (h : c ≠ 34) : pq (c :: r) = c :: pq r := by
  cases r with
  | nil => simp [pq, h]
  | cons c' r => simp [pq, h]
theorem pq_two (r : List Nat) : pq (34 :: 34 :: r) = 34 :: pq r := by simp [pq]
theorem pq_stop {r : List Nat} (h : ∀ r', r ≠ 34 :: r') : pq (34 :: r) = [] := by
  cases r with
  | nil => simp [pq]
  | cons c' r =>
    have : c' ≠ 34 := fun e => h r (by rw [e])
    simp [pq, this]
/-- between the turns of parse257's loop -/
noncomputable def PInv (x : PySem.Str) (l : List Nat) (i : Int) (d : PySem.Str) : Prop := 5 ≤ i ∧ i ≤ (x.length : Int) ∧ d.length ≤ i.toNat ∧ d.cps.toList ++ pq (l.drop (i.toNat - 5)) = pq l
section
variable {x : PySem.Str} {l : List Nat} {i : Int} {d : PySem.Str}
theorem pinv_start (hx : x = tx ([50, 53, 55, 32, 34] ++ l)) : PInv x l 5 (PySem.Str.ofString "") := by
  subst hx
  refine ⟨Int.le_refl _, by rw [tx_len]; simp; omega, by decide +kernel, ?_⟩
  show (PySem.Str.ofString "").cps.toList ++ _ = _
  rw [show (PySem.Str.ofString "").cps.toList = [] by decide +kernel]
  simp
theorem sgn_drop (hx : x = tx ([50, 53, 55, 32, 34] ++ l)) (h5 : 5 ≤ i) (hi : i < x.length) : l.drop (i.toNat - 5) = sgn x i :: l.drop ((i + 1).toNat - 5) := by
  subst hx
  rw [tx_len] at hi
  simp only [List.length_append, List.length_cons, List.length_nil] at hi
  obtain ⟨n, rfl⟩ : ∃ n : Nat, i = (n : Int) + 5 := ⟨(i - 5).toNat, by omega⟩
  have e1 : ((n : Int) + 5).toNat - 5 = n := by omega
  have e2 : ((n : Int) + 5 + 1).toNat - 5 = n + 1 := by omega
  have e3 : ((n : Int) + 5).toNat = n + 5 := by omega
  have hn : n < l.length := by omega
  rw [e1, e2, List.drop_eq_getElem_cons hn]
  congr 1
  unfold sgn tx
  rw [e3]
  simp [hn]
theorem pinv_one (hx : x = tx ([50, 53, 55, 32, 34] ++ l)) (P : PInv x l i d) (hi : i < x.length) (h : sgn x i ≠ 34) : PInv x l (i + 1) (d ++ tx [sgn x i]) := by
  obtain ⟨h1, h2, h3, h4⟩ := P
  refine ⟨by omega, by omega, by rw [PySem.Str.length_append, tx_len]; simp; omega, ?_⟩
  rw [sgn_drop hx h1 hi, pq_cons h] at h4
  rw [← h4]
  show (d.cps ++ _).toList ++ _ = _
  simp [tx]
theorem pinv_two (hx : x = tx ([50, 53, 55, 32, 34] ++ l)) (P : PInv x l i d) (hi : i + 1 < x.length) (h : sgn x i = 34) (h' : sgn x (i + 1) = 34) : PInv x l (i + 1 + 1) (d ++ tx [sgn x i]) := by
  obtain ⟨h1, h2, h3, h4⟩ := P
  refine ⟨by omega, by omega, by rw [PySem.Str.length_append, tx_len]; simp; omega, ?_⟩
  rw [sgn_drop hx h1 (by omega), sgn_drop hx (i := i + 1) (by omega) hi, h, h', pq_two] at h4
  rw [← h4, h]
  show (d.cps ++ _).toList ++ _ = _
  simp [tx]
theorem str_eta (d : PySem.Str) : d = tx d.cps.toList := by cases d; simp [tx]
theorem pinv_stop (hx : x = tx ([50, 53, 55, 32, 34] ++ l)) (P : PInv x l i d) (hi : i < x.length) (h : sgn x i = 34) (h' : ¬ i + 1 < x.length ∨ sgn x (i + 1) ≠ 34) : d = tx (pq l) := by
  obtain ⟨h1, h2, h3, h4⟩ := P
  rw [sgn_drop hx h1 hi, h, pq_stop, List.append_nil] at h4
  · rw [← h4]; exact str_eta d
  · intro r' e
    rcases h' with h' | h'
    · subst hx
      rw [tx_len] at hi h'
      simp only [List.length_append, List.length_cons, List.length_nil] at hi h'
      rw [List.drop_eq_nil_of_le (by omega)] at e
      cases e
    · by_cases hi' : i + 1 < x.length
      · rw [sgn_drop hx (i := i + 1) (by omega) hi'] at e
        exact h' (List.cons.inj e).1
      · subst hx
        rw [tx_len] at hi hi'
        simp only [List.length_append, List.length_cons, List.length_nil] at hi hi'
        rw [List.drop_eq_nil_of_le (by omega)] at e
        cases e
theorem pinv_end (hx : x = tx ([50, 53, 55, 32, 34] ++ l)) (P : PInv x l i d) (hi : ¬ i < x.length) : d = tx (pq l) := by
  obtain ⟨h1, h2, h3, h4⟩ := P
  subst hx
  rw [tx_len] at hi
  simp only [List.length_append, List.length_cons, List.length_nil] at hi
  rw [List.drop_eq_nil_of_le (by omega)] at h4
  simp only [pq, List.append_nil] at h4
  rw [← h4]; exact str_eta d
theorem slice3 (hx : x = tx ([50, 53, 55, 32, 34] ++ l)) : (Txt.slice x none (some 3) != PySem.Str.ofString "257") = false := by
  have : Txt.slice x none (some 3) = tx [50, 53, 55] := by
    subst hx
    show StrLaws.sliceText _ none (some ((3 : Nat) : Int)) = _
    rw [StrLaws.sliceText_to (by simp [tx]; omega)]
    simp [tx]
  rw [this]; decide +kernel
theorem slice35 (hx : x = tx ([50, 53, 55, 32, 34] ++ l)) : (Txt.slice x (some 3) (some 5) != PySem.Str.ofString " \"") = false := by
  have : Txt.slice x (some 3) (some 5) = tx [32, 34] := by
    subst hx
    show StrLaws.sliceText _ (some ((3 : Nat) : Int)) (some ((5 : Nat) : Int)) = _
    rw [StrLaws.sliceText_nat _ (by decide) (by rw [tx_len]; simp)]
    simp [tx]
  rw [this]; decide +kernel
end
section
variable {prog : Program} {w : World} {A : Around} {E : Value → Shared → Prop} {s : Shared}
theorem tail_sgn {value slice : PySem.Expr} {x : PySem.Str} {t u : Tok} {i : Int} {Q : Value → Shared → Prop} (h0 : 0 ≤ i) (h1 : i < x.length) (hb : x.length ≤ 16777216) (h : Q (.str (tx [sgn x i]) s.toks) { s with toks := s.toks + 1 })
    (hs : subscripted slice false (Value.str x t) (Value.int i u) = operate [Value.str x t, Value.int i u] (getItem (Value.str x t) (Value.int i u)) := by with_unfolding_all rfl)
    (hl : ∀ r : Value, letTemporaryGo value (Value.str x t) r = pure () := by intro _; rfl) : wpAny (model prog w) A (subscriptTail value slice (.str x t) (.int i u)) Q E s :=
  item_str (fitsSsize_of (N := 9223372036854775808) (by omega) (by omega) (Int.le_refl _)) (by omega) h1 (fun _ => by rw [item_sgn h0 h1]; exact h) hs hl
theorem eq_sgn {c : Nat} {t u : Tok} {Q : Value → Shared → Prop} (h : Q (.bool (decide (c = 34))) s) : wpAny (model prog w) A (compareOp .Eq (.str (tx [c]) t) (.str (PySem.Str.ofString "\"") u)) Q E s :=
  P.eq_str (by
    rw [show (PySem.Str.ofString "\"").cps.toList = [34] by decide +kernel, show (tx [c]).cps.toList = [c] by simp [tx]]
    have : (([c] : List Nat) == [34]) = decide (c = 34) := by by_cases e : c = 34 <;> simp [e]
    rw [this]; exact h)
theorem ne_sgn {c : Nat} {t u : Tok} {Q : Value → Shared → Prop} (h : Q (.bool (!decide (c = 34))) s) : wpAny (model prog w) A (compareOp .NotEq (.str (tx [c]) t) (.str (PySem.Str.ofString "\"") u)) Q E s :=
  P.ne_str (by
    rw [show (PySem.Str.ofString "\"").cps.toList = [34] by decide +kernel, show (tx [c]).cps.toList = [c] by simp [tx]]
    have : (([c] : List Nat) != [34]) = !decide (c = 34) := by by_cases e : c = 34 <;> simp [e]
    rw [this]; exact h)
end
end Hd
end
end
section
open PySem PySem.W PySem.Calls PyProof.Rows
set_option maxRecDepth 100000
set_option maxHeartbeats 4000000
noncomputable section
namespace Hd
theorem filled4 : rw' = PySem.Challenge.rw_tr0065_03 ∧ K = K := by
  k_fill
  w_top off
  exact ⟨rfl, rfl⟩
noncomputable def Hold (P : Prop) : Prop := P
theorem hold {P : Prop} (h : Hold P) : P := h
section
variable {w : World} {mean : ExcName → Option Value} {mg mb : PySem.Str → Option Value}
theorem spec_parse (x : PySem.Str) (l : List Nat) (t : Tok) (hx : x = tx ([50, 53, 55, 32, 34] ++ l)) (hl : l.length ≤ 100000) : Spec w mean mg mb 2 53 [.str x t] (fun v => ∃ tk, v = .str (tx (pq l)) tk) := by
  k_with_none
  k_with "exec While Compare cons nil" => refine hold ?_
  k_with "exec While Compare" => refine hold ?_
  k_with "exec While" => refine hold ?_
  k_with "subscriptTail Name Name str int" => (k_here; k_dflt (refine tail_sgn (by omega) (by omega) (by omega) ?_))
  k_with "compareOp Eq str str" => (k_here; (with_reducible refine eq_sgn ?_))
  k_with "compareOp NotEq str str" => (k_here; (with_reducible refine ne_sgn ?_))
  k_with "binaryOp Add str str" => (k_here; k_dflt (refine SB.add (hsz := by rw [tx_len]; simp only [sizeLine_eq, List.length_cons, List.length_nil]; omega) ?_); intro _ _)
  intro news dp un gd cn cs a ccd cl outer A₀ base h₀ L m s Q E B F X N T hk hd hu hret
  refine wpAny_call ?_
  k_dflt cell_enter
  conv in (fBody (st 4)) => whnf
  have hlen : x.length = l.length + 5 := by subst hx; simp [tx, PySem.Str.length]
  have hs3 := slice3 hx
  have hs35 := slice35 hx
  k_steps
  · unfold Hold
    k_with "state" => first | exact pinv_start hx | exact pinv_one hx (by assumption) (by assumption) (by assumption) | exact pinv_two hx (by assumption) (by omega) (by assumption) (by assumption)
    k_while (fun (_ : List Int) (i : Int) (d : PySem.Str) => PInv x l i d) (fun (_ : List Int) (i : Int) (_ : PySem.Str) => x.length - i.toNat) "i" "dirname"
    have hP := kInv
    have hP1 := hP.1
    have hP2 := hP.2.1
    have hP3 := hP.2.2.1
    k_steps
    · exact hret _ _ _ ⟨_, by rw [← pinv_stop hx hP (by omega) (by assumption) (.inl (by omega))]⟩ (by assumption) (by assumption)
    · exact hret _ _ _ ⟨_, by rw [← pinv_stop hx hP (by omega) (by assumption) (.inr (by assumption))]⟩ (by assumption) (by assumption)
    · exact hret _ _ _ ⟨_, by rw [← pinv_end hx hP (by omega)]⟩ (by assumption) (by assumption)
end
end Hd
end
end
section
open PySem PySem.W PySem.Calls PyProof.Rows
set_option maxRecDepth 100000
set_option maxHeartbeats 2000000
noncomputable section
namespace Hd
noncomputable def b3Find (k : Int) : Option PySem.Str := (b3D.find? fun x => decide (x.1 = k)).map (·.2)
theorem entL_find (k : Int) : ∀ (ps : List PD) (tk : Nat), (∃ x, ps.find? (fun x => decide (x.1 = k)) = some x ∧ ∃ e t, (entL tk ps).find? (fun e => Value.isInt k e.key) = some e ∧ e.val = .str x.2 t) ∨
    (ps.find? (fun x => decide (x.1 = k)) = none ∧ (entL tk ps).find? (fun e => Value.isInt k e.key) = none)
  | [], tk => .inr ⟨rfl, rfl⟩
  | (j, s) :: r, tk => by
    by_cases h : j = k
    · subst h
      exact .inl ⟨(j, s), List.find?_cons_of_pos (by simp), ⟨hashInt j, .int j tk, .str s (tk + 1)⟩, tk + 1, List.find?_cons_of_pos (by simp [Value.isInt]), rfl⟩
    · have n1 : ¬ (decide (j = k)) = true := by simp [h]
      have n2 : ¬ (Value.isInt k (Value.int j tk)) = true := by simp [Value.isInt, h]
      rcases entL_find k r (tk + 3) with ⟨x, h1, e, t, h2, h3⟩ | ⟨h1, h2⟩
      · exact .inl ⟨x, by rw [List.find?_cons_of_neg (by exact n1)]; exact h1, e, t, by (show List.find? _ (_ :: entL (tk + 3) r) = _); rw [List.find?_cons_of_neg (by exact n2)]; exact h2, h3⟩
      · exact .inr ⟨by rw [List.find?_cons_of_neg (by exact n1)]; exact h1, by (show List.find? _ (_ :: entL (tk + 3) r) = _); rw [List.find?_cons_of_neg (by exact n2)]; exact h2⟩
theorem entS_find (k : Int) : ∀ (ps : List PD) (tk : Nat), (∃ x, ps.find? (fun x => decide (x.1 = k)) = some x ∧ ∃ e t, (entS tk ps).find? (fun e => Value.isInt k e.key) = some e ∧ e.val = .str x.2 t) ∨
    (ps.find? (fun x => decide (x.1 = k)) = none ∧ (entS tk ps).find? (fun e => Value.isInt k e.key) = none)
  | [], tk => .inr ⟨rfl, rfl⟩
  | (j, s) :: r, tk => by
    by_cases h : j = k
    · subst h
      exact .inl ⟨(j, s), List.find?_cons_of_pos (by simp), ⟨hashInt j, .int j tk, .str s (tk + 1)⟩, tk + 1, List.find?_cons_of_pos (by simp [Value.isInt]), rfl⟩
    · have n1 : ¬ (decide (j = k)) = true := by simp [h]
      have n2 : ¬ (Value.isInt k (Value.int j tk)) = true := by simp [Value.isInt, h]
      rcases entS_find k r (tk + 2) with ⟨x, h1, e, t, h2, h3⟩ | ⟨h1, h2⟩
      · exact .inl ⟨x, by rw [List.find?_cons_of_neg (by exact n1)]; exact h1, e, t, by (show List.find? _ (_ :: entS (tk + 2) r) = _); rw [List.find?_cons_of_neg (by exact n2)]; exact h2, h3⟩
      · exact .inr ⟨by rw [List.find?_cons_of_neg (by exact n1)]; exact h1, by (show List.find? _ (_ :: entS (tk + 2) r) = _); rw [List.find?_cons_of_neg (by exact n2)]; exact h2⟩
theorem split8' : b3D = (b3c0 ++ b3cs.flatten) ++ b3last := by kernel_rfl
theorem b3_find (k : Int) : (∃ s t, b3Find k = some s ∧ findBy Value.isInt b3Ents.toArray k = some (.str s t)) ∨ (b3Find k = none ∧ findBy Value.isInt b3Ents.toArray k = none) := by
  have e : findBy Value.isInt b3Ents.toArray k = (b3Ents.find? fun e => Value.isInt k e.key).map (·.val) := by
    unfold findBy; rw [List.find?_toArray]
  rw [e]
  have e2 : b3Find k = Option.map (·.2) (((b3c0 ++ b3cs.flatten).find? (fun x => decide (x.1 = k))).or (b3last.find? (fun x => decide (x.1 = k)))) := by
    unfold b3Find; rw [split8', List.find?_append (xs := b3c0 ++ b3cs.flatten)]
  have e3 : (b3Ents.find? fun e => Value.isInt k e.key) = ((entL 312 (b3c0 ++ b3cs.flatten)).find? (fun e => Value.isInt k e.key)).or ((entS (312 + 51 + 51 * 37) b3last).find? (fun e => Value.isInt k e.key)) := by
    unfold b3Ents; rw [List.find?_append]
  rw [e2, e3]
  rcases entL_find k (b3c0 ++ b3cs.flatten) 312 with ⟨x, h1, e, t, h2, h3⟩ | ⟨h1, h2⟩
  · exact .inl ⟨x.2, t, by rw [h1]; rfl, by rw [h2]; simp [h3]⟩
  · rw [h1, h2]
    rcases entS_find k b3last (312 + 51 + 51 * 37) with ⟨x, h1, e, t, h2, h3⟩ | ⟨h1, h2⟩
    · exact .inl ⟨x.2, t, by rw [h1]; rfl, by rw [h2]; simp [h3]⟩
    · exact .inr ⟨by rw [h1]; rfl, by rw [h2]; rfl⟩
theorem entL_keys {w : World} (tk : Nat) (ps : List PD) : ∀ e ∈ entL tk ps, ∃ k, (intKind pr w).is k e.key = true ∧ e.hash = (intKind pr w).hash k := by
  induction ps generalizing tk with
  | nil => intro e he; cases he
  | cons x a ih => obtain ⟨k, s⟩ := x; intro e he; rcases List.mem_cons.mp he with rfl | he; exact ⟨k, intKind_is _ _ _ _, rfl⟩; exact ih _ e he
theorem entS_keys {w : World} (tk : Nat) (ps : List PD) : ∀ e ∈ entS tk ps, ∃ k, (intKind pr w).is k e.key = true ∧ e.hash = (intKind pr w).hash k := by
  induction ps generalizing tk with
  | nil => intro e he; cases he
  | cons x a ih => obtain ⟨k, s⟩ := x; intro e he; rcases List.mem_cons.mp he with rfl | he; exact ⟨k, intKind_is _ _ _ _, rfl⟩; exact ih _ e he
theorem mapB3 {w : World} {h : Heap} (X : (K w.params).In h) : h.MapOf (intKind pr w) 72 (fun k => findBy Value.isInt b3Ents.toArray k) := by
  have hg := X 72 (o72 w.params) (by rfl)
  refine ⟨b3Main, b3Ents.toArray, 650, hg, ⟨rfl, rfl, rfl⟩, rfl, fun e he => ?_, fun k => rfl⟩
  have he' : e ∈ b3Ents := by simpa using he
  unfold b3Ents at he'
  rcases List.mem_append.mp he' with h | h
  · exact entL_keys _ _ e h
  · exact entS_keys _ _ e h
section
variable {w : World} {mean : ExcName → Option Value} {mg mb : PySem.Str → Option Value} {A : Around} {E : Value → Shared → Prop} {s : Shared}
theorem get_b3 {k : Int} {t : Tok} {Q : Value → Shared → Prop} (X : (K w.params).In s.heap) (h : Q ((findBy Value.isInt b3Ents.toArray k).getD .none) { s with toks := s.toks + 1 }) :
    wpAny (model pr w) A (call (.builtin "dict.get") [.ref 72, .int k t]) Q E s :=
  have hm := mapB3 X
  call_meetsIn PySem.F.slot_dict_get hm.typeIs PySem.F.entry_dict_get (PySem.F.args_dict_get_2 _ _) (meets_dict_get (intKind pr w) 72 (intKind_is _ _ _ _) (by decide)) ⟨_, hm, h⟩
theorem method_b3 {pl : Sem Bool} {Q : Value × List Value → Shared → Prop} (X : (K w.params).In s.heap) (h : Q (.builtin "dict.get", [.ref 72]) s) :
    wpAny (model pr w) A (getMethod (.ref 72) "get" pl) Q E s :=
  have hm := mapB3 X
  getMethod_builtin hm.typeIs PySem.F.plainAttrs_dict PySem.F.slot_dict_get PySem.F.type_dict_get hm.noDict h
end
end Hd
end
end
section
open PySem PySem.W PySem.Calls PyProof.Rows
set_option maxRecDepth 100000
set_option maxHeartbeats 2000000
noncomputable section
namespace Hd
local macro_rules | `(tactic| walk_at "idle 0") => `(tactic| skip)
theorem filled6 : rw' = PySem.Challenge.rw_tr0065_03 ∧ K = K := by
  k_fill
  w_top off
  exact ⟨rfl, rfl⟩
section
variable {w : World} {mean : ExcName → Option Value} {mg mb : PySem.Str → Option Value}
theorem spec_b3 (c : Nat) (t : Tok) : Spec w mean mg mb 2 117 [.str ⟨#[c]⟩ t] (fun v => ∃ tk, v = .str ((b3Find c).getD (Txt.lower ⟨#[c]⟩)) tk) := by
  k_with_none
  k_with "getMethod ref" => (k_here; (with_reducible show wpAny _ _ (getMethod (Value.ref 72) _ _) _ _ _); refine method_b3 (by k_in) ?_)
  k_with "call builtin:dict.get" => (k_here; (with_reducible show wpAny _ _ (call (Value.builtin "dict.get") [Value.ref 72, Value.int _ _]) _ _ _); refine get_b3 (by k_in) ?_; (try simp only [*, Option.getD_some, Option.getD_none]))
  k_with "call builtin:str.lower" => (k_here; refine SCL.lower (by exact Nat.le_of_ble_eq_true rfl) ?_; intro _)
  intro news dp un gd cn cs a ccd cl outer A₀ base h₀ L m s Q E B F X N T hk hd hu hret
  refine wpAny_call ?_
  k_dflt cell_enter
  conv in (fBody (st 9)) => whnf
  rcases b3_find (c : Int) with ⟨bs, bt, hb1, hb2⟩ | ⟨hb1, hb2⟩
  · k_steps
    exact hret _ _ _ ⟨bt, by rw [hb1]; rfl⟩ (by assumption) (by assumption)
  · k_steps
    exact hret _ _ _ ⟨_, by rw [hb1]; rfl⟩ (by assumption) (by assumption)
end
end Hd
end
end
section
open PySem PySem.W PySem.Calls PyProof.Rows PyProof.Rows.LCg PyProof.Rows.LCt
set_option maxRecDepth 100000
set_option maxHeartbeats 2000000
noncomputable section
namespace Hd
section
variable {prog : Program} {w : World} {A : Around} {E : Value → Shared → Prop} {s : Shared} {h₀ : Heap} {L : Addr} {m : PySem.Str → Option Value} {env : Env}
theorem list_out {M : Model} {C D : Addr} {h : Heap} {tk : Nat} {m' : PySem.Str → Option Value} {ys : List Value} {nw : List (Addr × Obj)} {Q : Value → Shared → Prop} (F : Fr h₀ L h m) (N : News h₀ L h ((D, lst ys) :: nw)) (o : Off1 D nw) (v : h.Ns C m')
    (c0 : h₀.get? C = none) (cL : C ≠ L) (cD : C ≠ D) (off : ∀ p ∈ nw, p.1 ≠ C) (fin : FinE h₀ L m s Q ys nw) : compPost M A E none Q (.ref D) C (.ok .next) { s with heap := h, toks := tk } := by
  refine ⟨m', v, fun h' e => fin D h' tk (F.change e cL c0) (fun p hp => ⟨(e.2 p.1 ?_).trans (N p hp).1, (N p hp).2⟩) o⟩
  exact (List.forall_mem_cons (p := fun p : Addr × Obj => p.1 ≠ C)).mpr ⟨Ne.symm cD, off⟩ p hp
-- a text's iterator, ASCII or wide: what the two have in common
theorem text_iter (hh : A.handled = none) {y : PySem.Str} {t : Tok} {Q : Value → Shared → Prop}
    (h : ∀ (a : Addr) (o : Obj) (St : Nat → Heap → Prop), a = s.heap.objs.size → Walks prog w A a [a] [a] y.cps.size (SignAt y) St → (∀ i g, St i g → ∃ o, g.get? a = some o) → (∀ i g g', St i g → (∀ o, g.get? a = some o → g'.get? a = some o) → St i g') →
      St 0 (s.heap.push o) → Q (.ref a) { s with heap := s.heap.push o }) : wpAny (model prog w) A (pyIter (.str y t)) Q E s := by
  have at1 : ∀ {St : Nat → Heap → Prop}, Walks prog w A s.heap.objs.size [s.heap.objs.size] [s.heap.objs.size] y.cps.size (SignAt y) St → ∀ i g g', St i g → (∀ o, g.get? s.heap.objs.size = some o → g'.get? s.heap.objs.size = some o) → St i g' :=
    fun W i g g' st k => W.frame i g g' st fun b hb => by rw [List.mem_singleton.mp hb]; exact k
  by_cases ha : y.cps.all (· < 128) = true
  · have W := Walks.strAscii (prog := prog) (w := w) hh s.heap.objs.size y t
    exact wpAny_pyIter_ascii ha (h _ _ _ rfl W (fun i g st => st.imp fun _ e => e.1) (at1 W) ⟨_, Heap.get?_push_size _ rfl, rfl, rfl⟩)
  · have W := Walks.strWide (prog := prog) (w := w) hh s.heap.objs.size y t
    exact wpAny_pyIter_wide (Bool.eq_false_iff.mpr ha) (h _ _ _ rfl W (fun i g st => st.imp fun _ e => e.1) (at1 W) ⟨_, Heap.get?_push_size _ rfl, rfl, rfl⟩)
theorem push_lt {h : Heap} {o : Obj} {a : Addr} (e : a = h.objs.size) : ∀ b ∈ [a], b < (h.push o).objs.size := fun b hb => by
  rw [List.mem_singleton.mp hb, e, Heap.size_push]; exact Nat.lt_succ_self _
theorem news_lt {h : Heap} {nw : List (Addr × Obj)} (N : News h₀ L h nw) {a : Addr} (e : a = h.objs.size) : ∀ p ∈ nw, p.1 ≠ a := fun p hp => e ▸ Nat.ne_of_lt (Heap.lt_size (N p hp).1)
theorem up_push {h : Heap} {o : Obj} : ∀ b x, h.get? b = some x → (h.push o).get? b = some x := fun _ _ => Heap.get?_push_of_some o
theorem ListComp_S {ct elt iter : PySem.Expr} {x : PySem.Str} {px : Pos} {scope : Scope} {cl : List (PySem.Str × Addr)} {pos : Pos} {Q : Value → Shared → Prop} (F₀ : Fr h₀ L s.heap m)
    (hclos : closureFor scope env = pure cl) (hcell : ∀ y ∈ scope.names, y.2 ≠ .cell) (hkind : scope.kind = .function)
    (hnames : ∀ y ∈ scope.names, y.2 = .local → scope.names.lookup y.1 = some .local) (hx : scope.names.lookup x = some .local)
    (h : wpAny (model prog w) A (eval iter env) (fun xv s₁ => ∃ y t news, xv = .str y t ∧ A.handled = none ∧ Fr h₀ L s₁.heap m ∧ News h₀ L s₁.heap news ∧ y.cps.size ≤ sizeLine ∧
      ∀ s₂ : Shared, (∃ h, s₂ = { s₁ with heap := h }) → CompRestT prog w A h₀ L m env ct elt x scope cl s₂ (fun _ => True) (SignAt y) (FinE h₀ L m s₂ Q) y.cps.size 0 [] news) E s)
    (hs : ∀ x, foldedSetIterable iter env x = pure x := by intro _; rfl) :
    wpAny (model prog w) A (eval (.ListComp elt [⟨.Name x px, iter, [ct], 0⟩] scope pos) env) Q E s := by
  rw [eval_ListComp]
  refine wpAny_comprehension_free (use := none) rfl hs hclos hkind hnames (wpAny_mono h ?_ fun _ _ e => e)
  rintro _ s₁ ⟨y, t, news, rfl, hh, F, N, hsz, R⟩
  refine text_iter hh fun a o St ea W g1 g2 g3 => ?_
  exact block_T W hsz g1 (fun i h h' o' nw st e1 e2 _ _ _ => g2 i h h' st fun o'' e => by rw [e1] at e; cases e; exact e2) hcell hkind hx g3 (push_lt ea) (F.keeps up_push) (N.grown up_push)
    (ea ▸ Nat.ne_of_lt F.ns.lt) (ea ▸ next_is_new F) (news_lt N ea) trivial (R _ ⟨_, rfl⟩) fun D C h tk m' ys nw F' N' o1 v c0 _ cL _ cD off fin => list_out F' N' o1 v c0 cL cD off fin
end
end Hd
end
end
section
open PySem PySem.W PySem.Calls PyProof.Rows
set_option maxRecDepth 100000
set_option maxHeartbeats 1500000
noncomputable section
namespace Hd
theorem filledSi : rw' = PySem.Challenge.rw_tr0065_03 ∧ K = K := by
  k_fill
  w_top off
  exact ⟨rfl, rfl⟩
noncomputable def manyL : List (Nat × List Nat) := [(223, [115, 115]), (304, [105, 775]), (329, [700, 110]), (496, [106, 780]), (912, [953, 776, 769]), (1415, [1381, 1410]), (7834, [97, 702]), (8119, [945, 834, 953]), (8481, [116, 101, 108]), (13254, [99, 8725, 107, 103]), (64259, [102, 102, 105]), (64279, [1396, 1389])]
noncomputable def heldC (x : Int) : Nat := if x.fmod 27 < 11 then (([173, 847, 6150, 6155, 6156, 6157, 8203, 8204, 8205, 8288, 65279] : List Int).getD (x.fmod 27).toNat 0).toNat else (65013 + x.fmod 27).toNat
noncomputable def sgP (x : Int) : Nat × List Nat :=
  if x.fmod 10 ≤ 2 then (34, [34]) else if x.fmod 10 ≤ 4 then (heldC (x.fdiv 10), []) else if x.fmod 10 = 5 then (32, [32]) else if x.fmod 10 = 6 then (9, [9]) else if x.fmod 10 = 7 then (890, [32, 953])
  else if x.fmod 10 = 8 then manyL.getD ((x.fdiv 10).fmod 12).toNat (0, []) else ((65 + (x.fdiv 10).fmod 26).toNat, [(97 + (x.fdiv 10).fmod 26).toNat])
noncomputable def sgC (x : Int) : Nat := (sgP x).1
noncomputable def foL (x : Int) : List Nat := (sgP x).2
noncomputable def pairO (a b : PySem.Str) (t1 t2 : Tok) : Obj := { cls := .type "tuple", data := .seq #[.str a t1, .str b t2] }
theorem sign_end {x : Int} {news l' : List (Addr × Obj)} {h₀ h' : Heap} {L D : Addr} {m : PySem.Str → Option Value} {s : Shared} {tk' : Nat} {Q : Value → Shared → Prop} {a b : PySem.Str} {t1 t2 : Tok}
    (hret : ∀ (D : Addr) (t1 t2 : Tok) (h' : Heap) (tk' : Nat), AllLt D news → Fr h₀ L h' m → News h₀ L h' ((D, pairO (tx [sgC x]) (tx (foL x)) t1 t2) :: news) → Q (.ref D) { s with heap := h', toks := tk' })
    (e1 : a = tx [sgC x]) (e2 : b = tx (foL x)) (hl : AllLt D news) (F : Fr h₀ L h' m) (N : News h₀ L h' l') (h1 : (D, pairO a b t1 t2) ∈ l') (h2 : ∀ p ∈ news, p ∈ l') : Q (.ref D) { s with heap := h', toks := tk' } := by
  subst e1 e2
  refine hret D t1 t2 h' tk' hl F fun p hp => ?_
  rcases List.mem_cons.mp hp with rfl | hp
  · exact N _ h1
  · exact N _ (h2 p hp)
section
variable {w : World} {mean : ExcName → Option Value} {mg mb : PySem.Str → Option Value}
theorem held_lt (i : Nat) : (([173, 847, 6150, 6155, 6156, 6157, 8203, 8204, 8205, 8288, 65279] : List Int).getD i 0) < 1114112 ∧ 0 ≤ (([173, 847, 6150, 6155, 6156, 6157, 8203, 8204, 8205, 8288, 65279] : List Int).getD i 0) := by
  by_cases h : i < 11
  · have : ∀ j, j < 11 → (([173, 847, 6150, 6155, 6156, 6157, 8203, 8204, 8205, 8288, 65279] : List Int).getD j 0) < 1114112 ∧ 0 ≤ (([173, 847, 6150, 6155, 6156, 6157, 8203, 8204, 8205, 8288, 65279] : List Int).getD j 0) := by decide
    exact this i h
  · rw [List.getD_eq_getElem?_getD, List.getElem?_eq_none (by simpa using h)]; decide
theorem chr_ok (i : Nat) : (decide (([173, 847, 6150, 6155, 6156, 6157, 8203, 8204, 8205, 8288, 65279] : List Int).getD i 0 < 0) || decide (([173, 847, 6150, 6155, 6156, 6157, 8203, 8204, 8205, 8288, 65279] : List Int).getD i 0 > 0x10FFFF)) = false := by
  have h9 := held_lt i
  simp only [Bool.or_eq_false_iff, decide_eq_false_iff_not]
  omega
theorem spec_sign (x : Int) (t : Tok) (news : List (Addr × Obj)) (dp un : Nat) (gd : Option (List Code)) (cn : PySem.Str) (cs : Scope) (a : Addr) (ccd : Value) (cl : List (PySem.Str × Addr)) (outer : List Env) (A₀ : Around) (base h₀ : Heap) (L : Addr) (m : PySem.Str → Option Value) (s : Shared) (Q E : Value → Shared → Prop)
    (B : Below A₀ base outer h₀) (F : Fr h₀ L s.heap m) (X : (K w.params).In h₀) (N : News h₀ L s.heap news) (T : Top q (looseW q loose) mean mg mb h₀) (hk : cs.kind = .function) (hd : dp + 4 < recursionLimit) (hu : un + 400 < cLine)
    (hret : ∀ (D : Addr) (t1 t2 : Tok) (h' : Heap) (tk' : Nat), AllLt D news → Fr h₀ L h' m → News h₀ L h' ((D, pairO (tx [sgC x]) (tx (foL x)) t1 t2) :: news) → Q (.ref D) { s with heap := h', toks := tk' }) :
    wpAny (model pr w) (ktrTop dp un gd cn cs L a ccd cl outer) (call (.ref 190) [.int x t]) Q E s := by
  k_with_none
  k_with "subscriptTail Name BinOp ref int" => (k_here; (with_reducible show wpAny _ _ (subscriptTail _ (Expr.BinOp _ Operator.Sub _ _) (Value.ref _) (Value.int _ _)) _ _ _); refine hold ?_)
  k_with "subscriptTail Name BinOp ref int" => (k_here; (with_reducible show wpAny _ _ (subscriptTail _ (Expr.BinOp _ Operator.Mod (Expr.Constant (Const.int 12) _ _) _) (Value.ref _) (Value.int _ _)) _ _ _); refine hold ?_)
  k_with "call builtin:chr" => (k_here; (with_reducible show wpAny _ _ (call (Value.builtin "chr") [Value.int (List.getD _ _ _) _]) _ _ _); refine P.chr_of_int (chr_ok _) ?_)
  refine wpAny_call ?_
  k_dflt cell_enter
  conv in (fBody (st 13)) => whnf
  have k0 : 0 ≤ x.fmod 10 := Int.fmod_nonneg_of_pos _ (by decide)
  have k1 : x.fmod 10 < 10 := Int.fmod_lt_of_pos _ (by decide)
  obtain hc | hc | hc | hc | hc | hc | hc : x.fmod 10 ≤ 2 ∨ (2 < x.fmod 10 ∧ x.fmod 10 ≤ 4) ∨ x.fmod 10 = 5 ∨ x.fmod 10 = 6 ∨ x.fmod 10 = 7 ∨ x.fmod 10 = 8 ∨ x.fmod 10 = 9 := by omega
  · have hp : sgP x = (34, [34]) := by unfold sgP; rw [if_pos hc]
    k_steps
    all_goals try (exfalso; omega)
    · skip
      (rename News _ _ _ _ => N9'); (rename Fr _ _ _ _ => F9')
      refine sign_end hret (show _ = _ from ?ea1) (show _ = _ from ?ea2) (by first | assumption | exact (show _ < _ ∧ AllLt _ news from by assumption).2 | exact (show _ < _ ∧ _ < _ ∧ AllLt _ news from by assumption).2.2 | exact (show _ < _ ∧ _ < _ ∧ _ < _ ∧ AllLt _ news from by assumption).2.2.2 | exact (show _ < _ ∧ _ < _ ∧ _ < _ ∧ _ < _ ∧ AllLt _ news from by assumption).2.2.2.2 | exact (show _ < _ ∧ _ < _ ∧ _ < _ ∧ _ < _ ∧ _ < _ ∧ AllLt _ news from by assumption).2.2.2.2.2 | exact (show _ < _ ∧ _ < _ ∧ _ < _ ∧ _ < _ ∧ _ < _ ∧ _ < _ ∧ AllLt _ news from by assumption).2.2.2.2.2.2 | exact (show _ < _ ∧ _ < _ ∧ _ < _ ∧ _ < _ ∧ _ < _ ∧ _ < _ ∧ _ < _ ∧ AllLt _ news from by assumption).2.2.2.2.2.2.2 | exact (show _ < _ ∧ _ < _ ∧ _ < _ ∧ _ < _ ∧ _ < _ ∧ _ < _ ∧ _ < _ ∧ _ < _ ∧ AllLt _ news from by assumption).2.2.2.2.2.2.2.2 | exact (show _ < _ ∧ _ < _ ∧ _ < _ ∧ _ < _ ∧ _ < _ ∧ _ < _ ∧ _ < _ ∧ _ < _ ∧ _ < _ ∧ AllLt _ news from by assumption).2.2.2.2.2.2.2.2.2 | exact (show _ < _ ∧ _ < _ ∧ _ < _ ∧ _ < _ ∧ _ < _ ∧ _ < _ ∧ _ < _ ∧ _ < _ ∧ _ < _ ∧ _ < _ ∧ AllLt _ news from by assumption).2.2.2.2.2.2.2.2.2.2 | exact (show _ < _ ∧ _ < _ ∧ _ < _ ∧ _ < _ ∧ _ < _ ∧ _ < _ ∧ _ < _ ∧ _ < _ ∧ _ < _ ∧ _ < _ ∧ _ < _ ∧ AllLt _ news from by assumption).2.2.2.2.2.2.2.2.2.2.2 | exact (show _ < _ ∧ _ < _ ∧ _ < _ ∧ _ < _ ∧ _ < _ ∧ _ < _ ∧ _ < _ ∧ _ < _ ∧ _ < _ ∧ _ < _ ∧ _ < _ ∧ _ < _ ∧ AllLt _ news from by assumption).2.2.2.2.2.2.2.2.2.2.2.2 | exact (show _ < _ ∧ _ < _ ∧ _ < _ ∧ _ < _ ∧ _ < _ ∧ _ < _ ∧ _ < _ ∧ _ < _ ∧ _ < _ ∧ _ < _ ∧ _ < _ ∧ _ < _ ∧ _ < _ ∧ AllLt _ news from by assumption).2.2.2.2.2.2.2.2.2.2.2.2.2) F9' N9' (by unfold pairO; k_mem) (by kcj_all)
      case ea1 => unfold sgC; rw [hp]; decide +kernel
      case ea2 => unfold foL; rw [hp]; decide +kernel
  · have hp : sgP x = (heldC (x.fdiv 10), []) := by unfold sgP; rw [if_neg (by omega)]; rw [if_pos hc.2]
    k_steps
    all_goals try (exfalso; omega)
    · skip
      (rename News _ _ _ _ => N9'); (rename Fr _ _ _ _ => F9')
      refine sign_end hret (show _ = _ from ?eb1) (show _ = _ from ?eb2) (by first | assumption | exact (show _ < _ ∧ AllLt _ news from by assumption).2 | exact (show _ < _ ∧ _ < _ ∧ AllLt _ news from by assumption).2.2 | exact (show _ < _ ∧ _ < _ ∧ _ < _ ∧ AllLt _ news from by assumption).2.2.2 | exact (show _ < _ ∧ _ < _ ∧ _ < _ ∧ _ < _ ∧ AllLt _ news from by assumption).2.2.2.2 | exact (show _ < _ ∧ _ < _ ∧ _ < _ ∧ _ < _ ∧ _ < _ ∧ AllLt _ news from by assumption).2.2.2.2.2 | exact (show _ < _ ∧ _ < _ ∧ _ < _ ∧ _ < _ ∧ _ < _ ∧ _ < _ ∧ AllLt _ news from by assumption).2.2.2.2.2.2 | exact (show _ < _ ∧ _ < _ ∧ _ < _ ∧ _ < _ ∧ _ < _ ∧ _ < _ ∧ _ < _ ∧ AllLt _ news from by assumption).2.2.2.2.2.2.2 | exact (show _ < _ ∧ _ < _ ∧ _ < _ ∧ _ < _ ∧ _ < _ ∧ _ < _ ∧ _ < _ ∧ _ < _ ∧ AllLt _ news from by assumption).2.2.2.2.2.2.2.2 | exact (show _ < _ ∧ _ < _ ∧ _ < _ ∧ _ < _ ∧ _ < _ ∧ _ < _ ∧ _ < _ ∧ _ < _ ∧ _ < _ ∧ AllLt _ news from by assumption).2.2.2.2.2.2.2.2.2 | exact (show _ < _ ∧ _ < _ ∧ _ < _ ∧ _ < _ ∧ _ < _ ∧ _ < _ ∧ _ < _ ∧ _ < _ ∧ _ < _ ∧ _ < _ ∧ AllLt _ news from by assumption).2.2.2.2.2.2.2.2.2.2 | exact (show _ < _ ∧ _ < _ ∧ _ < _ ∧ _ < _ ∧ _ < _ ∧ _ < _ ∧ _ < _ ∧ _ < _ ∧ _ < _ ∧ _ < _ ∧ _ < _ ∧ AllLt _ news from by assumption).2.2.2.2.2.2.2.2.2.2.2 | exact (show _ < _ ∧ _ < _ ∧ _ < _ ∧ _ < _ ∧ _ < _ ∧ _ < _ ∧ _ < _ ∧ _ < _ ∧ _ < _ ∧ _ < _ ∧ _ < _ ∧ _ < _ ∧ AllLt _ news from by assumption).2.2.2.2.2.2.2.2.2.2.2.2 | exact (show _ < _ ∧ _ < _ ∧ _ < _ ∧ _ < _ ∧ _ < _ ∧ _ < _ ∧ _ < _ ∧ _ < _ ∧ _ < _ ∧ _ < _ ∧ _ < _ ∧ _ < _ ∧ _ < _ ∧ AllLt _ news from by assumption).2.2.2.2.2.2.2.2.2.2.2.2.2) F9' N9' (by unfold pairO; k_mem) (by kcj_all)
      case eb1 => unfold sgC; rw [hp]; unfold heldC; rw [if_pos (by assumption)]; rfl
      case eb2 => unfold foL; rw [hp]; show _ = tx []; decide +kernel
    · skip
      (rename News _ _ _ _ => N9'); (rename Fr _ _ _ _ => F9')
      refine sign_end hret (show _ = _ from ?ec1) (show _ = _ from ?ec2) (by first | assumption | exact (show _ < _ ∧ AllLt _ news from by assumption).2 | exact (show _ < _ ∧ _ < _ ∧ AllLt _ news from by assumption).2.2 | exact (show _ < _ ∧ _ < _ ∧ _ < _ ∧ AllLt _ news from by assumption).2.2.2 | exact (show _ < _ ∧ _ < _ ∧ _ < _ ∧ _ < _ ∧ AllLt _ news from by assumption).2.2.2.2 | exact (show _ < _ ∧ _ < _ ∧ _ < _ ∧ _ < _ ∧ _ < _ ∧ AllLt _ news from by assumption).2.2.2.2.2 | exact (show _ < _ ∧ _ < _ ∧ _ < _ ∧ _ < _ ∧ _ < _ ∧ _ < _ ∧ AllLt _ news from by assumption).2.2.2.2.2.2 | exact (show _ < _ ∧ _ < _ ∧ _ < _ ∧ _ < _ ∧ _ < _ ∧ _ < _ ∧ _ < _ ∧ AllLt _ news from by assumption).2.2.2.2.2.2.2 | exact (show _ < _ ∧ _ < _ ∧ _ < _ ∧ _ < _ ∧ _ < _ ∧ _ < _ ∧ _ < _ ∧ _ < _ ∧ AllLt _ news from by assumption).2.2.2.2.2.2.2.2 | exact (show _ < _ ∧ _ < _ ∧ _ < _ ∧ _ < _ ∧ _ < _ ∧ _ < _ ∧ _ < _ ∧ _ < _ ∧ _ < _ ∧ AllLt _ news from by assumption).2.2.2.2.2.2.2.2.2 | exact (show _ < _ ∧ _ < _ ∧ _ < _ ∧ _ < _ ∧ _ < _ ∧ _ < _ ∧ _ < _ ∧ _ < _ ∧ _ < _ ∧ _ < _ ∧ AllLt _ news from by assumption).2.2.2.2.2.2.2.2.2.2 | exact (show _ < _ ∧ _ < _ ∧ _ < _ ∧ _ < _ ∧ _ < _ ∧ _ < _ ∧ _ < _ ∧ _ < _ ∧ _ < _ ∧ _ < _ ∧ _ < _ ∧ AllLt _ news from by assumption).2.2.2.2.2.2.2.2.2.2.2 | exact (show _ < _ ∧ _ < _ ∧ _ < _ ∧ _ < _ ∧ _ < _ ∧ _ < _ ∧ _ < _ ∧ _ < _ ∧ _ < _ ∧ _ < _ ∧ _ < _ ∧ _ < _ ∧ AllLt _ news from by assumption).2.2.2.2.2.2.2.2.2.2.2.2 | exact (show _ < _ ∧ _ < _ ∧ _ < _ ∧ _ < _ ∧ _ < _ ∧ _ < _ ∧ _ < _ ∧ _ < _ ∧ _ < _ ∧ _ < _ ∧ _ < _ ∧ _ < _ ∧ _ < _ ∧ AllLt _ news from by assumption).2.2.2.2.2.2.2.2.2.2.2.2.2) F9' N9' (by unfold pairO; k_mem) (by kcj_all)
      case ec1 => unfold sgC; rw [hp]; unfold heldC; rw [if_neg (by assumption)]; rfl
      case ec2 => unfold foL; rw [hp]; show _ = tx []; decide +kernel
  · have hp : sgP x = (32, [32]) := by unfold sgP; rw [if_neg (by omega)]; rw [if_neg (by omega)]; rw [if_pos hc]
    k_steps
    all_goals try (exfalso; omega)
    · unfold Hold
      rw [show x.fmod 10 - 5 = 0 by omega]
      refine PyProof.Rows.item_list (News.isList (by k_asm) (by k_mem)) (by decide) (by decide) (show _ = _ from rfl) ?_
      k_steps
      (rename News _ _ _ _ => N9'); (rename Fr _ _ _ _ => F9')
      refine sign_end hret (show _ = _ from ?ed01) (show _ = _ from ?ed02) (by first | assumption | exact (show _ < _ ∧ AllLt _ news from by assumption).2 | exact (show _ < _ ∧ _ < _ ∧ AllLt _ news from by assumption).2.2 | exact (show _ < _ ∧ _ < _ ∧ _ < _ ∧ AllLt _ news from by assumption).2.2.2 | exact (show _ < _ ∧ _ < _ ∧ _ < _ ∧ _ < _ ∧ AllLt _ news from by assumption).2.2.2.2 | exact (show _ < _ ∧ _ < _ ∧ _ < _ ∧ _ < _ ∧ _ < _ ∧ AllLt _ news from by assumption).2.2.2.2.2 | exact (show _ < _ ∧ _ < _ ∧ _ < _ ∧ _ < _ ∧ _ < _ ∧ _ < _ ∧ AllLt _ news from by assumption).2.2.2.2.2.2 | exact (show _ < _ ∧ _ < _ ∧ _ < _ ∧ _ < _ ∧ _ < _ ∧ _ < _ ∧ _ < _ ∧ AllLt _ news from by assumption).2.2.2.2.2.2.2 | exact (show _ < _ ∧ _ < _ ∧ _ < _ ∧ _ < _ ∧ _ < _ ∧ _ < _ ∧ _ < _ ∧ _ < _ ∧ AllLt _ news from by assumption).2.2.2.2.2.2.2.2 | exact (show _ < _ ∧ _ < _ ∧ _ < _ ∧ _ < _ ∧ _ < _ ∧ _ < _ ∧ _ < _ ∧ _ < _ ∧ _ < _ ∧ AllLt _ news from by assumption).2.2.2.2.2.2.2.2.2 | exact (show _ < _ ∧ _ < _ ∧ _ < _ ∧ _ < _ ∧ _ < _ ∧ _ < _ ∧ _ < _ ∧ _ < _ ∧ _ < _ ∧ _ < _ ∧ AllLt _ news from by assumption).2.2.2.2.2.2.2.2.2.2 | exact (show _ < _ ∧ _ < _ ∧ _ < _ ∧ _ < _ ∧ _ < _ ∧ _ < _ ∧ _ < _ ∧ _ < _ ∧ _ < _ ∧ _ < _ ∧ _ < _ ∧ AllLt _ news from by assumption).2.2.2.2.2.2.2.2.2.2.2 | exact (show _ < _ ∧ _ < _ ∧ _ < _ ∧ _ < _ ∧ _ < _ ∧ _ < _ ∧ _ < _ ∧ _ < _ ∧ _ < _ ∧ _ < _ ∧ _ < _ ∧ _ < _ ∧ AllLt _ news from by assumption).2.2.2.2.2.2.2.2.2.2.2.2 | exact (show _ < _ ∧ _ < _ ∧ _ < _ ∧ _ < _ ∧ _ < _ ∧ _ < _ ∧ _ < _ ∧ _ < _ ∧ _ < _ ∧ _ < _ ∧ _ < _ ∧ _ < _ ∧ _ < _ ∧ AllLt _ news from by assumption).2.2.2.2.2.2.2.2.2.2.2.2.2) F9' N9' (by unfold pairO; k_mem) (by kcj_all)
      case ed01 => unfold sgC; rw [hp]; decide +kernel
      case ed02 => unfold foL; rw [hp]; decide +kernel
  · have hp : sgP x = (9, [9]) := by unfold sgP; rw [if_neg (by omega)]; rw [if_neg (by omega)]; rw [if_neg (by omega)]; rw [if_pos hc]
    k_steps
    all_goals try (exfalso; omega)
    · unfold Hold
      rw [show x.fmod 10 - 5 = 1 by omega]
      refine PyProof.Rows.item_list (News.isList (by k_asm) (by k_mem)) (by decide) (by decide) (show _ = _ from rfl) ?_
      k_steps
      (rename News _ _ _ _ => N9'); (rename Fr _ _ _ _ => F9')
      refine sign_end hret (show _ = _ from ?ed11) (show _ = _ from ?ed12) (by first | assumption | exact (show _ < _ ∧ AllLt _ news from by assumption).2 | exact (show _ < _ ∧ _ < _ ∧ AllLt _ news from by assumption).2.2 | exact (show _ < _ ∧ _ < _ ∧ _ < _ ∧ AllLt _ news from by assumption).2.2.2 | exact (show _ < _ ∧ _ < _ ∧ _ < _ ∧ _ < _ ∧ AllLt _ news from by assumption).2.2.2.2 | exact (show _ < _ ∧ _ < _ ∧ _ < _ ∧ _ < _ ∧ _ < _ ∧ AllLt _ news from by assumption).2.2.2.2.2 | exact (show _ < _ ∧ _ < _ ∧ _ < _ ∧ _ < _ ∧ _ < _ ∧ _ < _ ∧ AllLt _ news from by assumption).2.2.2.2.2.2 | exact (show _ < _ ∧ _ < _ ∧ _ < _ ∧ _ < _ ∧ _ < _ ∧ _ < _ ∧ _ < _ ∧ AllLt _ news from by assumption).2.2.2.2.2.2.2 | exact (show _ < _ ∧ _ < _ ∧ _ < _ ∧ _ < _ ∧ _ < _ ∧ _ < _ ∧ _ < _ ∧ _ < _ ∧ AllLt _ news from by assumption).2.2.2.2.2.2.2.2 | exact (show _ < _ ∧ _ < _ ∧ _ < _ ∧ _ < _ ∧ _ < _ ∧ _ < _ ∧ _ < _ ∧ _ < _ ∧ _ < _ ∧ AllLt _ news from by assumption).2.2.2.2.2.2.2.2.2 | exact (show _ < _ ∧ _ < _ ∧ _ < _ ∧ _ < _ ∧ _ < _ ∧ _ < _ ∧ _ < _ ∧ _ < _ ∧ _ < _ ∧ _ < _ ∧ AllLt _ news from by assumption).2.2.2.2.2.2.2.2.2.2 | exact (show _ < _ ∧ _ < _ ∧ _ < _ ∧ _ < _ ∧ _ < _ ∧ _ < _ ∧ _ < _ ∧ _ < _ ∧ _ < _ ∧ _ < _ ∧ _ < _ ∧ AllLt _ news from by assumption).2.2.2.2.2.2.2.2.2.2.2 | exact (show _ < _ ∧ _ < _ ∧ _ < _ ∧ _ < _ ∧ _ < _ ∧ _ < _ ∧ _ < _ ∧ _ < _ ∧ _ < _ ∧ _ < _ ∧ _ < _ ∧ _ < _ ∧ AllLt _ news from by assumption).2.2.2.2.2.2.2.2.2.2.2.2 | exact (show _ < _ ∧ _ < _ ∧ _ < _ ∧ _ < _ ∧ _ < _ ∧ _ < _ ∧ _ < _ ∧ _ < _ ∧ _ < _ ∧ _ < _ ∧ _ < _ ∧ _ < _ ∧ _ < _ ∧ AllLt _ news from by assumption).2.2.2.2.2.2.2.2.2.2.2.2.2) F9' N9' (by unfold pairO; k_mem) (by kcj_all)
      case ed11 => unfold sgC; rw [hp]; decide +kernel
      case ed12 => unfold foL; rw [hp]; decide +kernel
  · have hp : sgP x = (890, [32, 953]) := by unfold sgP; rw [if_neg (by omega)]; rw [if_neg (by omega)]; rw [if_neg (by omega)]; rw [if_neg (by omega)]; rw [if_pos hc]
    k_steps
    all_goals try (exfalso; omega)
    · unfold Hold
      rw [show x.fmod 10 - 5 = 2 by omega]
      refine PyProof.Rows.item_list (News.isList (by k_asm) (by k_mem)) (by decide) (by decide) (show _ = _ from rfl) ?_
      k_steps
      (rename News _ _ _ _ => N9'); (rename Fr _ _ _ _ => F9')
      refine sign_end hret (show _ = _ from ?ed21) (show _ = _ from ?ed22) (by first | assumption | exact (show _ < _ ∧ AllLt _ news from by assumption).2 | exact (show _ < _ ∧ _ < _ ∧ AllLt _ news from by assumption).2.2 | exact (show _ < _ ∧ _ < _ ∧ _ < _ ∧ AllLt _ news from by assumption).2.2.2 | exact (show _ < _ ∧ _ < _ ∧ _ < _ ∧ _ < _ ∧ AllLt _ news from by assumption).2.2.2.2 | exact (show _ < _ ∧ _ < _ ∧ _ < _ ∧ _ < _ ∧ _ < _ ∧ AllLt _ news from by assumption).2.2.2.2.2 | exact (show _ < _ ∧ _ < _ ∧ _ < _ ∧ _ < _ ∧ _ < _ ∧ _ < _ ∧ AllLt _ news from by assumption).2.2.2.2.2.2 | exact (show _ < _ ∧ _ < _ ∧ _ < _ ∧ _ < _ ∧ _ < _ ∧ _ < _ ∧ _ < _ ∧ AllLt _ news from by assumption).2.2.2.2.2.2.2 | exact (show _ < _ ∧ _ < _ ∧ _ < _ ∧ _ < _ ∧ _ < _ ∧ _ < _ ∧ _ < _ ∧ _ < _ ∧ AllLt _ news from by assumption).2.2.2.2.2.2.2.2 | exact (show _ < _ ∧ _ < _ ∧ _ < _ ∧ _ < _ ∧ _ < _ ∧ _ < _ ∧ _ < _ ∧ _ < _ ∧ _ < _ ∧ AllLt _ news from by assumption).2.2.2.2.2.2.2.2.2 | exact (show _ < _ ∧ _ < _ ∧ _ < _ ∧ _ < _ ∧ _ < _ ∧ _ < _ ∧ _ < _ ∧ _ < _ ∧ _ < _ ∧ _ < _ ∧ AllLt _ news from by assumption).2.2.2.2.2.2.2.2.2.2 | exact (show _ < _ ∧ _ < _ ∧ _ < _ ∧ _ < _ ∧ _ < _ ∧ _ < _ ∧ _ < _ ∧ _ < _ ∧ _ < _ ∧ _ < _ ∧ _ < _ ∧ AllLt _ news from by assumption).2.2.2.2.2.2.2.2.2.2.2 | exact (show _ < _ ∧ _ < _ ∧ _ < _ ∧ _ < _ ∧ _ < _ ∧ _ < _ ∧ _ < _ ∧ _ < _ ∧ _ < _ ∧ _ < _ ∧ _ < _ ∧ _ < _ ∧ AllLt _ news from by assumption).2.2.2.2.2.2.2.2.2.2.2.2 | exact (show _ < _ ∧ _ < _ ∧ _ < _ ∧ _ < _ ∧ _ < _ ∧ _ < _ ∧ _ < _ ∧ _ < _ ∧ _ < _ ∧ _ < _ ∧ _ < _ ∧ _ < _ ∧ _ < _ ∧ AllLt _ news from by assumption).2.2.2.2.2.2.2.2.2.2.2.2.2) F9' N9' (by unfold pairO; k_mem) (by kcj_all)
      case ed21 => unfold sgC; rw [hp]; decide +kernel
      case ed22 => unfold foL; rw [hp]; decide +kernel
  · have hp : sgP x = manyL.getD ((x.fdiv 10).fmod 12).toNat (0, []) := by unfold sgP; rw [if_neg (by omega)]; rw [if_neg (by omega)]; rw [if_neg (by omega)]; rw [if_neg (by omega)]; rw [if_neg (by omega)]; rw [if_pos hc]
    have y0 : 0 ≤ (x.fdiv 10).fmod 12 := Int.fmod_nonneg_of_pos _ (by decide)
    have y1 : (x.fdiv 10).fmod 12 < 12 := Int.fmod_lt_of_pos _ (by decide)
    k_steps
    all_goals try (exfalso; omega)
    unfold Hold
    obtain hj | hj | hj | hj | hj | hj | hj | hj | hj | hj | hj | hj : (x.fdiv 10).fmod 12 = 0 ∨ (x.fdiv 10).fmod 12 = 1 ∨ (x.fdiv 10).fmod 12 = 2 ∨ (x.fdiv 10).fmod 12 = 3 ∨ (x.fdiv 10).fmod 12 = 4 ∨ (x.fdiv 10).fmod 12 = 5 ∨ (x.fdiv 10).fmod 12 = 6 ∨ (x.fdiv 10).fmod 12 = 7 ∨ (x.fdiv 10).fmod 12 = 8 ∨ (x.fdiv 10).fmod 12 = 9 ∨ (x.fdiv 10).fmod 12 = 10 ∨ (x.fdiv 10).fmod 12 = 11 := by omega
    · rw [hj] at hp ⊢
      refine PyProof.Rows.item_list (News.isList (by k_asm) (by k_mem)) (by decide) (by decide) (show _ = _ from rfl) ?_
      k_steps
      (rename News _ _ _ _ => N9'); (rename Fr _ _ _ _ => F9')
      refine sign_end hret (show _ = _ from ?em01) (show _ = _ from ?em02) (by first | assumption | exact (show _ < _ ∧ AllLt _ news from by assumption).2 | exact (show _ < _ ∧ _ < _ ∧ AllLt _ news from by assumption).2.2 | exact (show _ < _ ∧ _ < _ ∧ _ < _ ∧ AllLt _ news from by assumption).2.2.2 | exact (show _ < _ ∧ _ < _ ∧ _ < _ ∧ _ < _ ∧ AllLt _ news from by assumption).2.2.2.2 | exact (show _ < _ ∧ _ < _ ∧ _ < _ ∧ _ < _ ∧ _ < _ ∧ AllLt _ news from by assumption).2.2.2.2.2 | exact (show _ < _ ∧ _ < _ ∧ _ < _ ∧ _ < _ ∧ _ < _ ∧ _ < _ ∧ AllLt _ news from by assumption).2.2.2.2.2.2 | exact (show _ < _ ∧ _ < _ ∧ _ < _ ∧ _ < _ ∧ _ < _ ∧ _ < _ ∧ _ < _ ∧ AllLt _ news from by assumption).2.2.2.2.2.2.2 | exact (show _ < _ ∧ _ < _ ∧ _ < _ ∧ _ < _ ∧ _ < _ ∧ _ < _ ∧ _ < _ ∧ _ < _ ∧ AllLt _ news from by assumption).2.2.2.2.2.2.2.2 | exact (show _ < _ ∧ _ < _ ∧ _ < _ ∧ _ < _ ∧ _ < _ ∧ _ < _ ∧ _ < _ ∧ _ < _ ∧ _ < _ ∧ AllLt _ news from by assumption).2.2.2.2.2.2.2.2.2 | exact (show _ < _ ∧ _ < _ ∧ _ < _ ∧ _ < _ ∧ _ < _ ∧ _ < _ ∧ _ < _ ∧ _ < _ ∧ _ < _ ∧ _ < _ ∧ AllLt _ news from by assumption).2.2.2.2.2.2.2.2.2.2 | exact (show _ < _ ∧ _ < _ ∧ _ < _ ∧ _ < _ ∧ _ < _ ∧ _ < _ ∧ _ < _ ∧ _ < _ ∧ _ < _ ∧ _ < _ ∧ _ < _ ∧ AllLt _ news from by assumption).2.2.2.2.2.2.2.2.2.2.2 | exact (show _ < _ ∧ _ < _ ∧ _ < _ ∧ _ < _ ∧ _ < _ ∧ _ < _ ∧ _ < _ ∧ _ < _ ∧ _ < _ ∧ _ < _ ∧ _ < _ ∧ _ < _ ∧ AllLt _ news from by assumption).2.2.2.2.2.2.2.2.2.2.2.2 | exact (show _ < _ ∧ _ < _ ∧ _ < _ ∧ _ < _ ∧ _ < _ ∧ _ < _ ∧ _ < _ ∧ _ < _ ∧ _ < _ ∧ _ < _ ∧ _ < _ ∧ _ < _ ∧ _ < _ ∧ AllLt _ news from by assumption).2.2.2.2.2.2.2.2.2.2.2.2.2) F9' N9' (by unfold pairO; k_mem) (by kcj_all)
      case em01 => unfold sgC; rw [hp]; decide +kernel
      case em02 => unfold foL; rw [hp]; decide +kernel
    · rw [hj] at hp ⊢
      refine PyProof.Rows.item_list (News.isList (by k_asm) (by k_mem)) (by decide) (by decide) (show _ = _ from rfl) ?_
      k_steps
      (rename News _ _ _ _ => N9'); (rename Fr _ _ _ _ => F9')
      refine sign_end hret (show _ = _ from ?em11) (show _ = _ from ?em12) (by first | assumption | exact (show _ < _ ∧ AllLt _ news from by assumption).2 | exact (show _ < _ ∧ _ < _ ∧ AllLt _ news from by assumption).2.2 | exact (show _ < _ ∧ _ < _ ∧ _ < _ ∧ AllLt _ news from by assumption).2.2.2 | exact (show _ < _ ∧ _ < _ ∧ _ < _ ∧ _ < _ ∧ AllLt _ news from by assumption).2.2.2.2 | exact (show _ < _ ∧ _ < _ ∧ _ < _ ∧ _ < _ ∧ _ < _ ∧ AllLt _ news from by assumption).2.2.2.2.2 | exact (show _ < _ ∧ _ < _ ∧ _ < _ ∧ _ < _ ∧ _ < _ ∧ _ < _ ∧ AllLt _ news from by assumption).2.2.2.2.2.2 | exact (show _ < _ ∧ _ < _ ∧ _ < _ ∧ _ < _ ∧ _ < _ ∧ _ < _ ∧ _ < _ ∧ AllLt _ news from by assumption).2.2.2.2.2.2.2 | exact (show _ < _ ∧ _ < _ ∧ _ < _ ∧ _ < _ ∧ _ < _ ∧ _ < _ ∧ _ < _ ∧ _ < _ ∧ AllLt _ news from by assumption).2.2.2.2.2.2.2.2 | exact (show _ < _ ∧ _ < _ ∧ _ < _ ∧ _ < _ ∧ _ < _ ∧ _ < _ ∧ _ < _ ∧ _ < _ ∧ _ < _ ∧ AllLt _ news from by assumption).2.2.2.2.2.2.2.2.2 | exact (show _ < _ ∧ _ < _ ∧ _ < _ ∧ _ < _ ∧ _ < _ ∧ _ < _ ∧ _ < _ ∧ _ < _ ∧ _ < _ ∧ _ < _ ∧ AllLt _ news from by assumption).2.2.2.2.2.2.2.2.2.2 | exact (show _ < _ ∧ _ < _ ∧ _ < _ ∧ _ < _ ∧ _ < _ ∧ _ < _ ∧ _ < _ ∧ _ < _ ∧ _ < _ ∧ _ < _ ∧ _ < _ ∧ AllLt _ news from by assumption).2.2.2.2.2.2.2.2.2.2.2 | exact (show _ < _ ∧ _ < _ ∧ _ < _ ∧ _ < _ ∧ _ < _ ∧ _ < _ ∧ _ < _ ∧ _ < _ ∧ _ < _ ∧ _ < _ ∧ _ < _ ∧ _ < _ ∧ AllLt _ news from by assumption).2.2.2.2.2.2.2.2.2.2.2.2 | exact (show _ < _ ∧ _ < _ ∧ _ < _ ∧ _ < _ ∧ _ < _ ∧ _ < _ ∧ _ < _ ∧ _ < _ ∧ _ < _ ∧ _ < _ ∧ _ < _ ∧ _ < _ ∧ _ < _ ∧ AllLt _ news from by assumption).2.2.2.2.2.2.2.2.2.2.2.2.2) F9' N9' (by unfold pairO; k_mem) (by kcj_all)
      case em11 => unfold sgC; rw [hp]; decide +kernel
      case em12 => unfold foL; rw [hp]; decide +kernel
    · rw [hj] at hp ⊢
      refine PyProof.Rows.item_list (News.isList (by k_asm) (by k_mem)) (by decide) (by decide) (show _ = _ from rfl) ?_
      k_steps
      (rename News _ _ _ _ => N9'); (rename Fr _ _ _ _ => F9')
      refine sign_end hret (show _ = _ from ?em21) (show _ = _ from ?em22) (by first | assumption | exact (show _ < _ ∧ AllLt _ news from by assumption).2 | exact (show _ < _ ∧ _ < _ ∧ AllLt _ news from by assumption).2.2 | exact (show _ < _ ∧ _ < _ ∧ _ < _ ∧ AllLt _ news from by assumption).2.2.2 | exact (show _ < _ ∧ _ < _ ∧ _ < _ ∧ _ < _ ∧ AllLt _ news from by assumption).2.2.2.2 | exact (show _ < _ ∧ _ < _ ∧ _ < _ ∧ _ < _ ∧ _ < _ ∧ AllLt _ news from by assumption).2.2.2.2.2 | exact (show _ < _ ∧ _ < _ ∧ _ < _ ∧ _ < _ ∧ _ < _ ∧ _ < _ ∧ AllLt _ news from by assumption).2.2.2.2.2.2 | exact (show _ < _ ∧ _ < _ ∧ _ < _ ∧ _ < _ ∧ _ < _ ∧ _ < _ ∧ _ < _ ∧ AllLt _ news from by assumption).2.2.2.2.2.2.2 | exact (show _ < _ ∧ _ < _ ∧ _ < _ ∧ _ < _ ∧ _ < _ ∧ _ < _ ∧ _ < _ ∧ _ < _ ∧ AllLt _ news from by assumption).2.2.2.2.2.2.2.2 | exact (show _ < _ ∧ _ < _ ∧ _ < _ ∧ _ < _ ∧ _ < _ ∧ _ < _ ∧ _ < _ ∧ _ < _ ∧ _ < _ ∧ AllLt _ news from by assumption).2.2.2.2.2.2.2.2.2 | exact (show _ < _ ∧ _ < _ ∧ _ < _ ∧ _ < _ ∧ _ < _ ∧ _ < _ ∧ _ < _ ∧ _ < _ ∧ _ < _ ∧ _ < _ ∧ AllLt _ news from by assumption).2.2.2.2.2.2.2.2.2.2 | exact (show _ < _ ∧ _ < _ ∧ _ < _ ∧ _ < _ ∧ _ < _ ∧ _ < _ ∧ _ < _ ∧ _ < _ ∧ _ < _ ∧ _ < _ ∧ _ < _ ∧ AllLt _ news from by assumption).2.2.2.2.2.2.2.2.2.2.2 | exact (show _ < _ ∧ _ < _ ∧ _ < _ ∧ _ < _ ∧ _ < _ ∧ _ < _ ∧ _ < _ ∧ _ < _ ∧ _ < _ ∧ _ < _ ∧ _ < _ ∧ _ < _ ∧ AllLt _ news from by assumption).2.2.2.2.2.2.2.2.2.2.2.2 | exact (show _ < _ ∧ _ < _ ∧ _ < _ ∧ _ < _ ∧ _ < _ ∧ _ < _ ∧ _ < _ ∧ _ < _ ∧ _ < _ ∧ _ < _ ∧ _ < _ ∧ _ < _ ∧ _ < _ ∧ AllLt _ news from by assumption).2.2.2.2.2.2.2.2.2.2.2.2.2) F9' N9' (by unfold pairO; k_mem) (by kcj_all)
      case em21 => unfold sgC; rw [hp]; decide +kernel
      case em22 => unfold foL; rw [hp]; decide +kernel
    · rw [hj] at hp ⊢
      refine PyProof.Rows.item_list (News.isList (by k_asm) (by k_mem)) (by decide) (by decide) (show _ = _ from rfl) ?_
      k_steps
      (rename News _ _ _ _ => N9'); (rename Fr _ _ _ _ => F9')
      refine sign_end hret (show _ = _ from ?em31) (show _ = _ from ?em32) (by first | assumption | exact (show _ < _ ∧ AllLt _ news from by assumption).2 | exact (show _ < _ ∧ _ < _ ∧ AllLt _ news from by assumption).2.2 | exact (show _ < _ ∧ _ < _ ∧ _ < _ ∧ AllLt _ news from by assumption).2.2.2 | exact (show _ < _ ∧ _ < _ ∧ _ < _ ∧ _ < _ ∧ AllLt _ news from by assumption).2.2.2.2 | exact (show _ < _ ∧ _ < _ ∧ _ < _ ∧ _ < _ ∧ _ < _ ∧ AllLt _ news from by assumption).2.2.2.2.2 | exact (show _ < _ ∧ _ < _ ∧ _ < _ ∧ _ < _ ∧ _ < _ ∧ _ < _ ∧ AllLt _ news from by assumption).2.2.2.2.2.2 | exact (show _ < _ ∧ _ < _ ∧ _ < _ ∧ _ < _ ∧ _ < _ ∧ _ < _ ∧ _ < _ ∧ AllLt _ news from by assumption).2.2.2.2.2.2.2 | exact (show _ < _ ∧ _ < _ ∧ _ < _ ∧ _ < _ ∧ _ < _ ∧ _ < _ ∧ _ < _ ∧ _ < _ ∧ AllLt _ news from by assumption).2.2.2.2.2.2.2.2 | exact (show _ < _ ∧ _ < _ ∧ _ < _ ∧ _ < _ ∧ _ < _ ∧ _ < _ ∧ _ < _ ∧ _ < _ ∧ _ < _ ∧ AllLt _ news from by assumption).2.2.2.2.2.2.2.2.2 | exact (show _ < _ ∧ _ < _ ∧ _ < _ ∧ _ < _ ∧ _ < _ ∧ _ < _ ∧ _ < _ ∧ _ < _ ∧ _ < _ ∧ _ < _ ∧ AllLt _ news from by assumption).2.2.2.2.2.2.2.2.2.2 | exact (show _ < _ ∧ _ < _ ∧ _ < _ ∧ _ < _ ∧ _ < _ ∧ _ < _ ∧ _ < _ ∧ _ < _ ∧ _ < _ ∧ _ < _ ∧ _ < _ ∧ AllLt _ news from by assumption).2.2.2.2.2.2.2.2.2.2.2 | exact (show _ < _ ∧ _ < _ ∧ _ < _ ∧ _ < _ ∧ _ < _ ∧ _ < _ ∧ _ < _ ∧ _ < _ ∧ _ < _ ∧ _ < _ ∧ _ < _ ∧ _ < _ ∧ AllLt _ news from by assumption).2.2.2.2.2.2.2.2.2.2.2.2 | exact (show _ < _ ∧ _ < _ ∧ _ < _ ∧ _ < _ ∧ _ < _ ∧ _ < _ ∧ _ < _ ∧ _ < _ ∧ _ < _ ∧ _ < _ ∧ _ < _ ∧ _ < _ ∧ _ < _ ∧ AllLt _ news from by assumption).2.2.2.2.2.2.2.2.2.2.2.2.2) F9' N9' (by unfold pairO; k_mem) (by kcj_all)
      case em31 => unfold sgC; rw [hp]; decide +kernel
      case em32 => unfold foL; rw [hp]; decide +kernel
    · rw [hj] at hp ⊢
      refine PyProof.Rows.item_list (News.isList (by k_asm) (by k_mem)) (by decide) (by decide) (show _ = _ from rfl) ?_
      k_steps
      (rename News _ _ _ _ => N9'); (rename Fr _ _ _ _ => F9')
      refine sign_end hret (show _ = _ from ?em41) (show _ = _ from ?em42) (by first | assumption | exact (show _ < _ ∧ AllLt _ news from by assumption).2 | exact (show _ < _ ∧ _ < _ ∧ AllLt _ news from by assumption).2.2 | exact (show _ < _ ∧ _ < _ ∧ _ < _ ∧ AllLt _ news from by assumption).2.2.2 | exact (show _ < _ ∧ _ < _ ∧ _ < _ ∧ _ < _ ∧ AllLt _ news from by assumption).2.2.2.2 | exact (show _ < _ ∧ _ < _ ∧ _ < _ ∧ _ < _ ∧ _ < _ ∧ AllLt _ news from by assumption).2.2.2.2.2 | exact (show _ < _ ∧ _ < _ ∧ _ < _ ∧ _ < _ ∧ _ < _ ∧ _ < _ ∧ AllLt _ news from by assumption).2.2.2.2.2.2 | exact (show _ < _ ∧ _ < _ ∧ _ < _ ∧ _ < _ ∧ _ < _ ∧ _ < _ ∧ _ < _ ∧ AllLt _ news from by assumption).2.2.2.2.2.2.2 | exact (show _ < _ ∧ _ < _ ∧ _ < _ ∧ _ < _ ∧ _ < _ ∧ _ < _ ∧ _ < _ ∧ _ < _ ∧ AllLt _ news from by assumption).2.2.2.2.2.2.2.2 | exact (show _ < _ ∧ _ < _ ∧ _ < _ ∧ _ < _ ∧ _ < _ ∧ _ < _ ∧ _ < _ ∧ _ < _ ∧ _ < _ ∧ AllLt _ news from by assumption).2.2.2.2.2.2.2.2.2 | exact (show _ < _ ∧ _ < _ ∧ _ < _ ∧ _ < _ ∧ _ < _ ∧ _ < _ ∧ _ < _ ∧ _ < _ ∧ _ < _ ∧ _ < _ ∧ AllLt _ news from by assumption).2.2.2.2.2.2.2.2.2.2 | exact (show _ < _ ∧ _ < _ ∧ _ < _ ∧ _ < _ ∧ _ < _ ∧ _ < _ ∧ _ < _ ∧ _ < _ ∧ _ < _ ∧ _ < _ ∧ _ < _ ∧ AllLt _ news from by assumption).2.2.2.2.2.2.2.2.2.2.2 | exact (show _ < _ ∧ _ < _ ∧ _ < _ ∧ _ < _ ∧ _ < _ ∧ _ < _ ∧ _ < _ ∧ _ < _ ∧ _ < _ ∧ _ < _ ∧ _ < _ ∧ _ < _ ∧ AllLt _ news from by assumption).2.2.2.2.2.2.2.2.2.2.2.2 | exact (show _ < _ ∧ _ < _ ∧ _ < _ ∧ _ < _ ∧ _ < _ ∧ _ < _ ∧ _ < _ ∧ _ < _ ∧ _ < _ ∧ _ < _ ∧ _ < _ ∧ _ < _ ∧ _ < _ ∧ AllLt _ news from by assumption).2.2.2.2.2.2.2.2.2.2.2.2.2) F9' N9' (by unfold pairO; k_mem) (by kcj_all)
      case em41 => unfold sgC; rw [hp]; decide +kernel
      case em42 => unfold foL; rw [hp]; decide +kernel
    · rw [hj] at hp ⊢
      refine PyProof.Rows.item_list (News.isList (by k_asm) (by k_mem)) (by decide) (by decide) (show _ = _ from rfl) ?_
      k_steps
      (rename News _ _ _ _ => N9'); (rename Fr _ _ _ _ => F9')
      refine sign_end hret (show _ = _ from ?em51) (show _ = _ from ?em52) (by first | assumption | exact (show _ < _ ∧ AllLt _ news from by assumption).2 | exact (show _ < _ ∧ _ < _ ∧ AllLt _ news from by assumption).2.2 | exact (show _ < _ ∧ _ < _ ∧ _ < _ ∧ AllLt _ news from by assumption).2.2.2 | exact (show _ < _ ∧ _ < _ ∧ _ < _ ∧ _ < _ ∧ AllLt _ news from by assumption).2.2.2.2 | exact (show _ < _ ∧ _ < _ ∧ _ < _ ∧ _ < _ ∧ _ < _ ∧ AllLt _ news from by assumption).2.2.2.2.2 | exact (show _ < _ ∧ _ < _ ∧ _ < _ ∧ _ < _ ∧ _ < _ ∧ _ < _ ∧ AllLt _ news from by assumption).2.2.2.2.2.2 | exact (show _ < _ ∧ _ < _ ∧ _ < _ ∧ _ < _ ∧ _ < _ ∧ _ < _ ∧ _ < _ ∧ AllLt _ news from by assumption).2.2.2.2.2.2.2 | exact (show _ < _ ∧ _ < _ ∧ _ < _ ∧ _ < _ ∧ _ < _ ∧ _ < _ ∧ _ < _ ∧ _ < _ ∧ AllLt _ news from by assumption).2.2.2.2.2.2.2.2 | exact (show _ < _ ∧ _ < _ ∧ _ < _ ∧ _ < _ ∧ _ < _ ∧ _ < _ ∧ _ < _ ∧ _ < _ ∧ _ < _ ∧ AllLt _ news from by assumption).2.2.2.2.2.2.2.2.2 | exact (show _ < _ ∧ _ < _ ∧ _ < _ ∧ _ < _ ∧ _ < _ ∧ _ < _ ∧ _ < _ ∧ _ < _ ∧ _ < _ ∧ _ < _ ∧ AllLt _ news from by assumption).2.2.2.2.2.2.2.2.2.2 | exact (show _ < _ ∧ _ < _ ∧ _ < _ ∧ _ < _ ∧ _ < _ ∧ _ < _ ∧ _ < _ ∧ _ < _ ∧ _ < _ ∧ _ < _ ∧ _ < _ ∧ AllLt _ news from by assumption).2.2.2.2.2.2.2.2.2.2.2 | exact (show _ < _ ∧ _ < _ ∧ _ < _ ∧ _ < _ ∧ _ < _ ∧ _ < _ ∧ _ < _ ∧ _ < _ ∧ _ < _ ∧ _ < _ ∧ _ < _ ∧ _ < _ ∧ AllLt _ news from by assumption).2.2.2.2.2.2.2.2.2.2.2.2 | exact (show _ < _ ∧ _ < _ ∧ _ < _ ∧ _ < _ ∧ _ < _ ∧ _ < _ ∧ _ < _ ∧ _ < _ ∧ _ < _ ∧ _ < _ ∧ _ < _ ∧ _ < _ ∧ _ < _ ∧ AllLt _ news from by assumption).2.2.2.2.2.2.2.2.2.2.2.2.2) F9' N9' (by unfold pairO; k_mem) (by kcj_all)
      case em51 => unfold sgC; rw [hp]; decide +kernel
      case em52 => unfold foL; rw [hp]; decide +kernel
    · rw [hj] at hp ⊢
      refine PyProof.Rows.item_list (News.isList (by k_asm) (by k_mem)) (by decide) (by decide) (show _ = _ from rfl) ?_
      k_steps
      (rename News _ _ _ _ => N9'); (rename Fr _ _ _ _ => F9')
      refine sign_end hret (show _ = _ from ?em61) (show _ = _ from ?em62) (by first | assumption | exact (show _ < _ ∧ AllLt _ news from by assumption).2 | exact (show _ < _ ∧ _ < _ ∧ AllLt _ news from by assumption).2.2 | exact (show _ < _ ∧ _ < _ ∧ _ < _ ∧ AllLt _ news from by assumption).2.2.2 | exact (show _ < _ ∧ _ < _ ∧ _ < _ ∧ _ < _ ∧ AllLt _ news from by assumption).2.2.2.2 | exact (show _ < _ ∧ _ < _ ∧ _ < _ ∧ _ < _ ∧ _ < _ ∧ AllLt _ news from by assumption).2.2.2.2.2 | exact (show _ < _ ∧ _ < _ ∧ _ < _ ∧ _ < _ ∧ _ < _ ∧ _ < _ ∧ AllLt _ news from by assumption).2.2.2.2.2.2 | exact (show _ < _ ∧ _ < _ ∧ _ < _ ∧ _ < _ ∧ _ < _ ∧ _ < _ ∧ _ < _ ∧ AllLt _ news from by assumption).2.2.2.2.2.2.2 | exact (show _ < _ ∧ _ < _ ∧ _ < _ ∧ _ < _ ∧ _ < _ ∧ _ < _ ∧ _ < _ ∧ _ < _ ∧ AllLt _ news from by assumption).2.2.2.2.2.2.2.2 | exact (show _ < _ ∧ _ < _ ∧ _ < _ ∧ _ < _ ∧ _ < _ ∧ _ < _ ∧ _ < _ ∧ _ < _ ∧ _ < _ ∧ AllLt _ news from by assumption).2.2.2.2.2.2.2.2.2 | exact (show _ < _ ∧ _ < _ ∧ _ < _ ∧ _ < _ ∧ _ < _ ∧ _ < _ ∧ _ < _ ∧ _ < _ ∧ _ < _ ∧ _ < _ ∧ AllLt _ news from by assumption).2.2.2.2.2.2.2.2.2.2 | exact (show _ < _ ∧ _ < _ ∧ _ < _ ∧ _ < _ ∧ _ < _ ∧ _ < _ ∧ _ < _ ∧ _ < _ ∧ _ < _ ∧ _ < _ ∧ _ < _ ∧ AllLt _ news from by assumption).2.2.2.2.2.2.2.2.2.2.2 | exact (show _ < _ ∧ _ < _ ∧ _ < _ ∧ _ < _ ∧ _ < _ ∧ _ < _ ∧ _ < _ ∧ _ < _ ∧ _ < _ ∧ _ < _ ∧ _ < _ ∧ _ < _ ∧ AllLt _ news from by assumption).2.2.2.2.2.2.2.2.2.2.2.2 | exact (show _ < _ ∧ _ < _ ∧ _ < _ ∧ _ < _ ∧ _ < _ ∧ _ < _ ∧ _ < _ ∧ _ < _ ∧ _ < _ ∧ _ < _ ∧ _ < _ ∧ _ < _ ∧ _ < _ ∧ AllLt _ news from by assumption).2.2.2.2.2.2.2.2.2.2.2.2.2) F9' N9' (by unfold pairO; k_mem) (by kcj_all)
      case em61 => unfold sgC; rw [hp]; decide +kernel
      case em62 => unfold foL; rw [hp]; decide +kernel
    · rw [hj] at hp ⊢
      refine PyProof.Rows.item_list (News.isList (by k_asm) (by k_mem)) (by decide) (by decide) (show _ = _ from rfl) ?_
      k_steps
      (rename News _ _ _ _ => N9'); (rename Fr _ _ _ _ => F9')
      refine sign_end hret (show _ = _ from ?em71) (show _ = _ from ?em72) (by first | assumption | exact (show _ < _ ∧ AllLt _ news from by assumption).2 | exact (show _ < _ ∧ _ < _ ∧ AllLt _ news from by assumption).2.2 | exact (show _ < _ ∧ _ < _ ∧ _ < _ ∧ AllLt _ news from by assumption).2.2.2 | exact (show _ < _ ∧ _ < _ ∧ _ < _ ∧ _ < _ ∧ AllLt _ news from by assumption).2.2.2.2 | exact (show _ < _ ∧ _ < _ ∧ _ < _ ∧ _ < _ ∧ _ < _ ∧ AllLt _ news from by assumption).2.2.2.2.2 | exact (show _ < _ ∧ _ < _ ∧ _ < _ ∧ _ < _ ∧ _ < _ ∧ _ < _ ∧ AllLt _ news from by assumption).2.2.2.2.2.2 | exact (show _ < _ ∧ _ < _ ∧ _ < _ ∧ _ < _ ∧ _ < _ ∧ _ < _ ∧ _ < _ ∧ AllLt _ news from by assumption).2.2.2.2.2.2.2 | exact (show _ < _ ∧ _ < _ ∧ _ < _ ∧ _ < _ ∧ _ < _ ∧ _ < _ ∧ _ < _ ∧ _ < _ ∧ AllLt _ news from by assumption).2.2.2.2.2.2.2.2 | exact (show _ < _ ∧ _ < _ ∧ _ < _ ∧ _ < _ ∧ _ < _ ∧ _ < _ ∧ _ < _ ∧ _ < _ ∧ _ < _ ∧ AllLt _ news from by assumption).2.2.2.2.2.2.2.2.2 | exact (show _ < _ ∧ _ < _ ∧ _ < _ ∧ _ < _ ∧ _ < _ ∧ _ < _ ∧ _ < _ ∧ _ < _ ∧ _ < _ ∧ _ < _ ∧ AllLt _ news from by assumption).2.2.2.2.2.2.2.2.2.2 | exact (show _ < _ ∧ _ < _ ∧ _ < _ ∧ _ < _ ∧ _ < _ ∧ _ < _ ∧ _ < _ ∧ _ < _ ∧ _ < _ ∧ _ < _ ∧ _ < _ ∧ AllLt _ news from by assumption).2.2.2.2.2.2.2.2.2.2.2 | exact (show _ < _ ∧ _ < _ ∧ _ < _ ∧ _ < _ ∧ _ < _ ∧ _ < _ ∧ _ < _ ∧ _ < _ ∧ _ < _ ∧ _ < _ ∧ _ < _ ∧ _ < _ ∧ AllLt _ news from by assumption).2.2.2.2.2.2.2.2.2.2.2.2 | exact (show _ < _ ∧ _ < _ ∧ _ < _ ∧ _ < _ ∧ _ < _ ∧ _ < _ ∧ _ < _ ∧ _ < _ ∧ _ < _ ∧ _ < _ ∧ _ < _ ∧ _ < _ ∧ _ < _ ∧ AllLt _ news from by assumption).2.2.2.2.2.2.2.2.2.2.2.2.2) F9' N9' (by unfold pairO; k_mem) (by kcj_all)
      case em71 => unfold sgC; rw [hp]; decide +kernel
      case em72 => unfold foL; rw [hp]; decide +kernel
    · rw [hj] at hp ⊢
      refine PyProof.Rows.item_list (News.isList (by k_asm) (by k_mem)) (by decide) (by decide) (show _ = _ from rfl) ?_
      k_steps
      (rename News _ _ _ _ => N9'); (rename Fr _ _ _ _ => F9')
      refine sign_end hret (show _ = _ from ?em81) (show _ = _ from ?em82) (by first | assumption | exact (show _ < _ ∧ AllLt _ news from by assumption).2 | exact (show _ < _ ∧ _ < _ ∧ AllLt _ news from by assumption).2.2 | exact (show _ < _ ∧ _ < _ ∧ _ < _ ∧ AllLt _ news from by assumption).2.2.2 | exact (show _ < _ ∧ _ < _ ∧ _ < _ ∧ _ < _ ∧ AllLt _ news from by assumption).2.2.2.2 | exact (show _ < _ ∧ _ < _ ∧ _ < _ ∧ _ < _ ∧ _ < _ ∧ AllLt _ news from by assumption).2.2.2.2.2 | exact (show _ < _ ∧ _ < _ ∧ _ < _ ∧ _ < _ ∧ _ < _ ∧ _ < _ ∧ AllLt _ news from by assumption).2.2.2.2.2.2 | exact (show _ < _ ∧ _ < _ ∧ _ < _ ∧ _ < _ ∧ _ < _ ∧ _ < _ ∧ _ < _ ∧ AllLt _ news from by assumption).2.2.2.2.2.2.2 | exact (show _ < _ ∧ _ < _ ∧ _ < _ ∧ _ < _ ∧ _ < _ ∧ _ < _ ∧ _ < _ ∧ _ < _ ∧ AllLt _ news from by assumption).2.2.2.2.2.2.2.2 | exact (show _ < _ ∧ _ < _ ∧ _ < _ ∧ _ < _ ∧ _ < _ ∧ _ < _ ∧ _ < _ ∧ _ < _ ∧ _ < _ ∧ AllLt _ news from by assumption).2.2.2.2.2.2.2.2.2 | exact (show _ < _ ∧ _ < _ ∧ _ < _ ∧ _ < _ ∧ _ < _ ∧ _ < _ ∧ _ < _ ∧ _ < _ ∧ _ < _ ∧ _ < _ ∧ AllLt _ news from by assumption).2.2.2.2.2.2.2.2.2.2 | exact (show _ < _ ∧ _ < _ ∧ _ < _ ∧ _ < _ ∧ _ < _ ∧ _ < _ ∧ _ < _ ∧ _ < _ ∧ _ < _ ∧ _ < _ ∧ _ < _ ∧ AllLt _ news from by assumption).2.2.2.2.2.2.2.2.2.2.2 | exact (show _ < _ ∧ _ < _ ∧ _ < _ ∧ _ < _ ∧ _ < _ ∧ _ < _ ∧ _ < _ ∧ _ < _ ∧ _ < _ ∧ _ < _ ∧ _ < _ ∧ _ < _ ∧ AllLt _ news from by assumption).2.2.2.2.2.2.2.2.2.2.2.2 | exact (show _ < _ ∧ _ < _ ∧ _ < _ ∧ _ < _ ∧ _ < _ ∧ _ < _ ∧ _ < _ ∧ _ < _ ∧ _ < _ ∧ _ < _ ∧ _ < _ ∧ _ < _ ∧ _ < _ ∧ AllLt _ news from by assumption).2.2.2.2.2.2.2.2.2.2.2.2.2) F9' N9' (by unfold pairO; k_mem) (by kcj_all)
      case em81 => unfold sgC; rw [hp]; decide +kernel
      case em82 => unfold foL; rw [hp]; decide +kernel
    · rw [hj] at hp ⊢
      refine PyProof.Rows.item_list (News.isList (by k_asm) (by k_mem)) (by decide) (by decide) (show _ = _ from rfl) ?_
      k_steps
      (rename News _ _ _ _ => N9'); (rename Fr _ _ _ _ => F9')
      refine sign_end hret (show _ = _ from ?em91) (show _ = _ from ?em92) (by first | assumption | exact (show _ < _ ∧ AllLt _ news from by assumption).2 | exact (show _ < _ ∧ _ < _ ∧ AllLt _ news from by assumption).2.2 | exact (show _ < _ ∧ _ < _ ∧ _ < _ ∧ AllLt _ news from by assumption).2.2.2 | exact (show _ < _ ∧ _ < _ ∧ _ < _ ∧ _ < _ ∧ AllLt _ news from by assumption).2.2.2.2 | exact (show _ < _ ∧ _ < _ ∧ _ < _ ∧ _ < _ ∧ _ < _ ∧ AllLt _ news from by assumption).2.2.2.2.2 | exact (show _ < _ ∧ _ < _ ∧ _ < _ ∧ _ < _ ∧ _ < _ ∧ _ < _ ∧ AllLt _ news from by assumption).2.2.2.2.2.2 | exact (show _ < _ ∧ _ < _ ∧ _ < _ ∧ _ < _ ∧ _ < _ ∧ _ < _ ∧ _ < _ ∧ AllLt _ news from by assumption).2.2.2.2.2.2.2 | exact (show _ < _ ∧ _ < _ ∧ _ < _ ∧ _ < _ ∧ _ < _ ∧ _ < _ ∧ _ < _ ∧ _ < _ ∧ AllLt _ news from by assumption).2.2.2.2.2.2.2.2 | exact (show _ < _ ∧ _ < _ ∧ _ < _ ∧ _ < _ ∧ _ < _ ∧ _ < _ ∧ _ < _ ∧ _ < _ ∧ _ < _ ∧ AllLt _ news from by assumption).2.2.2.2.2.2.2.2.2 | exact (show _ < _ ∧ _ < _ ∧ _ < _ ∧ _ < _ ∧ _ < _ ∧ _ < _ ∧ _ < _ ∧ _ < _ ∧ _ < _ ∧ _ < _ ∧ AllLt _ news from by assumption).2.2.2.2.2.2.2.2.2.2 | exact (show _ < _ ∧ _ < _ ∧ _ < _ ∧ _ < _ ∧ _ < _ ∧ _ < _ ∧ _ < _ ∧ _ < _ ∧ _ < _ ∧ _ < _ ∧ _ < _ ∧ AllLt _ news from by assumption).2.2.2.2.2.2.2.2.2.2.2 | exact (show _ < _ ∧ _ < _ ∧ _ < _ ∧ _ < _ ∧ _ < _ ∧ _ < _ ∧ _ < _ ∧ _ < _ ∧ _ < _ ∧ _ < _ ∧ _ < _ ∧ _ < _ ∧ AllLt _ news from by assumption).2.2.2.2.2.2.2.2.2.2.2.2 | exact (show _ < _ ∧ _ < _ ∧ _ < _ ∧ _ < _ ∧ _ < _ ∧ _ < _ ∧ _ < _ ∧ _ < _ ∧ _ < _ ∧ _ < _ ∧ _ < _ ∧ _ < _ ∧ _ < _ ∧ AllLt _ news from by assumption).2.2.2.2.2.2.2.2.2.2.2.2.2) F9' N9' (by unfold pairO; k_mem) (by kcj_all)
      case em91 => unfold sgC; rw [hp]; decide +kernel
      case em92 => unfold foL; rw [hp]; decide +kernel
    · rw [hj] at hp ⊢
      refine PyProof.Rows.item_list (News.isList (by k_asm) (by k_mem)) (by decide) (by decide) (show _ = _ from rfl) ?_
      k_steps
      (rename News _ _ _ _ => N9'); (rename Fr _ _ _ _ => F9')
      refine sign_end hret (show _ = _ from ?em101) (show _ = _ from ?em102) (by first | assumption | exact (show _ < _ ∧ AllLt _ news from by assumption).2 | exact (show _ < _ ∧ _ < _ ∧ AllLt _ news from by assumption).2.2 | exact (show _ < _ ∧ _ < _ ∧ _ < _ ∧ AllLt _ news from by assumption).2.2.2 | exact (show _ < _ ∧ _ < _ ∧ _ < _ ∧ _ < _ ∧ AllLt _ news from by assumption).2.2.2.2 | exact (show _ < _ ∧ _ < _ ∧ _ < _ ∧ _ < _ ∧ _ < _ ∧ AllLt _ news from by assumption).2.2.2.2.2 | exact (show _ < _ ∧ _ < _ ∧ _ < _ ∧ _ < _ ∧ _ < _ ∧ _ < _ ∧ AllLt _ news from by assumption).2.2.2.2.2.2 | exact (show _ < _ ∧ _ < _ ∧ _ < _ ∧ _ < _ ∧ _ < _ ∧ _ < _ ∧ _ < _ ∧ AllLt _ news from by assumption).2.2.2.2.2.2.2 | exact (show _ < _ ∧ _ < _ ∧ _ < _ ∧ _ < _ ∧ _ < _ ∧ _ < _ ∧ _ < _ ∧ _ < _ ∧ AllLt _ news from by assumption).2.2.2.2.2.2.2.2 | exact (show _ < _ ∧ _ < _ ∧ _ < _ ∧ _ < _ ∧ _ < _ ∧ _ < _ ∧ _ < _ ∧ _ < _ ∧ _ < _ ∧ AllLt _ news from by assumption).2.2.2.2.2.2.2.2.2 | exact (show _ < _ ∧ _ < _ ∧ _ < _ ∧ _ < _ ∧ _ < _ ∧ _ < _ ∧ _ < _ ∧ _ < _ ∧ _ < _ ∧ _ < _ ∧ AllLt _ news from by assumption).2.2.2.2.2.2.2.2.2.2 | exact (show _ < _ ∧ _ < _ ∧ _ < _ ∧ _ < _ ∧ _ < _ ∧ _ < _ ∧ _ < _ ∧ _ < _ ∧ _ < _ ∧ _ < _ ∧ _ < _ ∧ AllLt _ news from by assumption).2.2.2.2.2.2.2.2.2.2.2 | exact (show _ < _ ∧ _ < _ ∧ _ < _ ∧ _ < _ ∧ _ < _ ∧ _ < _ ∧ _ < _ ∧ _ < _ ∧ _ < _ ∧ _ < _ ∧ _ < _ ∧ _ < _ ∧ AllLt _ news from by assumption).2.2.2.2.2.2.2.2.2.2.2.2 | exact (show _ < _ ∧ _ < _ ∧ _ < _ ∧ _ < _ ∧ _ < _ ∧ _ < _ ∧ _ < _ ∧ _ < _ ∧ _ < _ ∧ _ < _ ∧ _ < _ ∧ _ < _ ∧ _ < _ ∧ AllLt _ news from by assumption).2.2.2.2.2.2.2.2.2.2.2.2.2) F9' N9' (by unfold pairO; k_mem) (by kcj_all)
      case em101 => unfold sgC; rw [hp]; decide +kernel
      case em102 => unfold foL; rw [hp]; decide +kernel
    · rw [hj] at hp ⊢
      refine PyProof.Rows.item_list (News.isList (by k_asm) (by k_mem)) (by decide) (by decide) (show _ = _ from rfl) ?_
      k_steps
      (rename News _ _ _ _ => N9'); (rename Fr _ _ _ _ => F9')
      refine sign_end hret (show _ = _ from ?em111) (show _ = _ from ?em112) (by first | assumption | exact (show _ < _ ∧ AllLt _ news from by assumption).2 | exact (show _ < _ ∧ _ < _ ∧ AllLt _ news from by assumption).2.2 | exact (show _ < _ ∧ _ < _ ∧ _ < _ ∧ AllLt _ news from by assumption).2.2.2 | exact (show _ < _ ∧ _ < _ ∧ _ < _ ∧ _ < _ ∧ AllLt _ news from by assumption).2.2.2.2 | exact (show _ < _ ∧ _ < _ ∧ _ < _ ∧ _ < _ ∧ _ < _ ∧ AllLt _ news from by assumption).2.2.2.2.2 | exact (show _ < _ ∧ _ < _ ∧ _ < _ ∧ _ < _ ∧ _ < _ ∧ _ < _ ∧ AllLt _ news from by assumption).2.2.2.2.2.2 | exact (show _ < _ ∧ _ < _ ∧ _ < _ ∧ _ < _ ∧ _ < _ ∧ _ < _ ∧ _ < _ ∧ AllLt _ news from by assumption).2.2.2.2.2.2.2 | exact (show _ < _ ∧ _ < _ ∧ _ < _ ∧ _ < _ ∧ _ < _ ∧ _ < _ ∧ _ < _ ∧ _ < _ ∧ AllLt _ news from by assumption).2.2.2.2.2.2.2.2 | exact (show _ < _ ∧ _ < _ ∧ _ < _ ∧ _ < _ ∧ _ < _ ∧ _ < _ ∧ _ < _ ∧ _ < _ ∧ _ < _ ∧ AllLt _ news from by assumption).2.2.2.2.2.2.2.2.2 | exact (show _ < _ ∧ _ < _ ∧ _ < _ ∧ _ < _ ∧ _ < _ ∧ _ < _ ∧ _ < _ ∧ _ < _ ∧ _ < _ ∧ _ < _ ∧ AllLt _ news from by assumption).2.2.2.2.2.2.2.2.2.2 | exact (show _ < _ ∧ _ < _ ∧ _ < _ ∧ _ < _ ∧ _ < _ ∧ _ < _ ∧ _ < _ ∧ _ < _ ∧ _ < _ ∧ _ < _ ∧ _ < _ ∧ AllLt _ news from by assumption).2.2.2.2.2.2.2.2.2.2.2 | exact (show _ < _ ∧ _ < _ ∧ _ < _ ∧ _ < _ ∧ _ < _ ∧ _ < _ ∧ _ < _ ∧ _ < _ ∧ _ < _ ∧ _ < _ ∧ _ < _ ∧ _ < _ ∧ AllLt _ news from by assumption).2.2.2.2.2.2.2.2.2.2.2.2 | exact (show _ < _ ∧ _ < _ ∧ _ < _ ∧ _ < _ ∧ _ < _ ∧ _ < _ ∧ _ < _ ∧ _ < _ ∧ _ < _ ∧ _ < _ ∧ _ < _ ∧ _ < _ ∧ _ < _ ∧ AllLt _ news from by assumption).2.2.2.2.2.2.2.2.2.2.2.2.2) F9' N9' (by unfold pairO; k_mem) (by kcj_all)
      case em111 => unfold sgC; rw [hp]; decide +kernel
      case em112 => unfold foL; rw [hp]; decide +kernel
  · have hp : sgP x = ((65 + (x.fdiv 10).fmod 26).toNat, [(97 + (x.fdiv 10).fmod 26).toNat]) := by unfold sgP; rw [if_neg (by omega)]; rw [if_neg (by omega)]; rw [if_neg (by omega)]; rw [if_neg (by omega)]; rw [if_neg (by omega)]; rw [if_neg (by omega)]
    k_steps
    all_goals try (exfalso; omega)
    · skip
      (rename News _ _ _ _ => N9'); (rename Fr _ _ _ _ => F9')
      refine sign_end hret (show _ = _ from ?ez1) (show _ = _ from ?ez2) (by first | assumption | exact (show _ < _ ∧ AllLt _ news from by assumption).2 | exact (show _ < _ ∧ _ < _ ∧ AllLt _ news from by assumption).2.2 | exact (show _ < _ ∧ _ < _ ∧ _ < _ ∧ AllLt _ news from by assumption).2.2.2 | exact (show _ < _ ∧ _ < _ ∧ _ < _ ∧ _ < _ ∧ AllLt _ news from by assumption).2.2.2.2 | exact (show _ < _ ∧ _ < _ ∧ _ < _ ∧ _ < _ ∧ _ < _ ∧ AllLt _ news from by assumption).2.2.2.2.2 | exact (show _ < _ ∧ _ < _ ∧ _ < _ ∧ _ < _ ∧ _ < _ ∧ _ < _ ∧ AllLt _ news from by assumption).2.2.2.2.2.2 | exact (show _ < _ ∧ _ < _ ∧ _ < _ ∧ _ < _ ∧ _ < _ ∧ _ < _ ∧ _ < _ ∧ AllLt _ news from by assumption).2.2.2.2.2.2.2 | exact (show _ < _ ∧ _ < _ ∧ _ < _ ∧ _ < _ ∧ _ < _ ∧ _ < _ ∧ _ < _ ∧ _ < _ ∧ AllLt _ news from by assumption).2.2.2.2.2.2.2.2 | exact (show _ < _ ∧ _ < _ ∧ _ < _ ∧ _ < _ ∧ _ < _ ∧ _ < _ ∧ _ < _ ∧ _ < _ ∧ _ < _ ∧ AllLt _ news from by assumption).2.2.2.2.2.2.2.2.2 | exact (show _ < _ ∧ _ < _ ∧ _ < _ ∧ _ < _ ∧ _ < _ ∧ _ < _ ∧ _ < _ ∧ _ < _ ∧ _ < _ ∧ _ < _ ∧ AllLt _ news from by assumption).2.2.2.2.2.2.2.2.2.2 | exact (show _ < _ ∧ _ < _ ∧ _ < _ ∧ _ < _ ∧ _ < _ ∧ _ < _ ∧ _ < _ ∧ _ < _ ∧ _ < _ ∧ _ < _ ∧ _ < _ ∧ AllLt _ news from by assumption).2.2.2.2.2.2.2.2.2.2.2 | exact (show _ < _ ∧ _ < _ ∧ _ < _ ∧ _ < _ ∧ _ < _ ∧ _ < _ ∧ _ < _ ∧ _ < _ ∧ _ < _ ∧ _ < _ ∧ _ < _ ∧ _ < _ ∧ AllLt _ news from by assumption).2.2.2.2.2.2.2.2.2.2.2.2 | exact (show _ < _ ∧ _ < _ ∧ _ < _ ∧ _ < _ ∧ _ < _ ∧ _ < _ ∧ _ < _ ∧ _ < _ ∧ _ < _ ∧ _ < _ ∧ _ < _ ∧ _ < _ ∧ _ < _ ∧ AllLt _ news from by assumption).2.2.2.2.2.2.2.2.2.2.2.2.2) F9' N9' (by unfold pairO; k_mem) (by kcj_all)
      case ez1 => unfold sgC; rw [hp]; rfl
      case ez2 => unfold foL; rw [hp]; rfl
end
end Hd
end
end
section
open PySem PySem.W PySem.Calls PyProof.Rows PySem.Spec PyProof.V
set_option maxRecDepth 100000
set_option maxHeartbeats 4000000
noncomputable section
namespace Hd
section
variable {prog : Program} {w : World} {A : Around} {E : Value → Shared → Prop} {s : Shared} {env : Env} {h₀ : Heap} {x : PySem.Str} {body : List Stmt} {Q : Flow → Shared → Prop}
noncomputable def EndA (h₀ : Heap) (L : Addr) (J : (PySem.Str → Option Value) → List (Addr × Obj) → Prop) (I : Addr) (o : Obj) (s₁ s₂ : Shared) : Prop :=
  ∃ h' tk m' nx, s₂ = { s₁ with heap := h', toks := tk } ∧ Fr h₀ L h' m' ∧ News h₀ L h' (nx ++ [(I, o)]) ∧ (∀ p ∈ nx, p.1 ≠ I) ∧ J m' nx
noncomputable def PostA (h₀ : Heap) (L : Addr) (J : (PySem.Str → Option Value) → List (Addr × Obj) → Prop) (I : Addr) (o : Obj) (s₁ : Shared) (Q : Flow → Shared → Prop) (f : Flow) (s₂ : Shared) : Prop :=
  match f with
  | .ret v => Q (.ret v) s₂
  | .brk => Q .next s₂
  | _ => EndA h₀ L J I o s₁ s₂
theorem loopA {I : Addr} {n : Nat} {P : Nat → Value → Prop} {St : Nat → Heap → Prop} {m₀ : PySem.Str → Option Value} {news : List (Addr × Obj)} (J : Nat → (PySem.Str → Option Value) → List (Addr × Obj) → Prop)
    (W : Walks prog w A I [I] [I] n P St) (hSt : ∀ i h, St i h → ∃ o, h.get? I = some o) (hLf : env.locals ≠ I) (hwr : h₀.get? I = none) (hnw : ∀ p ∈ news, p.1 ≠ I) (hst : St 0 s.heap) (F : Fr h₀ env.locals s.heap m₀) (N : News h₀ env.locals s.heap news) (hj : J 0 m₀ news)
    (turn : ∀ i v m₁ nx h tk o, i < n → P i v → (∀ p ∈ nx, p.1 ≠ I) → J i m₁ nx → Fr h₀ env.locals h (fun y => if y = x then some v else m₁ y) → News h₀ env.locals h (nx ++ [(I, o)]) →
      wpAny (model prog w) A (execs body env) (PostA h₀ env.locals (J (i + 1)) I o { s with heap := h, toks := tk } Q) E { s with heap := h, toks := tk })
    (done : ∀ m₁ nx h tk, J n m₁ nx → Fr h₀ env.locals h m₁ → News h₀ env.locals h nx → Q .next { s with heap := h, toks := tk }) :
    LoopAtV prog w A h₀ env x body Q E (.ref I) s := by
  refine ⟨I, [I], [I], n, P, St, m₀, news, J, rfl, W, by simpa using hLf, by simpa using hwr, by simpa using hnw, hst, F, N, hj, ?_, ?_⟩
  · rintro i v m₁ news₁ s₁ own ⟨hh', tk', rfl⟩ hin hP hJ hnw₁ hof hog hin' hst₁ F₁ N₁
    obtain ⟨o, ho⟩ := hSt _ _ hst₁
    have hmem : (I, o) ∈ own := hin' I (List.mem_singleton.mpr rfl) hwr o ho
    have hall : ∀ p ∈ own, p = (I, o) := by
      intro p hp
      have e1 : p.1 = I := List.mem_singleton.mp (hof p hp)
      have e2 := hog p hp
      rw [e1] at e2
      have e3 : p.2 = o := Option.some.inj (e2.symm.trans ho)
      exact Prod.ext e1 e3
    have N₂ : News h₀ env.locals hh' (news₁ ++ [(I, o)]) := fun p hp => N₁ p ((List.mem_append.mp hp).elim (fun h => List.mem_append.mpr (.inr h)) fun h => List.mem_append.mpr (.inl (by rw [List.mem_singleton.mp h]; exact hmem)))
    refine wpAny_mono (turn i v m₁ news₁ hh' tk' o hin hP (fun p hp => by simpa using hnw₁ p hp) hJ F₁ N₂) (fun f s₂ p => ?_) fun _ _ e => e
    have fin : EndA h₀ env.locals (J (i + 1)) I o { s with heap := hh', toks := tk' } s₂ → LoopStepU h₀ env.locals [I] own (J (i + 1)) { s with heap := hh', toks := tk' } .next s₂ := by
      rintro ⟨h', tk, m', nx, e, F', N', hI, hJ'⟩
      refine ⟨rfl, h', tk, m', nx, e, F', fun p hp => ?_, fun p hp => by simpa using hI p hp, hJ'⟩
      rcases List.mem_append.mp hp with hp | hp
      · exact N' p (List.mem_append.mpr (.inr (by rw [hall p hp]; exact List.mem_singleton.mpr rfl)))
      · exact N' p (List.mem_append.mpr (.inl hp))
    cases f with
    | ret v => exact .ret p
    | brk => exact .brk p
    | next => exact .next (fin p)
    | cont => exact .cont (fin p)
  · rintro h' tk m' news' F' N' _ hJ
    exact done m' news' h' tk hJ F' N'
theorem iter_strA {xt : PySem.Str} {t : Tok} {m₀ : PySem.Str → Option Value} {news : List (Addr × Obj)} (J : Nat → (PySem.Str → Option Value) → List (Addr × Obj) → Prop)
    (hh : A.handled = none) (F : Fr h₀ env.locals s.heap m₀) (N : News h₀ env.locals s.heap news) (hj : J 0 m₀ news)
    (turn : ∀ i (c : Nat) u m₁ nx h tk I o, xt.cps[i]? = some c → (∀ p ∈ nx, p.1 ≠ I) → J i m₁ nx → Fr h₀ env.locals h (fun y => if y = x then some (.str ⟨#[c]⟩ u) else m₁ y) → News h₀ env.locals h (nx ++ [(I, o)]) →
      wpAny (model prog w) A (execs body env) (PostA h₀ env.locals (J (i + 1)) I o { s with heap := h, toks := tk } Q) E { s with heap := h, toks := tk })
    (done : ∀ m₁ nx h tk, J xt.cps.size m₁ nx → Fr h₀ env.locals h m₁ → News h₀ env.locals h nx → Q .next { s with heap := h, toks := tk }) :
    wpAny (model prog w) A (pyIter (.str xt t)) (fun it s₂ => LoopAtV prog w A h₀ env x body Q E it s₂) E s := by
  have key : ∀ (o : Obj) (St : Nat → Heap → Prop), Walks prog w A s.heap.objs.size [s.heap.objs.size] [s.heap.objs.size] xt.cps.size (SignAt xt) St → (∀ i h, St i h → ∃ o, h.get? s.heap.objs.size = some o) → St 0 (s.heap.push o) →
      LoopAtV prog w A h₀ env x body Q E (.ref s.heap.objs.size) { s with heap := s.heap.push o } := by
    intro o St W hSt hst
    refine loopA J W hSt ?_ (next_is_new F) ?_ hst (F.push _) (fun p hp => ⟨Heap.get?_push_of_some _ (N p hp).1, (N p hp).2⟩) hj ?_ done
    · intro e
      exact absurd F.ns.lt (e ▸ Nat.lt_irrefl _)
    · intro p hp hI
      exact absurd (Heap.lt_size (N p hp).1) (hI ▸ Nat.lt_irrefl _)
    · rintro i v m₁ nx h tk o' hi ⟨c, u, hc, rfl⟩ hI hJ F₁ N₁
      exact turn i c u m₁ nx h tk _ o' hc hI hJ F₁ N₁
  cases ha : xt.cps.all (· < 128)
  · exact wpAny_pyIter_wide ha (key _ _ (Walks.strWide hh _ xt t) (fun i h ⟨o, ho, _⟩ => ⟨o, ho⟩) ⟨_, Heap.get?_push_size _ rfl, rfl, rfl⟩)
  · exact wpAny_pyIter_ascii ha (key _ _ (Walks.strAscii hh _ xt t) (fun i h ⟨o, ho, _⟩ => ⟨o, ho⟩) ⟨_, Heap.get?_push_size _ rfl, rfl, rfl⟩)
end
end Hd
end
end
section
open PySem PySem.W PySem.Calls PyProof.Rows
set_option maxRecDepth 100000
set_option maxHeartbeats 4000000
noncomputable section
namespace Hd
noncomputable def bump (ks : List Int) (b : Nat) : List Int := (ks ++ List.replicate (b + 1 - ks.length) 0).set b ((ks ++ List.replicate (b + 1 - ks.length) 0).getD b 0 + 1)
structure WSt where
  ks : List Int
  b : Nat
  n : Nat
  nt : Nat
noncomputable def wsStep (σ : WSt) (c : Nat) : WSt := if c = 9 then ⟨bump σ.ks σ.b, 0, σ.n + 1, σ.nt + 1⟩ else ⟨σ.ks, σ.b + 1, σ.n + 1, σ.nt⟩
noncomputable def wsRun (l : List Nat) : WSt := l.foldl wsStep ⟨[], 0, 0, 0⟩
theorem wsRun_snoc (l : List Nat) (c : Nat) : wsRun (l ++ [c]) = wsStep (wsRun l) c := by simp [wsRun]
theorem bump_len (ks : List Int) (b : Nat) : (bump ks b).length = max ks.length (b + 1) := by
  simp [bump]; omega
theorem wsRun_bd (l : List Nat) : (wsRun l).n = l.length ∧ (wsRun l).b ≤ l.length ∧ (wsRun l).nt ≤ l.length ∧ (wsRun l).ks.length ≤ l.length := by
  have key : ∀ (r : List Nat) (σ : WSt) (k : Nat), σ.n = k ∧ σ.b ≤ k ∧ σ.nt ≤ k ∧ σ.ks.length ≤ k → (r.foldl wsStep σ).n = k + r.length ∧ (r.foldl wsStep σ).b ≤ k + r.length ∧ (r.foldl wsStep σ).nt ≤ k + r.length ∧ (r.foldl wsStep σ).ks.length ≤ k + r.length := by
    intro r
    induction r with
    | nil => intro σ k h; simpa using h
    | cons c r ih =>
      intro σ k h
      have := ih (wsStep σ c) (k + 1) (by
        unfold wsStep
        split
        · have := bump_len σ.ks σ.b
          refine ⟨?_, ?_, ?_, ?_⟩ <;> simp only <;> omega
        · refine ⟨?_, ?_, ?_, ?_⟩ <;> simp only <;> omega)
      simpa [Nat.add_assoc, Nat.add_comm 1] using this
  have := key l ⟨[], 0, 0, 0⟩ 0 (by simp)
  simpa [wsRun] using this
noncomputable def sCh : PySem.Str := PySem.Str.ofString "ch"
noncomputable def sCo : PySem.Str := PySem.Str.ofString "count"
noncomputable def sB : PySem.Str := PySem.Str.ofString "b"
noncomputable def sN : PySem.Str := PySem.Str.ofString "n"
noncomputable def sNt : PySem.Str := PySem.Str.ofString "nt"
noncomputable def wsMap (f : PySem.Str → Option Value) (ch : Option Value) (ca : Addr) (b n nt : Int) (tb tn tt : Tok) (y : PySem.Str) : Option Value :=
  if y = sCh then ch else if y = sCo then some (.ref ca) else if y = sB then some (.int b tb) else if y = sN then some (.int n tn) else if y = sNt then some (.int nt tt) else f y
noncomputable def WsJ (f : PySem.Str → Option Value) (R : List (Addr × Obj)) (l : List Nat) (i : Nat) (m : PySem.Str → Option Value) (nx : List (Addr × Obj)) : Prop :=
  ∃ ch ca vs tb tn tt, nx = (ca, W.listOf (List.toArray vs) 0) :: R ∧ (∀ p ∈ R, p.1 ≠ ca) ∧ IntsAre vs (wsRun (l.take i)).ks ∧ m = wsMap f ch ca (wsRun (l.take i)).b (wsRun (l.take i)).n (wsRun (l.take i)).nt tb tn tt
theorem wsMap_ch (f : PySem.Str → Option Value) (ch : Option Value) (ca : Addr) (b n nt : Int) (tb tn tt : Tok) (v : Value) : (fun y => if y = PySem.Str.ofString "ch" then some v else wsMap f ch ca b n nt tb tn tt y) = wsMap f (some v) ca b n nt tb tn tt := by
  funext y
  unfold wsMap sCh
  by_cases h : y = PySem.Str.ofString "ch" <;> simp [h]
end Hd
end
end
section
open PySem PySem.W PySem.Calls PyProof.Rows
set_option maxRecDepth 100000
set_option maxHeartbeats 4000000
noncomputable section
namespace Hd
theorem foldl_rep (c : Nat) : ∀ (k : Nat) (acc : Array Nat), (List.replicate k (#[c] : Array Nat)).foldl (· ++ ·) acc = acc ++ (List.replicate k c).toArray
  | 0, acc => by simp
  | k + 1, acc => by
    rw [List.replicate_succ, List.foldl_cons, foldl_rep c k, List.replicate_succ]
    apply Array.toList_inj.mp
    simp
theorem mul_tx (c : Nat) (j : Int) : Txt.mul (tx [c]) j = tx (List.replicate j.toNat c) := by
  unfold Txt.mul
  by_cases h : j < 1
  · rw [if_pos h]
    have e : j.toNat = 0 := by omega
    rw [e]; rfl
  · rw [if_neg h]
    by_cases h1 : j = 1
    · subst h1; rfl
    · have hf : (j == 1 || (tx [c]).length == 0) = false := by
        rw [tx_len]; simp [h1]
      rw [hf]
      simp only [Bool.false_eq_true, if_false]
      refine PySem.Str.ext' ?_
      show List.foldl (· ++ ·) #[] (List.replicate j.toNat ((tx [c]).cps)) = _
      have : (tx [c]).cps = #[c] := rfl
      rw [this, foldl_rep]
      simp [tx]
theorem sp_tx : PySem.Str.ofString " " = tx [32] := by decide +kernel
theorem tab_tx : PySem.Str.ofString "\t" = tx [9] := by decide +kernel
theorem join_tx0 : ∀ l : List (List Nat), PySem.Str.join (PySem.Str.ofString "") (l.map tx) = tx l.flatten
  | [] => by rfl
  | [x] => by
    show tx x = _
    simp
  | x :: y :: r => by
    have e : PySem.Str.join (PySem.Str.ofString "") ((x :: y :: r).map tx) = tx x ++ PySem.Str.ofString "" ++ PySem.Str.join (PySem.Str.ofString "") ((y :: r).map tx) := rfl
    have e0 : PySem.Str.ofString "" = tx [] := by decide +kernel
    rw [e, join_tx0 (y :: r), e0, tx_app, tx_app]
    simp
theorem join_tx (l : List (List Nat)) : Txt.join (PySem.Str.ofString "") (l.map tx) = tx l.flatten := by
  exact (StrLaws.glued_eq_join _ _).trans (join_tx0 l)
section
variable {prog : Program} {w : World} {A : Around} {E : Value → Shared → Prop} {s : Shared} {t u : Tok} {Q : Value → Shared → Prop} {x y : PySem.Str} {c : Nat} {j : Int} {a b : List Nat}
theorem mul_one (e : x = tx [c]) (h0 : -1000000 ≤ j) (h1 : j ≤ 1000000) (h : ∀ t' k, Q (.str (tx (List.replicate j.toNat c)) t') { s with toks := k }) : wpAny (model prog w) A (binaryOp .Mult (.str x t) (.int j u)) Q E s := by
  subst e
  refine SB.mul (mulOk_of 16 1048576 (by rw [tx_len]; simp) (by omega) (by omega) (by decide) (by decide)) fun t' k => ?_
  rw [mul_tx]; exact h t' k
theorem add_tx (e1 : x = tx a) (e2 : y = tx b) (h1 : a.length ≤ 1000000) (h2 : b.length ≤ 1000000) (h : ∀ t' k, Q (.str (tx (a ++ b)) t') { s with toks := k }) : wpAny (model prog w) A (binaryOp .Add (.str x t) (.str y u)) Q E s := by
  subst e1 e2
  refine SB.add (fun t' k => ?_) (by rw [tx_len, tx_len, sizeLine_eq]; omega)
  rw [tx_app]; exact h t' k
theorem sum_len : ∀ (l : List (List Nat)) (B : Nat), (∀ x ∈ l, x.length ≤ B) → ((l.map tx).map (·.length)).sum ≤ l.length * B
  | [], B, h => by simp
  | x :: r, B, h => by
    have ih := sum_len r B fun y hy => h y (.tail _ hy)
    have hx := h x (.head _)
    simp only [List.map_cons, List.sum_cons, List.length_cons, tx_len]
    rw [Nat.succ_mul]; omega
theorem join_K {D : Addr} {items : Array Value} {l : List (List Nat)} {B : Nat} (hl : s.heap.IsList D items) (hi : StrsAre items.toList (l.map tx)) (hB : ∀ x ∈ l, x.length ≤ B) (hb : l.length * B + l.length ≤ 1048576) (e : x = PySem.Str.ofString "")
    (h : ∀ t' k, Q (.str (tx l.flatten) t') { s with toks := k }) : wpAny (model prog w) A (call (.builtin "str.join") [.str x t, .ref D]) Q E s := by
  subst e
  refine join_listW hl hi (by decide) (by have := sum_len l B hB; rw [List.length_map]; omega) fun t' k => ?_
  rw [join_tx]; exact h t' k
end
noncomputable def TsEl (news : List (Addr × Obj)) (r : List Nat) (y : Value) (news' : List (Addr × Obj)) : Prop := news' = news ∧ ∃ t : Tok, y = .str (tx r) t
section
variable {prog : Program} {w : World} {A : Around} {h₀ : Heap} {L : Addr} {m : PySem.Str → Option Value} {env : Env} {elt : PySem.Expr} {x : PySem.Str} {scope : Scope} {cl : List (PySem.Str × Addr)} {s : Shared} {S : List (Addr × Obj) → Prop} {P : Nat → Value → Prop} {Fin : List Value → List (Addr × Obj) → Prop} {news : List (Addr × Obj)}
theorem strs_back {α : Type} {f : α → PySem.Str} : ∀ {ys : List Value} {l : List α}, CarriedAll ys (l.map fun a => PyData.str (f a)) → StrsAre ys (l.map f)
  | _, [], .nil => .nil
  | _, _ :: _, .cons (.str _ t) r => .cons _ t (strs_back r)
theorem ts_range {n : Nat} {a : Int} (g : Int → List Nat)
    (turn : ∀ k t I oI C oC D m₂ ys h tk (E' : Value → Shared → Prop), a ≤ k → k < a + (n : Int) → LCg.NsObj oC m₂ → m₂ x = some (.int k t) → Fr h₀ L h m → News h₀ L h ((I, oI) :: (C, oC) :: (D, LCg.lst ys) :: news) → LCg.Off3 I C D news → ((@Ne Nat I C) ∧ (@Ne Nat I D) ∧ (@Ne Nat C D)) →
      wpAny (model prog w) A (eval elt (compEnvC scope cl C env)) (LCg.CompEnd h₀ L m { s with heap := h, toks := tk } I oI C oC D (LCg.lst ys) S (fun y news' => TsEl news (g k) y news')) E' { s with heap := h, toks := tk })
    (fin : ∀ ys, StrsAre ys (((rangeKs a n).map g).map tx) → Fin ys news) : LCg.CompRest prog w A h₀ L m env elt x scope cl s S (fun i v => ∃ t, v = .int (a + (i : Int)) t) Fin n 0 [] news :=
  kct_range (fun k => tx (g k)) (fun k t I oI C oC D m₂ ys h tk E' h1 h2 hC hx F N off ne _ => turn k t I oI C oC D m₂ ys h tk E' h1 h2 hC hx F N off ne)
    fun ys hy _ => fin ys (by rw [List.map_map]; exact strs_back hy)
end
end Hd
end
end
section
open PySem PySem.W PySem.Calls PyProof.Rows PyProof.Rows.LCg PyProof.Rows.LCt
set_option maxRecDepth 100000
set_option maxHeartbeats 4000000
noncomputable section
namespace Hd
section
variable {prog : Program} {w : World} {A : Around} {h₀ : Heap} {L : Addr} {m : PySem.Str → Option Value} {env : Env} {ct elt : PySem.Expr} {x : PySem.Str} {scope : Scope} {cl : List (PySem.Str × Addr)} {s : Shared} {S : List (Addr × Obj) → Prop} {Fin : List Value → List (Addr × Obj) → Prop} {news : List (Addr × Obj)}
theorem end_imp {I C D : Addr} {oI oC oD : Obj} {R R' : Value → List (Addr × Obj) → Prop} {s₁ s₂ : Shared} {y : Value} (e : CompEnd h₀ L m s₁ I oI C oC D oD S R y s₂) (k : ∀ nw, R y nw → R' y nw) : CompEnd h₀ L m s₁ I oI C oC D oD S R' y s₂ :=
  let ⟨g, tk, nw, e1, F, N, o, hS, r⟩ := e; ⟨g, tk, nw, e1, F, N, o, hS, k nw r⟩
-- the turns of a comprehension with a test, over a list of things that are laid as values by `val`
theorem restT {α : Type} {P : Nat → Value → Prop} (l : List α) (val : α → Tok → Value) (p : α → Bool) (f : α → PySem.Str) (hP : ∀ i v, i < l.length → P i v → ∃ a u, l[i]? = some a ∧ v = val a u)
    (turn : ∀ a u I oI C oC D m₂ ys h tk (E' : Value → Shared → Prop), a ∈ l → NsObj oC m₂ → m₂ x = some (val a u) → Fr h₀ L h m → News h₀ L h ((I, oI) :: (C, oC) :: (D, lst ys) :: news) → Off3 I C D news → ((@Ne Nat I C) ∧ (@Ne Nat I D) ∧ (@Ne Nat C D)) →
      wpAny (model prog w) A (isTrue ct (compEnvC scope cl C env) (eval ct (compEnvC scope cl C env))) (fun ok s' => if ok = true then
        wpAny (model prog w) A (eval elt (compEnvC scope cl C env)) (CompEnd h₀ L m { s with heap := h, toks := tk } I oI C oC D (lst ys) S (fun y nw => nw = news ∧ p a = true ∧ ∃ t : Tok, y = .str (f a) t)) E' s'
        else CompEnd h₀ L m { s with heap := h, toks := tk } I oI C oC D (lst ys) S (fun _ nw => nw = news ∧ p a = false) Value.none s') E' { s with heap := h, toks := tk })
    (fin : ∀ ys, StrsAre ys ((l.filter p).map f) → Fin ys news) : CompRestT prog w A h₀ L m env ct elt x scope cl s S P Fin l.length 0 [] news := by
  suffices H : ∀ (r q : List α), q ++ r = l → ∀ ys, StrsAre ys ((q.filter p).map f) → CompRestT prog w A h₀ L m env ct elt x scope cl s S P Fin r.length q.length ys news from H l [] rfl [] .nil
  intro r
  induction r with
  | nil => intro q e ys hy; exact CompRestT.zero (fin ys (by rw [← e, List.append_nil]; exact hy))
  | cons b r ih =>
    intro q e ys hy
    have more : ∀ ys', StrsAre ys' (((q ++ [b]).filter p).map f) → CompRestT prog w A h₀ L m env ct elt x scope cl s S P Fin r.length (q.length + 1) ys' news := fun ys' hy' => by
      have z := ih (q ++ [b]) (by rw [List.append_assoc]; exact e) ys' hy'
      rwa [List.length_append] at z
    rw [List.filter_append, List.map_append] at more
    refine CompRestT.succ fun v I oI C oC D m₂ h tk E' hv hC hx F N off ne => ?_
    obtain ⟨a, u, ha, rfl⟩ := hP _ v (by rw [← e]; simp) hv
    obtain rfl : b = a := by simpa [← e] using ha
    refine wpAny_mono (turn b u I oI C oC D m₂ ys h tk E' (by rw [← e]; simp) hC hx F N off ne) (fun ok s₂ z => ?_) fun _ _ e => e
    cases ok with
    | false =>
      rw [if_neg Bool.false_ne_true] at z ⊢
      refine end_imp z ?_
      rintro _ ⟨rfl, hp⟩
      exact more ys (by simpa [hp] using hy)
    | true =>
      rw [if_pos rfl] at z ⊢
      refine wpAny_mono z (fun y s₃ z => end_imp z ?_) fun _ _ e => e
      rintro _ ⟨rfl, hp, t, rfl⟩
      exact more _ (by simpa [hp] using kct_snoc hy)
theorem tsT_rest (l : List Nat) (p : Nat → Bool) (f : Nat → PySem.Str)
    (turn : ∀ c u I oI C oC D m₂ ys h tk (E' : Value → Shared → Prop), c ∈ l → NsObj oC m₂ → m₂ x = some (.str ⟨#[c]⟩ u) → Fr h₀ L h m → News h₀ L h ((I, oI) :: (C, oC) :: (D, lst ys) :: news) → Off3 I C D news → ((@Ne Nat I C) ∧ (@Ne Nat I D) ∧ (@Ne Nat C D)) →
      wpAny (model prog w) A (isTrue ct (compEnvC scope cl C env) (eval ct (compEnvC scope cl C env))) (fun ok s' => if ok = true then
        wpAny (model prog w) A (eval elt (compEnvC scope cl C env)) (CompEnd h₀ L m { s with heap := h, toks := tk } I oI C oC D (lst ys) S (fun y news' => news' = news ∧ p c = true ∧ ∃ t : Tok, y = .str (f c) t)) E' s'
        else CompEnd h₀ L m { s with heap := h, toks := tk } I oI C oC D (lst ys) S (fun _ news' => news' = news ∧ p c = false) Value.none s') E' { s with heap := h, toks := tk })
    (fin : ∀ ys, StrsAre ys ((l.filter p).map f) → Fin ys news) : CompRestT prog w A h₀ L m env ct elt x scope cl s S (SignAt (tx l)) Fin (tx l).cps.size 0 [] news := by
  have z := restT (prog := prog) (w := w) (A := A) (h₀ := h₀) (L := L) (m := m) (env := env) (ct := ct) (elt := elt) (x := x) (scope := scope) (cl := cl) (s := s) (S := S) (Fin := Fin) (news := news) (P := SignAt (tx l)) l (fun c u => .str ⟨#[c]⟩ u) p f
    (fun i v _ hv => by obtain ⟨c, u, hc, e⟩ := hv; exact ⟨c, u, by simpa [tx] using hc, e⟩) turn fin
  rwa [show l.length = (tx l).cps.size by simp [tx]] at z
end
section
variable {prog : Program} {w : World} {A : Around} {E : Value → Shared → Prop} {s : Shared} {h₀ : Heap} {L : Addr} {m : PySem.Str → Option Value} {env : Env}
theorem ListComp_SH {ct elt iter : PySem.Expr} {x : PySem.Str} {px : Pos} {scope : Scope} {cl : List (PySem.Str × Addr)} {pos : Pos} {Q : Value → Shared → Prop} (F₀ : Fr h₀ L s.heap m)
    (hclos : closureFor scope env = pure cl) (hcell : ∀ y ∈ scope.names, y.2 ≠ .cell) (hkind : scope.kind = .function)
    (hnames : ∀ y ∈ scope.names, y.2 = .local → scope.names.lookup y.1 = some .local) (hx : scope.names.lookup x = some .local)
    (h : wpAny (model prog w) A (eval iter env) (fun xv s₁ => Hold (∃ y t news, xv = .str y t ∧ A.handled = none ∧ Fr h₀ L s₁.heap m ∧ News h₀ L s₁.heap news ∧ y.cps.size ≤ sizeLine ∧
      ∀ s₂ : Shared, (∃ h, s₂ = { s₁ with heap := h }) → CompRestT prog w A h₀ L m env ct elt x scope cl s₂ (fun _ => True) (SignAt y) (FinE h₀ L m s₂ Q) y.cps.size 0 [] news)) E s)
    (hs : ∀ x, foldedSetIterable iter env x = pure x := by intro _; rfl) :
    wpAny (model prog w) A (eval (.ListComp elt [⟨.Name x px, iter, [ct], 0⟩] scope pos) env) Q E s :=
  ListComp_S F₀ hclos hcell hkind hnames hx h hs
end
end Hd
end
end
section
open PySem PySem.W PySem.Calls PyProof.Rows PyProof.Rows.LCg PyProof.Rows.LCt
set_option maxRecDepth 100000
set_option maxHeartbeats 8000000
noncomputable section
namespace Hd
local macro_rules | `(tactic| walk_at "idle 0") => `(tactic| skip)
theorem filledPr : rw' = PySem.Challenge.rw_tr0065_03 ∧ K = K := by
  k_fill
  w_top off
  exact ⟨rfl, rfl⟩
noncomputable def m3 (c : Nat) : List Nat := ((b3Find c).getD (Txt.lower ⟨#[c]⟩)).cps.toList
theorem m3_tx (c : Nat) : (b3Find c).getD (Txt.lower ⟨#[c]⟩) = tx (m3 c) := by
  unfold m3 tx
  refine PySem.Str.ext' ?_
  simp
noncomputable def nb1 (d : Nat) : Bool := !b1 (d : Int)
noncomputable def prep (l : List Nat) : List Nat := ((l.filter nb1).map m3).flatten
section
variable {prog : Program} {w : World} {A : Around} {E : Value → Shared → Prop} {s : Shared}
theorem join_E {D : Addr} {items : Array Value} {l : List (List Nat)} {r : List Nat} {x : PySem.Str} {t : Tok} {Q : Value → Shared → Prop} (hr : l.flatten = r) (hl : s.heap.IsList D items) (hi : StrsAre items.toList (l.map tx)) (hB : ∀ x ∈ l, x.length ≤ 100) (hb : l.length * 100 + l.length ≤ 1048576) (e : x = PySem.Str.ofString "")
    (h : ∀ t' k, Q (.str (tx r) t') { s with toks := k }) : wpAny (model prog w) A (call (.builtin "str.join") [.str x t, .ref D]) Q E s := by
  subst hr
  exact join_K hl hi hB hb e h
end
section
variable {w : World} {mean : ExcName → Option Value} {mg mb : PySem.Str → Option Value}
theorem spec_prep (l : List Nat) (t : Tok) (hl : l.length ≤ 1000) (hm : ∀ c ∈ l, (m3 c).length ≤ 100) : Spec w mean mg mb 4 216 [.str (tx l) t] (fun v => ∃ tk, v = .str (tx (prep l)) tk) := by
  k_with_none
  k_with "call ref" => (k_here; (with_reducible show wpAny _ _ (call (Value.ref 71) [Value.str _ _]) _ _ _); k_dflt (refine' Spec.use (spec_b1 _ _) (by k_asm) (by k_asm) (by k_asm) (by k_asm) (by k_asm) (by first | exact rfl | assumption) (by ktr_room) (by ktr_units) ?_); intro v9qz h9qz tk9qz R9qz F9qz N9qz; replace R9qz : v9qz = _ := R9qz; subst R9qz; (try dsimp only))
  k_with "call ref" => (k_here; (with_reducible show wpAny _ _ (call (Value.ref 117) [Value.str _ _]) _ _ _); k_dflt (refine' Spec.use (spec_b3 _ _) (by k_asm) (by k_asm) (by k_asm) (by k_asm) (by k_asm) (by first | exact rfl | assumption) (by ktr_room) (by ktr_units) ?_); intro v9qz h9qz tk9qz R9qz F9qz N9qz; obtain ⟨t9qz, R9qz⟩ := R9qz; subst R9qz; (try dsimp only))
  k_with "eval ListComp" => refine hold ?_
  k_with "call builtin:str.join" => (k_here; k_dflt (refine' join_E (by assumption) (News.isList (by k_asm) (by k_mem)) (by assumption) (by assumption) (by assumption) rfl ?_); intro _ _)
  intro news dp un gd cn cs a ccd cl outer A₀ base h₀ L m s Q E B F X N T hk hd hu hret
  refine wpAny_call ?_
  k_dflt cell_enter
  conv in (fBody (st 17)) => whnf
  k_steps
  unfold Hold
  k_dflt (refine ListComp_SH (F₀ := by k_asm) (by with_unfolding_all rfl) (by decide) (by rfl) (by decide) (by rfl) ?_)
  k_steps
  unfold Hold
  refine ⟨tx l, _, news, rfl, (by rfl), (by assumption), (by assumption), (by rw [sizeLine_eq]; have := tx_len l; unfold PySem.Str.length at this; omega), ?_⟩
  rintro s₂ ⟨h', rfl⟩
  refine tsT_rest l nb1 (fun d => tx (m3 d)) (fun d u' I' oI' C' oC' D' m' ys' h' tk' E' hd' hC' hx' F' N' off' ne' => ?_) (fun ys hys => ?_)
  · (try (simp only [LCg.Off3, and_true] at off'))
    k_steps
    · refine LCg.CompEnd.intro (by assumption) (by assumption) _ ?a1 ?b1 ?c1 ⟨rfl, ?d1⟩
      case a1 => kcf_all
      case b1 => first | assumption | (simp only [LCg.Off3, and_true]; done) | (simp only [LCg.Off3, and_true]; assumption)
      case c1 => first | lcg_src | assumption | trivial
      case d1 => simp only [nb1]; simp_all
    · refine LCg.CompEnd.intro (by assumption) (by assumption) _ ?a ?b ?c ⟨rfl, ?d, _, by rw [m3_tx]⟩
      case a => kcf_all
      case b => first | assumption | (simp only [LCg.Off3, and_true]; done) | (simp only [LCg.Off3, and_true]; assumption)
      case c => first | lcg_src | assumption | trivial
      case d => simp only [nb1]; simp_all
  · have hr : ((l.filter nb1).map m3).flatten = prep l := rfl
    have hB : ∀ z ∈ (l.filter nb1).map m3, z.length ≤ 100 := by
      intro z hz
      obtain ⟨c, hc, rfl⟩ := List.mem_map.mp hz
      exact hm c (List.mem_filter.mp hc).1
    have hBl : ((l.filter nb1).map m3).length * 100 + ((l.filter nb1).map m3).length ≤ 1048576 := by
      have := List.length_filter_le nb1 l
      rw [List.length_map]; omega
    have hys' : StrsAre ys (((l.filter nb1).map m3).map tx) := by
      rw [List.map_map]; exact hys
    clear hys
    k_steps
    exact hret _ _ _ ⟨_, rfl⟩ (by assumption) (by refine' cb_drop ?cbN ?cbS; (case cbN => assumption); (case cbS => kcj_all))
end
end Hd
end
end
section
open PySem PySem.W PySem.Calls PyProof.Rows
set_option maxRecDepth 100000
set_option maxHeartbeats 8000000
noncomputable section
namespace Hd
theorem filledNm : rw' = PySem.Challenge.rw_tr0065_03 ∧ K = K := by
  k_fill
  w_top off
  exact ⟨rfl, rfl⟩
noncomputable def glue : List (List Nat) → List Nat
  | [] => []
  | [p] => p
  | p :: r => p ++ 34 :: glue r
noncomputable def goP : List (List Nat) → List Nat
  | [] :: p :: r => 34 :: (p ++ goP r)
  | _ => []
noncomputable def nmP : List (List Nat) → List Nat
  | [] => []
  | p :: r => p ++ goP r
theorem pq_free : ∀ (p r : List Nat), 34 ∉ p → pq (p ++ r) = p ++ pq r
  | [], r, _ => rfl
  | c :: p, r, h => by
    have h1 : c ≠ 34 := fun e => h (by simp [e])
    rw [List.cons_append, pq_cons h1, pq_free p r (fun hm => h (.tail _ hm)), List.cons_append]
theorem glue_head {p : List Nat} {r : List (List Nat)} (hp : p ≠ []) (hf : 34 ∉ p) : ∀ r', glue (p :: r) ≠ 34 :: r' := by
  intro r' e
  cases p with
  | nil => exact hp rfl
  | cons c p =>
    cases r with
    | nil => exact hf (by have := (List.cons.inj e).1; simp [this])
    | cons q r => exact hf (by have := (List.cons.inj (show c :: (p ++ 34 :: glue (q :: r)) = 34 :: r' from e)).1; simp [this])
theorem pq_glue : ∀ (n : Nat) (ps : List (List Nat)), ps.length ≤ n → (∀ p ∈ ps, 34 ∉ p) → pq (glue ps) = nmP ps := by
  intro n
  induction n with
  | zero =>
    intro ps h _
    cases ps with
    | nil => rfl
    | cons a r => simp at h
  | succ n ih =>
    intro ps h hf
    match ps, h, hf with
    | [], _, _ => rfl
    | [p], _, hf =>
      show pq p = p ++ []
      have := pq_free p [] (hf p (.head _))
      rw [List.append_nil] at this
      rw [this]; rfl
    | p :: q :: r, h, hf =>
      show pq (p ++ 34 :: glue (q :: r)) = p ++ goP (q :: r)
      rw [pq_free p _ (hf p (.head _))]
      congr 1
      by_cases hq : q = []
      · subst hq
        cases r with
        | nil => rfl
        | cons p2 r2 =>
          show pq (34 :: 34 :: glue (p2 :: r2)) = 34 :: (p2 ++ goP r2)
          rw [pq_two, ih (p2 :: r2) (by simp at h ⊢; omega) (fun x hx => hf x (.tail _ (.tail _ hx)))]; rfl
      · rw [pq_stop (glue_head hq (hf q (.tail _ (.head _))))]
        cases q with
        | nil => exact absurd rfl hq
        | cons c q => rfl
theorem join_glue : ∀ l : List (List Nat), PySem.Str.join (tx [34]) (l.map tx) = tx (glue l)
  | [] => by rfl
  | [x] => by rfl
  | x :: y :: r => by
    have e : PySem.Str.join (tx [34]) ((x :: y :: r).map tx) = tx x ++ tx [34] ++ PySem.Str.join (tx [34]) ((y :: r).map tx) := rfl
    rw [e, join_glue (y :: r), tx_app, tx_app]
    show tx _ = tx (x ++ 34 :: glue (y :: r))
    simp
theorem pq_len : ∀ (n : Nat) (l : List Nat), l.length ≤ n → (pq l).length ≤ l.length := by
  intro n
  induction n with
  | zero =>
    intro l h
    cases l with
    | nil => exact Nat.le_refl _
    | cons a r => simp at h
  | succ n ih =>
    intro l h
    match l, h with
    | [], _ => exact Nat.le_refl _
    | [c], _ => simp only [pq]; split <;> simp
    | c :: c' :: r, h =>
      simp only [pq]
      have h1 := ih r (by simp at h; omega)
      have h2 := ih (c' :: r) (by simp at h ⊢; omega)
      split
      · split
        · simp; omega
        · simp
      · simp only [List.length_cons] at h2 ⊢; omega
theorem quo_tx : PySem.Str.ofString "\"" = tx [34] := by decide +kernel
theorem split_ps (l : List Nat) : ∃ ps : List (List Nat), Txt.split (tx l) (PySem.Str.ofString "\"") = ps.map tx ∧ 1 ≤ ps.length ∧ ps.length ≤ l.length + 2 ∧ (∀ p ∈ ps, 34 ∉ p) ∧ glue ps = l ∧ (∀ p ∈ ps, p.length ≤ l.length) := by
  rw [quo_tx]
  have he : ∀ L : List PySem.Str, L = (L.map fun s => s.cps.toList).map tx := by
    intro L
    rw [List.map_map]
    induction L with
    | nil => rfl
    | cons a r ih => rw [List.map_cons, ← ih]; congr 1
  refine ⟨(Txt.split (tx l) (tx [34])).map fun s => s.cps.toList, he _, ?_, ?_, ?_, ?_, ?_⟩
  · rw [List.length_map]; exact split_pos _ _
  · rw [List.length_map]; have := split_le (tx l) (tx [34]); rwa [tx_len] at this
  · intro p hp
    obtain ⟨s, hs, rfl⟩ := List.mem_map.mp hp
    exact StrLaws.split_free (tx l) 34 s hs
  · have h := StrLaws.join_split (tx l) (tx [34])
    rw [he (Txt.split (tx l) (tx [34])), join_glue] at h
    exact tx_inj.mp h
  · intro p hp
    obtain ⟨s, hs, rfl⟩ := List.mem_map.mp hp
    have := part_short hs
    rw [tx_len] at this
    unfold PySem.Str.length at this
    simpa using this
structure NInv (ps : List (List Nat)) (i : Int) (d : PySem.Str) : Prop where
  h1 : 1 ≤ i
  h2 : i ≤ ps.length
  h3 : d.cps.toList ++ goP (ps.drop i.toNat) = nmP ps
  h4 : d.length ≤ 100000
theorem getD_lt {ps : List (List Nat)} {k : Nat} (h : k < ps.length) : ps.drop k = ps.getD k [] :: ps.drop (k + 1) := by
  rw [List.drop_eq_getElem_cons h, List.getD_eq_getElem?_getD, List.getElem?_eq_getElem h]; rfl
theorem NInv.len {ps : List (List Nat)} {i : Int} {d : PySem.Str} (h : d.cps.toList ++ goP (ps.drop i.toNat) = nmP ps) (hb : (nmP ps).length ≤ 100000) : d.length ≤ 100000 := by
  have := congrArg List.length h
  rw [List.length_append] at this
  unfold PySem.Str.length
  have e : d.cps.toList.length = d.cps.size := by simp
  omega
theorem NInv.start {ps : List (List Nat)} (h : 1 ≤ ps.length) (hb : (nmP ps).length ≤ 100000) : NInv ps 1 (tx (ps.getD 0 [])) := by
  have e : (tx (ps.getD 0 [])).cps.toList ++ goP (ps.drop (1 : Int).toNat) = nmP ps := by
    cases ps with
    | nil => simp at h
    | cons p r => show (tx p).cps.toList ++ goP r = p ++ goP r; simp [tx]
  exact ⟨by omega, by omega, e, NInv.len e hb⟩
theorem NInv.turn {ps : List (List Nat)} {i : Int} {d : PySem.Str} (h : NInv ps i d) (hi : i + 1 < ps.length) (he : ps.getD i.toNat [] = []) (hb : (nmP ps).length ≤ 100000) : NInv ps (i + 2) (d ++ tx [34] ++ tx (ps.getD (i + 1).toNat [])) := by
  obtain ⟨h1, h2, h3, h4⟩ := h
  obtain ⟨k, rfl⟩ := Int.eq_ofNat_of_zero_le (show 0 ≤ i by omega)
  have e1 : ((k : Int)).toNat = k := by omega
  have e2 : ((k : Int) + 1).toNat = k + 1 := by omega
  have e3 : ((k : Int) + 2).toNat = k + 1 + 1 := by omega
  rw [e1] at he h3
  rw [getD_lt (show k < ps.length by omega), he, getD_lt (show k + 1 < ps.length by omega)] at h3
  have e : (d ++ tx [34] ++ tx (ps.getD (k + 1) [])).cps.toList ++ goP (ps.drop (k + 1 + 1)) = nmP ps := by
    rw [← h3]
    show ((d.cps ++ (tx [34]).cps) ++ (tx (ps.getD (k + 1) [])).cps).toList ++ _ = _ ++ (34 :: (_ ++ _))
    simp [tx]
  rw [e2]
  refine ⟨by omega, by omega, by rw [e3]; exact e, NInv.len (i := (k : Int) + 2) (by rw [e3]; exact e) hb⟩
theorem NInv.stop {ps : List (List Nat)} {i : Int} {d : PySem.Str} (h : NInv ps i d) (hs : ¬ i + 1 < ps.length ∨ ps.getD i.toNat [] ≠ []) : d = tx (nmP ps) := by
  obtain ⟨h1, h2, h3, h4⟩ := h
  obtain ⟨k, rfl⟩ := Int.eq_ofNat_of_zero_le (show 0 ≤ i by omega)
  have e1 : ((k : Int)).toNat = k := by omega
  rw [e1] at hs h3
  have : goP (ps.drop k) = [] := by
    by_cases hk : k < ps.length
    · rw [getD_lt hk]
      rcases hs with hs | hs
      · have : ps.drop (k + 1) = [] := List.drop_eq_nil_of_le (by omega)
        rw [this]
        cases ps.getD k [] <;> rfl
      · cases hq : ps.getD k [] with
        | nil => exact absurd hq hs
        | cons c q => rfl
    · rw [List.drop_eq_nil_of_le (by omega)]; rfl
  rw [this, List.append_nil] at h3
  rw [← h3]; exact str_eta d
section
variable {prog : Program} {w : World} {A : Around} {E : Value → Shared → Prop} {s : Shared} {value slice : PySem.Expr} {l : Addr} {vs : List Value} {ps : List (List Nat)} {k : Nat} {i : Int} {t u : Tok} {Q : Value → Shared → Prop}
theorem item_ps (hl : s.heap.IsList l vs.toArray) (hw : StrsAre vs (ps.map tx)) (h0 : 0 ≤ i) (h1 : i < (ps.length : Int)) (hfit : ps.length ≤ 100000) (h : ∀ t', Q (.str (tx (ps.getD i.toNat [])) t') s)
    (hs : subscripted slice false (.ref l) (.int i u) = operate [.ref l, .int i u] (getItem (.ref l) (.int i u)) := by with_unfolding_all rfl) :
    wpAny (model prog w) A (subscriptTail value slice (.ref l) (.int i u)) Q E s := by
  refine KTb.item_list hl hw h0 (by rw [List.length_map]; exact h1) (by omega) (fun t' hlt => ?_) hs
  have e : (ps.map tx).getD i.toNat PySem.Str.empty = tx (ps.getD i.toNat []) := by
    rw [List.length_map] at hlt
    rw [List.getD_eq_getElem?_getD, List.getD_eq_getElem?_getD, List.getElem?_map, List.getElem?_eq_getElem hlt]; rfl
  rw [e]; exact h t'
theorem eq_nil {a : List Nat} {t u : Tok} {Q : Value → Shared → Prop} (h : Q (.bool (decide (a = []))) s) : wpAny (model prog w) A (compareOp .Eq (.str (tx a) t) (.str (PySem.Str.ofString "") u)) Q E s :=
  P.eq_str (by
    rw [show (PySem.Str.ofString "").cps.toList = [] by decide +kernel, show (tx a).cps.toList = a by simp [tx]]
    have : (a == []) = decide (a = []) := by cases a <;> simp
    rw [this]; exact h)
end
section
variable {w : World} {mean : ExcName → Option Value} {mg mb : PySem.Str → Option Value}
theorem spec_named (l : List Nat) (t : Tok) (hl : l.length ≤ 1000) : Spec w mean mg mb 4 197 [.str (tx l) t] (fun v => ∃ tk, v = .str (tx (pq l)) tk) := by
  intro news dp un gd cn cs a ccd cl outer A₀ base h₀ L m s Q E B F X N T hk hd hu hret
  k_with_none
  k_with "call builtin:str.split" => refine hold ?_
  k_with "exec While BoolOp cons nil" => refine hold ?_
  k_with "exec While BoolOp" => refine hold ?_
  k_with "exec While" => refine hold ?_
  k_with "subscriptTail Name Constant ref int" => (k_here; (with_reducible show wpAny _ _ (subscriptTail _ _ (Value.ref _) (Value.int _ _)) _ _ _); k_dflt (refine item_ps (News.isList (by k_asm) (by k_mem)) (by assumption) (by omega) (by omega) (by omega) ?_); intro _)
  k_with "subscriptTail Name Name ref int" => (k_here; (with_reducible show wpAny _ _ (subscriptTail _ _ (Value.ref _) (Value.int _ _)) _ _ _); k_dflt (refine item_ps (News.isList (by k_asm) (by k_mem)) (by assumption) (by omega) (by omega) (by omega) ?_); intro _)
  k_with "subscriptTail Name BinOp ref int" => (k_here; (with_reducible show wpAny _ _ (subscriptTail _ _ (Value.ref _) (Value.int _ _)) _ _ _); k_dflt (refine item_ps (News.isList (by k_asm) (by k_mem)) (by assumption) (by omega) (by omega) (by omega) ?_); intro _)
  k_with "compareOp Eq str str" => (k_here; (with_reducible refine eq_nil ?_))
  refine wpAny_call ?_
  k_dflt cell_enter
  conv in (fBody (st 14)) => whnf
  obtain ⟨ps, e1, e2, e3, e4, e5, e6⟩ := split_ps l
  have e7 : pq l = nmP ps := by rw [← e5]; exact pq_glue ps.length ps (Nat.le_refl _) e4
  k_steps
  unfold Hold
  (rename Fr _ _ _ _ => F9'); (rename News _ _ _ _ => N9')
  refine splitN1 (hsz := by rw [tx_len, sizeLine_eq]; omega) F9' N9' (by rfl) ?_
  intro sl h9 k9 hsl F8 N8
  have hA : StrsAre (strValues sl) (ps.map tx) := by have := strsAre_of_values sl; rw [hsl, e1] at this; exact this
  have hsll : sl.length = ps.length := by have := congrArg List.length hsl; rwa [List.length_map, e1, List.length_map] at this
  clear hsl e1
  have hvl : (strValues sl).length = ps.length := by rw [hA.length, List.length_map]
  generalize strValues sl = sv at *
  clear F9' N9'
  k_steps
  unfold Hold
  have hpl : ∀ i, (tx (ps.getD i [])).length ≤ 1000 := by
    intro i
    rw [tx_len, List.getD_eq_getElem?_getD]
    by_cases hi : i < ps.length
    · rw [List.getElem?_eq_getElem hi]; have := e6 _ (List.getElem_mem hi); show (ps[i]).length ≤ 1000; omega
    · rw [List.getElem?_eq_none (by omega)]; simp
  have hq1 : (PySem.Str.ofString "\"").length = 1 := by decide +kernel
  have hnb : (nmP ps).length ≤ 100000 := by rw [← e7]; have := pq_len l.length l (Nat.le_refl _); omega
  have hsv : sv.toArray.size = ps.length := by rw [List.size_toArray, hvl]
  k_with "binaryOp Add str str" => (k_here; k_dflt (first | refine SB.add (hsz := by rw [sizeLine_eq]; omega) ?_ | refine SB.add (hsz := by rw [sizeLine_eq, PySem.Str.length_append]; exact Nat.le_trans (Nat.add_le_add_left (hpl _) _) (by omega)) ?_); intro _ _)
  k_with "state" => first | exact NInv.start e2 hnb | (rw [quo_tx]; exact NInv.turn (by assumption) (by omega) (by assumption) hnb)
  k_while (fun (_ : List Int) (i : Int) (d : PySem.Str) => NInv ps i d) (fun (_ : List Int) (i : Int) (_ : PySem.Str) => ps.length - i.toNat) "k" "name"
  have hP := kInv
  have hP1 := hP.h1
  have hP2 := hP.h2
  have hP4 := hP.h4
  k_steps
  · exact hret _ _ _ ⟨_, by rw [e7, ← NInv.stop hP (.inr (by assumption))]⟩ (by assumption) (by refine' cb_drop ?cbN ?cbS; (case cbN => assumption); (case cbS => kcj_all))
  · exact hret _ _ _ ⟨_, by rw [e7, ← NInv.stop hP (.inl (by omega))]⟩ (by assumption) (by refine' cb_drop ?cbN2 ?cbS2; (case cbN2 => assumption); (case cbS2 => kcj_all))
end
end Hd
end
end
section
open PySem PySem.W PySem.Calls PyProof.Rows
set_option maxRecDepth 100000
set_option maxHeartbeats 4000000
noncomputable section
namespace Hd
local macro_rules | `(tactic| walk_at "idle 0") => `(tactic| skip)
theorem filledLd : rw' = PySem.Challenge.rw_tr0065_03 ∧ K = K := by
  k_fill
  w_top off
  exact ⟨rfl, rfl⟩
noncomputable def isB (c : Nat) : Bool := decide (c = 32 ∨ c = 9)
noncomputable def ld : List Nat → List Nat
  | [] => []
  | c :: r => if isB c then c :: ld r else []
structure LInv (l : List Nat) (i : Int) : Prop where
  h1 : 0 ≤ i
  h2 : i ≤ l.length
  h3 : l.take i.toNat ++ ld (l.drop i.toNat) = ld l
theorem LInv.start (l : List Nat) : LInv l 0 := ⟨Int.le_refl _, by omega, rfl⟩
theorem sgn_getD (l : List Nat) (i : Int) : sgn (tx l) i = l.getD i.toNat 0 := by simp [sgn, tx]
theorem drop_getD {l : List Nat} {k : Nat} (h : k < l.length) : l.drop k = l.getD k 0 :: l.drop (k + 1) := by
  rw [List.drop_eq_getElem_cons h, List.getD_eq_getElem?_getD, List.getElem?_eq_getElem h]; rfl
theorem take_getD {l : List Nat} {k : Nat} (h : k < l.length) : l.take (k + 1) = l.take k ++ [l.getD k 0] := by
  rw [List.take_add_one, List.getD_eq_getElem?_getD, List.getElem?_eq_getElem h]; rfl
theorem LInv.turn {l : List Nat} {i : Int} (h : LInv l i) (hi : i < l.length) (hb : isB (sgn (tx l) i) = true) : LInv l (i + 1) := by
  obtain ⟨h1, h2, h3⟩ := h
  obtain ⟨k, rfl⟩ := Int.eq_ofNat_of_zero_le h1
  rw [sgn_getD] at hb
  have e1 : ((k : Int)).toNat = k := by omega
  have e2 : ((k : Int) + 1).toNat = k + 1 := by omega
  rw [e1] at hb h3
  refine ⟨by omega, by omega, ?_⟩
  rw [e2, take_getD (by omega), ← h3, drop_getD (show k < l.length by omega)]
  simp only [ld, hb, if_true, List.append_assoc, List.cons_append, List.nil_append]
theorem LInv.stop {l : List Nat} {i : Int} (h : LInv l i) (hs : ¬ i < l.length ∨ isB (sgn (tx l) i) = false) : l.take i.toNat = ld l := by
  obtain ⟨h1, h2, h3⟩ := h
  obtain ⟨k, rfl⟩ := Int.eq_ofNat_of_zero_le h1
  rw [sgn_getD] at hs
  have e1 : ((k : Int)).toNat = k := by omega
  rw [e1] at hs h3 ⊢
  rw [← h3]
  have : ld (l.drop k) = [] := by
    by_cases hk : k < l.length
    · rw [drop_getD hk]
      rcases hs with hs | hs
      · omega
      · simp only [ld, hs, Bool.false_eq_true, if_false]
    · rw [List.drop_eq_nil_of_le (by omega)]; rfl
  rw [this, List.append_nil]
theorem slice_to (l : List Nat) (i : Int) (h0 : 0 ≤ i) (h1 : i ≤ l.length) : Txt.slice (tx l) none (some i) = tx (l.take i.toNat) := by
  obtain ⟨k, rfl⟩ := Int.eq_ofNat_of_zero_le h0
  show StrLaws.sliceText _ none (some ((k : Nat) : Int)) = _
  rw [StrLaws.sliceText_to (by simp [tx]; omega)]
  simp [tx]
section
variable {prog : Program} {w : World} {A : Around} {E : Value → Shared → Prop} {s : Shared} {t u : Tok} {Q : Value → Shared → Prop}
theorem in_blank {c : Nat} (h : Q (.bool (isB c)) s) : wpAny (model prog w) A (compareOp .In (.str (tx [c]) t) (.str (PySem.Str.ofString " \t") u)) Q E s := by
  refine P.in_str ?_
  have e := StrLaws.found_one (PySem.Str.ofString " \t") c
  have e2 : (PySem.Str.ofString " \t").cps.toList = [32, 9] := by decide +kernel
  rw [e2] at e
  have e3 : decide (c ∈ [32, 9]) = isB c := by unfold isB; simp
  rw [e3] at e
  rw [show tx [c] = (⟨#[c]⟩ : PySem.Str) from rfl, e]
  exact h
theorem eq_blank {c : Nat} (h : Q (.bool (decide (c = 32))) s) : wpAny (model prog w) A (compareOp .Eq (.str (tx [c]) t) (.str (PySem.Str.ofString " ") u)) Q E s :=
  P.eq_str (by
    rw [show (PySem.Str.ofString " ").cps.toList = [32] by decide +kernel, show (tx [c]).cps.toList = [c] by simp [tx]]
    have : (([c] : List Nat) == [32]) = decide (c = 32) := by by_cases e : c = 32 <;> simp [e]
    rw [this]; exact h)
end
section
variable {w : World} {mean : ExcName → Option Value} {mg mb : PySem.Str → Option Value}
theorem spec_lead (l : List Nat) (t : Tok) (hl : l.length ≤ 1000) : Spec w mean mg mb 4 204 [.str (tx l) t] (fun v => ∃ tk, v = .str (tx (ld l)) tk) := by
  intro news dp un gd cn cs a ccd cl outer A₀ base h₀ L m s Q E B F X N T hk hd hu hret
  k_with_none
  k_with "exec While BoolOp cons nil" => refine hold ?_
  k_with "exec While BoolOp" => refine hold ?_
  k_with "exec While" => refine hold ?_
  k_with "subscriptTail Name Name str int" => (k_here; k_dflt (refine tail_sgn (by omega) (by omega) (by omega) ?_))
  k_with "compareOp In str str" => (k_here; (with_reducible refine in_blank ?_))
  refine wpAny_call ?_
  k_dflt cell_enter
  conv in (fBody (st 15)) => whnf
  have hlen := tx_len l
  k_steps
  unfold Hold
  k_with "state" => first | exact LInv.start l | exact LInv.turn (by assumption) (by omega) (by assumption)
  k_while (fun (_ : List Int) (i : Int) => LInv l i) (fun (_ : List Int) (i : Int) => l.length - i.toNat) "k"
  have hP := kInv
  have hP1 := hP.h1
  have hP2 := hP.h2
  k_steps
  · exact hret _ _ _ ⟨_, by rw [slice_to l _ hP1 hP2, LInv.stop hP (.inr (by assumption))]⟩ (by assumption) (by refine' cb_drop ?cbN ?cbS; (case cbN => assumption); (case cbS => kcj_all))
  · exact hret _ _ _ ⟨_, by rw [slice_to l _ hP1 hP2, LInv.stop hP (.inl (by omega))]⟩ (by assumption) (by refine' cb_drop ?cbN2 ?cbS2; (case cbN2 => assumption); (case cbS2 => kcj_all))
end
end Hd
end
end
section
open PySem PySem.W PySem.Calls PyProof.Rows
set_option maxRecDepth 100000
set_option maxHeartbeats 4000000
noncomputable section
namespace Hd
theorem filledW : rw' = PySem.Challenge.rw_tr0065_03 ∧ K = K := by
  k_fill
  w_top off
  exact ⟨rfl, rfl⟩
theorem allLt_ne {d : Addr} : ∀ {l : List (Addr × Obj)}, AllLt d l → ∀ p ∈ l, p.1 ≠ d
  | [], _, p, hp => nomatch hp
  | _ :: _, h, p, hp => by
    rcases List.mem_cons.mp hp with rfl | hp
    · exact Nat.ne_of_lt h.1
    · exact allLt_ne h.2 p hp
theorem ints_set {vs : List Value} {ns : List Int} (h : IntsAre vs ns) (x : Int) (t : Tok) : ∀ k, IntsAre (vs.set k (.int x t)) (ns.set k x) := by
  induction h with
  | nil => intro k; exact .nil
  | cons a t' r ih =>
    intro k
    cases k with
    | zero => exact .cons _ _ r
    | succ k => exact .cons _ _ (ih k)
section
variable {prog : Program} {w : World} {A : Around} {E : Value → Shared → Prop} {s : Shared} {h₀ : Heap} {L D : Addr} {m : PySem.Str → Option Value} {R : List (Addr × Obj)} {vs : List Value} {ks : List Int} {n : Nat} {k x : Int} {t u : Tok}
theorem set_int {Q : Unit → Shared → Prop} (F : Fr h₀ L s.heap m) (N : News h₀ L s.heap ((D, W.listOf (List.toArray vs) n) :: R)) (hR : ∀ p ∈ R, p.1 ≠ D) (hi : IntsAre vs ks) (h0 : 0 ≤ k) (h1 : k < ks.length) (hb : ks.length < 2 ^ 62)
    (h : ∀ h' us, Fr h₀ L h' m → News h₀ L h' ((D, W.listOf (List.toArray us) n) :: R) → IntsAre us (ks.set k.toNat x) → Q () { s with heap := h' }) : wpAny (model prog w) A (setItem (.ref D) (.int k t) (.int x u)) Q E s := by
  have z := N _ (.head _)
  have hl : vs.length = ks.length := hi.length
  refine ki_setAt z.1 h0 (by omega) (by simp; omega) (h _ (vs.set k.toNat (.int x u)) (F.change (Heap.SameBut.update ..) z.2.1 z.2.2) (ki_turn (pre := []) _ N (fun _ h => (nomatch h)) hR ?_ ?_) (ints_set hi x u _))
  · apply Array.toList_inj.mp
    simp
  · rw [if_pos (by simp)]
end
theorem wsMap_self {m : PySem.Str → Option Value} {ca : Addr} {b n nt : Int} {tb tn tt : Tok} (h1 : m sCo = some (.ref ca)) (h2 : m sB = some (.int b tb)) (h3 : m sN = some (.int n tn)) (h4 : m sNt = some (.int nt tt)) : m = wsMap m (m sCh) ca b n nt tb tn tt := by
  have n1 : sCo ≠ sCh := by decide +kernel
  have n2 : sB ≠ sCh := by decide +kernel
  have n3 : sN ≠ sCh := by decide +kernel
  have n4 : sNt ≠ sCh := by decide +kernel
  have n5 : sB ≠ sCo := by decide +kernel
  have n6 : sN ≠ sCo := by decide +kernel
  have n7 : sNt ≠ sCo := by decide +kernel
  have n8 : sN ≠ sB := by decide +kernel
  have n9 : sNt ≠ sB := by decide +kernel
  have n10 : sNt ≠ sN := by decide +kernel
  funext y
  unfold wsMap
  by_cases e1 : y = sCh
  · simp [e1]
  by_cases e2 : y = sCo
  · rw [e2, if_neg n1, if_pos rfl, h1]
  by_cases e3 : y = sB
  · rw [e3, if_neg n2, if_neg n5, if_pos rfl, h2]
  by_cases e4 : y = sN
  · rw [e4, if_neg n3, if_neg n6, if_neg n8, if_pos rfl, h3]
  by_cases e5 : y = sNt
  · rw [e5, if_neg n4, if_neg n7, if_neg n9, if_neg n10, if_pos rfl, h4]
  rw [if_neg e1, if_neg e2, if_neg e3, if_neg e4, if_neg e5]
theorem news_gen {h₀ h : Heap} {L : Addr} {p : Addr × Obj} {R : List (Addr × Obj)} {G : Prop} (N : News h₀ L h (p :: R)) (k : ∀ R0, R0 = R → News h₀ L h (p :: R0) → G) : G := k R rfl N
theorem take_snoc {l : List Nat} {i c : Nat} (h : (tx l).cps[i]? = some c) : l.take (i + 1) = l.take i ++ [c] ∧ c ∈ l := by
  have h' : l[i]? = some c := by simpa [tx] using h
  refine ⟨?_, List.mem_of_getElem? h'⟩
  simp [List.take_add_one, h']
theorem wsMap_of {m f : PySem.Str → Option Value} {ca : Addr} {b n nt : Int} {tb tn tt : Tok} (h1 : m sCo = some (.ref ca)) (h2 : m sB = some (.int b tb)) (h3 : m sN = some (.int n tn)) (h4 : m sNt = some (.int nt tt))
    (hf : ∀ y, y ≠ PySem.Str.ofString "ch" → y ≠ PySem.Str.ofString "count" → y ≠ PySem.Str.ofString "b" → y ≠ PySem.Str.ofString "n" → y ≠ PySem.Str.ofString "nt" → m y = f y) : m = wsMap f (m sCh) ca b n nt tb tn tt := by
  refine (wsMap_self h1 h2 h3 h4).trans ?_
  funext y
  unfold wsMap
  by_cases e1 : y = sCh
  · simp [e1]
  rw [if_neg e1, if_neg e1]
  by_cases e2 : y = sCo
  · rw [if_pos e2, if_pos e2]
  rw [if_neg e2, if_neg e2]
  by_cases e3 : y = sB
  · rw [if_pos e3, if_pos e3]
  rw [if_neg e3, if_neg e3]
  by_cases e4 : y = sN
  · rw [if_pos e4, if_pos e4]
  rw [if_neg e4, if_neg e4]
  by_cases e5 : y = sNt
  · rw [if_pos e5, if_pos e5]
  rw [if_neg e5, if_neg e5]
  exact hf y e1 e2 e3 e4 e5
noncomputable def WsJ3 (f : PySem.Str → Option Value) (R : List (Addr × Obj)) (l : List Nat) (i : Nat) (m : PySem.Str → Option Value) (nx : List (Addr × Obj)) : Prop := WsJ f R l i m nx ∧ l.take i ++ ld (l.drop i) = ld l
noncomputable def RestW (h₀ : Heap) (L : Addr) (s : Shared) (f : PySem.Str → Option Value) (R0 : List (Addr × Obj)) (l : List Nat) (Q : Flow → Shared → Prop) : Prop :=
  ∀ (ch : Option Value) (ca : Addr) (vs : List Value) (tb tn tt : Tok) (h : Heap) (tk : Nat), (∀ p ∈ R0, p.1 ≠ ca) → IntsAre vs (wsRun (ld l)).ks → Fr h₀ L h (wsMap f ch ca (wsRun (ld l)).b (wsRun (ld l)).n (wsRun (ld l)).nt tb tn tt) → News h₀ L h ((ca, W.listOf (List.toArray vs) 0) :: R0) → Q .next { s with heap := h, toks := tk }
theorem wsEnd {h₀ h' : Heap} {L : Addr} {f m' : PySem.Str → Option Value} {R0 R2 : List (Addr × Obj)} {l : List Nat} {i : Nat} {I : Addr} {o : Obj} {s₁ : Shared} {Q : Flow → Shared → Prop} {ca : Addr} {vs : List Value} {ks : List Int} {b n nt : Int} {tb tn tt : Tok} {tk : Nat} {σ : WSt}
    (F : Fr h₀ L h' m') (N : News h₀ L h' ((ca, W.listOf (List.toArray vs) 0) :: R2)) (hm : (I, o) ∈ R2) (hsub : ∀ p ∈ R0, p ∈ R2) (hI : ∀ p ∈ R0, p.1 ≠ I) (hR : ∀ p ∈ R2, p.1 ≠ ca) (hi : IntsAre vs ks) (hs : wsRun (l.take (i + 1)) = σ) (hld : l.take (i + 1) ++ ld (l.drop (i + 1)) = ld l)
    (ek : ks = σ.ks) (eb : b = σ.b) (en : n = σ.n) (et : nt = σ.nt) (h1 : m' sCo = some (.ref ca)) (h2 : m' sB = some (.int b tb)) (h3 : m' sN = some (.int n tn)) (h4 : m' sNt = some (.int nt tt))
    (hf : ∀ y, y ≠ PySem.Str.ofString "ch" → y ≠ PySem.Str.ofString "count" → y ≠ PySem.Str.ofString "b" → y ≠ PySem.Str.ofString "n" → y ≠ PySem.Str.ofString "nt" → m' y = f y) :
    PostA h₀ L (WsJ3 f R0 l (i + 1)) I o s₁ Q .next { s₁ with heap := h', toks := tk } := by
  subst ek eb en et
  refine ⟨h', tk, m', (ca, W.listOf (List.toArray vs) 0) :: R0, rfl, F, ?_, ?_, ?_⟩
  · intro p hp
    rcases List.mem_append.mp hp with hp | hp
    · rcases List.mem_cons.mp hp with rfl | hp
      · exact N _ (.head _)
      · exact N _ (.tail _ (hsub p hp))
    · rw [List.mem_singleton.mp hp]; exact N _ (.tail _ hm)
  · intro p hp
    rcases List.mem_cons.mp hp with rfl | hp
    · exact fun e => hR _ hm e.symm
    · exact hI p hp
  · refine ⟨⟨m' sCh, ca, vs, tb, tn, tt, rfl, fun p hp => hR p (hsub p hp), by rw [hs]; exact hi, ?_⟩, hld⟩
    rw [hs]
    exact wsMap_of h1 h2 h3 h4 hf
theorem ld_len : ∀ l : List Nat, (ld l).length ≤ l.length
  | [] => Nat.le_refl _
  | c :: r => by
    have := ld_len r
    unfold ld
    split <;> simp <;> omega
theorem news_sub {h₀ h : Heap} {L : Addr} {l : List (Addr × Obj)} (l' : List (Addr × Obj)) (N : News h₀ L h l) (hs : ∀ p ∈ l', p ∈ l) : News h₀ L h l' := fun p hp => N p (hs p hp)
theorem rep_flat (k : Nat) : (List.replicate k [(0 : Int)]).flatten = List.replicate k 0 := by
  induction k with
  | zero => rfl
  | succ k ih => rw [List.replicate_succ, List.flatten_cons, ih]; rfl
theorem bump_ext {ks : List Int} {b : Nat} (h : (ks.length : Int) ≤ b) : (ks ++ (List.replicate ((b : Int) - ks.length + 1).toNat [(0 : Int)]).flatten).set ((b : Int)).toNat ((ks ++ (List.replicate ((b : Int) - ks.length + 1).toNat [(0 : Int)]).flatten).getD ((b : Int)).toNat 0 + 1) = bump ks b := by
  have e : ((b : Int) - ks.length + 1).toNat = b + 1 - ks.length := by omega
  rw [rep_flat, e]; rfl
theorem bump_in {ks : List Int} {b : Nat} (h : ¬ (ks.length : Int) ≤ b) : ks.set ((b : Int)).toNat (ks.getD ((b : Int)).toNat 0 + 1) = bump ks b := by
  have e : b + 1 - ks.length = 0 := by omega
  unfold bump
  rw [e, List.replicate_zero, List.append_nil]; rfl
noncomputable def wsDict (P : Params) (raw : PySem.Str) (D : Addr) (n nt : Nat) (sm : Bool) (t t1 t2 t3 t4 t5 tn tt : Tok) : Obj :=
  dictOf [{ hash := PyData.keyHash P (PySem.Str.ofString "raw"), key := .str (PySem.Str.ofString "raw") t1, val := .str raw t },
    { hash := PyData.keyHash P (PySem.Str.ofString "n"), key := .str (PySem.Str.ofString "n") t2, val := .int n tn },
    { hash := PyData.keyHash P (PySem.Str.ofString "nt"), key := .str (PySem.Str.ofString "nt") t3, val := .int nt tt },
    { hash := PyData.keyHash P (PySem.Str.ofString "norm"), key := .str (PySem.Str.ofString "norm") t4, val := .ref D },
    { hash := PyData.keyHash P (PySem.Str.ofString "is_simple"), key := .str (PySem.Str.ofString "is_simple") t5, val := .bool sm }] 5
section
variable {prog : Program} {w : World} {A : Around} {E : Value → Shared → Prop} {s : Shared} {env : Env} {h₀ : Heap} {x : PySem.Str} {body : List Stmt} {Q : Flow → Shared → Prop}
theorem iter_strW {l : List Nat} {t : Tok} {f m₀ : PySem.Str → Option Value} {R0 news : List (Addr × Obj)}
    (hh : A.handled = none) (F : Fr h₀ env.locals s.heap m₀) (N : News h₀ env.locals s.heap news) (hj : WsJ f R0 l 0 m₀ news)
    (rest : RestW h₀ env.locals s f R0 l Q)
    (turn : RestW h₀ env.locals s f R0 l Q → ∀ i (c : Nat) u m₁ nx h tk I o, (tx l).cps[i]? = some c → (∀ p ∈ nx, p.1 ≠ I) → WsJ3 f R0 l i m₁ nx → Fr h₀ env.locals h (fun y => if y = x then some (.str ⟨#[c]⟩ u) else m₁ y) → News h₀ env.locals h (nx ++ [(I, o)]) →
      wpAny (model prog w) A (execs body env) (PostA h₀ env.locals (WsJ3 f R0 l (i + 1)) I o { s with heap := h, toks := tk } Q) E { s with heap := h, toks := tk }) :
    wpAny (model prog w) A (pyIter (.str (tx l) t)) (fun it s₂ => LoopAtV prog w A h₀ env x body Q E it s₂) E s := by
  refine iter_strA (WsJ3 f R0 l) hh F N ⟨hj, rfl⟩ (turn rest) ?_
  rintro m₁ nx h tk ⟨⟨ch, ca, vs, tb, tn, tt, rfl, hR, hi, rfl⟩, hld⟩ F' N'
  have hsz : (tx l).cps.size = l.length := by simp [tx]
  rw [hsz, List.take_length, List.drop_length] at hld
  have e : l = ld l := by rw [← hld]; simp [ld]
  rw [hsz, List.take_length] at F' hi
  refine rest ch ca vs tb tn tt h tk hR ?_ ?_ N'
  · rw [← e]; exact hi
  · rw [← e]; exact F'
end
section
variable {w : World} {mean : ExcName → Option Value} {mg mb : PySem.Str → Option Value}
local macro_rules | `(tactic| k_all) => `(tactic| exact allLt_ne (by assumption))
theorem ws_spec (l : List Nat) (t : Tok) (hl : l.length ≤ 10000)
  (news : List (Addr × Obj)) (dp un : Nat) (gd : Option (List Code)) (cn : PySem.Str) (cs : Scope) (a : Addr) (ccd : Value) (cl : List (PySem.Str × Addr)) (outer : List Env) (A₀ : Around) (base h₀ : Heap) (L : Addr) (m : PySem.Str → Option Value) (s : Shared) (Q E : Value → Shared → Prop)
    (B : Below A₀ base outer h₀) (F : Fr h₀ L s.heap m) (X : (K w.params).In h₀) (N : News h₀ L s.heap news) (T : Top q (looseW q loose) mean mg mb h₀) (hk : cs.kind = .function) (hd : dp + 4 < recursionLimit) (hu : un + 400 < cLine)
    (hret : ∀ (x d D1 D2 : Addr) (vs : List Value) (t1 t2 t3 t4 t5 tb tn tt : Tok) (h' : Heap) (tk' : Nat), IntsAre vs (wsRun (ld l)).ks → (∀ p ∈ news, p.1 < d) → d < x → x < D1 → D1 < D2 → Fr h₀ L h' m →
      News h₀ L h' ((D2, ({ cls := .type "tuple", data := .seq #[.ref D1, .int (wsRun (ld l)).b tb] } : Obj)) :: (D1, ({ cls := .type "tuple", data := .seq vs.toArray } : Obj)) :: (x, instObj 179 d) :: (d, wsDict w.params (tx l) D2 (wsRun (ld l)).n (wsRun (ld l)).nt (decide (((wsRun (ld l)).ks.length : Int) ≤ 1)) t t1 t2 t3 t4 t5 tn tt) :: news) → Q (.ref x) { s with heap := h', toks := tk' }) :
    wpAny (model pr w) (ktrTop dp un gd cn cs L a ccd cl outer) (call (.ref 179) [.str (tx l) t]) Q E s := by
  k_with_none
  k_with "exec For Name Attribute cons nil" => refine hold ?_
  k_with "pyIter str" => refine hold ?_
  k_with "setItem ref int" => (k_here; k_dflt (refine' set_int ?k1 ?k2 ?k3 ?k4 ?k5 ?k6 ?k7 ?_; (case k1 => k_asm); (case k2 => k_asm); (case k3 => first | assumption | k_all); (case k4 => l_ints); (case k5 => omega); (case k6 => omega); (case k7 => omega)); intro hqz usqz Fqz Nqz iqz)
  k_with "call type:tuple" => (k_here; (with_reducible show wpAny _ _ (call (Value.type _) [Value.ref _]) _ _ _); k_dflt (refine' kde_tupleOf ?k1 ?k2 ?k3 ?k4 ?k5 ?_; (case k1 => k_asm); (case k2 => k_asm); (case k3 => exact News.isList (by k_asm) (by k_mem)); (case k4 => simp only [List.size_toArray]; omega); (case k5 => exact rfl)); intro Dqz hqz Fqz Nqz l1qz; (try k_lt l1qz); (try k_sweep))
  k_dflt (refine' call_cls ?k1 ?k2 ?k3 ?k4 ?k5 ?k6 ?_; (case k1 => k_asm); (case k2 => k_asm); (case k3 => k_asm); (case k4 => k_is); (case k5 => k_is); (case k6 => k_is))
  intro x' d' h' F' N' l1 l2
  (try k_lt l1); (try k_lt2 l2); (try k_sweep)
  k_dflt cell_enter
  conv in (fBody (sub (st 11) 1)) => whnf
  k_steps
  unfold Hold
  (rename Fr _ _ _ _ => lF')
  (with_unfolding_all refine' For_invVF lF' ?k1 ?k2 ?_; (case k1 => exact rfl); (case k2 => exact rfl); k_whole)
  k_steps
  unfold Hold
  (rename Fr _ _ _ _ => lF'); (rename News _ _ _ _ => lN')
  refine news_gen lN' fun R0 hR0 lN0 => ?_
  refine iter_strW (R0 := R0) (by rfl) lF' lN0 ⟨_, _, [], _, _, _, rfl, ?hR, .nil, wsMap_self (by rfl) (by rfl) (by rfl) (by rfl)⟩ ?rest ?turn
  case hR => subst hR0; k_all
  case turn =>
    rintro hrest i c u m₁ nx h tk I o hic hI ⟨⟨ch, ca, vs, tb, tn, tt, rfl, hR, hi, rfl⟩, hld⟩ F' N'
    clear hR0 lN' lN0 lF'
    rw [wsMap_ch] at F'
    obtain ⟨htk, hcm⟩ := take_snoc hic
    have hbd := wsRun_bd (l.take i)
    have hlt : (l.take i).length ≤ 10000 := by rw [List.length_take]; omega
    have hil : i < l.length := by
      have := (Array.getElem?_eq_some_iff.mp hic).1
      simpa [tx] using this
    have hdr : l.drop i = c :: l.drop (i + 1) := by
      have : l[i]? = some c := by simpa [tx] using hic
      rw [List.drop_eq_getElem_cons hil]; congr 1
      exact Option.some.inj ((List.getElem?_eq_getElem hil).symm.trans this)
    have hs : wsRun (l.take (i + 1)) = wsStep (wsRun (l.take i)) c := by rw [htk, wsRun_snoc]
    have hldB : isB c = true → l.take (i + 1) ++ ld (l.drop (i + 1)) = ld l := by
      intro hb
      rw [htk, ← hld, hdr]; simp [ld, hb]
    have hldN : isB c = false → ld l = l.take i := by
      intro hb
      rw [← hld, hdr]; simp [ld, hb]
    obtain hN | hB : isB c = false ∨ isB c = true := by cases isB c <;> simp
    · have hlN := hldN hN
      have hq := of_decide_eq_false hN
      have hq1 : c ≠ 32 := fun e => hq (.inl e)
      have hq2 : c ≠ 9 := fun e => hq (.inr e)
      have n1 : ((⟨#[c]⟩ : PySem.Str) == PySem.Str.ofString " ") = false := by
        rw [show PySem.Str.ofString " " = tx [32] by decide +kernel, beq_eq_false_iff_ne]
        intro e
        exact hq1 (List.cons.inj (tx_inj.mp (show tx [c] = tx [32] from e))).1
      have n2 : ((⟨#[c]⟩ : PySem.Str) == PySem.Str.ofString "\t") = false := by
        rw [show PySem.Str.ofString "\t" = tx [9] by decide +kernel, beq_eq_false_iff_ne]
        intro e
        exact hq2 (List.cons.inj (tx_inj.mp (show tx [c] = tx [9] from e))).1
      unfold RestW at hrest
      rw [hlN] at hrest
      clear hs hld hldN hldB hdr hq
      generalize wsRun (l.take i) = σ at *
      have hIc : ca ≠ I := hI _ (.head _)
      rw [List.cons_append] at N'
      have F0' := F'
      unfold wsMap sCh sCo sB sN sNt at F'
      k_steps
      refine hrest (some (.str ⟨#[c]⟩ u)) ca vs tb tn tt _ _ hR hi ?_ ?_
      · exact F0'
      · exact news_sub _ N' (fun p hp => by rcases List.mem_cons.mp hp with rfl | hp; exact .head _; exact .tail _ (List.mem_append_left _ hp))
    have hld' := hldB hB
    clear hldN hldB hld hrest hdr
    generalize wsRun (l.take i) = σ at *
    have hIc : ca ≠ I := hI _ (.head _)
    have hR1 : ∀ p ∈ R0 ++ [(I, o)], p.1 ≠ ca := by
      intro p hp
      rcases List.mem_append.mp hp with hp | hp
      · exact hR p hp
      · rw [List.mem_singleton.mp hp]; exact fun e => hIc e.symm
    rw [List.cons_append] at N'
    have hI0 : ∀ p ∈ R0, p.1 ≠ I := fun p hp => hI p (.tail _ hp)
    have hIm : (I, o) ∈ R0 ++ [(I, o)] := List.mem_append.mpr (.inr (.head _))
    generalize hR1e : R0 ++ [(I, o)] = R1 at *
    have hbl : σ.b ≤ 10000 := by omega
    have hnl : σ.n ≤ 10000 := by omega
    have htl : σ.nt ≤ 10000 := by omega
    have hkl : σ.ks.length ≤ 10000 := by omega
    unfold wsMap sCh sCo sB sN sNt at F'
    have hsub : ∀ p ∈ R0, p ∈ R1 := fun p hp => by rw [← hR1e]; exact List.mem_append.mpr (.inl hp)
    obtain rfl | rfl : c = 32 ∨ c = 9 := by simpa [isB] using hB
    · k_steps
      refine wsEnd (by assumption) (by assumption) hIm hsub hI0 (by assumption) hi hs hld' (by rfl) (by rfl) (by rfl) (by rfl) (by rfl) (by rfl) (by rfl) (by rfl) ?_
      intro y h1 h2 h3 h4 h5
      simp only [h1, h2, h3, h4, h5, if_false]
    · k_steps
      · refine wsEnd (by assumption) (by assumption) ?_ ?_ hI0 (by k_all) (by assumption) hs hld' (bump_ext (by assumption)) (by rfl) (by rfl) (by rfl) (by rfl) (by rfl) (by rfl) (by rfl) ?_
        · simp only [List.mem_cons]; exact .inr (.inr (.inr hIm))
        · intro p hp; simp only [List.mem_cons]; exact .inr (.inr (.inr (hsub p hp)))
        intro y h1 h2 h3 h4 h5
        simp only [h1, h2, h3, h4, h5, if_false]
      · refine wsEnd (by assumption) (by assumption) hIm hsub hI0 (by assumption) (by assumption) hs hld' (bump_in (by assumption)) (by rfl) (by rfl) (by rfl) (by rfl) (by rfl) (by rfl) (by rfl) ?_
        intro y h1 h2 h3 h4 h5
        simp only [h1, h2, h3, h4, h5, if_false]
  case rest =>
    intro ch ca vs tb tn tt h tk hR hi F' N'
    have hbd := wsRun_bd (ld l)
    have hll : (ld l).length ≤ l.length := ld_len l
    generalize hσ : wsRun (ld l) = σ at *
    have hbl : σ.b ≤ 10000 := by omega
    have hnl : σ.n ≤ 10000 := by omega
    have htl : σ.nt ≤ 10000 := by omega
    have hkl : σ.ks.length ≤ 10000 := by omega
    have hlk : vs.length = σ.ks.length := hi.length
    subst hR0
    clear lF' lN0 lN'
    obtain ⟨a1, a2, a3, a4⟩ : _ ∧ _ ∧ _ ∧ _ := by
      rw [List.forall_mem_cons, List.forall_mem_cons, List.forall_mem_cons] at hR
      exact hR
    dsimp only at a1 a2 a3
    have b1 := Ne.symm a1
    have b2 := Ne.symm a2
    have b3 := Ne.symm a3
    clear hR
    unfold wsMap sCh sCo sB sN sNt at F'
    k_steps
    subst hσ
    refine hret _ _ _ _ _ _ _ _ _ _ _ _ _ _ _ hi l1 l2 ?_ ?_ (by assumption) (by refine' cb_drop ?cbN ?cbS; (case cbN => assumption); (case cbS => kcj_all))
    · exact (by assumption : ca < _ ∧ _ ∧ x' < _ ∧ _).2.2.1
    · exact (by assumption : _ < _ ∧ _ < _ ∧ _ < _ ∧ _ < _ ∧ _ < _ ∧ _).1
end
end Hd
end
end
section
open PySem PySem.W PySem.Calls PyProof.Rows
set_option maxRecDepth 100000
set_option maxHeartbeats 4000000
noncomputable section
namespace Hd
local macro_rules | `(tactic| walk_at "idle 0") => `(tactic| skip)
theorem filledIn : rw' = PySem.Challenge.rw_tr0065_03 ∧ K = K := by
  k_fill
  w_top off
  exact ⟨rfl, rfl⟩
section
variable {prog : Program} {w : World} {A : Around} {E : Value → Shared → Prop} {s : Shared}
theorem len_tupI {t : Addr} {vs : List Value} {ks : List Int} {Q : Value → Shared → Prop} (ht : IsTup s.heap t vs.toArray) (hi : IntsAre vs ks) (hb : ks.length ≤ 10000)
    (h : Q (.int ks.length (s.toks + 1)) { s with toks := s.toks + 1 + 1 }) : wpAny (model prog w) A (call (.builtin "len") [.ref t]) Q E s := by
  have e : vs.toArray.size = ks.length := by simpa using hi.length
  refine PyProof.Rows.len_tuple ht (by omega) ?_
  rw [e]; exact h
end
theorem mulOk_small {a b : Int} (h1 : -1000000000000000 ≤ a) (h2 : a ≤ 1000000000000000) (h3 : -1000000000000000 ≤ b) (h4 : b ≤ 1000000000000000) : IntMulOk a b :=
  IntMulOk.of_le (m := 64) (n := 64) (intBits_le_iff.mpr (by omega)) (intBits_le_iff.mpr (by omega)) (by decide)
theorem fdiv_bd {k T0 : Int} (h0 : 0 ≤ k) (h1 : k ≤ 100000) (h2 : 1 ≤ T0) : 0 ≤ k.fdiv T0 ∧ k.fdiv T0 ≤ 100000 := by
  rw [Int.fdiv_eq_ediv_of_nonneg _ (by omega)]
  exact ⟨Int.ediv_nonneg h0 (by omega), Int.le_trans (Int.ediv_le_self _ h0) h1⟩
section
variable {w : World} {mean : ExcName → Option Value} {mg mb : PySem.Str → Option Value}
noncomputable def ilOf (ks : List Int) (T0 : Int) (pre : List Int) : Int := (pre.map fun k => k.fdiv T0 * ks.getD k.toNat 0).sum
theorem ilOf_snoc (ks : List Int) (T0 : Int) (pre : List Int) (k : Int) : ilOf ks T0 (pre ++ [k]) = ilOf ks T0 pre + k.fdiv T0 * ks.getD k.toNat 0 := by simp [ilOf]
theorem ilOf_step {ks : List Int} {T0 c k : Int} {pre : List Int} (h : c = ilOf ks T0 pre) : c + k.fdiv T0 * ks.getD k.toNat 0 = ilOf ks T0 (pre ++ [k]) := by rw [ilOf_snoc, h]
theorem spec_indent (raw : PySem.Str) (ks : List Int) (b n nt : Nat) (x d D1 D2 : Addr) (vs : List Value) (sm : Bool) (T0 : Int) (t tT t1 t2 t3 t4 t5 tb tn tt : Tok) (hi : IntsAre vs ks) (hks : ∀ i, 0 ≤ ks.getD i 0 ∧ ks.getD i 0 ≤ 100000) (hkl : ks.length ≤ 10000) (hbl : b ≤ 10000) (hntl : nt ≤ 10000) (h1 : 1 ≤ T0) (h2 : T0 ≤ 10000)
  (news : List (Addr × Obj)) (dp un : Nat) (gd : Option (List Code)) (cn : PySem.Str) (cs : Scope) (a : Addr) (ccd : Value) (cl : List (PySem.Str × Addr)) (outer : List Env) (A₀ : Around) (base h₀ : Heap) (L : Addr) (m : PySem.Str → Option Value) (s : Shared) (Q E : Value → Shared → Prop)
    (B : Below A₀ base outer h₀) (F : Fr h₀ L s.heap m) (X : (K w.params).In h₀)
    (N : News h₀ L s.heap ((D2, ({ cls := .type "tuple", data := .seq #[.ref D1, .int b tb] } : Obj)) :: (D1, ({ cls := .type "tuple", data := .seq vs.toArray } : Obj)) :: (x, instObj 179 d) :: (d, wsDict w.params raw D2 n nt sm t t1 t2 t3 t4 t5 tn tt) :: news))
    (T : Top q (looseW q loose) mean mg mb h₀) (hk : cs.kind = .function) (hd : dp + 4 < recursionLimit) (hu : un + 400 < cLine)
    (hret : ∀ tk h' tk', Fr h₀ L h' m → News h₀ L h' ((D2, ({ cls := .type "tuple", data := .seq #[.ref D1, .int b tb] } : Obj)) :: (D1, ({ cls := .type "tuple", data := .seq vs.toArray } : Obj)) :: (x, instObj 179 d) :: (d, wsDict w.params raw D2 n nt sm t t1 t2 t3 t4 t5 tn tt) :: news) → Q (.int (b + T0 * (ilOf ks T0 (rangeKs T0 (ks.length - T0).toNat) + nt)) tk) { s with heap := h', toks := tk' }) :
    wpAny (model pr w) (ktrTop dp un gd cn cs L a ccd cl outer) (call (.ref 148) [.ref x, .int T0 tT]) Q E s := by
  k_with_none
  k_with "call builtin:len" => (k_here; k_dflt (refine' len_tupI ?k1 ?k2 ?k3 ?_; (case k1 => exact News.isTup (by k_asm) (by k_mem)); (case k2 => assumption); (case k3 => omega)))
  k_with "pyIter ref" => refine hold ?_
  k_with "binaryOp Mult int int" => (k_here; k_dflt (first | refine mul_int ?_ (mulOk_small (by omega) (by omega) (by omega) (by omega)) | refine mul_int ?_))
  unfold wsDict at N
  refine wpAny_call ?_
  k_dflt cell_enter
  conv in (fBody (sub (st 11) 3)) => whnf
  k_steps
  unfold Hold
  k_with "state" => first | exact rfl | exact ilOf_step (by assumption)
  k_state (fun pre il => il = ilOf ks T0 pre) "il"
  · have hN0 : 0 ≤ kN := by omega
    have hN1 : kN ≤ 100000 := by omega
    have hfd := fdiv_bd hN0 hN1 h1
    have hv := hks kN.toNat
    have hfd1 := hfd.1
    have hfd2 := hfd.2
    have hv1 := hv.1
    have hv2 := hv.2
    k_steps
  · k_steps
    rw [kInv]
    exact hret _ _ _ (by assumption) (by refine' cb_drop ?cbN ?cbS; (case cbN => assumption); (case cbS => kcj_all))
end
end Hd
end
end
section
open PySem PySem.W PySem.Calls PyProof.Rows
set_option maxRecDepth 100000
set_option maxHeartbeats 8000000
noncomputable section
namespace Hd
theorem filledLo : rw' = PySem.Challenge.rw_tr0065_03 ∧ K = K := by
  k_fill
  w_top off
  exact ⟨rfl, rfl⟩
section
variable {w : World} {mean : ExcName → Option Value} {mg mb : PySem.Str → Option Value}
theorem spec_longest (raw : PySem.Str) (ks : List Int) (b n nt : Nat) (x d D1 D2 : Addr) (vs : List Value) (sm : Bool) (t t1 t2 t3 t4 t5 tb tn tt : Tok) (hi : IntsAre vs ks) (hkl : ks.length ≤ 10000) (hbl : b ≤ 10000)
  (news : List (Addr × Obj)) (dp un : Nat) (gd : Option (List Code)) (cn : PySem.Str) (cs : Scope) (a : Addr) (ccd : Value) (cl : List (PySem.Str × Addr)) (outer : List Env) (A₀ : Around) (base h₀ : Heap) (L : Addr) (m : PySem.Str → Option Value) (s : Shared) (Q E : Value → Shared → Prop)
    (B : Below A₀ base outer h₀) (F : Fr h₀ L s.heap m) (X : (K w.params).In h₀)
    (N : News h₀ L s.heap ((D2, ({ cls := .type "tuple", data := .seq #[.ref D1, .int b tb] } : Obj)) :: (D1, ({ cls := .type "tuple", data := .seq vs.toArray } : Obj)) :: (x, instObj 179 d) :: (d, wsDict w.params raw D2 n nt sm t t1 t2 t3 t4 t5 tn tt) :: news))
    (T : Top q (looseW q loose) mean mg mb h₀) (hk : cs.kind = .function) (hd : dp + 4 < recursionLimit) (hu : un + 400 < cLine)
    (hret : ∀ tk h' tk', Fr h₀ L h' m → News h₀ L h' ((D2, ({ cls := .type "tuple", data := .seq #[.ref D1, .int b tb] } : Obj)) :: (D1, ({ cls := .type "tuple", data := .seq vs.toArray } : Obj)) :: (x, instObj 179 d) :: (d, wsDict w.params raw D2 n nt sm t t1 t2 t3 t4 t5 tn tt) :: news) → Q (.int (if (ks.length : Int) - 1 < b then b else (ks.length : Int) - 1) tk) { s with heap := h', toks := tk' }) :
    wpAny (model pr w) (ktrTop dp un gd cn cs L a ccd cl outer) (call (.ref 141) [.ref x]) Q E s := by
  k_with_none
  k_with "call builtin:len" => (k_here; k_dflt (refine' len_tupI (News.isTup (by k_asm) (by k_mem)) (by assumption) (by omega) ?_))
  unfold wsDict at N
  refine wpAny_call ?_
  k_dflt cell_enter
  conv in (fBody (sub (st 11) 2)) => whnf
  k_steps
  exact hret _ _ _ (by assumption) (by refine' cb_drop ?cbN ?cbS; (case cbN => assumption); (case cbS => kcj_all))
end
end Hd
end
end
section
open PySem PySem.W PySem.Calls PyProof.Rows
set_option maxRecDepth 100000
set_option maxHeartbeats 8000000
noncomputable section
namespace Hd
local macro_rules | `(tactic| walk_at "idle 0") => `(tactic| skip)
theorem filledLs : rw' = PySem.Challenge.rw_tr0065_03 ∧ K = K := by
  k_fill
  w_top off
  exact ⟨rfl, rfl⟩
noncomputable def lngV (ks : List Int) (b : Nat) : Int := if (ks.length : Int) - 1 < b then b else (ks.length : Int) - 1
noncomputable def lvlV (ks : List Int) (b nt : Nat) (T : Int) : Int := b + T * (ilOf ks T (rangeKs T (ks.length - T).toNat) + nt)
theorem lngV_bd {ks : List Int} {b : Nat} (h1 : ks.length ≤ 100) (h2 : b ≤ 100) : 0 ≤ lngV ks b ∧ lngV ks b ≤ 100 := by
  unfold lngV
  split <;> omega
structure LessP (ks1 : List Int) (b1 nt1 : Nat) (ks2 : List Int) (b2 nt2 : Nat) (pre : List Int) : Prop where
  all : ∀ T : Int, 2 ≤ T → T < 2 + pre.length → lvlV ks1 b1 nt1 T < lvlV ks2 b2 nt2 T
theorem LessP.nil (ks1 : List Int) (b1 nt1 : Nat) (ks2 : List Int) (b2 nt2 : Nat) : LessP ks1 b1 nt1 ks2 b2 nt2 [] := ⟨fun T h1 h2 => by simp only [List.length_nil] at h2; omega⟩
theorem LessP.snoc {ks1 : List Int} {b1 nt1 : Nat} {ks2 : List Int} {b2 nt2 : Nat} {pre : List Int} {k : Int} (h : LessP ks1 b1 nt1 ks2 b2 nt2 pre) (hk : k = 2 + (pre.length : Int)) (hl : lvlV ks1 b1 nt1 k < lvlV ks2 b2 nt2 k) : LessP ks1 b1 nt1 ks2 b2 nt2 (pre ++ [k]) :=
  ⟨fun T h1 h2 => by
    rw [List.length_append, List.length_singleton] at h2
    by_cases e : T = k
    · rw [e]; exact hl
    · exact h.all T h1 (by omega)⟩
section
variable {w : World} {mean : ExcName → Option Value} {mg mb : PySem.Str → Option Value}
theorem spec_less (raw1 : PySem.Str) (ks1 : List Int) (b1 n1 nt1 : Nat) (x1 d1 D1 E1 : Addr) (vs1 : List Value) (sm1 : Bool) (ta1 tc1 td1 te1 tf1 tg1 tb1 tn1 tt1 : Tok) (raw2 : PySem.Str) (ks2 : List Int) (b2 n2 nt2 : Nat) (x2 d2 D2 E2 : Addr) (vs2 : List Value) (sm2 : Bool) (ta2 tc2 td2 te2 tf2 tg2 tb2 tn2 tt2 : Tok) (hi1 : IntsAre vs1 ks1) (hks1 : ∀ i, 0 ≤ ks1.getD i 0 ∧ ks1.getD i 0 ≤ 100000) (hkl1 : ks1.length ≤ 100) (hbl1 : b1 ≤ 100) (hntl1 : nt1 ≤ 100) (hi2 : IntsAre vs2 ks2) (hks2 : ∀ i, 0 ≤ ks2.getD i 0 ∧ ks2.getD i 0 ≤ 100000) (hkl2 : ks2.length ≤ 100) (hbl2 : b2 ≤ 100) (hntl2 : nt2 ≤ 100)
  (news : List (Addr × Obj)) (dp un : Nat) (gd : Option (List Code)) (cn : PySem.Str) (cs : Scope) (a : Addr) (ccd : Value) (cl : List (PySem.Str × Addr)) (outer : List Env) (A₀ : Around) (base h₀ : Heap) (L : Addr) (m : PySem.Str → Option Value) (s : Shared) (Q E : Value → Shared → Prop)
    (lg : Bool) (hlt0 : ¬ n1 < n2 → lg = false) (hlt1 : n1 < n2 → lg = true ∧ nt1 ≤ nt2 ∧ ∀ T : Int, 2 ≤ T → T ≤ (if lngV ks1 b1 < lngV ks2 b2 then lngV ks2 b2 else lngV ks1 b1) + 1 → lvlV ks1 b1 nt1 T < lvlV ks2 b2 nt2 T)
    (B : Below A₀ base outer h₀) (F : Fr h₀ L s.heap m) (X : (K w.params).In h₀)
    (N : News h₀ L s.heap ((E1, ({ cls := .type "tuple", data := .seq #[.ref D1, .int b1 tb1] } : Obj)) :: (D1, ({ cls := .type "tuple", data := .seq vs1.toArray } : Obj)) :: (x1, instObj 179 d1) :: (d1, wsDict w.params raw1 E1 n1 nt1 sm1 ta1 tc1 td1 te1 tf1 tg1 tn1 tt1) :: (E2, ({ cls := .type "tuple", data := .seq #[.ref D2, .int b2 tb2] } : Obj)) :: (D2, ({ cls := .type "tuple", data := .seq vs2.toArray } : Obj)) :: (x2, instObj 179 d2) :: (d2, wsDict w.params raw2 E2 n2 nt2 sm2 ta2 tc2 td2 te2 tf2 tg2 tn2 tt2) :: news))
    (T : Top q (looseW q loose) mean mg mb h₀) (hk : cs.kind = .function) (hd : dp + 6 < recursionLimit) (hu : un + 600 < cLine)
    (hret : ∀ h' tk', Fr h₀ L h' m → News h₀ L h' ((E1, ({ cls := .type "tuple", data := .seq #[.ref D1, .int b1 tb1] } : Obj)) :: (D1, ({ cls := .type "tuple", data := .seq vs1.toArray } : Obj)) :: (x1, instObj 179 d1) :: (d1, wsDict w.params raw1 E1 n1 nt1 sm1 ta1 tc1 td1 te1 tf1 tg1 tn1 tt1) :: (E2, ({ cls := .type "tuple", data := .seq #[.ref D2, .int b2 tb2] } : Obj)) :: (D2, ({ cls := .type "tuple", data := .seq vs2.toArray } : Obj)) :: (x2, instObj 179 d2) :: (d2, wsDict w.params raw2 E2 n2 nt2 sm2 ta2 tc2 td2 te2 tf2 tg2 tn2 tt2) :: news) → Q (.bool lg) { s with heap := h', toks := tk' }) :
    wpAny (model pr w) (ktrTop dp un gd cn cs L a ccd cl outer) (call (.ref 169) [.ref x1, .ref x2]) Q E s := by
  k_with_none
  k_with "pyIter ref" => refine hold ?_
  k_with "call ref" => (k_here; (with_reducible show wpAny _ _ (call (Value.ref 148) _) _ _ _); refine hold ?_)
  k_with "call ref" => (k_here; (with_reducible show wpAny _ _ (call (Value.ref 141) _) _ _ _); refine hold ?_)
  unfold wsDict at N
  refine wpAny_call ?_
  k_dflt cell_enter
  conv in (fBody (sub (st 11) 6)) => whnf
  have hb1 := lngV_bd hkl1 hbl1
  have hb2 := lngV_bd hkl2 hbl2
  k_steps
  · rw [hlt0 (by omega)] at hret
    exact hret _ _ (by assumption) (by refine' cb_drop ?cbN ?cbS; (case cbN => assumption); (case cbS => kcj_all))
  · have hz := hlt1 (by omega)
    rw [hz.1] at hret
    rw [show decide ((nt1 : Int) ≤ (nt2 : Int)) = true from decide_eq_true (by have := hz.2.1; omega)]
    exact hret _ _ (by assumption) (by refine' cb_drop ?cbN ?cbS; (case cbN => assumption); (case cbS => kcj_all))
  all_goals have hz := hlt1 (by omega)
  all_goals rw [hz.1] at hret
  all_goals have hzT := hz.2.2
  all_goals unfold Hold
  all_goals (rename Fr _ _ _ _ => F9'); (rename News _ _ _ _ => N9')
  all_goals have N8' := news_sub ((E1, ({ cls := .type "tuple", data := .seq #[.ref D1, .int b1 tb1] } : Obj)) :: (D1, ({ cls := .type "tuple", data := .seq vs1.toArray } : Obj)) :: (x1, instObj 179 d1) :: (d1, wsDict w.params raw1 E1 n1 nt1 sm1 ta1 tc1 td1 te1 tf1 tg1 tn1 tt1) :: (E2, ({ cls := .type "tuple", data := .seq #[.ref D2, .int b2 tb2] } : Obj)) :: (D2, ({ cls := .type "tuple", data := .seq vs2.toArray } : Obj)) :: (x2, instObj 179 d2) :: (d2, wsDict w.params raw2 E2 n2 nt2 sm2 ta2 tc2 td2 te2 tf2 tg2 tn2 tt2) :: news) N9' (by kcj_all)
  all_goals (refine spec_longest raw1 ks1 b1 n1 nt1 x1 d1 D1 E1 vs1 sm1 ta1 tc1 td1 te1 tf1 tg1 tb1 tn1 tt1 hi1 (by omega) (by omega) _ _ _ _ _ _ _ _ _ _ _ _ _ _ _ _ _ _ (by assumption) F9' (by assumption) N8' (by assumption) (by first | exact rfl | assumption) (by ktr_room) (by ktr_units) ?_; intro tk9 h9 tk9' F8 N8;  rw [show (if (ks1.length : Int) - 1 < b1 then (b1 : Int) else (ks1.length : Int) - 1) = lngV ks1 b1 from rfl])
  all_goals clear F9' N9' N8'
  all_goals k_steps
  all_goals unfold Hold
  all_goals (rename Fr _ _ _ _ => F9'); (rename News _ _ _ _ => N9')
  all_goals have N8' := news_sub ((E2, ({ cls := .type "tuple", data := .seq #[.ref D2, .int b2 tb2] } : Obj)) :: (D2, ({ cls := .type "tuple", data := .seq vs2.toArray } : Obj)) :: (x2, instObj 179 d2) :: (d2, wsDict w.params raw2 E2 n2 nt2 sm2 ta2 tc2 td2 te2 tf2 tg2 tn2 tt2) :: (E1, ({ cls := .type "tuple", data := .seq #[.ref D1, .int b1 tb1] } : Obj)) :: (D1, ({ cls := .type "tuple", data := .seq vs1.toArray } : Obj)) :: (x1, instObj 179 d1) :: (d1, wsDict w.params raw1 E1 n1 nt1 sm1 ta1 tc1 td1 te1 tf1 tg1 tn1 tt1) :: news) N9' (by kcj_all)
  all_goals (refine spec_longest raw2 ks2 b2 n2 nt2 x2 d2 D2 E2 vs2 sm2 ta2 tc2 td2 te2 tf2 tg2 tb2 tn2 tt2 hi2 (by omega) (by omega) _ _ _ _ _ _ _ _ _ _ _ _ _ _ _ _ _ _ (by assumption) F9' (by assumption) N8' (by assumption) (by first | exact rfl | assumption) (by ktr_room) (by ktr_units) ?_; intro tk8 h8 tk8' F8 N8; rw [show (if (ks2.length : Int) - 1 < b2 then (b2 : Int) else (ks2.length : Int) - 1) = lngV ks2 b2 from rfl])
  all_goals clear F9' N9' N8'
  all_goals k_steps
  all_goals unfold Hold
  · k_with "state" => first | exact LessP.nil _ _ _ _ _ _ | exact LessP.snoc (by assumption) (by omega) (by omega)
    k_search (fun pre => LessP ks1 b1 nt1 ks2 b2 nt2 pre)
    · have hk0 : 2 ≤ kN := by omega
      have hk1 : kN ≤ 1000 := by (try split at kLt); all_goals omega
      k_steps
      unfold Hold
      (rename Fr _ _ _ _ => F9'); (rename News _ _ _ _ => N9')
      have N8' := news_sub ((E1, ({ cls := .type "tuple", data := .seq #[.ref D1, .int b1 tb1] } : Obj)) :: (D1, ({ cls := .type "tuple", data := .seq vs1.toArray } : Obj)) :: (x1, instObj 179 d1) :: (d1, wsDict w.params raw1 E1 n1 nt1 sm1 ta1 tc1 td1 te1 tf1 tg1 tn1 tt1) :: (E2, ({ cls := .type "tuple", data := .seq #[.ref D2, .int b2 tb2] } : Obj)) :: (D2, ({ cls := .type "tuple", data := .seq vs2.toArray } : Obj)) :: (x2, instObj 179 d2) :: (d2, wsDict w.params raw2 E2 n2 nt2 sm2 ta2 tc2 td2 te2 tf2 tg2 tn2 tt2) :: (news ++ kOwn)) N9' (by kcj_all)
      refine spec_indent raw1 ks1 b1 n1 nt1 x1 d1 D1 E1 vs1 sm1 kN ta1 _ tc1 td1 te1 tf1 tg1 tb1 tn1 tt1 hi1 hks1 (by omega) (by omega) (by omega) (by omega) (by omega) _ _ _ _ _ _ _ _ _ _ _ _ _ _ _ _ _ _ (by assumption) F9' (by assumption) N8' (by assumption) (by first | exact rfl | assumption) (by ktr_room) (by ktr_units) ?_
      intro ti hi9 tki' F7 N7
      rw [show (b1 : Int) + kN * (ilOf ks1 kN (rangeKs kN (ks1.length - kN).toNat) + nt1) = lvlV ks1 b1 nt1 kN from rfl]
      clear F9' N9' N8'
      k_steps
      unfold Hold
      (rename Fr _ _ _ _ => F9'); (rename News _ _ _ _ => N9')
      have N8' := news_sub ((E2, ({ cls := .type "tuple", data := .seq #[.ref D2, .int b2 tb2] } : Obj)) :: (D2, ({ cls := .type "tuple", data := .seq vs2.toArray } : Obj)) :: (x2, instObj 179 d2) :: (d2, wsDict w.params raw2 E2 n2 nt2 sm2 ta2 tc2 td2 te2 tf2 tg2 tn2 tt2) :: (E1, ({ cls := .type "tuple", data := .seq #[.ref D1, .int b1 tb1] } : Obj)) :: (D1, ({ cls := .type "tuple", data := .seq vs1.toArray } : Obj)) :: (x1, instObj 179 d1) :: (d1, wsDict w.params raw1 E1 n1 nt1 sm1 ta1 tc1 td1 te1 tf1 tg1 tn1 tt1) :: (news ++ kOwn)) N9' (by kcj_all)
      refine spec_indent raw2 ks2 b2 n2 nt2 x2 d2 D2 E2 vs2 sm2 kN ta2 _ tc2 td2 te2 tf2 tg2 tb2 tn2 tt2 hi2 hks2 (by omega) (by omega) (by omega) (by omega) (by omega) _ _ _ _ _ _ _ _ _ _ _ _ _ _ _ _ _ _ (by assumption) F9' (by assumption) N8' (by assumption) (by first | exact rfl | assumption) (by ktr_room) (by ktr_units) ?_
      intro tj hj9 tkj' F5 N5
      rw [show (b2 : Int) + kN * (ilOf ks2 kN (rangeKs kN (ks2.length - kN).toNat) + nt2) = lvlV ks2 b2 nt2 kN from rfl]
      clear F9' N9' N8'
      k_steps
      all_goals first
        | (exfalso; have hx := hzT kN (by omega) (by omega); omega)
        | (refine kst_end () (by assumption) (by assumption) (by kcj_all) (by kcj_all) rfl trivial (fun p hp => nomatch hp) ?_ (LessP.snoc (by assumption) (by omega) (by omega))
           intro z h1 _ h3
           simp only [h1, if_false])
        | trace_state
    · k_steps
      exact hret _ _ (by assumption) (by refine' cb_drop ?cbN ?cbS; (case cbN => assumption); (case cbS => kcj_all))
  · k_with "state" => first | exact LessP.nil _ _ _ _ _ _ | exact LessP.snoc (by assumption) (by omega) (by omega)
    k_search (fun pre => LessP ks1 b1 nt1 ks2 b2 nt2 pre)
    · have hk0 : 2 ≤ kN := by omega
      have hk1 : kN ≤ 1000 := by (try split at kLt); all_goals omega
      k_steps
      unfold Hold
      (rename Fr _ _ _ _ => F9'); (rename News _ _ _ _ => N9')
      have N8' := news_sub ((E1, ({ cls := .type "tuple", data := .seq #[.ref D1, .int b1 tb1] } : Obj)) :: (D1, ({ cls := .type "tuple", data := .seq vs1.toArray } : Obj)) :: (x1, instObj 179 d1) :: (d1, wsDict w.params raw1 E1 n1 nt1 sm1 ta1 tc1 td1 te1 tf1 tg1 tn1 tt1) :: (E2, ({ cls := .type "tuple", data := .seq #[.ref D2, .int b2 tb2] } : Obj)) :: (D2, ({ cls := .type "tuple", data := .seq vs2.toArray } : Obj)) :: (x2, instObj 179 d2) :: (d2, wsDict w.params raw2 E2 n2 nt2 sm2 ta2 tc2 td2 te2 tf2 tg2 tn2 tt2) :: (news ++ kOwn)) N9' (by kcj_all)
      refine spec_indent raw1 ks1 b1 n1 nt1 x1 d1 D1 E1 vs1 sm1 kN ta1 _ tc1 td1 te1 tf1 tg1 tb1 tn1 tt1 hi1 hks1 (by omega) (by omega) (by omega) (by omega) (by omega) _ _ _ _ _ _ _ _ _ _ _ _ _ _ _ _ _ _ (by assumption) F9' (by assumption) N8' (by assumption) (by first | exact rfl | assumption) (by ktr_room) (by ktr_units) ?_
      intro ti hi9 tki' F7 N7
      rw [show (b1 : Int) + kN * (ilOf ks1 kN (rangeKs kN (ks1.length - kN).toNat) + nt1) = lvlV ks1 b1 nt1 kN from rfl]
      clear F9' N9' N8'
      k_steps
      unfold Hold
      (rename Fr _ _ _ _ => F9'); (rename News _ _ _ _ => N9')
      have N8' := news_sub ((E2, ({ cls := .type "tuple", data := .seq #[.ref D2, .int b2 tb2] } : Obj)) :: (D2, ({ cls := .type "tuple", data := .seq vs2.toArray } : Obj)) :: (x2, instObj 179 d2) :: (d2, wsDict w.params raw2 E2 n2 nt2 sm2 ta2 tc2 td2 te2 tf2 tg2 tn2 tt2) :: (E1, ({ cls := .type "tuple", data := .seq #[.ref D1, .int b1 tb1] } : Obj)) :: (D1, ({ cls := .type "tuple", data := .seq vs1.toArray } : Obj)) :: (x1, instObj 179 d1) :: (d1, wsDict w.params raw1 E1 n1 nt1 sm1 ta1 tc1 td1 te1 tf1 tg1 tn1 tt1) :: (news ++ kOwn)) N9' (by kcj_all)
      refine spec_indent raw2 ks2 b2 n2 nt2 x2 d2 D2 E2 vs2 sm2 kN ta2 _ tc2 td2 te2 tf2 tg2 tb2 tn2 tt2 hi2 hks2 (by omega) (by omega) (by omega) (by omega) (by omega) _ _ _ _ _ _ _ _ _ _ _ _ _ _ _ _ _ _ (by assumption) F9' (by assumption) N8' (by assumption) (by first | exact rfl | assumption) (by ktr_room) (by ktr_units) ?_
      intro tj hj9 tkj' F5 N5
      rw [show (b2 : Int) + kN * (ilOf ks2 kN (rangeKs kN (ks2.length - kN).toNat) + nt2) = lvlV ks2 b2 nt2 kN from rfl]
      clear F9' N9' N8'
      k_steps
      all_goals first
        | (exfalso; have hx := hzT kN (by omega) (by omega); omega)
        | (refine kst_end () (by assumption) (by assumption) (by kcj_all) (by kcj_all) rfl trivial (fun p hp => nomatch hp) ?_ (LessP.snoc (by assumption) (by omega) (by omega))
           intro z h1 _ h3
           simp only [h1, if_false])
        | trace_state
    · k_steps
      exact hret _ _ (by assumption) (by refine' cb_drop ?cbN ?cbS; (case cbN => assumption); (case cbS => kcj_all))
end
end Hd
end
end
section
open PySem PySem.W PySem.Calls PyProof.Rows
set_option maxRecDepth 100000
set_option maxHeartbeats 8000000
noncomputable section
namespace Hd
theorem filledEq : rw' = PySem.Challenge.rw_tr0065_03 ∧ K = K := by
  k_fill
  w_top off
  exact ⟨rfl, rfl⟩
section
variable {prog : Program} {w : World} {A : Around} {E : Value → Shared → Prop} {s : Shared} {h₀ : Heap} {L : Addr} {news : List (Addr × Obj)} {va vb : Value} {d e : Dat} {Q : Value → Shared → Prop}
open Classical in
theorem dat_eqv (ha : kqdOk 8 d = true) (hb : kqdOk 8 e = true) : PyData.eqv (kqdP d) (kqdP e) = decide (d = e) := by
  have q := kqd_eqv 8 d e 8 ha hb
  by_cases hq : d = e
  · rw [decide_eq_true hq]; exact q.mpr hq
  · rw [decide_eq_false hq]; exact Bool.eq_false_iff.mpr fun x => hq (q.mp x)
theorem dat_shaped (ha : kqdOk 8 d = true) : SeqAt.shaped (kqdP d) = true := by
  have la := kqd_lay 8 d ha
  unfold SeqAt.shaped; rw [la.1, Bool.true_and]; exact decide_eq_true (Nat.le_trans la.2 (by decide))
open Classical in
theorem dat_eq (N : News h₀ L s.heap news) (Da : DatIn news va d) (Db : DatIn news vb e) (ha : kqdOk 8 d = true) (hb : kqdOk 8 e = true) (hu : A.units + 64 < cLine) (h : Q (.bool (decide (d = e))) s) : wpAny (model prog w) A (compareOp .Eq va vb) Q E s := by
  obtain ⟨as, ra⟩ := kqd_in N 8 Da ha
  obtain ⟨bs, rb⟩ := kqd_in N 8 Db hb
  exact eq_dataH ra rb (dat_shaped ha) (dat_shaped hb) hu (by rw [dat_eqv ha hb]; exact h)
open Classical in
theorem dat_ne (N : News h₀ L s.heap news) (Da : DatIn news va d) (Db : DatIn news vb e) (ha : kqdOk 8 d = true) (hb : kqdOk 8 e = true) (hu : A.units + 64 < cLine) (h : Q (.bool (!decide (d = e))) s) : wpAny (model prog w) A (compareOp .NotEq va vb) Q E s := by
  obtain ⟨as, ra⟩ := kqd_in N 8 Da ha
  obtain ⟨bs, rb⟩ := kqd_in N 8 Db hb
  exact ne_dataH ra rb (dat_shaped ha) (dat_shaped hb) hu (by rw [dat_eqv ha hb]; exact h)
theorem dat_ints {vs : List Value} {ks : List Int} (h : IntsAre vs ks) : DatAll news vs (ks.map Dat.int) := by
  induction h with
  | nil => exact .nil
  | cons n t _ ih => exact .cons (.int n t) ih
theorem ints_ok (ks : List Int) : (ks.map Dat.int).all (kqdOk 7) = true := by
  rw [List.all_map, List.all_eq_true]; intro x _; rfl
end
section
variable {w : World} {mean : ExcName → Option Value} {mg mb : PySem.Str → Option Value}
theorem spec_equal (raw1 : PySem.Str) (ks1 : List Int) (b1 n1 nt1 : Nat) (x1 d1 D1 E1 : Addr) (vs1 : List Value) (sm1 : Bool) (ta1 tc1 td1 te1 tf1 tg1 tb1 tn1 tt1 : Tok) (raw2 : PySem.Str) (ks2 : List Int) (b2 n2 nt2 : Nat) (x2 d2 D2 E2 : Addr) (vs2 : List Value) (sm2 : Bool) (ta2 tc2 td2 te2 tf2 tg2 tb2 tn2 tt2 : Tok) (hi1 : IntsAre vs1 ks1) (hks1 : ∀ i, 0 ≤ ks1.getD i 0 ∧ ks1.getD i 0 ≤ 100000) (hkl1 : ks1.length ≤ 100) (hbl1 : b1 ≤ 100) (hntl1 : nt1 ≤ 100) (hi2 : IntsAre vs2 ks2) (hks2 : ∀ i, 0 ≤ ks2.getD i 0 ∧ ks2.getD i 0 ≤ 100000) (hkl2 : ks2.length ≤ 100) (hbl2 : b2 ≤ 100) (hntl2 : nt2 ≤ 100)
  (news : List (Addr × Obj)) (dp un : Nat) (gd : Option (List Code)) (cn : PySem.Str) (cs : Scope) (a : Addr) (ccd : Value) (cl : List (PySem.Str × Addr)) (outer : List Env) (A₀ : Around) (base h₀ : Heap) (L : Addr) (m : PySem.Str → Option Value) (s : Shared) (Q E : Value → Shared → Prop)
    (B : Below A₀ base outer h₀) (F : Fr h₀ L s.heap m) (X : (K w.params).In h₀)
    (N : News h₀ L s.heap ((E1, ({ cls := .type "tuple", data := .seq #[.ref D1, .int b1 tb1] } : Obj)) :: (D1, ({ cls := .type "tuple", data := .seq vs1.toArray } : Obj)) :: (x1, instObj 179 d1) :: (d1, wsDict w.params raw1 E1 n1 nt1 sm1 ta1 tc1 td1 te1 tf1 tg1 tn1 tt1) :: (E2, ({ cls := .type "tuple", data := .seq #[.ref D2, .int b2 tb2] } : Obj)) :: (D2, ({ cls := .type "tuple", data := .seq vs2.toArray } : Obj)) :: (x2, instObj 179 d2) :: (d2, wsDict w.params raw2 E2 n2 nt2 sm2 ta2 tc2 td2 te2 tf2 tg2 tn2 tt2) :: news))
    (T : Top q (looseW q loose) mean mg mb h₀) (hk : cs.kind = .function) (hd : dp + 6 < recursionLimit) (hu : un + 600 < cLine)
    (hret : ∀ h' tk', Fr h₀ L h' m → News h₀ L h' ((E1, ({ cls := .type "tuple", data := .seq #[.ref D1, .int b1 tb1] } : Obj)) :: (D1, ({ cls := .type "tuple", data := .seq vs1.toArray } : Obj)) :: (x1, instObj 179 d1) :: (d1, wsDict w.params raw1 E1 n1 nt1 sm1 ta1 tc1 td1 te1 tf1 tg1 tn1 tt1) :: (E2, ({ cls := .type "tuple", data := .seq #[.ref D2, .int b2 tb2] } : Obj)) :: (D2, ({ cls := .type "tuple", data := .seq vs2.toArray } : Obj)) :: (x2, instObj 179 d2) :: (d2, wsDict w.params raw2 E2 n2 nt2 sm2 ta2 tc2 td2 te2 tf2 tg2 tn2 tt2) :: news) → Q (.bool (decide (ks1 = ks2 ∧ b1 = b2))) { s with heap := h', toks := tk' }) :
    wpAny (model pr w) (ktrTop dp un gd cn cs L a ccd cl outer) (call (.ref 155) [.ref x1, .ref x2]) Q E s := by
  k_with_none
  k_with "compareOp Eq ref ref" => refine hold ?_
  unfold wsDict at N
  refine wpAny_call ?_
  k_dflt cell_enter
  conv in (fBody (sub (st 11) 4)) => whnf
  k_steps
  unfold Hold
  (rename Fr _ _ _ _ => F9'); (rename News _ _ _ _ => N9')
  refine dat_eq N9' (d := Dat.tuple [Dat.tuple (ks1.map Dat.int), Dat.int b1]) (e := Dat.tuple [Dat.tuple (ks2.map Dat.int), Dat.int b2]) (DatIn.tuple (vs := [.ref D1, .int b1 tb1]) (n := 0) (by k_mem) (.cons (DatIn.tuple (vs := vs1) (n := 0) (by k_mem) (dat_ints hi1)) (.cons (.int _ _) .nil))) (DatIn.tuple (vs := [.ref D2, .int b2 tb2]) (n := 0) (by k_mem) (.cons (DatIn.tuple (vs := vs2) (n := 0) (by k_mem) (dat_ints hi2)) (.cons (.int _ _) .nil))) ?_ ?_ ?_ ?_
  · simp [kqdOk, List.all_map, Function.comp_def]
  · simp [kqdOk, List.all_map, Function.comp_def]
  · first | ktr_units | (show un + 64 < cLine; omega) | (show un + _ + 64 < cLine; omega)
  · have hinj : ∀ (l l' : List Int), l.map Dat.int = l'.map Dat.int → l = l' := by
      intro l
      induction l with
      | nil => intro l' h; cases l' with | nil => rfl | cons _ _ => simp at h
      | cons a r ih => intro l' h; cases l' with | nil => simp at h | cons b r' => simp at h; rw [h.1, ih r' h.2]
    have key : Dat.tuple [Dat.tuple (ks1.map Dat.int), Dat.int b1] = Dat.tuple [Dat.tuple (ks2.map Dat.int), Dat.int b2] ↔ (ks1 = ks2 ∧ b1 = b2) := by
      constructor
      · intro h
        have h1 := List.cons.inj (Dat.tuple.inj h)
        have h2 := List.cons.inj h1.2
        have h3 := Dat.int.inj h2.1
        exact ⟨hinj _ _ (Dat.tuple.inj h1.1), by omega⟩
      · rintro ⟨h1, h2⟩; rw [h1, h2]
    rw [(@decide_eq_decide _ _ (Classical.propDecidable _) inferInstance).mpr key]
    k_steps
    exact hret _ _ (by assumption) (by refine' cb_drop ?cbN ?cbS; (case cbN => assumption); (case cbS => kcj_all))
end
end Hd
end
end
section
open PySem PySem.W PySem.Calls PyProof.Rows
set_option maxRecDepth 100000
set_option maxHeartbeats 4000000
noncomputable section
namespace Hd
local macro_rules | `(tactic| walk_at "idle 0") => `(tactic| skip)
theorem filledRa : rw' = PySem.Challenge.rw_tr0065_03 ∧ K = K := by
  k_fill
  w_top off
  exact ⟨rfl, rfl⟩
noncomputable def lawS (i : Nat) : Stmt := match (fBody (st 18))[i]? with | some s => s | none => .Pass default
section
variable {w : World} {mean : ExcName → Option Value} {mg mb : PySem.Str → Option Value}
theorem law_numbers (l : Addr) (vs : List Value) (ns : List Int) (hi : IntsAre vs ns) (hlay : PyData.layable0 (.list (ns.map .int)) = true) (o1 o2 : Obj) (news : List (Addr × Obj)) (fa : Addr) (cd : Value) (dp un : Nat) (gd : Option (List Code)) (A₀ : Around) (base h₀ : Heap) (s : Shared) (Q : Flow → Shared → Prop)
    (B : Below A₀ base [] h₀) (F : Fr h₀ h₀.objs.size s.heap (bindL (envOfC (PySem.Str.ofString "law") (fScope (st 18)) h₀.objs.size fa cd).kindOf [(PySem.Str.ofString "script", .ref l)] fun _ => none)) (hl0 : h₀.IsList l vs.toArray)
    (X : (K w.params).In h₀) (N : News h₀ h₀.objs.size s.heap ((h₀.objs.size + 1 + 1, o2) :: (h₀.objs.size + 1, o1) :: news)) (T : Top q (looseW q loose) mean mg mb h₀) (hd : dp + 20 < recursionLimit) (hu : un + 2000 < cLine)
    (hret : ∀ (D : Addr) (us : List Value) (ks : List Int) (nn : Nat) (h' : Heap) (tk' : Nat), IntsAre us ks → ks.length ≤ 19 → (∀ x ∈ ks, 0 ≤ x ∧ x ≤ 1000000) → Fr h₀ h₀.objs.size h' (fun y => if y = PySem.Str.ofString "numbers" then some (.ref D) else (bindL (envOfC (PySem.Str.ofString "law") (fScope (st 18)) h₀.objs.size fa cd).kindOf [(PySem.Str.ofString "script", .ref l)] fun _ => none) y) → News h₀ h₀.objs.size h' ((D, W.listOf (List.toArray us) nn) :: (h₀.objs.size + 1 + 1, o2) :: (h₀.objs.size + 1, o1) :: news) → Q .next { s with heap := h', toks := tk' }) :
    wpAny (model pr w) (ktrTop dp un gd (PySem.Str.ofString "law") (fScope (st 18)) h₀.objs.size fa cd (cellsFrom (h₀.objs.size + 1) (fScope (st 18)).names []) []) (exec (lawS 0) (envOfC (PySem.Str.ofString "law") (fScope (st 18)) h₀.objs.size fa cd)) Q (fun _ _ => False) s := by
  k_with_none
  conv in (lawS 0) => whnf
  k_steps
  (rename Fr _ _ _ _ => F9'); (rename News _ _ _ _ => N9'); (rename IntsAre _ (_ ++ _) => hI9)
  refine hret _ _ _ _ _ _ hI9 ?_ ?_ F9' (news_sub _ N9' (by kcj_all))
  rotate_left
  · intro x hx
    rcases List.mem_append.mp hx with hx | hx
    · obtain ⟨y, _, rfl⟩ := List.mem_map.mp hx
      have h0 := Int.fmod_nonneg_of_pos y (b := 1000000) (by omega)
      have h1 := Int.fmod_lt_of_pos y (b := 1000000) (by omega)
      exact ⟨h0, Int.le_of_lt h1⟩
    · have hd : ∀ z ∈ ([5, 1246, 36, 3, 7, 19, 0, 4, 1, 28, 10] : List Int), 0 ≤ z ∧ z ≤ 1000000 := by decide
      exact hd x hx
  rw [List.length_append, List.length_map, List.length_take]
  have : min 8 ns.length ≤ 8 := Nat.min_le_left _ _
  simp only [List.length_cons, List.length_nil]
  omega
end
end Hd
end
end
section
open PySem PySem.W PySem.Calls PyProof.Rows
set_option maxRecDepth 100000
set_option maxHeartbeats 4000000
noncomputable section
namespace Hd
theorem filledRb : rw' = PySem.Challenge.rw_tr0065_03 ∧ K = K := by
  k_fill
  w_top off
  exact ⟨rfl, rfl⟩
theorem off1_mem {D : Addr} : ∀ {l : List (Addr × Obj)}, LCg.Off1 D l → ∀ p ∈ l, p.1 ≠ D
  | [], _, _, h => nomatch h
  | _ :: _, x, p, h => by
    rcases List.mem_cons.mp h with rfl | h
    · exact x.1
    · exact off1_mem x.2 p h
theorem over1 {m : PySem.Str → Option Value} {k1 : PySem.Str} {v1 : Value} (h1 : m k1 = some v1) : (fun z => if z = k1 then some v1 else m z) = m := by
  funext z
  by_cases e1 : z = k1
  · rw [if_pos e1, e1, h1]
  · rw [if_neg e1]
theorem over_in {m : PySem.Str → Option Value} {k k1 : PySem.Str} {v v1 : Value} (h1 : m k1 = some v1) : (fun y => if y = k then some v else (fun z => if z = k1 then some v1 else m z) y) = fun y => if y = k then some v else m y := by
  rw [over1 h1]
theorem fr_eq {h₀ h : Heap} {L : Addr} {m m' : PySem.Str → Option Value} (e : m = m') (F : Fr h₀ L h m) : Fr h₀ L h m' := e ▸ F
inductive PrAre (news : List (Addr × Obj)) : List Value → List Int → Prop
  | nil : PrAre news [] []
  | cons (D : Addr) (x : Int) (t1 t2 : Tok) {vs ks} : (D, pairO (tx [sgC x]) (tx (foL x)) t1 t2) ∈ news → PrAre news vs ks → PrAre news (.ref D :: vs) (x :: ks)
theorem PrAre.mono {news news' : List (Addr × Obj)} (hs : ∀ p ∈ news, p ∈ news') {vs : List Value} {ks : List Int} (h : PrAre news vs ks) : PrAre news' vs ks := by
  induction h with
  | nil => exact .nil
  | cons D x t1 t2 hm _ ih => exact .cons D x t1 t2 (hs _ hm) ih
theorem PrAre.snoc {news : List (Addr × Obj)} {vs : List Value} {ks : List Int} (h : PrAre news vs ks) {D : Addr} {x : Int} {t1 t2 : Tok} (hm : (D, pairO (tx [sgC x]) (tx (foL x)) t1 t2) ∈ news) : PrAre news (vs ++ [.ref D]) (ks ++ [x]) := by
  induction h with
  | nil => exact .cons D x t1 t2 hm .nil
  | cons D' x' t1' t2' hm' _ ih => exact .cons D' x' t1' t2' hm' ih
theorem PrAre.length {news : List (Addr × Obj)} {vs : List Value} {ks : List Int} (h : PrAre news vs ks) : vs.length = ks.length := by
  induction h with
  | nil => rfl
  | cons D x t1 t2 hm _ ih => simp [ih]
theorem PrAre.at {news : List (Addr × Obj)} {vs : List Value} {ks : List Int} (h : PrAre news vs ks) : ∀ (i : Nat) v, vs[i]? = some v → ∃ D x t1 t2, v = .ref D ∧ ks[i]? = some x ∧ (D, pairO (tx [sgC x]) (tx (foL x)) t1 t2) ∈ news := by
  induction h with
  | nil => intro i v e; simp at e
  | cons D x t1 t2 hm _ ih =>
    intro i v e
    cases i with
    | zero => simp at e; exact ⟨D, x, t1, t2, e.symm, rfl, hm⟩
    | succ i => simp at e; obtain ⟨D', x', a, b, c, d, f⟩ := ih i v e; exact ⟨D', x', a, b, c, by simpa using d, f⟩
noncomputable def PrEl (nw : List (Addr × Obj)) (k : Int) (y : Value) (news' : List (Addr × Obj)) : Prop := (∀ q ∈ nw, q ∈ news') ∧ ∃ D t1 t2, y = .ref D ∧ (D, pairO (tx [sgC k]) (tx (foL k)) t1 t2) ∈ news'
section
variable {prog : Program} {w : World} {A : Around} {h₀ : Heap} {L : Addr} {m : PySem.Str → Option Value} {env : Env} {elt : PySem.Expr} {x : PySem.Str} {scope : Scope} {cl : List (PySem.Str × Addr)} {s : Shared} {S : List (Addr × Obj) → Prop} {Fin : List Value → List (Addr × Obj) → Prop}
theorem pr_rest (bs : List (Addr × Obj)) {us : List Value} {ks : List Int} (hi : IntsAre us ks) (hS : ∀ nw, (∀ q ∈ bs, q ∈ nw) → S nw)
    (turn : ∀ k t nw I oI C oC D m₂ ys h tk (E' : Value → Shared → Prop), LCg.NsObj oC m₂ → m₂ x = some (.int k t) → Fr h₀ L h m → News h₀ L h ((I, oI) :: (C, oC) :: (D, LCg.lst ys) :: nw) → LCg.Off3 I C D nw → ((@Ne Nat I C) ∧ (@Ne Nat I D) ∧ (@Ne Nat C D)) → (∀ q ∈ bs, q ∈ nw) →
      wpAny (model prog w) A (eval elt (compEnvC scope cl C env)) (LCg.CompEnd h₀ L m { s with heap := h, toks := tk } I oI C oC D (LCg.lst ys) (fun nw => ∀ q ∈ bs, q ∈ nw) (fun y news' => PrEl nw k y news')) E' { s with heap := h, toks := tk })
    (fin : ∀ ys nw, PrAre nw ys ks → (∀ q ∈ bs, q ∈ nw) → Fin ys nw) : LCg.CompRest prog w A h₀ L m env elt x scope cl s S (fun i v => us.toArray[i]? = some v) Fin us.toArray.size 0 [] bs := by
  have hlen : us.toArray.size = ks.length := by rw [List.size_toArray]; exact hi.length
  have key : ∀ (j i : Nat) (ys : List Value) (nw : List (Addr × Obj)), i + j = ks.length → PrAre nw ys (ks.take i) → (∀ q ∈ bs, q ∈ nw) → LCg.CompRest prog w A h₀ L m env elt x scope cl s S (fun i v => us.toArray[i]? = some v) Fin j i ys nw := by
    intro j
    induction j with
    | zero =>
      intro i ys nw hi' hy hs
      have e : i = ks.length := by omega
      subst e
      rw [List.take_length] at hy
      exact LCg.CompRest.zero (fin ys nw hy hs)
    | succ j ih =>
      intro i ys nw hi' hy hs
      refine LCg.CompRest.succ ?_
      intro v I oI C oC D m₂ h tk E' hv hC hx F N off ne
      obtain ⟨k, t, e, hk⟩ := IntsAre.at hi i v (by simpa using hv)
      subst e
      refine wpAny_mono (turn k t nw I oI C oC D m₂ ys h tk E' hC hx F N off ne hs) (fun y s₂ hq => ?_) fun _ _ e => e
      obtain ⟨h', tk', nw', e, F', N', off', hS', hsub, D', t1, t2, hy', hm⟩ := hq
      refine ⟨h', tk', nw', e, F', N', off', hS _ hS', ?_⟩
      rw [hy']
      refine ih (i + 1) _ _ (by omega) ?_ hS'
      rw [List.take_add_one, hk]
      exact (hy.mono hsub).snoc hm
  rw [hlen]
  exact key ks.length 0 [] bs (by omega) (by simp only [List.take_zero]; exact .nil) fun q h => h
end
section
variable {w : World} {mean : ExcName → Option Value} {mg mb : PySem.Str → Option Value}
theorem law_signs (D0 : Addr) (us : List Value) (ks : List Int) (nn : Nat) (hi : IntsAre us ks) (hk19 : ks.length ≤ 19) (mm : PySem.Str → Option Value) (hnum : mm (PySem.Str.ofString "numbers") = some (.ref D0)) (o1 o2 : Obj) (news : List (Addr × Obj)) (fa : Addr) (cd : Value) (dp un : Nat) (gd : Option (List Code)) (A₀ : Around) (base h₀ : Heap) (s : Shared) (Q : Flow → Shared → Prop)
    (B : Below A₀ base [] h₀) (F : Fr h₀ h₀.objs.size s.heap mm) 
    (X : (K w.params).In h₀) (N : News h₀ h₀.objs.size s.heap ((D0, W.listOf (List.toArray us) nn) :: (h₀.objs.size + 1 + 1, o2) :: (h₀.objs.size + 1, o1) :: news)) (T : Top q (looseW q loose) mean mg mb h₀) (hd : dp + 20 < recursionLimit) (hu : un + 2000 < cLine)
    (hret : ∀ (D : Addr) (vs : List Value) (n' : Nat) (nw : List (Addr × Obj)) (h' : Heap) (tk' : Nat), PrAre nw vs ks → (∀ q ∈ (D0, W.listOf (List.toArray us) nn) :: (h₀.objs.size + 1 + 1, o2) :: (h₀.objs.size + 1, o1) :: news, q ∈ nw) → Fr h₀ h₀.objs.size h' (fun y => if y = PySem.Str.ofString "signs" then some (.ref D) else mm y) → News h₀ h₀.objs.size h' ((D, W.listOf (List.toArray vs) n') :: nw) → (∀ p ∈ nw, p.1 ≠ D) → Q .next { s with heap := h', toks := tk' }) :
    wpAny (model pr w) (ktrTop dp un gd (PySem.Str.ofString "law") (fScope (st 18)) h₀.objs.size fa cd (cellsFrom (h₀.objs.size + 1) (fScope (st 18)).names []) []) (exec (lawS 1) (envOfC (PySem.Str.ofString "law") (fScope (st 18)) h₀.objs.size fa cd)) Q (fun _ _ => False) s := by
  k_with_none
  k_with "CompSrc" => refine hold ?_
  k_with "exec Assign cons ListComp" => refine hold ?_
  k_with "call ref" => (k_here; (with_reducible show wpAny _ _ (call (Value.ref 190) _) _ _ _); refine hold ?_)
  conv in (lawS 1) => whnf
  have F0 := fr_eq (over1 hnum).symm F
  clear F
  k_steps
  unfold Hold
  k_dflt (refine LCg.Assign_ListComp_U (F₀ := by k_asm) (by rfl) (by with_unfolding_all rfl) (by with_unfolding_all rfl) (by decide) (by rfl) (by decide) (by rfl) (by rfl) (by rfl) ?_)
  k_steps
  unfold Hold
  (rename Fr _ _ _ _ => F9'); (rename News _ _ _ _ => N9')
  k_dflt (refine LCg.CompSrc.ledger (by rfl) F9' N9' (by k_mem) (by rw [List.size_toArray, hi.length, sizeLine_eq]; omega) ?_)
  intro g'
  refine pr_rest _ hi (fun nw hs => .inr ⟨_, hs _ (.head _), rfl, _, rfl⟩) (fun k' t' nw I' oI' C' oC' D' m' ys' h' tk' E' hC' hx' F' N' off' ne' hS => ?_) ?_
  · k_steps
    unfold Hold
    refine spec_sign k' t' _ _ _ _ _ _ _ _ _ _ _ _ _ _ _ _ _ _ B F' X N' T (by exact rfl) (by omega) (by omega) ?_
    intro Ds t1 t2 h9 tk9 hlt F8 N8
    exact LCg.CompEnd.intro F8 N8 ((Ds, pairO (tx [sgC k']) (tx (foL k')) t1 t2) :: nw) (by kcj_all) ⟨⟨Nat.ne_of_gt hlt.1, Nat.ne_of_gt hlt.2.1, Nat.ne_of_gt hlt.2.2.1⟩, off'⟩ (fun q h => .tail _ (hS q h)) ⟨fun q h => .tail _ h, Ds, t1, t2, rfl, .head _⟩
  · intro ys nw hp hs
    k_steps
    rename_i Dz hz tkz Fz Nz oz
    exact hret Dz ys ys.length nw _ _ hp hs (fr_eq (over_in hnum) Fz) Nz (off1_mem oz)
end
end Hd
end
end
section
open PySem PySem.W PySem.Calls PyProof.Rows
set_option maxRecDepth 100000
set_option maxHeartbeats 4000000
noncomputable section
namespace Hd
local macro_rules | `(tactic| walk_at "idle 0") => `(tactic| skip)
theorem filledRc : rw' = PySem.Challenge.rw_tr0065_03 ∧ K = K := by
  k_fill
  w_top off
  exact ⟨rfl, rfl⟩
theorem flat_map_one (l : List Int) : (l.map fun x => [sgC x]).flatten = l.map sgC := by
  induction l with
  | nil => rfl
  | cons a r ih => rw [List.map_cons, List.flatten_cons, ih]; rfl
section
variable {prog : Program} {w : World} {A : Around} {h₀ : Heap} {L : Addr} {m : PySem.Str → Option Value} {env : Env} {elt : PySem.Expr} {x x₂ : PySem.Str} {scope : Scope} {cl : List (PySem.Str × Addr)} {s : Shared} {S : List (Addr × Obj) → Prop} {Fin : List Value → List (Addr × Obj) → Prop}
theorem sp_rest (bs bt : List (Addr × Obj)) {vs : List Value} {ks : List Int} (hp : PrAre bt vs ks) (hbt : ∀ q ∈ bt, q ∈ bs) (g : Int → List Nat)
    (turn : ∀ k t1 t2 I oI C oC D m₂ ys h tk (E' : Value → Shared → Prop), LCg.NsObj oC m₂ → m₂ x = some (.str (tx [sgC k]) t1) → m₂ x₂ = some (.str (tx (foL k)) t2) → Fr h₀ L h m → News h₀ L h ((I, oI) :: (C, oC) :: (D, LCg.lst ys) :: bs) → LCg.Off3 I C D bs → ((@Ne Nat I C) ∧ (@Ne Nat I D) ∧ (@Ne Nat C D)) →
      wpAny (model prog w) A (eval elt (compEnvC scope cl C env)) (LCg.CompEnd h₀ L m { s with heap := h, toks := tk } I oI C oC D (LCg.lst ys) S (fun y news' => TsEl bs (g k) y news')) E' { s with heap := h, toks := tk })
    (fin : ∀ ys, StrsAre ys ((ks.map g).map tx) → Fin ys bs) : LCp.CompRestP prog w A h₀ L m env elt x x₂ scope cl s S (fun i v => vs.toArray[i]? = some v) Fin vs.toArray.size 0 [] bs := by
  have hlen : vs.toArray.size = ks.length := by rw [List.size_toArray]; exact hp.length
  have key : ∀ (j i : Nat) (ys : List Value), i + j = ks.length → StrsAre ys (((ks.take i).map g).map tx) → LCp.CompRestP prog w A h₀ L m env elt x x₂ scope cl s S (fun i v => vs.toArray[i]? = some v) Fin j i ys bs := by
    intro j
    induction j with
    | zero =>
      intro i ys hi' hy
      have e : i = ks.length := by omega
      subst e
      rw [List.take_length] at hy
      exact LCp.CompRestP.zero (fin ys hy)
    | succ j ih =>
      intro i ys hi' hy
      refine LCp.CompRestP.succ ?_
      intro v hv
      obtain ⟨D0, k, t1, t2, e, hk, hm⟩ := hp.at i v (by simpa using hv)
      refine ⟨D0, pairO (tx [sgC k]) (tx (foL k)) t1 t2, .str (tx [sgC k]) t1, .str (tx (foL k)) t2, 0, e, hbt _ hm, rfl, rfl, ?_⟩
      intro I oI C oC D m₂ h tk E' hC hx hx2 F N off ne
      refine wpAny_mono (turn k t1 t2 I oI C oC D m₂ ys h tk E' hC hx hx2 F N off ne) (fun y s₂ hq => ?_) fun _ _ e => e
      obtain ⟨h', tk', nw', e, F', N', off', hS', hn, t', hy'⟩ := hq
      subst hn
      refine ⟨h', tk', nw', e, F', N', off', hS', ?_⟩
      rw [hy']
      refine ih (i + 1) _ (by omega) ?_
      rw [List.take_add_one, hk]
      simpa using kct_snoc hy
  rw [hlen]
  exact key ks.length 0 [] (by omega) (by simp only [List.take_zero, List.map_nil]; exact .nil)
end
section
variable {w : World} {mean : ExcName → Option Value} {mg mb : PySem.Str → Option Value}
theorem law_text (D0 : Addr) (vs : List Value) (ks : List Int) (nn : Nat) (hk19 : ks.length ≤ 19) (hfo : ∀ x ∈ ks, (foL x).length ≤ 4) (nw : List (Addr × Obj)) (hp : PrAre nw vs ks) (mm : PySem.Str → Option Value) (hsig : mm (PySem.Str.ofString "signs") = some (.ref D0)) (o1 o2 : Obj) (news : List (Addr × Obj)) (fa : Addr) (cd : Value) (dp un : Nat) (gd : Option (List Code)) (A₀ : Around) (base h₀ : Heap) (s : Shared) (Q : Flow → Shared → Prop)
    (B : Below A₀ base [] h₀) (F : Fr h₀ h₀.objs.size s.heap mm) 
    (X : (K w.params).In h₀) (N : News h₀ h₀.objs.size s.heap ((D0, W.listOf (List.toArray vs) nn) :: nw)) (T : Top q (looseW q loose) mean mg mb h₀) (hd : dp + 20 < recursionLimit) (hu : un + 2000 < cLine)
    (hret : ∀ (t : Tok) (h' : Heap) (tk' : Nat), Fr h₀ h₀.objs.size h' (fun y => if y = PySem.Str.ofString "text" then some (.str (tx (ks.map sgC)) t) else mm y) → News h₀ h₀.objs.size h' ((D0, W.listOf (List.toArray vs) nn) :: nw) → Q .next { s with heap := h', toks := tk' }) :
    wpAny (model pr w) (ktrTop dp un gd (PySem.Str.ofString "law") (fScope (st 18)) h₀.objs.size fa cd (cellsFrom (h₀.objs.size + 1) (fScope (st 18)).names []) []) (exec (lawS 2) (envOfC (PySem.Str.ofString "law") (fScope (st 18)) h₀.objs.size fa cd)) Q (fun _ _ => False) s := by
  k_with_none
  k_with "eval ListComp" => refine hold ?_
  k_with "SrcLP" => refine hold ?_
  k_with "call builtin:str.join" => (k_here; k_dflt (refine' join_E (by assumption) (News.isList (by k_asm) (by k_mem)) (by assumption) (by assumption) (by assumption) rfl ?_); intro _ _)
  conv in (lawS 2) => whnf
  have F0 := fr_eq (over1 hsig).symm F
  clear F
  k_steps
  unfold Hold
  k_dflt (refine LCp.ListComp_P (F₀ := by k_asm) (by with_unfolding_all rfl) (by decide) (by rfl) (by decide) (by rfl) (by rfl) (by decide) ?_)
  k_steps
  (try unfold Hold)
  (rename Fr _ _ _ _ => F9'); (rename News _ _ _ _ => N9')
  k_dflt (refine LCp.SrcLP.ledger (by rfl) F9' N9' (by k_mem) (by rw [List.size_toArray, hp.length, sizeLine_eq]; omega) ?_)
  intro g'
  refine sp_rest _ nw hp (fun q h => .tail _ h) (fun x => [sgC x]) (fun k' t1 t2 I' oI' C' oC' D' m' ys' h' tk' E' hC' hx' hx2' F' N' off' ne' => ?_) ?_
  · k_steps
    all_goals first
      | exact LCg.CompEnd.intro (by assumption) (by assumption) _ (by kcf_all) (by first | assumption | (simp only [LCg.Off3, and_true]; done) | (simp only [LCg.Off3, and_true]; assumption)) (by first | lcg_src | assumption | trivial) ⟨rfl, _, rfl⟩
      | trace_state
  · intro ys hys
    have hr : (ks.map (fun x => [sgC x])).flatten = (ks.map sgC) := flat_map_one ks
    have hB : ∀ z ∈ ks.map (fun x => [sgC x]), z.length ≤ 100 := by
      intro z hz
      obtain ⟨x, hx, rfl⟩ := List.mem_map.mp hz
      have := hfo x hx
      first | omega | (show 1 ≤ 100; omega)
    have hBl : (ks.map (fun x => [sgC x])).length * 100 + (ks.map (fun x => [sgC x])).length ≤ 1048576 := by rw [List.length_map]; omega
    k_steps
    (rename Fr _ _ _ _ => F9'); (rename News _ _ _ _ => N9')
    exact hret _ _ _ (fr_eq (over_in hsig) F9') (news_sub _ N9' (by kcj_all))
theorem law_bare (D0 : Addr) (vs : List Value) (ks : List Int) (nn : Nat) (hk19 : ks.length ≤ 19) (hfo : ∀ x ∈ ks, (foL x).length ≤ 4) (nw : List (Addr × Obj)) (hp : PrAre nw vs ks) (mm : PySem.Str → Option Value) (hsig : mm (PySem.Str.ofString "signs") = some (.ref D0)) (o1 o2 : Obj) (news : List (Addr × Obj)) (fa : Addr) (cd : Value) (dp un : Nat) (gd : Option (List Code)) (A₀ : Around) (base h₀ : Heap) (s : Shared) (Q : Flow → Shared → Prop)
    (B : Below A₀ base [] h₀) (F : Fr h₀ h₀.objs.size s.heap mm) 
    (X : (K w.params).In h₀) (N : News h₀ h₀.objs.size s.heap ((D0, W.listOf (List.toArray vs) nn) :: nw)) (T : Top q (looseW q loose) mean mg mb h₀) (hd : dp + 20 < recursionLimit) (hu : un + 2000 < cLine)
    (hret : ∀ (t : Tok) (h' : Heap) (tk' : Nat), Fr h₀ h₀.objs.size h' (fun y => if y = PySem.Str.ofString "bare" then some (.str (tx ((ks.map foL).flatten)) t) else mm y) → News h₀ h₀.objs.size h' ((D0, W.listOf (List.toArray vs) nn) :: nw) → Q .next { s with heap := h', toks := tk' }) :
    wpAny (model pr w) (ktrTop dp un gd (PySem.Str.ofString "law") (fScope (st 18)) h₀.objs.size fa cd (cellsFrom (h₀.objs.size + 1) (fScope (st 18)).names []) []) (exec (lawS 3) (envOfC (PySem.Str.ofString "law") (fScope (st 18)) h₀.objs.size fa cd)) Q (fun _ _ => False) s := by
  k_with_none
  k_with "eval ListComp" => refine hold ?_
  k_with "SrcLP" => refine hold ?_
  k_with "call builtin:str.join" => (k_here; k_dflt (refine' join_E (by assumption) (News.isList (by k_asm) (by k_mem)) (by assumption) (by assumption) (by assumption) rfl ?_); intro _ _)
  conv in (lawS 3) => whnf
  have F0 := fr_eq (over1 hsig).symm F
  clear F
  k_steps
  unfold Hold
  k_dflt (refine LCp.ListComp_P (F₀ := by k_asm) (by with_unfolding_all rfl) (by decide) (by rfl) (by decide) (by rfl) (by rfl) (by decide) ?_)
  k_steps
  (try unfold Hold)
  (rename Fr _ _ _ _ => F9'); (rename News _ _ _ _ => N9')
  k_dflt (refine LCp.SrcLP.ledger (by rfl) F9' N9' (by k_mem) (by rw [List.size_toArray, hp.length, sizeLine_eq]; omega) ?_)
  intro g'
  refine sp_rest _ nw hp (fun q h => .tail _ h) foL (fun k' t1 t2 I' oI' C' oC' D' m' ys' h' tk' E' hC' hx' hx2' F' N' off' ne' => ?_) ?_
  · k_steps
    all_goals first
      | exact LCg.CompEnd.intro (by assumption) (by assumption) _ (by kcf_all) (by first | assumption | (simp only [LCg.Off3, and_true]; done) | (simp only [LCg.Off3, and_true]; assumption)) (by first | lcg_src | assumption | trivial) ⟨rfl, _, rfl⟩
      | trace_state
  · intro ys hys
    have hr : (ks.map foL).flatten = ((ks.map foL).flatten) := rfl
    have hB : ∀ z ∈ ks.map foL, z.length ≤ 100 := by
      intro z hz
      obtain ⟨x, hx, rfl⟩ := List.mem_map.mp hz
      have := hfo x hx
      first | omega | (show 1 ≤ 100; omega)
    have hBl : (ks.map foL).length * 100 + (ks.map foL).length ≤ 1048576 := by rw [List.length_map]; omega
    k_steps
    (rename Fr _ _ _ _ => F9'); (rename News _ _ _ _ => N9')
    exact hret _ _ _ (fr_eq (over_in hsig) F9') (news_sub _ N9' (by kcj_all))
end
end Hd
end
end
section
open PySem PySem.W PySem.Calls PyProof.Rows
set_option maxRecDepth 100000
set_option maxHeartbeats 4000000
noncomputable section
namespace Hd
theorem filledRd : rw' = PySem.Challenge.rw_tr0065_03 ∧ K = K := by
  k_fill
  w_top off
  exact ⟨rfl, rfl⟩
noncomputable def NC (p : Addr × Obj) : Prop := ∀ v, p.2.data ≠ .cell v
theorem PrAre.led {news : List (Addr × Obj)} {vs : List Value} {ks : List Int} (h : PrAre news vs ks) : ∃ ex, PrAre ex vs ks ∧ (∀ q ∈ ex, q ∈ news) ∧ ∀ q ∈ ex, NC q := by
  induction h with
  | nil => exact ⟨[], .nil, (fun q h => nomatch h), (fun q h => nomatch h)⟩
  | cons D x t1 t2 hm _ ih =>
    obtain ⟨ex, h1, h2, h3⟩ := ih
    refine ⟨(D, pairO (tx [sgC x]) (tx (foL x)) t1 t2) :: ex, .cons D x t1 t2 (.head _) (h1.mono fun p hp => .tail _ hp), ?_, ?_⟩
    · intro q hq
      rcases List.mem_cons.mp hq with rfl | hq
      · exact hm
      · exact h2 q hq
    · intro q hq
      rcases List.mem_cons.mp hq with rfl | hq
      · intro v e; cases e
      · exact h3 q hq
section
variable {M : Model} {A : Around} {E : Value → Shared → Prop} {s : Shared} {name : PySem.Str} {scope : Scope} {L a : Addr} {cd : Value} {h₀ : Heap} {m : PySem.Str → Option Value}
theorem st_cell {x : PySem.Str} {c : Addr} {o : Obj} {v₀ : Option Value} {v : Value} {rest : List (Addr × Obj)} {Q : Unit → Shared → Prop} (F : Fr h₀ L s.heap m) (N : News h₀ L s.heap ((c, o) :: rest))
    (hc : (cellsFrom (L + 1) scope.names []).lookup x = some c) (hd : o.data = .cell v₀) (h2 : ∀ p ∈ rest, p.1 ≠ c ∨ NC p)
    (h : ∀ h' o', Fr h₀ L h' m → News h₀ L h' ((c, o') :: rest) → o'.data = .cell (some v) → Q () { s with heap := h' })
    (hk : scope.kind = .function := by rfl) (hl : (envOfC name scope L a cd).kindOf x = some .cell := by rfl) :
    wpAny M A (storeName (envOfC name scope L a cd) x v) Q E s := by
  refine stCN (own := []) F N hc hd (fun p hp => nomatch hp) (fun p hp e => ?_) h hk hl
  rcases h2 p hp with h3 | h3
  · exact h3 e
  · have h4 := (N p (.tail _ hp)).1
    have h5 := (N (c, o) (.head _)).1
    rw [e] at h4
    have e2 : p.2 = o := Option.some.inj (h4.symm.trans h5)
    exact h3 v₀ (by rw [e2]; exact hd)
end
noncomputable def prepC (c : Nat) : List Nat := prep [c]
structure FoldsOk (w : World) (o : Obj) (S : List Int) : Prop where
  ex : ∃ kvs : List (PySem.Str × Value), o.IsDictOf (PySem.strKind pr w) kvs ∧ kvs.length ≤ S.length ∧ (∀ p ∈ kvs, ∃ (x : Int) (t : Tok), p = (tx [sgC x], .str (tx (foL x)) t)) ∧ (∀ x ∈ S, ∃ p ∈ kvs, p.1 = tx [sgC x])
theorem FoldsOk.nil {w : World} {o : Obj} (h : o.IsDictOf (PySem.strKind pr w) []) : FoldsOk w o [] := ⟨[], h, Nat.le_refl _, (fun p hp => nomatch hp), (fun x hx => nomatch hx)⟩
theorem FoldsOk.nc {w : World} {o : Obj} {S : List Int} {d : Addr} (h : FoldsOk w o S) : NC (d, o) := by
  obtain ⟨kvs, ⟨es, ep, _, hd, _⟩, _⟩ := h.ex
  intro v e
  rw [show (d, o).2 = o from rfl, hd] at e; cases e
theorem stored_len (kvs : List (PySem.Str × Value)) (k : PySem.Str) (v : Value) : (stored kvs k v).length ≤ kvs.length + 1 := by
  unfold stored; split <;> simp
theorem stored_mem {kvs : List (PySem.Str × Value)} {k : PySem.Str} {v : Value} {p : PySem.Str × Value} (h : p ∈ stored kvs k v) : p ∈ kvs ∨ p = (k, v) := by
  unfold stored at h
  split at h
  · obtain ⟨q, hq, rfl⟩ := List.mem_map.mp h
    split
    · rename_i e; exact .inr (by rw [e])
    · exact .inl hq
  · rcases List.mem_append.mp h with h | h
    · exact .inl h
    · exact .inr (List.mem_singleton.mp h)
theorem stored_keys {kvs : List (PySem.Str × Value)} {k : PySem.Str} {v : Value} {j : PySem.Str} (h : (∃ p ∈ kvs, p.1 = j) ∨ j = k) : ∃ p ∈ stored kvs k v, p.1 = j := by
  unfold stored
  split
  · rename_i ha
    rcases h with ⟨p, hp, e⟩ | e
    · exact ⟨_, List.mem_map.mpr ⟨p, hp, rfl⟩, by split <;> exact e⟩
    · rw [List.any_eq_true] at ha
      obtain ⟨p, hp, e2⟩ := ha
      have e3 : p.1 = k := of_decide_eq_true e2
      exact ⟨_, List.mem_map.mpr ⟨p, hp, rfl⟩, by rw [if_pos e3, e]; exact e3⟩
  · rcases h with ⟨p, hp, e⟩ | e
    · exact ⟨p, List.mem_append_left _ hp, e⟩
    · exact ⟨(k, v), List.mem_append_right _ (List.mem_singleton.mpr rfl), e.symm⟩
section
variable {w : World} {A : Around} {E : Value → Shared → Prop} {s : Shared} {h₀ : Heap} {L d : Addr} {m : PySem.Str → Option Value} {rest : List (Addr × Obj)} {o : Obj} {S : List Int}
theorem set_folds {Q : Unit → Shared → Prop} {x : Int} {t u : Tok} (F : Fr h₀ L s.heap m) (N : News h₀ L s.heap ((d, o) :: rest)) (hR : ∀ p ∈ rest, p.1 ≠ d) (hf : FoldsOk w o S) (hS : S.length ≤ 100)
    (h : ∀ h' o', Fr h₀ L h' m → News h₀ L h' ((d, o') :: rest) → FoldsOk w o' (S ++ [x]) → Q () { s with heap := h', toks := s.toks + 1 }) :
    wpAny (model pr w) A (setItem (.ref d) (.str (tx [sgC x]) t) (.str (tx (foL x)) u)) Q E s := by
  obtain ⟨kvs, hd, hl, hp, hx⟩ := hf.ex
  have hm := N (d, o) (.head _)
  have hdo : s.heap.DictOf (PySem.strKind pr w) d kvs := Heap.dictOf_iff.mpr ⟨o, hm.1, hd⟩
  refine wpAny_setItem_pairs (hsz := by rw [sizeLine_eq]; omega) (strKind_is pr w (tx [sgC x]) t) hdo fun h' hd' hs => ?_
  obtain ⟨o', ho', hdd⟩ := Heap.dictOf_iff.mp hd'
  refine h h' o' (F.change hs hm.2.1 hm.2.2) (fun p hp' => ?_) ⟨_, hdd, ?_, ?_, ?_⟩
  · rcases List.mem_cons.mp hp' with rfl | hp'
    · exact ⟨ho', hm.2⟩
    · exact ⟨hs.extBut _ _ (hR p hp') (N p (.tail _ hp')).1, (N p (.tail _ hp')).2⟩
  · rw [List.length_append, List.length_singleton]
    exact Nat.le_trans (stored_len _ _ _) (by omega)
  · intro p hp'
    rcases stored_mem hp' with h1 | h1
    · exact hp p h1
    · exact ⟨x, u, h1⟩
  · intro y hy
    refine stored_keys ?_
    rcases List.mem_append.mp hy with hy | hy
    · exact .inl (hx y hy)
    · rw [List.mem_singleton.mp hy]; exact .inr rfl
end
section
variable {w : World} {mean : ExcName → Option Value} {mg mb : PySem.Str → Option Value}
theorem law_folds0 (mm : PySem.Str → Option Value) (o1 o2 : Obj) (news : List (Addr × Obj)) (fa : Addr) (cd : Value) (dp un : Nat) (gd : Option (List Code)) (A₀ : Around) (base h₀ : Heap) (s : Shared) (Q : Flow → Shared → Prop)
    (B : Below A₀ base [] h₀) (F : Fr h₀ h₀.objs.size s.heap mm) (c1 : o1.data = .cell none) (hnc : ∀ p ∈ news, NC p)
    (X : (K w.params).In h₀) (N : News h₀ h₀.objs.size s.heap ((h₀.objs.size + 1 + 1, o2) :: (h₀.objs.size + 1, o1) :: news)) (T : Top q (looseW q loose) mean mg mb h₀) (hd : dp + 20 < recursionLimit) (hu : un + 2000 < cLine)
    (hret : ∀ (Fd : Addr) (od o1' : Obj) (h' : Heap) (tk' : Nat), (Fd == sysModules) = false → od.IsDictOf (PySem.strKind pr w) [] → o1'.data = .cell (some (.ref Fd)) → (∀ p ∈ (h₀.objs.size + 1 + 1, o2) :: (h₀.objs.size + 1, o1') :: news, p.1 ≠ Fd) → Fr h₀ h₀.objs.size h' mm → News h₀ h₀.objs.size h' ((Fd, od) :: (h₀.objs.size + 1 + 1, o2) :: (h₀.objs.size + 1, o1') :: news) → Q .next { s with heap := h', toks := tk' }) :
    wpAny (model pr w) (ktrTop dp un gd (PySem.Str.ofString "law") (fScope (st 18)) h₀.objs.size fa cd (cellsFrom (h₀.objs.size + 1) (fScope (st 18)).names []) []) (exec (lawS 4) (envOfC (PySem.Str.ofString "law") (fScope (st 18)) h₀.objs.size fa cd)) Q (fun _ _ => False) s := by
  k_with_none
  k_with "storeName" => refine hold ?_
  conv in (lawS 4) => whnf
  k_steps
  unfold Hold
  rename_i d' h' o' F' N' lo' hs' fs' hi' fi' l1'
  have N8 := news_sub ((h₀.objs.size + 1, o1) :: (d', o') :: (h₀.objs.size + 1 + 1, o2) :: news) N' (by kcj_all)
  refine st_cell F' N8 (by rfl) c1 ?_ ?_
  · intro p hp
    rcases List.mem_cons.mp hp with rfl | hp
    · exact .inl (Nat.ne_of_gt l1'.2.1)
    rcases List.mem_cons.mp hp with rfl | hp
    · exact .inl (Nat.ne_of_gt (Nat.lt_succ_self _))
    · exact .inr (hnc p hp)
  intro h9 o9 F9 N9 d9
  refine hret d' o' o9 h9 _ lo' hs' d9 ?_ F9 (news_sub _ N9 (by kcj_all))
  intro p hp
  rcases List.mem_cons.mp hp with rfl | hp
  · exact Nat.ne_of_lt l1'.1
  rcases List.mem_cons.mp hp with rfl | hp
  · exact Nat.ne_of_lt l1'.2.1
  · exact allLt_ne l1'.2.2 p hp
end
end Hd
end
end
section
open PySem PySem.W PySem.Calls PyProof.Rows
set_option maxRecDepth 100000
set_option maxHeartbeats 4000000
noncomputable section
namespace Hd
local macro_rules | `(tactic| walk_at "idle 0") => `(tactic| skip)
theorem filledRe : rw' = PySem.Challenge.rw_tr0065_03 ∧ K = K := by
  k_fill
  w_top off
  exact ⟨rfl, rfl⟩
section
variable {w : World} {mean : ExcName → Option Value} {mg mb : PySem.Str → Option Value}
theorem law_fill (Fd Ds : Addr) (od : Obj) (vs : List Value) (ks : List Int) (nn : Nat) (hk19 : ks.length ≤ 19) (R : List (Addr × Obj)) (hp : PrAre R vs ks) (hod : od.IsDictOf (PySem.strKind pr w) []) (mm : PySem.Str → Option Value) (hsig : mm (PySem.Str.ofString "signs") = some (.ref Ds)) (o1 o2 : Obj) (news : List (Addr × Obj)) (fa : Addr) (cd : Value) (dp un : Nat) (gd : Option (List Code)) (A₀ : Around) (base h₀ : Heap) (s : Shared) (Q : Flow → Shared → Prop)
    (B : Below A₀ base [] h₀) (F : Fr h₀ h₀.objs.size s.heap mm) (c1 : o1.data = .cell (some (.ref Fd))) (hRd : ∀ p ∈ (Ds, W.listOf (List.toArray vs) nn) :: (h₀.objs.size + 1 + 1, o2) :: (h₀.objs.size + 1, o1) :: R, p.1 ≠ Fd)
    (X : (K w.params).In h₀) (N : News h₀ h₀.objs.size s.heap ((Fd, od) :: (Ds, W.listOf (List.toArray vs) nn) :: (h₀.objs.size + 1 + 1, o2) :: (h₀.objs.size + 1, o1) :: R)) (T : Top q (looseW q loose) mean mg mb h₀) (hd : dp + 20 < recursionLimit) (hu : un + 2000 < cLine)
    (hret : ∀ (od' : Obj) (m' : PySem.Str → Option Value) (h' : Heap) (tk' : Nat), FoldsOk w od' ks → (∀ y, y ≠ PySem.Str.ofString "sign" → y ≠ PySem.Str.ofString "folded" → m' y = mm y) → Fr h₀ h₀.objs.size h' m' → News h₀ h₀.objs.size h' ((Fd, od') :: (Ds, W.listOf (List.toArray vs) nn) :: (h₀.objs.size + 1 + 1, o2) :: (h₀.objs.size + 1, o1) :: R) → Q .next { s with heap := h', toks := tk' }) :
    wpAny (model pr w) (ktrTop dp un gd (PySem.Str.ofString "law") (fScope (st 18)) h₀.objs.size fa cd (cellsFrom (h₀.objs.size + 1) (fScope (st 18)).names []) []) (exec (lawS 5) (envOfC (PySem.Str.ofString "law") (fScope (st 18)) h₀.objs.size fa cd)) Q (fun _ _ => False) s := by
  k_with_none
  k_with "pyIter ref" => refine hold ?_
  k_with "setItem ref str" => refine hold ?_
  conv in (lawS 5) => whnf
  have F0 := fr_eq (over1 hsig).symm F
  with_unfolding_all refine For_invTF F0 ?_ (by intro _; rfl)
  clear F0
  have F0 := fr_eq (over1 hsig).symm F
  k_steps
  unfold Hold
  (rename News _ _ _ _ => N9')
  refine wpAny_pyIter_list (N9'.isList (.tail _ (.head _))) ?_
  have hIf := next_is_new F
  have hne : Ds ≠ s.heap.objs.size := Nat.ne_of_lt (Heap.lt_size (N9' (Ds, _) (.tail _ (.head _))).1)
  refine ⟨s.heap.objs.size, [s.heap.objs.size, Ds], [s.heap.objs.size], vs.toArray.size, _, _, mm, _, fun i m nx => (∀ y, y ≠ PySem.Str.ofString "sign" → y ≠ PySem.Str.ofString "folded" → m y = mm y) ∧ ∃ o, nx = (Fd, o) :: (Ds, W.listOf (List.toArray vs) nn) :: (h₀.objs.size + 1 + 1, o2) :: (h₀.objs.size + 1, o1) :: R ∧ FoldsOk w o (ks.take i), rfl,
    Walks.list (by rfl) s.heap.objs.size Ds hne vs.toArray, ?_, ?_, ?_, ⟨⟨_, Heap.get?_push_size _ rfl, rfl, rfl⟩, (N9'.isList (.tail _ (.head _))).at fun o e => Heap.get?_push_of_some _ e⟩, F.push _, (fun p hp => ⟨Heap.get?_push_of_some _ (N9' p hp).1, (N9' p hp).2⟩), (fun i s' v Q' st hQ' => letGo_listiter st.1 hQ'), ⟨fun _ _ _ => rfl, od, rfl, FoldsOk.nil hod⟩, ?_, ?_⟩
  · intro hm
    rcases List.mem_cons.mp hm with e | hm
    · exact absurd F.ns.lt (e ▸ Nat.lt_irrefl _)
    · exact (N9' (Ds, _) (.tail _ (.head _))).2.1 (List.mem_singleton.mp hm).symm
  · intro b hb
    rw [List.mem_singleton.mp hb]
    exact hIf
  · intro p hp hI
    exact absurd (Heap.lt_size (N9' p hp).1) ((List.mem_singleton.mp hI) ▸ Nat.lt_irrefl _)
  · rintro i v m₁ news₁ s₁ own hin hP ⟨hm1, o, rfl, hf⟩ hoff hof hog hin' hst₁ F₁ N₁
    obtain ⟨D0, x, t1, t2, rfl, hk, hm⟩ := hp.at i v (by simpa using hP)
    have ht : IsTup s₁.heap D0 #[.str (tx [sgC x]) t1, .str (tx (foL x)) t2] := ⟨_, (N₁ (D0, _) (List.mem_append_right _ (.tail _ (.tail _ (.tail _ (.tail _ hm)))))).1, rfl, 0, rfl⟩
    with_unfolding_all refine assign_Tuple_tuple (by rfl) ht (by rfl) (by rfl) fun h₅ he => ?_
    have he' : ∀ b o, s₁.heap.get? b = some o → h₅.get? b = some o := fun b o e => he b o (Nat.ne_of_lt (Heap.lt_size e)) e
    have F₅ := F₁.keeps he'
    have N₅ := N₁.grown he'
    clear F₁ N₁ N9'
    with_unfolding_all refine assignInOrder_cons (wpAny_assign_Name (stLocN F₅ N₅ (fun h₆ F₆ N₆ => ?_) (by rfl) (by rfl)))
    with_unfolding_all refine assignInOrder_cons (wpAny_assign_Name (stLocN F₆ N₆ (fun h₇ F₇ N₇ => ?_) (by rfl) (by rfl)))
    refine assignInOrder_nil ?_
    clear F₅ N₅ F₆ N₆
    have N₈ := news_sub ((Fd, o) :: (Ds, W.listOf (List.toArray vs) nn) :: (h₀.objs.size + 1 + 1, o2) :: (h₀.objs.size + 1, o1) :: (R ++ own)) N₇ (by kcj_all)
    clear N₇
    k_steps
    unfold Hold
    (rename Fr _ _ _ _ => F9'); (rename News _ _ _ _ => N9')
    have hlen : (ks.take i).length ≤ 100 := by
      rw [List.length_take]
      have : min i ks.length ≤ ks.length := Nat.min_le_right _ _
      omega
    have hI1 : Fd ≠ s.heap.objs.size := fun e => hoff (Fd, o) (.head _) (List.mem_singleton.mpr e)
    refine set_folds F9' N9' ?_ hf hlen ?_
    · intro p hp
      have hp' : p ∈ (Ds, W.listOf (List.toArray vs) nn) :: (h₀.objs.size + 1 + 1, o2) :: (h₀.objs.size + 1, o1) :: R ∨ p ∈ own := by
        simp only [List.mem_cons, List.mem_append] at hp ⊢
        rcases hp with h | h | h | h | h
        · exact .inl (.inl h)
        · exact .inl (.inr (.inl h))
        · exact .inl (.inr (.inr (.inl h)))
        · exact .inl (.inr (.inr (.inr h)))
        · exact .inr h
      rcases hp' with h | h
      · exact hRd p h
      · rcases List.mem_cons.mp (hof p h) with e | e
        · rw [e]; exact Ne.symm hI1
        · rw [List.mem_singleton.mp e]; exact hRd (Ds, _) (.head _)
    intro h9 o9 F9 N9 hf9
    have htk : ks.take (i + 1) = ks.take i ++ [x] := by rw [List.take_add_one, hk]; rfl
    rw [← htk] at hf9
    clear F9' N9'
    k_steps
    (rename Fr _ _ _ _ => F9'); (rename News _ _ _ _ => N9')
    refine LoopStepU.intro F9' (news₂ := (Fd, o9) :: (Ds, W.listOf (List.toArray vs) nn) :: (h₀.objs.size + 1 + 1, o2) :: (h₀.objs.size + 1, o1) :: R) (news_sub _ N9' (by kcj_all)) ?_ ⟨?_, o9, rfl, hf9⟩
    · intro p hp
      rcases List.mem_cons.mp hp with rfl | hp
      · exact hoff (Fd, o) (.head _)
      · exact hoff p (.tail _ hp)
    · intro y h1 h2
      have := hm1 y h1 h2
      simp only [h1, h2, if_false]
      exact this
  · rintro h' tk m' news' F' N' _ ⟨hm1, o, rfl, hf⟩
    have e : ks.take vs.toArray.size = ks := by rw [List.size_toArray, hp.length]; exact List.take_length
    rw [e] at hf
    exact hret o m' h' tk hf hm1 F' N'
end
end Hd
end
end
section
open PySem PySem.W PySem.Calls PyProof.Rows
set_option maxRecDepth 100000
set_option maxHeartbeats 4000000
noncomputable section
namespace Hd
theorem filledRf : rw' = PySem.Challenge.rw_tr0065_03 ∧ K = K := by
  k_fill
  w_top off
  exact ⟨rfl, rfl⟩
theorem lit257 : PySem.Str.ofString "257 \"" = tx [50, 53, 55, 32, 34] := by decide +kernel
theorem prep_app (a b : List Nat) : prep (a ++ b) = prep a ++ prep b := by
  unfold prep; rw [List.filter_append, List.map_append, List.flatten_append]
theorem prep257 : prep [50, 53, 55, 32, 34] = [50, 53, 55, 32, 34] := by decide +kernel
theorem m3_257 : ∀ c ∈ ([50, 53, 55, 32, 34] : List Nat), (m3 c).length ≤ 100 := by decide +kernel
theorem over2 {m : PySem.Str → Option Value} {k1 k2 : PySem.Str} {v1 v2 : Value} (h1 : m k1 = some v1) (h2 : m k2 = some v2) : (fun z => if z = k1 then some v1 else if z = k2 then some v2 else m z) = m := by
  funext z
  by_cases e1 : z = k1
  · rw [if_pos e1, e1, h1]
  rw [if_neg e1]
  by_cases e2 : z = k2
  · rw [if_pos e2, e2, h2]
  rw [if_neg e2]
theorem over3 {m : PySem.Str → Option Value} {k1 k2 k3 : PySem.Str} {v1 v2 v3 : Value} (h1 : m k1 = some v1) (h2 : m k2 = some v2) (h3 : m k3 = some v3) : (fun z => if z = k1 then some v1 else if z = k2 then some v2 else if z = k3 then some v3 else m z) = m := by
  funext z
  by_cases e1 : z = k1
  · rw [if_pos e1, e1, h1]
  rw [if_neg e1]
  exact congrFun (over2 h2 h3) z
theorem over4 {m : PySem.Str → Option Value} {k1 k2 k3 k4 : PySem.Str} {v1 v2 v3 v4 : Value} (h1 : m k1 = some v1) (h2 : m k2 = some v2) (h3 : m k3 = some v3) (h4 : m k4 = some v4) : (fun z => if z = k1 then some v1 else if z = k2 then some v2 else if z = k3 then some v3 else if z = k4 then some v4 else m z) = m := by
  funext z
  by_cases e1 : z = k1
  · rw [if_pos e1, e1, h1]
  rw [if_neg e1]
  exact congrFun (over3 h2 h3 h4) z
theorem over_st {m m' : PySem.Str → Option Value} {k : PySem.Str} {v : Option Value} (e : m' = m) : (fun y => if y = k then v else m' y) = fun y => if y = k then v else m y := by rw [e]
section
variable {w : World} {mean : ExcName → Option Value} {mg mb : PySem.Str → Option Value}
theorem law_name (tl : List Nat) (tt : Tok) (htl : tl.length ≤ 19) (mm : PySem.Str → Option Value) (htx : mm (PySem.Str.ofString "text") = some (.str (tx tl) tt)) (o1 o2 : Obj) (news : List (Addr × Obj)) (fa : Addr) (cd : Value) (dp un : Nat) (gd : Option (List Code)) (A₀ : Around) (base h₀ : Heap) (s : Shared) (Q : Flow → Shared → Prop)
    (B : Below A₀ base [] h₀) (F : Fr h₀ h₀.objs.size s.heap mm) 
    (X : (K w.params).In h₀) (N : News h₀ h₀.objs.size s.heap (news)) (T : Top q (looseW q loose) mean mg mb h₀) (hd : dp + 20 < recursionLimit) (hu : un + 2000 < cLine)
    (hret : ∀ (t' : Tok) (h' : Heap) (tk' : Nat), Fr h₀ h₀.objs.size h' (fun y => if y = PySem.Str.ofString "name" then some (.str (tx (pq tl)) t') else mm y) → News h₀ h₀.objs.size h' (news) → Q .next { s with heap := h', toks := tk' }) :
    wpAny (model pr w) (ktrTop dp un gd (PySem.Str.ofString "law") (fScope (st 18)) h₀.objs.size fa cd (cellsFrom (h₀.objs.size + 1) (fScope (st 18)).names []) []) (exec (lawS 6) (envOfC (PySem.Str.ofString "law") (fScope (st 18)) h₀.objs.size fa cd)) Q (fun _ _ => False) s := by
  k_with_none
  k_with "call ref" => (k_here; (with_reducible show wpAny _ _ (call (Value.ref 53) [Value.str _ _]) _ _ _); k_dflt (refine' Spec.use (spec_parse _ _ _ (by assumption) (by assumption)) (by k_asm) (by k_asm) (by k_asm) (by k_asm) (by k_asm) (by first | exact rfl | assumption) (by ktr_room) (by ktr_units) ?_); intro v9 h9 tk9 R9 F9 N9; obtain ⟨t9, R9⟩ := R9; subst R9; (try dsimp only))
  k_with "binaryOp Add str str" => (k_here; k_dflt (refine add_tx (by exact lit257) (by rfl) (by decide) (by omega) ?_); intro _ _)
  conv in (lawS 6) => whnf
  have F0 := fr_eq (over1 htx).symm F
  clear F
  have hx1 : tx ([50, 53, 55, 32, 34] ++ tl) = tx ([50, 53, 55, 32, 34] ++ tl) := rfl
  have hl1 : tl.length ≤ 100000 := by omega
  k_steps
  (rename Fr _ _ _ _ => F9'); (rename News _ _ _ _ => N9')
  exact hret _ _ _ (fr_eq (over_st (over1 htx)) F9') (news_sub _ N9' (by kcj_all))
theorem law_first3 (tl : List Nat) (tt : Tok) (htl : tl.length ≤ 19) (hm : ∀ c ∈ tl, (m3 c).length ≤ 100) (hpl : (prep tl).length ≤ 100000) (mm : PySem.Str → Option Value) (htx : mm (PySem.Str.ofString "text") = some (.str (tx tl) tt)) (o1 o2 : Obj) (news : List (Addr × Obj)) (fa : Addr) (cd : Value) (dp un : Nat) (gd : Option (List Code)) (A₀ : Around) (base h₀ : Heap) (s : Shared) (Q : Flow → Shared → Prop)
    (B : Below A₀ base [] h₀) (F : Fr h₀ h₀.objs.size s.heap mm) 
    (X : (K w.params).In h₀) (N : News h₀ h₀.objs.size s.heap (news)) (T : Top q (looseW q loose) mean mg mb h₀) (hd : dp + 20 < recursionLimit) (hu : un + 2000 < cLine)
    (hret : ∀ (t' : Tok) (h' : Heap) (tk' : Nat), Fr h₀ h₀.objs.size h' (fun y => if y = PySem.Str.ofString "first" then some (.str (tx (pq (prep tl))) t') else mm y) → News h₀ h₀.objs.size h' (news) → Q .next { s with heap := h', toks := tk' }) :
    wpAny (model pr w) (ktrTop dp un gd (PySem.Str.ofString "law") (fScope (st 18)) h₀.objs.size fa cd (cellsFrom (h₀.objs.size + 1) (fScope (st 18)).names []) []) (exec (lawS 7) (envOfC (PySem.Str.ofString "law") (fScope (st 18)) h₀.objs.size fa cd)) Q (fun _ _ => False) s := by
  k_with_none
  k_with "call ref" => (k_here; (with_reducible show wpAny _ _ (call (Value.ref 53) [Value.str _ _]) _ _ _); k_dflt (refine' Spec.use (spec_parse _ _ _ (by assumption) (by assumption)) (by k_asm) (by k_asm) (by k_asm) (by k_asm) (by k_asm) (by first | exact rfl | assumption) (by ktr_room) (by ktr_units) ?_); intro v9 h9 tk9 R9 F9 N9; obtain ⟨t9, R9⟩ := R9; subst R9; (try dsimp only))
  k_with "call ref" => (k_here; (with_reducible show wpAny _ _ (call (Value.ref 216) [Value.str _ _]) _ _ _); k_dflt (refine' Spec.use (spec_prep _ _ (by assumption) (by assumption)) (by k_asm) (by k_asm) (by k_asm) (by k_asm) (by k_asm) (by first | exact rfl | assumption) (by ktr_room) (by ktr_units) ?_); intro v9 h9 tk9 R9 F9 N9; obtain ⟨t9, R9⟩ := R9; subst R9; (try dsimp only))
  k_with "binaryOp Add str str" => (k_here; k_dflt (refine add_tx (by exact lit257) (by rfl) (by decide) (by omega) ?_); intro _ _)
  conv in (lawS 7) => whnf
  have F0 := fr_eq (over1 htx).symm F
  clear F
  have hx1 : tx (prep ([50, 53, 55, 32, 34] ++ tl)) = tx ([50, 53, 55, 32, 34] ++ prep tl) := by rw [prep_app, prep257]
  have hm1 : ∀ c ∈ [50, 53, 55, 32, 34] ++ tl, (m3 c).length ≤ 100 := by
    intro c hc
    rcases List.mem_append.mp hc with hc | hc
    · exact m3_257 c hc
    · exact hm c hc
  have hl1 : ([50, 53, 55, 32, 34] ++ tl).length ≤ 1000 := by rw [List.length_append]; show 5 + tl.length ≤ 1000; omega
  k_steps
  (rename Fr _ _ _ _ => F9'); (rename News _ _ _ _ => N9')
  exact hret _ _ _ (fr_eq (over_st (over1 htx)) F9') (news_sub _ N9' (by kcj_all))
theorem law_behind (nl : List Nat) (tn : Tok) (hnl : nl.length ≤ 1000) (hm : ∀ c ∈ nl, (m3 c).length ≤ 100) (mm : PySem.Str → Option Value) (hnm : mm (PySem.Str.ofString "name") = some (.str (tx nl) tn)) (o1 o2 : Obj) (news : List (Addr × Obj)) (fa : Addr) (cd : Value) (dp un : Nat) (gd : Option (List Code)) (A₀ : Around) (base h₀ : Heap) (s : Shared) (Q : Flow → Shared → Prop)
    (B : Below A₀ base [] h₀) (F : Fr h₀ h₀.objs.size s.heap mm) 
    (X : (K w.params).In h₀) (N : News h₀ h₀.objs.size s.heap (news)) (T : Top q (looseW q loose) mean mg mb h₀) (hd : dp + 20 < recursionLimit) (hu : un + 2000 < cLine)
    (hret : ∀ (t' : Tok) (h' : Heap) (tk' : Nat), Fr h₀ h₀.objs.size h' (fun y => if y = PySem.Str.ofString "behind" then some (.str (tx (prep nl)) t') else mm y) → News h₀ h₀.objs.size h' (news) → Q .next { s with heap := h', toks := tk' }) :
    wpAny (model pr w) (ktrTop dp un gd (PySem.Str.ofString "law") (fScope (st 18)) h₀.objs.size fa cd (cellsFrom (h₀.objs.size + 1) (fScope (st 18)).names []) []) (exec (lawS 8) (envOfC (PySem.Str.ofString "law") (fScope (st 18)) h₀.objs.size fa cd)) Q (fun _ _ => False) s := by
  k_with_none
  k_with "call ref" => (k_here; (with_reducible show wpAny _ _ (call (Value.ref 216) [Value.str _ _]) _ _ _); k_dflt (refine' Spec.use (spec_prep _ _ (by assumption) (by assumption)) (by k_asm) (by k_asm) (by k_asm) (by k_asm) (by k_asm) (by first | exact rfl | assumption) (by ktr_room) (by ktr_units) ?_); intro v9 h9 tk9 R9 F9 N9; obtain ⟨t9, R9⟩ := R9; subst R9; (try dsimp only))
  conv in (lawS 8) => whnf
  have F0 := fr_eq (over1 hnm).symm F
  clear F
  k_steps
  (rename Fr _ _ _ _ => F9'); (rename News _ _ _ _ => N9')
  exact hret _ _ _ (fr_eq (over_st (over1 hnm)) F9') (news_sub _ N9' (by kcj_all))
theorem law_cmp9 (tl bl : List Nat) (tt tb tn tf : Tok) (htl : tl.length ≤ 1000) (hbl : bl.length ≤ 1000) (mm : PySem.Str → Option Value) (htx : mm (PySem.Str.ofString "text") = some (.str (tx tl) tt)) (hba : mm (PySem.Str.ofString "bare") = some (.str (tx bl) tb)) (hnm : mm (PySem.Str.ofString "name") = some (.str (tx (pq tl)) tn)) (hfi : mm (PySem.Str.ofString "first") = some (.str (tx (pq bl)) tf)) (o1 o2 : Obj) (news : List (Addr × Obj)) (fa : Addr) (cd : Value) (dp un : Nat) (gd : Option (List Code)) (A₀ : Around) (base h₀ : Heap) (s : Shared) (Q : Flow → Shared → Prop)
    (B : Below A₀ base [] h₀) (F : Fr h₀ h₀.objs.size s.heap mm) 
    (X : (K w.params).In h₀) (N : News h₀ h₀.objs.size s.heap (news)) (T : Top q (looseW q loose) mean mg mb h₀) (hd : dp + 20 < recursionLimit) (hu : un + 2000 < cLine)
    (hret : ∀ (h' : Heap) (tk' : Nat), Fr h₀ h₀.objs.size h' mm → News h₀ h₀.objs.size h' (news) → Q .next { s with heap := h', toks := tk' }) :
    wpAny (model pr w) (ktrTop dp un gd (PySem.Str.ofString "law") (fScope (st 18)) h₀.objs.size fa cd (cellsFrom (h₀.objs.size + 1) (fScope (st 18)).names []) []) (exec (lawS 9) (envOfC (PySem.Str.ofString "law") (fScope (st 18)) h₀.objs.size fa cd)) Q (fun _ _ => False) s := by
  k_with_none
  k_with "call ref" => (k_here; (with_reducible show wpAny _ _ (call (Value.ref 197) [Value.str _ _]) _ _ _); k_dflt (refine' Spec.use (spec_named _ _ (by assumption)) (by k_asm) (by k_asm) (by k_asm) (by k_asm) (by k_asm) (by first | exact rfl | assumption) (by ktr_room) (by ktr_units) ?_); intro v9 h9 tk9 R9 F9 N9; obtain ⟨t9, R9⟩ := R9; subst R9; (try dsimp only))
  conv in (lawS 9) => whnf
  have F0 := fr_eq (over4 htx hba hnm hfi).symm F
  clear F
  k_steps
  all_goals first
    | (exfalso; rename (_ != _) = true => hq; simp at hq; done)
    | ((rename Fr _ _ _ _ => F9'); (rename News _ _ _ _ => N9'); exact hret _ _ (fr_eq (over4 htx hba hnm hfi) F9') (news_sub _ N9' (by kcj_all)))
    | trace_state
end
end Hd
end
end
section
open PySem PySem.W PySem.Calls PyProof.Rows PyProof.Rows.LCg PyProof.Rows.LCt
set_option maxRecDepth 100000
set_option maxHeartbeats 2000000
noncomputable section
namespace Hd
section
variable {prog : Program} {w : World} {A : Around} {E : Value → Shared → Prop} {s : Shared} {h₀ : Heap} {L : Addr} {m : PySem.Str → Option Value} {env : Env}
theorem ListComp_SU {elt iter : PySem.Expr} {x : PySem.Str} {px : Pos} {scope : Scope} {cl : List (PySem.Str × Addr)} {pos : Pos} {Q : Value → Shared → Prop} (F₀ : Fr h₀ L s.heap m)
    (hclos : closureFor scope env = pure cl) (hcell : ∀ y ∈ scope.names, y.2 ≠ .cell) (hkind : scope.kind = .function)
    (hnames : ∀ y ∈ scope.names, y.2 = .local → scope.names.lookup y.1 = some .local) (hx : scope.names.lookup x = some .local)
    (h : wpAny (model prog w) A (eval iter env) (fun xv s₁ => Hold (∃ y t news, xv = .str y t ∧ A.handled = none ∧ Fr h₀ L s₁.heap m ∧ News h₀ L s₁.heap news ∧ y.cps.size ≤ sizeLine ∧
      ∀ s₂ : Shared, (∃ h, s₂ = { s₁ with heap := h }) → CompRest prog w A h₀ L m env elt x scope cl s₂ (fun _ => True) (SignAt y) (FinE h₀ L m s₂ Q) y.cps.size 0 [] news)) E s)
    (hs : ∀ x, foldedSetIterable iter env x = pure x := by intro _; rfl) :
    wpAny (model prog w) A (eval (.ListComp elt [⟨.Name x px, iter, [], 0⟩] scope pos) env) Q E s := by
  rw [eval_ListComp]
  refine wpAny_comprehension_free (use := none) rfl hs hclos hkind hnames (wpAny_mono h ?_ fun _ _ e => e)
  rintro _ s₁ ⟨y, t, news, rfl, hh, F, N, hsz, R⟩
  refine text_iter hh fun a o St ea W g1 g2 g3 => ?_
  exact block_U W hsz g1 (fun i h h' o' nw st e1 e2 _ _ _ => g2 i h h' st fun o'' e => by rw [e1] at e; cases e; exact e2) hcell hkind hx g3 (push_lt ea) (F.keeps up_push) (N.grown up_push)
    (ea ▸ Nat.ne_of_lt F.ns.lt) (ea ▸ next_is_new F) (news_lt N ea) trivial (R _ ⟨_, rfl⟩) fun D C h tk m' ys nw F' N' o1 v c0 _ cL _ cD off fin => list_out F' N' o1 v c0 cL cD off fin
end
section
variable {prog : Program} {w : World} {A : Around} {h₀ : Heap} {L : Addr} {m : PySem.Str → Option Value} {env : Env} {elt : PySem.Expr} {x : PySem.Str} {scope : Scope} {cl : List (PySem.Str × Addr)} {s : Shared} {S : List (Addr × Obj) → Prop} {Fin : List Value → List (Addr × Obj) → Prop} {news : List (Addr × Obj)}
theorem restU {α : Type} {P : Nat → Value → Prop} (l : List α) (val : α → Tok → Value) (f : α → PySem.Str) (hP : ∀ i v, i < l.length → P i v → ∃ a u, l[i]? = some a ∧ v = val a u)
    (turn : ∀ a u I oI C oC D m₂ ys h tk (E' : Value → Shared → Prop), a ∈ l → NsObj oC m₂ → m₂ x = some (val a u) → Fr h₀ L h m → News h₀ L h ((I, oI) :: (C, oC) :: (D, lst ys) :: news) → Off3 I C D news → ((@Ne Nat I C) ∧ (@Ne Nat I D) ∧ (@Ne Nat C D)) →
      wpAny (model prog w) A (eval elt (compEnvC scope cl C env)) (CompEnd h₀ L m { s with heap := h, toks := tk } I oI C oC D (lst ys) S (fun y nw => nw = news ∧ ∃ t : Tok, y = .str (f a) t)) E' { s with heap := h, toks := tk })
    (fin : ∀ ys, StrsAre ys (l.map f) → Fin ys news) : CompRest prog w A h₀ L m env elt x scope cl s S P Fin l.length 0 [] news := by
  suffices H : ∀ (r q : List α), q ++ r = l → ∀ ys, StrsAre ys (q.map f) → CompRest prog w A h₀ L m env elt x scope cl s S P Fin r.length q.length ys news from H l [] rfl [] .nil
  intro r
  induction r with
  | nil => intro q e ys hy; exact CompRest.zero (fin ys (by rw [← e, List.append_nil]; exact hy))
  | cons b r ih =>
    intro q e ys hy
    refine CompRest.succ fun v I oI C oC D m₂ h tk E' hv hC hx F N off ne => ?_
    obtain ⟨a, u, ha, rfl⟩ := hP _ v (by rw [← e]; simp) hv
    obtain rfl : b = a := by simpa [← e] using ha
    refine wpAny_mono (turn b u I oI C oC D m₂ ys h tk E' (by rw [← e]; simp) hC hx F N off ne) (fun y s₂ z => end_imp z ?_) fun _ _ e => e
    rintro _ ⟨rfl, t, rfl⟩
    have z := ih (q ++ [b]) (by rw [List.append_assoc]; exact e) (ys ++ [.str (f b) t]) (by rw [List.map_append]; exact kct_snoc hy)
    rwa [List.length_append] at z
theorem tsU_rest (l : List Nat) (f : Nat → List Nat)
    (turn : ∀ c u I oI C oC D m₂ ys h tk (E' : Value → Shared → Prop), c ∈ l → NsObj oC m₂ → m₂ x = some (.str ⟨#[c]⟩ u) → Fr h₀ L h m → News h₀ L h ((I, oI) :: (C, oC) :: (D, lst ys) :: news) → Off3 I C D news → ((@Ne Nat I C) ∧ (@Ne Nat I D) ∧ (@Ne Nat C D)) →
      wpAny (model prog w) A (eval elt (compEnvC scope cl C env)) (CompEnd h₀ L m { s with heap := h, toks := tk } I oI C oC D (lst ys) S (fun y news' => news' = news ∧ ∃ t : Tok, y = .str (tx (f c)) t)) E' { s with heap := h, toks := tk })
    (fin : ∀ ys, StrsAre ys ((l.map f).map tx) → Fin ys news) : CompRest prog w A h₀ L m env elt x scope cl s S (SignAt (tx l)) Fin (tx l).cps.size 0 [] news := by
  have z := restU (prog := prog) (w := w) (A := A) (h₀ := h₀) (L := L) (m := m) (env := env) (elt := elt) (x := x) (scope := scope) (cl := cl) (s := s) (S := S) (Fin := Fin) (news := news) (P := SignAt (tx l)) l (fun c u => .str ⟨#[c]⟩ u) (fun c => tx (f c))
    (fun i v _ hv => by obtain ⟨c, u, hc, e⟩ := hv; exact ⟨c, u, by simpa [tx] using hc, e⟩) turn (fun ys hy => fin ys (by rw [List.map_map]; exact hy))
  rwa [show l.length = (tx l).cps.size by simp [tx]] at z
end
end Hd
end
end
section
open PySem PySem.W PySem.Calls PyProof.Rows
set_option maxRecDepth 100000
set_option maxHeartbeats 4000000
noncomputable section
namespace Hd
local macro_rules | `(tactic| walk_at "idle 0") => `(tactic| skip)
theorem filledRg : rw' = PySem.Challenge.rw_tr0065_03 ∧ K = K := by
  k_fill
  w_top off
  exact ⟨rfl, rfl⟩
theorem valueAt_mem {kvs : List (PySem.Str × Value)} {k : PySem.Str} (h : ∃ p ∈ kvs, p.1 = k) : ∃ v, valueAt kvs k = some v ∧ (k, v) ∈ kvs := by
  unfold valueAt
  cases e : kvs.find? (fun kv => decide (kv.1 = k)) with
  | none =>
    obtain ⟨p, hp, e2⟩ := h
    have := List.find?_eq_none.mp e p hp
    simp [e2] at this
  | some q =>
    have h1 := List.find?_some e
    have h2 := List.mem_of_find?_eq_some e
    have h3 : q.1 = k := of_decide_eq_true h1
    refine ⟨q.2, rfl, ?_⟩
    rw [← h3]; exact h2
section
variable {w : World} {A : Around} {E : Value → Shared → Prop} {s : Shared} {h₀ : Heap} {L d : Addr} {news : List (Addr × Obj)} {o : Obj} {S : List Int}
theorem item_folds {value slice : PySem.Expr} {c : Nat} {t : Tok} {Q : Value → Shared → Prop} (N : News h₀ L s.heap news) (hm : (d, o) ∈ news) (hf : FoldsOk w o S) (hpre : ∀ x : Int, foL x = prepC (sgC x)) (hc : ∃ x ∈ S, sgC x = c)
    (h : ∀ t', Q (.str (tx (prepC c)) t') { s with toks := s.toks + 1 })
    (hs : subscripted slice false (.ref d) (.str (tx [c]) t) = operate [.ref d, .str (tx [c]) t] (getItem (.ref d) (.str (tx [c]) t)) := by with_unfolding_all rfl) (hg : ∀ r, letTemporaryGo value (.ref d) r = pure () := by intro _; with_unfolding_all rfl) :
    wpAny (model pr w) A (subscriptTail value slice (.ref d) (.str (tx [c]) t)) Q E s := by
  obtain ⟨kvs, hd, hl, hp, hx⟩ := hf.ex
  have hdo : s.heap.DictOf (PySem.strKind pr w) d kvs := Heap.dictOf_iff.mpr ⟨o, N.get hm, hd⟩
  obtain ⟨x, hxS, rfl⟩ := hc
  obtain ⟨v, hv, hvm⟩ := valueAt_mem (hx x hxS)
  obtain ⟨y, ty, e⟩ := hp _ hvm
  have e1 := congrArg Prod.fst e
  have e2 := congrArg Prod.snd e
  dsimp only at e1 e2
  have e3 : sgC x = sgC y := (List.cons.inj (tx_inj.mp e1)).1
  rw [hpre y, ← e3] at e2
  subst e2
  exact subscriptTail_builtin hdo.typeIs slot_dict_getitem.lookup (wpAny_getItem_of (strKind_is pr w (tx [sgC x]) t) hdo.mapOf hv (h ty)) hs hg
end
theorem prep_flat : ∀ l : List Nat, prep l = (l.map prepC).flatten
  | [] => rfl
  | c :: r => by
    rw [List.map_cons, List.flatten_cons, ← prep_flat r]
    exact prep_app [c] r
section
variable {w : World} {mean : ExcName → Option Value} {mg mb : PySem.Str → Option Value}
theorem law_join10 (tl : List Nat) (tt tb : Tok) (htl : tl.length ≤ 1000) (ks : List Int) (Fd : Addr) (od : Obj) (hf : FoldsOk w od ks) (hpre : ∀ x : Int, foL x = prepC (sgC x)) (hin : ∀ c ∈ pq tl, ∃ x ∈ ks, sgC x = c) (hm : ∀ c ∈ pq tl, (prepC c).length ≤ 100) (mm : PySem.Str → Option Value) (htx : mm (PySem.Str.ofString "text") = some (.str (tx tl) tt)) (hbe : mm (PySem.Str.ofString "behind") = some (.str (tx (prep (pq tl))) tb)) (o1 o2 : Obj) (news : List (Addr × Obj)) (fa : Addr) (cd : Value) (dp un : Nat) (gd : Option (List Code)) (A₀ : Around) (base h₀ : Heap) (s : Shared) (Q : Flow → Shared → Prop)
    (B : Below A₀ base [] h₀) (F : Fr h₀ h₀.objs.size s.heap mm) (c1 : o1.data = .cell (some (.ref Fd)))
    (X : (K w.params).In h₀) (N : News h₀ h₀.objs.size s.heap ((Fd, od) :: (h₀.objs.size + 1 + 1, o2) :: (h₀.objs.size + 1, o1) :: news)) (T : Top q (looseW q loose) mean mg mb h₀) (hd : dp + 20 < recursionLimit) (hu : un + 2000 < cLine)
    (hret : ∀ (h' : Heap) (tk' : Nat), Fr h₀ h₀.objs.size h' mm → News h₀ h₀.objs.size h' ((Fd, od) :: (h₀.objs.size + 1 + 1, o2) :: (h₀.objs.size + 1, o1) :: news) → Q .next { s with heap := h', toks := tk' }) :
    wpAny (model pr w) (ktrTop dp un gd (PySem.Str.ofString "law") (fScope (st 18)) h₀.objs.size fa cd (cellsFrom (h₀.objs.size + 1) (fScope (st 18)).names []) []) (exec (lawS 10) (envOfC (PySem.Str.ofString "law") (fScope (st 18)) h₀.objs.size fa cd)) Q (fun _ _ => False) s := by
  k_with_none
  k_with "call ref" => (k_here; (with_reducible show wpAny _ _ (call (Value.ref 197) [Value.str _ _]) _ _ _); k_dflt (refine' Spec.use (spec_named _ _ (by assumption)) (by k_asm) (by k_asm) (by k_asm) (by k_asm) (by k_asm) (by first | exact rfl | assumption) (by ktr_room) (by ktr_units) ?_); intro v9 h9 tk9 R9 F9 N9; obtain ⟨t9, R9⟩ := R9; subst R9; (try dsimp only))
  k_with "eval ListComp" => refine hold ?_
  k_with "subscriptTail Name Name ref str" => refine hold ?_
  k_with "call builtin:str.join" => (k_here; k_dflt (refine' join_E (by assumption) (News.isList (by k_asm) (by k_mem)) (by assumption) (by assumption) (by assumption) rfl ?_); intro _ _)
  conv in (lawS 10) => whnf
  have F0 := fr_eq (over2 htx hbe).symm F
  clear F
  have hpl : (pq tl).length ≤ 1000 := by have := pq_len tl.length tl (Nat.le_refl _); omega
  k_steps
  unfold Hold
  k_dflt (refine ListComp_SU (F₀ := by k_asm) (by with_unfolding_all rfl) (by decide) (by rfl) (by decide) (by rfl) ?_)
  k_steps
  (try unfold Hold)
  (rename Fr _ _ _ _ => F9'); (rename News _ _ _ _ => N9')
  refine ⟨tx (pq tl), t9, (Fd, od) :: (h₀.objs.size + 1 + 1, o2) :: (h₀.objs.size + 1, o1) :: news, rfl, trivial, F9', N9', (by rw [sizeLine_eq]; have := tx_len (pq tl); unfold PySem.Str.length at this; omega), ?_⟩
  rintro s₂ ⟨h', rfl⟩
  refine tsU_rest (pq tl) prepC (fun c u' I' oI' C' oC' D' m' ys' h' tk' E' hd' hC' hx' F' N' off' ne' => ?_) (fun ys hys => ?_)
  · (try (simp only [LCg.Off3, and_true] at off'))
    k_steps
    unfold Hold
    k_dflt (refine item_folds (c := c) N' (by k_mem) hf hpre (hin c hd') ?_)
    intro t7
    k_steps
    all_goals first
      | exact LCg.CompEnd.intro (by assumption) (by assumption) _ (by kcf_all) (by first | assumption | (simp only [LCg.Off3, and_true]; done) | (simp only [LCg.Off3, and_true]; assumption)) (by first | lcg_src | assumption | trivial) ⟨rfl, _, rfl⟩
      | trace_state
  · have hr : ((pq tl).map prepC).flatten = prep (pq tl) := (prep_flat _).symm
    have hB : ∀ z ∈ (pq tl).map prepC, z.length ≤ 100 := by
      intro z hz
      obtain ⟨c, hc, rfl⟩ := List.mem_map.mp hz
      exact hm c hc
    have hBl : ((pq tl).map prepC).length * 100 + ((pq tl).map prepC).length ≤ 1048576 := by rw [List.length_map]; omega
    k_steps
    all_goals first
      | (exfalso; rename (_ != _) = true => hq; simp at hq; done)
      | ((rename Fr _ _ _ _ => F9'); (rename News _ _ _ _ => N9'); exact hret _ _ (fr_eq (over2 htx hbe) F9') (news_sub _ N9' (by kcj_all)))
      | trace_state
end
end Hd
end
end
section
open PySem PySem.W PySem.Calls PyProof.Rows
set_option maxRecDepth 100000
set_option maxHeartbeats 4000000
noncomputable section
namespace Hd
theorem filledRh : rw' = PySem.Challenge.rw_tr0065_03 ∧ K = K := by
  k_fill
  w_top off
  exact ⟨rfl, rfl⟩
theorem slice_fromL (T : List Nat) (p : Nat) : Txt.slice (tx T) (some (p : Int)) none = tx (T.drop p) := by
  by_cases hp : p ≤ T.length
  · show StrLaws.sliceText _ (some (p : Int)) none = _
    rw [StrLaws.sliceText_from ⟨by omega, by simp [tx]; omega⟩]
    have e : (T.drop p).take (T.length - p) = T.drop p := List.take_of_length_le (by rw [List.length_drop]; omega)
    simp [tx, e]
  · have e : StrLaws.sliceText (tx T) (some (p : Int)) none = StrLaws.sliceText (tx T) (some (T.length : Int)) none := by
      unfold StrLaws.sliceText
      have : Builtin.Str.strSliceIndices (some (p : Int)) none 1 (tx T).length = Builtin.Str.strSliceIndices (some (T.length : Int)) none 1 (tx T).length := by
        rw [tx_len]
        unfold Builtin.Str.strSliceIndices
        have h1 : ¬ ((p : Int) < 0) := by omega
        have h2 : ¬ ((T.length : Int) < 0) := by omega
        have h3 : min (p : Int) (T.length : Int) = T.length := by omega
        have h4 : min (T.length : Int) (T.length : Int) = T.length := by omega
        simp only [h1, h2, if_false]
        simp [h3]
      rw [this]
    show StrLaws.sliceText _ (some (p : Int)) none = _
    rw [e, StrLaws.sliceText_from ⟨by omega, by simp [tx]⟩, List.drop_eq_nil_of_le (show T.length ≤ p by omega)]
    simp [tx]
noncomputable def cq (l : List Nat) : Nat := (l.filter fun d => decide (d = 34)).length
theorem cnt_tx (l : List Nat) : Txt.count (tx l) (PySem.Str.ofString "\"") = (cq l : Int) := by
  rw [quo_tx]
  have h := count_is (tx l) 34
  rw [show tx [34] = (⟨#[34]⟩ : PySem.Str) from rfl, h, show (tx l).cps.toList = l by simp [tx]]
  induction l with
  | nil => rfl
  | cons a r ih =>
    rw [List.map_cons]
    show (if PySem.Spec.same (PyData.str ⟨#[a]⟩) (PyData.str ⟨#[34]⟩) = true then (1 : Int) else 0) + _ = _
    rw [ih (count_is (tx r) 34), PyProof.V.same_str]
    unfold cq
    by_cases e : a = 34
    · subst e; simp; omega
    · have : ¬ ((⟨#[a]⟩ : PySem.Str) = ⟨#[34]⟩) := fun h => e (List.cons.inj (tx_inj.mp (show tx [a] = tx [34] from h))).1
      simp [e, this]
section
variable {w : World} {mean : ExcName → Option Value} {mg mb : PySem.Str → Option Value}
theorem law_rest (tl nl : List Nat) (tt tn : Tok) (htl : tl.length ≤ 1000) (hnl : nl.length ≤ 1000) (mm : PySem.Str → Option Value) (htx : mm (PySem.Str.ofString "text") = some (.str (tx tl) tt)) (hnm : mm (PySem.Str.ofString "name") = some (.str (tx nl) tn)) (o1 o2 : Obj) (news : List (Addr × Obj)) (fa : Addr) (cd : Value) (dp un : Nat) (gd : Option (List Code)) (A₀ : Around) (base h₀ : Heap) (s : Shared) (Q : Flow → Shared → Prop)
    (B : Below A₀ base [] h₀) (F : Fr h₀ h₀.objs.size s.heap mm) 
    (X : (K w.params).In h₀) (N : News h₀ h₀.objs.size s.heap (news)) (T : Top q (looseW q loose) mean mg mb h₀) (hd : dp + 20 < recursionLimit) (hu : un + 2000 < cLine)
    (hret : ∀ (t' : Tok) (h' : Heap) (tk' : Nat), Fr h₀ h₀.objs.size h' (fun y => if y = PySem.Str.ofString "rest" then some (.str (tx (tl.drop (nl.length + cq nl + 1))) t') else mm y) → News h₀ h₀.objs.size h' (news) → Q .next { s with heap := h', toks := tk' }) :
    wpAny (model pr w) (ktrTop dp un gd (PySem.Str.ofString "law") (fScope (st 18)) h₀.objs.size fa cd (cellsFrom (h₀.objs.size + 1) (fScope (st 18)).names []) []) (exec (lawS 11) (envOfC (PySem.Str.ofString "law") (fScope (st 18)) h₀.objs.size fa cd)) Q (fun _ _ => False) s := by
  k_with_none
  k_with "call builtin:str.count" => (k_here; k_dflt (refine SC.count ?_))
  conv in (lawS 11) => whnf
  have F0 := fr_eq (over2 htx hnm).symm F
  clear F
  have hc := cnt_tx nl
  have hln := tx_len nl
  have hlt := tx_len tl
  have hcq : cq nl ≤ 1000 := Nat.le_trans (List.length_filter_le _ _) hnl
  have e : Txt.slice (tx tl) (some (((tx nl).length : Int) + Txt.count (tx nl) (PySem.Str.ofString "\"") + 1)) none = tx (tl.drop (nl.length + cq nl + 1)) := by
    rw [hln, hc, show ((nl.length : Int) + (cq nl : Int) + 1) = ((nl.length + cq nl + 1 : Nat) : Int) by omega]; exact slice_fromL tl _
  k_steps
  (rename Fr _ _ _ _ => F9'); (rename News _ _ _ _ => N9')
  rw [e] at F9'
  exact hret _ _ _ (fr_eq (over_st (over2 htx hnm)) F9') (news_sub _ N9' (by kcj_all))
end
end Hd
end
end
section
open PySem PySem.W PySem.Calls PyProof.Rows
set_option maxRecDepth 100000
set_option maxHeartbeats 4000000
noncomputable section
namespace Hd
local macro_rules | `(tactic| walk_at "idle 0") => `(tactic| skip)
theorem filledRi : rw' = PySem.Challenge.rw_tr0065_03 ∧ K = K := by
  k_fill
  w_top off
  exact ⟨rfl, rfl⟩
section
open PyProof.Rows.LCg PyProof.Rows.LCt
variable {prog : Program} {w : World} {A : Around} {E : Value → Shared → Prop} {s : Shared} {h₀ : Heap} {L : Addr} {m : PySem.Str → Option Value} {env : Env}
theorem Assign_ListComp_SH {ct elt iter : PySem.Expr} {x y : PySem.Str} {px py : Pos} {scope : Scope} {cl : List (PySem.Str × Addr)} {pos spos : Pos} {Q : Flow → Shared → Prop} (F₀ : Fr h₀ L s.heap m) (hLe : env.locals = L)
    (hsw : swapsWith (.ListComp elt [⟨.Name x px, iter, [ct], 0⟩] scope pos) (some (.Name y py)) spos.line env = pure true)
    (hclos : closureFor scope env = pure cl) (hcell : ∀ z ∈ scope.names, z.2 ≠ .cell) (hkind : scope.kind = .function)
    (hnames : ∀ z ∈ scope.names, z.2 = .local → scope.names.lookup z.1 = some .local) (hx : scope.names.lookup x = some .local)
    (hy : env.kindOf y = some .local) (hp : (env.scope.kind == .class || (env.scope.kind == .module && env.locals != env.globals)) = false)
    (h : wpAny (model prog w) A (eval iter env) (fun xv s₁ => Hold (∃ z t news, xv = .str z t ∧ A.handled = none ∧ Fr h₀ L s₁.heap m ∧ News h₀ L s₁.heap news ∧ z.cps.size ≤ sizeLine ∧
      ∀ s₂ : Shared, (∃ h, s₂ = { s₁ with heap := h }) → CompRestT prog w A h₀ L m env ct elt x scope cl s₂ (fun _ => True) (SignAt z) (FinA h₀ L m s₂ y Q) z.cps.size 0 [] news)) E s)
    (hs : ∀ x, foldedSetIterable iter env x = pure x := by intro _; rfl) :
    wpAny (model prog w) A (exec (.Assign [.Name y py] (.ListComp elt [⟨.Name x px, iter, [ct], 0⟩] scope pos) spos) env) Q E s := by
  subst hLe
  have val : ∀ q : Pos, wpAny (model prog w) A (comprehension (.ListComp elt [⟨.Name x px, iter, [ct], 0⟩] scope pos) scope env q (newList []) false (eval iter env) (some (assign (.Name y py) env))) (fun _ s' => Q .next s') E s := by
    intro q
    refine wpAny_comprehension_free rfl hs hclos hkind hnames (wpAny_mono h ?_ fun _ _ e => e)
    rintro _ s₁ ⟨z, t, news, rfl, hh, F, N, hsz, R⟩
    refine text_iter hh fun a o St ea W g1 g2 g3 => ?_
    refine block_T W hsz g1 (fun i h h' o' nw st e1 e2 _ _ _ => g2 i h h' st fun o'' e => by rw [e1] at e; cases e; exact e2) hcell hkind hx g3 (push_lt ea) (F.keeps up_push) (N.grown up_push)
      (ea ▸ Nat.ne_of_lt F.ns.lt) (ea ▸ next_is_new F) (news_lt N ea) trivial (R _ ⟨_, rfl⟩) fun D C h tk m' ys nw F' N' o1 v c0 _ cL _ cD off fin => ?_
    refine wpAny_assign_Name (wpAny_storeName_local hy F'.ns (fun h₂ n₂ e₂ => ⟨m', v.sameBut e₂ cL, fun h₃ e₃ => ?_⟩) hp)
    exact fin D h₃ _ ((F'.set n₂ e₂).change e₃ cL c0) (fun p hp => by
      have off' : p.1 ≠ C := (List.forall_mem_cons (p := fun p : Addr × Obj => p.1 ≠ C)).mpr ⟨Ne.symm cD, off⟩ p hp
      have N₂ := N'.set e₂ p hp
      exact ⟨(e₃.2 p.1 off').trans N₂.1, N₂.2⟩) o1
  rw [exec_Assign_Name_used _ _ _ _ hsw]
  refine wpAny_bind (wpAny_standAt (wpAny_bind ?_))
  exact wpAny_bind (wpAny_mono (val _) (fun _ s' hq => wpAny_pure (wpAny_pure hq)) fun _ _ e => e)
end
noncomputable def seenB (c : Nat) : Bool := !decide (prepC c = [])
theorem ne_nil {prog : Program} {w : World} {A : Around} {E : Value → Shared → Prop} {s : Shared} {a : List Nat} {t u : Tok} {Q : Value → Shared → Prop} (h : Q (.bool (!decide (a = []))) s) : wpAny (model prog w) A (compareOp .NotEq (.str (tx a) t) (.str (PySem.Str.ofString "") u)) Q E s :=
  P.ne_str (by
    rw [show (PySem.Str.ofString "").cps.toList = [] by decide +kernel, show (tx a).cps.toList = a by simp [tx]]
    have : (a != []) = !decide (a = []) := by cases a <;> simp
    rw [this]; exact h)
section
variable {w : World} {mean : ExcName → Option Value} {mg mb : PySem.Str → Option Value}
theorem law_seen (rl : List Nat) (tr : Tok) (hrl : rl.length ≤ 1000) (ks : List Int) (Fd : Addr) (od : Obj) (hf : FoldsOk w od ks) (hpre : ∀ x : Int, foL x = prepC (sgC x)) (hin : ∀ c ∈ rl, ∃ x ∈ ks, sgC x = c) (mm : PySem.Str → Option Value) (hre : mm (PySem.Str.ofString "rest") = some (.str (tx rl) tr)) (o1 o2 : Obj) (news : List (Addr × Obj)) (fa : Addr) (cd : Value) (dp un : Nat) (gd : Option (List Code)) (A₀ : Around) (base h₀ : Heap) (s : Shared) (Q : Flow → Shared → Prop)
    (B : Below A₀ base [] h₀) (F : Fr h₀ h₀.objs.size s.heap mm) (c1 : o1.data = .cell (some (.ref Fd)))
    (X : (K w.params).In h₀) (N : News h₀ h₀.objs.size s.heap ((Fd, od) :: (h₀.objs.size + 1 + 1, o2) :: (h₀.objs.size + 1, o1) :: news)) (T : Top q (looseW q loose) mean mg mb h₀) (hd : dp + 20 < recursionLimit) (hu : un + 2000 < cLine)
    (hret : ∀ (D : Addr) (ys : List Value) (h' : Heap) (tk' : Nat), StrsAre ys (((rl.filter seenB).map fun c => [c]).map tx) → (∀ p ∈ (Fd, od) :: (h₀.objs.size + 1 + 1, o2) :: (h₀.objs.size + 1, o1) :: news, p.1 ≠ D) → Fr h₀ h₀.objs.size h' (fun y => if y = PySem.Str.ofString "seen" then some (.ref D) else mm y) → News h₀ h₀.objs.size h' ((D, W.listOf (List.toArray ys) ys.length) :: (Fd, od) :: (h₀.objs.size + 1 + 1, o2) :: (h₀.objs.size + 1, o1) :: news) → Q .next { s with heap := h', toks := tk' }) :
    wpAny (model pr w) (ktrTop dp un gd (PySem.Str.ofString "law") (fScope (st 18)) h₀.objs.size fa cd (cellsFrom (h₀.objs.size + 1) (fScope (st 18)).names []) []) (exec (lawS 12) (envOfC (PySem.Str.ofString "law") (fScope (st 18)) h₀.objs.size fa cd)) Q (fun _ _ => False) s := by
  k_with_none
  k_with "exec Assign cons ListComp" => refine hold ?_
  k_with "subscriptTail Name Name ref str" => refine hold ?_
  k_with "compareOp NotEq str str" => (k_here; (with_reducible refine ne_nil ?_))
  conv in (lawS 12) => whnf
  have F0 := fr_eq (over1 hre).symm F
  clear F
  k_steps
  unfold Hold
  k_dflt (refine Assign_ListComp_SH (F₀ := by k_asm) (by rfl) (by with_unfolding_all rfl) (by with_unfolding_all rfl) (by decide) (by rfl) (by decide) (by rfl) (by rfl) (by rfl) ?_)
  k_steps
  (try unfold Hold)
  (rename Fr _ _ _ _ => F9'); (rename News _ _ _ _ => N9')
  refine ⟨tx rl, tr, (Fd, od) :: (h₀.objs.size + 1 + 1, o2) :: (h₀.objs.size + 1, o1) :: news, rfl, (by first | rfl | trivial), F9', N9', (by rw [sizeLine_eq]; have := tx_len rl; unfold PySem.Str.length at this; omega), ?_⟩
  rintro s₂ ⟨h', rfl⟩
  refine tsT_rest rl seenB (fun c => tx [c]) (fun c u' I' oI' C' oC' D' m' ys' h' tk' E' hd' hC' hx' F' N' off' ne' => ?_) (fun ys hys => ?_)
  · (try (simp only [LCg.Off3, and_true] at off'))
    k_steps
    unfold Hold
    k_dflt (refine item_folds (c := c) N' (by k_mem) hf hpre (hin c hd') ?_)
    intro t7
    k_steps
    · rename (prepC c = []) => hq9
      exact LCg.CompEnd.intro (by assumption) (by assumption) _ (by kcf_all) (by first | assumption | (simp only [LCg.Off3, and_true]; done) | (simp only [LCg.Off3, and_true]; assumption)) (by first | lcg_src | assumption | trivial) ⟨rfl, by unfold seenB; rw [decide_eq_true hq9]; rfl⟩
    · rename (¬ prepC c = []) => hq9
      exact LCg.CompEnd.intro (by assumption) (by assumption) _ (by kcf_all) (by first | assumption | (simp only [LCg.Off3, and_true]; done) | (simp only [LCg.Off3, and_true]; assumption)) (by first | lcg_src | assumption | trivial) ⟨rfl, by unfold seenB; rw [decide_eq_false hq9]; rfl, _, rfl⟩
  · have hys' : StrsAre ys (((rl.filter seenB).map fun c => [c]).map tx) := by rw [List.map_map]; exact hys
    k_steps
    rename_i Dz hz tkz Fz Nz oz
    refine hret Dz ys _ _ hys' ?_ (fr_eq (over_in hre) Fz) Nz
    intro p hp
    rcases List.mem_cons.mp hp with rfl | hp
    · exact oz.1
    rcases List.mem_cons.mp hp with rfl | hp
    · exact oz.2.1
    rcases List.mem_cons.mp hp with rfl | hp
    · exact oz.2.2.1
    · exact off1_mem oz.2.2.2 p hp
end
end Hd
end
end
section
open PySem PySem.W PySem.Calls PyProof.Rows
set_option maxRecDepth 100000
set_option maxHeartbeats 4000000
noncomputable section
namespace Hd
theorem filledRj : rw' = PySem.Challenge.rw_tr0065_03 ∧ K = K := by
  k_fill
  w_top off
  exact ⟨rfl, rfl⟩
theorem pick1 (ys : List Value) : slicePick ys.toArray none (some 1) none = (ys.take 1).toArray := by
  cases ys with
  | nil => rfl
  | cons a r => exact slicePick_upto (a :: r).toArray 1 (by simp)
theorem dat_take1 {news : List (Addr × Obj)} {ys : List Value} {sl : List (List Nat)} (h : StrsAre ys (sl.map tx)) : DatAll news (ys.take 1) ((sl.take 1).map fun l => Dat.str (tx l)) := by
  cases sl with
  | nil => cases h; exact .nil
  | cons a r =>
    cases h with
    | cons x t _ => exact .cons (.str _ _) .nil
theorem strs_ok {sl : List (List Nat)} (hs1 : ∀ l ∈ sl, ∃ c, l = [c] ∧ c < 1114112) : kqdOk 8 (Dat.list ((sl.take 1).map fun l => Dat.str (tx l))) = true := by
  simp only [kqdOk, List.all_map, List.all_eq_true, Function.comp_def]
  intro l hl
  obtain ⟨c, rfl, hc⟩ := hs1 l (List.mem_of_mem_take hl)
  simp [PyData.strOk, tx, hc]
theorem strs_inj (a b : List (List Nat)) (h : (a.map fun l => Dat.str (tx l)) = b.map fun l => Dat.str (tx l)) : a = b := by
  induction a generalizing b with
  | nil => cases b with | nil => rfl | cons _ _ => simp at h
  | cons x r ih =>
    cases b with
    | nil => simp at h
    | cons y r' =>
      simp at h
      rw [tx_inj.mp h.1, ih r' (by simpa using h.2)]
section
variable {w : World} {mean : ExcName → Option Value} {mg mb : PySem.Str → Option Value}
theorem law_seen13 (sl : List (List Nat)) (fl bl : List Nat) (tf tb : Tok) (hfl : fl.length ≤ 1000) (hbl : bl.length ≤ 1000) (D : Addr) (ys : List Value) (nn : Nat) (hys : StrsAre ys (sl.map tx)) (hXl : sl.length ≤ 1000) (hs1 : ∀ l ∈ sl, ∃ c, l = [c] ∧ c < 1114112) (hfact : if sl.take 1 = [[34]] then fl.take (bl.length + 1) = bl ++ [34] else fl = bl) (mm : PySem.Str → Option Value) (hse : mm (PySem.Str.ofString "seen") = some (.ref D)) (hfi : mm (PySem.Str.ofString "first") = some (.str (tx fl) tf)) (hbe : mm (PySem.Str.ofString "behind") = some (.str (tx bl) tb)) (o1 o2 : Obj) (news : List (Addr × Obj)) (fa : Addr) (cd : Value) (dp un : Nat) (gd : Option (List Code)) (A₀ : Around) (base h₀ : Heap) (s : Shared) (Q : Flow → Shared → Prop)
    (B : Below A₀ base [] h₀) (F : Fr h₀ h₀.objs.size s.heap mm) 
    (X : (K w.params).In h₀) (N : News h₀ h₀.objs.size s.heap ((D, W.listOf (List.toArray ys) nn) :: news)) (T : Top q (looseW q loose) mean mg mb h₀) (hd : dp + 20 < recursionLimit) (hu : un + 2000 < cLine)
    (hret : ∀ (h' : Heap) (tk' : Nat), Fr h₀ h₀.objs.size h' mm → News h₀ h₀.objs.size h' ((D, W.listOf (List.toArray ys) nn) :: news) → Q .next { s with heap := h', toks := tk' }) :
    wpAny (model pr w) (ktrTop dp un gd (PySem.Str.ofString "law") (fScope (st 18)) h₀.objs.size fa cd (cellsFrom (h₀.objs.size + 1) (fScope (st 18)).names []) []) (exec (lawS 13) (envOfC (PySem.Str.ofString "law") (fScope (st 18)) h₀.objs.size fa cd)) Q (fun _ _ => False) s := by
  k_with_none
  k_with "compareOp Eq ref ref" => refine hold ?_
  k_with "binaryOp Add str str" => (k_here; k_dflt (refine add_tx (by rfl) (by exact quo_tx) (by omega) (by decide) ?_); intro _ _)
  conv in (lawS 13) => whnf
  have F0 := fr_eq (over3 hse hfi hbe).symm F
  clear F
  have hlen := hys.length
  k_steps
  unfold Hold
  (rename Fr _ _ _ _ => F9'); (rename News _ _ _ _ => N9')
  rw [pick1] at N9'
  refine dat_eq N9' (d := Dat.list ((sl.take 1).map fun l => Dat.str (tx l))) (e := Dat.list [Dat.str (tx [34])]) (DatIn.list (vs := ys.take 1) (n := 0) (by k_mem) (dat_take1 hys)) ?_ ?_ ?_ ?_ ?_
  · refine DatIn.list (vs := [.str (PySem.Str.ofString "\"") _]) (n := 0) (by k_mem) ?_
    rw [quo_tx]
    exact .cons (.str _ _) .nil
  · exact strs_ok hs1
  · decide +kernel
  · ktr_units
  · by_cases hq : sl.take 1 = [[34]]
    · rw [if_pos hq] at hfact
      have hlb := tx_len bl
      have hlf := tx_len fl
      have hl1 : bl.length + 1 ≤ fl.length := by
        have := congrArg List.length hfact
        rw [List.length_take, List.length_append, List.length_singleton] at this
        omega
      have he : Txt.slice (tx fl) none (some (((tx bl).length : Int) + 1)) = tx (bl ++ [34]) := by
        rw [hlb, slice_to fl _ (by omega) (by omega), show ((bl.length : Int) + 1).toNat = bl.length + 1 by omega, hfact]
      rw [show @decide (Dat.list ((sl.take 1).map fun l => Dat.str (tx l)) = Dat.list [Dat.str (tx [34])]) (Classical.propDecidable _) = true from @decide_eq_true _ (Classical.propDecidable _) (by rw [hq]; rfl)]
      k_steps
      all_goals first
        | (exfalso; rename (_ != _) = true => hq9; (try rw [he] at hq9); (try rw [hfact] at hq9); simp at hq9; done)
        | ((rename Fr _ _ _ _ => F9'); (rename News _ _ _ _ => N9'); exact hret _ _ (fr_eq (over3 hse hfi hbe) F9') (news_sub _ N9' (by kcj_all)))
        | trace_state
    · rw [if_neg hq] at hfact
      rw [show @decide (Dat.list ((sl.take 1).map fun l => Dat.str (tx l)) = Dat.list [Dat.str (tx [34])]) (Classical.propDecidable _) = false from @decide_eq_false _ (Classical.propDecidable _) (fun h => hq (strs_inj _ [[34]] (Dat.list.inj h)))]
      k_steps
      all_goals first
        | (exfalso; rename (_ != _) = true => hq9; (try rw [he] at hq9); (try rw [hfact] at hq9); simp at hq9; done)
        | ((rename Fr _ _ _ _ => F9'); (rename News _ _ _ _ => N9'); exact hret _ _ (fr_eq (over3 hse hfi hbe) F9') (news_sub _ N9' (by kcj_all)))
        | trace_state
end
end Hd
end
end
section
open PySem PySem.W PySem.Calls PyProof.Rows
set_option maxRecDepth 100000
set_option maxHeartbeats 8000000
noncomputable section
namespace Hd
local macro_rules | `(tactic| walk_at "idle 0") => `(tactic| skip)
theorem filledNe : rw' = PySem.Challenge.rw_tr0065_03 ∧ K = K := by
  k_fill
  w_top off
  exact ⟨rfl, rfl⟩
noncomputable def neD (ks1 : List Int) (b1 nt1 : Nat) (ks2 : List Int) (b2 nt2 : Nat) (pre : List Int) : List Dat :=
  (pre.filter (fun T => decide (lvlV ks1 b1 nt1 T ≠ lvlV ks2 b2 nt2 T))).map fun T => Dat.tuple [Dat.int T, Dat.int (lvlV ks1 b1 nt1 T), Dat.int (lvlV ks2 b2 nt2 T)]
structure NeP (ks1 : List Int) (b1 nt1 : Nat) (ks2 : List Int) (b2 nt2 : Nat) (pre : List Int) (out : List Dat) : Prop where
  eq : out = neD ks1 b1 nt1 ks2 b2 nt2 pre
theorem NeP.nil (ks1 : List Int) (b1 nt1 : Nat) (ks2 : List Int) (b2 nt2 : Nat) : NeP ks1 b1 nt1 ks2 b2 nt2 [] [] := ⟨rfl⟩
theorem NeP.add {ks1 : List Int} {b1 nt1 : Nat} {ks2 : List Int} {b2 nt2 : Nat} {pre : List Int} {out : List Dat} {k : Int} (h : NeP ks1 b1 nt1 ks2 b2 nt2 pre out) (hl : lvlV ks1 b1 nt1 k ≠ lvlV ks2 b2 nt2 k) : NeP ks1 b1 nt1 ks2 b2 nt2 (pre ++ [k]) (out ++ [Dat.tuple [Dat.int k, Dat.int (lvlV ks1 b1 nt1 k), Dat.int (lvlV ks2 b2 nt2 k)]]) :=
  ⟨by rw [h.eq]; unfold neD; rw [List.filter_append, List.map_append, List.filter_cons_of_pos (by rw [decide_eq_true_eq]; exact hl)]; rfl⟩
theorem NeP.skip {ks1 : List Int} {b1 nt1 : Nat} {ks2 : List Int} {b2 nt2 : Nat} {pre : List Int} {out : List Dat} {k : Int} (h : NeP ks1 b1 nt1 ks2 b2 nt2 pre out) (hl : ¬ lvlV ks1 b1 nt1 k ≠ lvlV ks2 b2 nt2 k) : NeP ks1 b1 nt1 ks2 b2 nt2 (pre ++ [k]) out :=
  ⟨by rw [h.eq]; unfold neD; rw [List.filter_append, List.map_append, List.filter_cons_of_neg (by rw [decide_eq_true_eq]; exact hl)]; simp⟩
theorem news_up {h₀ h : Heap} {L : Addr} {l : List (Addr × Obj)} (a : List (Addr × Obj)) (N : News h₀ L h l) (hs : ∀ p ∈ a, p ∈ l) : News h₀ L h (a ++ l) := fun p hp => (List.mem_append.mp hp).elim (fun h => N p (hs p h)) (N p)
theorem news_dn {h₀ h : Heap} {L : Addr} {p1 p2 p3 p4 : Addr × Obj} {l : List (Addr × Obj)} (N : News h₀ L h (p1 :: p2 :: p3 :: p4 :: l)) : News h₀ L h l := fun p hp => N p (.tail _ (.tail _ (.tail _ (.tail _ hp))))
section
variable {prog : Program} {w : World} {A : Around} {E : Value → Shared → Prop} {s : Shared} {h₀ : Heap} {L D : Addr} {m : PySem.Str → Option Value} {R : List (Addr × Obj)} {vs : List Value} {n : Nat} {x : Value}
theorem append_2 {Q : Value → Shared → Prop} {q : Addr × Obj} (F : Fr h₀ L s.heap m) (N : News h₀ L s.heap (q :: (D, W.listOf (List.toArray vs) n) :: R)) (hq : q.1 ≠ D) (hR : ∀ p ∈ R, p.1 ≠ D) (hsz : vs.length ≤ 10000)
    (h : ∀ h', Fr h₀ L h' m → News h₀ L h' (q :: (D, W.listOf (List.toArray (vs ++ [x])) (n + 1)) :: R) → Q .none { s with heap := h' }) : wpAny (model prog w) A (call (.builtin "list.append") [.ref D, x]) Q E s := by
  have z := N _ (.tail _ (.head _))
  refine append_at (hsz := by rw [List.size_toArray, PySem.sizeLine_eq]; omega) z.1 fun h' hs ho' => h h' (F.change hs z.2.1 z.2.2) ?_
  have k := news_set (pre := [q]) N (fun p hp => by rw [List.mem_singleton.mp hp]; exact hq) hR hs ho'
  have e : (List.toArray vs).push x = List.toArray (vs ++ [x]) := by simp
  rw [← e]; exact k
end
theorem off_all {l : Addr} {A tl own : List (Addr × Obj)} {adr : List Addr} (h1 : AllLt l A) (h2 : KdSep own tl (l :: adr)) : ∀ p ∈ A ++ (tl ++ own), p.1 ≠ l := by
  intro p hp
  rcases List.mem_append.mp hp with hp | hp
  · exact allLt_ne h1 p hp
  rcases List.mem_append.mp hp with hp | hp
  · exact h2.three p hp l (.head _)
  · exact h2.one p hp l (.head _)
section
variable {w : World} {mean : ExcName → Option Value} {mg mb : PySem.Str → Option Value}
theorem spec_new (raw1 : PySem.Str) (ks1 : List Int) (b1 n1 nt1 : Nat) (x1 d1 D1 E1 : Addr) (vs1 : List Value) (sm1 : Bool) (ta1 tc1 td1 te1 tf1 tg1 tb1 tn1 tt1 : Tok) (raw2 : PySem.Str) (ks2 : List Int) (b2 n2 nt2 : Nat) (x2 d2 D2 E2 : Addr) (vs2 : List Value) (sm2 : Bool) (ta2 tc2 td2 te2 tf2 tg2 tb2 tn2 tt2 : Tok) (hi1 : IntsAre vs1 ks1) (hks1 : ∀ i, 0 ≤ ks1.getD i 0 ∧ ks1.getD i 0 ≤ 100000) (hkl1 : ks1.length ≤ 100) (hbl1 : b1 ≤ 100) (hntl1 : nt1 ≤ 100) (hi2 : IntsAre vs2 ks2) (hks2 : ∀ i, 0 ≤ ks2.getD i 0 ∧ ks2.getD i 0 ≤ 100000) (hkl2 : ks2.length ≤ 100) (hbl2 : b2 ≤ 100) (hntl2 : nt2 ≤ 100)
  (news : List (Addr × Obj)) (dp un : Nat) (gd : Option (List Code)) (cn : PySem.Str) (cs : Scope) (a : Addr) (ccd : Value) (cl : List (PySem.Str × Addr)) (outer : List Env) (A₀ : Around) (base h₀ : Heap) (L : Addr) (m : PySem.Str → Option Value) (s : Shared) (Q E : Value → Shared → Prop)
    (B : Below A₀ base outer h₀) (F : Fr h₀ L s.heap m) (X : (K w.params).In h₀)
    (N : News h₀ L s.heap ((E1, ({ cls := .type "tuple", data := .seq #[.ref D1, .int b1 tb1] } : Obj)) :: (D1, ({ cls := .type "tuple", data := .seq vs1.toArray } : Obj)) :: (x1, instObj 179 d1) :: (d1, wsDict w.params raw1 E1 n1 nt1 sm1 ta1 tc1 td1 te1 tf1 tg1 tn1 tt1) :: (E2, ({ cls := .type "tuple", data := .seq #[.ref D2, .int b2 tb2] } : Obj)) :: (D2, ({ cls := .type "tuple", data := .seq vs2.toArray } : Obj)) :: (x2, instObj 179 d2) :: (d2, wsDict w.params raw2 E2 n2 nt2 sm2 ta2 tc2 td2 te2 tf2 tg2 tn2 tt2) :: news))
    (T : Top q (looseW q loose) mean mg mb h₀) (hk : cs.kind = .function) (hd : dp + 6 < recursionLimit) (hu : un + 600 < cLine)
    (hret : ∀ (D : Addr) (ws : List Value) (nn : Nat) (tl : List (Addr × Obj)) h' tk', DatAll tl ws (neD ks1 b1 nt1 ks2 b2 nt2 (rangeKs 1 ((if lngV ks1 b1 < lngV ks2 b2 then lngV ks2 b2 else lngV ks1 b1) + 1).toNat)) → Fr h₀ L h' m → News h₀ L h' ((D, W.listOf (List.toArray ws) nn) :: tl) → News h₀ L h' ((E1, ({ cls := .type "tuple", data := .seq #[.ref D1, .int b1 tb1] } : Obj)) :: (D1, ({ cls := .type "tuple", data := .seq vs1.toArray } : Obj)) :: (x1, instObj 179 d1) :: (d1, wsDict w.params raw1 E1 n1 nt1 sm1 ta1 tc1 td1 te1 tf1 tg1 tn1 tt1) :: (E2, ({ cls := .type "tuple", data := .seq #[.ref D2, .int b2 tb2] } : Obj)) :: (D2, ({ cls := .type "tuple", data := .seq vs2.toArray } : Obj)) :: (x2, instObj 179 d2) :: (d2, wsDict w.params raw2 E2 n2 nt2 sm2 ta2 tc2 td2 te2 tf2 tg2 tn2 tt2) :: news) → Q (.ref D) { s with heap := h', toks := tk' }) :
    wpAny (model pr w) (ktrTop dp un gd cn cs L a ccd cl outer) (call (.ref 162) [.ref x1, .ref x2]) Q E s := by
  k_with_none
  k_with "pyIter ref" => refine hold ?_
  k_with "call ref" => (k_here; (with_reducible show wpAny _ _ (call (Value.ref 148) _) _ _ _); refine hold ?_)
  k_with "call ref" => (k_here; (with_reducible show wpAny _ _ (call (Value.ref 141) _) _ _ _); refine hold ?_)
  unfold wsDict at N
  refine wpAny_call ?_
  k_dflt cell_enter
  conv in (fBody (sub (st 11) 5)) => whnf
  have hb1 := lngV_bd hkl1 hbl1
  have hb2 := lngV_bd hkl2 hbl2
  k_steps
  unfold Hold
  (rename Fr _ _ _ _ => F9'); (rename News _ _ _ _ => N9')
  have N8' := news_sub ((E1, ({ cls := .type "tuple", data := .seq #[.ref D1, .int b1 tb1] } : Obj)) :: (D1, ({ cls := .type "tuple", data := .seq vs1.toArray } : Obj)) :: (x1, instObj 179 d1) :: (d1, wsDict w.params raw1 E1 n1 nt1 sm1 ta1 tc1 td1 te1 tf1 tg1 tn1 tt1) :: (E2, ({ cls := .type "tuple", data := .seq #[.ref D2, .int b2 tb2] } : Obj)) :: (D2, ({ cls := .type "tuple", data := .seq vs2.toArray } : Obj)) :: (x2, instObj 179 d2) :: (d2, wsDict w.params raw2 E2 n2 nt2 sm2 ta2 tc2 td2 te2 tf2 tg2 tn2 tt2) :: news) N9' (by kcj_all)
  refine spec_longest raw1 ks1 b1 n1 nt1 x1 d1 D1 E1 vs1 sm1 ta1 tc1 td1 te1 tf1 tg1 tb1 tn1 tt1 hi1 (by omega) (by omega) _ _ _ _ _ _ _ _ _ _ _ _ _ _ _ _ _ _ (by assumption) F9' (by assumption) N8' (by assumption) (by first | exact rfl | assumption) (by ktr_room) (by ktr_units) ?_
  intro tk9 h9 tk9' F8 N8
  rw [show (if (ks1.length : Int) - 1 < b1 then (b1 : Int) else (ks1.length : Int) - 1) = lngV ks1 b1 from rfl]
  clear F9' N9' N8'
  k_steps
  unfold Hold
  (rename Fr _ _ _ _ => F9'); (rename News _ _ _ _ => N9')
  have N8' := news_sub ((E2, ({ cls := .type "tuple", data := .seq #[.ref D2, .int b2 tb2] } : Obj)) :: (D2, ({ cls := .type "tuple", data := .seq vs2.toArray } : Obj)) :: (x2, instObj 179 d2) :: (d2, wsDict w.params raw2 E2 n2 nt2 sm2 ta2 tc2 td2 te2 tf2 tg2 tn2 tt2) :: (E1, ({ cls := .type "tuple", data := .seq #[.ref D1, .int b1 tb1] } : Obj)) :: (D1, ({ cls := .type "tuple", data := .seq vs1.toArray } : Obj)) :: (x1, instObj 179 d1) :: (d1, wsDict w.params raw1 E1 n1 nt1 sm1 ta1 tc1 td1 te1 tf1 tg1 tn1 tt1) :: news) N9' (by kcj_all)
  refine spec_longest raw2 ks2 b2 n2 nt2 x2 d2 D2 E2 vs2 sm2 ta2 tc2 td2 te2 tf2 tg2 tb2 tn2 tt2 hi2 (by omega) (by omega) _ _ _ _ _ _ _ _ _ _ _ _ _ _ _ _ _ _ (by assumption) F9' (by assumption) N8' (by assumption) (by first | exact rfl | assumption) (by ktr_room) (by ktr_units) ?_
  intro tk8 h8 tk8' F8 N8
  rw [show (if (ks2.length : Int) - 1 < b2 then (b2 : Int) else (ks2.length : Int) - 1) = lngV ks2 b2 from rfl]
  clear F9' N9' N8'
  k_steps
  unfold Hold
  k_with "state" => first | exact NeP.nil _ _ _ _ _ _ | exact NeP.add (by assumption) (by omega) | exact NeP.skip (by assumption) (by omega)
  k_dat (fun pre out => NeP ks1 b1 nt1 ks2 b2 nt2 pre out) "a*"
  · rename_i wv wo wc mk1 ll1 ll2
    have hk0 : 1 ≤ kN := by omega
    have hk1 : kN ≤ 1000 := by (try split at kLt); all_goals omega
    k_steps
    unfold Hold
    (rename Fr _ _ _ _ => F9'); (rename News _ _ _ _ => N9')
    have N8' := news_up ([(E1, ({ cls := .type "tuple", data := .seq #[.ref D1, .int b1 tb1] } : Obj)), (D1, ({ cls := .type "tuple", data := .seq vs1.toArray } : Obj)), (x1, instObj 179 d1), (d1, wsDict w.params raw1 E1 n1 nt1 sm1 ta1 tc1 td1 te1 tf1 tg1 tn1 tt1)]) N9' (by kcj_all)
    refine spec_indent raw1 ks1 b1 n1 nt1 x1 d1 D1 E1 vs1 sm1 kN ta1 _ tc1 td1 te1 tf1 tg1 tb1 tn1 tt1 hi1 hks1 (by omega) (by omega) (by omega) (by omega) (by omega) _ _ _ _ _ _ _ _ _ _ _ _ _ _ _ _ _ _ (by assumption) F9' (by assumption) N8' (by assumption) (by first | exact rfl | assumption) (by ktr_room) (by ktr_units) ?_
    intro tip hip tkp Fp' Mp
    rw [show (b1 : Int) + kN * (ilOf ks1 kN (rangeKs kN (ks1.length - kN).toNat) + nt1) = lvlV ks1 b1 nt1 kN from rfl]
    have Np' := news_dn Mp
    clear Mp N8' F9' N9'
    k_steps
    unfold Hold
    (rename Fr _ _ _ _ => F9'); (rename News _ _ _ _ => N9')
    have N8' := news_up ([(E2, ({ cls := .type "tuple", data := .seq #[.ref D2, .int b2 tb2] } : Obj)), (D2, ({ cls := .type "tuple", data := .seq vs2.toArray } : Obj)), (x2, instObj 179 d2), (d2, wsDict w.params raw2 E2 n2 nt2 sm2 ta2 tc2 td2 te2 tf2 tg2 tn2 tt2)]) N9' (by kcj_all)
    refine spec_indent raw2 ks2 b2 n2 nt2 x2 d2 D2 E2 vs2 sm2 kN ta2 _ tc2 td2 te2 tf2 tg2 tb2 tn2 tt2 hi2 hks2 (by omega) (by omega) (by omega) (by omega) (by omega) _ _ _ _ _ _ _ _ _ _ _ _ _ _ _ _ _ _ (by assumption) F9' (by assumption) N8' (by assumption) (by first | exact rfl | assumption) (by ktr_room) (by ktr_units) ?_
    intro tiq hiq tkq Fq' Mq
    rw [show (b2 : Int) + kN * (ilOf ks2 kN (rangeKs kN (ks2.length - kN).toNat) + nt2) = lvlV ks2 b2 nt2 kN from rfl]
    have Nq' := news_dn Mq
    clear Mq N8' F9' N9'
    k_steps
    rotate_left
    · (rename Fr _ _ _ _ => F9'); (rename News _ _ _ _ => N9')
      refine kd_end (wv, wo, wc) [] kSep F9' N9' (by kcj_all) (by kcj_all) rfl (fun q hq => nomatch hq) (fun q hq => nomatch hq) (fun p hp => nomatch hp) ?_ kFacts (NeP.skip kInv (by omega))
      intro z h1 _ h3
      simp [h1]
    · skip
      unfold Hold
      (rename Fr _ _ _ _ => F9'); (rename News _ _ _ _ => N9')
      have N8' := news_up ([(E1, ({ cls := .type "tuple", data := .seq #[.ref D1, .int b1 tb1] } : Obj)), (D1, ({ cls := .type "tuple", data := .seq vs1.toArray } : Obj)), (x1, instObj 179 d1), (d1, wsDict w.params raw1 E1 n1 nt1 sm1 ta1 tc1 td1 te1 tf1 tg1 tn1 tt1)]) N9' (by kcj_all)
      refine spec_indent raw1 ks1 b1 n1 nt1 x1 d1 D1 E1 vs1 sm1 kN ta1 _ tc1 td1 te1 tf1 tg1 tb1 tn1 tt1 hi1 hks1 (by omega) (by omega) (by omega) (by omega) (by omega) _ _ _ _ _ _ _ _ _ _ _ _ _ _ _ _ _ _ (by assumption) F9' (by assumption) N8' (by assumption) (by first | exact rfl | assumption) (by ktr_room) (by ktr_units) ?_
      intro tir hir tkr Fr' Mr
      rw [show (b1 : Int) + kN * (ilOf ks1 kN (rangeKs kN (ks1.length - kN).toNat) + nt1) = lvlV ks1 b1 nt1 kN from rfl]
      have Nr' := news_dn Mr
      clear Mr N8' F9' N9'
      k_steps
      unfold Hold
      (rename Fr _ _ _ _ => F9'); (rename News _ _ _ _ => N9')
      have N8' := news_up ([(E2, ({ cls := .type "tuple", data := .seq #[.ref D2, .int b2 tb2] } : Obj)), (D2, ({ cls := .type "tuple", data := .seq vs2.toArray } : Obj)), (x2, instObj 179 d2), (d2, wsDict w.params raw2 E2 n2 nt2 sm2 ta2 tc2 td2 te2 tf2 tg2 tn2 tt2)]) N9' (by kcj_all)
      refine spec_indent raw2 ks2 b2 n2 nt2 x2 d2 D2 E2 vs2 sm2 kN ta2 _ tc2 td2 te2 tf2 tg2 tb2 tn2 tt2 hi2 hks2 (by omega) (by omega) (by omega) (by omega) (by omega) _ _ _ _ _ _ _ _ _ _ _ _ _ _ _ _ _ _ (by assumption) F9' (by assumption) N8' (by assumption) (by first | exact rfl | assumption) (by ktr_room) (by ktr_units) ?_
      intro tiv hiv tkv Fv' Mv
      rw [show (b2 : Int) + kN * (ilOf ks2 kN (rangeKs kN (ks2.length - kN).toNat) + nt2) = lvlV ks2 b2 nt2 kN from rfl]
      have Nv' := news_dn Mv
      clear Mv N8' F9' N9'
      k_steps
      rename_i Dq hq9 Fq Nq lq
      refine append_2 Fq Nq (fun e => Nat.lt_irrefl _ (e ▸ lq _ (.head _))) (off_all (A := (E2, ({ cls := .type "tuple", data := .seq #[.ref D2, .int b2 tb2] } : Obj)) :: (D2, ({ cls := .type "tuple", data := .seq vs2.toArray } : Obj)) :: (x2, instObj 179 d2) :: (d2, wsDict w.params raw2 E2 n2 nt2 sm2 ta2 tc2 td2 te2 tf2 tg2 tn2 tt2) :: (E1, ({ cls := .type "tuple", data := .seq #[.ref D1, .int b1 tb1] } : Obj)) :: (D1, ({ cls := .type "tuple", data := .seq vs1.toArray } : Obj)) :: (x1, instObj 179 d1) :: (d1, wsDict w.params raw1 E1 n1 nt1 sm1 ta1 tc1 td1 te1 tf1 tg1 tn1 tt1) :: news) (by assumption) kSep) (by have := congrArg List.length kInv.eq; rw [show (neD ks1 b1 nt1 ks2 b2 nt2 kPre).length = _ from List.length_map _] at this; have := List.length_filter_le (fun T => decide (lvlV ks1 b1 nt1 T ≠ lvlV ks2 b2 nt2 T)) kPre; omega) ?_
      intro h6 F6 N6
      k_steps
      (rename Fr _ _ _ _ => F9'); (rename News _ _ _ _ => N9')
      refine kd_end (wv ++ [.ref Dq], wo ++ [Dat.tuple [Dat.int kN, Dat.int (lvlV ks1 b1 nt1 kN), Dat.int (lvlV ks2 b2 nt2 kN)]], wc + 1) [(Dq, _)] kSep F9' N9' (by kcj_all) (by kcj_all) rfl ?hb ?hw (fun p hp => nomatch hp) ?hr ?hf (NeP.add kInv (by omega))
      case hb =>
        intro q hq b hb
        rw [List.mem_singleton.mp hq]
        obtain ⟨p, hp, rfl⟩ := List.mem_map.mp (show b ∈ List.map Prod.fst ((_, W.listOf (List.toArray wv) wc) :: (E2, ({ cls := .type "tuple", data := .seq #[.ref D2, .int b2 tb2] } : Obj)) :: (D2, ({ cls := .type "tuple", data := .seq vs2.toArray } : Obj)) :: (x2, instObj 179 d2) :: (d2, wsDict w.params raw2 E2 n2 nt2 sm2 ta2 tc2 td2 te2 tf2 tg2 tn2 tt2) :: (E1, ({ cls := .type "tuple", data := .seq #[.ref D1, .int b1 tb1] } : Obj)) :: (D1, ({ cls := .type "tuple", data := .seq vs1.toArray } : Obj)) :: (x1, instObj 179 d1) :: (d1, wsDict w.params raw1 E1 n1 nt1 sm1 ta1 tc1 td1 te1 tf1 tg1 tn1 tt1) :: news) from hb)
        exact Nat.ne_of_lt (lq p (List.mem_append_left (kTl ++ kOwn) hp))
      case hw =>
        intro q hq p hp
        rw [List.mem_singleton.mp hq]
        exact Nat.ne_of_lt (lq p (List.mem_append_right ((_, W.listOf (List.toArray wv) wc) :: (E2, ({ cls := .type "tuple", data := .seq #[.ref D2, .int b2 tb2] } : Obj)) :: (D2, ({ cls := .type "tuple", data := .seq vs2.toArray } : Obj)) :: (x2, instObj 179 d2) :: (d2, wsDict w.params raw2 E2 n2 nt2 sm2 ta2 tc2 td2 te2 tf2 tg2 tn2 tt2) :: (E1, ({ cls := .type "tuple", data := .seq #[.ref D1, .int b1 tb1] } : Obj)) :: (D1, ({ cls := .type "tuple", data := .seq vs1.toArray } : Obj)) :: (x1, instObj 179 d1) :: (d1, wsDict w.params raw1 E1 n1 nt1 sm1 ta1 tc1 td1 te1 tf1 tg1 tn1 tt1) :: news) (List.mem_append_right kTl hp)))
      case hr =>
        intro z h1 _ h3
        simp [h1]
      case hf =>
        refine DatAll.append (kFacts.mono (by kcj_all)) (DatAll.one (DatIn.tuple (List.mem_append_right _ (.head _)) (.cons (.int _ _) (.cons (.int _ _) (.cons (.int _ _) .nil)))))
  · rename_i wv wo wc mk1 ll1 ll2
    have hi := kInv.eq
    rw [hi, Int.add_sub_cancel] at kFacts
    k_steps
    (rename Fr _ _ _ _ => F9'); (rename News _ _ _ _ => N9')
    exact hret _ wv wc ((E2, ({ cls := .type "tuple", data := .seq #[.ref D2, .int b2 tb2] } : Obj)) :: (D2, ({ cls := .type "tuple", data := .seq vs2.toArray } : Obj)) :: (x2, instObj 179 d2) :: (d2, wsDict w.params raw2 E2 n2 nt2 sm2 ta2 tc2 td2 te2 tf2 tg2 tn2 tt2) :: (E1, ({ cls := .type "tuple", data := .seq #[.ref D1, .int b1 tb1] } : Obj)) :: (D1, ({ cls := .type "tuple", data := .seq vs1.toArray } : Obj)) :: (x1, instObj 179 d1) :: (d1, wsDict w.params raw1 E1 n1 nt1 sm1 ta1 tc1 td1 te1 tf1 tg1 tn1 tt1) :: (news ++ kTl)) _ _ kFacts F9' (news_sub ((_, W.listOf (List.toArray wv) wc) :: (E2, ({ cls := .type "tuple", data := .seq #[.ref D2, .int b2 tb2] } : Obj)) :: (D2, ({ cls := .type "tuple", data := .seq vs2.toArray } : Obj)) :: (x2, instObj 179 d2) :: (d2, wsDict w.params raw2 E2 n2 nt2 sm2 ta2 tc2 td2 te2 tf2 tg2 tn2 tt2) :: (E1, ({ cls := .type "tuple", data := .seq #[.ref D1, .int b1 tb1] } : Obj)) :: (D1, ({ cls := .type "tuple", data := .seq vs1.toArray } : Obj)) :: (x1, instObj 179 d1) :: (d1, wsDict w.params raw1 E1 n1 nt1 sm1 ta1 tc1 td1 te1 tf1 tg1 tn1 tt1) :: (news ++ kTl)) N9' (by kcj_all)) (news_sub ((E1, ({ cls := .type "tuple", data := .seq #[.ref D1, .int b1 tb1] } : Obj)) :: (D1, ({ cls := .type "tuple", data := .seq vs1.toArray } : Obj)) :: (x1, instObj 179 d1) :: (d1, wsDict w.params raw1 E1 n1 nt1 sm1 ta1 tc1 td1 te1 tf1 tg1 tn1 tt1) :: (E2, ({ cls := .type "tuple", data := .seq #[.ref D2, .int b2 tb2] } : Obj)) :: (D2, ({ cls := .type "tuple", data := .seq vs2.toArray } : Obj)) :: (x2, instObj 179 d2) :: (d2, wsDict w.params raw2 E2 n2 nt2 sm2 ta2 tc2 td2 te2 tf2 tg2 tn2 tt2) :: news) N9' (by kcj_all))
end
end Hd
end
end
section
open PySem PySem.W PySem.Calls PyProof.Rows
set_option maxRecDepth 100000
set_option maxHeartbeats 4000000
noncomputable section
namespace Hd
theorem filledRk : rw' = PySem.Challenge.rw_tr0065_03 ∧ K = K := by
  k_fill
  w_top off
  exact ⟨rfl, rfl⟩
section
variable {w : World} {mean : ExcName → Option Value} {mg mb : PySem.Str → Option Value}
theorem law_leads (nl fl : List Nat) (tn tf : Tok) (hnl : nl.length ≤ 1000) (hfl : fl.length ≤ 1000) (mm : PySem.Str → Option Value) (hnm : mm (PySem.Str.ofString "name") = some (.str (tx nl) tn)) (hfi : mm (PySem.Str.ofString "first") = some (.str (tx fl) tf)) (o1 o2 : Obj) (news : List (Addr × Obj)) (fa : Addr) (cd : Value) (dp un : Nat) (gd : Option (List Code)) (A₀ : Around) (base h₀ : Heap) (s : Shared) (Q : Flow → Shared → Prop)
    (B : Below A₀ base [] h₀) (F : Fr h₀ h₀.objs.size s.heap mm) (c2 : o2.data = .cell none) (hnc : ∀ p ∈ news, NC p)
    (X : (K w.params).In h₀) (N : News h₀ h₀.objs.size s.heap ((h₀.objs.size + 1 + 1, o2) :: (h₀.objs.size + 1, o1) :: news)) (T : Top q (looseW q loose) mean mg mb h₀) (hd : dp + 20 < recursionLimit) (hu : un + 2000 < cLine)
    (hret : ∀ (D : Addr) (t1 t2 : Tok) (nn : Nat) (o2' : Obj) (h' : Heap) (tk' : Nat), o2'.data = .cell (some (.ref D)) → (∀ p ∈ (h₀.objs.size + 1 + 1, o2') :: (h₀.objs.size + 1, o1) :: news, p.1 ≠ D) → Fr h₀ h₀.objs.size h' mm → News h₀ h₀.objs.size h' ((D, W.listOf #[.str (tx (ld nl)) t1, .str (tx (ld fl)) t2] nn) :: (h₀.objs.size + 1 + 1, o2') :: (h₀.objs.size + 1, o1) :: news) → Q .next { s with heap := h', toks := tk' }) :
    wpAny (model pr w) (ktrTop dp un gd (PySem.Str.ofString "law") (fScope (st 18)) h₀.objs.size fa cd (cellsFrom (h₀.objs.size + 1) (fScope (st 18)).names []) []) (exec (lawS 14) (envOfC (PySem.Str.ofString "law") (fScope (st 18)) h₀.objs.size fa cd)) Q (fun _ _ => False) s := by
  k_with_none
  k_with "call ref" => (k_here; (with_reducible show wpAny _ _ (call (Value.ref 204) [Value.str _ _]) _ _ _); k_dflt (refine' Spec.use (spec_lead _ _ (by assumption)) (by k_asm) (by k_asm) (by k_asm) (by k_asm) (by k_asm) (by first | exact rfl | assumption) (by ktr_room) (by ktr_units) ?_); intro v9 h9 tk9 R9 F9 N9; obtain ⟨t9, R9⟩ := R9; subst R9; (try dsimp only))
  k_with "storeName" => refine hold ?_
  conv in (lawS 14) => whnf
  have F0 := fr_eq (over2 hnm hfi).symm F
  clear F
  k_steps
  unfold Hold
  (rename Fr _ _ _ _ => F9'); (rename News _ _ _ _ => N9')
  rename_i l1'
  have N8 := news_sub ((h₀.objs.size + 1 + 1, o2) :: (_, _) :: (h₀.objs.size + 1, o1) :: news) N9' (by kcj_all)
  refine st_cell F9' N8 (by rfl) c2 ?_ ?_
  · intro p hp
    rcases List.mem_cons.mp hp with rfl | hp
    · exact .inl (Nat.ne_of_gt l1'.1)
    rcases List.mem_cons.mp hp with rfl | hp
    · exact .inl (Nat.ne_of_lt (Nat.lt_succ_self _))
    · exact .inr (hnc p hp)
  intro h9 o9 F9 N9 d9
  refine hret _ _ _ _ o9 h9 _ d9 ?_ (fr_eq (over2 hnm hfi) F9) (news_sub _ N9 (by kcj_all))
  intro p hp
  rcases List.mem_cons.mp hp with rfl | hp
  · exact Nat.ne_of_lt l1'.1
  rcases List.mem_cons.mp hp with rfl | hp
  · exact Nat.ne_of_lt l1'.2.1
  · exact allLt_ne l1'.2.2 p hp
end
end Hd
end
end
section
open PySem PySem.W PySem.Calls PyProof.Rows
set_option maxRecDepth 100000
set_option maxHeartbeats 4000000
noncomputable section
namespace Hd
local macro_rules | `(tactic| walk_at "idle 0") => `(tactic| skip)
theorem filledRl : rw' = PySem.Challenge.rw_tr0065_03 ∧ K = K := by
  k_fill
  w_top off
  exact ⟨rfl, rfl⟩
theorem in3 {m m' : PySem.Str → Option Value} {a b c : PySem.Str} {va vb vc : Option Value} (e : m' = m) : (fun y => if y = a then va else if y = b then vb else if y = c then vc else m' y) = fun y => if y = a then va else if y = b then vb else if y = c then vc else m y := by rw [e]
section
variable {w : World} {mean : ExcName → Option Value} {mg mb : PySem.Str → Option Value}
theorem law_three (nl fl bl : List Nat) (sn sf sb : Tok) (hnl : nl.length ≤ 1000) (hfl : fl.length ≤ 1000) (hbl : bl.length ≤ 1000) (mm : PySem.Str → Option Value) (hnm : mm (PySem.Str.ofString "name") = some (.str (tx nl) sn)) (hfi : mm (PySem.Str.ofString "first") = some (.str (tx fl) sf)) (hbe : mm (PySem.Str.ofString "behind") = some (.str (tx bl) sb)) (o1 o2 : Obj) (news : List (Addr × Obj)) (fa : Addr) (cd : Value) (dp un : Nat) (gd : Option (List Code)) (A₀ : Around) (base h₀ : Heap) (s : Shared) (Q : Flow → Shared → Prop)
    (B : Below A₀ base [] h₀) (F : Fr h₀ h₀.objs.size s.heap mm) 
    (X : (K w.params).In h₀) (N : News h₀ h₀.objs.size s.heap (news)) (T : Top q (looseW q loose) mean mg mb h₀) (hd : dp + 20 < recursionLimit) (hu : un + 2000 < cLine)
    (hret : ∀ (x1 d1 D1 E1 : Addr) (vs1 : List Value) (ta1 tc1 td1 te1 tf1 tg1 tb1 tn1 tt1 : Tok) (x2 d2 D2 E2 : Addr) (vs2 : List Value) (ta2 tc2 td2 te2 tf2 tg2 tb2 tn2 tt2 : Tok) (x3 d3 D3 E3 : Addr) (vs3 : List Value) (ta3 tc3 td3 te3 tf3 tg3 tb3 tn3 tt3 : Tok) (h' : Heap) (tk' : Nat), IntsAre vs1 (wsRun (ld nl)).ks → IntsAre vs2 (wsRun (ld fl)).ks → IntsAre vs3 (wsRun (ld bl)).ks → Fr h₀ h₀.objs.size h' (fun y => if y = PySem.Str.ofString "unread" then some (.ref x1) else if y = PySem.Str.ofString "one" then some (.ref x2) else if y = PySem.Str.ofString "other" then some (.ref x3) else mm y) → News h₀ h₀.objs.size h' ((E3, ({ cls := .type "tuple", data := .seq #[.ref D3, .int (wsRun (ld bl)).b tb3] } : Obj)) :: (D3, ({ cls := .type "tuple", data := .seq vs3.toArray } : Obj)) :: (x3, instObj 179 d3) :: (d3, wsDict w.params (tx bl) E3 (wsRun (ld bl)).n (wsRun (ld bl)).nt (decide (((wsRun (ld bl)).ks.length : Int) ≤ 1)) ta3 tc3 td3 te3 tf3 tg3 tn3 tt3) :: (E2, ({ cls := .type "tuple", data := .seq #[.ref D2, .int (wsRun (ld fl)).b tb2] } : Obj)) :: (D2, ({ cls := .type "tuple", data := .seq vs2.toArray } : Obj)) :: (x2, instObj 179 d2) :: (d2, wsDict w.params (tx fl) E2 (wsRun (ld fl)).n (wsRun (ld fl)).nt (decide (((wsRun (ld fl)).ks.length : Int) ≤ 1)) ta2 tc2 td2 te2 tf2 tg2 tn2 tt2) :: (E1, ({ cls := .type "tuple", data := .seq #[.ref D1, .int (wsRun (ld nl)).b tb1] } : Obj)) :: (D1, ({ cls := .type "tuple", data := .seq vs1.toArray } : Obj)) :: (x1, instObj 179 d1) :: (d1, wsDict w.params (tx nl) E1 (wsRun (ld nl)).n (wsRun (ld nl)).nt (decide (((wsRun (ld nl)).ks.length : Int) ≤ 1)) ta1 tc1 td1 te1 tf1 tg1 tn1 tt1) :: news) → Q .next { s with heap := h', toks := tk' }) :
    wpAny (model pr w) (ktrTop dp un gd (PySem.Str.ofString "law") (fScope (st 18)) h₀.objs.size fa cd (cellsFrom (h₀.objs.size + 1) (fScope (st 18)).names []) []) (exec (lawS 15) (envOfC (PySem.Str.ofString "law") (fScope (st 18)) h₀.objs.size fa cd)) Q (fun _ _ => False) s := by
  k_with_none
  k_with "call ref" => (k_here; (with_reducible show wpAny _ _ (call (Value.ref 179) _) _ _ _); refine hold ?_)
  conv in (lawS 15) => whnf
  have F0 := fr_eq (over3 hnm hfi hbe).symm F
  clear F
  k_steps
  unfold Hold
  (rename Fr _ _ _ _ => F9'); (rename News _ _ _ _ => N9')
  refine ws_spec nl _ (by omega) _ _ _ _ _ _ _ _ _ _ _ _ _ _ _ _ _ _ (by assumption) F9' (by assumption) N9' (by assumption) (by first | exact rfl | assumption) (by ktr_room) (by ktr_units) ?_
  intro x1 d1 D1 E1 vs1 tc1 td1 te1 tf1 tg1 tb1 tn1 tt1 h1 tk1 hi1 hlt1 e1 e2 e3 F8 N8
  clear F9' N9' e1 e2 e3 hlt1
  k_steps
  unfold Hold
  (rename Fr _ _ _ _ => F9'); (rename News _ _ _ _ => N9')
  refine ws_spec fl _ (by omega) _ _ _ _ _ _ _ _ _ _ _ _ _ _ _ _ _ _ (by assumption) F9' (by assumption) N9' (by assumption) (by first | exact rfl | assumption) (by ktr_room) (by ktr_units) ?_
  intro x2 d2 D2 E2 vs2 tc2 td2 te2 tf2 tg2 tb2 tn2 tt2 h2 tk2 hi2 hlt2 e1 e2 e3 F8 N8
  clear F9' N9' e1 e2 e3 hlt2
  k_steps
  unfold Hold
  (rename Fr _ _ _ _ => F9'); (rename News _ _ _ _ => N9')
  refine ws_spec bl _ (by omega) _ _ _ _ _ _ _ _ _ _ _ _ _ _ _ _ _ _ (by assumption) F9' (by assumption) N9' (by assumption) (by first | exact rfl | assumption) (by ktr_room) (by ktr_units) ?_
  intro x3 d3 D3 E3 vs3 tc3 td3 te3 tf3 tg3 tb3 tn3 tt3 h3 tk3 hi3 hlt3 e1 e2 e3 F8 N8
  clear F9' N9' e1 e2 e3 hlt3
  k_steps
  (rename Fr _ _ _ _ => F9'); (rename News _ _ _ _ => N9')
  exact hret x1 d1 D1 E1 vs1 _ tc1 td1 te1 tf1 tg1 tb1 tn1 tt1 x2 d2 D2 E2 vs2 _ tc2 td2 te2 tf2 tg2 tb2 tn2 tt2 x3 d3 D3 E3 vs3 _ tc3 td3 te3 tf3 tg3 tb3 tn3 tt3 _ _ hi1 hi2 hi3 (fr_eq (in3 (over3 hnm hfi hbe)) F9') (news_sub _ N9' (by kcj_all))
end
end Hd
end
end
section
open PySem PySem.W PySem.Calls PyProof.Rows
set_option maxRecDepth 100000
set_option maxHeartbeats 4000000
noncomputable section
namespace Hd
theorem filledRm : rw' = PySem.Challenge.rw_tr0065_03 ∧ K = K := by
  k_fill
  w_top off
  exact ⟨rfl, rfl⟩
theorem dat_self (a : Dat) (i : Decidable (a = a)) : (!@decide (a = a) i) = false := by rw [decide_eq_true rfl]; rfl
section
variable {w : World} {mean : ExcName → Option Value} {mg mb : PySem.Str → Option Value}
theorem law_row16 (raw2 : PySem.Str) (ks2 : List Int) (b2 n2 nt2 : Nat) (x2 d2 D2 E2 : Addr) (vs2 : List Value) (sm2 : Bool) (ta2 tc2 td2 te2 tf2 tg2 tb2 tn2 tt2 : Tok) (raw3 : PySem.Str) (ks3 : List Int) (b3 n3 nt3 : Nat) (x3 d3 D3 E3 : Addr) (vs3 : List Value) (sm3 : Bool) (ta3 tc3 td3 te3 tf3 tg3 tb3 tn3 tt3 : Tok) (hi2 : IntsAre vs2 ks2) (hks2 : ∀ i, 0 ≤ ks2.getD i 0 ∧ ks2.getD i 0 ≤ 100000) (hkl2 : ks2.length ≤ 100) (hbl2 : b2 ≤ 100) (hntl2 : nt2 ≤ 100) (hi3 : IntsAre vs3 ks3) (hks3 : ∀ i, 0 ≤ ks3.getD i 0 ∧ ks3.getD i 0 ≤ 100000) (hkl3 : ks3.length ≤ 100) (hbl3 : b3 ≤ 100) (hntl3 : nt3 ≤ 100) (Dl : Addr) (l0 l1 : List Nat) (u0 u1 : Tok) (nl : Nat) (hl1 : l1.length ≤ 1000) (he : ks2 = ks3 ∧ b2 = b3) (hn : n2 = l1.length) (hnt : Txt.count (tx l1) (PySem.Str.ofString "\t") = (nt2 : Int)) (mm : PySem.Str → Option Value) (hone : mm (PySem.Str.ofString "one") = some (.ref x2)) (hoth : mm (PySem.Str.ofString "other") = some (.ref x3)) (o1 o2 : Obj) (news : List (Addr × Obj)) (fa : Addr) (cd : Value) (dp un : Nat) (gd : Option (List Code)) (A₀ : Around) (base h₀ : Heap) (s : Shared) (Q : Flow → Shared → Prop)
    (B : Below A₀ base [] h₀) (F : Fr h₀ h₀.objs.size s.heap mm) (c2 : o2.data = .cell (some (.ref Dl)))
    (X : (K w.params).In h₀) (N : News h₀ h₀.objs.size s.heap ((E2, ({ cls := .type "tuple", data := .seq #[.ref D2, .int b2 tb2] } : Obj)) :: (D2, ({ cls := .type "tuple", data := .seq vs2.toArray } : Obj)) :: (x2, instObj 179 d2) :: (d2, wsDict w.params raw2 E2 n2 nt2 sm2 ta2 tc2 td2 te2 tf2 tg2 tn2 tt2) :: (E3, ({ cls := .type "tuple", data := .seq #[.ref D3, .int b3 tb3] } : Obj)) :: (D3, ({ cls := .type "tuple", data := .seq vs3.toArray } : Obj)) :: (x3, instObj 179 d3) :: (d3, wsDict w.params raw3 E3 n3 nt3 sm3 ta3 tc3 td3 te3 tf3 tg3 tn3 tt3) :: (Dl, W.listOf #[.str (tx l0) u0, .str (tx l1) u1] nl) :: (h₀.objs.size + 1 + 1, o2) :: (h₀.objs.size + 1, o1) :: news)) (T : Top q (looseW q loose) mean mg mb h₀) (hd : dp + 20 < recursionLimit) (hu : un + 2000 < cLine)
    (hret : ∀ (h' : Heap) (tk' : Nat), Fr h₀ h₀.objs.size h' mm → News h₀ h₀.objs.size h' ((E2, ({ cls := .type "tuple", data := .seq #[.ref D2, .int b2 tb2] } : Obj)) :: (D2, ({ cls := .type "tuple", data := .seq vs2.toArray } : Obj)) :: (x2, instObj 179 d2) :: (d2, wsDict w.params raw2 E2 n2 nt2 sm2 ta2 tc2 td2 te2 tf2 tg2 tn2 tt2) :: (E3, ({ cls := .type "tuple", data := .seq #[.ref D3, .int b3 tb3] } : Obj)) :: (D3, ({ cls := .type "tuple", data := .seq vs3.toArray } : Obj)) :: (x3, instObj 179 d3) :: (d3, wsDict w.params raw3 E3 n3 nt3 sm3 ta3 tc3 td3 te3 tf3 tg3 tn3 tt3) :: (Dl, W.listOf #[.str (tx l0) u0, .str (tx l1) u1] nl) :: (h₀.objs.size + 1 + 1, o2) :: (h₀.objs.size + 1, o1) :: news) → Q .next { s with heap := h', toks := tk' }) :
    wpAny (model pr w) (ktrTop dp un gd (PySem.Str.ofString "law") (fScope (st 18)) h₀.objs.size fa cd (cellsFrom (h₀.objs.size + 1) (fScope (st 18)).names []) []) (exec (lawS 16) (envOfC (PySem.Str.ofString "law") (fScope (st 18)) h₀.objs.size fa cd)) Q (fun _ _ => False) s := by
  k_with_none
  k_with "call ref" => (k_here; (with_reducible show wpAny _ _ (call (Value.ref 155) _) _ _ _); refine hold ?_)
  k_with "compareOp NotEq ref ref" => refine hold ?_
  k_with "call builtin:str.count" => (k_here; k_dflt (refine SC.count ?_))
  conv in (lawS 16) => whnf
  have F0 := fr_eq (over2 hone hoth).symm F
  clear F
  k_steps
  unfold Hold
  (rename Fr _ _ _ _ => F9'); (rename News _ _ _ _ => N9')
  have N8' := news_sub ((E2, ({ cls := .type "tuple", data := .seq #[.ref D2, .int b2 tb2] } : Obj)) :: (D2, ({ cls := .type "tuple", data := .seq vs2.toArray } : Obj)) :: (x2, instObj 179 d2) :: (d2, wsDict w.params raw2 E2 n2 nt2 sm2 ta2 tc2 td2 te2 tf2 tg2 tn2 tt2) :: (E3, ({ cls := .type "tuple", data := .seq #[.ref D3, .int b3 tb3] } : Obj)) :: (D3, ({ cls := .type "tuple", data := .seq vs3.toArray } : Obj)) :: (x3, instObj 179 d3) :: (d3, wsDict w.params raw3 E3 n3 nt3 sm3 ta3 tc3 td3 te3 tf3 tg3 tn3 tt3) :: (Dl, W.listOf #[.str (tx l0) u0, .str (tx l1) u1] nl) :: (h₀.objs.size + 1 + 1, o2) :: (h₀.objs.size + 1, o1) :: news) N9' (by kcj_all)
  refine spec_equal raw2 ks2 b2 n2 nt2 x2 d2 D2 E2 vs2 sm2 ta2 tc2 td2 te2 tf2 tg2 tb2 tn2 tt2 raw3 ks3 b3 n3 nt3 x3 d3 D3 E3 vs3 sm3 ta3 tc3 td3 te3 tf3 tg3 tb3 tn3 tt3 hi2 hks2 hkl2 hbl2 hntl2 hi3 hks3 hkl3 hbl3 hntl3 _ _ _ _ _ _ _ _ _ _ _ _ _ _ _ _ _ _ (by assumption) F9' (by assumption) N8' (by assumption) (by first | exact rfl | assumption) (by ktr_room) (by ktr_units) ?_
  intro h9 tk9 F8 N8
  rw [decide_eq_true he]
  clear F9' N9' N8'
  unfold wsDict at N8
  have hlen := tx_len l1
  k_steps
  unfold Hold
  (rename Fr _ _ _ _ => F9'); (rename News _ _ _ _ => N9')
  have hde : Dat.list [Dat.int (n2 : Int), Dat.int (nt2 : Int)] = Dat.list [Dat.int (((tx l1).length : Nat) : Int), Dat.int (Txt.count (tx l1) (PySem.Str.ofString "\t"))] := by rw [hnt, hlen, hn]
  refine dat_ne N9' (d := Dat.list [Dat.int (n2 : Int), Dat.int (nt2 : Int)]) (e := Dat.list [Dat.int (((tx l1).length : Nat) : Int), Dat.int (Txt.count (tx l1) (PySem.Str.ofString "\t"))]) (DatIn.list (vs := [.int (n2 : Int) _, .int (nt2 : Int) _]) (n := 0) (by k_mem) (.cons (.int _ _) (.cons (.int _ _) .nil))) (DatIn.list (vs := [.int (((tx l1).length : Nat) : Int) _, .int (Txt.count (tx l1) (PySem.Str.ofString "\t")) _]) (n := 0) (by k_mem) (.cons (.int _ _) (.cons (.int _ _) .nil))) (by rfl) (by rfl) (by ktr_units) ?_
  rw [hde, dat_self]
  k_steps
  (rename Fr _ _ _ _ => F7'); (rename News _ _ _ _ => N7')
  exact hret _ _ (fr_eq (over2 hone hoth) F7') (by unfold wsDict; exact news_sub _ N7' (by kcj_all))
end
end Hd
end
end
section
open PySem PySem.W PySem.Calls PyProof.Rows
set_option maxRecDepth 100000
set_option maxHeartbeats 4000000
noncomputable section
namespace Hd
local macro_rules | `(tactic| walk_at "idle 0") => `(tactic| skip)
theorem filledRn : rw' = PySem.Challenge.rw_tr0065_03 ∧ K = K := by
  k_fill
  w_top off
  exact ⟨rfl, rfl⟩
section
variable {w : World} {mean : ExcName → Option Value} {mg mb : PySem.Str → Option Value}
theorem law_longer (Dl : Addr) (l0 l1 : List Nat) (u0 u1 : Tok) (nl : Nat) (hl0 : l0.length ≤ 1000) (hl1 : l1.length ≤ 1000) (lg : Bool) (hlg : lg = decide (l0.length < l1.length)) (mm : PySem.Str → Option Value) (o1 o2 : Obj) (news : List (Addr × Obj)) (fa : Addr) (cd : Value) (dp un : Nat) (gd : Option (List Code)) (A₀ : Around) (base h₀ : Heap) (s : Shared) (Q : Flow → Shared → Prop)
    (B : Below A₀ base [] h₀) (F : Fr h₀ h₀.objs.size s.heap mm) (c2 : o2.data = .cell (some (.ref Dl)))
    (X : (K w.params).In h₀) (N : News h₀ h₀.objs.size s.heap ((Dl, W.listOf #[.str (tx l0) u0, .str (tx l1) u1] nl) :: (h₀.objs.size + 1 + 1, o2) :: (h₀.objs.size + 1, o1) :: news)) (T : Top q (looseW q loose) mean mg mb h₀) (hd : dp + 20 < recursionLimit) (hu : un + 2000 < cLine)
    (hret : ∀ (h' : Heap) (tk' : Nat), Fr h₀ h₀.objs.size h' (fun y => if y = PySem.Str.ofString "longer" then some (.bool lg) else mm y) → News h₀ h₀.objs.size h' ((Dl, W.listOf #[.str (tx l0) u0, .str (tx l1) u1] nl) :: (h₀.objs.size + 1 + 1, o2) :: (h₀.objs.size + 1, o1) :: news) → Q .next { s with heap := h', toks := tk' }) :
    wpAny (model pr w) (ktrTop dp un gd (PySem.Str.ofString "law") (fScope (st 18)) h₀.objs.size fa cd (cellsFrom (h₀.objs.size + 1) (fScope (st 18)).names []) []) (exec (lawS 17) (envOfC (PySem.Str.ofString "law") (fScope (st 18)) h₀.objs.size fa cd)) Q (fun _ _ => False) s := by
  k_with_none
  conv in (lawS 17) => whnf
  have e0 := tx_len l0
  have e1 := tx_len l1
  k_steps
  (rename Fr _ _ _ _ => F9'); (rename News _ _ _ _ => N9')
  have e : decide ((((tx l0).length : Nat) : Int) < (((tx l1).length : Nat) : Int)) = lg := by rw [hlg, e0, e1]; exact decide_eq_decide.mpr (by omega)
  rw [e] at F9'
  exact hret _ _ F9' (news_sub _ N9' (by kcj_all))
theorem law_row18 (raw1 : PySem.Str) (ks1 : List Int) (b1 n1 nt1 : Nat) (x1 d1 D1 E1 : Addr) (vs1 : List Value) (sm1 : Bool) (ta1 tc1 td1 te1 tf1 tg1 tb1 tn1 tt1 : Tok) (raw2 : PySem.Str) (ks2 : List Int) (b2 n2 nt2 : Nat) (x2 d2 D2 E2 : Addr) (vs2 : List Value) (sm2 : Bool) (ta2 tc2 td2 te2 tf2 tg2 tb2 tn2 tt2 : Tok) (hi1 : IntsAre vs1 ks1) (hks1 : ∀ i, 0 ≤ ks1.getD i 0 ∧ ks1.getD i 0 ≤ 100000) (hkl1 : ks1.length ≤ 100) (hbl1 : b1 ≤ 100) (hntl1 : nt1 ≤ 100) (hi2 : IntsAre vs2 ks2) (hks2 : ∀ i, 0 ≤ ks2.getD i 0 ∧ ks2.getD i 0 ≤ 100000) (hkl2 : ks2.length ≤ 100) (hbl2 : b2 ≤ 100) (hntl2 : nt2 ≤ 100) (lg : Bool) (hlt0 : ¬ n1 < n2 → lg = false) (hlt1 : n1 < n2 → lg = true ∧ nt1 ≤ nt2 ∧ ∀ T : Int, 2 ≤ T → T ≤ (if lngV ks1 b1 < lngV ks2 b2 then lngV ks2 b2 else lngV ks1 b1) + 1 → lvlV ks1 b1 nt1 T < lvlV ks2 b2 nt2 T) (heq : decide (ks1 = ks2 ∧ b1 = b2) = !lg) (mm : PySem.Str → Option Value) (hunr : mm (PySem.Str.ofString "unread") = some (.ref x1)) (hone : mm (PySem.Str.ofString "one") = some (.ref x2)) (hlo : mm (PySem.Str.ofString "longer") = some (.bool lg)) (o1 o2 : Obj) (news : List (Addr × Obj)) (fa : Addr) (cd : Value) (dp un : Nat) (gd : Option (List Code)) (A₀ : Around) (base h₀ : Heap) (s : Shared) (Q : Flow → Shared → Prop)
    (B : Below A₀ base [] h₀) (F : Fr h₀ h₀.objs.size s.heap mm) 
    (X : (K w.params).In h₀) (N : News h₀ h₀.objs.size s.heap ((E1, ({ cls := .type "tuple", data := .seq #[.ref D1, .int b1 tb1] } : Obj)) :: (D1, ({ cls := .type "tuple", data := .seq vs1.toArray } : Obj)) :: (x1, instObj 179 d1) :: (d1, wsDict w.params raw1 E1 n1 nt1 sm1 ta1 tc1 td1 te1 tf1 tg1 tn1 tt1) :: (E2, ({ cls := .type "tuple", data := .seq #[.ref D2, .int b2 tb2] } : Obj)) :: (D2, ({ cls := .type "tuple", data := .seq vs2.toArray } : Obj)) :: (x2, instObj 179 d2) :: (d2, wsDict w.params raw2 E2 n2 nt2 sm2 ta2 tc2 td2 te2 tf2 tg2 tn2 tt2) :: news)) (T : Top q (looseW q loose) mean mg mb h₀) (hd : dp + 20 < recursionLimit) (hu : un + 2000 < cLine)
    (hret : ∀ (h' : Heap) (tk' : Nat), Fr h₀ h₀.objs.size h' mm → News h₀ h₀.objs.size h' ((E1, ({ cls := .type "tuple", data := .seq #[.ref D1, .int b1 tb1] } : Obj)) :: (D1, ({ cls := .type "tuple", data := .seq vs1.toArray } : Obj)) :: (x1, instObj 179 d1) :: (d1, wsDict w.params raw1 E1 n1 nt1 sm1 ta1 tc1 td1 te1 tf1 tg1 tn1 tt1) :: (E2, ({ cls := .type "tuple", data := .seq #[.ref D2, .int b2 tb2] } : Obj)) :: (D2, ({ cls := .type "tuple", data := .seq vs2.toArray } : Obj)) :: (x2, instObj 179 d2) :: (d2, wsDict w.params raw2 E2 n2 nt2 sm2 ta2 tc2 td2 te2 tf2 tg2 tn2 tt2) :: news) → Q .next { s with heap := h', toks := tk' }) :
    wpAny (model pr w) (ktrTop dp un gd (PySem.Str.ofString "law") (fScope (st 18)) h₀.objs.size fa cd (cellsFrom (h₀.objs.size + 1) (fScope (st 18)).names []) []) (exec (lawS 18) (envOfC (PySem.Str.ofString "law") (fScope (st 18)) h₀.objs.size fa cd)) Q (fun _ _ => False) s := by
  k_with_none
  k_with "call ref" => (k_here; (with_reducible show wpAny _ _ (call (Value.ref 155) _) _ _ _); refine hold ?_)
  k_with "call ref" => (k_here; (with_reducible show wpAny _ _ (call (Value.ref 169) _) _ _ _); refine hold ?_)
  conv in (lawS 18) => whnf
  have F0 := fr_eq (over3 hunr hone hlo).symm F
  clear F
  k_steps
  unfold Hold
  (rename Fr _ _ _ _ => F9'); (rename News _ _ _ _ => N9')
  have N8' := news_sub ((E1, ({ cls := .type "tuple", data := .seq #[.ref D1, .int b1 tb1] } : Obj)) :: (D1, ({ cls := .type "tuple", data := .seq vs1.toArray } : Obj)) :: (x1, instObj 179 d1) :: (d1, wsDict w.params raw1 E1 n1 nt1 sm1 ta1 tc1 td1 te1 tf1 tg1 tn1 tt1) :: (E2, ({ cls := .type "tuple", data := .seq #[.ref D2, .int b2 tb2] } : Obj)) :: (D2, ({ cls := .type "tuple", data := .seq vs2.toArray } : Obj)) :: (x2, instObj 179 d2) :: (d2, wsDict w.params raw2 E2 n2 nt2 sm2 ta2 tc2 td2 te2 tf2 tg2 tn2 tt2) :: news) N9' (by kcj_all)
  refine spec_less raw1 ks1 b1 n1 nt1 x1 d1 D1 E1 vs1 sm1 ta1 tc1 td1 te1 tf1 tg1 tb1 tn1 tt1 raw2 ks2 b2 n2 nt2 x2 d2 D2 E2 vs2 sm2 ta2 tc2 td2 te2 tf2 tg2 tb2 tn2 tt2 hi1 hks1 hkl1 hbl1 hntl1 hi2 hks2 hkl2 hbl2 hntl2 _ _ _ _ _ _ _ _ _ _ _ _ _ _ _ _ _ _ lg hlt0 hlt1 (by assumption) F9' (by assumption) N8' (by assumption) (by first | exact rfl | assumption) (by ktr_room) (by ktr_units) ?_
  intro h9 tk9 F8 N8
  clear F9' N9' N8'
  cases lg
  · k_steps
    unfold Hold
    (rename Fr _ _ _ _ => F9'); (rename News _ _ _ _ => N9')
    have N8' := news_sub ((E1, ({ cls := .type "tuple", data := .seq #[.ref D1, .int b1 tb1] } : Obj)) :: (D1, ({ cls := .type "tuple", data := .seq vs1.toArray } : Obj)) :: (x1, instObj 179 d1) :: (d1, wsDict w.params raw1 E1 n1 nt1 sm1 ta1 tc1 td1 te1 tf1 tg1 tn1 tt1) :: (E2, ({ cls := .type "tuple", data := .seq #[.ref D2, .int b2 tb2] } : Obj)) :: (D2, ({ cls := .type "tuple", data := .seq vs2.toArray } : Obj)) :: (x2, instObj 179 d2) :: (d2, wsDict w.params raw2 E2 n2 nt2 sm2 ta2 tc2 td2 te2 tf2 tg2 tn2 tt2) :: news) N9' (by kcj_all)
    refine spec_equal raw1 ks1 b1 n1 nt1 x1 d1 D1 E1 vs1 sm1 ta1 tc1 td1 te1 tf1 tg1 tb1 tn1 tt1 raw2 ks2 b2 n2 nt2 x2 d2 D2 E2 vs2 sm2 ta2 tc2 td2 te2 tf2 tg2 tb2 tn2 tt2 hi1 hks1 hkl1 hbl1 hntl1 hi2 hks2 hkl2 hbl2 hntl2 _ _ _ _ _ _ _ _ _ _ _ _ _ _ _ _ _ _ (by assumption) F9' (by assumption) N8' (by assumption) (by first | exact rfl | assumption) (by ktr_room) (by ktr_units) ?_
    intro h7 tk7 F6 N6
    rw [heq]
    clear F9' N9' N8'
    k_steps
    (rename Fr _ _ _ _ => F7'); (rename News _ _ _ _ => N7')
    exact hret _ _ (fr_eq (over3 hunr hone hlo) F7') (news_sub _ N7' (by kcj_all))
  · k_steps
    unfold Hold
    (rename Fr _ _ _ _ => F9'); (rename News _ _ _ _ => N9')
    have N8' := news_sub ((E1, ({ cls := .type "tuple", data := .seq #[.ref D1, .int b1 tb1] } : Obj)) :: (D1, ({ cls := .type "tuple", data := .seq vs1.toArray } : Obj)) :: (x1, instObj 179 d1) :: (d1, wsDict w.params raw1 E1 n1 nt1 sm1 ta1 tc1 td1 te1 tf1 tg1 tn1 tt1) :: (E2, ({ cls := .type "tuple", data := .seq #[.ref D2, .int b2 tb2] } : Obj)) :: (D2, ({ cls := .type "tuple", data := .seq vs2.toArray } : Obj)) :: (x2, instObj 179 d2) :: (d2, wsDict w.params raw2 E2 n2 nt2 sm2 ta2 tc2 td2 te2 tf2 tg2 tn2 tt2) :: news) N9' (by kcj_all)
    refine spec_equal raw1 ks1 b1 n1 nt1 x1 d1 D1 E1 vs1 sm1 ta1 tc1 td1 te1 tf1 tg1 tb1 tn1 tt1 raw2 ks2 b2 n2 nt2 x2 d2 D2 E2 vs2 sm2 ta2 tc2 td2 te2 tf2 tg2 tb2 tn2 tt2 hi1 hks1 hkl1 hbl1 hntl1 hi2 hks2 hkl2 hbl2 hntl2 _ _ _ _ _ _ _ _ _ _ _ _ _ _ _ _ _ _ (by assumption) F9' (by assumption) N8' (by assumption) (by first | exact rfl | assumption) (by ktr_room) (by ktr_units) ?_
    intro h7 tk7 F6 N6
    rw [heq]
    clear F9' N9' N8'
    k_steps
    (rename Fr _ _ _ _ => F7'); (rename News _ _ _ _ => N7')
    exact hret _ _ (fr_eq (over3 hunr hone hlo) F7') (news_sub _ N7' (by kcj_all))
end
end Hd
end
end
section
open PySem PySem.W PySem.Calls PyProof.Rows
set_option maxRecDepth 100000
set_option maxHeartbeats 4000000
noncomputable section
namespace Hd
theorem filledRo : rw' = PySem.Challenge.rw_tr0065_03 ∧ K = K := by
  k_fill
  w_top off
  exact ⟨rfl, rfl⟩
noncomputable def P257 : List Nat := [50, 53, 55, 32, 34]
section
variable {w : World} {mean : ExcName → Option Value} {mg mb : PySem.Str → Option Value}
theorem law_place (Dn : Addr) (us : List Value) (ks : List Int) (nn : Nat) (hi : IntsAre us ks) (hk19 : ks.length ≤ 19) (mm : PySem.Str → Option Value) (hnum : mm (PySem.Str.ofString "numbers") = some (.ref Dn)) (o1 o2 : Obj) (news : List (Addr × Obj)) (fa : Addr) (cd : Value) (dp un : Nat) (gd : Option (List Code)) (A₀ : Around) (base h₀ : Heap) (s : Shared) (Q : Flow → Shared → Prop)
    (B : Below A₀ base [] h₀) (F : Fr h₀ h₀.objs.size s.heap mm) 
    (X : (K w.params).In h₀) (N : News h₀ h₀.objs.size s.heap ((Dn, W.listOf (List.toArray us) nn) :: news)) (T : Top q (looseW q loose) mean mg mb h₀) (hd : dp + 20 < recursionLimit) (hu : un + 2000 < cLine)
    (hret : ∀ (t : Tok) (h' : Heap) (tk' : Nat), Fr h₀ h₀.objs.size h' (fun y => if y = PySem.Str.ofString "place" then some (.int (ks.sum.fmod 5) t) else mm y) → News h₀ h₀.objs.size h' ((Dn, W.listOf (List.toArray us) nn) :: news) → Q .next { s with heap := h', toks := tk' }) :
    wpAny (model pr w) (ktrTop dp un gd (PySem.Str.ofString "law") (fScope (st 18)) h₀.objs.size fa cd (cellsFrom (h₀.objs.size + 1) (fScope (st 18)).names []) []) (exec (lawS 22) (envOfC (PySem.Str.ofString "law") (fScope (st 18)) h₀.objs.size fa cd)) Q (fun _ _ => False) s := by
  k_with_none
  conv in (lawS 22) => whnf
  have F0 := fr_eq (over1 hnum).symm F
  clear F
  k_steps
  (rename Fr _ _ _ _ => F9'); (rename News _ _ _ _ => N9')
  exact hret _ _ _ (fr_eq (over_in hnum) F9') (news_sub _ N9' (by kcj_all))
theorem law_spoilt (p : Int) (hp0 : 0 ≤ p) (hp5 : p < 5) (tl : List Nat) (htl : tl.length ≤ 19) (tp tt : Tok) (Dn : Addr) (us : List Value) (ks : List Int) (nn : Nat) (hi : IntsAre us ks) (hk19 : ks.length ≤ 19) (hsum : 0 ≤ ks.sum ∧ ks.sum ≤ 100000000) (mm : PySem.Str → Option Value) (hnum : mm (PySem.Str.ofString "numbers") = some (.ref Dn)) (hpl : mm (PySem.Str.ofString "place") = some (.int p tp)) (htx : mm (PySem.Str.ofString "text") = some (.str (tx tl) tt)) (o1 o2 : Obj) (news : List (Addr × Obj)) (fa : Addr) (cd : Value) (dp un : Nat) (gd : Option (List Code)) (A₀ : Around) (base h₀ : Heap) (s : Shared) (Q : Flow → Shared → Prop)
    (B : Below A₀ base [] h₀) (F : Fr h₀ h₀.objs.size s.heap mm) 
    (X : (K w.params).In h₀) (N : News h₀ h₀.objs.size s.heap ((Dn, W.listOf (List.toArray us) nn) :: news)) (T : Top q (looseW q loose) mean mg mb h₀) (hd : dp + 20 < recursionLimit) (hu : un + 2000 < cLine)
    (hret : ∀ (t : Tok) (h' : Heap) (tk' : Nat), Fr h₀ h₀.objs.size h' (fun y => if y = PySem.Str.ofString "spoilt" then some (.str (tx (P257.take p.toNat ++ [sgC (3 + 10 * ks.sum)] ++ P257.drop p.toNat ++ tl)) t) else mm y) → News h₀ h₀.objs.size h' ((Dn, W.listOf (List.toArray us) nn) :: news) → Q .next { s with heap := h', toks := tk' }) :
    wpAny (model pr w) (ktrTop dp un gd (PySem.Str.ofString "law") (fScope (st 18)) h₀.objs.size fa cd (cellsFrom (h₀.objs.size + 1) (fScope (st 18)).names []) []) (exec (lawS 23) (envOfC (PySem.Str.ofString "law") (fScope (st 18)) h₀.objs.size fa cd)) Q (fun _ _ => False) s := by
  k_with_none
  k_with "call ref" => (k_here; (with_reducible show wpAny _ _ (call (Value.ref 190) _) _ _ _); refine hold ?_)
  k_with "binaryOp Add str str" => (k_here; k_dflt (refine add_tx (by first | assumption | exact rfl) (by first | assumption | exact rfl) (by first | omega | assumption) (by first | omega | assumption) ?_); intro _ _)
  k_with "binaryOp Mult int int" => (k_here; k_dflt (refine mul_int ?_ (mulOk_small (by omega) (by omega) (by omega) (by omega))))
  conv in (lawS 23) => whnf
  have F0 := fr_eq (over3 hnum hpl htx).symm F
  clear F
  have e1 : Txt.slice (PySem.Str.ofString "257 \"") none (some p) = tx (P257.take p.toNat) := by rw [lit257]; exact slice_to P257 p hp0 (by show p ≤ 5; omega)
  have e2 : Txt.slice (PySem.Str.ofString "257 \"") (some p) none = tx (P257.drop p.toNat) := by
    rw [lit257]; obtain ⟨j, rfl⟩ := Int.eq_ofNat_of_zero_le hp0; exact slice_fromL P257 j
  have l1 : (P257.take p.toNat).length ≤ 1000000 := by rw [List.length_take]; show min _ 5 ≤ _; omega
  have l2 : ([sgC (3 + 10 * ks.sum)] : List Nat).length ≤ 1000000 := by simp
  have l3 : (P257.drop p.toNat).length ≤ 1000000 := by rw [List.length_drop]; show 5 - _ ≤ _; omega
  have l4 : tl.length ≤ 1000000 := by omega
  have l5 : (P257.take p.toNat ++ [sgC (3 + 10 * ks.sum)]).length ≤ 1000000 := by rw [List.length_append, List.length_take, List.length_singleton]; show min _ 5 + 1 ≤ _; omega
  have l6 : (P257.take p.toNat ++ [sgC (3 + 10 * ks.sum)] ++ P257.drop p.toNat).length ≤ 1000000 := by rw [List.length_append, List.length_append, List.length_take, List.length_drop, List.length_singleton]; show min _ 5 + 1 + (5 - _) ≤ _; omega
  k_steps
  unfold Hold
  (rename Fr _ _ _ _ => F9'); (rename News _ _ _ _ => N9')
  refine spec_sign _ _ _ _ _ _ _ _ _ _ _ _ _ _ _ _ _ _ _ _ B F9' X N9' T (by exact rfl) (by omega) (by omega) ?_
  intro Ds t1 t2 h9 tk9 hlt F8 N8
  unfold pairO at N8
  clear F9' N9'
  k_steps
  (rename Fr _ _ _ _ => F9'); (rename News _ _ _ _ => N9')
  exact hret _ _ _ (fr_eq (over_st (over3 hnum hpl htx)) F9') (news_sub _ N9' (by kcj_all))
theorem law_row24 (sp bl : List Nat) (ts tf : Tok) (hspl : sp.length ≤ 1000) (hbl : bl.length ≤ 1000) (hm : ∀ c ∈ sp, (m3 c).length ≤ 100) (hpr : prep sp = [50, 53, 55, 32, 34] ++ bl) (mm : PySem.Str → Option Value) (hsp : mm (PySem.Str.ofString "spoilt") = some (.str (tx sp) ts)) (hfi : mm (PySem.Str.ofString "first") = some (.str (tx (pq bl)) tf)) (o1 o2 : Obj) (news : List (Addr × Obj)) (fa : Addr) (cd : Value) (dp un : Nat) (gd : Option (List Code)) (A₀ : Around) (base h₀ : Heap) (s : Shared) (Q : Flow → Shared → Prop)
    (B : Below A₀ base [] h₀) (F : Fr h₀ h₀.objs.size s.heap mm) 
    (X : (K w.params).In h₀) (N : News h₀ h₀.objs.size s.heap (news)) (T : Top q (looseW q loose) mean mg mb h₀) (hd : dp + 20 < recursionLimit) (hu : un + 2000 < cLine)
    (hret : ∀ (h' : Heap) (tk' : Nat), Fr h₀ h₀.objs.size h' mm → News h₀ h₀.objs.size h' news → Q .next { s with heap := h', toks := tk' }) :
    wpAny (model pr w) (ktrTop dp un gd (PySem.Str.ofString "law") (fScope (st 18)) h₀.objs.size fa cd (cellsFrom (h₀.objs.size + 1) (fScope (st 18)).names []) []) (exec (lawS 24) (envOfC (PySem.Str.ofString "law") (fScope (st 18)) h₀.objs.size fa cd)) Q (fun _ _ => False) s := by
  k_with_none
  k_with "call ref" => (k_here; (with_reducible show wpAny _ _ (call (Value.ref 53) [Value.str _ _]) _ _ _); k_dflt (refine' Spec.use (spec_parse _ _ _ (by assumption) (by assumption)) (by k_asm) (by k_asm) (by k_asm) (by k_asm) (by k_asm) (by first | exact rfl | assumption) (by ktr_room) (by ktr_units) ?_); intro v9 h9 tk9 R9 F9 N9; obtain ⟨t9, R9⟩ := R9; subst R9; (try dsimp only))
  k_with "call ref" => (k_here; (with_reducible show wpAny _ _ (call (Value.ref 216) [Value.str _ _]) _ _ _); k_dflt (refine' Spec.use (spec_prep _ _ (by assumption) (by assumption)) (by k_asm) (by k_asm) (by k_asm) (by k_asm) (by k_asm) (by first | exact rfl | assumption) (by ktr_room) (by ktr_units) ?_); intro v9 h9 tk9 R9 F9 N9; obtain ⟨t9, R9⟩ := R9; subst R9; (try dsimp only))
  conv in (lawS 24) => whnf
  have F0 := fr_eq (over2 hsp hfi).symm F
  clear F
  have hx1 : tx (prep sp) = tx ([50, 53, 55, 32, 34] ++ bl) := by rw [hpr]
  have hb1 : bl.length ≤ 100000 := by omega
  k_steps
  all_goals first
    | (exfalso; rename (_ != _) = true => hq; simp at hq; done)
    | ((rename Fr _ _ _ _ => F9'); (rename News _ _ _ _ => N9'); exact hret _ _ (fr_eq (over2 hsp hfi) F9') (news_sub _ N9' (by kcj_all)))
    | trace_state
end
end Hd
end
end
section
open PySem PySem.W PySem.Calls PyProof.Rows PyProof.V PySem.Spec PyProof.Rows.LCg
set_option maxRecDepth 100000
set_option maxHeartbeats 4000000
noncomputable section
namespace Hd
section
variable {prog : Program} {w : World} {A : Around} {E : Value → Shared → Prop} {s : Shared} {R : Result → Shared → Prop}
abbrev two (elt it0 it1 : PySem.Expr) (a b : PySem.Str) (pa pb : Pos) (scope : Scope) (pos : Pos) : PySem.Expr := .ListComp elt [⟨.Name a pa, it0, [], 0⟩, ⟨.Name b pb, it1, [], 0⟩] scope pos
variable {elt it0 it1 : PySem.Expr} {a b : PySem.Str} {pa pb : Pos} {scope : Scope} {pos : Pos} {it acc : Value} {env : Env}
theorem turn_in : compTurn (two elt it0 it1 a b pa pb scope pos) 1 it acc env = (standAt it1.pos >>= fun _ => pyNext it >>= fun r => match r with
      | none => pure (.done .next)
      | some v => letOwnedTupleGo (.Name b pb) it v >>= fun _ => assign (.Name b pb) env v >>= fun _ =>
        (eval elt env >>= fun x => call (.builtin "list.append") [acc, x] >>= fun _ => pure ()) >>= fun _ =>
          again (.compLoop (two elt it0 it1 a b pa pb scope pos) 1 it acc env)) := by rfl
theorem turn_out : compTurn (two elt it0 it1 a b pa pb scope pos) 0 it acc env = (standAt it0.pos >>= fun _ => pyNext it >>= fun r => match r with
      | none => pure (.done .next)
      | some v => letOwnedTupleGo (.Name a pa) it v >>= fun _ => assign (.Name a pa) env v >>= fun _ =>
        eval it1 env >>= fun x => standAt it1.pos >>= fun _ => foldedSetIterable it1 env x >>= fun x => holding [x] (pyIter x) >>= fun itv => runOwn (.compStart (two elt it0 it1 a b pa pb scope pos) 1 itv acc env) env >>= fun _ =>
          again (.compLoop (two elt it0 it1 a b pa pb scope pos) 0 it acc env)) := by
  unfold compTurn
  dsimp only
  simp
  refine congrArg _ (funext fun _ => congrArg _ (funext fun r => ?_))
  cases r <;> rfl
theorem first_then {α β : Type} {M : Model} {X : Sem α} {f : α → Sem β} {P : α → Shared → Prop} {Q : β → Shared → Prop} (h : wpAny M A X P E s) (k : ∀ a s₁, P a s₁ → wpAny M A (f a) Q E s₁) : wpAny M A (X >>= f) Q E s := wpAny_bind (wpAny_mono h k fun _ _ e => e)
theorem start_tree : compStart (two elt it0 it1 a b pa pb scope pos) 1 it acc env = (ask >>= fun c => if c.params.followText "comprehension-iter-twice" = true then again (.compLoop (two elt it0 it1 a b pa pb scope pos) 1 it acc env) else
      rule "comprehension.iter-twice" >>= fun _ => standAt it1.pos >>= fun _ => pyIter it >>= fun i => again (.compLoop (two elt it0 it1 a b pa pb scope pos) 1 i acc env)) := by
  unfold compStart
  rfl
theorem start_in (h0 : codeAny (model prog w) A (.compLoop (two elt it0 it1 a b pa pb scope pos) 1 it acc env) R s)
    (h : wpAny (model prog w) A (pyIter it) (fun i s₁ => codeAny (model prog w) A (.compLoop (two elt it0 it1 a b pa pb scope pos) 1 i acc env) R s₁)
      (notedBy (model prog w) A env fun x s₁ => R (.error x) s₁) s) :
    codeAny (model prog w) A (.compStart (two elt it0 it1 a b pa pb scope pos) 1 it acc env) R s := by
  have tree : wpAny (model prog w) A (compStart (two elt it0 it1 a b pa pb scope pos) 1 it acc env) (fun r s₁ => match r with
      | .done f => R (.ok f) s₁
      | .again d => d.quiet = true ∧ codeAny (model prog w) A d R s₁) (notedBy (model prog w) A env fun x s₁ => R (.error x) s₁) s := by
    rw [start_tree]
    refine first_then (P := fun _ s₁ => s₁ = s) (wpAny_askSetting rfl) fun c s₁ e => ?_
    subst e
    by_cases hc : c.params.followText "comprehension-iter-twice" = true
    · rw [if_pos hc]
      exact wpAny_pure ⟨rfl, h0⟩
    · rw [if_neg hc]
      exact first_then (P := fun _ s₂ => s₂ = s₁) (wpAny_rule rfl) fun _ s₂ e₂ => e₂ ▸ first_then (wpAny_standAt rfl) fun _ s₃ (e₃ : s₃ = s₁) => e₃ ▸ first_then h fun i s₄ h₄ => wpAny_pure ⟨rfl, h₄⟩
  exact codeAny_of_tree (wpAny_notedAt tree)
theorem turns {lv : Nat} (I : Nat → Shared → Prop)
    (turn : ∀ n s, I n s → wpAny (model prog w) A (compTurn (two elt it0 it1 a b pa pb scope pos) lv it acc env) (fun r s₁ => match r with
      | .done f => R (.ok f) s₁
      | .again d => d = .compLoop (two elt it0 it1 a b pa pb scope pos) lv it acc env ∧ ∃ m, m < n ∧ I m s₁) (notedBy (model prog w) A env fun e s' => R (.error e) s') s) (n : Nat) (h : I n s) :
    codeAny (model prog w) A (.compLoop (two elt it0 it1 a b pa pb scope pos) lv it acc env) R s :=
  codeAny_loop rfl I (fun n s hI => wpAny_noted (turn n s hI)) n h
theorem loop_in (I : Nat → Shared → Prop)
    (turn : ∀ n s, I n s → wpAny (model prog w) A (pyNext it) (fun r s₁ => match r with
      | none => R (.ok .next) s₁
      | some v => wpAny (model prog w) A (assign (.Name b pb) env v) (fun _ s₂ => wpAny (model prog w) A (eval elt env) (fun x s₃ =>
          wpAny (model prog w) A (call (.builtin "list.append") [acc, x]) (fun _ s₄ => ∃ m, m < n ∧ I m s₄) (notedBy (model prog w) A env fun e s' => R (.error e) s') s₃)
          (notedBy (model prog w) A env fun e s' => R (.error e) s') s₂) (notedBy (model prog w) A env fun e s' => R (.error e) s') s₁) (notedBy (model prog w) A env fun e s' => R (.error e) s') s)
    (n : Nat) (h : I n s) : codeAny (model prog w) A (.compLoop (two elt it0 it1 a b pa pb scope pos) 1 it acc env) R s := by
  refine turns I (fun n s hI => ?_) n h
  rw [turn_in]
  refine wpAny_bind (wpAny_standAt (first_then (turn n s hI) ?_))
  rintro (_ | v) s₁ h₁
  · exact wpAny_pure h₁
  · dsimp only at h₁ ⊢
    rw [show letOwnedTupleGo (.Name b pb) it v = pure () from rfl, pure_bind]
    exact first_then h₁ fun _ s₂ h₂ => first_then (first_then h₂ fun x s₃ h₃ => first_then h₃ fun _ s₄ h₄ => wpAny_pure h₄) fun _ s₅ h₅ => wpAny_pure ⟨rfl, h₅⟩
theorem loop_out (I : Nat → Shared → Prop) (hset : ∀ x, foldedSetIterable it1 env x = pure x)
    (turn : ∀ n s, I n s → wpAny (model prog w) A (pyNext it) (fun r s₁ => match r with
      | none => R (.ok .next) s₁
      | some v => wpAny (model prog w) A (assign (.Name a pa) env v) (fun _ s₂ => wpAny (model prog w) A (eval it1 env) (fun x s₃ =>
          wpAny (model prog w) A (pyIter x) (fun itv s₄ => codeAny (model prog w) A (.compStart (two elt it0 it1 a b pa pb scope pos) 1 itv acc env) (fun r s₅ => match r with
            | .ok _ => ∃ m, m < n ∧ I m s₅
            | .error _ => False) s₄) (notedBy (model prog w) A env fun e s' => R (.error e) s') s₃)
          (notedBy (model prog w) A env fun e s' => R (.error e) s') s₂) (notedBy (model prog w) A env fun e s' => R (.error e) s') s₁) (notedBy (model prog w) A env fun e s' => R (.error e) s') s)
    (n : Nat) (h : I n s) : codeAny (model prog w) A (.compLoop (two elt it0 it1 a b pa pb scope pos) 0 it acc env) R s := by
  refine turns I (fun n s hI => ?_) n h
  rw [turn_out]
  refine wpAny_bind (wpAny_standAt (first_then (turn n s hI) ?_))
  rintro (_ | v) s₁ h₁
  · exact wpAny_pure h₁
  · dsimp only at h₁ ⊢
    rw [show letOwnedTupleGo (.Name a pa) it v = pure () from rfl, pure_bind]
    refine first_then h₁ fun _ s₂ h₂ => first_then h₂ fun x s₃ h₃ => wpAny_bind (wpAny_standAt ?_)
    rw [hset, pure_bind]
    refine wpAny_bind (wpAny_holding (wpAny_mono h₃ (fun itv s₄ h₄ => wpAny_bind (wpAny_runOwn (codeAny_mono h₄ ?_))) fun _ _ h' => h'))
    rintro (_ | _) s₅ h₅
    · exact h₅.elim
    · exact wpAny_pure ⟨rfl, h₅⟩
end
end Hd
end
end
section
open PySem PySem.W PySem.Calls PyProof.Rows PyProof.V PySem.Spec PyProof.Rows.LCg
set_option maxRecDepth 100000
set_option maxHeartbeats 4000000
noncomputable section
namespace Hd
theorem strs_at {vs : List Value} {L : List PySem.Str} (h : StrsAre vs L) : ∀ (i : Nat) v, vs[i]? = some v → ∃ x t, v = .str x t ∧ L[i]? = some x := by
  induction h with
  | nil => intro i v e; simp at e
  | cons y t _ ih =>
    intro i v e
    cases i with
    | zero => simp at e; exact ⟨y, t, e.symm, rfl⟩
    | succ i => simp at e; obtain ⟨x, t', a, b⟩ := ih i v e; exact ⟨x, t', a, by simpa using b⟩
section
variable {prog : Program} {w : World} {A : Around} {E : Value → Shared → Prop} {s : Shared} {h₀ : Heap} {L : Addr} {m : PySem.Str → Option Value} {env : Env}
noncomputable def HIter (prog : Program) (w : World) (A : Around) (h₀ : Heap) (L : Addr) (m : PySem.Str → Option Value) (env : Env) (scope : Scope) (cl : List (PySem.Str × Addr)) (it1 : PySem.Expr) (a : PySem.Str) (pcs : List Nat → List (List Nat)) (s : Shared) : Prop :=
  ∀ (l : List Nat) (t : Tok) (C : Addr) (oC : Obj) m₂ nw h tk (Q' E' : Value → Shared → Prop), l.length ≤ 1000 → NsObj oC m₂ → m₂ a = some (.str (tx l) t) → Fr h₀ L h m → News h₀ L h ((C, oC) :: nw) →
    (∀ (S1 : Addr) (us : List Value) (c1 : Nat) h' tk', StrsAre us ((pcs l).map tx) → Fr h₀ L h' m → News h₀ L h' ((S1, ({ cls := .type "list", data := .seq us.toArray c1 } : Obj)) :: (C, oC) :: nw) → (∀ p ∈ (C, oC) :: nw, p.1 ≠ S1) → Q' (.ref S1) { s with heap := h', toks := tk' }) →
    wpAny (model prog w) A (eval it1 (compEnvC scope cl C env)) Q' E' { s with heap := h, toks := tk }
noncomputable def HElt (prog : Program) (w : World) (A : Around) (h₀ : Heap) (L : Addr) (m : PySem.Str → Option Value) (env : Env) (scope : Scope) (cl : List (PySem.Str × Addr)) (elt : PySem.Expr) (b : PySem.Str) (s : Shared) : Prop :=
  ∀ (p : List Nat) (t : Tok) (C : Addr) (oC : Obj) m₂ nw h tk (Q' E' : Value → Shared → Prop), p.length ≤ 1000 → NsObj oC m₂ → m₂ b = some (.str (tx p) t) → Fr h₀ L h m → News h₀ L h ((C, oC) :: nw) →
    (∀ (t' : Tok) h' tk', Fr h₀ L h' m → News h₀ L h' ((C, oC) :: nw) → Q' (.int (p.length : Int) t') { s with heap := h', toks := tk' }) →
    wpAny (model prog w) A (eval elt (compEnvC scope cl C env)) Q' E' { s with heap := h, toks := tk }
noncomputable def lensP (ps : List (List Nat)) : List Int := ps.map fun p => (p.length : Int)
noncomputable def lens2 (pcs : List Nat → List (List Nat)) (ls : List (List Nat)) : List Int := (ls.map fun l => lensP (pcs l)).flatten
theorem inner2 {elt it0 it1 : PySem.Expr} {a b : PySem.Str} {pa pb : Pos} {scope : Scope} {cl : List (PySem.Str × Addr)} {pos : Pos} {s₂ : Shared} {C D S1 : Addr} {us : List Value} {c1 : Nat} {ps : List (List Nat)} {zs : List Int} {ys : List Value} {nw : List (Addr × Obj)} {R : Result → Shared → Prop} {m₁ : PySem.Str → Option Value}
    (hh : A.handled = none) (hkind : scope.kind = .function) (hxb : scope.names.lookup b = some .local) (HE : HElt prog w A h₀ L m env scope cl elt b s₂) (hus : StrsAre us (ps.map tx)) (hps : ∀ p ∈ ps, p.length ≤ 1000) (hpl : ps.length ≤ 2000)
    (hys : IntsAre ys zs) (hzl : zs.length ≤ 100000) {h : Heap} {tk : Nat} (F : Fr h₀ L h m) (hn : h.Ns C m₁) (hCL : C ≠ L) (hC₀ : h₀.get? C = none)
    (N : News h₀ L h ((D, lst ys) :: (S1, ({ cls := .type "list", data := .seq us.toArray c1 } : Obj)) :: nw)) (hDS : S1 ≠ D) (hnD : ∀ p ∈ nw, p.1 ≠ D) (hCD : C ≠ D) (hCS : C ≠ S1) (hnC : ∀ p ∈ nw, p.1 ≠ C)
    (hR : ∀ h' tk' m' ys', IntsAre ys' (zs ++ lensP ps) → Fr h₀ L h' m → h'.Ns C m' → News h₀ L h' ((D, lst ys') :: nw) → R (.ok .next) { s₂ with heap := h', toks := tk' }) :
    wpAny (model prog w) A (pyIter (.ref S1)) (fun itv s₄ => codeAny (model prog w) A (.compStart (two elt it0 it1 a b pa pb scope pos) 1 itv (.ref D) (compEnvC scope cl C env)) R s₄) E { s₂ with heap := h, toks := tk } := by
  have hlen : us.length = ps.length := by rw [hus.length, List.length_map]
  have hl1 : h.IsList S1 us.toArray := ⟨_, (N _ (.tail _ (.head _))).1, rfl, _, rfl⟩
  refine wpAny_pyIter_list hl1 ?_
  have hfr : ∀ x o, h.get? x = some o → x ≠ h.objs.size := fun x o e => Nat.ne_of_lt (Heap.lt_size e)
  have hSI : S1 ≠ h.objs.size := hfr _ _ (N _ (.tail _ (.head _))).1
  have W := Walks.list (prog := prog) (w := w) hh h.objs.size S1 hSI us.toArray
  have hI₀ : h₀.get? h.objs.size = none := next_is_new F
  have hIL : h.objs.size ≠ L := fun e => absurd F.ns.lt (e ▸ Nat.lt_irrefl _)
  have hDI : D ≠ h.objs.size := hfr _ _ (N _ (.head _)).1
  have hCI : C ≠ h.objs.size := by obtain ⟨o, _, _, e, _⟩ := hn; exact hfr _ _ e
  have hnI : ∀ p ∈ nw, p.1 ≠ h.objs.size := fun p hp => hfr _ _ (N p (.tail _ (.tail _ hp))).1
  have up : ∀ x o, h.get? x = some o → (h.push { cls := .type "list_iterator", data := .fields #[.ref S1, .int 0 0] }).get? x = some o := fun x o e => Heap.get?_push_of_some _ e
  have hD₀ := (N _ (.head _)).2.2
  have hDL := (N _ (.head _)).2.1
  have loop : ∀ s₃ : Shared, s₃ = { s₂ with heap := h.push { cls := .type "list_iterator", data := .fields #[.ref S1, .int 0 0] }, toks := tk } →
      codeAny (model prog w) A (.compLoop (two elt it0 it1 a b pa pb scope pos) 1 (.ref h.objs.size) (.ref D) (compEnvC scope cl C env)) R s₃ := by
    rintro s₃ rfl
    refine loop_in
      (fun k s' => ∃ h' tk' j ys' m', s' = { s₂ with heap := h', toks := tk' } ∧ j ≤ ps.length ∧ k = ps.length + 1 - j ∧ IntsAre ys' (zs ++ lensP (ps.take j)) ∧ h'.IsListIter h.objs.size S1 j ∧ Fr h₀ L h' m ∧ h'.Ns C m' ∧ News h₀ L h' ((D, lst ys') :: (S1, ({ cls := .type "list", data := .seq us.toArray c1 } : Obj)) :: nw)) ?_ (ps.length + 1)
      ⟨_, tk, 0, ys, m₁, rfl, Nat.zero_le _, rfl, by rw [List.take_zero]; simpa [lensP] using hys, ⟨_, Heap.get?_push_size _ rfl, rfl, rfl⟩, F.keeps up, hn.at' fun o e => up _ o e, N.grown up⟩
    rintro k s' ⟨h', tk', j, ys', m', rfl, hj, rfl, hy', hst, F', hn', N'⟩
    have hl' : h'.IsList S1 us.toArray := ⟨_, (N' _ (.tail _ (.head _))).1, rfl, _, rfl⟩
    by_cases hlt : j < ps.length
    · refine W.item j _ _ _ (by simp; omega) ⟨hst, hl'⟩ fun v h₂ tk₂ hPv hst₂ hk₂ => ?_
      obtain ⟨x, t, rfl, hx⟩ := strs_at hus j v (by simpa using hPv)
      obtain ⟨p, hp, rfl⟩ : ∃ p, ps[j]? = some p ∧ x = tx p := by
        rw [List.getElem?_map] at hx
        cases e : ps[j]? with
        | none => rw [e] at hx; simp at hx
        | some p => rw [e] at hx; exact ⟨p, rfl, (Option.some.inj hx).symm⟩
      have hpm : p ∈ ps := List.mem_of_getElem? hp
      refine wpAny_assign_Name (wpAny_storeName_local (lookup_relabel_local hxb) (hn'.at' fun o e => hk₂ _ o (by simpa using hCI) e) (fun h₃ hn₃ hs₃ => ?_) (by simp [compEnvC, relabel, hkind]))
      have up3 : ∀ x o, x ≠ h.objs.size → x ≠ C → h'.get? x = some o → h₃.get? x = some o := fun x o h1 h2 e => hs₃.extBut x o h2 (hk₂ x o (by simpa using h1) e)
      obtain ⟨oI, heI0, hoI⟩ := hst₂.1
      have heI : h₃.get? h.objs.size = some oI := hs₃.extBut _ _ (Ne.symm hCI) heI0
      obtain ⟨oC, heC, hoC⟩ := ns_obj hn₃
      have F₃ : Fr h₀ L h₃ m := ⟨F'.ns.at' fun o e => up3 _ o (Ne.symm hIL) (Ne.symm hCL) e, fun c o e => up3 c o (fun q => by rw [q, hI₀] at e; cases e) (fun q => by rw [q, hC₀] at e; cases e) (F'.keep c o e), F'.above⟩
      have N₃ : News h₀ L h₃ ((C, oC) :: (h.objs.size, oI) :: (D, lst ys') :: (S1, ({ cls := .type "list", data := .seq us.toArray c1 } : Obj)) :: nw) := fun q hq => by
        rcases List.mem_cons.mp hq with rfl | hq
        · exact ⟨heC, hCL, hC₀⟩
        rcases List.mem_cons.mp hq with rfl | hq
        · exact ⟨heI, hIL, hI₀⟩
        have z := N' q hq
        refine ⟨up3 _ _ ?_ ?_ z.1, z.2⟩
        · rcases List.mem_cons.mp hq with rfl | hq
          · exact hDI
          rcases List.mem_cons.mp hq with rfl | hq
          · exact hSI
          · exact hnI q hq
        · rcases List.mem_cons.mp hq with rfl | hq
          · exact Ne.symm hCD
          rcases List.mem_cons.mp hq with rfl | hq
          · exact Ne.symm hCS
          · exact hnC q hq
      refine HE p t C oC _ _ h₃ _ _ _ (hps p hpm) hoC (by simp) F₃ N₃ fun t' h₅ tk₅ F₅ N₅ => ?_
      have zD := (N₅ (D, lst ys') (by simp)).1
      refine append_at (hsz := by show ys'.toArray.size ≤ sizeLine; rw [List.size_toArray, hy'.length, List.length_append, sizeLine_eq]; simp only [lensP, List.length_map, List.length_take]; have : min j ps.length ≤ ps.length := Nat.min_le_right _ _; omega) zD fun h₆ hs₆ hD₆ => ?_
      have htk : ps.take (j + 1) = ps.take j ++ [p] := by rw [List.take_add_one, hp]; rfl
      have oth : ∀ q ∈ (C, oC) :: (h.objs.size, oI) :: (S1, ({ cls := .type "list", data := .seq us.toArray c1 } : Obj)) :: nw, q.1 ≠ D ∧ h₅.get? q.1 = some q.2 := by
        intro q hq
        rcases List.mem_cons.mp hq with rfl | hq
        · exact ⟨hCD, (N₅ (C, oC) (by simp)).1⟩
        rcases List.mem_cons.mp hq with rfl | hq
        · exact ⟨Ne.symm hDI, (N₅ (h.objs.size, oI) (by simp)).1⟩
        rcases List.mem_cons.mp hq with rfl | hq
        · exact ⟨hDS, (N₅ (S1, _) (by simp)).1⟩
        · exact ⟨hnD q hq, (N₅ q (by simp [hq])).1⟩
      have get6 : ∀ q ∈ (C, oC) :: (h.objs.size, oI) :: (S1, ({ cls := .type "list", data := .seq us.toArray c1 } : Obj)) :: nw, h₆.get? q.1 = some q.2 := fun q hq => hs₆.extBut _ _ (oth q hq).1 (oth q hq).2
      refine ⟨ps.length + 1 - (j + 1), by omega, h₆, tk₅, j + 1, ys' ++ [.int (p.length : Int) t'], _, rfl, hlt, rfl, ?_, ⟨oI, get6 (h.objs.size, oI) (by simp), hoI⟩, F₅.change hs₆ hDL hD₀, hoC.ns (get6 (C, oC) (by simp)), fun q hq => ?_⟩
      · rw [htk]
        unfold lensP
        rw [List.map_append, ← List.append_assoc]
        exact IntsAre.append hy' (.cons _ _ .nil)
      · rcases List.mem_cons.mp hq with rfl | hq
        · exact ⟨hD₆.trans (congrArg some (lst_snoc ys' _)), hDL, hD₀⟩
        rcases List.mem_cons.mp hq with rfl | hq
        · exact ⟨get6 (S1, _) (by simp), (N _ (.tail _ (.head _))).2⟩
        · exact ⟨get6 q (by simp [hq]), (N q (.tail _ (.tail _ hq))).2⟩
    · have hj' : j = ps.length := Nat.le_antisymm hj (Nat.not_lt.mp hlt)
      subst hj'
      rw [List.take_length] at hy'
      refine W.done _ _ _ (by rw [show us.toArray.size = ps.length from (by simpa using hlen)]; exact ⟨hst, hl'⟩) fun h₂ tk₂ hk₂ => ?_
      refine hR h₂ tk₂ m' ys' hy' (fr_but F' hk₂ (Ne.symm hIL) hI₀) (hn'.at' fun o e => hk₂ _ o (by simpa using hCI) e) fun q hq => ?_
      rcases List.mem_cons.mp hq with rfl | hq
      · exact ⟨hk₂ _ _ (by simpa using hDI) (N' _ (.head _)).1, (N' _ (.head _)).2⟩
      · exact ⟨hk₂ _ _ (by simpa using hnI q hq) (N' q (.tail _ (.tail _ hq))).1, (N' q (.tail _ (.tail _ hq))).2⟩
  exact start_in (loop _ rfl) (W.self 0 _ _ _ ⟨⟨_, Heap.get?_push_size _ rfl, rfl, rfl⟩, hl1.at fun o e => up _ o e⟩ (loop _ rfl))
-- a running comprehension: its iterator at I, its names at C, its list at D, all three new and apart
structure Trio (h₀ : Heap) (L : Addr) (m : PySem.Str → Option Value) (I C D : Addr) (oI oC oD : Obj) (nw : List (Addr × Obj)) (h : Heap) : Prop where
  fr : Fr h₀ L h m
  all : News h₀ L h ((I, oI) :: (C, oC) :: (D, oD) :: nw)
  off : Off3 I C D nw
  ne : (@Ne Nat I C) ∧ (@Ne Nat I D) ∧ (@Ne Nat C D)
section
variable {I C D X : Addr} {oI oC oD o' : Obj} {nw : List (Addr × Obj)} {h h' : Heap}
theorem news3 {a b c : Addr × Obj} (ha : h.get? a.1 = some a.2 ∧ a.1 ≠ L ∧ h₀.get? a.1 = none) (hb : h.get? b.1 = some b.2 ∧ b.1 ≠ L ∧ h₀.get? b.1 = none) (hc : h.get? c.1 = some c.2 ∧ c.1 ≠ L ∧ h₀.get? c.1 = none) (hr : News h₀ L h nw) : News h₀ L h (a :: b :: c :: nw) :=
  List.forall_mem_cons.mpr ⟨ha, List.forall_mem_cons.mpr ⟨hb, List.forall_mem_cons.mpr ⟨hc, hr⟩⟩⟩
theorem Trio.i (T : Trio h₀ L m I C D oI oC oD nw h) : h.get? I = some oI ∧ I ≠ L ∧ h₀.get? I = none := T.all _ (.head _)
theorem Trio.c (T : Trio h₀ L m I C D oI oC oD nw h) : h.get? C = some oC ∧ C ≠ L ∧ h₀.get? C = none := T.all _ (.tail _ (.head _))
theorem Trio.d (T : Trio h₀ L m I C D oI oC oD nw h) : h.get? D = some oD ∧ D ≠ L ∧ h₀.get? D = none := T.all _ (.tail _ (.tail _ (.head _)))
theorem Trio.rest (T : Trio h₀ L m I C D oI oC oD nw h) : News h₀ L h nw := fun p hp => T.all p (.tail _ (.tail _ (.tail _ hp)))
theorem Trio.kept (T : Trio h₀ L m I C D oI oC oD nw h) (hX : X = I ∨ X = C ∨ X = D) (e : Heap.SameBut X h h') : News h₀ L h' nw := fun p hp => by
  have o := T.off.mem p hp
  refine ⟨(e.2 p.1 ?_).trans (T.rest p hp).1, (T.rest p hp).2⟩
  rcases hX with rfl | rfl | rfl
  · exact o.1
  · exact o.2.1
  · exact o.2.2
theorem Trio.setI (T : Trio h₀ L m I C D oI oC oD nw h) (e : Heap.SameBut I h h') (g : h'.get? I = some o') : Trio h₀ L m I C D o' oC oD nw h' :=
  ⟨T.fr.change e T.i.2.1 T.i.2.2, news3 ⟨g, T.i.2⟩ ⟨(e.2 C T.ne.1.symm).trans T.c.1, T.c.2⟩ ⟨(e.2 D T.ne.2.1.symm).trans T.d.1, T.d.2⟩ (T.kept (.inl rfl) e), T.off, T.ne⟩
theorem Trio.setC (T : Trio h₀ L m I C D oI oC oD nw h) (e : Heap.SameBut C h h') (g : h'.get? C = some o') : Trio h₀ L m I C D oI o' oD nw h' :=
  ⟨T.fr.change e T.c.2.1 T.c.2.2, news3 ⟨(e.2 I T.ne.1).trans T.i.1, T.i.2⟩ ⟨g, T.c.2⟩ ⟨(e.2 D T.ne.2.2.symm).trans T.d.1, T.d.2⟩ (T.kept (.inr (.inl rfl)) e), T.off, T.ne⟩
theorem Trio.setD (T : Trio h₀ L m I C D oI oC oD nw h) (e : Heap.SameBut D h h') (g : h'.get? D = some o') : Trio h₀ L m I C D oI oC o' nw h' :=
  ⟨T.fr.change e T.d.2.1 T.d.2.2, news3 ⟨(e.2 I T.ne.2.1).trans T.i.1, T.i.2⟩ ⟨(e.2 C T.ne.2.2).trans T.c.1, T.c.2⟩ ⟨g, T.d.2⟩ (T.kept (.inr (.inr rfl)) e), T.off, T.ne⟩
theorem Trio.grown (T : Trio h₀ L m I C D oI oC oD nw h) (e : ∀ b o, h.get? b = some o → h'.get? b = some o) : Trio h₀ L m I C D oI oC oD nw h' := ⟨T.fr.keeps e, T.all.grown e, T.off, T.ne⟩
end
-- the list and the names are laid
theorem trio_new {scope : Scope} {cl : List (PySem.Str × Addr)} {I : Addr} {oI : Obj} {news : List (Addr × Obj)} {K : Value → Env → Shared → Prop} (hcell : ∀ y ∈ scope.names, y.2 ≠ .cell) (hkind : scope.kind = .function)
    (F : Fr h₀ L s.heap m) (N : News h₀ L s.heap ((I, oI) :: news)) (off : ∀ p ∈ news, p.1 ≠ I)
    (k : ∀ h tk C D oC m', NsObj oC m' → Trio h₀ L m I C D oI oC (lst []) news h → K (.ref D) (newEnv scope C env.globals cl env.qual none .none (some env) builtinsNs) { s with heap := h, toks := tk }) :
    wpAny (model prog w) A (newList []) (fun acc s₁ => wpAny (model prog w) A (newFunctionEnv scope env.globals cl [] env.qual none .none (some env)) (fun cenv s₂ => K acc cenv s₂) E s₁) E s := by
  refine wpAny_newObj_type (wpAny_newFunctionEnv hcell (fun x hx => nomatch hx) (fun h v e => ?_) hkind)
  obtain ⟨oC, gC, vC⟩ := ns_obj v
  have e' := e.2
  generalize hC : ({ s with heap := s.heap.push { cls := .type "list", dict := none, data := .seq ([] : List Value).toArray } } : Shared).heap.objs.size = C at e' gC ⊢
  have C' : s.heap.objs.size + 1 = C := (Heap.size_push _ _).symm.trans hC
  have CD : @Ne Nat C s.heap.objs.size := fun x => Nat.succ_ne_self _ (C'.trans x)
  have bel : ∀ b o, s.heap.get? b = some o → (@Ne Nat b C) ∧ (@Ne Nat b s.heap.objs.size) := fun b o g => ⟨fun x => Nat.lt_irrefl _ (Nat.lt_trans (Nat.lt_of_lt_of_eq (Nat.lt_succ_self _) C') (x ▸ Heap.lt_size g)), Nat.ne_of_lt (Heap.lt_size g)⟩
  have up : ∀ b o, s.heap.get? b = some o → h.get? b = some o := fun b o g => (e' b (bel b o g).1).trans (up_push b o (up_push b o g))
  have new : ∀ b, s.heap.objs.size ≤ b → b ≠ L ∧ h₀.get? b = none := fun b hb =>
    have l : L < b := Nat.lt_of_lt_of_le F.ns.lt hb
    ⟨Nat.ne_of_gt l, Heap.get?_none_of_le (Nat.le_of_lt (Nat.lt_of_le_of_lt F.above l))⟩
  have gD : h.get? s.heap.objs.size = some (lst []) := (e' _ (Ne.symm CD)).trans (up_push _ _ (Heap.get?_push_size _ rfl))
  have qI := N _ (.head _)
  refine k h _ C _ oC _ vC ⟨F.keeps up, news3 ⟨up _ _ qI.1, qI.2⟩ ⟨gC, new _ (C' ▸ Nat.le_succ _)⟩ ⟨gD, new _ (Nat.le_refl _)⟩ (fun p hp => ?_), Off3.of fun p hp => ?_, (bel _ _ qI.1).1, (bel _ _ qI.1).2, CD⟩
  · have q := N p (.tail _ hp)
    exact ⟨up _ _ q.1, q.2⟩
  · exact ⟨off p hp, bel _ _ (N p (.tail _ hp)).1⟩
theorem Trio.store {I C D : Addr} {oI oC oD : Obj} {nw : List (Addr × Obj)} {scope : Scope} {cl : List (PySem.Str × Addr)} {x : PySem.Str} {px : Pos} {v : Value} {m' : PySem.Str → Option Value} {Q : Unit → Shared → Prop} (T : Trio h₀ L m I C D oI oC oD nw s.heap) (n : NsObj oC m')
    (hkind : scope.kind = .function) (hx : scope.names.lookup x = some .local) (k : ∀ h tk o, NsObj o (fun y => if y = x then some v else m' y) → Trio h₀ L m I C D oI o oD nw h → Q () { s with heap := h, toks := tk }) :
    wpAny (model prog w) A (assign (.Name x px) (compEnvC scope cl C env) v) Q E s := by
  refine wpAny_assign_Name (wpAny_storeName_local (lookup_relabel_local hx) (n.ns T.c.1) (fun h n' e => ?_) (by simp [compEnvC, relabel, hkind]))
  obtain ⟨o, g, n''⟩ := ns_obj n'
  exact k h _ o n'' (T.setC e g)
theorem off1_all {D : Addr} : ∀ {l : List (Addr × Obj)}, Off1 D l → ∀ p ∈ l, p.1 ≠ D
  | [], _ => fun _ h => nomatch h
  | _ :: _, o => List.forall_mem_cons.mpr ⟨o.1, off1_all o.2⟩
theorem loop2 {elt it0 it1 : PySem.Expr} {a b : PySem.Str} {pa pb : Pos} {scope : Scope} {cl : List (PySem.Str × Addr)} {pos : Pos} {Q : Value → Shared → Prop} {s₁ : Shared} {I C D ax : Addr} {vs : List Value} {c0 : Nat} {news : List (Addr × Obj)} (pcs : List Nat → List (List Nat)) (ls : List (List Nat))
    (hkind : scope.kind = .function) (hxa : scope.names.lookup a = some .local) (hxb : scope.names.lookup b = some .local) (hset1 : ∀ e x, foldedSetIterable it1 e x = pure x)
    (hl1 : ∀ l ∈ ls, l.length ≤ 1000 ∧ (pcs l).length ≤ 2000 ∧ ∀ p ∈ pcs l, p.length ≤ 1000) (hlens : ∀ n, (lens2 pcs (ls.take n)).length ≤ 100000)
    (HI : ∀ s, HIter prog w A h₀ L m env scope cl it1 a pcs s) (HE : ∀ s, HElt prog w A h₀ L m env scope cl elt b s) (hh : A.handled = none) (hm : (ax, ({ cls := .type "list", data := .seq vs.toArray c0 } : Obj)) ∈ news) (hvs : StrsAre vs (ls.map tx))
    (fin : ∀ D ys h tk, IntsAre ys (lens2 pcs ls) → Fr h₀ L h m → News h₀ L h ((D, lst ys) :: news) → (∀ p ∈ news, p.1 ≠ D) → Q (.ref D) { s₁ with heap := h, toks := tk })
    {oI oC : Obj} {m' : PySem.Str → Option Value} {h : Heap} {tk : Nat} (c : oI.cls = .type "list_iterator" ∧ oI.data = .fields #[.ref ax, .int (0 : Nat) 0]) (n : NsObj oC m') (T : Trio h₀ L m I C D oI oC (lst []) news h) :
    codeAny (model prog w) A (.compLoop (two elt it0 it1 a b pa pb scope pos) 0 (.ref I) (.ref D) (compEnvC scope cl C env)) (compPost (model prog w) A E none Q (.ref D) C) { s₁ with heap := h, toks := tk } := by
  have hvl : vs.length = ls.length := by rw [hvs.length, List.length_map]
  refine loop_out (fun k s' => ∃ i ys oI oC m' h tk, s' = { s₁ with heap := h, toks := tk } ∧ k + i = ls.length ∧ IntsAre ys (lens2 pcs (ls.take i)) ∧ (oI.cls = .type "list_iterator" ∧ oI.data = .fields #[.ref ax, .int i 0]) ∧ NsObj oC m' ∧ Trio h₀ L m I C D oI oC (lst ys) news h) (hset1 _) ?_ ls.length
    ⟨0, [], oI, oC, m', h, tk, rfl, rfl, .nil, c, n, T⟩
  clear T n c h tk m' oC oI
  rintro k _ ⟨i, ys, oI, oC, m', h, tk, rfl, hk, hy, cI, n, T⟩
  have hl : h.IsList ax vs.toArray := ⟨_, (T.rest _ hm).1, rfl, _, rfl⟩
  have hit : h.IsListIter I ax i := ⟨oI, T.i.1, cI⟩
  have offI : ∀ p ∈ (D, lst ys) :: news, p.1 ≠ I := List.forall_mem_cons.mpr ⟨Ne.symm T.ne.2.1, fun p hp => (T.off.mem p hp).1⟩
  cases k with
  | zero =>
    rw [List.take_of_length_le (by omega)] at hy
    refine wpAny_pyNext_list_end hh hit hl (by simp; omega) fun h₂ e => ?_
    have e' : ∀ b o, b ∉ [I] → h.get? b = some o → h₂.get? b = some o := fun b o q => e b o fun r => q (List.mem_singleton.mpr r)
    exact list_out (fr_but T.fr e' (Ne.symm T.i.2.1) T.i.2.2) (news_but (List.forall_mem_cons.mpr ⟨T.d, T.rest⟩) e' offI) T.off.one (n.ns (e C oC (Ne.symm T.ne.1) T.c.1)) T.c.2.2 T.c.2.1 T.ne.2.2 (fun p hp => (T.off.mem p hp).2.1)
      fun D' g tk' F' N' o' => fin D' ys g tk' hy F' N' (off1_all o')
  | succ k =>
    have hi : i < ls.length := by omega
    have hiv : i < vs.length := by omega
    refine wpAny_pyNext_list_item hit hl (x := vs[i]) (by simp [hiv]) fun h₂ it₂ e₂ => ?_
    obtain ⟨x, t, hv, hx⟩ := strs_at hvs i vs[i] (List.getElem?_eq_getElem hiv)
    rw [List.getElem?_map, List.getElem?_eq_getElem hi] at hx
    cases hx
    obtain ⟨b1, b2, b3⟩ := hl1 ls[i] (List.getElem_mem hi)
    obtain ⟨oI₂, gI, cI₂⟩ := it₂
    dsimp only
    rw [hv]
    refine (T.setI e₂ gI).store n hkind hxa fun h₃ tk₃ o₃ n₃ T₃ => ?_
    refine HI _ ls[i] t C o₃ _ ((I, oI₂) :: (D, lst ys) :: news) h₃ _ _ _ b1 n₃ (by simp) T₃.fr (news3 T₃.c T₃.i T₃.d T₃.rest) fun S1 us c1 h₄ tk₄ hus F₄ N₄ hS1 => ?_
    have htk : lens2 pcs (ls.take (i + 1)) = lens2 pcs (ls.take i) ++ lensP (pcs ls[i]) := by
      rw [List.take_add_one, List.getElem?_eq_getElem hi]; unfold lens2; rw [List.map_append, List.flatten_append]; simp
    have N₅ : News h₀ L h₄ ((D, lst ys) :: (S1, ({ cls := .type "list", data := .seq us.toArray c1 } : Obj)) :: (I, oI₂) :: news) :=
      news3 (N₄ (D, lst ys) (by simp)) (N₄ _ (.head _)) (N₄ (I, oI₂) (by simp)) fun p hp => N₄ p (by simp [hp])
    refine inner2 hh hkind hxb (HE _) hus b3 b2 hy (hlens i) F₄ (n₃.ns (N₄ (C, o₃) (by simp)).1) T₃.c.2.1 T₃.c.2.2 N₅ (fun e => hS1 (D, lst ys) (by simp) e.symm) (List.forall_mem_cons.mpr ⟨T₃.ne.2.1, fun p hp => (T₃.off.mem p hp).2.2⟩) T₃.ne.2.2
      (fun e => hS1 (C, o₃) (by simp) e) (List.forall_mem_cons.mpr ⟨T₃.ne.1, fun p hp => (T₃.off.mem p hp).2.1⟩) fun h₆ tk₆ m₆ ys₆ hy₆ F₆ hn₆ N₆ => ?_
    obtain ⟨o₆, g₆, n₆⟩ := ns_obj hn₆
    exact ⟨k, Nat.lt_succ_self k, i + 1, ys₆, oI₂, o₆, m₆, h₆, tk₆, rfl, by omega, htk ▸ hy₆, cI₂, n₆, F₆, news3 (N₆ (I, oI₂) (by simp)) ⟨g₆, T₃.c.2⟩ (N₆ _ (.head _)) (fun p hp => N₆ p (.tail _ (.tail _ hp))), T₃.off, T₃.ne⟩
theorem ListComp_2 {elt it0 it1 : PySem.Expr} {a b : PySem.Str} {pa pb : Pos} {scope : Scope} {cl : List (PySem.Str × Addr)} {pos : Pos} {Q : Value → Shared → Prop} (pcs : List Nat → List (List Nat)) (ls : List (List Nat)) (F₀ : Fr h₀ L s.heap m)
    (hclos : closureFor scope env = pure cl) (hcell : ∀ y ∈ scope.names, y.2 ≠ .cell) (hkind : scope.kind = .function)
    (hnames : ∀ y ∈ scope.names, y.2 = .local → scope.names.lookup y.1 = some .local) (hxa : scope.names.lookup a = some .local) (hxb : scope.names.lookup b = some .local)
    (hset1 : ∀ e x, foldedSetIterable it1 e x = pure x)
    (hl1 : ∀ l ∈ ls, l.length ≤ 1000 ∧ (pcs l).length ≤ 2000 ∧ ∀ p ∈ pcs l, p.length ≤ 1000) (hlens : ∀ n, (lens2 pcs (ls.take n)).length ≤ 100000)
    (HI : ∀ s, HIter prog w A h₀ L m env scope cl it1 a pcs s) (HE : ∀ s, HElt prog w A h₀ L m env scope cl elt b s)
    (h : wpAny (model prog w) A (eval it0 env) (fun xv s₁ => Hold (∃ (ax : Addr) (vs : List Value) (c0 : Nat) (news : List (Addr × Obj)), xv = .ref ax ∧ A.handled = none ∧ Fr h₀ L s₁.heap m ∧ News h₀ L s₁.heap news ∧ (ax, ({ cls := .type "list", data := .seq vs.toArray c0 } : Obj)) ∈ news ∧ StrsAre vs (ls.map tx) ∧
      (∀ D ys h tk, IntsAre ys (lens2 pcs ls) → Fr h₀ L h m → News h₀ L h ((D, lst ys) :: news) → (∀ p ∈ news, p.1 ≠ D) → Q (.ref D) { s₁ with heap := h, toks := tk }))) E s)
    (hs : ∀ x, foldedSetIterable it0 env x = pure x := by intro _; rfl) :
    wpAny (model prog w) A (eval (two elt it0 it1 a b pa pb scope pos) env) Q E s := by
  rw [eval_ListComp]
  refine wpAny_comprehension_free (use := none) rfl hs hclos hkind hnames (wpAny_mono h ?_ fun _ _ e => e)
  rintro _ s₁ ⟨ax, vs, c0, news, rfl, hh, F, N, hm, hvs, fin⟩
  refine wpAny_pyIter_list (items := vs.toArray) ⟨_, (N _ hm).1, rfl, _, rfl⟩ ?_
  refine trio_new hcell hkind (F.keeps up_push) (List.forall_mem_cons.mpr ⟨⟨Heap.get?_push_size _ rfl, Nat.ne_of_gt F.ns.lt, next_is_new F⟩, N.grown up_push⟩) (news_lt N rfl) fun h tk C D oC m' n T => ?_
  have lp := loop2 (E := E) (it0 := it0) (pa := pa) (pb := pb) (pos := pos) (tk := tk) pcs ls hkind hxa hxb hset1 hl1 hlens HI HE hh hm hvs fin ⟨rfl, rfl⟩ n T
  exact codeAny_compStart_list lp (wpAny_pyIter_listiter ⟨_, T.i.1, rfl, rfl⟩ lp)
end
end Hd
end
end
section
open PySem PySem.W PySem.Calls PyProof.Rows
set_option maxRecDepth 100000
set_option maxHeartbeats 4000000
noncomputable section
namespace Hd
local macro_rules | `(tactic| walk_at "idle 0") => `(tactic| skip)
theorem filledRs : rw' = PySem.Challenge.rw_tr0065_03 ∧ K = K := by
  k_fill
  w_top off
  exact ⟨rfl, rfl⟩
noncomputable def pcs9 (l : List Nat) : List (List Nat) := (Txt.split (tx l) (PySem.Str.ofString "\t")).map fun s => s.cps.toList
theorem pcs9_tx (l : List Nat) : (pcs9 l).map tx = Txt.split (tx l) (PySem.Str.ofString "\t") := by
  unfold pcs9
  rw [List.map_map]
  induction Txt.split (tx l) (PySem.Str.ofString "\t") with
  | nil => rfl
  | cons a r ih => rw [List.map_cons, ih]; congr 1
theorem pcs9_pos (l : List Nat) : 1 ≤ (pcs9 l).length := by unfold pcs9; rw [List.length_map]; exact split_pos _ _
theorem pcs9_le (l : List Nat) : (pcs9 l).length ≤ l.length + 2 := by unfold pcs9; rw [List.length_map]; have := split_le (tx l) (PySem.Str.ofString "\t"); rwa [tx_len] at this
theorem pcs9_len (l : List Nat) : ∀ p ∈ pcs9 l, p.length ≤ l.length := by
  intro p hp
  obtain ⟨s, hs, rfl⟩ := List.mem_map.mp hp
  have := part_short hs
  rw [tx_len] at this
  unfold PySem.Str.length at this
  simpa using this
section
variable {w : World} {mean : ExcName → Option Value} {mg mb : PySem.Str → Option Value}
theorem law_longest (Dl : Addr) (l0 l1 : List Nat) (u0 u1 : Tok) (nl : Nat) (hl0 : l0.length ≤ 900) (hl1 : l1.length ≤ 900) (mm : PySem.Str → Option Value) (o1 o2 : Obj) (news : List (Addr × Obj)) (fa : Addr) (cd : Value) (dp un : Nat) (gd : Option (List Code)) (A₀ : Around) (base h₀ : Heap) (s : Shared) (Q : Flow → Shared → Prop)
    (B : Below A₀ base [] h₀) (F : Fr h₀ h₀.objs.size s.heap mm) (c2 : o2.data = .cell (some (.ref Dl)))
    (X : (K w.params).In h₀) (N : News h₀ h₀.objs.size s.heap ((Dl, W.listOf #[.str (tx l0) u0, .str (tx l1) u1] nl) :: (h₀.objs.size + 1 + 1, o2) :: (h₀.objs.size + 1, o1) :: news)) (T : Top q (looseW q loose) mean mg mb h₀) (hd : dp + 20 < recursionLimit) (hu : un + 2000 < cLine)
    (hret : ∀ (M : Int) (t : Tok) (h' : Heap) (tk' : Nat), M ∈ lens2 pcs9 [l0, l1] → (∀ a, a ∈ lens2 pcs9 [l0, l1] → a ≤ M) → Fr h₀ h₀.objs.size h' (fun y => if y = PySem.Str.ofString "longest" then some (.int M t) else mm y) → News h₀ h₀.objs.size h' ((Dl, W.listOf #[.str (tx l0) u0, .str (tx l1) u1] nl) :: (h₀.objs.size + 1 + 1, o2) :: (h₀.objs.size + 1, o1) :: news) → Q .next { s with heap := h', toks := tk' }) :
    wpAny (model pr w) (ktrTop dp un gd (PySem.Str.ofString "law") (fScope (st 18)) h₀.objs.size fa cd (cellsFrom (h₀.objs.size + 1) (fScope (st 18)).names []) []) (exec (lawS 19) (envOfC (PySem.Str.ofString "law") (fScope (st 18)) h₀.objs.size fa cd)) Q (fun _ _ => False) s := by
  k_with_none
  k_with "eval ListComp" => refine hold ?_
  conv in (lawS 19) => whnf
  k_steps
  unfold Hold
  have hls : ∀ l ∈ [l0, l1], l.length ≤ 1000 ∧ (pcs9 l).length ≤ 2000 ∧ ∀ p ∈ pcs9 l, p.length ≤ 1000 := by
    intro l hl
    have h9 : l.length ≤ 900 := by
      rcases List.mem_cons.mp hl with rfl | hl
      · exact hl0
      · rw [List.mem_singleton.mp hl]; exact hl1
    refine ⟨by omega, by have := pcs9_le l; omega, fun p hp => by have := pcs9_len l p hp; omega⟩
  have hlens : ∀ n, (lens2 pcs9 (([l0, l1] : List (List Nat)).take n)).length ≤ 100000 := by
    intro n
    have e0 := pcs9_le l0
    have e1 := pcs9_le l1
    match n with
    | 0 => simp [lens2]
    | 1 => simp [lens2, lensP]; omega
    | n + 2 => simp [lens2, lensP]; omega
  k_dflt (refine ListComp_2 pcs9 [l0, l1] (F₀ := by k_asm) (by with_unfolding_all rfl) (by decide) (by rfl) (by decide) (by rfl) (by rfl) (by intro _ _; rfl) hls hlens ?hi ?he ?_)
  case hi =>
    intro s' l t C' oC' m' nw h' tk' Q' E' hl hC' hx' F' N' hq
    k_with "call builtin:str.split" => refine hold ?_
    k_steps
    unfold Hold
    refine splitN1 (hsz := by rw [tx_len, sizeLine_eq]; omega) F' N' (by rfl) ?_
    intro sl h9 k9 hsl F8 N8
    have hA : StrsAre (strValues sl) ((pcs9 l).map tx) := by have := strsAre_of_values sl; rw [hsl, ← pcs9_tx] at this; exact this
    exact hq _ _ _ _ _ hA F8 N8 (fun p hp e => Nat.ne_of_lt (Heap.lt_size (N' p hp).1) e)
  case he =>
    intro s' p t C' oC' m' nw h' tk' Q' E' hp hC' hx' F' N' hq
    have hlen := tx_len p
    k_steps
    rw [hlen]
    exact hq _ _ _ F' N'
  k_steps
  unfold Hold
  have F0 := F
  have N0 := N
  refine ⟨Dl, [.str (tx l0) u0, .str (tx l1) u1], nl, _, rfl, by with_unfolding_all rfl, F, N, .head _, .cons _ _ (.cons _ _ .nil), ?_⟩
  intro D ys h tk hys F9 N9 hD
  have hne : 0 < (lens2 pcs9 [l0, l1]).length := by
    have := pcs9_pos l0
    simp only [lens2, lensP, List.map_cons, List.map_nil, List.flatten_cons, List.flatten_nil, List.length_append, List.length_map, List.length_nil]
    omega
  k_with "call builtin:max" => refine hold ?_
  k_steps
  unfold Hold
  refine max_list_N (by with_unfolding_all rfl) F9 N9 ⟨_, (N9 _ (.head _)).1, rfl, _, rfl⟩ hys hne ?_
  intro h' M t tk F9 N9 hM hM2
  k_steps
  (rename Fr _ _ _ _ => F9'); (rename News _ _ _ _ => N9')
  exact hret _ _ _ _ hM hM2 F9' (news_sub _ N9' (by kcj_all))
end
end Hd
end
end
section
open PySem PySem.W PySem.Calls PyProof.Rows
set_option maxRecDepth 100000
set_option maxHeartbeats 4000000
noncomputable section
namespace Hd
noncomputable def heldL : List Nat := (List.range 27).map fun i : Nat => heldC (Int.ofNat i)
noncomputable def capL : List Nat := (List.range 26).map fun i => 65 + i
noncomputable def allC : List Nat := 34 :: 32 :: 9 :: 890 :: (heldL ++ manyL.map (·.1) ++ capL)
theorem heldC_mod (x : Int) : heldC x = heldC (((x.fmod 27).toNat : Nat) : Int) := by
  have h0 : 0 ≤ x.fmod 27 := Int.fmod_nonneg_of_pos _ (by omega)
  have h1 : x.fmod 27 < 27 := Int.fmod_lt_of_pos _ (by omega)
  have e : (((x.fmod 27).toNat : Nat) : Int) = x.fmod 27 := by omega
  have e2 : (x.fmod 27).fmod 27 = x.fmod 27 := Int.fmod_eq_of_lt h0 h1
  rw [e]; unfold heldC; rw [e2]
theorem heldC_in (x : Int) : heldC x ∈ heldL := by
  rw [heldC_mod]
  have h0 : 0 ≤ x.fmod 27 := Int.fmod_nonneg_of_pos _ (by omega)
  have h1 : x.fmod 27 < 27 := Int.fmod_lt_of_pos _ (by omega)
  exact List.mem_map.mpr ⟨(x.fmod 27).toNat, List.mem_range.mpr (by omega), by simp⟩
noncomputable def okPair (p : Nat × List Nat) : Bool := decide (prepC p.1 = p.2)
theorem held_ok : (heldL.all fun c => decide (prepC c = [])) = true := by decide +kernel
theorem many_ok : (manyL.all fun p => decide (prepC p.1 = p.2)) = true := by decide +kernel
theorem cap_ok : ((List.range 26).all fun i => decide (prepC (65 + i) = [97 + i])) = true := by decide +kernel
theorem p34 : prepC 34 = [34] := by decide +kernel
theorem p32 : prepC 32 = [32] := by decide +kernel
theorem p9 : prepC 9 = [9] := by decide +kernel
theorem p890 : prepC 890 = [32, 953] := by decide +kernel
theorem all_ok : (allC.all fun c => decide ((m3 c).length ≤ 4 ∧ c < 1114112 ∧ (c = 34 ∨ 34 ∉ prepC c) ∧ (prepC c).length ≤ 4)) = true := by decide +kernel
theorem fmodR (x : Int) {n : Int} (hn : 0 < n) : 0 ≤ x.fmod n ∧ x.fmod n < n := ⟨Int.fmod_nonneg_of_pos _ hn, Int.fmod_lt_of_pos _ hn⟩
theorem many_in (x : Int) : manyL.getD ((x.fdiv 10).fmod 12).toNat (0, []) ∈ manyL := by
  have h := fmodR (x.fdiv 10) (n := 12) (by omega)
  have hl : ((x.fdiv 10).fmod 12).toNat < manyL.length := by show _ < 12; omega
  rw [List.getD_eq_getElem?_getD, List.getElem?_eq_getElem hl]
  exact List.getElem_mem hl
theorem sg_pair (x : Int) : sgC x ∈ allC ∧ foL x = prepC (sgC x) := by
  unfold sgC foL sgP
  have h10 := fmodR x (n := 10) (by omega)
  split
  · exact ⟨.head _, p34.symm⟩
  split
  · have h := heldC_in (x.fdiv 10)
    have hk := of_decide_eq_true (List.all_eq_true.mp held_ok _ h)
    refine ⟨?_, hk.symm⟩
    unfold allC
    simp only [List.mem_cons, List.mem_append]
    exact .inr (.inr (.inr (.inr (.inl (.inl h)))))
  split
  · exact ⟨.tail _ (.head _), p32.symm⟩
  split
  · exact ⟨.tail _ (.tail _ (.head _)), p9.symm⟩
  split
  · exact ⟨.tail _ (.tail _ (.tail _ (.head _))), p890.symm⟩
  split
  · have h := many_in x
    have hk := of_decide_eq_true (List.all_eq_true.mp many_ok _ h)
    refine ⟨?_, hk.symm⟩
    unfold allC
    simp only [List.mem_cons, List.mem_append]
    exact .inr (.inr (.inr (.inr (.inl (.inr (List.mem_map.mpr ⟨_, h, rfl⟩))))))
  · have h := fmodR (x.fdiv 10) (n := 26) (by omega)
    have e1 : (65 + (x.fdiv 10).fmod 26).toNat = 65 + ((x.fdiv 10).fmod 26).toNat := by omega
    have e2 : (97 + (x.fdiv 10).fmod 26).toNat = 97 + ((x.fdiv 10).fmod 26).toNat := by omega
    have hm : ((x.fdiv 10).fmod 26).toNat ∈ List.range 26 := List.mem_range.mpr (by omega)
    have hk := of_decide_eq_true (List.all_eq_true.mp cap_ok _ hm)
    simp only [e1, e2]
    refine ⟨?_, hk.symm⟩
    unfold allC
    simp only [List.mem_cons, List.mem_append]
    exact .inr (.inr (.inr (.inr (.inr (List.mem_map.mpr ⟨_, hm, rfl⟩)))))
theorem sg_in (x : Int) : sgC x ∈ allC := (sg_pair x).1
theorem fo_prep (x : Int) : foL x = prepC (sgC x) := (sg_pair x).2
theorem all_c {c : Nat} (h : c ∈ allC) : (m3 c).length ≤ 4 ∧ c < 1114112 ∧ (c = 34 ∨ 34 ∉ prepC c) ∧ (prepC c).length ≤ 4 := of_decide_eq_true (List.all_eq_true.mp all_ok _ h)
theorem fo_len (x : Int) : (foL x).length ≤ 4 := by rw [fo_prep]; exact (all_c (sg_in x)).2.2.2
theorem held_fold (s : Int) : prepC (sgC (3 + 10 * s)) = [] := by
  rw [← fo_prep]
  have e : (3 + 10 * s).fmod 10 = 3 := by
    rw [Int.add_mul_fmod_self_left]; rfl
  unfold foL sgP
  rw [e]; rfl
theorem held_sg (s : Int) : sgC (3 + 10 * s) ∈ heldL := by
  have e : (3 + 10 * s).fmod 10 = 3 := by
    rw [Int.add_mul_fmod_self_left]; rfl
  unfold sgC sgP
  rw [e]
  exact heldC_in _
end Hd
end
end
section
open PySem PySem.W PySem.Calls PyProof.Rows
set_option maxRecDepth 100000
set_option maxHeartbeats 4000000
noncomputable section
namespace Hd
noncomputable def esc : List Nat → List Nat
  | [] => []
  | c :: r => if c = 34 then 34 :: 34 :: esc r else c :: esc r
theorem pq_esc : ∀ (a r : List Nat), pq (esc a ++ r) = a ++ pq r
  | [], r => rfl
  | c :: a, r => by
    unfold esc
    split
    · rename_i h; subst h
      rw [List.cons_append, List.cons_append, pq_two, pq_esc a r, List.cons_append]
    · rename_i h
      rw [List.cons_append, pq_cons h, pq_esc a r, List.cons_append]
theorem pq_split : ∀ (n : Nat) (l : List Nat), l.length ≤ n → ∃ r, l = esc (pq l) ++ r ∧ (r = [] ∨ ∃ r', r = 34 :: r') := by
  intro n
  induction n with
  | zero =>
    intro l h
    cases l with
    | nil => exact ⟨[], rfl, .inl rfl⟩
    | cons a r => simp at h
  | succ n ih =>
    intro l h
    match l, h with
    | [], _ => exact ⟨[], rfl, .inl rfl⟩
    | [c], _ =>
      by_cases hc : c = 34
      · subst hc; exact ⟨[34], rfl, .inr ⟨[], rfl⟩⟩
      · refine ⟨[], ?_, .inl rfl⟩
        rw [pq_cons hc]; simp [pq, esc, hc]
    | c :: c' :: r, h =>
      by_cases hc : c = 34
      · subst hc
        by_cases hc' : c' = 34
        · subst hc'
          obtain ⟨q, h1, h2⟩ := ih r (by simp at h; omega)
          refine ⟨q, ?_, h2⟩
          rw [pq_two]
          show 34 :: 34 :: r = (34 :: 34 :: esc (pq r)) ++ q
          rw [List.cons_append, List.cons_append, ← h1]
        · refine ⟨34 :: c' :: r, ?_, .inr ⟨_, rfl⟩⟩
          rw [pq_stop (fun r' e => hc' (List.cons.inj e).1)]; rfl
      · obtain ⟨q, h1, h2⟩ := ih (c' :: r) (by simp at h ⊢; omega)
        refine ⟨q, ?_, h2⟩
        rw [pq_cons hc]
        show c :: c' :: r = esc (c :: pq (c' :: r)) ++ q
        unfold esc
        rw [if_neg hc, List.cons_append, ← h1]
theorem esc_len : ∀ a : List Nat, (esc a).length = a.length + cq a
  | [] => rfl
  | c :: a => by
    have ih := esc_len a
    unfold cq at ih ⊢
    unfold esc
    by_cases h : c = 34
    · rw [if_pos h, List.filter_cons_of_pos (by simp [h])]; simp only [List.length_cons]; omega
    · rw [if_neg h, List.filter_cons_of_neg (by simp [h])]; simp only [List.length_cons]; omega
theorem esc_free : ∀ (a b : List Nat), 34 ∉ a → esc (a ++ b) = a ++ esc b
  | [], b, _ => rfl
  | c :: a, b, h => by
    have hc : c ≠ 34 := fun e => h (by simp [e])
    rw [List.cons_append]
    conv => lhs; unfold esc
    rw [if_neg hc, esc_free a b (fun hm => h (.tail _ hm)), List.cons_append]
theorem prep_cons (c : Nat) (l : List Nat) : prep (c :: l) = prepC c ++ prep l := by rw [prep_flat, prep_flat, List.map_cons, List.flatten_cons]
theorem prep_esc : ∀ a : List Nat, (∀ c ∈ a, c ∈ allC) → prep (esc a) = esc (prep a)
  | [], _ => rfl
  | c :: a, h => by
    have ih := prep_esc a (fun d hd => h d (.tail _ hd))
    have hc := (all_c (h c (.head _))).2.2.1
    by_cases e : c = 34
    · subst e
      show prep (34 :: 34 :: esc a) = _
      rw [prep_cons, prep_cons, prep_cons, p34, ih]; rfl
    · have e2 : esc (c :: a) = c :: esc a := by conv => lhs; unfold esc
                                                rw [if_neg e]
      rw [e2, prep_cons, prep_cons, ih, esc_free _ _ (hc.resolve_left e)]
theorem prep_nil_of {r : List Nat} (h : r.filter seenB = []) : prep r = [] := by
  induction r with
  | nil => rfl
  | cons c r ih =>
    by_cases hc : prepC c = []
    · rw [List.filter_cons_of_neg (by simp [seenB, hc])] at h
      rw [prep_cons, hc, ih h]; rfl
    · rw [List.filter_cons_of_pos (by simp [seenB, hc])] at h; cases h
theorem prep_head {r : List Nat} {c : Nat} {q : List Nat} (h : r.filter seenB = c :: q) : c ∈ r ∧ prepC c ≠ [] ∧ ∃ z, prep r = prepC c ++ z := by
  induction r with
  | nil => cases h
  | cons d r ih =>
    by_cases hc : prepC d = []
    · rw [List.filter_cons_of_neg (by simp [seenB, hc])] at h
      obtain ⟨h1, h2, z, h3⟩ := ih h
      exact ⟨.tail _ h1, h2, z, by rw [prep_cons, hc, h3]; rfl⟩
    · rw [List.filter_cons_of_pos (by simp [seenB, hc])] at h
      obtain ⟨rfl, _⟩ := List.cons.inj h
      exact ⟨.head _, hc, _, prep_cons _ _⟩
noncomputable def seenL (S : List Nat) : List (List Nat) := ((S.drop ((pq S).length + cq (pq S) + 1)).filter seenB).map fun c => [c]
theorem pq_sub (S : List Nat) : ∀ c ∈ pq S, c ∈ S := by
  obtain ⟨r, h, _⟩ := pq_split S.length S (Nat.le_refl _)
  have he : ∀ a : List Nat, ∀ c ∈ a, c ∈ esc a := by
    intro a
    induction a with
    | nil => intro c hc; cases hc
    | cons d a ih =>
      intro c hc
      unfold esc
      split
      · rename_i e
        rcases List.mem_cons.mp hc with rfl | hc
        · rw [e]; exact .head _
        · exact .tail _ (.tail _ (ih c hc))
      · rcases List.mem_cons.mp hc with rfl | hc
        · exact .head _
        · exact .tail _ (ih c hc)
  intro c hc
  rw [h]
  exact List.mem_append_left _ (he _ c hc)
theorem seen_fact (S : List Nat) (hS : ∀ c ∈ S, c ∈ allC) : (if (seenL S).take 1 = [[34]] then (pq (prep S)).take ((prep (pq S)).length + 1) = prep (pq S) ++ [34] else pq (prep S) = prep (pq S)) ∧ (∃ u, pq (prep S) = prep (pq S) ++ u ∧ (u = [] ∨ ∃ u', u = 34 :: u')) := by
  obtain ⟨r, h, hr⟩ := pq_split S.length S (Nat.le_refl _)
  have hn : ∀ c ∈ pq S, c ∈ allC := fun c hc => hS c (pq_sub S c hc)
  have hfirst : pq (prep S) = prep (pq S) ++ pq (prep r) := by
    conv => lhs; rw [h]
    rw [prep_app, prep_esc _ hn, pq_esc]
  have hlen : S.length = (pq S).length + cq (pq S) + r.length := by
    conv => lhs; rw [h]
    rw [List.length_append, esc_len]
  rcases hr with rfl | ⟨r', rfl⟩
  · have hd : S.drop ((pq S).length + cq (pq S) + 1) = [] := List.drop_eq_nil_of_le (by rw [List.length_nil] at hlen; omega)
    have hs : seenL S = [] := by unfold seenL; rw [hd]; rfl
    have hf : pq (prep S) = prep (pq S) := by rw [hfirst]; exact List.append_nil _
    exact ⟨by rw [hs, if_neg (by simp)]; exact hf, [], by rw [hf, List.append_nil], .inl rfl⟩
  · have hd : S.drop ((pq S).length + cq (pq S) + 1) = r' := by
      have e : (pq S).length + cq (pq S) + 1 = (esc (pq S)).length + 1 := by rw [esc_len]
      rw [e, congrArg (List.drop ((esc (pq S)).length + 1)) h, show esc (pq S) ++ 34 :: r' = (esc (pq S) ++ [34]) ++ r' by simp]
      exact List.drop_left' (by simp)
    have hs : seenL S = (r'.filter seenB).map fun c => [c] := by unfold seenL; rw [hd]
    have hr' : ∀ c ∈ r', c ∈ allC := fun c hc => hS c (by rw [h]; exact List.mem_append_right _ (.tail _ hc))
    rw [prep_cons, p34] at hfirst
    have nof : pq (34 :: prep r') = [] → (seenL S).take 1 ≠ [[34]] → ((if (seenL S).take 1 = [[34]] then (pq (prep S)).take ((prep (pq S)).length + 1) = prep (pq S) ++ [34] else pq (prep S) = prep (pq S)) ∧ (∃ u, pq (prep S) = prep (pq S) ++ u ∧ (u = [] ∨ ∃ u', u = 34 :: u'))) := by
      intro e1 e2
      have hf : pq (prep S) = prep (pq S) := by
        rw [hfirst, show [34] ++ prep r' = 34 :: prep r' from rfl, e1, List.append_nil]
      rw [if_neg e2]
      exact ⟨hf, [], by rw [hf, List.append_nil], .inl rfl⟩
    cases hq : r'.filter seenB with
    | nil =>
      refine nof ?_ (by rw [hs, hq]; simp)
      rw [prep_nil_of hq]; rfl
    | cons c q =>
      obtain ⟨h1, h2, z, h3⟩ := prep_head hq
      by_cases hc : c = 34
      · subst hc
        rw [p34] at h3
        have e1 : pq ([34] ++ prep r') = 34 :: pq z := by rw [h3]; exact pq_two z
        rw [e1] at hfirst
        rw [if_pos (by rw [hs, hq]; rfl)]
        refine ⟨?_, _, hfirst, .inr ⟨_, rfl⟩⟩
        rw [hfirst, show prep (pq S) ++ 34 :: pq z = (prep (pq S) ++ [34]) ++ pq z by simp, List.take_left' (by simp)]
      · have hf := (all_c (hr' c h1)).2.2.1.resolve_left hc
        refine nof ?_ (by rw [hs, hq]; simp [hc])
        refine pq_stop fun r2 e => ?_
        rw [h3] at e
        cases hp : prepC c with
        | nil => exact h2 hp
        | cons d w =>
          rw [hp, List.cons_append] at e
          have : d = 34 := (List.cons.inj e).1
          exact hf (by rw [hp, this]; exact .head _)
theorem ld_stop : ∀ (a u : List Nat), ld (a ++ 34 :: u) = ld a
  | [], u => rfl
  | c :: a, u => by
    rw [List.cons_append]
    unfold ld
    rw [ld_stop a u]
theorem ld_first (S : List Nat) (hS : ∀ c ∈ S, c ∈ allC) : ld (pq (prep S)) = ld (prep (pq S)) := by
  obtain ⟨u, h, hu⟩ := (seen_fact S hS).2
  rw [h]
  rcases hu with rfl | ⟨u', rfl⟩
  · rw [List.append_nil]
  · exact ld_stop _ _
theorem ld_prep : ∀ a : List Nat, ∃ m, ld (prep a) = ld a ++ m
  | [] => ⟨[], rfl⟩
  | c :: a => by
    obtain ⟨m, ih⟩ := ld_prep a
    by_cases h : isB c = true
    · have hp : prepC c = [c] := by
        rcases of_decide_eq_true h with rfl | rfl
        · exact p32
        · exact p9
      refine ⟨m, ?_⟩
      rw [prep_cons, hp]
      show ld (c :: prep a) = ld (c :: a) ++ m
      unfold ld
      rw [if_pos h, if_pos h, ih, List.cons_append]
    · exact ⟨ld (prep (c :: a)), by
        have : ld (c :: a) = [] := by unfold ld; rw [if_neg h]
        rw [this]; rfl⟩
theorem ld_blank : ∀ (l : List Nat), ∀ c ∈ ld l, c = 32 ∨ c = 9
  | [], c, h => by cases h
  | d :: l, c, h => by
    unfold ld at h
    split at h
    · rename_i hb
      rcases List.mem_cons.mp h with rfl | h
      · exact of_decide_eq_true hb
      · exact ld_blank l c h
    · cases h
theorem ld_len' : ∀ (l : List Nat), (ld l).length ≤ l.length
  | [] => Nat.le_refl _
  | d :: l => by
    unfold ld
    split
    · have := ld_len' l; simp only [List.length_cons]; omega
    · simp
theorem prep_len : ∀ (l : List Nat), (∀ c ∈ l, c ∈ allC) → (prep l).length ≤ 4 * l.length
  | [], _ => Nat.le_refl _
  | c :: l, h => by
    have ih := prep_len l (fun d hd => h d (.tail _ hd))
    have := (all_c (h c (.head _))).2.2.2
    rw [prep_cons, List.length_append, List.length_cons]; omega
end Hd
end
end
section
open PySem PySem.W PySem.Calls PyProof.Rows
set_option maxRecDepth 100000
set_option maxHeartbeats 4000000
noncomputable section
namespace Hd
theorem filledCo : rw' = PySem.Challenge.rw_tr0065_03 ∧ K = K := by
  k_fill
  w_top off
  exact ⟨rfl, rfl⟩
noncomputable def colS (S col : Int) (c : Nat) : Int := col + (if c = 32 then 1 else S - col.fmod S)
noncomputable def col (S : Int) (l : List Nat) : Int := l.foldl (colS S) 0
theorem col_snoc (S : Int) (l : List Nat) (c : Nat) : col S (l ++ [c]) = colS S (col S l) c := by simp [col]
theorem colS_bd {S a : Int} {c : Nat} (hS : 1 ≤ S) (ha : 0 ≤ a) : a < colS S a c ∧ colS S a c ≤ a + S := by
  have h0 : 0 ≤ a.fmod S := Int.fmod_nonneg_of_pos _ (by omega)
  have h1 : a.fmod S < S := Int.fmod_lt_of_pos _ (by omega)
  unfold colS
  split <;> omega
theorem col_bd {S : Int} (hS : 1 ≤ S) (l : List Nat) : 0 ≤ col S l ∧ col S l ≤ S * l.length := by
  have key : ∀ (r : List Nat) (a : Int) (k : Nat), 0 ≤ a → a ≤ S * k → 0 ≤ r.foldl (colS S) a ∧ r.foldl (colS S) a ≤ S * ((k + r.length : Nat) : Int) := by
    intro r
    induction r with
    | nil => intro a k h1 h2; exact ⟨h1, h2⟩
    | cons c r ih =>
      intro a k h1 h2
      have h := colS_bd (c := c) hS h1
      have e : S * ((k + 1 : Nat) : Int) = S * k + S := by rw [Int.natCast_add, Int.mul_add]; simp
      have := ih (colS S a c) (k + 1) (by omega) (by rw [e]; omega)
      rw [List.foldl_cons, List.length_cons, show k + (r.length + 1) = k + 1 + r.length by omega]
      exact this
  have := key l 0 0 (Int.le_refl _) (by simp)
  rw [Nat.zero_add] at this
  exact this
noncomputable def colI (S : Int) (pre : List Int) : Int := col S (pre.map Int.toNat)
structure CInv (S : Int) (pre : List Int) (c : Int) : Prop where
  e : c = colI S pre
theorem CInv.start (S : Int) : CInv S [] 0 := ⟨rfl⟩
theorem CInv.turn1 {S c : Int} {pre : List Int} {n : Nat} (h : CInv S pre c) (hn : decide (n = 32) = true) : CInv S (pre ++ [(n : Int)]) (c + 1) := by
  refine ⟨?_⟩
  rw [h.e]; unfold colI
  rw [List.map_append, List.map_cons, List.map_nil, col_snoc]; unfold colS
  rw [if_pos (by have := of_decide_eq_true hn; omega)]
theorem CInv.turn2 {S c : Int} {pre : List Int} {n : Nat} (h : CInv S pre c) (hn : decide (n = 32) = false) : CInv S (pre ++ [(n : Int)]) (c + (S - c.fmod S)) := by
  refine ⟨?_⟩
  rw [h.e]; unfold colI
  rw [List.map_append, List.map_cons, List.map_nil, col_snoc]; unfold colS
  rw [if_neg (by have := of_decide_eq_false hn; omega)]
theorem codes_tx (l : List Nat) : (KStt.codes (tx l)).map Int.toNat = l := by
  unfold KStt.codes
  rw [List.map_map, show (tx l).cps.toList = l by simp [tx]]
  have : (Int.toNat ∘ fun (c : Nat) => (c : Int)) = id := by funext c; simp
  rw [this, List.map_id]
section
variable {w : World} {mean : ExcName → Option Value} {mg mb : PySem.Str → Option Value}
theorem spec_column (l : List Nat) (S : Int) (hS : 1 ≤ S) (t t2 : Tok) (hl : l.length ≤ 1000) : Spec w mean mg mb 4 211 [.str (tx l) t, .int S t2] (fun v => ∃ tk, v = .int (col S l) tk) := by
  intro news dp un gd cn cs a ccd cl outer A₀ base h₀ L m s Q E B F X N T hk hd hu hret
  k_with_none
  k_with "compareOp Eq str str" => (k_here; k_dflt (refine eq_blank ?_))
  k_with "state" => first | exact CInv.start S | exact CInv.turn1 (by assumption) (by assumption) | exact CInv.turn2 (by assumption) (by assumption) | exact CInv.turn1 (by assumption) (decide_eq_true (by assumption)) | exact CInv.turn2 (by assumption) (decide_eq_false (by assumption))
  k_with "pyIter str" => k_state (fun (pre : List Int) (c : Int) => CInv S pre c) "column"
  refine wpAny_call ?_
  k_dflt cell_enter
  conv in (fBody (st 16)) => whnf
  k_steps
  have e := kInv.e
  unfold colI at e
  rw [codes_tx] at e
  exact hret _ _ _ ⟨_, by rw [← e]⟩ (by assumption) (by assumption)
end
end Hd
end
end
section
open PySem PySem.W PySem.Calls PyProof.Rows
set_option maxRecDepth 100000
set_option maxHeartbeats 4000000
noncomputable section
namespace Hd
local macro_rules | `(tactic| walk_at "idle 0") => `(tactic| skip)
theorem filledRq : rw' = PySem.Challenge.rw_tr0065_03 ∧ K = K := by
  k_fill
  w_top off
  exact ⟨rfl, rfl⟩
noncomputable def DtEl (nw : List (Addr × Obj)) (d : Dat) (y : Value) (news' : List (Addr × Obj)) : Prop := (∀ q ∈ nw, q ∈ news') ∧ DatIn news' y d
section
variable {prog : Program} {w : World} {A : Around} {h₀ : Heap} {L : Addr} {m : PySem.Str → Option Value} {env : Env} {elt : PySem.Expr} {x : PySem.Str} {scope : Scope} {cl : List (PySem.Str × Addr)} {s : Shared} {Fin : List Value → List (Addr × Obj) → Prop}
theorem dt_range (bs : List (Addr × Obj)) {n : Nat} {a : Int} (g : Int → Dat)
    (turn : ∀ k t nw I oI C oC D m₂ ys h tk (E' : Value → Shared → Prop), a ≤ k → k < a + (n : Int) → LCg.NsObj oC m₂ → m₂ x = some (.int k t) → Fr h₀ L h m → News h₀ L h ((I, oI) :: (C, oC) :: (D, LCg.lst ys) :: nw) → LCg.Off3 I C D nw → ((@Ne Nat I C) ∧ (@Ne Nat I D) ∧ (@Ne Nat C D)) → (∀ q ∈ bs, q ∈ nw) →
      wpAny (model prog w) A (eval elt (compEnvC scope cl C env)) (LCg.CompEnd h₀ L m { s with heap := h, toks := tk } I oI C oC D (LCg.lst ys) (fun nw => ∀ q ∈ bs, q ∈ nw) (fun y news' => DtEl nw (g k) y news')) E' { s with heap := h, toks := tk })
    (fin : ∀ ys nw, DatAll nw ys ((rangeKs a n).map g) → (∀ q ∈ bs, q ∈ nw) → Fin ys nw) : LCg.CompRest prog w A h₀ L m env elt x scope cl s (fun _ => True) (fun i v => ∃ t, v = .int (a + (i : Int)) t) Fin n 0 [] bs := by
  have hlen := rangeKs_length a n
  have key : ∀ (j i : Nat) (ys : List Value) (nw : List (Addr × Obj)), i + j = n → DatAll nw ys (((rangeKs a n).take i).map g) → (∀ q ∈ bs, q ∈ nw) → LCg.CompRest prog w A h₀ L m env elt x scope cl s (fun _ => True) (fun i v => ∃ t, v = .int (a + (i : Int)) t) Fin j i ys nw := by
    intro j
    induction j with
    | zero =>
      intro i ys nw hi' hy hs
      have e : i = (rangeKs a n).length := by omega
      subst e
      rw [List.take_length] at hy
      exact LCg.CompRest.zero (fin ys nw hy hs)
    | succ j ih =>
      intro i ys nw hi' hy hs
      refine LCg.CompRest.succ ?_
      intro v I oI C oC D m₂ h tk E' hv hC hx F N off ne
      obtain ⟨t, rfl⟩ := hv
      have hsn : ((rangeKs a n).take (i + 1)) = (rangeKs a n).take i ++ [a + (i : Int)] := by
        have : (rangeKs a n)[i]? = some (a + (i : Int)) := by simp [rangeKs, show i < n by omega]
        simp [List.take_add_one, this]
      refine wpAny_mono (turn (a + (i : Int)) t nw I oI C oC D m₂ ys h tk E' (by omega) (by omega) hC hx F N off ne hs) (fun y s₂ hq => ?_) fun _ _ e => e
      obtain ⟨h', tk', nw', e, F', N', off', hS', hsub, hd⟩ := hq
      refine ⟨h', tk', nw', e, F', N', off', trivial, ?_⟩
      refine ih (i + 1) _ _ (by omega) ?_ hS'
      rw [hsn, List.map_append]
      exact DatAll.append (hy.mono hsub) (DatAll.one hd)
  exact key n 0 [] bs (by omega) (by simp only [List.take_zero, List.map_nil]; exact .nil) fun q h => h
end
theorem col_end {h₀ h' : Heap} {L I C D Dq : Addr} {m : PySem.Str → Option Value} {s₁ : Shared} {oI oC oD : Obj} {bs nw rest : List (Addr × Obj)} {a b c : Int} {ta tb tc : Tok} {tk : Nat} (F : Fr h₀ L h' m)
    (N : News h₀ L h' ((Dq, ({ cls := .type "tuple", data := .seq #[.int a ta, .int b tb, .int c tc] } : Obj)) :: rest)) (sub : ∀ p ∈ (I, oI) :: (C, oC) :: (D, oD) :: nw, p ∈ rest) (off : LCg.Off3 I C D nw) (ne : Dq ≠ I ∧ Dq ≠ C ∧ Dq ≠ D) (hS : ∀ q ∈ bs, q ∈ nw) :
    LCg.CompEnd h₀ L m s₁ I oI C oC D oD (fun nw => ∀ q ∈ bs, q ∈ nw) (fun y news' => DtEl nw (Dat.tuple [Dat.int a, Dat.int b, Dat.int c]) y news') (.ref Dq) { s₁ with heap := h', toks := tk } := by
  refine ⟨h', tk, (Dq, ({ cls := .type "tuple", data := .seq #[.int a ta, .int b tb, .int c tc] } : Obj)) :: nw, rfl, F, fun p hp => ?_, ⟨ne, off⟩, fun q h => .tail _ (hS q h), fun q h => .tail _ h, DatIn.tuple (vs := [.int a ta, .int b tb, .int c tc]) (n := 0) (.head _) (.cons (.int _ _) (.cons (.int _ _) (.cons (.int _ _) .nil)))⟩
  simp only [List.mem_cons] at hp
  rcases hp with h | h | h | h | h
  · exact N _ (.tail _ (sub _ (by simp [h])))
  · exact N _ (.tail _ (sub _ (by simp [h])))
  · exact N _ (.tail _ (sub _ (by simp [h])))
  · rw [h]; exact N _ (.head _)
  · exact N _ (.tail _ (sub _ (by simp [h])))
noncomputable def colD (l0 l1 : List Nat) (t : Int) : Dat := Dat.tuple [Dat.int t, Dat.int (col t l0), Dat.int (col t l1)]
section
variable {w : World} {mean : ExcName → Option Value} {mg mb : PySem.Str → Option Value}
theorem law_columns (Dl : Addr) (l0 l1 : List Nat) (u0 u1 : Tok) (nl : Nat) (hl0 : l0.length ≤ 1000) (hl1 : l1.length ≤ 1000) (M : Nat) (hM : M ≤ 1000) (tm : Tok) (mm : PySem.Str → Option Value) (hlo : mm (PySem.Str.ofString "longest") = some (.int (M : Int) tm)) (o1 o2 : Obj) (news : List (Addr × Obj)) (fa : Addr) (cd : Value) (dp un : Nat) (gd : Option (List Code)) (A₀ : Around) (base h₀ : Heap) (s : Shared) (Q : Flow → Shared → Prop)
    (B : Below A₀ base [] h₀) (F : Fr h₀ h₀.objs.size s.heap mm) (c2 : o2.data = .cell (some (.ref Dl)))
    (X : (K w.params).In h₀) (N : News h₀ h₀.objs.size s.heap ((Dl, W.listOf #[.str (tx l0) u0, .str (tx l1) u1] nl) :: (h₀.objs.size + 1 + 1, o2) :: (h₀.objs.size + 1, o1) :: news)) (T : Top q (looseW q loose) mean mg mb h₀) (hd : dp + 20 < recursionLimit) (hu : un + 2000 < cLine)
    (hret : ∀ (D : Addr) (ys : List Value) (nw : List (Addr × Obj)) (h' : Heap) (tk' : Nat), DatAll nw ys ((rangeKs 1 (M + 1)).map (colD l0 l1)) → (∀ q ∈ (Dl, W.listOf #[.str (tx l0) u0, .str (tx l1) u1] nl) :: (h₀.objs.size + 1 + 1, o2) :: (h₀.objs.size + 1, o1) :: news, q ∈ nw) → Fr h₀ h₀.objs.size h' (fun y => if y = PySem.Str.ofString "columns" then some (.ref D) else mm y) → News h₀ h₀.objs.size h' ((D, W.listOf (List.toArray ys) ys.length) :: nw) → Q .next { s with heap := h', toks := tk' }) :
    wpAny (model pr w) (ktrTop dp un gd (PySem.Str.ofString "law") (fScope (st 18)) h₀.objs.size fa cd (cellsFrom (h₀.objs.size + 1) (fScope (st 18)).names []) []) (exec (lawS 20) (envOfC (PySem.Str.ofString "law") (fScope (st 18)) h₀.objs.size fa cd)) Q (fun _ _ => False) s := by
  k_with_none
  k_with "CompSrc" => refine hold ?_
  k_with "exec Assign cons ListComp" => refine hold ?_
  k_with "call ref" => (k_here; (with_reducible show wpAny _ _ (call (Value.ref 211) _) _ _ _); k_dflt (refine' Spec.use (spec_column _ _ (by omega) _ _ (by omega)) (by k_asm) (by k_asm) (by k_asm) (by k_asm) (by k_asm) (by first | exact rfl | assumption) (by ktr_room) (by ktr_units) ?_); intro v9 h9 tk9 R9 F9 N9; obtain ⟨t9, R9⟩ := R9; subst R9; (try dsimp only))
  conv in (lawS 20) => whnf
  have F0 := fr_eq (over1 hlo).symm F
  clear F
  k_steps
  unfold Hold
  k_dflt (refine LCg.Assign_ListComp_U (F₀ := by k_asm) (by rfl) (by with_unfolding_all rfl) (by with_unfolding_all rfl) (by decide) (by rfl) (by decide) (by rfl) (by rfl) (by rfl) ?_)
  k_steps
  unfold Hold
  (rename Fr _ _ _ _ => F9'); (rename News _ _ _ _ => N9')
  k_dflt (refine LCg.CompSrc.range (n := M + 1) (by rfl) F9' N9' (by assumption) (by first | exact small_one (by omega) (by omega) (by omega) (by omega)) (by rw [rangeSize_nat]; omega) (by (rw [PySem.sizeLine_eq]; omega)) ?_)
  intro g'
  refine dt_range _ (colD l0 l1) (fun k' t' nw I' oI' C' oC' D' m' ys' h' tk' E' hlo' hhi' hC' hx' F' N' off' ne' hS => ?_) ?_
  · have N8 := news_sub ((I', oI') :: (C', oC') :: (D', LCg.lst ys') :: (Dl, W.listOf #[.str (tx l0) u0, .str (tx l1) u1] nl) :: (h₀.objs.size + 1 + 1, o2) :: (h₀.objs.size + 1, o1) :: nw) N' (fun p hp => by
      simp only [List.mem_cons] at hp ⊢
      rcases hp with h | h | h | h | h | h | h
      · exact .inl h
      · exact .inr (.inl h)
      · exact .inr (.inr (.inl h))
      · exact .inr (.inr (.inr (hS _ (by simp [h]))))
      · exact .inr (.inr (.inr (hS _ (by simp [h]))))
      · exact .inr (.inr (.inr (hS _ (by simp [h]))))
      · exact .inr (.inr (.inr h)))
    clear N'
    k_steps
    (try (walk_at "call ref"; k_steps))
    rename_i Dq hq Fq Nq lq
    exact col_end Fq Nq (by kcj_all) off' ⟨Nat.ne_of_gt lq.1, Nat.ne_of_gt lq.2.1, Nat.ne_of_gt lq.2.2.1⟩ hS
  · intro ys nw hp hs
    k_steps
    rename_i Dz hz tkz Fz Nz oz
    exact hret Dz ys nw _ _ hp hs (fr_eq (over_in hlo) Fz) Nz
end
end Hd
end
end
section
open PySem PySem.W PySem.Calls PyProof.Rows
set_option maxRecDepth 100000
set_option maxHeartbeats 4000000
noncomputable section
namespace Hd
theorem filledRr : rw' = PySem.Challenge.rw_tr0065_03 ∧ K = K := by
  k_fill
  w_top off
  exact ⟨rfl, rfl⟩
section
variable {w : World} {mean : ExcName → Option Value} {mg mb : PySem.Str → Option Value}
theorem law_row21 (raw1 : PySem.Str) (ks1 : List Int) (b1 n1 nt1 : Nat) (x1 d1 D1 E1 : Addr) (vs1 : List Value) (sm1 : Bool) (ta1 tc1 td1 te1 tf1 tg1 tb1 tn1 tt1 : Tok) (raw2 : PySem.Str) (ks2 : List Int) (b2 n2 nt2 : Nat) (x2 d2 D2 E2 : Addr) (vs2 : List Value) (sm2 : Bool) (ta2 tc2 td2 te2 tf2 tg2 tb2 tn2 tt2 : Tok) (hi1 : IntsAre vs1 ks1) (hks1 : ∀ i, 0 ≤ ks1.getD i 0 ∧ ks1.getD i 0 ≤ 100000) (hkl1 : ks1.length ≤ 100) (hbl1 : b1 ≤ 100) (hntl1 : nt1 ≤ 100) (hi2 : IntsAre vs2 ks2) (hks2 : ∀ i, 0 ≤ ks2.getD i 0 ∧ ks2.getD i 0 ≤ 100000) (hkl2 : ks2.length ≤ 100) (hbl2 : b2 ≤ 100) (hntl2 : nt2 ≤ 100) (Dc : Addr) (cys : List Value) (cn : Nat) (ds : List Dat) (hok : ∀ d ∈ ds, kqdOk 7 d = true) (lg : Bool) (hfact : neD ks1 b1 nt1 ks2 b2 nt2 (rangeKs 1 ((if lngV ks1 b1 < lngV ks2 b2 then lngV ks2 b2 else lngV ks1 b1) + 1).toNat) = if lg then ds else []) (mm : PySem.Str → Option Value) (hunr : mm (PySem.Str.ofString "unread") = some (.ref x1)) (hone : mm (PySem.Str.ofString "one") = some (.ref x2)) (hlo : mm (PySem.Str.ofString "longer") = some (.bool lg)) (hco : mm (PySem.Str.ofString "columns") = some (.ref Dc)) (o1 o2 : Obj) (news : List (Addr × Obj)) (fa : Addr) (cd : Value) (dp un : Nat) (gd : Option (List Code)) (A₀ : Around) (base h₀ : Heap) (s : Shared) (Q : Flow → Shared → Prop)
    (B : Below A₀ base [] h₀) (F : Fr h₀ h₀.objs.size s.heap mm) (hdat : DatAll news cys ds)
    (X : (K w.params).In h₀) (N : News h₀ h₀.objs.size s.heap ((E1, ({ cls := .type "tuple", data := .seq #[.ref D1, .int b1 tb1] } : Obj)) :: (D1, ({ cls := .type "tuple", data := .seq vs1.toArray } : Obj)) :: (x1, instObj 179 d1) :: (d1, wsDict w.params raw1 E1 n1 nt1 sm1 ta1 tc1 td1 te1 tf1 tg1 tn1 tt1) :: (E2, ({ cls := .type "tuple", data := .seq #[.ref D2, .int b2 tb2] } : Obj)) :: (D2, ({ cls := .type "tuple", data := .seq vs2.toArray } : Obj)) :: (x2, instObj 179 d2) :: (d2, wsDict w.params raw2 E2 n2 nt2 sm2 ta2 tc2 td2 te2 tf2 tg2 tn2 tt2) :: (Dc, W.listOf (List.toArray cys) cn) :: news)) (T : Top q (looseW q loose) mean mg mb h₀) (hd : dp + 20 < recursionLimit) (hu : un + 2000 < cLine)
    (hret : ∀ (h' : Heap) (tk' : Nat), Fr h₀ h₀.objs.size h' mm → News h₀ h₀.objs.size h' ((E1, ({ cls := .type "tuple", data := .seq #[.ref D1, .int b1 tb1] } : Obj)) :: (D1, ({ cls := .type "tuple", data := .seq vs1.toArray } : Obj)) :: (x1, instObj 179 d1) :: (d1, wsDict w.params raw1 E1 n1 nt1 sm1 ta1 tc1 td1 te1 tf1 tg1 tn1 tt1) :: (E2, ({ cls := .type "tuple", data := .seq #[.ref D2, .int b2 tb2] } : Obj)) :: (D2, ({ cls := .type "tuple", data := .seq vs2.toArray } : Obj)) :: (x2, instObj 179 d2) :: (d2, wsDict w.params raw2 E2 n2 nt2 sm2 ta2 tc2 td2 te2 tf2 tg2 tn2 tt2) :: (Dc, W.listOf (List.toArray cys) cn) :: news) → Q .next { s with heap := h', toks := tk' }) :
    wpAny (model pr w) (ktrTop dp un gd (PySem.Str.ofString "law") (fScope (st 18)) h₀.objs.size fa cd (cellsFrom (h₀.objs.size + 1) (fScope (st 18)).names []) []) (exec (lawS 21) (envOfC (PySem.Str.ofString "law") (fScope (st 18)) h₀.objs.size fa cd)) Q (fun _ _ => False) s := by
  k_with_none
  k_with "call ref" => (k_here; (with_reducible show wpAny _ _ (call (Value.ref 162) _) _ _ _); refine hold ?_)
  k_with "compareOp NotEq ref ref" => refine hold ?_
  conv in (lawS 21) => whnf
  have F0 := fr_eq (over4 hunr hone hlo hco).symm F
  clear F
  k_steps
  unfold Hold
  (rename Fr _ _ _ _ => F9'); (rename News _ _ _ _ => N9')
  have N8' := news_sub ((E1, ({ cls := .type "tuple", data := .seq #[.ref D1, .int b1 tb1] } : Obj)) :: (D1, ({ cls := .type "tuple", data := .seq vs1.toArray } : Obj)) :: (x1, instObj 179 d1) :: (d1, wsDict w.params raw1 E1 n1 nt1 sm1 ta1 tc1 td1 te1 tf1 tg1 tn1 tt1) :: (E2, ({ cls := .type "tuple", data := .seq #[.ref D2, .int b2 tb2] } : Obj)) :: (D2, ({ cls := .type "tuple", data := .seq vs2.toArray } : Obj)) :: (x2, instObj 179 d2) :: (d2, wsDict w.params raw2 E2 n2 nt2 sm2 ta2 tc2 td2 te2 tf2 tg2 tn2 tt2) :: (Dc, W.listOf (List.toArray cys) cn) :: news) N9' (by kcj_all)
  refine spec_new raw1 ks1 b1 n1 nt1 x1 d1 D1 E1 vs1 sm1 ta1 tc1 td1 te1 tf1 tg1 tb1 tn1 tt1 raw2 ks2 b2 n2 nt2 x2 d2 D2 E2 vs2 sm2 ta2 tc2 td2 te2 tf2 tg2 tb2 tn2 tt2 hi1 hks1 hkl1 hbl1 hntl1 hi2 hks2 hkl2 hbl2 hntl2 _ _ _ _ _ _ _ _ _ _ _ _ _ _ _ _ _ _ (by assumption) F9' (by assumption) N8' (by assumption) (by first | exact rfl | assumption) (by ktr_room) (by ktr_units) ?_
  intro Dw us un' wt h9 tk9 hd9 F8 Nw No
  rw [hfact] at hd9
  have N8 : News h₀ h₀.objs.size h9 ((Dw, W.listOf (List.toArray us) un') :: (E1, ({ cls := .type "tuple", data := .seq #[.ref D1, .int b1 tb1] } : Obj)) :: (D1, ({ cls := .type "tuple", data := .seq vs1.toArray } : Obj)) :: (x1, instObj 179 d1) :: (d1, wsDict w.params raw1 E1 n1 nt1 sm1 ta1 tc1 td1 te1 tf1 tg1 tn1 tt1) :: (E2, ({ cls := .type "tuple", data := .seq #[.ref D2, .int b2 tb2] } : Obj)) :: (D2, ({ cls := .type "tuple", data := .seq vs2.toArray } : Obj)) :: (x2, instObj 179 d2) :: (d2, wsDict w.params raw2 E2 n2 nt2 sm2 ta2 tc2 td2 te2 tf2 tg2 tn2 tt2) :: (Dc, W.listOf (List.toArray cys) cn) :: (news ++ wt)) := by
    intro p hp
    rcases List.mem_cons.mp hp with rfl | hp
    · exact Nw _ (.head _)
    · simp only [List.mem_cons, List.mem_append] at hp
      rcases hp with hp | hp | hp | hp | hp | hp | hp | hp | hp | hp | hp
      · exact No p (by simp [hp])
      · exact No p (by simp [hp])
      · exact No p (by simp [hp])
      · exact No p (by simp [hp])
      · exact No p (by simp [hp])
      · exact No p (by simp [hp])
      · exact No p (by simp [hp])
      · exact No p (by simp [hp])
      · exact No p (by simp [hp])
      · exact No p (by simp [hp])
      · exact Nw p (.tail _ hp)
  clear F9' N9' N8' Nw No
  cases lg
  · k_steps
    unfold Hold
    (rename Fr _ _ _ _ => F9'); (rename News _ _ _ _ => N9')
    refine dat_ne N9' (d := Dat.list []) (e := Dat.list []) (DatIn.list (vs := us) (n := un') (by k_mem) (hd9.mono ?_)) (DatIn.list (vs := []) (n := _) (by k_mem) .nil) ?_ ?_ ?_ ?_
    · kcj_all
    · rfl
    · rfl
    · ktr_units
    · rw [dat_self]
      k_steps
      (rename Fr _ _ _ _ => F7'); (rename News _ _ _ _ => N7')
      exact hret _ _ (fr_eq (over4 hunr hone hlo hco) F7') (news_sub _ N7' (by kcj_all))
  · k_steps
    unfold Hold
    (rename Fr _ _ _ _ => F9'); (rename News _ _ _ _ => N9')
    refine dat_ne N9' (d := Dat.list ds) (e := Dat.list ds) (DatIn.list (vs := us) (n := un') (by k_mem) (hd9.mono ?_)) (DatIn.list (vs := cys) (n := _) (by k_mem) (hdat.mono ?_)) ?_ ?_ ?_ ?_
    · kcj_all
    · kcj_all
    · simpa [kqdOk] using hok
    · simpa [kqdOk] using hok
    · ktr_units
    · rw [dat_self]
      k_steps
      (rename Fr _ _ _ _ => F7'); (rename News _ _ _ _ => N7')
      exact hret _ _ (fr_eq (over4 hunr hone hlo hco) F7') (news_sub _ N7' (by kcj_all))
end
end Hd
end
end
section
open PySem PySem.W PySem.Calls PyProof.Rows
set_option maxRecDepth 100000
set_option maxHeartbeats 4000000
noncomputable section
namespace Hd
noncomputable def ilR (T : Int) : Nat → List Int → Int
  | _, [] => 0
  | j, k :: r => (j : Int).fdiv T * k + ilR T (j + 1) r
theorem ilR_app (T : Int) : ∀ (a b : List Int) (j : Nat), ilR T j (a ++ b) = ilR T j a + ilR T (j + a.length) b
  | [], b, j => by simp [ilR]
  | k :: a, b, j => by
    show (j : Int).fdiv T * k + ilR T (j + 1) (a ++ b) = ((j : Int).fdiv T * k + ilR T (j + 1) a) + ilR T (j + (k :: a).length) b
    rw [ilR_app T a b (j + 1), List.length_cons, show j + (a.length + 1) = j + 1 + a.length by omega]
    omega
theorem ilR_zeros (T : Int) : ∀ (n j : Nat), ilR T j (List.replicate n 0) = 0
  | 0, j => rfl
  | n + 1, j => by
    rw [List.replicate_succ]; unfold ilR
    rw [ilR_zeros T n (j + 1), Int.mul_zero]; rfl
theorem ilR_set (T : Int) : ∀ (a : List Int) (k j : Nat), k < a.length → ilR T j (a.set k (a.getD k 0 + 1)) = ilR T j a + ((j + k : Nat) : Int).fdiv T
  | [], k, j, h => by simp at h
  | x :: a, 0, j, h => by
    show (j : Int).fdiv T * (x + 1) + ilR T (j + 1) a = (j : Int).fdiv T * x + ilR T (j + 1) a + ((j + 0 : Nat) : Int).fdiv T
    rw [Int.mul_add, Int.mul_one, show ((j + 0 : Nat) : Int) = (j : Int) from rfl]; omega
  | x :: a, k + 1, j, h => by
    show (j : Int).fdiv T * x + ilR T (j + 1) (a.set k (a.getD k 0 + 1)) = (j : Int).fdiv T * x + ilR T (j + 1) a + ((j + (k + 1) : Nat) : Int).fdiv T
    rw [ilR_set T a k (j + 1) (by simpa using h), show j + 1 + k = j + (k + 1) by omega]; omega
theorem ilR_small {T : Int} : ∀ (a : List Int) (j : Nat), ((j + a.length : Nat) : Int) ≤ T → ilR T j a = 0
  | [], j, _ => rfl
  | x :: a, j, h => by
    rw [List.length_cons] at h
    unfold ilR
    rw [ilR_small a (j + 1) (by omega), Int.fdiv_eq_zero_of_lt (by omega) (by omega), Int.zero_mul]; rfl
theorem ilOf_from (ks : List Int) (T : Int) : ∀ (n j : Nat), j + n = ks.length → ilOf ks T (rangeKs (j : Int) n) = ilR T j (ks.drop j)
  | 0, j, h => by
    rw [List.drop_eq_nil_of_le (by omega)]; rfl
  | n + 1, j, h => by
    have hr : rangeKs (j : Int) (n + 1) = (j : Int) :: rangeKs ((j + 1 : Nat) : Int) n := by
      unfold rangeKs
      rw [List.range_succ_eq_map, List.map_cons, List.map_map]
      congr 1
      · apply List.map_congr_left
        intro i _
        show (j : Int) + ((i + 1 : Nat) : Int) = ((j + 1 : Nat) : Int) + (i : Int)
        omega
    have hd : ks.drop j = ks.getD j 0 :: ks.drop (j + 1) := by
      rw [List.drop_eq_getElem_cons (by omega), List.getD_eq_getElem?_getD, List.getElem?_eq_getElem (by omega)]; rfl
    have ih := ilOf_from ks T n (j + 1) (by omega)
    rw [hr, hd]
    unfold ilR
    rw [← ih]
    unfold ilOf
    rw [List.map_cons, List.sum_cons]; rfl
theorem ilOf_all (ks : List Int) {T : Int} (hT : 1 ≤ T) : ilOf ks T (rangeKs T (ks.length - T).toNat) = ilR T 0 ks := by
  by_cases h : T ≤ ks.length
  · have e : T = ((T.toNat : Nat) : Int) := by omega
    have h1 := ilOf_from ks T (ks.length - T).toNat T.toNat (by omega)
    rw [← e] at h1
    rw [h1]
    conv => rhs; rw [← List.take_append_drop T.toNat ks]
    have hl : (ks.take T.toNat).length = T.toNat := by rw [List.length_take]; omega
    rw [ilR_app, ilR_small _ 0 (by rw [hl]; omega), hl, Nat.zero_add, Int.zero_add]
  · have e : (ks.length - T).toNat = 0 := by omega
    rw [e, ilR_small ks 0 (by omega)]; rfl
theorem ilR_bump (T : Int) (ks : List Int) (b : Nat) : ilR T 0 (bump ks b) = ilR T 0 ks + (b : Int).fdiv T := by
  unfold bump
  rw [ilR_set T _ b 0 (by rw [List.length_append, List.length_replicate]; omega), ilR_app, ilR_zeros, Nat.zero_add, Int.add_zero]
noncomputable def lvR (T : Int) (σ : WSt) : Int := σ.b + T * (ilR T 0 σ.ks + σ.nt)
theorem lvl_R {T : Int} (hT : 1 ≤ T) (σ : WSt) : lvlV σ.ks σ.b σ.nt T = lvR T σ := by
  unfold lvlV lvR
  rw [ilOf_all _ hT]
theorem lvR_step {T : Int} (hT : 1 ≤ T) (σ : WSt) {c : Nat} (hc : c = 32 ∨ c = 9) : lvR T (wsStep σ c) = colS T (lvR T σ) c := by
  rcases hc with rfl | rfl
  · show ((σ.b + 1 : Nat) : Int) + T * (ilR T 0 σ.ks + σ.nt) = lvR T σ + 1
    unfold lvR; omega
  · show ((0 : Nat) : Int) + T * (ilR T 0 (bump σ.ks σ.b) + ((σ.nt + 1 : Nat) : Int)) = lvR T σ + (T - (lvR T σ).fmod T)
    rw [ilR_bump]
    have hm : (lvR T σ).fmod T = (σ.b : Int).fmod T := by unfold lvR; exact Int.add_mul_fmod_self_left _ _ _
    have hd := Int.mul_fdiv_add_fmod (σ.b : Int) T
    rw [hm]
    unfold lvR
    rw [Int.natCast_add, Int.mul_add, Int.mul_add, Int.mul_add, Int.mul_add]
    simp only [Int.natCast_one, Int.mul_one, Int.natCast_zero]
    omega
theorem lvl_col {T : Int} (hT : 1 ≤ T) (l : List Nat) (hl : ∀ c ∈ l, c = 32 ∨ c = 9) : lvlV (wsRun l).ks (wsRun l).b (wsRun l).nt T = col T l := by
  rw [lvl_R hT]
  have key : ∀ (l : List Nat) (σ : WSt), (∀ c ∈ l, c = 32 ∨ c = 9) → lvR T (l.foldl wsStep σ) = l.foldl (colS T) (lvR T σ) := by
    intro l
    induction l with
    | nil => intro σ _; rfl
    | cons c l ih =>
      intro σ h
      rw [List.foldl_cons, List.foldl_cons, ih _ (fun d hd => h d (.tail _ hd)), lvR_step hT σ (h c (.head _))]
  have := key l ⟨[], 0, 0, 0⟩ hl
  have e0 : lvR T ⟨[], 0, 0, 0⟩ = 0 := by simp [lvR, ilR]
  rw [e0] at this
  exact this
theorem col_more {T : Int} (hT : 1 ≤ T) (l m : List Nat) : col T l + (m.length : Int) ≤ col T (l ++ m) := by
  have key : ∀ (m : List Nat) (a : Int), 0 ≤ a → a + (m.length : Int) ≤ m.foldl (colS T) a := by
    intro m
    induction m with
    | nil => intro a _; show a + 0 ≤ a; omega
    | cons c m ih =>
      intro a ha
      have h := colS_bd (c := c) hT ha
      have := ih (colS T a c) (by omega)
      rw [List.foldl_cons, List.length_cons]
      omega
  have := key m (col T l) (col_bd hT l).1
  show _ ≤ (l ++ m).foldl (colS T) 0
  rw [List.foldl_append]
  exact this
theorem zeros_sum : ∀ n : Nat, (List.replicate n (0 : Int)).sum = 0
  | 0 => rfl
  | n + 1 => by rw [List.replicate_succ, List.sum_cons, zeros_sum n]; rfl
theorem bump_sum (ks : List Int) (b : Nat) (h : ∀ x ∈ ks, 0 ≤ x) : (bump ks b).sum = ks.sum + 1 ∧ ∀ x ∈ bump ks b, 0 ≤ x := by
  have key : ∀ (a : List Int) (k : Nat), k < a.length → (∀ x ∈ a, 0 ≤ x) → (a.set k (a.getD k 0 + 1)).sum = a.sum + 1 ∧ ∀ x ∈ a.set k (a.getD k 0 + 1), 0 ≤ x := by
    intro a
    induction a with
    | nil => intro k hk; simp at hk
    | cons y a ih =>
      intro k hk ha
      cases k with
      | zero =>
        refine ⟨?_, ?_⟩
        · show ((y + 1) :: a).sum = _
          rw [List.sum_cons, List.sum_cons]; omega
        · intro x hx
          rcases List.mem_cons.mp hx with rfl | hx
          · have := ha y (.head _); show 0 ≤ y + 1; omega
          · exact ha x (.tail _ hx)
      | succ k =>
        have := ih k (by simpa using hk) (fun x hx => ha x (.tail _ hx))
        refine ⟨?_, ?_⟩
        · show (y :: a.set k (a.getD k 0 + 1)).sum = _
          rw [List.sum_cons, List.sum_cons, this.1]; omega
        · intro x hx
          rcases List.mem_cons.mp hx with rfl | hx
          · exact ha x (.head _)
          · exact this.2 x hx
  have hp : ∀ x ∈ ks ++ List.replicate (b + 1 - ks.length) 0, 0 ≤ x := by
    intro x hx
    rcases List.mem_append.mp hx with hx | hx
    · exact h x hx
    · rw [(List.mem_replicate.mp hx).2]; exact Int.le_refl _
  have := key _ b (by rw [List.length_append, List.length_replicate]; omega) hp
  unfold bump
  refine ⟨?_, this.2⟩
  rw [this.1, List.sum_append, zeros_sum]
  omega
theorem run_sum (l : List Nat) : ((wsRun l).nt : Int) = (wsRun l).ks.sum ∧ (∀ x ∈ (wsRun l).ks, 0 ≤ x) := by
  have key : ∀ (l : List Nat) (σ : WSt), (σ.nt : Int) = σ.ks.sum → (∀ x ∈ σ.ks, 0 ≤ x) → ((l.foldl wsStep σ).nt : Int) = (l.foldl wsStep σ).ks.sum ∧ ∀ x ∈ (l.foldl wsStep σ).ks, 0 ≤ x := by
    intro l
    induction l with
    | nil => intro σ h1 h2; exact ⟨h1, h2⟩
    | cons c l ih =>
      intro σ h1 h2
      rw [List.foldl_cons]
      apply ih
      · unfold wsStep
        split
        · show ((σ.nt + 1 : Nat) : Int) = (bump σ.ks σ.b).sum
          rw [(bump_sum _ _ h2).1, ← h1]; rfl
        · exact h1
      · unfold wsStep
        split
        · exact (bump_sum _ _ h2).2
        · exact h2
  exact key l ⟨[], 0, 0, 0⟩ rfl (fun x hx => by cases hx)
theorem getD_sum : ∀ (a : List Int) (i : Nat), (∀ x ∈ a, 0 ≤ x) → 0 ≤ a.getD i 0 ∧ a.getD i 0 ≤ a.sum
  | [], i, _ => by simp
  | x :: a, 0, h => by
    have h0 := h x (.head _)
    have := getD_sum a 0 (fun y hy => h y (.tail _ hy))
    have h2 : (0 : Int) ≤ a.sum := by omega
    show 0 ≤ x ∧ x ≤ (x :: a).sum
    rw [List.sum_cons]; omega
  | x :: a, i + 1, h => by
    have h0 := h x (.head _)
    have := getD_sum a i (fun y hy => h y (.tail _ hy))
    show 0 ≤ a.getD i 0 ∧ a.getD i 0 ≤ (x :: a).sum
    rw [List.sum_cons]; omega
theorem run_ent (l : List Nat) (hl : l.length ≤ 100) : (∀ i, 0 ≤ (wsRun l).ks.getD i 0 ∧ (wsRun l).ks.getD i 0 ≤ 100000) ∧ (wsRun l).ks.length ≤ 100 ∧ (wsRun l).b ≤ 100 ∧ (wsRun l).nt ≤ 100 := by
  obtain ⟨h1, h2, h3, h4⟩ := wsRun_bd l
  obtain ⟨h5, h6⟩ := run_sum l
  refine ⟨fun i => ?_, by omega, by omega, by omega⟩
  have := getD_sum _ i h6
  omega
theorem run_nt (l : List Nat) : (wsRun l).nt = (l.filter fun d => decide (d = 9)).length := by
  have key : ∀ (l : List Nat) (σ : WSt), (l.foldl wsStep σ).nt = σ.nt + (l.filter fun d => decide (d = 9)).length := by
    intro l
    induction l with
    | nil => intro σ; rfl
    | cons c l ih =>
      intro σ
      rw [List.foldl_cons, ih]
      unfold wsStep
      by_cases h : c = 9
      · rw [if_pos h, List.filter_cons_of_pos (by simp [h]), List.length_cons]; show σ.nt + 1 + _ = _; omega
      · rw [if_neg h, List.filter_cons_of_neg (by simp [h])]
  have := key l ⟨[], 0, 0, 0⟩
  rw [Nat.zero_add] at this
  exact this
theorem tabs_tx (l : List Nat) : Txt.count (tx l) (PySem.Str.ofString "\t") = ((wsRun l).nt : Int) := by
  rw [tab_tx, run_nt]
  have h := count_is (tx l) 9
  rw [show tx [9] = (⟨#[9]⟩ : PySem.Str) from rfl, h, show (tx l).cps.toList = l by simp [tx]]
  induction l with
  | nil => rfl
  | cons a r ih =>
    rw [List.map_cons]
    show (if PySem.Spec.same (PyData.str ⟨#[a]⟩) (PyData.str ⟨#[9]⟩) = true then (1 : Int) else 0) + _ = _
    rw [ih (count_is (tx r) 9), PyProof.V.same_str]
    by_cases e : a = 9
    · subst e; simp; omega
    · have : ¬ ((⟨#[a]⟩ : PySem.Str) = ⟨#[9]⟩) := fun h => e (List.cons.inj (tx_inj.mp (show tx [a] = tx [9] from h))).1
      simp [e, this]
end Hd
end
end
section
open PySem PySem.W PySem.Calls PyProof.Rows
set_option maxRecDepth 100000
set_option maxHeartbeats 4000000
noncomputable section
namespace Hd
noncomputable def glu9 : List (List Nat) → List Nat
  | [] => []
  | [p] => p
  | p :: q :: r => p ++ 9 :: glu9 (q :: r)
theorem join_glu9 : ∀ l : List (List Nat), PySem.Str.join (tx [9]) (l.map tx) = tx (glu9 l)
  | [] => by rfl
  | [x] => by rfl
  | x :: y :: r => by
    have e : PySem.Str.join (tx [9]) ((x :: y :: r).map tx) = tx x ++ tx [9] ++ PySem.Str.join (tx [9]) ((y :: r).map tx) := rfl
    rw [e, join_glu9 (y :: r), tx_app, tx_app]
    show tx _ = tx (x ++ 9 :: glu9 (y :: r))
    simp
theorem pcs9_glue (l : List Nat) : glu9 (pcs9 l) = l := by
  have h := StrLaws.join_split (tx l) (tx [9])
  rw [← tab_tx, ← pcs9_tx, tab_tx, join_glu9] at h
  exact tx_inj.mp h
theorem pcs9_free (l : List Nat) : ∀ p ∈ pcs9 l, 9 ∉ p := by
  intro p hp
  unfold pcs9 at hp
  rw [tab_tx] at hp
  obtain ⟨s, hs, rfl⟩ := List.mem_map.mp hp
  exact StrLaws.split_free (tx l) 9 s hs
theorem run_free : ∀ (p : List Nat) (σ : WSt), 9 ∉ p → (p.foldl wsStep σ).ks = σ.ks ∧ (p.foldl wsStep σ).b = σ.b + p.length
  | [], σ, _ => ⟨rfl, rfl⟩
  | c :: p, σ, h => by
    have hc : c ≠ 9 := fun e => h (by simp [e])
    have ih := run_free p (wsStep σ c) (fun hm => h (.tail _ hm))
    rw [List.foldl_cons, List.length_cons, ih.1, ih.2]
    unfold wsStep
    rw [if_neg hc]
    exact ⟨rfl, by show σ.b + 1 + p.length = _; omega⟩
theorem lng_key : ∀ (ps : List (List Nat)) (p : List Nat) (σ : WSt), (∀ x ∈ p :: ps, 9 ∉ x) →
    ((σ.ks.length : Int) - 1 ≤ lngV ((glu9 (p :: ps)).foldl wsStep σ).ks ((glu9 (p :: ps)).foldl wsStep σ).b ∧ (∀ a ∈ ((σ.b : Int) + p.length) :: lensP ps, a ≤ lngV ((glu9 (p :: ps)).foldl wsStep σ).ks ((glu9 (p :: ps)).foldl wsStep σ).b)) ∧
    (lngV ((glu9 (p :: ps)).foldl wsStep σ).ks ((glu9 (p :: ps)).foldl wsStep σ).b = (σ.ks.length : Int) - 1 ∨ lngV ((glu9 (p :: ps)).foldl wsStep σ).ks ((glu9 (p :: ps)).foldl wsStep σ).b ∈ ((σ.b : Int) + p.length) :: lensP ps)
  | [], p, σ, h => by
    obtain ⟨h1, h2⟩ := run_free p σ (h p (.head _))
    show ((σ.ks.length : Int) - 1 ≤ lngV (p.foldl wsStep σ).ks (p.foldl wsStep σ).b ∧ _) ∧ _
    show (_ ∧ (∀ a ∈ [((σ.b : Int) + p.length)], a ≤ lngV (p.foldl wsStep σ).ks (p.foldl wsStep σ).b)) ∧ (lngV (p.foldl wsStep σ).ks (p.foldl wsStep σ).b = (σ.ks.length : Int) - 1 ∨ lngV (p.foldl wsStep σ).ks (p.foldl wsStep σ).b ∈ [((σ.b : Int) + p.length)])
    rw [h1, h2]
    simp only [List.mem_singleton, forall_eq]
    unfold lngV
    push_cast
    split <;> omega
  | q :: ps, p, σ, h => by
    obtain ⟨h1, h2⟩ := run_free p σ (h p (.head _))
    have e : (glu9 (p :: q :: ps)).foldl wsStep σ = (glu9 (q :: ps)).foldl wsStep (wsStep (p.foldl wsStep σ) 9) := by
      show (p ++ 9 :: glu9 (q :: ps)).foldl wsStep σ = _
      rw [List.foldl_append, List.foldl_cons]
    have ih := lng_key ps q (wsStep (p.foldl wsStep σ) 9) (fun x hx => h x (.tail _ hx))
    rw [e]
    generalize lngV ((glu9 (q :: ps)).foldl wsStep (wsStep (p.foldl wsStep σ) 9)).ks ((glu9 (q :: ps)).foldl wsStep (wsStep (p.foldl wsStep σ) 9)).b = V at ih ⊢
    have hk : (wsStep (p.foldl wsStep σ) 9).ks.length = max σ.ks.length (σ.b + p.length + 1) := by
      show (bump (p.foldl wsStep σ).ks (p.foldl wsStep σ).b).length = _
      rw [bump_len, h1, h2]
    have hb : (wsStep (p.foldl wsStep σ) 9).b = 0 := rfl
    rw [hk, hb] at ih
    obtain ⟨⟨i1, i2⟩, i3⟩ := ih
    have eq : (((0 : Nat) : Int) + (q.length : Int)) :: lensP ps = lensP (q :: ps) := by simp [lensP]
    rw [eq] at i2 i3
    refine ⟨⟨by omega, ?_⟩, ?_⟩
    · intro a ha
      rcases List.mem_cons.mp ha with rfl | ha
      · omega
      · exact i2 a ha
    · rcases i3 with i3 | i3
      · by_cases hc : σ.ks.length ≤ σ.b + p.length
        · right
          rw [show V = (σ.b : Int) + p.length by omega]
          exact .head _
        · left; omega
      · exact .inr (.tail _ i3)
theorem lng_fact (l : List Nat) : lngV (wsRun l).ks (wsRun l).b ∈ lensP (pcs9 l) ∧ ∀ a ∈ lensP (pcs9 l), a ≤ lngV (wsRun l).ks (wsRun l).b := by
  have hf := pcs9_free l
  have hg := pcs9_glue l
  have hp := pcs9_pos l
  cases hps : pcs9 l with
  | nil => rw [hps] at hp; simp at hp
  | cons p ps =>
    rw [hps] at hf hg
    have h := lng_key ps p ⟨[], 0, 0, 0⟩ hf
    rw [hg] at h
    have eq : (((0 : Nat) : Int) + (p.length : Int)) :: lensP ps = lensP (p :: ps) := by simp [lensP]
    have h' : ((-1 : Int) ≤ lngV (wsRun l).ks (wsRun l).b ∧ (∀ a ∈ lensP (p :: ps), a ≤ lngV (wsRun l).ks (wsRun l).b)) ∧ (lngV (wsRun l).ks (wsRun l).b = -1 ∨ lngV (wsRun l).ks (wsRun l).b ∈ lensP (p :: ps)) := by rw [← eq]; exact h
    refine ⟨?_, h'.1.2⟩
    rcases h'.2 with e | e
    · have := h'.1.2 (p.length : Int) (by simp [lensP])
      omega
    · exact e
theorem max_fact (l0 l1 : List Nat) (M : Int) (h1 : M ∈ lens2 pcs9 [l0, l1]) (h2 : ∀ a, a ∈ lens2 pcs9 [l0, l1] → a ≤ M) :
    M = (if lngV (wsRun l0).ks (wsRun l0).b < lngV (wsRun l1).ks (wsRun l1).b then lngV (wsRun l1).ks (wsRun l1).b else lngV (wsRun l0).ks (wsRun l0).b) := by
  obtain ⟨a1, a2⟩ := lng_fact l0
  obtain ⟨b1, b2⟩ := lng_fact l1
  have e : lens2 pcs9 [l0, l1] = lensP (pcs9 l0) ++ lensP (pcs9 l1) := by simp [lens2]
  rw [e] at h1 h2
  have c1 := h2 _ (List.mem_append_left _ a1)
  have c2 := h2 _ (List.mem_append_right _ b1)
  rcases List.mem_append.mp h1 with h | h
  · have := a2 _ h; split <;> omega
  · have := b2 _ h; split <;> omega
section
variable {l0 l1 m : List Nat} (hb : ∀ c ∈ l1, c = 32 ∨ c = 9) (h : l1 = l0 ++ m)
include hb h
theorem lead_lvl {T : Int} (hT : 1 ≤ T) : lvlV (wsRun l0).ks (wsRun l0).b (wsRun l0).nt T = col T l0 ∧ lvlV (wsRun l1).ks (wsRun l1).b (wsRun l1).nt T = col T l1 ∧ col T l0 + (m.length : Int) ≤ col T l1 :=
  ⟨lvl_col hT l0 (fun c hc => hb c (by rw [h]; exact List.mem_append_left _ hc)), lvl_col hT l1 hb, by rw [h]; exact col_more hT l0 m⟩
theorem lead_len : l1.length = l0.length + m.length := by rw [h, List.length_append]
theorem lead_hlt0 : ¬ (wsRun l0).n < (wsRun l1).n → decide (l0.length < l1.length) = false := by
  rw [(wsRun_bd l0).1, (wsRun_bd l1).1]
  intro h; exact decide_eq_false h
theorem lead_hlt1 : (wsRun l0).n < (wsRun l1).n → decide (l0.length < l1.length) = true ∧ (wsRun l0).nt ≤ (wsRun l1).nt ∧ ∀ T : Int, 2 ≤ T → T ≤ (if lngV (wsRun l0).ks (wsRun l0).b < lngV (wsRun l1).ks (wsRun l1).b then lngV (wsRun l1).ks (wsRun l1).b else lngV (wsRun l0).ks (wsRun l0).b) + 1 → lvlV (wsRun l0).ks (wsRun l0).b (wsRun l0).nt T < lvlV (wsRun l1).ks (wsRun l1).b (wsRun l1).nt T := by
  rw [(wsRun_bd l0).1, (wsRun_bd l1).1]
  intro hlt
  have hl := lead_len hb h
  refine ⟨decide_eq_true hlt, ?_, fun T h2 _ => ?_⟩
  · rw [run_nt, run_nt, h, List.filter_append, List.length_append]; omega
  · obtain ⟨e1, e2, e3⟩ := lead_lvl hb h (T := T) (by omega)
    rw [e1, e2]; omega
theorem lead_same (hn : ¬ l0.length < l1.length) : l0 = l1 := by
  have hl := lead_len hb h
  have : m = [] := List.eq_nil_of_length_eq_zero (by omega)
  rw [h, this, List.append_nil]
theorem lead_heq : decide ((wsRun l0).ks = (wsRun l1).ks ∧ (wsRun l0).b = (wsRun l1).b) = !(decide (l0.length < l1.length)) := by
  by_cases hlt : l0.length < l1.length
  · rw [decide_eq_true hlt]
    refine decide_eq_false fun hh => ?_
    obtain ⟨e1, e2, e3⟩ := lead_lvl hb h (T := 1) (by omega)
    have hl := lead_len hb h
    have n0 := (run_sum l0).1
    have n1 := (run_sum l1).1
    have hnt : (wsRun l0).nt = (wsRun l1).nt := by rw [hh.1] at n0; omega
    rw [hh.1, hh.2, hnt, e2] at e1
    omega
  · rw [decide_eq_false hlt, lead_same hb h hlt]
    simp
theorem lead_ne (k : Nat) : neD (wsRun l0).ks (wsRun l0).b (wsRun l0).nt (wsRun l1).ks (wsRun l1).b (wsRun l1).nt (rangeKs 1 k) = if decide (l0.length < l1.length) = true then (rangeKs 1 k).map (colD l0 l1) else [] := by
  unfold neD
  by_cases hlt : l0.length < l1.length
  · rw [decide_eq_true hlt, if_pos rfl]
    have hl := lead_len hb h
    have hall : (rangeKs 1 k).filter (fun T => decide (lvlV (wsRun l0).ks (wsRun l0).b (wsRun l0).nt T ≠ lvlV (wsRun l1).ks (wsRun l1).b (wsRun l1).nt T)) = rangeKs 1 k := by
      rw [List.filter_eq_self]
      intro T hT
      obtain ⟨e1, e2, e3⟩ := lead_lvl hb h (T := T) (mem_rangeKs hT).1
      rw [decide_eq_true_eq, e1, e2]; omega
    rw [hall]
    apply List.map_congr_left
    intro T hT
    obtain ⟨e1, e2, e3⟩ := lead_lvl hb h (T := T) (mem_rangeKs hT).1
    unfold colD
    rw [e1, e2]
  · rw [decide_eq_false hlt, if_neg (by simp), lead_same hb h hlt]
    simp
end
theorem colD_ok (l0 l1 : List Nat) (k : Nat) : ∀ d ∈ (rangeKs 1 k).map (colD l0 l1), kqdOk 7 d = true := by
  intro d hd
  obtain ⟨T, _, rfl⟩ := List.mem_map.mp hd
  simp [colD, kqdOk]
end Hd
end
end
section
open PySem PySem.W PySem.Calls PyProof.Rows
set_option maxRecDepth 100000
set_option maxHeartbeats 4000000
noncomputable section
namespace Hd
theorem sum_bd : ∀ (ks : List Int), (∀ x ∈ ks, 0 ≤ x ∧ x ≤ 1000000) → 0 ≤ ks.sum ∧ ks.sum ≤ 1000000 * ks.length
  | [], _ => by simp
  | x :: ks, h => by
    have h0 := h x (.head _)
    have := sum_bd ks (fun y hy => h y (.tail _ hy))
    rw [List.sum_cons, List.length_cons]
    push_cast
    omega
noncomputable def spL (p : Int) (c : Nat) (tl : List Nat) : List Nat := P257.take p.toNat ++ [c] ++ P257.drop p.toNat ++ tl
theorem m257 : (P257.all fun c => decide ((m3 c).length ≤ 4)) = true := by decide +kernel
theorem sp_prep (p : Int) (s : Int) (tl : List Nat) : prep (spL p (sgC (3 + 10 * s)) tl) = [50, 53, 55, 32, 34] ++ prep tl := by
  unfold spL
  rw [prep_app, prep_app, prep_app]
  rw [show prep [sgC (3 + 10 * s)] = [] from held_fold s, List.append_nil, ← prep_app, List.take_append_drop]
  rw [show prep P257 = P257 from prep257]; rfl
theorem sp_m3 (p : Int) (s : Int) (tl : List Nat) (h : ∀ c ∈ tl, c ∈ allC) : ∀ c ∈ spL p (sgC (3 + 10 * s)) tl, (m3 c).length ≤ 100 := by
  intro c hc
  have h4 : (m3 c).length ≤ 4 := by
    unfold spL at hc
    simp only [List.mem_append, List.mem_singleton] at hc
    rcases hc with ((hc | hc) | hc) | hc
    · exact of_decide_eq_true (List.all_eq_true.mp m257 c (List.mem_of_mem_take hc))
    · rw [hc]; exact (all_c (sg_in _)).1
    · exact of_decide_eq_true (List.all_eq_true.mp m257 c (List.mem_of_mem_drop hc))
    · exact (all_c (h c hc)).1
  omega
theorem sp_len (p : Int) (c : Nat) (tl : List Nat) : (spL p c tl).length = 6 + tl.length := by
  unfold spL
  have h := congrArg List.length (List.take_append_drop p.toNat P257)
  rw [List.length_append] at h
  simp only [List.length_append, List.length_singleton]
  have : P257.length = 5 := rfl
  omega
noncomputable def sp6 (p : Nat) (c : Nat) : List Nat := P257.take p ++ [c] ++ P257.drop p
theorem sp6_ne : (heldL.all fun c => (List.range 3).all fun p => decide ((sp6 p c).take 3 ≠ [50, 53, 55])) = true := by decide +kernel
theorem sp6_eq : (heldL.all fun c => [3, 4].all fun p => decide ((sp6 p c).take 3 = [50, 53, 55] ∧ ((sp6 p c).drop 3).take 2 ≠ [32, 34])) = true := by decide +kernel
theorem l257 : PySem.Str.ofString "257" = tx [50, 53, 55] := by decide +kernel
theorem lbq : PySem.Str.ofString " \"" = tx [32, 34] := by decide +kernel
theorem sp6_len (p c : Nat) : (sp6 p c).length = 6 := by
  unfold sp6
  have h := congrArg List.length (List.take_append_drop p P257)
  rw [List.length_append] at h
  simp only [List.length_append, List.length_singleton]
  have : P257.length = 5 := rfl
  omega
theorem tx_ne {a b : List Nat} (h : a ≠ b) : (tx a != tx b) = true := by
  rw [bne_iff_ne]; exact fun e => h (tx_inj.mp e)
theorem sp_slice3 (p : Int) (c : Nat) (tl : List Nat) : Txt.slice (tx (spL p c tl)) none (some 3) = tx ((sp6 p.toNat c).take 3) := by
  have hl := sp_len p c tl
  rw [slice_to _ 3 (by omega) (by omega)]
  show tx ((sp6 p.toNat c ++ tl).take 3) = _
  rw [List.take_append_of_le_length (by rw [sp6_len]; omega)]
theorem sp_slice35 (p : Int) (c : Nat) (tl : List Nat) : Txt.slice (tx (spL p c tl)) (some 3) (some 5) = tx (((sp6 p.toNat c).drop 3).take 2) := by
  have hl := sp_len p c tl
  show StrLaws.sliceText _ (some ((3 : Nat) : Int)) (some ((5 : Nat) : Int)) = _
  rw [StrLaws.sliceText_nat _ (by decide) (by rw [tx_len]; omega)]
  show tx (((spL p c tl).drop 3).take 2) = _
  show tx (((sp6 p.toNat c ++ tl).drop 3).take 2) = _
  rw [List.drop_append_of_le_length (by rw [sp6_len]; omega), List.take_append_of_le_length (by rw [List.length_drop, sp6_len]; omega)]
theorem sp_raise {p : Int} {c : Nat} {tl : List Nat} (h0 : 0 ≤ p) (hp : p ≤ 2) (hc : c ∈ heldL) : (Txt.slice (tx (spL p c tl)) none (some 3) != PySem.Str.ofString "257") = true := by
  have h := of_decide_eq_true (List.all_eq_true.mp (List.all_eq_true.mp sp6_ne c hc) p.toNat (List.mem_range.mpr (by omega)))
  rw [sp_slice3, l257]
  exact tx_ne h
theorem sp_none {p : Int} {c : Nat} {tl : List Nat} (h0 : 2 < p) (hp : p < 5) (hc : c ∈ heldL) : (Txt.slice (tx (spL p c tl)) none (some 3) != PySem.Str.ofString "257") = false ∧ (Txt.slice (tx (spL p c tl)) (some 3) (some 5) != PySem.Str.ofString " \"") = true := by
  have hm : p.toNat ∈ [3, 4] := by
    have : p.toNat = 3 ∨ p.toNat = 4 := by omega
    rcases this with e | e <;> rw [e] <;> decide
  have h := of_decide_eq_true (List.all_eq_true.mp (List.all_eq_true.mp sp6_eq c hc) p.toNat hm)
  refine ⟨?_, ?_⟩
  · rw [sp_slice3, l257, h.1]; simp
  · rw [sp_slice35, lbq]; exact tx_ne h.2
end Hd
end
end
section
set_option maxRecDepth 100000
noncomputable section
namespace Hd
open PySem PySem.W PySem.Calls PyProof.Rows PySem.Spec PySem.Builtin PySem.Builtin.BaseException PySem.Builtin.Exceptions

section
variable {prog : Program} {w : World} {A : Around} {E : Value → Shared → Prop} {h : Heap} {g : Array GenState} {d : Drawn} {t : Nat} {os : OsState}
variable {nm q : Str} {C N D : Addr} {bs bm bmB : List Value} {hdct : Bool} {sn : List Str} {sub : List Value} {ab : Bool} {col : Option Bool} {dd : Option Addr} {k0 k1 k2 k3 k5 : Option Value} {B nB newId : String} {mN mD : Str → Option Value}
  {c0 : Value} {dd2 : Option Addr} {cdD : ClassData} {slD : Array (Option Value)}
theorem step_miss {M : Model} {tl : List Value} {n : Str} {Q : Option Value → Shared → Prop} (hD : h.get? D = some { cls := c0, dict := dd2, data := .cls cdD, slots := slD }) (hND : h.Ns cdD.ns mD) (hnD : mD n = none)
    (k : wpAny M A (lookupAlong tl n) Q E ⟨h, g, d, t, os⟩) : wpAny M A (lookupAlong (.ref D :: tl) n) Q E ⟨h, g, d, t, os⟩ :=
  (lookupAlong_cons (.ref D) tl n) ▸ wpAny_bind (wpAny_classOwn_cls hD hND (by rw [hnD]; exact k))
theorem lookup_own2 {M : Model} {n : Str} {y : Option Value} {Q : Option Value → Shared → Prop} (hC : h.get? C = some (excClassObj nm q C N bs (.ref D :: bmB) hdct sn sub ab col dd k0 k1 k2 k3 k5 newId)) (hN : h.Ns N mN) (hn : mN n = none)
    (hD : h.get? D = some { cls := c0, dict := dd2, data := .cls cdD, slots := slD }) (hND : h.Ns cdD.ns mD) (hnD : mD n = none) (hbm : mroOf (.type B) = pure bmB)
    (hB : typeLookup (.type B) n = pure y) (hq : Q y ⟨h, g, d, t, os⟩) : wpAny M A (typeLookup (.ref C) n) Q E ⟨h, g, d, t, os⟩ := by
  have base : wpAny M A (lookupAlong bmB n) Q E ⟨h, g, d, t, os⟩ := by
    rw [typeLookup_eq, hbm] at hB
    exact (show lookupAlong bmB n = pure y from hB) ▸ wpAny_pure hq
  rw [typeLookup_eq]
  exact wpAny_bind (wpAny_mroOf_exc hC (step_miss hC hN hn (step_miss hD hND hnD base)))
variable {e t0 : Addr} {o : Obj} {vs : Array Value}
theorem call_str_own (FX : ExcStrFacts B nB) (hC : h.get? C = some (excClassObj nm q C N bs (.ref D :: bmB) hdct sn sub ab col dd k0 k1 k2 k3 k5 newId)) (hbase : bmB.contains (.type "BaseException") = true)
    (hx : h.get? e = some o) (hc : o.cls = .ref C) {R : Result → Shared → Prop} (hq : wpAny (model prog w) A.in1 (Builtin.«BaseException.__str__» ⟨[.ref e], []⟩) (fun fin s' => ∃ v, fin = .done (.ret v) ∧ R (.ok (.ret v)) s') (fun e s' => R (.error e) s') ⟨h, g, d, t, os⟩) :
    codeAny (model prog w) A (.call (.builtin "BaseException.__str__") ⟨[.ref e], []⟩) R ⟨h, g, d, t, os⟩ := by
  have hk : builtinKind "BaseException.__str__" = some .slot := by decide +kernel
  have hsplit : splitId "BaseException.__str__" = some ("BaseException", "__str__") := by decide +kernel
  have hcB : (Value.ref C :: .ref D :: bmB).contains (.type "BaseException") = true := by rw [List.contains_cons, List.contains_cons, hbase]; rfl
  have ha := F.args_bexc_str (.ref e)
  refine codeAny_call_builtin FX.str.plain F.entry_bexc_str ?_
  simp only [checkBuiltinCall, hk, hsplit]
  refine wpAny_bind ?_
  unfold isInstance
  generalize Builtin.«BaseException.__str__» ⟨[.ref e], []⟩ = bb at hq ⊢
  repeat (first | (with_reducible refine wpAny_mono hq ?_ ?_) | (with_reducible refine wpAny_loadPart_at hx ?_; rw [hc]) | (with_reducible refine wpAny_isSubtype_exc hC ?_; rw [hcB]) | wp_step)
  · intro fin s' h'
    obtain ⟨v, rfl, hv⟩ := h'
    exact hv
  · exact fun _ _ h' => h'
theorem entry_one {A' : Around} {m : Str} {tk : Tok} {Q : Fin → Shared → Prop} (hx : h.get? e = some o) (hd : o.data = .fields vs) (h0 : vs[0]? = some (.ref t0)) (ht : h.TupAt t0 [.str m tk]) (hq : Q (.done (.ret (.str m tk))) ⟨h, g, d, t, os⟩) :
    wpAny (model prog w) A' (Builtin.«BaseException.__str__» ⟨[.ref e], []⟩) Q E ⟨h, g, d, t, os⟩ := by
  unfold Builtin.«BaseException.__str__»
  have go : ∀ {Q : Value × List Value → Shared → Prop}, Q (.ref t0, [.str m tk]) ⟨h, g, d, t, os⟩ → wpAny (model prog w) A' (bexcArgs (.ref e)) Q E ⟨h, g, d, t, os⟩ := by
    intro Q hq
    obtain ⟨ot, k, hto, _, htd⟩ := ht
    unfold bexcArgs
    exact wpAny_bind (wpAny_field hx hd h0 (wpAny_bind (wpAny_seqItems hto htd (wpAny_pure hq))))
  repeat (first | with_reducible refine @go _ ?_ | wp_step)
  exact hq
theorem special_own (FX : ExcStrFacts B nB) (hC : h.get? C = some (excClassObj nm q C N bs (.ref D :: bmB) hdct sn sub ab col dd k0 k1 k2 k3 k5 newId))
    (hlk : ∀ {M : Model} {A : Around} {E : Value → Shared → Prop} {Q : Option Value → Shared → Prop}, Q (some (.builtin "BaseException.__str__")) ⟨h, g, d, t, os⟩ → wpAny M A (typeLookup (.ref C) "__str__") Q E ⟨h, g, d, t, os⟩) (hbase : bmB.contains (.type "BaseException") = true)
    (hx : h.get? e = some o) (hc : o.cls = .ref C) (hd : o.data = .fields vs) (h0 : vs[0]? = some (.ref t0)) {m : Str} {tk : Tok} (ht : h.TupAt t0 [.str m tk]) {Q : Option Value → Shared → Prop} (hq : Q (some (.str m tk)) ⟨h, g, d, t, os⟩) :
    wpAny (model prog w) A (callSpecial? (.ref e) "__str__") Q E ⟨h, g, d, t, os⟩ := by
  unfold callSpecial?
  refine wpAny_bind ?_
  unfold specialOf
  repeat (first | (with_reducible refine wpAny_loadPart_at hx ?_; rw [hc]) | with_reducible refine hlk ?_ | wp_step)
  simp only [FX.str.bind]
  repeat (any_goals (first | assumption | wp_step))
  exact call_str_own FX hC hbase hx hc (entry_one hx hd h0 ht ⟨_, rfl, wpAny_pure hq⟩)
theorem strOf_own (FX : ExcStrFacts B nB) (hC : h.get? C = some (excClassObj nm q C N bs (.ref D :: bmB) hdct sn sub ab col dd k0 k1 k2 k3 k5 newId))
    (hlk : ∀ {M : Model} {A : Around} {E : Value → Shared → Prop} {Q : Option Value → Shared → Prop}, Q (some (.builtin "BaseException.__str__")) ⟨h, g, d, t, os⟩ → wpAny M A (typeLookup (.ref C) "__str__") Q E ⟨h, g, d, t, os⟩) (hbase : bmB.contains (.type "BaseException") = true) (hu : A.units < cLine)
    (hx : h.get? e = some o) (hc : o.cls = .ref C) (hd : o.data = .fields vs) (h0 : vs[0]? = some (.ref t0)) {m : Str} {tk : Tok} (ht : h.TupAt t0 [.str m tk]) {Q : Value → Shared → Prop} (hq : Q (.str m tk) ⟨h, g, d, t, os⟩) :
    wpAny (model prog w) A (PySem.Builtin.Str.strOf (.ref e)) Q E ⟨h, g, d, t, os⟩ := by
  unfold PySem.Builtin.Str.strOf
  repeat (first | with_reducible refine wpAny_cRoomFor hu ?_ | with_reducible refine special_own FX hC hlk hbase hx hc hd h0 ht ?_ | wp_step)
  exact hq
theorem str_own (FX : ExcStrFacts B nB) (hC : h.get? C = some (excClassObj nm q C N bs (.ref D :: bmB) hdct sn sub ab col dd k0 k1 k2 k3 k5 newId))
    (hlk : ∀ {M : Model} {A : Around} {E : Value → Shared → Prop} {Q : Option Value → Shared → Prop}, Q (some (.builtin "BaseException.__str__")) ⟨h, g, d, t, os⟩ → wpAny M A (typeLookup (.ref C) "__str__") Q E ⟨h, g, d, t, os⟩) (hbase : bmB.contains (.type "BaseException") = true) (hu : A.units + 2 < cLine)
    (hx : h.get? e = some o) (hc : o.cls = .ref C) (hd : o.data = .fields vs) (h0 : vs[0]? = some (.ref t0)) {m : Str} {tk : Tok} (ht : h.TupAt t0 [.str m tk]) {Q : Value → Shared → Prop} (hq : Q (.str m tk) ⟨h, g, d, t, os⟩) :
    wpAny (model prog w) A (call (.type "str") [.ref e]) Q E ⟨h, g, d, t, os⟩ :=
  callType_new F.called_str (by decide) (F.typeCall_str_1 _) (F.newCall_str_1 _) (fun obj => F.args_object_init_2 obj _) F.entry_str_new
    (PySem.meets_str_new (S := fun A' R s' => A'.units + 1 < cLine ∧ s' = ⟨h, g, d, t, os⟩ ∧ R (.ok (.ret (.str m tk))) ⟨h, g, d, t, os⟩)
      fun _ _ A' R s' hq => by
        obtain ⟨h1, rfl, h2⟩ := hq
        exact strOf_own (A := A'.in1) FX hC hlk hbase h1 hx hc hd h0 ht h2)
    ⟨(show A.units + 1 + 1 < cLine from hu), rfl, typeIs_str _ _ _, hq⟩
end

section
variable {prog : Program} {w : World} {A : Around} {E : Value → Shared → Prop} {s' : Shared} {h₀ h : Heap} {outer : List Env} {L a e t : Addr} {m : Str → Option Value} {name : Str} {scope : Scope} {cd : Value}
  {vs : List Value} {n : Str} {b₀ : Stmt} {suite : List Stmt} {pos np : Pos} {rest : List ExceptHandler} {Q : Flow → Shared → Prop} {news : List (Addr × Obj)} {KF : Frag} {C : Addr} {bmB : List Value} {newId : String}
  {p : Program} {loose : List Str} {mean : ExcName → Option Value} {mg mb : Str → Option Value} {x : Str}
-- a raised exception passes a station of the frame: it stays as it is told by RaisedK
theorem past_note {M : Model} {env : Env} {cls : Value} {P : Unit → Shared → Prop} (hfr : A.frames = some (env :: outer)) (hf : env.frame = some L) (R : RaisedK h₀ (env :: outer) e cls t vs news s'.heap)
    (k : ∀ g, RaisedK h₀ (env :: outer) e cls t vs news g → s'.heap.UpToSlots g → P () { s' with heap := g }) :
    wpAny M A (noteFrame (.ref e) env) (fun _ s₂ => wpAny M A (setFlight (.ref e) none) P E s₂) E s' := by
  obtain ⟨⟨B, b1, b2, b3, b4⟩, r⟩ := R
  exact wpAny_looks_onW hfr hf b3 fun g₁ f₁ u₁ => wpAny_landsW f₁ fun g₂ f₂ u₂ => k g₂ ⟨⟨B, b1, b2, f₂, b4⟩, (r.of_slots u₁).of_slots u₂⟩ (u₁.trans u₂)
theorem past_land {M : Model} {l : List Env} {cls : Value} {P : Unit → Shared → Prop} (R : RaisedK h₀ l e cls t vs news s'.heap)
    (k : ∀ g, RaisedK h₀ l e cls t vs news g → s'.heap.UpToSlots g → P () { s' with heap := g }) : wpAny M A (setFlight (.ref e) none) P E s' := by
  obtain ⟨⟨B, b1, b2, b3, b4⟩, r⟩ := R
  exact lands_againW b3 fun g f u => k g ⟨⟨B, b1, b2, f, b4⟩, r.of_slots u⟩ u
-- what RaisedK tells of the frame's heap: it holds what was there, the exception with its argument, and the new things
theorem raised_told {l : List Env} {g : Heap} (F : Fr h₀ L h m) (u : h.UpToSlots g) (hL : ∀ B : Heap, Heap.FlyingW B l e (.ref C) (.ref t) g → B.get? L = none) (R : RaisedK h₀ l e (.ref C) t vs news g) :
    Fr h₀ L g m ∧ (∃ ob, g.get? e = some ob ∧ ob.cls = .ref C) ∧ ∃ own, News h₀ L g own ∧ Got own e t (.ref C) vs ∧ News h₀ L g news := by
  obtain ⟨⟨B, b1, b2, b3, b4⟩, r⟩ := R
  have f := flyingW_base b1 b3
  have Fg := F.of_stays f.1 u
  obtain ⟨oe, ws, q1, q2, q3, q4⟩ := f.first
  obtain ⟨ot, nt, p1, p2, p3⟩ := r
  have one := News.more Fg News.nil p1 (fun es n x => by rw [p3] at x; cases x) (fresh_of_stays b1 b4)
  refine ⟨Fg, ⟨oe, q1, q2⟩, [(e, oe), (t, ot)], News.more Fg one q1 (fun es n x => by rw [q3] at x; cases x) f.2.1, ⟨oe, ot, ws, nt, by simp, by simp, q2, q3, q4, p2, p3⟩, fun q hq => ?_⟩
  have z := b2 q hq
  refine ⟨b3.1 _ _ z.1, fun x => ?_, z.2⟩
  rw [x, hL B b3] at z
  cases z.1
theorem frame_new {env : Env} {B g : Heap} {cls a0 : Value} (hf : env.frame = some L) (f : Heap.FlyingW B (env :: outer) e cls a0 g) : B.get? L = none := by
  obtain ⟨_, _, ⟨_, ⟨L', _, q, n, _⟩, _⟩, _⟩ := f
  cases hf.symm.trans q
  exact n
-- an own class's handler takes an exception of that class
theorem own_test {env : Env} {g : Heap} {ob : Obj} {W : Result → Shared → Prop} (O : OwnCls x C bmB newId mg g) (hg : g.Ns env.globals mg) (hbase : bmB.contains (.type "BaseException") = true) (ho : g.get? e = some ob) (hc : ob.cls = .ref C) (hE : s'.heap = g)
    (hk : env.scope.kind = .function) (hx : env.kindOf x = some .globalImplicit) (hd : (x == ("__debug__" : Str)) = false) (k : W (.ok .brk) s') : codeAny (model prog w) A (.handlers (.ref e) [.ExceptHandler (some (.Name x np)) none [] pos] env) W s' := by
  obtain ⟨hp, ar, gens, dr, os⟩ := s'
  subst hE
  obtain ⟨bm, N, nm, qn, bs, hdct, sn, sub, ab, col, dd, k0, k1, k2, k3, k5, mN, hC, hN, hni, TL⟩ := O.obj
  exact codeAny_handlers_test (Name_function_global hk hx (loadGlobal_global hg O.bound (wpAny_excMatches_sub_self hC ho hc (TL.hasType hbase) k)) hd)
theorem caught_C (hfr : A.frames = some (envOfC name scope L a cd :: outer)) (F : Fr h₀ L h m) (hsm : h.UpToSlots s'.heap) (R : RaisedK h₀ (envOfC name scope L a cd :: outer) e (.ref C) t vs news s'.heap)
    (X : KF.In h₀) (T : TopRead p loose mg mb h₀) (ex : nsIn KF mainGlobals x = some (some (.ref C))) (q : excIn KF C bmB newId = true) (hbase : bmB.contains (.type "BaseException") = true)
    (k : ∀ h' news₂ tk, Fr h₀ L h' (fun y => if y = n then some (.ref e) else m y) → News h₀ L h' news₂ → Got news₂ e t (.ref C) vs → News h₀ L h' news →
      wpAny (model prog w) (A.mark (some (.ref e))) (execs (b₀ :: suite) (envOfC name scope L a cd))
        (fun f s₄ => wpAny (model prog w) A (do bindName (envOfC name scope L a cd) n .none; unbindBehindTheSuite (envOfC name scope L a cd) n pos) (fun _ s₅ => Q f s₅) E s₄)
        (AsSuiteRaised (model prog w) (A.mark (some (.ref e))) (envOfC name scope L a cd) n pos (notedBy (model prog w) (A.mark (some (.ref e))) (envOfC name scope L a cd) (cameBackBy (model prog w) A (envOfC name scope L a cd) E)))
        { s' with heap := h', toks := tk })
    (hk : scope.kind = .function := by rfl) (hlo : (envOfC name scope L a cd).kindOf n = some .local := by rfl) (hx : (envOfC name scope L a cd).kindOf x = some .globalImplicit := by rfl) (hd : (x == ("__debug__" : Str)) = false := by decide) :
    wpAny (model prog w) A (noteFrame (.ref e) (envOfC name scope L a cd))
      (fun _ s₂ => wpAny (model prog w) A (setFlight (.ref e) none) (fun _ s₃ =>
        wpAny (model prog w) A (handleBy (.ref e) (envOfC name scope L a cd) (.ExceptHandler (some (.Name x np)) (some n) (b₀ :: suite) pos :: rest)) Q E s₃) E s₂) E s' := by
  have hL : ∀ B g, Heap.FlyingW B (envOfC name scope L a cd :: outer) e (.ref C) (.ref t) g → B.get? L = none := fun _ _ => frame_new rfl
  refine past_note hfr rfl R fun g₁ R₁ u₁ => ?_
  obtain ⟨F₁, ⟨ob, o1, o2⟩, _⟩ := raised_told F (hsm.trans u₁) (fun B => hL B g₁) R₁
  refine wpAny_handleBy_cons (own_test ((own_of_in X T ex q).keeps F₁.keep) (T.g.keeps F₁.keep) hbase o1 o2 rfl hk hx hd (codeAny_handlers_suite_as ?_)) (fun x => nomatch x)
  refine past_land R₁ fun g₂ R₂ u₂ => ?_
  obtain ⟨F₂, _, own, N₂, G₂, Nn⟩ := raised_told F ((hsm.trans u₁).trans u₂) (fun B => hL B g₂) R₂
  refine stLocN F₂ (news := own ++ news) (fun p hp => (List.mem_append.mp hp).elim (N₂ p) (Nn p)) (fun g₃ F₃ N₃ => ?_) hk hlo
  exact k g₃ own _ F₃ (fun p hp => N₃ p (List.mem_append.mpr (.inl hp))) G₂ fun p hp => N₃ p (List.mem_append.mpr (.inr hp))
end
end Hd
end
end
section
open PySem PySem.W PySem.Calls PyProof.Rows
set_option maxRecDepth 100000
set_option maxHeartbeats 4000000
noncomputable section
namespace Hd
local macro_rules | `(tactic| walk_at "idle 0") => `(tactic| skip)
theorem filledRp : rw' = PySem.Challenge.rw_tr0065_03 ∧ K = K := by
  k_fill
  w_top off
  exact ⟨rfl, rfl⟩
section
variable {w : World} {mean : ExcName → Option Value} {mg mb : PySem.Str → Option Value}
theorem lk44 {w : World} {h : Heap} {g : Array GenState} {d : Drawn} {t : Nat} {os : OsState} (X : (K w.params).In h) {M : Model} {A : Around} {E : Value → Shared → Prop} {Q : Option Value → Shared → Prop}
    (hq : Q (some (.builtin "BaseException.__str__")) ⟨h, g, d, t, os⟩) : wpAny M A (typeLookup (.ref 44) (PySem.Str.ofString "__str__")) Q E ⟨h, g, d, t, os⟩ :=
  lookup_own2 (X 44 _ (by rfl)) (.of_isNs (isNs_of_in X (by kernel_rfl))) (nsMap_none_of_in X (by kernel_rfl) (by kernel_rfl)) (X 31 _ (by rfl)) (.of_isNs (isNs_of_in X (by kernel_rfl))) (nsMap_none_of_in X (by kernel_rfl) (by kernel_rfl)) PySem.F.excBase_Exception.mroIs PySem.F.excStr_Exception.str.lookup hq
theorem law_try1 (sp : List Nat) (ts tp : Tok) (p : Int) (hspl : sp.length ≤ 1000) (h257 : (Txt.slice (tx sp) none (some 3) != PySem.Str.ofString "257") = true) (hp : p ≤ 2) (mm : PySem.Str → Option Value) (hsp : mm (PySem.Str.ofString "spoilt") = some (.str (tx sp) ts)) (hpl : mm (PySem.Str.ofString "place") = some (.int p tp)) (o1 o2 : Obj) (news : List (Addr × Obj)) (fa : Addr) (cd : Value) (dp un : Nat) (gd : Option (List Code)) (A₀ : Around) (h₀ : Heap) (s : Shared) (Q : Flow → Shared → Prop)
    (B : Below A₀ h₀ [] h₀) (F : Fr h₀ h₀.objs.size s.heap mm) 
    (X : (K w.params).In h₀) (N : News h₀ h₀.objs.size s.heap (news)) (T : Top q (looseW q loose) mean mg mb h₀) (hd : dp + 20 < recursionLimit) (hu : un + 2000 < cLine)
    (hret : ∀ (m' : PySem.Str → Option Value) (h' : Heap) (tk' : Nat), Fr h₀ h₀.objs.size h' m' → Q (.ret (.bool true)) { s with heap := h', toks := tk' }) :
    wpAny (model pr w) (ktrTop dp un gd (PySem.Str.ofString "law") (fScope (st 18)) h₀.objs.size fa cd (cellsFrom (h₀.objs.size + 1) (fScope (st 18)).names []) []) (exec (lawS 25) (envOfC (PySem.Str.ofString "law") (fScope (st 18)) h₀.objs.size fa cd)) Q (fun _ _ => False) s := by
  k_with_none
  conv in (lawS 25) => whnf
  have F0 := fr_eq (over2 hsp hpl).symm F
  clear F
  have hlen := tx_len sp
  have hkk : (envX (PySem.Str.ofString "law") (fScope (st 18)) h₀.objs.size fa cd (cellsFrom (h₀.objs.size + 1) (fScope (st 18)).names [])).scope.kind = ScopeKind.function := by rfl
  refine wpAny_Try_except ?_
  k_steps
  refine wpAny_call ?_
  k_dflt cell_enter
  conv in (fBody (st 4)) => whnf
  k_with "noteFrame ref" => refine hold ?_
  k_steps
  unfold Hold
  (rename RaisedK _ _ _ _ _ _ _ _ => R9); (rename Heap.UpToSlots _ _ => U9); (rename Fr h₀ h₀.objs.size _ _ => FG9)
  refine caught_C (by with_unfolding_all rfl) FG9 U9 R9 X (by k_asm) (C := 44) (bmB := [.type "Exception", .type "BaseException", .type "object"]) (newId := "Exception.__new__") (by k_ownname) (by k_exc) (by rfl) ?_
  intro h' news₂ tk F9 N₂ G9 N9
  obtain ⟨oe, ot, ws, nt, h1, h2, h3, h4, h5, h6, h7⟩ := G9
  k_with "call type:str" => refine hold ?_
  k_steps
  unfold Hold
  have X9 : (K w.params).In h' := fun a o e => F9.keep a o (X a o e)
  refine str_own F.excStr_Exception (X9 44 _ (by rfl)) (lk44 X9) (by rfl) (by show un + 2 < cLine; omega) (N₂ _ h1).1 h3 h4 h5 ⟨_, _, (N₂ _ h2).1, h6, h7⟩ ?_
  k_steps
  · refine wpAny_nameGoes (by rfl) F9.ns (by rfl) ?_
    intro h8 m8 hn8 hs8
    show Q (.ret (.bool (decide (p ≤ 2)))) _
    rw [decide_eq_true hp]
    exact hret m8 _ _ (F9.set hn8 hs8)
  · rename_i hbad
    rw [beq_self_eq_true] at hbad
    cases hbad
theorem law_try2 (sp : List Nat) (ts tp : Tok) (p : Int) (hspl : sp.length ≤ 1000) (h257 : (Txt.slice (tx sp) none (some 3) != PySem.Str.ofString "257") = false) (h35 : (Txt.slice (tx sp) (some 3) (some 5) != PySem.Str.ofString " \"") = true) (hp : 2 < p) (mm : PySem.Str → Option Value) (hsp : mm (PySem.Str.ofString "spoilt") = some (.str (tx sp) ts)) (hpl : mm (PySem.Str.ofString "place") = some (.int p tp)) (o1 o2 : Obj) (news : List (Addr × Obj)) (fa : Addr) (cd : Value) (dp un : Nat) (gd : Option (List Code)) (A₀ : Around) (h₀ : Heap) (s : Shared) (Q : Flow → Shared → Prop)
    (B : Below A₀ h₀ [] h₀) (F : Fr h₀ h₀.objs.size s.heap mm) 
    (X : (K w.params).In h₀) (N : News h₀ h₀.objs.size s.heap (news)) (T : Top q (looseW q loose) mean mg mb h₀) (hd : dp + 20 < recursionLimit) (hu : un + 2000 < cLine)
    (hret : ∀ (m' : PySem.Str → Option Value) (h' : Heap) (tk' : Nat), Fr h₀ h₀.objs.size h' m' → Q (.ret (.bool true)) { s with heap := h', toks := tk' }) :
    wpAny (model pr w) (ktrTop dp un gd (PySem.Str.ofString "law") (fScope (st 18)) h₀.objs.size fa cd (cellsFrom (h₀.objs.size + 1) (fScope (st 18)).names []) []) (exec (lawS 25) (envOfC (PySem.Str.ofString "law") (fScope (st 18)) h₀.objs.size fa cd)) Q (fun _ _ => False) s := by
  k_with_none
  conv in (lawS 25) => whnf
  have F0 := fr_eq (over2 hsp hpl).symm F
  clear F
  have hlen := tx_len sp
  have hkk : (envX (PySem.Str.ofString "law") (fScope (st 18)) h₀.objs.size fa cd (cellsFrom (h₀.objs.size + 1) (fScope (st 18)).names [])).scope.kind = ScopeKind.function := by rfl
  refine wpAny_Try_except ?_
  k_steps
  refine wpAny_call ?_
  k_dflt cell_enter
  conv in (fBody (st 4)) => whnf
  k_steps
  (rename Fr h₀ h₀.objs.size _ _ => FG9)
  rw [decide_eq_true hp]
  exact hret _ _ _ FG9
end
end Hd
end
end
section
open PySem PySem.W PySem.Calls PyProof.Rows
set_option maxRecDepth 100000
set_option maxHeartbeats 4000000
noncomputable section
namespace Hd
theorem filledLb : rw' = PySem.Challenge.rw_tr0065_03 ∧ K = K := by
  k_fill
  w_top off
  exact ⟨rfl, rfl⟩
theorem body_eq : fBody (st 18) = [lawS 0, lawS 1, lawS 2, lawS 3, lawS 4, lawS 5, lawS 6, lawS 7, lawS 8, lawS 9, lawS 10, lawS 11, lawS 12, lawS 13, lawS 14, lawS 15, lawS 16, lawS 17, lawS 18, lawS 19, lawS 20, lawS 21, lawS 22, lawS 23, lawS 24, lawS 25] := by with_unfolding_all rfl
section
variable {w : World} {mean : ExcName → Option Value} {mg mb : PySem.Str → Option Value}
theorem law_late (nl fl bl : List Nat) (sn sf sb : Tok) (hnl : nl.length ≤ 100) (hfl : fl.length ≤ 100) (hbl : bl.length ≤ 100) (hld : ld fl = ld bl) (l0 l1 m : List Nat) (hl0 : ld nl = l0) (hl1 : ld fl = l1) (hm : l1 = l0 ++ m)
    (tl : List Nat) (tt : Tok) (htl : tl.length ≤ 19) (hC : ∀ c ∈ tl, c ∈ allC) (hfp : fl = pq (prep tl)) (Dn : Addr) (us : List Value) (ks : List Int) (nn : Nat) (hi : IntsAre us ks) (hk19 : ks.length ≤ 19) (hks : ∀ x ∈ ks, 0 ≤ x ∧ x ≤ 1000000)
    (Dl : Addr) (u0 u1 : Tok) (nL : Nat) (mm : PySem.Str → Option Value) (hname : mm (PySem.Str.ofString "name") = some (.str (tx nl) sn)) (hfirst : mm (PySem.Str.ofString "first") = some (.str (tx fl) sf)) (hbehind : mm (PySem.Str.ofString "behind") = some (.str (tx bl) sb)) (htext : mm (PySem.Str.ofString "text") = some (.str (tx tl) tt)) (hnumbers : mm (PySem.Str.ofString "numbers") = some (.ref Dn))
    (o1 o2 : Obj) (fa : Addr) (cd : Value) (dp un : Nat) (gd : Option (List Code)) (h₀ : Heap) (s : Shared) (Q : Flow → Shared → Prop)
    (B : Below callerA h₀ [] h₀) (F : Fr h₀ h₀.objs.size s.heap mm) (c2 : o2.data = .cell (some (.ref Dl)))
    (X : (K w.params).In h₀) (N : News h₀ h₀.objs.size s.heap ((Dl, W.listOf #[.str (tx l0) u0, .str (tx l1) u1] nL) :: (h₀.objs.size + 1 + 1, o2) :: (h₀.objs.size + 1, o1) :: (Dn, W.listOf (List.toArray us) nn) :: [])) (T : Top q (looseW q loose) mean mg mb h₀) (hd : dp + 20 < recursionLimit) (hu : un + 2000 < cLine)
    (hret : ∀ (m' : PySem.Str → Option Value) (h' : Heap) (tk' : Nat), Fr h₀ h₀.objs.size h' m' → Q (.ret (.bool true)) { s with heap := h', toks := tk' }) :
    wpAny (model pr w) (ktrTop dp un gd (PySem.Str.ofString "law") (fScope (st 18)) h₀.objs.size fa cd (cellsFrom (h₀.objs.size + 1) (fScope (st 18)).names []) []) (execs [lawS 15, lawS 16, lawS 17, lawS 18, lawS 19, lawS 20, lawS 21, lawS 22, lawS 23, lawS 24, lawS 25] (envOfC (PySem.Str.ofString "law") (fScope (st 18)) h₀.objs.size fa cd)) Q (fun _ _ => False) s := by
  have hl0n : l0.length ≤ 100 := by rw [← hl0]; have := ld_len' nl; omega
  have hl1n : l1.length ≤ 100 := by rw [← hl1]; have := ld_len' fl; omega
  have hbk : ∀ c ∈ l1, c = 32 ∨ c = 9 := by rw [← hl1]; exact ld_blank fl
  refine wpAny_execs_cons (law_three nl fl bl sn sf sb (by omega) (by omega) (by omega) _ hname hfirst hbehind o1 o2 _ fa cd dp un gd _ _ h₀ _ _ B F  X N T hd hu ?_)
  intro x1 d1 D1 E1 vs1 ta1 tc1 td1 te1 tf1 tg1 tb1 tn1 tt1 x2 d2 D2 E2 vs2 ta2 tc2 td2 te2 tf2 tg2 tb2 tn2 tt2 x3 d3 D3 E3 vs3 ta3 tc3 td3 te3 tf3 tg3 tb3 tn3 tt3 h1 tk1 hi1 hi2 hi3 F N; dsimp only
  obtain ⟨m1, hm1⟩ : ∃ m, m = (fun y => if y = PySem.Str.ofString "unread" then some (.ref x1) else if y = PySem.Str.ofString "one" then some (.ref x2) else if y = PySem.Str.ofString "other" then some (.ref x3) else mm y) := ⟨_, rfl⟩
  replace F := fr_eq hm1.symm F
  have k1unread : m1 (PySem.Str.ofString "unread") = some (.ref x1) := (congrFun hm1 _).trans (if_pos rfl)
  have k1one : m1 (PySem.Str.ofString "one") = some (.ref x2) := (congrFun hm1 _).trans ((if_neg (by decide +kernel)).trans (if_pos rfl))
  have k1other : m1 (PySem.Str.ofString "other") = some (.ref x3) := (congrFun hm1 _).trans ((if_neg (by decide +kernel)).trans ((if_neg (by decide +kernel)).trans (if_pos rfl)))
  have k1first := (congrFun hm1 (PySem.Str.ofString "first")).trans ((if_neg (by decide +kernel)).trans ((if_neg (by decide +kernel)).trans ((if_neg (by decide +kernel)).trans (hfirst))))
  have k1text := (congrFun hm1 (PySem.Str.ofString "text")).trans ((if_neg (by decide +kernel)).trans ((if_neg (by decide +kernel)).trans ((if_neg (by decide +kernel)).trans (htext))))
  have k1numbers := (congrFun hm1 (PySem.Str.ofString "numbers")).trans ((if_neg (by decide +kernel)).trans ((if_neg (by decide +kernel)).trans ((if_neg (by decide +kernel)).trans (hnumbers))))
  clear hm1
  rw [← hld] at hi3 N
  rw [hl0] at hi1 N
  rw [hl1] at hi2 hi3 N
  have f1 := run_ent l0 hl0n
  have f2 := run_ent l1 hl1n
  have hlt0 := lead_hlt0 hbk hm
  have hlt1 := lead_hlt1 hbk hm
  have heq := lead_heq hbk hm
  have hne := lead_ne hbk hm
  have hmax := max_fact l0 l1
  have hn2 := (wsRun_bd l1).1
  have hnt2 := tabs_tx l1
  generalize wsRun l0 = σ1 at *
  generalize wsRun l1 = σ2 at *
  obtain ⟨lg, hlg⟩ : ∃ lg, lg = decide (l0.length < l1.length) := ⟨_, rfl⟩
  rw [← hlg] at hlt0 hlt1 heq
  have hne' : ∀ k, neD σ1.ks σ1.b σ1.nt σ2.ks σ2.b σ2.nt (rangeKs 1 k) = if lg = true then (rangeKs 1 k).map (colD l0 l1) else [] := by intro k; rw [hlg]; exact hne k
  replace N := news_sub ((E2, ({ cls := .type "tuple", data := .seq #[.ref D2, .int σ2.b tb2] } : Obj)) :: (D2, ({ cls := .type "tuple", data := .seq vs2.toArray } : Obj)) :: (x2, instObj 179 d2) :: (d2, wsDict w.params (tx fl) E2 σ2.n σ2.nt (decide ((σ2.ks.length : Int) ≤ 1)) ta2 tc2 td2 te2 tf2 tg2 tn2 tt2) :: (E3, ({ cls := .type "tuple", data := .seq #[.ref D3, .int σ2.b tb3] } : Obj)) :: (D3, ({ cls := .type "tuple", data := .seq vs3.toArray } : Obj)) :: (x3, instObj 179 d3) :: (d3, wsDict w.params (tx bl) E3 σ2.n σ2.nt (decide ((σ2.ks.length : Int) ≤ 1)) ta3 tc3 td3 te3 tf3 tg3 tn3 tt3) :: (Dl, W.listOf #[.str (tx l0) u0, .str (tx l1) u1] nL) :: (h₀.objs.size + 1 + 1, o2) :: (h₀.objs.size + 1, o1) :: (E1, ({ cls := .type "tuple", data := .seq #[.ref D1, .int σ1.b tb1] } : Obj)) :: (D1, ({ cls := .type "tuple", data := .seq vs1.toArray } : Obj)) :: (x1, instObj 179 d1) :: (d1, wsDict w.params (tx nl) E1 σ1.n σ1.nt (decide ((σ1.ks.length : Int) ≤ 1)) ta1 tc1 td1 te1 tf1 tg1 tn1 tt1) :: (Dn, W.listOf (List.toArray us) nn) :: []) N (by kcj_all)
  refine wpAny_execs_cons (law_row16 (tx fl) σ2.ks σ2.b σ2.n σ2.nt x2 d2 D2 E2 vs2 (decide ((σ2.ks.length : Int) ≤ 1)) ta2 tc2 td2 te2 tf2 tg2 tb2 tn2 tt2 (tx bl) σ2.ks σ2.b σ2.n σ2.nt x3 d3 D3 E3 vs3 (decide ((σ2.ks.length : Int) ≤ 1)) ta3 tc3 td3 te3 tf3 tg3 tb3 tn3 tt3 hi2 f2.1 f2.2.1 f2.2.2.1 f2.2.2.2 hi3 f2.1 f2.2.1 f2.2.2.1 f2.2.2.2 Dl l0 l1 u0 u1 nL (by omega) ⟨rfl, rfl⟩ hn2 hnt2 _ k1one k1other o1 o2 _ fa cd dp un gd _ _ h₀ _ _ B F c2 X N T hd hu ?_)
  intro h2 tk2 F N; dsimp only
  replace N := news_sub ((Dl, W.listOf #[.str (tx l0) u0, .str (tx l1) u1] nL) :: (h₀.objs.size + 1 + 1, o2) :: (h₀.objs.size + 1, o1) :: (E1, ({ cls := .type "tuple", data := .seq #[.ref D1, .int σ1.b tb1] } : Obj)) :: (D1, ({ cls := .type "tuple", data := .seq vs1.toArray } : Obj)) :: (x1, instObj 179 d1) :: (d1, wsDict w.params (tx nl) E1 σ1.n σ1.nt (decide ((σ1.ks.length : Int) ≤ 1)) ta1 tc1 td1 te1 tf1 tg1 tn1 tt1) :: (E2, ({ cls := .type "tuple", data := .seq #[.ref D2, .int σ2.b tb2] } : Obj)) :: (D2, ({ cls := .type "tuple", data := .seq vs2.toArray } : Obj)) :: (x2, instObj 179 d2) :: (d2, wsDict w.params (tx fl) E2 σ2.n σ2.nt (decide ((σ2.ks.length : Int) ≤ 1)) ta2 tc2 td2 te2 tf2 tg2 tn2 tt2) :: (Dn, W.listOf (List.toArray us) nn) :: []) N (by kcj_all)
  refine wpAny_execs_cons (law_longer Dl l0 l1 u0 u1 nL (by omega) (by omega) lg hlg _ o1 o2 _ fa cd dp un gd _ _ h₀ _ _ B F c2 X N T hd hu ?_)
  intro h3 tk3 F N; dsimp only
  obtain ⟨m2, hm2⟩ : ∃ m, m = (fun y => if y = PySem.Str.ofString "longer" then some (.bool lg) else m1 y) := ⟨_, rfl⟩
  replace F := fr_eq hm2.symm F
  have k2longer : m2 (PySem.Str.ofString "longer") = some (.bool lg) := (congrFun hm2 _).trans (if_pos rfl)
  have k2unread := (congrFun hm2 (PySem.Str.ofString "unread")).trans ((if_neg (by decide +kernel)).trans (k1unread))
  have k2one := (congrFun hm2 (PySem.Str.ofString "one")).trans ((if_neg (by decide +kernel)).trans (k1one))
  have k2first := (congrFun hm2 (PySem.Str.ofString "first")).trans ((if_neg (by decide +kernel)).trans (k1first))
  have k2text := (congrFun hm2 (PySem.Str.ofString "text")).trans ((if_neg (by decide +kernel)).trans (k1text))
  have k2numbers := (congrFun hm2 (PySem.Str.ofString "numbers")).trans ((if_neg (by decide +kernel)).trans (k1numbers))
  clear hm2
  replace N := news_sub ((E1, ({ cls := .type "tuple", data := .seq #[.ref D1, .int σ1.b tb1] } : Obj)) :: (D1, ({ cls := .type "tuple", data := .seq vs1.toArray } : Obj)) :: (x1, instObj 179 d1) :: (d1, wsDict w.params (tx nl) E1 σ1.n σ1.nt (decide ((σ1.ks.length : Int) ≤ 1)) ta1 tc1 td1 te1 tf1 tg1 tn1 tt1) :: (E2, ({ cls := .type "tuple", data := .seq #[.ref D2, .int σ2.b tb2] } : Obj)) :: (D2, ({ cls := .type "tuple", data := .seq vs2.toArray } : Obj)) :: (x2, instObj 179 d2) :: (d2, wsDict w.params (tx fl) E2 σ2.n σ2.nt (decide ((σ2.ks.length : Int) ≤ 1)) ta2 tc2 td2 te2 tf2 tg2 tn2 tt2) :: (Dl, W.listOf #[.str (tx l0) u0, .str (tx l1) u1] nL) :: (h₀.objs.size + 1 + 1, o2) :: (h₀.objs.size + 1, o1) :: (Dn, W.listOf (List.toArray us) nn) :: []) N (by kcj_all)
  refine wpAny_execs_cons (law_row18 (tx nl) σ1.ks σ1.b σ1.n σ1.nt x1 d1 D1 E1 vs1 (decide ((σ1.ks.length : Int) ≤ 1)) ta1 tc1 td1 te1 tf1 tg1 tb1 tn1 tt1 (tx fl) σ2.ks σ2.b σ2.n σ2.nt x2 d2 D2 E2 vs2 (decide ((σ2.ks.length : Int) ≤ 1)) ta2 tc2 td2 te2 tf2 tg2 tb2 tn2 tt2 hi1 f1.1 f1.2.1 f1.2.2.1 f1.2.2.2 hi2 f2.1 f2.2.1 f2.2.2.1 f2.2.2.2 lg hlt0 hlt1 heq _ k2unread k2one k2longer o1 o2 _ fa cd dp un gd _ _ h₀ _ _ B F  X N T hd hu ?_)
  intro h4 tk4 F N; dsimp only
  replace N := news_sub ((Dl, W.listOf #[.str (tx l0) u0, .str (tx l1) u1] nL) :: (h₀.objs.size + 1 + 1, o2) :: (h₀.objs.size + 1, o1) :: (E1, ({ cls := .type "tuple", data := .seq #[.ref D1, .int σ1.b tb1] } : Obj)) :: (D1, ({ cls := .type "tuple", data := .seq vs1.toArray } : Obj)) :: (x1, instObj 179 d1) :: (d1, wsDict w.params (tx nl) E1 σ1.n σ1.nt (decide ((σ1.ks.length : Int) ≤ 1)) ta1 tc1 td1 te1 tf1 tg1 tn1 tt1) :: (E2, ({ cls := .type "tuple", data := .seq #[.ref D2, .int σ2.b tb2] } : Obj)) :: (D2, ({ cls := .type "tuple", data := .seq vs2.toArray } : Obj)) :: (x2, instObj 179 d2) :: (d2, wsDict w.params (tx fl) E2 σ2.n σ2.nt (decide ((σ2.ks.length : Int) ≤ 1)) ta2 tc2 td2 te2 tf2 tg2 tn2 tt2) :: (Dn, W.listOf (List.toArray us) nn) :: []) N (by kcj_all)
  refine wpAny_execs_cons (law_longest Dl l0 l1 u0 u1 nL (by omega) (by omega) _ o1 o2 _ fa cd dp un gd _ _ h₀ _ _ B F c2 X N T hd hu ?_)
  intro M tM h5 tk5 hM1 hM2 F N; dsimp only
  have hMv := hmax M hM1 hM2
  have hb1 := lngV_bd f1.2.1 f1.2.2.1
  have hb2 := lngV_bd f2.2.1 f2.2.2.1
  have hM0 : 0 ≤ M ∧ M ≤ 100 := by rw [hMv]; split <;> omega
  obtain ⟨k, rfl⟩ := Int.eq_ofNat_of_zero_le hM0.1
  obtain ⟨m3, hm3⟩ : ∃ m, m = (fun y => if y = PySem.Str.ofString "longest" then some (.int ((k : Nat) : Int) tM) else m2 y) := ⟨_, rfl⟩
  replace F := fr_eq hm3.symm F
  have k3longest : m3 (PySem.Str.ofString "longest") = some (.int ((k : Nat) : Int) tM) := (congrFun hm3 _).trans (if_pos rfl)
  have k3longer := (congrFun hm3 (PySem.Str.ofString "longer")).trans ((if_neg (by decide +kernel)).trans (k2longer))
  have k3unread := (congrFun hm3 (PySem.Str.ofString "unread")).trans ((if_neg (by decide +kernel)).trans (k2unread))
  have k3one := (congrFun hm3 (PySem.Str.ofString "one")).trans ((if_neg (by decide +kernel)).trans (k2one))
  have k3first := (congrFun hm3 (PySem.Str.ofString "first")).trans ((if_neg (by decide +kernel)).trans (k2first))
  have k3text := (congrFun hm3 (PySem.Str.ofString "text")).trans ((if_neg (by decide +kernel)).trans (k2text))
  have k3numbers := (congrFun hm3 (PySem.Str.ofString "numbers")).trans ((if_neg (by decide +kernel)).trans (k2numbers))
  clear hm3
  refine wpAny_execs_cons (law_columns Dl l0 l1 u0 u1 nL (by omega) (by omega) k (by omega) tM _ k3longest o1 o2 _ fa cd dp un gd _ _ h₀ _ _ B F c2 X N T hd hu ?_)
  intro Dc ys nw h6 tk6 hdat hnw F N; dsimp only
  obtain ⟨m4, hm4⟩ : ∃ m, m = (fun y => if y = PySem.Str.ofString "columns" then some (.ref Dc) else m3 y) := ⟨_, rfl⟩
  replace F := fr_eq hm4.symm F
  have k4columns : m4 (PySem.Str.ofString "columns") = some (.ref Dc) := (congrFun hm4 _).trans (if_pos rfl)
  have k4longer := (congrFun hm4 (PySem.Str.ofString "longer")).trans ((if_neg (by decide +kernel)).trans (k3longer))
  have k4unread := (congrFun hm4 (PySem.Str.ofString "unread")).trans ((if_neg (by decide +kernel)).trans (k3unread))
  have k4one := (congrFun hm4 (PySem.Str.ofString "one")).trans ((if_neg (by decide +kernel)).trans (k3one))
  have k4first := (congrFun hm4 (PySem.Str.ofString "first")).trans ((if_neg (by decide +kernel)).trans (k3first))
  have k4text := (congrFun hm4 (PySem.Str.ofString "text")).trans ((if_neg (by decide +kernel)).trans (k3text))
  have k4numbers := (congrFun hm4 (PySem.Str.ofString "numbers")).trans ((if_neg (by decide +kernel)).trans (k3numbers))
  clear hm4
  have hn6 : ∀ q ∈ (E1, ({ cls := .type "tuple", data := .seq #[.ref D1, .int σ1.b tb1] } : Obj)) :: (D1, ({ cls := .type "tuple", data := .seq vs1.toArray } : Obj)) :: (x1, instObj 179 d1) :: (d1, wsDict w.params (tx nl) E1 σ1.n σ1.nt (decide ((σ1.ks.length : Int) ≤ 1)) ta1 tc1 td1 te1 tf1 tg1 tn1 tt1) :: (E2, ({ cls := .type "tuple", data := .seq #[.ref D2, .int σ2.b tb2] } : Obj)) :: (D2, ({ cls := .type "tuple", data := .seq vs2.toArray } : Obj)) :: (x2, instObj 179 d2) :: (d2, wsDict w.params (tx fl) E2 σ2.n σ2.nt (decide ((σ2.ks.length : Int) ≤ 1)) ta2 tc2 td2 te2 tf2 tg2 tn2 tt2) :: (Dn, W.listOf (List.toArray us) nn) :: [], q ∈ nw := fun q hq => hnw q (by revert q; kcj_all)
  replace N : News h₀ h₀.objs.size h6 ((E1, ({ cls := .type "tuple", data := .seq #[.ref D1, .int σ1.b tb1] } : Obj)) :: (D1, ({ cls := .type "tuple", data := .seq vs1.toArray } : Obj)) :: (x1, instObj 179 d1) :: (d1, wsDict w.params (tx nl) E1 σ1.n σ1.nt (decide ((σ1.ks.length : Int) ≤ 1)) ta1 tc1 td1 te1 tf1 tg1 tn1 tt1) :: (E2, ({ cls := .type "tuple", data := .seq #[.ref D2, .int σ2.b tb2] } : Obj)) :: (D2, ({ cls := .type "tuple", data := .seq vs2.toArray } : Obj)) :: (x2, instObj 179 d2) :: (d2, wsDict w.params (tx fl) E2 σ2.n σ2.nt (decide ((σ2.ks.length : Int) ≤ 1)) ta2 tc2 td2 te2 tf2 tg2 tn2 tt2) :: (Dc, W.listOf (List.toArray ys) ys.length) :: nw) := by
    refine news_sub _ N (fun q hq => ?_)
    rcases List.mem_cons.mp hq with rfl | hq
    · exact .tail _ (hn6 _ (.head _))
    rcases List.mem_cons.mp hq with rfl | hq
    · exact .tail _ (hn6 _ (.tail _ (.head _)))
    rcases List.mem_cons.mp hq with rfl | hq
    · exact .tail _ (hn6 _ (.tail _ (.tail _ (.head _))))
    rcases List.mem_cons.mp hq with rfl | hq
    · exact .tail _ (hn6 _ (.tail _ (.tail _ (.tail _ (.head _)))))
    rcases List.mem_cons.mp hq with rfl | hq
    · exact .tail _ (hn6 _ (.tail _ (.tail _ (.tail _ (.tail _ (.head _))))))
    rcases List.mem_cons.mp hq with rfl | hq
    · exact .tail _ (hn6 _ (.tail _ (.tail _ (.tail _ (.tail _ (.tail _ (.head _)))))))
    rcases List.mem_cons.mp hq with rfl | hq
    · exact .tail _ (hn6 _ (.tail _ (.tail _ (.tail _ (.tail _ (.tail _ (.tail _ (.head _))))))))
    rcases List.mem_cons.mp hq with rfl | hq
    · exact .tail _ (hn6 _ (.tail _ (.tail _ (.tail _ (.tail _ (.tail _ (.tail _ (.tail _ (.head _)))))))))
    exact hq
  have hfact : neD σ1.ks σ1.b σ1.nt σ2.ks σ2.b σ2.nt (rangeKs 1 ((if lngV σ1.ks σ1.b < lngV σ2.ks σ2.b then lngV σ2.ks σ2.b else lngV σ1.ks σ1.b) + 1).toNat) = if lg = true then (rangeKs 1 (k + 1)).map (colD l0 l1) else [] := by
    rw [← hMv, hne', show (((k : Nat) : Int) + 1).toNat = k + 1 by omega]
  refine wpAny_execs_cons (law_row21 (tx nl) σ1.ks σ1.b σ1.n σ1.nt x1 d1 D1 E1 vs1 (decide ((σ1.ks.length : Int) ≤ 1)) ta1 tc1 td1 te1 tf1 tg1 tb1 tn1 tt1 (tx fl) σ2.ks σ2.b σ2.n σ2.nt x2 d2 D2 E2 vs2 (decide ((σ2.ks.length : Int) ≤ 1)) ta2 tc2 td2 te2 tf2 tg2 tb2 tn2 tt2 hi1 f1.1 f1.2.1 f1.2.2.1 f1.2.2.2 hi2 f2.1 f2.2.1 f2.2.2.1 f2.2.2.2 Dc ys _ _ (colD_ok l0 l1 (k + 1)) lg hfact _ k4unread k4one k4longer k4columns o1 o2 _ fa cd dp un gd _ _ h₀ _ _ B F hdat X N T hd hu ?_)
  intro h7 tk7 F N; dsimp only
  replace N : News h₀ h₀.objs.size h7 ((Dn, W.listOf (List.toArray us) nn) :: []) := by
    refine news_sub _ N (fun q hq => ?_)
    rw [List.mem_singleton.mp hq]
    exact .tail _ (.tail _ (.tail _ (.tail _ (.tail _ (.tail _ (.tail _ (.tail _ (.tail _ (hn6 _ (.tail _ (.tail _ (.tail _ (.tail _ (.tail _ (.tail _ (.tail _ (.tail _ (.head _))))))))))))))))))
  refine wpAny_execs_cons (law_place Dn us ks nn hi hk19 _ k4numbers o1 o2 _ fa cd dp un gd _ _ h₀ _ _ B F  X N T hd hu ?_)
  intro tp h8 tk8 F N; dsimp only
  obtain ⟨p, hp⟩ : ∃ p, ks.sum.fmod 5 = p := ⟨_, rfl⟩
  have hp5 := fmodR ks.sum (n := 5) (by omega)
  rw [hp] at F hp5
  have hsum := sum_bd ks hks
  obtain ⟨m5, hm5⟩ : ∃ m, m = (fun y => if y = PySem.Str.ofString "place" then some (.int p tp) else m4 y) := ⟨_, rfl⟩
  replace F := fr_eq hm5.symm F
  have k5place : m5 (PySem.Str.ofString "place") = some (.int p tp) := (congrFun hm5 _).trans (if_pos rfl)
  have k5first := (congrFun hm5 (PySem.Str.ofString "first")).trans ((if_neg (by decide +kernel)).trans (k4first))
  have k5text := (congrFun hm5 (PySem.Str.ofString "text")).trans ((if_neg (by decide +kernel)).trans (k4text))
  have k5numbers := (congrFun hm5 (PySem.Str.ofString "numbers")).trans ((if_neg (by decide +kernel)).trans (k4numbers))
  clear hm5
  refine wpAny_execs_cons (law_spoilt p hp5.1 hp5.2 tl htl tp tt Dn us ks nn hi hk19 (by omega) _ k5numbers k5place k5text o1 o2 _ fa cd dp un gd _ _ h₀ _ _ B F  X N T hd hu ?_)
  intro tS h9 tk9 F N; dsimp only
  have hsp1 := sp_prep p ks.sum tl
  have hsp2 := sp_m3 p ks.sum tl hC
  have hsp3 := sp_len p (sgC (3 + 10 * ks.sum)) tl
  have hsp4 := fun h => sp_raise (p := p) (tl := tl) hp5.1 h (held_sg ks.sum)
  have hsp5 := fun h => sp_none (p := p) (tl := tl) h hp5.2 (held_sg ks.sum)
  obtain ⟨sp, hspd⟩ : ∃ sp, spL p (sgC (3 + 10 * ks.sum)) tl = sp := ⟨_, rfl⟩
  have hspd' : P257.take p.toNat ++ [sgC (3 + 10 * ks.sum)] ++ P257.drop p.toNat ++ tl = sp := hspd
  rw [hspd'] at F
  rw [hspd] at hsp1 hsp2 hsp3 hsp4 hsp5
  obtain ⟨m6, hm6⟩ : ∃ m, m = (fun y => if y = PySem.Str.ofString "spoilt" then some (.str (tx sp) tS) else m5 y) := ⟨_, rfl⟩
  replace F := fr_eq hm6.symm F
  have k6spoilt : m6 (PySem.Str.ofString "spoilt") = some (.str (tx sp) tS) := (congrFun hm6 _).trans (if_pos rfl)
  have k6place := (congrFun hm6 (PySem.Str.ofString "place")).trans ((if_neg (by decide +kernel)).trans (k5place))
  have k6first := (congrFun hm6 (PySem.Str.ofString "first")).trans ((if_neg (by decide +kernel)).trans (k5first))
  clear hm6
  have hpl := prep_len tl hC
  rw [hfp] at k6first
  refine wpAny_execs_cons (law_row24 sp (prep tl) tS sf (by omega) (by omega) hsp2 hsp1 _ k6spoilt k6first o1 o2 _ fa cd dp un gd _ _ h₀ _ _ B F  X N T hd hu ?_)
  intro h10 tk10 F N; dsimp only
  rcases Int.lt_or_le 2 p with hlt | hle
  · refine wpAny_execs_cons (law_try2 sp tS tp p (by omega) (hsp5 hlt).1 (hsp5 hlt).2 hlt _ k6spoilt k6place o1 o2 _ fa cd dp un gd _ h₀ _ _ B F X N T hd hu ?_)
    exact hret
  · refine wpAny_execs_cons (law_try1 sp tS tp p (by omega) (hsp4 hle) hle _ k6spoilt k6place o1 o2 _ fa cd dp un gd _ h₀ _ _ B F X N T hd hu ?_)
    exact hret
end
end Hd
end
end
section
open PySem PySem.W PySem.Calls PyProof.Rows
set_option maxRecDepth 100000
set_option maxHeartbeats 4000000
noncomputable section
namespace Hd
theorem filledLc : rw' = PySem.Challenge.rw_tr0065_03 ∧ K = K := by
  k_fill
  w_top off
  exact ⟨rfl, rfl⟩
theorem listNC (a : Addr) (xs : Array Value) (n : Nat) : NC (a, W.listOf xs n) := fun v e => by cases e
section
variable {w : World} {mean : ExcName → Option Value} {mg mb : PySem.Str → Option Value}
theorem law_body (fa : Addr) (cd : Value) (l : Addr) (vs : List Value) (ns : List Int) (hi : IntsAre vs ns) (hlay : PyData.layable0 (.list (ns.map .int)) = true) (o1 o2 : Obj) (dp un : Nat) (gd : Option (List Code)) (h₀ : Heap) (s : Shared) (Q : Flow → Shared → Prop)
    (B : Below callerA h₀ [] h₀) (F : Fr h₀ h₀.objs.size s.heap (bindL (envOfC (PySem.Str.ofString "law") (fScope (st 18)) h₀.objs.size fa cd).kindOf [(PySem.Str.ofString "script", .ref l)] fun _ => none)) (c2 : o2.data = .cell none) (c1 : o1.data = .cell none)
    (X : (K w.params).In h₀) (N : News h₀ h₀.objs.size s.heap [(h₀.objs.size + 1 + 1, o2), (h₀.objs.size + 1, o1)]) (T : Top q (looseW q loose) mean mg mb h₀) (hl : h₀.IsList l vs.toArray) (hd : dp + 20 < recursionLimit) (hu : un + 2000 < cLine)
    (hret : ∀ (m' : PySem.Str → Option Value) (h' : Heap) (tk' : Nat), Fr h₀ h₀.objs.size h' m' → Q (.ret (.bool true)) { s with heap := h', toks := tk' }) :
    wpAny (model pr w) (ktrTop dp un gd (PySem.Str.ofString "law") (fScope (st 18)) h₀.objs.size fa cd (cellsFrom (h₀.objs.size + 1) (fScope (st 18)).names []) []) (execs (fBody (st 18)) (envOfC (PySem.Str.ofString "law") (fScope (st 18)) h₀.objs.size fa cd)) Q (fun _ _ => False) s := by
  rw [body_eq]
  refine wpAny_execs_cons (law_numbers l vs ns hi hlay o1 o2 _ fa cd dp un gd _ _ h₀ _ _ B F hl X N T hd hu ?_)
  intro Dn us ks nn h1 tk1 hi1 hk19 hks F N; dsimp only
  obtain ⟨m1, hm1⟩ : ∃ m, m = (fun y => if y = PySem.Str.ofString "numbers" then some (.ref Dn) else (bindL (envOfC (PySem.Str.ofString "law") (fScope (st 18)) h₀.objs.size fa cd).kindOf [(PySem.Str.ofString "script", .ref l)] fun _ => none) y) := ⟨_, rfl⟩
  replace F := fr_eq hm1.symm F
  have k1numbers : m1 (PySem.Str.ofString "numbers") = some (.ref Dn) := (congrFun hm1 _).trans (if_pos rfl)
  clear hm1
  refine wpAny_execs_cons (law_signs Dn us ks nn hi1 hk19 _ k1numbers o1 o2 _ fa cd dp un gd _ _ h₀ _ _ B F  X N T hd hu ?_)
  intro Ds vs1 n1 nw h2 tk2 hp hnw F N hDs; dsimp only
  obtain ⟨m2, hm2⟩ : ∃ m, m = (fun y => if y = PySem.Str.ofString "signs" then some (.ref Ds) else m1 y) := ⟨_, rfl⟩
  replace F := fr_eq hm2.symm F
  have k2signs : m2 (PySem.Str.ofString "signs") = some (.ref Ds) := (congrFun hm2 _).trans (if_pos rfl)
  have k2numbers := (congrFun hm2 (PySem.Str.ofString "numbers")).trans ((if_neg (by decide +kernel)).trans (k1numbers))
  clear hm2
  obtain ⟨ex, hpe, hex, hnc⟩ := hp.led
  replace N : News h₀ h₀.objs.size h2 ((Ds, W.listOf (List.toArray vs1) n1) :: (h₀.objs.size + 1 + 1, o2) :: (h₀.objs.size + 1, o1) :: (Dn, W.listOf (List.toArray us) nn) :: ex) := by
    refine news_sub _ N (fun q hq => ?_)
    rcases List.mem_cons.mp hq with rfl | hq
    · exact .head _
    rcases List.mem_cons.mp hq with rfl | hq
    · exact .tail _ (hnw _ (.tail _ (.head _)))
    rcases List.mem_cons.mp hq with rfl | hq
    · exact .tail _ (hnw _ (.tail _ (.tail _ (.head _))))
    rcases List.mem_cons.mp hq with rfl | hq
    · exact .tail _ (hnw _ (.head _))
    exact .tail _ (hex _ hq)
  clear hp hnw hex hDs
  have hfo : ∀ x ∈ ks, (foL x).length ≤ 4 := fun x _ => fo_len x
  obtain ⟨tl, htl⟩ : ∃ tl, ks.map sgC = tl := ⟨_, rfl⟩
  have htl19 : tl.length ≤ 19 := by rw [← htl, List.length_map]; exact hk19
  have hC : ∀ c ∈ tl, c ∈ allC := by
    intro c hc
    rw [← htl] at hc
    obtain ⟨x, _, rfl⟩ := List.mem_map.mp hc
    exact sg_in x
  have hin : ∀ c ∈ tl, ∃ x ∈ ks, sgC x = c := by
    intro c hc
    rw [← htl] at hc
    obtain ⟨x, hx, rfl⟩ := List.mem_map.mp hc
    exact ⟨x, hx, rfl⟩
  have hbare : (ks.map foL).flatten = prep tl := by
    rw [prep_flat, ← htl, List.map_map]
    congr 1
    apply List.map_congr_left
    intro x _
    exact fo_prep x
  have hpl := prep_len tl hC
  have hql := pq_len tl.length tl (Nat.le_refl _)
  have hqC : ∀ c ∈ pq tl, c ∈ allC := fun c hc => hC c (pq_sub tl c hc)
  have hm3 : ∀ c ∈ tl, (m3 c).length ≤ 100 := fun c hc => by have := (all_c (hC c hc)).1; omega
  have hbl := prep_len (pq tl) hqC
  have hfl := pq_len (prep tl).length (prep tl) (Nat.le_refl _)
  refine wpAny_execs_cons (law_text Ds vs1 ks n1 hk19 hfo ((h₀.objs.size + 1 + 1, o2) :: (h₀.objs.size + 1, o1) :: (Dn, W.listOf (List.toArray us) nn) :: ex) (hpe.mono fun p hp => .tail _ (.tail _ (.tail _ hp))) _ k2signs o1 o2 [] fa cd dp un gd _ _ h₀ _ _ B F  X N T hd hu ?_)
  intro tt h3 tk3 F N; dsimp only
  rw [htl] at F
  obtain ⟨m3, hm3⟩ : ∃ m, m = (fun y => if y = PySem.Str.ofString "text" then some (.str (tx tl) tt) else m2 y) := ⟨_, rfl⟩
  replace F := fr_eq hm3.symm F
  have k3text : m3 (PySem.Str.ofString "text") = some (.str (tx tl) tt) := (congrFun hm3 _).trans (if_pos rfl)
  have k3signs := (congrFun hm3 (PySem.Str.ofString "signs")).trans ((if_neg (by decide +kernel)).trans (k2signs))
  have k3numbers := (congrFun hm3 (PySem.Str.ofString "numbers")).trans ((if_neg (by decide +kernel)).trans (k2numbers))
  clear hm3
  refine wpAny_execs_cons (law_bare Ds vs1 ks n1 hk19 hfo ((h₀.objs.size + 1 + 1, o2) :: (h₀.objs.size + 1, o1) :: (Dn, W.listOf (List.toArray us) nn) :: ex) (hpe.mono fun p hp => .tail _ (.tail _ (.tail _ hp))) _ k3signs o1 o2 [] fa cd dp un gd _ _ h₀ _ _ B F  X N T hd hu ?_)
  intro tb h4 tk4 F N; dsimp only
  rw [hbare] at F
  obtain ⟨m4, hm4⟩ : ∃ m, m = (fun y => if y = PySem.Str.ofString "bare" then some (.str (tx (prep tl)) tb) else m3 y) := ⟨_, rfl⟩
  replace F := fr_eq hm4.symm F
  have k4bare : m4 (PySem.Str.ofString "bare") = some (.str (tx (prep tl)) tb) := (congrFun hm4 _).trans (if_pos rfl)
  have k4text := (congrFun hm4 (PySem.Str.ofString "text")).trans ((if_neg (by decide +kernel)).trans (k3text))
  have k4signs := (congrFun hm4 (PySem.Str.ofString "signs")).trans ((if_neg (by decide +kernel)).trans (k3signs))
  have k4numbers := (congrFun hm4 (PySem.Str.ofString "numbers")).trans ((if_neg (by decide +kernel)).trans (k3numbers))
  clear hm4
  replace N := news_sub ((h₀.objs.size + 1 + 1, o2) :: (h₀.objs.size + 1, o1) :: (Ds, W.listOf (List.toArray vs1) n1) :: (Dn, W.listOf (List.toArray us) nn) :: ex) N (by kcj_all)
  have hnc4 : ∀ p ∈ (Ds, W.listOf (List.toArray vs1) n1) :: (Dn, W.listOf (List.toArray us) nn) :: ex, NC p := by
    intro p hp
    rcases List.mem_cons.mp hp with rfl | hp
    · exact listNC _ _ _
    rcases List.mem_cons.mp hp with rfl | hp
    · exact listNC _ _ _
    exact hnc p hp
  refine wpAny_execs_cons (law_folds0 _ o1 o2 _ fa cd dp un gd _ _ h₀ _ _ B F c1 hnc4 X N T hd hu ?_)
  intro Fd od o1' h5 tk5 hsys hod c1' hFd F N; dsimp only
  replace N := news_sub ((Fd, od) :: (Ds, W.listOf (List.toArray vs1) n1) :: (h₀.objs.size + 1 + 1, o2) :: (h₀.objs.size + 1, o1') :: (Dn, W.listOf (List.toArray us) nn) :: ex) N (by kcj_all)
  have hRd : ∀ p ∈ (Ds, W.listOf (List.toArray vs1) n1) :: (h₀.objs.size + 1 + 1, o2) :: (h₀.objs.size + 1, o1') :: (Dn, W.listOf (List.toArray us) nn) :: ex, p.1 ≠ Fd := by
    intro p hp
    refine hFd p ?_
    revert p
    kcj_all
  refine wpAny_execs_cons (law_fill Fd Ds od vs1 ks n1 hk19 ((Dn, W.listOf (List.toArray us) nn) :: ex) (hpe.mono fun p hp => .tail _ hp) hod _ k4signs o1' o2 [] fa cd dp un gd _ _ h₀ _ _ B F c1' hRd X N T hd hu ?_)
  intro od' m' h6 tk6 hfo2 hm' F N; dsimp only
  have k6bare := (hm' (PySem.Str.ofString "bare") (by decide +kernel) (by decide +kernel)).trans k4bare
  have k6text := (hm' (PySem.Str.ofString "text") (by decide +kernel) (by decide +kernel)).trans k4text
  have k6signs := (hm' (PySem.Str.ofString "signs") (by decide +kernel) (by decide +kernel)).trans k4signs
  have k6numbers := (hm' (PySem.Str.ofString "numbers") (by decide +kernel) (by decide +kernel)).trans k4numbers
  clear hm' hod hRd hFd
  refine wpAny_execs_cons (law_name tl tt htl19 _ k6text o1' o2 _ fa cd dp un gd _ _ h₀ _ _ B F  X N T hd hu ?_)
  intro tn h7 tk7 F N; dsimp only
  obtain ⟨m5, hm5⟩ : ∃ m, m = (fun y => if y = PySem.Str.ofString "name" then some (.str (tx (pq tl)) tn) else m' y) := ⟨_, rfl⟩
  replace F := fr_eq hm5.symm F
  have k5name : m5 (PySem.Str.ofString "name") = some (.str (tx (pq tl)) tn) := (congrFun hm5 _).trans (if_pos rfl)
  have k5bare := (congrFun hm5 (PySem.Str.ofString "bare")).trans ((if_neg (by decide +kernel)).trans (k6bare))
  have k5text := (congrFun hm5 (PySem.Str.ofString "text")).trans ((if_neg (by decide +kernel)).trans (k6text))
  have k5numbers := (congrFun hm5 (PySem.Str.ofString "numbers")).trans ((if_neg (by decide +kernel)).trans (k6numbers))
  clear hm5
  refine wpAny_execs_cons (law_first3 tl tt htl19 hm3 (by omega) _ k5text o1' o2 _ fa cd dp un gd _ _ h₀ _ _ B F  X N T hd hu ?_)
  intro tf h8 tk8 F N; dsimp only
  obtain ⟨m6, hm6⟩ : ∃ m, m = (fun y => if y = PySem.Str.ofString "first" then some (.str (tx (pq (prep tl))) tf) else m5 y) := ⟨_, rfl⟩
  replace F := fr_eq hm6.symm F
  have k6first : m6 (PySem.Str.ofString "first") = some (.str (tx (pq (prep tl))) tf) := (congrFun hm6 _).trans (if_pos rfl)
  have k6name := (congrFun hm6 (PySem.Str.ofString "name")).trans ((if_neg (by decide +kernel)).trans (k5name))
  have k6bare := (congrFun hm6 (PySem.Str.ofString "bare")).trans ((if_neg (by decide +kernel)).trans (k5bare))
  have k6text := (congrFun hm6 (PySem.Str.ofString "text")).trans ((if_neg (by decide +kernel)).trans (k5text))
  have k6numbers := (congrFun hm6 (PySem.Str.ofString "numbers")).trans ((if_neg (by decide +kernel)).trans (k5numbers))
  clear hm6
  refine wpAny_execs_cons (law_behind (pq tl) tn (by omega) (fun c hc => hm3 c (pq_sub tl c hc)) _ k6name o1' o2 _ fa cd dp un gd _ _ h₀ _ _ B F  X N T hd hu ?_)
  intro tbe h9 tk9 F N; dsimp only
  obtain ⟨m7, hm7⟩ : ∃ m, m = (fun y => if y = PySem.Str.ofString "behind" then some (.str (tx (prep (pq tl))) tbe) else m6 y) := ⟨_, rfl⟩
  replace F := fr_eq hm7.symm F
  have k7behind : m7 (PySem.Str.ofString "behind") = some (.str (tx (prep (pq tl))) tbe) := (congrFun hm7 _).trans (if_pos rfl)
  have k7first := (congrFun hm7 (PySem.Str.ofString "first")).trans ((if_neg (by decide +kernel)).trans (k6first))
  have k7name := (congrFun hm7 (PySem.Str.ofString "name")).trans ((if_neg (by decide +kernel)).trans (k6name))
  have k7bare := (congrFun hm7 (PySem.Str.ofString "bare")).trans ((if_neg (by decide +kernel)).trans (k6bare))
  have k7text := (congrFun hm7 (PySem.Str.ofString "text")).trans ((if_neg (by decide +kernel)).trans (k6text))
  have k7numbers := (congrFun hm7 (PySem.Str.ofString "numbers")).trans ((if_neg (by decide +kernel)).trans (k6numbers))
  clear hm7
  refine wpAny_execs_cons (law_cmp9 tl (prep tl) tt tb tn tf (by omega) (by omega) _ k7text k7bare k7name k7first o1' o2 _ fa cd dp un gd _ _ h₀ _ _ B F  X N T hd hu ?_)
  intro h10 tk10 F N; dsimp only
  replace N := news_sub ((Fd, od') :: (h₀.objs.size + 1 + 1, o2) :: (h₀.objs.size + 1, o1') :: (Ds, W.listOf (List.toArray vs1) n1) :: (Dn, W.listOf (List.toArray us) nn) :: ex) N (by kcj_all)
  refine wpAny_execs_cons (law_join10 tl tt tbe (by omega) ks Fd od' hfo2 fo_prep (fun c hc => hin c (pq_sub tl c hc)) (fun c hc => by have := (all_c (hqC c hc)).2.2.2; omega) _ k7text k7behind o1' o2 _ fa cd dp un gd _ _ h₀ _ _ B F c1' X N T hd hu ?_)
  intro h11 tk11 F N; dsimp only
  refine wpAny_execs_cons (law_rest tl (pq tl) tt tn (by omega) (by omega) _ k7text k7name o1' o2 _ fa cd dp un gd _ _ h₀ _ _ B F  X N T hd hu ?_)
  intro tr h12 tk12 F N; dsimp only
  obtain ⟨rl, hrl⟩ : ∃ rl, tl.drop ((pq tl).length + cq (pq tl) + 1) = rl := ⟨_, rfl⟩
  rw [hrl] at F
  have hrm : ∀ c ∈ rl, c ∈ tl := by rw [← hrl]; exact fun c hc => List.mem_of_mem_drop hc
  have hrn : rl.length ≤ 19 := by rw [← hrl, List.length_drop]; omega
  obtain ⟨m8, hm8⟩ : ∃ m, m = (fun y => if y = PySem.Str.ofString "rest" then some (.str (tx rl) tr) else m7 y) := ⟨_, rfl⟩
  replace F := fr_eq hm8.symm F
  have k8rest : m8 (PySem.Str.ofString "rest") = some (.str (tx rl) tr) := (congrFun hm8 _).trans (if_pos rfl)
  have k8behind := (congrFun hm8 (PySem.Str.ofString "behind")).trans ((if_neg (by decide +kernel)).trans (k7behind))
  have k8first := (congrFun hm8 (PySem.Str.ofString "first")).trans ((if_neg (by decide +kernel)).trans (k7first))
  have k8name := (congrFun hm8 (PySem.Str.ofString "name")).trans ((if_neg (by decide +kernel)).trans (k7name))
  have k8text := (congrFun hm8 (PySem.Str.ofString "text")).trans ((if_neg (by decide +kernel)).trans (k7text))
  have k8numbers := (congrFun hm8 (PySem.Str.ofString "numbers")).trans ((if_neg (by decide +kernel)).trans (k7numbers))
  clear hm8
  refine wpAny_execs_cons (law_seen rl tr (by omega) ks Fd od' hfo2 fo_prep (fun c hc => hin c (hrm c hc)) _ k8rest o1' o2 _ fa cd dp un gd _ _ h₀ _ _ B F c1' X N T hd hu ?_)
  intro De ys h13 tk13 hys hDe F N; dsimp only
  obtain ⟨m9, hm9⟩ : ∃ m, m = (fun y => if y = PySem.Str.ofString "seen" then some (.ref De) else m8 y) := ⟨_, rfl⟩
  replace F := fr_eq hm9.symm F
  have k9seen : m9 (PySem.Str.ofString "seen") = some (.ref De) := (congrFun hm9 _).trans (if_pos rfl)
  have k9behind := (congrFun hm9 (PySem.Str.ofString "behind")).trans ((if_neg (by decide +kernel)).trans (k8behind))
  have k9first := (congrFun hm9 (PySem.Str.ofString "first")).trans ((if_neg (by decide +kernel)).trans (k8first))
  have k9name := (congrFun hm9 (PySem.Str.ofString "name")).trans ((if_neg (by decide +kernel)).trans (k8name))
  have k9text := (congrFun hm9 (PySem.Str.ofString "text")).trans ((if_neg (by decide +kernel)).trans (k8text))
  have k9numbers := (congrFun hm9 (PySem.Str.ofString "numbers")).trans ((if_neg (by decide +kernel)).trans (k8numbers))
  clear hm9
  have hsf := seen_fact tl hC
  have hsl : seenL tl = (rl.filter seenB).map fun c => [c] := by unfold seenL; rw [hrl]
  rw [← hsl] at hys
  have hs1 : ∀ z ∈ seenL tl, ∃ c, z = [c] ∧ c < 1114112 := by
    rw [hsl]
    intro z hz
    obtain ⟨c, hc, rfl⟩ := List.mem_map.mp hz
    exact ⟨c, rfl, (all_c (hC c (hrm c (List.mem_filter.mp hc).1))).2.1⟩
  have hsn : (seenL tl).length ≤ 19 := by
    rw [hsl, List.length_map]; exact Nat.le_trans (List.length_filter_le _ _) hrn
  refine wpAny_execs_cons (law_seen13 (seenL tl) (pq (prep tl)) (prep (pq tl)) tf tbe (by omega) (by omega) De ys _ hys (by omega) hs1 hsf.1 _ k9seen k9first k9behind o1' o2 _ fa cd dp un gd _ _ h₀ _ _ B F  X N T hd hu ?_)
  intro h14 tk14 F N; dsimp only
  replace N := news_sub ((h₀.objs.size + 1 + 1, o2) :: (h₀.objs.size + 1, o1') :: (Dn, W.listOf (List.toArray us) nn) :: []) N (by kcj_all)
  have hnc14 : ∀ p ∈ [(Dn, W.listOf (List.toArray us) nn)], NC p := by
    intro p hp
    rw [List.mem_singleton.mp hp]
    exact listNC _ _ _
  refine wpAny_execs_cons (law_leads (pq tl) (pq (prep tl)) tn tf (by omega) (by omega) _ k9name k9first o1' o2 _ fa cd dp un gd _ _ h₀ _ _ B F c2 hnc14 X N T hd hu ?_)
  intro Dl u0 u1 nL o2' h15 tk15 c2' hDl F N; dsimp only
  have hld := ld_first tl hC
  obtain ⟨m, hm⟩ := ld_prep (pq tl)
  exact law_late (pq tl) (pq (prep tl)) (prep (pq tl)) tn tf tbe (by omega) (by omega) (by omega) hld _ _ m rfl rfl (hld.trans hm) tl tt htl19 hC rfl Dn us ks nn hi1 hk19 hks Dl u0 u1 nL _ k9name k9first k9behind k9text k9numbers o1' o2' fa cd dp un gd h₀ _ Q B F c2' X N T hd hu hret
end
end Hd
end
end
section
open PySem PySem.W PySem.Calls PyProof.Rows
set_option maxRecDepth 100000
set_option maxHeartbeats 8000000
noncomputable section
namespace Hd
local macro_rules | `(tactic| k_qdec) => `(tactic| decide +kernel)
theorem fin : rw'.Holds := by
  w_top off
  refine head0 (by rfl) (by rfl) (by rfl) ?_
  w_strict k_go0
  rename_i hh
  with_unfolding_all (change wpAny (model pr _) (callerA.deeper (envOfC (PySem.Str.ofString "law") (fScope (st 18)) _ _ _)) (execs (fBody (st 18)) (envOfC (PySem.Str.ofString "law") (fScope (st 18)) _ _ _)) _ _ _)
  clear hh
  refine wpAny_noRaise ?_
  with_unfolding_all refine' law_body _ _ _ _ _ ?hi ?hl _ _ _ _ _ _ _ _ ?B ?F ?c2 ?c1 ?X ?N ?T ?l ?d ?u ?r
  case B => with_unfolding_all assumption
  case F => with_unfolding_all assumption
  case N => with_unfolding_all assumption
  case hi => assumption
  case hl => assumption
  case c2 => with_unfolding_all assumption
  case c1 => with_unfolding_all assumption
  case X => assumption
  case T => assumption
  case l => assumption
  case d => decide
  case u => decide
  case r =>
    intro m' h' tk' Fx
    k_steps
end Hd
end
end
set_option maxRecDepth 100000 in
theorem PySem.Challenge.cw_tr0065_03_holds : PySem.Challenge.rw_tr0065_03.Holds :=
  Hd.fin
