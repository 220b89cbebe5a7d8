import PyProof.Rows.All
import Wide.All
import OpenK.AllK
import Wide.FinOn
import Lean
import PySem.Challenge.RW_sc0084_01
section
open PySem PySem.W PySem.Calls PyProof.Rows
set_option Elab.async false
set_option maxRecDepth 100000
set_option maxHeartbeats 4000000
namespace Mine
noncomputable section
noncomputable abbrev pw : Program := PySem.Challenge.pw_sc0084_01
noncomputable def noSt : Stmt := .Pass ⟨0, 0, 0, 0⟩
noncomputable def st (i : Nat) : Stmt := (pw.main.body[i]?).getD noSt
noncomputable def clsB : Stmt → List Stmt
  | .ClassDef _ _ _ b _ _ _ _ _ _ _ => b
  | _ => []
noncomputable def cst (i : Nat) : Stmt := ((clsB (st 4))[i]?).getD noSt
noncomputable def fP : Stmt → Arguments
  | .FunctionDef _ a _ _ _ _ _ _ _ _ => a
  | _ => default
noncomputable def fB : Stmt → List Stmt
  | .FunctionDef _ _ b _ _ _ _ _ _ _ => b
  | _ => []
noncomputable def fS : Stmt → Scope
  | .FunctionDef _ _ _ _ _ _ s _ _ _ => s
  | _ => default
noncomputable def dictK : Stmt → List (Option Expr)
  | .Assign _ (.Dict ks _ _) _ => ks
  | _ => []
noncomputable def dictV : Stmt → List Expr
  | .Assign _ (.Dict _ vs _) _ => vs
  | _ => []
noncomputable def unK : Option Expr → Int × Pos
  | some (.Constant (.int k) _ p) => (k, p)
  | _ => (0, ⟨0, 0, 0, 0⟩)
noncomputable def unV : Expr → Str × Pos
  | .Constant (.str s) _ p => (s, p)
  | _ => (Str.mk #[], ⟨0, 0, 0, 0⟩)
/-- the table's entries as data -/
noncomputable def b3L : List ((Int × Pos) × (Str × Pos)) := ((dictK (st 8)).map unK).zip ((dictV (st 8)).map unV)
/-- entries whose key, value and hash take three tokens each -/
noncomputable def entA : List ((Int × Pos) × (Str × Pos)) → Nat → List DictEntry
  | [], _ => []
  | x :: r, t => ⟨x.1.1, .int x.1.1 t, .str x.2.1 (t + 1)⟩ :: entA r (t + 3)
/-- entries of a short display: two tokens each -/
noncomputable def entB : List ((Int × Pos) × (Str × Pos)) → Nat → List DictEntry
  | [], _ => []
  | x :: r, t => ⟨x.1.1, .int x.1.1 t, .str x.2.1 (t + 1)⟩ :: entB r (t + 2)
noncomputable def b3E : List DictEntry := entA (b3L.take 646) 335 ++ entB (b3L.drop 646) 2273
noncomputable def b3main (_ : Params) : Obj := ⟨.type "dict", none, .dict b3E.toArray 650, #[]⟩
noncomputable def b3sub (j : Nat) (_ : Params) : Obj := ⟨.type "dict", none, .dict ((b3E.drop (17 * j)).take 17).toArray ((b3E.drop (17 * j)).take 17).length, #[]⟩
noncomputable def env0 : Env := { scope := pw.main.scope, locals := mainNs, globals := mainNs, cells := [], code := .ref 13, frame := some 14 }
noncomputable def cE : Code := .body (behindTheImports pw) env0
noncomputable abbrev qP : Pos := ⟨0, 0, 0, 0⟩
noncomputable abbrev BB : List Frame := [topFrame qP]
noncomputable def oba_11 (P : Params) : Obj := ⟨(.type "tuple"), none, (.seq #[] 0), #[]⟩
noncomputable def oba_12 (P : Params) : Obj := ⟨.none, none, (.fields #[]), #[]⟩
noncomputable def oba_13 (P : Params) : Obj := ⟨(.type "code"), none, (.fields #[(.str (Str.ofString "<module>") 182), (.str (Str.ofString "<module>") 183), (.str (Str.ofString "/claim/cut.py") 184), (.int 1 0), (.int 0 0), (.int 0 0), (.int 0 0), (.int 0 0), (.ref 11), (.bool false), (.int 181 0), (.ref 12), .none, .none, .none, .none, (.int 185 0), (.int 1 0), (.str (Str.ofString "/claim/cut.py") 186)]), #[]⟩
noncomputable def oba_14 (P : Params) : Obj := ⟨(.type "frame"), none, .plain, #[(some (.ref 13)), (some (.ref 3)), (some (.ref 3)), none, (some (.str (Str.ofString "__main__") 164)), none, (some (.ref 0))]⟩
noncomputable def tra (P : Params) : BT := (.node (boot_o_0 P) (.node (boot_o_1 P) (.node (boot_o_3 P) (.node (boot_o_7 P) .nil .nil) (.node (oba_11 P) .nil .nil)) (.node (boot_o_5 P) (.node (boot_o_9 P) .nil .nil) (.node (oba_13 P) .nil .nil))) (.node (boot_o_2 P) (.node (boot_o_4 P) (.node (boot_o_8 P) .nil .nil) (.node (oba_12 P) .nil .nil)) (.node (boot_o_6 P) (.node (boot_o_10 P) .nil .nil) (.node (oba_14 P) .nil .nil))))
noncomputable abbrev sza : Nat := 15
noncomputable abbrev tka : Nat := 187
noncomputable abbrev psa : Pos := ⟨0, 0, 0, 0⟩
noncomputable abbrev nsta : Nat := 12
noncomputable def ob1_3 (P : Params) : Obj := ⟨(.type "dict"), none, (.dict #[⟨PyData.keyHash P (Str.ofString "__name__"), (.str (Str.ofString "__name__") 165), (.str (Str.ofString "__main__") 164)⟩, ⟨PyData.keyHash P (Str.ofString "__doc__"), (.str (Str.ofString "__doc__") 166), .none⟩, ⟨PyData.keyHash P (Str.ofString "__package__"), (.str (Str.ofString "__package__") 167), .none⟩, ⟨PyData.keyHash P (Str.ofString "__loader__"), (.str (Str.ofString "__loader__") 168), (.builtin "__main__.__loader__#opaque")⟩, ⟨PyData.keyHash P (Str.ofString "__spec__"), (.str (Str.ofString "__spec__") 169), .none⟩, ⟨PyData.keyHash P (Str.ofString "__annotations__"), (.str (Str.ofString "__annotations__") 170), (.ref 6)⟩, ⟨PyData.keyHash P (Str.ofString "__builtins__"), (.str (Str.ofString "__builtins__") 171), (.ref 4)⟩, ⟨PyData.keyHash P (Str.ofString "__file__"), (.str (Str.ofString "__file__") 173), (.str (Str.ofString "/claim/cut.py") 172)⟩, ⟨PyData.keyHash P (Str.ofString "__cached__"), (.str (Str.ofString "__cached__") 174), .none⟩, ⟨PyData.keyHash P (Str.ofString "_wall"), (.str (Str.ofString "_wall") 193), (.ref 21)⟩] 10), #[]⟩
noncomputable def ob1_12 (P : Params) : Obj := ⟨.none, none, (.fields #[(.int 1 0), (.int 0 0), (.ref 20)]), #[]⟩
noncomputable def ob1_15 (P : Params) : Obj := ⟨(.type "tuple"), none, (.seq #[] 0), #[]⟩
noncomputable def ob1_16 (P : Params) : Obj := ⟨.none, none, (.fields #[]), #[]⟩
noncomputable def ob1_17 (P : Params) : Obj := ⟨(.type "tuple"), none, (.seq #[(.str (Str.ofString "k") 190)] 0), #[]⟩
noncomputable def ob1_18 (P : Params) : Obj := ⟨(.type "tuple"), none, (.seq #[] 0), #[]⟩
noncomputable def ob1_19 (P : Params) : Obj := ⟨.none, none, (.func { name := (Str.ofString "_wall"), qualname := (Str.ofString "_wall"), params := fP (st 0), body := .stmts (fB (st 0)), scope := fS (st 0), globals := 0, closure := [], defaults := .none, kwdefaults := .none, doc := .none, pyModule := .none, annotations := none, code := .none, closureTuple := .none, builtins := 0 }), #[]⟩
noncomputable def ob1_20 (P : Params) : Obj := ⟨(.type "code"), none, (.fields #[(.str (Str.ofString "_wall") 187), (.str (Str.ofString "_wall") 188), (.str (Str.ofString "/claim/cut.py") 189), (.int 1 0), (.int 1 0), (.int 0 0), (.int 0 0), (.int 3 0), (.ref 15), (.bool true), (.int 181 0), (.ref 16), .none, (.ref 17), (.ref 18), (.ref 19), (.int 191 0), (.int 1 0), (.str (Str.ofString "/claim/cut.py") 192)]), #[]⟩
noncomputable def ob1_21 (P : Params) : Obj := ⟨(.type "function"), none, (.func { name := (Str.ofString "_wall"), qualname := (Str.ofString "_wall"), params := fP (st 0), body := .stmts (fB (st 0)), scope := fS (st 0), globals := 3, closure := [], defaults := .none, kwdefaults := .none, doc := .none, pyModule := (.str (Str.ofString "__main__") 164), annotations := none, code := (.ref 20), closureTuple := .none, builtins := 0 }), #[]⟩
noncomputable def tr1 (P : Params) : BT := (.node (boot_o_0 P) (.node (boot_o_1 P) (.node (ob1_3 P) (.node (boot_o_7 P) (.node (ob1_15 P) .nil .nil) .nil) (.node (oba_11 P) (.node (ob1_19 P) .nil .nil) .nil)) (.node (boot_o_5 P) (.node (boot_o_9 P) (.node (ob1_17 P) .nil .nil) .nil) (.node (oba_13 P) (.node (ob1_21 P) .nil .nil) .nil))) (.node (boot_o_2 P) (.node (boot_o_4 P) (.node (boot_o_8 P) (.node (ob1_16 P) .nil .nil) .nil) (.node (ob1_12 P) (.node (ob1_20 P) .nil .nil) .nil)) (.node (boot_o_6 P) (.node (boot_o_10 P) (.node (ob1_18 P) .nil .nil) .nil) (.node (oba_14 P) .nil .nil))))
noncomputable abbrev sz1 : Nat := 22
noncomputable abbrev tk1 : Nat := 194
noncomputable abbrev ps1 : Pos := ⟨1, 0, 3, 12⟩
noncomputable abbrev nst1 : Nat := 29
noncomputable def ob2_3 (P : Params) : Obj := ⟨(.type "dict"), none, (.dict #[⟨PyData.keyHash P (Str.ofString "__name__"), (.str (Str.ofString "__name__") 165), (.str (Str.ofString "cpy313.doctest") 194)⟩, ⟨PyData.keyHash P (Str.ofString "__doc__"), (.str (Str.ofString "__doc__") 166), .none⟩, ⟨PyData.keyHash P (Str.ofString "__package__"), (.str (Str.ofString "__package__") 167), .none⟩, ⟨PyData.keyHash P (Str.ofString "__loader__"), (.str (Str.ofString "__loader__") 168), (.builtin "__main__.__loader__#opaque")⟩, ⟨PyData.keyHash P (Str.ofString "__spec__"), (.str (Str.ofString "__spec__") 169), .none⟩, ⟨PyData.keyHash P (Str.ofString "__annotations__"), (.str (Str.ofString "__annotations__") 170), (.ref 6)⟩, ⟨PyData.keyHash P (Str.ofString "__builtins__"), (.str (Str.ofString "__builtins__") 171), (.ref 4)⟩, ⟨PyData.keyHash P (Str.ofString "__file__"), (.str (Str.ofString "__file__") 173), (.str (Str.ofString "/claim/cut.py") 172)⟩, ⟨PyData.keyHash P (Str.ofString "__cached__"), (.str (Str.ofString "__cached__") 174), .none⟩, ⟨PyData.keyHash P (Str.ofString "_wall"), (.str (Str.ofString "_wall") 193), (.ref 21)⟩] 10), #[]⟩
noncomputable def tr2 (P : Params) : BT := (.node (boot_o_0 P) (.node (boot_o_1 P) (.node (ob2_3 P) (.node (boot_o_7 P) (.node (ob1_15 P) .nil .nil) .nil) (.node (oba_11 P) (.node (ob1_19 P) .nil .nil) .nil)) (.node (boot_o_5 P) (.node (boot_o_9 P) (.node (ob1_17 P) .nil .nil) .nil) (.node (oba_13 P) (.node (ob1_21 P) .nil .nil) .nil))) (.node (boot_o_2 P) (.node (boot_o_4 P) (.node (boot_o_8 P) (.node (ob1_16 P) .nil .nil) .nil) (.node (ob1_12 P) (.node (ob1_20 P) .nil .nil) .nil)) (.node (boot_o_6 P) (.node (boot_o_10 P) (.node (ob1_18 P) .nil .nil) .nil) (.node (oba_14 P) .nil .nil))))
noncomputable abbrev sz2 : Nat := 22
noncomputable abbrev tk2 : Nat := 196
noncomputable abbrev ps2 : Pos := ⟨4, 0, 4, 8⟩
noncomputable abbrev nst2 : Nat := 9
noncomputable def ob3_3 (P : Params) : Obj := ⟨(.type "dict"), none, (.dict #[⟨PyData.keyHash P (Str.ofString "__name__"), (.str (Str.ofString "__name__") 165), (.str (Str.ofString "cpy313.doctest") 194)⟩, ⟨PyData.keyHash P (Str.ofString "__doc__"), (.str (Str.ofString "__doc__") 166), .none⟩, ⟨PyData.keyHash P (Str.ofString "__package__"), (.str (Str.ofString "__package__") 167), .none⟩, ⟨PyData.keyHash P (Str.ofString "__loader__"), (.str (Str.ofString "__loader__") 168), (.builtin "__main__.__loader__#opaque")⟩, ⟨PyData.keyHash P (Str.ofString "__spec__"), (.str (Str.ofString "__spec__") 169), .none⟩, ⟨PyData.keyHash P (Str.ofString "__annotations__"), (.str (Str.ofString "__annotations__") 170), (.ref 6)⟩, ⟨PyData.keyHash P (Str.ofString "__builtins__"), (.str (Str.ofString "__builtins__") 171), (.ref 4)⟩, ⟨PyData.keyHash P (Str.ofString "__file__"), (.str (Str.ofString "__file__") 173), (.str (Str.ofString "/claim/cut.py") 172)⟩, ⟨PyData.keyHash P (Str.ofString "__cached__"), (.str (Str.ofString "__cached__") 174), .none⟩, ⟨PyData.keyHash P (Str.ofString "_wall"), (.str (Str.ofString "_wall") 193), (.ref 21)⟩, ⟨PyData.keyHash P (Str.ofString "_strip_exception_details"), (.str (Str.ofString "_strip_exception_details") 205), (.ref 28)⟩] 11), #[]⟩
noncomputable def ob3_12 (P : Params) : Obj := ⟨.none, none, (.fields #[(.int 1 0), (.int 0 0), (.ref 20), (.int 5 0), (.int 0 0), (.ref 27)]), #[]⟩
noncomputable def ob3_22 (P : Params) : Obj := ⟨(.type "tuple"), none, (.seq #[] 0), #[]⟩
noncomputable def ob3_23 (P : Params) : Obj := ⟨.none, none, (.fields #[]), #[]⟩
noncomputable def ob3_24 (P : Params) : Obj := ⟨(.type "tuple"), none, (.seq #[(.str (Str.ofString "msg") 199), (.str (Str.ofString "start") 200), (.str (Str.ofString "end") 201), (.str (Str.ofString "i") 202)] 0), #[]⟩
noncomputable def ob3_25 (P : Params) : Obj := ⟨(.type "tuple"), none, (.seq #[] 0), #[]⟩
noncomputable def ob3_26 (P : Params) : Obj := ⟨.none, none, (.func { name := (Str.ofString "_strip_exception_details"), qualname := (Str.ofString "_strip_exception_details"), params := fP (st 2), body := .stmts (fB (st 2)), scope := fS (st 2), globals := 0, closure := [], defaults := .none, kwdefaults := .none, doc := .none, pyModule := .none, annotations := none, code := .none, closureTuple := .none, builtins := 0 }), #[]⟩
noncomputable def ob3_27 (P : Params) : Obj := ⟨(.type "code"), none, (.fields #[(.str (Str.ofString "_strip_exception_details") 196), (.str (Str.ofString "_strip_exception_details") 197), (.str (Str.ofString "/claim/cut.py") 198), (.int 5 0), (.int 1 0), (.int 0 0), (.int 0 0), (.int 3 0), (.ref 22), (.bool true), (.int 181 0), (.ref 23), .none, (.ref 24), (.ref 25), (.ref 26), (.int 203 0), (.int 5 0), (.str (Str.ofString "/claim/cut.py") 204)]), #[]⟩
noncomputable def ob3_28 (P : Params) : Obj := ⟨(.type "function"), none, (.func { name := (Str.ofString "_strip_exception_details"), qualname := (Str.ofString "_strip_exception_details"), params := fP (st 2), body := .stmts (fB (st 2)), scope := fS (st 2), globals := 3, closure := [], defaults := .none, kwdefaults := .none, doc := .none, pyModule := (.str (Str.ofString "cpy313.doctest") 194), annotations := none, code := (.ref 27), closureTuple := .none, builtins := 0 }), #[]⟩
noncomputable def tr3 (P : Params) : BT := (.node (boot_o_0 P) (.node (boot_o_1 P) (.node (ob3_3 P) (.node (boot_o_7 P) (.node (ob1_15 P) .nil .nil) (.node (ob3_23 P) .nil .nil)) (.node (oba_11 P) (.node (ob1_19 P) .nil .nil) (.node (ob3_27 P) .nil .nil))) (.node (boot_o_5 P) (.node (boot_o_9 P) (.node (ob1_17 P) .nil .nil) (.node (ob3_25 P) .nil .nil)) (.node (oba_13 P) (.node (ob1_21 P) .nil .nil) .nil))) (.node (boot_o_2 P) (.node (boot_o_4 P) (.node (boot_o_8 P) (.node (ob1_16 P) .nil .nil) (.node (ob3_24 P) .nil .nil)) (.node (ob3_12 P) (.node (ob1_20 P) .nil .nil) (.node (ob3_28 P) .nil .nil))) (.node (boot_o_6 P) (.node (boot_o_10 P) (.node (ob1_18 P) .nil .nil) (.node (ob3_26 P) .nil .nil)) (.node (oba_14 P) (.node (ob3_22 P) .nil .nil) .nil))))
noncomputable abbrev sz3 : Nat := 29
noncomputable abbrev tk3 : Nat := 206
noncomputable abbrev ps3 : Pos := ⟨5, 0, 16, 25⟩
noncomputable abbrev nst3 : Nat := 32
noncomputable def ob4_3 (P : Params) : Obj := ⟨(.type "dict"), none, (.dict #[⟨PyData.keyHash P (Str.ofString "__name__"), (.str (Str.ofString "__name__") 165), (.str (Str.ofString "cpy313.netrc") 206)⟩, ⟨PyData.keyHash P (Str.ofString "__doc__"), (.str (Str.ofString "__doc__") 166), .none⟩, ⟨PyData.keyHash P (Str.ofString "__package__"), (.str (Str.ofString "__package__") 167), .none⟩, ⟨PyData.keyHash P (Str.ofString "__loader__"), (.str (Str.ofString "__loader__") 168), (.builtin "__main__.__loader__#opaque")⟩, ⟨PyData.keyHash P (Str.ofString "__spec__"), (.str (Str.ofString "__spec__") 169), .none⟩, ⟨PyData.keyHash P (Str.ofString "__annotations__"), (.str (Str.ofString "__annotations__") 170), (.ref 6)⟩, ⟨PyData.keyHash P (Str.ofString "__builtins__"), (.str (Str.ofString "__builtins__") 171), (.ref 4)⟩, ⟨PyData.keyHash P (Str.ofString "__file__"), (.str (Str.ofString "__file__") 173), (.str (Str.ofString "/claim/cut.py") 172)⟩, ⟨PyData.keyHash P (Str.ofString "__cached__"), (.str (Str.ofString "__cached__") 174), .none⟩, ⟨PyData.keyHash P (Str.ofString "_wall"), (.str (Str.ofString "_wall") 193), (.ref 21)⟩, ⟨PyData.keyHash P (Str.ofString "_strip_exception_details"), (.str (Str.ofString "_strip_exception_details") 205), (.ref 28)⟩] 11), #[]⟩
noncomputable def tr4 (P : Params) : BT := (.node (boot_o_0 P) (.node (boot_o_1 P) (.node (ob4_3 P) (.node (boot_o_7 P) (.node (ob1_15 P) .nil .nil) (.node (ob3_23 P) .nil .nil)) (.node (oba_11 P) (.node (ob1_19 P) .nil .nil) (.node (ob3_27 P) .nil .nil))) (.node (boot_o_5 P) (.node (boot_o_9 P) (.node (ob1_17 P) .nil .nil) (.node (ob3_25 P) .nil .nil)) (.node (oba_13 P) (.node (ob1_21 P) .nil .nil) .nil))) (.node (boot_o_2 P) (.node (boot_o_4 P) (.node (boot_o_8 P) (.node (ob1_16 P) .nil .nil) (.node (ob3_24 P) .nil .nil)) (.node (ob3_12 P) (.node (ob1_20 P) .nil .nil) (.node (ob3_28 P) .nil .nil))) (.node (boot_o_6 P) (.node (boot_o_10 P) (.node (ob1_18 P) .nil .nil) (.node (ob3_26 P) .nil .nil)) (.node (oba_14 P) (.node (ob3_22 P) .nil .nil) .nil))))
noncomputable abbrev sz4 : Nat := 29
noncomputable abbrev tk4 : Nat := 208
noncomputable abbrev ps4 : Pos := ⟨17, 0, 17, 8⟩
noncomputable abbrev nst4 : Nat := 9
noncomputable def ob5_3 (P : Params) : Obj := ⟨(.type "dict"), none, (.dict #[⟨PyData.keyHash P (Str.ofString "__name__"), (.str (Str.ofString "__name__") 165), (.str (Str.ofString "cpy313.netrc") 206)⟩, ⟨PyData.keyHash P (Str.ofString "__doc__"), (.str (Str.ofString "__doc__") 166), .none⟩, ⟨PyData.keyHash P (Str.ofString "__package__"), (.str (Str.ofString "__package__") 167), .none⟩, ⟨PyData.keyHash P (Str.ofString "__loader__"), (.str (Str.ofString "__loader__") 168), (.builtin "__main__.__loader__#opaque")⟩, ⟨PyData.keyHash P (Str.ofString "__spec__"), (.str (Str.ofString "__spec__") 169), .none⟩, ⟨PyData.keyHash P (Str.ofString "__annotations__"), (.str (Str.ofString "__annotations__") 170), (.ref 6)⟩, ⟨PyData.keyHash P (Str.ofString "__builtins__"), (.str (Str.ofString "__builtins__") 171), (.ref 4)⟩, ⟨PyData.keyHash P (Str.ofString "__file__"), (.str (Str.ofString "__file__") 173), (.str (Str.ofString "/claim/cut.py") 172)⟩, ⟨PyData.keyHash P (Str.ofString "__cached__"), (.str (Str.ofString "__cached__") 174), .none⟩, ⟨PyData.keyHash P (Str.ofString "_wall"), (.str (Str.ofString "_wall") 193), (.ref 21)⟩, ⟨PyData.keyHash P (Str.ofString "_strip_exception_details"), (.str (Str.ofString "_strip_exception_details") 205), (.ref 28)⟩, ⟨PyData.keyHash P (Str.ofString "_netrclex"), (.str (Str.ofString "_netrclex") 265), (.ref 66)⟩] 12), #[]⟩
noncomputable def ob5_12 (P : Params) : Obj := ⟨.none, none, (.fields #[(.int 1 0), (.int 0 0), (.ref 20), (.int 5 0), (.int 0 0), (.ref 27), (.int 18 0), (.int 0 0), (.ref 34)]), #[]⟩
noncomputable def ob5_29 (P : Params) : Obj := ⟨(.type "tuple"), none, (.seq #[] 0), #[]⟩
noncomputable def ob5_30 (P : Params) : Obj := ⟨(.type "builtin_function_or_method"), none, (.fields #[(.builtin "type.__prepare__"), (.type "type")]), #[]⟩
noncomputable def ob5_31 (P : Params) : Obj := ⟨(.type "dict"), none, (.dict #[⟨PyData.keyHash P (Str.ofString "__module__"), (.str (Str.ofString "__module__") 215), (.str (Str.ofString "cpy313.netrc") 206)⟩, ⟨PyData.keyHash P (Str.ofString "__qualname__"), (.str (Str.ofString "__qualname__") 217), (.str (Str.ofString "_netrclex") 216)⟩, ⟨PyData.keyHash P (Str.ofString "__firstlineno__"), (.str (Str.ofString "__firstlineno__") 219), (.int 18 218)⟩, ⟨PyData.keyHash P (Str.ofString "__init__"), (.str (Str.ofString "__init__") 227), (.ref 42)⟩, ⟨PyData.keyHash P (Str.ofString "_read_char"), (.str (Str.ofString "_read_char") 235), (.ref 49)⟩, ⟨PyData.keyHash P (Str.ofString "get_token"), (.str (Str.ofString "get_token") 245), (.ref 56)⟩, ⟨PyData.keyHash P (Str.ofString "push_token"), (.str (Str.ofString "push_token") 253), (.ref 63)⟩, ⟨PyData.keyHash P (Str.ofString "__static_attributes__"), (.str (Str.ofString "__static_attributes__") 258), (.ref 64)⟩] 8), #[]⟩
noncomputable def ob5_32 (P : Params) : Obj := ⟨(.type "tuple"), none, (.seq #[] 0), #[]⟩
noncomputable def ob5_33 (P : Params) : Obj := ⟨.none, none, (.fields #[(.int 20 0), (.int 4 0), (.ref 41), (.int 26 0), (.int 4 0), (.ref 48), (.int 32 0), (.int 4 0), (.ref 55), (.int 59 0), (.int 4 0), (.ref 62)]), #[]⟩
noncomputable def ob5_34 (P : Params) : Obj := ⟨(.type "code"), none, (.fields #[(.str (Str.ofString "_netrclex") 210), (.str (Str.ofString "_netrclex") 211), (.str (Str.ofString "/claim/cut.py") 212), (.int 18 0), (.int 0 0), (.int 0 0), (.int 0 0), (.int 0 0), (.ref 32), (.bool false), (.int 181 0), (.ref 33), .none, .none, .none, .none, (.int 213 0), (.int 18 0), (.str (Str.ofString "/claim/cut.py") 214)]), #[]⟩
noncomputable def ob5_35 (P : Params) : Obj := ⟨(.type "frame"), none, .plain, #[(some (.ref 34)), (some (.ref 3)), (some (.ref 31)), none, (some (.str (Str.ofString "cpy313.netrc") 206)), none, (some (.ref 0))]⟩
noncomputable def ob5_36 (P : Params) : Obj := ⟨(.type "tuple"), none, (.seq #[] 0), #[]⟩
noncomputable def ob5_37 (P : Params) : Obj := ⟨.none, none, (.fields #[]), #[]⟩
noncomputable def ob5_38 (P : Params) : Obj := ⟨(.type "tuple"), none, (.seq #[(.str (Str.ofString "self") 223), (.str (Str.ofString "fp") 224)] 0), #[]⟩
noncomputable def ob5_39 (P : Params) : Obj := ⟨(.type "tuple"), none, (.seq #[] 0), #[]⟩
noncomputable def ob5_40 (P : Params) : Obj := ⟨.none, none, (.func { name := (Str.ofString "__init__"), qualname := (Str.ofString "_netrclex.__init__"), params := fP (cst 0), body := .stmts (fB (cst 0)), scope := fS (cst 0), globals := 0, closure := [], defaults := .none, kwdefaults := .none, doc := .none, pyModule := .none, annotations := none, code := .none, closureTuple := .none, builtins := 0 }), #[]⟩
noncomputable def ob5_41 (P : Params) : Obj := ⟨(.type "code"), none, (.fields #[(.str (Str.ofString "__init__") 220), (.str (Str.ofString "_netrclex.__init__") 221), (.str (Str.ofString "/claim/cut.py") 222), (.int 20 0), (.int 2 0), (.int 0 0), (.int 0 0), (.int 3 0), (.ref 36), (.bool true), (.int 181 0), (.ref 37), .none, (.ref 38), (.ref 39), (.ref 40), (.int 225 0), (.int 20 0), (.str (Str.ofString "/claim/cut.py") 226)]), #[]⟩
noncomputable def ob5_42 (P : Params) : Obj := ⟨(.type "function"), none, (.func { name := (Str.ofString "__init__"), qualname := (Str.ofString "_netrclex.__init__"), params := fP (cst 0), body := .stmts (fB (cst 0)), scope := fS (cst 0), globals := 3, closure := [], defaults := .none, kwdefaults := .none, doc := .none, pyModule := (.str (Str.ofString "cpy313.netrc") 206), annotations := none, code := (.ref 41), closureTuple := .none, builtins := 0 }), #[]⟩
noncomputable def ob5_43 (P : Params) : Obj := ⟨(.type "tuple"), none, (.seq #[] 0), #[]⟩
noncomputable def ob5_44 (P : Params) : Obj := ⟨.none, none, (.fields #[]), #[]⟩
noncomputable def ob5_45 (P : Params) : Obj := ⟨(.type "tuple"), none, (.seq #[(.str (Str.ofString "self") 231), (.str (Str.ofString "ch") 232)] 0), #[]⟩
noncomputable def ob5_46 (P : Params) : Obj := ⟨(.type "tuple"), none, (.seq #[] 0), #[]⟩
noncomputable def ob5_47 (P : Params) : Obj := ⟨.none, none, (.func { name := (Str.ofString "_read_char"), qualname := (Str.ofString "_netrclex._read_char"), params := fP (cst 1), body := .stmts (fB (cst 1)), scope := fS (cst 1), globals := 0, closure := [], defaults := .none, kwdefaults := .none, doc := .none, pyModule := .none, annotations := none, code := .none, closureTuple := .none, builtins := 0 }), #[]⟩
noncomputable def ob5_48 (P : Params) : Obj := ⟨(.type "code"), none, (.fields #[(.str (Str.ofString "_read_char") 228), (.str (Str.ofString "_netrclex._read_char") 229), (.str (Str.ofString "/claim/cut.py") 230), (.int 26 0), (.int 1 0), (.int 0 0), (.int 0 0), (.int 3 0), (.ref 43), (.bool true), (.int 181 0), (.ref 44), .none, (.ref 45), (.ref 46), (.ref 47), (.int 233 0), (.int 26 0), (.str (Str.ofString "/claim/cut.py") 234)]), #[]⟩
noncomputable def ob5_49 (P : Params) : Obj := ⟨(.type "function"), none, (.func { name := (Str.ofString "_read_char"), qualname := (Str.ofString "_netrclex._read_char"), params := fP (cst 1), body := .stmts (fB (cst 1)), scope := fS (cst 1), globals := 3, closure := [], defaults := .none, kwdefaults := .none, doc := .none, pyModule := (.str (Str.ofString "cpy313.netrc") 206), annotations := none, code := (.ref 48), closureTuple := .none, builtins := 0 }), #[]⟩
noncomputable def ob5_50 (P : Params) : Obj := ⟨(.type "tuple"), none, (.seq #[] 0), #[]⟩
noncomputable def ob5_51 (P : Params) : Obj := ⟨.none, none, (.fields #[]), #[]⟩
noncomputable def ob5_52 (P : Params) : Obj := ⟨(.type "tuple"), none, (.seq #[(.str (Str.ofString "self") 239), (.str (Str.ofString "token") 240), (.str (Str.ofString "fiter") 241), (.str (Str.ofString "ch") 242)] 0), #[]⟩
noncomputable def ob5_53 (P : Params) : Obj := ⟨(.type "tuple"), none, (.seq #[] 0), #[]⟩
noncomputable def ob5_54 (P : Params) : Obj := ⟨.none, none, (.func { name := (Str.ofString "get_token"), qualname := (Str.ofString "_netrclex.get_token"), params := fP (cst 2), body := .stmts (fB (cst 2)), scope := fS (cst 2), globals := 0, closure := [], defaults := .none, kwdefaults := .none, doc := .none, pyModule := .none, annotations := none, code := .none, closureTuple := .none, builtins := 0 }), #[]⟩
noncomputable def ob5_55 (P : Params) : Obj := ⟨(.type "code"), none, (.fields #[(.str (Str.ofString "get_token") 236), (.str (Str.ofString "_netrclex.get_token") 237), (.str (Str.ofString "/claim/cut.py") 238), (.int 32 0), (.int 1 0), (.int 0 0), (.int 0 0), (.int 3 0), (.ref 50), (.bool true), (.int 181 0), (.ref 51), .none, (.ref 52), (.ref 53), (.ref 54), (.int 243 0), (.int 32 0), (.str (Str.ofString "/claim/cut.py") 244)]), #[]⟩
noncomputable def ob5_56 (P : Params) : Obj := ⟨(.type "function"), none, (.func { name := (Str.ofString "get_token"), qualname := (Str.ofString "_netrclex.get_token"), params := fP (cst 2), body := .stmts (fB (cst 2)), scope := fS (cst 2), globals := 3, closure := [], defaults := .none, kwdefaults := .none, doc := .none, pyModule := (.str (Str.ofString "cpy313.netrc") 206), annotations := none, code := (.ref 55), closureTuple := .none, builtins := 0 }), #[]⟩
noncomputable def ob5_57 (P : Params) : Obj := ⟨(.type "tuple"), none, (.seq #[] 0), #[]⟩
noncomputable def ob5_58 (P : Params) : Obj := ⟨.none, none, (.fields #[]), #[]⟩
noncomputable def ob5_59 (P : Params) : Obj := ⟨(.type "tuple"), none, (.seq #[(.str (Str.ofString "self") 249), (.str (Str.ofString "token") 250)] 0), #[]⟩
noncomputable def ob5_60 (P : Params) : Obj := ⟨(.type "tuple"), none, (.seq #[] 0), #[]⟩
noncomputable def ob5_61 (P : Params) : Obj := ⟨.none, none, (.func { name := (Str.ofString "push_token"), qualname := (Str.ofString "_netrclex.push_token"), params := fP (cst 3), body := .stmts (fB (cst 3)), scope := fS (cst 3), globals := 0, closure := [], defaults := .none, kwdefaults := .none, doc := .none, pyModule := .none, annotations := none, code := .none, closureTuple := .none, builtins := 0 }), #[]⟩
noncomputable def ob5_62 (P : Params) : Obj := ⟨(.type "code"), none, (.fields #[(.str (Str.ofString "push_token") 246), (.str (Str.ofString "_netrclex.push_token") 247), (.str (Str.ofString "/claim/cut.py") 248), (.int 59 0), (.int 2 0), (.int 0 0), (.int 0 0), (.int 3 0), (.ref 57), (.bool true), (.int 181 0), (.ref 58), .none, (.ref 59), (.ref 60), (.ref 61), (.int 251 0), (.int 59 0), (.str (Str.ofString "/claim/cut.py") 252)]), #[]⟩
noncomputable def ob5_63 (P : Params) : Obj := ⟨(.type "function"), none, (.func { name := (Str.ofString "push_token"), qualname := (Str.ofString "_netrclex.push_token"), params := fP (cst 3), body := .stmts (fB (cst 3)), scope := fS (cst 3), globals := 3, closure := [], defaults := .none, kwdefaults := .none, doc := .none, pyModule := (.str (Str.ofString "cpy313.netrc") 206), annotations := none, code := (.ref 62), closureTuple := .none, builtins := 0 }), #[]⟩
noncomputable def ob5_64 (P : Params) : Obj := ⟨(.type "tuple"), none, (.seq #[(.str (Str.ofString "instream") 254), (.str (Str.ofString "lineno") 255), (.str (Str.ofString "pushback") 256), (.str (Str.ofString "whitespace") 257)] 0), #[]⟩
noncomputable def ob5_65 (P : Params) : Obj := ⟨(.type "dict"), none, (.dict #[⟨PyData.keyHash P (Str.ofString "__module__"), (.str (Str.ofString "__module__") 215), (.str (Str.ofString "cpy313.netrc") 206)⟩, ⟨PyData.keyHash P (Str.ofString "__firstlineno__"), (.str (Str.ofString "__firstlineno__") 219), (.int 18 218)⟩, ⟨PyData.keyHash P (Str.ofString "__init__"), (.str (Str.ofString "__init__") 227), (.ref 42)⟩, ⟨PyData.keyHash P (Str.ofString "_read_char"), (.str (Str.ofString "_read_char") 235), (.ref 49)⟩, ⟨PyData.keyHash P (Str.ofString "get_token"), (.str (Str.ofString "get_token") 245), (.ref 56)⟩, ⟨PyData.keyHash P (Str.ofString "push_token"), (.str (Str.ofString "push_token") 253), (.ref 63)⟩, ⟨PyData.keyHash P (Str.ofString "__static_attributes__"), (.str (Str.ofString "__static_attributes__") 258), (.ref 64)⟩, ⟨PyData.keyHash P (Str.ofString "__dict__"), (.str (Str.ofString "__dict__") 260), (.ref 67)⟩, ⟨PyData.keyHash P (Str.ofString "__weakref__"), (.str (Str.ofString "__weakref__") 262), (.ref 68)⟩, ⟨PyData.keyHash P (Str.ofString "__doc__"), (.str (Str.ofString "__doc__") 263), .none⟩] 4), #[]⟩
noncomputable def ob5_66 (P : Params) : Obj := ⟨(.type "type"), none, (.cls { name := (Str.ofString "_netrclex"), bases := [(.type "object")], mro := [(.ref 66), (.type "object")], ns := 65, qualname := (Str.ofString "_netrclex"), hasDict := true, slotNames := [], subclasses := [], abstract := false, collection := none, hasDel := false }), #[none, none, (some (.str (Str.ofString "_netrclex") 208)), (some (.str (Str.ofString "_netrclex") 216)), (some (.builtin "object.__new__")), (some (.bool true))]⟩
noncomputable def ob5_67 (P : Params) : Obj := ⟨(.type "getset_descriptor"), none, (.fields #[(.str (Str.ofString "__dict__") 259), (.ref 66), (.builtin "function.__dict__"), (.builtin "function.__dict__#set")]), #[]⟩
noncomputable def ob5_68 (P : Params) : Obj := ⟨(.type "getset_descriptor"), none, (.fields #[(.str (Str.ofString "__weakref__") 261), (.ref 66), (.builtin "ExceptionGroup.__weakref__"), .none]), #[]⟩
noncomputable def ob5_69 (P : Params) : Obj := ⟨(.type "super"), none, (.fields #[(.ref 66), (.ref 66), (.ref 66)]), #[]⟩
noncomputable def ob5_70 (P : Params) : Obj := ⟨(.type "builtin_function_or_method"), none, (.fields #[(.builtin "object.__init_subclass__"), (.ref 66)]), #[]⟩
noncomputable def tr5 (P : Params) : BT := (.node (boot_o_0 P) (.node (boot_o_1 P) (.node (ob5_3 P) (.node (boot_o_7 P) (.node (ob1_15 P) (.node (ob5_31 P) (.node (ob5_63 P) .nil .nil) .nil) (.node (ob5_47 P) .nil .nil)) (.node (ob3_23 P) (.node (ob5_39 P) .nil .nil) (.node (ob5_55 P) .nil .nil))) (.node (oba_11 P) (.node (ob1_19 P) (.node (ob5_35 P) (.node (ob5_67 P) .nil .nil) .nil) (.node (ob5_51 P) .nil .nil)) (.node (ob3_27 P) (.node (ob5_43 P) .nil .nil) (.node (ob5_59 P) .nil .nil)))) (.node (boot_o_5 P) (.node (boot_o_9 P) (.node (ob1_17 P) (.node (ob5_33 P) (.node (ob5_65 P) .nil .nil) .nil) (.node (ob5_49 P) .nil .nil)) (.node (ob3_25 P) (.node (ob5_41 P) .nil .nil) (.node (ob5_57 P) .nil .nil))) (.node (oba_13 P) (.node (ob1_21 P) (.node (ob5_37 P) (.node (ob5_69 P) .nil .nil) .nil) (.node (ob5_53 P) .nil .nil)) (.node (ob5_29 P) (.node (ob5_45 P) .nil .nil) (.node (ob5_61 P) .nil .nil))))) (.node (boot_o_2 P) (.node (boot_o_4 P) (.node (boot_o_8 P) (.node (ob1_16 P) (.node (ob5_32 P) (.node (ob5_64 P) .nil .nil) .nil) (.node (ob5_48 P) .nil .nil)) (.node (ob3_24 P) (.node (ob5_40 P) .nil .nil) (.node (ob5_56 P) .nil .nil))) (.node (ob5_12 P) (.node (ob1_20 P) (.node (ob5_36 P) (.node (ob5_68 P) .nil .nil) .nil) (.node (ob5_52 P) .nil .nil)) (.node (ob3_28 P) (.node (ob5_44 P) .nil .nil) (.node (ob5_60 P) .nil .nil)))) (.node (boot_o_6 P) (.node (boot_o_10 P) (.node (ob1_18 P) (.node (ob5_34 P) (.node (ob5_66 P) .nil .nil) .nil) (.node (ob5_50 P) .nil .nil)) (.node (ob3_26 P) (.node (ob5_42 P) .nil .nil) (.node (ob5_58 P) .nil .nil))) (.node (oba_14 P) (.node (ob3_22 P) (.node (ob5_38 P) (.node (ob5_70 P) .nil .nil) .nil) (.node (ob5_54 P) .nil .nil)) (.node (ob5_30 P) (.node (ob5_46 P) .nil .nil) (.node (ob5_62 P) .nil .nil))))))
noncomputable abbrev sz5 : Nat := 71
noncomputable abbrev tk5 : Nat := 266
noncomputable abbrev ps5 : Pos := ⟨18, 0, 60, 16⟩
noncomputable abbrev nst5 : Nat := 323
noncomputable def ob6_3 (P : Params) : Obj := ⟨(.type "dict"), none, (.dict #[⟨PyData.keyHash P (Str.ofString "__name__"), (.str (Str.ofString "__name__") 165), (.str (Str.ofString "cpy313.stringprep") 266)⟩, ⟨PyData.keyHash P (Str.ofString "__doc__"), (.str (Str.ofString "__doc__") 166), .none⟩, ⟨PyData.keyHash P (Str.ofString "__package__"), (.str (Str.ofString "__package__") 167), .none⟩, ⟨PyData.keyHash P (Str.ofString "__loader__"), (.str (Str.ofString "__loader__") 168), (.builtin "__main__.__loader__#opaque")⟩, ⟨PyData.keyHash P (Str.ofString "__spec__"), (.str (Str.ofString "__spec__") 169), .none⟩, ⟨PyData.keyHash P (Str.ofString "__annotations__"), (.str (Str.ofString "__annotations__") 170), (.ref 6)⟩, ⟨PyData.keyHash P (Str.ofString "__builtins__"), (.str (Str.ofString "__builtins__") 171), (.ref 4)⟩, ⟨PyData.keyHash P (Str.ofString "__file__"), (.str (Str.ofString "__file__") 173), (.str (Str.ofString "/claim/cut.py") 172)⟩, ⟨PyData.keyHash P (Str.ofString "__cached__"), (.str (Str.ofString "__cached__") 174), .none⟩, ⟨PyData.keyHash P (Str.ofString "_wall"), (.str (Str.ofString "_wall") 193), (.ref 21)⟩, ⟨PyData.keyHash P (Str.ofString "_strip_exception_details"), (.str (Str.ofString "_strip_exception_details") 205), (.ref 28)⟩, ⟨PyData.keyHash P (Str.ofString "_netrclex"), (.str (Str.ofString "_netrclex") 265), (.ref 66)⟩] 12), #[]⟩
noncomputable def tr6 (P : Params) : BT := (.node (boot_o_0 P) (.node (boot_o_1 P) (.node (ob6_3 P) (.node (boot_o_7 P) (.node (ob1_15 P) (.node (ob5_31 P) (.node (ob5_63 P) .nil .nil) .nil) (.node (ob5_47 P) .nil .nil)) (.node (ob3_23 P) (.node (ob5_39 P) .nil .nil) (.node (ob5_55 P) .nil .nil))) (.node (oba_11 P) (.node (ob1_19 P) (.node (ob5_35 P) (.node (ob5_67 P) .nil .nil) .nil) (.node (ob5_51 P) .nil .nil)) (.node (ob3_27 P) (.node (ob5_43 P) .nil .nil) (.node (ob5_59 P) .nil .nil)))) (.node (boot_o_5 P) (.node (boot_o_9 P) (.node (ob1_17 P) (.node (ob5_33 P) (.node (ob5_65 P) .nil .nil) .nil) (.node (ob5_49 P) .nil .nil)) (.node (ob3_25 P) (.node (ob5_41 P) .nil .nil) (.node (ob5_57 P) .nil .nil))) (.node (oba_13 P) (.node (ob1_21 P) (.node (ob5_37 P) (.node (ob5_69 P) .nil .nil) .nil) (.node (ob5_53 P) .nil .nil)) (.node (ob5_29 P) (.node (ob5_45 P) .nil .nil) (.node (ob5_61 P) .nil .nil))))) (.node (boot_o_2 P) (.node (boot_o_4 P) (.node (boot_o_8 P) (.node (ob1_16 P) (.node (ob5_32 P) (.node (ob5_64 P) .nil .nil) .nil) (.node (ob5_48 P) .nil .nil)) (.node (ob3_24 P) (.node (ob5_40 P) .nil .nil) (.node (ob5_56 P) .nil .nil))) (.node (ob5_12 P) (.node (ob1_20 P) (.node (ob5_36 P) (.node (ob5_68 P) .nil .nil) .nil) (.node (ob5_52 P) .nil .nil)) (.node (ob3_28 P) (.node (ob5_44 P) .nil .nil) (.node (ob5_60 P) .nil .nil)))) (.node (boot_o_6 P) (.node (boot_o_10 P) (.node (ob1_18 P) (.node (ob5_34 P) (.node (ob5_66 P) .nil .nil) .nil) (.node (ob5_50 P) .nil .nil)) (.node (ob3_26 P) (.node (ob5_42 P) .nil .nil) (.node (ob5_58 P) .nil .nil))) (.node (oba_14 P) (.node (ob3_22 P) (.node (ob5_38 P) (.node (ob5_70 P) .nil .nil) .nil) (.node (ob5_54 P) .nil .nil)) (.node (ob5_30 P) (.node (ob5_46 P) .nil .nil) (.node (ob5_62 P) .nil .nil))))))
noncomputable abbrev sz6 : Nat := 71
noncomputable abbrev tk6 : Nat := 268
noncomputable abbrev ps6 : Pos := ⟨61, 0, 61, 8⟩
noncomputable abbrev nst6 : Nat := 9
noncomputable def ob7_3 (P : Params) : Obj := ⟨(.type "dict"), none, (.dict #[⟨PyData.keyHash P (Str.ofString "__name__"), (.str (Str.ofString "__name__") 165), (.str (Str.ofString "cpy313.stringprep") 266)⟩, ⟨PyData.keyHash P (Str.ofString "__doc__"), (.str (Str.ofString "__doc__") 166), .none⟩, ⟨PyData.keyHash P (Str.ofString "__package__"), (.str (Str.ofString "__package__") 167), .none⟩, ⟨PyData.keyHash P (Str.ofString "__loader__"), (.str (Str.ofString "__loader__") 168), (.builtin "__main__.__loader__#opaque")⟩, ⟨PyData.keyHash P (Str.ofString "__spec__"), (.str (Str.ofString "__spec__") 169), .none⟩, ⟨PyData.keyHash P (Str.ofString "__annotations__"), (.str (Str.ofString "__annotations__") 170), (.ref 6)⟩, ⟨PyData.keyHash P (Str.ofString "__builtins__"), (.str (Str.ofString "__builtins__") 171), (.ref 4)⟩, ⟨PyData.keyHash P (Str.ofString "__file__"), (.str (Str.ofString "__file__") 173), (.str (Str.ofString "/claim/cut.py") 172)⟩, ⟨PyData.keyHash P (Str.ofString "__cached__"), (.str (Str.ofString "__cached__") 174), .none⟩, ⟨PyData.keyHash P (Str.ofString "_wall"), (.str (Str.ofString "_wall") 193), (.ref 21)⟩, ⟨PyData.keyHash P (Str.ofString "_strip_exception_details"), (.str (Str.ofString "_strip_exception_details") 205), (.ref 28)⟩, ⟨PyData.keyHash P (Str.ofString "_netrclex"), (.str (Str.ofString "_netrclex") 265), (.ref 66)⟩, ⟨PyData.keyHash P (Str.ofString "b1_set"), (.str (Str.ofString "b1_set") 327), (.ref 78)⟩] 13), #[]⟩
noncomputable def ob7_71 (P : Params) : Obj := ⟨(.type "list"), none, (.seq #[(.int 173 268), (.int 847 269), (.int 6150 270), (.int 6155 271), (.int 6156 272), (.int 6157 273), (.int 8203 274), (.int 8204 275), (.int 8205 276), (.int 8288 277), (.int 65279 278)] 0), #[]⟩
noncomputable def ob7_72 (P : Params) : Obj := ⟨(.type "range"), none, (.fields #[(.int 65024 279), (.int 65040 280), (.int 1 281)]), #[]⟩
noncomputable def ob7_73 (P : Params) : Obj := ⟨(.type "list"), none, (.seq #[(.int 65024 284), (.int 65025 285), (.int 65026 286), (.int 65027 287), (.int 65028 288), (.int 65029 289), (.int 65030 290), (.int 65031 291), (.int 65032 292), (.int 65033 293), (.int 65034 294), (.int 65035 295), (.int 65036 296), (.int 65037 297), (.int 65038 298), (.int 65039 299)] 18), #[]⟩
noncomputable def ob7_74 (P : Params) : Obj := ⟨(.type "range_iterator"), none, (.fields #[(.int 65040 0), (.int 0 0), (.int 1 0)]), #[]⟩
noncomputable def ob7_75 (P : Params) : Obj := ⟨(.type "tuple"), none, (.seq #[] 0), #[]⟩
noncomputable def ob7_76 (P : Params) : Obj := ⟨(.type "StopIteration"), none, (.fields #[(.ref 75), .none, .none, .none, (.bool false), .none]), #[]⟩
noncomputable def ob7_77 (P : Params) : Obj := ⟨(.type "list"), none, (.seq #[(.int 173 268), (.int 847 269), (.int 6150 270), (.int 6155 271), (.int 6156 272), (.int 6157 273), (.int 8203 274), (.int 8204 275), (.int 8205 276), (.int 8288 277), (.int 65279 278), (.int 65024 284), (.int 65025 285), (.int 65026 286), (.int 65027 287), (.int 65028 288), (.int 65029 289), (.int 65030 290), (.int 65031 291), (.int 65032 292), (.int 65033 293), (.int 65034 294), (.int 65035 295), (.int 65036 296), (.int 65037 297), (.int 65038 298), (.int 65039 299)] 0), #[]⟩
noncomputable def ob7_78 (P : Params) : Obj := ⟨(.type "set"), none, (.set #[(65024, (.int 65024 284)), (65025, (.int 65025 285)), (65026, (.int 65026 286)), (65027, (.int 65027 287)), (65028, (.int 65028 288)), (65029, (.int 65029 289)), (6150, (.int 6150 270)), (65030, (.int 65030 290)), (65031, (.int 65031 291)), (65032, (.int 65032 292)), (65033, (.int 65033 293)), (6155, (.int 6155 271)), (6156, (.int 6156 272)), (6157, (.int 6157 273)), (8203, (.int 8203 274)), (8204, (.int 8204 275)), (8205, (.int 8205 276)), (65034, (.int 65034 294)), (65035, (.int 65035 295)), (65036, (.int 65036 296)), (65037, (.int 65037 297)), (65038, (.int 65038 298)), (65039, (.int 65039 299)), (173, (.int 173 268)), (847, (.int 847 269)), (8288, (.int 8288 277)), (65279, (.int 65279 278))] 29 { mask := 127, place := #[0, 1, 2, 3, 4, 5, 6, 7, 8, 9, 10, 11, 12, 13, 14, 15, 16, 17, 18, 19, 20, 21, 22, 45, 79, 96, 127], dummies := #[], finger := 0, led := !(P.followText "set-order"), moves := 2, plain := true }), #[]⟩
noncomputable def ob7_79 (P : Params) : Obj := ⟨(.type "list_iterator"), none, (.fields #[.none, (.int 27 0)]), #[]⟩
noncomputable def ob7_80 (P : Params) : Obj := ⟨(.type "tuple"), none, (.seq #[] 0), #[]⟩
noncomputable def ob7_81 (P : Params) : Obj := ⟨(.type "StopIteration"), none, (.fields #[(.ref 80), .none, .none, .none, (.bool false), .none]), #[]⟩
noncomputable def tr7 (P : Params) : BT := (.node (boot_o_0 P) (.node (boot_o_1 P) (.node (ob7_3 P) (.node (boot_o_7 P) (.node (ob1_15 P) (.node (ob5_31 P) (.node (ob5_63 P) .nil .nil) .nil) (.node (ob5_47 P) (.node (ob7_79 P) .nil .nil) .nil)) (.node (ob3_23 P) (.node (ob5_39 P) (.node (ob7_71 P) .nil .nil) .nil) (.node (ob5_55 P) .nil .nil))) (.node (oba_11 P) (.node (ob1_19 P) (.node (ob5_35 P) (.node (ob5_67 P) .nil .nil) .nil) (.node (ob5_51 P) .nil .nil)) (.node (ob3_27 P) (.node (ob5_43 P) (.node (ob7_75 P) .nil .nil) .nil) (.node (ob5_59 P) .nil .nil)))) (.node (boot_o_5 P) (.node (boot_o_9 P) (.node (ob1_17 P) (.node (ob5_33 P) (.node (ob5_65 P) .nil .nil) .nil) (.node (ob5_49 P) (.node (ob7_81 P) .nil .nil) .nil)) (.node (ob3_25 P) (.node (ob5_41 P) (.node (ob7_73 P) .nil .nil) .nil) (.node (ob5_57 P) .nil .nil))) (.node (oba_13 P) (.node (ob1_21 P) (.node (ob5_37 P) (.node (ob5_69 P) .nil .nil) .nil) (.node (ob5_53 P) .nil .nil)) (.node (ob5_29 P) (.node (ob5_45 P) (.node (ob7_77 P) .nil .nil) .nil) (.node (ob5_61 P) .nil .nil))))) (.node (boot_o_2 P) (.node (boot_o_4 P) (.node (boot_o_8 P) (.node (ob1_16 P) (.node (ob5_32 P) (.node (ob5_64 P) .nil .nil) .nil) (.node (ob5_48 P) (.node (ob7_80 P) .nil .nil) .nil)) (.node (ob3_24 P) (.node (ob5_40 P) (.node (ob7_72 P) .nil .nil) .nil) (.node (ob5_56 P) .nil .nil))) (.node (ob5_12 P) (.node (ob1_20 P) (.node (ob5_36 P) (.node (ob5_68 P) .nil .nil) .nil) (.node (ob5_52 P) .nil .nil)) (.node (ob3_28 P) (.node (ob5_44 P) (.node (ob7_76 P) .nil .nil) .nil) (.node (ob5_60 P) .nil .nil)))) (.node (boot_o_6 P) (.node (boot_o_10 P) (.node (ob1_18 P) (.node (ob5_34 P) (.node (ob5_66 P) .nil .nil) .nil) (.node (ob5_50 P) .nil .nil)) (.node (ob3_26 P) (.node (ob5_42 P) (.node (ob7_74 P) .nil .nil) .nil) (.node (ob5_58 P) .nil .nil))) (.node (oba_14 P) (.node (ob3_22 P) (.node (ob5_38 P) (.node (ob5_70 P) .nil .nil) .nil) (.node (ob5_54 P) .nil .nil)) (.node (ob5_30 P) (.node (ob5_46 P) (.node (ob7_78 P) .nil .nil) .nil) (.node (ob5_62 P) .nil .nil))))))
noncomputable abbrev sz7 : Nat := 82
noncomputable abbrev tk7 : Nat := 328
noncomputable abbrev ps7 : Pos := ⟨62, 0, 62, 6⟩
noncomputable abbrev nst7 : Nat := 998
noncomputable def ob8_3 (P : Params) : Obj := ⟨(.type "dict"), none, (.dict #[⟨PyData.keyHash P (Str.ofString "__name__"), (.str (Str.ofString "__name__") 165), (.str (Str.ofString "cpy313.stringprep") 266)⟩, ⟨PyData.keyHash P (Str.ofString "__doc__"), (.str (Str.ofString "__doc__") 166), .none⟩, ⟨PyData.keyHash P (Str.ofString "__package__"), (.str (Str.ofString "__package__") 167), .none⟩, ⟨PyData.keyHash P (Str.ofString "__loader__"), (.str (Str.ofString "__loader__") 168), (.builtin "__main__.__loader__#opaque")⟩, ⟨PyData.keyHash P (Str.ofString "__spec__"), (.str (Str.ofString "__spec__") 169), .none⟩, ⟨PyData.keyHash P (Str.ofString "__annotations__"), (.str (Str.ofString "__annotations__") 170), (.ref 6)⟩, ⟨PyData.keyHash P (Str.ofString "__builtins__"), (.str (Str.ofString "__builtins__") 171), (.ref 4)⟩, ⟨PyData.keyHash P (Str.ofString "__file__"), (.str (Str.ofString "__file__") 173), (.str (Str.ofString "/claim/cut.py") 172)⟩, ⟨PyData.keyHash P (Str.ofString "__cached__"), (.str (Str.ofString "__cached__") 174), .none⟩, ⟨PyData.keyHash P (Str.ofString "_wall"), (.str (Str.ofString "_wall") 193), (.ref 21)⟩, ⟨PyData.keyHash P (Str.ofString "_strip_exception_details"), (.str (Str.ofString "_strip_exception_details") 205), (.ref 28)⟩, ⟨PyData.keyHash P (Str.ofString "_netrclex"), (.str (Str.ofString "_netrclex") 265), (.ref 66)⟩, ⟨PyData.keyHash P (Str.ofString "b1_set"), (.str (Str.ofString "b1_set") 327), (.ref 78)⟩, ⟨PyData.keyHash P (Str.ofString "in_table_b1"), (.str (Str.ofString "in_table_b1") 334), (.ref 88)⟩] 14), #[]⟩
noncomputable def ob8_12 (P : Params) : Obj := ⟨.none, none, (.fields #[(.int 1 0), (.int 0 0), (.ref 20), (.int 5 0), (.int 0 0), (.ref 27), (.int 18 0), (.int 0 0), (.ref 34), (.int 63 0), (.int 0 0), (.ref 87)]), #[]⟩
noncomputable def ob8_82 (P : Params) : Obj := ⟨(.type "tuple"), none, (.seq #[] 0), #[]⟩
noncomputable def ob8_83 (P : Params) : Obj := ⟨.none, none, (.fields #[]), #[]⟩
noncomputable def ob8_84 (P : Params) : Obj := ⟨(.type "tuple"), none, (.seq #[(.str (Str.ofString "code") 331)] 0), #[]⟩
noncomputable def ob8_85 (P : Params) : Obj := ⟨(.type "tuple"), none, (.seq #[] 0), #[]⟩
noncomputable def ob8_86 (P : Params) : Obj := ⟨.none, none, (.func { name := (Str.ofString "in_table_b1"), qualname := (Str.ofString "in_table_b1"), params := fP (st 7), body := .stmts (fB (st 7)), scope := fS (st 7), globals := 0, closure := [], defaults := .none, kwdefaults := .none, doc := .none, pyModule := .none, annotations := none, code := .none, closureTuple := .none, builtins := 0 }), #[]⟩
noncomputable def ob8_87 (P : Params) : Obj := ⟨(.type "code"), none, (.fields #[(.str (Str.ofString "in_table_b1") 328), (.str (Str.ofString "in_table_b1") 329), (.str (Str.ofString "/claim/cut.py") 330), (.int 63 0), (.int 1 0), (.int 0 0), (.int 0 0), (.int 3 0), (.ref 82), (.bool true), (.int 181 0), (.ref 83), .none, (.ref 84), (.ref 85), (.ref 86), (.int 332 0), (.int 63 0), (.str (Str.ofString "/claim/cut.py") 333)]), #[]⟩
noncomputable def ob8_88 (P : Params) : Obj := ⟨(.type "function"), none, (.func { name := (Str.ofString "in_table_b1"), qualname := (Str.ofString "in_table_b1"), params := fP (st 7), body := .stmts (fB (st 7)), scope := fS (st 7), globals := 3, closure := [], defaults := .none, kwdefaults := .none, doc := .none, pyModule := (.str (Str.ofString "cpy313.stringprep") 266), annotations := none, code := (.ref 87), closureTuple := .none, builtins := 0 }), #[]⟩
noncomputable def tr8 (P : Params) : BT := (.node (boot_o_0 P) (.node (boot_o_1 P) (.node (ob8_3 P) (.node (boot_o_7 P) (.node (ob1_15 P) (.node (ob5_31 P) (.node (ob5_63 P) .nil .nil) .nil) (.node (ob5_47 P) (.node (ob7_79 P) .nil .nil) .nil)) (.node (ob3_23 P) (.node (ob5_39 P) (.node (ob7_71 P) .nil .nil) .nil) (.node (ob5_55 P) (.node (ob8_87 P) .nil .nil) .nil))) (.node (oba_11 P) (.node (ob1_19 P) (.node (ob5_35 P) (.node (ob5_67 P) .nil .nil) .nil) (.node (ob5_51 P) (.node (ob8_83 P) .nil .nil) .nil)) (.node (ob3_27 P) (.node (ob5_43 P) (.node (ob7_75 P) .nil .nil) .nil) (.node (ob5_59 P) .nil .nil)))) (.node (boot_o_5 P) (.node (boot_o_9 P) (.node (ob1_17 P) (.node (ob5_33 P) (.node (ob5_65 P) .nil .nil) .nil) (.node (ob5_49 P) (.node (ob7_81 P) .nil .nil) .nil)) (.node (ob3_25 P) (.node (ob5_41 P) (.node (ob7_73 P) .nil .nil) .nil) (.node (ob5_57 P) .nil .nil))) (.node (oba_13 P) (.node (ob1_21 P) (.node (ob5_37 P) (.node (ob5_69 P) .nil .nil) .nil) (.node (ob5_53 P) (.node (ob8_85 P) .nil .nil) .nil)) (.node (ob5_29 P) (.node (ob5_45 P) (.node (ob7_77 P) .nil .nil) .nil) (.node (ob5_61 P) .nil .nil))))) (.node (boot_o_2 P) (.node (boot_o_4 P) (.node (boot_o_8 P) (.node (ob1_16 P) (.node (ob5_32 P) (.node (ob5_64 P) .nil .nil) .nil) (.node (ob5_48 P) (.node (ob7_80 P) .nil .nil) .nil)) (.node (ob3_24 P) (.node (ob5_40 P) (.node (ob7_72 P) .nil .nil) .nil) (.node (ob5_56 P) (.node (ob8_88 P) .nil .nil) .nil))) (.node (ob8_12 P) (.node (ob1_20 P) (.node (ob5_36 P) (.node (ob5_68 P) .nil .nil) .nil) (.node (ob5_52 P) (.node (ob8_84 P) .nil .nil) .nil)) (.node (ob3_28 P) (.node (ob5_44 P) (.node (ob7_76 P) .nil .nil) .nil) (.node (ob5_60 P) .nil .nil)))) (.node (boot_o_6 P) (.node (boot_o_10 P) (.node (ob1_18 P) (.node (ob5_34 P) (.node (ob5_66 P) .nil .nil) .nil) (.node (ob5_50 P) (.node (ob8_82 P) .nil .nil) .nil)) (.node (ob3_26 P) (.node (ob5_42 P) (.node (ob7_74 P) .nil .nil) .nil) (.node (ob5_58 P) .nil .nil))) (.node (oba_14 P) (.node (ob3_22 P) (.node (ob5_38 P) (.node (ob5_70 P) .nil .nil) .nil) (.node (ob5_54 P) (.node (ob8_86 P) .nil .nil) .nil)) (.node (ob5_30 P) (.node (ob5_46 P) (.node (ob7_78 P) .nil .nil) .nil) (.node (ob5_62 P) .nil .nil))))))
noncomputable abbrev sz8 : Nat := 89
noncomputable abbrev tk8 : Nat := 335
noncomputable abbrev ps8 : Pos := ⟨63, 0, 64, 30⟩
noncomputable abbrev nst8 : Nat := 29
noncomputable def ob9_3 (P : Params) : Obj := ⟨(.type "dict"), none, (.dict #[⟨PyData.keyHash P (Str.ofString "__name__"), (.str (Str.ofString "__name__") 165), (.str (Str.ofString "cpy313.stringprep") 266)⟩, ⟨PyData.keyHash P (Str.ofString "__doc__"), (.str (Str.ofString "__doc__") 166), .none⟩, ⟨PyData.keyHash P (Str.ofString "__package__"), (.str (Str.ofString "__package__") 167), .none⟩, ⟨PyData.keyHash P (Str.ofString "__loader__"), (.str (Str.ofString "__loader__") 168), (.builtin "__main__.__loader__#opaque")⟩, ⟨PyData.keyHash P (Str.ofString "__spec__"), (.str (Str.ofString "__spec__") 169), .none⟩, ⟨PyData.keyHash P (Str.ofString "__annotations__"), (.str (Str.ofString "__annotations__") 170), (.ref 6)⟩, ⟨PyData.keyHash P (Str.ofString "__builtins__"), (.str (Str.ofString "__builtins__") 171), (.ref 4)⟩, ⟨PyData.keyHash P (Str.ofString "__file__"), (.str (Str.ofString "__file__") 173), (.str (Str.ofString "/claim/cut.py") 172)⟩, ⟨PyData.keyHash P (Str.ofString "__cached__"), (.str (Str.ofString "__cached__") 174), .none⟩, ⟨PyData.keyHash P (Str.ofString "_wall"), (.str (Str.ofString "_wall") 193), (.ref 21)⟩, ⟨PyData.keyHash P (Str.ofString "_strip_exception_details"), (.str (Str.ofString "_strip_exception_details") 205), (.ref 28)⟩, ⟨PyData.keyHash P (Str.ofString "_netrclex"), (.str (Str.ofString "_netrclex") 265), (.ref 66)⟩, ⟨PyData.keyHash P (Str.ofString "b1_set"), (.str (Str.ofString "b1_set") 327), (.ref 78)⟩, ⟨PyData.keyHash P (Str.ofString "in_table_b1"), (.str (Str.ofString "in_table_b1") 334), (.ref 88)⟩, ⟨PyData.keyHash P (Str.ofString "b3_exceptions"), (.str (Str.ofString "b3_exceptions") 2285), (.ref 89)⟩] 15), #[]⟩
noncomputable def tr9 (P : Params) : BT := (.node (boot_o_0 P) (.node (boot_o_1 P) (.node (ob9_3 P) (.node (boot_o_7 P) (.node (ob1_15 P) (.node (ob5_31 P) (.node (ob5_63 P) (.node ((b3sub 38) P) .nil .nil) .nil) (.node ((b3sub 6) P) .nil .nil)) (.node (ob5_47 P) (.node (ob7_79 P) .nil .nil) (.node ((b3sub 22) P) .nil .nil))) (.node (ob3_23 P) (.node (ob5_39 P) (.node (ob7_71 P) .nil .nil) (.node ((b3sub 14) P) .nil .nil)) (.node (ob5_55 P) (.node (ob8_87 P) .nil .nil) (.node ((b3sub 30) P) .nil .nil)))) (.node (oba_11 P) (.node (ob1_19 P) (.node (ob5_35 P) (.node (ob5_67 P) .nil .nil) (.node ((b3sub 10) P) .nil .nil)) (.node (ob5_51 P) (.node (ob8_83 P) .nil .nil) (.node ((b3sub 26) P) .nil .nil))) (.node (ob3_27 P) (.node (ob5_43 P) (.node (ob7_75 P) .nil .nil) (.node ((b3sub 18) P) .nil .nil)) (.node (ob5_59 P) (.node ((b3sub 2) P) .nil .nil) (.node ((b3sub 34) P) .nil .nil))))) (.node (boot_o_5 P) (.node (boot_o_9 P) (.node (ob1_17 P) (.node (ob5_33 P) (.node (ob5_65 P) .nil .nil) (.node ((b3sub 8) P) .nil .nil)) (.node (ob5_49 P) (.node (ob7_81 P) .nil .nil) (.node ((b3sub 24) P) .nil .nil))) (.node (ob3_25 P) (.node (ob5_41 P) (.node (ob7_73 P) .nil .nil) (.node ((b3sub 16) P) .nil .nil)) (.node (ob5_57 P) (.node (b3main P) .nil .nil) (.node ((b3sub 32) P) .nil .nil)))) (.node (oba_13 P) (.node (ob1_21 P) (.node (ob5_37 P) (.node (ob5_69 P) .nil .nil) (.node ((b3sub 12) P) .nil .nil)) (.node (ob5_53 P) (.node (ob8_85 P) .nil .nil) (.node ((b3sub 28) P) .nil .nil))) (.node (ob5_29 P) (.node (ob5_45 P) (.node (ob7_77 P) .nil .nil) (.node ((b3sub 20) P) .nil .nil)) (.node (ob5_61 P) (.node ((b3sub 4) P) .nil .nil) (.node ((b3sub 36) P) .nil .nil)))))) (.node (boot_o_2 P) (.node (boot_o_4 P) (.node (boot_o_8 P) (.node (ob1_16 P) (.node (ob5_32 P) (.node (ob5_64 P) .nil .nil) (.node ((b3sub 7) P) .nil .nil)) (.node (ob5_48 P) (.node (ob7_80 P) .nil .nil) (.node ((b3sub 23) P) .nil .nil))) (.node (ob3_24 P) (.node (ob5_40 P) (.node (ob7_72 P) .nil .nil) (.node ((b3sub 15) P) .nil .nil)) (.node (ob5_56 P) (.node (ob8_88 P) .nil .nil) (.node ((b3sub 31) P) .nil .nil)))) (.node (ob8_12 P) (.node (ob1_20 P) (.node (ob5_36 P) (.node (ob5_68 P) .nil .nil) (.node ((b3sub 11) P) .nil .nil)) (.node (ob5_52 P) (.node (ob8_84 P) .nil .nil) (.node ((b3sub 27) P) .nil .nil))) (.node (ob3_28 P) (.node (ob5_44 P) (.node (ob7_76 P) .nil .nil) (.node ((b3sub 19) P) .nil .nil)) (.node (ob5_60 P) (.node ((b3sub 3) P) .nil .nil) (.node ((b3sub 35) P) .nil .nil))))) (.node (boot_o_6 P) (.node (boot_o_10 P) (.node (ob1_18 P) (.node (ob5_34 P) (.node (ob5_66 P) .nil .nil) (.node ((b3sub 9) P) .nil .nil)) (.node (ob5_50 P) (.node (ob8_82 P) .nil .nil) (.node ((b3sub 25) P) .nil .nil))) (.node (ob3_26 P) (.node (ob5_42 P) (.node (ob7_74 P) .nil .nil) (.node ((b3sub 17) P) .nil .nil)) (.node (ob5_58 P) (.node ((b3sub 1) P) .nil .nil) (.node ((b3sub 33) P) .nil .nil)))) (.node (oba_14 P) (.node (ob3_22 P) (.node (ob5_38 P) (.node (ob5_70 P) .nil .nil) (.node ((b3sub 13) P) .nil .nil)) (.node (ob5_54 P) (.node (ob8_86 P) .nil .nil) (.node ((b3sub 29) P) .nil .nil))) (.node (ob5_30 P) (.node (ob5_46 P) (.node (ob7_78 P) .nil .nil) (.node ((b3sub 21) P) .nil .nil)) (.node (ob5_62 P) (.node ((b3sub 5) P) .nil .nil) (.node ((b3sub 37) P) .nil .nil)))))))
noncomputable abbrev sz9 : Nat := 128
noncomputable abbrev tk9 : Nat := 2286
noncomputable abbrev ps9 : Pos := ⟨65, 0, 65, 13⟩
noncomputable abbrev nst9 : Nat := 12524
noncomputable def ob10_3 (P : Params) : Obj := ⟨(.type "dict"), none, (.dict #[⟨PyData.keyHash P (Str.ofString "__name__"), (.str (Str.ofString "__name__") 165), (.str (Str.ofString "cpy313.stringprep") 266)⟩, ⟨PyData.keyHash P (Str.ofString "__doc__"), (.str (Str.ofString "__doc__") 166), .none⟩, ⟨PyData.keyHash P (Str.ofString "__package__"), (.str (Str.ofString "__package__") 167), .none⟩, ⟨PyData.keyHash P (Str.ofString "__loader__"), (.str (Str.ofString "__loader__") 168), (.builtin "__main__.__loader__#opaque")⟩, ⟨PyData.keyHash P (Str.ofString "__spec__"), (.str (Str.ofString "__spec__") 169), .none⟩, ⟨PyData.keyHash P (Str.ofString "__annotations__"), (.str (Str.ofString "__annotations__") 170), (.ref 6)⟩, ⟨PyData.keyHash P (Str.ofString "__builtins__"), (.str (Str.ofString "__builtins__") 171), (.ref 4)⟩, ⟨PyData.keyHash P (Str.ofString "__file__"), (.str (Str.ofString "__file__") 173), (.str (Str.ofString "/claim/cut.py") 172)⟩, ⟨PyData.keyHash P (Str.ofString "__cached__"), (.str (Str.ofString "__cached__") 174), .none⟩, ⟨PyData.keyHash P (Str.ofString "_wall"), (.str (Str.ofString "_wall") 193), (.ref 21)⟩, ⟨PyData.keyHash P (Str.ofString "_strip_exception_details"), (.str (Str.ofString "_strip_exception_details") 205), (.ref 28)⟩, ⟨PyData.keyHash P (Str.ofString "_netrclex"), (.str (Str.ofString "_netrclex") 265), (.ref 66)⟩, ⟨PyData.keyHash P (Str.ofString "b1_set"), (.str (Str.ofString "b1_set") 327), (.ref 78)⟩, ⟨PyData.keyHash P (Str.ofString "in_table_b1"), (.str (Str.ofString "in_table_b1") 334), (.ref 88)⟩, ⟨PyData.keyHash P (Str.ofString "b3_exceptions"), (.str (Str.ofString "b3_exceptions") 2285), (.ref 89)⟩, ⟨PyData.keyHash P (Str.ofString "map_table_b3"), (.str (Str.ofString "map_table_b3") 2293), (.ref 134)⟩] 16), #[]⟩
noncomputable def ob10_12 (P : Params) : Obj := ⟨.none, none, (.fields #[(.int 1 0), (.int 0 0), (.ref 20), (.int 5 0), (.int 0 0), (.ref 27), (.int 18 0), (.int 0 0), (.ref 34), (.int 63 0), (.int 0 0), (.ref 87), (.int 66 0), (.int 0 0), (.ref 133)]), #[]⟩
noncomputable def ob10_128 (P : Params) : Obj := ⟨(.type "tuple"), none, (.seq #[] 0), #[]⟩
noncomputable def ob10_129 (P : Params) : Obj := ⟨.none, none, (.fields #[]), #[]⟩
noncomputable def ob10_130 (P : Params) : Obj := ⟨(.type "tuple"), none, (.seq #[(.str (Str.ofString "code") 2289), (.str (Str.ofString "r") 2290)] 0), #[]⟩
noncomputable def ob10_131 (P : Params) : Obj := ⟨(.type "tuple"), none, (.seq #[] 0), #[]⟩
noncomputable def ob10_132 (P : Params) : Obj := ⟨.none, none, (.func { name := (Str.ofString "map_table_b3"), qualname := (Str.ofString "map_table_b3"), params := fP (st 9), body := .stmts (fB (st 9)), scope := fS (st 9), globals := 0, closure := [], defaults := .none, kwdefaults := .none, doc := .none, pyModule := .none, annotations := none, code := .none, closureTuple := .none, builtins := 0 }), #[]⟩
noncomputable def ob10_133 (P : Params) : Obj := ⟨(.type "code"), none, (.fields #[(.str (Str.ofString "map_table_b3") 2286), (.str (Str.ofString "map_table_b3") 2287), (.str (Str.ofString "/claim/cut.py") 2288), (.int 66 0), (.int 1 0), (.int 0 0), (.int 0 0), (.int 3 0), (.ref 128), (.bool true), (.int 181 0), (.ref 129), .none, (.ref 130), (.ref 131), (.ref 132), (.int 2291 0), (.int 66 0), (.str (Str.ofString "/claim/cut.py") 2292)]), #[]⟩
noncomputable def ob10_134 (P : Params) : Obj := ⟨(.type "function"), none, (.func { name := (Str.ofString "map_table_b3"), qualname := (Str.ofString "map_table_b3"), params := fP (st 9), body := .stmts (fB (st 9)), scope := fS (st 9), globals := 3, closure := [], defaults := .none, kwdefaults := .none, doc := .none, pyModule := (.str (Str.ofString "cpy313.stringprep") 266), annotations := none, code := (.ref 133), closureTuple := .none, builtins := 0 }), #[]⟩
noncomputable def tr10 (P : Params) : BT := (.node (boot_o_0 P) (.node (boot_o_1 P) (.node (ob10_3 P) (.node (boot_o_7 P) (.node (ob1_15 P) (.node (ob5_31 P) (.node (ob5_63 P) (.node ((b3sub 38) P) .nil .nil) .nil) (.node ((b3sub 6) P) .nil .nil)) (.node (ob5_47 P) (.node (ob7_79 P) .nil .nil) (.node ((b3sub 22) P) .nil .nil))) (.node (ob3_23 P) (.node (ob5_39 P) (.node (ob7_71 P) .nil .nil) (.node ((b3sub 14) P) .nil .nil)) (.node (ob5_55 P) (.node (ob8_87 P) .nil .nil) (.node ((b3sub 30) P) .nil .nil)))) (.node (oba_11 P) (.node (ob1_19 P) (.node (ob5_35 P) (.node (ob5_67 P) (.node (ob10_131 P) .nil .nil) .nil) (.node ((b3sub 10) P) .nil .nil)) (.node (ob5_51 P) (.node (ob8_83 P) .nil .nil) (.node ((b3sub 26) P) .nil .nil))) (.node (ob3_27 P) (.node (ob5_43 P) (.node (ob7_75 P) .nil .nil) (.node ((b3sub 18) P) .nil .nil)) (.node (ob5_59 P) (.node ((b3sub 2) P) .nil .nil) (.node ((b3sub 34) P) .nil .nil))))) (.node (boot_o_5 P) (.node (boot_o_9 P) (.node (ob1_17 P) (.node (ob5_33 P) (.node (ob5_65 P) (.node (ob10_129 P) .nil .nil) .nil) (.node ((b3sub 8) P) .nil .nil)) (.node (ob5_49 P) (.node (ob7_81 P) .nil .nil) (.node ((b3sub 24) P) .nil .nil))) (.node (ob3_25 P) (.node (ob5_41 P) (.node (ob7_73 P) .nil .nil) (.node ((b3sub 16) P) .nil .nil)) (.node (ob5_57 P) (.node (b3main P) .nil .nil) (.node ((b3sub 32) P) .nil .nil)))) (.node (oba_13 P) (.node (ob1_21 P) (.node (ob5_37 P) (.node (ob5_69 P) (.node (ob10_133 P) .nil .nil) .nil) (.node ((b3sub 12) P) .nil .nil)) (.node (ob5_53 P) (.node (ob8_85 P) .nil .nil) (.node ((b3sub 28) P) .nil .nil))) (.node (ob5_29 P) (.node (ob5_45 P) (.node (ob7_77 P) .nil .nil) (.node ((b3sub 20) P) .nil .nil)) (.node (ob5_61 P) (.node ((b3sub 4) P) .nil .nil) (.node ((b3sub 36) P) .nil .nil)))))) (.node (boot_o_2 P) (.node (boot_o_4 P) (.node (boot_o_8 P) (.node (ob1_16 P) (.node (ob5_32 P) (.node (ob5_64 P) (.node (ob10_128 P) .nil .nil) .nil) (.node ((b3sub 7) P) .nil .nil)) (.node (ob5_48 P) (.node (ob7_80 P) .nil .nil) (.node ((b3sub 23) P) .nil .nil))) (.node (ob3_24 P) (.node (ob5_40 P) (.node (ob7_72 P) .nil .nil) (.node ((b3sub 15) P) .nil .nil)) (.node (ob5_56 P) (.node (ob8_88 P) .nil .nil) (.node ((b3sub 31) P) .nil .nil)))) (.node (ob10_12 P) (.node (ob1_20 P) (.node (ob5_36 P) (.node (ob5_68 P) (.node (ob10_132 P) .nil .nil) .nil) (.node ((b3sub 11) P) .nil .nil)) (.node (ob5_52 P) (.node (ob8_84 P) .nil .nil) (.node ((b3sub 27) P) .nil .nil))) (.node (ob3_28 P) (.node (ob5_44 P) (.node (ob7_76 P) .nil .nil) (.node ((b3sub 19) P) .nil .nil)) (.node (ob5_60 P) (.node ((b3sub 3) P) .nil .nil) (.node ((b3sub 35) P) .nil .nil))))) (.node (boot_o_6 P) (.node (boot_o_10 P) (.node (ob1_18 P) (.node (ob5_34 P) (.node (ob5_66 P) (.node (ob10_130 P) .nil .nil) .nil) (.node ((b3sub 9) P) .nil .nil)) (.node (ob5_50 P) (.node (ob8_82 P) .nil .nil) (.node ((b3sub 25) P) .nil .nil))) (.node (ob3_26 P) (.node (ob5_42 P) (.node (ob7_74 P) .nil .nil) (.node ((b3sub 17) P) .nil .nil)) (.node (ob5_58 P) (.node ((b3sub 1) P) .nil .nil) (.node ((b3sub 33) P) .nil .nil)))) (.node (oba_14 P) (.node (ob3_22 P) (.node (ob5_38 P) (.node (ob5_70 P) (.node (ob10_134 P) .nil .nil) .nil) (.node ((b3sub 13) P) .nil .nil)) (.node (ob5_54 P) (.node (ob8_86 P) .nil .nil) (.node ((b3sub 29) P) .nil .nil))) (.node (ob5_30 P) (.node (ob5_46 P) (.node (ob7_78 P) .nil .nil) (.node ((b3sub 21) P) .nil .nil)) (.node (ob5_62 P) (.node ((b3sub 5) P) .nil .nil) (.node ((b3sub 37) P) .nil .nil)))))))
noncomputable abbrev sz10 : Nat := 135
noncomputable abbrev tk10 : Nat := 2294
noncomputable abbrev ps10 : Pos := ⟨66, 0, 70, 23⟩
noncomputable abbrev nst10 : Nat := 30
noncomputable def ob11_3 (P : Params) : Obj := ⟨(.type "dict"), none, (.dict #[⟨PyData.keyHash P (Str.ofString "__name__"), (.str (Str.ofString "__name__") 165), (.str (Str.ofString "cpy313.stringprep") 266)⟩, ⟨PyData.keyHash P (Str.ofString "__doc__"), (.str (Str.ofString "__doc__") 166), .none⟩, ⟨PyData.keyHash P (Str.ofString "__package__"), (.str (Str.ofString "__package__") 167), .none⟩, ⟨PyData.keyHash P (Str.ofString "__loader__"), (.str (Str.ofString "__loader__") 168), (.builtin "__main__.__loader__#opaque")⟩, ⟨PyData.keyHash P (Str.ofString "__spec__"), (.str (Str.ofString "__spec__") 169), .none⟩, ⟨PyData.keyHash P (Str.ofString "__annotations__"), (.str (Str.ofString "__annotations__") 170), (.ref 6)⟩, ⟨PyData.keyHash P (Str.ofString "__builtins__"), (.str (Str.ofString "__builtins__") 171), (.ref 4)⟩, ⟨PyData.keyHash P (Str.ofString "__file__"), (.str (Str.ofString "__file__") 173), (.str (Str.ofString "/claim/cut.py") 172)⟩, ⟨PyData.keyHash P (Str.ofString "__cached__"), (.str (Str.ofString "__cached__") 174), .none⟩, ⟨PyData.keyHash P (Str.ofString "_wall"), (.str (Str.ofString "_wall") 193), (.ref 21)⟩, ⟨PyData.keyHash P (Str.ofString "_strip_exception_details"), (.str (Str.ofString "_strip_exception_details") 205), (.ref 28)⟩, ⟨PyData.keyHash P (Str.ofString "_netrclex"), (.str (Str.ofString "_netrclex") 265), (.ref 66)⟩, ⟨PyData.keyHash P (Str.ofString "b1_set"), (.str (Str.ofString "b1_set") 327), (.ref 78)⟩, ⟨PyData.keyHash P (Str.ofString "in_table_b1"), (.str (Str.ofString "in_table_b1") 334), (.ref 88)⟩, ⟨PyData.keyHash P (Str.ofString "b3_exceptions"), (.str (Str.ofString "b3_exceptions") 2285), (.ref 89)⟩, ⟨PyData.keyHash P (Str.ofString "map_table_b3"), (.str (Str.ofString "map_table_b3") 2293), (.ref 134)⟩, ⟨PyData.keyHash P (Str.ofString "in_table_c11"), (.str (Str.ofString "in_table_c11") 2300), (.ref 141)⟩] 17), #[]⟩
noncomputable def ob11_12 (P : Params) : Obj := ⟨.none, none, (.fields #[(.int 1 0), (.int 0 0), (.ref 20), (.int 5 0), (.int 0 0), (.ref 27), (.int 18 0), (.int 0 0), (.ref 34), (.int 63 0), (.int 0 0), (.ref 87), (.int 66 0), (.int 0 0), (.ref 133), (.int 71 0), (.int 0 0), (.ref 140)]), #[]⟩
noncomputable def ob11_135 (P : Params) : Obj := ⟨(.type "tuple"), none, (.seq #[] 0), #[]⟩
noncomputable def ob11_136 (P : Params) : Obj := ⟨.none, none, (.fields #[]), #[]⟩
noncomputable def ob11_137 (P : Params) : Obj := ⟨(.type "tuple"), none, (.seq #[(.str (Str.ofString "code") 2297)] 0), #[]⟩
noncomputable def ob11_138 (P : Params) : Obj := ⟨(.type "tuple"), none, (.seq #[] 0), #[]⟩
noncomputable def ob11_139 (P : Params) : Obj := ⟨.none, none, (.func { name := (Str.ofString "in_table_c11"), qualname := (Str.ofString "in_table_c11"), params := fP (st 10), body := .stmts (fB (st 10)), scope := fS (st 10), globals := 0, closure := [], defaults := .none, kwdefaults := .none, doc := .none, pyModule := .none, annotations := none, code := .none, closureTuple := .none, builtins := 0 }), #[]⟩
noncomputable def ob11_140 (P : Params) : Obj := ⟨(.type "code"), none, (.fields #[(.str (Str.ofString "in_table_c11") 2294), (.str (Str.ofString "in_table_c11") 2295), (.str (Str.ofString "/claim/cut.py") 2296), (.int 71 0), (.int 1 0), (.int 0 0), (.int 0 0), (.int 3 0), (.ref 135), (.bool true), (.int 181 0), (.ref 136), .none, (.ref 137), (.ref 138), (.ref 139), (.int 2298 0), (.int 71 0), (.str (Str.ofString "/claim/cut.py") 2299)]), #[]⟩
noncomputable def ob11_141 (P : Params) : Obj := ⟨(.type "function"), none, (.func { name := (Str.ofString "in_table_c11"), qualname := (Str.ofString "in_table_c11"), params := fP (st 10), body := .stmts (fB (st 10)), scope := fS (st 10), globals := 3, closure := [], defaults := .none, kwdefaults := .none, doc := .none, pyModule := (.str (Str.ofString "cpy313.stringprep") 266), annotations := none, code := (.ref 140), closureTuple := .none, builtins := 0 }), #[]⟩
noncomputable def tr11 (P : Params) : BT := (.node (boot_o_0 P) (.node (boot_o_1 P) (.node (ob11_3 P) (.node (boot_o_7 P) (.node (ob1_15 P) (.node (ob5_31 P) (.node (ob5_63 P) (.node ((b3sub 38) P) .nil .nil) .nil) (.node ((b3sub 6) P) .nil .nil)) (.node (ob5_47 P) (.node (ob7_79 P) .nil .nil) (.node ((b3sub 22) P) .nil .nil))) (.node (ob3_23 P) (.node (ob5_39 P) (.node (ob7_71 P) (.node (ob11_135 P) .nil .nil) .nil) (.node ((b3sub 14) P) .nil .nil)) (.node (ob5_55 P) (.node (ob8_87 P) .nil .nil) (.node ((b3sub 30) P) .nil .nil)))) (.node (oba_11 P) (.node (ob1_19 P) (.node (ob5_35 P) (.node (ob5_67 P) (.node (ob10_131 P) .nil .nil) .nil) (.node ((b3sub 10) P) .nil .nil)) (.node (ob5_51 P) (.node (ob8_83 P) .nil .nil) (.node ((b3sub 26) P) .nil .nil))) (.node (ob3_27 P) (.node (ob5_43 P) (.node (ob7_75 P) (.node (ob11_139 P) .nil .nil) .nil) (.node ((b3sub 18) P) .nil .nil)) (.node (ob5_59 P) (.node ((b3sub 2) P) .nil .nil) (.node ((b3sub 34) P) .nil .nil))))) (.node (boot_o_5 P) (.node (boot_o_9 P) (.node (ob1_17 P) (.node (ob5_33 P) (.node (ob5_65 P) (.node (ob10_129 P) .nil .nil) .nil) (.node ((b3sub 8) P) .nil .nil)) (.node (ob5_49 P) (.node (ob7_81 P) .nil .nil) (.node ((b3sub 24) P) .nil .nil))) (.node (ob3_25 P) (.node (ob5_41 P) (.node (ob7_73 P) (.node (ob11_137 P) .nil .nil) .nil) (.node ((b3sub 16) P) .nil .nil)) (.node (ob5_57 P) (.node (b3main P) .nil .nil) (.node ((b3sub 32) P) .nil .nil)))) (.node (oba_13 P) (.node (ob1_21 P) (.node (ob5_37 P) (.node (ob5_69 P) (.node (ob10_133 P) .nil .nil) .nil) (.node ((b3sub 12) P) .nil .nil)) (.node (ob5_53 P) (.node (ob8_85 P) .nil .nil) (.node ((b3sub 28) P) .nil .nil))) (.node (ob5_29 P) (.node (ob5_45 P) (.node (ob7_77 P) (.node (ob11_141 P) .nil .nil) .nil) (.node ((b3sub 20) P) .nil .nil)) (.node (ob5_61 P) (.node ((b3sub 4) P) .nil .nil) (.node ((b3sub 36) P) .nil .nil)))))) (.node (boot_o_2 P) (.node (boot_o_4 P) (.node (boot_o_8 P) (.node (ob1_16 P) (.node (ob5_32 P) (.node (ob5_64 P) (.node (ob10_128 P) .nil .nil) .nil) (.node ((b3sub 7) P) .nil .nil)) (.node (ob5_48 P) (.node (ob7_80 P) .nil .nil) (.node ((b3sub 23) P) .nil .nil))) (.node (ob3_24 P) (.node (ob5_40 P) (.node (ob7_72 P) (.node (ob11_136 P) .nil .nil) .nil) (.node ((b3sub 15) P) .nil .nil)) (.node (ob5_56 P) (.node (ob8_88 P) .nil .nil) (.node ((b3sub 31) P) .nil .nil)))) (.node (ob11_12 P) (.node (ob1_20 P) (.node (ob5_36 P) (.node (ob5_68 P) (.node (ob10_132 P) .nil .nil) .nil) (.node ((b3sub 11) P) .nil .nil)) (.node (ob5_52 P) (.node (ob8_84 P) .nil .nil) (.node ((b3sub 27) P) .nil .nil))) (.node (ob3_28 P) (.node (ob5_44 P) (.node (ob7_76 P) (.node (ob11_140 P) .nil .nil) .nil) (.node ((b3sub 19) P) .nil .nil)) (.node (ob5_60 P) (.node ((b3sub 3) P) .nil .nil) (.node ((b3sub 35) P) .nil .nil))))) (.node (boot_o_6 P) (.node (boot_o_10 P) (.node (ob1_18 P) (.node (ob5_34 P) (.node (ob5_66 P) (.node (ob10_130 P) .nil .nil) .nil) (.node ((b3sub 9) P) .nil .nil)) (.node (ob5_50 P) (.node (ob8_82 P) .nil .nil) (.node ((b3sub 25) P) .nil .nil))) (.node (ob3_26 P) (.node (ob5_42 P) (.node (ob7_74 P) (.node (ob11_138 P) .nil .nil) .nil) (.node ((b3sub 17) P) .nil .nil)) (.node (ob5_58 P) (.node ((b3sub 1) P) .nil .nil) (.node ((b3sub 33) P) .nil .nil)))) (.node (oba_14 P) (.node (ob3_22 P) (.node (ob5_38 P) (.node (ob5_70 P) (.node (ob10_134 P) .nil .nil) .nil) (.node ((b3sub 13) P) .nil .nil)) (.node (ob5_54 P) (.node (ob8_86 P) .nil .nil) (.node ((b3sub 29) P) .nil .nil))) (.node (ob5_30 P) (.node (ob5_46 P) (.node (ob7_78 P) .nil .nil) (.node ((b3sub 21) P) .nil .nil)) (.node (ob5_62 P) (.node ((b3sub 5) P) .nil .nil) (.node ((b3sub 37) P) .nil .nil)))))))
noncomputable abbrev sz11 : Nat := 142
noncomputable abbrev tk11 : Nat := 2301
noncomputable abbrev ps11 : Pos := ⟨71, 0, 72, 22⟩
noncomputable abbrev nst11 : Nat := 29
noncomputable def ob12_3 (P : Params) : Obj := ⟨(.type "dict"), none, (.dict #[⟨PyData.keyHash P (Str.ofString "__name__"), (.str (Str.ofString "__name__") 165), (.str (Str.ofString "law_sc0084_01") 2301)⟩, ⟨PyData.keyHash P (Str.ofString "__doc__"), (.str (Str.ofString "__doc__") 166), .none⟩, ⟨PyData.keyHash P (Str.ofString "__package__"), (.str (Str.ofString "__package__") 167), .none⟩, ⟨PyData.keyHash P (Str.ofString "__loader__"), (.str (Str.ofString "__loader__") 168), (.builtin "__main__.__loader__#opaque")⟩, ⟨PyData.keyHash P (Str.ofString "__spec__"), (.str (Str.ofString "__spec__") 169), .none⟩, ⟨PyData.keyHash P (Str.ofString "__annotations__"), (.str (Str.ofString "__annotations__") 170), (.ref 6)⟩, ⟨PyData.keyHash P (Str.ofString "__builtins__"), (.str (Str.ofString "__builtins__") 171), (.ref 4)⟩, ⟨PyData.keyHash P (Str.ofString "__file__"), (.str (Str.ofString "__file__") 173), (.str (Str.ofString "/claim/cut.py") 172)⟩, ⟨PyData.keyHash P (Str.ofString "__cached__"), (.str (Str.ofString "__cached__") 174), .none⟩, ⟨PyData.keyHash P (Str.ofString "_wall"), (.str (Str.ofString "_wall") 193), (.ref 21)⟩, ⟨PyData.keyHash P (Str.ofString "_strip_exception_details"), (.str (Str.ofString "_strip_exception_details") 205), (.ref 28)⟩, ⟨PyData.keyHash P (Str.ofString "_netrclex"), (.str (Str.ofString "_netrclex") 265), (.ref 66)⟩, ⟨PyData.keyHash P (Str.ofString "b1_set"), (.str (Str.ofString "b1_set") 327), (.ref 78)⟩, ⟨PyData.keyHash P (Str.ofString "in_table_b1"), (.str (Str.ofString "in_table_b1") 334), (.ref 88)⟩, ⟨PyData.keyHash P (Str.ofString "b3_exceptions"), (.str (Str.ofString "b3_exceptions") 2285), (.ref 89)⟩, ⟨PyData.keyHash P (Str.ofString "map_table_b3"), (.str (Str.ofString "map_table_b3") 2293), (.ref 134)⟩, ⟨PyData.keyHash P (Str.ofString "in_table_c11"), (.str (Str.ofString "in_table_c11") 2300), (.ref 141)⟩] 17), #[]⟩
noncomputable def tr12 (P : Params) : BT := (.node (boot_o_0 P) (.node (boot_o_1 P) (.node (ob12_3 P) (.node (boot_o_7 P) (.node (ob1_15 P) (.node (ob5_31 P) (.node (ob5_63 P) (.node ((b3sub 38) P) .nil .nil) .nil) (.node ((b3sub 6) P) .nil .nil)) (.node (ob5_47 P) (.node (ob7_79 P) .nil .nil) (.node ((b3sub 22) P) .nil .nil))) (.node (ob3_23 P) (.node (ob5_39 P) (.node (ob7_71 P) (.node (ob11_135 P) .nil .nil) .nil) (.node ((b3sub 14) P) .nil .nil)) (.node (ob5_55 P) (.node (ob8_87 P) .nil .nil) (.node ((b3sub 30) P) .nil .nil)))) (.node (oba_11 P) (.node (ob1_19 P) (.node (ob5_35 P) (.node (ob5_67 P) (.node (ob10_131 P) .nil .nil) .nil) (.node ((b3sub 10) P) .nil .nil)) (.node (ob5_51 P) (.node (ob8_83 P) .nil .nil) (.node ((b3sub 26) P) .nil .nil))) (.node (ob3_27 P) (.node (ob5_43 P) (.node (ob7_75 P) (.node (ob11_139 P) .nil .nil) .nil) (.node ((b3sub 18) P) .nil .nil)) (.node (ob5_59 P) (.node ((b3sub 2) P) .nil .nil) (.node ((b3sub 34) P) .nil .nil))))) (.node (boot_o_5 P) (.node (boot_o_9 P) (.node (ob1_17 P) (.node (ob5_33 P) (.node (ob5_65 P) (.node (ob10_129 P) .nil .nil) .nil) (.node ((b3sub 8) P) .nil .nil)) (.node (ob5_49 P) (.node (ob7_81 P) .nil .nil) (.node ((b3sub 24) P) .nil .nil))) (.node (ob3_25 P) (.node (ob5_41 P) (.node (ob7_73 P) (.node (ob11_137 P) .nil .nil) .nil) (.node ((b3sub 16) P) .nil .nil)) (.node (ob5_57 P) (.node (b3main P) .nil .nil) (.node ((b3sub 32) P) .nil .nil)))) (.node (oba_13 P) (.node (ob1_21 P) (.node (ob5_37 P) (.node (ob5_69 P) (.node (ob10_133 P) .nil .nil) .nil) (.node ((b3sub 12) P) .nil .nil)) (.node (ob5_53 P) (.node (ob8_85 P) .nil .nil) (.node ((b3sub 28) P) .nil .nil))) (.node (ob5_29 P) (.node (ob5_45 P) (.node (ob7_77 P) (.node (ob11_141 P) .nil .nil) .nil) (.node ((b3sub 20) P) .nil .nil)) (.node (ob5_61 P) (.node ((b3sub 4) P) .nil .nil) (.node ((b3sub 36) P) .nil .nil)))))) (.node (boot_o_2 P) (.node (boot_o_4 P) (.node (boot_o_8 P) (.node (ob1_16 P) (.node (ob5_32 P) (.node (ob5_64 P) (.node (ob10_128 P) .nil .nil) .nil) (.node ((b3sub 7) P) .nil .nil)) (.node (ob5_48 P) (.node (ob7_80 P) .nil .nil) (.node ((b3sub 23) P) .nil .nil))) (.node (ob3_24 P) (.node (ob5_40 P) (.node (ob7_72 P) (.node (ob11_136 P) .nil .nil) .nil) (.node ((b3sub 15) P) .nil .nil)) (.node (ob5_56 P) (.node (ob8_88 P) .nil .nil) (.node ((b3sub 31) P) .nil .nil)))) (.node (ob11_12 P) (.node (ob1_20 P) (.node (ob5_36 P) (.node (ob5_68 P) (.node (ob10_132 P) .nil .nil) .nil) (.node ((b3sub 11) P) .nil .nil)) (.node (ob5_52 P) (.node (ob8_84 P) .nil .nil) (.node ((b3sub 27) P) .nil .nil))) (.node (ob3_28 P) (.node (ob5_44 P) (.node (ob7_76 P) (.node (ob11_140 P) .nil .nil) .nil) (.node ((b3sub 19) P) .nil .nil)) (.node (ob5_60 P) (.node ((b3sub 3) P) .nil .nil) (.node ((b3sub 35) P) .nil .nil))))) (.node (boot_o_6 P) (.node (boot_o_10 P) (.node (ob1_18 P) (.node (ob5_34 P) (.node (ob5_66 P) (.node (ob10_130 P) .nil .nil) .nil) (.node ((b3sub 9) P) .nil .nil)) (.node (ob5_50 P) (.node (ob8_82 P) .nil .nil) (.node ((b3sub 25) P) .nil .nil))) (.node (ob3_26 P) (.node (ob5_42 P) (.node (ob7_74 P) (.node (ob11_138 P) .nil .nil) .nil) (.node ((b3sub 17) P) .nil .nil)) (.node (ob5_58 P) (.node ((b3sub 1) P) .nil .nil) (.node ((b3sub 33) P) .nil .nil)))) (.node (oba_14 P) (.node (ob3_22 P) (.node (ob5_38 P) (.node (ob5_70 P) (.node (ob10_134 P) .nil .nil) .nil) (.node ((b3sub 13) P) .nil .nil)) (.node (ob5_54 P) (.node (ob8_86 P) .nil .nil) (.node ((b3sub 29) P) .nil .nil))) (.node (ob5_30 P) (.node (ob5_46 P) (.node (ob7_78 P) .nil .nil) (.node ((b3sub 21) P) .nil .nil)) (.node (ob5_62 P) (.node ((b3sub 5) P) .nil .nil) (.node ((b3sub 37) P) .nil .nil)))))))
noncomputable abbrev sz12 : Nat := 142
noncomputable abbrev tk12 : Nat := 2303
noncomputable abbrev ps12 : Pos := ⟨73, 0, 73, 8⟩
noncomputable abbrev nst12 : Nat := 9
noncomputable def ob13_3 (P : Params) : Obj := ⟨(.type "dict"), none, (.dict #[⟨PyData.keyHash P (Str.ofString "__name__"), (.str (Str.ofString "__name__") 165), (.str (Str.ofString "law_sc0084_01") 2301)⟩, ⟨PyData.keyHash P (Str.ofString "__doc__"), (.str (Str.ofString "__doc__") 166), .none⟩, ⟨PyData.keyHash P (Str.ofString "__package__"), (.str (Str.ofString "__package__") 167), .none⟩, ⟨PyData.keyHash P (Str.ofString "__loader__"), (.str (Str.ofString "__loader__") 168), (.builtin "__main__.__loader__#opaque")⟩, ⟨PyData.keyHash P (Str.ofString "__spec__"), (.str (Str.ofString "__spec__") 169), .none⟩, ⟨PyData.keyHash P (Str.ofString "__annotations__"), (.str (Str.ofString "__annotations__") 170), (.ref 6)⟩, ⟨PyData.keyHash P (Str.ofString "__builtins__"), (.str (Str.ofString "__builtins__") 171), (.ref 4)⟩, ⟨PyData.keyHash P (Str.ofString "__file__"), (.str (Str.ofString "__file__") 173), (.str (Str.ofString "/claim/cut.py") 172)⟩, ⟨PyData.keyHash P (Str.ofString "__cached__"), (.str (Str.ofString "__cached__") 174), .none⟩, ⟨PyData.keyHash P (Str.ofString "_wall"), (.str (Str.ofString "_wall") 193), (.ref 21)⟩, ⟨PyData.keyHash P (Str.ofString "_strip_exception_details"), (.str (Str.ofString "_strip_exception_details") 205), (.ref 28)⟩, ⟨PyData.keyHash P (Str.ofString "_netrclex"), (.str (Str.ofString "_netrclex") 265), (.ref 66)⟩, ⟨PyData.keyHash P (Str.ofString "b1_set"), (.str (Str.ofString "b1_set") 327), (.ref 78)⟩, ⟨PyData.keyHash P (Str.ofString "in_table_b1"), (.str (Str.ofString "in_table_b1") 334), (.ref 88)⟩, ⟨PyData.keyHash P (Str.ofString "b3_exceptions"), (.str (Str.ofString "b3_exceptions") 2285), (.ref 89)⟩, ⟨PyData.keyHash P (Str.ofString "map_table_b3"), (.str (Str.ofString "map_table_b3") 2293), (.ref 134)⟩, ⟨PyData.keyHash P (Str.ofString "in_table_c11"), (.str (Str.ofString "in_table_c11") 2300), (.ref 141)⟩, ⟨PyData.keyHash P (Str.ofString "_law_drawn"), (.str (Str.ofString "_law_drawn") 2317), (.ref 148)⟩] 18), #[]⟩
noncomputable def ob13_12 (P : Params) : Obj := ⟨.none, none, (.fields #[(.int 1 0), (.int 0 0), (.ref 20), (.int 5 0), (.int 0 0), (.ref 27), (.int 18 0), (.int 0 0), (.ref 34), (.int 63 0), (.int 0 0), (.ref 87), (.int 66 0), (.int 0 0), (.ref 133), (.int 71 0), (.int 0 0), (.ref 140), (.int 74 0), (.int 0 0), (.ref 147)]), #[]⟩
noncomputable def ob13_142 (P : Params) : Obj := ⟨(.type "tuple"), none, (.seq #[] 0), #[]⟩
noncomputable def ob13_143 (P : Params) : Obj := ⟨.none, none, (.fields #[]), #[]⟩
noncomputable def ob13_144 (P : Params) : Obj := ⟨(.type "tuple"), none, (.seq #[(.str (Str.ofString "number") 2306), (.str (Str.ofString "rest") 2307), (.str (Str.ofString "kind") 2308), (.str (Str.ofString "noise") 2309), (.str (Str.ofString "code") 2310), (.str (Str.ofString "one") 2311), (.str (Str.ofString "coat") 2312), (.str (Str.ofString "letter") 2313), (.str (Str.ofString "bases") 2314)] 0), #[]⟩
noncomputable def ob13_145 (P : Params) : Obj := ⟨(.type "tuple"), none, (.seq #[] 0), #[]⟩
noncomputable def ob13_146 (P : Params) : Obj := ⟨.none, none, (.func { name := (Str.ofString "_law_drawn"), qualname := (Str.ofString "_law_drawn"), params := fP (st 12), body := .stmts (fB (st 12)), scope := fS (st 12), globals := 0, closure := [], defaults := .none, kwdefaults := .none, doc := .none, pyModule := .none, annotations := none, code := .none, closureTuple := .none, builtins := 0 }), #[]⟩
noncomputable def ob13_147 (P : Params) : Obj := ⟨(.type "code"), none, (.fields #[(.str (Str.ofString "_law_drawn") 2303), (.str (Str.ofString "_law_drawn") 2304), (.str (Str.ofString "/claim/cut.py") 2305), (.int 74 0), (.int 1 0), (.int 0 0), (.int 0 0), (.int 3 0), (.ref 142), (.bool true), (.int 181 0), (.ref 143), .none, (.ref 144), (.ref 145), (.ref 146), (.int 2315 0), (.int 74 0), (.str (Str.ofString "/claim/cut.py") 2316)]), #[]⟩
noncomputable def ob13_148 (P : Params) : Obj := ⟨(.type "function"), none, (.func { name := (Str.ofString "_law_drawn"), qualname := (Str.ofString "_law_drawn"), params := fP (st 12), body := .stmts (fB (st 12)), scope := fS (st 12), globals := 3, closure := [], defaults := .none, kwdefaults := .none, doc := .none, pyModule := (.str (Str.ofString "law_sc0084_01") 2301), annotations := none, code := (.ref 147), closureTuple := .none, builtins := 0 }), #[]⟩
noncomputable def tr13 (P : Params) : BT := (.node (boot_o_0 P) (.node (boot_o_1 P) (.node (ob13_3 P) (.node (boot_o_7 P) (.node (ob1_15 P) (.node (ob5_31 P) (.node (ob5_63 P) (.node ((b3sub 38) P) .nil .nil) .nil) (.node ((b3sub 6) P) .nil .nil)) (.node (ob5_47 P) (.node (ob7_79 P) (.node (ob13_143 P) .nil .nil) .nil) (.node ((b3sub 22) P) .nil .nil))) (.node (ob3_23 P) (.node (ob5_39 P) (.node (ob7_71 P) (.node (ob11_135 P) .nil .nil) .nil) (.node ((b3sub 14) P) .nil .nil)) (.node (ob5_55 P) (.node (ob8_87 P) .nil .nil) (.node ((b3sub 30) P) .nil .nil)))) (.node (oba_11 P) (.node (ob1_19 P) (.node (ob5_35 P) (.node (ob5_67 P) (.node (ob10_131 P) .nil .nil) .nil) (.node ((b3sub 10) P) .nil .nil)) (.node (ob5_51 P) (.node (ob8_83 P) (.node (ob13_147 P) .nil .nil) .nil) (.node ((b3sub 26) P) .nil .nil))) (.node (ob3_27 P) (.node (ob5_43 P) (.node (ob7_75 P) (.node (ob11_139 P) .nil .nil) .nil) (.node ((b3sub 18) P) .nil .nil)) (.node (ob5_59 P) (.node ((b3sub 2) P) .nil .nil) (.node ((b3sub 34) P) .nil .nil))))) (.node (boot_o_5 P) (.node (boot_o_9 P) (.node (ob1_17 P) (.node (ob5_33 P) (.node (ob5_65 P) (.node (ob10_129 P) .nil .nil) .nil) (.node ((b3sub 8) P) .nil .nil)) (.node (ob5_49 P) (.node (ob7_81 P) (.node (ob13_145 P) .nil .nil) .nil) (.node ((b3sub 24) P) .nil .nil))) (.node (ob3_25 P) (.node (ob5_41 P) (.node (ob7_73 P) (.node (ob11_137 P) .nil .nil) .nil) (.node ((b3sub 16) P) .nil .nil)) (.node (ob5_57 P) (.node (b3main P) .nil .nil) (.node ((b3sub 32) P) .nil .nil)))) (.node (oba_13 P) (.node (ob1_21 P) (.node (ob5_37 P) (.node (ob5_69 P) (.node (ob10_133 P) .nil .nil) .nil) (.node ((b3sub 12) P) .nil .nil)) (.node (ob5_53 P) (.node (ob8_85 P) .nil .nil) (.node ((b3sub 28) P) .nil .nil))) (.node (ob5_29 P) (.node (ob5_45 P) (.node (ob7_77 P) (.node (ob11_141 P) .nil .nil) .nil) (.node ((b3sub 20) P) .nil .nil)) (.node (ob5_61 P) (.node ((b3sub 4) P) .nil .nil) (.node ((b3sub 36) P) .nil .nil)))))) (.node (boot_o_2 P) (.node (boot_o_4 P) (.node (boot_o_8 P) (.node (ob1_16 P) (.node (ob5_32 P) (.node (ob5_64 P) (.node (ob10_128 P) .nil .nil) .nil) (.node ((b3sub 7) P) .nil .nil)) (.node (ob5_48 P) (.node (ob7_80 P) (.node (ob13_144 P) .nil .nil) .nil) (.node ((b3sub 23) P) .nil .nil))) (.node (ob3_24 P) (.node (ob5_40 P) (.node (ob7_72 P) (.node (ob11_136 P) .nil .nil) .nil) (.node ((b3sub 15) P) .nil .nil)) (.node (ob5_56 P) (.node (ob8_88 P) .nil .nil) (.node ((b3sub 31) P) .nil .nil)))) (.node (ob13_12 P) (.node (ob1_20 P) (.node (ob5_36 P) (.node (ob5_68 P) (.node (ob10_132 P) .nil .nil) .nil) (.node ((b3sub 11) P) .nil .nil)) (.node (ob5_52 P) (.node (ob8_84 P) (.node (ob13_148 P) .nil .nil) .nil) (.node ((b3sub 27) P) .nil .nil))) (.node (ob3_28 P) (.node (ob5_44 P) (.node (ob7_76 P) (.node (ob11_140 P) .nil .nil) .nil) (.node ((b3sub 19) P) .nil .nil)) (.node (ob5_60 P) (.node ((b3sub 3) P) .nil .nil) (.node ((b3sub 35) P) .nil .nil))))) (.node (boot_o_6 P) (.node (boot_o_10 P) (.node (ob1_18 P) (.node (ob5_34 P) (.node (ob5_66 P) (.node (ob10_130 P) .nil .nil) .nil) (.node ((b3sub 9) P) .nil .nil)) (.node (ob5_50 P) (.node (ob8_82 P) (.node (ob13_146 P) .nil .nil) .nil) (.node ((b3sub 25) P) .nil .nil))) (.node (ob3_26 P) (.node (ob5_42 P) (.node (ob7_74 P) (.node (ob11_138 P) .nil .nil) .nil) (.node ((b3sub 17) P) .nil .nil)) (.node (ob5_58 P) (.node ((b3sub 1) P) .nil .nil) (.node ((b3sub 33) P) .nil .nil)))) (.node (oba_14 P) (.node (ob3_22 P) (.node (ob5_38 P) (.node (ob5_70 P) (.node (ob10_134 P) .nil .nil) .nil) (.node ((b3sub 13) P) .nil .nil)) (.node (ob5_54 P) (.node (ob8_86 P) .nil .nil) (.node ((b3sub 29) P) .nil .nil))) (.node (ob5_30 P) (.node (ob5_46 P) (.node (ob7_78 P) (.node (ob13_142 P) .nil .nil) .nil) (.node ((b3sub 21) P) .nil .nil)) (.node (ob5_62 P) (.node ((b3sub 5) P) .nil .nil) (.node ((b3sub 37) P) .nil .nil)))))))
noncomputable abbrev sz13 : Nat := 149
noncomputable abbrev tk13 : Nat := 2318
noncomputable abbrev ps13 : Pos := ⟨74, 0, 89, 28⟩
noncomputable abbrev nst13 : Nat := 37
noncomputable def ob14_3 (P : Params) : Obj := ⟨(.type "dict"), none, (.dict #[⟨PyData.keyHash P (Str.ofString "__name__"), (.str (Str.ofString "__name__") 165), (.str (Str.ofString "law_sc0084_01") 2301)⟩, ⟨PyData.keyHash P (Str.ofString "__doc__"), (.str (Str.ofString "__doc__") 166), .none⟩, ⟨PyData.keyHash P (Str.ofString "__package__"), (.str (Str.ofString "__package__") 167), .none⟩, ⟨PyData.keyHash P (Str.ofString "__loader__"), (.str (Str.ofString "__loader__") 168), (.builtin "__main__.__loader__#opaque")⟩, ⟨PyData.keyHash P (Str.ofString "__spec__"), (.str (Str.ofString "__spec__") 169), .none⟩, ⟨PyData.keyHash P (Str.ofString "__annotations__"), (.str (Str.ofString "__annotations__") 170), (.ref 6)⟩, ⟨PyData.keyHash P (Str.ofString "__builtins__"), (.str (Str.ofString "__builtins__") 171), (.ref 4)⟩, ⟨PyData.keyHash P (Str.ofString "__file__"), (.str (Str.ofString "__file__") 173), (.str (Str.ofString "/claim/cut.py") 172)⟩, ⟨PyData.keyHash P (Str.ofString "__cached__"), (.str (Str.ofString "__cached__") 174), .none⟩, ⟨PyData.keyHash P (Str.ofString "_wall"), (.str (Str.ofString "_wall") 193), (.ref 21)⟩, ⟨PyData.keyHash P (Str.ofString "_strip_exception_details"), (.str (Str.ofString "_strip_exception_details") 205), (.ref 28)⟩, ⟨PyData.keyHash P (Str.ofString "_netrclex"), (.str (Str.ofString "_netrclex") 265), (.ref 66)⟩, ⟨PyData.keyHash P (Str.ofString "b1_set"), (.str (Str.ofString "b1_set") 327), (.ref 78)⟩, ⟨PyData.keyHash P (Str.ofString "in_table_b1"), (.str (Str.ofString "in_table_b1") 334), (.ref 88)⟩, ⟨PyData.keyHash P (Str.ofString "b3_exceptions"), (.str (Str.ofString "b3_exceptions") 2285), (.ref 89)⟩, ⟨PyData.keyHash P (Str.ofString "map_table_b3"), (.str (Str.ofString "map_table_b3") 2293), (.ref 134)⟩, ⟨PyData.keyHash P (Str.ofString "in_table_c11"), (.str (Str.ofString "in_table_c11") 2300), (.ref 141)⟩, ⟨PyData.keyHash P (Str.ofString "_law_drawn"), (.str (Str.ofString "_law_drawn") 2317), (.ref 148)⟩, ⟨PyData.keyHash P (Str.ofString "_law_word"), (.str (Str.ofString "_law_word") 2328), (.ref 155)⟩] 19), #[]⟩
noncomputable def ob14_12 (P : Params) : Obj := ⟨.none, none, (.fields #[(.int 1 0), (.int 0 0), (.ref 20), (.int 5 0), (.int 0 0), (.ref 27), (.int 18 0), (.int 0 0), (.ref 34), (.int 63 0), (.int 0 0), (.ref 87), (.int 66 0), (.int 0 0), (.ref 133), (.int 71 0), (.int 0 0), (.ref 140), (.int 74 0), (.int 0 0), (.ref 147), (.int 90 0), (.int 0 0), (.ref 154)]), #[]⟩
noncomputable def ob14_149 (P : Params) : Obj := ⟨(.type "tuple"), none, (.seq #[] 0), #[]⟩
noncomputable def ob14_150 (P : Params) : Obj := ⟨.none, none, (.fields #[]), #[]⟩
noncomputable def ob14_151 (P : Params) : Obj := ⟨(.type "tuple"), none, (.seq #[(.str (Str.ofString "text") 2321), (.str (Str.ofString "written") 2322), (.str (Str.ofString "place") 2323), (.str (Str.ofString "stream") 2324)] 0), #[]⟩
noncomputable def ob14_152 (P : Params) : Obj := ⟨(.type "tuple"), none, (.seq #[(.str (Str.ofString "signs") 2325)] 0), #[]⟩
noncomputable def ob14_153 (P : Params) : Obj := ⟨.none, none, (.func { name := (Str.ofString "_law_word"), qualname := (Str.ofString "_law_word"), params := fP (st 13), body := .stmts (fB (st 13)), scope := fS (st 13), globals := 0, closure := [], defaults := .none, kwdefaults := .none, doc := .none, pyModule := .none, annotations := none, code := .none, closureTuple := .none, builtins := 0 }), #[]⟩
noncomputable def ob14_154 (P : Params) : Obj := ⟨(.type "code"), none, (.fields #[(.str (Str.ofString "_law_word") 2318), (.str (Str.ofString "_law_word") 2319), (.str (Str.ofString "/claim/cut.py") 2320), (.int 90 0), (.int 1 0), (.int 0 0), (.int 0 0), (.int 3 0), (.ref 149), (.bool true), (.int 181 0), (.ref 150), .none, (.ref 151), (.ref 152), (.ref 153), (.int 2326 0), (.int 90 0), (.str (Str.ofString "/claim/cut.py") 2327)]), #[]⟩
noncomputable def ob14_155 (P : Params) : Obj := ⟨(.type "function"), none, (.func { name := (Str.ofString "_law_word"), qualname := (Str.ofString "_law_word"), params := fP (st 13), body := .stmts (fB (st 13)), scope := fS (st 13), globals := 3, closure := [], defaults := .none, kwdefaults := .none, doc := .none, pyModule := (.str (Str.ofString "law_sc0084_01") 2301), annotations := none, code := (.ref 154), closureTuple := .none, builtins := 0 }), #[]⟩
noncomputable def tr14 (P : Params) : BT := (.node (boot_o_0 P) (.node (boot_o_1 P) (.node (ob14_3 P) (.node (boot_o_7 P) (.node (ob1_15 P) (.node (ob5_31 P) (.node (ob5_63 P) (.node ((b3sub 38) P) .nil .nil) .nil) (.node ((b3sub 6) P) .nil .nil)) (.node (ob5_47 P) (.node (ob7_79 P) (.node (ob13_143 P) .nil .nil) .nil) (.node ((b3sub 22) P) .nil .nil))) (.node (ob3_23 P) (.node (ob5_39 P) (.node (ob7_71 P) (.node (ob11_135 P) .nil .nil) .nil) (.node ((b3sub 14) P) .nil .nil)) (.node (ob5_55 P) (.node (ob8_87 P) (.node (ob14_151 P) .nil .nil) .nil) (.node ((b3sub 30) P) .nil .nil)))) (.node (oba_11 P) (.node (ob1_19 P) (.node (ob5_35 P) (.node (ob5_67 P) (.node (ob10_131 P) .nil .nil) .nil) (.node ((b3sub 10) P) .nil .nil)) (.node (ob5_51 P) (.node (ob8_83 P) (.node (ob13_147 P) .nil .nil) .nil) (.node ((b3sub 26) P) .nil .nil))) (.node (ob3_27 P) (.node (ob5_43 P) (.node (ob7_75 P) (.node (ob11_139 P) .nil .nil) .nil) (.node ((b3sub 18) P) .nil .nil)) (.node (ob5_59 P) (.node ((b3sub 2) P) (.node (ob14_155 P) .nil .nil) .nil) (.node ((b3sub 34) P) .nil .nil))))) (.node (boot_o_5 P) (.node (boot_o_9 P) (.node (ob1_17 P) (.node (ob5_33 P) (.node (ob5_65 P) (.node (ob10_129 P) .nil .nil) .nil) (.node ((b3sub 8) P) .nil .nil)) (.node (ob5_49 P) (.node (ob7_81 P) (.node (ob13_145 P) .nil .nil) .nil) (.node ((b3sub 24) P) .nil .nil))) (.node (ob3_25 P) (.node (ob5_41 P) (.node (ob7_73 P) (.node (ob11_137 P) .nil .nil) .nil) (.node ((b3sub 16) P) .nil .nil)) (.node (ob5_57 P) (.node (b3main P) (.node (ob14_153 P) .nil .nil) .nil) (.node ((b3sub 32) P) .nil .nil)))) (.node (oba_13 P) (.node (ob1_21 P) (.node (ob5_37 P) (.node (ob5_69 P) (.node (ob10_133 P) .nil .nil) .nil) (.node ((b3sub 12) P) .nil .nil)) (.node (ob5_53 P) (.node (ob8_85 P) (.node (ob14_149 P) .nil .nil) .nil) (.node ((b3sub 28) P) .nil .nil))) (.node (ob5_29 P) (.node (ob5_45 P) (.node (ob7_77 P) (.node (ob11_141 P) .nil .nil) .nil) (.node ((b3sub 20) P) .nil .nil)) (.node (ob5_61 P) (.node ((b3sub 4) P) .nil .nil) (.node ((b3sub 36) P) .nil .nil)))))) (.node (boot_o_2 P) (.node (boot_o_4 P) (.node (boot_o_8 P) (.node (ob1_16 P) (.node (ob5_32 P) (.node (ob5_64 P) (.node (ob10_128 P) .nil .nil) .nil) (.node ((b3sub 7) P) .nil .nil)) (.node (ob5_48 P) (.node (ob7_80 P) (.node (ob13_144 P) .nil .nil) .nil) (.node ((b3sub 23) P) .nil .nil))) (.node (ob3_24 P) (.node (ob5_40 P) (.node (ob7_72 P) (.node (ob11_136 P) .nil .nil) .nil) (.node ((b3sub 15) P) .nil .nil)) (.node (ob5_56 P) (.node (ob8_88 P) (.node (ob14_152 P) .nil .nil) .nil) (.node ((b3sub 31) P) .nil .nil)))) (.node (ob14_12 P) (.node (ob1_20 P) (.node (ob5_36 P) (.node (ob5_68 P) (.node (ob10_132 P) .nil .nil) .nil) (.node ((b3sub 11) P) .nil .nil)) (.node (ob5_52 P) (.node (ob8_84 P) (.node (ob13_148 P) .nil .nil) .nil) (.node ((b3sub 27) P) .nil .nil))) (.node (ob3_28 P) (.node (ob5_44 P) (.node (ob7_76 P) (.node (ob11_140 P) .nil .nil) .nil) (.node ((b3sub 19) P) .nil .nil)) (.node (ob5_60 P) (.node ((b3sub 3) P) .nil .nil) (.node ((b3sub 35) P) .nil .nil))))) (.node (boot_o_6 P) (.node (boot_o_10 P) (.node (ob1_18 P) (.node (ob5_34 P) (.node (ob5_66 P) (.node (ob10_130 P) .nil .nil) .nil) (.node ((b3sub 9) P) .nil .nil)) (.node (ob5_50 P) (.node (ob8_82 P) (.node (ob13_146 P) .nil .nil) .nil) (.node ((b3sub 25) P) .nil .nil))) (.node (ob3_26 P) (.node (ob5_42 P) (.node (ob7_74 P) (.node (ob11_138 P) .nil .nil) .nil) (.node ((b3sub 17) P) .nil .nil)) (.node (ob5_58 P) (.node ((b3sub 1) P) (.node (ob14_154 P) .nil .nil) .nil) (.node ((b3sub 33) P) .nil .nil)))) (.node (oba_14 P) (.node (ob3_22 P) (.node (ob5_38 P) (.node (ob5_70 P) (.node (ob10_134 P) .nil .nil) .nil) (.node ((b3sub 13) P) .nil .nil)) (.node (ob5_54 P) (.node (ob8_86 P) (.node (ob14_150 P) .nil .nil) .nil) (.node ((b3sub 29) P) .nil .nil))) (.node (ob5_30 P) (.node (ob5_46 P) (.node (ob7_78 P) (.node (ob13_142 P) .nil .nil) .nil) (.node ((b3sub 21) P) .nil .nil)) (.node (ob5_62 P) (.node ((b3sub 5) P) .nil .nil) (.node ((b3sub 37) P) .nil .nil)))))))
noncomputable abbrev sz14 : Nat := 156
noncomputable abbrev tk14 : Nat := 2329
noncomputable abbrev ps14 : Pos := ⟨90, 0, 99, 40⟩
noncomputable abbrev nst14 : Nat := 33
noncomputable def ob15_3 (P : Params) : Obj := ⟨(.type "dict"), none, (.dict #[⟨PyData.keyHash P (Str.ofString "__name__"), (.str (Str.ofString "__name__") 165), (.str (Str.ofString "law_sc0084_01") 2301)⟩, ⟨PyData.keyHash P (Str.ofString "__doc__"), (.str (Str.ofString "__doc__") 166), .none⟩, ⟨PyData.keyHash P (Str.ofString "__package__"), (.str (Str.ofString "__package__") 167), .none⟩, ⟨PyData.keyHash P (Str.ofString "__loader__"), (.str (Str.ofString "__loader__") 168), (.builtin "__main__.__loader__#opaque")⟩, ⟨PyData.keyHash P (Str.ofString "__spec__"), (.str (Str.ofString "__spec__") 169), .none⟩, ⟨PyData.keyHash P (Str.ofString "__annotations__"), (.str (Str.ofString "__annotations__") 170), (.ref 6)⟩, ⟨PyData.keyHash P (Str.ofString "__builtins__"), (.str (Str.ofString "__builtins__") 171), (.ref 4)⟩, ⟨PyData.keyHash P (Str.ofString "__file__"), (.str (Str.ofString "__file__") 173), (.str (Str.ofString "/claim/cut.py") 172)⟩, ⟨PyData.keyHash P (Str.ofString "__cached__"), (.str (Str.ofString "__cached__") 174), .none⟩, ⟨PyData.keyHash P (Str.ofString "_wall"), (.str (Str.ofString "_wall") 193), (.ref 21)⟩, ⟨PyData.keyHash P (Str.ofString "_strip_exception_details"), (.str (Str.ofString "_strip_exception_details") 205), (.ref 28)⟩, ⟨PyData.keyHash P (Str.ofString "_netrclex"), (.str (Str.ofString "_netrclex") 265), (.ref 66)⟩, ⟨PyData.keyHash P (Str.ofString "b1_set"), (.str (Str.ofString "b1_set") 327), (.ref 78)⟩, ⟨PyData.keyHash P (Str.ofString "in_table_b1"), (.str (Str.ofString "in_table_b1") 334), (.ref 88)⟩, ⟨PyData.keyHash P (Str.ofString "b3_exceptions"), (.str (Str.ofString "b3_exceptions") 2285), (.ref 89)⟩, ⟨PyData.keyHash P (Str.ofString "map_table_b3"), (.str (Str.ofString "map_table_b3") 2293), (.ref 134)⟩, ⟨PyData.keyHash P (Str.ofString "in_table_c11"), (.str (Str.ofString "in_table_c11") 2300), (.ref 141)⟩, ⟨PyData.keyHash P (Str.ofString "_law_drawn"), (.str (Str.ofString "_law_drawn") 2317), (.ref 148)⟩, ⟨PyData.keyHash P (Str.ofString "_law_word"), (.str (Str.ofString "_law_word") 2328), (.ref 155)⟩, ⟨PyData.keyHash P (Str.ofString "_law_laid"), (.str (Str.ofString "_law_laid") 2334), (.ref 160)⟩] 20), #[]⟩
noncomputable def ob15_12 (P : Params) : Obj := ⟨.none, none, (.fields #[(.int 1 0), (.int 0 0), (.ref 20), (.int 5 0), (.int 0 0), (.ref 27), (.int 18 0), (.int 0 0), (.ref 34), (.int 63 0), (.int 0 0), (.ref 87), (.int 66 0), (.int 0 0), (.ref 133), (.int 71 0), (.int 0 0), (.ref 140), (.int 74 0), (.int 0 0), (.ref 147), (.int 90 0), (.int 0 0), (.ref 154), (.int 100 0), (.int 0 0), (.ref 159)]), #[]⟩
noncomputable def ob15_156 (P : Params) : Obj := ⟨(.type "tuple"), none, (.seq #[] 0), #[]⟩
noncomputable def ob15_157 (P : Params) : Obj := ⟨.none, none, (.fields #[]), #[]⟩
noncomputable def ob15_158 (P : Params) : Obj := ⟨.none, none, (.func { name := (Str.ofString "_law_laid"), qualname := (Str.ofString "_law_laid"), params := fP (st 14), body := .stmts (fB (st 14)), scope := fS (st 14), globals := 0, closure := [], defaults := .none, kwdefaults := .none, doc := .none, pyModule := .none, annotations := none, code := .none, closureTuple := .none, builtins := 0 }), #[]⟩
noncomputable def ob15_159 (P : Params) : Obj := ⟨(.type "code"), none, (.fields #[(.str (Str.ofString "_law_laid") 2329), (.str (Str.ofString "_law_laid") 2330), (.str (Str.ofString "/claim/cut.py") 2331), (.int 100 0), (.int 2 0), (.int 0 0), (.int 0 0), (.int 3 0), (.ref 156), (.bool true), (.int 181 0), (.ref 157), .none, .none, .none, (.ref 158), (.int 2332 0), (.int 100 0), (.str (Str.ofString "/claim/cut.py") 2333)]), #[]⟩
noncomputable def ob15_160 (P : Params) : Obj := ⟨(.type "function"), none, (.func { name := (Str.ofString "_law_laid"), qualname := (Str.ofString "_law_laid"), params := fP (st 14), body := .stmts (fB (st 14)), scope := fS (st 14), globals := 3, closure := [], defaults := .none, kwdefaults := .none, doc := .none, pyModule := (.str (Str.ofString "law_sc0084_01") 2301), annotations := none, code := (.ref 159), closureTuple := .none, builtins := 0 }), #[]⟩
noncomputable def tr15 (P : Params) : BT := (.node (boot_o_0 P) (.node (boot_o_1 P) (.node (ob15_3 P) (.node (boot_o_7 P) (.node (ob1_15 P) (.node (ob5_31 P) (.node (ob5_63 P) (.node ((b3sub 38) P) .nil .nil) .nil) (.node ((b3sub 6) P) (.node (ob15_159 P) .nil .nil) .nil)) (.node (ob5_47 P) (.node (ob7_79 P) (.node (ob13_143 P) .nil .nil) .nil) (.node ((b3sub 22) P) .nil .nil))) (.node (ob3_23 P) (.node (ob5_39 P) (.node (ob7_71 P) (.node (ob11_135 P) .nil .nil) .nil) (.node ((b3sub 14) P) .nil .nil)) (.node (ob5_55 P) (.node (ob8_87 P) (.node (ob14_151 P) .nil .nil) .nil) (.node ((b3sub 30) P) .nil .nil)))) (.node (oba_11 P) (.node (ob1_19 P) (.node (ob5_35 P) (.node (ob5_67 P) (.node (ob10_131 P) .nil .nil) .nil) (.node ((b3sub 10) P) .nil .nil)) (.node (ob5_51 P) (.node (ob8_83 P) (.node (ob13_147 P) .nil .nil) .nil) (.node ((b3sub 26) P) .nil .nil))) (.node (ob3_27 P) (.node (ob5_43 P) (.node (ob7_75 P) (.node (ob11_139 P) .nil .nil) .nil) (.node ((b3sub 18) P) .nil .nil)) (.node (ob5_59 P) (.node ((b3sub 2) P) (.node (ob14_155 P) .nil .nil) .nil) (.node ((b3sub 34) P) .nil .nil))))) (.node (boot_o_5 P) (.node (boot_o_9 P) (.node (ob1_17 P) (.node (ob5_33 P) (.node (ob5_65 P) (.node (ob10_129 P) .nil .nil) .nil) (.node ((b3sub 8) P) .nil .nil)) (.node (ob5_49 P) (.node (ob7_81 P) (.node (ob13_145 P) .nil .nil) .nil) (.node ((b3sub 24) P) .nil .nil))) (.node (ob3_25 P) (.node (ob5_41 P) (.node (ob7_73 P) (.node (ob11_137 P) .nil .nil) .nil) (.node ((b3sub 16) P) .nil .nil)) (.node (ob5_57 P) (.node (b3main P) (.node (ob14_153 P) .nil .nil) .nil) (.node ((b3sub 32) P) .nil .nil)))) (.node (oba_13 P) (.node (ob1_21 P) (.node (ob5_37 P) (.node (ob5_69 P) (.node (ob10_133 P) .nil .nil) .nil) (.node ((b3sub 12) P) .nil .nil)) (.node (ob5_53 P) (.node (ob8_85 P) (.node (ob14_149 P) .nil .nil) .nil) (.node ((b3sub 28) P) .nil .nil))) (.node (ob5_29 P) (.node (ob5_45 P) (.node (ob7_77 P) (.node (ob11_141 P) .nil .nil) .nil) (.node ((b3sub 20) P) .nil .nil)) (.node (ob5_61 P) (.node ((b3sub 4) P) (.node (ob15_157 P) .nil .nil) .nil) (.node ((b3sub 36) P) .nil .nil)))))) (.node (boot_o_2 P) (.node (boot_o_4 P) (.node (boot_o_8 P) (.node (ob1_16 P) (.node (ob5_32 P) (.node (ob5_64 P) (.node (ob10_128 P) .nil .nil) .nil) (.node ((b3sub 7) P) (.node (ob15_160 P) .nil .nil) .nil)) (.node (ob5_48 P) (.node (ob7_80 P) (.node (ob13_144 P) .nil .nil) .nil) (.node ((b3sub 23) P) .nil .nil))) (.node (ob3_24 P) (.node (ob5_40 P) (.node (ob7_72 P) (.node (ob11_136 P) .nil .nil) .nil) (.node ((b3sub 15) P) .nil .nil)) (.node (ob5_56 P) (.node (ob8_88 P) (.node (ob14_152 P) .nil .nil) .nil) (.node ((b3sub 31) P) .nil .nil)))) (.node (ob15_12 P) (.node (ob1_20 P) (.node (ob5_36 P) (.node (ob5_68 P) (.node (ob10_132 P) .nil .nil) .nil) (.node ((b3sub 11) P) .nil .nil)) (.node (ob5_52 P) (.node (ob8_84 P) (.node (ob13_148 P) .nil .nil) .nil) (.node ((b3sub 27) P) .nil .nil))) (.node (ob3_28 P) (.node (ob5_44 P) (.node (ob7_76 P) (.node (ob11_140 P) .nil .nil) .nil) (.node ((b3sub 19) P) .nil .nil)) (.node (ob5_60 P) (.node ((b3sub 3) P) (.node (ob15_156 P) .nil .nil) .nil) (.node ((b3sub 35) P) .nil .nil))))) (.node (boot_o_6 P) (.node (boot_o_10 P) (.node (ob1_18 P) (.node (ob5_34 P) (.node (ob5_66 P) (.node (ob10_130 P) .nil .nil) .nil) (.node ((b3sub 9) P) .nil .nil)) (.node (ob5_50 P) (.node (ob8_82 P) (.node (ob13_146 P) .nil .nil) .nil) (.node ((b3sub 25) P) .nil .nil))) (.node (ob3_26 P) (.node (ob5_42 P) (.node (ob7_74 P) (.node (ob11_138 P) .nil .nil) .nil) (.node ((b3sub 17) P) .nil .nil)) (.node (ob5_58 P) (.node ((b3sub 1) P) (.node (ob14_154 P) .nil .nil) .nil) (.node ((b3sub 33) P) .nil .nil)))) (.node (oba_14 P) (.node (ob3_22 P) (.node (ob5_38 P) (.node (ob5_70 P) (.node (ob10_134 P) .nil .nil) .nil) (.node ((b3sub 13) P) .nil .nil)) (.node (ob5_54 P) (.node (ob8_86 P) (.node (ob14_150 P) .nil .nil) .nil) (.node ((b3sub 29) P) .nil .nil))) (.node (ob5_30 P) (.node (ob5_46 P) (.node (ob7_78 P) (.node (ob13_142 P) .nil .nil) .nil) (.node ((b3sub 21) P) .nil .nil)) (.node (ob5_62 P) (.node ((b3sub 5) P) (.node (ob15_158 P) .nil .nil) .nil) (.node ((b3sub 37) P) .nil .nil)))))))
noncomputable abbrev sz15 : Nat := 161
noncomputable abbrev tk15 : Nat := 2335
noncomputable abbrev ps15 : Pos := ⟨100, 0, 109, 41⟩
noncomputable abbrev nst15 : Nat := 26
noncomputable def ob16_3 (P : Params) : Obj := ⟨(.type "dict"), none, (.dict #[⟨PyData.keyHash P (Str.ofString "__name__"), (.str (Str.ofString "__name__") 165), (.str (Str.ofString "law_sc0084_01") 2301)⟩, ⟨PyData.keyHash P (Str.ofString "__doc__"), (.str (Str.ofString "__doc__") 166), .none⟩, ⟨PyData.keyHash P (Str.ofString "__package__"), (.str (Str.ofString "__package__") 167), .none⟩, ⟨PyData.keyHash P (Str.ofString "__loader__"), (.str (Str.ofString "__loader__") 168), (.builtin "__main__.__loader__#opaque")⟩, ⟨PyData.keyHash P (Str.ofString "__spec__"), (.str (Str.ofString "__spec__") 169), .none⟩, ⟨PyData.keyHash P (Str.ofString "__annotations__"), (.str (Str.ofString "__annotations__") 170), (.ref 6)⟩, ⟨PyData.keyHash P (Str.ofString "__builtins__"), (.str (Str.ofString "__builtins__") 171), (.ref 4)⟩, ⟨PyData.keyHash P (Str.ofString "__file__"), (.str (Str.ofString "__file__") 173), (.str (Str.ofString "/claim/cut.py") 172)⟩, ⟨PyData.keyHash P (Str.ofString "__cached__"), (.str (Str.ofString "__cached__") 174), .none⟩, ⟨PyData.keyHash P (Str.ofString "_wall"), (.str (Str.ofString "_wall") 193), (.ref 21)⟩, ⟨PyData.keyHash P (Str.ofString "_strip_exception_details"), (.str (Str.ofString "_strip_exception_details") 205), (.ref 28)⟩, ⟨PyData.keyHash P (Str.ofString "_netrclex"), (.str (Str.ofString "_netrclex") 265), (.ref 66)⟩, ⟨PyData.keyHash P (Str.ofString "b1_set"), (.str (Str.ofString "b1_set") 327), (.ref 78)⟩, ⟨PyData.keyHash P (Str.ofString "in_table_b1"), (.str (Str.ofString "in_table_b1") 334), (.ref 88)⟩, ⟨PyData.keyHash P (Str.ofString "b3_exceptions"), (.str (Str.ofString "b3_exceptions") 2285), (.ref 89)⟩, ⟨PyData.keyHash P (Str.ofString "map_table_b3"), (.str (Str.ofString "map_table_b3") 2293), (.ref 134)⟩, ⟨PyData.keyHash P (Str.ofString "in_table_c11"), (.str (Str.ofString "in_table_c11") 2300), (.ref 141)⟩, ⟨PyData.keyHash P (Str.ofString "_law_drawn"), (.str (Str.ofString "_law_drawn") 2317), (.ref 148)⟩, ⟨PyData.keyHash P (Str.ofString "_law_word"), (.str (Str.ofString "_law_word") 2328), (.ref 155)⟩, ⟨PyData.keyHash P (Str.ofString "_law_laid"), (.str (Str.ofString "_law_laid") 2334), (.ref 160)⟩, ⟨PyData.keyHash P (Str.ofString "_law_due"), (.str (Str.ofString "_law_due") 2340), (.ref 165)⟩] 21), #[]⟩
noncomputable def ob16_12 (P : Params) : Obj := ⟨.none, none, (.fields #[(.int 1 0), (.int 0 0), (.ref 20), (.int 5 0), (.int 0 0), (.ref 27), (.int 18 0), (.int 0 0), (.ref 34), (.int 63 0), (.int 0 0), (.ref 87), (.int 66 0), (.int 0 0), (.ref 133), (.int 71 0), (.int 0 0), (.ref 140), (.int 74 0), (.int 0 0), (.ref 147), (.int 90 0), (.int 0 0), (.ref 154), (.int 100 0), (.int 0 0), (.ref 159), (.int 110 0), (.int 0 0), (.ref 164)]), #[]⟩
noncomputable def ob16_161 (P : Params) : Obj := ⟨(.type "tuple"), none, (.seq #[] 0), #[]⟩
noncomputable def ob16_162 (P : Params) : Obj := ⟨.none, none, (.fields #[]), #[]⟩
noncomputable def ob16_163 (P : Params) : Obj := ⟨.none, none, (.func { name := (Str.ofString "_law_due"), qualname := (Str.ofString "_law_due"), params := fP (st 15), body := .stmts (fB (st 15)), scope := fS (st 15), globals := 0, closure := [], defaults := .none, kwdefaults := .none, doc := .none, pyModule := .none, annotations := none, code := .none, closureTuple := .none, builtins := 0 }), #[]⟩
noncomputable def ob16_164 (P : Params) : Obj := ⟨(.type "code"), none, (.fields #[(.str (Str.ofString "_law_due") 2335), (.str (Str.ofString "_law_due") 2336), (.str (Str.ofString "/claim/cut.py") 2337), (.int 110 0), (.int 2 0), (.int 0 0), (.int 0 0), (.int 3 0), (.ref 161), (.bool true), (.int 181 0), (.ref 162), .none, .none, .none, (.ref 163), (.int 2338 0), (.int 110 0), (.str (Str.ofString "/claim/cut.py") 2339)]), #[]⟩
noncomputable def ob16_165 (P : Params) : Obj := ⟨(.type "function"), none, (.func { name := (Str.ofString "_law_due"), qualname := (Str.ofString "_law_due"), params := fP (st 15), body := .stmts (fB (st 15)), scope := fS (st 15), globals := 3, closure := [], defaults := .none, kwdefaults := .none, doc := .none, pyModule := (.str (Str.ofString "law_sc0084_01") 2301), annotations := none, code := (.ref 164), closureTuple := .none, builtins := 0 }), #[]⟩
noncomputable def tr16 (P : Params) : BT := (.node (boot_o_0 P) (.node (boot_o_1 P) (.node (ob16_3 P) (.node (boot_o_7 P) (.node (ob1_15 P) (.node (ob5_31 P) (.node (ob5_63 P) (.node ((b3sub 38) P) .nil .nil) .nil) (.node ((b3sub 6) P) (.node (ob15_159 P) .nil .nil) .nil)) (.node (ob5_47 P) (.node (ob7_79 P) (.node (ob13_143 P) .nil .nil) .nil) (.node ((b3sub 22) P) .nil .nil))) (.node (ob3_23 P) (.node (ob5_39 P) (.node (ob7_71 P) (.node (ob11_135 P) .nil .nil) .nil) (.node ((b3sub 14) P) .nil .nil)) (.node (ob5_55 P) (.node (ob8_87 P) (.node (ob14_151 P) .nil .nil) .nil) (.node ((b3sub 30) P) .nil .nil)))) (.node (oba_11 P) (.node (ob1_19 P) (.node (ob5_35 P) (.node (ob5_67 P) (.node (ob10_131 P) .nil .nil) .nil) (.node ((b3sub 10) P) (.node (ob16_163 P) .nil .nil) .nil)) (.node (ob5_51 P) (.node (ob8_83 P) (.node (ob13_147 P) .nil .nil) .nil) (.node ((b3sub 26) P) .nil .nil))) (.node (ob3_27 P) (.node (ob5_43 P) (.node (ob7_75 P) (.node (ob11_139 P) .nil .nil) .nil) (.node ((b3sub 18) P) .nil .nil)) (.node (ob5_59 P) (.node ((b3sub 2) P) (.node (ob14_155 P) .nil .nil) .nil) (.node ((b3sub 34) P) .nil .nil))))) (.node (boot_o_5 P) (.node (boot_o_9 P) (.node (ob1_17 P) (.node (ob5_33 P) (.node (ob5_65 P) (.node (ob10_129 P) .nil .nil) .nil) (.node ((b3sub 8) P) (.node (ob16_161 P) .nil .nil) .nil)) (.node (ob5_49 P) (.node (ob7_81 P) (.node (ob13_145 P) .nil .nil) .nil) (.node ((b3sub 24) P) .nil .nil))) (.node (ob3_25 P) (.node (ob5_41 P) (.node (ob7_73 P) (.node (ob11_137 P) .nil .nil) .nil) (.node ((b3sub 16) P) .nil .nil)) (.node (ob5_57 P) (.node (b3main P) (.node (ob14_153 P) .nil .nil) .nil) (.node ((b3sub 32) P) .nil .nil)))) (.node (oba_13 P) (.node (ob1_21 P) (.node (ob5_37 P) (.node (ob5_69 P) (.node (ob10_133 P) .nil .nil) .nil) (.node ((b3sub 12) P) (.node (ob16_165 P) .nil .nil) .nil)) (.node (ob5_53 P) (.node (ob8_85 P) (.node (ob14_149 P) .nil .nil) .nil) (.node ((b3sub 28) P) .nil .nil))) (.node (ob5_29 P) (.node (ob5_45 P) (.node (ob7_77 P) (.node (ob11_141 P) .nil .nil) .nil) (.node ((b3sub 20) P) .nil .nil)) (.node (ob5_61 P) (.node ((b3sub 4) P) (.node (ob15_157 P) .nil .nil) .nil) (.node ((b3sub 36) P) .nil .nil)))))) (.node (boot_o_2 P) (.node (boot_o_4 P) (.node (boot_o_8 P) (.node (ob1_16 P) (.node (ob5_32 P) (.node (ob5_64 P) (.node (ob10_128 P) .nil .nil) .nil) (.node ((b3sub 7) P) (.node (ob15_160 P) .nil .nil) .nil)) (.node (ob5_48 P) (.node (ob7_80 P) (.node (ob13_144 P) .nil .nil) .nil) (.node ((b3sub 23) P) .nil .nil))) (.node (ob3_24 P) (.node (ob5_40 P) (.node (ob7_72 P) (.node (ob11_136 P) .nil .nil) .nil) (.node ((b3sub 15) P) .nil .nil)) (.node (ob5_56 P) (.node (ob8_88 P) (.node (ob14_152 P) .nil .nil) .nil) (.node ((b3sub 31) P) .nil .nil)))) (.node (ob16_12 P) (.node (ob1_20 P) (.node (ob5_36 P) (.node (ob5_68 P) (.node (ob10_132 P) .nil .nil) .nil) (.node ((b3sub 11) P) (.node (ob16_164 P) .nil .nil) .nil)) (.node (ob5_52 P) (.node (ob8_84 P) (.node (ob13_148 P) .nil .nil) .nil) (.node ((b3sub 27) P) .nil .nil))) (.node (ob3_28 P) (.node (ob5_44 P) (.node (ob7_76 P) (.node (ob11_140 P) .nil .nil) .nil) (.node ((b3sub 19) P) .nil .nil)) (.node (ob5_60 P) (.node ((b3sub 3) P) (.node (ob15_156 P) .nil .nil) .nil) (.node ((b3sub 35) P) .nil .nil))))) (.node (boot_o_6 P) (.node (boot_o_10 P) (.node (ob1_18 P) (.node (ob5_34 P) (.node (ob5_66 P) (.node (ob10_130 P) .nil .nil) .nil) (.node ((b3sub 9) P) (.node (ob16_162 P) .nil .nil) .nil)) (.node (ob5_50 P) (.node (ob8_82 P) (.node (ob13_146 P) .nil .nil) .nil) (.node ((b3sub 25) P) .nil .nil))) (.node (ob3_26 P) (.node (ob5_42 P) (.node (ob7_74 P) (.node (ob11_138 P) .nil .nil) .nil) (.node ((b3sub 17) P) .nil .nil)) (.node (ob5_58 P) (.node ((b3sub 1) P) (.node (ob14_154 P) .nil .nil) .nil) (.node ((b3sub 33) P) .nil .nil)))) (.node (oba_14 P) (.node (ob3_22 P) (.node (ob5_38 P) (.node (ob5_70 P) (.node (ob10_134 P) .nil .nil) .nil) (.node ((b3sub 13) P) .nil .nil)) (.node (ob5_54 P) (.node (ob8_86 P) (.node (ob14_150 P) .nil .nil) .nil) (.node ((b3sub 29) P) .nil .nil))) (.node (ob5_30 P) (.node (ob5_46 P) (.node (ob7_78 P) (.node (ob13_142 P) .nil .nil) .nil) (.node ((b3sub 21) P) .nil .nil)) (.node (ob5_62 P) (.node ((b3sub 5) P) (.node (ob15_158 P) .nil .nil) .nil) (.node ((b3sub 37) P) .nil .nil)))))))
noncomputable abbrev sz16 : Nat := 166
noncomputable abbrev tk16 : Nat := 2341
noncomputable abbrev ps16 : Pos := ⟨110, 0, 128, 15⟩
noncomputable abbrev nst16 : Nat := 26
noncomputable def ob17_3 (P : Params) : Obj := ⟨(.type "dict"), none, (.dict #[⟨PyData.keyHash P (Str.ofString "__name__"), (.str (Str.ofString "__name__") 165), (.str (Str.ofString "law_sc0084_01") 2301)⟩, ⟨PyData.keyHash P (Str.ofString "__doc__"), (.str (Str.ofString "__doc__") 166), .none⟩, ⟨PyData.keyHash P (Str.ofString "__package__"), (.str (Str.ofString "__package__") 167), .none⟩, ⟨PyData.keyHash P (Str.ofString "__loader__"), (.str (Str.ofString "__loader__") 168), (.builtin "__main__.__loader__#opaque")⟩, ⟨PyData.keyHash P (Str.ofString "__spec__"), (.str (Str.ofString "__spec__") 169), .none⟩, ⟨PyData.keyHash P (Str.ofString "__annotations__"), (.str (Str.ofString "__annotations__") 170), (.ref 6)⟩, ⟨PyData.keyHash P (Str.ofString "__builtins__"), (.str (Str.ofString "__builtins__") 171), (.ref 4)⟩, ⟨PyData.keyHash P (Str.ofString "__file__"), (.str (Str.ofString "__file__") 173), (.str (Str.ofString "/claim/cut.py") 172)⟩, ⟨PyData.keyHash P (Str.ofString "__cached__"), (.str (Str.ofString "__cached__") 174), .none⟩, ⟨PyData.keyHash P (Str.ofString "_wall"), (.str (Str.ofString "_wall") 193), (.ref 21)⟩, ⟨PyData.keyHash P (Str.ofString "_strip_exception_details"), (.str (Str.ofString "_strip_exception_details") 205), (.ref 28)⟩, ⟨PyData.keyHash P (Str.ofString "_netrclex"), (.str (Str.ofString "_netrclex") 265), (.ref 66)⟩, ⟨PyData.keyHash P (Str.ofString "b1_set"), (.str (Str.ofString "b1_set") 327), (.ref 78)⟩, ⟨PyData.keyHash P (Str.ofString "in_table_b1"), (.str (Str.ofString "in_table_b1") 334), (.ref 88)⟩, ⟨PyData.keyHash P (Str.ofString "b3_exceptions"), (.str (Str.ofString "b3_exceptions") 2285), (.ref 89)⟩, ⟨PyData.keyHash P (Str.ofString "map_table_b3"), (.str (Str.ofString "map_table_b3") 2293), (.ref 134)⟩, ⟨PyData.keyHash P (Str.ofString "in_table_c11"), (.str (Str.ofString "in_table_c11") 2300), (.ref 141)⟩, ⟨PyData.keyHash P (Str.ofString "_law_drawn"), (.str (Str.ofString "_law_drawn") 2317), (.ref 148)⟩, ⟨PyData.keyHash P (Str.ofString "_law_word"), (.str (Str.ofString "_law_word") 2328), (.ref 155)⟩, ⟨PyData.keyHash P (Str.ofString "_law_laid"), (.str (Str.ofString "_law_laid") 2334), (.ref 160)⟩, ⟨PyData.keyHash P (Str.ofString "_law_due"), (.str (Str.ofString "_law_due") 2340), (.ref 165)⟩, ⟨PyData.keyHash P (Str.ofString "law"), (.str (Str.ofString "law") 2346), (.ref 170)⟩] 22), #[]⟩
noncomputable def ob17_12 (P : Params) : Obj := ⟨.none, none, (.fields #[(.int 1 0), (.int 0 0), (.ref 20), (.int 5 0), (.int 0 0), (.ref 27), (.int 18 0), (.int 0 0), (.ref 34), (.int 63 0), (.int 0 0), (.ref 87), (.int 66 0), (.int 0 0), (.ref 133), (.int 71 0), (.int 0 0), (.ref 140), (.int 74 0), (.int 0 0), (.ref 147), (.int 90 0), (.int 0 0), (.ref 154), (.int 100 0), (.int 0 0), (.ref 159), (.int 110 0), (.int 0 0), (.ref 164), (.int 129 0), (.int 0 0), (.ref 169)]), #[]⟩
noncomputable def ob17_166 (P : Params) : Obj := ⟨(.type "tuple"), none, (.seq #[] 0), #[]⟩
noncomputable def ob17_167 (P : Params) : Obj := ⟨.none, none, (.fields #[]), #[]⟩
noncomputable def ob17_168 (P : Params) : Obj := ⟨.none, none, (.func { name := (Str.ofString "law"), qualname := (Str.ofString "law"), params := fP (st 16), body := .stmts (fB (st 16)), scope := fS (st 16), globals := 0, closure := [], defaults := .none, kwdefaults := .none, doc := .none, pyModule := .none, annotations := none, code := .none, closureTuple := .none, builtins := 0 }), #[]⟩
noncomputable def ob17_169 (P : Params) : Obj := ⟨(.type "code"), none, (.fields #[(.str (Str.ofString "law") 2341), (.str (Str.ofString "law") 2342), (.str (Str.ofString "/claim/cut.py") 2343), (.int 129 0), (.int 1 0), (.int 0 0), (.int 0 0), (.int 3 0), (.ref 166), (.bool true), (.int 181 0), (.ref 167), .none, .none, .none, (.ref 168), (.int 2344 0), (.int 129 0), (.str (Str.ofString "/claim/cut.py") 2345)]), #[]⟩
noncomputable def ob17_170 (P : Params) : Obj := ⟨(.type "function"), none, (.func { name := (Str.ofString "law"), qualname := (Str.ofString "law"), params := fP (st 16), body := .stmts (fB (st 16)), scope := fS (st 16), globals := 3, closure := [], defaults := .none, kwdefaults := .none, doc := .none, pyModule := (.str (Str.ofString "law_sc0084_01") 2301), annotations := none, code := (.ref 169), closureTuple := .none, builtins := 0 }), #[]⟩
noncomputable def tr17 (P : Params) : BT := (.node (boot_o_0 P) (.node (boot_o_1 P) (.node (ob17_3 P) (.node (boot_o_7 P) (.node (ob1_15 P) (.node (ob5_31 P) (.node (ob5_63 P) (.node ((b3sub 38) P) .nil .nil) .nil) (.node ((b3sub 6) P) (.node (ob15_159 P) .nil .nil) .nil)) (.node (ob5_47 P) (.node (ob7_79 P) (.node (ob13_143 P) .nil .nil) .nil) (.node ((b3sub 22) P) .nil .nil))) (.node (ob3_23 P) (.node (ob5_39 P) (.node (ob7_71 P) (.node (ob11_135 P) .nil .nil) .nil) (.node ((b3sub 14) P) (.node (ob17_167 P) .nil .nil) .nil)) (.node (ob5_55 P) (.node (ob8_87 P) (.node (ob14_151 P) .nil .nil) .nil) (.node ((b3sub 30) P) .nil .nil)))) (.node (oba_11 P) (.node (ob1_19 P) (.node (ob5_35 P) (.node (ob5_67 P) (.node (ob10_131 P) .nil .nil) .nil) (.node ((b3sub 10) P) (.node (ob16_163 P) .nil .nil) .nil)) (.node (ob5_51 P) (.node (ob8_83 P) (.node (ob13_147 P) .nil .nil) .nil) (.node ((b3sub 26) P) .nil .nil))) (.node (ob3_27 P) (.node (ob5_43 P) (.node (ob7_75 P) (.node (ob11_139 P) .nil .nil) .nil) (.node ((b3sub 18) P) .nil .nil)) (.node (ob5_59 P) (.node ((b3sub 2) P) (.node (ob14_155 P) .nil .nil) .nil) (.node ((b3sub 34) P) .nil .nil))))) (.node (boot_o_5 P) (.node (boot_o_9 P) (.node (ob1_17 P) (.node (ob5_33 P) (.node (ob5_65 P) (.node (ob10_129 P) .nil .nil) .nil) (.node ((b3sub 8) P) (.node (ob16_161 P) .nil .nil) .nil)) (.node (ob5_49 P) (.node (ob7_81 P) (.node (ob13_145 P) .nil .nil) .nil) (.node ((b3sub 24) P) .nil .nil))) (.node (ob3_25 P) (.node (ob5_41 P) (.node (ob7_73 P) (.node (ob11_137 P) .nil .nil) .nil) (.node ((b3sub 16) P) (.node (ob17_169 P) .nil .nil) .nil)) (.node (ob5_57 P) (.node (b3main P) (.node (ob14_153 P) .nil .nil) .nil) (.node ((b3sub 32) P) .nil .nil)))) (.node (oba_13 P) (.node (ob1_21 P) (.node (ob5_37 P) (.node (ob5_69 P) (.node (ob10_133 P) .nil .nil) .nil) (.node ((b3sub 12) P) (.node (ob16_165 P) .nil .nil) .nil)) (.node (ob5_53 P) (.node (ob8_85 P) (.node (ob14_149 P) .nil .nil) .nil) (.node ((b3sub 28) P) .nil .nil))) (.node (ob5_29 P) (.node (ob5_45 P) (.node (ob7_77 P) (.node (ob11_141 P) .nil .nil) .nil) (.node ((b3sub 20) P) .nil .nil)) (.node (ob5_61 P) (.node ((b3sub 4) P) (.node (ob15_157 P) .nil .nil) .nil) (.node ((b3sub 36) P) .nil .nil)))))) (.node (boot_o_2 P) (.node (boot_o_4 P) (.node (boot_o_8 P) (.node (ob1_16 P) (.node (ob5_32 P) (.node (ob5_64 P) (.node (ob10_128 P) .nil .nil) .nil) (.node ((b3sub 7) P) (.node (ob15_160 P) .nil .nil) .nil)) (.node (ob5_48 P) (.node (ob7_80 P) (.node (ob13_144 P) .nil .nil) .nil) (.node ((b3sub 23) P) .nil .nil))) (.node (ob3_24 P) (.node (ob5_40 P) (.node (ob7_72 P) (.node (ob11_136 P) .nil .nil) .nil) (.node ((b3sub 15) P) (.node (ob17_168 P) .nil .nil) .nil)) (.node (ob5_56 P) (.node (ob8_88 P) (.node (ob14_152 P) .nil .nil) .nil) (.node ((b3sub 31) P) .nil .nil)))) (.node (ob17_12 P) (.node (ob1_20 P) (.node (ob5_36 P) (.node (ob5_68 P) (.node (ob10_132 P) .nil .nil) .nil) (.node ((b3sub 11) P) (.node (ob16_164 P) .nil .nil) .nil)) (.node (ob5_52 P) (.node (ob8_84 P) (.node (ob13_148 P) .nil .nil) .nil) (.node ((b3sub 27) P) .nil .nil))) (.node (ob3_28 P) (.node (ob5_44 P) (.node (ob7_76 P) (.node (ob11_140 P) .nil .nil) .nil) (.node ((b3sub 19) P) .nil .nil)) (.node (ob5_60 P) (.node ((b3sub 3) P) (.node (ob15_156 P) .nil .nil) .nil) (.node ((b3sub 35) P) .nil .nil))))) (.node (boot_o_6 P) (.node (boot_o_10 P) (.node (ob1_18 P) (.node (ob5_34 P) (.node (ob5_66 P) (.node (ob10_130 P) .nil .nil) .nil) (.node ((b3sub 9) P) (.node (ob16_162 P) .nil .nil) .nil)) (.node (ob5_50 P) (.node (ob8_82 P) (.node (ob13_146 P) .nil .nil) .nil) (.node ((b3sub 25) P) .nil .nil))) (.node (ob3_26 P) (.node (ob5_42 P) (.node (ob7_74 P) (.node (ob11_138 P) .nil .nil) .nil) (.node ((b3sub 17) P) (.node (ob17_170 P) .nil .nil) .nil)) (.node (ob5_58 P) (.node ((b3sub 1) P) (.node (ob14_154 P) .nil .nil) .nil) (.node ((b3sub 33) P) .nil .nil)))) (.node (oba_14 P) (.node (ob3_22 P) (.node (ob5_38 P) (.node (ob5_70 P) (.node (ob10_134 P) .nil .nil) .nil) (.node ((b3sub 13) P) (.node (ob17_166 P) .nil .nil) .nil)) (.node (ob5_54 P) (.node (ob8_86 P) (.node (ob14_150 P) .nil .nil) .nil) (.node ((b3sub 29) P) .nil .nil))) (.node (ob5_30 P) (.node (ob5_46 P) (.node (ob7_78 P) (.node (ob13_142 P) .nil .nil) .nil) (.node ((b3sub 21) P) .nil .nil)) (.node (ob5_62 P) (.node ((b3sub 5) P) (.node (ob15_158 P) .nil .nil) .nil) (.node ((b3sub 37) P) .nil .nil)))))))
noncomputable abbrev sz17 : Nat := 171
noncomputable abbrev tk17 : Nat := 2347
noncomputable abbrev ps17 : Pos := ⟨129, 0, 145, 15⟩
noncomputable abbrev nst17 : Nat := 26
noncomputable abbrev Sa (w : World) (os : OsState) : SharedT := ⟨tra w.params, sza, {}, #[], {}, tka, os⟩
noncomputable abbrev S1 (w : World) (os : OsState) : SharedT := ⟨tr1 w.params, sz1, {}, #[], {}, tk1, os⟩
noncomputable abbrev S2 (w : World) (os : OsState) : SharedT := ⟨tr2 w.params, sz2, {}, #[], {}, tk2, os⟩
noncomputable abbrev S3 (w : World) (os : OsState) : SharedT := ⟨tr3 w.params, sz3, {}, #[], {}, tk3, os⟩
noncomputable abbrev S4 (w : World) (os : OsState) : SharedT := ⟨tr4 w.params, sz4, {}, #[], {}, tk4, os⟩
noncomputable abbrev S5 (w : World) (os : OsState) : SharedT := ⟨tr5 w.params, sz5, {}, #[], {}, tk5, os⟩
noncomputable abbrev S6 (w : World) (os : OsState) : SharedT := ⟨tr6 w.params, sz6, {}, #[], {}, tk6, os⟩
noncomputable abbrev S7 (w : World) (os : OsState) : SharedT := ⟨tr7 w.params, sz7, {}, #[], {}, tk7, os⟩
noncomputable abbrev S8 (w : World) (os : OsState) : SharedT := ⟨tr8 w.params, sz8, {}, #[], {}, tk8, os⟩
noncomputable abbrev S9 (w : World) (os : OsState) : SharedT := ⟨tr9 w.params, sz9, {}, #[], {}, tk9, os⟩
noncomputable abbrev S10 (w : World) (os : OsState) : SharedT := ⟨tr10 w.params, sz10, {}, #[], {}, tk10, os⟩
noncomputable abbrev S11 (w : World) (os : OsState) : SharedT := ⟨tr11 w.params, sz11, {}, #[], {}, tk11, os⟩
noncomputable abbrev S12 (w : World) (os : OsState) : SharedT := ⟨tr12 w.params, sz12, {}, #[], {}, tk12, os⟩
noncomputable abbrev S13 (w : World) (os : OsState) : SharedT := ⟨tr13 w.params, sz13, {}, #[], {}, tk13, os⟩
noncomputable abbrev S14 (w : World) (os : OsState) : SharedT := ⟨tr14 w.params, sz14, {}, #[], {}, tk14, os⟩
noncomputable abbrev S15 (w : World) (os : OsState) : SharedT := ⟨tr15 w.params, sz15, {}, #[], {}, tk15, os⟩
noncomputable abbrev S16 (w : World) (os : OsState) : SharedT := ⟨tr16 w.params, sz16, {}, #[], {}, tk16, os⟩
noncomputable abbrev S17 (w : World) (os : OsState) : SharedT := ⟨tr17 w.params, sz17, {}, #[], {}, tk17, os⟩
noncomputable def H1 (P : Params) : Heap := ⟨#[boot_o_0 P, boot_o_1 P, boot_o_2 P, ob17_3 P, boot_o_4 P, boot_o_5 P, boot_o_6 P, boot_o_7 P, boot_o_8 P, boot_o_9 P, boot_o_10 P, oba_11 P, ob17_12 P, oba_13 P, oba_14 P, ob1_15 P, ob1_16 P, ob1_17 P, ob1_18 P, ob1_19 P, ob1_20 P, ob1_21 P, ob3_22 P, ob3_23 P, ob3_24 P, ob3_25 P, ob3_26 P, ob3_27 P, ob3_28 P, ob5_29 P, ob5_30 P, ob5_31 P, ob5_32 P, ob5_33 P, ob5_34 P, ob5_35 P, ob5_36 P, ob5_37 P, ob5_38 P, ob5_39 P, ob5_40 P, ob5_41 P, ob5_42 P, ob5_43 P, ob5_44 P, ob5_45 P, ob5_46 P, ob5_47 P, ob5_48 P, ob5_49 P, ob5_50 P, ob5_51 P, ob5_52 P, ob5_53 P, ob5_54 P, ob5_55 P, ob5_56 P, ob5_57 P, ob5_58 P, ob5_59 P, ob5_60 P, ob5_61 P, ob5_62 P, ob5_63 P, ob5_64 P, ob5_65 P, ob5_66 P, ob5_67 P, ob5_68 P, ob5_69 P, ob5_70 P, ob7_71 P, ob7_72 P, ob7_73 P, ob7_74 P, ob7_75 P, ob7_76 P, ob7_77 P, ob7_78 P, ob7_79 P, ob7_80 P, ob7_81 P, ob8_82 P, ob8_83 P, ob8_84 P, ob8_85 P, ob8_86 P, ob8_87 P, ob8_88 P, b3main P, (b3sub 1) P, (b3sub 2) P, (b3sub 3) P, (b3sub 4) P, (b3sub 5) P, (b3sub 6) P, (b3sub 7) P, (b3sub 8) P, (b3sub 9) P, (b3sub 10) P, (b3sub 11) P, (b3sub 12) P, (b3sub 13) P, (b3sub 14) P, (b3sub 15) P, (b3sub 16) P, (b3sub 17) P, (b3sub 18) P, (b3sub 19) P, (b3sub 20) P, (b3sub 21) P, (b3sub 22) P, (b3sub 23) P, (b3sub 24) P, (b3sub 25) P, (b3sub 26) P, (b3sub 27) P, (b3sub 28) P, (b3sub 29) P, (b3sub 30) P, (b3sub 31) P, (b3sub 32) P, (b3sub 33) P, (b3sub 34) P, (b3sub 35) P, (b3sub 36) P, (b3sub 37) P, (b3sub 38) P, ob10_128 P, ob10_129 P, ob10_130 P, ob10_131 P, ob10_132 P, ob10_133 P, ob10_134 P, ob11_135 P, ob11_136 P, ob11_137 P, ob11_138 P, ob11_139 P, ob11_140 P, ob11_141 P, ob13_142 P, ob13_143 P, ob13_144 P, ob13_145 P, ob13_146 P, ob13_147 P, ob13_148 P, ob14_149 P, ob14_150 P, ob14_151 P, ob14_152 P, ob14_153 P, ob14_154 P, ob14_155 P, ob15_156 P, ob15_157 P, ob15_158 P, ob15_159 P, ob15_160 P, ob16_161 P, ob16_162 P, ob16_163 P, ob16_164 P, ob16_165 P, ob17_166 P, ob17_167 P, ob17_168 P, ob17_169 P, ob17_170 P], {}⟩
end
end Mine
end

section
open PySem PySem.W PySem.Calls PyProof.Rows
set_option Elab.async false
set_option maxRecDepth 100000
set_option maxHeartbeats 4000000
namespace Mine
theorem boot_pw : ∀ w : World, (fencedOpening treeTable pw w 40000).map (fun s => (s.heap, s.gens, s.drawn, s.toks)) = some (boot_heap w.params, Array.mk [], boot_drawn, boot_toks) :=
  boot_open (p := pw) (by kernel_rfl) (by kernel_rfl) (fun s => by kernel_rfl)
theorem pcPre : ∀ w : World, (fun os => topGo treeTable pw w 11 (some (.ref 6)) 12 ⟨boot_heap w.params, #[], boot_drawn, boot_toks, os⟩ (topStub pw)) =
    (fun os => some ((Sa w os).abs, ⟨denote treeTable cE, cE, psa, BB⟩)) := by intro w; kernel_rfl
theorem pcBlock : ∀ w : World, (fun os => segRun treeTable pw w 11 (some (.ref 6)) 1 1 (Sa w os).abs (blockOf (behindTheImports pw) env0 cE psa BB)) =
    (fun os => some (.next, (Sa w os).abs, cE, psa)) := by intro w; kernel_rfl
theorem pc1 : ∀ w : World, (fun os => segRunT treeTable pw w 11 (some (.ref 6)) 1 (nst1 + 1) (Sa w os) (piecesOf [st 0] env0 cE psa BB)) =
    (fun os => some (.next, S1 w os, cE, ps1)) := by intro w; kernel_rfl
theorem pc2 : ∀ w : World, (fun os => segRunT treeTable pw w 11 (some (.ref 6)) 1 (nst2 + 1) (S1 w os) (piecesOf [st 1] env0 cE ps1 BB)) =
    (fun os => some (.next, S2 w os, cE, ps2)) := by intro w; kernel_rfl
theorem pc3 : ∀ w : World, (fun os => segRunT treeTable pw w 11 (some (.ref 6)) 1 (nst3 + 1) (S2 w os) (piecesOf [st 2] env0 cE ps2 BB)) =
    (fun os => some (.next, S3 w os, cE, ps3)) := by intro w; kernel_rfl
theorem pc4 : ∀ w : World, (fun os => segRunT treeTable pw w 11 (some (.ref 6)) 1 (nst4 + 1) (S3 w os) (piecesOf [st 3] env0 cE ps3 BB)) =
    (fun os => some (.next, S4 w os, cE, ps4)) := by intro w; kernel_rfl
theorem pc5 : ∀ w : World, (fun os => segRunT treeTable pw w 11 (some (.ref 6)) 1 (nst5 + 1) (S4 w os) (piecesOf [st 4] env0 cE ps4 BB)) =
    (fun os => some (.next, S5 w os, cE, ps5)) := by intro w; kernel_rfl
theorem pc6 : ∀ w : World, (fun os => segRunT treeTable pw w 11 (some (.ref 6)) 1 (nst6 + 1) (S5 w os) (piecesOf [st 5] env0 cE ps5 BB)) =
    (fun os => some (.next, S6 w os, cE, ps6)) := by intro w; kernel_rfl
theorem pc8 : ∀ w : World, (fun os => segRunT treeTable pw w 11 (some (.ref 6)) 1 (nst8 + 1) (S7 w os) (piecesOf [st 7] env0 cE ps7 BB)) =
    (fun os => some (.next, S8 w os, cE, ps8)) := by intro w; kernel_rfl
theorem pc10 : ∀ w : World, (fun os => segRunT treeTable pw w 11 (some (.ref 6)) 1 (nst10 + 1) (S9 w os) (piecesOf [st 9] env0 cE ps9 BB)) =
    (fun os => some (.next, S10 w os, cE, ps10)) := by intro w; kernel_rfl
theorem pc11 : ∀ w : World, (fun os => segRunT treeTable pw w 11 (some (.ref 6)) 1 (nst11 + 1) (S10 w os) (piecesOf [st 10] env0 cE ps10 BB)) =
    (fun os => some (.next, S11 w os, cE, ps11)) := by intro w; kernel_rfl
theorem pc12 : ∀ w : World, (fun os => segRunT treeTable pw w 11 (some (.ref 6)) 1 (nst12 + 1) (S11 w os) (piecesOf [st 11] env0 cE ps11 BB)) =
    (fun os => some (.next, S12 w os, cE, ps12)) := by intro w; kernel_rfl
theorem pc13 : ∀ w : World, (fun os => segRunT treeTable pw w 11 (some (.ref 6)) 1 (nst13 + 1) (S12 w os) (piecesOf [st 12] env0 cE ps12 BB)) =
    (fun os => some (.next, S13 w os, cE, ps13)) := by intro w; kernel_rfl
theorem pc14 : ∀ w : World, (fun os => segRunT treeTable pw w 11 (some (.ref 6)) 1 (nst14 + 1) (S13 w os) (piecesOf [st 13] env0 cE ps13 BB)) =
    (fun os => some (.next, S14 w os, cE, ps14)) := by intro w; kernel_rfl
theorem pc15 : ∀ w : World, (fun os => segRunT treeTable pw w 11 (some (.ref 6)) 1 (nst15 + 1) (S14 w os) (piecesOf [st 14] env0 cE ps14 BB)) =
    (fun os => some (.next, S15 w os, cE, ps15)) := by intro w; kernel_rfl
theorem pc16 : ∀ w : World, (fun os => segRunT treeTable pw w 11 (some (.ref 6)) 1 (nst16 + 1) (S15 w os) (piecesOf [st 15] env0 cE ps15 BB)) =
    (fun os => some (.next, S16 w os, cE, ps16)) := by intro w; kernel_rfl
theorem pc17 : ∀ w : World, (fun os => segRunT treeTable pw w 11 (some (.ref 6)) 1 (nst17 + 1) (S16 w os) (piecesOf [st 16] env0 cE ps16 BB)) =
    (fun os => some (.next, S17 w os, cE, ps17)) := by intro w; kernel_rfl
end Mine
end

section
open PySem PySem.W PySem.Calls PyProof.Rows
set_option Elab.async false
set_option maxRecDepth 100000
set_option maxHeartbeats 4000000
namespace Mine
noncomputable def PC7 (w : World) : Prop := (fun os => segRunT treeTable pw w 11 (some (.ref 6)) 1 (nst7 + 1) (S6 w os) (piecesOf [st 6] env0 cE ps6 BB)) =
    (fun os => some (.next, S7 w os, cE, ps7))
theorem pc7ff : ∀ w : World, PC7 ((w.withFollow "special-get-raises" false).withFollow "set-order" false) := by
  intro w
  show (fun os => segRunT treeTable pw ((w.withFollow "special-get-raises" false).withFollow "set-order" false) 11 (some (.ref 6)) 1 (nst7 + 1) (S6 ((w.withFollow "special-get-raises" false).withFollow "set-order" false) os) ⟨(execs [st 6] env0).wrap doneF deadEnd id id, cE, ps6, BB⟩) = _
  rw [PySem.W.Fast.te10110043849684766642, PySem.W.Fast.te14364793385576792824, PySem.W.Fast.te12563942051412417395]
  kernel_rfl
theorem pc7ft : ∀ w : World, PC7 ((w.withFollow "special-get-raises" true).withFollow "set-order" false) := by
  intro w
  show (fun os => segRunT treeTable pw ((w.withFollow "special-get-raises" true).withFollow "set-order" false) 11 (some (.ref 6)) 1 (nst7 + 1) (S6 ((w.withFollow "special-get-raises" true).withFollow "set-order" false) os) ⟨(execs [st 6] env0).wrap doneF deadEnd id id, cE, ps6, BB⟩) = _
  rw [PySem.W.Fast.te10110043849684766642, PySem.W.Fast.te14364793385576792824, PySem.W.Fast.te12563942051412417395]
  kernel_rfl
theorem pc7tf : ∀ w : World, PC7 ((w.withFollow "special-get-raises" false).withFollow "set-order" true) := by
  intro w
  show (fun os => segRunT treeTable pw ((w.withFollow "special-get-raises" false).withFollow "set-order" true) 11 (some (.ref 6)) 1 (nst7 + 1) (S6 ((w.withFollow "special-get-raises" false).withFollow "set-order" true) os) ⟨(execs [st 6] env0).wrap doneF deadEnd id id, cE, ps6, BB⟩) = _
  rw [PySem.W.Fast.te10110043849684766642, PySem.W.Fast.te14364793385576792824, PySem.W.Fast.te12563942051412417395]
  kernel_rfl
theorem pc7tt : ∀ w : World, PC7 ((w.withFollow "special-get-raises" true).withFollow "set-order" true) := by
  intro w
  show (fun os => segRunT treeTable pw ((w.withFollow "special-get-raises" true).withFollow "set-order" true) 11 (some (.ref 6)) 1 (nst7 + 1) (S6 ((w.withFollow "special-get-raises" true).withFollow "set-order" true) os) ⟨(execs [st 6] env0).wrap doneF deadEnd id id, cE, ps6, BB⟩) = _
  rw [PySem.W.Fast.te10110043849684766642, PySem.W.Fast.te14364793385576792824, PySem.W.Fast.te12563942051412417395]
  kernel_rfl
theorem pc7 : ∀ w : World, PC7 w :=
  byRow2 "set-order" (byRow2 (P := fun w => PC7 (w.withFollow "set-order" false)) "special-get-raises" pc7ff pc7ft) (byRow2 (P := fun w => PC7 (w.withFollow "set-order" true)) "special-get-raises" pc7tf pc7tt)
end Mine
end

section
open PySem PySem.W PySem.Calls PyProof.Rows
set_option Elab.async false
set_option maxRecDepth 100000
set_option maxHeartbeats 4000000
namespace Mine
noncomputable abbrev go (w : World) (n : Nat) (s : Shared) (t : Thread) : Option (Shared × Thread) := segGo treeTable pw w 11 (some (.ref 6)) 1 n s t
theorem go_add {w : World} : ∀ {n m : Nat} {s s' : Shared} {t t' : Thread} {r : Option (Shared × Thread)}, go w n s t = some (s', t') → go w m s' t' = r → go w (n + m) s t = r
  | 0, m, s, s', t, t', r, h, k => by
    obtain ⟨rfl, rfl⟩ : s = s' ∧ t = t' := by simpa [go, segGo] using h
    rw [Nat.zero_add]; exact k
  | n + 1, m, s, s', t, t', r, h, k => by
    rw [show n + 1 + m = n + m + 1 by omega]
    unfold go segGo at h ⊢
    cases he : endAt 1 t with
    | some f => rw [he] at h; cases h
    | none =>
      rw [he] at h
      cases hk : stepOk 11 (some (.ref 6)) t with
      | false => rw [hk] at h; cases h
      | true =>
        rw [hk] at h
        cases hs : step (denote treeTable) pw w s t with
        | halt o s₂ => rw [hs] at h; cases h
        | go s₂ t₂ => rw [hs] at h; exact go_add h k

noncomputable def Ev (w : World) {α : Type} (m : Sem α) (s : Shared) (p : Pos) (n : Nat) (a : α) (s' : Shared) (p' : Pos) : Prop :=
  ∀ (K : α → Sem Fin) (H : Value → Sem Fin) (gd : Bool → Bool) (lv : List Value → List Value), go w n s ⟨m.wrap K H gd lv, cE, p, BB⟩ = some (s', ⟨K a, cE, p', BB⟩)
section
variable {w : World} {α β : Type} {s s' s'' : Shared} {p p' p'' : Pos} {n n' : Nat}
theorem ev_pure {a : α} : Ev w (pure a : Sem α) s p 0 a s p := fun _ _ _ _ => rfl
theorem ev_of_eq {m m' : Sem α} {a : α} (e : m = m') (h : Ev w m' s p n a s' p') : Ev w m s p n a s' p' := e ▸ h
theorem ev_bind {m : Sem α} {f : α → Sem β} {a : α} {b : β} (h : Ev w m s p n a s' p') (k : Ev w (f a) s' p' n' b s'' p'') : Ev w (m >>= f) s p (n + n') b s'' p'' := by
  intro K H gd lv
  rw [Sem.bind_eq_wrap', Sem.wrap_wrap]
  exact go_add (h (fun a => (f a).wrap K H gd lv) _ _ _) (k K H gd lv)
theorem ev_keep {m : Sem α} {vs : List Value} {a : α} (h : Ev w m s p n a s' p') : Ev w (m.keep vs) s p n a s' p' := by
  intro K H gd lv
  rw [Sem.keep_eq_wrap, Sem.wrap_wrap]
  exact h K _ _ _
theorem ev_holding {m : Sem α} {vs : List Value} {a : α} (h : Ev w m s p n a s' p') : Ev w (holding vs m) s p n a s' p' := by
  unfold holding
  split
  · exact h
  · exact ev_keep h
theorem ev_onRaise {m : Sem α} {k : Value → Sem Unit} {a : α} (h : Ev w m s p n a s' p') : Ev w (m.onRaise k) s p n a s' p' := by
  intro K H gd lv
  rw [Sem.onRaise_eq_wrap, Sem.wrap_wrap]
  exact h K _ _ _
theorem ev_tryCatch {m : Sem α} {k : Value → Sem α} {a : α} (h : Ev w m s p n a s' p') : Ev w (m.tryCatch k) s p n a s' p' := by
  intro K H gd lv
  rw [Sem.tryCatch_eq_wrap, Sem.wrap_wrap]
  exact h K _ _ _
theorem ev_fresh : Ev w fresh s p 1 s.toks { s with toks := s.toks + 1 } p := fun _ _ _ _ => by obtain ⟨h, g, d, t, o⟩ := s; rfl
theorem ev_ask : Ev w ask s p 1 ⟨pw, w.params⟩ s p := fun _ _ _ _ => by obtain ⟨h, g, d, t, o⟩ := s; rfl
theorem ev_rule {tag : String} : Ev w (rule tag) s p 1 () s p := fun _ _ _ _ => by obtain ⟨h, g, d, t, o⟩ := s; rfl
theorem ev_point : Ev w point s p 1 () s p := fun _ _ _ _ => by obtain ⟨h, g, d, t, o⟩ := s; rfl
theorem ev_standAt {q : Pos} : Ev w (standAt q) s p 1 () s q := fun _ _ _ _ => by obtain ⟨h, g, d, t, o⟩ := s; rfl
theorem ev_alloc {o : Obj} : Ev w (alloc o) s p 1 s.heap.objs.size { s with heap := s.heap.push o } p := fun _ _ _ _ => by obtain ⟨h, g, d, t, o⟩ := s; rfl
theorem ev_loadPart {a : Addr} {part : Option Value} {o : Obj} (ho : s.heap.get? a = some o) : Ev w (loadPart a part) s p 1 o s p := fun K H gd lv => by
  obtain ⟨h, g, d, t, os⟩ := s
  show go w 1 _ ⟨.load a part fun x => ((Sem.pure x : Sem Obj)).wrap K H gd lv, cE, p, BB⟩ = _
  unfold go segGo
  have e : step (denote treeTable) pw w ⟨h, g, d, t, os⟩ ⟨.load a part fun x => ((Sem.pure x : Sem Obj)).wrap K H gd lv, cE, p, BB⟩ = .go ⟨h, g, d, t, os⟩ ⟨K o, cE, p, BB⟩ := by
    simp only [step]
    rw [show h.get? a = some o from ho]
    rfl
  show (match step (denote treeTable) pw w ⟨h, g, d, t, os⟩ ⟨.load a part fun x => ((Sem.pure x : Sem Obj)).wrap K H gd lv, cE, p, BB⟩ with | .go s' t' => _ | .halt _ _ => _) = _
  rw [e]
  rfl
theorem ev_load {a : Addr} {o : Obj} (ho : s.heap.get? a = some o) : Ev w (load a) s p 1 o s p := ev_loadPart ho
theorem ev_updatePart {a : Addr} {part : Option Value} {f : Obj → Obj} (h11 : Nat.ble 11 a = true) (ho : (s.heap.get? a).isSome = true) : Ev w (updatePart a part f) s p 1 () { s with heap := s.heap.update a f } p := fun K H gd lv => by
  obtain ⟨h, g, d, t, os⟩ := s
  unfold go segGo
  have e : step (denote treeTable) pw w ⟨h, g, d, t, os⟩ ⟨.update a part f fun x => ((Sem.pure x : Sem Unit)).wrap K H gd lv, cE, p, BB⟩ = .go ⟨h.update a f, g, d, t, os⟩ ⟨K (), cE, p, BB⟩ := by
    simp only [step]
    rw [if_pos (show (h.get? a).isSome = true from ho)]
    rfl
  have ok : stepOk 11 (some (.ref 6)) ⟨.update a part f fun x => ((Sem.pure x : Sem Unit)).wrap K H gd lv, cE, p, BB⟩ = true := by
    show (_ && (Nat.ble 11 a || a == mainNs || a == cStatics || (some (Value.ref 6) == some (Value.ref a)))) = true
    rw [h11]; rfl
  show (match stepOk 11 (some (.ref 6)) ⟨.update a part f fun x => ((Sem.pure x : Sem Unit)).wrap K H gd lv, cE, p, BB⟩ with | false => none | true => match step (denote treeTable) pw w ⟨h, g, d, t, os⟩ ⟨.update a part f fun x => ((Sem.pure x : Sem Unit)).wrap K H gd lv, cE, p, BB⟩ with | .go s' t' => _ | .halt _ _ => _) = _
  rw [ok, e]
  rfl
end
/-- the hash of an int by the machine: up to its last look -/
noncomputable def HR (w : World) : Prop := ∀ (k : Int) (t : Tok) (h : Heap) (g : Array GenState) (d : Drawn) (tk : Nat) (os : OsState) (p : Pos) (K : Int → Sem Fin) (H : Value → Sem Fin) (gd : Bool → Bool) (lv : List Value → List Value),
  go w 5 ⟨h, g, d, tk, os⟩ ⟨(pyHash (.int k t)).wrap K H gd lv, cE, p, BB⟩ = some (⟨h, g, d, tk + 1, os⟩, ⟨(pyHashByItsType.reduced (rawHash k)).wrap K H gd lv, cE, p, BB⟩)
end Mine
end

section
open PySem PySem.W PySem.Calls PyProof.Rows
set_option Elab.async false
set_option maxRecDepth 100000
set_option maxHeartbeats 4000000
namespace Mine
theorem hrf : ∀ w : World, HR (w.withFollow "special-get-raises" false) := by
  intro w k t h g d tk os p K H gd lv
  kernel_rfl
theorem hrt : ∀ w : World, HR (w.withFollow "special-get-raises" true) := by
  intro w k t h g d tk os p K H gd lv
  kernel_rfl
theorem hr : ∀ w : World, HR w := byRow2 "special-get-raises" hrf hrt
theorem reduced_raw (k : Int) : pyHashByItsType.reduced (rawHash k) = pure (hashInt k) := by
  have hr := rawHash_range k
  show (if (decide (-(2 : Int) ^ 63 ≤ rawHash k) && decide (rawHash k < 2 ^ 63)) = true then _ else _) = _
  rw [if_pos (by rw [decide_eq_true hr.1, decide_eq_true hr.2]; rfl)]
  rfl
theorem hashInt_small {k : Int} (h0 : 0 ≤ k) (h1 : k < 2 ^ 60) : hashInt k = k := by
  obtain ⟨n, rfl⟩ := Int.eq_ofNat_of_zero_le h0
  have hn : n < 2 ^ 60 := by omega
  have e : rawHash (n : Int) = n := by
    unfold rawHash
    have e2 : n % (2 ^ 61 - 1) = n := Nat.mod_eq_of_lt (by omega)
    have e3 : ¬ ((n : Int) < 0) := by omega
    have e4 : ((n : Int) == -1) = false := by simp
    simp only [Int.natAbs_natCast, e3, if_false]
    have e5 : ((n : Int) % ((2 ^ 61 - 1 : Nat) : Int)) = n := by rw [← Int.natCast_emod, e2]
    rw [e5, e4]; rfl
  unfold hashInt
  rw [e]
  have e4 : ((n : Int) == -1) = false := by simp
  rw [e4]; rfl
section
variable {w : World} {α β : Type} {s s' s'' : Shared} {p p' p'' : Pos} {n n' : Nat}
theorem ev_pyHash {k : Int} {t : Tok} (h0 : 0 ≤ k) (h1 : k < 2 ^ 60) : Ev w (pyHash (.int k t)) s p 5 k { s with toks := s.toks + 1 } p := by
  intro K H gd lv
  obtain ⟨h, g, d, tk, os⟩ := s
  rw [hr w k t h g d tk os p K H gd lv, reduced_raw, hashInt_small h0 h1]
  rfl
theorem ev_mkInt {k : Int} : Ev w (mkInt k) s p 1 (.int k s.toks) { s with toks := s.toks + 1 } p := ev_bind (n' := 0) ev_fresh ev_pure
theorem ev_mkText {x : Str} : Ev w (mkText x) s p 1 (.str x s.toks) { s with toks := s.toks + 1 } p := ev_bind (n' := 0) ev_fresh ev_pure
theorem ev_dictEntries {a : Addr} {part : Option Value} {o : Obj} {es : Array DictEntry} {ep : Nat} (ho : s.heap.get? a = some o) (hd : o.data = .dict es ep) : Ev w (dictEntries a part) s p 1 es s p := by
  unfold dictEntries
  refine ev_bind (n := 1) (n' := 0) (ev_loadPart ho) ?_
  rw [hd]; exact ev_pure
theorem ev_dictEpoch {a : Addr} {part : Option Value} {o : Obj} {es : Array DictEntry} {ep : Nat} (ho : s.heap.get? a = some o) (hd : o.data = .dict es ep) : Ev w (dictEpoch a part) s p 1 ep s p := by
  unfold dictEpoch
  refine ev_bind (n := 1) (n' := 0) (ev_loadPart ho) ?_
  rw [hd]; exact ev_pure
theorem places_none {es : Array DictEntry} {h : Int} (hno : ∀ e ∈ es, e.hash ≠ h) : placesWithHash es.size (fun i => es[i]?.map (·.hash)) h = [] := by
  unfold placesWithHash
  refine List.filter_eq_nil_iff.mpr fun i hi => ?_
  have hi : i < es.size := List.mem_range.mp hi
  show ¬ ((es[i]?.map (·.hash)) == some h) = true
  rw [Array.getElem?_eq_getElem hi]
  simp [hno es[i] (Array.getElem_mem hi)]
theorem ev_dictFind {d : Addr} {o : Obj} {es : Array DictEntry} {ep : Nat} {k : Int} {t : Tok} (ho : s.heap.get? d = some o) (hd : o.data = .dict es ep) (hno : ∀ e ∈ es, e.hash ≠ k) :
    Ev w (dictFind d (.int k t) k) s p 1 none s p := by
  unfold dictFind
  refine ev_holding (ev_bind (n := 1) (n' := 0) (ev_dictEntries ho hd) ?_)
  dsimp only
  rw [places_none hno]
  rw [if_pos (show ((Value.int k t :: ([] : List Nat).filterMap fun i => es[i]?.map (·.key)).all carriedByValue) = true from rfl)]
  exact ev_bind (n := 0) (n' := 0) (ev_pure (a := ((none : Option (Option Nat)), ()))) ev_pure
structure Slot (G : Obj → Heap) (a : Addr) : Prop where
  get : ∀ o : Obj, o.isFreed = false → (G o).get? a = some o
  upd : ∀ (o : Obj) (f : Obj → Obj), (G o).update a f = G (f o)
  low : Nat.ble 11 a = true
noncomputable abbrev dob (es : List DictEntry) (n : Nat) : Obj := ⟨.type "dict", none, .dict es.toArray n, #[]⟩
theorem Slot.push {h : Heap} (hl : Nat.ble 11 h.objs.size = true) : Slot (fun o => h.push o) h.objs.size where
  get := fun o ho => Heap.get?_push_size _ ho
  upd := fun o f => by
    obtain ⟨objs, l⟩ := h
    show Heap.mk ((objs.push o).modify objs.size f) l = Heap.mk (objs.push (f o)) l
    congr 1
    apply Array.ext_getElem?
    intro i
    rw [Array.getElem?_modify, Array.getElem?_push, Array.getElem?_push]
    by_cases e : i = objs.size
    · subst e; simp
    · simp [e, Ne.symm e]
  low := hl
theorem ev_put {G : Obj → Heap} {a : Addr} {es : List DictEntry} {m : Nat} {e : DictEntry} {part : Option Value} {g : Array GenState} {d : Drawn} {tk : Nat} {os : OsState} (S : Slot G a) (hz : es.length < 1000) :
    Ev w (updateDictKeys a (·.push e) part) ⟨G (dob es m), g, d, tk, os⟩ p 3 () ⟨G (dob (es ++ [e]) (m + 1)), g, d, tk, os⟩ p := by
  unfold updateDictKeys
  refine ev_bind (n := 1) (n' := 2) (ev_loadPart (S.get _ rfl)) ?_
  refine ev_bind (n := 1) (n' := 1) (ev_updatePart S.low (by rw [S.get _ rfl]; rfl)) ?_
  have e1 : (G (dob es m)).update a (Obj.mapDictKeys (·.push e)) = G (dob (es ++ [e]) (m + 1)) := by
    rw [S.upd]
    show G ⟨.type "dict", none, .dict (es.toArray.push e) (m + 1), #[]⟩ = _
    rw [List.push_toArray]
  dsimp only
  rw [e1]
  unfold lookBehind
  refine ev_bind (n := 1) (n' := 0) (ev_loadPart (S.get _ rfl)) ?_
  have hp : (dob (es ++ [e]) (m + 1)).data.pastItsLine = none := by
    show (if ((es ++ [e]).toArray).size > sizeLine + 1 then some "dict:memory" else none) = none
    rw [if_neg]
    rw [List.size_toArray, List.length_append, sizeLine_eq]
    simp only [List.length_singleton]; omega
  rw [hp]
  exact ev_pure
theorem ev_dictSet {G : Obj → Heap} {a : Addr} {es : List DictEntry} {m : Nat} {k : Int} {t : Tok} {v : Value} {g : Array GenState} {d : Drawn} {tk : Nat} {os : OsState} (S : Slot G a) (hz : es.length < 1000)
    (h0 : 0 ≤ k) (h1 : k < 2 ^ 60) (hno : ∀ e ∈ es, e.hash ≠ k) :
    Ev w (dictSet a (.int k t) v) ⟨G (dob es m), g, d, tk, os⟩ p 10 () ⟨G (dob (es ++ [⟨k, .int k t, v⟩]) (m + 1)), g, d, tk + 1, os⟩ p := by
  unfold dictSet
  refine ev_holding (ev_bind (n := 5) (n' := 5) (ev_pyHash h0 h1) ?_)
  unfold dictSetHashed
  refine ev_holding (ev_bind (n := 1) (n' := 4) (ev_dictFind (S.get _ rfl) rfl (fun e he => hno e (by simpa using he))) ?_)
  exact ev_bind (n := 1) (n' := 3) ev_rule (ev_put S hz)
theorem ev_dictPut {G : Obj → Heap} {a : Addr} {es : List DictEntry} {m : Nat} {k : Int} {t : Tok} {v : Value} {g : Array GenState} {d : Drawn} {tk : Nat} {os : OsState} (S : Slot G a) (hz : es.length < 1000)
    (hno : ∀ e ∈ es, e.hash ≠ k) :
    Ev w (dictPut a k (.int k t) v) ⟨G (dob es m), g, d, tk, os⟩ p 4 () ⟨G (dob (es ++ [⟨k, .int k t, v⟩]) (m + 1)), g, d, tk, os⟩ p := by
  unfold dictPut
  refine ev_bind (n := 1) (n' := 3) (ev_dictFind (S.get _ rfl) rfl (fun e he => hno e (by simpa using he))) ?_
  exact ev_put S hz
end
end Mine
end

section
open PySem PySem.W PySem.Calls PyProof.Rows
set_option Elab.async false
set_option maxRecDepth 100000
set_option maxHeartbeats 4000000
namespace Mine
noncomputable abbrev X := (Int × Pos) × (Str × Pos)
noncomputable def pr (q : Pos) (x : X) : Sem Value × Sem Value := (mkInt x.1.1, do let v ← mkText x.2.1; standAt q; pure v)
noncomputable def Xok (xs : List X) : Prop := (∀ x ∈ xs, 0 ≤ x.1.1 ∧ x.1.1 < 2 ^ 60) ∧ (xs.map (·.1.1)).Nodup
theorem entA_length : ∀ (xs : List X) (t : Nat), (entA xs t).length = xs.length
  | [], _ => rfl
  | _ :: r, t => by simp [entA, entA_length r]
theorem entB_length : ∀ (xs : List X) (t : Nat), (entB xs t).length = xs.length
  | [], _ => rfl
  | _ :: r, t => by simp [entB, entB_length r]
theorem entA_app : ∀ (xs ys : List X) (t : Nat), entA (xs ++ ys) t = entA xs t ++ entA ys (t + 3 * xs.length)
  | [], ys, t => by simp [entA]
  | x :: r, ys, t => by
    simp only [List.cons_append, entA, entA_app r ys, List.length_cons]
    rw [show t + 3 + 3 * r.length = t + 3 * (r.length + 1) by omega]
theorem entA_hash : ∀ (xs : List X) (t : Nat), (entA xs t).map (·.hash) = xs.map (·.1.1)
  | [], _ => rfl
  | x :: r, t => by simp [entA, entA_hash r]
theorem entB_hash : ∀ (xs : List X) (t : Nat), (entB xs t).map (·.hash) = xs.map (·.1.1)
  | [], _ => rfl
  | x :: r, t => by simp [entB, entB_hash r]
theorem take_succ' {α : Type} (xs : List α) (j : Nat) (hj : j < xs.length) : xs.take (j + 1) = xs.take j ++ [xs[j]] := by
  rw [List.take_add_one, List.getElem?_eq_getElem hj]; rfl
section
variable {w : World} {α β : Type} {s s' s'' : Shared} {p p' p'' : Pos} {n n' : Nat}
theorem ev_forIn {γ β : Type} {f : γ → β → Sem (ForInStep β)} {b : β} {c : Nat} (St : Nat → Shared) : ∀ (xs : List γ) (i : Nat),
    (∀ j (hj : j < xs.length), Ev w (f xs[j] b) (St (i + j)) p c (.yield b) (St (i + j + 1)) p) → Ev w (forIn xs b f) (St i) p (c * xs.length) b (St (i + xs.length)) p
  | [], i, _ => ev_pure
  | x :: r, i, h => by
    have e : forIn (x :: r) b f = f x b >>= fun y => match y with | .done b => pure b | .yield b => forIn r b f := by rw [List.forIn_cons]; rfl
    rw [e, show c * (x :: r).length = c + c * r.length by rw [List.length_cons, Nat.mul_succ]; omega]
    refine ev_bind (h 0 (by simp)) ?_
    have := ev_forIn (f := f) (b := b) (c := c) St r (i + 1) (fun j hj => by
      have := h (j + 1) (by simpa using hj)
      rw [show i + 1 + j = i + (j + 1) by omega]
      exact this)
    rw [show i + (x :: r).length = i + 1 + r.length by rw [List.length_cons]; omega]
    exact this
theorem ev_forIn' {γ β : Type} {f : γ → β → Sem (ForInStep β)} {b : β} {c : Nat} (St : Nat → Shared) {xs : List γ} (h0 : s = St 0) (h1 : s' = St xs.length) (hn : n = c * xs.length)
    (h : ∀ j (hj : j < xs.length), Ev w (f xs[j] b) (St j) p c (.yield b) (St (j + 1)) p) : Ev w (forIn xs b f) s p n b s' p := by
  subst h0 h1 hn
  have := ev_forIn (f := f) (b := b) (c := c) (p := p) (w := w) St xs 0 (fun j hj => by have := h j hj; rwa [Nat.zero_add])
  rwa [Nat.zero_add] at this
theorem nodup_ne {xs : List X} (h : (xs.map (·.1.1)).Nodup) {j : Nat} (hj : j < xs.length) : ∀ y ∈ xs.take j, y.1.1 ≠ (xs[j]).1.1 := by
  intro y hy e
  obtain ⟨i, hi, rfl⟩ := List.mem_iff_getElem.mp hy
  rw [List.length_take] at hi
  rw [List.getElem_take] at e
  have := (List.pairwise_iff_getElem.mp h) i j (by simp; omega) (by simpa using hj) (by omega)
  rw [List.getElem_map, List.getElem_map] at this
  exact this e
theorem mem_entA {xs : List X} {t : Nat} {e : DictEntry} (h : e ∈ entA xs t) : ∃ y ∈ xs, e.hash = y.1.1 := by
  have : e.hash ∈ (entA xs t).map (·.hash) := List.mem_map_of_mem h
  rw [entA_hash] at this
  obtain ⟨y, hy, e⟩ := List.mem_map.mp this
  exact ⟨y, hy, e.symm⟩
theorem mem_entB {xs : List X} {t : Nat} {e : DictEntry} (h : e ∈ entB xs t) : ∃ y ∈ xs, e.hash = y.1.1 := by
  have : e.hash ∈ (entB xs t).map (·.hash) := List.mem_map_of_mem h
  rw [entB_hash] at this
  obtain ⟨y, hy, e⟩ := List.mem_map.mp this
  exact ⟨y, hy, e.symm⟩
theorem ev_subLong {h : Heap} {g : Array GenState} {d : Drawn} {tk : Nat} {os : OsState} {q : Pos} (xs : List X) (hl : Nat.ble 11 h.objs.size = true) (ok : Xok xs) (h15 : ¬ xs.length ≤ 15) (h9 : xs.length < 900) :
    Ev w (subDict (xs.map (pr q))) ⟨h, g, d, tk, os⟩ q (2 + 13 * xs.length) h.objs.size ⟨h.push (dob (entA xs tk) xs.length), g, d, tk + 3 * xs.length, os⟩ q := by
  unfold subDict
  rw [show 2 + 13 * xs.length = 1 + (1 + 13 * xs.length + 0) by omega]
  refine ev_bind (n := 1) (n' := 1 + 13 * xs.length + 0) ev_alloc ?_
  refine ev_bind (n := 1 + 13 * xs.length) (n' := 0) (a := PUnit.unit) (ev_holding ?_) ev_pure
  rw [if_neg (by rw [List.length_map]; exact h15)]
  refine ev_bind (n := 1) (n' := 13 * xs.length) ev_rule ?_
  have L := ev_forIn (w := w) (p := q) (c := 13) (b := PUnit.unit) (fun i => (⟨h.push (dob (entA (xs.take i) tk) i), g, d, tk + 3 * i, os⟩ : Shared)) (xs.map (pr q)) 0
    (f := fun (x : Sem Value × Sem Value) (_ : PUnit) => do
        let kv ← x.1
        let vv ← holding [kv] x.2
        holding [kv, vv] (dictSet h.objs.size kv vv)
        pure (ForInStep.yield PUnit.unit)) (fun j hj => by
      rw [List.length_map] at hj
      rw [List.getElem_map, Nat.zero_add]
      dsimp only [pr]
      have S := Slot.push hl
      refine ev_bind (n := 1) (n' := 12) ev_mkInt ?_
      refine ev_bind (n := 2) (n' := 10) (ev_holding (ev_bind (n := 1) (n' := 1) ev_mkText (ev_bind (n := 1) (n' := 0) ev_standAt ev_pure))) ?_
      refine ev_bind (n := 10) (n' := 0) (ev_holding (ev_dictSet (G := fun o => h.push o) S (by rw [entA_length, List.length_take]; omega) (ok.1 _ (List.getElem_mem hj)).1 (ok.1 _ (List.getElem_mem hj)).2 (fun e he => ?_))) ?_
      · obtain ⟨y, hy, e1⟩ := mem_entA he
        rw [e1]; exact nodup_ne ok.2 hj y hy
      · have e1 : entA (xs.take (j + 1)) tk = entA (xs.take j) tk ++ [⟨xs[j].1.1, .int xs[j].1.1 (tk + 3 * j), .str xs[j].2.1 (tk + 3 * j + 1)⟩] := by
          rw [take_succ' xs j hj, entA_app]
          simp only [List.length_take, Nat.min_eq_left (Nat.le_of_lt hj)]
          rfl
        rw [e1]
        exact ev_pure)
  rw [List.length_map] at L
  simp only [Nat.zero_add, List.take_zero, List.take_length, Nat.mul_zero, Nat.add_zero] at L
  exact ev_bind (n := 13 * xs.length) (n' := 0) L ev_pure
end
end Mine
end

section
open PySem PySem.W PySem.Calls PyProof.Rows
set_option Elab.async false
set_option maxRecDepth 100000
set_option maxHeartbeats 4000000
namespace Mine
section
variable {w : World} {α β : Type} {s s' s'' : Shared} {p p' p'' : Pos} {n n' : Nat}
noncomputable def Eok (es : List DictEntry) : Prop := ∀ e ∈ es, ∃ k t x u, e = ⟨k, .int k t, .str x u⟩ ∧ 0 ≤ k ∧ k < 2 ^ 60
theorem entA_ok : ∀ (xs : List X) (t : Nat), (∀ x ∈ xs, 0 ≤ x.1.1 ∧ x.1.1 < 2 ^ 60) → Eok (entA xs t)
  | [], _, _ => fun e h => nomatch h
  | x :: r, t, ok => fun e h => by
    rcases List.mem_cons.mp h with rfl | h
    · exact ⟨_, _, _, _, rfl, ok x (.head _)⟩
    · exact entA_ok r _ (fun y hy => ok y (.tail _ hy)) e h
theorem entB_ok : ∀ (xs : List X) (t : Nat), (∀ x ∈ xs, 0 ≤ x.1.1 ∧ x.1.1 < 2 ^ 60) → Eok (entB xs t)
  | [], _, _ => fun e h => nomatch h
  | x :: r, t, ok => fun e h => by
    rcases List.mem_cons.mp h with rfl | h
    · exact ⟨_, _, _, _, rfl, ok x (.head _)⟩
    · exact entB_ok r _ (fun y hy => ok y (.tail _ hy)) e h
theorem ev_evalPairs {h : Heap} {g : Array GenState} {d : Drawn} {os : OsState} {q : Pos} : ∀ (xs : List X) (tk : Nat),
    Ev w (evalPairs (xs.map (pr q))) ⟨h, g, d, tk, os⟩ q (3 * xs.length) ((entB xs tk).map fun e => (e.key, e.val)) ⟨h, g, d, tk + 2 * xs.length, os⟩ q
  | [], tk => ev_pure
  | x :: r, tk => by
    rw [List.map_cons]
    unfold pr evalPairs
    rw [show 3 * (x :: r).length = 1 + (2 + (3 * r.length + 0)) by rw [List.length_cons]; omega]
    refine ev_bind (n := 1) ev_mkInt ?_
    refine ev_bind (n := 2) (ev_holding (ev_bind (n := 1) (n' := 1) ev_mkText (ev_bind (n := 1) (n' := 0) ev_standAt ev_pure))) ?_
    have := ev_evalPairs (h := h) (g := g) (d := d) (os := os) (q := q) r (tk + 2)
    rw [show tk + 2 * (x :: r).length = tk + 2 + 2 * r.length by rw [List.length_cons]; omega]
    exact ev_bind (n := 3 * r.length) (n' := 0) (ev_holding this) ev_pure
theorem ev_subShort {h : Heap} {g : Array GenState} {d : Drawn} {tk : Nat} {os : OsState} {q : Pos} (xs : List X) (hl : Nat.ble 11 h.objs.size = true) (ok : Xok xs) (h15 : xs.length ≤ 15) :
    Ev w (subDict (xs.map (pr q))) ⟨h, g, d, tk, os⟩ q (1 + 13 * xs.length) h.objs.size ⟨h.push (dob (entB xs tk) xs.length), g, d, tk + 3 * xs.length, os⟩ q := by
  unfold subDict
  rw [show 1 + 13 * xs.length = 1 + (3 * xs.length + 10 * xs.length + 0) by omega]
  refine ev_bind (n := 1) (n' := 3 * xs.length + 10 * xs.length + 0) ev_alloc ?_
  refine ev_bind (n := 3 * xs.length + 10 * xs.length) (n' := 0) (a := PUnit.unit) (ev_holding ?_) ev_pure
  rw [if_pos (by rw [List.length_map]; exact h15)]
  refine ev_bind (n := 3 * xs.length) (n' := 10 * xs.length) (ev_evalPairs xs tk) (ev_holding ?_)
  have L := ev_forIn (w := w) (p := q) (c := 10) (b := PUnit.unit) (fun i => (⟨h.push (dob ((entB xs tk).take i) i), g, d, tk + 2 * xs.length + i, os⟩ : Shared)) ((entB xs tk).map fun e => (e.key, e.val)) 0
    (f := fun (x : Value × Value) (_ : PUnit) => do
        dictSet h.objs.size x.1 x.2
        pure (ForInStep.yield PUnit.unit)) (fun j hj => by
      rw [List.length_map] at hj
      rw [List.getElem_map, Nat.zero_add]
      obtain ⟨k, t, x, u, e, k0, k1⟩ := entB_ok xs tk ok.1 _ (List.getElem_mem hj)
      have hj' : j < xs.length := by rwa [entB_length] at hj
      have hk : k = xs[j].1.1 := by
        have e1 : ((entB xs tk).map (·.hash))[j]'(by simpa using hj) = (xs.map (·.1.1))[j]'(by simpa using hj') := by simp only [entB_hash]
        rw [List.getElem_map, List.getElem_map, e] at e1
        exact e1
      refine ev_bind (n := 10) (n' := 0) (a := ()) ?_ (by rw [take_succ' _ j hj]; exact ev_pure)
      rw [e]
      refine ev_dictSet (G := fun o => h.push o) (Slot.push hl) (by rw [List.length_take]; omega) k0 k1 (fun e' he' => ?_)
      obtain ⟨i, hi, rfl⟩ := List.mem_iff_getElem.mp he'
      rw [List.length_take] at hi
      rw [List.getElem_take]
      intro q'
      have e1 : ((entB xs tk).map (·.hash))[i]'(by simp; omega) = (xs.map (·.1.1))[i]'(by simp; omega) := by simp only [entB_hash]
      rw [List.getElem_map, List.getElem_map, q', hk] at e1
      have := (List.pairwise_iff_getElem.mp ok.2) i j (by simp; omega) (by simpa using hj') (by omega)
      rw [List.getElem_map, List.getElem_map] at this
      exact this e1.symm)
  rw [List.length_map, entB_length] at L
  simp only [Nat.zero_add, List.take_zero, Nat.add_zero] at L
  rw [List.take_of_length_le (by rw [entB_length]; exact Nat.le_refl _), show tk + 2 * xs.length + xs.length = tk + 3 * xs.length by omega] at L
  exact ev_bind (n := 10 * xs.length) (n' := 0) L ev_pure
theorem ev_merge {G : Obj → Heap} {a b : Addr} {es es2 : List DictEntry} {m n2 : Nat} {g : Array GenState} {d : Drawn} {tk : Nat} {os : OsState} (S : Slot G a) (hs : ∀ o, (G o).get? b = some (dob es2 n2)) (hb : (b == sysModules) = false)
    (he : es ≠ []) (ok : Eok es2) (hn : ((es ++ es2).map (·.hash)).Nodup) (hz : es.length + es2.length < 1000) :
    Ev w (mergeMapping a (.ref b) false) ⟨G (dob es m), g, d, tk, os⟩ p (5 + 6 * es2.length) () ⟨G (dob (es ++ es2) (m + es2.length)), g, d, tk, os⟩ p := by
  unfold mergeMapping
  rw [show 5 + 6 * es2.length = 1 + (1 + (0 + (1 + (1 + (1 + 6 * es2.length))))) by omega]
  refine ev_bind (n := 1) (a := true) (s' := ⟨G (dob es m), g, d, tk, os⟩) (p' := p) ?_ ?_
  · unfold isInstance
    refine ev_bind (n := 1) (n' := 0) (a := .type "dict") (ev_bind (n := 1) (n' := 0) (ev_loadPart (hs _)) ev_pure) ?_
    exact ev_of_eq isSubtype_dict_dict ev_pure
  dsimp only
  rw [if_pos rfl]
  refine ev_bind (n := 1) (a := some (.builtin "dict.__iter__")) (s' := ⟨G (dob es m), g, d, tk, os⟩) (p' := p) ?_ ?_
  · unfold specialOf
    refine ev_bind (n := 1) (n' := 0) (a := .type "dict") (ev_bind (n := 1) (n' := 0) (ev_loadPart (hs _)) ev_pure) ?_
    exact ev_of_eq F.slot_dict_iter.lookup ev_pure
  refine ev_bind (n := 0) (a := true) ev_pure ?_
  dsimp only
  rw [if_neg (by rw [hb]; exact Bool.false_ne_true)]
  refine ev_bind (n := 1) (ev_dictEntries (S.get _ rfl) rfl) ?_
  rw [if_neg (by cases es with | nil => exact absurd rfl he | cons x r => exact Bool.false_ne_true)]
  refine ev_bind (n := 1) (ev_dictEntries (hs _) rfl) ?_
  refine ev_bind (n := 1) (ev_dictEpoch (hs _) rfl) ?_
  refine ev_bind (n := 6 * es2.length) (n' := 0) (a := PUnit.unit) (s' := ⟨G (dob (es ++ es2) (m + es2.length)), g, d, tk, os⟩) (p' := p) ?_ ev_pure
  refine ev_forIn' (c := 6) (fun i => (⟨G (dob (es ++ es2.take i) (m + i)), g, d, tk, os⟩ : Shared)) (by simp) (by simp) (by simp) (fun j hj => ?_)
  rw [List.length_range, List.size_toArray] at hj
  rw [List.getElem_range]
  obtain ⟨k, t, x, u, e, k0, k1⟩ := ok _ (List.getElem_mem hj)
  refine ev_bind (n := 1) (n' := 5) (ev_dictEntries (hs _) rfl) ?_
  rw [List.getElem?_toArray, List.getElem?_eq_getElem hj]
  dsimp only
  rw [e]
  refine ev_bind (n := 4) (n' := 1) (a := ()) (s' := ⟨G (dob (es ++ es2.take j ++ [⟨k, .int k t, .str x u⟩]) (m + j + 1)), g, d, tk, os⟩) (p' := p) (ev_holding ?_) ?_
  rotate_left
  · rw [take_succ' es2 j hj, ← List.append_assoc, e]
    refine ev_bind (n := 1) (n' := 0) (ev_dictEpoch (hs _) rfl) ?_
    rw [if_neg (by simp)]
    exact ev_pure
  rw [if_neg Bool.false_ne_true]
  refine ev_dictPut S (by rw [List.length_append, List.length_take]; omega) (fun e' he' => ?_)
  obtain ⟨i, hi, rfl⟩ := List.mem_iff_getElem.mp he'
  intro q'
  rw [List.length_append, List.length_take] at hi
  have hi' : i < es.length + j := by omega
  have e1 : (es ++ es2.take j)[i]'(by rw [List.length_append, List.length_take]; omega) = (es ++ es2)[i]'(by rw [List.length_append]; omega) := by
    rw [List.getElem_append, List.getElem_append]
    split
    · rfl
    · rw [List.getElem_take]
  have e2 : (es ++ es2)[es.length + j]'(by rw [List.length_append]; omega) = ⟨k, .int k t, .str x u⟩ := by
    rw [List.getElem_append_right (by omega)]
    simp only [Nat.add_sub_cancel_left]; exact e
  have := (List.pairwise_iff_getElem.mp hn) i (es.length + j) (by simp; omega) (by simp; omega) hi'
  rw [List.getElem_map, List.getElem_map, e2, ← e1] at this
  exact this q'
end
end Mine
end

section
open PySem PySem.W PySem.Calls PyProof.Rows
set_option Elab.async false
set_option maxRecDepth 100000
set_option maxHeartbeats 4000000
namespace Mine
noncomputable def it (q : Pos) (x : X) : Option (Sem Value) × Sem Value := (some (pr q x).1, (pr q x).2)
noncomputable def HH (base : Heap) (subs : List Obj) (o : Obj) : Heap := ⟨base.objs.push o ++ subs.toArray, base.life⟩
theorem HH.size (base : Heap) (subs : List Obj) (o : Obj) : (HH base subs o).objs.size = base.objs.size + 1 + subs.length := by simp [HH]; omega
theorem HH.push (base : Heap) (subs : List Obj) (o x : Obj) : (HH base subs o).push x = HH base (subs ++ [x]) o := by
  show Heap.mk _ _ = Heap.mk _ _
  congr 1
  show (base.objs.push o ++ subs.toArray).push x = base.objs.push o ++ (subs ++ [x]).toArray
  apply Array.ext'
  simp
theorem HH.at (base : Heap) (subs : List Obj) (o : Obj) (i : Nat) : (HH base subs o).objs[i]? = if i < base.objs.size then base.objs[i]? else if i = base.objs.size then some o else subs[i - base.objs.size - 1]? := by
  show (base.objs.push o ++ subs.toArray)[i]? = _
  rw [Array.getElem?_append, Array.size_push, Array.getElem?_push]
  by_cases h1 : i < base.objs.size
  · rw [if_pos (by omega), if_neg (by omega), if_pos h1]
  · rw [if_neg h1]
    by_cases h2 : i = base.objs.size
    · rw [if_pos (by omega), if_pos h2, if_pos h2]
    · rw [if_neg (by omega), if_neg h2, List.getElem?_toArray, Nat.sub_sub]
theorem HH.slot (base : Heap) (subs : List Obj) (hl : Nat.ble 11 base.objs.size = true) : Slot (HH base subs) base.objs.size where
  get := fun o ho => by
    unfold Heap.get?
    rw [HH.at, if_neg (by omega), if_pos rfl]
    obtain ⟨c, d, dt, sl⟩ := o
    cases dt <;> first | rfl | cases ho
  upd := fun o f => by
    show Heap.mk _ _ = Heap.mk _ _
    congr 1
    apply Array.ext_getElem?
    intro i
    have a1 := HH.at base subs o i
    have a2 := HH.at base subs (f o) i
    rw [show (base.objs.push (f o) ++ subs.toArray)[i]? = _ from a2, Array.getElem?_modify]
    rw [show (base.objs.push o ++ subs.toArray)[i]? = _ from a1]
    by_cases h1 : i < base.objs.size
    · simp [h1, Nat.ne_of_gt h1]
    · by_cases h2 : i = base.objs.size
      · simp [h2]
      · simp [h1, h2, Ne.symm h2]
  low := hl
theorem HH.sub (base : Heap) (subs : List Obj) (x o : Obj) (hx : x.isFreed = false) : (HH base (subs ++ [x]) o).get? (base.objs.size + 1 + subs.length) = some x := by
  unfold Heap.get?
  rw [HH.at, if_neg (by omega), if_neg (by omega), show base.objs.size + 1 + subs.length - base.objs.size - 1 = subs.length by omega, List.getElem?_append_right (Nat.le_refl _), Nat.sub_self]
  obtain ⟨c, d, dt, sl⟩ := x
  cases dt <;> first | rfl | cases hx
theorem HH.nil (base : Heap) (o : Obj) : base.push o = HH base [] o := by
  obtain ⟨b, l⟩ := base
  show Heap.mk (b.push o) l = Heap.mk (b.push o ++ #[]) l
  rw [Array.append_empty]
noncomputable def flush (run : List (Sem Value × Sem Value)) (main : Option Addr) : Sem (Option Addr) :=
  if run.isEmpty = true then pure main
  else match main with
    | none => do
      let __do_lift ← subDict run
      pure (some __do_lift)
    | some d => do
      let sub ← holding [Value.ref d] (subDict run)
      (holding [Value.ref d, Value.ref sub] (mergeMapping d (Value.ref sub) false)).onRaise fun x => do
        let _ ← holding [Value.ref d, x] (runValue (Code.builtin "proto.let_go" { }))
        pure ()
      pure (some d)
noncomputable abbrev FT := Option (Sem Value) × Sem Value → Option Addr × List (Sem Value × Sem Value) → Sem (ForInStep (Option Addr × List (Sem Value × Sem Value)))
structure Ff (q : Pos) (f : FT) : Prop where
  no : ∀ x r, (r.2 ++ [pr q x]).length ≠ 17 → f (it q x) r = pure (.yield (r.1, r.2 ++ [pr q x]))
  yes : ∀ x r, (r.2 ++ [pr q x]).length = 17 → f (it q x) r = (flush (r.2 ++ [pr q x]) r.1 >>= fun m => pure (.yield (m, [])))
section
variable {w : World} {s s' s'' : Shared} {n n' : Nat} {q : Pos} {f : FT}
theorem ev_cons {γ β : Type} {f : γ → β → Sem (ForInStep β)} {x : γ} {r : List γ} {b b' c : β} (h : Ev w (f x b) s q n (.yield b') s' q) (k : Ev w (forIn r b' f) s' q n' c s'' q) : Ev w (forIn (x :: r) b f) s q (n + n') c s'' q := by
  rw [List.forIn_cons]
  exact ev_bind h k
theorem ev_fillS (F : Ff q f) : ∀ (xs : List X) (main : Option Addr) (run : List (Sem Value × Sem Value)), run.length + xs.length < 17 → Ev w (forIn (xs.map (it q)) (main, run) f) s q 0 (main, run ++ xs.map (pr q)) s q
  | [], main, run, _ => by rw [List.map_nil, List.map_nil, List.append_nil]; exact ev_pure
  | x :: r, main, run, h => by
    rw [List.length_cons] at h
    rw [List.map_cons, List.map_cons]
    have := ev_fillS F r main (run ++ [pr q x]) (by simp only [List.length_append, List.length_cons, List.length_nil]; omega)
    rw [List.append_assoc] at this
    exact ev_cons (n := 0) (n' := 0) (ev_of_eq (F.no x (main, run) (by simp only [List.length_append, List.length_cons, List.length_nil]; omega)) ev_pure) this
theorem ev_fill17 (F : Ff q f) {rest : List (Option (Sem Value) × Sem Value)} {m main : Option Addr} {c : Option Addr × List (Sem Value × Sem Value)} (k : Ev w (forIn rest (m, []) f) s' q n' c s'' q) :
    ∀ (xs : List X) (run : List (Sem Value × Sem Value)), xs ≠ [] → run.length + xs.length = 17 → Ev w (flush (run ++ xs.map (pr q)) main) s q n m s' q →
      Ev w (forIn (xs.map (it q) ++ rest) (main, run) f) s q (n + n') c s'' q
  | [], _, h, _, _ => absurd rfl h
  | [x], run, _, h, hfl => by
    simp only [List.length_cons, List.length_nil] at h
    exact ev_cons (n := n) (n' := n') (b' := (m, [])) (ev_of_eq (F.yes x (main, run) (by simp only [List.length_append, List.length_cons, List.length_nil]; omega)) (ev_bind (n := n) (n' := 0) hfl ev_pure)) k
  | x :: y :: r, run, _, h, hfl => by
    simp only [List.length_cons] at h
    rw [List.map_cons, List.cons_append, show n + n' = 0 + (n + n') by omega]
    refine ev_cons (n := 0) (b' := (main, run ++ [pr q x])) (ev_of_eq (F.no x (main, run) (by simp only [List.length_append, List.length_cons, List.length_nil]; omega)) ev_pure) ?_
    refine ev_fill17 F k (y :: r) _ (by simp) (by simp only [List.length_append, List.length_cons, List.length_nil]; omega) ?_
    rw [List.append_assoc]
    exact hfl
theorem ble_ne {b : Addr} (h : 11 ≤ b) : (b == sysModules) = false := by
  exact beq_eq_false_iff_ne.mpr (fun e => by rw [e] at h; exact absurd h (by decide))
theorem ev_flush0 {base : Heap} {g : Array GenState} {d : Drawn} {tk : Nat} {os : OsState} (xs : List X) (hl : Nat.ble 11 base.objs.size = true) (ok : Xok xs) (h17 : xs.length = 17) :
    Ev w (flush (xs.map (pr q)) none) ⟨base, g, d, tk, os⟩ q 223 (some base.objs.size) ⟨HH base [] (dob (entA xs tk) 17), g, d, tk + 51, os⟩ q := by
  unfold flush
  rw [if_neg (by cases xs with | nil => simp at h17 | cons x r => simp)]
  dsimp only
  have := ev_subLong (w := w) (h := base) (g := g) (d := d) (tk := tk) (os := os) (q := q) xs hl ok (by omega) (by omega)
  rw [h17, HH.nil] at this
  exact ev_bind (n := 223) (n' := 0) this ev_pure
theorem ev_flush1 {base : Heap} {subs : List Obj} {es es2 : List DictEntry} {m n2 k : Nat} {g : Array GenState} {d : Drawn} {tk : Nat} {os : OsState} (xs : List X) (hl : Nat.ble 11 base.objs.size = true) (hx : xs ≠ [])
    (hsub : Ev w (subDict (xs.map (pr q))) ⟨HH base subs (dob es m), g, d, tk, os⟩ q k (HH base subs (dob es m)).objs.size ⟨(HH base subs (dob es m)).push (dob es2 n2), g, d, tk + 3 * xs.length, os⟩ q)
    (he : es ≠ []) (ok : Eok es2) (hn : ((es ++ es2).map (·.hash)).Nodup) (hz : es.length + es2.length < 1000) :
    Ev w (flush (xs.map (pr q)) (some base.objs.size)) ⟨HH base subs (dob es m), g, d, tk, os⟩ q (k + (5 + 6 * es2.length)) (some base.objs.size) ⟨HH base (subs ++ [dob es2 n2]) (dob (es ++ es2) (m + es2.length)), g, d, tk + 3 * xs.length, os⟩ q := by
  unfold flush
  rw [if_neg (by cases xs with | nil => exact absurd rfl hx | cons x r => simp)]
  dsimp only
  refine ev_bind (n := k) (ev_holding hsub) ?_
  refine ev_bind (n := 5 + 6 * es2.length) (n' := 0) (a := ()) (ev_onRaise (ev_holding ?_)) ev_pure
  rw [HH.push, HH.size]
  refine ev_merge (HH.slot base _ hl) (fun o => HH.sub base subs _ o rfl) (ble_ne ?_) he ok hn hz
  have := Nat.le_of_ble_eq_true hl
  exact Nat.le_trans this (by rw [Nat.add_assoc]; exact Nat.le_add_right _ _)
/-- the sub dicts of the chunks -/
noncomputable def subsOf : List (List X) → Nat → List Obj
  | [], _ => []
  | c :: r, t => dob (entA c t) 17 :: subsOf r (t + 51)
theorem ev_chunks (F : Ff q f) {base : Heap} {g : Array GenState} {d : Drawn} {os : OsState} {t0 : Nat} {last : List X} (hl : Nat.ble 11 base.objs.size = true) (h4 : last.length < 17) :
    ∀ (css : List (List X)) (ys : List X) (subs : List Obj), ys ≠ [] → (∀ c ∈ css, c.length = 17) → Xok (ys ++ css.flatten) → (ys ++ css.flatten).length < 900 →
      Ev w (forIn (css.flatten.map (it q) ++ last.map (it q)) (some base.objs.size, []) f) ⟨HH base subs (dob (entA ys t0) ys.length), g, d, t0 + 3 * ys.length, os⟩ q (330 * css.length) (some base.objs.size, last.map (pr q))
        ⟨HH base (subs ++ subsOf css (t0 + 3 * ys.length)) (dob (entA (ys ++ css.flatten) t0) (ys ++ css.flatten).length), g, d, t0 + 3 * (ys ++ css.flatten).length, os⟩ q
  | [], ys, subs, _, _, _, _ => by
    simp only [List.flatten_nil, List.map_nil, List.nil_append, List.append_nil, subsOf, List.length_nil, Nat.mul_zero]
    have := ev_fillS (w := w) (s := ⟨HH base subs (dob (entA ys t0) ys.length), g, d, t0 + 3 * ys.length, os⟩) F last (some base.objs.size) [] (by simpa using h4)
    simpa using this
  | c :: r, ys, subs, hy, hc, ok, hz => by
    have hc17 := hc c (.head _)
    rw [List.flatten_cons, ← List.append_assoc] at ok hz ⊢
    have okc : Xok c := ⟨fun x hx => ok.1 x (by simp [hx]), by
      have := ok.2
      rw [List.map_append, List.map_append] at this
      exact (List.nodup_append.mp (List.nodup_append.mp this).1).2.1⟩
    have IH := ev_chunks F (base := base) (g := g) (d := d) (os := os) (t0 := t0) (last := last) hl h4 r (ys ++ c) (subs ++ [dob (entA c (t0 + 3 * ys.length)) 17]) (by simp [hy]) (fun x hx => hc x (.tail _ hx)) ok hz
    have e51 : t0 + 3 * (ys ++ c).length = t0 + 3 * ys.length + 51 := by rw [List.length_append, hc17]; omega
    rw [e51] at IH
    have el : 330 * (c :: r).length = 330 + 330 * r.length := by rw [List.length_cons]; omega
    rw [el, List.map_append, List.append_assoc]
    have es : subs ++ subsOf (c :: r) (t0 + 3 * ys.length) = subs ++ [dob (entA c (t0 + 3 * ys.length)) 17] ++ subsOf r (t0 + 3 * ys.length + 51) := by simp [subsOf]
    rw [es]
    refine ev_fill17 F IH c [] (by intro e; rw [e] at hc17; simp at hc17) (by simpa using hc17) ?_
    have S := ev_subLong (w := w) (h := HH base subs (dob (entA ys t0) ys.length)) (g := g) (d := d) (tk := t0 + 3 * ys.length) (os := os) (q := q) c
      (by rw [HH.size]; exact Nat.ble_eq_true_of_le (by have := Nat.le_of_ble_eq_true hl; omega)) okc (by omega) (by omega)
    rw [hc17] at S
    have Z := ev_flush1 (w := w) (q := q) (base := base) (subs := subs) (es := entA ys t0) (es2 := entA c (t0 + 3 * ys.length)) (m := ys.length) (n2 := 17) (k := 223) c hl (by intro e; rw [e] at hc17; simp at hc17) (by rw [hc17]; exact S)
      (by intro e; have := entA_length ys t0; rw [e] at this; exact hy (List.length_eq_zero_iff.mp this.symm)) (entA_ok _ _ okc.1) (by
        rw [← entA_app, entA_hash]
        have := ok.2
        rw [List.map_append] at this
        exact (List.nodup_append.mp this).1) (by rw [entA_length, entA_length]; simp only [List.length_append] at hz; omega)
    rw [entA_length, hc17, ← entA_app] at Z
    rw [List.nil_append, List.length_append, hc17]
    exact Z
end
end Mine
end

section
open PySem PySem.W PySem.Calls PyProof.Rows
set_option Elab.async false
set_option maxRecDepth 100000
set_option maxHeartbeats 4000000
namespace Mine
noncomputable def chunk : Nat → List X → List (List X)
  | 0, _ => []
  | n + 1, l => l.take 17 :: chunk n (l.drop 17)
theorem chunk_len : ∀ (n : Nat) (l : List X), 17 * n ≤ l.length → ∀ c ∈ chunk n l, c.length = 17
  | 0, _, _, _, h => nomatch h
  | n + 1, l, hl, c, h => by
    rcases List.mem_cons.mp h with rfl | h
    · rw [List.length_take]; omega
    · exact chunk_len n (l.drop 17) (by rw [List.length_drop]; omega) c h
theorem chunk_flat : ∀ (n : Nat) (l : List X), (chunk n l).flatten = l.take (17 * n)
  | 0, l => by simp [chunk]
  | n + 1, l => by
    rw [chunk, List.flatten_cons, chunk_flat n, show 17 * (n + 1) = 17 + 17 * n by omega, List.take_add]
theorem chunk_num : ∀ (n : Nat) (l : List X), (chunk n l).length = n
  | 0, _ => rfl
  | n + 1, l => by rw [chunk, List.length_cons, chunk_num n]
noncomputable def incFrom : Int → List Int → Bool
  | _, [] => true
  | lo, a :: r => decide (lo < a) && incFrom a r
theorem incFrom_spec : ∀ (lo : Int) (l : List Int), incFrom lo l = true → (∀ a ∈ l, lo < a) ∧ l.Nodup
  | _, [], _ => ⟨fun _ h => (nomatch h), List.nodup_nil⟩
  | lo, a :: r, h => by
    obtain ⟨h1, h2⟩ := Bool.and_eq_true_iff.mp h
    have h1 := of_decide_eq_true h1
    obtain ⟨i1, i2⟩ := incFrom_spec a r h2
    refine ⟨fun b hb => ?_, List.nodup_cons.mpr ⟨fun hm => absurd (i1 a hm) (Int.lt_irrefl _), i2⟩⟩
    rcases List.mem_cons.mp hb with rfl | hb
    · exact h1
    · exact Int.lt_trans h1 (i1 b hb)
theorem b3_inc : incFrom 0 (b3L.map (·.1.1)) = true := by kernel_rfl
theorem b3_top : (b3L.all fun x => decide (x.1.1 < 2 ^ 60)) = true := by kernel_rfl
theorem b3_len : b3L.length = 650 := by kernel_rfl
theorem b3_ok : Xok b3L := ⟨fun x hx => ⟨Int.le_of_lt ((incFrom_spec _ _ b3_inc).1 _ (List.mem_map_of_mem hx)), of_decide_eq_true (List.all_eq_true.mp b3_top x hx)⟩, (incFrom_spec _ _ b3_inc).2⟩
noncomputable def b3c1 : List X := b3L.take 17
noncomputable def b3cs : List (List X) := chunk 37 (b3L.drop 17)
noncomputable def b3l : List X := b3L.drop 646
theorem b3_split : b3c1 ++ b3cs.flatten = b3L.take 646 := by
  unfold b3c1 b3cs
  rw [chunk_flat, ← List.take_add]
theorem b3_whole : b3L = b3c1 ++ (b3cs.flatten ++ b3l) := by
  rw [← List.append_assoc, b3_split]
  exact (List.take_append_drop 646 b3L).symm
theorem Xok.left {a b : List X} (h : Xok (a ++ b)) : Xok a := ⟨fun x hx => h.1 x (by simp [hx]), by
  have := h.2
  rw [List.map_append] at this
  exact (List.nodup_append.mp this).1⟩
theorem Xok.right {a b : List X} (h : Xok (a ++ b)) : Xok b := ⟨fun x hx => h.1 x (by simp [hx]), by
  have := h.2
  rw [List.map_append] at this
  exact (List.nodup_append.mp this).2.1⟩
theorem b3l_len : b3l.length = 4 := by unfold b3l; rw [List.length_drop, b3_len]
theorem b3c1_len : b3c1.length = 17 := by unfold b3c1; rw [List.length_take, b3_len]; rfl
theorem b3s_len : (b3c1 ++ b3cs.flatten).length = 646 := by rw [b3_split, List.length_take, b3_len]; rfl
section
variable {w : World} {q : Pos} {f : FT}
noncomputable def subsAll : List Obj := subsOf b3cs 386 ++ [dob (entB b3l 2273) 4]
noncomputable def mainAll : Obj := dob (entA (b3c1 ++ b3cs.flatten) 335 ++ entB b3l 2273) 650
theorem ev_loop (F : Ff q f) {base : Heap} {g : Array GenState} {d : Drawn} {os : OsState} (hl : Nat.ble 11 base.objs.size = true) :
    Ev w (forIn (b3L.map (it q)) (none, []) f) ⟨base, g, d, 335, os⟩ q (223 + 12210) (some base.objs.size, b3l.map (pr q))
      ⟨HH base (subsOf b3cs 386) (dob (entA (b3c1 ++ b3cs.flatten) 335) 646), g, d, 2273, os⟩ q := by
  have ok : Xok (b3c1 ++ (b3cs.flatten ++ b3l)) := b3_whole ▸ b3_ok
  have ok2 : Xok (b3c1 ++ b3cs.flatten) := (List.append_assoc _ _ _ ▸ ok : Xok ((b3c1 ++ b3cs.flatten) ++ b3l)).left
  rw [b3_whole, List.map_append, List.map_append]
  have C := ev_chunks (w := w) F (base := base) (g := g) (d := d) (os := os) (t0 := 335) (last := b3l) hl (by rw [b3l_len]; decide) b3cs b3c1 []
    (by intro e; have := b3c1_len; rw [e] at this; simp at this) (chunk_len 37 _ (by rw [List.length_drop, b3_len]; decide)) ok2 (by rw [b3s_len]; decide)
  rw [b3c1_len, b3s_len, List.nil_append] at C
  rw [show b3cs.length = 37 from chunk_num _ _] at C
  refine ev_fill17 F C b3c1 [] (by intro e; have := b3c1_len; rw [e] at this; simp at this) (by rw [b3c1_len]; rfl) ?_
  exact ev_flush0 b3c1 hl ok2.left b3c1_len
theorem ev_b3 {base : Heap} {g : Array GenState} {d : Drawn} {os : OsState} (hl : Nat.ble 11 base.objs.size = true) :
    Ev w (dictDisplay (b3L.map (it q))) ⟨base, g, d, 335, os⟩ q (12433 + (82 + 0)) (.ref base.objs.size) ⟨HH base subsAll mainAll, g, d, 2285, os⟩ q := by
  unfold dictDisplay
  dsimp only
  refine ev_bind (n := 12433) (ev_loop ?F hl) ?_
  case F =>
    refine ⟨fun x r h => ?_, fun x r h => ?_⟩
    · show (if ((r.2 ++ [pr q x]).length == 17) = true then _ else _) = _
      rw [if_neg (by simpa using h)]
      rfl
    · show (if ((r.2 ++ [pr q x]).length == 17) = true then _ else _) = _
      rw [if_pos (by simpa using h)]
      rfl
  have ok : Xok ((b3c1 ++ b3cs.flatten) ++ b3l) := by rw [List.append_assoc]; exact b3_whole ▸ b3_ok
  have Z := ev_flush1 (w := w) (q := q) (base := base) (subs := subsOf b3cs 386) (es := entA (b3c1 ++ b3cs.flatten) 335) (es2 := entB b3l 2273) (m := 646) (n2 := 4) (k := 53) (g := g) (d := d) (tk := 2273) (os := os) b3l hl
    (by intro e; have := b3l_len; rw [e] at this; simp at this)
    (by
      have := ev_subShort (w := w) (h := HH base (subsOf b3cs 386) (dob (entA (b3c1 ++ b3cs.flatten) 335) 646)) (g := g) (d := d) (tk := 2273) (os := os) (q := q) b3l
        (by rw [HH.size]; exact Nat.ble_eq_true_of_le (Nat.le_trans (Nat.le_of_ble_eq_true hl) (by rw [Nat.add_assoc]; exact Nat.le_add_right _ _))) ok.right (by rw [b3l_len]; decide)
      rw [b3l_len] at this ⊢
      exact this)
    (by intro e; have := entA_length (b3c1 ++ b3cs.flatten) 335; rw [e, b3s_len] at this; simp at this) (entB_ok _ _ ok.right.1)
    (by rw [List.map_append, entA_hash, entB_hash, ← List.map_append]; exact ok.2) (by rw [entA_length, entB_length, b3s_len, b3l_len]; decide)
  rw [entB_length, b3l_len] at Z
  exact ev_bind (n := 82) (n' := 0) Z ev_pure
end
theorem b3_items : ((evalEachOpt (dictK (st 8)) env0).zip ((evalEach (dictV (st 8)) env0).map fun v => do let x ← v; standAt (⟨65, 16, 65, 8704⟩ : Pos); pure x)) = b3L.map (it ⟨65, 16, 65, 8704⟩) := by kernel_rfl
end Mine
end

section
open PySem PySem.W PySem.Calls PyProof.Rows
set_option Elab.async false
set_option maxRecDepth 100000
set_option maxHeartbeats 4000000
namespace Mine
noncomputable section
noncomputable def tr8b (P : Params) : BT := (.node (boot_o_0 P) (.node (boot_o_1 P) (.node (ob8_3 P) (.node (boot_o_7 P) (.node (ob1_15 P) (.node (ob5_31 P) (.node (ob5_63 P) (.node ((b3sub 38) P) .nil .nil) .nil) (.node ((b3sub 6) P) .nil .nil)) (.node (ob5_47 P) (.node (ob7_79 P) .nil .nil) (.node ((b3sub 22) P) .nil .nil))) (.node (ob3_23 P) (.node (ob5_39 P) (.node (ob7_71 P) .nil .nil) (.node ((b3sub 14) P) .nil .nil)) (.node (ob5_55 P) (.node (ob8_87 P) .nil .nil) (.node ((b3sub 30) P) .nil .nil)))) (.node (oba_11 P) (.node (ob1_19 P) (.node (ob5_35 P) (.node (ob5_67 P) .nil .nil) (.node ((b3sub 10) P) .nil .nil)) (.node (ob5_51 P) (.node (ob8_83 P) .nil .nil) (.node ((b3sub 26) P) .nil .nil))) (.node (ob3_27 P) (.node (ob5_43 P) (.node (ob7_75 P) .nil .nil) (.node ((b3sub 18) P) .nil .nil)) (.node (ob5_59 P) (.node ((b3sub 2) P) .nil .nil) (.node ((b3sub 34) P) .nil .nil))))) (.node (boot_o_5 P) (.node (boot_o_9 P) (.node (ob1_17 P) (.node (ob5_33 P) (.node (ob5_65 P) .nil .nil) (.node ((b3sub 8) P) .nil .nil)) (.node (ob5_49 P) (.node (ob7_81 P) .nil .nil) (.node ((b3sub 24) P) .nil .nil))) (.node (ob3_25 P) (.node (ob5_41 P) (.node (ob7_73 P) .nil .nil) (.node ((b3sub 16) P) .nil .nil)) (.node (ob5_57 P) (.node (b3main P) .nil .nil) (.node ((b3sub 32) P) .nil .nil)))) (.node (oba_13 P) (.node (ob1_21 P) (.node (ob5_37 P) (.node (ob5_69 P) .nil .nil) (.node ((b3sub 12) P) .nil .nil)) (.node (ob5_53 P) (.node (ob8_85 P) .nil .nil) (.node ((b3sub 28) P) .nil .nil))) (.node (ob5_29 P) (.node (ob5_45 P) (.node (ob7_77 P) .nil .nil) (.node ((b3sub 20) P) .nil .nil)) (.node (ob5_61 P) (.node ((b3sub 4) P) .nil .nil) (.node ((b3sub 36) P) .nil .nil)))))) (.node (boot_o_2 P) (.node (boot_o_4 P) (.node (boot_o_8 P) (.node (ob1_16 P) (.node (ob5_32 P) (.node (ob5_64 P) .nil .nil) (.node ((b3sub 7) P) .nil .nil)) (.node (ob5_48 P) (.node (ob7_80 P) .nil .nil) (.node ((b3sub 23) P) .nil .nil))) (.node (ob3_24 P) (.node (ob5_40 P) (.node (ob7_72 P) .nil .nil) (.node ((b3sub 15) P) .nil .nil)) (.node (ob5_56 P) (.node (ob8_88 P) .nil .nil) (.node ((b3sub 31) P) .nil .nil)))) (.node (ob8_12 P) (.node (ob1_20 P) (.node (ob5_36 P) (.node (ob5_68 P) .nil .nil) (.node ((b3sub 11) P) .nil .nil)) (.node (ob5_52 P) (.node (ob8_84 P) .nil .nil) (.node ((b3sub 27) P) .nil .nil))) (.node (ob3_28 P) (.node (ob5_44 P) (.node (ob7_76 P) .nil .nil) (.node ((b3sub 19) P) .nil .nil)) (.node (ob5_60 P) (.node ((b3sub 3) P) .nil .nil) (.node ((b3sub 35) P) .nil .nil))))) (.node (boot_o_6 P) (.node (boot_o_10 P) (.node (ob1_18 P) (.node (ob5_34 P) (.node (ob5_66 P) .nil .nil) (.node ((b3sub 9) P) .nil .nil)) (.node (ob5_50 P) (.node (ob8_82 P) .nil .nil) (.node ((b3sub 25) P) .nil .nil))) (.node (ob3_26 P) (.node (ob5_42 P) (.node (ob7_74 P) .nil .nil) (.node ((b3sub 17) P) .nil .nil)) (.node (ob5_58 P) (.node ((b3sub 1) P) .nil .nil) (.node ((b3sub 33) P) .nil .nil)))) (.node (oba_14 P) (.node (ob3_22 P) (.node (ob5_38 P) (.node (ob5_70 P) .nil .nil) (.node ((b3sub 13) P) .nil .nil)) (.node (ob5_54 P) (.node (ob8_86 P) .nil .nil) (.node ((b3sub 29) P) .nil .nil))) (.node (ob5_30 P) (.node (ob5_46 P) (.node (ob7_78 P) .nil .nil) (.node ((b3sub 21) P) .nil .nil)) (.node (ob5_62 P) (.node ((b3sub 5) P) .nil .nil) (.node ((b3sub 37) P) .nil .nil)))))))
noncomputable abbrev S8b (w : World) (os : OsState) : SharedT := ⟨tr8b w.params, 128, {}, #[], {}, 2285, os⟩
noncomputable def asT : Stmt → List Expr
  | .Assign t _ _ => t
  | _ => []
noncomputable abbrev q9 : Pos := ⟨65, 16, 65, 8704⟩
noncomputable abbrev p9 : Pos := ⟨65, 0, 65, 8704⟩
theorem st8_is : st 8 = .Assign (asT (st 8)) (.Dict (dictK (st 8)) (dictV (st 8)) q9) p9 := by kernel_rfl
theorem heap8b (P : Params) : HH (absHeap (tr8 P) 89 {}) subsAll mainAll = absHeap (tr8b P) 128 {} := by kernel_rfl
theorem size8 (P : Params) : (absHeap (tr8 P) 89 {}).objs.size = 89 := absHeap_size _ _ _
section
variable {w : World} {α : Type} {n : Nat} {p p' : Pos}
theorem ev_ge {m : Sem α} {a : α} {s s' : SharedT} (h : ∀ (K : α → Sem Fin) (H : Value → Sem Fin) (gd : Bool → Bool) (lv : List Value → List Value),
    segGoT treeTable pw w 11 (some (.ref 6)) 1 n s ⟨m.wrap K H gd lv, cE, p, BB⟩ = some (s', ⟨K a, cE, p', BB⟩)) : Ev w m s.abs p n a s'.abs p' := fun K H gd lv => segGo_of (h K H gd lv)
end
theorem ev_swap (w : World) (s : Shared) (p : Pos) : Ev w (swapsWithSole (asT (st 8)) (.Dict (dictK (st 8)) (dictV (st 8)) q9) p9.line env0) s p 0 false s p := fun K H gd lv => by kernel_rfl
theorem ev_stores (w : World) (os : OsState) : Ev w (do assignStores env0 (.ref 89) (← swappedStores (asT (st 8)) (.Dict (dictK (st 8)) (dictV (st 8)) q9) env0) ((assignEach (asT (st 8)) env0).map (·.2))) (S8b w os).abs q9 7 .next (S9 w os).abs ps9 :=
  ev_ge fun K H gd lv => by kernel_rfl
theorem ev_dict (w : World) (os : OsState) (p : Pos) : Ev w (eval (.Dict (dictK (st 8)) (dictV (st 8)) q9) env0) (S8 w os).abs p (1 + (12433 + (82 + 0))) (.ref 89) (S8b w os).abs q9 := by
  show Ev w (standAt q9 >>= fun _ => dictDisplay ((evalEachOpt (dictK (st 8)) env0).zip ((evalEach (dictV (st 8)) env0).map fun v => do let x ← v; standAt q9; pure x))) _ _ _ _ _ _
  rw [b3_items]
  refine ev_bind (n := 1) ev_standAt ?_
  have Z := ev_b3 (w := w) (q := q9) (base := absHeap (tr8 w.params) 89 {}) (g := #[]) (d := {}) (os := os) (by rw [size8]; rfl)
  rw [heap8b, size8] at Z
  exact Z
theorem ev_st8 (w : World) (os : OsState) : Ev w (exec (st 8) env0) (S8 w os).abs ps8 (1 + (0 + (12516 + 7))) .next (S9 w os).abs ps9 := by
  rw [st8_is]
  show Ev w (standAt p9 >>= fun _ => swapsWithSole (asT (st 8)) (.Dict (dictK (st 8)) (dictV (st 8)) q9) p9.line env0 >>= fun b => if b = true then _ else _) _ _ _ _ _ _
  refine ev_bind (n := 1) ev_standAt ?_
  refine ev_bind (n := 0) (ev_swap w _ _) ?_
  rw [if_neg Bool.false_ne_true]
  exact ev_bind (n := 12516) (n' := 7) (ev_dict w os p9) (ev_stores w os)
theorem ev_execs8 (w : World) (os : OsState) : Ev w (execs [st 8] env0) (S8 w os).abs ps8 (12524 + 0) .next (S9 w os).abs ps9 := by
  show Ev w (exec (st 8) env0 >>= fun f => match f with | .next => execs [] env0 | f => pure f) _ _ _ _ _ _
  exact ev_bind (n := 12524) (n' := 0) (ev_st8 w os) ev_pure
theorem pc9 (w : World) (os : OsState) : segRun treeTable pw w 11 (some (.ref 6)) 1 12525 (S8 w os).abs (piecesOf [st 8] env0 cE ps8 BB) = some (.next, (S9 w os).abs, cE, ps9) := by
  have := ev_execs8 w os doneF deadEnd id id
  exact seg_go (n := 12524) (N := 1) this rfl
end
end Mine
end

section
open PySem PySem.W PySem.Calls PyProof.Rows
set_option Elab.async false
set_option maxRecDepth 100000
set_option maxHeartbeats 4000000
namespace Mine
noncomputable section
noncomputable def K0 (P : Params) : Frag := (nat_lit 2, boot_o_2 P) :: (nat_lit 3, ob17_3 P) :: (nat_lit 6, boot_o_6 P) :: (nat_lit 15, ob1_15 P) :: (nat_lit 17, ob1_17 P) :: (nat_lit 18, ob1_18 P) :: (nat_lit 20, ob1_20 P) :: (nat_lit 21, ob1_21 P) :: (nat_lit 22, ob3_22 P) :: (nat_lit 24, ob3_24 P) :: (nat_lit 25, ob3_25 P) :: (nat_lit 27, ob3_27 P) :: (nat_lit 28, ob3_28 P) :: (nat_lit 36, ob5_36 P) :: (nat_lit 38, ob5_38 P) :: (nat_lit 39, ob5_39 P) :: (nat_lit 41, ob5_41 P) :: (nat_lit 42, ob5_42 P) :: (nat_lit 43, ob5_43 P) :: (nat_lit 45, ob5_45 P) :: (nat_lit 46, ob5_46 P) :: (nat_lit 48, ob5_48 P) :: (nat_lit 49, ob5_49 P) :: (nat_lit 50, ob5_50 P) :: (nat_lit 52, ob5_52 P) :: (nat_lit 53, ob5_53 P) :: (nat_lit 55, ob5_55 P) :: (nat_lit 56, ob5_56 P) :: (nat_lit 57, ob5_57 P) :: (nat_lit 59, ob5_59 P) :: (nat_lit 60, ob5_60 P) :: (nat_lit 62, ob5_62 P) :: (nat_lit 63, ob5_63 P) :: (nat_lit 64, ob5_64 P) :: (nat_lit 65, ob5_65 P) :: (nat_lit 66, ob5_66 P) :: (nat_lit 67, ob5_67 P) :: (nat_lit 68, ob5_68 P) :: (nat_lit 78, ob7_78 P) :: (nat_lit 82, ob8_82 P) :: (nat_lit 84, ob8_84 P) :: (nat_lit 85, ob8_85 P) :: (nat_lit 87, ob8_87 P) :: (nat_lit 88, ob8_88 P) :: (nat_lit 89, b3main P) :: (nat_lit 128, ob10_128 P) :: (nat_lit 130, ob10_130 P) :: (nat_lit 131, ob10_131 P) :: (nat_lit 133, ob10_133 P) :: (nat_lit 134, ob10_134 P) :: (nat_lit 135, ob11_135 P) :: (nat_lit 137, ob11_137 P) :: (nat_lit 138, ob11_138 P) :: (nat_lit 140, ob11_140 P) :: (nat_lit 141, ob11_141 P) :: (nat_lit 142, ob13_142 P) :: (nat_lit 144, ob13_144 P) :: (nat_lit 145, ob13_145 P) :: (nat_lit 147, ob13_147 P) :: (nat_lit 148, ob13_148 P) :: (nat_lit 149, ob14_149 P) :: (nat_lit 151, ob14_151 P) :: (nat_lit 152, ob14_152 P) :: (nat_lit 154, ob14_154 P) :: (nat_lit 155, ob14_155 P) :: (nat_lit 156, ob15_156 P) :: (nat_lit 159, ob15_159 P) :: (nat_lit 160, ob15_160 P) :: (nat_lit 161, ob16_161 P) :: (nat_lit 164, ob16_164 P) :: (nat_lit 165, ob16_165 P) :: (nat_lit 166, ob17_166 P) :: (nat_lit 169, ob17_169 P) :: (nat_lit 170, ob17_170 P) :: []
noncomputable def as0 : List Addr := [2, 3, 6, 15, 17, 18, 20, 21, 22, 24, 25, 27, 28, 36, 38, 39, 41, 42, 43, 45, 46, 48, 49, 50, 52, 53, 55, 56, 57, 59, 60, 62, 63, 64, 65, 66, 67, 68, 78, 82, 84, 85, 87, 88, 89, 128, 130, 131, 133, 134, 135, 137, 138, 140, 141, 142, 144, 145, 147, 148, 149, 151, 152, 154, 155, 156, 159, 160, 161, 164, 165, 166, 169, 170]
theorem as0_K0 : ∀ P, as0 = (K0 P).map (·.1) := fun P => by kernel_rfl
theorem body_is : behindTheImports pw = [st 0] ++ ([st 1] ++ ([st 2] ++ ([st 3] ++ ([st 4] ++ ([st 5] ++ ([st 6] ++ ([st 7] ++ ([st 8] ++ ([st 9] ++ ([st 10] ++ ([st 11] ++ ([st 12] ++ ([st 13] ++ ([st 14] ++ ([st 15] ++ ([st 16] ++ [])))))))))))))))) := by kernel_rfl
theorem pcFin (w : World) (os : OsState) : topRun treeTable pw w 11 (some (.ref 6)) 2 (S17 w os).abs ⟨doneF .next, cE, ps17, BB⟩ = some ⟨H1 w.params, #[], {}, tk17, os⟩ := by kernel_rfl
theorem runR17 (w : World) (os : OsState) : topRun treeTable pw w 11 (some (.ref 6)) 2 (S17 w os).abs (restOf [] env0 cE ps17 BB) = some ⟨H1 w.params, #[], {}, tk17, os⟩ := piece_nil (pcFin w os)
theorem runR16 (w : World) (os : OsState) : topRun treeTable pw w 11 (some (.ref 6)) ((nst17 + 1) + 2) (S16 w os).abs (restOf ([st 16] ++ []) env0 cE ps16 BB) = some ⟨H1 w.params, #[], {}, tk17, os⟩ :=
  piece_app (segRun_of (congrFun (pc17 w) os)) (runR17 w os)
theorem runR15 (w : World) (os : OsState) : topRun treeTable pw w 11 (some (.ref 6)) ((nst16 + 1) + ((nst17 + 1) + 2)) (S15 w os).abs (restOf ([st 15] ++ ([st 16] ++ [])) env0 cE ps15 BB) = some ⟨H1 w.params, #[], {}, tk17, os⟩ :=
  piece_app (segRun_of (congrFun (pc16 w) os)) (runR16 w os)
theorem runR14 (w : World) (os : OsState) : topRun treeTable pw w 11 (some (.ref 6)) ((nst15 + 1) + ((nst16 + 1) + ((nst17 + 1) + 2))) (S14 w os).abs (restOf ([st 14] ++ ([st 15] ++ ([st 16] ++ []))) env0 cE ps14 BB) = some ⟨H1 w.params, #[], {}, tk17, os⟩ :=
  piece_app (segRun_of (congrFun (pc15 w) os)) (runR15 w os)
theorem runR13 (w : World) (os : OsState) : topRun treeTable pw w 11 (some (.ref 6)) ((nst14 + 1) + ((nst15 + 1) + ((nst16 + 1) + ((nst17 + 1) + 2)))) (S13 w os).abs (restOf ([st 13] ++ ([st 14] ++ ([st 15] ++ ([st 16] ++ [])))) env0 cE ps13 BB) = some ⟨H1 w.params, #[], {}, tk17, os⟩ :=
  piece_app (segRun_of (congrFun (pc14 w) os)) (runR14 w os)
theorem runR12 (w : World) (os : OsState) : topRun treeTable pw w 11 (some (.ref 6)) ((nst13 + 1) + ((nst14 + 1) + ((nst15 + 1) + ((nst16 + 1) + ((nst17 + 1) + 2))))) (S12 w os).abs (restOf ([st 12] ++ ([st 13] ++ ([st 14] ++ ([st 15] ++ ([st 16] ++ []))))) env0 cE ps12 BB) = some ⟨H1 w.params, #[], {}, tk17, os⟩ :=
  piece_app (segRun_of (congrFun (pc13 w) os)) (runR13 w os)
theorem runR11 (w : World) (os : OsState) : topRun treeTable pw w 11 (some (.ref 6)) ((nst12 + 1) + ((nst13 + 1) + ((nst14 + 1) + ((nst15 + 1) + ((nst16 + 1) + ((nst17 + 1) + 2)))))) (S11 w os).abs (restOf ([st 11] ++ ([st 12] ++ ([st 13] ++ ([st 14] ++ ([st 15] ++ ([st 16] ++ [])))))) env0 cE ps11 BB) = some ⟨H1 w.params, #[], {}, tk17, os⟩ :=
  piece_app (segRun_of (congrFun (pc12 w) os)) (runR12 w os)
theorem runR10 (w : World) (os : OsState) : topRun treeTable pw w 11 (some (.ref 6)) ((nst11 + 1) + ((nst12 + 1) + ((nst13 + 1) + ((nst14 + 1) + ((nst15 + 1) + ((nst16 + 1) + ((nst17 + 1) + 2))))))) (S10 w os).abs (restOf ([st 10] ++ ([st 11] ++ ([st 12] ++ ([st 13] ++ ([st 14] ++ ([st 15] ++ ([st 16] ++ []))))))) env0 cE ps10 BB) = some ⟨H1 w.params, #[], {}, tk17, os⟩ :=
  piece_app (segRun_of (congrFun (pc11 w) os)) (runR11 w os)
theorem runR9 (w : World) (os : OsState) : topRun treeTable pw w 11 (some (.ref 6)) ((nst10 + 1) + ((nst11 + 1) + ((nst12 + 1) + ((nst13 + 1) + ((nst14 + 1) + ((nst15 + 1) + ((nst16 + 1) + ((nst17 + 1) + 2)))))))) (S9 w os).abs (restOf ([st 9] ++ ([st 10] ++ ([st 11] ++ ([st 12] ++ ([st 13] ++ ([st 14] ++ ([st 15] ++ ([st 16] ++ [])))))))) env0 cE ps9 BB) = some ⟨H1 w.params, #[], {}, tk17, os⟩ :=
  piece_app (segRun_of (congrFun (pc10 w) os)) (runR10 w os)
theorem runR8 (w : World) (os : OsState) : topRun treeTable pw w 11 (some (.ref 6)) (12525 + ((nst10 + 1) + ((nst11 + 1) + ((nst12 + 1) + ((nst13 + 1) + ((nst14 + 1) + ((nst15 + 1) + ((nst16 + 1) + ((nst17 + 1) + 2))))))))) (S8 w os).abs (restOf ([st 8] ++ ([st 9] ++ ([st 10] ++ ([st 11] ++ ([st 12] ++ ([st 13] ++ ([st 14] ++ ([st 15] ++ ([st 16] ++ []))))))))) env0 cE ps8 BB) = some ⟨H1 w.params, #[], {}, tk17, os⟩ :=
  piece_app (pc9 w os) (runR9 w os)
theorem runR7 (w : World) (os : OsState) : topRun treeTable pw w 11 (some (.ref 6)) ((nst8 + 1) + (12525 + ((nst10 + 1) + ((nst11 + 1) + ((nst12 + 1) + ((nst13 + 1) + ((nst14 + 1) + ((nst15 + 1) + ((nst16 + 1) + ((nst17 + 1) + 2)))))))))) (S7 w os).abs (restOf ([st 7] ++ ([st 8] ++ ([st 9] ++ ([st 10] ++ ([st 11] ++ ([st 12] ++ ([st 13] ++ ([st 14] ++ ([st 15] ++ ([st 16] ++ [])))))))))) env0 cE ps7 BB) = some ⟨H1 w.params, #[], {}, tk17, os⟩ :=
  piece_app (segRun_of (congrFun (pc8 w) os)) (runR8 w os)
theorem runR6 (w : World) (os : OsState) : topRun treeTable pw w 11 (some (.ref 6)) ((nst7 + 1) + ((nst8 + 1) + (12525 + ((nst10 + 1) + ((nst11 + 1) + ((nst12 + 1) + ((nst13 + 1) + ((nst14 + 1) + ((nst15 + 1) + ((nst16 + 1) + ((nst17 + 1) + 2))))))))))) (S6 w os).abs (restOf ([st 6] ++ ([st 7] ++ ([st 8] ++ ([st 9] ++ ([st 10] ++ ([st 11] ++ ([st 12] ++ ([st 13] ++ ([st 14] ++ ([st 15] ++ ([st 16] ++ []))))))))))) env0 cE ps6 BB) = some ⟨H1 w.params, #[], {}, tk17, os⟩ :=
  piece_app (segRun_of (congrFun (pc7 w) os)) (runR7 w os)
theorem runR5 (w : World) (os : OsState) : topRun treeTable pw w 11 (some (.ref 6)) ((nst6 + 1) + ((nst7 + 1) + ((nst8 + 1) + (12525 + ((nst10 + 1) + ((nst11 + 1) + ((nst12 + 1) + ((nst13 + 1) + ((nst14 + 1) + ((nst15 + 1) + ((nst16 + 1) + ((nst17 + 1) + 2)))))))))))) (S5 w os).abs (restOf ([st 5] ++ ([st 6] ++ ([st 7] ++ ([st 8] ++ ([st 9] ++ ([st 10] ++ ([st 11] ++ ([st 12] ++ ([st 13] ++ ([st 14] ++ ([st 15] ++ ([st 16] ++ [])))))))))))) env0 cE ps5 BB) = some ⟨H1 w.params, #[], {}, tk17, os⟩ :=
  piece_app (segRun_of (congrFun (pc6 w) os)) (runR6 w os)
theorem runR4 (w : World) (os : OsState) : topRun treeTable pw w 11 (some (.ref 6)) ((nst5 + 1) + ((nst6 + 1) + ((nst7 + 1) + ((nst8 + 1) + (12525 + ((nst10 + 1) + ((nst11 + 1) + ((nst12 + 1) + ((nst13 + 1) + ((nst14 + 1) + ((nst15 + 1) + ((nst16 + 1) + ((nst17 + 1) + 2))))))))))))) (S4 w os).abs (restOf ([st 4] ++ ([st 5] ++ ([st 6] ++ ([st 7] ++ ([st 8] ++ ([st 9] ++ ([st 10] ++ ([st 11] ++ ([st 12] ++ ([st 13] ++ ([st 14] ++ ([st 15] ++ ([st 16] ++ []))))))))))))) env0 cE ps4 BB) = some ⟨H1 w.params, #[], {}, tk17, os⟩ :=
  piece_app (segRun_of (congrFun (pc5 w) os)) (runR5 w os)
theorem runR3 (w : World) (os : OsState) : topRun treeTable pw w 11 (some (.ref 6)) ((nst4 + 1) + ((nst5 + 1) + ((nst6 + 1) + ((nst7 + 1) + ((nst8 + 1) + (12525 + ((nst10 + 1) + ((nst11 + 1) + ((nst12 + 1) + ((nst13 + 1) + ((nst14 + 1) + ((nst15 + 1) + ((nst16 + 1) + ((nst17 + 1) + 2)))))))))))))) (S3 w os).abs (restOf ([st 3] ++ ([st 4] ++ ([st 5] ++ ([st 6] ++ ([st 7] ++ ([st 8] ++ ([st 9] ++ ([st 10] ++ ([st 11] ++ ([st 12] ++ ([st 13] ++ ([st 14] ++ ([st 15] ++ ([st 16] ++ [])))))))))))))) env0 cE ps3 BB) = some ⟨H1 w.params, #[], {}, tk17, os⟩ :=
  piece_app (segRun_of (congrFun (pc4 w) os)) (runR4 w os)
theorem runR2 (w : World) (os : OsState) : topRun treeTable pw w 11 (some (.ref 6)) ((nst3 + 1) + ((nst4 + 1) + ((nst5 + 1) + ((nst6 + 1) + ((nst7 + 1) + ((nst8 + 1) + (12525 + ((nst10 + 1) + ((nst11 + 1) + ((nst12 + 1) + ((nst13 + 1) + ((nst14 + 1) + ((nst15 + 1) + ((nst16 + 1) + ((nst17 + 1) + 2))))))))))))))) (S2 w os).abs (restOf ([st 2] ++ ([st 3] ++ ([st 4] ++ ([st 5] ++ ([st 6] ++ ([st 7] ++ ([st 8] ++ ([st 9] ++ ([st 10] ++ ([st 11] ++ ([st 12] ++ ([st 13] ++ ([st 14] ++ ([st 15] ++ ([st 16] ++ []))))))))))))))) env0 cE ps2 BB) = some ⟨H1 w.params, #[], {}, tk17, os⟩ :=
  piece_app (segRun_of (congrFun (pc3 w) os)) (runR3 w os)
theorem runR1 (w : World) (os : OsState) : topRun treeTable pw w 11 (some (.ref 6)) ((nst2 + 1) + ((nst3 + 1) + ((nst4 + 1) + ((nst5 + 1) + ((nst6 + 1) + ((nst7 + 1) + ((nst8 + 1) + (12525 + ((nst10 + 1) + ((nst11 + 1) + ((nst12 + 1) + ((nst13 + 1) + ((nst14 + 1) + ((nst15 + 1) + ((nst16 + 1) + ((nst17 + 1) + 2)))))))))))))))) (S1 w os).abs (restOf ([st 1] ++ ([st 2] ++ ([st 3] ++ ([st 4] ++ ([st 5] ++ ([st 6] ++ ([st 7] ++ ([st 8] ++ ([st 9] ++ ([st 10] ++ ([st 11] ++ ([st 12] ++ ([st 13] ++ ([st 14] ++ ([st 15] ++ ([st 16] ++ [])))))))))))))))) env0 cE ps1 BB) = some ⟨H1 w.params, #[], {}, tk17, os⟩ :=
  piece_app (segRun_of (congrFun (pc2 w) os)) (runR2 w os)
theorem runR0 (w : World) (os : OsState) : topRun treeTable pw w 11 (some (.ref 6)) ((nst1 + 1) + ((nst2 + 1) + ((nst3 + 1) + ((nst4 + 1) + ((nst5 + 1) + ((nst6 + 1) + ((nst7 + 1) + ((nst8 + 1) + (12525 + ((nst10 + 1) + ((nst11 + 1) + ((nst12 + 1) + ((nst13 + 1) + ((nst14 + 1) + ((nst15 + 1) + ((nst16 + 1) + ((nst17 + 1) + 2))))))))))))))))) (Sa w os).abs (restOf ([st 0] ++ ([st 1] ++ ([st 2] ++ ([st 3] ++ ([st 4] ++ ([st 5] ++ ([st 6] ++ ([st 7] ++ ([st 8] ++ ([st 9] ++ ([st 10] ++ ([st 11] ++ ([st 12] ++ ([st 13] ++ ([st 14] ++ ([st 15] ++ ([st 16] ++ []))))))))))))))))) env0 cE psa BB) = some ⟨H1 w.params, #[], {}, tk17, os⟩ :=
  piece_app (segRun_of (congrFun (pc1 w) os)) (runR1 w os)
theorem run_pw (w : World) (os : OsState) : topRun treeTable pw w 11 (some (.ref 6)) (12 + (1 + ((nst1 + 1) + ((nst2 + 1) + ((nst3 + 1) + ((nst4 + 1) + ((nst5 + 1) + ((nst6 + 1) + ((nst7 + 1) + ((nst8 + 1) + (12525 + ((nst10 + 1) + ((nst11 + 1) + ((nst12 + 1) + ((nst13 + 1) + ((nst14 + 1) + ((nst15 + 1) + ((nst16 + 1) + ((nst17 + 1) + 2))))))))))))))))))) ⟨boot_heap w.params, #[], boot_drawn, boot_toks, os⟩ (topStub pw) = some ⟨H1 w.params, #[], {}, tk17, os⟩ := by
  refine go_top (congrFun (pcPre w) os) (piece_block (congrFun (pcBlock w) os) ?_)
  rw [body_is]
  exact runR0 w os
noncomputable abbrev M0 : Nat := 12 + (1 + ((nst1 + 1) + ((nst2 + 1) + ((nst3 + 1) + ((nst4 + 1) + ((nst5 + 1) + ((nst6 + 1) + ((nst7 + 1) + ((nst8 + 1) + (12525 + ((nst10 + 1) + ((nst11 + 1) + ((nst12 + 1) + ((nst13 + 1) + ((nst14 + 1) + ((nst15 + 1) + ((nst16 + 1) + ((nst17 + 1) + 2))))))))))))))))))
noncomputable def loose0 : List Str := [Str.ofString "_wall", Str.ofString "_strip_exception_details", Str.ofString "_netrclex", Str.ofString "b1_set", Str.ofString "in_table_b1", Str.ofString "b3_exceptions", Str.ofString "map_table_b3", Str.ofString "in_table_c11", Str.ofString "_law_drawn", Str.ofString "_law_word", Str.ofString "_law_laid", Str.ofString "_law_due"]
noncomputable def q0 : Program := { pw with main := { pw.main with body := [st 16] } }
noncomputable abbrev hook0 : Hook := kHook K0 as0 as0_K0
noncomputable abbrev Xt0 (s : Shared) : Bool := xlAt q0 [] s && recOk (RowW.records PySem.Challenge.rw_sc0084_01.row.toRowW) s
theorem size_pw (w : World) : ((boot_heap w.params).isNs mainGlobals && (#[] : Array GenState).size == 0, (boot_heap w.params).objs.size, (boot_heap w.params).nsMap mainGlobals "__annotations__") = (true, 11, some (.ref 6)) := by kernel_rfl
theorem le_pw : Nat.ble M0 40000 = true := by kernel_rfl
theorem looks1 (w : World) : (fun os => (staticsOk (importedModules pw.main.body) (boot_heap w.params) (H1 w.params) && namesBound pw (H1 w.params) && gensDone ⟨H1 w.params, #[], {}, tk17, os⟩ && laidKept (boot_heap w.params) (H1 w.params))) = fun (_ : OsState) => true := by kernel_rfl
theorem looks3 (w : World) : (fun os => hook0.obs ⟨H1 w.params, #[], {}, tk17, os⟩) = fun (_ : OsState) => hook0.val w := by kernel_rfl
theorem looks2 (w : World) : (fun os => openSeen q0 loose0 (importedModules pw.main.body) Xt0 true ⟨H1 w.params, #[], {}, tk17, os⟩) = fun (_ : OsState) => openGood q0 loose0 := by kernel_rfl
theorem left_pw : LeftO pw q0 loose0 Xt0 hook0.obs hook0.val 40000 true :=
  LeftO.of_pieces (H₀ := boot_heap) (H₁ := H1) (gs₀ := #[]) (gs₁ := #[]) (d₀ := boot_drawn) (d₁ := {}) (k₀ := boot_toks) (k₁ := tk17) (m₀ := 11) (ann := some (.ref 6)) (M := M0) boot_pw size_pw run_pw le_pw
    (fun w => by
      have a := looks1 w; have b := looks2 w; have c := looks3 w
      funext os
      exact Prod.ext (congrFun a os) (Prod.ext (congrFun b os) (congrFun c os)))
end
end Mine
end

section
open PySem PySem.W PySem.Calls PyProof.Rows PyProof.V PySem.Spec
set_option Elab.async false
set_option maxRecDepth 100000
set_option maxHeartbeats 4000000
namespace Mine
noncomputable section
noncomputable def setE (o : Obj) : List (Int × Value) := match o.data with
  | .set es _ _ => es.toList
  | _ => []
noncomputable def keyTok : Int × Value → Int × Nat
  | (_, .int k t) => (k, t)
  | _ => (0, 0)
noncomputable def b1E : List (Int × Nat) := (setE (ob7_78 ⟨fun _ => 0, fun _ => 0, id, fun _ => 0, fun _ _ => 0, fun _ => false, fun _ => 0, .refcount, .text, fun _ => 0, fun _ => none, fun _ => false, fun _ _ _ => true, fun _ young a => decide (a ≥ young), true, fun _ => false, fun _ => none, fun _ => none, fun _ _ _ => 0, fun _ _ => none, fun _ => none, fun _ => (0, false, "UTC"), fun _ => none, id, fun _ => false⟩)).map keyTok
noncomputable def b1mem (k : Int) : Bool := b1E.any fun e => e.1 == k
theorem b1_es (P : Params) : setE (ob7_78 P) = b1E.map fun e => (e.1, .int e.1 e.2) := by kernel_rfl
theorem b1_small : (b1E.all fun e => decide (0 ≤ e.1) && decide (e.1 < 2 ^ 60)) = true := by kernel_rfl
theorem b1_setOf {w : World} {h : Heap} (hg : h.get? 78 = some (ob7_78 w.params)) : h.SetOf (intKind pw w) 78 b1mem 27 := by
  have hes : setE (ob7_78 w.params) = _ := b1_es w.params
  refine ⟨ob7_78 w.params, (setE (ob7_78 w.params)).toArray, 29, _, hg, ⟨rfl, rfl, rfl⟩, rfl, ?_, ?_, by rw [List.size_toArray, hes, List.length_map]; decide +kernel, by kernel_rfl, by kernel_rfl⟩
  · rw [hes]
    intro e he
    obtain ⟨x, hx, rfl⟩ := List.mem_map.mp he
    have := List.all_eq_true.mp b1_small x hx
    simp only [Bool.and_eq_true, decide_eq_true_eq] at this
    exact ⟨⟨x.1, by show (x.1 == x.1) = true; exact beq_self_eq_true _, (hashInt_small this.1 this.2).symm⟩, rfl⟩
  · intro k
    rw [hes]
    unfold b1mem
    rw [List.any_eq_true]
    constructor
    · rintro ⟨x, hx, e⟩
      exact ⟨_, List.mem_map_of_mem hx, e⟩
    · rintro ⟨e, he, q⟩
      obtain ⟨x, hx, rfl⟩ := List.mem_map.mp he
      exact ⟨x, hx, q⟩
noncomputable def b3D : List (PyData × PyData) := b3L.map fun x => (PyData.int x.1.1, PyData.str x.2.1)
noncomputable def b3look (c : Int) : Option Str := (b3L.find? fun x => x.1.1 == c).map (·.2.1)
theorem b3_lookup (c : Int) : lookup (.int c) b3D = (b3look c).map PyData.str := by
  unfold b3D b3look
  induction b3L with
  | nil => rfl
  | cons x r ih =>
    rw [List.map_cons, List.find?_cons]
    unfold Spec.lookup
    rw [show same (PyData.int x.1.1) (PyData.int c) = (x.1.1 == c) from rfl]
    cases x.1.1 == c with
    | true => rfl
    | false => exact ih
theorem flatA : ∀ (xs : List X) (t : Nat), FlatPairs PyData.int ((entA xs t).map fun e => (e.hash, e.val)) (xs.map fun x => (PyData.int x.1.1, PyData.str x.2.1))
  | [], _ => .nil
  | x :: r, t => .cons (Flat.str _ _) (flatA r (t + 3))
theorem flatB : ∀ (xs : List X) (t : Nat), FlatPairs PyData.int ((entB xs t).map fun e => (e.hash, e.val)) (xs.map fun x => (PyData.int x.1.1, PyData.str x.2.1))
  | [], _ => .nil
  | x :: r, t => .cons (Flat.str _ _) (flatB r (t + 2))
theorem flatApp {a b : List (Int × Value)} {c d : List (PyData × PyData)} (h : FlatPairs PyData.int a c) (k : FlatPairs PyData.int b d) : FlatPairs PyData.int (a ++ b) (c ++ d) := by
  induction h with
  | nil => exact k
  | cons f _ ih => exact .cons f ih
theorem pairs_self {w : World} : ∀ {l : List DictEntry}, Eok l → Pairs (intKind pw w) l (l.map fun e => (e.hash, e.val))
  | [], _ => .nil
  | e :: r, ok => .cons (by
      obtain ⟨k, t, x, u, q, _⟩ := ok e (.head _)
      subst q
      exact beq_self_eq_true k) rfl (pairs_self fun y hy => ok y (.tail _ hy))
theorem b3E_ok : Eok b3E := fun e he => by
  unfold b3E at he
  rcases List.mem_append.mp he with h | h
  · exact entA_ok _ _ (fun x hx => b3_ok.1 x (List.mem_of_mem_take hx)) e h
  · exact entB_ok _ _ (fun x hx => b3_ok.1 x (List.mem_of_mem_drop hx)) e h
theorem b3E_hash : b3E.map (·.hash) = b3L.map (·.1.1) := by
  unfold b3E
  rw [List.map_append, entA_hash, entB_hash, ← List.map_append, List.take_append_drop]
theorem b3_tab {w : World} {h : Heap} (hg : h.get? 89 = some (b3main w.params)) : IntTab pw w h 89 b3D := by
  refine ⟨by decide, b3E.map fun e => (e.hash, e.val), ⟨b3main w.params, b3E.toArray, 650, hg, ⟨rfl, rfl, rfl⟩, rfl, ?_, pairs_self b3E_ok, ?_⟩, ?_⟩
  · intro e he
    obtain ⟨k, t, x, u, q, h0, h1⟩ := b3E_ok e (by simpa using he)
    subst q
    exact ⟨k, beq_self_eq_true k, (hashInt_small h0 h1).symm⟩
  · rw [List.map_map, show ((fun e : Int × Value => e.1) ∘ fun e : DictEntry => (e.hash, e.val)) = fun e : DictEntry => e.hash from rfl, b3E_hash]
    exact b3_ok.2
  · unfold b3E b3D
    rw [List.map_append]
    conv => rhs; rw [← List.take_append_drop 646 b3L]
    rw [List.map_append]
    exact flatApp (flatA _ _) (flatB _ _)
end
end Mine
end

section
open PySem PySem.W PySem.Calls PyProof.Rows PyProof.V
set_option Elab.async false
set_option maxRecDepth 100000
set_option maxHeartbeats 4000000
namespace Mine
theorem fill_it : PySem.Challenge.rw_sc0084_01 = PySem.Challenge.rw_sc0084_01 ∧ K0 = K0 := by k_fill; exact ⟨rfl, rfl⟩
structure Cx (w : World) (mg mb : Str → Option Value) (h : Heap) : Prop where
  X : (K0 w.params).In h
  T : TopRead q0 loose0 mg mb h
theorem Cx.keeps {w : World} {mg mb : Str → Option Value} {h h' : Heap} (c : Cx w mg mb h) (k : ∀ b o, h.get? b = some o → h'.get? b = some o) : Cx w mg mb h' := ⟨c.X.keeps k, c.T.keeps k⟩
/-- room for n more frames -/
structure Rm (A : Around) (n : Nat) : Prop where
  hh : A.handled = none
  hd : A.depth + n ≤ 900
  hu : A.units + 3 * n ≤ 900
theorem Rm.deeper {A : Around} {n : Nat} {env : Env} (r : Rm A (n + 1)) : Rm (A.deeper env) n := ⟨r.hh, by have := r.hd; show A.depth + 1 + n ≤ 900; omega, by have := r.hu; show A.units + 3 + 3 * n ≤ 900; omega⟩
theorem Rm.room {A : Around} {n : Nat} (r : Rm A n) : A.depth < recursionLimit := by have := r.hd; show A.depth < 1000; omega
/-- what a call leaves: a value with V, and all that stood -/
structure Out (s : Shared) (V : Value → Heap → Prop) (res : Result) (s' : Shared) : Prop where
  val : ∃ v, res = .ok (.ret v) ∧ V v s'.heap
  keep : Keeps s s'
theorem use_out {M : Model} {A : Around} {f : Value} {args : List Value} {s : Shared} {V : Value → Heap → Prop} {Q : Value → Shared → Prop} {E : Value → Shared → Prop} (h : codeAny M A (.call f ⟨args, []⟩) (Out s V) s)
    (k : ∀ v h' tk, V v h' → (∀ b o, s.heap.get? b = some o → h'.get? b = some o) → Q v { s with heap := h', toks := tk }) : wpAny M A (call f args) Q E s := by
  refine wpAny_call (codeAny_mono h fun r s' o => ?_)
  obtain ⟨⟨v, rfl, hv⟩, h', tk, rfl, hk⟩ := o
  exact k v h' tk hv hk
noncomputable abbrev sg (c : Nat) : Str := ⟨#[c]⟩
/-- what map_table_b3 makes of a sign -/
noncomputable def foldS (c : Nat) : Str := match b3look c with
  | some x => x
  | none => Txt.lower (sg c)
theorem flat_none {v : Value} (h : Flat v .none) : v = .none := by cases h {} with | none => rfl
section
variable {w : World} {A : Around} {s : Shared} {mg mb : Str → Option Value} {E : Value → Shared → Prop}
theorem c11 {x : Str} {t : Tok} (C : Cx w mg mb s.heap) (r : Rm A 1) :
    codeAny (model pw w) A (.call (.ref 141) ⟨[.str x t], []⟩) (Out s fun v _ => v = .bool (x == Str.ofString " ")) s := by
  refine call_plain_ret (name := Str.ofString "in_table_c11") (params := fP (st 10)) (body := fB (st 10)) (scope := fS (st 10)) (binds := [(Str.ofString "code", .str x t)]) r.room (C.X 141 _ rfl) rfl C.T.nolimit (codeRec_of C.X (by kernel_rfl)) (by rfl) (locs rfl) (fun h₁ F => ?_) rfl rfl rfl (by decide +kernel)
  have N : News s.heap s.heap.objs.size h₁ [] := News.nil
  have X := C.X
  have T := C.T
  change wpAny _ _ (execs [_] _) _ _ _
  k_steps
  exact ⟨⟨_, rfl, rfl⟩, h₁, _, rfl, F.keep⟩
theorem tb1 {c : Nat} {t : Tok} (C : Cx w mg mb s.heap) (r : Rm A 1) :
    codeAny (model pw w) A (.call (.ref 88) ⟨[.str (sg c) t], []⟩) (Out s fun v _ => v = .bool (b1mem c)) s := by
  refine call_plain_ret (name := Str.ofString "in_table_b1") (params := fP (st 7)) (body := fB (st 7)) (scope := fS (st 7)) (binds := [(Str.ofString "code", .str (sg c) t)]) r.room (C.X 88 _ rfl) rfl C.T.nolimit (codeRec_of C.X (by kernel_rfl)) (by rfl) (locs rfl) (fun h₁ F => ?_) rfl rfl rfl (by decide +kernel)
  have N : News s.heap s.heap.objs.size h₁ [] := News.nil
  have X := C.X
  have T := C.T
  change wpAny _ _ (execs [_] _) _ _ _
  k_steps
  refine wpAny_inSet_of (knd := intKind pw w) (k := (c : Int)) (show (((c : Int) == (c : Int)) = true) from beq_self_eq_true _) rfl (b1_setOf (F.keep _ _ (C.X 78 _ rfl))) ?_
  exact ⟨⟨_, rfl, rfl⟩, h₁, _, rfl, F.keep⟩
theorem tb3 {c : Nat} {t : Tok} (C : Cx w mg mb s.heap) (r : Rm A 1) (hz : Builtin.Str.tooLong (Txt.lower (sg c)).length = false) :
    codeAny (model pw w) A (.call (.ref 134) ⟨[.str (sg c) t], []⟩) (Out s fun v _ => ∃ u, v = .str (foldS c) u) s := by
  refine call_plain_ret (name := Str.ofString "map_table_b3") (params := fP (st 9)) (body := fB (st 9)) (scope := fS (st 9)) (binds := [(Str.ofString "code", .str (sg c) t)]) r.room (C.X 134 _ rfl) rfl C.T.nolimit (codeRec_of C.X (by kernel_rfl)) (by rfl) (locs rfl) (fun h₁ F => ?_) rfl rfl rfl (by decide +kernel)
  have N : News s.heap s.heap.objs.size h₁ [] := News.nil
  have X := C.X
  have T := C.T
  have T3 : IntTab pw w h₁ 89 b3D := b3_tab (F.keep _ _ (C.X 89 _ rfl))
  change wpAny _ _ (execs [_, _, _] _) _ _ _
  k_steps
  rename Flat _ _ => hv
  rw [b3_lookup] at hv
  have hf : foldS c = match b3look c with
    | some x => x
    | none => Txt.lower (sg c) := rfl
  cases e : b3look c with
  | none =>
    rw [e] at hv hf
    obtain rfl := flat_none hv
    k_steps
    refine SC.lower hz ?_
    exact ⟨⟨_, rfl, _, by rw [hf]⟩, _, _, rfl, Fr.keep (by assumption)⟩
  | some x =>
    rw [e] at hv hf
    obtain ⟨u, rfl⟩ := Flat.str_inv hv
    k_steps
    exact ⟨⟨_, rfl, _, by rw [hf]⟩, _, _, rfl, Fr.keep (by assumption)⟩
end
end Mine
end

section
open PySem PySem.W PySem.Calls PyProof.Rows PyProof.V
open Builtin Builtin.Str Builtin.Int
set_option Elab.async false
set_option maxRecDepth 100000
set_option maxHeartbeats 4000000
namespace Mine
noncomputable def find4 (x y : Str) (e : Int) : Int := match occurrences x y 0 (min (fromIndex x.length e) x.length) 1 with | k :: _ => (k : Int) | [] => -1
noncomputable def rfind4 (x y : Str) (e : Int) : Int := match lastOccurrence x y 0 (min (fromIndex x.length e) x.length) with | some k => (k : Int) | none => -1
theorem gives_find4 (x y : Str) (e : Int) (t u v v' : Tok) : Gives («str.find» ⟨[.str x t, .str y u, .int 0 v, .int e v'], []⟩) (.int (find4 x y e)) := by
  show Gives (match occurrences x y 0 (min (fromIndex x.length e) x.length) 1 with | k :: _ => retInt k | [] => (do rule "str.find.not-found"; retInt (-1))) _
  unfold find4
  cases occurrences x y 0 (min (fromIndex x.length e) x.length) 1 with
  | nil => exact .rule (.of_eq rfl)
  | cons k _ => exact .of_eq rfl
theorem gives_rfind4 (x y : Str) (e : Int) (t u v v' : Tok) : Gives («str.rfind» ⟨[.str x t, .str y u, .int 0 v, .int e v'], []⟩) (.int (rfind4 x y e)) := by
  show Gives (match lastOccurrence x y 0 (min (fromIndex x.length e) x.length) with | some k => retInt k | none => (do rule "str.rfind.not-found"; retInt (-1))) _
  unfold rfind4
  cases lastOccurrence x y 0 (min (fromIndex x.length e) x.length) with
  | none => exact .rule (.of_eq rfl)
  | some k => exact .of_eq rfl
section
variable {prog : Program} {w : World} {A : Around} {E : Value → Shared → Prop} {s : Shared} {x y : Str} {t u v v' : Tok} {e : Int} {Q : Value → Shared → Prop}
theorem call_find4 (hq : Q (.int (find4 x y e) s.toks) { s with toks := s.toks + 1 }) : wpAny (model prog w) A (call (.builtin "str.find") [.str x t, .str y u, .int 0 v, .int e v']) Q E s :=
  call_gives F.slot_str_find (typeIs_str _ _ _) F.entry_str_find (F.args_str_find_4 _ _ _ _) (gives_find4 x y e t u v v') hq
theorem call_rfind4 (hq : Q (.int (rfind4 x y e) s.toks) { s with toks := s.toks + 1 }) : wpAny (model prog w) A (call (.builtin "str.rfind") [.str x t, .str y u, .int 0 v, .int e v']) Q E s :=
  call_gives F.slot_str_rfind (typeIs_str _ _ _) F.entry_str_rfind (F.args_str_rfind_4 _ _ _ _) (gives_rfind4 x y e t u v v') hq
end
end Mine
end

section
open PySem PySem.W PySem.Calls PyProof.Rows PyProof.V
open Builtin Builtin.Str Builtin.Int StrLaws
set_option Elab.async false
set_option maxRecDepth 100000
set_option maxHeartbeats 4000000
namespace Mine
/-- the signs of a text -/
noncomputable abbrev sl (x : Str) : List Nat := x.cps.toList
/-- the text of signs -/
noncomputable abbrev ofL (l : List Nat) : Str := ⟨l.toArray⟩
theorem ofL_sl (x : Str) : ofL (sl x) = x := by obtain ⟨⟨l⟩⟩ := x; rfl
noncomputable def upto (c : Nat) (l : List Nat) : List Nat := l.takeWhile (· != c)
noncomputable def behind (c : Nat) (l : List Nat) : List Nat := (l.reverse.takeWhile (· != c)).reverse
noncomputable def stripF (l : List Nat) : List Nat := behind 46 (upto 58 (upto 10 l))
theorem At_iff (x : Str) (c e i : Nat) (he : e ≤ (sl x).length) : At x ⟨#[c]⟩ e i ↔ ((sl x).take e)[i]? = some c := by
  unfold At
  rw [subAt_eq]
  show (i + 1 ≤ e ∧ (((sl x).drop i).take 1 == [c]) = true) ↔ _
  rw [take1_drop, List.getElem?_take]
  by_cases h : i < e
  · rw [if_pos h]; exact ⟨fun q => q.2, fun q => ⟨h, q⟩⟩
  · rw [if_neg h]; exact ⟨fun q => absurd q.1 (by omega), fun q => by cases q⟩
theorem occ_to (x y : Str) (hi : Nat) :
    (occurrences x y 0 hi 1 = [] ∧ ∀ i, ¬ At x y hi i) ∨ ∃ i r, occurrences x y 0 hi 1 = i :: r ∧ At x y hi i ∧ ∀ k, k < i → ¬ At x y hi k := by
  rw [occ_eq]
  rcases occ_first x y hi 1 (Nat.le_refl _) (List.range' 0 (hi + 1 - 0)) 0 (fun _ _ => Nat.zero_le _) with ⟨h0, hn⟩ | ⟨pre, a, post, e, h0, ha, hn⟩
  · refine .inl ⟨by rw [h0], fun i hi' => ?_⟩
    exact hn i (by have := hi'.1; simp [List.mem_range'] <;> omega) hi'
  · refine .inr ⟨a, ((forIn (List.range' 0 (hi + 1 - 0)) ((#[] : Array Nat), 0) (occBody x y hi 1)).run.fst.toList).tail, ?_, ha, fun k hk => hn k (range'_split e k hk)⟩
    generalize (forIn (List.range' 0 (hi + 1 - 0)) ((#[] : Array Nat), 0) (occBody x y hi 1)).run.fst = arr at h0
    have h1 : arr.toList[0]? = some a := by simpa using h0
    cases hL : arr.toList with
    | nil => rw [hL] at h1; cases h1
    | cons b t => rw [hL] at h1; simp at h1; rw [h1]; rfl
theorem last_to (x y : Str) (hi : Nat) : (lastOccurrence x y 0 hi = none ∧ ∀ i, ¬ At x y hi i) ∨ ∃ i, lastOccurrence x y 0 hi = some i ∧ At x y hi i ∧ ∀ k, i < k → ¬ At x y hi k := by
  rw [last_eq]
  have key := last_run x y hi (List.range' 0 (hi + 1 - 0)) [] none (fun _ h => nomatch h) (fun _ h => nomatch h) (by simpa using List.pairwise_lt_range' (s := 0) (n := hi + 1 - 0))
  have mem : ∀ i, At x y hi i → i ∈ [] ++ List.range' 0 (hi + 1 - 0) := fun i hi' => by have := hi'.1; simp [List.mem_range'] <;> omega
  cases hr : (forIn (List.range' 0 (hi + 1 - 0)) none (lastBody x y hi)).run with
  | none => rw [hr] at key; exact .inl ⟨rfl, fun i hi' => key i (mem i hi') hi'⟩
  | some a => rw [hr] at key; exact .inr ⟨a, rfl, key.1, fun k hk hA => key.2 k (mem k hA) hk hA⟩
theorem upto_spec (c : Nat) : ∀ (l : List Nat), (∀ i : Nat, ¬ l[i]? = some c) ∧ upto c l = l ∨ ∃ i : Nat, l[i]? = some c ∧ (∀ k : Nat, k < i → ¬ l[k]? = some c) ∧ upto c l = l.take i
  | [] => .inl ⟨fun i h => (by simp at h), rfl⟩
  | a :: r => by
    unfold upto
    rw [List.takeWhile_cons]
    by_cases h : a = c
    · subst h
      exact .inr ⟨0, rfl, fun k hk => absurd hk (Nat.not_lt_zero _), by simp⟩
    · have e : (a != c) = true := by simpa using h
      rw [e, if_pos rfl]
      rcases upto_spec c r with ⟨h1, h2⟩ | ⟨i, h1, h2, h3⟩
      · refine .inl ⟨fun i => ?_, by unfold upto at h2; rw [h2]⟩
        cases i with
        | zero => simpa using h
        | succ i => simpa using h1 i
      · refine .inr ⟨i + 1, by simpa using h1, fun k hk => ?_, by unfold upto at h3; rw [h3, List.take_succ_cons]⟩
        cases k with
        | zero => simpa using h
        | succ k => simpa using h2 k (by omega)
theorem behind_spec (c : Nat) (l : List Nat) : (∀ i : Nat, ¬ l[i]? = some c) ∧ behind c l = l ∨ ∃ i : Nat, l[i]? = some c ∧ (∀ k : Nat, i < k → ¬ l[k]? = some c) ∧ behind c l = l.drop (i + 1) := by
  unfold behind
  rcases upto_spec c l.reverse with ⟨h1, h2⟩ | ⟨i, h1, h2, h3⟩
  · refine .inl ⟨fun i h => ?_, by unfold upto at h2; rw [h2, List.reverse_reverse]⟩
    obtain ⟨hl, he⟩ := List.getElem?_eq_some_iff.mp h
    refine h1 (l.length - 1 - i) ?_
    rw [List.getElem?_reverse (by omega)]
    rw [show l.length - 1 - (l.length - 1 - i) = i by omega]; exact h
  · obtain ⟨hl, he⟩ := List.getElem?_eq_some_iff.mp h1
    rw [List.length_reverse] at hl
    refine .inr ⟨l.length - 1 - i, ?_, fun k hk hq => ?_, ?_⟩
    · rw [List.getElem?_reverse (by omega)] at h1; exact h1
    · obtain ⟨hl', he'⟩ := List.getElem?_eq_some_iff.mp hq
      refine h2 (l.length - 1 - k) (by omega) ?_
      rw [List.getElem?_reverse (by omega)]
      rw [show l.length - 1 - (l.length - 1 - k) = k by omega]; exact hq
    · unfold upto at h3
      rw [h3, List.take_reverse, List.reverse_reverse]
      congr 1; omega
theorem from_len {n : Nat} {e : Nat} (he : e ≤ n) : min (fromIndex n (e : Int)) n = e := by
  unfold fromIndex
  rw [if_neg (by omega)]
  have : (max 0 (e : Int)).toNat = e := by omega
  rw [this]; omega
theorem find4_spec (x : Str) (c e : Nat) (he : e ≤ (sl x).length) : (0 ≤ find4 x ⟨#[c]⟩ e ∧ find4 x ⟨#[c]⟩ e = (upto c ((sl x).take e)).length) ∨ (¬ 0 ≤ find4 x ⟨#[c]⟩ e ∧ upto c ((sl x).take e) = (sl x).take e) := by
  unfold find4
  rw [show x.length = (sl x).length from rfl, from_len he]
  rcases occ_to x ⟨#[c]⟩ e with ⟨h0, hn⟩ | ⟨i, r, h0, ha, hn⟩
  · rw [h0]
    refine .inr ⟨by decide, ?_⟩
    rcases upto_spec c ((sl x).take e) with ⟨_, q⟩ | ⟨i, q, _⟩
    · exact q
    · exact absurd ((At_iff x c e i he).mpr q) (hn i)
  · rw [h0]
    refine .inl ⟨by simp, ?_⟩
    have ha := (At_iff x c e i he).mp ha
    rcases upto_spec c ((sl x).take e) with ⟨q, _⟩ | ⟨j, q1, q2, q3⟩
    · exact absurd ha (q i)
    · have hij : i = j := by
        rcases Nat.lt_trichotomy i j with h | h | h
        · exact absurd ha (q2 i h)
        · exact h
        · exact absurd ((At_iff x c e j he).mpr q1) (hn j h)
      subst hij
      obtain ⟨hl, _⟩ := List.getElem?_eq_some_iff.mp ha
      rw [q3, List.length_take, Nat.min_eq_left (Nat.le_of_lt hl)]
theorem rfind4_spec (x : Str) (c e : Nat) (he : e ≤ (sl x).length) : (0 ≤ rfind4 x ⟨#[c]⟩ e ∧ ∃ k : Nat, rfind4 x ⟨#[c]⟩ e = k ∧ k + 1 ≤ e ∧ behind c ((sl x).take e) = ((sl x).take e).drop (k + 1)) ∨ (¬ 0 ≤ rfind4 x ⟨#[c]⟩ e ∧ behind c ((sl x).take e) = (sl x).take e) := by
  unfold rfind4
  rw [show x.length = (sl x).length from rfl, from_len he]
  rcases last_to x ⟨#[c]⟩ e with ⟨h0, hn⟩ | ⟨i, h0, ha, hn⟩
  · rw [h0]
    refine .inr ⟨by decide, ?_⟩
    rcases behind_spec c ((sl x).take e) with ⟨_, q⟩ | ⟨i, q, _⟩
    · exact q
    · exact absurd ((At_iff x c e i he).mpr q) (hn i)
  · rw [h0]
    have ha := (At_iff x c e i he).mp ha
    obtain ⟨hl, _⟩ := List.getElem?_eq_some_iff.mp ha
    rw [List.length_take] at hl
    refine .inl ⟨by simp, i, rfl, by omega, ?_⟩
    rcases behind_spec c ((sl x).take e) with ⟨q, _⟩ | ⟨j, q1, q2, q3⟩
    · exact absurd ha (q i)
    · have hij : i = j := by
        rcases Nat.lt_trichotomy i j with h | h | h
        · exact absurd ((At_iff x c e j he).mpr q1) (hn j h)
        · exact h
        · exact absurd ha (q2 i h)
      subst hij
      exact q3
theorem upto_take (c : Nat) (l : List Nat) : upto c l = l.take (upto c l).length := by
  rcases upto_spec c l with ⟨_, h⟩ | ⟨i, hi, _, h⟩
  · rw [h, List.take_length]
  · rw [h, List.length_take, List.take_eq_take_min]
theorem find_find4 (x y : Str) : Txt.find x y = find4 x y x.length := by
  unfold Txt.find find4
  rw [from_len (Nat.le_refl _)]
  cases occurrences x y 0 x.length 1 <;> rfl
theorem slice_at (x : Str) (a b : Nat) (h1 : a ≤ b) (h2 : b ≤ (sl x).length) : Txt.slice x (some (a : Int)) (some (b : Int)) = ofL (((sl x).take b).drop a) := by
  have := slice_closes (x := x) (i := a) (j := b) ⟨by omega, by omega, Int.ofNat_le.mpr h2⟩
  rw [beq_iff_eq] at this
  rw [this]
  have : ((b : Int) - a).toNat = b - a := by omega
  rw [this, Int.toNat_natCast, List.drop_take]
theorem strip_pure {x : Str} {r : Int} (hr : 0 ≤ Txt.find x (Str.ofString "\n") ∧ r = Txt.find x (Str.ofString "\n") ∨ ¬ 0 ≤ Txt.find x (Str.ofString "\n") ∧ r = x.length) :
    Txt.slice x (some (if 0 ≤ rfind4 x (Str.ofString ".") (if 0 ≤ find4 x (Str.ofString ":") r then find4 x (Str.ofString ":") r else r) then rfind4 x (Str.ofString ".") (if 0 ≤ find4 x (Str.ofString ":") r then find4 x (Str.ofString ":") r else r) + 1 else 0))
      (some (if 0 ≤ find4 x (Str.ofString ":") r then find4 x (Str.ofString ":") r else r)) = ofL (stripF (sl x)) := by
  rw [show Str.ofString "\n" = ⟨#[10]⟩ from by decide +kernel] at hr
  rw [show Str.ofString ":" = ⟨#[58]⟩ from by decide +kernel, show Str.ofString "." = ⟨#[46]⟩ from by decide +kernel]
  rw [find_find4] at hr
  have hr' : r = ((upto 10 (sl x)).length : Int) := by
    have := find4_spec x 10 (sl x).length (Nat.le_refl _)
    rw [List.take_length] at this
    rcases this with ⟨h1, h2⟩ | ⟨h1, h2⟩
    · rcases hr with ⟨_, q⟩ | ⟨q, _⟩
      · rw [q]; exact h2
      · exact absurd h1 q
    · rcases hr with ⟨q, _⟩ | ⟨_, q⟩
      · exact absurd q h1
      · rw [q, h2]; rfl
  have l1 : (upto 10 (sl x)).length ≤ (sl x).length := by rw [upto_take, List.length_take]; omega
  have t1 := upto_take 10 (sl x)
  generalize hA : upto 10 (sl x) = A at *
  subst hr'
  have he : (if 0 ≤ find4 x ⟨#[58]⟩ (A.length : Int) then find4 x ⟨#[58]⟩ (A.length : Int) else (A.length : Int)) = ((upto 58 A).length : Int) := by
    have := find4_spec x 58 A.length l1
    rw [← t1] at this
    rcases this with ⟨h1, h2⟩ | ⟨h1, h2⟩
    · rw [if_pos h1]; exact h2
    · rw [if_neg h1, h2]
  rw [he]
  have l2 : (upto 58 A).length ≤ A.length := by rw [upto_take, List.length_take]; omega
  have t2 : upto 58 A = (sl x).take (upto 58 A).length := by
    have q : upto 58 A = ((sl x).take A.length).take (upto 58 A).length := by rw [← t1]; exact upto_take 58 A
    rwa [List.take_take, Nat.min_eq_left l2] at q
  unfold stripF
  rw [hA]
  generalize hB : upto 58 A = B at *
  have l3 : B.length ≤ (sl x).length := by omega
  have := rfind4_spec x 46 B.length l3
  rw [← t2] at this
  rcases this with ⟨h1, k, h2, h3, h4⟩ | ⟨h1, h2⟩
  · rw [if_pos h1, h2, h4, show ((k : Int) + 1) = ((k + 1 : Nat) : Int) by omega, slice_at x _ _ h3 l3, ← t2]
  · rw [if_neg h1, h2, show (0 : Int) = ((0 : Nat) : Int) from rfl, slice_at x _ _ (Nat.zero_le _) l3, ← t2, List.drop_zero]
end Mine
end

section
open PySem PySem.W PySem.Calls PyProof.Rows PyProof.V
set_option Elab.async false
set_option maxRecDepth 100000
set_option maxHeartbeats 4000000
namespace Mine
local macro_rules | `(tactic| walk_at "call builtin:str.find") => `(tactic| refine call_find4 ?_)
local macro_rules | `(tactic| walk_at "call builtin:str.rfind") => `(tactic| refine call_rfind4 ?_)
local macro_rules | `(tactic| walk_at "unpackItems ref") => `(tactic| (refine' unpackItemsN_ ?F ?N ?t ?h ?n ?_; (case F => k_asm); (case N => k_asm); (case t => exact News.isTup (by k_asm) (by k_mem)); (case h => assumption); (case n => rfl); intro h' F' N'; (try k_sweep)))
section
variable {w : World} {A : Around} {s : Shared} {mg mb : Str → Option Value} {E : Value → Shared → Prop}
theorem tstrip {x : Str} {t : Tok} (C : Cx w mg mb s.heap) (r : Rm A 1) (hz : x.length ≤ 1000) :
    codeAny (model pw w) A (.call (.ref 28) ⟨[.str x t], []⟩) (Out s fun v _ => ∃ u, v = .str (ofL (stripF (sl x))) u) s := by
  refine call_plain_ret (name := Str.ofString "_strip_exception_details") (params := fP (st 2)) (body := fB (st 2)) (scope := fS (st 2)) (binds := [(Str.ofString "msg", .str x t)]) r.room (C.X 28 _ rfl) rfl C.T.nolimit (codeRec_of C.X (by kernel_rfl)) (by rfl) (locs rfl) (fun h₁ F => ?_) rfl rfl rfl (by decide +kernel)
  have N : News s.heap s.heap.objs.size h₁ [] := News.nil
  have hh : A.handled = none := r.hh
  have X := C.X
  have T := C.T
  change wpAny _ _ (execs [_, _, _, _, _, _, _, _] _) _ _ _
  k_steps
  all_goals
    rename (0 ≤ Txt.find _ _ ∧ _) ∨ _ => hr'
    have e := strip_pure hr'
    first
      | (rename 0 ≤ find4 _ _ _ => c1; rename 0 ≤ rfind4 _ _ _ => c2; rw [if_pos c1, if_pos c2] at e)
      | (rename 0 ≤ find4 _ _ _ => c1; rename ¬ 0 ≤ rfind4 _ _ _ => c2; rw [if_pos c1, if_neg c2] at e)
      | (rename ¬ 0 ≤ find4 _ _ _ => c1; rename 0 ≤ rfind4 _ _ _ => c2; rw [if_neg c1, if_pos c2] at e)
      | (rename ¬ 0 ≤ find4 _ _ _ => c1; rename ¬ 0 ≤ rfind4 _ _ _ => c2; rw [if_neg c1, if_neg c2] at e)
    exact ⟨⟨_, rfl, _, by rw [e]⟩, _, _, rfl, Fr.keep (by assumption)⟩
end
end Mine
end

section
open PySem PySem.W PySem.Calls PyProof.Rows PyProof.V
set_option Elab.async false
set_option maxRecDepth 100000
set_option maxHeartbeats 4000000
namespace Mine
theorem Keeps.rfl' {s : Shared} : Keeps s s := ⟨s.heap, s.toks, rfl, fun _ _ e => e⟩
theorem Keeps.trans' {a b c : Shared} (h : Keeps a b) (k : Keeps b c) : Keeps a c := by
  obtain ⟨h1, t1, rfl, k1⟩ := h
  obtain ⟨h2, t2, rfl, k2⟩ := k
  exact ⟨h2, t2, rfl, fun b o e => k2 b o (k1 b o e)⟩
theorem Fr.ext' {h₀ h h' : Heap} {L : Addr} {m : Str → Option Value} (F : Fr h₀ L h m) (k : ∀ b o, h.get? b = some o → h'.get? b = some o) : Fr h₀ L h' m := ⟨F.ns.keeps k, fun b o e => k b o (F.keep b o e), F.above⟩
theorem News.ext' {h₀ h h' : Heap} {L : Addr} {news : List (Addr × Obj)} (N : News h₀ L h news) (k : ∀ b o, h.get? b = some o → h'.get? b = some o) : News h₀ L h' news := fun p hp => ⟨k _ _ (N p hp).1, (N p hp).2⟩
noncomputable def codeV : Value → Nat
  | .str x _ => x.cps.getD 0 0
  | _ => 0
theorem paired_map {α β γ : Type} {F : β → γ → Prop} {f : α → β} : ∀ {l : List α} {k : List γ}, Paired (fun a y => F (f a) y) l k → Paired F (l.map f) k
  | _, _, .nil => .nil
  | _, _, .cons h t => .cons h (paired_map t)
theorem signs_of {x : Str} {vs : List Value} (hl : vs.length = x.cps.size) (h : ∀ (j : Nat) (v : Value), vs[j]? = some v → SignAt x j v) : vs.map codeV = sl x := by
  apply List.ext_getElem?
  intro i
  rw [List.getElem?_map]
  by_cases hi : i < vs.length
  · rw [List.getElem?_eq_getElem hi]
    obtain ⟨c, u, hc, hv⟩ := h i _ (List.getElem?_eq_getElem hi)
    rw [hv]
    show some c = _
    rw [← hc]; simp
  · rw [List.getElem?_eq_none (by omega), List.getElem?_eq_none (by simp [sl]; omega)]; rfl
section
variable {w : World} {A : Around} {s : Shared} {mg mb : Str → Option Value} {E : Value → Shared → Prop} {env : Env}
/-- a comprehension over the signs of a text -/
theorem comp_str {elt iter : Expr} {v : Str} {px : Pos} {ifs : List Expr} {scope : Scope} {pos : Pos} {Q : Value → Shared → Prop} {x : Str} {t : Tok} (p : Nat → Bool) (F : Nat → Value → Prop)
    (hh : A.handled = none) (hfree : ∀ y ∈ scope.names, y.2 ≠ .free) (hcell : ∀ y ∈ scope.names, y.2 ≠ .cell) (hkind : scope.kind = .function)
    (hnames : ∀ y ∈ scope.names, y.2 = .local → scope.names.lookup y.1 = some .local) (hx : scope.names.lookup v = some .local) (hz : x.length ≤ 1000)
    (hi : ∀ Q : Value → Shared → Prop, Q (.str x t) s → wpAny (model pw w) A (eval iter env) Q E s)
    (ht : ∀ C c u s₃ m₃ E', c ∈ sl x → s₃.heap.Ns C m₃ → m₃ v = some (.str (sg c) u) → (∀ b o, s.heap.get? b = some o → s₃.heap.get? b = some o) →
      wpAny (model pw w) A (forIn ifs true fun c r => if r = true then do let ok ← isTrue c (compEnv scope C env) (eval c (compEnv scope C env)); pure (ForInStep.yield ok) else pure (ForInStep.yield r))
        (fun ok s₄ => ok = p c ∧ Keeps s₃ s₄) E' s₃)
    (he : ∀ C c u s₃ m₃ E', c ∈ sl x → p c = true → s₃.heap.Ns C m₃ → m₃ v = some (.str (sg c) u) → (∀ b o, s.heap.get? b = some o → s₃.heap.get? b = some o) →
      wpAny (model pw w) A (eval elt (compEnv scope C env)) (fun y s₄ => F c y ∧ Keeps s₃ s₄) E' s₃)
    (hQ : ∀ D h' tk ys, s.heap.get? D = none → h'.IsList D ys → Paired F ((sl x).filter p) ys.toList → (∀ b o, s.heap.get? b = some o → h'.get? b = some o) → Q (.ref D) { s with heap := h', toks := tk })
    (hs : ∀ x, foldedSetIterable iter env x = pure x := by intro _; rfl) :
    wpAny (model pw w) A (eval (.ListComp elt [⟨.Name v px, iter, ifs, 0⟩] scope pos) env) Q E s := by
  refine wpAny_ListComp_walk (fun v => p (codeV v)) (fun v y => F (codeV v) y) hfree hcell hkind hnames hx (hi _ ?_) hs
  refine wpAny_pyIter_str fun o St W h0 => ?_
  have old : ∀ b o', s.heap.get? b = some o' → b ≠ s.heap.objs.size := fun b o' e => Nat.ne_of_lt (Heap.lt_size e)
  have up : ∀ b o', s.heap.get? b = some o' → (s.heap.push o).get? b = some o' := fun b o' e => Heap.get?_push_of_some _ e
  refine ⟨s.heap.objs.size, [s.heap.objs.size], [s.heap.objs.size], x.cps.size, SignAt x, St, rfl, W A hh, ?_, h0, ?_, ⟨?_, ?_⟩, ?_⟩
  · have : x.cps.size ≤ 1000 := hz
    rw [sizeLine_eq]; omega
  · intro b hb
    rw [List.mem_singleton.mp hb]
    show s.heap.objs.size < (s.heap.push o).objs.size
    rw [Heap.size_push]; exact Nat.lt_succ_self _
  · intro C i val s₃ m₃ E' hP hn hm hk _
    obtain ⟨c, u, hc, rfl⟩ := hP
    have hmem : c ∈ sl x := by
      have : x.cps.toList[i]? = some c := by simpa using hc
      exact List.mem_of_getElem? this
    exact ht C c u s₃ m₃ E' hmem hn hm fun b o' e => hk b o' (by simpa using old b o' e) (up b o' e)
  · intro C i val s₃ m₃ E' hP hp hn hm hk _
    obtain ⟨c, u, hc, rfl⟩ := hP
    have hmem : c ∈ sl x := by
      have : x.cps.toList[i]? = some c := by simpa using hc
      exact List.mem_of_getElem? this
    exact he C c u s₃ m₃ E' hmem hp hn hm fun b o' e => hk b o' (by simpa using old b o' e) (up b o' e)
  · intro D h' tk ys vs hD hl _ hlen hP hF hk
    refine hQ D h' tk ys ?_ hl ?_ fun b o' e => hk b o' (by simpa using old b o' e) (up b o' e)
    · cases e : s.heap.get? D with
      | none => rfl
      | some o' => rw [up D o' e] at hD; cases hD
    · have := paired_map (f := codeV) hF
      rw [← signs_of hlen hP]
      rwa [List.filter_map]
end
theorem join_empty : ∀ (ys : List Str), Str.join (Str.ofString "") ys = ofL (ys.flatMap sl) := by
  intro ys
  rw [show Str.ofString "" = ⟨#[]⟩ from by decide +kernel]
  have key : ∀ (rest : List Str) (x : Str), Str.join ⟨#[]⟩ (x :: rest) = ofL (sl x ++ rest.flatMap sl) := by
    intro rest
    induction rest with
    | nil => intro x; simp [Str.join, ofL_sl]
    | cons y r ih =>
      intro x
      show x ++ ⟨#[]⟩ ++ Str.join ⟨#[]⟩ (y :: r) = _
      rw [ih y]
      apply Str.ext'
      rw [Str.cps_append, Str.cps_append]
      apply Array.ext'
      simp [sl]
  cases ys with
  | nil => rfl
  | cons x r => rw [key r x]; simp
end Mine
end

section
open PySem PySem.W PySem.Calls PyProof.Rows PyProof.V
set_option Elab.async false
set_option maxRecDepth 100000
set_option maxHeartbeats 4000000
namespace Mine
theorem join_glue (ys : List Str) : Txt.join (Str.ofString "") ys = ofL (ys.flatMap sl) := (StrLaws.glued_eq_join _ _).trans (join_empty ys)
theorem weight_of {ys : List Str} {n : Nat} (hn : ys.length ≤ n) (hB : ∀ y ∈ ys, y.length ≤ 18) (h : n ≤ 1000) : (ys.map (·.length)).sum + ys.length ≤ 1048576 := by
  have := StrLaws.sumLen_le ys hB
  omega
theorem sg_flat (l : List Nat) : (l.map sg).flatMap sl = l := by
  induction l with
  | nil => rfl
  | cons a r ih => rw [List.map_cons, List.flatMap_cons, ih]; rfl
theorem filt_true (l : List Nat) : (l.filter fun _ => true) = l := List.filter_eq_self.mpr fun _ _ => rfl
theorem sl_len (x : Str) : (sl x).length = x.length := rfl
section
variable {w : World} {A : Around} {s : Shared} {mg mb : Str → Option Value} {E : Value → Shared → Prop}
theorem nm_loc {scope : Scope} {C : Addr} {env : Env} {x : Str} {pos : Pos} {m : Str → Option Value} {v : Value} {Q : Value → Shared → Prop} {M : Model} (hn : s.heap.Ns C m) (hv : m x = some v) (h : Q v s)
    (hk : scope.kind = .function := by rfl) (hl : (compEnv scope C env).kindOf x = some .local := by rfl) (hd : (x == ("__debug__" : Str)) = false := by decide) :
    wpAny M A (eval (.Name x pos) (compEnv scope C env)) Q E s := wpAny_Name (wpAny_loadName_local hk hl hn hv h) hd
theorem nm_glob {scope : Scope} {C : Addr} {env : Env} {x : Str} {pos : Pos} {v : Value} {Q : Value → Shared → Prop} (c : Cx w mg mb s.heap) (e : nsIn (K0 w.params) mainGlobals x = some (some v)) (h : Q v s)
    (hk : scope.kind = .function := by rfl) (hg : env.globals = mainGlobals := by rfl) (hx : (compEnv scope C env).kindOf x = some .globalImplicit := by rfl) (hd : (x == ("__debug__" : Str)) = false := by decide) :
    wpAny (model pw w) A (eval (.Name x pos) (compEnv scope C env)) Q E s :=
  Calls.Name_function_global hk hx (Calls.loadGlobal_global (env := compEnv scope C env) (by show s.heap.Ns env.globals mg; rw [hg]; exact c.T.g) (mg_of c.X c.T.g e) h) hd
theorem one_test {M : Model} {c : Expr} {g : Expr → Sem Bool} {Q : Bool → Shared → Prop} (h : wpAny M A (g c) Q E s) :
    wpAny M A (forIn [c] true fun c r => if r = true then do let ok ← g c; pure (ForInStep.yield ok) else pure (ForInStep.yield r)) Q E s := by
  rw [List.forIn_cons]
  refine wpAny_bind ?_
  rw [if_pos rfl]
  exact wpAny_bind (wpAny_mono h (fun ok s' q => wpAny_pure (wpAny_pure q)) fun _ _ q => q)
theorem no_test {M : Model} {f : Expr → Bool → Sem (ForInStep Bool)} {Q : Bool → Shared → Prop} (h : Q true s) : wpAny M A (forIn [] true f) Q E s := wpAny_pure h
theorem strs_of {f : Nat → Str} : ∀ {l : List Nat} {vs : List Value}, Paired (fun c y => ∃ u, y = .str (f c) u) l vs → StrsAre vs (l.map f)
  | _, _, .nil => .nil
  | _, _, .cons ⟨u, e⟩ t => e ▸ .cons _ u (strs_of t)
theorem laid0 {x : Str} {t u : Tok} (C : Cx w mg mb s.heap) (r : Rm A 3) (hz : x.length ≤ 1000) :
    codeAny (model pw w) A (.call (.ref 160) ⟨[.int 0 u, .str x t], []⟩) (Out s fun v _ => ∃ u, v = .str (ofL ((sl x).filter fun c => !b1mem c)) u) s := by
  refine call_plain_ret (name := Str.ofString "_law_laid") (params := fP (st 14)) (body := fB (st 14)) (scope := fS (st 14)) (binds := [(Str.ofString "hand", .int 0 u), (Str.ofString "text", .str x t)]) r.room (C.X 160 _ rfl) rfl C.T.nolimit (codeRec_of C.X (by kernel_rfl)) (by rfl) (locs rfl) (fun h₁ F => ?_) rfl rfl rfl (by decide +kernel)
  have N : News s.heap s.heap.objs.size h₁ [] := News.nil
  have hh : A.handled = none := r.hh
  have X := C.X
  have T := C.T
  change wpAny _ _ (execs [_, _, _, _, _] _) _ _ _
  repeat ((fail_if_success (with_reducible show wpAny _ _ (eval (Expr.ListComp _ _ _ _) _) _ _ _)); first | walk1 | (dsimp only; walk1))
  refine comp_str (x := x) (t := t) (fun c => !b1mem c) (fun c y => ∃ u, y = .str (sg c) u) hh (by decide +kernel) (by decide +kernel) rfl (by decide +kernel) rfl hz (fun Q q => ?_) ?_ ?_ ?_
  · exact ld F rfl q
  · intro C' c u' s₃ m₃ E' hc hn hm hk
    have C3 : Cx w mg mb s₃.heap := C.keeps fun b o e => hk b o (F.keep b o e)
    refine one_test ?_
    repeat (first
      | ((with_reducible show wpAny _ _ (eval (Expr.Name _ _) (compEnv _ _ _)) _ _ _); (first | (refine' nm_loc hn hm ?_) | (refine' nm_glob C3 ?e ?_; (case e => k_is))))
      | walk1)
    refine use_out (tb1 C3 ⟨hh, by have := r.hd; show A.depth + 1 + 1 ≤ 900; omega, by have := r.hu; show A.units + 3 + 3 * 1 ≤ 900; omega⟩) ?_
    rintro v h' tk rfl hk'
    repeat walk1
    exact ⟨h', _, rfl, hk'⟩
  · intro C' c u' s₃ m₃ E' hc hp hn hm hk
    have C3 : Cx w mg mb s₃.heap := C.keeps fun b o e => hk b o (F.keep b o e)
    exact nm_loc hn hm ⟨⟨_, rfl⟩, Keeps.rfl'⟩
  · intro D h' tk ys hD hl hp hk
    have F := Fr.ext' F hk
    have N := News.ext' N hk
    clear hk
    iterate 1 walk1
    refine join_listW hl (strs_of hp) (by decide +kernel) (weight_of (n := (sl x).length) (by rw [List.length_map]; exact List.length_filter_le _ _) (fun y hy => by obtain ⟨c, _, rfl⟩ := List.mem_map.mp hy; exact (by decide : 1 ≤ 18)) (by rw [sl_len]; exact hz)) fun t' k => ?_
    exact ⟨⟨_, rfl, _, by rw [join_glue, sg_flat]⟩, _, _, rfl, F.keep⟩
theorem laid1 {x : Str} {t u : Tok} (C : Cx w mg mb s.heap) (r : Rm A 3) (hz : x.length ≤ 1000) (hlow : ∀ c ∈ sl x, Builtin.Str.tooLong (Txt.lower (sg c)).length = false) (hfold : ∀ c ∈ sl x, (foldS c).length ≤ 18) :
    codeAny (model pw w) A (.call (.ref 160) ⟨[.int 1 u, .str x t], []⟩) (Out s fun v _ => ∃ u, v = .str (ofL ((sl x).flatMap fun c => sl (foldS c))) u) s := by
  refine call_plain_ret (name := Str.ofString "_law_laid") (params := fP (st 14)) (body := fB (st 14)) (scope := fS (st 14)) (binds := [(Str.ofString "hand", .int 1 u), (Str.ofString "text", .str x t)]) r.room (C.X 160 _ rfl) rfl C.T.nolimit (codeRec_of C.X (by kernel_rfl)) (by rfl) (locs rfl) (fun h₁ F => ?_) rfl rfl rfl (by decide +kernel)
  have N : News s.heap s.heap.objs.size h₁ [] := News.nil
  have hh : A.handled = none := r.hh
  have X := C.X
  have T := C.T
  change wpAny _ _ (execs [_, _, _, _, _] _) _ _ _
  repeat ((fail_if_success (with_reducible show wpAny _ _ (eval (Expr.ListComp _ _ _ _) _) _ _ _)); first | walk1 | (dsimp only; walk1))
  refine comp_str (x := x) (t := t) (fun _ => true) (fun c y => ∃ u, y = .str (foldS c) u) hh (by decide +kernel) (by decide +kernel) rfl (by decide +kernel) rfl hz (fun Q q => ?_) ?_ ?_ ?_
  · exact ld F rfl q
  · intro C' c u' s₃ m₃ E' hc hn hm hk
    have C3 : Cx w mg mb s₃.heap := C.keeps fun b o e => hk b o (F.keep b o e)
    exact no_test ⟨rfl, Keeps.rfl'⟩
  · intro C' c u' s₃ m₃ E' hc hp hn hm hk
    have C3 : Cx w mg mb s₃.heap := C.keeps fun b o e => hk b o (F.keep b o e)
    repeat (first
      | ((with_reducible show wpAny _ _ (eval (Expr.Name _ _) (compEnv _ _ _)) _ _ _); (first | (refine' nm_loc hn hm ?_) | (refine' nm_glob C3 ?e ?_; (case e => k_is))))
      | walk1)
    refine use_out (tb3 C3 ⟨hh, by have := r.hd; show A.depth + 1 + 1 ≤ 900; omega, by have := r.hu; show A.units + 3 + 3 * 1 ≤ 900; omega⟩ (hlow c hc)) ?_
    rintro v h' tk ⟨u3, rfl⟩ hk'
    exact ⟨⟨_, rfl⟩, h', _, rfl, hk'⟩
  · intro D h' tk ys hD hl hp hk
    have F := Fr.ext' F hk
    have N := News.ext' N hk
    clear hk
    iterate 1 walk1
    refine join_listW hl (strs_of hp) (by decide +kernel) (weight_of (n := (sl x).length) (by rw [List.length_map]; exact List.length_filter_le _ _) (fun y hy => by obtain ⟨c, hc, rfl⟩ := List.mem_map.mp hy; exact hfold c (List.mem_filter.mp hc).1) (by rw [sl_len]; exact hz)) fun t' k => ?_
    exact ⟨⟨_, rfl, _, by rw [join_glue, filt_true, List.flatMap_map]⟩, _, _, rfl, F.keep⟩
theorem laid2 {x : Str} {t u : Tok} (C : Cx w mg mb s.heap) (r : Rm A 3) (hz : x.length ≤ 1000) :
    codeAny (model pw w) A (.call (.ref 160) ⟨[.int 2 u, .str x t], []⟩) (Out s fun v _ => ∃ u, v = .str (ofL ((sl x).filter fun c => !(sg c == Str.ofString " "))) u) s := by
  refine call_plain_ret (name := Str.ofString "_law_laid") (params := fP (st 14)) (body := fB (st 14)) (scope := fS (st 14)) (binds := [(Str.ofString "hand", .int 2 u), (Str.ofString "text", .str x t)]) r.room (C.X 160 _ rfl) rfl C.T.nolimit (codeRec_of C.X (by kernel_rfl)) (by rfl) (locs rfl) (fun h₁ F => ?_) rfl rfl rfl (by decide +kernel)
  have N : News s.heap s.heap.objs.size h₁ [] := News.nil
  have hh : A.handled = none := r.hh
  have X := C.X
  have T := C.T
  change wpAny _ _ (execs [_, _, _, _, _] _) _ _ _
  repeat ((fail_if_success (with_reducible show wpAny _ _ (eval (Expr.ListComp _ _ _ _) _) _ _ _)); first | walk1 | (dsimp only; walk1))
  refine comp_str (x := x) (t := t) (fun c => !(sg c == Str.ofString " ")) (fun c y => ∃ u, y = .str (sg c) u) hh (by decide +kernel) (by decide +kernel) rfl (by decide +kernel) rfl hz (fun Q q => ?_) ?_ ?_ ?_
  · exact ld F rfl q
  · intro C' c u' s₃ m₃ E' hc hn hm hk
    have C3 : Cx w mg mb s₃.heap := C.keeps fun b o e => hk b o (F.keep b o e)
    refine one_test ?_
    repeat (first
      | ((with_reducible show wpAny _ _ (eval (Expr.Name _ _) (compEnv _ _ _)) _ _ _); (first | (refine' nm_loc hn hm ?_) | (refine' nm_glob C3 ?e ?_; (case e => k_is))))
      | walk1)
    refine use_out (c11 C3 ⟨hh, by have := r.hd; show A.depth + 1 + 1 ≤ 900; omega, by have := r.hu; show A.units + 3 + 3 * 1 ≤ 900; omega⟩) ?_
    rintro v h' tk rfl hk'
    repeat walk1
    exact ⟨h', _, rfl, hk'⟩
  · intro C' c u' s₃ m₃ E' hc hp hn hm hk
    have C3 : Cx w mg mb s₃.heap := C.keeps fun b o e => hk b o (F.keep b o e)
    exact nm_loc hn hm ⟨⟨_, rfl⟩, Keeps.rfl'⟩
  · intro D h' tk ys hD hl hp hk
    have F := Fr.ext' F hk
    have N := News.ext' N hk
    clear hk
    iterate 1 walk1
    refine join_listW hl (strs_of hp) (by decide +kernel) (weight_of (n := (sl x).length) (by rw [List.length_map]; exact List.length_filter_le _ _) (fun y hy => by obtain ⟨c, _, rfl⟩ := List.mem_map.mp hy; exact (by decide : 1 ≤ 18)) (by rw [sl_len]; exact hz)) fun t' k => ?_
    exact ⟨⟨_, rfl, _, by rw [join_glue, sg_flat]⟩, _, _, rfl, F.keep⟩
end
end Mine
end

section
open PySem PySem.W PySem.Calls PyProof.Rows PyProof.V
set_option Elab.async false
set_option maxRecDepth 100000
set_option maxHeartbeats 4000000
namespace Mine
noncomputable abbrev Pr := List Nat × List Nat
noncomputable def PairAt (h : Heap) (p : Pr) (v : Value) : Prop := ∃ b t u, v = .ref b ∧ h.IsList b #[.str (ofL p.1) t, .str (ofL p.2) u]
noncomputable def PairsAt (h : Heap) (a : Addr) (ps : List Pr) : Prop := ∃ items : Array Value, h.IsList a items ∧ Paired (PairAt h) ps items.toList
theorem PairAt.keeps {h h' : Heap} {p : Pr} {v : Value} (x : PairAt h p v) (k : ∀ b o, h.get? b = some o → h'.get? b = some o) : PairAt h' p v := by
  obtain ⟨b, t, u, e, hl⟩ := x
  exact ⟨b, t, u, e, hl.at fun o q => k _ _ q⟩
theorem PairsAt.keeps {h h' : Heap} {a : Addr} {ps : List Pr} (x : PairsAt h a ps) (k : ∀ b o, h.get? b = some o → h'.get? b = some o) : PairsAt h' a ps := by
  obtain ⟨items, hl, hp⟩ := x
  exact ⟨items, hl.at fun o q => k _ _ q, hp.mono fun _ _ y => y.keeps k⟩
theorem IsList.inj {h : Heap} {a : Addr} {x y : Array Value} (p : h.IsList a x) (q : h.IsList a y) : x = y := by
  obtain ⟨o, ho, _, n, hd⟩ := p
  obtain ⟨o', ho', _, n', hd'⟩ := q
  rw [ho] at ho'; cases ho'
  rw [hd] at hd'
  injection hd'
/-- the pairs' own lists are no list of pairs -/
theorem pair_ne {h : Heap} {a : Addr} {ps : List Pr} {items : Array Value} (hl : h.IsList a items) (hp : Paired (PairAt h) ps items.toList) {p : Pr} {b : Addr} {t u : Tok} (hb : h.IsList b #[.str (ofL p.1) t, .str (ofL p.2) u]) : b ≠ a := by
  rintro rfl
  have e := IsList.inj hl hb
  subst e
  cases hp with
  | cons x _ => obtain ⟨_, _, _, q, _⟩ := x; cases q
theorem paired_get {α β : Type} {F : α → β → Prop} : ∀ {l : List α} {k : List β}, Paired F l k → ∀ (i : Nat) (a : α), l[i]? = some a → ∃ b, k[i]? = some b ∧ F a b
  | _, _, .nil, _, _, h => by simp at h
  | _, _, .cons (b := b) h t, 0, a, e => by simp at e; subst e; exact ⟨b, by simp, h⟩
  | _, _, .cons h t, i + 1, a, e => by
    rw [List.getElem?_cons_succ] at e ⊢
    exact paired_get t i a e
section
variable {w : World} {A : Around} {s : Shared} {mg mb : Str → Option Value} {E : Value → Shared → Prop} {env : Env}
theorem unpack_pair {x y : Str} {px py pos : Pos} {k : Nat} {b : Addr} {v1 v2 : Value} {m : Str → Option Value} {Q : Unit → Shared → Prop} (hh : A.handled = none) (hl : s.heap.IsList b #[v1, v2]) (hn : s.heap.Ns env.locals m) (hb : b ≠ env.locals)
    (hx : env.kindOf x = some .local) (hy : env.kindOf y = some .local) (hp : (env.scope.kind == .class || (env.scope.kind == .module && env.locals != env.globals)) = false)
    (hQ : ∀ h' tk, h'.Ns env.locals (fun z => if z = y then some v2 else if z = x then some v1 else m z) → (∀ c o, c ≠ env.locals → s.heap.get? c = some o → h'.get? c = some o) → Q () { s with heap := h', toks := tk }) :
    wpAny (model pw w) A (assign (.Tuple [.Name x px, .Name y py] k pos) env (.ref b)) Q E s := by
  rw [arm_assign_Tuple]
  refine wpAny_bind (wpAny_standAt ?_)
  unfold unpack
  refine wpAny_bind (wpAny_holding ?_)
  obtain ⟨oL, _, _, hoL, _⟩ := id hn
  have hLlt : env.locals ≠ s.heap.objs.size := Nat.ne_of_lt (Heap.lt_size hoL)
  refine kun_itemsOf (items := #[v1, v2]) hh hl fun h₁ he₁ => ?_
  have hn₁ : h₁.Ns env.locals m := hn.at' fun o e => he₁ _ o hLlt e
  show wpAny _ _ (assignInOrder [fun v => assign (.Name x px) env v, fun v => assign (.Name y py) env v] [v1, v2]) _ _ _
  unfold assignInOrder
  refine wpAny_bind (wpAny_holding (wpAny_assign_Name (wpAny_storeName_local hx hn₁ (fun h₂ hn₂ hs₂ => ?_) hp)))
  unfold assignInOrder
  refine wpAny_bind (wpAny_holding (wpAny_assign_Name (wpAny_storeName_local hy hn₂ (fun h₃ hn₃ hs₃ => ?_) hp)))
  unfold assignInOrder
  refine wpAny_pure (hQ h₃ _ hn₃ fun c o hc e => ?_)
  exact hs₃.extBut c o hc (hs₂.extBut c o hc (he₁ c o (Nat.ne_of_lt (Heap.lt_size e)) e))
theorem letGo_list {target : Expr} {it b : Addr} {l : Addr} {i : Nat} {Q : Unit → Shared → Prop} (hit : s.heap.IsListIter it l i) (h : Q () s) : wpAny (model pw w) A (letOwnedTupleGo target (.ref it) (.ref b)) Q E s := by
  obtain ⟨o, ho, hc, hd⟩ := hit
  unfold letOwnedTupleGo
  cases target <;> first
    | exact wpAny_pure h
    | (refine wpAny_bind (wpAny_load ho ?_)
       rw [hc, hd]
       exact wpAny_pure h)
theorem take_succ_filter' {α : Type} (p : α → Bool) (l : List α) (i : Nat) (a : α) (h : l[i]? = some a) : (l.take (i + 1)).filter p = (l.take i).filter p ++ (if p a = true then [a] else []) := by
  rw [List.take_add_one, h]
  simp only [Option.toList, List.filter_append]
  congr 1
  cases hp : p a <;> simp [hp]
theorem loop_testsT {R : Result → Shared → Prop} {elt target iter : Expr} {ifs : List Expr} {scope : Scope} {pos : Pos} {it acc : Value} {env : Env} (I : Nat → Shared → Prop)
    (turn : ∀ n s, I n s → wpAny (model pw w) A (pyNext it) (fun r s₁ => match r with
      | none => R (.ok .next) s₁
      | some v => wpAny (model pw w) A (letOwnedTupleGo target it v) (fun _ s₀ => wpAny (model pw w) A (assign target env v) (fun _ s₂ =>
          wpAny (model pw w) A (forIn ifs true fun c r => if r = true then do let ok ← isTrue c env (eval c env); pure (ForInStep.yield ok) else pure (ForInStep.yield r)) (fun ok s₃ =>
            if ok = true then wpAny (model pw w) A (eval elt env) (fun x s₄ =>
              wpAny (model pw w) A (call (.builtin "list.append") [acc, x]) (fun _ s₅ => ∃ m, m < n ∧ I m s₅) (notedBy (model pw w) A env fun e s' => R (.error e) s') s₄) (notedBy (model pw w) A env fun e s' => R (.error e) s') s₃
            else ∃ m, m < n ∧ I m s₃) (notedBy (model pw w) A env fun e s' => R (.error e) s') s₂) (notedBy (model pw w) A env fun e s' => R (.error e) s') s₀) (notedBy (model pw w) A env fun e s' => R (.error e) s') s₁) (notedBy (model pw w) A env fun e s' => R (.error e) s') s)
    (n : Nat) (h : I n s) : codeAny (model pw w) A (.compLoop (.ListComp elt [⟨target, iter, ifs, 0⟩] scope pos) 0 it acc env) R s := by
  refine codeAny_loop rfl I (fun n s hI => ?_) n h
  show wpAny _ A ((compTurn (.ListComp elt [⟨target, iter, ifs, 0⟩] scope pos) 0 it acc env).onRaise (fun x => do noteFrame x env; theTreesLotGoes x)) _ _ s
  refine wpAny_noted ?_
  rw [compTurn_list]
  refine wpAny_bind (wpAny_standAt (wpAny_bind (wpAny_mono (turn n s hI) (fun r s₁ h₁ => ?_) fun _ _ q => q)))
  cases r with
  | none => exact wpAny_pure h₁
  | some v =>
    refine wpAny_bind (wpAny_mono h₁ (fun _ s₀ h₀ => ?_) fun _ _ q => q)
    refine wpAny_bind (wpAny_mono h₀ (fun _ s₂ h₂ => wpAny_bind (wpAny_mono h₂ (fun ok s₃ h₃ => ?_) fun _ _ q => q)) fun _ _ q => q)
    cases ok with
    | false => exact wpAny_pure ⟨rfl, h₃⟩
    | true =>
      exact wpAny_bind (wpAny_bind (wpAny_mono h₃ (fun x s₄ h₄ => wpAny_bind (wpAny_mono h₄ (fun _ s₅ h₅ => wpAny_pure (wpAny_pure ⟨rfl, h₅⟩)) fun _ _ q => q)) fun _ _ q => q))
/-- a comprehension over a list of pairs, «for x, y in ps» -/
theorem comp_pairs {elt iter : Expr} {x y : Str} {px py tpos : Pos} {k : Nat} {ifs : List Expr} {scope : Scope} {pos : Pos} {Q : Value → Shared → Prop} {a : Addr} {ps : List Pr} (p : Pr → Bool) (F : Pr → Value → Prop)
    (hh : A.handled = none) (hfree : ∀ y ∈ scope.names, y.2 ≠ .free) (hcell : ∀ y ∈ scope.names, y.2 ≠ .cell) (hkind : scope.kind = .function)
    (hnames : ∀ y ∈ scope.names, y.2 = .local → scope.names.lookup y.1 = some .local) (hx : scope.names.lookup x = some .local) (hy : scope.names.lookup y = some .local) (hxy : (x == y) = false) (hz : ps.length ≤ 1000)
    (hps : PairsAt s.heap a ps)
    (hi : ∀ Q : Value → Shared → Prop, Q (.ref a) s → wpAny (model pw w) A (eval iter env) Q E s)
    (ht : ∀ C q t u s₃ m₃ E', q ∈ ps → s₃.heap.Ns C m₃ → m₃ x = some (.str (ofL q.1) t) → m₃ y = some (.str (ofL q.2) u) → (∀ b o, s.heap.get? b = some o → s₃.heap.get? b = some o) →
      wpAny (model pw w) A (forIn ifs true fun c r => if r = true then do let ok ← isTrue c (compEnv scope C env) (eval c (compEnv scope C env)); pure (ForInStep.yield ok) else pure (ForInStep.yield r))
        (fun ok s₄ => ok = p q ∧ Keeps s₃ s₄) E' s₃)
    (he : ∀ C q t u s₃ m₃ E', q ∈ ps → p q = true → s₃.heap.Ns C m₃ → m₃ x = some (.str (ofL q.1) t) → m₃ y = some (.str (ofL q.2) u) → (∀ b o, s.heap.get? b = some o → s₃.heap.get? b = some o) →
      wpAny (model pw w) A (eval elt (compEnv scope C env)) (fun z s₄ => F q z ∧ Keeps s₃ s₄) E' s₃)
    (hQ : ∀ D h' tk ys, s.heap.get? D = none → h'.IsList D ys → Paired F (ps.filter p) ys.toList → (∀ b o, s.heap.get? b = some o → h'.get? b = some o) → Q (.ref D) { s with heap := h', toks := tk })
    (hs : ∀ x, foldedSetIterable iter env x = pure x := by intro _; rfl) :
    wpAny (model pw w) A (eval (.ListComp elt [⟨.Tuple [.Name x px, .Name y py] k tpos, iter, ifs, 0⟩] scope pos) env) Q E s := by
  obtain ⟨items, hl, hp⟩ := hps
  refine wpAny_ListComp hfree hkind hnames (hi _ ?_) hs
  refine wpAny_pyIter_list hl (wpAny_newObj_type (hd := by size_fits) (wpAny_newFunctionEnv hcell (by intro y hy; simp at hy) (fun h₁ hns₁ hsb₁ => ?_) hkind))
  dsimp only at hns₁ hsb₁ ⊢
  obtain ⟨ol, hol, hol'⟩ := id hl
  have hax : a < s.heap.objs.size := Heap.lt_size hol
  generalize hH1 : s.heap.push { cls := .type "list_iterator", data := .fields #[.ref a, .int 0 0] } = H1 at hns₁ hsb₁ ⊢
  have hD : H1.objs.size = s.heap.objs.size + 1 := by rw [← hH1, Heap.size_push]
  generalize hH2 : H1.push { cls := .type "list", dict := none, data := .seq ([] : List Value).toArray } = H2 at hns₁ hsb₁ ⊢
  have hC : H2.objs.size = s.heap.objs.size + 2 := by rw [← hH2, Heap.size_push, hD]
  have hDI : H1.objs.size ≠ s.heap.objs.size := by rw [hD]; exact Nat.succ_ne_self _
  have hDC : H1.objs.size ≠ H2.objs.size := by rw [hD, hC]; exact Nat.ne_of_lt (Nat.lt_succ_self _)
  have hIC : s.heap.objs.size ≠ H2.objs.size := by rw [hC]; exact Nat.ne_of_lt (Nat.lt_succ_of_lt (Nat.lt_succ_self _))
  have below : ∀ b, b < s.heap.objs.size → b ≠ H2.objs.size ∧ b ≠ s.heap.objs.size ∧ b ≠ H1.objs.size := fun b hb =>
    ⟨by rw [hC]; exact Nat.ne_of_lt (Nat.lt_succ_of_lt (Nat.lt_succ_of_lt hb)), Nat.ne_of_lt hb, by rw [hD]; exact Nat.ne_of_lt (Nat.lt_succ_of_lt hb)⟩
  have old : ∀ b o, s.heap.get? b = some o → h₁.get? b = some o := fun b o e =>
    hsb₁.extBut b o (below b (Heap.lt_size e)).1 (Heap.get?_push_of_some _ (hH2 ▸ Heap.get?_push_of_some _ (hH1 ▸ Heap.get?_push_of_some _ e)))
  have hit : h₁.IsListIter s.heap.objs.size a 0 :=
    ⟨_, hsb₁.extBut _ _ hIC (Heap.get?_push_of_some _ (hH2 ▸ Heap.get?_push_of_some _ (hH1 ▸ Heap.get?_push_size _ rfl))), rfl, rfl⟩
  have hacc : h₁.IsList H1.objs.size #[] := ⟨_, hsb₁.extBut _ _ hDC (Heap.get?_push_of_some _ (hH2 ▸ Heap.get?_push_size _ rfl)), rfl, _, rfl⟩
  have hnew : s.heap.get? H1.objs.size = none := by
    cases e : s.heap.get? H1.objs.size with
    | none => rfl
    | some o' => have := Heap.lt_size e; rw [hD] at this; exact absurd this (Nat.not_lt.mpr (Nat.le_succ _))
  have hlen : ps.length = items.size := by rw [hp.length]; simp
  have loop : ∀ s₂ : Shared, s₂ = { s with heap := h₁, toks := s.toks + ([] : List (Str × Value)).length } →
      codeAny (model pw w) A (.compLoop (.ListComp elt [⟨.Tuple [.Name x px, .Name y py] k tpos, iter, ifs, 0⟩] scope pos) 0 (.ref s.heap.objs.size) (.ref H1.objs.size) (compEnv scope H2.objs.size env))
        (fun r s' => ∃ m, s'.heap.Ns H2.objs.size m ∧ ∀ h', Heap.SameBut H2.objs.size s'.heap h' →
          match r with | .ok _ => Q (.ref H1.objs.size) { s' with heap := h' } | .error x => wpAny (model pw w) A (passOn "comprehension.variables-let-go" x (compEnv scope H2.objs.size env)) Q E { s' with heap := h' }) s₂ := by
    rintro s₂ rfl
    refine loop_testsT (A := A)
      (fun n s' => ∃ h' tk m' ys i, s' = { s with heap := h', toks := tk } ∧ h'.IsListIter s.heap.objs.size a i ∧ h'.IsList H1.objs.size ys ∧ h'.Ns H2.objs.size m' ∧
        Paired F ((ps.take i).filter p) ys.toList ∧ i ≤ items.size ∧ n = items.size + 1 - i ∧ ∀ b o, s.heap.get? b = some o → h'.get? b = some o) ?_ (items.size + 1)
      ⟨h₁, _, _, #[], 0, rfl, hit, hacc, hns₁, by simpa using Paired.nil, Nat.zero_le _, rfl, old⟩
    rintro n s' ⟨H, tk, m', ys, i, rfl, hit', hacc', hn', hF, hi', rfl, hk⟩
    have hl' : H.IsList a items := hl.at fun o e => hk _ _ e
    cases hv : items[i]? with
    | none =>
      have hle : items.toList.length ≤ i := by simpa using hv
      refine wpAny_pyNext_list_end hh hit' hl' hv fun h₂ he₂ => ?_
      have hk₂ : ∀ b o, s.heap.get? b = some o → h₂.get? b = some o := fun b o e => he₂ b o (below b (Heap.lt_size e)).2.1 (hk b o e)
      rw [List.take_of_length_le (by rw [hlen]; simpa using hle)] at hF
      refine ⟨m', hn'.extBut he₂ (Ne.symm hIC), fun h'' hs'' => hQ _ h'' tk ys hnew ((hacc'.extBut he₂ hDI).extBut hs''.extBut hDC) hF fun b o e => hs''.extBut b o (below b (Heap.lt_size e)).1 (hk₂ b o e)⟩
    | some v =>
      have hlt : i < items.size := (Array.getElem?_eq_some_iff.mp hv).1
      obtain ⟨q, hq⟩ : ∃ q, ps[i]? = some q := ⟨ps[i]'(by omega), List.getElem?_eq_getElem (by omega)⟩
      obtain ⟨v', hv', b, t, u, e1, hb⟩ := paired_get hp i q hq
      have : v' = v := by
        have : items.toList[i]? = some v := by simpa using hv
        rw [this] at hv'; exact (Option.some.inj hv').symm
      subst this
      subst e1
      obtain ⟨ob, hob, _⟩ := id hb
      have hbl := below b (Heap.lt_size hob)
      refine wpAny_pyNext_list_item hit' hl' hv fun h₂ hit₂ hs₂ => ?_
      have hk₂ : ∀ b o, s.heap.get? b = some o → h₂.get? b = some o := fun b o e => hs₂.extBut b o (below b (Heap.lt_size e)).2.1 (hk b o e)
      refine letGo_list hit₂ ?_
      refine unpack_pair (env := compEnv scope H2.objs.size env) hh (hb.at fun o e => hk₂ _ _ e) (hn'.sameBut hs₂ (Ne.symm hIC)) hbl.1 hx hy (by simp [compEnv, hkind]) fun h₃ tk₃ hn₃ he₃ => ?_
      have hk₃ : ∀ b o, s.heap.get? b = some o → h₃.get? b = some o := fun b o e => he₃ b o (below b (Heap.lt_size e)).1 (hk₂ b o e)
      have hmem : q ∈ ps := List.mem_of_getElem? hq
      have hxy' : x ≠ y := fun e => by subst e; simp at hxy
      refine wpAny_mono (ht _ q t u { s with heap := h₃, toks := tk₃ } _ _ hmem hn₃ (by simp [hxy']) (by simp) hk₃) (fun ok s₄ h₄ => ?_) fun _ _ e => e
      obtain ⟨rfl, h₄, tk₄, rfl, hk₄⟩ := h₄
      have hit₄ : h₄.IsListIter s.heap.objs.size a (i + 1) := (hit₂.extBut (fun c o hc e => he₃ c o hc e) hIC).at fun o e => hk₄ _ o e
      have hacc₄ : h₄.IsList H1.objs.size ys := ((hacc'.extBut hs₂.extBut hDI).extBut (fun c o hc e => he₃ c o hc e) hDC).at fun o e => hk₄ _ o e
      have hn₄ := hn₃.keeps hk₄
      cases hpv : p q with
      | false =>
        simp only [Bool.false_eq_true, if_false]
        refine ⟨items.size + 1 - (i + 1), by omega, h₄, tk₄, _, ys, i + 1, rfl, hit₄, hacc₄, hn₄, ?_, hlt, rfl, fun b o e => hk₄ b o (hk₃ b o e)⟩
        rw [take_succ_filter' p _ i q hq, hpv]
        simpa using hF
      | true =>
        simp only [if_true]
        refine wpAny_mono (he _ q t u { s with heap := h₄, toks := tk₄ } _ _ hmem hpv hn₄ (by simp [hxy']) (by simp) fun b o e => hk₄ b o (hk₃ b o e)) (fun z s₅ h₅ => ?_) fun _ _ e => e
        obtain ⟨hFz, h₅, tk₅, rfl, hk₅⟩ := h₅
        have hys : ys.size ≤ sizeLine := by
          have e1 := hF.length
          have e2 : ((ps.take i).filter p).length ≤ (ps.take i).length := List.length_filter_le _ _
          have e3 : (ps.take i).length ≤ ps.length := by rw [List.length_take]; omega
          have e4 : ys.toList.length = ys.size := by simp
          rw [sizeLine_eq]; omega
        refine wpAny_list_append (hsz := hys) (hacc₄.at fun o e => hk₅ _ o e) fun h₆ hl₆ hs₆ => ?_
        refine ⟨items.size + 1 - (i + 1), by omega, h₆, tk₅, _, ys.push z, i + 1, rfl, (hit₄.at fun o e => hk₅ _ o e).extBut hs₆.extBut (Ne.symm hDI), hl₆, (hn₄.keeps hk₅).sameBut hs₆ (Ne.symm hDC), ?_, hlt, rfl,
          fun b o e => hs₆.extBut b o (below b (Heap.lt_size e)).2.2 (hk₅ b o (hk₄ b o (hk₃ b o e)))⟩
        rw [take_succ_filter' p _ i q hq, hpv]
        simpa using Paired.snoc hF hFz
  exact codeAny_compStart_list (loop _ rfl) (wpAny_pyIter_listiter hit (loop _ rfl))
end
end Mine
end

section
open PySem PySem.W PySem.Calls PyProof.Rows PyProof.V
set_option Elab.async false
set_option maxRecDepth 100000
set_option maxHeartbeats 4000000
namespace Mine
theorem list_ne_ns {h : Heap} {a L : Addr} {xs : Array Value} {m : Str → Option Value} (hl : h.IsList a xs) (hn : h.Ns L m) : a ≠ L := by
  rintro rfl
  obtain ⟨o, ho, _, n, hd⟩ := hl
  obtain ⟨o', es, ep, ho', hd', _⟩ := hn
  rw [ho] at ho'; cases ho'
  rw [hd] at hd'; cases hd'
theorem iter_ne_ns {h : Heap} {a L l : Addr} {i : Nat} {m : Str → Option Value} (hl : h.IsListIter a l i) (hn : h.Ns L m) : a ≠ L := by
  rintro rfl
  obtain ⟨o, ho, _, hd⟩ := hl
  obtain ⟨o', es, ep, ho', hd', _⟩ := hn
  rw [ho] at ho'; cases ho'
  rw [hd] at hd'; cases hd'
theorem list_ne_iter {h : Heap} {a b l : Addr} {i : Nat} {xs : Array Value} (hl : h.IsList a xs) (hn : h.IsListIter b l i) : b ≠ a := by
  rintro rfl
  obtain ⟨o, ho, _, n, hd⟩ := hl
  obtain ⟨o', ho', _, hd'⟩ := hn
  rw [ho] at ho'; cases ho'
  rw [hd] at hd'; cases hd'
/-- all objects but one namespace and the iterators stand -/
noncomputable def KeepL (L : Addr) (h h' : Heap) : Prop := ∀ b o, b ≠ L → o.cls ≠ .type "list_iterator" → h.get? b = some o → h'.get? b = some o
theorem KeepL.list {L : Addr} {h h' : Heap} {m : Str → Option Value} (k : KeepL L h h') (hn : h.Ns L m) {a : Addr} {xs : Array Value} (hl : h.IsList a xs) : h'.IsList a xs := by
  obtain ⟨o, ho, hc, r⟩ := id hl
  exact ⟨o, k a o (list_ne_ns hl hn) (by rw [hc]; decide) ho, hc, r⟩
theorem PairsAt.keepsL {h h' : Heap} {a L : Addr} {m : Str → Option Value} {ps : List Pr} (x : PairsAt h a ps) (hn : h.Ns L m) (k : KeepL L h h') : PairsAt h' a ps := by
  obtain ⟨items, hl, hp⟩ := x
  refine ⟨items, k.list hn hl, hp.mono fun p v y => ?_⟩
  obtain ⟨b, t, u, e, hb⟩ := y
  exact ⟨b, t, u, e, k.list hn hb⟩
theorem PairsAt.append {h h' : Heap} {a : Addr} {ps : List Pr} {p : Pr} {v : Value} {items : Array Value} (hl : h.IsList a items) (hp : Paired (PairAt h) ps items.toList) (hv : PairAt h p v) (hl' : h'.IsList a (items.push v)) (hs : Heap.SameBut a h h') : PairsAt h' a (ps ++ [p]) := by
  have up : ∀ q u, PairAt h q u → PairAt h' q u := fun q u y => by
    obtain ⟨b, t, u', e, hb⟩ := y
    exact ⟨b, t, u', e, hb.extBut hs.extBut (pair_ne hl hp hb)⟩
  refine ⟨_, hl', ?_⟩
  rw [Array.toList_push]
  exact Paired.snoc (hp.mono up) (up _ _ hv)
section
variable {w : World} {A : Around} {s : Shared} {mg mb : Str → Option Value} {E : Value → Shared → Prop} {h₀ : Heap} {L a : Addr} {m : Str → Option Value} {nm : Str} {scope : Scope} {cd : Value} {fa : Addr}
/-- a loop «for x, y in ps» -/
theorem for_pairs {iter : Expr} {body : List Stmt} {x y : Str} {px py tpos pos : Pos} {k : Nat} {Q : Flow → Shared → Prop} {ps : List Pr} (J : Nat → (Str → Option Value) → Heap → Prop)
    (hh : A.handled = none) (F : Fr h₀ L s.heap m) (hps : PairsAt h₀ a ps) (hkind : scope.kind = .function)
    (hx : (envOf nm scope L fa cd).kindOf x = some .local) (hy : (envOf nm scope L fa cd).kindOf y = some .local) (hxy : (x == y) = false)
    (hi : ∀ Q : Value → Shared → Prop, Q (.ref a) s → wpAny (model pw w) A (eval iter (envOf nm scope L fa cd)) Q E s)
    (Jk : ∀ i m h h', J i m h → h.Ns L m → KeepL L h h' → J i m h')
    (Jm : ∀ i m m' h, (∀ z, z ≠ x → z ≠ y → m' z = m z) → J i m h → J i m' h)
    (h0 : J 0 m s.heap)
    (step : ∀ I i q t u h' tk m' E', ps[i]? = some q → Fr h₀ L h' m' → m' x = some (.str (ofL q.1) t) → m' y = some (.str (ofL q.2) u) → J i m' h' → h'.IsListIter I a (i + 1) →
      wpAny (model pw w) A (execs body (envOf nm scope L fa cd)) (fun f s₃ => match f with
        | .next | .cont => ∃ h'' tk'' m'', s₃ = { s with heap := h'', toks := tk'' } ∧ Fr h₀ L h'' m'' ∧ J (i + 1) m'' h'' ∧ h''.IsListIter I a (i + 1)
        | .brk => Q .next s₃
        | .ret v => Q (.ret v) s₃) E' { s with heap := h', toks := tk })
    (done : ∀ h' tk m', Fr h₀ L h' m' → J ps.length m' h' → Q .next { s with heap := h', toks := tk })
    (hs : ∀ x, foldedSetIterable iter (envOf nm scope L fa cd) x = pure x := by intro _; rfl) :
    wpAny (model pw w) A (exec (.For (.Tuple [.Name x px, .Name y py] k tpos) iter body [] pos) (envOf nm scope L fa cd)) Q E s := by
  obtain ⟨items, hl₀, hp₀⟩ := hps
  have hl : s.heap.IsList a items := hl₀.at fun o e => F.keep _ _ e
  have hlen : ps.length = items.size := by rw [hp₀.length]; simp
  refine wpAny_For (hi _ (wpAny_pyIter_list hl ?_)) hs
  have hit : (s.heap.push { cls := .type "list_iterator", data := .fields #[.ref a, .int 0 0] }).IsListIter s.heap.objs.size a 0 := ⟨_, Heap.get?_push_size _ rfl, rfl, rfl⟩
  have hxy' : x ≠ y := fun e => by subst e; simp at hxy
  have hpk : ((envOf nm scope L fa cd).scope.kind == .class || ((envOf nm scope L fa cd).scope.kind == .module && (envOf nm scope L fa cd).locals != (envOf nm scope L fa cd).globals)) = false := by
    show (scope.kind == .class || (scope.kind == .module && L != mainGlobals)) = false
    rw [hkind]; rfl
  refine codeAny_forLoop_any
    (fun n s' => ∃ h' tk m' i, s' = { s with heap := h', toks := tk } ∧ Fr h₀ L h' m' ∧ J i m' h' ∧ h'.IsListIter s.heap.objs.size a i ∧ i ≤ items.size ∧ n = items.size + 1 - i) ?_ (items.size + 1)
    ⟨_, _, m, 0, rfl, F.push _, Jk 0 m _ _ h0 F.ns (fun b o _ _ e => Heap.get?_push_of_some _ e), hit, Nat.zero_le _, rfl⟩
  rintro n s' ⟨H, tk, m', i, rfl, F', J', hit', hi', rfl⟩
  have hl' : H.IsList a items := hl₀.at fun o e => F'.keep _ _ e
  have hIL : s.heap.objs.size ≠ L := iter_ne_ns hit' F'.ns
  have noI : ∀ b o, o.cls ≠ .type "list_iterator" → H.get? b = some o → b ≠ s.heap.objs.size := fun b o hc e q => by
    obtain ⟨o', ho', hc', _⟩ := hit'
    rw [q, ho'] at e; cases e; exact hc hc'
  have hI₀ : ∀ b o, h₀.get? b = some o → b ≠ s.heap.objs.size := fun b o e => Nat.ne_of_lt (Heap.lt_size (F.keep b o e))
  cases hv : items[i]? with
  | none =>
    have hle : items.size ≤ i := by simpa using hv
    refine wpAny_pyNext_list_end hh hit' hl' hv fun h₂ he₂ => ?_
    have hii : i = ps.length := by omega
    subst hii
    refine wpAny_pure (done h₂ tk m' ⟨F'.ns.extBut he₂ (Ne.symm hIL), fun b o e => he₂ b o (hI₀ b o e) (F'.keep b o e), F'.above⟩ ?_)
    exact Jk _ _ _ _ J' F'.ns fun b o _ hc e => he₂ b o (noI b o hc e) e
  | some v =>
    have hlt : i < items.size := (Array.getElem?_eq_some_iff.mp hv).1
    obtain ⟨q, hq⟩ : ∃ q, ps[i]? = some q := ⟨ps[i]'(by omega), List.getElem?_eq_getElem (by omega)⟩
    obtain ⟨v', hv', b, t, u, e1, hb⟩ := paired_get hp₀ i q hq
    have : v' = v := by
      have : items.toList[i]? = some v := by simpa using hv
      rw [this] at hv'; exact (Option.some.inj hv').symm
    subst this
    subst e1
    refine wpAny_pyNext_list_item hit' hl' hv fun h₂ hit₂ hs₂ => ?_
    refine letGo_list hit₂ ?_
    have hn₂ : h₂.Ns L m' := F'.ns.sameBut hs₂ (Ne.symm hIL)
    have hb' : H.IsList b _ := hb.at fun o e => F'.keep _ _ e
    have hb₂ := hb'.extBut hs₂.extBut (list_ne_iter hb' hit').symm
    refine unpack_pair (env := envOf nm scope L fa cd) hh hb₂ hn₂ (list_ne_ns hb₂ hn₂) hx hy hpk fun h₃ tk₃ hn₃ he₃ => ?_
    have F₃ : Fr h₀ L h₃ _ := ⟨hn₃, fun c o e => he₃ c o (Nat.ne_of_lt (Nat.lt_of_lt_of_le (Heap.lt_size e) F'.above)) (hs₂.extBut c o (hI₀ c o e) (F'.keep c o e)), F'.above⟩
    have J₃ := Jk i m' H h₃ J' F'.ns fun c o hc hi e => he₃ c o hc (hs₂.extBut c o (noI c o hi e) e)
    have J₃' := Jm i m' (fun z => if z = y then some (.str (ofL q.2) u) else if z = x then some (.str (ofL q.1) t) else m' z) h₃ (fun z h1 h2 => by simp [h1, h2]) J₃
    refine wpAny_mono (step s.heap.objs.size i q t u h₃ tk₃ _ _ hq F₃ (by simp [hxy']) (by simp) J₃' (hit₂.extBut (fun c o hc e => he₃ c o hc e) hIL)) (fun f s₄ h₄ => ?_) fun _ _ e => e
    have nx : (∃ h'' tk'' m'', s₄ = { s with heap := h'', toks := tk'' } ∧ Fr h₀ L h'' m'' ∧ J (i + 1) m'' h'' ∧ h''.IsListIter s.heap.objs.size a (i + 1)) →
        ∃ mm, mm < items.size + 1 - i ∧ ∃ h' tk m' i, s₄ = { s with heap := h', toks := tk } ∧ Fr h₀ L h' m' ∧ J i m' h' ∧ h'.IsListIter s.heap.objs.size a i ∧ i ≤ items.size ∧ mm = items.size + 1 - i := by
      rintro ⟨h'', tk'', m'', e, F4, J4, I4⟩
      exact ⟨items.size + 1 - (i + 1), by omega, h'', tk'', m'', i + 1, e, F4, J4, I4, hlt, rfl⟩
    cases f with
    | next => exact nx h₄
    | cont => exact nx h₄
    | brk => exact h₄
    | ret v => exact h₄
end
end Mine
end

section
open PySem PySem.W PySem.Calls PyProof.Rows PyProof.V
set_option Elab.async false
set_option maxRecDepth 100000
set_option maxHeartbeats 4000000
namespace Mine
/-- a value that was made now: a pair of texts -/
noncomputable def PairNew (p : Pr) (y : Value) (s s' : Shared) : Prop := ∃ b t u, y = .ref b ∧ s.heap.objs.size ≤ b ∧ s'.heap.IsList b #[.str (ofL p.1) t, .str (ofL p.2) u] ∧ Keeps s s'
/-- a pair of texts behind a place -/
noncomputable def PairUp (C : Addr) (h : Heap) (p : Pr) (y : Value) : Prop := ∃ b t u, y = .ref b ∧ C < b ∧ h.IsList b #[.str (ofL p.1) t, .str (ofL p.2) u]
theorem PairUp.ext {C : Addr} {h h' : Heap} {p : Pr} {y : Value} (x : PairUp C h p y) (k : ∀ b o, C < b → h.get? b = some o → h'.get? b = some o) : PairUp C h' p y := by
  obtain ⟨b, t, u, e, hn, hl⟩ := x
  exact ⟨b, t, u, e, hn, hl.at fun o q => k b o hn q⟩
theorem PairUp.at {C : Addr} {h : Heap} {p : Pr} {y : Value} (x : PairUp C h p y) : PairAt h p y := by
  obtain ⟨b, t, u, e, hn, hl⟩ := x
  exact ⟨b, t, u, e, hl⟩
section
variable {w : World} {A : Around} {s : Shared} {E : Value → Shared → Prop} {R : Result → Shared → Prop} {env : Env}
theorem loop_new {elt iter : Expr} {x : Str} {px : Pos} {scope : Scope} {pos : Pos} {I D : Addr} {fp wr : List Addr} {n : Nat} {P : Nat → Value → Prop} {St : Nat → Heap → Prop}
    {cenv : Env} {m : Str → Option Value} (W : Walks pw w A I fp wr n P St) (g : Value → Pr)
    (hx : cenv.kindOf x = some .local) (hp : (cenv.scope.kind == .class || (cenv.scope.kind == .module && cenv.locals != cenv.globals)) = false)
    (hDC : D ≠ cenv.locals) (hDf : D ∉ fp) (hCf : cenv.locals ∉ fp) (hfp : ∀ b ∈ fp, b < cenv.locals) (hDl : D < cenv.locals)
    (hst : St 0 s.heap) (hacc : s.heap.PlainList D #[]) (hn : s.heap.Ns cenv.locals m)
    (helt : ∀ i v s₂ m₂, P i v → s₂.heap.Ns cenv.locals m₂ → m₂ x = some v → (∀ b o, b ≠ cenv.locals → b ∉ wr → b ≠ D → s.heap.get? b = some o → s₂.heap.get? b = some o) →
      wpAny (model pw w) A (eval elt cenv) (fun y s₃ => PairNew (g v) y s₂ s₃) (notedBy (model pw w) A cenv fun e s' => R (.error e) s') s₂)
    (hR : ∀ h' tk m' ys (vs : List Value), h'.Ns cenv.locals m' → h'.IsList D ys → vs.length = n → (∀ j v, vs[j]? = some v → P j v) → Paired (PairUp cenv.locals h') (vs.map g) ys.toList →
      (∀ b o, b ≠ cenv.locals → b ∉ wr → b ≠ D → s.heap.get? b = some o → h'.get? b = some o) → R (.ok .next) { s with heap := h', toks := tk })
    (hsz : n ≤ sizeLine) :
    codeAny (model pw w) A (.compLoop (.ListComp elt [⟨.Name x px, iter, [], 0⟩] scope pos) 0 (.ref I) (.ref D) cenv) R s := by
  have off : ∀ b, cenv.locals < b → b ≠ cenv.locals ∧ b ∉ fp ∧ b ≠ D := fun b e =>
    ⟨Ne.symm (Nat.ne_of_lt e), fun hb => Nat.lt_irrefl _ (Nat.lt_trans e (hfp b hb)), Ne.symm (Nat.ne_of_lt (Nat.lt_trans hDl e))⟩
  refine codeAny_compLoop_tests
    (fun k s' => ∃ h' tk m' ys, ∃ vs : List Value, s' = { s with heap := h', toks := tk } ∧ St vs.length h' ∧ h'.PlainList D ys ∧ h'.Ns cenv.locals m' ∧ (∀ j v, vs[j]? = some v → P j v) ∧
      Paired (PairUp cenv.locals h') (vs.map g) ys.toList ∧ vs.length ≤ n ∧ k = n + 1 - vs.length ∧
      (∀ b o, b ≠ cenv.locals → b ∉ wr → b ≠ D → s.heap.get? b = some o → h'.get? b = some o)) ?_ (n + 1)
    ⟨s.heap, s.toks, m, #[], [], rfl, hst, hacc, hn, by simp, by simpa using Paired.nil, Nat.zero_le _, rfl, fun _ _ _ _ _ e => e⟩
  rintro k s' ⟨H, tk, m', ys, vs, rfl, hst', hacc', hn', hP, hF, hi, rfl, hk⟩
  have hCw : cenv.locals ∉ wr := fun h => hCf (W.sub _ h)
  have hDw : D ∉ wr := fun h => hDf (W.sub _ h)
  by_cases hlt : vs.length < n
  · refine W.item vs.length _ _ _ hlt hst' fun v h₁ tk₁ hPv hst₁ hk₁ => ?_
    refine wpAny_assign_Name (wpAny_storeName_local hx (hn'.at' fun o e => hk₁ _ o hCw e) (fun h₂ hn₂ hs₂ => ?_) hp)
    have up₂ : ∀ b o, b ≠ cenv.locals → b ∉ wr → H.get? b = some o → h₂.get? b = some o := fun b o hbC hbf e => hs₂.extBut b o hbC (hk₁ b o hbf e)
    have hst₂ : St (vs.length + 1) h₂ := W.frame _ _ _ hst₁ fun b hb o e => hs₂.extBut b o (fun h => hCf (h ▸ hb)) e
    have hP' : ∀ j u, (vs ++ [v])[j]? = some u → P j u := fun j u hj => by
      rcases Nat.lt_trichotomy j vs.length with h | h | h
      · exact hP j u (by rwa [List.getElem?_append_left h] at hj)
      · subst h; simp at hj; subst hj; exact hPv
      · have hnone : (vs ++ [v])[j]? = none := List.getElem?_eq_none (by rw [List.length_append, List.length_singleton]; omega)
        rw [hnone] at hj; cases hj
    refine wpAny_tests_nil ?_
    simp only [if_true]
    refine wpAny_mono (helt vs.length v _ _ hPv hn₂ (by simp) (fun b o hbC hbf hbD e => up₂ b o hbC hbf (hk b o hbC hbf hbD e))) (fun y s₄ h₄ => ?_) fun _ _ e => e
    obtain ⟨b, t, u, rfl, hbn, hbl, h₄, tk₄, rfl, hk₄⟩ := h₄
    have hys : ys.size ≤ sizeLine := by
      have e1 := hF.length
      have e4 : ys.toList.length = ys.size := by simp
      rw [List.length_map] at e1
      omega
    refine wpAny_list_append_plain (hsz := hys) ((hacc'.at fun o e => up₂ D o hDC hDw e).at fun o e => hk₄ _ o e) fun h₅ hl₅ hs₅ => ?_
    have hbC : cenv.locals < b := by
      obtain ⟨oC, _, _, hoC, _⟩ := id hn₂
      exact Nat.lt_of_lt_of_le (Heap.lt_size hoC) hbn
    have up₅ : ∀ b o, cenv.locals < b → H.get? b = some o → h₅.get? b = some o := fun b o hb e =>
      hs₅.extBut b o (off b hb).2.2 (hk₄ b o (up₂ b o (off b hb).1 (fun h => (off b hb).2.1 (W.sub _ h)) e))
    refine ⟨n + 1 - (vs.length + 1), by omega, h₅, tk₄, _, ys.push (.ref b), vs ++ [v], rfl, ?_, hl₅, (hn₂.keeps hk₄).sameBut hs₅ (Ne.symm hDC), hP', ?_, (by rw [List.length_append, List.length_singleton]; exact hlt), (by rw [List.length_append, List.length_singleton]),
        fun b o hbC hbf hbD e => hs₅.extBut b o hbD (hk₄ b o (up₂ b o hbC hbf (hk b o hbC hbf hbD e)))⟩
    · have := W.frame _ _ h₅ hst₂ fun b hb o e => hs₅.extBut b o (fun h => hDf (h ▸ hb)) (hk₄ b o e)
      simpa using this
    · rw [List.map_append, Array.toList_push]
      exact Paired.snoc (hF.mono fun _ _ q => q.ext up₅) ⟨b, t, u, rfl, hbC, hbl.extBut hs₅.extBut (off b hbC).2.2⟩
  · have hin : vs.length = n := by omega
    refine W.done _ _ _ (hin ▸ hst') fun h₁ tk₁ hk₁ => ?_
    exact hR h₁ tk₁ m' ys vs (hn'.at' fun o e => hk₁ _ o hCw e) (hacc'.at fun o e => hk₁ _ o hDw e).isList hin hP (hF.mono fun _ _ q => q.ext fun b o hb e => hk₁ b o (fun h => (off b hb).2.1 (W.sub _ h)) e) fun b o hbC hbf hbD e => hk₁ b o hbf (hk b o hbC hbf hbD e)
theorem comp_new {elt iter : Expr} {x : Str} {px : Pos} {scope : Scope} {pos : Pos} {Q : Value → Shared → Prop} (g : Value → Pr)
    (hfree : ∀ y ∈ scope.names, y.2 ≠ .free) (hcell : ∀ y ∈ scope.names, y.2 ≠ .cell) (hkind : scope.kind = .function)
    (hnames : ∀ y ∈ scope.names, y.2 = .local → scope.names.lookup y.1 = some .local) (hx : scope.names.lookup x = some .local)
    (h : wpAny (model pw w) A (eval iter env) (fun xv s₁ => wpAny (model pw w) A (pyIter xv) (fun it s₂ => ∃ I fp wr n P St, it = .ref I ∧ Walks pw w A I fp wr n P St ∧ n ≤ sizeLine ∧ St 0 s₂.heap ∧ (∀ b ∈ fp, b < s₂.heap.objs.size) ∧
      (∀ C i v s₃ m₃ E', P i v → s₃.heap.Ns C m₃ → m₃ x = some v → (∀ b o, b ∉ wr → s₂.heap.get? b = some o → s₃.heap.get? b = some o) → wpAny (model pw w) A (eval elt (compEnv scope C env)) (fun y s₄ => PairNew (g v) y s₃ s₄) E' s₃) ∧
      (∀ D h' tk (vs : List Value), s₂.heap.get? D = none → PairsAt h' D (vs.map g) → vs.length = n → (∀ j v, vs[j]? = some v → P j v) →
        (∀ b o, b ∉ wr → s₂.heap.get? b = some o → h'.get? b = some o) → Q (.ref D) { s₂ with heap := h', toks := tk })) E s₁) E s)
    (hs : ∀ x, foldedSetIterable iter env x = pure x := by intro _; rfl) :
    wpAny (model pw w) A (eval (.ListComp elt [⟨.Name x px, iter, [], 0⟩] scope pos) env) Q E s := by
  refine wpAny_ListComp hfree hkind hnames (wpAny_mono h (fun xv s₁ h₁ => wpAny_mono h₁ (fun it s₂ h₂ => ?_) fun _ _ e => e) fun _ _ e => e) hs
  obtain ⟨I, fp, wr, n, P, St, rfl, W, hsz, hst, hfp, hq, hQ⟩ := h₂
  refine wpAny_newObj_type (wpAny_newFunctionEnv hcell (by intro y hy; simp at hy) (fun h₁ hns₁ hsb₁ => ?_) hkind)
  dsimp only at hns₁ hsb₁ ⊢
  generalize hH2 : s₂.heap.push { cls := .type "list", dict := none, data := .seq ([] : List Value).toArray } = H2 at hns₁ hsb₁ ⊢
  have hC : H2.objs.size = s₂.heap.objs.size + 1 := by rw [← hH2, Heap.size_push]
  have hDC : s₂.heap.objs.size ≠ H2.objs.size := by rw [hC]; exact Nat.ne_of_lt (Nat.lt_succ_self _)
  have below : ∀ b, b < s₂.heap.objs.size → b ≠ H2.objs.size ∧ b ≠ s₂.heap.objs.size := fun b hb => ⟨by rw [hC]; exact Nat.ne_of_lt (Nat.lt_succ_of_lt hb), Nat.ne_of_lt hb⟩
  have hDf : s₂.heap.objs.size ∉ fp := fun hm => Nat.lt_irrefl _ (hfp _ hm)
  have hCf : H2.objs.size ∉ fp := fun hm => by have := hfp _ hm; rw [hC] at this; exact Nat.lt_irrefl _ (Nat.lt_of_succ_lt this)
  have old : ∀ b o, s₂.heap.get? b = some o → h₁.get? b = some o := fun b o e => hsb₁.extBut b o (below b (Heap.lt_size e)).1 (Heap.get?_push_of_some _ (hH2 ▸ Heap.get?_push_of_some _ e))
  have hacc : h₁.PlainList s₂.heap.objs.size #[] := ⟨_, hsb₁.extBut _ _ hDC (Heap.get?_push_of_some _ (hH2 ▸ Heap.get?_push_size _ rfl))⟩
  have hst₁ : St 0 h₁ := W.frame _ _ _ hst fun b _ o e => old b o e
  have fresh : ∀ a, s₂.heap.objs.size ≤ a → s₂.heap.get? a = none := fun a ha => by
    cases e : s₂.heap.get? a with
    | none => rfl
    | some o' => exact absurd (Heap.lt_size e) (Nat.not_lt.mpr ha)
  have loop : ∀ s₃ : Shared, s₃ = { s₂ with heap := h₁, toks := s₂.toks + ([] : List (Str × Value)).length } →
      codeAny (model pw w) A (.compLoop (.ListComp elt [⟨.Name x px, iter, [], 0⟩] scope pos) 0 (.ref I) (.ref s₂.heap.objs.size) (compEnv scope H2.objs.size env))
        (fun r s' => ∃ m, s'.heap.Ns H2.objs.size m ∧ ∀ h', Heap.SameBut H2.objs.size s'.heap h' →
          match r with | .ok _ => Q (.ref s₂.heap.objs.size) { s' with heap := h' } | .error x => wpAny (model pw w) A (passOn "comprehension.variables-let-go" x (compEnv scope H2.objs.size env)) Q E { s' with heap := h' }) s₃ := by
    rintro s₃ rfl
    refine loop_new (cenv := compEnv scope H2.objs.size env) W g hx (by simp [compEnv, hkind]) hDC hDf hCf (fun b hb => by show b < H2.objs.size; rw [hC]; exact Nat.lt_succ_of_lt (hfp b hb)) (by show s₂.heap.objs.size < H2.objs.size; rw [hC]; exact Nat.lt_succ_self _) hst₁ hacc hns₁
      (fun i v s₃ m₃ hv hn hm hk => hq _ i v s₃ m₃ _ hv hn hm (fun b o hbf e => hk b o (below b (Heap.lt_size e)).1 hbf (below b (Heap.lt_size e)).2 (old b o e))) (fun h' tk m' ys vs hn ha hlen hP hF hk => ?_) hsz
    refine ⟨m', hn, fun h'' hs'' => hQ _ h'' tk vs (fresh _ (Nat.le_refl _)) ⟨ys, ha.extBut hs''.extBut hDC, hF.mono fun _ _ q => (q.ext fun b o hb e => hs''.extBut b o (Ne.symm (Nat.ne_of_lt hb)) e).at⟩ hlen hP fun b o hbf e => ?_⟩
    exact hs''.extBut b o (below b (Heap.lt_size e)).1 (hk b o (below b (Heap.lt_size e)).1 hbf (below b (Heap.lt_size e)).2 (old b o e))
  exact codeAny_compStart_list (loop _ rfl) (W.self 0 _ _ _ hst₁ (loop _ rfl))
theorem signs_map {α : Type} (g : Nat → α) {x : Str} {vs : List Value} (hl : vs.length = x.cps.size) (h : ∀ (j : Nat) (v : Value), vs[j]? = some v → SignAt x j v) : vs.map (fun v => g (codeV v)) = (sl x).map g := by
  rw [← signs_of hl h, List.map_map]; rfl
/-- a comprehension over a text that makes pairs -/
theorem comp_strL {elt iter : Expr} {v : Str} {px : Pos} {scope : Scope} {pos : Pos} {Q : Value → Shared → Prop} {x : Str} {t : Tok} (g : Nat → Pr)
    (hh : A.handled = none) (hfree : ∀ y ∈ scope.names, y.2 ≠ .free) (hcell : ∀ y ∈ scope.names, y.2 ≠ .cell) (hkind : scope.kind = .function)
    (hnames : ∀ y ∈ scope.names, y.2 = .local → scope.names.lookup y.1 = some .local) (hx : scope.names.lookup v = some .local) (hz : x.length ≤ 1000)
    (hi : ∀ Q : Value → Shared → Prop, Q (.str x t) s → wpAny (model pw w) A (eval iter env) Q E s)
    (he : ∀ C c u s₃ m₃ E', c ∈ sl x → s₃.heap.Ns C m₃ → m₃ v = some (.str (sg c) u) → (∀ b o, s.heap.get? b = some o → s₃.heap.get? b = some o) →
      wpAny (model pw w) A (eval elt (compEnv scope C env)) (fun y s₄ => PairNew (g c) y s₃ s₄) E' s₃)
    (hQ : ∀ D h' tk, s.heap.get? D = none → PairsAt h' D ((sl x).map g) → (∀ b o, s.heap.get? b = some o → h'.get? b = some o) → Q (.ref D) { s with heap := h', toks := tk })
    (hs : ∀ x, foldedSetIterable iter env x = pure x := by intro _; rfl) :
    wpAny (model pw w) A (eval (.ListComp elt [⟨.Name v px, iter, [], 0⟩] scope pos) env) Q E s := by
  refine comp_new (fun v => g (codeV v)) hfree hcell hkind hnames hx (hi _ ?_) hs
  refine wpAny_pyIter_str fun o St W h0 => ?_
  have old : ∀ b o', s.heap.get? b = some o' → b ≠ s.heap.objs.size := fun b o' e => Nat.ne_of_lt (Heap.lt_size e)
  have up : ∀ b o', s.heap.get? b = some o' → (s.heap.push o).get? b = some o' := fun b o' e => Heap.get?_push_of_some _ e
  refine ⟨s.heap.objs.size, [s.heap.objs.size], [s.heap.objs.size], x.cps.size, SignAt x, St, rfl, W A hh, ?_, h0, ?_, ?_, ?_⟩
  · have : x.cps.size ≤ 1000 := hz
    rw [sizeLine_eq]; omega
  · intro b hb
    rw [List.mem_singleton.mp hb]
    show s.heap.objs.size < (s.heap.push o).objs.size
    rw [Heap.size_push]; exact Nat.lt_succ_self _
  · intro C i val s₃ m₃ E' hP hn hm hk
    obtain ⟨c, u, hc, rfl⟩ := hP
    have hmem : c ∈ sl x := by
      have : x.cps.toList[i]? = some c := by simpa using hc
      exact List.mem_of_getElem? this
    exact he C c u s₃ m₃ E' hmem hn hm fun b o' e => hk b o' (by simpa using old b o' e) (up b o' e)
  · intro D h' tk vs hD hl hlen hP hk
    refine hQ D h' tk ?_ (signs_map g hlen hP ▸ hl) fun b o' e => hk b o' (by simpa using old b o' e) (up b o' e)
    cases e : s.heap.get? D with
    | none => rfl
    | some o' => rw [up D o' e] at hD; cases hD
end
end Mine
end

section
open PySem PySem.W PySem.Calls PyProof.Rows PyProof.V
set_option Elab.async false
set_option maxRecDepth 100000
set_option maxHeartbeats 4000000
namespace Mine
noncomputable def dueGo (k : Nat) : List Pr → List Pr → List Pr
  | made, [] => made
  | made, p :: r =>
    match k with
    | 0 => dueGo k (made ++ if p.2 = [] then [] else [p]) r
    | 1 => dueGo k (made ++ if p.2 = [] then [p] else p.2.map fun c => ([c], [c])) r
    | 2 => dueGo k (made ++ if p.1 = [32] then [] else [p]) r
    | 3 => if p.1 = [10] ∨ p.1 = [9] ∨ p.1 = [13] ∨ p.1 = [32] then (if made = [] then dueGo k made r else made) else dueGo k (made ++ [p]) r
    | _ => if p.1 = [58] ∨ p.1 = [10] then made else if p.1 = [46] then dueGo k [] r else dueGo k (made ++ [p]) r
noncomputable abbrev envD (L : Addr) (cd : Value) : Env := envOf (Str.ofString "_law_due") (fS (st 15)) L 165 cd

/-- a list of pairs without attributes of its own -/
noncomputable def PairsP (h : Heap) (a : Addr) (ps : List Pr) : Prop := ∃ items : Array Value, h.PlainList a items ∧ Paired (PairAt h) ps items.toList
theorem PairsP.at {h : Heap} {a : Addr} {ps : List Pr} (x : PairsP h a ps) : PairsAt h a ps := by
  obtain ⟨items, hl, hp⟩ := x
  exact ⟨items, hl.isList, hp⟩
theorem PairsP.keepsL {h h' : Heap} {a L : Addr} {m : Str → Option Value} {ps : List Pr} (x : PairsP h a ps) (hn : h.Ns L m) (k : KeepL L h h') : PairsP h' a ps := by
  obtain ⟨items, hl, hp⟩ := x
  refine ⟨items, hl.at fun o e => k a o (list_ne_ns hl.isList hn) ?_ e, hp.mono fun p v y => ?_⟩
  · obtain ⟨o', ho', hc, _⟩ := hl.isList
    rw [ho'] at e; cases e; rw [hc]; decide
  · obtain ⟨b, t, u, e, hb⟩ := y
    exact ⟨b, t, u, e, k.list hn hb⟩
theorem PairsP.keeps {h h' : Heap} {a : Addr} {ps : List Pr} (x : PairsP h a ps) (k : ∀ b o, h.get? b = some o → h'.get? b = some o) : PairsP h' a ps := by
  obtain ⟨items, hl, hp⟩ := x
  exact ⟨items, hl.at fun o q => k _ _ q, hp.mono fun _ _ y => y.keeps k⟩
theorem PairsP.append {h h' : Heap} {a : Addr} {ps : List Pr} {p : Pr} {v : Value} {items : Array Value} (hl : h.IsList a items) (hp : Paired (PairAt h) ps items.toList) (hv : PairAt h p v) (hl' : h'.PlainList a (items.push v)) (hs : Heap.SameBut a h h') : PairsP h' a (ps ++ [p]) := by
  have up : ∀ q u, PairAt h q u → PairAt h' q u := fun q u y => by
    obtain ⟨b, t, u', e, hb⟩ := y
    exact ⟨b, t, u', e, hb.extBut hs.extBut (pair_ne hl hp hb)⟩
  refine ⟨_, hl', ?_⟩
  rw [Array.toList_push]
  exact Paired.snoc (hp.mono up) (up _ _ hv)
theorem PairsP.nil {h : Heap} {a : Addr} (hl : h.PlainList a #[]) : PairsP h a [] := ⟨#[], hl, .nil⟩
structure Jd (k : Nat) (ki : Int) (u : Tok) (h₀ : Heap) (ps : List Pr) (i : Nat) (m : Str → Option Value) (h : Heap) : Prop where
  hand : m (Str.ofString "hand") = some (.int ki u)
  made : ∃ D made, m (Str.ofString "made") = some (.ref D) ∧ PairsP h D made ∧ h₀.get? D = none ∧ dueGo k [] ps = dueGo k made (ps.drop i) ∧ made.length ≤ 18 * i
theorem Jd.keepL {k : Nat} {ki : Int} {u : Tok} {h₀ : Heap} {ps : List Pr} {L : Addr} (i : Nat) (m : Str → Option Value) (h h' : Heap) (j : Jd k ki u h₀ ps i m h) (hn : h.Ns L m) (kl : KeepL L h h') : Jd k ki u h₀ ps i m h' := by
  obtain ⟨D, made, a, b, c⟩ := j.made
  exact ⟨j.hand, D, made, a, b.keepsL hn kl, c⟩
theorem Jd.mem {k : Nat} {ki : Int} {u : Tok} {h₀ : Heap} {ps : List Pr} (i : Nat) (m m' : Str → Option Value) (h : Heap) (e : ∀ z, z ≠ Str.ofString "sign" → z ≠ Str.ofString "fold" → m' z = m z) (j : Jd k ki u h₀ ps i m h) : Jd k ki u h₀ ps i m' h := by
  obtain ⟨D, made, a, b⟩ := j.made
  exact ⟨(e _ (by decide +kernel) (by decide +kernel)).trans j.hand, D, made, (e _ (by decide +kernel) (by decide +kernel)).trans a, b⟩
theorem ofL_inj {a b : List Nat} (h : ofL a = ofL b) : a = b := by
  have := congrArg (fun x : Str => x.cps.toList) h
  simpa using this
theorem ofL_beq (a b : List Nat) : (ofL a == ofL b) = decide (a = b) := by
  by_cases h : a = b
  · subst h; simp
  · rw [beq_eq_false_iff_ne.mpr fun e => h (ofL_inj e)]; simp [h]
theorem PairsAt.nil {h : Heap} {a : Addr} (hl : h.IsList a #[]) : PairsAt h a [] := ⟨#[], hl, .nil⟩
theorem PairsAt.one {h : Heap} {a b : Addr} {p : Pr} {t u : Tok} (hl : h.IsList a #[.ref b]) (hb : h.IsList b #[.str (ofL p.1) t, .str (ofL p.2) u]) : PairsAt h a [p] := ⟨_, hl, .cons ⟨b, t, u, rfl, hb⟩ .nil⟩
theorem paired_app {α β : Type} {F : α → β → Prop} : ∀ {l₁ l₂ : List α} {k₁ k₂ : List β}, Paired F l₁ k₁ → Paired F l₂ k₂ → Paired F (l₁ ++ l₂) (k₁ ++ k₂)
  | _, _, _, _, .nil, h => h
  | _, _, _, _, .cons a t, h => .cons a (paired_app t h)
noncomputable def StepD (k : Nat) (ki : Int) (u : Tok) (h₀ : Heap) (L I a : Addr) (i : Nat) (made : List Pr) (q : Pr) (r : List Pr) (s : Shared) (f : Flow) (s₃ : Shared) : Prop := match f with
  | .next | .cont => ∃ h'' tk'' m'', s₃ = { s with heap := h'', toks := tk'' } ∧ Fr h₀ L h'' m'' ∧ m'' (Str.ofString "hand") = some (.int ki u) ∧
      (∃ D' made', m'' (Str.ofString "made") = some (.ref D') ∧ PairsP h'' D' made' ∧ h₀.get? D' = none ∧ dueGo k made (q :: r) = dueGo k made' r ∧ made'.length ≤ made.length + 18) ∧ h''.IsListIter I a (i + 1)
  | .brk => False
  | .ret v => ∃ h'' tk'' D' made', v = .ref D' ∧ s₃ = { s with heap := h'', toks := tk'' } ∧ PairsAt h'' D' made' ∧ h₀.get? D' = none ∧ dueGo k made (q :: r) = made' ∧ (∀ b o, h₀.get? b = some o → h''.get? b = some o)
section
variable {w : World} {A : Around} {s : Shared} {E : Value → Shared → Prop} {h₀ : Heap} {L : Addr} {m : Str → Option Value}
theorem add_pairs {l b : Addr} {ps qs : List Pr} {Q : Value → Shared → Prop} (F : Fr h₀ L s.heap m) (hl : PairsAt s.heap l ps) (hb : PairsAt s.heap b qs) (hz : ps.length + qs.length ≤ sizeLine)
    (h : ∀ D h', s.heap.get? D = none → Fr h₀ L h' m → PairsP h' D (ps ++ qs) → (∀ b o, s.heap.get? b = some o → h'.get? b = some o) → Q (.ref D) { s with heap := h' }) :
    wpAny (model pw w) A (binaryOp .Add (.ref l) (.ref b)) Q E s := by
  obtain ⟨xs, hl, p1⟩ := hl
  obtain ⟨ys, hb, p2⟩ := hb
  have e1 : xs = xs.toList.toArray := by simp
  have e2 : ys = ys.toList.toArray := by simp
  rw [e1] at hl
  rw [e2] at hb
  obtain ⟨⟨cls, dd, data, sl⟩, ho, hc, n, hd⟩ := id hl
  obtain ⟨⟨cls2, dd2, data2, sl2⟩, ho2, hc2, n2, hd2⟩ := id hb
  simp only at hc hd hc2 hd2
  subst hc hd hc2 hd2
  refine concat_meets ⟨_, ho, rfl⟩ ⟨_, ho2, rfl⟩ noFill_list_add seq_list_add PySem.F.slot_list_add PySem.F.entry_list_add (PySem.F.args_list_add_2 _ _) (list_addW l b _ _ n n2 dd dd2 sl sl2 (by have := p1.length; have := p2.length; simp at *; omega)) ⟨ho, ho2, ?_⟩
  refine h _ _ ?_ (F.push _) ⟨_, ⟨_, Heap.get?_push_size _ rfl⟩, ?_⟩ fun b o e => Heap.get?_push_of_some _ e
  · cases e : s.heap.get? s.heap.objs.size with
    | none => rfl
    | some o => exact absurd (Heap.lt_size e) (Nat.lt_irrefl _)
  · have up : ∀ p v, PairAt s.heap p v → PairAt (s.heap.push { cls := Value.type "list", data := Data.seq (xs.toList.toArray ++ ys.toList.toArray) }) p v := fun p v x => x.keeps fun b o e => Heap.get?_push_of_some _ e
    have := paired_app (p1.mono up) (p2.mono up)
    simpa using this
theorem for_due {k : Nat} {ki : Int} {u : Tok} {a : Addr} {ps : List Pr} {iter : Expr} {body : List Stmt} {px py tpos pos : Pos} {kk : Nat} {Q : Flow → Shared → Prop} {cd : Value}
    (hh : A.handled = none) (F : Fr h₀ L s.heap m) (hps : PairsAt h₀ a ps) (hf : ∀ p ∈ ps, p.2.length ≤ 18) (hz : ps.length ≤ 1000)
    (hi : ∀ Q : Value → Shared → Prop, Q (.ref a) s → wpAny (model pw w) A (eval iter (envD L cd)) Q E s)
    (h0 : Jd k ki u h₀ ps 0 m s.heap)
    (step : ∀ I i q r t1 t2 D made h' tk m' E', ps.drop i = q :: r → q.2.length ≤ 18 → made.length ≤ 18 * i → i < 1000 → h'.Ns L m' → Fr h₀ L h' m' → m' (Str.ofString "sign") = some (.str (ofL q.1) t1) → m' (Str.ofString "fold") = some (.str (ofL q.2) t2) →
      m' (Str.ofString "hand") = some (.int ki u) → m' (Str.ofString "made") = some (.ref D) → PairsP h' D made → h₀.get? D = none → h'.IsListIter I a (i + 1) →
      wpAny (model pw w) A (execs body (envD L cd)) (StepD k ki u h₀ L I a i made q r s) E' { s with heap := h', toks := tk })
    (done : ∀ h' tk m' D, Fr h₀ L h' m' → m' (Str.ofString "made") = some (.ref D) → PairsAt h' D (dueGo k [] ps) → h₀.get? D = none → Q .next { s with heap := h', toks := tk })
    (rets : ∀ h' tk D, PairsAt h' D (dueGo k [] ps) → h₀.get? D = none → (∀ b o, h₀.get? b = some o → h'.get? b = some o) → Q (.ret (.ref D)) { s with heap := h', toks := tk })
    (hs : ∀ x, foldedSetIterable iter (envD L cd) x = pure x := by intro _; rfl) :
    wpAny (model pw w) A (exec (.For (.Tuple [.Name (Str.ofString "sign") px, .Name (Str.ofString "fold") py] kk tpos) iter body [] pos) (envD L cd)) Q E s := by
  refine for_pairs (Jd k ki u h₀ ps) hh F hps (by rfl) (by rfl) (by rfl) (by decide +kernel) hi Jd.keepL Jd.mem h0 ?_ ?_ hs
  · intro I i q t1 t2 h' tk m' E' hq F' hx hy hJ hI
    obtain ⟨hand, D, made, hm, hp, hD, hgo, hlen⟩ := hJ
    have hlt : i < ps.length := (List.getElem?_eq_some_iff.mp hq).1
    have hdrop : ps.drop i = q :: ps.drop (i + 1) := by
      rw [List.drop_eq_getElem_cons hlt]
      have := (List.getElem?_eq_some_iff.mp hq).2
      rw [this]
    refine wpAny_mono (step I i q (ps.drop (i + 1)) t1 t2 D made h' tk m' E' hdrop (hf q (List.mem_of_getElem? hq)) hlen (by omega) F'.ns F' hx hy hand hm hp hD hI) (fun f s₃ h₃ => ?_) fun _ _ e => e
    have nx : (∃ h'' tk'' m'', s₃ = { s with heap := h'', toks := tk'' } ∧ Fr h₀ L h'' m'' ∧ m'' (Str.ofString "hand") = some (.int ki u) ∧
            (∃ D' made', m'' (Str.ofString "made") = some (.ref D') ∧ PairsP h'' D' made' ∧ h₀.get? D' = none ∧ dueGo k made (q :: ps.drop (i + 1)) = dueGo k made' (ps.drop (i + 1)) ∧ made'.length ≤ made.length + 18) ∧ h''.IsListIter I a (i + 1)) →
        ∃ h'' tk'' m'', s₃ = { s with heap := h'', toks := tk'' } ∧ Fr h₀ L h'' m'' ∧ Jd k ki u h₀ ps (i + 1) m'' h'' ∧ h''.IsListIter I a (i + 1) := by
      rintro ⟨h'', tk'', m'', e, F'', hh'', ⟨D', made', e1, e2, e3, e4, e5⟩, I''⟩
      exact ⟨h'', tk'', m'', e, F'', ⟨hh'', D', made', e1, e2, e3, by rw [hgo, hdrop, e4], by omega⟩, I''⟩
    cases f with
    | next => exact nx h₃
    | cont => exact nx h₃
    | brk => exact h₃.elim
    | ret v =>
      obtain ⟨h'', tk'', D', made', rfl, rfl, e2, e5, e3, e4⟩ := h₃
      exact rets h'' tk'' D' (by rw [hgo, hdrop, e3]; exact e2) e5 e4
  · intro h' tk m' F' hJ
    obtain ⟨hand, D, made, hm, hp, hD, hgo, hlen⟩ := hJ
    refine done h' tk m' D F' hm ?_ hD
    rw [hgo, List.drop_length]
    unfold dueGo
    exact hp.at
end
end Mine
end

section
open PySem PySem.W PySem.Calls PyProof.Rows PyProof.V
set_option Elab.async false
set_option maxRecDepth 100000
set_option maxHeartbeats 4000000
namespace Mine
theorem push_none {h : Heap} : h.get? h.objs.size = none := by
  cases e : h.get? h.objs.size with
  | none => rfl
  | some o => exact absurd (Heap.lt_size e) (Nat.lt_irrefl _)
theorem push_plain {h : Heap} {xs : Array Value} : (h.push { cls := .type "list", data := .seq xs }).PlainList h.objs.size xs := ⟨_, Heap.get?_push_size _ rfl⟩
theorem push_list {h : Heap} {xs : Array Value} : (h.push { cls := .type "list", data := .seq xs }).IsList h.objs.size xs := ⟨_, Heap.get?_push_size _ rfl, rfl, _, rfl⟩
section
variable {w : World} {A : Around} {s : Shared} {mg mb : Str → Option Value} {E : Value → Shared → Prop} {env : Env}
theorem newList_push {M : Model} {vs : List Value} {Q : Value → Shared → Prop} (h : Q (.ref s.heap.objs.size) { s with heap := s.heap.push { cls := .type "list", data := .seq vs.toArray } }) (hsz : vs.length ≤ sizeLine := by size_fits) :
    wpAny M A (newList vs) Q E s := wpAny_newObj_type h (by show vs.toArray.size ≤ sizeLine; rw [List.size_toArray]; exact hsz)
theorem eval_local {M : Model} {x : Str} {p : Pos} {v : Value} {m : Str → Option Value} {Q : Value → Shared → Prop} (hk : env.scope.kind = .function) (hn : s.heap.Ns env.locals m) (kx : env.kindOf x = some .local) (hx : m x = some v) (h : Q v s) (hd : (x == ("__debug__" : Str)) = false) : wpAny M A (eval (.Name x p) env) Q E s :=
  wpAny_Name (wpAny_loadName_local hk kx hn hx h) hd
theorem eval_pair {x y : Str} {p1 p2 p3 : Pos} {v1 v2 : Value} {m : Str → Option Value} {Q : Value → Shared → Prop} (hk : env.scope.kind = .function) (hn : s.heap.Ns env.locals m) (kx : env.kindOf x = some .local) (ky : env.kindOf y = some .local)
    (hx : m x = some v1) (hy : m y = some v2) (dx : (x == ("__debug__" : Str)) = false) (dy : (y == ("__debug__" : Str)) = false)
    (h : Q (.ref s.heap.objs.size) { s with heap := s.heap.push { cls := .type "list", data := .seq #[v1, v2] } }) :
    wpAny (model pw w) A (eval (.List [.Name x p1, .Name y p2] p3) env) Q E s := by
  refine List_ (spliced_more (eval_local hk hn kx hx (spliced_more (eval_local hk hn ky hy (spliced_none ?_) dy)) dx))
  exact newList_push h
theorem eval_one {x y : Str} {p1 p2 p3 p4 : Pos} {p : Pr} {t1 t2 : Tok} {m : Str → Option Value} {Q : Value → Shared → Prop} (hk : env.scope.kind = .function) (hn : s.heap.Ns env.locals m) (kx : env.kindOf x = some .local) (ky : env.kindOf y = some .local)
    (hx : m x = some (.str (ofL p.1) t1)) (hy : m y = some (.str (ofL p.2) t2)) (dx : (x == ("__debug__" : Str)) = false) (dy : (y == ("__debug__" : Str)) = false)
    (h : ∀ D h', PairsAt h' D [p] → (∀ b o, s.heap.get? b = some o → h'.get? b = some o) → Q (.ref D) { s with heap := h' }) :
    wpAny (model pw w) A (eval (.List [.List [.Name x p1, .Name y p2] p3] p4) env) Q E s := by
  refine List_ (spliced_more (eval_pair hk hn kx ky hx hy dx dy (spliced_none ?_)))
  refine newList_push (h _ _ (PairsAt.one push_list (push_list.at fun o e => Heap.get?_push_of_some _ e)) fun b o e => Heap.get?_push_of_some _ (Heap.get?_push_of_some _ e))
theorem eval_none {p4 : Pos} {Q : Value → Shared → Prop} 
    (h : ∀ D h', PairsP h' D [] → s.heap.get? D = none → (∀ b o, s.heap.get? b = some o → h'.get? b = some o) → Q (.ref D) { s with heap := h' }) :
    wpAny (model pw w) A (eval (.List [] p4) env) Q E s := by
  refine List_ (spliced_none ?_)
  exact newList_push (h _ _ (PairsP.nil push_plain) push_none fun b o e => Heap.get?_push_of_some _ e)
theorem eval_strs {pos : Pos} {h' : Nat} : ∀ (xs : List (Str × Nat × Pos)) {s : Shared} {Q : List Value → Shared → Prop},
    (∀ vs tk, StrsAre vs (xs.map (·.1)) → Q vs { s with toks := tk }) →
    wpAny (model pw w) A (spliced (backTo pos (starEach (xs.map fun x => Expr.Constant (.str x.1) x.2.1 x.2.2) env))) Q E s
  | [], s, Q, h => spliced_none (h [] s.toks .nil)
  | x :: r, s, Q, h => spliced_more (wpAny_Constant_str (eval_strs r (h' := h') fun vs tk e => h (_ :: vs) tk (.cons _ _ e)))
theorem eval_strsL {pos : Pos} (xs : List (Str × Nat × Pos)) {Q : Value → Shared → Prop} (hz : xs.length ≤ 1000)
    (h : ∀ D h' tk vs, StrsAre vs (xs.map (·.1)) → h'.IsList D vs.toArray → (∀ b o, s.heap.get? b = some o → h'.get? b = some o) → Q (.ref D) { s with heap := h', toks := tk }) :
    wpAny (model pw w) A (eval (.List (xs.map fun x => Expr.Constant (.str x.1) x.2.1 x.2.2) pos) env) Q E s := by
  refine List_ (eval_strs xs (h' := 0) fun vs tk e => ?_)
  refine newList_push (h _ _ tk vs e push_list fun b o e => Heap.get?_push_of_some _ e) ?_
  have := e.length
  rw [this, List.length_map, sizeLine_eq]; omega
theorem ne_none {D D' : Addr} {ps : List Pr} {Q : Value → Shared → Prop} (h1 : PairsAt s.heap D ps) (h2 : PairsAt s.heap D' []) (hu : A.units < cLine) (h : Q (.bool (decide (ps ≠ []))) s) :
    wpAny (model pw w) A (compareOp .NotEq (.ref D) (.ref D')) Q E s := by
  obtain ⟨xs, l1, p1⟩ := h1
  obtain ⟨ys, l2, p2⟩ := h2
  have e2 : ys = #[] := by have := p2.length; simp at this; exact Array.eq_empty_of_size_eq_zero (by omega)
  subst e2
  have e1 := p1.length
  cases ps with
  | nil =>
    have : xs.size = 0 := by simpa using e1.symm
    have := SeqAt.RcNeAt.lists (A := A) (e := fun _ => true) l1 l2 (by simpa using this) hu (fun j h1 _ => by omega)
    refine this pw w E Q ?_
    rw [show (List.range xs.size).all (fun _ => true) = true from List.all_eq_true.mpr fun _ _ => rfl]
    exact h
  | cons p r =>
    have e3 : xs.size = r.length + 1 := by simpa using e1.symm
    have e4 : (xs.size != (#[] : Array Value).size) = true := by rw [e3]; simp
    refine SeqAt.RcNeAt.lists_lengths (A := A) l1 l2 e4 hu pw w E Q ?_
    simpa using h
end
end Mine
end

section
open PySem PySem.W PySem.Calls PyProof.Rows PyProof.V
set_option Elab.async false
set_option maxRecDepth 100000
set_option maxHeartbeats 4000000
namespace Mine
theorem get_back {h h' : Heap} {a : Addr} (k : ∀ b o, h.get? b = some o → h'.get? b = some o) (e : h'.get? a = none) : h.get? a = none := by
  cases q : h.get? a with
  | none => rfl
  | some o => rw [k a o q] at e; cases e
section
variable {w : World} {A : Around} {s : Shared} {mg mb : Str → Option Value} {E : Value → Shared → Prop} {h₀ : Heap} {L : Addr} {m : Str → Option Value} {cd : Value}
local macro_rules | `(tactic| walk_at "eval Name") => `(tactic| (refine' ld ?F ?v ?_; (case F => assumption); (case v => first | assumption | rfl)))
theorem asg_add {e : Expr} {p1 p2 p3 p4 : Pos} {D : Addr} {made qs : List Pr} {Q : Flow → Shared → Prop} (F : Fr h₀ L s.heap m) (hm : m (Str.ofString "made") = some (.ref D)) (hp : PairsAt s.heap D made)
    (hz : made.length + qs.length ≤ sizeLine)
    (he : ∀ Q' : Value → Shared → Prop, (∀ D' h' tk, PairsAt h' D' qs → (∀ b o, s.heap.get? b = some o → h'.get? b = some o) → Q' (.ref D') { s with heap := h', toks := tk }) → wpAny (model pw w) A (eval e (envOf (Str.ofString "_law_due") (fS (st 15)) L 165 cd)) Q' E s)
    (h : ∀ D' h' tk, Fr h₀ L h' (fun y => if y = Str.ofString "made" then some (.ref D') else m y) → PairsP h' D' (made ++ qs) → h₀.get? D' = none → (∀ b o, b ≠ L → s.heap.get? b = some o → h'.get? b = some o) → Q .next { s with heap := h', toks := tk }) :
    wpAny (model pw w) A (exec (.Assign [.Name (Str.ofString "made") p1] (.BinOp (.Name (Str.ofString "made") p2) .Add e p3) p4) (envOf (Str.ofString "_law_due") (fS (st 15)) L 165 cd)) Q E s := by
  have N : News h₀ L s.heap [] := News.nil
  repeat ((fail_if_success (with_reducible show wpAny _ _ (eval e _) _ _ _)); first | walk1 | (dsimp only; walk1))
  refine he _ fun D' h' tk hp' k => ?_
  have F' := Fr.ext' F k
  refine add_pairs F' (hp.keeps k) hp' hz fun D₂ h₂ hD₂ F₂ hp₂ k₂ => ?_
  refine wpAny_storeName_local (by rfl) F₂.ns (fun h₃ hn₃ hs₃ => ?_) (by rfl)
  exact h D₂ h₃ _ (F₂.set hn₃ hs₃) (hp₂.keepsL F₂.ns fun b o hb _ e => hs₃.extBut b o hb e) (get_back F'.keep hD₂) fun b o hb e => hs₃.extBut b o hb (k₂ b o (k b o e))
theorem asg_app {D : Addr} {made : List Pr} {q : Pr} {t1 t2 : Tok} {Q : Flow → Shared → Prop} (F : Fr h₀ L s.heap m) (hm : m (Str.ofString "made") = some (.ref D)) (hp : PairsP s.heap D made)
    (hx : m (Str.ofString "sign") = some (.str (ofL q.1) t1)) (hy : m (Str.ofString "fold") = some (.str (ofL q.2) t2)) (hD : h₀.get? D = none)
    (hz : made.length ≤ sizeLine)
    (h : ∀ h' tk, Fr h₀ L h' m → PairsP h' D (made ++ [q]) → (∀ b o, b ≠ D → s.heap.get? b = some o → h'.get? b = some o) → Q .next { s with heap := h', toks := tk }) :
    wpAny (model pw w) A (exec (.Expr (.Call (.Attribute (.Name (Str.ofString "made") ⟨127, 12, 127, 16⟩) (Str.ofString "append") ⟨127, 12, 127, 23⟩) [.List [.Name (Str.ofString "sign") ⟨127, 25, 127, 29⟩, .Name (Str.ofString "fold") ⟨127, 31, 127, 35⟩] ⟨127, 24, 127, 36⟩] [] ⟨127, 12, 127, 37⟩) ⟨127, 12, 127, 37⟩) (envOf (Str.ofString "_law_due") (fS (st 15)) L 165 cd)) Q E s := by
  have N : News h₀ L s.heap [] := News.nil
  obtain ⟨items, hl, hpp⟩ := hp
  obtain ⟨n, hL⟩ := id hl
  iterate 1 walk1
  refine MethodCall_ ?_
  iterate 1 walk1
  refine getMethod_builtin ⟨_, hL, rfl⟩ PySem.F.plainAttrs_list PySem.F.slot_list_append PySem.F.type_list_append (fun a e => by cases e; exact ⟨_, hL, rfl⟩) ?_
  dsimp only
  repeat ((fail_if_success (with_reducible show wpAny _ _ (eval (Expr.List _ _) _) _ _ _)); first | walk1 | (dsimp only; walk1))
  refine eval_pair rfl F.ns (by rfl) (by rfl) hx hy (by decide +kernel) (by decide +kernel) ?_
  iterate 1 walk1
  have e4 : items.size ≤ sizeLine := by have := hpp.length; simp at this; omega
  have kp : ∀ b o, s.heap.get? b = some o → (s.heap.push { cls := Value.type "list", data := Data.seq #[Value.str (ofL q.fst) t1, Value.str (ofL q.snd) t2] }).get? b = some o := fun b o e => Heap.get?_push_of_some _ e
  refine wpAny_list_append_plain (hsz := e4) (hl.at fun o e => kp _ o e) fun h' hl' hs => ?_
  have hDL : D ≠ L := list_ne_ns hl.isList F.ns
  have F' := Fr.ext' F kp
  refine h h' _ ⟨F'.ns.at' fun o e => hs.extBut L o (Ne.symm hDL) e, fun b o e => hs.extBut b o (by rintro rfl; rw [hD] at e; cases e) (F'.keep b o e), F.above⟩ ?_ fun b o hb e => hs.extBut b o hb (kp b o e)
  exact PairsP.append (hl.at fun o e => kp _ o e).isList (hpp.mono fun p v x => x.keeps kp) ⟨_, t1, t2, rfl, push_list⟩ hl' hs
end
end Mine
end

section
open PySem PySem.W PySem.Calls PyProof.Rows PyProof.V
set_option Elab.async false
set_option maxRecDepth 100000
set_option maxHeartbeats 4000000
namespace Mine
theorem ofL_len (l : List Nat) : (ofL l).length = l.length := by simp [Str.length]
theorem any_t {xs : List Str} {a : List Nat} (ls : List (List Nat)) (hx : xs = ls.map ofL) (c : (xs.any fun x => x == ofL a) = true) : a ∈ ls := by
  subst hx
  obtain ⟨x, hx, e⟩ := List.any_eq_true.mp c
  obtain ⟨y, hy, rfl⟩ := List.mem_map.mp hx
  rw [ofL_inj (eq_of_beq e)] at hy
  exact hy
theorem any_f {xs : List Str} {a : List Nat} (ls : List (List Nat)) (hx : xs = ls.map ofL) (c : (xs.any fun x => x == ofL a) = false) : a ∉ ls := fun h => by
  subst hx
  have : ((ls.map ofL).any fun x => x == ofL a) = true := List.any_eq_true.mpr ⟨ofL a, List.mem_map_of_mem h, beq_self_eq_true _⟩
  rw [this] at c
  cases c
theorem due3_b {made r : List Pr} {q : Pr} (c : q.1 ∈ ([[10], [9], [13], [32]] : List (List Nat))) : dueGo 3 made (q :: r) = if made = [] then dueGo 3 made r else made := by
  rw [dueGo]
  exact if_pos (by simpa using c)
theorem due3_c {made r : List Pr} {q : Pr} (c : q.1 ∉ ([[10], [9], [13], [32]] : List (List Nat))) : dueGo 3 made (q :: r) = dueGo 3 (made ++ [q]) r := by
  rw [dueGo]
  exact if_neg (by simpa using c)
theorem beq_t {a b : List Nat} {x : Str} (c : (ofL a == x) = true) (hx : x = ofL b := by decide +kernel) : a = b := by
  subst hx
  exact ofL_inj (by simpa using c)
theorem beq_f {a b : List Nat} {x : Str} (c : (ofL a == x) = false) (hx : x = ofL b := by decide +kernel) : a ≠ b := by
  subst hx
  rintro rfl
  simp at c
theorem due4_b {made r : List Pr} {q : Pr} (c : q.1 ∈ ([[58], [10]] : List (List Nat))) : dueGo 4 made (q :: r) = made := by
  rw [dueGo] <;> first | (intro h; omega) | exact if_pos (by simpa using c)
theorem due4_c {made r : List Pr} {q : Pr} (c : q.1 ∉ ([[58], [10]] : List (List Nat))) (d : q.1 = [46]) : dueGo 4 made (q :: r) = dueGo 4 [] r := by
  rw [dueGo] <;> first | (intro h; omega) | exact (if_neg (by simpa using c)).trans (if_pos d)
theorem due4_d {made r : List Pr} {q : Pr} (c : q.1 ∉ ([[58], [10]] : List (List Nat))) (d : q.1 ≠ [46]) : dueGo 4 made (q :: r) = dueGo 4 (made ++ [q]) r := by
  rw [dueGo] <;> first | (intro h; omega) | exact (if_neg (by simpa using c)).trans (if_neg d)
theorem PairsP.list {h : Heap} {a : Addr} {ps : List Pr} (x : PairsP h a ps) : h.IsList a x.choose := x.choose_spec.1.isList
theorem bne_t {a b : List Nat} {x : Str} (c : (ofL a != x) = true) (hx : x = ofL b := by decide +kernel) : a ≠ b := by
  subst hx
  rintro rfl
  simp at c
theorem bne_f {a b : List Nat} {x : Str} (c : (ofL a != x) = false) (hx : x = ofL b := by decide +kernel) : a = b := by
  subst hx
  exact ofL_inj (by simpa using c)
section
variable {w : World} {A : Around} {s : Shared} {E : Value → Shared → Prop} {h₀ : Heap} {L : Addr} {m : Str → Option Value} {cd : Value}
theorem asg_nil {p1 p2 p3 : Pos} {Q : Flow → Shared → Prop} (F : Fr h₀ L s.heap m)
    (h : ∀ D' h' tk, Fr h₀ L h' (fun y => if y = Str.ofString "made" then some (.ref D') else m y) → PairsP h' D' [] → h₀.get? D' = none → (∀ b o, b ≠ L → s.heap.get? b = some o → h'.get? b = some o) → Q .next { s with heap := h', toks := tk }) :
    wpAny (model pw w) A (exec (.Assign [.Name (Str.ofString "made") p1] (.List [] p2) p3) (envOf (Str.ofString "_law_due") (fS (st 15)) L 165 cd)) Q E s := by
  have N : News h₀ L s.heap [] := News.nil
  repeat ((fail_if_success (with_reducible show wpAny _ _ (eval (Expr.List _ _) _) _ _ _)); first | walk1 | (dsimp only; walk1))
  refine eval_none fun D' h' hp' hD k => ?_
  have F' := Fr.ext' F k
  refine wpAny_storeName_local (by rfl) F'.ns (fun h₃ hn₃ hs₃ => ?_) (by rfl)
  exact h D' h₃ _ (F'.set hn₃ hs₃) (hp'.keepsL F'.ns fun b o hb _ e => hs₃.extBut b o hb e) (get_back F.keep hD) fun b o hb e => hs₃.extBut b o hb (k b o e)
end
section
variable {w : World} {A : Around} {s : Shared} {mg mb : Str → Option Value}
local macro_rules | `(tactic| walk_at "eval Name") => `(tactic| (refine' ld ?F ?v ?_; (case F => assumption); (case v => first | assumption | rfl)))
theorem due0 {a : Addr} {ps : List Pr} {u : Tok} (C : Cx w mg mb s.heap) (r : Rm A 2) (hp : PairsAt s.heap a ps) (hz : ps.length ≤ 1000) (hf : ∀ p ∈ ps, p.2.length ≤ 18) :
    codeAny (model pw w) A (.call (.ref 165) ⟨[.int 0 u, .ref a], []⟩) (Out s fun v h => ∃ D, v = .ref D ∧ PairsAt h D (dueGo 0 [] ps) ∧ s.heap.get? D = none) s := by
  refine call_plain_ret (name := Str.ofString "_law_due") (params := fP (st 15)) (body := fB (st 15)) (scope := fS (st 15)) (binds := [(Str.ofString "hand", .int 0 u), (Str.ofString "pairs", .ref a)]) r.room (C.X 165 _ rfl) rfl C.T.nolimit (codeRec_of C.X (by kernel_rfl)) (by rfl) (locs rfl) (fun h₁ F => ?_) rfl rfl rfl (by decide +kernel)
  have N : News s.heap s.heap.objs.size h₁ [] := News.nil
  have hh : A.handled = none := r.hh
  have hu : A.units + 3 + 3 * 1 ≤ 900 := by have := r.hu; omega
  have T := C.T
  change wpAny _ _ (execs [_, _, _] _) _ _ _
  repeat ((fail_if_success (with_reducible show wpAny _ _ (exec (Stmt.For _ _ _ _ _) _) _ _ _)); first | walk1 | (dsimp only; walk1))
  rename Fr _ _ _ _ => F'
  rename News _ _ _ _ => N'
  refine for_due (k := 0) (ki := 0) (u := u) hh F' hp hf hz (fun Q q => ld F' rfl q) ⟨rfl, _, [], rfl, PairsP.nil ⟨_, N'.get (List.Mem.head _)⟩, N'.fresh (List.Mem.head _), rfl, Nat.le_refl _⟩ ?_ ?_ ?_
  · clear F' N'
    intro I i q r' t1 t2 D made h' tk m' E' hdrop hq hml hi hns F' hx hy hand hm hpm hD hI
    have N' : News s.heap s.heap.objs.size h' [] := News.nil
    change wpAny _ _ (execs _ (envOf (Str.ofString "_law_due") (fS (st 15)) s.heap.objs.size 165 _)) _ _ _
    repeat ((fail_if_success (with_reducible show wpAny _ _ (exec (Stmt.Assign _ _ _) _) _ _ _)); (fail_if_success (with_reducible show wpAny _ _ (exec (Stmt.Expr _ _) _) _ _ _)); (fail_if_success (with_reducible show wpAny _ _ (eval (Expr.List _ _) _) _ _ _)); (fail_if_success (with_reducible show wpAny _ _ (eval (Expr.ListComp _ _ _ _) _) _ _ _)); first | walk1 | (dsimp only; walk1))
    refine asg_add F' hm hpm.at (qs := if q.2 = [] then [] else [q]) (by rw [sizeLine_eq]; split <;> simp <;> omega) (fun Q' hQ' => ?_) fun D' h₂ tk₂ F₂ hp₂ hD₂ k₂ => ?_
    · repeat ((fail_if_success (with_reducible show wpAny _ _ (exec (Stmt.Assign _ _ _) _) _ _ _)); (fail_if_success (with_reducible show wpAny _ _ (exec (Stmt.Expr _ _) _) _ _ _)); (fail_if_success (with_reducible show wpAny _ _ (eval (Expr.List _ _) _) _ _ _)); (fail_if_success (with_reducible show wpAny _ _ (eval (Expr.ListComp _ _ _ _) _) _ _ _)); first | walk1 | (dsimp only; walk1))
      · rename (ofL q.2 != Str.ofString "") = true => c
        rw [if_neg (bne_t c)] at hQ'
        exact eval_one rfl F'.ns (by rfl) (by rfl) hx hy (by decide +kernel) (by decide +kernel) fun D' h'' hp' k => hQ' D' h'' _ hp' k
      · rename (ofL q.2 != Str.ofString "") = false => c
        rw [if_pos (bne_f c)] at hQ'
        exact eval_none fun D' h'' hp' _ k => hQ' D' h'' _ hp'.at k
    · dsimp only
      repeat (first | walk1 | (dsimp only; walk1))
      exact ⟨h₂, _, _, rfl, F₂, by rw [if_neg (by decide +kernel)]; exact hand, ⟨_, _, by simp, hp₂, hD₂, by rw [dueGo], by rw [List.length_append]; split <;> simp <;> omega⟩, hI.at fun o e => k₂ _ o (iter_ne_ns hI hns) e⟩

  · intro h' tk m' D F' hm hp' hD'
    repeat (first | walk1 | (dsimp only; walk1))
    exact ⟨⟨_, rfl, _, rfl, hp', hD'⟩, _, _, rfl, F'.keep⟩
  · intro h' tk D hp' hD' k
    exact ⟨⟨_, rfl, _, rfl, hp', hD'⟩, _, _, rfl, k⟩
theorem due1 {a : Addr} {ps : List Pr} {u : Tok} (C : Cx w mg mb s.heap) (r : Rm A 2) (hp : PairsAt s.heap a ps) (hz : ps.length ≤ 1000) (hf : ∀ p ∈ ps, p.2.length ≤ 18) :
    codeAny (model pw w) A (.call (.ref 165) ⟨[.int 1 u, .ref a], []⟩) (Out s fun v h => ∃ D, v = .ref D ∧ PairsAt h D (dueGo 1 [] ps) ∧ s.heap.get? D = none) s := by
  refine call_plain_ret (name := Str.ofString "_law_due") (params := fP (st 15)) (body := fB (st 15)) (scope := fS (st 15)) (binds := [(Str.ofString "hand", .int 1 u), (Str.ofString "pairs", .ref a)]) r.room (C.X 165 _ rfl) rfl C.T.nolimit (codeRec_of C.X (by kernel_rfl)) (by rfl) (locs rfl) (fun h₁ F => ?_) rfl rfl rfl (by decide +kernel)
  have N : News s.heap s.heap.objs.size h₁ [] := News.nil
  have hh : A.handled = none := r.hh
  have hu : A.units + 3 + 3 * 1 ≤ 900 := by have := r.hu; omega
  have T := C.T
  change wpAny _ _ (execs [_, _, _] _) _ _ _
  repeat ((fail_if_success (with_reducible show wpAny _ _ (exec (Stmt.For _ _ _ _ _) _) _ _ _)); first | walk1 | (dsimp only; walk1))
  rename Fr _ _ _ _ => F'
  rename News _ _ _ _ => N'
  refine for_due (k := 1) (ki := 1) (u := u) hh F' hp hf hz (fun Q q => ld F' rfl q) ⟨rfl, _, [], rfl, PairsP.nil ⟨_, N'.get (List.Mem.head _)⟩, N'.fresh (List.Mem.head _), rfl, Nat.le_refl _⟩ ?_ ?_ ?_
  · clear F' N'
    intro I i q r' t1 t2 D made h' tk m' E' hdrop hq hml hi hns F' hx hy hand hm hpm hD hI
    have N' : News s.heap s.heap.objs.size h' [] := News.nil
    change wpAny _ _ (execs _ (envOf (Str.ofString "_law_due") (fS (st 15)) s.heap.objs.size 165 _)) _ _ _
    repeat ((fail_if_success (with_reducible show wpAny _ _ (exec (Stmt.Assign _ _ _) _) _ _ _)); (fail_if_success (with_reducible show wpAny _ _ (exec (Stmt.Expr _ _) _) _ _ _)); (fail_if_success (with_reducible show wpAny _ _ (eval (Expr.List _ _) _) _ _ _)); (fail_if_success (with_reducible show wpAny _ _ (eval (Expr.ListComp _ _ _ _) _) _ _ _)); first | walk1 | (dsimp only; walk1))
    refine asg_add F' hm hpm.at (qs := if q.2 = [] then [q] else q.2.map fun c => ([c], [c])) (by rw [sizeLine_eq]; split <;> simp <;> omega) (fun Q' hQ' => ?_) fun D' h₂ tk₂ F₂ hp₂ hD₂ k₂ => ?_
    · repeat ((fail_if_success (with_reducible show wpAny _ _ (exec (Stmt.Assign _ _ _) _) _ _ _)); (fail_if_success (with_reducible show wpAny _ _ (exec (Stmt.Expr _ _) _) _ _ _)); (fail_if_success (with_reducible show wpAny _ _ (eval (Expr.List _ _) _) _ _ _)); (fail_if_success (with_reducible show wpAny _ _ (eval (Expr.ListComp _ _ _ _) _) _ _ _)); first | walk1 | (dsimp only; walk1))
      · rename (ofL q.2 != Str.ofString "") = true => c
        rw [if_neg (bne_t c)] at hQ'
        refine comp_strL (x := ofL q.2) (t := t2) (fun c => ([c], [c])) hh (by decide +kernel) (by decide +kernel) rfl (by decide +kernel) rfl (by rw [ofL_len]; omega) (fun Q q => ld F' hy q) ?_ fun D' h'' tk'' hD' hp' k => hQ' D' h'' tk'' (by simpa [sl] using hp') k
        intro C' c u' s₃ m₃ E'' hc hn hm' hk
        refine eval_pair rfl hn (by rfl) (by rfl) hm' hm' (by decide +kernel) (by decide +kernel) ?_
        exact ⟨_, u', u', rfl, Nat.le_refl _, push_list, _, _, rfl, fun b o e => Heap.get?_push_of_some _ e⟩
      · rename (ofL q.2 != Str.ofString "") = false => c
        rw [if_pos (bne_f c)] at hQ'
        exact eval_one rfl F'.ns (by rfl) (by rfl) hx hy (by decide +kernel) (by decide +kernel) fun D' h'' hp' k => hQ' D' h'' _ hp' k
    · dsimp only
      repeat (first | walk1 | (dsimp only; walk1))
      exact ⟨h₂, _, _, rfl, F₂, by rw [if_neg (by decide +kernel)]; exact hand, ⟨_, _, by simp, hp₂, hD₂, by rw [dueGo], by rw [List.length_append]; split <;> simp <;> omega⟩, hI.at fun o e => k₂ _ o (iter_ne_ns hI hns) e⟩

  · intro h' tk m' D F' hm hp' hD'
    repeat (first | walk1 | (dsimp only; walk1))
    exact ⟨⟨_, rfl, _, rfl, hp', hD'⟩, _, _, rfl, F'.keep⟩
  · intro h' tk D hp' hD' k
    exact ⟨⟨_, rfl, _, rfl, hp', hD'⟩, _, _, rfl, k⟩
theorem due2 {a : Addr} {ps : List Pr} {u : Tok} (C : Cx w mg mb s.heap) (r : Rm A 2) (hp : PairsAt s.heap a ps) (hz : ps.length ≤ 1000) (hf : ∀ p ∈ ps, p.2.length ≤ 18) :
    codeAny (model pw w) A (.call (.ref 165) ⟨[.int 2 u, .ref a], []⟩) (Out s fun v h => ∃ D, v = .ref D ∧ PairsAt h D (dueGo 2 [] ps) ∧ s.heap.get? D = none) s := by
  refine call_plain_ret (name := Str.ofString "_law_due") (params := fP (st 15)) (body := fB (st 15)) (scope := fS (st 15)) (binds := [(Str.ofString "hand", .int 2 u), (Str.ofString "pairs", .ref a)]) r.room (C.X 165 _ rfl) rfl C.T.nolimit (codeRec_of C.X (by kernel_rfl)) (by rfl) (locs rfl) (fun h₁ F => ?_) rfl rfl rfl (by decide +kernel)
  have N : News s.heap s.heap.objs.size h₁ [] := News.nil
  have hh : A.handled = none := r.hh
  have hu : A.units + 3 + 3 * 1 ≤ 900 := by have := r.hu; omega
  have T := C.T
  change wpAny _ _ (execs [_, _, _] _) _ _ _
  repeat ((fail_if_success (with_reducible show wpAny _ _ (exec (Stmt.For _ _ _ _ _) _) _ _ _)); first | walk1 | (dsimp only; walk1))
  rename Fr _ _ _ _ => F'
  rename News _ _ _ _ => N'
  refine for_due (k := 2) (ki := 2) (u := u) hh F' hp hf hz (fun Q q => ld F' rfl q) ⟨rfl, _, [], rfl, PairsP.nil ⟨_, N'.get (List.Mem.head _)⟩, N'.fresh (List.Mem.head _), rfl, Nat.le_refl _⟩ ?_ ?_ ?_
  · clear F' N'
    intro I i q r' t1 t2 D made h' tk m' E' hdrop hq hml hi hns F' hx hy hand hm hpm hD hI
    have N' : News s.heap s.heap.objs.size h' [] := News.nil
    change wpAny _ _ (execs _ (envOf (Str.ofString "_law_due") (fS (st 15)) s.heap.objs.size 165 _)) _ _ _
    repeat ((fail_if_success (with_reducible show wpAny _ _ (exec (Stmt.Assign _ _ _) _) _ _ _)); (fail_if_success (with_reducible show wpAny _ _ (exec (Stmt.Expr _ _) _) _ _ _)); (fail_if_success (with_reducible show wpAny _ _ (eval (Expr.List _ _) _) _ _ _)); (fail_if_success (with_reducible show wpAny _ _ (eval (Expr.ListComp _ _ _ _) _) _ _ _)); first | walk1 | (dsimp only; walk1))
    refine asg_add F' hm hpm.at (qs := if q.1 = [32] then [] else [q]) (by rw [sizeLine_eq]; split <;> simp <;> omega) (fun Q' hQ' => ?_) fun D' h₂ tk₂ F₂ hp₂ hD₂ k₂ => ?_
    · repeat ((fail_if_success (with_reducible show wpAny _ _ (exec (Stmt.Assign _ _ _) _) _ _ _)); (fail_if_success (with_reducible show wpAny _ _ (exec (Stmt.Expr _ _) _) _ _ _)); (fail_if_success (with_reducible show wpAny _ _ (eval (Expr.List _ _) _) _ _ _)); (fail_if_success (with_reducible show wpAny _ _ (eval (Expr.ListComp _ _ _ _) _) _ _ _)); first | walk1 | (dsimp only; walk1))
      · rename (ofL q.1 != Str.ofString " ") = true => c
        rw [if_neg (bne_t c)] at hQ'
        exact eval_one rfl F'.ns (by rfl) (by rfl) hx hy (by decide +kernel) (by decide +kernel) fun D' h'' hp' k => hQ' D' h'' _ hp' k
      · rename (ofL q.1 != Str.ofString " ") = false => c
        rw [if_pos (bne_f c)] at hQ'
        exact eval_none fun D' h'' hp' _ k => hQ' D' h'' _ hp'.at k
    · dsimp only
      repeat (first | walk1 | (dsimp only; walk1))
      exact ⟨h₂, _, _, rfl, F₂, by rw [if_neg (by decide +kernel)]; exact hand, ⟨_, _, by simp, hp₂, hD₂, by rw [dueGo], by rw [List.length_append]; split <;> simp <;> omega⟩, hI.at fun o e => k₂ _ o (iter_ne_ns hI hns) e⟩

  · intro h' tk m' D F' hm hp' hD'
    repeat (first | walk1 | (dsimp only; walk1))
    exact ⟨⟨_, rfl, _, rfl, hp', hD'⟩, _, _, rfl, F'.keep⟩
  · intro h' tk D hp' hD' k
    exact ⟨⟨_, rfl, _, rfl, hp', hD'⟩, _, _, rfl, k⟩
theorem due3 {a : Addr} {ps : List Pr} {u : Tok} (C : Cx w mg mb s.heap) (r : Rm A 2) (hp : PairsAt s.heap a ps) (hz : ps.length ≤ 1000) (hf : ∀ p ∈ ps, p.2.length ≤ 18) :
    codeAny (model pw w) A (.call (.ref 165) ⟨[.int 3 u, .ref a], []⟩) (Out s fun v h => ∃ D, v = .ref D ∧ PairsAt h D (dueGo 3 [] ps) ∧ s.heap.get? D = none) s := by
  refine call_plain_ret (name := Str.ofString "_law_due") (params := fP (st 15)) (body := fB (st 15)) (scope := fS (st 15)) (binds := [(Str.ofString "hand", .int 3 u), (Str.ofString "pairs", .ref a)]) r.room (C.X 165 _ rfl) rfl C.T.nolimit (codeRec_of C.X (by kernel_rfl)) (by rfl) (locs rfl) (fun h₁ F => ?_) rfl rfl rfl (by decide +kernel)
  have N : News s.heap s.heap.objs.size h₁ [] := News.nil
  have hh : A.handled = none := r.hh
  have hu : A.units + 3 + 3 * 1 ≤ 900 := by have := r.hu; omega
  have T := C.T
  change wpAny _ _ (execs [_, _, _] _) _ _ _
  repeat ((fail_if_success (with_reducible show wpAny _ _ (exec (Stmt.For _ _ _ _ _) _) _ _ _)); first | walk1 | (dsimp only; walk1))
  rename Fr _ _ _ _ => F'
  rename News _ _ _ _ => N'
  refine for_due (k := 3) (ki := 3) (u := u) hh F' hp hf hz (fun Q q => ld F' rfl q) ⟨rfl, _, [], rfl, PairsP.nil ⟨_, N'.get (List.Mem.head _)⟩, N'.fresh (List.Mem.head _), rfl, Nat.le_refl _⟩ ?_ ?_ ?_
  · clear F' N'
    intro I i q r' t1 t2 D made h' tk m' E' hdrop hq hml hi hns F' hx hy hand hm hpm hD hI
    have N' : News s.heap s.heap.objs.size h' [] := News.nil
    change wpAny _ _ (execs _ (envOf (Str.ofString "_law_due") (fS (st 15)) s.heap.objs.size 165 _)) _ _ _
    repeat ((fail_if_success (with_reducible show wpAny _ _ (exec (Stmt.Assign _ _ _) _) _ _ _)); (fail_if_success (with_reducible show wpAny _ _ (exec (Stmt.Expr _ _) _) _ _ _)); (fail_if_success (with_reducible show wpAny _ _ (eval (Expr.List _ _) _) _ _ _)); (fail_if_success (with_reducible show wpAny _ _ (eval (Expr.ListComp _ _ _ _) _) _ _ _)); first | walk1 | (dsimp only; walk1))
    refine eval_strsL [(Str.ofString "\n", 0, ⟨119, 36, 119, 40⟩), (Str.ofString "\t", 0, ⟨119, 42, 119, 46⟩), (Str.ofString "\u000d", 0, ⟨119, 48, 119, 52⟩), (Str.ofString " ", 0, ⟨119, 54, 119, 57⟩)] (by decide) fun Dl hl2 tkl vs hvs hil k2 => ?_
    have F2 := Fr.ext' F' k2
    have hpm2 := hpm.keeps k2
    have hI2 : hl2.IsListIter I a (i + 1) := hI.at fun o e => k2 _ o e
    have hn2 := hns.keeps k2
    refine in_list_strs hil hvs ?_
    clear F'
    have N'' : News s.heap s.heap.objs.size hl2 [] := News.nil
    repeat ((fail_if_success (with_reducible show wpAny _ _ (exec (Stmt.Assign _ _ _) _) _ _ _)); (fail_if_success (with_reducible show wpAny _ _ (exec (Stmt.Expr _ _) _) _ _ _)); (fail_if_success (with_reducible show wpAny _ _ (eval (Expr.List _ _) _) _ _ _)); (fail_if_success (with_reducible show wpAny _ _ (eval (Expr.ListComp _ _ _ _) _) _ _ _)); first | walk1 | (dsimp only; walk1))
    · rename _ = true => c
      have c := any_t [[10], [9], [13], [32]] (by decide +kernel) c
      refine eval_none fun D3 h3 hp3 _ k3 => ?_
      have F3 := Fr.ext' F2 k3
      have hpm3 := hpm2.keeps k3
      have hI3 : h3.IsListIter I a (i + 1) := hI2.at fun o e => k3 _ o e
      clear F2 N' N''
      have N3 : News s.heap s.heap.objs.size h3 [] := News.nil
      refine ne_none hpm3.at hp3.at (by show A.units + 3 < cLine; unfold cLine; omega) ?_
      repeat (first | walk1 | (dsimp only; walk1))
      · rename made ≠ [] => c2
        exact ⟨_, _, D, made, rfl, rfl, hpm3.at, hD, by rw [due3_b c, if_neg c2], F3.keep⟩
      · rename ¬ made ≠ [] => c2
        try dsimp only
        repeat (first | walk1 | (dsimp only; walk1))
        exact ⟨h3, _, _, rfl, F3, hand, ⟨_, _, hm, hpm3, hD, by rw [due3_b c, if_pos (Decidable.not_not.mp c2)], by omega⟩, hI3⟩
    · rename _ = false => c
      have c := any_f [[10], [9], [13], [32]] (by decide +kernel) c
      rw [if_neg Bool.false_ne_true]
      repeat ((fail_if_success (with_reducible show wpAny _ _ (exec (Stmt.Assign _ _ _) _) _ _ _)); (fail_if_success (with_reducible show wpAny _ _ (exec (Stmt.Expr _ _) _) _ _ _)); (fail_if_success (with_reducible show wpAny _ _ (eval (Expr.List _ _) _) _ _ _)); (fail_if_success (with_reducible show wpAny _ _ (eval (Expr.ListComp _ _ _ _) _) _ _ _)); first | walk1 | (dsimp only; walk1))
      refine asg_app F2 hm hpm2 hx hy hD (by rw [sizeLine_eq]; omega) fun h3 tk3 F3 hpm3 k3 => ?_
      dsimp only
      repeat (first | walk1 | (dsimp only; walk1))
      exact ⟨h3, _, _, rfl, F3, hand, ⟨_, _, hm, hpm3, hD, by rw [due3_c c], by simp⟩, hI2.at fun o e => k3 _ o (list_ne_iter hpm2.list hI2) e⟩

  · intro h' tk m' D F' hm hp' hD'
    repeat (first | walk1 | (dsimp only; walk1))
    exact ⟨⟨_, rfl, _, rfl, hp', hD'⟩, _, _, rfl, F'.keep⟩
  · intro h' tk D hp' hD' k
    exact ⟨⟨_, rfl, _, rfl, hp', hD'⟩, _, _, rfl, k⟩
theorem due4 {a : Addr} {ps : List Pr} {u : Tok} (C : Cx w mg mb s.heap) (r : Rm A 2) (hp : PairsAt s.heap a ps) (hz : ps.length ≤ 1000) (hf : ∀ p ∈ ps, p.2.length ≤ 18) :
    codeAny (model pw w) A (.call (.ref 165) ⟨[.int 4 u, .ref a], []⟩) (Out s fun v h => ∃ D, v = .ref D ∧ PairsAt h D (dueGo 4 [] ps) ∧ s.heap.get? D = none) s := by
  refine call_plain_ret (name := Str.ofString "_law_due") (params := fP (st 15)) (body := fB (st 15)) (scope := fS (st 15)) (binds := [(Str.ofString "hand", .int 4 u), (Str.ofString "pairs", .ref a)]) r.room (C.X 165 _ rfl) rfl C.T.nolimit (codeRec_of C.X (by kernel_rfl)) (by rfl) (locs rfl) (fun h₁ F => ?_) rfl rfl rfl (by decide +kernel)
  have N : News s.heap s.heap.objs.size h₁ [] := News.nil
  have hh : A.handled = none := r.hh
  have hu : A.units + 3 + 3 * 1 ≤ 900 := by have := r.hu; omega
  have T := C.T
  change wpAny _ _ (execs [_, _, _] _) _ _ _
  repeat ((fail_if_success (with_reducible show wpAny _ _ (exec (Stmt.For _ _ _ _ _) _) _ _ _)); first | walk1 | (dsimp only; walk1))
  rename Fr _ _ _ _ => F'
  rename News _ _ _ _ => N'
  refine for_due (k := 4) (ki := 4) (u := u) hh F' hp hf hz (fun Q q => ld F' rfl q) ⟨rfl, _, [], rfl, PairsP.nil ⟨_, N'.get (List.Mem.head _)⟩, N'.fresh (List.Mem.head _), rfl, Nat.le_refl _⟩ ?_ ?_ ?_
  · clear F' N'
    intro I i q r' t1 t2 D made h' tk m' E' hdrop hq hml hi hns F' hx hy hand hm hpm hD hI
    have N' : News s.heap s.heap.objs.size h' [] := News.nil
    change wpAny _ _ (execs _ (envOf (Str.ofString "_law_due") (fS (st 15)) s.heap.objs.size 165 _)) _ _ _
    repeat ((fail_if_success (with_reducible show wpAny _ _ (exec (Stmt.Assign _ _ _) _) _ _ _)); (fail_if_success (with_reducible show wpAny _ _ (exec (Stmt.Expr _ _) _) _ _ _)); (fail_if_success (with_reducible show wpAny _ _ (eval (Expr.List _ _) _) _ _ _)); (fail_if_success (with_reducible show wpAny _ _ (eval (Expr.ListComp _ _ _ _) _) _ _ _)); first | walk1 | (dsimp only; walk1))
    refine eval_strsL [(Str.ofString ":", 0, ⟨122, 36, 122, 39⟩), (Str.ofString "\n", 0, ⟨122, 41, 122, 45⟩)] (by decide) fun Dl hl2 tkl vs hvs hil k2 => ?_
    have F2 := Fr.ext' F' k2
    have hpm2 := hpm.keeps k2
    have hI2 : hl2.IsListIter I a (i + 1) := hI.at fun o e => k2 _ o e
    have hn2 := hns.keeps k2
    refine in_list_strs hil hvs ?_
    clear F'
    have N'' : News s.heap s.heap.objs.size hl2 [] := News.nil
    repeat ((fail_if_success (with_reducible show wpAny _ _ (exec (Stmt.Assign _ _ _) _) _ _ _)); (fail_if_success (with_reducible show wpAny _ _ (exec (Stmt.Expr _ _) _) _ _ _)); (fail_if_success (with_reducible show wpAny _ _ (eval (Expr.List _ _) _) _ _ _)); (fail_if_success (with_reducible show wpAny _ _ (eval (Expr.ListComp _ _ _ _) _) _ _ _)); first | walk1 | (dsimp only; walk1))
    · rename _ = true => c
      have c := any_t [[58], [10]] (by decide +kernel) c
      exact ⟨_, _, D, made, rfl, rfl, hpm2.at, hD, by rw [due4_b c], F2.keep⟩
    · rename _ = false => c
      have c := any_f [[58], [10]] (by decide +kernel) c
      rw [if_neg Bool.false_ne_true]
      repeat ((fail_if_success (with_reducible show wpAny _ _ (exec (Stmt.Assign _ _ _) _) _ _ _)); (fail_if_success (with_reducible show wpAny _ _ (exec (Stmt.Expr _ _) _) _ _ _)); (fail_if_success (with_reducible show wpAny _ _ (eval (Expr.List _ _) _) _ _ _)); (fail_if_success (with_reducible show wpAny _ _ (eval (Expr.ListComp _ _ _ _) _) _ _ _)); first | walk1 | (dsimp only; walk1))
      · rename (ofL q.1 == Str.ofString ".") = true => c2
        refine asg_nil F2 fun D' h3 tk3 F3 hpm3 hD3 k3 => ?_
        dsimp only
        repeat (first | walk1 | (dsimp only; walk1))
        exact ⟨h3, _, _, rfl, F3, by rw [if_neg (by decide +kernel)]; exact hand, ⟨_, _, by simp, hpm3, hD3, by rw [due4_c c (beq_t c2)], Nat.zero_le _⟩, hI2.at fun o e => k3 _ o (iter_ne_ns hI2 hn2) e⟩
      · rename (ofL q.1 == Str.ofString ".") = false => c2
        rw [if_neg Bool.false_ne_true]
        repeat ((fail_if_success (with_reducible show wpAny _ _ (exec (Stmt.Assign _ _ _) _) _ _ _)); (fail_if_success (with_reducible show wpAny _ _ (exec (Stmt.Expr _ _) _) _ _ _)); (fail_if_success (with_reducible show wpAny _ _ (eval (Expr.List _ _) _) _ _ _)); (fail_if_success (with_reducible show wpAny _ _ (eval (Expr.ListComp _ _ _ _) _) _ _ _)); first | walk1 | (dsimp only; walk1))
        refine asg_app F2 hm hpm2 hx hy hD (by rw [sizeLine_eq]; omega) fun h3 tk3 F3 hpm3 k3 => ?_
        dsimp only
        repeat (first | walk1 | (dsimp only; walk1))
        exact ⟨h3, _, _, rfl, F3, hand, ⟨_, _, hm, hpm3, hD, by rw [due4_d c (beq_f c2)], by rw [List.length_append]; exact Nat.add_le_add_left (show 1 ≤ 18 by decide) _⟩, hI2.at fun o e => k3 _ o (list_ne_iter hpm2.list hI2) e⟩

  · intro h' tk m' D F' hm hp' hD'
    repeat (first | walk1 | (dsimp only; walk1))
    exact ⟨⟨_, rfl, _, rfl, hp', hD'⟩, _, _, rfl, F'.keep⟩
  · intro h' tk D hp' hD' k
    exact ⟨⟨_, rfl, _, rfl, hp', hD'⟩, _, _, rfl, k⟩
end
end Mine
end

section
open PySem PySem.W PySem.Calls PyProof.Rows PyProof.V
set_option Elab.async false
set_option maxRecDepth 100000
set_option maxHeartbeats 4000000
namespace Mine
noncomputable def noiseT : List Int := 173 :: 847 :: 6150 :: 6155 :: 6156 :: 6157 :: 8203 :: 8204 :: 8205 :: 8288 :: 65279 :: rangeInts 65024 1 16
noncomputable def basesT : List Int := [119808, 119860, 119912, 120016, 120172, 120224, 120276, 120328, 120380, 120432]
noncomputable def onesT : List Str := [Str.ofString "\n\n", Str.ofString "\t\t", Str.ofString "\x0d\x0d", Str.ofString "  ", Str.ofString "..", Str.ofString "::", Str.ofString "ͺ ι", Str.ofString "㏇co."]
noncomputable def coatsT : List Str := [Str.ofString "ßss", Str.ofString "ŉʼn", Str.ofString "ẚaʾ", Str.ofString "℡tel", Str.ofString "ﬃffi", Str.ofString "ſs"]
noncomputable def cutS (x : Str) : Str × Str := (Txt.item x 0, Txt.slice x (some 1) none)
/-- what _law_drawn makes of a number -/
noncomputable def drawnS (n : Int) : Str × Str :=
  if n.fmod 4 = 1 then (⟨#[(noiseT.getD ((n.fdiv 4).fmod 27).toNat 0).toNat]⟩, Str.ofString "")
  else if n.fmod 4 = 2 then (if 64 < (n.fdiv 4).fmod 128 ∧ (n.fdiv 4).fmod 128 < 91 then (⟨#[((n.fdiv 4).fmod 128).toNat]⟩, ⟨#[((n.fdiv 4).fmod 128 + 32).toNat]⟩) else (⟨#[((n.fdiv 4).fmod 128).toNat]⟩, ⟨#[((n.fdiv 4).fmod 128).toNat]⟩))
  else if n.fmod 4 = 3 then
    (if 5 < (n.fdiv 4).fmod 16 then (⟨#[(basesT.getD ((n.fdiv 4).fmod 16 - 6).toNat 0 + ((n.fdiv 4).fdiv 16).fmod 26).toNat]⟩, ⟨#[(97 + ((n.fdiv 4).fdiv 16).fmod 26).toNat]⟩) else cutS (coatsT.getD ((n.fdiv 4).fmod 16).toNat Str.empty))
  else cutS (onesT.getD ((n.fdiv 4).fmod 8).toNat Str.empty)
theorem dr1 {n : Int} (h : n.fmod 4 = 1) : drawnS n = (⟨#[(noiseT.getD ((n.fdiv 4).fmod 27).toNat 0).toNat]⟩, Str.ofString "") := if_pos h
theorem dr2a {n : Int} (h : n.fmod 4 = 2) (c : 64 < (n.fdiv 4).fmod 128 ∧ (n.fdiv 4).fmod 128 < 91) : drawnS n = (⟨#[((n.fdiv 4).fmod 128).toNat]⟩, ⟨#[((n.fdiv 4).fmod 128 + 32).toNat]⟩) := by
  unfold drawnS; rw [if_neg (by rw [h]; decide), if_pos h, if_pos c]
theorem dr2b {n : Int} (h : n.fmod 4 = 2) (c : ¬ (64 < (n.fdiv 4).fmod 128 ∧ (n.fdiv 4).fmod 128 < 91)) : drawnS n = (⟨#[((n.fdiv 4).fmod 128).toNat]⟩, ⟨#[((n.fdiv 4).fmod 128).toNat]⟩) := by
  unfold drawnS; rw [if_neg (by rw [h]; decide), if_pos h, if_neg c]
theorem dr3a {n : Int} (h : n.fmod 4 = 3) (c : 5 < (n.fdiv 4).fmod 16) : drawnS n = (⟨#[(basesT.getD ((n.fdiv 4).fmod 16 - 6).toNat 0 + ((n.fdiv 4).fdiv 16).fmod 26).toNat]⟩, ⟨#[(97 + ((n.fdiv 4).fdiv 16).fmod 26).toNat]⟩) := by
  unfold drawnS; rw [if_neg (by rw [h]; decide), if_neg (by rw [h]; decide), if_pos h, if_pos c]
theorem dr3b {n : Int} (h : n.fmod 4 = 3) (c : ¬ 5 < (n.fdiv 4).fmod 16) : drawnS n = cutS (coatsT.getD ((n.fdiv 4).fmod 16).toNat Str.empty) := by
  unfold drawnS; rw [if_neg (by rw [h]; decide), if_neg (by rw [h]; decide), if_pos h, if_neg c]
theorem dr4 {n : Int} (h1 : n.fmod 4 ≠ 1) (h2 : n.fmod 4 ≠ 2) (h3 : n.fmod 4 ≠ 3) : drawnS n = cutS (onesT.getD ((n.fdiv 4).fmod 8).toNat Str.empty) := by
  unfold drawnS; rw [if_neg h1, if_neg h2, if_neg h3]
theorem fm0 {a b : Int} (h : 0 < b) : 0 ≤ a.fmod b := Int.fmod_nonneg_of_pos _ h
theorem fm1 {a b : Int} (h : 0 < b) : a.fmod b < b := Int.fmod_lt_of_pos _ h
theorem gd0 {l : List Int} {k : Nat} (h : (l.all fun x => decide (0 ≤ x ∧ x ≤ 1000000)) = true) : 0 ≤ l.getD k 0 := by
  rw [List.getD_eq_getElem?_getD]
  cases e : l[k]? with
  | none => exact Int.le_refl _
  | some x => exact (of_decide_eq_true (List.all_eq_true.mp h x (List.mem_of_getElem? e))).1
theorem gd1 {l : List Int} {k : Nat} (h : (l.all fun x => decide (0 ≤ x ∧ x ≤ 1000000)) = true) : l.getD k 0 ≤ 1000000 := by
  rw [List.getD_eq_getElem?_getD]
  cases e : l[k]? with
  | none => exact (by decide : (0 : Int) ≤ 1000000)
  | some x => exact (of_decide_eq_true (List.all_eq_true.mp h x (List.mem_of_getElem? e))).2
section
variable {w : World} {A : Around} {s : Shared} {mg mb : Str → Option Value}
local macro_rules | `(tactic| walk_at "unpackItems ref") => `(tactic| (refine' unpackItemsN_ ?F ?N ?t ?h ?n ?_; (case F => k_asm); (case N => k_asm); (case t => exact News.isTup (by k_asm) (by k_mem)); (case h => assumption); (case n => rfl); intro h' F' N'; (try k_sweep)))
local macro_rules | `(tactic| walk_at "assign Tuple") => `(tactic| (refine' unpackN_ ?k1 ?k2 ?k3 ?k4 ?k5 ?k6 ?_; (case k1 => k_asm); (case k2 => k_asm); (case k3 => kun_tup); (case k4 => assumption); (case k5 => exact rfl); (case k6 => exact rfl); intro h' F' N'; (try k_sweep)))
local macro_rules | `(tactic| walk_at "call type:list") => `(tactic| ((rename IsRange _ _ _ _ _ _ _ _ => R'); (refine' list_rangeD (n := 16) ?h ?F ?N R' ?s ?n ?l ?_; (case h => assumption); (case F => k_asm); (case N => k_asm); (case s => decide +kernel); (case n => decide +kernel); (case l => decide +kernel)); intro h' tk ys F' N' k' hD hL hP hC; have hI := IntsAre.ofCarried hC))
local macro_rules | `(tactic| walk_at "binaryOp Add ref ref") => `(tactic| ((rename IntsAre _ _ => hI'); (rename Heap.IsList _ _ (List.toArray _) => hL'); refine' add_lists_ints ?F ?N ?a hL' ?i hI' ?_ ?z; (case F => k_asm); (case N => k_asm); (case a => exact News.isList (by k_asm) (by news_mem)); (case i => repeat constructor); (case z => decide +kernel); intro h' F' N' hI2))
theorem item_strsT {value slice : Expr} {l : Addr} {vs : List Value} {ys : List Str} {k : Int} {u : Tok} {E : Value → Shared → Prop} {Q : Value → Shared → Prop} (hl : s.heap.IsList l vs.toArray) (hi : StrsAre vs ys)
    (h0 : 0 ≤ k) (hk : k < ys.length) (hf : k < 2 ^ 63) (h : ∀ t, Q (.str (ys.getD k.toNat Str.empty) t) s)
    (hs : subscripted slice false (.ref l) (.int k u) = operate [.ref l, .int k u] (getItem (.ref l) (.int k u)) := by with_unfolding_all rfl) :
    wpAny (model pw w) A (subscriptTail value slice (.ref l) (.int k u)) Q E s :=
  kba_turn (value' := .Name (Str.ofString "x") ⟨0, 0, 0, 0⟩) (fun _ => rfl) (item_strsA hl hi h0 hk hf h hs (fun _ => rfl))
local macro_rules | `(tactic| walk_at "call builtin:chr") => `(tactic| ((refine' chr_of_range ?a ?b ?_); (case a => first | exact gd0 (by decide +kernel) | exact Int.add_nonneg (gd0 (by decide +kernel)) (fm0 (by decide))); (case b => first | exact Int.le_trans (gd1 (by decide +kernel)) (by decide) | (exact Int.le_trans (Int.add_le_add (gd1 (by decide +kernel)) (Int.le_of_lt (fm1 (by decide)))) (by decide)))))
theorem out_drawn {n : Int} {s s' : Shared} {l : Addr} {x y : Str} {t u : Tok} (hl : s'.heap.IsList l #[.str x t, .str y u]) (e : drawnS n = (x, y)) (hb : s.heap.objs.size ≤ l) (k : Keeps s s') :
    Out s (fun v h => ∃ b t u, v = .ref b ∧ s.heap.objs.size ≤ b ∧ h.IsList b #[.str (drawnS n).1 t, .str (drawnS n).2 u]) (.ok (.ret (.ref l))) s' := by
  refine ⟨⟨_, rfl, l, t, u, rfl, hb, ?_⟩, k⟩
  rw [e]
  exact hl
theorem with_len {value slice : Expr} {l : List Str} {k : Nat} {t : Tok} {i : Value} {E : Value → Shared → Prop} {Q : Value → Shared → Prop} (hk : k < l.length) (ha : (l.all fun x => decide (0 < x.length ∧ x.length ≤ 1000)) = true)
    (h : 0 < (l.getD k Str.empty).length → (l.getD k Str.empty).length ≤ 1000 → wpAny (model pw w) A (subscriptTail value slice (.str (l.getD k Str.empty) t) i) Q E s) :
    wpAny (model pw w) A (subscriptTail value slice (.str (l.getD k Str.empty) t) i) Q E s := by
  have hm : l.getD k Str.empty ∈ l := by
    rw [List.getD_eq_getElem?_getD, List.getElem?_eq_getElem hk]
    exact List.getElem_mem hk
  have := of_decide_eq_true (List.all_eq_true.mp ha _ hm)
  exact h this.1 this.2
theorem tdrawn {n : Int} {u : Tok} (C : Cx w mg mb s.heap) (r : Rm A 1) :
    codeAny (model pw w) A (.call (.ref 148) ⟨[.int n u], []⟩) (Out s fun v h => ∃ b t u, v = .ref b ∧ s.heap.objs.size ≤ b ∧ h.IsList b #[.str (drawnS n).1 t, .str (drawnS n).2 u]) s := by
  refine call_plain_ret (name := Str.ofString "_law_drawn") (params := fP (st 12)) (body := fB (st 12)) (scope := fS (st 12)) (binds := [(Str.ofString "number", .int n u)]) r.room (C.X 148 _ rfl) rfl C.T.nolimit (codeRec_of C.X (by kernel_rfl)) (by rfl) (locs rfl) (fun h₁ F => ?_) rfl rfl rfl (by decide +kernel)
  have N : News s.heap s.heap.objs.size h₁ [] := News.nil
  have hh : A.handled = none := r.hh
  have hL1 : s.heap.objs.size < h₁.objs.size := by obtain ⟨_, _, _, hq, _⟩ := F.ns; exact Heap.lt_size hq
  have X := C.X
  have T := C.T
  change wpAny _ _ (execs [_, _, _, _, _, _] _) _ _ _
  repeat' ((fail_if_success (with_reducible show wpAny _ _ (exec (Stmt.Return _ _) _) _ _ _)); first | ((with_reducible show wpAny _ _ (subscriptTail _ _ (Value.ref _) (Value.int _ _)) _ _ _); (refine' item_strsT ?hl ?hi ?h0 ?hk ?hf ?_; (case hl => exact News.isList (by k_asm) (by news_mem)); (case hi => repeat constructor); (case h0 => exact fm0 (by decide)); (case hk => first | exact fm1 (by decide) | (rename ¬ _ < Int.fmod _ _ => c; exact Int.lt_of_le_of_lt (Int.not_lt.mp c) (by decide))); (case hf => exact Int.lt_of_lt_of_le (fm1 (by decide)) (by decide)); intro t')) | walk1 | (dsimp only; walk1))
  all_goals repeat' (first | walk1 | (dsimp only; walk1))
  all_goals try ((with_reducible show wpAny _ _ (subscriptTail _ _ (Value.str _ _) _) _ _ _); (refine with_len ?hk (by decide +kernel) ?_; (case hk => first | (exact (Int.toNat_lt (fm0 (by decide))).mpr (fm1 (by decide))) | (rename ¬ _ < Int.fmod _ _ => c; exact (Int.toNat_lt (fm0 (by decide))).mpr (Int.lt_of_le_of_lt (Int.not_lt.mp c) (by decide)))); intro hlen1 hlen2; repeat' (first | walk1 | (dsimp only; walk1))))
  all_goals
    rename News _ _ _ _ => N'
    have hI := News.isList N' (List.Mem.head _)
    refine out_drawn hI ?_ (Nat.le_of_lt (Nat.lt_trans hL1 ?_)) ⟨_, _, rfl, Fr.keep (by assumption)⟩
    · first
        | exact dr1 (by assumption)
        | exact dr2a (by assumption) (by constructor <;> omega)
        | exact dr2b (by assumption) (by omega)
        | exact dr3a (by assumption) (by assumption)
        | exact dr3b (by assumption) (by assumption)
        | exact dr4 (by assumption) (by assumption) (by assumption)
    · first | assumption | exact And.right (by assumption) | exact And.right (And.right (by assumption)) | exact And.right (And.right (And.right (by assumption)))
end
end Mine
end

section
open PySem PySem.W PySem.Calls PyProof.Rows PyProof.V
set_option Elab.async false
set_option maxRecDepth 100000
set_option maxHeartbeats 4000000
namespace Mine
section
variable {w : World} {A : Around} {s : Shared} {mg mb : Str → Option Value}
theorem laid4 {x : Str} {t u : Tok} (C : Cx w mg mb s.heap) (r : Rm A 3) (hz : x.length ≤ 1000) :
    codeAny (model pw w) A (.call (.ref 160) ⟨[.int 4 u, .str x t], []⟩) (Out s fun v _ => ∃ u, v = .str (ofL (stripF (sl x))) u) s := by
  refine call_plain_ret (name := Str.ofString "_law_laid") (params := fP (st 14)) (body := fB (st 14)) (scope := fS (st 14)) (binds := [(Str.ofString "hand", .int 4 u), (Str.ofString "text", .str x t)]) r.room (C.X 160 _ rfl) rfl C.T.nolimit (codeRec_of C.X (by kernel_rfl)) (by rfl) (locs rfl) (fun h₁ F => ?_) rfl rfl rfl (by decide +kernel)
  have N : News s.heap s.heap.objs.size h₁ [] := News.nil
  have hh : A.handled = none := r.hh
  have X := C.X
  have T := C.T
  change wpAny _ _ (execs [_, _, _, _, _] _) _ _ _
  have C1 : Cx w mg mb h₁ := C.keeps F.keep
  repeat ((fail_if_success (with_reducible show wpAny _ _ (call _ _) _ _ _)); first | walk1 | (dsimp only; walk1))
  refine use_out (tstrip C1 ⟨hh, by have := r.hd; show A.depth + 1 + 1 ≤ 900; omega, by have := r.hu; show A.units + 3 + 3 * 1 ≤ 900; omega⟩ hz) ?_
  rintro v h' tk ⟨u', rfl⟩ hk'
  repeat (first | walk1 | (dsimp only; walk1))
  exact ⟨⟨_, rfl, _, rfl⟩, _, _, rfl, fun b o e => hk' b o (F.keep b o e)⟩
end
end Mine
end

section
open PySem PySem.W PySem.Calls PyProof.Rows PyProof.V
set_option Elab.async false
set_option maxRecDepth 100000
set_option maxHeartbeats 4000000
namespace Mine
/-- all pairs that _law_drawn makes -/
noncomputable def drawnU : List (Str × Str) :=
  (noiseT.map fun k => ((⟨#[k.toNat]⟩ : Str), Str.ofString "")) ++
  ((List.range 128).map fun c => ((⟨#[c]⟩ : Str), (⟨#[if 64 < c ∧ c < 91 then c + 32 else c]⟩ : Str))) ++
  (basesT.flatMap fun b => (List.range 26).map fun k => ((⟨#[b.toNat + k]⟩ : Str), (⟨#[97 + k]⟩ : Str))) ++
  coatsT.map cutS ++ onesT.map cutS
/-- map_table_b3's table with its keys as Nat: cheap to look through -/
noncomputable def b3K : List (Nat × Str) := b3L.map fun x => (x.1.1.toNat, x.2.1)
theorem b3K_ok : (b3L.all fun x => decide (0 ≤ x.1.1)) = true := by decide +kernel
noncomputable def foldN (c : Nat) : Str := match b3K.find? fun x => Nat.beq x.1 c with
  | some x => x.2
  | none => Txt.lower (sg c)
theorem foldS_is (c : Nat) : foldS c = foldN c := by
  have key : b3look c = (b3K.find? fun x => Nat.beq x.1 c).map (·.2) := by
    show Option.map (fun x => x.2.1) (List.find? (fun x => x.1.1 == (c : Int)) b3L) = _
    have ok := List.all_eq_true.mp b3K_ok
    show _ = ((b3L.map _).find? _).map _
    rw [List.find?_map, Option.map_map]
    have e : b3L.find? (fun x => x.1.1 == (c : Int)) = b3L.find? ((fun x : Nat × Str => Nat.beq x.1 c) ∘ fun x => (x.1.1.toNat, x.2.1)) := by
      revert ok
      generalize b3L = l
      intro ok
      induction l with
      | nil => rfl
      | cons a t ih =>
        have h0 : 0 ≤ a.1.1 := of_decide_eq_true (ok a (.head _))
        rw [List.find?_cons, List.find?_cons, ih fun x hx => ok x (.tail _ hx)]
        have q : (a.1.1 == (c : Int)) = Nat.beq a.1.1.toNat c := by
          rw [Bool.eq_iff_iff, beq_iff_eq, Nat.beq_eq]
          omega
        simp only [q, Function.comp]
    rw [e]
    rfl
  unfold foldS foldN
  rw [key]
  cases b3K.find? fun x => Nat.beq x.1 c <;> rfl
theorem u_one : (drawnU.all fun d => d.1.cps.size == 1) = true := by decide +kernel
theorem u_b1 : (drawnU.all fun d => ((d.2.cps.size == 0) == b1mem (d.1.cps.getD 0 0))) = true := by decide +kernel
theorem u_len : (drawnU.all fun d => decide (d.2.cps.size ≤ 18)) = true := by decide +kernel
theorem u_foldK : (drawnU.all fun d => (d.2.cps.size == 0 || foldN (d.1.cps.getD 0 0) == d.2)) = true := by decide +kernel
theorem u_fold : (drawnU.all fun d => (d.2.cps.size == 0 || foldS (d.1.cps.getD 0 0) == d.2)) = true := by
  rw [← u_foldK]; simp only [foldS_is]
theorem u_low : (drawnU.all fun d => (Builtin.Str.tooLong (Txt.lower d.1).length == false)) = true := by decide +kernel
theorem u_low2 : (drawnU.all fun d => d.2.cps.all fun c => (Builtin.Str.tooLong (Txt.lower (sg c)).length == false)) = true := by decide +kernel
noncomputable def foldU : List Nat := (drawnU.flatMap fun d => d.2.cps.toList).eraseDups
theorem u_foldU : (foldU.all fun c => foldN c == sg c) = true := by decide +kernel
theorem u_fold2 : (drawnU.all fun d => d.2.cps.all fun c => foldS c == sg c) = true := by
  refine List.all_eq_true.mpr fun d hd => Array.all_eq_true'.mpr fun c hc => ?_
  rw [foldS_is]
  exact List.all_eq_true.mp u_foldU c (List.mem_eraseDups.mpr (List.mem_flatMap.mpr ⟨d, hd, Array.mem_toList_iff.mpr hc⟩))
theorem u_b12 : (drawnU.all fun d => d.2.cps.all fun c => !b1mem c) = true := by decide +kernel
end Mine
end

section
open PySem PySem.W PySem.Calls PyProof.Rows PyProof.V
set_option Elab.async false
set_option maxRecDepth 100000
set_option maxHeartbeats 4000000
namespace Mine
theorem getD_mem {α : Type} {l : List α} {k : Nat} {d : α} (h : k < l.length) : l.getD k d ∈ l := by
  rw [List.getD_eq_getElem?_getD, List.getElem?_eq_getElem h]
  exact List.getElem_mem h
theorem fmN {a b : Int} (h : 0 < b) : (a.fmod b).toNat < b.toNat := by
  have h0 := fm0 (a := a) h
  have h1 := fm1 (a := a) h
  omega
theorem drawnU_1 {d : Str × Str} (h : d ∈ noiseT.map fun k => ((⟨#[k.toNat]⟩ : Str), Str.ofString "")) : d ∈ drawnU := List.mem_append_left _ (List.mem_append_left _ (List.mem_append_left _ (List.mem_append_left _ h)))
theorem drawnU_2 {d : Str × Str} (h : d ∈ (List.range 128).map fun c => ((⟨#[c]⟩ : Str), (⟨#[if 64 < c ∧ c < 91 then c + 32 else c]⟩ : Str))) : d ∈ drawnU := List.mem_append_left _ (List.mem_append_left _ (List.mem_append_left _ (List.mem_append_right _ h)))
theorem drawnU_3 {d : Str × Str} (h : d ∈ basesT.flatMap fun b => (List.range 26).map fun k => ((⟨#[b.toNat + k]⟩ : Str), (⟨#[97 + k]⟩ : Str))) : d ∈ drawnU := List.mem_append_left _ (List.mem_append_left _ (List.mem_append_right _ h))
theorem drawnU_4 {d : Str × Str} (h : d ∈ coatsT.map cutS) : d ∈ drawnU := List.mem_append_left _ (List.mem_append_right _ h)
theorem drawnU_5 {d : Str × Str} (h : d ∈ onesT.map cutS) : d ∈ drawnU := List.mem_append_right _ h
theorem bases_nn : (basesT.all fun b => decide (0 ≤ b)) = true := by decide +kernel
theorem drawn_mem (n : Int) : drawnS n ∈ drawnU := by
  by_cases h1 : n.fmod 4 = 1
  · rw [dr1 h1]
    exact drawnU_1 (List.mem_map.mpr ⟨_, getD_mem (fmN (b := 27) (by decide)), rfl⟩)
  by_cases h2 : n.fmod 4 = 2
  · have h0 := fm0 (a := n.fdiv 4) (b := 128) (by decide)
    have hl := fm1 (a := n.fdiv 4) (b := 128) (by decide)
    generalize hc : (n.fdiv 4).fmod 128 = c at h0 hl
    by_cases c1 : 64 < c ∧ c < 91
    · rw [dr2a h2 (by rw [hc]; exact c1), hc]
      refine drawnU_2 (List.mem_map.mpr ⟨c.toNat, List.mem_range.mpr (by omega), ?_⟩)
      rw [if_pos (by omega), show c.toNat + 32 = (c + 32).toNat by omega]
    · rw [dr2b h2 (by rw [hc]; exact c1), hc]
      refine drawnU_2 (List.mem_map.mpr ⟨c.toNat, List.mem_range.mpr (by omega), ?_⟩)
      rw [if_neg (by omega)]
  by_cases h3 : n.fmod 4 = 3
  · have h0 := fm0 (a := n.fdiv 4) (b := 16) (by decide)
    have hl := fm1 (a := n.fdiv 4) (b := 16) (by decide)
    by_cases c1 : 5 < (n.fdiv 4).fmod 16
    · rw [dr3a h3 c1]
      have k0 := fm0 (a := (n.fdiv 4).fdiv 16) (b := 26) (by decide)
      have kl := fm1 (a := (n.fdiv 4).fdiv 16) (b := 26) (by decide)
      have hb : basesT.getD ((n.fdiv 4).fmod 16 - 6).toNat 0 ∈ basesT := getD_mem (show _ < 10 by omega)
      have hb0 := of_decide_eq_true (List.all_eq_true.mp bases_nn _ hb)
      generalize ((n.fdiv 4).fdiv 16).fmod 26 = k at k0 kl
      generalize basesT.getD ((n.fdiv 4).fmod 16 - 6).toNat 0 = b at hb hb0
      refine drawnU_3 (List.mem_flatMap.mpr ⟨b, hb, List.mem_map.mpr ⟨k.toNat, List.mem_range.mpr (by omega), ?_⟩⟩)
      rw [show b.toNat + k.toNat = (b + k).toNat by omega, show 97 + k.toNat = (97 + k).toNat by omega]
    · rw [dr3b h3 c1]
      exact drawnU_4 (List.mem_map.mpr ⟨_, getD_mem (show _ < 6 by omega), rfl⟩)
  · rw [dr4 h1 h2 h3]
    exact drawnU_5 (List.mem_map.mpr ⟨_, getD_mem (fmN (b := 8) (by decide)), rfl⟩)
end Mine
end

section
open PySem PySem.W PySem.Calls PyProof.Rows PyProof.V
set_option Elab.async false
set_option maxRecDepth 100000
set_option maxHeartbeats 4000000
namespace Mine
theorem tw_all {α : Type} {p : α → Bool} : ∀ {l : List α}, (∀ x ∈ l, p x = true) → l.takeWhile p = l
  | [], _ => rfl
  | a :: r, h => by rw [List.takeWhile_cons, h a (List.mem_cons_self ..), if_pos rfl, tw_all fun x hx => h x (List.mem_cons_of_mem _ hx)]
theorem tw_stop {α : Type} {p : α → Bool} {a : α} (h : p a = false) (b : List α) : ∀ (l : List α), (l ++ a :: b).takeWhile p = l.takeWhile p
  | [] => by simp [h]
  | c :: r => by
    rw [List.cons_append, List.takeWhile_cons, List.takeWhile_cons, tw_stop h b r]
noncomputable def blankB (x : List Nat) : Bool := decide (x ∈ ([[10], [9], [13], [32]] : List (List Nat)))
theorem due0_eq : ∀ (ps made : List Pr), dueGo 0 made ps = made ++ ps.filter fun p => !decide (p.2 = [])
  | [], made => by rw [dueGo]; simp
  | p :: r, made => by
    rw [dueGo, due0_eq r]
    by_cases h : p.2 = [] <;> simp [h]
theorem due1_eq : ∀ (ps made : List Pr), dueGo 1 made ps = made ++ ps.flatMap fun p => if p.2 = [] then [p] else p.2.map fun c => ([c], [c])
  | [], made => by rw [dueGo]; simp
  | p :: r, made => by
    rw [dueGo, due1_eq r]
    by_cases h : p.2 = [] <;> simp [h]
theorem due2_eq : ∀ (ps made : List Pr), dueGo 2 made ps = made ++ ps.filter fun p => !decide (p.1 = [32])
  | [], made => by rw [dueGo]; simp
  | p :: r, made => by
    rw [dueGo, due2_eq r]
    by_cases h : p.1 = [32] <;> simp [h]
theorem due3_eq : ∀ (ps made : List Pr), dueGo 3 made ps = if made = [] then (ps.dropWhile fun p => blankB p.1).takeWhile (fun p => !blankB p.1) else made ++ ps.takeWhile (fun p => !blankB p.1)
  | [], made => by
    rw [dueGo]
    by_cases h : made = [] <;> simp [h]
  | p :: r, made => by
    by_cases c : p.1 ∈ ([[10], [9], [13], [32]] : List (List Nat))
    · have cb : blankB p.1 = true := decide_eq_true c
      rw [due3_b c]
      by_cases h : made = []
      · subst h
        rw [if_pos rfl, due3_eq r, if_pos rfl, if_pos rfl, List.dropWhile_cons, cb]
        rfl
      · rw [if_neg h, if_neg h, List.takeWhile_cons, cb]
        simp
    · have cb : blankB p.1 = false := decide_eq_false c
      rw [due3_c c, due3_eq r, if_neg (by simp), List.append_assoc]
      by_cases h : made = []
      · subst h
        rw [if_pos rfl, List.dropWhile_cons, cb, if_neg Bool.false_ne_true, List.takeWhile_cons, cb]
        simp
      · rw [if_neg h, List.takeWhile_cons, cb]
        simp
/-- hand 4: from what was made so far, up to the first colon or line end, behind the last dot -/
theorem due4_eq : ∀ (ps made : List Pr), (∀ p ∈ made, p.1 ≠ [46]) →
    dueGo 4 made ps = (((made ++ ps.takeWhile fun p => !decide (p.1 ∈ ([[58], [10]] : List (List Nat)))).reverse.takeWhile fun p => !decide (p.1 = [46])).reverse)
  | [], made, hm => by
    rw [dueGo]
    have : (made.reverse.takeWhile fun p => !decide (p.1 = [46])) = made.reverse := tw_all fun p hp => by simpa using hm p (by simpa using hp)
    simp [this]
  | p :: r, made, hm => by
    by_cases c : p.1 ∈ ([[58], [10]] : List (List Nat))
    · rw [due4_b c, List.takeWhile_cons]
      have : (made.reverse.takeWhile fun p => !decide (p.1 = [46])) = made.reverse := tw_all fun p hp => by simpa using hm p (by simpa using hp)
      simp [c, this]
    · by_cases d : p.1 = [46]
      · rw [due4_c c d, due4_eq r [] (fun _ h => nomatch h), List.takeWhile_cons, decide_eq_false c]
        simp only [Bool.not_false, if_true, List.nil_append]
        rw [List.reverse_append, List.reverse_cons, List.append_assoc, List.singleton_append, tw_stop (by simp [d])]
      · rw [due4_d c d, due4_eq r (made ++ [p]) (fun q hq => by
          rcases List.mem_append.mp hq with h | h
          · exact hm q h
          · rw [List.mem_singleton.mp h]; exact d), List.takeWhile_cons, decide_eq_false c]
        simp
end Mine
end

section
open PySem PySem.W PySem.Calls PyProof.Rows PyProof.V
set_option Elab.async false
set_option maxRecDepth 100000
set_option maxHeartbeats 4000000
namespace Mine
/-- a pair as the law keeps it: one sign, and what the fold makes of it (nothing for a sign of B.1, which folds to itself) -/
structure GoodP (p : Pr) : Prop where
  one : ∃ c, p.1 = [c] ∧ (p.2 = [] ↔ b1mem c = true) ∧ sl (foldS c) = if p.2 = [] then [c] else p.2
  low : ∀ x ∈ p.2, b1mem x = false ∧ foldS x = sg x
noncomputable def txt (ps : List Pr) : List Nat := ps.flatMap (·.1)
theorem txt_cons (p : Pr) (r : List Pr) : txt (p :: r) = p.1 ++ txt r := rfl
theorem txt_append (a b : List Pr) : txt (a ++ b) = txt a ++ txt b := List.flatMap_append ..
theorem GoodP.self {x : Nat} (h1 : b1mem x = false) (h2 : foldS x = sg x) : GoodP ([x], [x]) :=
  ⟨⟨x, rfl, by simp [h1], by rw [h2]; rfl⟩, fun y hy => by rw [List.mem_singleton.mp hy]; exact ⟨h1, h2⟩⟩
noncomputable def laidF (k : Nat) (l : List Nat) : List Nat :=
  match k with
  | 0 => l.filter fun c => !b1mem c
  | 1 => l.flatMap fun c => sl (foldS c)
  | 2 => l.filter fun c => !(sg c == Str.ofString " ")
  | 3 => (l.dropWhile fun c => blankB [c]).takeWhile fun c => !blankB [c]
  | _ => stripF l
theorem filt_comm {f : Nat → Bool} {g : Pr → Bool} : ∀ {ps : List Pr}, (∀ p ∈ ps, ∃ c, p.1 = [c] ∧ g p = f c) → (txt ps).filter f = txt (ps.filter g)
  | [], _ => rfl
  | p :: r, h => by
    obtain ⟨c, hc, hg⟩ := h p (List.mem_cons_self ..)
    rw [txt_cons, hc, List.singleton_append, List.filter_cons, List.filter_cons, hg, filt_comm fun q hq => h q (List.mem_cons_of_mem _ hq)]
    cases f c
    · rfl
    · simp [txt_cons, hc]
theorem take_comm {f : Nat → Bool} {g : Pr → Bool} : ∀ {ps : List Pr}, (∀ p ∈ ps, ∃ c, p.1 = [c] ∧ g p = f c) → (txt ps).takeWhile f = txt (ps.takeWhile g)
  | [], _ => rfl
  | p :: r, h => by
    obtain ⟨c, hc, hg⟩ := h p (List.mem_cons_self ..)
    rw [txt_cons, hc, List.singleton_append, List.takeWhile_cons, List.takeWhile_cons, hg, take_comm fun q hq => h q (List.mem_cons_of_mem _ hq)]
    cases f c
    · rfl
    · simp [txt_cons, hc]
theorem drop_comm {f : Nat → Bool} {g : Pr → Bool} : ∀ {ps : List Pr}, (∀ p ∈ ps, ∃ c, p.1 = [c] ∧ g p = f c) → (txt ps).dropWhile f = txt (ps.dropWhile g)
  | [], _ => rfl
  | p :: r, h => by
    obtain ⟨c, hc, hg⟩ := h p (List.mem_cons_self ..)
    rw [txt_cons, hc, List.singleton_append, List.dropWhile_cons, List.dropWhile_cons, hg]
    cases f c
    · simp [txt_cons, hc]
    · simpa using drop_comm fun q hq => h q (List.mem_cons_of_mem _ hq)
theorem rev_comm : ∀ {ps : List Pr}, (∀ p ∈ ps, ∃ c, p.1 = [c]) → (txt ps).reverse = txt ps.reverse
  | [], _ => rfl
  | p :: r, h => by
    obtain ⟨c, hc⟩ := h p (List.mem_cons_self ..)
    rw [txt_cons, hc, List.singleton_append, List.reverse_cons, List.reverse_cons, txt_append, rev_comm fun q hq => h q (List.mem_cons_of_mem _ hq)]
    simp [txt, hc]
theorem comm0 {ps : List Pr} (h : ∀ p ∈ ps, GoodP p) : laidF 0 (txt ps) = txt (dueGo 0 [] ps) := by
  rw [due0_eq, List.nil_append]
  refine filt_comm fun p hp => ?_
  obtain ⟨c, hc, hb, _⟩ := (h p hp).one
  refine ⟨c, hc, ?_⟩
  by_cases e : p.2 = []
  · simp [e, hb.mp e]
  · have : b1mem c = false := by
      cases q : b1mem c with
      | false => rfl
      | true => exact absurd (hb.mpr q) e
    simp [e, this]
theorem txt_self (l : List Nat) : txt (l.map fun c => ([c], [c])) = l := by
  induction l with
  | nil => rfl
  | cons a r ih => rw [List.map_cons, txt_cons, ih]; rfl
theorem comm1 : ∀ {ps : List Pr}, (∀ p ∈ ps, GoodP p) → laidF 1 (txt ps) = txt (dueGo 1 [] ps)
  | [], _ => by rw [due1_eq]; rfl
  | p :: r, h => by
    obtain ⟨c, hc, hb, hf⟩ := (h p (List.mem_cons_self ..)).one
    have ih := comm1 fun q hq => h q (List.mem_cons_of_mem _ hq)
    rw [due1_eq, List.nil_append] at ih ⊢
    rw [List.flatMap_cons, txt_append, ← ih, txt_cons, hc]
    show sl (foldS c) ++ _ = _
    rw [hf]
    by_cases e : p.2 = []
    · simp only [e, if_true]
      show [c] ++ laidF 1 (txt r) = txt [p] ++ laidF 1 (txt r)
      rw [show txt [p] = [c] by simp [txt, hc]]
    · simp only [e, if_false, txt_self]; rfl
theorem sp_eq (c : Nat) : (sg c == Str.ofString " ") = decide (c = 32) := by
  by_cases h : c = 32
  · subst h; decide +kernel
  · rw [decide_eq_false h, beq_eq_false_iff_ne]
    intro e
    have : sg c = sg 32 := e.trans (by decide +kernel)
    have := congrArg (fun x : Str => x.cps.getD 0 0) this
    exact h (by simpa using this)
theorem comm2 {ps : List Pr} (h : ∀ p ∈ ps, GoodP p) : laidF 2 (txt ps) = txt (dueGo 2 [] ps) := by
  rw [due2_eq, List.nil_append]
  refine filt_comm fun p hp => ?_
  obtain ⟨c, hc, _⟩ := (h p hp).one
  exact ⟨c, hc, by rw [sp_eq, hc]; simp⟩
theorem comm3 {ps : List Pr} (h : ∀ p ∈ ps, GoodP p) : laidF 3 (txt ps) = txt (dueGo 3 [] ps) := by
  rw [due3_eq, if_pos rfl]
  have e1 : ∀ p ∈ ps, ∃ c, p.1 = [c] ∧ blankB p.1 = blankB [c] := fun p hp => by
    obtain ⟨c, hc, _⟩ := (h p hp).one
    exact ⟨c, hc, by rw [hc]⟩
  show ((txt ps).dropWhile _).takeWhile _ = _
  rw [drop_comm e1]
  refine take_comm fun p hp => ?_
  obtain ⟨c, hc, e⟩ := e1 p (List.dropWhile_sublist _ |>.subset hp)
  exact ⟨c, hc, by rw [e]⟩
theorem tw_tw {α : Type} (p q : α → Bool) : ∀ l : List α, (l.takeWhile p).takeWhile q = l.takeWhile fun x => p x && q x
  | [] => rfl
  | a :: r => by
    rw [List.takeWhile_cons, List.takeWhile_cons]
    cases hp : p a
    · simp
    · simp only [if_true, Bool.true_and]
      rw [List.takeWhile_cons, tw_tw p q r]
theorem comm4 {ps : List Pr} (h : ∀ p ∈ ps, GoodP p) : laidF 4 (txt ps) = txt (dueGo 4 [] ps) := by
  rw [due4_eq ps [] (fun _ q => nomatch q), List.nil_append]
  have one : ∀ p ∈ ps, ∃ c, p.1 = [c] := fun p hp => by
    obtain ⟨c, hc, _⟩ := (h p hp).one
    exact ⟨c, hc⟩
  show ((((txt ps).takeWhile (· != 10)).takeWhile (· != 58)).reverse.takeWhile (· != 46)).reverse = _
  rw [tw_tw]
  rw [take_comm (ps := ps) (g := fun p => !decide (p.1 ∈ ([[58], [10]] : List (List Nat)))) (fun p hp => by
    obtain ⟨c, hc⟩ := one p hp
    refine ⟨c, hc, ?_⟩
    rw [hc]
    by_cases h1 : c = 58
    · subst h1; decide
    · by_cases h2 : c = 10
      · subst h2; decide
      · simp [h1, h2])]
  have one2 : ∀ p ∈ ps.takeWhile (fun p => !decide (p.1 ∈ ([[58], [10]] : List (List Nat)))), ∃ c, p.1 = [c] := fun p hp => one p ((List.takeWhile_sublist _).subset hp)
  rw [rev_comm one2]
  rw [take_comm (g := fun p => !decide (p.1 = [46])) (fun p hp => by
    obtain ⟨c, hc⟩ := one2 p (List.mem_reverse.mp hp)
    refine ⟨c, hc, ?_⟩
    rw [hc]
    by_cases h1 : c = 46
    · subst h1; decide
    · simp [h1])]
  refine rev_comm fun p hp => one2 p (List.mem_reverse.mp ((List.takeWhile_sublist _).subset hp))
end Mine
end

section
open PySem PySem.W PySem.Calls PyProof.Rows PyProof.V
set_option Elab.async false
set_option maxRecDepth 100000
set_option maxHeartbeats 4000000
namespace Mine
theorem good_due0 {ps : List Pr} (h : ∀ p ∈ ps, GoodP p) : ∀ p ∈ dueGo 0 [] ps, GoodP p := fun p hp => by
  rw [due0_eq, List.nil_append] at hp
  exact h p (List.mem_filter.mp hp).1
theorem good_due1 {ps : List Pr} (h : ∀ p ∈ ps, GoodP p) : ∀ p ∈ dueGo 1 [] ps, GoodP p := fun p hp => by
  rw [due1_eq, List.nil_append] at hp
  obtain ⟨q, hq, hp⟩ := List.mem_flatMap.mp hp
  by_cases e : q.2 = []
  · rw [if_pos e, List.mem_singleton] at hp
    exact hp ▸ h q hq
  · rw [if_neg e] at hp
    obtain ⟨x, hx, rfl⟩ := List.mem_map.mp hp
    obtain ⟨h1, h2⟩ := (h q hq).low x hx
    exact GoodP.self h1 h2
theorem good_due2 {ps : List Pr} (h : ∀ p ∈ ps, GoodP p) : ∀ p ∈ dueGo 2 [] ps, GoodP p := fun p hp => by
  rw [due2_eq, List.nil_append] at hp
  exact h p (List.mem_filter.mp hp).1
theorem due3_sub {ps : List Pr} : ∀ p ∈ dueGo 3 [] ps, p ∈ ps := fun p hp => by
  rw [due3_eq, if_pos rfl] at hp
  exact (List.dropWhile_sublist _).subset ((List.takeWhile_sublist _).subset hp)
theorem due4_sub {ps : List Pr} : ∀ p ∈ dueGo 4 [] ps, p ∈ ps := fun p hp => by
  rw [due4_eq ps [] (fun _ q => nomatch q), List.nil_append] at hp
  exact (List.takeWhile_sublist _).subset (List.mem_reverse.mp ((List.takeWhile_sublist _).subset (List.mem_reverse.mp hp)))
theorem u_fold0K : (drawnU.all fun d => d.2.cps.size != 0 || foldN (d.1.cps.getD 0 0) == sg (d.1.cps.getD 0 0)) = true := by decide +kernel
theorem u_fold0 : (drawnU.all fun d => d.2.cps.size != 0 || foldS (d.1.cps.getD 0 0) == sg (d.1.cps.getD 0 0)) = true := by
  rw [← u_fold0K]; simp only [foldS_is]
theorem good_drawn (n : Int) : GoodP (sl (drawnS n).1, sl (drawnS n).2) := by
  have hm := drawn_mem n
  generalize drawnS n = d at hm
  have h1 := eq_of_beq (List.all_eq_true.mp u_one d hm)
  have h2 := eq_of_beq (List.all_eq_true.mp u_b1 d hm)
  have h3 := List.all_eq_true.mp u_fold d hm
  have h4 := List.all_eq_true.mp u_fold0 d hm
  have h5 := List.all_eq_true.mp u_b12 d hm
  have h6 := List.all_eq_true.mp u_fold2 d hm
  obtain ⟨⟨⟨l⟩⟩, ⟨⟨k⟩⟩⟩ := d
  match l, h1 with
  | [c], _ =>
    refine ⟨⟨c, rfl, ?_, ?_⟩, fun x hx => ?_⟩
    · show k = [] ↔ b1mem c = true
      have : b1mem c = (k.length == 0) := h2.symm
      rw [this]
      cases k <;> simp
    · show sl (foldS c) = if k = [] then [c] else k
      by_cases e : k = []
      · subst e
        rw [if_pos rfl]
        have : foldS c = sg c := eq_of_beq (by simpa using h4)
        rw [this]
      · rw [if_neg e]
        have hk : (k.length == 0) = false := by cases k with | nil => exact absurd rfl e | cons => rfl
        have : foldS c = ⟨⟨k⟩⟩ := eq_of_beq (by
          have h3 : ((k.length == 0) || foldS c == ⟨⟨k⟩⟩) = true := h3
          rwa [hk, Bool.false_or] at h3)
        rw [this]
    · have hx : x ∈ k := hx
      have a := Array.all_eq_true'.mp h5 x (by simpa using hx)
      have b := Array.all_eq_true'.mp h6 x (by simpa using hx)
      exact ⟨by simpa using a, eq_of_beq b⟩
end Mine
end

section
open PySem PySem.W PySem.Calls PyProof.Rows PyProof.V
set_option Elab.async false
set_option maxRecDepth 100000
set_option maxHeartbeats 4000000
namespace Mine
theorem dw_none {α : Type} {p : α → Bool} : ∀ {l : List α}, (∀ x ∈ l, p x = false) → l.dropWhile p = l
  | [], _ => rfl
  | a :: r, h => by rw [List.dropWhile_cons, h a (List.mem_cons_self ..)]; rfl
theorem skip0 {ps : List Pr} (h : ∀ p ∈ ps, p.2 ≠ []) : dueGo 0 [] ps = ps := by
  rw [due0_eq, List.nil_append]
  exact List.filter_eq_self.mpr fun p hp => by simpa using h p hp
theorem skip1 : ∀ {ps : List Pr}, (∀ p ∈ ps, GoodP p) → (∀ p ∈ ps, p.2 = [] ∨ p.2 = p.1) → dueGo 1 [] ps = ps
  | [], _, _ => by rw [due1_eq]; rfl
  | p :: r, hg, h => by
    have ih := skip1 (fun q hq => hg q (List.mem_cons_of_mem _ hq)) fun q hq => h q (List.mem_cons_of_mem _ hq)
    rw [due1_eq, List.nil_append] at ih ⊢
    rw [List.flatMap_cons, ih]
    obtain ⟨c, hc, _⟩ := (hg p (List.mem_cons_self ..)).one
    rcases h p (List.mem_cons_self ..) with e | e
    · rw [if_pos e]; rfl
    · rw [if_neg (by rw [e, hc]; simp), e, hc]
      show ([c], [c]) :: r = p :: r
      rw [show p = ([c], [c]) from Prod.ext hc (e.trans hc)]
theorem skip2 {ps : List Pr} (h : ∀ p ∈ ps, p.1 ≠ [32]) : dueGo 2 [] ps = ps := by
  rw [due2_eq, List.nil_append]
  exact List.filter_eq_self.mpr fun p hp => by simpa using h p hp
theorem skip3 {ps : List Pr} (h : ∀ p ∈ ps, blankB p.1 = false) : dueGo 3 [] ps = ps := by
  rw [due3_eq, if_pos rfl, dw_none h]
  exact tw_all fun p hp => by rw [h p hp]; rfl
theorem skip4 {ps : List Pr} (h : ∀ p ∈ ps, p.1 ∉ ([[58], [10], [46]] : List (List Nat))) : dueGo 4 [] ps = ps := by
  rw [due4_eq ps [] (fun _ q => nomatch q), List.nil_append]
  rw [tw_all (l := ps) fun p hp => by
    have := h p hp
    simp at this ⊢
    exact ⟨this.1, this.2.1⟩]
  rw [tw_all fun p hp => by
    have := h p (List.mem_reverse.mp hp)
    simp at this ⊢
    exact this.2.2, List.reverse_reverse]
/-- what holds of the pairs by the deeds done -/
structure Inv (acted : List Nat) (ps : List Pr) : Prop where
  good : ∀ p ∈ ps, GoodP p
  i0 : 0 ∈ acted → ∀ p ∈ ps, p.2 ≠ []
  i1 : 1 ∈ acted → ∀ p ∈ ps, p.2 = [] ∨ p.2 = p.1
  i2 : (1 ∉ acted ∧ 2 ∈ acted) ∨ 5 ∈ acted → ∀ p ∈ ps, p.1 ≠ [32]
  i3 : (1 ∉ acted ∧ 3 ∈ acted) ∨ 6 ∈ acted → ∀ p ∈ ps, blankB p.1 = false
  i4 : (1 ∉ acted ∧ 4 ∈ acted) ∨ 7 ∈ acted → ∀ p ∈ ps, p.1 ∉ ([[58], [10], [46]] : List (List Nat))
  i5 : 5 ∈ acted ∨ 6 ∈ acted ∨ 7 ∈ acted → 1 ∈ acted
noncomputable def deedOf (h : Nat) (acted : List Nat) : Nat := h + if 1 < h ∧ 1 ∈ acted then 3 else 0
theorem Inv.start {ps : List Pr} (h : ∀ p ∈ ps, GoodP p) : Inv [] ps :=
  ⟨h, fun q => (by simp at q), fun q => (by simp at q), fun q => (by simp at q), fun q => (by simp at q), fun q => (by simp at q), fun q => (by simp at q)⟩
/-- a hand that was done before leaves the text as it is -/
theorem skip {h : Nat} {acted : List Nat} {ps : List Pr} (I : Inv acted ps) (hd : deedOf h acted ∈ acted) (h5 : h < 5) : laidF h (txt ps) = txt ps := by
  unfold deedOf at hd
  match h, h5 with
  | 0, _ => rw [comm0 I.good, skip0 (I.i0 (by simpa using hd))]
  | 1, _ => rw [comm1 I.good, skip1 I.good (I.i1 (by simpa using hd))]
  | 2, _ =>
    rw [comm2 I.good, skip2 (I.i2 ?_)]
    by_cases a : 1 ∈ acted
    · exact .inr (by simpa [a] using hd)
    · exact .inl ⟨a, by simpa [a] using hd⟩
  | 3, _ =>
    rw [comm3 I.good, skip3 (I.i3 ?_)]
    by_cases a : 1 ∈ acted
    · exact .inr (by simpa [a] using hd)
    · exact .inl ⟨a, by simpa [a] using hd⟩
  | 4, _ =>
    rw [comm4 I.good, skip4 (I.i4 ?_)]
    by_cases a : 1 ∈ acted
    · exact .inr (by simpa [a] using hd)
    · exact .inl ⟨a, by simpa [a] using hd⟩
end Mine
end

section
open PySem PySem.W PySem.Calls PyProof.Rows PyProof.V
set_option Elab.async false
set_option maxRecDepth 100000
set_option maxHeartbeats 4000000
namespace Mine
theorem mem_snoc {a d : Nat} {l : List Nat} : a ∈ l ++ [d] ↔ a ∈ l ∨ a = d := by simp
theorem inv_sub {acted : List Nat} {d : Nat} {ps ps' : List Pr} (I : Inv acted ps) (hs : ∀ p ∈ ps', p ∈ ps) (h1 : d ≠ 1)
    (n0 : d = 0 → ∀ p ∈ ps', p.2 ≠ []) (n2 : d = 2 ∨ d = 5 → ∀ p ∈ ps', p.1 ≠ [32]) (n3 : d = 3 ∨ d = 6 → ∀ p ∈ ps', blankB p.1 = false)
    (n4 : d = 4 ∨ d = 7 → ∀ p ∈ ps', p.1 ∉ ([[58], [10], [46]] : List (List Nat))) (n5 : d = 5 ∨ d = 6 ∨ d = 7 → 1 ∈ acted) : Inv (acted ++ [d]) ps' where
  good := fun p hp => I.good p (hs p hp)
  i0 := fun h p hp => by
    rcases mem_snoc.mp h with h | h
    · exact I.i0 h p (hs p hp)
    · exact n0 h.symm p hp
  i1 := fun h p hp => by
    rcases mem_snoc.mp h with h | h
    · exact I.i1 h p (hs p hp)
    · exact absurd h.symm h1
  i2 := fun h p hp => by
    rcases h with ⟨a, h⟩ | h
    · have a : 1 ∉ acted := fun q => a (mem_snoc.mpr (.inl q))
      rcases mem_snoc.mp h with h | h
      · exact I.i2 (.inl ⟨a, h⟩) p (hs p hp)
      · exact n2 (.inl h.symm) p hp
    · rcases mem_snoc.mp h with h | h
      · exact I.i2 (.inr h) p (hs p hp)
      · exact n2 (.inr h.symm) p hp
  i3 := fun h p hp => by
    rcases h with ⟨a, h⟩ | h
    · have a : 1 ∉ acted := fun q => a (mem_snoc.mpr (.inl q))
      rcases mem_snoc.mp h with h | h
      · exact I.i3 (.inl ⟨a, h⟩) p (hs p hp)
      · exact n3 (.inl h.symm) p hp
    · rcases mem_snoc.mp h with h | h
      · exact I.i3 (.inr h) p (hs p hp)
      · exact n3 (.inr h.symm) p hp
  i4 := fun h p hp => by
    rcases h with ⟨a, h⟩ | h
    · have a : 1 ∉ acted := fun q => a (mem_snoc.mpr (.inl q))
      rcases mem_snoc.mp h with h | h
      · exact I.i4 (.inl ⟨a, h⟩) p (hs p hp)
      · exact n4 (.inl h.symm) p hp
    · rcases mem_snoc.mp h with h | h
      · exact I.i4 (.inr h) p (hs p hp)
      · exact n4 (.inr h.symm) p hp
  i5 := fun h => by
    refine mem_snoc.mpr (.inl ?_)
    rcases h with h | h | h <;> rcases mem_snoc.mp h with h | h
    · exact I.i5 (.inl h)
    · exact n5 (.inl h.symm)
    · exact I.i5 (.inr (.inl h))
    · exact n5 (.inr (.inl h.symm))
    · exact I.i5 (.inr (.inr h))
    · exact n5 (.inr (.inr h.symm))
theorem due3_none {ps : List Pr} : ∀ p ∈ dueGo 3 [] ps, blankB p.1 = false := fun p hp => by
  rw [due3_eq, if_pos rfl] at hp
  have := List.all_eq_true.mp (List.all_takeWhile (p := fun p : Pr => !blankB p.1) (l := ps.dropWhile fun p => blankB p.1)) p hp
  simpa using this
theorem due4_none {ps : List Pr} : ∀ p ∈ dueGo 4 [] ps, p.1 ∉ ([[58], [10], [46]] : List (List Nat)) := fun p hp => by
  rw [due4_eq ps [] (fun _ q => nomatch q), List.nil_append] at hp
  have hp := List.mem_reverse.mp hp
  have a := List.all_eq_true.mp (List.all_takeWhile (p := fun p : Pr => !decide (p.1 = [46]))) p hp
  have b := List.all_eq_true.mp (List.all_takeWhile (p := fun p : Pr => !decide (p.1 ∈ ([[58], [10]] : List (List Nat)))) (l := ps)) p (List.mem_reverse.mp ((List.takeWhile_sublist _).subset hp))
  simp at a b ⊢
  exact ⟨b.1, b.2, a⟩
/-- a hand that is done for the first time -/
theorem acts {h : Nat} {acted : List Nat} {ps : List Pr} (I : Inv acted ps) (hd : deedOf h acted ∉ acted) (h5 : h < 5) :
    laidF h (txt ps) = txt (dueGo h [] ps) ∧ Inv (acted ++ [deedOf h acted]) (dueGo h [] ps) := by
  match h, h5 with
  | 0, _ =>
    refine ⟨comm0 I.good, inv_sub I (fun p hp => ?_) (by simp [deedOf]) (fun _ p hp => ?_) (fun q => ?_) (fun q => ?_) (fun q => ?_) (fun q => ?_)⟩
    · rw [due0_eq, List.nil_append] at hp; exact (List.mem_filter.mp hp).1
    · rw [due0_eq, List.nil_append] at hp; simpa using (List.mem_filter.mp hp).2
    all_goals simp [deedOf] at q
  | 1, _ =>
    have a : 1 ∉ acted := by simpa [deedOf] using hd
    have no : ∀ {x : Nat}, x ∈ acted ++ [deedOf 1 acted] → x = 1 ∨ x ∈ acted := fun hx => by
      rcases mem_snoc.mp hx with h | h
      · exact .inr h
      · exact .inl (by simpa [deedOf] using h)
    have yes : 1 ∈ acted ++ [deedOf 1 acted] := mem_snoc.mpr (.inr (by simp [deedOf]))
    have mem : ∀ p ∈ dueGo 1 [] ps, (p ∈ ps ∧ p.2 = []) ∨ ∃ x, p = ([x], [x]) := fun p hp => by
      rw [due1_eq, List.nil_append] at hp
      obtain ⟨q, hq, hp⟩ := List.mem_flatMap.mp hp
      by_cases e : q.2 = []
      · rw [if_pos e, List.mem_singleton] at hp
        exact .inl (hp ▸ ⟨hq, e⟩)
      · rw [if_neg e] at hp
        obtain ⟨x, _, rfl⟩ := List.mem_map.mp hp
        exact .inr ⟨x, rfl⟩
    refine ⟨comm1 I.good, good_due1 I.good, fun q p hp => ?_, fun _ p hp => ?_, fun q => ?_, fun q => ?_, fun q => ?_, fun _ => yes⟩
    · rcases mem p hp with ⟨h1, _⟩ | ⟨x, rfl⟩
      · rcases no q with q | q
        · cases q
        · exact I.i0 q p h1
      · simp
    · rcases mem p hp with ⟨_, h1⟩ | ⟨x, rfl⟩
      · exact .inl h1
      · exact .inr rfl
    · rcases q with ⟨q, _⟩ | q
      · exact absurd yes q
      · rcases no q with q | q
        · cases q
        · exact absurd (I.i5 (.inl q)) a
    · rcases q with ⟨q, _⟩ | q
      · exact absurd yes q
      · rcases no q with q | q
        · cases q
        · exact absurd (I.i5 (.inr (.inl q))) a
    · rcases q with ⟨q, _⟩ | q
      · exact absurd yes q
      · rcases no q with q | q
        · cases q
        · exact absurd (I.i5 (.inr (.inr q))) a
  | 2, _ =>
    have hd' : deedOf 2 acted = 2 ∧ 1 ∉ acted ∨ deedOf 2 acted = 5 ∧ 1 ∈ acted := by
      by_cases a : 1 ∈ acted <;> simp [deedOf, a]
    refine ⟨comm2 I.good, inv_sub I (fun p hp => ?_) ?_ (fun q => ?_) (fun _ p hp => ?_) (fun q => ?_) (fun q => ?_) (fun q => ?_)⟩
    · rw [due2_eq, List.nil_append] at hp; exact (List.mem_filter.mp hp).1
    · omega
    · omega
    · rw [due2_eq, List.nil_append] at hp; simpa using (List.mem_filter.mp hp).2
    · omega
    · omega
    · rcases hd' with ⟨e, _⟩ | ⟨_, e⟩
      · omega
      · exact e
  | 3, _ =>
    have hd' : deedOf 3 acted = 3 ∧ 1 ∉ acted ∨ deedOf 3 acted = 6 ∧ 1 ∈ acted := by
      by_cases a : 1 ∈ acted <;> simp [deedOf, a]
    refine ⟨comm3 I.good, inv_sub I due3_sub ?_ (fun q => ?_) (fun q => ?_) (fun _ => due3_none) (fun q => ?_) (fun q => ?_)⟩
    · omega
    · omega
    · omega
    · omega
    · rcases hd' with ⟨e, _⟩ | ⟨_, e⟩
      · omega
      · exact e
  | 4, _ =>
    have hd' : deedOf 4 acted = 4 ∧ 1 ∉ acted ∨ deedOf 4 acted = 7 ∧ 1 ∈ acted := by
      by_cases a : 1 ∈ acted <;> simp [deedOf, a]
    refine ⟨comm4 I.good, inv_sub I due4_sub ?_ (fun q => ?_) (fun q => ?_) (fun q => ?_) (fun _ => due4_none) (fun q => ?_)⟩
    · omega
    · omega
    · omega
    · omega
    · rcases hd' with ⟨e, _⟩ | ⟨_, e⟩
      · omega
      · exact e
end Mine
end

section
open PySem PySem.W PySem.Calls PyProof.Rows PyProof.V
set_option Elab.async false
set_option maxRecDepth 100000
set_option maxHeartbeats 4000000
namespace Mine
/-- bounds of a pair -/
structure LowP (p : Pr) : Prop where
  low : ∀ c ∈ p.1 ++ p.2, Builtin.Str.tooLong (Txt.lower (sg c)).length = false
  len : p.2.length ≤ 4
theorem u_len4 : (drawnU.all fun d => decide (d.2.cps.size ≤ 4)) = true := by decide +kernel
theorem low_drawn (n : Int) : LowP (sl (drawnS n).1, sl (drawnS n).2) := by
  have hm := drawn_mem n
  generalize drawnS n = d at hm
  have h1 := eq_of_beq (List.all_eq_true.mp u_one d hm)
  have h2 := of_decide_eq_true (List.all_eq_true.mp u_len4 d hm)
  have h3 := eq_of_beq (List.all_eq_true.mp u_low d hm)
  have h4 := List.all_eq_true.mp u_low2 d hm
  obtain ⟨⟨⟨l⟩⟩, ⟨⟨k⟩⟩⟩ := d
  match l, h1 with
  | [c], _ =>
    refine ⟨fun x hx => ?_, h2⟩
    rcases List.mem_append.mp hx with hx | hx
    · rw [List.mem_singleton.mp (show x ∈ [c] from hx)]; exact h3
    · have hx : x ∈ k := hx
      exact eq_of_beq (Array.all_eq_true'.mp h4 x (by simpa using hx))
theorem LowP.self {p : Pr} {x : Nat} (h : LowP p) (hx : x ∈ p.2) : LowP ([x], [x]) :=
  ⟨fun c hc => by
    have : c = x := by simpa using hc
    rw [this]; exact h.low x (List.mem_append_right _ hx), by simp⟩
theorem low_due {k : Nat} (hk : k < 5) {ps : List Pr} (h : ∀ p ∈ ps, LowP p) : ∀ p ∈ dueGo k [] ps, LowP p := fun p hp => by
  match k, hk with
  | 0, _ => rw [due0_eq, List.nil_append] at hp; exact h p (List.mem_filter.mp hp).1
  | 1, _ =>
    rw [due1_eq, List.nil_append] at hp
    obtain ⟨q, hq, hp⟩ := List.mem_flatMap.mp hp
    by_cases e : q.2 = []
    · rw [if_pos e, List.mem_singleton] at hp
      exact hp ▸ h q hq
    · rw [if_neg e] at hp
      obtain ⟨x, hx, rfl⟩ := List.mem_map.mp hp
      exact (h q hq).self hx
  | 2, _ => rw [due2_eq, List.nil_append] at hp; exact h p (List.mem_filter.mp hp).1
  | 3, _ => exact h p (due3_sub p hp)
  | 4, _ => exact h p (due4_sub p hp)
theorem len_due {k : Nat} (hk : k < 5) (h1 : k ≠ 1) (ps : List Pr) : (dueGo k [] ps).length ≤ ps.length := by
  match k, hk with
  | 0, _ => rw [due0_eq, List.nil_append]; exact List.length_filter_le _ _
  | 1, _ => exact absurd rfl h1
  | 2, _ => rw [due2_eq, List.nil_append]; exact List.length_filter_le _ _
  | 3, _ =>
    rw [due3_eq, if_pos rfl]
    exact Nat.le_trans (List.takeWhile_sublist _).length_le (List.dropWhile_sublist _).length_le
  | 4, _ =>
    rw [due4_eq ps [] (fun _ q => nomatch q), List.nil_append, List.length_reverse]
    refine Nat.le_trans (List.takeWhile_sublist _).length_le ?_
    rw [List.length_reverse]
    exact (List.takeWhile_sublist _).length_le
theorem len_due1 : ∀ {ps : List Pr}, (∀ p ∈ ps, LowP p) → (dueGo 1 [] ps).length ≤ 4 * ps.length
  | [], _ => by rw [due1_eq]; exact Nat.le_refl _
  | p :: r, h => by
    have ih := len_due1 fun q hq => h q (List.mem_cons_of_mem _ hq)
    have := (h p (List.mem_cons_self ..)).len
    rw [due1_eq, List.nil_append] at ih ⊢
    rw [List.flatMap_cons, List.length_append, List.length_cons]
    by_cases e : p.2 = []
    · rw [if_pos e]; simp only [List.length_singleton]; omega
    · rw [if_neg e, List.length_map]; omega
theorem txt_len {ps : List Pr} (h : ∀ p ∈ ps, GoodP p) : (txt ps).length = ps.length := by
  induction ps with
  | nil => rfl
  | cons p r ih =>
    obtain ⟨c, hc, _⟩ := (h p (List.mem_cons_self ..)).one
    rw [txt_cons, hc, List.length_append, ih fun q hq => h q (List.mem_cons_of_mem _ hq), List.length_cons]
    simp; omega
/-- what laid1 asks of the text -/
theorem txt_ok {ps : List Pr} (h : ∀ p ∈ ps, GoodP p) (hl : ∀ p ∈ ps, LowP p) : ∀ c ∈ txt ps, Builtin.Str.tooLong (Txt.lower (sg c)).length = false ∧ (foldS c).length ≤ 18 := fun c hc => by
  obtain ⟨p, hp, hx⟩ := List.mem_flatMap.mp hc
  obtain ⟨c', hc', _, hf⟩ := (h p hp).one
  refine ⟨(hl p hp).low c (List.mem_append_left _ hx), ?_⟩
  rw [hc', List.mem_singleton] at hx
  subst hx
  rw [← sl_len, hf]
  have := (hl p hp).len
  split
  · simp
  · omega
end Mine
end

section
open PySem PySem.W PySem.Calls PyProof.Rows PyProof.V
set_option Elab.async false
set_option maxRecDepth 100000
set_option maxHeartbeats 4000000
namespace Mine
/-- a call of a function some of whose names are cells -/
theorem call_cells_ret {w : World} {A : Around} {R : Result → Shared → Prop} {s : Shared} {name : Str} {params : Arguments} {body : List Stmt} {scope : Scope}
    {pm cd doc : Value} {a : Addr} {o : Obj} {args : List Value} {binds : List (Str × Value)}
    (hroom : A.depth < recursionLimit) (ho : s.heap.get? a = some o) (hdata : o.data = .func (Calls.docDef name params body scope pm cd doc)) (hlim : s.heap.NoLimit) (hcd : s.heap.CodeRec cd name)
    (hbind : bindArgs (Calls.docDef name params body scope pm cd doc) ⟨args, []⟩ = pure binds)
    (hkind : ∀ n, ∀ x ∈ binds, scope.names.lookup x.1 = some .local ∨ (scope.names.lookup x.1 = some .cell ∧ ((cellsFrom n scope.names []).lookup x.1).isSome = true))
    (hnd : ((cellsFrom 0 scope.names []).map (·.1)).Nodup)
    (h : ∀ h₁ tk cells, Fr s.heap s.heap.objs.size h₁ (bindL (envOfC name scope s.heap.objs.size a cd).kindOf binds fun _ => none) → News s.heap s.heap.objs.size h₁ cells →
      CellsAre (bindC (envOfC name scope s.heap.objs.size a cd).kindOf binds fun _ => none) (cellsFrom (s.heap.objs.size + 1) scope.names []) cells →
      wpAny (model pw w) (A.deeper (envOfC name scope s.heap.objs.size a cd)) (execs body (envOfC name scope s.heap.objs.size a cd))
        (fun f s' => R (.ok (.ret (match f with | .ret v => v | _ => .none))) s') (fun _ _ => False) { s with heap := h₁, toks := tk })
    (hco : scope.isCoroutine = false := by rfl) (hgen : scope.isGenerator = false := by rfl) (hk : scope.kind = .function := by rfl) :
    codeAny (model pw w) A (.call (.ref a) ⟨args, []⟩) R s := by
  refine codeAny_call_function hroom ho hdata hco hgen rfl hcd ?_
  rw [hbind]
  refine wpAny_pure (wpAny_newFunctionEnv_cells hk (hkind _) fun env' he s' x => ?_)
  subst he
  refine ⟨hlim.keeps x.toInCall.keep, codeAny_func ?_⟩
  obtain ⟨h₁, tk, rfl, _⟩ := x.done
  have hk₁ := x.toInCall.keep
  obtain ⟨cells, NC, Y⟩ := Cl.news (h₀ := s.heap) (Nat.le_refl _) fun n c hm => ⟨x.cell n c (lookup_of_mem_nodup (cellsFrom_names scope.names 0 (s.heap.objs.size + 1) [] [] rfl ▸ hnd) hm), x.above n c hm⟩
  exact wpAny_mono (h h₁ tk cells ⟨x.toInCall.ns, fun b o e => hk₁ b o e, Nat.le_refl _⟩ NC Y) (fun _ _ q => q) fun _ _ q => q.elim
end Mine
end

section
open PySem PySem.W PySem.Calls PyProof.Rows PyProof.V
set_option Elab.async false
set_option maxRecDepth 100000
set_option maxHeartbeats 4000000
namespace Mine
/-- a call of a function of the text, a method too, on a base heap that may leave out what will change -/
theorem call_fn_ret {w : World} {A : Around} {R : Result → Shared → Prop} {s : Shared} {name qual : Str} {params : Arguments} {body : List Stmt} {scope : Scope} {pm cd doc : Value} {a : Addr} {o : Obj} {args : List Value} {binds : List (Str × Value)} (bad : List Addr) {mmm : Str → Option Value}
    (hroom : A.depth < recursionLimit) (ho : s.heap.get? a = some o) (hdata : o.data = .func (fnX name qual params body scope [] .none .none doc pm none cd .none)) (hlim : s.heap.NoLimit) (hcd : s.heap.CodeRec cd qual)
    (hbind : bindArgs (fnX name qual params body scope [] .none .none doc pm none cd .none) ⟨args, []⟩ = pure binds) (hmm : (fun x => binds.reverse.lookup x) = mmm)
    (hloc : ∀ x ∈ binds, scope.names.lookup x.1 = some .local)
    (h : ∀ h₁, Fr (hideAll s.heap bad) s.heap.objs.size h₁ mmm → (∀ b o, s.heap.get? b = some o → h₁.get? b = some o) →
      wpAny (model pw w) (A.deeper (envOf qual scope s.heap.objs.size a cd)) (execs body (envOf qual scope s.heap.objs.size a cd))
        (fun f s' => R (.ok (.ret (match f with | .ret v => v | _ => .none))) s') (fun _ _ => False)
        { s with heap := h₁, toks := s.toks + binds.length })
    (hco : scope.isCoroutine = false := by rfl) (hgen : scope.isGenerator = false := by rfl) (hk : scope.kind = .function := by rfl)
    (hcell : ∀ x ∈ scope.names, x.2 ≠ .cell := by decide) :
    codeAny (model pw w) A (.call (.ref a) ⟨args, []⟩) R s := by
  subst hmm
  refine codeAny_call_def (fd := fnX name qual params body scope [] .none .none doc pm none cd .none) (body := body) (binds := binds) hroom ho hdata hlim hcd rfl (BindsTo.of_eq hbind) hcell hloc (fun h₁ hns hk₁ => ?_) hco hgen hk
  exact wpAny_mono (h h₁ ⟨hns, fun b o e => hk₁ b o (of_hideAll _ e), Nat.le_of_eq (hideAll_size _ _)⟩ hk₁) (fun _ _ x => x) fun _ _ x => x.elim
theorem Cx.hide {w : World} {mg mb : Str → Option Value} {g h : Heap} {bad : List Addr} (C : Cx w mg mb g) (k : ∀ b o, g.get? b = some o → h.get? b = some o) (hb : ∀ b ∈ bad, g.get? b = none) : Cx w mg mb (hideAll h bad) :=
  C.keeps fun b o e => hideAll_get _ (k b o e) fun q => by rw [hb b q] at e; cases e
noncomputable abbrev sLineno : Str := Str.ofString "lineno"
noncomputable abbrev sInstream : Str := Str.ofString "instream"
noncomputable abbrev sWhitespace : Str := Str.ofString "whitespace"
noncomputable abbrev sPushback : Str := Str.ofString "pushback"
noncomputable abbrev sRead : Str := Str.ofString "read"
noncomputable abbrev sBlanks : Str := Str.ofString "\n\t\x0d "
structure Toks where
  a : Tok
  b : Tok
  c : Tok
  d : Tok
  e : Tok
noncomputable abbrev lexEs (P : Params) (n : Int) (u : Tok) (t : Toks) (fp : Value) (pb : Addr) : List DictEntry :=
  [⟨PyData.keyHash P sLineno, .str sLineno t.a, .int n u⟩, ⟨PyData.keyHash P sInstream, .str sInstream t.b, fp⟩, ⟨PyData.keyHash P sWhitespace, .str sWhitespace t.c, .str sBlanks t.d⟩, ⟨PyData.keyHash P sPushback, .str sPushback t.e, .ref pb⟩]
noncomputable abbrev lexD (P : Params) (n : Int) (u : Tok) (t : Toks) (fp : Value) (pb : Addr) : Obj := dictOf (lexEs P n u t fp pb) 4
structure InitOut (P : Params) (x dx : Addr) (fp : Value) (r : Result) (s s' : Shared) : Prop where
  val : r = .ok (.ret .none)
  out : ∃ h' tk pb u t, s' = { s with heap := h', toks := tk } ∧ h'.get? dx = some (lexD P 1 u t fp pb) ∧ h'.get? pb = some (W.listOf #[] 0) ∧ x < pb ∧ s.heap.get? pb = none ∧ ∀ b o, b ≠ dx → s.heap.get? b = some o → h'.get? b = some o
theorem keep_bad {h₀ h : Heap} {bad : List Addr} {L : Addr} {m : Str → Option Value} (F : Fr (hideAll h₀ bad) L h m) {b : Addr} {o : Obj} (hb : b ∉ bad) (e : h₀.get? b = some o) : h.get? b = some o := F.keep b o (hideAll_get _ e hb)
theorem none_bad {h₀ : Heap} {bad : List Addr} {b : Addr} (hb : b ∉ bad) (e : (hideAll h₀ bad).get? b = none) : h₀.get? b = none := by
  cases q : h₀.get? b with
  | none => rfl
  | some o => rw [hideAll_get bad q hb] at e; cases e
section
variable {w : World} {A : Around} {s : Shared} {mg mb : Str → Option Value}
theorem init_c {g : Heap} {x dx : Addr} {fp : Value} (C : Cx w mg mb g) (k : ∀ b o, g.get? b = some o → s.heap.get? b = some o) (r : Rm A 1) (hx : s.heap.get? x = some (instObj 66 dx)) (hd : s.heap.get? dx = some emptyDict) (gx : g.get? x = none) (gd : g.get? dx = none) (hne : dx < x) :
    codeAny (model pw w) A (.call (.ref 42) ⟨[.ref x, fp], []⟩) (fun r s' => InitOut w.params x dx fp r s s') s := by
  have CB : Cx w mg mb (hideAll s.heap [x, dx]) := C.hide k (by intro b hb; rcases List.mem_cons.mp hb with rfl | hb; exact gx; rw [List.mem_singleton.mp hb]; exact gd)
  refine call_fn_ret (name := Str.ofString "__init__") (qual := Str.ofString "_netrclex.__init__") (params := fP (cst 0)) (body := fB (cst 0)) (scope := fS (cst 0)) (binds := [(Str.ofString "self", .ref x), (Str.ofString "fp", fp)]) [x, dx] r.room (k _ _ (C.X 42 _ rfl)) rfl (C.T.nolimit.keeps k) (codeRec_of (C.X.keeps k) (by kernel_rfl)) (by rfl) rfl (locs rfl) (fun h₁ F hk => ?_) rfl rfl rfl (by decide +kernel)
  have N : News (hideAll s.heap [x, dx]) s.heap.objs.size h₁ [(x, instObj 66 dx), (dx, emptyDict)] := by
    intro p hp
    rcases List.mem_cons.mp hp with rfl | hp
    · exact ⟨hk _ _ hx, Nat.ne_of_lt (Heap.lt_size hx), hideAll_none _ (.head _)⟩
    · rw [List.mem_singleton.mp hp]
      exact ⟨hk _ _ hd, Nat.ne_of_lt (Heap.lt_size hd), hideAll_none _ (.tail _ (.head _))⟩
  have hh : A.handled = none := r.hh
  have X := CB.X
  have T := CB.T
  have l1 : @LT.lt Nat _ dx x := hne
  change wpAny _ _ (execs [_, _, _, _] _) _ _ _
  repeat (first | walk1 | (dsimp only; walk1))
  rename News _ _ _ _ => N'
  rename Fr _ _ _ _ => F'
  rename _ ∧ _ => l2
  have m1 := N' _ (.head _)
  have m2 := N' _ (.tail _ (.head _))
  have m3 := N' _ (.tail _ (.tail _ (.head _)))
  refine ⟨rfl, _, _, _, _, ⟨_, _, _, _, _⟩, rfl, m3.1, m1.1, l2.1, none_bad ?_ m1.2.2, fun b o hb e => ?_⟩
  · intro q
    rcases List.mem_cons.mp q with q | q
    · exact Nat.lt_irrefl _ (q ▸ l2.1)
    · exact Nat.lt_irrefl _ (List.mem_singleton.mp q ▸ l2.2)
  · by_cases q : b = x
    · subst q; rw [hx] at e; cases e; exact m2.1
    · exact keep_bad F' (by simp [q, hb]) e
/-- what making an object leaves -/
structure MkOut (P : Params) (fp : Value) (r : Result) (s s' : Shared) : Prop where
  out : ∃ h' tk x dx pb u t, r = .ok (.ret (.ref x)) ∧ s' = { s with heap := h', toks := tk } ∧ h'.get? x = some (instObj 66 dx) ∧ h'.get? dx = some (lexD P 1 u t fp pb) ∧ h'.get? pb = some (W.listOf #[] 0) ∧
    s.heap.objs.size ≤ dx ∧ dx < x ∧ x < pb ∧ ∀ b o, s.heap.get? b = some o → h'.get? b = some o
theorem mk_c {g : Heap} {fp : Value} (C : Cx w mg mb g) (k : ∀ b o, g.get? b = some o → s.heap.get? b = some o) (r : Rm A 3) :
    codeAny (model pw w) A (.call (.ref 66) ⟨[fp], []⟩) (fun r s' => MkOut w.params fp r s s') s := by
  have X : (K0 w.params).In s.heap := C.X.keeps k
  obtain ⟨hh, gg, d, tk, os⟩ := s
  have em : makesIn (K0 w.params) 66 = true := by kernel_rfl
  have ef : findIn (K0 w.params) (.ref 66) "__init__" = some (some (.ref 42)) := by kernel_rfl
  have et : typeIn (K0 w.params) (.ref 42) = some (.type "function") := by kernel_rfl
  refine make_core (makes_of X em) (looks_findIn X ef) (fun self => bind_fn X self et) (.inl rfl) ?_
  have kp : ∀ b o, hh.get? b = some o → ((hh.push emptyDict).push (instObj 66 hh.objs.size)).get? b = some o := fun b o e => Heap.get?_push_of_some _ (Heap.get?_push_of_some _ e)
  have nn : ∀ b, hh.objs.size ≤ b → g.get? b = none := fun b hb => by
    cases q : g.get? b with
    | none => rfl
    | some o => exact absurd (Heap.lt_size (k b o q)) (Nat.not_lt.mpr hb)
  refine codeAny_mono (init_c (s := ⟨(hh.push emptyDict).push (instObj 66 hh.objs.size), gg, d, tk, os⟩) (x := hh.objs.size + 1) (dx := hh.objs.size) C (fun b o e => kp b o (k b o e)) ?_ (by heap_get) (by heap_get) (nn _ (Nat.le_succ _)) (nn _ (Nat.le_refl _)) (Nat.lt_succ_self _)) fun r s' h => ?_
  · have e1 := depth_under_kw A 66 [fp] []
    have e2 : (A.under (.builtin "type.__call__" ⟨[Value.ref 66, fp], []⟩)).units = A.units + 1 := rfl
    exact ⟨r.hh, by have := r.hd; rw [e1]; omega, by have := r.hu; rw [e2]; omega⟩
  · obtain ⟨rfl, h', tk', pb, u, t, rfl, e1, e2, e3, e4, e5⟩ := h
    refine ⟨rfl, h', tk', hh.objs.size + 1, hh.objs.size, pb, u, t, rfl, rfl, e5 _ _ (Nat.succ_ne_self _) (by heap_get), e1, e2, Nat.le_refl _, Nat.lt_succ_self _, e3, fun b o e => e5 b o (Nat.ne_of_lt (Heap.lt_size e)) (kp b o e)⟩
end
end Mine
end

section
open PySem PySem.W PySem.Calls PyProof.Rows PyProof.V
set_option Elab.async false
set_option maxRecDepth 100000
set_option maxHeartbeats 4000000
namespace Mine
noncomputable def lamE : Expr := match fB (st 13) with
  | [_, _, _, _, .Assign _ e _, _] => e
  | _ => .Constant .none 0 ⟨0, 0, 0, 0⟩
noncomputable def lamP : Arguments := match lamE with
  | .Lambda a _ _ _ => a
  | _ => default
noncomputable def lamB : Expr := match lamE with
  | .Lambda _ b _ _ => b
  | _ => .Constant .none 0 ⟨0, 0, 0, 0⟩
noncomputable def lamPos : Pos := match lamE with
  | .Lambda _ _ _ p => p
  | _ => ⟨0, 0, 0, 0⟩
noncomputable def lamS : Scope := match lamE with
  | .Lambda _ _ s _ => s
  | _ => default
noncomputable def lamQ : Str := (Str.ofString "_law_word" ++ ".<locals>.") ++ "<lambda>"
noncomputable abbrev sSigns : Str := Str.ofString "signs"
noncomputable abbrev lamO (cl : Addr) (pm : Value) (c' : Addr) (ctv : Value) : Obj := kla_obj (Str.ofString "<lambda>") lamQ lamP lamB lamS [(sSigns, cl)] pm c' ctv
/-- a list of one-sign texts, the first one last -/
noncomputable def SigAt (h : Heap) (ls : Addr) (l : List Nat) : Prop := ∃ ws n, Paired (fun c v => ∃ u, v = Value.str (sg c) u) l ws ∧ h.get? ls = some (W.listOf ws.reverse.toArray n)
theorem SigAt.of {h h' : Heap} {ls : Addr} {l : List Nat} (x : SigAt h ls l) (k : ∀ o, h.get? ls = some o → h'.get? ls = some o) : SigAt h' ls l := by
  obtain ⟨ws, n, p, e⟩ := x
  exact ⟨ws, n, p, k _ e⟩
noncomputable def hdS : List Nat → Str
  | [] => Str.ofString ""
  | c :: _ => sg c
theorem kl_last_app (y : Value) : ∀ p : List Value, kl_last (p ++ [y]) = some (p, y)
  | [] => rfl
  | x :: r => by
    show (match kl_last (r ++ [y]) with | some (p, y) => some (x :: p, y) | none => some ([], x)) = _
    rw [kl_last_app y r]
structure LamOut (ls : Addr) (l : List Nat) (r : Result) (s s' : Shared) : Prop where
  out : ∃ h' tk u, r = .ok (.ret (.str (hdS l) u)) ∧ s' = { s with heap := h', toks := tk } ∧ SigAt h' ls l.tail ∧ ∀ b o, b ≠ ls → s.heap.get? b = some o → h'.get? b = some o
section
variable {w : World} {A : Around} {s : Shared} {mg mb : Str → Option Value} {E : Value → Shared → Prop}
theorem ne_nil {D D' : Addr} {xs : Array Value} {Q : Value → Shared → Prop} (l1 : s.heap.IsList D xs) (l2 : s.heap.IsList D' #[]) (hu : A.units < cLine) (h : Q (.bool (decide (xs.size ≠ 0))) s) :
    wpAny (model pw w) A (compareOp .NotEq (.ref D) (.ref D')) Q E s := by
  by_cases e : xs.size = 0
  · have := SeqAt.RcNeAt.lists (A := A) (e := fun _ => true) l1 l2 (by simpa using e) hu (fun j h1 _ => by omega)
    refine this pw w E Q ?_
    rw [show (List.range xs.size).all (fun _ => true) = true from List.all_eq_true.mpr fun _ _ => rfl]
    simpa [e] using h
  · have e4 : (xs.size != (#[] : Array Value).size) = true := by simpa using e
    refine SeqAt.RcNeAt.lists_lengths (A := A) l1 l2 e4 hu pw w E Q ?_
    simpa [e] using h
theorem lam_c {g : Heap} {fn cl ls c' : Addr} {pm ctv : Value} {oc : Obj} {l : List Nat} {t : Tok} (C : Cx w mg mb g) (k : ∀ b o, g.get? b = some o → s.heap.get? b = some o) (r : Rm A 2)
    (hf : s.heap.get? fn = some (lamO cl pm c' ctv)) (hc : s.heap.CodeRec (.ref c') lamQ) (hcl : s.heap.get? cl = some oc) (hoc : oc.data = .cell (some (.ref ls))) (hl : SigAt s.heap ls l) (hne : @Ne Nat ls cl)
    (gcl : g.get? cl = none) (gls : g.get? ls = none) (hz : l.length ≤ 1000) :
    codeAny (model pw w) A (.call (.ref fn) ⟨[.int 1 t], []⟩) (fun r s' => LamOut ls l r s s') s := by
  have CB : Cx w mg mb (hideAll s.heap [ls, cl]) := C.hide k (by intro b hb; rcases List.mem_cons.mp hb with rfl | hb; exact gls; rw [List.mem_singleton.mp hb]; exact gcl)
  refine kla_callFunE r.room hf rfl rfl rfl rfl hc ?_
  rw [show bindArgs (kla_fn (Str.ofString "<lambda>") lamQ lamP lamB lamS [(sSigns, cl)] pm (.ref c') ctv) ⟨[.int 1 t], []⟩ = pure [(Str.ofString "count", .int 1 t)] from by rfl]
  refine wpAny_pure (wpAny_newFunctionEnv (by show ∀ x ∈ lamS.names, x.2 ≠ .cell; decide +kernel) (locs rfl) (fun h₁ hns hsb => ⟨(C.T.nolimit.keeps k).fresh _ hsb, ?_⟩) rfl)
  have hk₁ : ∀ b o, s.heap.get? b = some o → h₁.get? b = some o := fun b o e => hsb.extBut b o (Nat.ne_of_lt (Heap.lt_size e)) (Heap.get?_push_of_some _ e)
  show codeAny _ _ (.expr lamB (envX lamQ lamS s.heap.objs.size fn (.ref c') [(sSigns, cl)])) _ _
  refine kla_codeExpr ?_
  obtain ⟨ws, n, hp, hls⟩ := hl
  have F : Fr (hideAll s.heap [ls, cl]) s.heap.objs.size h₁ _ := ⟨hns, fun b o e => hk₁ b o (of_hideAll _ e), Nat.le_of_eq (hideAll_size _ _)⟩
  have N : News (hideAll s.heap [ls, cl]) s.heap.objs.size h₁ [(ls, W.listOf ws.reverse.toArray n), (cl, oc)] := by
    intro p hp
    rcases List.mem_cons.mp hp with rfl | hp
    · exact ⟨hk₁ _ _ hls, Nat.ne_of_lt (Heap.lt_size hls), hideAll_none _ (.head _)⟩
    · rw [List.mem_singleton.mp hp]
      exact ⟨hk₁ _ _ hcl, Nat.ne_of_lt (Heap.lt_size hcl), hideAll_none _ (.tail _ (.head _))⟩
  have hh : A.handled = none := r.hh
  have X := CB.X
  have T := CB.T
  change wpAny _ _ (eval (.IfExp _ _ _ _) _) _ _ _
  repeat ((fail_if_success (with_reducible show wpAny _ _ (isTrue (Expr.Compare (Expr.Name _ _) [CmpOp.NotEq] _ _) _ _) _ _ _)); first | walk1 | (dsimp only; walk1))
  iterate 1 walk1
  refine nameX_F N (by rfl) (by k_mem) hoc ?_ (by rfl) (by rfl)
  repeat ((fail_if_success (with_reducible show wpAny _ _ (compareOp CmpOp.NotEq _ _) _ _ _)); first | walk1 | (dsimp only; walk1))
  rename News _ _ _ _ => N'
  rename Fr _ _ _ _ => F'
  rename _ ∧ _ => l2
  have m1 := N' _ (.head _)
  have m2 := N' _ (.tail _ (.head _))
  have hu : (A.deeper (envX lamQ lamS s.heap.objs.size fn (.ref c') [(sSigns, cl)])).units < cLine := by
    have := r.hu
    show A.units + 3 < 9900
    omega
  refine ne_nil ⟨_, m2.1, rfl, _, rfl⟩ ⟨_, m1.1, rfl, _, rfl⟩ hu ?_
  cases hp with
  | nil =>
    rw [show decide ((([] : List Value).reverse.toArray).size ≠ 0) = false from rfl]
    repeat (first | walk1 | (dsimp only; walk1))
    refine ⟨_, _, _, rfl, rfl, ⟨[], _, .nil, m2.1⟩, fun b o hb e => ?_⟩
    by_cases q : b = cl
    · subst q; rw [hcl] at e; cases e; exact (N' _ (.tail _ (.tail _ (.head _)))).1
    · exact keep_bad F' (by simp [q, hb]) e
  | @cons c v l' ws' hv hp' =>
    obtain ⟨u, rfl⟩ := hv
    rw [show decide (((Value.str (sg c) u :: ws').reverse.toArray).size ≠ 0) = true from by simp]
    iterate 3 walk1
    rw [if_pos rfl]
    repeat ((fail_if_success (with_reducible show wpAny _ _ (eval (Expr.Name _ _) _) _ _ _)); first | walk1 | (dsimp only; walk1))
    refine nameX_F N' (by rfl) (by k_mem) hoc ?_ (by rfl) (by rfl)
    refine kl_method N' (by k_mem) PySem.F.slot_list_pop PySem.F.type_list_pop ?_
    repeat ((fail_if_success (with_reducible show wpAny _ _ (call _ _) _ _ _)); first | walk1 | (dsimp only; walk1))
    have el : kl_last (Value.str (sg c) u :: ws').reverse.toArray.toList = some (ws'.reverse, Value.str (sg c) u) := by
      rw [List.toList_toArray, List.reverse_cons]
      exact kl_last_app _ _
    have hw : (Value.str (sg c) u :: ws').reverse.toArray.toList.length ≤ sizeLine := by
      have := hp'.length
      simp only [List.length_cons] at hz
      rw [List.toList_toArray, List.length_reverse, List.length_cons, sizeLine_eq]
      omega
    refine kl_pop F' N' el (by k_upd) hw ?_
    intro h' F₂ N₂
    refine ⟨_, _, _, rfl, rfl, ⟨ws', _, hp', (N₂ _ (.tail _ (.head _))).1⟩, fun b o hb e => ?_⟩
    by_cases q : b = cl
    · subst q; rw [hcl] at e; cases e; exact (N₂ _ (.tail _ (.tail _ (.head _)))).1
    · exact keep_bad F₂ (by simp [q, hb]) e
end
end Mine
end

section
open PySem PySem.W PySem.Calls PyProof.Rows PyProof.V
set_option Elab.async false
set_option maxRecDepth 100000
set_option maxHeartbeats 4000000
namespace Mine
structure LA where
  x : Addr
  dx : Addr
  pb : Addr
  st : Addr
  dst : Addr
  fn : Addr
  cl : Addr
  ls : Addr
  c' : Addr
noncomputable abbrev strEs (P : Params) (t : Toks) (u v : Tok) (pb fn : Addr) : List DictEntry := lexEs P 1 u t .none pb ++ [⟨PyData.keyHash P sRead, .str sRead v, .ref fn⟩]
noncomputable abbrev strD (P : Params) (t : Toks) (u v : Tok) (pb fn : Addr) : Obj := dictOf (strEs P t u v pb fn) 5
/-- the lexer, its stream, and the signs that are left -/
structure Lex (P : Params) (h : Heap) (a : LA) (l : List Nat) : Prop where
  hx : h.get? a.x = some (instObj 66 a.dx)
  hd : ∃ (n : Int) (u : Tok) (t : Toks), 0 ≤ n ∧ n + l.length ≤ 5000 ∧ h.get? a.dx = some (lexD P n u t (.ref a.st) a.pb)
  hp : h.get? a.pb = some (W.listOf #[] 0)
  hs : h.get? a.st = some (instObj 66 a.dst)
  hr : ∃ t u v pb, h.get? a.dst = some (strD P t u v pb a.fn)
  hf : ∃ pm ctv, h.get? a.fn = some (lamO a.cl pm a.c' ctv)
  hc : h.CodeRec (.ref a.c') lamQ
  hcl : ∃ oc, h.get? a.cl = some oc ∧ oc.data = .cell (some (.ref a.ls))
  hl : SigAt h a.ls l
  hz : l.length ≤ 1000
theorem Lex.ext {P : Params} {h h' : Heap} {a : LA} {l : List Nat} (X : Lex P h a l) (k : ∀ b o, h.get? b = some o → h'.get? b = some o) : Lex P h' a l := by
  obtain ⟨hx, ⟨n, u, t, d1, d2, d3⟩, hp, hs, ⟨t', u', v', pb', hr⟩, ⟨pm, ctv, hf⟩, ⟨c₁, oc₁, vs₁, t₁, q1, q2, q3⟩, ⟨oc, e1, e2⟩, hl, hz⟩ := X
  exact ⟨k _ _ hx, ⟨n, u, t, d1, d2, k _ _ d3⟩, k _ _ hp, k _ _ hs, ⟨t', u', v', pb', k _ _ hr⟩, ⟨pm, ctv, k _ _ hf⟩, ⟨c₁, oc₁, vs₁, t₁, q1, k _ _ q2, q3⟩, ⟨oc, k _ _ e1, e2⟩, hl.of fun o e => k _ _ e, hz⟩
/-- the order of the addresses -/
structure Ord (g : Heap) (a : LA) : Prop where
  o1 : @LT.lt Nat _ a.cl a.ls
  o2 : @LT.lt Nat _ a.ls a.dst
  o3 : @LT.lt Nat _ a.dst a.st
  o5 : @LT.lt Nat _ a.st a.fn
  o6 : @LT.lt Nat _ a.c' a.fn
  o4 : @Ne Nat a.c' a.ls
  o7 : @LT.lt Nat _ a.fn a.dx
  o8 : @LT.lt Nat _ a.dx a.x
  o9 : @LT.lt Nat _ a.x a.pb
  g0 : ∀ b, a.cl ≤ b → g.get? b = none
structure RcOut (P : Params) (a : LA) (l : List Nat) (r : Result) (s s' : Shared) : Prop where
  out : ∃ h' tk u, r = .ok (.ret (.str (hdS l) u)) ∧ s' = { s with heap := h', toks := tk } ∧ Lex P h' a l.tail ∧ ∀ b o, b ≠ a.dx → b ≠ a.ls → s.heap.get? b = some o → h'.get? b = some o
theorem Fr.extBut' {h₀ h h' : Heap} {bad : List Addr} {c L : Addr} {m : Str → Option Value} (F : Fr (hideAll h₀ bad) L h m) (hc : c ∈ bad) (hL : L ≠ c) (k : ∀ b o, b ≠ c → h.get? b = some o → h'.get? b = some o) : Fr (hideAll h₀ bad) L h' m :=
  ⟨F.ns.at' fun o e => k L o hL e, fun b o e => k b o (by rintro rfl; rw [hideAll_none _ hc] at e; cases e) (F.keep b o e), F.above⟩
theorem News.extBut' {h₀ h h' : Heap} {c L : Addr} {news : List (Addr × Obj)} (N : News h₀ L h news) (hc : ∀ p ∈ news, p.1 ≠ c) (k : ∀ b o, b ≠ c → h.get? b = some o → h'.get? b = some o) : News h₀ L h' news := fun p hp => ⟨k _ _ (hc p hp) (N p hp).1, (N p hp).2⟩
theorem rc_keep {h₀ h : Heap} {x dx st dst ls L : Addr} {m : Str → Option Value} (F : Fr (hideAll h₀ [x, dx, st, dst, ls]) L h m) (h1 : h.get? x = h₀.get? x) (h2 : h.get? st = h₀.get? st) (h3 : h.get? dst = h₀.get? dst) :
    ∀ b o, b ≠ dx → b ≠ ls → h₀.get? b = some o → h.get? b = some o := fun b o hb hb' e => by
  by_cases q1 : b = x
  · rw [q1, h1, ← q1]; exact e
  · by_cases q2 : b = st
    · rw [q2, h2, ← q2]; exact e
    · by_cases q3 : b = dst
      · rw [q3, h3, ← q3]; exact e
      · exact keep_bad F (by simp [q1, q2, q3, hb, hb']) e
section
variable {w : World} {A : Around} {s : Shared} {mg mb : Str → Option Value} {E : Value → Shared → Prop}
theorem rc_c {g : Heap} {a : LA} {l : List Nat} (C : Cx w mg mb g) (k : ∀ b o, g.get? b = some o → s.heap.get? b = some o) (r : Rm A 3) (O : Ord g a) (Y : Lex w.params s.heap a l) :
    codeAny (model pw w) A (.call (.ref 49) ⟨[.ref a.x], []⟩) (fun r s' => RcOut w.params a l r s s') s := by
  obtain ⟨x, dx, pb, st, dst, fn, cl, ls, c'⟩ := a
  obtain ⟨o1, o2, o3, o5, o6, o4, o7, o8, o9, g0⟩ := O
  obtain ⟨hx, ⟨n, u, t, d1, d2, hd⟩, hp, hs, ⟨t', u'', v', pb', hr⟩, ⟨pm, ctv, hf⟩, hc, ⟨oc, hcl, hoc⟩, ⟨ws, nn, hw, hls⟩, hz⟩ := Y
  dsimp only at o1 o2 o3 o5 o6 o4 o7 o8 o9 g0 hx hd hp hs hr hf hc hcl hls hoc hw ⊢
  have gN : ∀ b ∈ [x, dx, st, dst, ls], g.get? b = none := by
    have q : ∀ b : Nat, @LE.le Nat _ cl b → g.get? b = none := g0
    intro b hb
    simp only [List.mem_cons, List.not_mem_nil, or_false] at hb
    rcases hb with rfl | rfl | rfl | rfl | rfl <;> exact q _ (by omega)
  have CB : Cx w mg mb (hideAll s.heap [x, dx, st, dst, ls]) := C.hide k gN
  refine call_fn_ret (name := Str.ofString "_read_char") (qual := Str.ofString "_netrclex._read_char") (params := fP (cst 1)) (body := fB (cst 1)) (scope := fS (cst 1)) (binds := [(Str.ofString "self", .ref x)]) [x, dx, st, dst, ls] r.room (k _ _ (C.X 49 _ rfl)) rfl (C.T.nolimit.keeps k) (codeRec_of (C.X.keeps k) (by kernel_rfl)) (by rfl) rfl (locs rfl) (fun h₁ F hk => ?_) rfl rfl rfl (by decide +kernel)
  have N : News (hideAll s.heap [x, dx, st, dst, ls]) s.heap.objs.size h₁ [(x, instObj 66 dx), (dx, lexD w.params n u t (.ref st) pb), (st, instObj 66 dst), (dst, strD w.params t' u'' v' pb' fn)] := by
    refine List.forall_mem_cons.mpr ⟨⟨hk _ _ hx, Nat.ne_of_lt (Heap.lt_size hx), hideAll_none _ (by simp)⟩, List.forall_mem_cons.mpr ⟨⟨hk _ _ hd, Nat.ne_of_lt (Heap.lt_size hd), hideAll_none _ (by simp)⟩,
      List.forall_mem_cons.mpr ⟨⟨hk _ _ hs, Nat.ne_of_lt (Heap.lt_size hs), hideAll_none _ (by simp)⟩, List.forall_mem_cons.mpr ⟨⟨hk _ _ hr, Nat.ne_of_lt (Heap.lt_size hr), hideAll_none _ (by simp)⟩, List.forall_mem_nil _⟩⟩⟩⟩
  have hh : A.handled = none := r.hh
  have X := CB.X
  have T := CB.T
  change wpAny _ _ (execs [_, _, _] _) _ _ _
  repeat ((fail_if_success (with_reducible show wpAny _ _ (call (.ref _) _) _ _ _)); first | walk1 | (dsimp only; walk1))
  dsimp only
  have hf₁ := hk _ _ hf
  refine callWith_def (o := lamO cl pm c' ctv) rfl ?_
  repeat ((fail_if_success (with_reducible show And _ _)); first | walk1 | (dsimp only; walk1))
  refine ⟨hf₁, ?_⟩
  have q : ∀ b : Nat, @LE.le Nat _ cl b → g.get? b = none := g0
  refine wpAny_call (codeAny_mono (lam_c (s := { s with heap := h₁, toks := tk + 1 + 1 + 1 }) C (fun b o e => hk b o (k b o e)) (Rm.deeper r) hf₁ (hc.keeps hk) (hk _ _ hcl) hoc ⟨ws, nn, hw, hk _ _ hls⟩ (by omega) (q _ (Nat.le_refl _)) (q _ (by omega)) hz) ?_)
  rintro r' s' ⟨h', tk', u', rfl, rfl, ⟨ws₂, n₂, hw₂, hls₂⟩, kp⟩
  have hL : @Ne Nat s.heap.objs.size ls := Ne.symm (Nat.ne_of_lt (Heap.lt_size hls))
  have F' := Fr.extBut' F (by simp) hL kp
  have N' : News (hideAll s.heap [x, dx, st, dst, ls]) s.heap.objs.size h' ([(x, instObj 66 dx), (dx, lexD w.params n u t (.ref st) pb), (st, instObj 66 dst), (dst, strD w.params t' u'' v' pb' fn), (ls, W.listOf ws₂.reverse.toArray n₂)]) := by
    have N1 := News.extBut' N (by
      refine List.forall_mem_cons.mpr ⟨?_, List.forall_mem_cons.mpr ⟨?_, List.forall_mem_cons.mpr ⟨?_, List.forall_mem_cons.mpr ⟨?_, List.forall_mem_nil _⟩⟩⟩⟩ <;> (refine neN ?_; dsimp only; omega)) kp
    exact List.forall_mem_cons.mpr ⟨N1 _ (.head _), List.forall_mem_cons.mpr ⟨N1 _ (.tail _ (.head _)), List.forall_mem_cons.mpr ⟨N1 _ (.tail _ (.tail _ (.head _))), List.forall_mem_cons.mpr ⟨N1 _ (.tail _ (.tail _ (.tail _ (.head _)))), List.forall_mem_cons.mpr ⟨⟨hls₂, Ne.symm hL, hideAll_none _ (by simp)⟩, List.forall_mem_nil _⟩⟩⟩⟩⟩
  clear F N
  repeat' (first | walk1 | (dsimp only; walk1))
  all_goals
    rename News _ _ _ _ => N₂
    rename Fr _ _ _ _ => F₂
    have kk := rc_keep F₂ ((N₂ _ (.head _)).1.trans hx.symm) ((N₂ _ (.tail _ (.tail _ (.head _)))).1.trans hs.symm) ((N₂ _ (.tail _ (.tail _ (.tail _ (.head _))))).1.trans hr.symm)
    have kn : ∀ (b : Nat) o, @Ne Nat b dx ∧ @Ne Nat b ls → s.heap.get? b = some o → _ := fun b o h e => kk b o h.1 h.2 e
    refine ⟨_, _, _, rfl, rfl, ⟨(N₂ _ (.head _)).1, ⟨_, _, _, ?_, ?_, (N₂ _ (.tail _ (.head _))).1⟩, kn pb _ (by omega) hp, (N₂ _ (.tail _ (.tail _ (.head _)))).1, ⟨_, _, _, _, (N₂ _ (.tail _ (.tail _ (.tail _ (.head _))))).1⟩, ⟨pm, ctv, kn fn _ (by omega) hf⟩, ?_, ⟨oc, kn cl _ (by omega) hcl, hoc⟩, ⟨ws₂, n₂, hw₂, (N₂ _ (.tail _ (.tail _ (.tail _ (.tail _ (.head _)))))).1⟩, ?_⟩, kk⟩
    · omega
    · first
        | (have hlen : l.tail.length ≤ l.length := by rw [List.length_tail]; omega
           omega)
        | (have hne : l ≠ [] := by
             rintro rfl
             rename (hdS [] == _) = true => e
             revert e
             decide +kernel
           have hlen : l.tail.length + 1 = l.length := by
             cases l with
             | nil => exact absurd rfl hne
             | cons _ _ => rfl
           omega)
    · obtain ⟨c₁, oc₁, vs₁, t₁, q1, q2, q3⟩ := hc
      cases q1
      exact ⟨c', oc₁, vs₁, t₁, rfl, kn c' _ (by omega) q2, q3⟩
    · rw [List.length_tail]; omega
end
end Mine
end

section
open PySem PySem.W PySem.Calls PyProof.Rows PyProof.V
set_option Elab.async false
set_option maxRecDepth 100000
set_option maxHeartbeats 4000000
namespace Mine
theorem slot_ci_next : PySem.Slot "callable_iterator" "__next__" "callable_iterator.__next__" :=
  .of (owner := "callable_iterator") (n := "__next__") (by rw [typeLookup_type, builtinLookup_eq_fast]; kernel_rfl) (by decide +kernel) (by decide +kernel) (by decide +kernel)
    (by first | exact .inl (by decide +kernel) | exact .inr (by decide +kernel)) (by rw [isSubtype_type]; kernel_rfl)
theorem slot_ci_iter : PySem.Slot "callable_iterator" "__iter__" "callable_iterator.__iter__" :=
  .of (owner := "callable_iterator") (n := "__iter__") (by rw [typeLookup_type, builtinLookup_eq_fast]; kernel_rfl) (by decide +kernel) (by decide +kernel) (by decide +kernel)
    (by first | exact .inl (by decide +kernel) | exact .inr (by decide +kernel)) (by rw [isSubtype_type]; kernel_rfl)
theorem entry_ci_next : entryFor table "callable_iterator.__next__" = some Builtin.«callable_iterator.__next__» := entryFor_of_tree (by kernel_rfl)
theorem entry_ci_iter : entryFor table "callable_iterator.__iter__" = some Builtin.«dict_keyiterator.__iter__» :=
  entryFor_alias (id' := "dict_keyiterator.__iter__") (by kernel_rfl) rfl (by decide +kernel) (by kernel_rfl)
theorem args_ci_next (a : Value) : argsOk "callable_iterator.__next__" ⟨[a], []⟩ := by unfold argsOk; kernel_rfl
theorem args_ci_iter (a : Value) : argsOk "callable_iterator.__iter__" ⟨[a], []⟩ := by unfold argsOk; kernel_rfl
noncomputable abbrev ciObj (f z : Value) (e : Bool) : Obj := { cls := .type "callable_iterator", data := .fields #[f, z, .bool e] }
section
variable {w : World} {A : Around} {s : Shared} {E : Value → Shared → Prop}
theorem wpAny_callBorrowed {M : Model} {f : Value} {pos : List Value} {Q : Value → Shared → Prop}
    (hc : codeAny M A (.call f ⟨pos, []⟩) (fun r s' => match r with | .ok (.ret v) => Q v s' | .ok _ => False | .error e => E e s') s) : wpAny M A (callBorrowed f pos) Q E s := fun Γ p hΓ => by
  refine wpCode_mono (fun r s' h => ?_) (hc _ p rfl (hΓ.enter (.call f ⟨pos, []⟩) none p (by intro x; cases x)))
  cases r with
  | error e => exact h
  | ok f => cases f <;> exact h
theorem ci_iter {I : Addr} {f z : Value} {e : Bool} {Q : Value → Shared → Prop} (h : s.heap.get? I = some (ciObj f z e)) (q : Q (.ref I) s) : wpAny (model pw w) A (pyIter (.ref I)) Q E s := by
  have hT : s.TypeIs (.ref I) "callable_iterator" := ⟨_, h, rfl⟩
  refine wpAny_pyIter_slot hT slot_ci_iter (wpAny_call_entry slot_ci_iter hT entry_ci_iter ?_ (args_ci_iter _))
  show wpAny _ _ (ret (.ref I)) _ _ s
  exact wpAny_pure ⟨_, rfl, "callable_iterator", _, hT, slot_ci_next.lookup, q⟩
theorem borrows_meth {mo g : Addr} {self : Value} {o : Obj} {fd : FuncData} {Q : Bool → Shared → Prop} {M : Model} (h : s.heap.get? mo = some (methodObj (.ref g) self)) (hg : s.heap.get? g = some o) (hd : o.data = .func fd) (q : Q true s) :
    wpAny M A (borrowsExactly (.ref mo)) Q E s := by
  unfold borrowsExactly
  refine wpAny_bind (wpAny_load h ?_)
  dsimp only
  rw [if_pos (by decide +kernel)]
  refine wpAny_bind (wpAny_load hg ?_)
  rw [hd]
  exact wpAny_pure q
/-- StopIteration leaves a loop -/
theorem ci_stop {α : Type} {QQ : α → Shared → Prop} {Q : Option Value → Shared → Prop} (hh : A.handled = none) (h : ∀ h', (∀ b o, s.heap.get? b = some o → h'.get? b = some o) → Q none { s with heap := h' }) :
    wpAny (model pw w) A.in1 (Builtin.SmallTypes.stopIteration (α := α)) QQ
      (fun e s' => wpAny (model pw w) A (isInstance e (.type "StopIteration")) (fun b s₂ => if b = true then Q none s₂ else E e s₂) E s') s := by
  show wpAny _ _ (newExc (.type "StopIteration") [] >>= _) _ _ _
  refine wpAny_bind ?_
  simp only [newExc, newTuple]
  refine wpAny_bind (wpAny_newObj_type ?_ (by size_fits))
  refine wpAny_bind (m := firstArgMember _ _) (wpAny_of_eq (a := Value.none) (by first | rfl | (simp only [firstArgMember]; rfl)) ?_)
  refine wpAny_newObj_type ?_ (by size_fits)
  simp only [raiseNew]
  refine wpAny_bind (wpAny_handled ?_)
  rw [show A.in1.handled = none from hh]
  refine wpAny_bind (wpAny_pure (wpAny_throw ?_))
  refine wpAny_isInstance (T := "StopIteration") (b := true) ⟨_, Heap.get?_push_size _ rfl, rfl⟩ isSubtype_stop ?_
  rw [if_pos rfl]
  exact h _ fun b o e => Heap.get?_push_of_some _ (Heap.get?_push_of_some _ e)
theorem ci_next {I : Addr} {f z : Value} {e : Bool} {Q : Option Value → Shared → Prop} (h : s.heap.get? I = some (ciObj f z e))
    (hc : wpAny (model pw w) A.in1 (Builtin.«callable_iterator.__next__» ⟨[.ref I], []⟩) (fun fin s' => ∃ v, fin = .done (.ret v) ∧ Q (some v) s')
      (fun e s' => wpAny (model pw w) A (isInstance e (.type "StopIteration")) (fun b s₂ => if b = true then Q none s₂ else E e s₂) E s') s) :
    wpAny (model pw w) A (pyNext (.ref I)) Q E s := by
  have hT : s.TypeIs (.ref I) "callable_iterator" := ⟨_, h, rfl⟩
  unfold pyNext
  refine wpAny_bind (wpAny_attempt (wpAny_callSpecial?_slot (name := Str.ofString "__next__") hT slot_ci_next (wpAny_call_entry slot_ci_next hT entry_ci_next ?_ (args_ci_next _))))
  refine wpAny_mono hc (fun fin s' ⟨v, e, q⟩ => ⟨v, e, wpAny_pure q⟩) fun e s' q => ?_
  refine wpAny_bind (wpAny_mono q (fun b s₂ q => ?_) fun _ _ q => q)
  cases b with
  | true => exact wpAny_pure q
  | false => exact wpAny_throw q
theorem ci_ended {I : Addr} {f z : Value} {Q : Option Value → Shared → Prop} (hh : A.handled = none) (h : s.heap.get? I = some (ciObj f z true)) (q : ∀ h', (∀ b o, s.heap.get? b = some o → h'.get? b = some o) → Q none { s with heap := h' }) :
    wpAny (model pw w) A (pyNext (.ref I)) Q E s := by
  refine ci_next h ?_
  show wpAny _ _ (field (.ref I) 2 >>= _) _ _ s
  refine wpAny_bind (wpAny_field h rfl (x := .bool true) rfl ?_)
  dsimp only
  rw [if_pos (by decide +kernel)]
  exact wpAny_bind (wpAny_rule (wpAny_bind (ci_stop hh q)))
theorem slotLets_meth {mo g : Addr} {self : Value} {o : Obj} {fd : FuncData} {who : String} {busy : Code → Bool} {Q : Unit → Shared → Prop} {M : Model} (h : s.heap.get? mo = some (methodObj (.ref g) self)) (hg : s.heap.get? g = some o) (hd : o.data = .func fd) (q : Q () s) :
    wpAny M A (slotLetsGo who (.ref mo) busy) Q E s := by
  unfold slotLetsGo
  dsimp only
  refine wpAny_bind (borrows_meth h hg hd ?_)
  rw [if_pos rfl]
  exact wpAny_pure q
theorem ci_next_call {I mo g x : Addr} {z : Tok} {o : Obj} {fd : FuncData} {Q : Option Value → Shared → Prop} (hh : A.handled = none) (h : s.heap.get? I = some (ciObj (.ref mo) (.str (Str.ofString "") z) false)) (hm : s.heap.get? mo = some (methodObj (.ref g) (.ref x)))
    (hg : s.heap.get? g = some o) (hd : o.data = .func fd)
    (hc : codeAny (model pw w) A.in1 (.call (.ref g) ⟨[.ref x], []⟩) (fun r s' => ∃ y u, r = .ok (.ret (.str y u)) ∧ s'.heap.get? I = some (ciObj (.ref mo) (.str (Str.ofString "") z) false) ∧ s'.heap.get? mo = some (methodObj (.ref g) (.ref x)) ∧ s'.heap.get? g = some o ∧
      ((Str.ofString "" == y) = false → Q (some (.str y u)) s') ∧
      ((Str.ofString "" == y) = true → ∀ h', h'.get? I = some (ciObj .none .none true) → (∀ b o, b ≠ I → s'.heap.get? b = some o → h'.get? b = some o) → Q none { s' with heap := h' })) s) :
    wpAny (model pw w) A (pyNext (.ref I)) Q E s := by
  refine ci_next h ?_
  show wpAny _ _ (field (.ref I) 2 >>= _) _ _ s
  refine wpAny_bind (wpAny_field h rfl (x := .bool false) rfl ?_)
  dsimp only
  rw [if_neg (by decide +kernel)]
  refine wpAny_bind (wpAny_field h rfl (x := .ref mo) rfl ?_)
  refine wpAny_bind (wpAny_attempt ?_)
  unfold callOutOfASlot
  refine wpAny_bind (borrows_meth hm hg hd ?_)
  rw [if_pos rfl]
  refine wpAny_callBorrowed (method_call hm (codeAny_mono hc fun r s' hr => ?_))
  obtain ⟨y, u, rfl, e1, e2, e3, q1, q2⟩ := hr
  dsimp only
  refine wpAny_bind (wpAny_field e1 rfl (x := .bool false) rfl ?_)
  rw [if_neg (by decide +kernel)]
  refine wpAny_bind (wpAny_field e1 rfl (x := .str (Str.ofString "") z) rfl ?_)
  refine wpAny_bind (wpAny_holding (eqBool_str ?_))
  cases hy : (Str.ofString "" == y) with
  | false =>
    rw [if_pos (by decide)]
    exact wpAny_pure ⟨_, rfl, q1 hy⟩
  | true =>
    rw [if_neg (by decide)]
    refine wpAny_bind (wpAny_rule (wpAny_bind ?_))
    show wpAny _ _ (field (.ref I) 0 >>= fun v => slotLetsGo "callable_iterator.__next__" v _ >>= fun _ => setField (.ref I) 0 .none >>= fun _ => setField (.ref I) 1 .none >>= fun _ => setField (.ref I) 2 (.bool true)) _ _ _
    refine wpAny_bind (wpAny_field e1 rfl (x := .ref mo) rfl (wpAny_bind (slotLets_meth e2 e3 hd ?_)))
    refine wpAny_bind (wpAny_setField e1 rfl (Nat.lt_of_sub_eq_succ rfl) ?_)
    have f1 : (s'.heap.update I (Obj.mapFields fun x => x.setIfInBounds 0 Value.none)).get? I = some { cls := .type "callable_iterator", data := .fields #[.none, .str (Str.ofString "") z, .bool false] } := Heap.get?_update_self _ e1 (Obj.isFreed_of_fields rfl)
    refine wpAny_bind (wpAny_setField f1 rfl (Nat.lt_of_sub_eq_succ rfl) ?_)
    have f2 : ((s'.heap.update I (Obj.mapFields fun x => x.setIfInBounds 0 Value.none)).update I (Obj.mapFields fun x => x.setIfInBounds 1 Value.none)).get? I = some { cls := .type "callable_iterator", data := .fields #[.none, .none, .bool false] } := Heap.get?_update_self _ f1 (Obj.isFreed_of_fields rfl)
    refine wpAny_setField f2 rfl (Nat.lt_of_sub_eq_succ rfl) ?_
    have f3 : (((s'.heap.update I (Obj.mapFields fun x => x.setIfInBounds 0 Value.none)).update I (Obj.mapFields fun x => x.setIfInBounds 1 Value.none)).update I (Obj.mapFields fun x => x.setIfInBounds 2 (Value.bool true))).get? I = some (ciObj .none .none true) := Heap.get?_update_self _ f2 (Obj.isFreed_of_fields rfl)
    refine ci_stop hh fun h' k => ?_
    refine q2 hy h' (k _ _ f3) fun b o hb e => k _ _ ?_
    exact (Heap.SameBut.update ..).extBut b o hb ((Heap.SameBut.update ..).extBut b o hb ((Heap.SameBut.update ..).extBut b o hb e))
end
end Mine
end

section
open PySem PySem.W PySem.Calls PyProof.Rows PyProof.V
set_option Elab.async false
set_option maxRecDepth 100000
set_option maxHeartbeats 4000000
namespace Mine
theorem meth_call_look : typeLookup (.type "method") "__call__" = pure (some (.builtin "method.__call__")) := by rw [typeLookup_type, builtinLookup_eq_fast]; kernel_rfl
theorem args_iter2 (a b : Value) : argsOk "iter" ⟨[a, b], []⟩ := by unfold argsOk; kernel_rfl
section
variable {w : World} {A : Around} {s : Shared} {E : Value → Shared → Prop}
theorem it_call {mo g : Addr} {self z : Value} {Q : Value → Shared → Prop} (h : s.heap.get? mo = some (methodObj (.ref g) self))
    (q : Q (.ref s.heap.objs.size) { s with heap := s.heap.push (ciObj (.ref mo) z false) }) : wpAny (model pw w) A (call (.builtin "iter") [.ref mo, z]) Q E s := by
  refine call_function_entry (by decide +kernel) (by decide +kernel) kdk_entry_iter (args_iter2 _ _) ?_
  unfold Builtin.«iter»
  refine wpAny_bind (m := someArgs "iter" 1 2 _) (wpAny_of_eq (a := [Value.ref mo, z]) (by first | rfl | kernel_rfl!) ?_)
  have hT : s.TypeIs (.ref mo) "method" := ⟨_, h, rfl⟩
  show wpAny _ _ (specialOf (.ref mo) "__call__" >>= _) _ _ _
  refine wpAny_bind (wpAny_specialOf hT meth_call_look ?_)
  rw [if_neg (by decide)]
  refine wpAny_bind (wpAny_rule ?_)
  show wpAny _ _ (newFields "callable_iterator" [.ref mo, z, .bool false] >>= _) _ _ _
  exact wpAny_bind (wpAny_newObj_type (wpAny_pure ⟨_, rfl, q⟩) (by size_fits))
end
end Mine
end

section
open PySem PySem.W PySem.Calls PyProof.Rows PyProof.V
set_option Elab.async false
set_option maxRecDepth 100000
set_option maxHeartbeats 4000000
namespace Mine
noncomputable abbrev NL (P : Params) (a : LA) (mo I : Addr) (n : Int) (u : Tok) (t : Toks) (ws : List Value) (nn : Nat) (io : Obj) : List (Addr × Obj) :=
  [(a.x, instObj 66 a.dx), (a.dx, lexD P n u t (.ref a.st) a.pb), (a.pb, W.listOf #[] 0), (a.ls, W.listOf ws.reverse.toArray nn), (mo, methodObj (.ref 49) (.ref a.x)), (I, io)]
/-- what stands while get_token runs -/
structure GS (w : World) (mg mb : Str → Option Value) (g B : Heap) (L mo I : Addr) (a : LA) : Prop where
  C : Cx w mg mb g
  CB : Cx w mg mb B
  gB : ∀ b o, g.get? b = some o → B.get? b = some o
  O : Ord g a
  l1 : @LT.lt Nat _ a.pb L
  l2 : @LT.lt Nat _ a.pb mo
  l3 : @LT.lt Nat _ mo I
  hid : B.get? a.x = none ∧ B.get? a.dx = none ∧ B.get? a.pb = none ∧ B.get? a.ls = none ∧ B.get? mo = none ∧ B.get? I = none
  hs : B.get? a.st = some (instObj 66 a.dst)
  hr : ∃ t u v pb, B.get? a.dst = some (strD w.params t u v pb a.fn)
  hf : ∃ pm ctv, B.get? a.fn = some (lamO a.cl pm a.c' ctv)
  hc : B.CodeRec (.ref a.c') lamQ
  hcl : ∃ oc, B.get? a.cl = some oc ∧ oc.data = .cell (some (.ref a.ls))
structure LS (P : Params) (B : Heap) (L mo I : Addr) (a : LA) (io : Obj) (l : List Nat) (h : Heap) : Prop where
  out : ∃ (n : Int) (u : Tok) (t : Toks) (ws : List Value) (nn : Nat), 0 ≤ n ∧ n + l.length ≤ 5000 ∧ Paired (fun c v => ∃ u, v = Value.str (sg c) u) l ws ∧ News B L h (NL P a mo I n u t ws nn io)
  hz : l.length ≤ 1000
section
variable {w : World} {A : Around} {s : Shared} {mg mb : Str → Option Value} {E : Value → Shared → Prop} {g B : Heap} {L mo I : Addr} {a : LA} {io : Obj} {l : List Nat} {m : Str → Option Value}
theorem lex_of (S : GS w mg mb g B L mo I a) {h : Heap} (F : Fr B L h m) (X : LS w.params B L mo I a io l h) : Lex w.params h a l := by
  obtain ⟨⟨n, u, t, ws, nn, d1, d2, hw, N⟩, hz⟩ := X
  obtain ⟨t', u', v', pb', hr⟩ := S.hr
  obtain ⟨pm, ctv, hf⟩ := S.hf
  obtain ⟨oc, hcl, hoc⟩ := S.hcl
  have nx := N _ (.head _)
  have nd := N _ (.tail _ (.head _))
  have np := N _ (.tail _ (.tail _ (.head _)))
  have nl := N _ (.tail _ (.tail _ (.tail _ (.head _))))
  exact ⟨nx.1, ⟨n, u, t, d1, d2, nd.1⟩, np.1, F.keep _ _ S.hs, ⟨t', u', v', pb', F.keep _ _ hr⟩, ⟨pm, ctv, F.keep _ _ hf⟩, S.hc.keeps F.keep, ⟨oc, F.keep _ _ hcl, hoc⟩, ⟨ws, nn, hw, nl.1⟩, hz⟩
/-- what a read leaves -/
structure RcN (P : Params) (B : Heap) (L mo I : Addr) (a : LA) (io : Obj) (l : List Nat) (m : Str → Option Value) (r : Result) (s s' : Shared) : Prop where
  out : ∃ h' tk u, r = .ok (.ret (.str (hdS l) u)) ∧ s' = { s with heap := h', toks := tk } ∧ Fr B L h' m ∧ LS P B L mo I a io l.tail h'
theorem rc_code (S : GS w mg mb g B L mo I a) (r : Rm A 3) (F : Fr B L s.heap m) (X : LS w.params B L mo I a io l s.heap) :
    codeAny (model pw w) A (.call (.ref 49) ⟨[.ref a.x], []⟩) (fun r s' => RcN w.params B L mo I a io l m r s s') s := by
  refine codeAny_mono (rc_c S.C (fun b o e => F.keep b o (S.gB b o e)) r S.O (lex_of S F X)) fun r s' h => ?_
  obtain ⟨h', tk, u, rfl, rfl, Y, k⟩ := h
  obtain ⟨⟨n, u₁, t, ws, nn, d1, d2, hw, N⟩, hz⟩ := X
  obtain ⟨hx, ⟨n', u', t', d1', d2', hd⟩, hp, hs, _, _, _, _, ⟨ws', nn', hw', hls⟩, hz'⟩ := Y
  obtain ⟨q1, q2, q3, q4, q5, q6⟩ := S.hid
  obtain ⟨o1, o2, o3, o5, o6, o4, o7, o8, o9, g0⟩ := S.O
  have l1 := S.l1
  have l2 := S.l2
  have l3 := S.l3
  have km : ∀ (b : Nat) o, @Ne Nat b a.dx ∧ @Ne Nat b a.ls → s.heap.get? b = some o → h'.get? b = some o := fun b o h e => k b o h.1 h.2 e
  have hL : ∀ o, s.heap.get? L = some o → h'.get? L = some o := fun o e => km L o (by omega) e
  refine ⟨h', tk, u, rfl, rfl, ⟨F.ns.at' hL, fun b o e => k b o (by rintro rfl; rw [q2] at e; cases e) (by rintro rfl; rw [q4] at e; cases e) (F.keep b o e), F.above⟩, ⟨n', u', t', ws', nn', d1', d2', hw', ?_⟩, hz'⟩
  have nm := N _ (.tail _ (.tail _ (.tail _ (.tail _ (.head _)))))
  have ni := N _ (.tail _ (.tail _ (.tail _ (.tail _ (.tail _ (.head _))))))
  refine List.forall_mem_cons.mpr ⟨⟨hx, (N _ (.head _)).2⟩, List.forall_mem_cons.mpr ⟨⟨hd, (N _ (.tail _ (.head _))).2⟩, List.forall_mem_cons.mpr ⟨⟨hp, (N _ (.tail _ (.tail _ (.head _)))).2⟩,
    List.forall_mem_cons.mpr ⟨⟨hls, (N _ (.tail _ (.tail _ (.tail _ (.head _))))).2⟩, List.forall_mem_cons.mpr ⟨⟨km mo _ (by omega) nm.1, nm.2⟩, List.forall_mem_cons.mpr ⟨⟨km I _ (by omega) ni.1, ni.2⟩, List.forall_mem_nil _⟩⟩⟩⟩⟩⟩
theorem rc_step {Q : Value → Shared → Prop} (S : GS w mg mb g B L mo I a) (r : Rm A 3) (F : Fr B L s.heap m) (X : LS w.params B L mo I a io l s.heap)
    (h : ∀ h' tk u, Fr B L h' m → LS w.params B L mo I a io l.tail h' → Q (.str (hdS l) u) { s with heap := h', toks := tk }) : wpAny (model pw w) A (call (.ref 49) [.ref a.x]) Q E s := by
  refine wpAny_call (codeAny_mono (rc_code S r F X) fun r s' q => ?_)
  obtain ⟨h', tk, u, rfl, rfl, F', X'⟩ := q
  exact h h' tk u F' X'
noncomputable abbrev ioGo (mo : Addr) (z : Tok) : Obj := ciObj (.ref mo) (.str (Str.ofString "") z) false
noncomputable abbrev ioEnd : Obj := ciObj .none .none true
theorem LS.setIo {io' : Obj} {h h' : Heap} (S : GS w mg mb g B L mo I a) (X : LS w.params B L mo I a io l h) (e : h'.get? I = some io') (k : ∀ b o, b ≠ I → h.get? b = some o → h'.get? b = some o) : LS w.params B L mo I a io' l h' := by
  obtain ⟨⟨n, u, t, ws, nn, d1, d2, hw, N⟩, hz⟩ := X
  obtain ⟨o1, o2, o3, o5, o6, o4, o7, o8, o9, g0⟩ := S.O
  have l1 := S.l1
  have l2 := S.l2
  have l3 := S.l3
  have km : ∀ (b : Nat) o, @Ne Nat b I → h.get? b = some o → h'.get? b = some o := fun b o h e => k b o h e
  refine ⟨⟨n, u, t, ws, nn, d1, d2, hw, ?_⟩, hz⟩
  have n1 := N _ (.head _)
  have n2 := N _ (.tail _ (.head _))
  have n3 := N _ (.tail _ (.tail _ (.head _)))
  have n4 := N _ (.tail _ (.tail _ (.tail _ (.head _))))
  have n5 := N _ (.tail _ (.tail _ (.tail _ (.tail _ (.head _)))))
  have n6 := N _ (.tail _ (.tail _ (.tail _ (.tail _ (.tail _ (.head _))))))
  refine List.forall_mem_cons.mpr ⟨⟨km a.x _ (by omega) n1.1, n1.2⟩, List.forall_mem_cons.mpr ⟨⟨km a.dx _ (by omega) n2.1, n2.2⟩, List.forall_mem_cons.mpr ⟨⟨km a.pb _ (by omega) n3.1, n3.2⟩,
    List.forall_mem_cons.mpr ⟨⟨km a.ls _ (by omega) n4.1, n4.2⟩, List.forall_mem_cons.mpr ⟨⟨km mo _ (by omega) n5.1, n5.2⟩, List.forall_mem_cons.mpr ⟨⟨e, n6.2⟩, List.forall_mem_nil _⟩⟩⟩⟩⟩⟩
theorem LS.ext {h h' : Heap} (X : LS w.params B L mo I a io l h) (k : ∀ b o, h.get? b = some o → h'.get? b = some o) : LS w.params B L mo I a io l h' := by
  obtain ⟨⟨n, u, t, ws, nn, d1, d2, hw, N⟩, hz⟩ := X
  exact ⟨⟨n, u, t, ws, nn, d1, d2, hw, News.ext' N k⟩, hz⟩
theorem next_step {z : Tok} {Q : Option Value → Shared → Prop} (S : GS w mg mb g B L mo I a) (r : Rm A 4) (F : Fr B L s.heap m) (X : LS w.params B L mo I a (ioGo mo z) l s.heap)
    (hgo : ∀ c l' u h' tk, l = c :: l' → Fr B L h' m → LS w.params B L mo I a (ioGo mo z) l' h' → Q (some (.str (sg c) u)) { s with heap := h', toks := tk })
    (hend : ∀ h' tk, l = [] → Fr B L h' m → LS w.params B L mo I a ioEnd [] h' → Q none { s with heap := h', toks := tk }) : wpAny (model pw w) A (pyNext (.ref I)) Q E s := by
  obtain ⟨n, u, t, ws, nn, d1, d2, hw, N⟩ := X.out
  have nm := N _ (.tail _ (.tail _ (.tail _ (.tail _ (.head _)))))
  have ni := N _ (.tail _ (.tail _ (.tail _ (.tail _ (.tail _ (.head _))))))
  refine ci_next_call r.hh ni.1 nm.1 (F.keep _ _ (S.CB.X 49 _ rfl)) rfl (codeAny_mono (rc_code (A := A.in1) S ⟨r.hh, by have := r.hd; show A.depth + 3 ≤ 900; omega, by have := r.hu; show A.units + 1 + 3 * 3 ≤ 900; omega⟩ F X) fun r s' q => ?_)
  obtain ⟨h', tk, u', rfl, rfl, F', X'⟩ := q
  obtain ⟨n', u₂, t', ws', nn', d1', d2', hw', N'⟩ := X'.out
  have nm' := N' _ (.tail _ (.tail _ (.tail _ (.tail _ (.head _)))))
  have ni' := N' _ (.tail _ (.tail _ (.tail _ (.tail _ (.tail _ (.head _))))))
  refine ⟨_, _, rfl, ni'.1, nm'.1, F'.keep _ _ (S.CB.X 49 _ rfl), fun hy => ?_, fun hy h₂ e2 k2 => ?_⟩
  · cases l with
    | nil => exact absurd hy (by decide +kernel)
    | cons c l' => exact hgo c l' u' h' tk rfl F' X'
  · cases l with
    | nil =>
      have hLI : L ≠ I := Ne.symm ni'.2.1
      exact hend h₂ tk rfl ⟨F'.ns.at' fun o e => k2 L o hLI e, fun b o e => k2 b o (by rintro rfl; rw [S.hid.2.2.2.2.2] at e; cases e) (F'.keep b o e), F'.above⟩ (LS.setIo S X' e2 k2)
    | cons c l' =>
      exfalso
      have : Str.ofString "" = sg c := by simpa [hdS] using hy
      have := congrArg (fun x : Str => x.cps.size) this
      revert this
      rw [show (Str.ofString "").cps.size = 0 from by decide +kernel]
      simp
theorem end_step {Q : Option Value → Shared → Prop} (_S : GS w mg mb g B L mo I a) (hh : A.handled = none) (F : Fr B L s.heap m) (X : LS w.params B L mo I a ioEnd l s.heap)
    (hend : ∀ h' tk, Fr B L h' m → LS w.params B L mo I a ioEnd l h' → Q none { s with heap := h', toks := tk }) : wpAny (model pw w) A (pyNext (.ref I)) Q E s := by
  obtain ⟨n, u, t, ws, nn, d1, d2, hw, N⟩ := X.out
  have ni := N _ (.tail _ (.tail _ (.tail _ (.tail _ (.tail _ (.head _))))))
  exact ci_ended hh ni.1 fun h' k => hend h' s.toks (Fr.ext' F k) (X.ext k)
end
end Mine
end

section
open PySem PySem.W PySem.Calls PyProof.Rows PyProof.V
namespace Mine
local macro_rules | `(tactic| walk_at "eval Name") => `(tactic| (refine' ld ?F ?v ?_; (case F => assumption); (case v => first | exact rfl | ((repeat (refine (if_neg (by decide +kernel)).trans ?_)); first | assumption | exact rfl | exact if_pos rfl))))
section
open PySem PySem.W PySem.Calls PyProof.Rows PyProof.V
set_option Elab.async false
set_option maxRecDepth 100000
set_option maxHeartbeats 4000000
noncomputable def outFor : Stmt := match fB (cst 2) with
  | [_, _, _, f, _] => f
  | _ => noSt
noncomputable def forBody : Stmt → List Stmt
  | .For _ _ b _ _ => b
  | _ => []
noncomputable def ifElse : Stmt → List Stmt
  | .If _ _ e _ => e
  | _ => []
noncomputable def inFor : Stmt := match forBody outFor with
  | [_, i] => (match ifElse i with
    | [_, _, f] => f
    | _ => noSt)
  | _ => noSt
noncomputable abbrev envG (L : Addr) : Env := envOf (Str.ofString "_netrclex.get_token") (fS (cst 2)) L 56 (.ref 55)
noncomputable def blankC (c : Nat) : Bool := c == 10 || c == 9 || c == 13 || c == 32
noncomputable def innerF : List Nat → List Nat → List Nat
  | [], t => t
  | [c], t => if blankC c then t else if c = 92 then t else t ++ [c]
  | c :: d :: r, t => if blankC c then t else if c = 92 then innerF r (t ++ [d]) else innerF (d :: r) (t ++ [c])
theorem innerF_cons (c : Nat) (r t : List Nat) : innerF (c :: r) t = if blankC c then t else if c = 92 then innerF r.tail (t ++ sl (hdS r)) else innerF r (t ++ [c]) := by
  cases r with
  | nil =>
    have : sl (hdS []) = [] := by decide +kernel
    rw [this]
    simp [innerF]
  | cons d r => simp [innerF, hdS, sl, sg]
structure GM (x I : Addr) (tok : List Nat) (m : Str → Option Value) : Prop where
  self : m (Str.ofString "self") = some (.ref x)
  token : ∃ t, m (Str.ofString "token") = some (.str (ofL tok) t)
  fiter : m (Str.ofString "fiter") = some (.ref I)
noncomputable def StepW (N : Shared → Prop) (R : Value → Shared → Prop) (f : Flow) (s : Shared) : Prop := match f with
  | .next | .cont => N s
  | .brk => False
  | .ret v => R v s
theorem blanks_sl : sl sBlanks = [10, 9, 13, 32] := by decide +kernel
theorem blank_occ (c : Nat) : (Builtin.Str.occurrences sBlanks (sg c) 0 sBlanks.length 1).isEmpty = !blankC c := by
  have hb : blankC c = true ↔ c ∈ sl sBlanks := by rw [blanks_sl]; simp [blankC, or_assoc]
  have hm : (∃ i : Nat, (sl sBlanks)[i]? = some c) ↔ c ∈ sl sBlanks := List.mem_iff_getElem?.symm
  have at_ : ∀ i, StrLaws.At sBlanks (sg c) sBlanks.length i ↔ (sl sBlanks)[i]? = some c := fun i => by
    rw [At_iff sBlanks c sBlanks.length i (Nat.le_refl _), show sBlanks.length = (sl sBlanks).length from rfl, List.take_length]
  rcases occ_to sBlanks (sg c) sBlanks.length with ⟨h0, hn⟩ | ⟨i, r, h0, ha, _⟩
  · rw [h0]
    have : blankC c = false := by
      cases e : blankC c with
      | false => rfl
      | true =>
        obtain ⟨i, hi⟩ := hm.mpr (hb.mp e)
        exact absurd ((at_ i).mpr hi) (hn i)
    rw [this]; rfl
  · rw [h0]
    have : blankC c = true := hb.mpr (hm.mp ⟨i, (at_ i).mp ha⟩)
    rw [this]; rfl
theorem ofL_app (x : List Nat) (y : Str) : ofL (x ++ sl y) = ofL x ++ y := by
  apply Str.ext'
  rw [Str.cps_append]
  apply Array.ext'
  simp [sl]
theorem ofL_app1 (x : List Nat) (c : Nat) : ofL (x ++ [c]) = ofL x ++ sg c := ofL_app x (sg c)
theorem occ_t {c : Nat} (h : (Builtin.Str.occurrences sBlanks (sg c) 0 sBlanks.length 1).isEmpty = true) : blankC c = false := by rw [blank_occ] at h; simpa using h
theorem occ_f {c : Nat} (h : (Builtin.Str.occurrences sBlanks (sg c) 0 sBlanks.length 1).isEmpty = false) : blankC c = true := by rw [blank_occ] at h; simpa using h
theorem sg_t {c d : Nat} {x : Str} (h : (sg c == x) = true) (hx : x = sg d := by decide +kernel) : c = d := by
  subst hx
  have := congrArg (fun x : Str => x.cps.toList) (eq_of_beq h)
  simpa using this
theorem sg_f {c d : Nat} {x : Str} (h : (sg c == x) = false) (hx : x = sg d := by decide +kernel) : c ≠ d := by
  subst hx
  rintro rfl
  simp at h
theorem hdS_len (l : List Nat) : (sl (hdS l)).length ≤ 1 := by
  cases l with
  | nil => rw [show sl (hdS []) = [] from by decide +kernel]; exact Nat.zero_le _
  | cons c r => exact Nat.le_refl _
local macro_rules | `(tactic| walk_at "loadName") => `(tactic| (refine' wpAny_loadName_local ?a ?b (Fr.ns ?F) ?v ?_; (case F => assumption); (case a => rfl); (case b => rfl); (case v => first | exact rfl | ((repeat (refine (if_neg (by decide +kernel)).trans ?_)); first | assumption | exact rfl | exact if_pos rfl))))
section
variable {w : World} {A : Around} {s : Shared} {mg mb : Str → Option Value} {E : Value → Shared → Prop} {g B : Heap} {L mo I : Addr} {a : LA} {io : Obj} {l tok : List Nat} {m : Str → Option Value} {z : Tok}
theorem inner {Q : Flow → Shared → Prop} (S : GS w mg mb g B L mo I a) (r : Rm A 5) (F : Fr B L s.heap m) (X : LS w.params B L mo I a (ioGo mo z) l s.heap) (G : GM a.x I tok m) (hz : tok.length + l.length ≤ 2000)
    (hq : ∀ h' tk m', Fr B L h' m' → LS w.params B L mo I a ioEnd [] h' → GM a.x I (innerF l tok) m' → Q .next { s with heap := h', toks := tk })
    (hr : ∀ h' tk m' u io l', Fr B L h' m' → LS w.params B L mo I a io l' h' → Q (.ret (.str (ofL (innerF l tok)) u)) { s with heap := h', toks := tk }) :
    wpAny (model pw w) A (exec inFor (envG L)) Q E s := by
  change wpAny _ _ (exec (.For (.Name _ _) (.Name _ _) [_, _] [] _) _) _ _ _
  have hh : A.handled = none := r.hh
  have X0 := S.CB.X
  have T := S.CB.T
  refine wpAny_For (ld F G.fiter ?_) (by intro _; rfl)
  obtain ⟨n, u, t, ws, nn, d1, d2, hw, N⟩ := X.out
  have ni := N _ (.tail _ (.tail _ (.tail _ (.tail _ (.tail _ (.head _))))))
  refine ci_iter ni.1 ?_
  clear n u t ws nn d1 d2 hw N ni
  refine codeAny_forLoop (fun n s' => ∃ h' tk m' l' tok', s' = { s with heap := h', toks := tk } ∧ Fr B L h' m' ∧ LS w.params B L mo I a (ioGo mo z) l' h' ∧ GM a.x I tok' m' ∧ tok'.length + l'.length ≤ 2000 ∧ innerF l' tok' = innerF l tok ∧ n = l'.length) ?_ l.length
    ⟨s.heap, s.toks, m, l, tok, rfl, F, X, G, hz, rfl, rfl⟩ (by intro _; rfl)
  rintro n s' ⟨h₁, tk₁, m₁, l₁, tok₁, rfl, F₁, X₁, G₁, hz₁, hi₁, rfl⟩
  refine next_step S ⟨r.hh, by have := r.hd; omega, by have := r.hu; omega⟩ F₁ X₁ (fun c l' u h₂ tk₂ el F₂ X₂ => ?_) fun h₂ tk₂ el F₂ X₂ => ?_
  · subst el
    refine wpAny_assign_Name (wpAny_storeName_local (by rfl) F₂.ns (fun h₃ hn₃ hs₃ => ?_) (by rfl))
    have F₃ := F₂.set hn₃ hs₃
    obtain ⟨⟨n', u', t', ws', nn', d1', d2', hw', N₂⟩, hz₂⟩ := X₂
    have N₃ := N₂.set hs₃
    clear F F₁ F₂ N₂ X₁ X hn₃ hs₃
    obtain ⟨x, dx, pb, st, dst, fn, cl, ls, c'⟩ := a
    obtain ⟨o1, o2, o3, o5, o6, o4, o7, o8, o9, g0⟩ := S.O
    have l1 := S.l1
    have l2 := S.l2
    have l3 := S.l3
    have gs := G₁.self
    obtain ⟨tt, gt⟩ := G₁.token
    have gf := G₁.fiter
    dsimp only at o1 o2 o3 o5 o6 o4 o7 o8 o9 g0 l1 l2 l3 gs N₃
    refine wpAny_mono (?_ : wpAny _ _ (execs _ _) (StepW (fun s₃ => ∃ h' tk m' l₂ tok', s₃ = { s with heap := h', toks := tk } ∧ Fr B L h' m' ∧ LS w.params B L mo I ⟨x, dx, pb, st, dst, fn, cl, ls, c'⟩ (ioGo mo z) l₂ h' ∧ GM x I tok' m' ∧ tok'.length + l₂.length ≤ 2000 ∧ innerF l₂ tok' = innerF (c :: l') tok₁ ∧ l₂.length < (c :: l').length)
        (fun v s₃ => ∃ h' tk m' u l₂, v = .str (ofL (innerF (c :: l') tok₁)) u ∧ s₃ = { s with heap := h', toks := tk } ∧ Fr B L h' m' ∧ LS w.params B L mo I ⟨x, dx, pb, st, dst, fn, cl, ls, c'⟩ (ioGo mo z) l₂ h')) _ _) (fun f s₃ h₃ => ?_) fun _ _ e => e
    · change wpAny _ _ (execs [_, _] _) _ _ _
      repeat' ((fail_if_success (with_reducible show wpAny _ _ (call (.ref 49) _) _ _ _)); first | walk1 | (dsimp only; walk1))
      · rename (Builtin.Str.occurrences _ _ _ _ _).isEmpty = true => c1
        rename (sg c == _) = true => c2
        have c1 := occ_t c1
        have c2 := sg_t (d := 92) c2
        show wpAny _ _ (call (.ref 49) [.ref x]) _ _ _
        refine rc_step S ⟨r.hh, by have := r.hd; omega, by have := r.hu; omega⟩ (by assumption) ⟨⟨_, _, _, _, _, d1', d2', hw', by assumption⟩, hz₂⟩ fun h₄ tk₄ u₄ F₄ X₄ => ?_
        clear F₃ N₃ d1' d2' hw'
        have hl1 : (hdS l').length ≤ 1 := hdS_len l'
        obtain ⟨⟨n₄, u₄', t₄, ws₄, nn₄, d1', d2', hw', N₄⟩, hz₄⟩ := X₄
        repeat ((fail_if_success (with_reducible show wpAny _ _ (inplaceOp _ _ _) _ _ _)); first | walk1 | (dsimp only; walk1))
        refine SBL.iadd (hsz := ?hsz) ?_
        (case hsz =>
          have : (ofL tok₁).length = tok₁.length := by simp [Str.length]
          rw [this, sizeLine_eq]
          simp only [List.length_cons] at hz₁
          omega)
        intro _ _ _
        repeat (first | walk1 | (dsimp only; walk1))
        rename Fr _ _ _ _ => F₅
        rename News _ _ _ _ => N₅
        refine ⟨_, _, _, l'.tail, tok₁ ++ sl (hdS l'), rfl, F₅, ⟨⟨_, _, _, _, _, d1', d2', hw', N₅⟩, hz₄⟩,
          ⟨(if_neg (by decide +kernel)).trans ((if_neg (by decide +kernel)).trans ((if_neg (by decide +kernel)).trans gs)), ⟨_, (if_pos rfl).trans (by rw [ofL_app])⟩, (if_neg (by decide +kernel)).trans ((if_neg (by decide +kernel)).trans ((if_neg (by decide +kernel)).trans gf))⟩, ?_, ?_, ?_⟩
        · have := hdS_len l'
          rw [List.length_append, List.length_tail]
          simp only [List.length_cons] at hz₁
          omega
        · rw [innerF_cons, c1, if_neg (by decide), if_pos c2]
        · rw [List.length_tail, List.length_cons]; omega
      · rename (Builtin.Str.occurrences _ _ _ _ _).isEmpty = true => c1
        rename (sg c == _) = false => c2
        have c1 := occ_t c1
        have c2 := sg_f (d := 92) c2
        rename Fr _ _ _ _ => F₅
        rename News _ _ _ _ => N₅
        refine ⟨_, _, _, l', tok₁ ++ [c], rfl, F₅, ⟨⟨_, _, _, _, _, d1', d2', hw', N₅⟩, hz₂⟩,
          ⟨(if_neg (by decide +kernel)).trans ((if_neg (by decide +kernel)).trans gs), ⟨_, (if_pos rfl).trans (by rw [ofL_app1])⟩, (if_neg (by decide +kernel)).trans ((if_neg (by decide +kernel)).trans gf)⟩, ?_, ?_, ?_⟩
        · rw [List.length_append, List.length_singleton]
          simp only [List.length_cons] at hz₁
          omega
        · rw [innerF_cons, c1, if_neg (by decide), if_neg c2]
        · rw [List.length_cons]; omega
      · dsimp only
        rename (Builtin.Str.occurrences _ _ _ _ _).isEmpty = false => c1
        have c1 := occ_f c1
        exact ⟨_, _, _, tt, l', by rw [innerF_cons, c1, if_pos rfl], rfl, by assumption, ⟨⟨_, _, _, _, _, d1', d2', hw', by assumption⟩, hz₂⟩⟩
    · rw [← hi₁] at hr
      cases f with
      | next =>
        obtain ⟨h', tk, m', l₂, tok', e1, e2, e3, e4, e5, e6, e7⟩ := h₃
        exact ⟨_, e7, h', tk, m', l₂, tok', e1, e2, e3, e4, e5, e6.trans hi₁, rfl⟩
      | cont =>
        obtain ⟨h', tk, m', l₂, tok', e1, e2, e3, e4, e5, e6, e7⟩ := h₃
        exact ⟨_, e7, h', tk, m', l₂, tok', e1, e2, e3, e4, e5, e6.trans hi₁, rfl⟩
      | brk => exact h₃.elim
      | ret v =>
        obtain ⟨h', tk, m', u, l₂, rfl, rfl, e3, e4⟩ := h₃
        exact hr h' tk m' u _ l₂ e3 e4
  · subst el
    rw [← hi₁] at hq
    exact wpAny_execs_nil (hq h₂ tk₂ m₁ F₂ X₂ G₁)
end
end

section
open PySem PySem.W PySem.Calls PyProof.Rows PyProof.V
set_option Elab.async false
set_option maxRecDepth 100000
set_option maxHeartbeats 4000000
noncomputable def outerF : List Nat → List Nat
  | [] => []
  | c :: r => if blankC c then outerF r else if c = 92 then innerF r.tail (sl (hdS r)) else innerF r [c]
noncomputable def noQ : List Nat → Prop
  | [] => True
  | c :: r => if blankC c then noQ r else c ≠ 34
local macro_rules | `(tactic| walk_at "loadName") => `(tactic| (refine' wpAny_loadName_local ?a ?b (Fr.ns ?F) ?v ?_; (case F => assumption); (case a => rfl); (case b => rfl); (case v => first | exact rfl | ((repeat (refine (if_neg (by decide +kernel)).trans ?_)); first | assumption | exact rfl | exact if_pos rfl))))
section
variable {w : World} {A : Around} {s : Shared} {mg mb : Str → Option Value} {E : Value → Shared → Prop} {g B : Heap} {L mo I : Addr} {a : LA} {io : Obj} {l tok : List Nat} {m : Str → Option Value} {z : Tok}
theorem outer {Q : Flow → Shared → Prop} (S : GS w mg mb g B L mo I a) (r : Rm A 5) (F : Fr B L s.heap m) (X : LS w.params B L mo I a (ioGo mo z) l s.heap) (G : GM a.x I [] m) (hnq : noQ l)
    (hq : ∀ h' tk m', Fr B L h' m' → LS w.params B L mo I a ioEnd [] h' → GM a.x I (outerF l) m' → Q .next { s with heap := h', toks := tk })
    (hr : ∀ h' tk m' u io l', Fr B L h' m' → LS w.params B L mo I a io l' h' → Q (.ret (.str (ofL (outerF l)) u)) { s with heap := h', toks := tk }) :
    wpAny (model pw w) A (exec outFor (envG L)) Q E s := by
  change wpAny _ _ (exec (.For (.Name _ _) (.Name _ _) [_, _] [] _) _) _ _ _
  have hh : A.handled = none := r.hh
  have X0 := S.CB.X
  have T := S.CB.T
  refine wpAny_For (ld F G.fiter ?_) (by intro _; rfl)
  obtain ⟨n, u, t, ws, nn, d1, d2, hw, N⟩ := X.out
  have ni := N _ (.tail _ (.tail _ (.tail _ (.tail _ (.tail _ (.head _))))))
  refine ci_iter ni.1 ?_
  clear n u t ws nn d1 d2 hw N ni
  refine codeAny_forLoop (fun n s' => ∃ h' tk m', s' = { s with heap := h', toks := tk } ∧ Fr B L h' m' ∧
      ((∃ l', LS w.params B L mo I a (ioGo mo z) l' h' ∧ GM a.x I [] m' ∧ noQ l' ∧ outerF l' = outerF l ∧ n = l'.length + 1) ∨ (LS w.params B L mo I a ioEnd [] h' ∧ GM a.x I (outerF l) m' ∧ n = 0))) ?_ (l.length + 1)
    ⟨s.heap, s.toks, m, rfl, F, .inl ⟨l, X, G, hnq, rfl, rfl⟩⟩ (by intro _; rfl)
  rintro n s' ⟨h₁, tk₁, m₁, rfl, F₁, ⟨l₁, X₁, G₁, hnq₁, hi₁, rfl⟩ | ⟨X₁, G₁, rfl⟩⟩
  rotate_left
  · exact end_step S hh F₁ X₁ fun h₂ tk₂ F₂ X₂ => wpAny_execs_nil (hq h₂ tk₂ m₁ F₂ X₂ G₁)
  refine next_step S ⟨r.hh, by have := r.hd; omega, by have := r.hu; omega⟩ F₁ X₁ (fun c l' u h₂ tk₂ el F₂ X₂ => ?_) fun h₂ tk₂ el F₂ X₂ => ?_
  · subst el
    refine wpAny_assign_Name (wpAny_storeName_local (by rfl) F₂.ns (fun h₃ hn₃ hs₃ => ?_) (by rfl))
    have F₃ := F₂.set hn₃ hs₃
    obtain ⟨⟨n', u', t', ws', nn', d1', d2', hw', N₂⟩, hz₂⟩ := X₂
    have N₃ := N₂.set hs₃
    clear F F₁ F₂ N₂ X₁ X hn₃ hs₃
    obtain ⟨x, dx, pb, st, dst, fn, cl, ls, c'⟩ := a
    obtain ⟨o1, o2, o3, o5, o6, o4, o7, o8, o9, g0⟩ := S.O
    have l1 := S.l1
    have l2 := S.l2
    have l3 := S.l3
    have gs := G₁.self
    obtain ⟨tt, gt⟩ := G₁.token
    have gf := G₁.fiter
    dsimp only at o1 o2 o3 o5 o6 o4 o7 o8 o9 g0 l1 l2 l3 gs N₃
    refine wpAny_mono (?_ : wpAny _ _ (execs _ _) (StepW (fun s₃ => ∃ h' tk m', s₃ = { s with heap := h', toks := tk } ∧ Fr B L h' m' ∧
        ((blankC c = true ∧ LS w.params B L mo I ⟨x, dx, pb, st, dst, fn, cl, ls, c'⟩ (ioGo mo z) l' h' ∧ GM x I [] m') ∨ (LS w.params B L mo I ⟨x, dx, pb, st, dst, fn, cl, ls, c'⟩ ioEnd [] h' ∧ GM x I (outerF (c :: l')) m')))
        (fun v s₃ => ∃ h' tk m' u io l₂, v = .str (ofL (outerF (c :: l'))) u ∧ s₃ = { s with heap := h', toks := tk } ∧ Fr B L h' m' ∧ LS w.params B L mo I ⟨x, dx, pb, st, dst, fn, cl, ls, c'⟩ io l₂ h')) _ _) (fun f s₃ h₃ => ?_) fun _ _ e => e
    · change wpAny _ _ (execs [_, _] _) _ _ _
      repeat' ((fail_if_success (with_reducible show wpAny _ _ (call (.ref 49) _) _ _ _)); (fail_if_success (with_reducible show wpAny _ _ (exec (Stmt.For _ _ _ _ _) _) _ _ _)); first | walk1 | (dsimp only; walk1))
      · exfalso
        rename (Builtin.Str.occurrences _ _ _ _ _).isEmpty = true => c1
        rename (sg c == _) = true => c2
        have c1 := occ_t c1
        have c2 := sg_t (d := 34) c2
        rw [noQ, c1, if_neg (by decide)] at hnq₁
        exact hnq₁ c2
      · rename (Builtin.Str.occurrences _ _ _ _ _).isEmpty = true => c1
        rename (sg c == _) = true => c2
        have c1 := occ_t c1
        have c2 := sg_t (d := 92) c2
        have eo : outerF (c :: l') = innerF l'.tail (sl (hdS l')) := by rw [outerF, c1, if_neg (by decide), if_pos c2]
        show wpAny _ _ (call (.ref 49) [.ref x]) _ _ _
        refine rc_step S ⟨r.hh, by have := r.hd; omega, by have := r.hu; omega⟩ (by assumption) ⟨⟨_, _, _, _, _, d1', d2', hw', by assumption⟩, hz₂⟩ fun h₄ tk₄ u₄ F₄ X₄ => ?_
        clear F₃ N₃ d1' d2' hw'
        obtain ⟨⟨n₄, u₄', t₄, ws₄, nn₄, d1', d2', hw', N₄⟩, hz₄⟩ := X₄
        repeat ((fail_if_success (with_reducible show wpAny _ _ (inplaceOp _ _ _) _ _ _)); first | walk1 | (dsimp only; walk1))
        refine SBL.iadd (hsz := ?hsz) ?_
        (case hsz =>
          have h0 : (ofL []).length = 0 := rfl
          have h1 : (hdS l').length ≤ 1 := hdS_len l'
          rw [h0, sizeLine_eq]
          omega)
        intro _ _ _
        repeat ((fail_if_success (with_reducible show wpAny _ _ (exec (Stmt.For _ _ _ _ _) _) _ _ _)); first | walk1 | (dsimp only; walk1))
        rename Fr _ _ _ _ => F₅
        rename News _ _ _ _ => N₅
        show wpAny _ _ (exec inFor (envG L)) _ _ _
        refine inner S r F₅ ⟨⟨_, _, _, _, _, d1', d2', hw', N₅⟩, hz₄⟩ (tok := sl (hdS l'))
          ⟨(if_neg (by decide +kernel)).trans ((if_neg (by decide +kernel)).trans ((if_neg (by decide +kernel)).trans gs)), ⟨_, (if_pos rfl).trans (by rw [← ofL_app]; rfl)⟩, (if_neg (by decide +kernel)).trans ((if_neg (by decide +kernel)).trans ((if_neg (by decide +kernel)).trans gf))⟩ ?_ (fun h' tk m' F' X' G' => ?_) (fun h' tk m' u io l₂ F' X' => ?_)
        · have := hdS_len l'
          rw [List.length_tail]
          omega
        · dsimp only
          repeat (first | walk1 | (dsimp only; walk1))
          exact ⟨_, _, _, rfl, F', .inr ⟨X', by rw [eo]; exact G'⟩⟩
        · dsimp only
          exact ⟨_, _, _, u, io, l₂, by rw [eo], rfl, F', X'⟩
      · rename (Builtin.Str.occurrences _ _ _ _ _).isEmpty = true => c1
        rename (sg c == Str.ofString "\\") = false => c2
        have c1 := occ_t c1
        have c2 := sg_f (d := 92) c2
        have eo : outerF (c :: l') = innerF l' [c] := by rw [outerF, c1, if_neg (by decide), if_neg c2]
        rename Fr _ _ _ _ => F₅
        rename News _ _ _ _ => N₅
        show wpAny _ _ (exec inFor (envG L)) _ _ _
        refine inner S r F₅ ⟨⟨_, _, _, _, _, d1', d2', hw', N₅⟩, hz₂⟩ (tok := [c])
          ⟨(if_neg (by decide +kernel)).trans ((if_neg (by decide +kernel)).trans gs), ⟨_, (if_pos rfl).trans rfl⟩, (if_neg (by decide +kernel)).trans ((if_neg (by decide +kernel)).trans gf)⟩ ?_ (fun h' tk m' F' X' G' => ?_) (fun h' tk m' u io l₂ F' X' => ?_)
        · rw [List.length_singleton]
          omega
        · dsimp only
          repeat (first | walk1 | (dsimp only; walk1))
          exact ⟨_, _, _, rfl, F', .inr ⟨X', by rw [eo]; exact G'⟩⟩
        · dsimp only
          exact ⟨_, _, _, u, io, l₂, by rw [eo], rfl, F', X'⟩
      · dsimp only
        rename (Builtin.Str.occurrences _ _ _ _ _).isEmpty = false => c1
        have c1 := occ_f c1
        exact ⟨_, _, _, rfl, F₃, .inl ⟨c1, ⟨⟨_, _, _, _, _, d1', d2', hw', N₃⟩, hz₂⟩, ⟨(if_neg (by decide +kernel)).trans gs, ⟨_, (if_neg (by decide +kernel)).trans gt⟩, (if_neg (by decide +kernel)).trans gf⟩⟩⟩
    · rw [← hi₁] at hr
      have e1 : blankC c = true → noQ l' ∧ outerF l' = outerF l := fun hb => ⟨by simpa [noQ, hb] using hnq₁, by rw [← hi₁]; simp [outerF, hb]⟩
      have nx : ∀ s₃ : Shared, (∃ h' tk m', s₃ = { s with heap := h', toks := tk } ∧ Fr B L h' m' ∧ ((blankC c = true ∧ LS w.params B L mo I ⟨x, dx, pb, st, dst, fn, cl, ls, c'⟩ (ioGo mo z) l' h' ∧ GM x I [] m') ∨ (LS w.params B L mo I ⟨x, dx, pb, st, dst, fn, cl, ls, c'⟩ ioEnd [] h' ∧ GM x I (outerF (c :: l')) m'))) →
          ∃ mm, mm < (c :: l').length + 1 ∧ ∃ h' tk m', s₃ = { s with heap := h', toks := tk } ∧ Fr B L h' m' ∧ ((∃ l', LS w.params B L mo I ⟨x, dx, pb, st, dst, fn, cl, ls, c'⟩ (ioGo mo z) l' h' ∧ GM x I [] m' ∧ noQ l' ∧ outerF l' = outerF l ∧ mm = l'.length + 1) ∨ (LS w.params B L mo I ⟨x, dx, pb, st, dst, fn, cl, ls, c'⟩ ioEnd [] h' ∧ GM x I (outerF l) m' ∧ mm = 0)) := by
        rintro s₃ ⟨h', tk, m', e, F', ⟨hb, X', G'⟩ | ⟨X', G'⟩⟩
        · exact ⟨l'.length + 1, by rw [List.length_cons]; omega, h', tk, m', e, F', .inl ⟨l', X', G', (e1 hb).1, (e1 hb).2, rfl⟩⟩
        · exact ⟨0, by omega, h', tk, m', e, F', .inr ⟨X', by rw [← hi₁]; exact G', rfl⟩⟩
      cases f with
      | next => exact nx s₃ h₃
      | cont => exact nx s₃ h₃
      | brk => exact h₃.elim
      | ret v =>
        obtain ⟨h', tk, m', u, io, l₂, rfl, rfl, e3, e4⟩ := h₃
        exact hr h' tk m' u io l₂ e3 e4
  · subst el
    rw [← hi₁] at hq
    exact wpAny_execs_nil (hq h₂ tk₂ m₁ F₂ X₂ (by simpa [outerF] using G₁))
end
end

section
open PySem PySem.W PySem.Calls PyProof.Rows PyProof.V
set_option Elab.async false
set_option maxRecDepth 100000
set_option maxHeartbeats 4000000
structure GtOut (a : LA) (l : List Nat) (r : Result) (s s' : Shared) : Prop where
  out : ∃ h' tk u, r = .ok (.ret (.str (ofL (outerF l)) u)) ∧ s' = { s with heap := h', toks := tk } ∧ ∀ b o, b ≠ a.dx → b ≠ a.ls → s.heap.get? b = some o → h'.get? b = some o
theorem push_ci {P : Params} {B H : Heap} {L q : Addr} {a : LA} {n : Int} {u z : Tok} {t : Toks} {ws : List Value} {nn : Nat} {m : Str → Option Value} (F : Fr B L H m)
    (N : News B L H [(q, methodObj (.ref 49) (.ref a.x)), (a.x, instObj 66 a.dx), (a.dx, lexD P n u t (.ref a.st) a.pb), (a.pb, W.listOf #[] 0), (a.ls, W.listOf ws.reverse.toArray nn)]) :
    Fr B L (H.push (ioGo q z)) m ∧ News B L (H.push (ioGo q z)) (NL P a q H.objs.size n u t ws nn (ioGo q z)) ∧ q < H.objs.size ∧ B.get? H.objs.size = none ∧ B.get? q = none := by
  have hn : B.get? H.objs.size = none := by
    cases e : B.get? H.objs.size with
    | none => rfl
    | some o => exact absurd (Heap.lt_size (F.keep _ _ e)) (Nat.lt_irrefl _)
  have nq := N _ (.head _)
  have up : ∀ p ∈ [(q, methodObj (.ref 49) (.ref a.x)), (a.x, instObj 66 a.dx), (a.dx, lexD P n u t (.ref a.st) a.pb), (a.pb, W.listOf #[] 0), (a.ls, W.listOf ws.reverse.toArray nn)], (H.push (ioGo q z)).get? p.1 = some p.2 ∧ p.1 ≠ L ∧ B.get? p.1 = none :=
    fun p hp => ⟨Heap.get?_push_of_some _ (N p hp).1, (N p hp).2⟩
  refine ⟨F.push _, ?_, Heap.lt_size nq.1, hn, nq.2.2⟩
  exact List.forall_mem_cons.mpr ⟨up _ (.tail _ (.head _)), List.forall_mem_cons.mpr ⟨up _ (.tail _ (.tail _ (.head _))), List.forall_mem_cons.mpr ⟨up _ (.tail _ (.tail _ (.tail _ (.head _)))), List.forall_mem_cons.mpr ⟨up _ (.tail _ (.tail _ (.tail _ (.tail _ (.head _))))),
    List.forall_mem_cons.mpr ⟨up _ (.head _), List.forall_mem_cons.mpr ⟨⟨Heap.get?_push_size _ rfl, Nat.ne_of_gt F.ns.lt, hn⟩, List.forall_mem_nil _⟩⟩⟩⟩⟩⟩
section
variable {w : World} {A : Around} {s : Shared} {mg mb : Str → Option Value} {E : Value → Shared → Prop}
theorem gt_c {g : Heap} {a : LA} {l : List Nat} (C : Cx w mg mb g) (k : ∀ b o, g.get? b = some o → s.heap.get? b = some o) (r : Rm A 6) (O : Ord g a) (Y : Lex w.params s.heap a l) (hnq : noQ l) :
    codeAny (model pw w) A (.call (.ref 56) ⟨[.ref a.x], []⟩) (fun r s' => GtOut a l r s s') s := by
  obtain ⟨x, dx, pb, st, dst, fn, cl, ls, c'⟩ := a
  have O₀ := O
  obtain ⟨o1, o2, o3, o5, o6, o4, o7, o8, o9, g0⟩ := O
  obtain ⟨hx, ⟨n, u, t, d1, d2, hd⟩, hp, hs, ⟨t', u'', v', pb', hr⟩, ⟨pm, ctv, hf⟩, hc, ⟨oc, hcl, hoc⟩, ⟨ws, nn, hw, hls⟩, hz⟩ := Y
  dsimp only at o1 o2 o3 o5 o6 o4 o7 o8 o9 g0 hx hd hp hs hr hf hc hcl hls hoc hw ⊢
  have gN : ∀ b ∈ [x, dx, pb, ls], g.get? b = none := by
    have q : ∀ b : Nat, @LE.le Nat _ cl b → g.get? b = none := g0
    intro b hb
    simp only [List.mem_cons, List.not_mem_nil, or_false] at hb
    rcases hb with rfl | rfl | rfl | rfl <;> exact q _ (by omega)
  have CB : Cx w mg mb (hideAll s.heap [x, dx, pb, ls]) := C.hide k gN
  have hb : ∀ (b : Nat) o, (@Ne Nat b x ∧ @Ne Nat b dx ∧ @Ne Nat b pb ∧ @Ne Nat b ls) → s.heap.get? b = some o → (hideAll s.heap [x, dx, pb, ls]).get? b = some o := fun b o h e =>
    hideAll_get _ e (by simp only [List.mem_cons, List.not_mem_nil, or_false, not_or]; exact ⟨h.1, h.2.1, h.2.2.1, h.2.2.2⟩)
  refine call_fn_ret (name := Str.ofString "get_token") (qual := Str.ofString "_netrclex.get_token") (params := fP (cst 2)) (body := fB (cst 2)) (scope := fS (cst 2)) (binds := [(Str.ofString "self", .ref x)]) [x, dx, pb, ls] r.room (k _ _ (C.X 56 _ rfl)) rfl (C.T.nolimit.keeps k) (codeRec_of (C.X.keeps k) (by kernel_rfl)) (by rfl) rfl (locs rfl) (fun h₁ F hk => ?_) rfl rfl rfl (by decide +kernel)
  have N : News (hideAll s.heap [x, dx, pb, ls]) s.heap.objs.size h₁ [(x, instObj 66 dx), (dx, lexD w.params n u t (.ref st) pb), (pb, W.listOf #[] 0), (ls, W.listOf ws.reverse.toArray nn)] := by
    refine List.forall_mem_cons.mpr ⟨⟨hk _ _ hx, Nat.ne_of_lt (Heap.lt_size hx), hideAll_none _ (by simp)⟩, List.forall_mem_cons.mpr ⟨⟨hk _ _ hd, Nat.ne_of_lt (Heap.lt_size hd), hideAll_none _ (by simp)⟩,
      List.forall_mem_cons.mpr ⟨⟨hk _ _ hp, Nat.ne_of_lt (Heap.lt_size hp), hideAll_none _ (by simp)⟩, List.forall_mem_cons.mpr ⟨⟨hk _ _ hls, Nat.ne_of_lt (Heap.lt_size hls), hideAll_none _ (by simp)⟩, List.forall_mem_nil _⟩⟩⟩⟩
  have hh : A.handled = none := r.hh
  have X := CB.X
  have T := CB.T
  change wpAny _ _ (execs [_, _, _, _, _] _) _ _ _
  repeat ((fail_if_success (with_reducible show wpAny _ _ (call (.builtin "iter") _) _ _ _)); first | walk1 | (dsimp only; walk1))
  rename_i q₀ H₀ F' N' l1
  have nm := N' _ (.head _)
  refine it_call nm.1 ?_
  obtain ⟨F₁, N₁, q1, q2, q3⟩ := push_ci (P := w.params) (a := ⟨x, dx, pb, st, dst, fn, cl, ls, c'⟩) (z := tk + 1 + 1 + 1) F' N'
  have S : GS w mg mb g (hideAll s.heap [x, dx, pb, ls]) s.heap.objs.size q₀ H₀.objs.size ⟨x, dx, pb, st, dst, fn, cl, ls, c'⟩ := by
    refine ⟨C, CB, fun b o e => hideAll_get _ (k b o e) fun q => ?_, O₀, Heap.lt_size hp, l1.2.2.1, q1, ⟨hideAll_none _ (by simp), hideAll_none _ (by simp), hideAll_none _ (by simp), hideAll_none _ (by simp), q3, q2⟩,
      hb st _ (by omega) hs, ⟨t', u'', v', pb', hb dst _ (by omega) hr⟩, ⟨pm, ctv, hb fn _ (by omega) hf⟩, ?_, ⟨oc, hb cl _ (by omega) hcl, hoc⟩⟩
    · rw [gN b q] at e; cases e
    · obtain ⟨c₁, oc₁, vs₁, t₁, q1, q2, q3⟩ := hc
      cases q1
      exact ⟨c', oc₁, vs₁, t₁, rfl, hb c' _ (by omega) q2, q3⟩
  refine wpAny_storeName_local (by rfl) F₁.ns (fun h₃ hn₃ hs₃ => ?_) (by rfl)
  have F₃ := F₁.set hn₃ hs₃
  have N₃ := N₁.set hs₃
  clear F' F₁ N' N₁ hn₃ hs₃
  repeat ((fail_if_success (with_reducible show wpAny _ _ (exec (Stmt.For _ _ _ _ _) _) _ _ _)); first | walk1 | (dsimp only; walk1))
  show wpAny _ _ (exec outFor (envG s.heap.objs.size)) _ _ _
  have kk : ∀ h' m', Fr (hideAll s.heap [x, dx, pb, ls]) s.heap.objs.size h' m' → ∀ io l', LS w.params (hideAll s.heap [x, dx, pb, ls]) s.heap.objs.size q₀ H₀.objs.size ⟨x, dx, pb, st, dst, fn, cl, ls, c'⟩ io l' h' → ∀ b o, b ≠ dx → b ≠ ls → s.heap.get? b = some o → h'.get? b = some o := by
    intro h' m' F' io l' X' b o hb1 hb2 e
    obtain ⟨n', u', t', ws', nn', _, _, _, N'⟩ := X'.out
    by_cases q1 : b = x
    · subst q1; rw [hx] at e; cases e; exact (N' _ (.head _)).1
    · by_cases q2 : b = pb
      · subst q2; rw [hp] at e; cases e; exact (N' _ (.tail _ (.tail _ (.head _)))).1
      · exact keep_bad F' (by simp [q1, q2, hb1, hb2]) e
  refine outer S ⟨r.hh, by have := r.hd; show A.depth + 1 + 5 ≤ 900; omega, by have := r.hu; show A.units + 3 + 3 * 5 ≤ 900; omega⟩ F₃ (l := l) ⟨⟨_, _, _, _, _, d1, d2, hw, N₃⟩, hz⟩
    ⟨(if_neg (by decide +kernel)).trans ((if_neg (by decide +kernel)).trans rfl), ⟨_, (if_neg (by decide +kernel)).trans ((if_pos rfl).trans (by rw [show ofL [] = Str.ofString "" from by decide +kernel]))⟩, if_pos rfl⟩ hnq (fun h' tk' m' F' X' G' => ?_) (fun h' tk' m' u' io l₂ F' X' => ?_)
  · obtain ⟨tt, gt⟩ := G'.token
    repeat (first | walk1 | (dsimp only; walk1))
    exact ⟨_, _, _, rfl, rfl, kk _ _ F' _ _ X'⟩
  · exact ⟨_, _, _, rfl, rfl, kk _ _ F' _ _ X'⟩
end
end

end Mine
end

section
open PySem PySem.W PySem.Calls PyProof.Rows PyProof.V
namespace Mine
local macro_rules | `(tactic| walk_at "eval Name") => `(tactic| (refine' nameX_L ?F ?v ?_ ?a ?b; (case F => assumption); (case a => rfl); (case b => rfl); (case v => first | exact rfl | ((repeat (refine (if_neg (by decide +kernel)).trans ?_)); first | assumption | exact rfl | exact if_pos rfl))))
section
open PySem PySem.W PySem.Calls PyProof.Rows PyProof.V
set_option Elab.async false
set_option maxRecDepth 100000
set_option maxHeartbeats 4000000
section
variable {w : World} {A : Around} {s : Shared} {mg mb : Str → Option Value} {E : Value → Shared → Prop}
noncomputable abbrev envW (L : Addr) : Env := envOfC (Str.ofString "_law_word") (fS (st 13)) L 155 (.ref 154)
noncomputable def wFor : Stmt := match fB (st 13) with
  | [_, f, _, _, _, _] => f
  | _ => noSt
local macro_rules | `(tactic| walk_at "subscriptTail") => `(tactic| ((with_reducible show wpAny _ _ (subscriptTail _ _ (Value.str _ _) (Value.int _ _)) _ _ _); (refine item_sign (by assumption) (by assumption) ?_)))
theorem item_sg {x : Str} {i c : Nat} (h : (sl x)[i]? = some c) : Txt.item x (i : Int) = sg c := by
  obtain ⟨hl, _⟩ := List.getElem?_eq_some_iff.mp h
  have hx : x.cps[i]? = some c := by simpa using h
  have hl' : (i : Int) < x.length := Int.ofNat_lt.mpr hl
  unfold Txt.item Txt.charAt
  rw [seqIndex_of (Int.natCast_nonneg i) hl', Int.toNat_natCast, Option.bind_some, hx]
  rfl
theorem item_sign {value slice : Expr} {x : Str} {t u : Tok} {i c : Nat} {Q : Value → Shared → Prop} (h : (sl x)[i]? = some c) (hx : x.length ≤ 400) (q : Q (.str (sg c) s.toks) { s with toks := s.toks + 1 })
    (hs : subscripted slice false (.str x t) (.int i u) = operate [.str x t, .int i u] (getItem (.str x t) (.int i u)) := by with_unfolding_all rfl)
    (ht : ∀ r, letTemporaryGo value (.str x t) r = pure () := by intro _; with_unfolding_all rfl) : wpAny (model pw w) A (subscriptTail value slice (.str x t) (.int i u)) Q E s := by
  obtain ⟨hl, _⟩ := List.getElem?_eq_some_iff.mp h
  have hl : i < x.length := hl
  refine item_str (by unfold fitsSsize; simp; omega) (by omega) (by omega) (fun _ => ?_) hs ht
  rw [item_sg h]
  exact q
noncomputable def wr1 (e : Bool) (c : Nat) : List Nat := if c = 34 ∨ c = 92 ∨ (e = true ∧ blankC c = false) then [92, c] else [c]
noncomputable def wr : Bool → List Nat → List Nat
  | _, [] => []
  | e, c :: r => wr1 e c ++ wr (!e) r
noncomputable abbrev Sgs (l : List Nat) (vs : List Value) : Prop := Paired (fun c v => ∃ u, v = Value.str (sg c) u) l vs
structure WT (B : Heap) (L I D cl : Addr) (rio oc : Obj) (ps : Array Value) (m : Str → Option Value) (l : List Nat) (h : Heap) : Prop where
  F : Fr B L h m
  N : ∃ ws nn, Sgs l ws ∧ News B L h [(I, rio), (D, W.listOf ws.toArray nn), (cl, oc), (150, tabObj ps)]
theorem wr1_q {e : Bool} {c : Nat} (h : ([Str.ofString "\"", Str.ofString "\\"].any fun x => x == sg c) = true) : wr1 e c = [92, c] := by
  have := any_t (a := [c]) [[34], [92]] (by decide +kernel) h
  have : c = 34 ∨ c = 92 := by simpa using this
  unfold wr1
  rw [if_pos (by rcases this with h | h <;> simp [h])]
theorem nq_of {c : Nat} (h : ([Str.ofString "\"", Str.ofString "\\"].any fun x => x == sg c) = false) : c ≠ 34 ∧ c ≠ 92 := by
  have := any_f (a := [c]) [[34], [92]] (by decide +kernel) h
  simpa using this
theorem bl_t {c : Nat} (h : ([Str.ofString "\n", Str.ofString "\t", Str.ofString "\x0d", Str.ofString " "].any fun x => x == sg c) = true) : blankC c = true := by
  have := any_t (a := [c]) [[10], [9], [13], [32]] (by decide +kernel) h
  simpa [blankC, or_assoc] using this
theorem bl_f {c : Nat} (h : ([Str.ofString "\n", Str.ofString "\t", Str.ofString "\x0d", Str.ofString " "].any fun x => x == sg c) = false) : blankC c = false := by
  have := any_f (a := [c]) [[10], [9], [13], [32]] (by decide +kernel) h
  simpa [blankC, and_assoc] using this
theorem wr1_b {e : Bool} {c : Nat} (h : c ≠ 34 ∧ c ≠ 92) (hb : blankC c = true) : wr1 e c = [c] := by
  unfold wr1
  rw [if_neg (by simp [h, hb])]
theorem wr1_o {c : Nat} (h : c ≠ 34 ∧ c ≠ 92) : wr1 false c = [c] := by
  unfold wr1
  rw [if_neg (by simp [h])]
theorem wr1_e {c : Nat} (hb : blankC c = false) : wr1 true c = [92, c] := by
  unfold wr1
  rw [if_pos (by simp [hb])]
theorem back_is : Str.ofString "\\" = sg 92 := by decide +kernel
theorem sgs2 {l : List Nat} {ws : List Value} {c : Nat} {t u : Tok} (h : Sgs l ws) : Sgs (l ++ [92, c]) (ws ++ [Value.str (Str.ofString "\\") t, Value.str (sg c) u]) :=
  paired_app h (.cons ⟨t, by rw [back_is]⟩ (.cons ⟨u, rfl⟩ .nil))
theorem sgs1 {l : List Nat} {ws : List Value} {c : Nat} {u : Tok} (h : Sgs l ws) : Sgs (l ++ [c]) (ws ++ [Value.str (sg c) u]) := paired_app h (.cons ⟨u, rfl⟩ .nil)
theorem wturn {x : Str} {t ti : Tok} {B : Heap} {L D cl I : Addr} {oc rio : Obj} {ps : Array Value} {m : Str → Option Value} {i : Nat} {c : Nat} {l : List Nat} (hh : A.handled = none) (hu : A.units + 20 ≤ 900) (CB : Cx w mg mb B) (W : WT B L I D cl rio oc ps m l s.heap)
    (l1 : @LT.lt Nat _ cl D ∧ @LT.lt Nat _ 150 D ∧ @LT.lt Nat _ D I) (l2 : @LT.lt Nat _ 150 cl) (ht : m (Str.ofString "text") = some (.str x t)) (hw : m (Str.ofString "written") = some (.ref D)) (hp : m (Str.ofString "place") = some (.int i ti))
    (hx : x.length ≤ 400) (hc : (sl x)[i]? = some c) (hz : l.length ≤ 1000) :
    wpAny (model pw w) A (execs (forBody wFor) (envW L)) (StepW (fun s' => ∃ h' tk, s' = { s with heap := h', toks := tk } ∧ WT B L I D cl rio oc ps m (l ++ wr1 (i % 2 == 0) c) h') (fun _ _ => False)) E s := by
  have X := CB.X
  have T := CB.T
  obtain ⟨F, ws, nn, hs, N⟩ := W
  have hz : ws.length ≤ 1000 := by rw [← hs.length]; exact hz
  have hmod : (i : Int).fmod 2 = ((i % 2 : Nat) : Int) := by rw [Int.fmod_eq_emod_of_nonneg _ (by decide)]; exact (Int.natCast_emod i 2).symm
  change wpAny _ _ (execs [_, _] _) _ _ _
  repeat' (first | ((with_reducible show wpAny _ _ (subscriptTail _ _ (Value.str _ _) (Value.int _ _)) _ _ _); (refine item_sign (by assumption) (by assumption) ?_)) | walk1 | (dsimp only; walk1))
  all_goals
    rename Fr _ _ _ _ => F₅
    rename News _ _ _ _ => N₅
    refine ⟨_, _, rfl, F₅, ?_⟩
    simp only [List.push_toArray, List.append_assoc, List.cons_append, List.nil_append] at N₅
  · rename (List.any [Str.ofString "\"", _] _) = true => c1
    rw [wr1_q c1]
    exact ⟨_, _, sgs2 hs, List.forall_mem_cons.mpr ⟨N₅ _ (.tail _ (.head _)), List.forall_mem_cons.mpr ⟨N₅ _ (.tail _ (.tail _ (.head _))), List.forall_mem_cons.mpr ⟨N₅ _ (.tail _ (.tail _ (.tail _ (.head _)))), List.forall_mem_cons.mpr ⟨N₅ _ (.tail _ (.tail _ (.tail _ (.tail _ (.head _))))), List.forall_mem_nil _⟩⟩⟩⟩⟩
  · rename (List.any [Str.ofString "\"", _] _) = false => c1
    rename (List.any [Str.ofString "\n", _, _, _] _) = true => c2
    rw [wr1_b (nq_of c1) (bl_t c2)]
    exact ⟨_, _, sgs1 hs, List.forall_mem_cons.mpr ⟨N₅ _ (.tail _ (.tail _ (.head _))), List.forall_mem_cons.mpr ⟨N₅ _ (.tail _ (.tail _ (.tail _ (.head _)))), List.forall_mem_cons.mpr ⟨N₅ _ (.tail _ (.tail _ (.tail _ (.tail _ (.head _))))), List.forall_mem_cons.mpr ⟨N₅ _ (.tail _ (.tail _ (.tail _ (.tail _ (.tail _ (.head _)))))), List.forall_mem_nil _⟩⟩⟩⟩⟩
  · rename (List.any [Str.ofString "\"", _] _) = false => c1
    rename (List.any [Str.ofString "\n", _, _, _] _) = false => c2
    rename Int.fmod _ 2 = 0 => c3
    rw [hmod] at c3
    rw [show (i % 2 == 0) = true from by simp; omega, wr1_e (bl_f c2)]
    exact ⟨_, _, sgs2 hs, List.forall_mem_cons.mpr ⟨N₅ _ (.tail _ (.tail _ (.head _))), List.forall_mem_cons.mpr ⟨N₅ _ (.tail _ (.tail _ (.tail _ (.head _)))), List.forall_mem_cons.mpr ⟨N₅ _ (.tail _ (.tail _ (.tail _ (.tail _ (.head _))))), List.forall_mem_cons.mpr ⟨N₅ _ (.tail _ (.tail _ (.tail _ (.tail _ (.tail _ (.head _)))))), List.forall_mem_nil _⟩⟩⟩⟩⟩
  · rename (List.any [Str.ofString "\"", _] _) = false => c1
    rename Int.fmod _ 2 ≠ 0 => c3
    rw [hmod] at c3
    rw [show (i % 2 == 0) = false from by simp; omega, wr1_o (nq_of c1)]
    exact ⟨_, _, sgs1 hs, List.forall_mem_cons.mpr ⟨N₅ _ (.tail _ (.head _)), List.forall_mem_cons.mpr ⟨N₅ _ (.tail _ (.tail _ (.head _))), List.forall_mem_cons.mpr ⟨N₅ _ (.tail _ (.tail _ (.tail _ (.head _)))), List.forall_mem_cons.mpr ⟨N₅ _ (.tail _ (.tail _ (.tail _ (.tail _ (.head _))))), List.forall_mem_nil _⟩⟩⟩⟩⟩
noncomputable abbrev rioO (i n : Int) : Obj := { cls := .type "range_iterator", dict := none, data := .fields #[rawInt i, rawInt n, rawInt 1], slots := #[] }
theorem WT.setI {B h h' : Heap} {L I D cl : Addr} {rio rio' oc : Obj} {ps : Array Value} {m : Str → Option Value} {l : List Nat} (W : WT B L I D cl rio oc ps m l h) (l1 : @LT.lt Nat _ cl D ∧ @LT.lt Nat _ 150 D ∧ @LT.lt Nat _ D I) (e : h'.get? I = some rio')
    (k : ∀ b o, b ≠ I → h.get? b = some o → h'.get? b = some o) : WT B L I D cl rio' oc ps m l h' := by
  obtain ⟨F, ws, nn, hs, N⟩ := W
  have n1 := N _ (.head _)
  have km : ∀ (b : Nat) o, @Ne Nat b I → h.get? b = some o → h'.get? b = some o := fun b o h e => k b o h e
  refine ⟨⟨F.ns.at' fun o e => k L o (Ne.symm n1.2.1) e, fun b o q => k b o (by rintro rfl; have z := n1.2.2; dsimp only at z; rw [z] at q; cases q) (F.keep b o q), F.above⟩, ws, nn, hs, ?_⟩
  have n2 := N _ (.tail _ (.head _))
  have n3 := N _ (.tail _ (.tail _ (.head _)))
  have n4 := N _ (.tail _ (.tail _ (.tail _ (.head _))))
  exact List.forall_mem_cons.mpr ⟨⟨e, n1.2⟩, List.forall_mem_cons.mpr ⟨⟨km D _ (by omega) n2.1, n2.2⟩, List.forall_mem_cons.mpr ⟨⟨km cl _ (by omega) n3.1, n3.2⟩, List.forall_mem_cons.mpr ⟨⟨km 150 _ (by omega) n4.1, n4.2⟩, List.forall_mem_nil _⟩⟩⟩⟩
theorem wr1_len (e : Bool) (c : Nat) : (wr1 e c).length ≤ 2 := by
  unfold wr1
  split <;> simp
noncomputable def InvW (B : Heap) (L I D cl : Addr) (oc : Obj) (ps : Array Value) (x : Str) (t : Tok) (s : Shared) (n : Nat) (s' : Shared) : Prop :=
  ∃ h' tk m' i pre, s' = { s with heap := h', toks := tk } ∧ WT B L I D cl (rioO (i : Nat) ((x.length : Int) - i)) oc ps m' pre h' ∧ m' (Str.ofString "text") = some (.str x t) ∧ m' (Str.ofString "written") = some (.ref D) ∧
      pre ++ wr (i % 2 == 0) ((sl x).drop i) = wr true (sl x) ∧ pre.length ≤ 2 * i ∧ i ≤ x.length ∧ n = x.length - i
theorem wloop {x : Str} {t : Tok} {B : Heap} {L D cl I : Addr} {oc : Obj} {ps : Array Value} {m : Str → Option Value} {R : Result → Shared → Prop} {px : Pos} (hh : A.handled = none) (hu : A.units + 20 ≤ 900) (CB : Cx w mg mb B) (W0 : WT B L I D cl (rioO 0 x.length) oc ps m [] s.heap)
    (l1 : @LT.lt Nat _ cl D ∧ @LT.lt Nat _ 150 D ∧ @LT.lt Nat _ D I) (l2 : @LT.lt Nat _ 150 cl) (ht : m (Str.ofString "text") = some (.str x t)) (hw : m (Str.ofString "written") = some (.ref D))
    (hx : x.length ≤ 400) (done : ∀ h' tk m' ws nn, Fr B L h' m' → Sgs (wr true (sl x)) ws → News B L h' [(D, W.listOf ws.toArray nn), (cl, oc), (150, tabObj ps)] → m' (Str.ofString "written") = some (.ref D) → R (.ok .next) { s with heap := h', toks := tk }) :
    codeAny (model pw w) A (.forLoop (.Name (Str.ofString "place") px) (.ref I) (forBody wFor) [] (envW L)) R s := by
  refine codeAny_forLoop (InvW B L I D cl oc ps x t s) ?_ x.length
    ⟨s.heap, s.toks, m, 0, [], rfl, by simpa using W0, ht, hw, by simp, by simp, Nat.zero_le _, rfl⟩ (by intro _; rfl)
  rintro n s' ⟨h₁, tk₁, m₁, i, pre, rfl, W₁, ht₁, hw₁, hi₁, hl₁, hle, rfl⟩
  obtain ⟨ws, nn, hs, N⟩ := W₁.N
  have nI := N _ (.head _)
  by_cases hlt : i < x.length
  · refine wpAny_pyNext_range_item nI.1 (by omega) fun h₂ e2 s2 => ?_
    have W₂ := WT.setI W₁ l1 e2 s2.extBut
    refine wpAny_assign_Name (wpAny_storeName_local (by rfl) W₂.F.ns (fun h₃ hn₃ hs₃ => ?_) (by rfl))
    have hc : (sl x)[i]? = some ((sl x)[i]'hlt) := List.getElem?_eq_getElem hlt
    obtain ⟨ws₂, nn₂, hs₂, N₂⟩ := W₂.N
    have W₃ : WT B L I D cl (rioO (i + 1) ((x.length : Int) - i - 1)) oc ps (fun y => if y = Str.ofString "place" then some (.int i tk₁) else m₁ y) pre h₃ := ⟨W₂.F.set hn₃ hs₃, ws₂, nn₂, hs₂, N₂.set hs₃⟩
    refine wpAny_mono (wturn (s := { s with heap := h₃, toks := _ }) hh hu CB W₃ l1 l2 ((if_neg (by decide +kernel)).trans ht₁) ((if_neg (by decide +kernel)).trans hw₁) (if_pos rfl) hx hc (by omega)) (fun f s₃ h₃ => ?_) fun _ _ e => e
    have nx : (∃ h' tk, s₃ = { s with heap := h', toks := tk } ∧ WT B L I D cl (rioO (i + 1) ((x.length : Int) - i - 1)) oc ps (fun y => if y = Str.ofString "place" then some (.int i tk₁) else m₁ y) (pre ++ wr1 (i % 2 == 0) ((sl x)[i]'hlt)) h') → ∃ mm, mm < x.length - i ∧ InvW B L I D cl oc ps x t s mm s₃ := fun h => by
      obtain ⟨h', tk, e, W'⟩ := h
      refine ⟨x.length - (i + 1), by omega, h', tk, (fun y => if y = Str.ofString "place" then some (.int i tk₁) else m₁ y), i + 1, pre ++ wr1 (i % 2 == 0) ((sl x)[i]'hlt), e, ?_, (if_neg (by decide +kernel)).trans ht₁, (if_neg (by decide +kernel)).trans hw₁, ?_, ?_, hlt, rfl⟩
      · rw [show ((i + 1 : Nat) : Int) = (i : Int) + 1 from by omega, show (x.length : Int) - ((i : Int) + 1) = (x.length : Int) - i - 1 from by omega]
        exact W'
      · rw [← hi₁, List.drop_eq_getElem_cons hlt, wr, List.append_assoc]
        congr 2
        rw [show (!(i % 2 == 0)) = ((i + 1) % 2 == 0) from by
          rcases Nat.mod_two_eq_zero_or_one i with h | h
          · rw [h, show (i + 1) % 2 = 1 from by omega]; rfl
          · rw [h, show (i + 1) % 2 = 0 from by omega]; rfl]
      · have := wr1_len (i % 2 == 0) ((sl x)[i]'hlt)
        rw [List.length_append]
        omega
    cases f with
    | next => exact nx h₃
    | cont => exact nx h₃
    | brk => exact h₃.elim
    | ret v => exact h₃.elim
  · have hix : i = x.length := by omega
    subst hix
    refine wpAny_pyNext_range_end hh nI.1 (by omega) fun h₂ e2 => wpAny_execs_nil ?_
    have km : ∀ (b : Nat) o, @Ne Nat b I → h₁.get? b = some o → h₂.get? b = some o := fun b o h e => e2 b o h e
    have n2 := N _ (.tail _ (.head _))
    have n3 := N _ (.tail _ (.tail _ (.head _)))
    have n4 := N _ (.tail _ (.tail _ (.tail _ (.head _))))
    have hpre : pre = wr true (sl x) := by
      rw [← hi₁, show (sl x).drop x.length = [] from List.drop_length, wr, List.append_nil]
    refine done h₂ tk₁ m₁ ws nn ⟨W₁.F.ns.at' fun o e => e2 L o (Ne.symm nI.2.1) e, fun b o q => e2 b o (by rintro rfl; have z := nI.2.2; dsimp only at z; rw [z] at q; cases q) (W₁.F.keep b o q), W₁.F.above⟩ (hpre ▸ hs)
      (List.forall_mem_cons.mpr ⟨⟨km D _ (by omega) n2.1, n2.2⟩, List.forall_mem_cons.mpr ⟨⟨km cl _ (by omega) n3.1, n3.2⟩, List.forall_mem_cons.mpr ⟨⟨km 150 _ (by omega) n4.1, n4.2⟩, List.forall_mem_nil _⟩⟩⟩) hw₁
end
end

section
open PySem PySem.W PySem.Calls PyProof.Rows PyProof.V
set_option Elab.async false
set_option maxRecDepth 100000
set_option maxHeartbeats 4000000
noncomputable abbrev tab5 (c' : Addr) : Obj := tabObj #[rawInt lamPos.line, rawInt lamPos.col, .ref c']
/-- the table of the codes that _law_word makes: empty, or with its lambda's -/
structure Tab5 (n : Addr) (h : Heap) : Prop where
  out : h.get? 150 = some (tabObj #[]) ∨ ∃ c', @LE.le Nat _ n c' ∧ h.get? 150 = some (tab5 c') ∧ h.CodeRec (.ref c') lamQ
section
variable {w : World} {A : Around} {s : Shared} {mg mb : Str → Option Value} {E : Value → Shared → Prop}
theorem mk_lam {n L : Addr} {Q : Value → Shared → Prop} (hg : s.heap.Ns mainGlobals mg) (C : CodeHd s.heap 154 150) (T5 : Tab5 n s.heap) (BA : s.heap.BuiltinsAt mg 150)
    (h : ∀ fn c' pm ctv h' tk, (∀ b o, b ≠ 150 → s.heap.get? b = some o → h'.get? b = some o) → h'.get? 150 = some (tab5 c') → h'.get? fn = some (lamO (L + 1) pm c' ctv) → h'.CodeRec (.ref c') lamQ → s.heap.objs.size ≤ fn → c' < fn →
      (∀ b o, s.heap.get? b = some o → (∀ vs, o.data ≠ .fields vs) → c' ≠ b) → (s.heap.objs.size ≤ c' ∨ s.heap.get? 150 = some (tab5 c')) → Q (.ref fn) { s with heap := h', toks := tk }) :
    wpAny (model pw w) A (eval lamE (envW L)) Q E s := by
  have e : lamE = .Lambda lamP lamB lamS lamPos := by rfl
  rw [e]
  have hgP : mainGlobals ≠ 150 := by decide
  refine kla_eval (by rfl) ?_
  rcases T5.out with h5 | ⟨c', _, h5, hc'⟩
  · refine kla_makeFunction (clos := [(sSigns, L + 1)]) (mg := mg) (by rfl) rfl hg rfl C h5 trivial (by rfl) hgP BA fun c' ctv h' tk hx hge hlt hrec htb => ?_
    have up : ∀ (o : Obj) b o', h'.get? b = some o' → (h'.push o).get? b = some o' := fun o b o' e => Heap.get?_push_of_some o e
    refine h h'.objs.size c' _ ctv _ tk (fun b o hb e => up _ _ _ (hx b o hb e)) ?_ (Heap.get?_push_size _ rfl) (hrec.keeps (up _)) ?_ hlt (fun b o e _ q => ?_) (.inl hge)
    · have := up (kla_obj "<lambda>" ((envW L).qual ++ "<lambda>") lamP lamB lamS [(sSigns, L + 1)] ((mg "__name__").getD Value.none) c' ctv) _ _ htb
      simpa using this
    · exact Nat.le_of_lt (Nat.lt_of_le_of_lt hge hlt)
    · subst q
      exact absurd (Heap.lt_size e) (Nat.not_lt.mpr hge)
  · refine kla_makeFunctionHit (clos := [(sSigns, L + 1)]) (mg := mg) (cv := .ref c') (by rfl) rfl hg rfl C h5 ?_ ?_ BA fun ctv h' tk hk hsz => ?_
    · simp [TriplesOk, rawInt]
    · simp [codeAmong, rawInt]
    · have up : ∀ (o : Obj) b o', h'.get? b = some o' → (h'.push o).get? b = some o' := fun o b o' e => Heap.get?_push_of_some o e
      have hc₂ := hc'.keeps hk
      obtain ⟨c₁, oc, vs, tq, q1, q2, q3, q4⟩ := hc₂
      obtain ⟨c₃, oc₃, vs₃, tq₃, q1', q2', q3', q4'⟩ := hc'
      cases q1
      cases q1'
      refine h h'.objs.size c' _ ctv _ tk (fun b o hb e => up _ _ _ (hk b o e)) (up _ _ _ (hk _ _ h5)) (Heap.get?_push_size _ rfl) ⟨c', oc, vs, tq, rfl, up _ _ _ q2, q3, q4⟩ hsz (Heap.lt_size q2) (fun b o e ho q => ?_) (.inr h5)
      subst q
      rw [e] at q2'
      cases q2'
      exact ho _ q3'
end
end

section
open PySem PySem.W PySem.Calls PyProof.Rows PyProof.V
set_option Elab.async false
set_option maxRecDepth 100000
set_option maxHeartbeats 4000000
noncomputable def wRet : Stmt := match fB (st 13) with
  | [_, _, _, _, _, f] => f
  | _ => noSt
theorem news_new {B h h' : Heap} {L : Addr} {m : Str → Option Value} (F : Fr B L h m) {b : Addr} {o : Obj} (hb : h.objs.size ≤ b) (e : h'.get? b = some o) : h'.get? b = some o ∧ b ≠ L ∧ B.get? b = none := by
  refine ⟨e, Nat.ne_of_gt (Nat.lt_of_lt_of_le F.ns.lt hb), ?_⟩
  cases q : B.get? b with
  | none => rfl
  | some o => exact absurd (Heap.lt_size (F.keep _ _ q)) (Nat.not_lt.mpr hb)
section
variable {w : World} {A : Around} {s : Shared} {mg mb : Str → Option Value} {E : Value → Shared → Prop}
theorem word_fin {g B : Heap} {L fn st dst ls pb' c' : Addr} {oc : Obj} {pm ctv : Value} {t : Toks} {u v : Tok} {ws : List Value} {nn : Nat} {l : List Nat} {m : Str → Option Value} {Q : Flow → Shared → Prop}
    (C : Cx w mg mb g) (CB : Cx w mg mb B) (gB : ∀ b o, g.get? b = some o → B.get? b = some o) (g0 : ∀ b, L ≤ b → g.get? b = none) (r : Rm A 7) (F : Fr B L s.heap m) (hs : m (Str.ofString "stream") = some (.ref st))
    (N : News B L s.heap [(fn, lamO (L + 1) pm c' ctv), (st, instObj 66 dst), (dst, strD w.params t u v pb' fn), (ls, W.listOf ws.reverse.toArray nn), (L + 1, oc)]) (hoc : oc.data = .cell (some (.ref ls)))
    (hw : Sgs l ws) (hz : l.length ≤ 1000) (hnq : noQ l) (ec : s.heap.CodeRec (.ref c') lamQ) (q1 : @LT.lt Nat _ (L + 1) ls) (p1 : @LT.lt Nat _ ls dst) (p2 : @LT.lt Nat _ dst st) (p3 : @LT.lt Nat _ st fn) (r2 : @LT.lt Nat _ c' fn) (r4 : @Ne Nat c' ls)
    (hQ : ∀ h' tk u, (∀ b o, b ≠ ls → s.heap.get? b = some o → h'.get? b = some o) → Q (.ret (.str (ofL (outerF l)) u)) { s with heap := h', toks := tk }) :
    wpAny (model pw w) A (exec wRet (envW L)) Q E s := by
  have hh : A.handled = none := r.hh
  have X := CB.X
  have T := CB.T
  change wpAny _ _ (exec (.Return (some _) _) _) _ _ _
  repeat ((fail_if_success (with_reducible show wpAny _ _ (call (.ref _) _) _ _ _)); first | walk1 | (dsimp only; walk1))
  refine wpAny_call (codeAny_mono (mk_c (g := g) C (fun b o e => F.keep b o (gB b o e)) ⟨r.hh, by have := r.hd; omega, by have := r.hu; omega⟩) ?_)
  rintro r' s' ⟨h₅, tk₅, x, dx, pb, u₁, t₁, rfl, rfl, e1, e2, e3, o1, o2, o3, k5⟩
  have m1 := N _ (.head _)
  have m2 := N _ (.tail _ (.head _))
  have m3 := N _ (.tail _ (.tail _ (.head _)))
  have m4 := N _ (.tail _ (.tail _ (.tail _ (.head _))))
  have m5 := N _ (.tail _ (.tail _ (.tail _ (.tail _ (.head _)))))
  have p4 : @LT.lt Nat _ fn dx := Nat.lt_of_lt_of_le (Heap.lt_size m1.1) o1
  have N₅ : News B L h₅ [(x, instObj 66 dx), (dx, lexD w.params 1 u₁ t₁ (.ref st) pb)] :=
    List.forall_mem_cons.mpr ⟨news_new F (Nat.le_trans o1 (Nat.le_of_lt o2)) e1, List.forall_mem_cons.mpr ⟨news_new F o1 e2, List.forall_mem_nil _⟩⟩
  have F₅ := Fr.ext' F k5
  have Y : Lex w.params h₅ ⟨x, dx, pb, st, dst, fn, L + 1, ls, c'⟩ l :=
    ⟨e1, ⟨1, u₁, t₁, by decide, by omega, e2⟩, e3, k5 _ _ m2.1, ⟨t, u, v, pb', k5 _ _ m3.1⟩, ⟨pm, ctv, k5 _ _ m1.1⟩, ec.keeps k5, ⟨oc, k5 _ _ m5.1, hoc⟩, ⟨ws, nn, hw, k5 _ _ m4.1⟩, hz⟩
  have O : Ord g ⟨x, dx, pb, st, dst, fn, L + 1, ls, c'⟩ := ⟨q1, p1, p2, p3, r2, r4, p4, o2, o3, fun b hb => g0 b (Nat.le_trans (Nat.le_succ L) hb)⟩
  clear F N
  dsimp only
  repeat ((fail_if_success (with_reducible show wpAny _ _ (call (.ref 56) _) _ _ _)); first | walk1 | (dsimp only; walk1))
  show wpAny _ _ (call (.ref 56) [.ref x]) _ _ _
  refine wpAny_call (codeAny_mono (gt_c (s := { s with heap := h₅, toks := tk₅ }) (a := ⟨x, dx, pb, st, dst, fn, L + 1, ls, c'⟩) C (fun b o e => F₅.keep b o (gB b o e)) ⟨r.hh, by have := r.hd; omega, by have := r.hu; omega⟩ O Y hnq) ?_)
  rintro r' s' ⟨h₆, tk₆, u₆, rfl, rfl, k6⟩
  refine hQ h₆ tk₆ u₆ fun b o hb e => k6 b o ?_ hb (k5 b o e)
  rintro rfl
  exact absurd (Heap.lt_size e) (Nat.not_lt.mpr o1)
end
end

section
open PySem PySem.W PySem.Calls PyProof.Rows PyProof.V
set_option Elab.async false
set_option maxRecDepth 100000
set_option maxHeartbeats 4000000
structure WdOut (n : Addr) (x : Str) (r : Result) (s s' : Shared) : Prop where
  out : ∃ h' tk u, r = .ok (.ret (.str (ofL (outerF (wr true (sl x)))) u)) ∧ s' = { s with heap := h', toks := tk } ∧ (∀ b o, b ≠ 150 → s.heap.get? b = some o → h'.get? b = some o) ∧ Tab5 n h'
theorem Tab5.obj {n : Addr} {h : Heap} (T : Tab5 n h) : ∃ ps, h.get? 150 = some (tabObj ps) := by
  rcases T.out with h | ⟨c, _, h, _⟩
  · exact ⟨_, h⟩
  · exact ⟨_, h⟩
theorem Tab5.at {n : Addr} {h h' : Heap} (T : Tab5 n h) (e : ∀ o, h.get? 150 = some o → h'.get? 150 = some o) (k : ∀ b o, b ≠ 150 → h.get? b = some o → h'.get? b = some o) : Tab5 n h' := by
  rcases T.out with h5 | ⟨c', hn, h5, c, oc, vs, tq, q1, q2, q3, q4⟩
  · exact ⟨.inl (e _ h5)⟩
  · refine ⟨.inr ⟨c', hn, e _ h5, c, oc, vs, tq, q1, k _ _ ?_ q2, q3, q4⟩⟩
    rintro rfl
    rw [h5] at q2
    cases q2
    cases q3
    cases q4
theorem noQ_wr : ∀ (e : Bool) (l : List Nat), noQ (wr e l)
  | _, [] => trivial
  | e, c :: r => by
    unfold wr wr1
    split
    · show noQ (92 :: (c :: wr (!e) r))
      rw [noQ, if_neg (by decide)]
      decide
    · rename_i h
      show noQ (c :: wr (!e) r)
      rw [noQ]
      split
      · exact noQ_wr _ r
      · exact fun q => h (.inl q)
theorem wr_len : ∀ (e : Bool) (l : List Nat), (wr e l).length ≤ 2 * l.length
  | _, [] => Nat.le_refl _
  | e, c :: r => by
    have := wr_len (!e) r
    have := wr1_len e c
    rw [wr, List.length_append, List.length_cons]
    omega
section
variable {w : World} {A : Around} {s : Shared} {mg mb : Str → Option Value} {E : Value → Shared → Prop}
theorem word_c {n : Addr} {x : Str} {t : Tok} {g : Heap} (C : Cx w mg mb g) (k : ∀ b o, g.get? b = some o → s.heap.get? b = some o) (g5 : g.get? 150 = none) (r : Rm A 8) (hn5 : @LE.le Nat _ n s.heap.objs.size) (T5 : Tab5 n s.heap) (BA : g.BuiltinsAt mg 150) (hz : x.length ≤ 400) :
    codeAny (model pw w) A (.call (.ref 155) ⟨[.str x t], []⟩) (fun r s' => WdOut n x r s s') s := by
  have CB : Cx w mg mb (hideAll s.heap [150]) := C.hide k (by intro b hb; rw [List.mem_singleton.mp hb]; exact g5)
  refine call_cells_ret (name := Str.ofString "_law_word") (params := fP (st 13)) (body := fB (st 13)) (scope := fS (st 13)) (binds := [(Str.ofString "text", .str x t)]) r.room (k _ _ (C.X 155 _ rfl)) rfl (C.T.nolimit.keeps k) (codeRec_of (C.X.keeps k) (by kernel_rfl)) (by rfl) (fun n x hx => ?_) (by decide +kernel) (fun h₁ tk cells F N CA => ?_) rfl rfl rfl
  · rw [List.mem_singleton.mp hx]; exact .inl rfl
  have e : cellsFrom (s.heap.objs.size + 1) (fS (st 13)).names [] = [(Str.ofString "signs", s.heap.objs.size + 1)] := by rfl
  rw [e] at CA
  cases CA
  rename CellsAre _ _ _ => CA
  cases CA
  rename_i oc hoc
  have hh : A.handled = none := r.hh
  obtain ⟨ps, h5⟩ := T5.obj
  have F₀ : Fr (hideAll s.heap [150]) s.heap.objs.size h₁ _ := ⟨F.ns, fun b o e => F.keep b o (of_hideAll _ e), Nat.le_of_eq (hideAll_size _ _)⟩
  have N₀ : News (hideAll s.heap [150]) s.heap.objs.size h₁ [(s.heap.objs.size + 1, oc), (150, tabObj ps)] := by
    have n1 := N _ (.head _)
    refine List.forall_mem_cons.mpr ⟨⟨n1.1, n1.2.1, ?_⟩, List.forall_mem_cons.mpr ⟨⟨F.keep _ _ h5, Nat.ne_of_lt (Heap.lt_size h5), hideAll_none _ (.head _)⟩, List.forall_mem_nil _⟩⟩
    cases q : (hideAll s.heap [150]).get? (s.heap.objs.size + 1) with
    | none => rfl
    | some o => have := of_hideAll _ q; rw [n1.2.2] at this; cases this
  have hoc' : oc.data = .cell none := hoc
  have l0 : @LT.lt Nat _ 150 (s.heap.objs.size + 1) := Nat.lt_succ_of_lt (Heap.lt_size h5)
  clear F N hoc
  have X := CB.X
  have T := CB.T
  change wpAny _ _ (execs [_, _, _, _, _, _] _) _ _ _
  repeat ((fail_if_success (with_reducible show wpAny _ _ (exec (Stmt.For _ _ _ _ _) _) _ _ _)); first | walk1 | (dsimp only; walk1))
  refine wpAny_For ?_ (by intro _; rfl)
  repeat ((fail_if_success (with_reducible show wpAny _ _ (pyIter _) _ _ _)); first | walk1 | (dsimp only; walk1))
  rename_i hR F₁ N₁ hk₁
  rename _ ∧ _ => l1
  have hsm : Builtin.Range.small 0 x.length 1 = true := by
    unfold Builtin.Range.small Builtin.Range.rangeSize Builtin.Range.rangeFitsLong
    simp
    omega
  refine wpAny_pyIter_range hR hsm ?_
  have hsz : Builtin.Range.rangeSize 0 x.length 1 = x.length := by
    unfold Builtin.Range.rangeSize
    rw [if_pos (by decide)]
    split <;> omega
  rw [hsz]
  have n1 := N₁ _ (.head _)
  refine wloop hh (by have := r.hu; show A.units + 3 + 20 ≤ 900; omega) CB ⟨F₁.push _, [], 0, .nil, N₁.push F₁ (rioO 0 x.length)⟩ ⟨l1.1, l1.2, Heap.lt_size n1.1⟩ l0 ((if_neg (by decide +kernel)).trans rfl) (if_pos rfl) hz (fun h₂ tk₂ m₂ ws nn F₂ hs₂ N₂ hw₂ => ?_)
  clear hR F₁ N₁ hk₁ n1
  dsimp only
  repeat (first | walk1 | (dsimp only; walk1))
  refine krv_lit F₂ N₂ (News.isList N₂ (.head _)) (IsPart.int _ _) (zs := ws.reverse) (by simp) ?_ (by with_unfolding_all rfl) ?_ ?_
  rotate_left
  · intro _; with_unfolding_all rfl
  · have q := hs₂.length
    have q2 := wr_len true (sl x)
    have q3 : (sl x).length = x.length := rfl
    rw [List.size_toArray, sizeLine_eq]
    omega
  intro ls h₃ F₃ N₃ l3
  have q1 : @LT.lt Nat _ (s.heap.objs.size + 1) ls := l3 _ (.tail _ (.head _))
  have q2 : @LT.lt Nat _ 150 ls := l3 _ (.tail _ (.tail _ (.head _)))
  have N₃' : News (hideAll s.heap [150]) s.heap.objs.size h₃ [(ls, W.listOf ws.reverse.toArray 0), (s.heap.objs.size + 1, oc), (150, tabObj ps)] :=
    List.forall_mem_cons.mpr ⟨N₃ _ (.head _), List.forall_mem_cons.mpr ⟨N₃ _ (.tail _ (.tail _ (.head _))), List.forall_mem_cons.mpr ⟨N₃ _ (.tail _ (.tail _ (.tail _ (.head _)))), List.forall_mem_nil _⟩⟩⟩
  clear N₂ N₃ F₂ l3
  refine storeX_C F₃ N₃' (c := s.heap.objs.size + 1) (o := oc) (by rfl) (by k_updF) hoc' (fun h₄ oc₄ F₄ N₄ hoc₄ => ?_) (by rfl) (by rfl)
  clear F₃ N₃'
  have gB : ∀ b o, g.get? b = some o → (hideAll s.heap [150]).get? b = some o := fun b o e => hideAll_get _ (k b o e) fun q => by rw [List.mem_singleton.mp q, g5] at e; cases e
  repeat ((fail_if_success (with_reducible show wpAny _ _ (call (.ref _) _) _ _ _)); first | walk1 | (dsimp only; walk1))
  refine wpAny_call (codeAny_mono (mk_c (g := g) C (fun b o e => F₄.keep b o (gB b o e)) ⟨r.hh, by have := r.hd; show A.depth + 1 + 3 ≤ 900; omega, by have := r.hu; show A.units + 3 + 3 * 3 ≤ 900; omega⟩) ?_)
  rintro r' s' ⟨h₅, tk₅, st, dst, pb', u₁, t₁, rfl, rfl, e1, e2, e3, o1, o2, o3, k5⟩
  have N₅ : News (hideAll s.heap [150]) s.heap.objs.size h₅ [(st, instObj 66 dst), (dst, lexD w.params 1 u₁ t₁ .none pb'), (ls, W.listOf ws.reverse.toArray 0), (s.heap.objs.size + 1, oc₄), (150, tabObj ps)] :=
    List.forall_mem_cons.mpr ⟨news_new F₄ (Nat.le_trans o1 (Nat.le_of_lt o2)) e1, List.forall_mem_cons.mpr ⟨news_new F₄ o1 e2, News.ext' N₄ k5⟩⟩
  have F₅ := Fr.ext' F₄ k5
  have p1 : @LT.lt Nat _ ls dst := Nat.lt_of_lt_of_le (Heap.lt_size (N₄ _ (.head _)).1) o1
  have p2 : @LT.lt Nat _ dst st := o2
  clear F₄ N₄ e1 e2 o1 k5
  dsimp only
  repeat ((fail_if_success (with_reducible show wpAny _ _ (eval (Expr.Lambda _ _ _ _) _) _ _ _)); first | walk1 | (dsimp only; walk1))
  rename_i h₆ F₆ N₆
  have m1 := N₆ _ (.head _)
  have m2 := N₆ _ (.tail _ (.head _))
  have m3 := N₆ _ (.tail _ (.tail _ (.head _)))
  have m4 := N₆ _ (.tail _ (.tail _ (.tail _ (.head _))))
  have m5 := N₆ _ (.tail _ (.tail _ (.tail _ (.tail _ (.head _)))))
  have T6 : Tab5 n h₆ := T5.at (fun o e => by rw [h5] at e; cases e; exact m5.1) fun b o hb e => keep_bad F₆ (by simpa using hb) e
  show wpAny _ _ (eval lamE (envW s.heap.objs.size)) _ _ _
  refine mk_lam (CB.T.g.keeps F₆.keep) (codeHd_of_K (CB.X.keeps F₆.keep) (by kernel_rfl)) T6 (BA.keeps fun b o e => F₆.keep b o (gB b o e)) fun fn c' pm ctv h₇ tk₇ k7 h57 ef ec r1 r2 r3 r5 => ?_
  have F₇ : Fr (hideAll s.heap [150]) s.heap.objs.size h₇ _ := Fr.extBut' F₆ (.head _) (Ne.symm m5.2.1) k7
  have km : ∀ (b : Nat) o, @Ne Nat b 150 → h₆.get? b = some o → h₇.get? b = some o := fun b o h e => k7 b o h e
  have N₇ : News (hideAll s.heap [150]) s.heap.objs.size h₇ [(fn, lamO (s.heap.objs.size + 1) pm c' ctv), (st, instObj 66 dst), (dst, lexD w.params 1 u₁ t₁ .none pb'), (ls, W.listOf ws.reverse.toArray 0), (s.heap.objs.size + 1, oc₄), (150, tab5 c')] :=
    List.forall_mem_cons.mpr ⟨news_new F₆ r1 ef, List.forall_mem_cons.mpr ⟨⟨km st _ (by omega) m1.1, m1.2⟩, List.forall_mem_cons.mpr ⟨⟨km dst _ (by omega) m2.1, m2.2⟩, List.forall_mem_cons.mpr ⟨⟨km ls _ (by omega) m3.1, m3.2⟩, List.forall_mem_cons.mpr ⟨⟨km (s.heap.objs.size + 1) _ (by omega) m4.1, m4.2⟩, List.forall_mem_cons.mpr ⟨⟨h57, m5.2⟩, List.forall_mem_nil _⟩⟩⟩⟩⟩⟩
  have r4 : @Ne Nat c' ls := r3 _ _ m3.1 (by intro vs q; cases q)
  have p3 : @LT.lt Nat _ st fn := Nat.lt_of_lt_of_le (Heap.lt_size m1.1) r1
  have r6 : @LT.lt Nat _ c' fn := r2
  have gL : ∀ b, s.heap.objs.size ≤ b → g.get? b = none := fun b hb => by
    cases q : g.get? b with
    | none => rfl
    | some o => exact absurd (Heap.lt_size (k b o q)) (Nat.not_lt.mpr hb)
  have r7 : @LE.le Nat _ n c' := by
    rcases r5 with r5 | r5
    · exact Nat.le_trans hn5 (Nat.le_trans (Nat.le_of_lt F₆.ns.lt) r5)
    · have q : h₆.get? 150 = some (tab5 c') := r5
      rcases T6.out with z | ⟨c₁, hz, z, _⟩
      · rw [q] at z; cases z
      · rw [q] at z; cases z; exact hz
  have hfin : ∀ (h₈ : Heap) (tk₈ : Tok) (u₈ v₈ : Tok) (m₈ : Str → Option Value), Fr (hideAll s.heap [150]) s.heap.objs.size h₈ m₈ → m₈ (Str.ofString "stream") = some (.ref st) →
      News (hideAll s.heap [150]) s.heap.objs.size h₈ [(fn, lamO (s.heap.objs.size + 1) pm c' ctv), (st, instObj 66 dst), (dst, strD w.params t₁ u₈ v₈ pb' fn), (ls, W.listOf ws.reverse.toArray 0), (s.heap.objs.size + 1, oc₄)] → h₈.get? 150 = some (tab5 c') → h₈.CodeRec (.ref c') lamQ →
      ∀ (Q : Flow → Shared → Prop) (E' : Value → Shared → Prop), (∀ v s', WdOut n x (.ok (.ret v)) s s' → Q (.ret v) s') → wpAny (model pw w) (A.deeper (envW s.heap.objs.size)) (exec wRet (envW s.heap.objs.size)) Q E' { s with heap := h₈, toks := tk₈ } := by
    intro h₈ tk₈ u₈ v₈ m₈ F₈ hm₈ N₈ e8 ec₈ Q E' hQ
    refine word_fin C CB gB gL ⟨r.hh, by have := r.hd; show A.depth + 1 + 7 ≤ 900; omega, by have := r.hu; show A.units + 3 + 3 * 7 ≤ 900; omega⟩ F₈ hm₈ N₈ hoc₄ hs₂ ?_ (noQ_wr _ _) ec₈ q1 p1 p2 p3 r6 r4 fun h' tk' u' kk => ?_
    · have q2 := wr_len true (sl x)
      have q3 : (sl x).length = x.length := rfl
      omega
    · have hls : ∀ b o, s.heap.get? b = some o → b ≠ ls := fun b o e q => by
        subst q
        exact absurd (Heap.lt_size e) (Nat.not_lt.mpr (Nat.le_of_lt (Nat.lt_of_succ_lt q1)))
      refine hQ _ _ ⟨h', tk', u', rfl, rfl, fun b o hb e => kk b o (hls b o e) (keep_bad F₈ (by simpa using hb) e), ⟨.inr ⟨c', r7, kk _ _ (fun q => by rw [← q] at q2; exact Nat.lt_irrefl _ q2) e8, ?_⟩⟩⟩
      obtain ⟨c₁, oc₁, vs₁, tq₁, z1, z2, z3, z4⟩ := ec₈
      cases z1
      exact ⟨c', oc₁, vs₁, tq₁, rfl, kk _ _ r4 z2, z3, z4⟩
  rcases r5 with r5 | r5
  · obtain ⟨c₁, oc₁, vs₁, tq₁, z1, z2, z3, z4⟩ := ec
    cases z1
    have N₇' : News (hideAll s.heap [150]) s.heap.objs.size h₇ ((c', oc₁) :: [(fn, lamO (s.heap.objs.size + 1) pm c' ctv), (st, instObj 66 dst), (dst, lexD w.params 1 u₁ t₁ .none pb'), (ls, W.listOf ws.reverse.toArray 0), (s.heap.objs.size + 1, oc₄), (150, tab5 c')]) :=
      List.forall_mem_cons.mpr ⟨news_new F₆ r5 z2, N₇⟩
    have p5 : @LT.lt Nat _ st c' := Nat.lt_of_lt_of_le (Heap.lt_size m1.1) r5
    clear F₆ N₆ N₇ k7 r1 r3 km m1 m2 m3 m4 m5
    repeat ((fail_if_success (with_reducible show wpAny _ _ (exec (Stmt.Return _ _) _) _ _ _)); first | walk1 | (dsimp only; walk1))
    rename Fr _ _ _ _ => F₈
    rename News _ _ _ _ => N₈
    exact hfin _ _ _ _ _ F₈ (if_pos rfl) (List.forall_mem_cons.mpr ⟨N₈ _ (.tail _ (.head _)), List.forall_mem_cons.mpr ⟨N₈ _ (.tail _ (.tail _ (.head _))), List.forall_mem_cons.mpr ⟨N₈ _ (.tail _ (.tail _ (.tail _ (.head _)))), List.forall_mem_cons.mpr ⟨N₈ _ (.tail _ (.tail _ (.tail _ (.tail _ (.head _))))), List.forall_mem_cons.mpr ⟨N₈ _ (.tail _ (.tail _ (.tail _ (.tail _ (.tail _ (.head _)))))), List.forall_mem_nil _⟩⟩⟩⟩⟩) (N₈ _ (.tail _ (.tail _ (.tail _ (.tail _ (.tail _ (.tail _ (.head _)))))))).1 ⟨c', oc₁, vs₁, tq₁, rfl, (N₈ _ (.head _)).1, z3, z4⟩ _ _ fun v s' q => q
  · have hcr : ∃ oc₁ vs₁ tq₁, s.heap.get? c' = some oc₁ ∧ oc₁.data = .fields vs₁ ∧ vs₁[1]? = some (.str lamQ tq₁) := by
      have e6 : s.heap.get? 150 = some (tab5 c') := by
        have q : h₆.get? 150 = some (tab5 c') := r5
        rw [m5.1] at q
        rw [h5, ← q]
      rcases T5.out with z | ⟨c₁, _, z, hz₁⟩
      · rw [e6] at z; cases z
      · rw [e6] at z
        cases z
        obtain ⟨c₁, oc₁, vs₁, tq₁, z1, z2, z3, z4⟩ := hz₁
        cases z1
        exact ⟨oc₁, vs₁, tq₁, z2, z3, z4⟩
    obtain ⟨oc₁, vs₁, tq₁, z2, z3, z4⟩ := hcr
    clear F₆ N₆ k7 r1 r3 km m1 m2 m3 m4 m5
    repeat ((fail_if_success (with_reducible show wpAny _ _ (exec (Stmt.Return _ _) _) _ _ _)); first | walk1 | (dsimp only; walk1))
    rename Fr _ _ _ _ => F₈
    rename News _ _ _ _ => N₈
    refine hfin _ _ _ _ _ F₈ (if_pos rfl) (List.forall_mem_cons.mpr ⟨N₈ _ (.head _), List.forall_mem_cons.mpr ⟨N₈ _ (.tail _ (.head _)), List.forall_mem_cons.mpr ⟨N₈ _ (.tail _ (.tail _ (.head _))), List.forall_mem_cons.mpr ⟨N₈ _ (.tail _ (.tail _ (.tail _ (.head _)))), List.forall_mem_cons.mpr ⟨N₈ _ (.tail _ (.tail _ (.tail _ (.tail _ (.head _))))), List.forall_mem_nil _⟩⟩⟩⟩⟩) (N₈ _ (.tail _ (.tail _ (.tail _ (.tail _ (.tail _ (.head _))))))).1 ⟨c', oc₁, vs₁, tq₁, rfl, keep_bad F₈ ?_ z2, z3, z4⟩ _ _ fun v s' q => q
    · intro q
      rw [List.mem_singleton.mp q, h5] at z2
      cases z2
      rcases T5.out with z | ⟨c₁, _, z, hz₁⟩
      · rw [h5] at z; cases z; cases z3; cases z4
      · rw [h5] at z; cases z; cases z3; cases z4
end
end

end Mine
end

section
open PySem PySem.W PySem.Calls PyProof.Rows PyProof.V
set_option Elab.async false
set_option maxRecDepth 100000
set_option maxHeartbeats 4000000
namespace Mine
theorem blankB_is (c : Nat) : blankB [c] = blankC c := by
  unfold blankB blankC
  cases e : (c == 10 || c == 9 || c == 13 || c == 32) with
  | true =>
    simp only [Bool.or_eq_true, beq_iff_eq] at e
    simpa [or_assoc] using e
  | false =>
    simp only [Bool.or_eq_false_iff, beq_eq_false_iff_ne] at e
    simp [e]
theorem wr1_nb {e : Bool} {c : Nat} (h : blankC c = true) : wr1 e c = [c] := by
  refine wr1_b ⟨?_, ?_⟩ h <;> (rintro rfl; revert h; decide)
theorem inner_wr : ∀ (l : List Nat) (e : Bool) (t : List Nat), innerF (wr e l) t = t ++ l.takeWhile fun c => !blankC c
  | [], _, t => by simp [wr, innerF]
  | c :: r, e, t => by
    rw [wr, List.takeWhile_cons]
    cases hb : blankC c with
    | true =>
      rw [wr1_nb hb]
      show innerF (c :: wr (!e) r) t = _
      rw [innerF_cons, hb, if_pos rfl]
      simp
    | false =>
      simp only [Bool.not_false, if_true]
      unfold wr1
      split
      · show innerF (92 :: (c :: wr (!e) r)) t = _
        rw [innerF_cons, if_neg (by decide), if_pos rfl]
        show innerF (wr (!e) r) (t ++ [c]) = _
        rw [inner_wr r]
        simp
      · rename_i h
        show innerF (c :: wr (!e) r) t = _
        rw [innerF_cons, hb, if_neg (by decide), if_neg (fun q => h (.inr (.inl q))), inner_wr r]
        simp
theorem outer_wr : ∀ (l : List Nat) (e : Bool), outerF (wr e l) = (l.dropWhile blankC).takeWhile fun c => !blankC c
  | [], _ => by simp [wr, outerF]
  | c :: r, e => by
    rw [wr, List.dropWhile_cons]
    cases hb : blankC c with
    | true =>
      rw [wr1_nb hb]
      show outerF (c :: wr (!e) r) = _
      rw [outerF, hb, if_pos rfl, if_pos rfl]
      exact outer_wr r _
    | false =>
      rw [if_neg (by decide), List.takeWhile_cons, hb]
      simp only [Bool.not_false, if_true]
      unfold wr1
      split
      · show outerF (92 :: (c :: wr (!e) r)) = _
        rw [outerF, if_neg (by decide), if_pos rfl]
        show innerF (wr (!e) r) [c] = _
        rw [inner_wr r]
        simp
      · rename_i h
        show outerF (c :: wr (!e) r) = _
        rw [outerF, hb, if_neg (by decide), if_neg (fun q => h (.inr (.inl q))), inner_wr r]
        simp
theorem outer_laid (l : List Nat) : outerF (wr true l) = laidF 3 l := by
  rw [outer_wr]
  unfold laidF
  have : (fun c => blankB [c]) = blankC := funext blankB_is
  simp only [blankB_is]
end Mine
end

section
open PySem PySem.W PySem.Calls PyProof.Rows PyProof.V
set_option Elab.async false
set_option maxRecDepth 100000
set_option maxHeartbeats 4000000
namespace Mine
/-- what a call leaves that may lay a code into object 150 -/
structure OutT (n : Addr) (s : Shared) (V : Value → Heap → Prop) (r : Result) (s' : Shared) : Prop where
  val : ∃ v, r = .ok (.ret v) ∧ V v s'.heap
  keep : ∃ h' tk, s' = { s with heap := h', toks := tk } ∧ (∀ b o, b ≠ 150 → s.heap.get? b = some o → h'.get? b = some o) ∧ Tab5 n h'
theorem Tab5.ext {n : Addr} {h h' : Heap} (T : Tab5 n h) (k : ∀ b o, h.get? b = some o → h'.get? b = some o) : Tab5 n h' := T.at (fun o e => k _ _ e) fun b o _ e => k b o e
section
variable {w : World} {A : Around} {s : Shared} {mg mb : Str → Option Value} {E : Value → Shared → Prop}
theorem Out.toT {n : Addr} {V : Value → Heap → Prop} {r : Result} {s' : Shared} (T : Tab5 n s.heap) (o : Out s V r s') : OutT n s V r s' := by
  obtain ⟨v, h', tk, rfl, k⟩ := o
  exact ⟨v, h', tk, rfl, fun b o _ e => k b o e, T.ext k⟩
theorem use_outT {n : Addr} {M : Model} {f : Value} {args : List Value} {V : Value → Heap → Prop} {Q : Value → Shared → Prop} (h : codeAny M A (.call f ⟨args, []⟩) (OutT n s V) s)
    (k : ∀ v h' tk, V v h' → (∀ b o, b ≠ 150 → s.heap.get? b = some o → h'.get? b = some o) → Tab5 n h' → Q v { s with heap := h', toks := tk }) : wpAny M A (call f args) Q E s := by
  refine wpAny_call (codeAny_mono h fun r s' o => ?_)
  obtain ⟨⟨v, rfl, hv⟩, h', tk, rfl, hk, ht⟩ := o
  exact k v h' tk hv hk ht
theorem laid3 {n : Addr} {x : Str} {t u : Tok} {g : Heap} (C : Cx w mg mb g) (k : ∀ b o, g.get? b = some o → s.heap.get? b = some o) (g5 : g.get? 150 = none) (BA : g.BuiltinsAt mg 150) (hn5 : @LE.le Nat _ n s.heap.objs.size) (T5 : Tab5 n s.heap) (r : Rm A 10) (hz : x.length ≤ 400) :
    codeAny (model pw w) A (.call (.ref 160) ⟨[.int 3 u, .str x t], []⟩) (OutT n s fun v _ => ∃ u, v = .str (ofL (laidF 3 (sl x))) u) s := by
  have CB : Cx w mg mb (hideAll s.heap [150]) := C.hide k (by intro b hb; rw [List.mem_singleton.mp hb]; exact g5)
  refine call_fn_ret (name := Str.ofString "_law_laid") (qual := Str.ofString "_law_laid") (params := fP (st 14)) (body := fB (st 14)) (scope := fS (st 14)) (binds := [(Str.ofString "hand", .int 3 u), (Str.ofString "text", .str x t)]) [150] r.room (k _ _ (C.X 160 _ rfl)) rfl (C.T.nolimit.keeps k) (codeRec_of (C.X.keeps k) (by kernel_rfl)) (by rfl) rfl (locs rfl) (fun h₁ F hk => ?_) rfl rfl rfl (by decide +kernel)
  have N : News (hideAll s.heap [150]) s.heap.objs.size h₁ [] := News.nil
  have hh : A.handled = none := r.hh
  have X := CB.X
  have T := CB.T
  change wpAny _ _ (execs [_, _, _, _, _] _) _ _ _
  repeat ((fail_if_success (with_reducible show wpAny _ _ (call (.ref _) _) _ _ _)); first | walk1 | (dsimp only; walk1))
  have kg : ∀ b o, g.get? b = some o → h₁.get? b = some o := fun b o e => hk b o (k b o e)
  refine wpAny_call (codeAny_mono (word_c C (g := g) kg g5 ⟨hh, by have := r.hd; show A.depth + 1 + 8 ≤ 900; omega, by have := r.hu; show A.units + 3 + 3 * 8 ≤ 900; omega⟩ (Nat.le_trans hn5 (Nat.le_of_lt F.ns.lt)) (T5.ext hk) BA hz) ?_)
  rintro r' s' ⟨h', tk', u', rfl, rfl, k', t'⟩
  dsimp only
  exact ⟨⟨_, rfl, _, by rw [outer_laid]⟩, _, _, rfl, fun b o hb e => k' b o hb (hk b o e), t'⟩
theorem laidA {n : Addr} {k : Nat} {x : Str} {t u : Tok} {g : Heap} (hk : k < 5) (C : Cx w mg mb g) (kg : ∀ b o, g.get? b = some o → s.heap.get? b = some o) (g5 : g.get? 150 = none) (BA : g.BuiltinsAt mg 150) (hn5 : @LE.le Nat _ n s.heap.objs.size) (T5 : Tab5 n s.heap) (r : Rm A 10) (hz : x.length ≤ 400)
    (hlow : ∀ c ∈ sl x, Builtin.Str.tooLong (Txt.lower (sg c)).length = false ∧ (foldS c).length ≤ 18) :
    codeAny (model pw w) A (.call (.ref 160) ⟨[.int k u, .str x t], []⟩) (OutT n s fun v _ => ∃ u, v = .str (ofL (laidF k (sl x))) u) s := by
  have C' : Cx w mg mb s.heap := C.keeps kg
  have r' : Rm A 3 := ⟨r.hh, by have := r.hd; omega, by have := r.hu; omega⟩
  have hz' : x.length ≤ 1000 := by omega
  match k, hk with
  | 0, _ => exact codeAny_mono (laid0 C' r' hz') fun _ _ o => o.toT T5
  | 1, _ => exact codeAny_mono (laid1 C' r' hz' (fun c hc => (hlow c hc).1) fun c hc => (hlow c hc).2) fun _ _ o => o.toT T5
  | 2, _ => exact codeAny_mono (laid2 C' r' hz') fun _ _ o => o.toT T5
  | 3, _ => exact laid3 C kg g5 BA hn5 T5 r hz
  | 4, _ => exact codeAny_mono (laid4 C' r' hz') fun _ _ o => o.toT T5
theorem dueA {k : Nat} {a : Addr} {ps : List Pr} {u : Tok} (hk : k < 5) (C : Cx w mg mb s.heap) (r : Rm A 2) (hp : PairsAt s.heap a ps) (hz : ps.length ≤ 1000) (hf : ∀ p ∈ ps, p.2.length ≤ 18) :
    codeAny (model pw w) A (.call (.ref 165) ⟨[.int k u, .ref a], []⟩) (Out s fun v h => ∃ D, v = .ref D ∧ PairsAt h D (dueGo k [] ps) ∧ s.heap.get? D = none) s := by
  match k, hk with
  | 0, _ => exact due0 C r hp hz hf
  | 1, _ => exact due1 C r hp hz hf
  | 2, _ => exact due2 C r hp hz hf
  | 3, _ => exact due3 C r hp hz hf
  | 4, _ => exact due4 C r hp hz hf
end
end Mine
end

section
open PySem PySem.W PySem.Calls PyProof.Rows PyProof.V
set_option Elab.async false
set_option maxRecDepth 100000
set_option maxHeartbeats 4000000
namespace Mine
section
variable {w : World} {A : Around} {s : Shared} {E : Value → Shared → Prop} {env : Env}
/-- «y = [new pair for x in ..]» -/
theorem comp_newA {elt iter : Expr} {x y : Str} {px py : Pos} {scope : Scope} {pos spos : Pos} {Q : Flow → Shared → Prop} (g : Value → Pr)
    (hsw : swapsWith (.ListComp elt [⟨.Name x px, iter, [], 0⟩] scope pos) (some (.Name y py)) spos.line env = pure true)
    (hclos : closureFor scope env = pure []) (hce : ∀ C, compEnvC scope [] C env = compEnv scope C env) (hcell : ∀ y ∈ scope.names, y.2 ≠ .cell) (hkind : scope.kind = .function)
    (hnames : ∀ y ∈ scope.names, y.2 = .local → scope.names.lookup y.1 = some .local) (hx : scope.names.lookup x = some .local)
    (hy : env.kindOf y = some .local) (hp : (env.scope.kind == .class || (env.scope.kind == .module && env.locals != env.globals)) = false)
    (h : wpAny (model pw w) A (eval iter env) (fun xv s₁ => wpAny (model pw w) A (pyIter xv) (fun it s₂ => ∃ I fp wr n P St m, it = .ref I ∧ Walks pw w A I fp wr n P St ∧ n ≤ sizeLine ∧ St 0 s₂.heap ∧ (∀ b ∈ fp, b < s₂.heap.objs.size) ∧ env.locals ∉ wr ∧ s₂.heap.Ns env.locals m ∧
      (∀ C i v s₃ m₃ E', P i v → s₃.heap.Ns C m₃ → m₃ x = some v → (∀ b o, b ∉ wr → s₂.heap.get? b = some o → s₃.heap.get? b = some o) → wpAny (model pw w) A (eval elt (compEnv scope C env)) (fun y s₄ => PairNew (g v) y s₃ s₄) E' s₃) ∧
      (∀ D h' tk (vs : List Value), s₂.heap.get? D = none → PairsAt h' D (vs.map g) → vs.length = n → (∀ j v, vs[j]? = some v → P j v) → h'.Ns env.locals (fun z => if z = y then some (.ref D) else m z) →
        (∀ b o, b ≠ env.locals → b ∉ wr → s₂.heap.get? b = some o → h'.get? b = some o) → Q .next { s₂ with heap := h', toks := tk })) E s₁) E s)
    (hs : ∀ x, foldedSetIterable iter env x = pure x := by intro _; rfl) :
    wpAny (model pw w) A (exec (.Assign [.Name y py] (.ListComp elt [⟨.Name x px, iter, [], 0⟩] scope pos) spos) env) Q E s := by
  rw [exec_Assign_Name_used _ _ _ _ hsw]
  refine wpAny_bind (wpAny_standAt (wpAny_bind ?_))
  show wpAny _ A (do let _ ← comprehension (.ListComp elt [⟨.Name x px, iter, [], 0⟩] scope pos) scope env _ (newList []) false (eval iter env) (some (assign (.Name y py) env))) _ _ s
  refine wpAny_bind (wpAny_mono (wpAny_comprehension_free (use := some (assign (.Name y py) env)) (Q := fun _ s' => Q .next s') rfl hs hclos hkind hnames
    (wpAny_mono h (fun xv s₁ h₁ => wpAny_mono h₁ (fun it s₂ h₂ => ?_) fun _ _ e => e) fun _ _ e => e)) (fun _ s' hq => wpAny_pure (wpAny_pure hq)) fun _ _ e => e)
  obtain ⟨I, fp, wr, n, P, St, m, rfl, W, hsz, hst, hfp, hLf, hn, hq, hQ⟩ := h₂
  refine wpAny_newObj_type (wpAny_newFunctionEnv hcell (by intro y hy; simp at hy) (fun h₁ hns₁ hsb₁ => ?_) hkind)
  dsimp only at hns₁ hsb₁ ⊢
  generalize hH2 : s₂.heap.push { cls := .type "list", dict := none, data := .seq ([] : List Value).toArray } = H2 at hns₁ hsb₁ ⊢
  have hC : H2.objs.size = s₂.heap.objs.size + 1 := by rw [← hH2, Heap.size_push]
  have hDC : s₂.heap.objs.size ≠ H2.objs.size := by rw [hC]; exact Nat.ne_of_lt (Nat.lt_succ_self _)
  have below : ∀ b, b < s₂.heap.objs.size → b ≠ H2.objs.size ∧ b ≠ s₂.heap.objs.size := fun b hb => ⟨by rw [hC]; exact Nat.ne_of_lt (Nat.lt_succ_of_lt hb), Nat.ne_of_lt hb⟩
  have hDf : s₂.heap.objs.size ∉ fp := fun hm => Nat.lt_irrefl _ (hfp _ hm)
  have hCf : H2.objs.size ∉ fp := fun hm => by have := hfp _ hm; rw [hC] at this; exact Nat.lt_irrefl _ (Nat.lt_of_succ_lt this)
  have old : ∀ b o, s₂.heap.get? b = some o → h₁.get? b = some o := fun b o e => hsb₁.extBut b o (below b (Heap.lt_size e)).1 (Heap.get?_push_of_some _ (hH2 ▸ Heap.get?_push_of_some _ e))
  have hacc : h₁.PlainList s₂.heap.objs.size #[] := ⟨_, hsb₁.extBut _ _ hDC (Heap.get?_push_of_some _ (hH2 ▸ Heap.get?_push_size _ rfl))⟩
  have hst₁ : St 0 h₁ := W.frame _ _ _ hst fun b _ o e => old b o e
  have fresh : ∀ a, s₂.heap.objs.size ≤ a → s₂.heap.get? a = none := fun a ha => by
    cases e : s₂.heap.get? a with
    | none => rfl
    | some o' => exact absurd (Heap.lt_size e) (Nat.not_lt.mpr ha)
  have hLlt : env.locals < s₂.heap.objs.size := hn.lt
  have loop : ∀ s₃ : Shared, s₃ = { s₂ with heap := h₁, toks := s₂.toks + ([] : List (Str × Value)).length } →
      codeAny (model pw w) A (.compLoop (.ListComp elt [⟨.Name x px, iter, [], 0⟩] scope pos) 0 (.ref I) (.ref s₂.heap.objs.size) (compEnvC scope [] H2.objs.size env))
        (compPost (model pw w) A E (some (assign (.Name y py) env)) (fun _ s' => Q .next s') (.ref s₂.heap.objs.size) H2.objs.size) s₃ := by
    rintro s₃ rfl
    rw [hce]
    refine loop_new (cenv := compEnv scope H2.objs.size env) W g hx (by simp [compEnv, hkind]) hDC hDf hCf (fun b hb => by show b < H2.objs.size; rw [hC]; exact Nat.lt_succ_of_lt (hfp b hb)) (by show s₂.heap.objs.size < H2.objs.size; rw [hC]; exact Nat.lt_succ_self _) hst₁ hacc hns₁
      (fun i v s₃ m₃ hv hn hm hk => hq _ i v s₃ m₃ _ hv hn hm (fun b o hbf e => hk b o (below b (Heap.lt_size e)).1 hbf (below b (Heap.lt_size e)).2 (old b o e))) (fun h' tk m' ys vs hnC ha hlen hP hF hk => ?_) hsz
    have hkk : ∀ b o, b ∉ wr → s₂.heap.get? b = some o → h'.get? b = some o := fun b o hbf e => hk b o (below b (Heap.lt_size e)).1 hbf (below b (Heap.lt_size e)).2 (old b o e)
    show wpAny _ A (assign (.Name y py) env (.ref s₂.heap.objs.size)) _ _ _
    refine wpAny_assign_Name (wpAny_storeName_local hy (hn.at' fun o e => hkk _ o hLf e) (fun h₂ hn₂ hs₂ => ?_) hp)
    have hLC : env.locals ≠ H2.objs.size := (below _ hLlt).1
    refine ⟨m', hnC.sameBut hs₂ (Ne.symm hLC), fun h₃ hs₃ => ?_⟩
    refine hQ _ h₃ _ vs (fresh _ (Nat.le_refl _)) ⟨ys, (ha.extBut hs₂.extBut (Ne.symm (below _ hLlt).2)).extBut hs₃.extBut hDC, hF.mono fun _ _ q => (q.ext fun b o hb e => ?_).at⟩ hlen hP (hn₂.sameBut hs₃ hLC) fun b o hbL hbf e => ?_
    · exact hs₃.extBut b o (below b (Heap.lt_size e)).1 (hs₂.extBut b o hbL (hkk b o hbf e))
    · have hb' : H2.objs.size < b := hb
      refine hs₃.extBut b o (Ne.symm (Nat.ne_of_lt hb')) (hs₂.extBut b o ?_ e)
      rintro rfl
      rw [hC] at hb'
      exact absurd hLlt (Nat.not_lt.mpr (Nat.le_of_lt (Nat.lt_of_succ_lt hb')))
  exact codeAny_compStart_list (loop _ rfl) (W.self 0 _ _ _ hst₁ (loop _ rfl))
end
end Mine
end

section
open PySem PySem.W PySem.Calls PyProof.Rows PyProof.V
set_option Elab.async false
set_option maxRecDepth 100000
set_option maxHeartbeats 4000000
namespace Mine
noncomputable abbrev envL (L : Addr) : Env := envOfC (Str.ofString "law") (fS (st 16)) L 170 (.ref 169)
noncomputable def hndS : Stmt := match fB (st 16) with
  | [_, h, _, _, _, _, _, _] => h
  | _ => noSt
noncomputable abbrev lcells (L : Addr) : List (Str × Addr) := [(Str.ofString "row", L + 1)]
theorem five_ok : ∀ i : Nat, i < 12 → ((5 : Int) ^ i).natAbs < 1073741824 ∧ (5 : Int) ^ i ≠ 0 := by decide
theorem paired_right {α β : Type} {F : α → β → Prop} : ∀ {l : List α} {k : List β}, Paired F l k → ∀ b ∈ k, ∃ a, F a b
  | _, _, .nil, _, h => nomatch h
  | _, _, .cons (a := a) h t, b, hb => by
    rcases List.mem_cons.mp hb with rfl | hb
    · exact ⟨a, h⟩
    · exact paired_right t b hb
section
variable {w : World} {A : Around} {s : Shared} {mg mb : Str → Option Value} {E : Value → Shared → Prop}
theorem hands_c {B : Heap} {L : Addr} {oc o5 : Obj} {row : Int} {tr : Tok} {m : Str → Option Value} {Q : Flow → Shared → Prop} (hh : A.handled = none) (CB : Cx w mg mb B) (F : Fr B L s.heap m) (N : News B L s.heap [(L + 1, oc), (150, o5)]) (hoc : oc.data = .cell (some (.int row tr)))
    (hQ : ∀ h' tk D (vs : List Value) nn, Fr B L h' (fun y => if y = Str.ofString "hands" then some (.ref D) else m y) → News B L h' [(D, W.listOf vs.toArray nn), (L + 1, oc), (150, o5)] → vs.length = 12 → (∀ v ∈ vs, ∃ (k : Nat) (u : Tok), k < 5 ∧ v = .int k u) → Q .next { s with heap := h', toks := tk }) :
    wpAny (model pw w) A (exec hndS (envL L)) Q E s := by
  have X := CB.X
  have T := CB.T
  change wpAny _ _ (exec (.Assign [.Name _ _] (.ListComp _ [⟨.Name _ _, _, [], 0⟩] _ _) _) _) _ _ _
  refine wpAny_Assign_ListComp_free (cl := lcells L) (fun _ => true) (fun _ y => ∃ (k : Nat) (u : Tok), k < 5 ∧ y = .int k u) (by rfl) (by rfl) (by decide +kernel) (by rfl) (by decide +kernel) (by rfl) (by rfl) (by rfl) ?_ (by intro _; rfl)
  repeat ((fail_if_success (with_reducible show wpAny _ _ (pyIter _) _ _ _)); first | walk1 | (dsimp only; walk1))
  rename_i h₁ tk₁ t₁ u₁ v₁ hR F₁ N₁ hk₁
  refine wpAny_pyIter_range hR (by decide +kernel) ?_
  rw [show Builtin.Range.rangeSize 0 12 1 = 12 from by decide +kernel]
  have up : ∀ (o : Obj) (h : Heap) b o', h.get? b = some o' → (h.push o).get? b = some o' := fun o h b o' e => Heap.get?_push_of_some o e
  have hL1 := F₁.ns.lt
  refine ⟨_, [_], [_], 12, _, _, m, rfl, (Walks.range hh _ 0 1 12).bound, by decide +kernel, Heap.get?_push_size _ rfl, ?_, ?_, (F₁.push _).ns, ⟨?_, ?_⟩, ?_⟩
  · intro b hb
    rw [List.mem_singleton.mp hb]
    dsimp only
    rw [Heap.size_push]; exact Nat.lt_succ_self _
  · intro q
    exact absurd (List.mem_singleton.mp q) (Nat.ne_of_lt hL1)
  · intro C i v s₃ m₃ E' hC hv hn hm hk htk
    exact no_test ⟨rfl, Keeps.rfl'⟩
  · intro C i v s₃ m₃ E' hC hv _ hn hm hk htk
    obtain ⟨hi, t, rfl⟩ := hv
    have n1 := N₁ _ (.head _)
    have hcell : s₃.heap.get? (L + 1) = some oc := by
      refine hk _ _ ?_ (up _ _ _ _ n1.1)
      simpa using Nat.ne_of_lt (Heap.lt_size n1.1)
    have hm' : m₃ (Str.ofString "place") = some (.int i t) := by rw [hm]; simp
    have f5 := five_ok i hi
    repeat ((fail_if_success (with_reducible show And _ _)); first
      | ((with_reducible show wpAny _ _ (eval (Expr.Name _ _) (compEnvC _ _ _ _)) _ _ _); (first
        | (refine wpAny_Name (wpAny_loadName_cell (c := L + 1) (by rfl) (by rfl) (by rfl) ⟨oc, hcell, hoc⟩ ?_) (by decide +kernel))
        | (refine wpAny_Name (wpAny_loadName_local (by rfl) (by rfl) hn hm' ?_) (by decide +kernel))))
      | ((with_reducible show wpAny _ _ (binaryOp Operator.Pow _ _) _ _ _); (refine pow_int_small (Int.natCast_nonneg i) (by omega) (by decide) ?_); rw [Int.toNat_natCast])
      | ((with_reducible show wpAny _ _ (binaryOp Operator.FloorDiv _ _) _ _ _); (refine floordiv_int f5.2 ?_ (.inl (noPylong_small f5.1))))
      | ((with_reducible show wpAny _ _ (binaryOp Operator.Mod _ _) _ _ _); (refine mod_int' (by decide) ?_))
      | walk1)
    have h0 : 0 ≤ Int.fmod (Int.fdiv row (5 ^ i)) 5 := Int.fmod_nonneg_of_pos _ (by decide)
    have h1 := Int.fmod_lt_of_pos (Int.fdiv row (5 ^ i)) (b := 5) (by decide)
    obtain ⟨kv, hkv, ekv⟩ : ∃ kv : Nat, kv < 5 ∧ Int.fmod (Int.fdiv row (5 ^ i)) 5 = kv := ⟨_, by omega, (Int.toNat_of_nonneg h0).symm⟩
    rw [ekv]
    exact ⟨⟨kv, _, hkv, rfl⟩, s₃.heap, _, rfl, fun _ _ e => e⟩
  · intro D h' tk ys vs hD hl hpl hlen hP hF hns hk
    obtain ⟨nn, hpl⟩ := hpl
    have n1 := N₁ _ (.head _)
    have n2 := N₁ _ (.tail _ (.head _))
    have hlt1 := Heap.lt_size n1.1
    have hlt2 := Heap.lt_size n2.1
    have kk : ∀ b o, b ≠ L → h₁.get? b = some o → h'.get? b = some o := fun b o hb e => hk b o hb (fun q => absurd (List.mem_singleton.mp q) (Nat.ne_of_lt (Heap.lt_size e))) (up _ _ _ _ e)
    have hD' : ∀ o, h₁.get? D = some o → False := fun o e => by
      have := up { cls := Value.type "range_iterator", data := Data.fields #[rawInt 0, rawInt 12, rawInt 1] } _ _ _ e
      rw [hD] at this
      cases this
    have hDL : D ≠ L := by
      rintro rfl
      obtain ⟨o, _, _, e, _⟩ := F₁.ns
      exact hD' o e
    have hlen' : vs.length = ys.toList.length := by
      have := hF.length
      rwa [List.filter_eq_self.mpr fun _ _ => rfl] at this
    refine hQ h' tk D ys.toList nn ⟨hns, fun b o e => kk b o ?_ (F₁.keep b o e), F₁.above⟩ (List.forall_mem_cons.mpr ⟨⟨?_, hDL, ?_⟩, List.forall_mem_cons.mpr ⟨⟨kk _ _ n1.2.1 n1.1, n1.2⟩, List.forall_mem_cons.mpr ⟨⟨kk _ _ n2.2.1 n2.1, n2.2⟩, List.forall_mem_nil _⟩⟩⟩) (hlen'.symm.trans hlen) ?_
    · rintro rfl
      exact absurd (Heap.lt_size e) (Nat.not_lt.mpr F₁.above)
    · rw [Array.toArray_toList]; exact hpl
    · cases q : B.get? D with
      | none => rfl
      | some o => exact (hD' o (F₁.keep _ _ q)).elim
    · intro v hv
      obtain ⟨_, h⟩ := paired_right hF v hv
      exact h
end
end Mine
end

section
open PySem PySem.W PySem.Calls PyProof.Rows PyProof.V
namespace Mine
local macro_rules | `(tactic| walk_at "eval Name") => `(tactic| (refine' nameX_L ?F ?v ?_ ?a ?b; (case F => assumption); (case a => rfl); (case b => rfl); (case v => first | exact rfl | ((repeat (refine (if_neg (by decide +kernel)).trans ?_)); first | assumption | exact rfl | exact if_pos rfl))))
section
open PySem PySem.W PySem.Calls PyProof.Rows PyProof.V
set_option Elab.async false
set_option maxRecDepth 100000
set_option maxHeartbeats 4000000
noncomputable def prsS : Stmt := match fB (st 16) with
  | [_, _, h, _, _, _, _, _] => h
  | _ => noSt
noncomputable def gDrawn : Value → Pr
  | .int n _ => (sl (drawnS n).1, sl (drawnS n).2)
  | _ => ([], [])
theorem ints_mem {vs : List Value} {ns : List Int} (h : IntsAre vs ns) : ∀ v ∈ vs, ∃ n t, v = .int n t := by
  induction h with
  | nil => intro v hv; cases hv
  | cons _ _ _ ih =>
    intro v hv
    rcases List.mem_cons.mp hv with rfl | hv
    · exact ⟨_, _, rfl⟩
    · exact ih v hv
section
variable {w : World} {A : Around} {s : Shared} {mg mb : Str → Option Value} {E : Value → Shared → Prop}
noncomputable def prsElt : Expr := match prsS with
  | .Assign _ (.ListComp e _ _ _) _ => e
  | _ => .Constant .none 0 ⟨0, 0, 0, 0⟩
noncomputable def prsScope : Scope := match prsS with
  | .Assign _ (.ListComp _ _ s _) _ => s
  | _ => default
theorem pairs_tail {B : Heap} {L l hD : Addr} {hO oc o5 : Obj} {m : Str → Option Value} {us : List Value} {nn : Nat} {Q : Flow → Shared → Prop} (r : Rm A 3) (CB : Cx w mg mb B) (F : Fr B L s.heap m) (N : News B L s.heap [(l, W.listOf us.toArray nn), (hD, hO), (L + 1, oc), (150, o5)])
    (hi : ∀ v ∈ us, ∃ n t, v = Value.int n t) (hz : us.length ≤ 10)
    (hQ : ∀ h' tk D ps, Fr B L h' (fun y => if y = Str.ofString "pairs" then some (.ref D) else m y) → News B L h' [(hD, hO), (L + 1, oc), (150, o5)] → PairsAt h' D ps → (∀ p ∈ ps, GoodP p) → (∀ p ∈ ps, LowP p) → ps.length ≤ 10 → Q .next { s with heap := h', toks := tk }) :
    wpAny (model pw w) A (pyIter (.ref l)) (fun it s₂ => ∃ I fp wr n P St m, it = .ref I ∧ Walks pw w A I fp wr n P St ∧ n ≤ sizeLine ∧ St 0 s₂.heap ∧ (∀ b ∈ fp, b < s₂.heap.objs.size) ∧ (envL L).locals ∉ wr ∧ s₂.heap.Ns (envL L).locals m ∧
      (∀ C i v s₃ m₃ E', P i v → s₃.heap.Ns C m₃ → m₃ (Str.ofString "number") = some v → (∀ b o, b ∉ wr → s₂.heap.get? b = some o → s₃.heap.get? b = some o) → wpAny (model pw w) A (eval prsElt (compEnv prsScope C (envL L))) (fun y s₄ => PairNew (gDrawn v) y s₃ s₄) E' s₃) ∧
      (∀ D h' tk (vs : List Value), s₂.heap.get? D = none → PairsAt h' D (vs.map gDrawn) → vs.length = n → (∀ j v, vs[j]? = some v → P j v) → h'.Ns (envL L).locals (fun z => if z = Str.ofString "pairs" then some (.ref D) else m z) →
        (∀ b o, b ≠ (envL L).locals → b ∉ wr → s₂.heap.get? b = some o → h'.get? b = some o) → Q .next { s₂ with heap := h', toks := tk })) E s := by
  have hh : A.handled = none := r.hh
  have n0 := N _ (.head _)
  have hlt := Heap.lt_size n0.1
  have hll : s.heap.IsList l us.toArray := ⟨_, n0.1, rfl, _, rfl⟩
  refine wpAny_pyIter_list hll ?_
  have up : ∀ b o', s.heap.get? b = some o' → (s.heap.push { cls := .type "list_iterator", data := .fields #[.ref l, .int 0 0] }).get? b = some o' := fun b o' e => Heap.get?_push_of_some _ e
  refine ⟨s.heap.objs.size, _, [s.heap.objs.size], us.toArray.size, _, _, m, rfl, Walks.list hh s.heap.objs.size l (Nat.ne_of_lt hlt) us.toArray, ?_, ⟨⟨_, Heap.get?_push_size _ rfl, rfl, rfl⟩, hll.push _⟩, ?_, ?_, (F.push _).ns, ?_, ?_⟩
  · rw [List.size_toArray, sizeLine_eq]; omega
  · intro b hb
    dsimp only
    rw [Heap.size_push]
    rcases List.mem_cons.mp hb with rfl | hb
    · exact Nat.lt_succ_self _
    · rw [List.mem_singleton.mp hb]; exact Nat.lt_succ_of_lt hlt
  · intro q
    exact absurd (List.mem_singleton.mp q) (Nat.ne_of_lt F.ns.lt)
  · intro C i v s₃ m₃ E' hP hn hm hk
    have hv : v ∈ us := by
      have : us.toArray[i]? = some v := hP
      exact List.mem_of_getElem? (by simpa using this)
    obtain ⟨n, t, rfl⟩ := hi v hv
    have C3 : Cx w mg mb s₃.heap := CB.keeps fun b o e => hk b o (fun q => absurd (List.mem_singleton.mp q) (Nat.ne_of_lt (Heap.lt_size (F.keep b o e)))) (up b o (F.keep b o e))
    obtain ⟨o8, fd8, ho8, hd8⟩ : ∃ o fd, s₃.heap.get? 148 = some o ∧ o.data = .func fd := ⟨_, _, C3.X 148 _ rfl, rfl⟩
    change wpAny _ _ (eval (.Call _ _ _ _) _) _ _ _
    repeat ((fail_if_success (with_reducible show And _ _)); first
      | ((with_reducible show wpAny _ _ (callWith _ (Value.ref 148) _ _ _) _ _ _); (refine callWith_def hd8 ?_))
      | ((with_reducible show wpAny _ _ (eval (Expr.Name _ _) (compEnv _ _ _)) _ _ _); (first | (refine' nm_loc hn hm ?_) | (refine' nm_glob C3 ?e ?_; (case e => k_is))))
      | walk1)
    refine ⟨ho8, ?_⟩
    refine use_out (tdrawn C3 ⟨hh, by have := r.hd; omega, by have := r.hu; omega⟩) ?_
    rintro v h' tk ⟨b, t1, t2, rfl, hb, hbl⟩ hk'
    exact ⟨b, t1, t2, rfl, hb, by rw [show (gDrawn (.int n t)).1 = sl (drawnS n).1 from rfl, show (gDrawn (.int n t)).2 = sl (drawnS n).2 from rfl, ofL_sl, ofL_sl]; exact hbl, h', tk, rfl, hk'⟩
  · intro D h' tk vs hD hP hlen hPv hns hk
    have kk : ∀ b o, b ≠ L → s.heap.get? b = some o → h'.get? b = some o := fun b o hb e => hk b o hb (fun q => absurd (List.mem_singleton.mp q) (Nat.ne_of_lt (Heap.lt_size e))) (up _ _ e)
    have n1 := N _ (.tail _ (.head _))
    have n2 := N _ (.tail _ (.tail _ (.head _)))
    have n3 := N _ (.tail _ (.tail _ (.tail _ (.head _))))
    have hvs : ∀ p ∈ vs.map gDrawn, ∃ n, p = (sl (drawnS n).1, sl (drawnS n).2) := by
      intro p hp
      obtain ⟨v, hv, rfl⟩ := List.mem_map.mp hp
      obtain ⟨j, hj⟩ := List.getElem?_of_mem hv
      have : us.toArray[j]? = some v := hPv j v hj
      obtain ⟨n, t, rfl⟩ := hi v (List.mem_of_getElem? (by simpa using this))
      exact ⟨n, rfl⟩
    refine hQ h' tk D (vs.map gDrawn) ⟨hns, fun b o e => kk b o (by rintro rfl; exact absurd (Heap.lt_size e) (Nat.not_lt.mpr F.above)) (F.keep b o e), F.above⟩
      (List.forall_mem_cons.mpr ⟨⟨kk _ _ n1.2.1 n1.1, n1.2⟩, List.forall_mem_cons.mpr ⟨⟨kk _ _ n2.2.1 n2.1, n2.2⟩, List.forall_mem_cons.mpr ⟨⟨kk _ _ n3.2.1 n3.1, n3.2⟩, List.forall_mem_nil _⟩⟩⟩) hP (fun p hp => ?_) (fun p hp => ?_) ?_
    · obtain ⟨n, rfl⟩ := hvs p hp; exact good_drawn n
    · obtain ⟨n, rfl⟩ := hvs p hp; exact low_drawn n
    · rw [List.length_map, hlen, List.size_toArray]; exact hz
theorem pairs_c {B : Heap} {L a hD : Addr} {hO oc o5 : Obj} {m : Str → Option Value} {vs : List Value} {ns : List Int} {Q : Flow → Shared → Prop} (r : Rm A 3) (CB : Cx w mg mb B) (F : Fr B L s.heap m) (N : News B L s.heap [(hD, hO), (L + 1, oc), (150, o5)])
    (hl : B.IsList a vs.toArray) (hi : IntsAre vs ns) (hz : ns.length ≤ 63) (ha : m (Str.ofString "script") = some (.ref a))
    (hQ : ∀ h' tk D ps, Fr B L h' (fun y => if y = Str.ofString "pairs" then some (.ref D) else m y) → News B L h' [(hD, hO), (L + 1, oc), (150, o5)] → PairsAt h' D ps → (∀ p ∈ ps, GoodP p) → (∀ p ∈ ps, LowP p) → ps.length ≤ 10 → Q .next { s with heap := h', toks := tk }) :
    wpAny (model pw w) A (exec prsS (envL L)) Q E s := by
  have hh : A.handled = none := r.hh
  have X := CB.X
  have T := CB.T
  change wpAny _ _ (exec (.Assign [.Name _ _] (.ListComp _ [⟨.Name _ _, _, [], 0⟩] _ _) _) _) _ _ _
  refine comp_newA gDrawn (by rfl) (by rfl) (fun C => by rfl) (by decide +kernel) (by rfl) (by decide +kernel) (by rfl) (by rfl) (by rfl) ?_ (by intro _; rfl)
  repeat' ((fail_if_success (with_reducible show wpAny _ _ (pyIter _) _ _ _)); first | walk1 | (dsimp only; walk1))
  · rename_i F₁ N₁ hI hC hL l1
    have hlen := hI.length
    exact pairs_tail r CB F₁ N₁ (ints_mem hI) (by omega) hQ
  · rename_i F₁ N₁ l1
    exact pairs_tail (us := [_, _, _, _, _, _, _, _, _, _]) r CB F₁ N₁ (by simp) (Nat.le_of_ble_eq_true rfl) hQ
end
end

section
open PySem PySem.W PySem.Calls PyProof.Rows PyProof.V
set_option Elab.async false
set_option maxRecDepth 100000
set_option maxHeartbeats 4000000
/-- an object that stays: of the ledger or of the base -/
noncomputable def Held (B : Heap) (pn : List (Addr × Obj)) (b : Addr) (o : Obj) : Prop := (b, o) ∈ pn ∨ B.get? b = some o
noncomputable abbrev PairH (B : Heap) (pn : List (Addr × Obj)) (p : Pr) (v : Value) : Prop := ∃ b ob t u nn, v = .ref b ∧ Held B pn b ob ∧ ob.cls = .type "list" ∧ ob.data = .seq #[.str (ofL p.1) t, .str (ofL p.2) u] nn
noncomputable def PairsN (B : Heap) (pn : List (Addr × Obj)) (D : Addr) (ps : List Pr) : Prop := ∃ (o : Obj) (items : Array Value) (n : Nat), Held B pn D o ∧ o.cls = .type "list" ∧ o.data = .seq items n ∧ Paired (PairH B pn) ps items.toList
theorem Held.at {B h : Heap} {L : Addr} {m : Str → Option Value} {pn : List (Addr × Obj)} {b : Addr} {o : Obj} (x : Held B pn b o) (F : Fr B L h m) (N : News B L h pn) : h.get? b = some o := by
  rcases x with x | x
  · exact (N _ x).1
  · exact F.keep _ _ x
theorem Held.mono {B : Heap} {pn pn' : List (Addr × Obj)} {b : Addr} {o : Obj} (x : Held B pn b o) (k : ∀ p ∈ pn, p ∈ pn') : Held B pn' b o := x.imp (k _) id
theorem PairsN.at {B h : Heap} {L : Addr} {m : Str → Option Value} {pn : List (Addr × Obj)} {D : Addr} {ps : List Pr} (x : PairsN B pn D ps) (F : Fr B L h m) (N : News B L h pn) : PairsAt h D ps := by
  obtain ⟨o, items, n, hD, hc, hd, hp⟩ := x
  refine ⟨items, ⟨o, hD.at F N, hc, n, hd⟩, hp.mono fun p v q => ?_⟩
  obtain ⟨b, ob, t, u, nn, e, hb, hbc, hbd⟩ := q
  exact ⟨b, t, u, e, ⟨ob, hb.at F N, hbc, nn, hbd⟩⟩
theorem PairsN.mono {B : Heap} {pn pn' : List (Addr × Obj)} {D : Addr} {ps : List Pr} (x : PairsN B pn D ps) (k : ∀ p ∈ pn, p ∈ pn') : PairsN B pn' D ps := by
  obtain ⟨o, items, n, hD, hc, hd, hp⟩ := x
  refine ⟨o, items, n, hD.mono k, hc, hd, hp.mono fun p v q => ?_⟩
  obtain ⟨b, ob, t, u, nn, e, hb, r⟩ := q
  exact ⟨b, ob, t, u, nn, e, hb.mono k, r⟩
/-- what a list of pairs stands on -/
noncomputable def OfPairs (h : Heap) (D : Addr) (p : Addr × Obj) : Prop := p.1 = D ∨ ∃ x y t u, h.IsList p.1 #[.str x t, .str y u]
theorem held_list {B h : Heap} {L : Addr} {m : Str → Option Value} {b : Addr} {xs : Array Value} (F : Fr B L h m) (hl : h.IsList b xs) : ∃ pn o n, News B L h pn ∧ Held B pn b o ∧ o.cls = .type "list" ∧ o.data = .seq xs n ∧ ∀ p ∈ pn, p.1 = b := by
  obtain ⟨o, ho, hc, n, hd⟩ := id hl
  cases q : B.get? b with
  | none =>
    refine ⟨[(b, o)], o, n, List.forall_mem_cons.mpr ⟨⟨ho, list_ne_ns hl F.ns, q⟩, List.forall_mem_nil _⟩, .inl (.head _), hc, hd, fun p hp => by rw [List.mem_singleton.mp hp]⟩
  | some o' =>
    have e := F.keep _ _ q
    rw [ho] at e
    cases e
    exact ⟨[], o, n, List.forall_mem_nil _, .inr q, hc, hd, fun p hp => nomatch hp⟩
theorem held_pairs {B h : Heap} {L D : Addr} {m : Str → Option Value} (F : Fr B L h m) : ∀ {ps : List Pr} {vs : List Value}, Paired (PairAt h) ps vs → ∃ pn, News B L h pn ∧ Paired (PairH B pn) ps vs ∧ ∀ p ∈ pn, OfPairs h D p
  | _, _, .nil => ⟨[], List.forall_mem_nil _, .nil, fun p hp => nomatch hp⟩
  | _, _, .cons hx ht => by
    obtain ⟨b, t, u, rfl, hb⟩ := hx
    obtain ⟨pn₁, o, n, N₁, H₁, hc, hd, e₁⟩ := held_list F hb
    obtain ⟨pn₂, N₂, P₂, e₂⟩ := held_pairs (D := D) F ht
    refine ⟨pn₁ ++ pn₂, fun p hp => (List.mem_append.mp hp).elim (N₁ p) (N₂ p), .cons ⟨b, o, t, u, n, rfl, H₁.mono fun p hp => List.mem_append_left _ hp, hc, hd⟩ (P₂.mono fun p v q => ?_), fun p hp => ?_⟩
    · obtain ⟨b', ob, t', u', nn, e, hb', r⟩ := q
      exact ⟨b', ob, t', u', nn, e, hb'.mono fun p hp => List.mem_append_right _ hp, r⟩
    · rcases List.mem_append.mp hp with hp | hp
      · right
        rw [e₁ p hp]
        exact ⟨_, _, t, u, hb⟩
      · exact e₂ p hp
theorem pairsN_of {B h : Heap} {L D : Addr} {m : Str → Option Value} {ps : List Pr} (F : Fr B L h m) (P : PairsAt h D ps) : ∃ pn, News B L h pn ∧ PairsN B pn D ps ∧ ∀ p ∈ pn, OfPairs h D p := by
  obtain ⟨items, hl, hp⟩ := P
  obtain ⟨pn₁, o, n, N₁, H₁, hc, hd, e₁⟩ := held_list F hl
  obtain ⟨pn₂, N₂, P₂, e₂⟩ := held_pairs (D := D) F hp
  refine ⟨pn₁ ++ pn₂, fun p hp => (List.mem_append.mp hp).elim (N₁ p) (N₂ p), ⟨o, items, n, H₁.mono fun p hp => List.mem_append_left _ hp, hc, hd, P₂.mono fun p v q => ?_⟩, fun p hp => ?_⟩
  · obtain ⟨b', ob, t', u', nn, e, hb', r⟩ := q
    exact ⟨b', ob, t', u', nn, e, hb'.mono fun p hp => List.mem_append_right _ hp, r⟩
  · rcases List.mem_append.mp hp with hp | hp
    · exact .inl (e₁ p hp)
    · exact e₂ p hp
theorem News.app {B h : Heap} {L : Addr} {a b : List (Addr × Obj)} (x : News B L h a) (y : News B L h b) : News B L h (a ++ b) := fun p hp => (List.mem_append.mp hp).elim (x p) (y p)
end

section
open PySem PySem.W PySem.Calls PyProof.Rows PyProof.V
set_option Elab.async false
set_option maxRecDepth 100000
set_option maxHeartbeats 4000000
noncomputable def heldS : Stmt := match fB (st 16) with
  | [_, _, _, h, _, _, _, _] => h
  | _ => noSt
noncomputable def ifS : Stmt := match fB (st 16) with
  | [_, _, _, _, h, _, _, _] => h
  | _ => noSt
noncomputable abbrev bls (f : Pr → Bool) (ps : List Pr) : List Value := ps.map fun q => Value.bool (f q)
theorem paired_bool {f : Pr → Bool} : ∀ {ps : List Pr} {k : List Value}, Paired (fun q z => z = Value.bool (f q)) ps k → k = bls f ps
  | _, _, .nil => rfl
  | _, _, .cons h t => by rw [h, paired_bool t]; rfl
theorem ofL_one (c : Nat) : ofL [c] = sg c := rfl
section
variable {w : World} {A : Around} {s : Shared} {mg mb : Str → Option Value} {E : Value → Shared → Prop}
theorem add_lists {l b : Addr} {xs ys : List Value} {Q : Value → Shared → Prop} (hl : s.heap.IsList l xs.toArray) (hb : s.heap.IsList b ys.toArray) (hz : xs.length + ys.length ≤ sizeLine)
    (h : ∀ D h', s.heap.get? D = none → h'.IsList D (xs ++ ys).toArray → (∀ b o, s.heap.get? b = some o → h'.get? b = some o) → Q (.ref D) { s with heap := h' }) :
    wpAny (model pw w) A (binaryOp .Add (.ref l) (.ref b)) Q E s := by
  obtain ⟨⟨cls, dd, data, sl⟩, ho, hc, n, hd⟩ := id hl
  obtain ⟨⟨cls2, dd2, data2, sl2⟩, ho2, hc2, n2, hd2⟩ := id hb
  simp only at hc hd hc2 hd2
  subst hc hd hc2 hd2
  refine concat_meets ⟨_, ho, rfl⟩ ⟨_, ho2, rfl⟩ noFill_list_add seq_list_add PySem.F.slot_list_add PySem.F.entry_list_add (PySem.F.args_list_add_2 _ _) (list_addW l b _ _ n n2 dd dd2 sl sl2 (by simp at *; omega)) ⟨ho, ho2, ?_⟩
  exact h _ _ push_none ⟨_, Heap.get?_push_size _ rfl, rfl, 0, by simp⟩ fun b o e => Heap.get?_push_of_some _ e
theorem ne_same {D D' : Addr} {xs : List Value} {Q : Value → Shared → Prop} (l1 : s.heap.IsList D xs.toArray) (l2 : s.heap.IsList D' xs.toArray) (hu : A.units < cLine) (h : Q (.bool false) s) : wpAny (model pw w) A (compareOp .NotEq (.ref D) (.ref D')) Q E s := by
  refine SeqAt.RcNeAt.lists (A := A) (e := fun _ => true) l1 l2 rfl hu (fun j h1 h2 => SeqAt.EqAt.same _) pw w E Q ?_
  rw [show (List.range xs.toArray.size).all (fun _ => true) = true from List.all_eq_true.mpr fun _ _ => rfl]
  exact h
theorem held_c {B : Heap} {L D : Addr} {m : Str → Option Value} {ps : List Pr} {Q : Flow → Shared → Prop} (r : Rm A 3) (CB : Cx w mg mb B) (F : Fr B L s.heap m) (hD : m (Str.ofString "pairs") = some (.ref D)) (P : PairsAt s.heap D ps) (hg : ∀ p ∈ ps, GoodP p) (hz : ps.length ≤ 1000)
    (hQ : ∀ h' tk H, Fr B L h' (fun y => if y = Str.ofString "held" then some (.ref H) else m y) → (∀ b o, b ≠ L → s.heap.get? b = some o → h'.get? b = some o) → s.heap.get? H = none → h'.IsList H (bls (fun q => decide (q.2 = [])) ps ++ bls (fun q => decide (q.1 = [32])) ps).toArray → Q .next { s with heap := h', toks := tk }) :
    wpAny (model pw w) A (exec heldS (envL L)) Q E s := by
  have hh : A.handled = none := r.hh
  have X := CB.X
  have T := CB.T
  have N : News B L s.heap [] := News.nil
  change wpAny _ _ (exec (.Assign [.Name _ _] (.BinOp _ _ _ _) _) _) _ _ _
  repeat ((fail_if_success (with_reducible show wpAny _ _ (eval (Expr.ListComp _ _ _ _) _) _ _ _)); first | walk1 | (dsimp only; walk1))
  refine comp_pairs (fun _ => true) (fun q z => z = .bool (decide (q.2 = []))) hh (by decide +kernel) (by decide +kernel) (by rfl) (by decide +kernel) (by rfl) (by rfl) (by decide +kernel) hz P (fun Q q => nameX_L F hD q (by rfl) (by rfl)) ?_ ?_ ?_
  · intro C q t u s₃ m₃ E' hq hn hx hy hk
    exact no_test ⟨rfl, Keeps.rfl'⟩
  · intro C q t u s₃ m₃ E' hq _ hn hx hy hk
    have C3 : Cx w mg mb s₃.heap := CB.keeps fun b o e => hk b o (F.keep b o e)
    obtain ⟨c, hc, hb, _⟩ := (hg q hq).one
    rw [hc] at hx
    obtain ⟨o8, fd8, ho8, hd8⟩ : ∃ o fd, s₃.heap.get? 88 = some o ∧ o.data = .func fd := ⟨_, _, C3.X 88 _ rfl, rfl⟩
    repeat ((fail_if_success (with_reducible show And _ _)); first
      | ((with_reducible show wpAny _ _ (callWith _ (Value.ref 88) _ _ _) _ _ _); (refine callWith_def hd8 ?_))
      | ((with_reducible show wpAny _ _ (eval (Expr.Name _ _) (compEnv _ _ _)) _ _ _); (first | (refine' nm_loc hn hx ?_) | (refine' nm_glob C3 ?e ?_; (case e => k_is))))
      | walk1)
    refine ⟨ho8, ?_⟩
    refine use_out (tb1 (c := c) C3 ⟨hh, by have := r.hd; omega, by have := r.hu; omega⟩) ?_
    rintro v h' tk rfl hk'
    refine ⟨?_, h', tk, rfl, hk'⟩
    rw [show b1mem (c : Int) = decide (q.2 = []) from by
      cases e : b1mem (c : Int) with
      | true => simp [hb.mpr e]
      | false => simp; intro q; rw [hb.mp q] at e; cases e]
  · intro D₁ h₁ tk₁ ys₁ hD₁ hl₁ hp₁ k₁
    have e₁ : ys₁ = (bls (fun q => decide (q.2 = [])) ps).toArray := by
      rw [List.filter_eq_self.mpr fun _ _ => rfl] at hp₁
      rw [← paired_bool hp₁, Array.toArray_toList]
    subst e₁
    have F₁ := Fr.ext' F k₁
    refine comp_pairs (fun _ => true) (fun q z => z = .bool (decide (q.1 = [32]))) hh (by decide +kernel) (by decide +kernel) (by rfl) (by decide +kernel) (by rfl) (by rfl) (by decide +kernel) hz (P.keeps k₁) (fun Q q => nameX_L F₁ hD q (by rfl) (by rfl)) ?_ ?_ ?_
    · intro C q t u s₃ m₃ E' hq hn hx hy hk
      exact no_test ⟨rfl, Keeps.rfl'⟩
    · intro C q t u s₃ m₃ E' hq _ hn hx hy hk
      have C3 : Cx w mg mb s₃.heap := CB.keeps fun b o e => hk b o (F₁.keep b o e)
      obtain ⟨o8, fd8, ho8, hd8⟩ : ∃ o fd, s₃.heap.get? 141 = some o ∧ o.data = .func fd := ⟨_, _, C3.X 141 _ rfl, rfl⟩
      repeat ((fail_if_success (with_reducible show And _ _)); first
        | ((with_reducible show wpAny _ _ (callWith _ (Value.ref 141) _ _ _) _ _ _); (refine callWith_def hd8 ?_))
        | ((with_reducible show wpAny _ _ (eval (Expr.Name _ _) (compEnv _ _ _)) _ _ _); (first | (refine' nm_loc hn hx ?_) | (refine' nm_glob C3 ?e ?_; (case e => k_is))))
        | walk1)
      refine ⟨ho8, ?_⟩
      refine use_out (c11 C3 ⟨hh, by have := r.hd; omega, by have := r.hu; omega⟩) ?_
      rintro v h' tk rfl hk'
      refine ⟨?_, h', tk, rfl, hk'⟩
      rw [show Str.ofString " " = ofL [32] from by decide +kernel, ofL_beq]
    · intro D₂ h₂ tk₂ ys₂ hD₂ hl₂ hp₂ k₂
      have e₂ : ys₂ = (bls (fun q => decide (q.1 = [32])) ps).toArray := by
        rw [List.filter_eq_self.mpr fun _ _ => rfl] at hp₂
        rw [← paired_bool hp₂, Array.toArray_toList]
      subst e₂
      have F₂ := Fr.ext' F₁ k₂
      refine add_lists (hl₁.at fun o e => k₂ _ _ e) hl₂ (by rw [List.length_map, List.length_map, sizeLine_eq]; omega) fun H h₃ hH hl₃ k₃ => ?_
      have F₃ := Fr.ext' F₂ k₃
      refine wpAny_storeName_local (by rfl) F₃.ns (fun h₄ hn₄ hs₄ => ?_) (by rfl)
      have hHL : H ≠ L := list_ne_ns hl₃ F₃.ns
      exact hQ h₄ _ H (F₃.set hn₄ hs₄) (fun b o hb e => hs₄.extBut b o hb (k₃ b o (k₂ b o (k₁ b o e)))) (get_back (fun b o e => k₂ b o (k₁ b o e)) hH) (hl₃.extBut hs₄.extBut hHL)
end
end

section
open PySem PySem.W PySem.Calls PyProof.Rows PyProof.V
set_option Elab.async false
set_option maxRecDepth 100000
set_option maxHeartbeats 4000000
theorem boot_isi : bootBuiltins (Str.ofString "isinstance") = some (.builtin "isinstance") := by kernel_rfl
theorem boot_bl : bootBuiltins (Str.ofString "bool") = some (.type "bool") := by kernel_rfl
section
variable {w : World} {A : Around} {s : Shared} {mg mb : Str → Option Value} {E : Value → Shared → Prop}
theorem nm_built {scope : Scope} {C : Addr} {env : Env} {x : Str} {pos : Pos} {v : Value} {Q : Value → Shared → Prop} (c : Cx w mg mb s.heap) (e : nsIn (K0 w.params) mainGlobals x = some none) (hv : bootBuiltins x = some v) (hne : x ≠ "__name__") (h : Q v s)
    (hk : scope.kind = .function := by rfl) (hg : env.globals = mainGlobals := by rfl) (hb : env.builtins = builtinsNs := by rfl) (hx : (compEnv scope C env).kindOf x = some .globalImplicit := by rfl) (hd : (x == ("__debug__" : Str)) = false := by decide) :
    wpAny (model pw w) A (eval (.Name x pos) (compEnv scope C env)) Q E s :=
  Calls.Name_function_global hk hx (Calls.loadGlobal_builtin (env := compEnv scope C env) (by show s.heap.Ns env.globals mg; rw [hg]; exact c.T.g) (mg_none_of c.X c.T.g e) (by show s.heap.Ns env.builtins mb; rw [hb]; exact c.T.b) ((c.T.builtins x hne).trans hv) h) hd
theorem bls_bool {f g : Pr → Bool} {ps : List Pr} {v : Value} (h : v ∈ bls f ps ++ bls g ps) : ∃ b, v = .bool b := by
  rcases List.mem_append.mp h with h | h <;> (obtain ⟨q, _, rfl⟩ := List.mem_map.mp h; exact ⟨_, rfl⟩)
/-- no item of a list of bools is no bool -/
theorem comp_nobool {B : Heap} {L H : Addr} {m : Str → Option Value} {vs : List Value} {elt iter tst : Expr} {x : Str} {px pos : Pos} {scope : Scope} {Q : Value → Shared → Prop} (hh : A.handled = none) (F : Fr B L s.heap m) (hl : s.heap.IsList H vs.toArray) (hz : vs.length ≤ 2000)
    (hfree : ∀ y ∈ scope.names, y.2 ≠ .free) (hcell : ∀ y ∈ scope.names, y.2 ≠ .cell) (hkind : scope.kind = .function) (hnames : ∀ y ∈ scope.names, y.2 = .local → scope.names.lookup y.1 = some .local) (hx : scope.names.lookup x = some .local)
    (hi : ∀ Q : Value → Shared → Prop, Q (.ref H) s → wpAny (model pw w) A (eval iter (envL L)) Q E s)
    (ht : ∀ C v s₃ m₃ E', v ∈ vs → s₃.heap.Ns C m₃ → m₃ x = some v → (∀ b o, s.heap.get? b = some o → s₃.heap.get? b = some o) → wpAny (model pw w) A (PySem.isTrue tst (compEnv scope C (envL L)) (eval tst (compEnv scope C (envL L)))) (fun ok s₄ => ok = false ∧ Keeps s₃ s₄) E' s₃)
    (hQ : ∀ D h' tk, s.heap.get? D = none → h'.IsList D #[] → (∀ b o, s.heap.get? b = some o → h'.get? b = some o) → Q (.ref D) { s with heap := h', toks := tk })
    (hs : ∀ x, foldedSetIterable iter (envL L) x = pure x := by intro _; rfl) :
    wpAny (model pw w) A (eval (.ListComp elt [⟨.Name x px, iter, [tst], 0⟩] scope pos) (envL L)) Q E s := by
  refine wpAny_ListComp_walk (fun _ => false) (fun _ _ => True) hfree hcell hkind hnames hx (hi _ ?_) hs
  obtain ⟨o, ho, _⟩ := id hl
  have hlt := Heap.lt_size ho
  refine wpAny_pyIter_list hl ?_
  have up : ∀ b o', s.heap.get? b = some o' → (s.heap.push { cls := .type "list_iterator", data := .fields #[.ref H, .int 0 0] }).get? b = some o' := fun b o' e => Heap.get?_push_of_some _ e
  have ne : ∀ b o', s.heap.get? b = some o' → b ∉ [s.heap.objs.size] := fun b o' e q => absurd (List.mem_singleton.mp q) (Nat.ne_of_lt (Heap.lt_size e))
  refine ⟨s.heap.objs.size, _, [s.heap.objs.size], vs.toArray.size, _, _, rfl, Walks.list hh s.heap.objs.size H (Nat.ne_of_lt hlt) vs.toArray, ?_, ⟨⟨_, Heap.get?_push_size _ rfl, rfl, rfl⟩, hl.push _⟩, ?_, ⟨?_, ?_⟩, ?_⟩
  · rw [List.size_toArray, sizeLine_eq]; omega
  · intro b hb
    dsimp only
    rw [Heap.size_push]
    rcases List.mem_cons.mp hb with rfl | hb
    · exact Nat.lt_succ_self _
    · rw [List.mem_singleton.mp hb]; exact Nat.lt_succ_of_lt hlt
  · intro C i v s₃ m₃ E' hP hn hm hk _
    have hv : v ∈ vs := by
      have : vs.toArray[i]? = some v := hP
      exact List.mem_of_getElem? (by simpa using this)
    exact one_test (ht C v s₃ m₃ E' hv hn hm fun b o' e => hk b o' (ne b o' e) (up b o' e))
  · intro C i v s₃ m₃ E' hP hp hn hm hk _
    cases hp
  · intro D h' tk ys us hD hl' _ hlen hP hF hk
    have e : ys = #[] := by
      have := hF.length
      rw [List.filter_eq_nil_iff.mpr (fun _ _ => Bool.false_ne_true)] at this
      exact Array.eq_empty_of_size_eq_zero (by simpa using this.symm)
    subst e
    refine hQ D h' tk ?_ hl' fun b o' e => hk b o' (ne b o' e) (up b o' e)
    cases e : s.heap.get? D with
    | none => rfl
    | some o' => rw [up D o' e] at hD; cases hD
theorem if_c {B : Heap} {L D H : Addr} {m : Str → Option Value} {ps : List Pr} {Q : Flow → Shared → Prop} (r : Rm A 3) (CB : Cx w mg mb B) (F : Fr B L s.heap m) (hD : m (Str.ofString "pairs") = some (.ref D)) (hH : m (Str.ofString "held") = some (.ref H)) (P : PairsAt s.heap D ps) (hz : ps.length ≤ 1000)
    (hl : s.heap.IsList H (bls (fun q => decide (q.2 = [])) ps ++ bls (fun q => decide (q.1 = [32])) ps).toArray)
    (hQ : ∀ h' tk, Fr B L h' m → (∀ b o, s.heap.get? b = some o → h'.get? b = some o) → Q .next { s with heap := h', toks := tk }) :
    wpAny (model pw w) A (exec ifS (envL L)) Q E s := by
  have hh : A.handled = none := r.hh
  have X := CB.X
  have T := CB.T
  have N : News B L s.heap [] := News.nil
  have hu : A.units < cLine := by have := r.hu; show A.units < 9900; omega
  change wpAny _ _ (exec (.If _ _ _ _) _) _ _ _
  repeat ((fail_if_success (with_reducible show wpAny _ _ (eval (Expr.ListComp _ _ _ _) _) _ _ _)); first | walk1 | (dsimp only; walk1))
  refine comp_pairs (fun _ => true) (fun q z => z = .bool (decide (q.2 = []))) hh (by decide +kernel) (by decide +kernel) (by rfl) (by decide +kernel) (by rfl) (by rfl) (by decide +kernel) hz P (fun Q q => nameX_L F hD q (by rfl) (by rfl)) ?_ ?_ ?_
  · intro C q t u s₃ m₃ E' hq hn hx hy hk
    exact no_test ⟨rfl, Keeps.rfl'⟩
  · intro C q t u s₃ m₃ E' hq _ hn hx hy hk
    repeat ((fail_if_success (with_reducible show And _ _)); first
      | ((with_reducible show wpAny _ _ (eval (Expr.Name _ _) (compEnv _ _ _)) _ _ _); (refine' nm_loc hn hy ?_))
      | walk1)
    rw [show Str.ofString "" = ofL [] from by decide +kernel, ofL_beq]
    exact ⟨rfl, s₃.heap, _, rfl, fun _ _ e => e⟩
  intro D₁ h₁ tk₁ ys₁ hD₁ hl₁ hp₁ k₁
  have e₁ : ys₁ = (bls (fun q => decide (q.2 = [])) ps).toArray := by
    rw [List.filter_eq_self.mpr fun _ _ => rfl] at hp₁
    rw [← paired_bool hp₁, Array.toArray_toList]
  subst e₁
  have F₁ := Fr.ext' F k₁
  refine comp_pairs (fun _ => true) (fun q z => z = .bool (decide (q.1 = [32]))) hh (by decide +kernel) (by decide +kernel) (by rfl) (by decide +kernel) (by rfl) (by rfl) (by decide +kernel) hz (P.keeps k₁) (fun Q q => nameX_L F₁ hD q (by rfl) (by rfl)) ?_ ?_ ?_
  · intro C q t u s₃ m₃ E' hq hn hx hy hk
    exact no_test ⟨rfl, Keeps.rfl'⟩
  · intro C q t u s₃ m₃ E' hq _ hn hx hy hk
    repeat ((fail_if_success (with_reducible show And _ _)); first
      | ((with_reducible show wpAny _ _ (eval (Expr.Name _ _) (compEnv _ _ _)) _ _ _); (refine' nm_loc hn hx ?_))
      | walk1)
    rw [show Str.ofString " " = ofL [32] from by decide +kernel, ofL_beq]
    exact ⟨rfl, s₃.heap, _, rfl, fun _ _ e => e⟩
  intro D₂ h₂ tk₂ ys₂ hD₂ hl₂ hp₂ k₂
  have e₂ : ys₂ = (bls (fun q => decide (q.1 = [32])) ps).toArray := by
    rw [List.filter_eq_self.mpr fun _ _ => rfl] at hp₂
    rw [← paired_bool hp₂, Array.toArray_toList]
  subst e₂
  have F₂ := Fr.ext' F₁ k₂
  refine add_lists (hl₁.at fun o e => k₂ _ _ e) hl₂ (by rw [List.length_map, List.length_map, sizeLine_eq]; omega) fun H' h₃ hH' hl₃ k₃ => ?_
  have F₃ := Fr.ext' F₂ k₃
  have k123 : ∀ b o, s.heap.get? b = some o → h₃.get? b = some o := fun b o e => k₃ b o (k₂ b o (k₁ b o e))
  have hl' := hl.at fun o e => k123 H o e
  refine ne_same hl' hl₃ hu ?_
  have N₃ : News B L h₃ [] := News.nil
  clear F F₁ F₂ N
  repeat ((fail_if_success (with_reducible show wpAny _ _ (eval (Expr.ListComp _ _ _ _) _) _ _ _)); first | walk1 | (dsimp only; walk1))
  have P₃ := P.keeps k123
  refine comp_nobool hh F₃ hl' (by rw [List.length_append, List.length_map, List.length_map]; omega) (by decide +kernel) (by decide +kernel) (by rfl) (by decide +kernel) (by rfl) (fun Q q => nameX_L F₃ hH q (by rfl) (by rfl)) ?_ ?_
  · intro C v s₃ m₃ E' hv hn hm hk
    have C3 : Cx w mg mb s₃.heap := CB.keeps fun b o e => hk b o (F₃.keep b o e)
    obtain ⟨b, rfl⟩ := bls_bool hv
    have X3 := C3.X
    repeat ((fail_if_success (with_reducible show And _ _)); first
      | ((with_reducible show wpAny _ _ (eval (Expr.Name _ _) (compEnv _ _ _)) _ _ _); (first | (refine' nm_loc hn hm ?_) | (refine' nm_built C3 ?e boot_isi (by decide +kernel) ?_; (case e => k_is)) | (refine' nm_built C3 ?e boot_bl (by decide +kernel) ?_; (case e => k_is))))
      | walk1)
    exact ⟨rfl, Keeps.rfl'⟩
  · intro D₄ h₄ tk₄ hD₄ hl₄ k₄
    have F₄ := Fr.ext' F₃ k₄
    refine eval_none fun D₅ h₅ hp₅ hD₅ k₅ => ?_
    obtain ⟨it₅, hl₅, hq₅⟩ := hp₅.at
    have e₅ : it₅ = #[] := by
      have := hq₅.length
      exact Array.eq_empty_of_size_eq_zero (by simpa using this.symm)
    subst e₅
    have F₅ := Fr.ext' F₄ k₅
    refine ne_same (xs := []) (hl₄.at fun o e => k₅ _ _ e) hl₅ hu ?_
    have N₅ : News B L h₅ [] := News.nil
    clear F₃ N₃ F₄
    repeat (first | walk1 | (dsimp only; walk1))
    exact hQ h₅ _ F₅ fun b o e => k₅ b o (k₄ b o (k123 b o e))
end
end

section
open PySem PySem.W PySem.Calls PyProof.Rows PyProof.V
set_option Elab.async false
set_option maxRecDepth 100000
set_option maxHeartbeats 4000000
noncomputable def taS : Stmt := match fB (st 16) with
  | [_, _, _, _, _, h, _, _] => h
  | _ => noSt
theorem paired_strs {f : Pr → Str} : ∀ {ps : List Pr} {vs : List Value}, Paired (fun q z => ∃ u, z = Value.str (f q) u) ps vs → StrsAre vs (ps.map f)
  | _, _, .nil => .nil
  | _, _, .cons ⟨u, e⟩ t => e ▸ .cons _ u (paired_strs t)
local macro_rules | `(tactic| walk_at "unpackItems ref") => `(tactic| (refine' unpackItemsN_ ?F ?N ?t ?h ?n ?_; (case F => k_asm); (case N => k_asm); (case t => exact News.isTup (by k_asm) (by k_mem)); (case h => assumption); (case n => rfl); intro h' F' N'; (try k_sweep)))
section
variable {w : World} {A : Around} {s : Shared} {mg mb : Str → Option Value} {E : Value → Shared → Prop}
/-- ''.join([sign for sign, fold in pairs]) -/
theorem comp_signs {B : Heap} {L D : Addr} {m : Str → Option Value} {ps : List Pr} {elt iter : Expr} {px py tpos : Pos} {k : Nat} {scope : Scope} {pos : Pos} {Q : Value → Shared → Prop} (hh : A.handled = none) (F : Fr B L s.heap m) (P : PairsAt s.heap D ps) (hz : ps.length ≤ 1000)
    (hfree : ∀ y ∈ scope.names, y.2 ≠ .free) (hcell : ∀ y ∈ scope.names, y.2 ≠ .cell) (hkind : scope.kind = .function) (hnames : ∀ y ∈ scope.names, y.2 = .local → scope.names.lookup y.1 = some .local) (hx : scope.names.lookup (Str.ofString "sign") = some .local) (hy : scope.names.lookup (Str.ofString "fold") = some .local)
    (hi : ∀ Q : Value → Shared → Prop, Q (.ref D) s → wpAny (model pw w) A (eval iter (envL L)) Q E s)
    (he : ∀ C v s₃ m₃ E' (Q : Value → Shared → Prop), s₃.heap.Ns C m₃ → m₃ (Str.ofString "sign") = some v → Q v s₃ → wpAny (model pw w) A (eval elt (compEnv scope C (envL L))) Q E' s₃)
    (hQ : ∀ D' h' tk vs, StrsAre vs (ps.map fun q => ofL q.1) → h'.IsList D' vs.toArray → (∀ b o, s.heap.get? b = some o → h'.get? b = some o) → Q (.ref D') { s with heap := h', toks := tk })
    (hs : ∀ x, foldedSetIterable iter (envL L) x = pure x := by intro _; rfl) :
    wpAny (model pw w) A (eval (.ListComp elt [⟨.Tuple [.Name (Str.ofString "sign") px, .Name (Str.ofString "fold") py] k tpos, iter, [], 0⟩] scope pos) (envL L)) Q E s := by
  refine comp_pairs (fun _ => true) (fun q z => ∃ u, z = .str (ofL q.1) u) hh hfree hcell hkind hnames hx hy (by decide +kernel) hz P hi ?_ ?_ ?_ hs
  · intro C q t u s₃ m₃ E' hq hn hx hy hk
    exact no_test ⟨rfl, Keeps.rfl'⟩
  · intro C q t u s₃ m₃ E' hq _ hn hx hy hk
    exact he C _ s₃ m₃ E' _ hn hx ⟨⟨t, rfl⟩, Keeps.rfl'⟩
  · intro D' h' tk ys hD hl hp hk
    rw [List.filter_eq_self.mpr fun _ _ => rfl] at hp
    exact hQ D' h' tk ys.toList (paired_strs hp) (by rw [Array.toArray_toList]; exact hl) hk
theorem News.tail1 {B h : Heap} {L : Addr} {x : Addr × Obj} {l : List (Addr × Obj)} (N : News B L h (x :: l)) : News B L h l := fun p hp => N p (.tail _ hp)
theorem allLt_mem {d : Addr} {l : List (Addr × Obj)} (h : AllLt d l) : ∀ p ∈ l, p.1 < d := by
  induction l with
  | nil => intro p hp; cases hp
  | cons x r ih =>
    intro p hp
    rcases List.mem_cons.mp hp with rfl | hp
    · exact h.1
    · exact ih h.2 p hp
theorem flat_txt (ps : List Pr) : (ps.map fun q => ofL q.1).flatMap sl = txt ps := by
  induction ps with
  | nil => rfl
  | cons p r ih => rw [List.map_cons, List.flatMap_cons, ih, txt_cons]
theorem ta_c {B : Heap} {L D hD : Addr} {hO : Obj} {pn : List (Addr × Obj)} {m : Str → Option Value} {ps : List Pr} {Q : Flow → Shared → Prop} (r : Rm A 3) (CB : Cx w mg mb B) (F : Fr B L s.heap m) (N : News B L s.heap ((hD, hO) :: pn)) (hD' : m (Str.ofString "pairs") = some (.ref D)) (P : PairsN B pn D ps) (hg : ∀ p ∈ ps, GoodP p) (hz : ps.length ≤ 1000)
    (hQ : ∀ h' tk ac u m', Fr B L h' m' → (∀ y, y ≠ Str.ofString "text" → y ≠ Str.ofString "acted" → m' y = m y) → m' (Str.ofString "text") = some (.str (ofL (txt ps)) u) → m' (Str.ofString "acted") = some (.ref ac) → News B L h' ((ac, W.listOf #[] 0) :: (hD, hO) :: pn) → (∀ p ∈ pn, p.1 < ac) → @LT.lt Nat _ hD ac → Q .next { s with heap := h', toks := tk }) :
    wpAny (model pw w) A (exec taS (envL L)) Q E s := by
  have hh : A.handled = none := r.hh
  have X := CB.X
  have T := CB.T
  change wpAny _ _ (exec (.Assign [.Tuple _ _ _] (.Tuple _ _ _) _) _) _ _ _
  repeat ((fail_if_success (with_reducible show wpAny _ _ (eval (Expr.ListComp _ _ _ _) _) _ _ _)); first | walk1 | (dsimp only; walk1))
  refine comp_signs hh F (P.at F fun p hp => N p (.tail _ hp)) hz (by decide +kernel) (by decide +kernel) (by rfl) (by decide +kernel) (by rfl) (by rfl) (fun Q q => nameX_L F hD' q (by rfl) (by rfl)) (fun C v s₃ m₃ E' Q hn hm q => nm_loc hn hm q) fun D₁ h₁ tk₁ vs hvs hl₁ k₁ => ?_
  have F₁ := Fr.ext' F k₁
  have N₁ := News.ext' N k₁
  clear F N
  iterate 1 walk1
  refine join_listW hl₁ hvs (by decide +kernel) (weight_of (n := ps.length) (by rw [List.length_map]; exact Nat.le_refl _) (fun y hy => ?_) hz) fun t' k' => ?_
  · obtain ⟨q, hq, rfl⟩ := List.mem_map.mp hy
    obtain ⟨c, hc, _⟩ := (hg q hq).one
    rw [hc]; exact (by decide : 1 ≤ 18)
  rw [join_glue, flat_txt]
  repeat (first | walk1 | (dsimp only; walk1))
  rename_i ac hA la tD hB lb h₄ h₃ h₂ F' N'
  have q1 : ∀ p ∈ pn, p.1 < ac := allLt_mem la.2
  have q2 := News.tail1 N'
  have q3 : @LT.lt Nat _ hD ac := la.1
  clear lb N' la
  refine hQ _ _ ac t' _ F' ?_ ?_ ?_ q2 q1 q3
  · intro y hy1 hy2
    rw [if_neg hy1, if_neg hy2]
  · rw [if_pos rfl]
  · rw [if_neg (by decide +kernel), if_pos rfl]
end
end

end Mine
end

section
open PySem PySem.W PySem.Calls PyProof.Rows PyProof.V
set_option Elab.async false
set_option maxRecDepth 100000
set_option maxHeartbeats 4000000
namespace Mine
noncomputable def loopS : Stmt := match fB (st 16) with
  | [_, _, _, _, _, _, h, _] => h
  | _ => noSt
/-- what the loop's turns keep on the heap -/
structure Hp (L ac hD I : Addr) (hs : List Value) (j : Nat) (h : Heap) (D : Addr) (ps : List Pr) (acted : List Nat) : Prop where
  T5 : Tab5 L h
  P : PairsAt h D ps
  Dac : D ≠ ac
  A : ∃ vs nn, IntsAre vs (acted.map Int.ofNat) ∧ h.get? ac = some (W.listOf vs.toArray nn)
  I : h.IsListIter I hD j
  H : h.IsList hD hs.toArray
  hne : hD ≠ ac
theorem tab_ne_list {h : Heap} {n b : Addr} {xs : Array Value} (T : Tab5 n h) (hl : h.IsList b xs) : b ≠ 150 := by
  rintro rfl
  obtain ⟨o, ho, hc, _⟩ := hl
  obtain ⟨ps, e⟩ := T.obj
  rw [e] at ho; cases ho; cases hc
theorem PairsAt.ext' {h h' : Heap} {a : Addr} {ps : List Pr} (x : PairsAt h a ps) (k : ∀ b xs, h.IsList b xs → h'.IsList b xs) : PairsAt h' a ps := by
  obtain ⟨items, hl, hp⟩ := x
  refine ⟨items, k _ _ hl, hp.mono fun p v y => ?_⟩
  obtain ⟨b, t, u, e, hb⟩ := y
  exact ⟨b, t, u, e, k _ _ hb⟩
section
variable {L ac hD I D : Addr} {hs : List Value} {j : Nat} {h h' : Heap} {ps : List Pr} {acted : List Nat} {m : Str → Option Value}
theorem Hp.ext (x : Hp L ac hD I hs j h D ps acted) (k : ∀ b o, h.get? b = some o → h'.get? b = some o) : Hp L ac hD I hs j h' D ps acted := by
  obtain ⟨T5, P, Dac, ⟨vs, nn, hv, e⟩, I', H, hne⟩ := x
  exact ⟨T5.ext k, P.keeps k, Dac, ⟨vs, nn, hv, k _ _ e⟩, I'.at fun o e => k _ _ e, H.at fun o e => k _ _ e, hne⟩
theorem Hp.extL (x : Hp L ac hD I hs j h D ps acted) (hn : h.Ns L m) (k : ∀ b o, b ≠ L → h.get? b = some o → h'.get? b = some o) : Hp L ac hD I hs j h' D ps acted := by
  obtain ⟨T5, P, Dac, ⟨vs, nn, hv, e⟩, I', H, hne⟩ := x
  have kl : ∀ b xs, h.IsList b xs → h'.IsList b xs := fun b xs hl => hl.at fun o e => k _ _ (list_ne_ns hl hn) e
  have n5 : (150 : Addr) ≠ L := by
    rintro rfl
    obtain ⟨ps, e⟩ := T5.obj
    obtain ⟨o, es, ep, e', hd, _⟩ := hn
    rw [e] at e'; cases e'; cases hd
  refine ⟨T5.out.elim (fun q => ⟨.inl (k _ _ n5 q)⟩) fun ⟨c', q1, q2, c₁, oc, vs, tq, z1, z2, z3, z4⟩ => ⟨.inr ⟨c', q1, k _ _ n5 q2, c₁, oc, vs, tq, z1, k _ _ ?_ z2, z3, z4⟩⟩, P.ext' kl, Dac, ⟨vs, nn, hv, ?_⟩, I'.at fun o e => k _ _ (iter_ne_ns I' hn) e, kl _ _ H, hne⟩
  · rintro rfl
    obtain ⟨o, es, ep, e', hd, _⟩ := hn
    rw [z2] at e'; cases e'; rw [z3] at hd; cases hd
  · exact k _ _ (list_ne_ns (xs := vs.toArray) ⟨_, e, rfl, _, rfl⟩ hn) e
theorem Hp.ext5 (x : Hp L ac hD I hs j h D ps acted) (T : Tab5 L h') (k : ∀ b o, b ≠ 150 → h.get? b = some o → h'.get? b = some o) : Hp L ac hD I hs j h' D ps acted := by
  obtain ⟨T5, P, Dac, ⟨vs, nn, hv, e⟩, I', H, hne⟩ := x
  have kl : ∀ b xs, h.IsList b xs → h'.IsList b xs := fun b xs hl => hl.at fun o e => k _ _ (tab_ne_list T5 hl) e
  refine ⟨T, P.ext' kl, Dac, ⟨vs, nn, hv, k _ _ (tab_ne_list (xs := vs.toArray) T5 ⟨_, e, rfl, _, rfl⟩) e⟩, I'.at fun o e => k _ _ ?_ e, kl _ _ H, hne⟩
  rintro rfl
  obtain ⟨o, ho, hc, _⟩ := I'
  obtain ⟨ps, e⟩ := T5.obj
  rw [e] at ho; cases ho; cases hc
theorem Hp.acted' (x : Hp L ac hD I hs j h D ps acted) {vs : List Value} {nn d : Nat} (hv : IntsAre vs ((acted ++ [d]).map Int.ofNat)) (e : h'.get? ac = some (W.listOf vs.toArray nn)) (k : ∀ b o, b ≠ ac → h.get? b = some o → h'.get? b = some o) : Hp L ac hD I hs j h' D ps (acted ++ [d]) := by
  obtain ⟨T5, ⟨items, hl, hp⟩, Dac, ⟨vs₀, nn₀, hv₀, e₀⟩, I', H, hne⟩ := x
  have hac : h.IsList ac vs₀.toArray := ⟨_, e₀, rfl, _, rfl⟩
  have n5 : (150 : Addr) ≠ ac := Ne.symm (tab_ne_list T5 hac)
  refine ⟨T5.out.elim (fun q => ⟨.inl (k _ _ n5 q)⟩) fun ⟨c', q1, q2, c₁, oc, vs, tq, z1, z2, z3, z4⟩ => ⟨.inr ⟨c', q1, k _ _ n5 q2, c₁, oc, vs, tq, z1, k _ _ ?_ z2, z3, z4⟩⟩, ⟨items, hl.at fun o e => k _ _ Dac e, hp.mono fun p v y => ?_⟩, Dac, ⟨vs, nn, hv, e⟩, I'.at fun o e => k _ _ (list_ne_iter hac I') e, H.at fun o e => k _ _ hne e, hne⟩
  · rintro rfl
    rw [e₀] at z2; cases z2; cases z3
  · obtain ⟨b, t, u, eb, hb⟩ := y
    refine ⟨b, t, u, eb, hb.at fun o e => k _ _ ?_ e⟩
    rintro rfl
    have q := IsList.inj hac hb
    have q' : vs₀ = [.str (ofL p.1) t, .str (ofL p.2) u] := by
      have := congrArg Array.toList q
      simpa using this
    subst q'
    obtain ⟨n, t', z⟩ := ints_mem hv₀ _ (List.Mem.head _)
    cases z
end
end Mine
end

section
open PySem PySem.W PySem.Calls PyProof.Rows PyProof.V
namespace Mine
local macro_rules | `(tactic| walk_at "eval Name") => `(tactic| (refine' nameX_L ?F ?v ?_ ?a ?b; (case F => assumption); (case a => rfl); (case b => rfl); (case v => first | exact rfl | assumption | ((repeat (refine (if_neg (by decide +kernel)).trans ?_)); first | assumption | exact rfl | exact if_pos rfl))))
section
open PySem PySem.W PySem.Calls PyProof.Rows PyProof.V
set_option Elab.async false
set_option maxRecDepth 100000
set_option maxHeartbeats 1000000
structure Ms (L ac D : Addr) (x : Str) (m : Str → Option Value) : Prop where
  text : ∃ t, m (Str.ofString "text") = some (.str x t)
  pairs : m (Str.ofString "pairs") = some (.ref D)
  acted : m (Str.ofString "acted") = some (.ref ac)
  hand : True
section
variable {w : World} {A : Around} {s : Shared} {mg mb : Str → Option Value} {E : Value → Shared → Prop}
theorem turn1 {g h₀ : Heap} {L ac hD I D : Addr} {hs : List Value} {j kk : Nat} {ps : List Pr} {acted : List Nat} {m : Str → Option Value} {u : Tok} {rest : List Stmt} {px pos cp fp p1 p2 : Pos} {Q : Flow → Shared → Prop}
    (C : Cx w mg mb g) (g5 : g.get? 150 = none) (BA : g.BuiltinsAt mg 150) (CB : Cx w mg mb (hideAll h₀ [150])) (gB : ∀ b o, g.get? b = some o → (hideAll h₀ [150]).get? b = some o) (hn5 : @LE.le Nat _ L s.heap.objs.size) (r : Rm A 12)
    (F : Fr (hideAll h₀ [150]) L s.heap m) (M : Ms L ac D (ofL (txt ps)) m) (hm : m (Str.ofString "hand") = some (.int kk u)) (hk : kk < 5) (x : Hp L ac hD I hs j s.heap D ps acted) (hg : ∀ p ∈ ps, GoodP p) (hlo : ∀ p ∈ ps, LowP p) (hz : ps.length ≤ 40)
    (hQ : ∀ h' tk m', Fr (hideAll h₀ [150]) L h' m' → Ms L ac D (ofL (laidF kk (txt ps))) m' → m' (Str.ofString "hand") = some (.int kk u) → Hp L ac hD I hs j h' D ps acted → @LE.le Nat _ L h'.objs.size → Q .next { s with heap := h', toks := tk }) :
    wpAny (model pw w) A (exec (.Assign [.Name (Str.ofString "text") px] (.Call (.Name (Str.ofString "_law_laid") fp) [.Name (Str.ofString "hand") p1, .Name (Str.ofString "text") p2] [] cp) pos) (envL L)) Q E s := by
  have hh : A.handled = none := r.hh
  have X := CB.X
  have T := CB.T
  have N : News (hideAll h₀ [150]) L s.heap [] := News.nil
  obtain ⟨t, ht⟩ := M.text
  repeat ((fail_if_success (with_reducible show wpAny _ _ (call (.ref _) _) _ _ _)); first | walk1 | (dsimp only; walk1))
  have e0 : sl (ofL (txt ps)) = txt ps := by simp [sl]
  refine use_outT (n := L) (laidA (g := g) hk C (fun b o e => F.keep b o (gB b o e)) g5 BA hn5 x.T5 ⟨r.hh, by have := r.hd; omega, by have := r.hu; omega⟩ (by rw [ofL_len, txt_len hg]; omega) (by rw [e0]; exact txt_ok hg hlo)) ?_
  rintro v h₁ tk₁ ⟨u₁, rfl⟩ k₁ T₁
  rw [e0]
  have hLn : L ≠ 150 := by
    rintro rfl
    obtain ⟨o, es, ep, e, hd, _⟩ := F.ns
    obtain ⟨ps, e'⟩ := x.T5.obj
    rw [e] at e'; cases e'; cases hd
  have F₁ := Fr.extBut' F (.head _) hLn k₁
  have x₁ := x.ext5 T₁ k₁
  refine wpAny_storeName_local (by rfl) F₁.ns (fun h₂ hn₂ hs₂ => ?_) (by rfl)
  refine hQ h₂ _ _ (F₁.set hn₂ hs₂) ⟨⟨u₁, if_pos rfl⟩, (if_neg (by decide +kernel)).trans M.pairs, (if_neg (by decide +kernel)).trans M.acted, trivial⟩ ((if_neg (by decide +kernel)).trans hm) (x₁.extL F₁.ns fun b o hb e => hs₂.extBut b o hb e) ?_
  exact Nat.le_of_lt hn₂.lt
end
end

section
open PySem PySem.W PySem.Calls PyProof.Rows PyProof.V
set_option Elab.async false
set_option maxRecDepth 100000
set_option maxHeartbeats 1000000
noncomputable def t2S : Stmt := match forBody loopS with
  | [_, b, _, _] => b
  | _ => noSt
noncomputable def t3S : Stmt := match forBody loopS with
  | [_, _, b, _] => b
  | _ => noSt
noncomputable def t4S : Stmt := match forBody loopS with
  | [_, _, _, b] => b
  | _ => noSt
theorem any_int (l : List Nat) (k : Nat) : ((l.map Int.ofNat).any (· == (k : Int))) = decide (k ∈ l) := by
  induction l with
  | nil => rfl
  | cons a r ih =>
    rw [List.map_cons, List.any_cons, ih]
    by_cases h : a = k
    · subst h; simp
    · have h1 : ((Int.ofNat a) == (k : Int)) = false := by
        rw [beq_eq_false_iff_ne]
        intro q
        exact h (Int.ofNat.inj q)
      have h2 : decide (k ∈ a :: r) = decide (k ∈ r) := by
        by_cases h3 : k ∈ r <;> simp [h3, Ne.symm h]
      rw [h1, h2, Bool.false_or]
section
variable {w : World} {A : Around} {s : Shared} {mg mb : Str → Option Value} {E : Value → Shared → Prop}
theorem turn2 {B : Heap} {L ac hD I D : Addr} {hs : List Value} {j kk : Nat} {ps : List Pr} {acted : List Nat} {m : Str → Option Value} {u : Tok} {y : Str} {Q : Flow → Shared → Prop}
    (CB : Cx w mg mb B) (r : Rm A 12) (F : Fr B L s.heap m) (M : Ms L ac D y m) (hm : m (Str.ofString "hand") = some (.int kk u)) (hk : kk < 5) (x : Hp L ac hD I hs j s.heap D ps acted)
    (hQ : ∀ h' tk m' t, Fr B L h' m' → Ms L ac D y m' → m' (Str.ofString "hand") = some (.int kk u) → m' (Str.ofString "deed") = some (.int (deedOf kk acted : Nat) t) → Hp L ac hD I hs j h' D ps acted → @LE.le Nat _ L h'.objs.size → Q .next { s with heap := h', toks := tk }) :
    wpAny (model pw w) A (exec t2S (envL L)) Q E s := by
  have hh : A.handled = none := r.hh
  have X := CB.X
  have T := CB.T
  have N : News B L s.heap [] := News.nil
  have ha := M.acted
  obtain ⟨vs, nn, hv, eA⟩ := x.A
  have hlA : s.heap.IsList ac vs.toArray := ⟨_, eA, rfl, _, rfl⟩
  change wpAny _ _ (exec (.Assign [.Name _ _] (.BinOp _ _ _ _) _) _) _ _ _
  repeat' (first
    | ((with_reducible show wpAny _ _ (compareOp CmpOp.In _ _) _ _ _); (refine in_list_ints hlA hv ?_); (rw [show (1 : Int) = ((1 : Nat) : Int) from rfl, any_int]))
    | ((fail_if_success (with_reducible show wpAny _ _ (storeName _ _ _) _ _ _)); first | walk1 | (dsimp only; walk1)))
  · rename (1 : Int) < (kk : Int) => c1
    rename 1 ∈ acted => c2
    rw [show (kk : Int) + 3 = ((deedOf kk acted : Nat) : Int) from by unfold deedOf; rw [if_pos ⟨by omega, c2⟩]; rfl]
    refine wpAny_storeName_local (by rfl) F.ns (fun h₂ hn₂ hs₂ => ?_) (by rfl)
    exact hQ h₂ _ _ _ (F.set hn₂ hs₂) ⟨⟨_, (if_neg (by decide +kernel)).trans M.text.choose_spec⟩, (if_neg (by decide +kernel)).trans M.pairs, (if_neg (by decide +kernel)).trans M.acted, trivial⟩ ((if_neg (by decide +kernel)).trans hm) (if_pos rfl) (x.extL F.ns fun b o hb e => hs₂.extBut b o hb e) (Nat.le_of_lt hn₂.lt)
  · rename ¬ 1 ∈ acted => c2
    rw [show (kk : Int) + 0 = ((deedOf kk acted : Nat) : Int) from by unfold deedOf; rw [if_neg fun q => c2 q.2]; rfl]
    refine wpAny_storeName_local (by rfl) F.ns (fun h₂ hn₂ hs₂ => ?_) (by rfl)
    exact hQ h₂ _ _ _ (F.set hn₂ hs₂) ⟨⟨_, (if_neg (by decide +kernel)).trans M.text.choose_spec⟩, (if_neg (by decide +kernel)).trans M.pairs, (if_neg (by decide +kernel)).trans M.acted, trivial⟩ ((if_neg (by decide +kernel)).trans hm) (if_pos rfl) (x.extL F.ns fun b o hb e => hs₂.extBut b o hb e) (Nat.le_of_lt hn₂.lt)
  · rename ¬ (1 : Int) < (kk : Int) => c1
    rw [show (kk : Int) + 0 = ((deedOf kk acted : Nat) : Int) from by unfold deedOf; rw [if_neg fun q => c1 (by omega)]; rfl]
    refine wpAny_storeName_local (by rfl) F.ns (fun h₂ hn₂ hs₂ => ?_) (by rfl)
    exact hQ h₂ _ _ _ (F.set hn₂ hs₂) ⟨⟨_, (if_neg (by decide +kernel)).trans M.text.choose_spec⟩, (if_neg (by decide +kernel)).trans M.pairs, (if_neg (by decide +kernel)).trans M.acted, trivial⟩ ((if_neg (by decide +kernel)).trans hm) (if_pos rfl) (x.extL F.ns fun b o hb e => hs₂.extBut b o hb e) (Nat.le_of_lt hn₂.lt)
theorem turn3 {h₀ : Heap} {L ac hD I D : Addr} {hs : List Value} {j kk : Nat} {ps : List Pr} {acted : List Nat} {m : Str → Option Value} {u t : Tok} {Q : Flow → Shared → Prop}
    (CB : Cx w mg mb (hideAll h₀ [150])) (r : Rm A 12) (F : Fr (hideAll h₀ [150]) L s.heap m) (M : Ms L ac D (ofL (laidF kk (txt ps))) m) (hm : m (Str.ofString "hand") = some (.int kk u)) (hdd : m (Str.ofString "deed") = some (.int (deedOf kk acted : Nat) t)) (hk : kk < 5) (x : Hp L ac hD I hs j s.heap D ps acted)
    (hI : Inv acted ps) (hlo : ∀ p ∈ ps, LowP p) (hz : ps.length ≤ 40) (hz1 : 1 ∉ acted → ps.length ≤ 10) (haz : acted.length ≤ 100) (hBac : (hideAll h₀ [150]).get? ac = none)
    (hQ : ∀ h' tk m' D' ps' acted', Fr (hideAll h₀ [150]) L h' m' → Ms L ac D' (ofL (txt ps')) m' → Hp L ac hD I hs j h' D' ps' acted' → Inv acted' ps' → (∀ p ∈ ps', LowP p) → ps'.length ≤ 40 → (1 ∉ acted' → ps'.length ≤ 10) → acted'.length ≤ acted.length + 1 → @LE.le Nat _ L h'.objs.size → Q .next { s with heap := h', toks := tk }) (hn5 : @LE.le Nat _ L s.heap.objs.size) :
    wpAny (model pw w) A (exec t3S (envL L)) Q E s := by
  have hh : A.handled = none := r.hh
  have X := CB.X
  have T := CB.T
  have N : News (hideAll h₀ [150]) L s.heap [] := News.nil
  have ha := M.acted
  have hp := M.pairs
  obtain ⟨vs, nn, hv, eA⟩ := id x.A
  have hlA : s.heap.IsList ac vs.toArray := ⟨_, eA, rfl, _, rfl⟩
  change wpAny _ _ (exec (.If _ _ _ _) _) _ _ _
  repeat' (first
    | ((with_reducible show wpAny _ _ (compareOp CmpOp.NotIn _ _) _ _ _); (refine notin_list_ints hlA hv ?_); (rw [any_int]))
    | ((fail_if_success (with_reducible show wpAny _ _ (call (.ref _) _) _ _ _)); first | walk1 | (dsimp only; walk1)))
  · rename deedOf kk acted ∈ acted => c
    have e := skip hI c hk
    rw [e] at M
    exact hQ s.heap s.toks m D ps acted F M x hI hlo hz hz1 (Nat.le_succ _) hn5
  · rename ¬ deedOf kk acted ∈ acted => c
    obtain ⟨e, hI'⟩ := acts hI c hk
    rw [e] at M
    refine use_out (dueA hk (CB.keeps F.keep) ⟨r.hh, by have := r.hd; omega, by have := r.hu; omega⟩ x.P (by omega) fun p hp => by have := (hlo p hp).len; omega) ?_
    rintro v h₁ tk₁ ⟨D', rfl, P₁, hD'⟩ k₁
    have F₁ := Fr.ext' F k₁
    refine wpAny_storeName_local (by rfl) F₁.ns (fun h₂ hn₂ hs₂ => ?_) (by rfl)
    have F₂ := F₁.set hn₂ hs₂
    have hacD : D' ≠ ac := by rintro rfl; rw [eA] at hD'; cases hD'
    have x₁ : Hp L ac hD I hs j h₁ D' (dueGo kk [] ps) acted := by
      obtain ⟨a1, _, _, a4, a5, a6, a7⟩ := x.ext k₁
      exact ⟨a1, P₁, hacD, a4, a5, a6, a7⟩
    have x₂ := x₁.extL F₁.ns fun b o hb e => hs₂.extBut b o hb e
    obtain ⟨vs₂, nn₂, hv₂, eA₂⟩ := x₂.A
    clear F F₁ N
    have N₂ : News (hideAll h₀ [150]) L h₂ [] := News.nil
    have ha₂ : (fun y => if y = Str.ofString "pairs" then some (.ref D') else m y) (Str.ofString "acted") = some (.ref ac) := (if_neg (by decide +kernel)).trans ha
    have hd₂ : (fun y => if y = Str.ofString "pairs" then some (.ref D') else m y) (Str.ofString "deed") = some (.int (deedOf kk acted : Nat) t) := (if_neg (by decide +kernel)).trans hdd
    repeat ((fail_if_success (with_reducible show wpAny _ _ (eval (Expr.Call (Expr.Attribute _ _ _) _ _ _) _) _ _ _)); first | walk1 | (dsimp only; walk1))
    refine MethodCall_ ?_
    refine nameX_L F₂ ha₂ ?_ (by rfl) (by rfl)
    refine getMethod_builtin ⟨_, eA₂, rfl⟩ PySem.F.plainAttrs_list PySem.F.slot_list_append PySem.F.type_list_append (fun a e => by cases e; exact ⟨_, eA₂, rfl⟩) ?_
    dsimp only
    repeat ((fail_if_success (with_reducible show wpAny _ _ (call (.builtin "list.append") _) _ _ _)); first | walk1 | (dsimp only; walk1))
    have hsz : vs₂.toArray.size ≤ sizeLine := by
      have := hv₂.length
      rw [List.length_map] at this
      rw [List.size_toArray, sizeLine_eq]; omega
    refine wpAny_list_append_plain (hsz := hsz) ⟨nn₂, eA₂⟩ fun h₃ hl₃ hs₃ => ?_
    obtain ⟨nn₃, e₃⟩ := hl₃
    have hLac : L ≠ ac := Ne.symm (list_ne_ns (xs := vs₂.toArray) ⟨_, eA₂, rfl, _, rfl⟩ F₂.ns)
    have F₃ : Fr (hideAll h₀ [150]) L h₃ _ := ⟨F₂.ns.at' fun o e => hs₃.extBut L o hLac e, fun b o e => hs₃.extBut b o (by rintro rfl; rw [hBac] at e; cases e) (F₂.keep b o e), F₂.above⟩
    have x₃ : Hp L ac hD I hs j h₃ D' (dueGo kk [] ps) (acted ++ [deedOf kk acted]) := x₂.acted' (vs := vs₂ ++ [.int (deedOf kk acted : Nat) t]) (nn := nn₃) (by
      rw [List.map_append]
      exact IntsAre.append hv₂ (.cons _ _ .nil)) (by rw [e₃]; simp) fun b o hb e => hs₃.extBut b o hb e
    repeat (first | walk1 | (dsimp only; walk1))
    refine hQ h₃ _ _ D' _ _ F₃ ⟨⟨_, (if_neg (by decide +kernel)).trans M.text.choose_spec⟩, if_pos rfl, ha₂, trivial⟩ x₃ hI' (low_due hk hlo) ?_ ?_ (by simp) (Nat.le_of_lt F₃.ns.lt)
    · by_cases k1 : kk = 1
      · subst k1
        have h1 : 1 ∉ acted := by simpa [deedOf] using c
        have := len_due1 hlo
        have := hz1 h1
        omega
      · have := len_due hk k1 ps
        omega
    · intro h1
      have h1' : 1 ∉ acted := fun q => h1 (List.mem_append_left _ q)
      have k1 : kk ≠ 1 := by
        rintro rfl
        exact h1 (List.mem_append_right _ (by simp [deedOf]))
      have := len_due hk k1 ps
      have := hz1 h1'
      omega
theorem turn4 {B : Heap} {L ac hD I D : Addr} {hs : List Value} {j : Nat} {ps : List Pr} {acted : List Nat} {m : Str → Option Value} {Q : Flow → Shared → Prop}
    (CB : Cx w mg mb B) (r : Rm A 12) (F : Fr B L s.heap m) (M : Ms L ac D (ofL (txt ps)) m) (x : Hp L ac hD I hs j s.heap D ps acted) (hg : ∀ p ∈ ps, GoodP p) (hz : ps.length ≤ 40)
    (hQ : ∀ h' tk, Fr B L h' m → Hp L ac hD I hs j h' D ps acted → @LE.le Nat _ L h'.objs.size → Q .next { s with heap := h', toks := tk }) :
    wpAny (model pw w) A (exec t4S (envL L)) Q E s := by
  have hh : A.handled = none := r.hh
  have X := CB.X
  have T := CB.T
  have N : News B L s.heap [] := News.nil
  obtain ⟨t, ht⟩ := M.text
  have hp := M.pairs
  change wpAny _ _ (exec (.If _ _ _ _) _) _ _ _
  repeat ((fail_if_success (with_reducible show wpAny _ _ (eval (Expr.ListComp _ _ _ _) _) _ _ _)); first | walk1 | (dsimp only; walk1))
  refine comp_signs hh F x.P (by omega) (by decide +kernel) (by decide +kernel) (by rfl) (by decide +kernel) (by rfl) (by rfl) (fun Q q => nameX_L F hp q (by rfl) (by rfl)) (fun C v s₃ m₃ E' Q hn hm q => nm_loc hn hm q) fun D₁ h₁ tk₁ vs hvs hl₁ k₁ => ?_
  have F₁ := Fr.ext' F k₁
  have x₁ := x.ext k₁
  clear F N
  have N₁ : News B L h₁ [] := News.nil
  iterate 1 walk1
  refine join_listW hl₁ hvs (by decide +kernel) (weight_of (n := ps.length) (by rw [List.length_map]; exact Nat.le_refl _) (fun y hy => ?_) (by omega)) fun t' k' => ?_
  · obtain ⟨q, hq, rfl⟩ := List.mem_map.mp hy
    obtain ⟨c, hc, _⟩ := (hg q hq).one
    rw [hc]; exact (by decide : 1 ≤ 18)
  rw [join_glue, flat_txt]
  repeat' (first | walk1 | (dsimp only; walk1))
  · rename (ofL (txt ps) != ofL (txt ps)) = true => q
    simp at q
  · exact hQ h₁ _ F₁ x₁ (Nat.le_of_lt F₁.ns.lt)
end
end

end Mine
end

section
open PySem PySem.W PySem.Calls PyProof.Rows PyProof.V
set_option Elab.async false
set_option maxRecDepth 100000
set_option maxHeartbeats 1000000
namespace Mine
section
variable {w : World} {A : Around} {s : Shared} {mg mb : Str → Option Value} {E : Value → Shared → Prop}
/-- between two turns -/
noncomputable def LoopI (h₀ : Heap) (L ac hD I : Addr) (hs : List Value) (s : Shared) (n : Nat) (s' : Shared) : Prop :=
  ∃ h' tk m' D ps acted j, s' = { s with heap := h', toks := tk } ∧ Fr (hideAll h₀ [150]) L h' m' ∧ Ms L ac D (ofL (txt ps)) m' ∧ Hp L ac hD I hs j h' D ps acted ∧ Inv acted ps ∧ (∀ p ∈ ps, LowP p) ∧ ps.length ≤ 40 ∧ (1 ∉ acted → ps.length ≤ 10) ∧
    acted.length ≤ j ∧ j ≤ hs.length ∧ n = hs.length + 1 - j ∧ @LE.le Nat _ L h'.objs.size
theorem loop_c {g h₀ : Heap} {L ac hD D : Addr} {hs : List Value} {ps : List Pr} {m : Str → Option Value} {Q : Flow → Shared → Prop}
    (C : Cx w mg mb g) (g5 : g.get? 150 = none) (BA : g.BuiltinsAt mg 150) (CB : Cx w mg mb (hideAll h₀ [150])) (gB : ∀ b o, g.get? b = some o → (hideAll h₀ [150]).get? b = some o) (r : Rm A 12) (hBac : (hideAll h₀ [150]).get? ac = none) (hBI : ∀ b, s.heap.objs.size ≤ b → (hideAll h₀ [150]).get? b = none)
    (F : Fr (hideAll h₀ [150]) L s.heap m) (M : Ms L ac D (ofL (txt ps)) m) (hm : m (Str.ofString "hands") = some (.ref hD)) (T5 : Tab5 L s.heap) (P : PairsAt s.heap D ps) (Dac : D ≠ ac) (eA : s.heap.get? ac = some (W.listOf #[] 0)) (H : s.heap.IsList hD hs.toArray) (hne : hD ≠ ac)
    (hI : Inv [] ps) (hlo : ∀ p ∈ ps, LowP p) (hz : ps.length ≤ 10) (hhs : hs.length = 12) (hv : ∀ v ∈ hs, ∃ (k : Nat) (u : Tok), k < 5 ∧ v = .int k u)
    (hQ : ∀ h' tk m', Fr (hideAll h₀ [150]) L h' m' → Tab5 L h' → Q .next { s with heap := h', toks := tk }) :
    wpAny (model pw w) A (exec loopS (envL L)) Q E s := by
  have hh : A.handled = none := r.hh
  change wpAny _ _ (exec (.For (.Name _ _) (.Name _ _) [_, _, _, _] [] _) _) _ _ _
  refine wpAny_For (nameX_L F hm ?_ (by rfl) (by rfl)) (by intro _; rfl)
  obtain ⟨oH, hoH, _⟩ := id H
  refine wpAny_pyIter_list H ?_
  have up : ∀ b o, s.heap.get? b = some o → (s.heap.push { cls := .type "list_iterator", data := .fields #[.ref hD, .int 0 0] }).get? b = some o := fun b o e => Heap.get?_push_of_some _ e
  have hIB : (hideAll h₀ [150]).get? s.heap.objs.size = none := hBI _ (Nat.le_refl _)
  have hIL : L ≠ s.heap.objs.size := Nat.ne_of_lt F.ns.lt
  refine codeAny_forLoop (LoopI h₀ L ac hD s.heap.objs.size hs s) ?_ 13
    ⟨_, _, m, D, ps, [], 0, rfl, F.push _, M, ⟨T5.ext up, P.keeps up, Dac, ⟨[], 0, .nil, up _ _ eA⟩, ⟨_, Heap.get?_push_size _ rfl, rfl, rfl⟩, H.push _, hne⟩, hI, hlo, by omega, fun _ => hz, Nat.le_refl _, Nat.zero_le _, by rw [hhs], ?_⟩ (by intro _; rfl)
  rotate_left
  · exact Nat.le_of_lt (F.push _).ns.lt
  rintro n s' ⟨h₁, tk₁, m₁, D₁, ps₁, acted, j, rfl, F₁, M₁, x₁, hI₁, hlo₁, hz₁, hz1₁, haz, hj, rfl, hsz⟩
  have keepI : ∀ (h₂ : Heap), (∀ b o, b ≠ s.heap.objs.size → h₁.get? b = some o → h₂.get? b = some o) → Fr (hideAll h₀ [150]) L h₂ m₁ := fun h₂ k => ⟨F₁.ns.at' fun o e => k L o hIL e, fun b o e => k b o (by rintro rfl; rw [hIB] at e; cases e) (F₁.keep b o e), F₁.above⟩
  have n5 : (150 : Addr) ≠ s.heap.objs.size := by
    obtain ⟨_, e⟩ := T5.obj
    exact Nat.ne_of_lt (Heap.lt_size e)
  have tabI : ∀ (h₂ : Heap), (∀ b o, b ≠ s.heap.objs.size → h₁.get? b = some o → h₂.get? b = some o) → Tab5 L h₂ := fun h₂ k => by
    rcases x₁.T5.out with q | ⟨c', q1, q2, c₁, oc, vs, tq, z1, z2, z3, z4⟩
    · exact ⟨.inl (k _ _ n5 q)⟩
    · refine ⟨.inr ⟨c', q1, k _ _ n5 q2, c₁, oc, vs, tq, z1, k _ _ ?_ z2, z3, z4⟩⟩
      intro q
      obtain ⟨o, ho, _, hd⟩ := x₁.I
      rw [← q, z2] at ho
      cases ho
      rw [z3] at hd
      cases hd
      cases z4
  cases hvj : hs.toArray[j]? with
  | none =>
    refine wpAny_pyNext_list_end hh x₁.I x₁.H hvj fun h₂ he₂ => wpAny_execs_nil ?_
    exact hQ h₂ _ m₁ (keepI h₂ he₂) (tabI h₂ he₂)
  | some v =>
    have hvj' : hs[j]? = some v := by simpa using hvj
    obtain ⟨kk, u, hk, rfl⟩ := hv v (List.mem_of_getElem? hvj')
    have hjl : j < hs.length := (List.getElem?_eq_some_iff.mp hvj').1
    refine wpAny_pyNext_list_item x₁.I x₁.H hvj fun h₂ hit₂ hs₂ => ?_
    have x₂ : Hp L ac hD s.heap.objs.size hs (j + 1) h₂ D₁ ps₁ acted := by
      have kl : ∀ b xs, h₁.IsList b xs → h₂.IsList b xs := fun b xs hl => hl.at fun o e => hs₂.extBut _ _ (Ne.symm (list_ne_iter hl x₁.I)) e
      obtain ⟨a1, a2, a3, ⟨vs, nn, hvv, e⟩, a5, a6, a7⟩ := x₁
      exact ⟨tabI h₂ hs₂.extBut, a2.ext' kl, a3, ⟨vs, nn, hvv, hs₂.extBut _ _ (Ne.symm (list_ne_iter (xs := vs.toArray) ⟨_, e, rfl, _, rfl⟩ a5)) e⟩, hit₂, kl _ _ a6, a7⟩
    have F₂ := keepI h₂ hs₂.extBut
    refine wpAny_assign_Name (wpAny_storeName_local (by rfl) F₂.ns (fun h₃ hn₃ hs₃ => ?_) (by rfl))
    have F₃ := F₂.set hn₃ hs₃
    have x₃ := x₂.extL F₂.ns fun b o hb e => hs₃.extBut b o hb e
    have M₃ : Ms L ac D₁ (ofL (txt ps₁)) (fun y => if y = Str.ofString "hand" then some (.int kk u) else m₁ y) := ⟨⟨_, (if_neg (by decide +kernel)).trans M₁.text.choose_spec⟩, (if_neg (by decide +kernel)).trans M₁.pairs, (if_neg (by decide +kernel)).trans M₁.acted, trivial⟩
    refine wpAny_mono (?_ : wpAny _ _ (execs _ _) (StepW (fun s₃ => LoopI h₀ L ac hD s.heap.objs.size hs s (hs.length + 1 - (j + 1)) s₃) (fun _ _ => False)) _ _) (fun f s₃ h₃ => ?_) fun _ _ e => e
    · change wpAny _ _ (execs [.Assign [.Name _ _] (.Call (.Name _ _) [.Name _ _, .Name _ _] [] _) _, t2S, t3S, t4S] _) _ _ _
      iterate 1 walk1
      refine turn1 (rest := []) C g5 BA CB gB (Nat.le_of_lt hn₃.lt) r F₃ M₃ (if_pos rfl) hk x₃ hI₁.good hlo₁ hz₁ fun h₄ tk₄ m₄ F₄ M₄ hm₄ x₄ hs₄ => ?_
      iterate 1 (first | walk1 | (dsimp only; walk1))
      refine turn2 CB r F₄ M₄ hm₄ hk x₄ fun h₅ tk₅ m₅ t₅ F₅ M₅ hm₅ hd₅ x₅ hs₅ => ?_
      iterate 1 (first | walk1 | (dsimp only; walk1))
      refine turn3 CB r F₅ M₅ hm₅ hd₅ hk x₅ hI₁ hlo₁ hz₁ hz1₁ (by omega) hBac (fun h₆ tk₆ m₆ D₆ ps₆ ac₆ F₆ M₆ x₆ hI₆ hlo₆ hz₆ hz1₆ haz₆ hs₆ => ?_) hs₅
      iterate 1 (first | walk1 | (dsimp only; walk1))
      refine turn4 CB r F₆ M₆ x₆ hI₆.good hz₆ fun h₇ tk₇ F₇ x₇ hs₇ => ?_
      iterate 1 (first | walk1 | (dsimp only; walk1))
      exact ⟨h₇, _, m₆, D₆, ps₆, ac₆, j + 1, rfl, F₇, M₆, x₇, hI₆, hlo₆, hz₆, hz1₆, by omega, hjl, rfl, hs₇⟩
    · cases f with
      | next => exact ⟨_, by omega, h₃⟩
      | cont => exact ⟨_, by omega, h₃⟩
      | brk => exact h₃.elim
      | ret v => exact h₃.elim
end
end Mine
end

section
open PySem PySem.W PySem.Calls PyProof.Rows PyProof.V
set_option Elab.async false
set_option maxRecDepth 100000
set_option maxHeartbeats 1000000
namespace Mine
noncomputable abbrev tabObj0 : Obj := tabObj #[]
structure LawOut (s : Shared) (r : Result) (s' : Shared) : Prop where
  val : r = .ok (.ret (.bool true))
  keep : ∃ h' tk, s' = { s with heap := h', toks := tk } ∧ (∀ b o, b ≠ 150 → s.heap.get? b = some o → h'.get? b = some o) ∧ Tab5 s.heap.objs.size h'
section
variable {w : World} {A : Around} {s : Shared} {mg mb : Str → Option Value} {E : Value → Shared → Prop}
theorem law_c {a : Addr} {vs : List Value} {ns : List Int} {g : Heap} (C : Cx w mg mb g) (k : ∀ b o, g.get? b = some o → s.heap.get? b = some o) (g5 : g.get? 150 = none) (BA : g.BuiltinsAt mg 150) (h5 : s.heap.get? 150 = some tabObj0) (r : Rm A 14)
    (hl : s.heap.IsList a vs.toArray) (hi : IntsAre vs ns) (hz : ns.length ≤ 63) :
    codeAny (model pw w) A (.call (.ref 170) ⟨[.ref a], []⟩) (fun r s' => LawOut s r s') s := by
  have CB : Cx w mg mb (hideAll s.heap [150]) := C.hide k (by intro b hb; rw [List.mem_singleton.mp hb]; exact g5)
  refine Mine.call_cells_ret (name := Str.ofString "law") (params := fP (st 16)) (body := fB (st 16)) (scope := fS (st 16)) (binds := [(Str.ofString "script", .ref a)]) r.room (k _ _ (C.X 170 _ rfl)) rfl (C.T.nolimit.keeps k) (codeRec_of (C.X.keeps k) (by kernel_rfl)) (by rfl) (fun n x hx => ?_) (by decide +kernel) (fun h₁ tk cells F N CA => ?_) rfl rfl rfl
  · rw [List.mem_singleton.mp hx]; exact .inl rfl
  have e : cellsFrom (s.heap.objs.size + 1) (fS (st 16)).names [] = [(Str.ofString "row", s.heap.objs.size + 1)] := by rfl
  rw [e] at CA
  cases CA
  rename CellsAre _ _ _ => CA
  cases CA
  rename_i oc hoc
  have hh : A.handled = none := r.hh
  have hl' : (hideAll s.heap [150]).IsList a vs.toArray := by
    obtain ⟨o, ho, hc, n, hd⟩ := hl
    refine ⟨o, hideAll_get _ ho fun q => ?_, hc, n, hd⟩
    rw [List.mem_singleton.mp q, h5] at ho
    cases ho; cases hc
  have F₀ : Fr (hideAll s.heap [150]) s.heap.objs.size h₁ _ := ⟨F.ns, fun b o e => F.keep b o (of_hideAll _ e), Nat.le_of_eq (hideAll_size _ _)⟩
  have N₀ : News (hideAll s.heap [150]) s.heap.objs.size h₁ [(s.heap.objs.size + 1, oc), (150, tabObj0)] := by
    have n1 := N _ (.head _)
    refine List.forall_mem_cons.mpr ⟨⟨n1.1, n1.2.1, ?_⟩, List.forall_mem_cons.mpr ⟨⟨F.keep _ _ h5, Nat.ne_of_lt (Heap.lt_size h5), hideAll_none _ (.head _)⟩, List.forall_mem_nil _⟩⟩
    cases q : (hideAll s.heap [150]).get? (s.heap.objs.size + 1) with
    | none => rfl
    | some o => have := of_hideAll _ q; rw [n1.2.2] at this; cases this
  have hoc' : oc.data = .cell none := hoc
  have l0 : @LT.lt Nat _ 150 (s.heap.objs.size + 1) := Nat.lt_succ_of_lt (Heap.lt_size h5)
  clear F N hoc
  have X := CB.X
  have T := CB.T
  change wpAny _ _ (execs [_, _, _, _, _, _, _, _] _) _ _ _
  repeat ((fail_if_success (with_reducible show wpAny _ _ (storeName _ _ _) _ _ _)); first | walk1 | (dsimp only; walk1))
  rename News _ _ _ _ => N₁
  rename Fr _ _ _ _ => F₁
  have N₁' := News.tail1 (News.tail1 N₁)
  refine storeX_C F₁ N₁' (c := s.heap.objs.size + 1) (o := oc) (by rfl) (by k_updF) hoc' (fun h₂ oc₂ F₂ N₂ hoc₂ => ?_) (by rfl) (by rfl)
  have e150 : h₂.get? 150 = some tabObj0 := (N₂ _ (.tail _ (.head _))).1
  clear F₁ N₁ N₁'
  have gB : ∀ b o, g.get? b = some o → (hideAll s.heap [150]).get? b = some o := fun b o e => hideAll_get _ (k b o e) fun q => by rw [List.mem_singleton.mp q, g5] at e; cases e
  iterate 1 (first | walk1 | (dsimp only; walk1))
  have rr : Rm (A.deeper (envOfC (Str.ofString "law") (fS (st 16)) s.heap.objs.size 170 (Value.ref 169))) 12 := ⟨r.hh, by have := r.hd; show A.depth + 1 + 12 ≤ 900; omega, by have := r.hu; show A.units + 3 + 3 * 12 ≤ 900; omega⟩
  have rr3 : Rm (A.deeper (envOfC (Str.ofString "law") (fS (st 16)) s.heap.objs.size 170 (Value.ref 169))) 3 := ⟨r.hh, by have := rr.hd; omega, by have := rr.hu; omega⟩
  show wpAny _ _ (exec hndS (envL s.heap.objs.size)) _ _ _
  refine hands_c rr.hh CB F₂ N₂ hoc₂ fun h₃ tk₃ hD hvs nn₃ F₃ N₃ hlen hvals => ?_
  iterate 1 (first | walk1 | (dsimp only; walk1))
  show wpAny _ _ (exec prsS (envL s.heap.objs.size)) _ _ _
  refine pairs_c rr3 CB F₃ N₃ hl' hi hz (by first | rfl | assumption | (repeat (first | rfl | assumption | (refine (if_neg (by decide +kernel)).trans ?_) | (refine (if_pos rfl).trans ?_)))) fun h₄ tk₄ D ps F₄ N₄ P₄ hg hlo hlen4 => ?_
  clear F₂ N₂ F₃ N₃
  iterate 1 (first | walk1 | (dsimp only; walk1))
  show wpAny _ _ (exec heldS (envL s.heap.objs.size)) _ _ _
  refine held_c rr3 CB F₄ (if_pos rfl) P₄ hg (by omega) fun h₅ tk₅ H F₅ k₅ hH0 hHl => ?_
  have P₅ : PairsAt h₅ D ps := P₄.ext' fun b xs q => q.at fun o e => k₅ _ _ (list_ne_ns q F₄.ns) e
  have N₅ : News (hideAll s.heap [150]) s.heap.objs.size h₅ _ := fun p hp => ⟨k₅ _ _ (N₄ p hp).2.1 (N₄ p hp).1, (N₄ p hp).2⟩
  clear F₄ N₄
  iterate 1 (first | walk1 | (dsimp only; walk1))
  show wpAny _ _ (exec ifS (envL s.heap.objs.size)) _ _ _
  refine if_c rr3 CB F₅ ((if_neg (by decide +kernel)).trans (if_pos rfl)) (if_pos rfl) P₅ (by omega) hHl fun h₆ tk₆ F₆ k₆ => ?_
  have P₆ := P₅.keeps k₆
  have N₆ := News.ext' N₅ k₆
  clear F₅ N₅
  iterate 1 (first | walk1 | (dsimp only; walk1))
  show wpAny _ _ (exec taS (envL s.heap.objs.size)) _ _ _
  obtain ⟨pn, Np, Pn, _⟩ := pairsN_of F₆ P₆
  have N₇ : News (hideAll s.heap [150]) s.heap.objs.size h₆ ((hD, W.listOf hvs.toArray nn₃) :: (150, tabObj0) :: pn) := List.forall_mem_cons.mpr ⟨N₆ _ (.head _), List.forall_mem_cons.mpr ⟨N₆ _ (.tail _ (.tail _ (.head _))), Np⟩⟩
  have Pn' := Pn.mono (pn' := (150, tabObj0) :: pn) fun p hp => .tail _ hp
  refine ta_c rr3 CB F₆ N₇ ((if_neg (by decide +kernel)).trans (if_pos rfl)) Pn' hg (by omega) fun h₈ tk₈ ac u m' F₈ hm8 hte hac N₈ hlt8 hDac => ?_
  clear F₆ N₆ N₇ Np
  iterate 1 (first | walk1 | (dsimp only; walk1))
  show wpAny _ _ (exec loopS (envL s.heap.objs.size)) _ _ _
  have NB := N₈ _ (.head _)
  have P₈ : PairsAt h₈ D ps := Pn'.at F₈ fun p hp => N₈ p (.tail _ (.tail _ hp))
  have Dac : D ≠ ac := by
    obtain ⟨o, items, n, hDh, _⟩ := Pn'
    rintro rfl
    rcases hDh with q | q
    · exact Nat.lt_irrefl _ (hlt8 _ q)
    · rw [NB.2.2] at q; cases q
  refine loop_c C g5 BA CB gB rr NB.2.2 (fun b hb => ?_) F₈ ⟨⟨u, hte⟩, (hm8 _ (by decide +kernel) (by decide +kernel)).trans ((if_neg (by decide +kernel)).trans (if_pos rfl)), hac, trivial⟩ ((hm8 _ (by decide +kernel) (by decide +kernel)).trans ((if_neg (by decide +kernel)).trans ((if_neg (by decide +kernel)).trans (if_pos rfl)))) ⟨.inl (N₈ _ (.tail _ (.tail _ (.head _)))).1⟩ P₈ Dac NB.1 ⟨_, (N₈ _ (.tail _ (.head _))).1, rfl, _, rfl⟩ (Nat.ne_of_lt hDac) (Inv.start hg) hlo hlen4 hlen hvals fun h₉ tk₉ m₉ F₉ T₉ => ?_
  · cases q : (hideAll s.heap [150]).get? b with
    | none => rfl
    | some o =>
      have q1 := Heap.lt_size q
      have q2 := F₈.ns.lt
      have q3 := F₈.above
      exact absurd (Nat.lt_of_lt_of_le q2 (Nat.le_trans hb (Nat.le_of_lt (Nat.lt_of_lt_of_le q1 q3)))) (Nat.lt_irrefl _)
  clear F₈ N₈
  have N₉ : News (hideAll s.heap [150]) s.heap.objs.size h₉ [] := News.nil
  repeat (first | walk1 | (dsimp only; walk1))
  exact ⟨rfl, h₉, tk₉, rfl, fun b o hb e => F₉.keep b o (hideAll_get _ e fun q => hb (List.mem_singleton.mp q)), T₉⟩
end
end Mine
end

section
open PySem PySem.W PySem.Calls PyProof.Rows PyProof.V
set_option Elab.async false
set_option maxRecDepth 100000
set_option maxHeartbeats 8000000
namespace Mine
noncomputable section
abbrev rw1 : OpenRow := PySem.Challenge.rw_sc0084_01.row
noncomputable abbrev hook1 : Hook := kmHook K0 as0 as0_K0 [150]
theorem looks4 (w : World) : (fun os => hook1.obs ⟨H1 w.params, #[], {}, tk17, os⟩) = fun (_ : OsState) => hook1.val w := by kernel_rfl
theorem left_pw1 : LeftO pw q0 loose0 Xt0 hook1.obs hook1.val 40000 true :=
  LeftO.of_pieces (H₀ := boot_heap) (H₁ := H1) (gs₀ := #[]) (gs₁ := #[]) (d₀ := boot_drawn) (d₁ := {}) (k₀ := boot_toks) (k₁ := tk17) (m₀ := 11) (ann := some (.ref 6)) (M := M0) boot_pw size_pw run_pw le_pw
    (fun w => by
      have a := looks1 w; have b := looks2 w; have c := looks4 w
      funext os
      exact Prod.ext (congrFun a os) (Prod.ext (congrFun b os) (congrFun c os)))
noncomputable abbrev Walk1 : Prop := WalkO q0 loose0 (XL q0 []) hook1.says rw1.toRowW ⟨Str.ofString "law", fP (st 16), fB (st 16), fS (st 16), ⟨129, 0, 145, 15⟩⟩ [] fun f vs => PySem.call f vs
theorem from_walk1 (walk : Walk1) : PySem.Challenge.rw_sc0084_01.Holds := by
  w_on
  refine holds_law (by kernel_rfl) fun said => ?_
  refine PySem.W.holds_open (r := rw1) (q := q0) (loose := loose0) (Xt := Xt0) (XP := XL q0 []) (Yf := hook1.obs) (Ya := hook1.val) (YP := hook1.says) (N := 40000) left_pw1 (Hook.of hook1) (Hook.keeps hook1)
    (fun s e => xl_of s (Bool.and_eq_true_iff.mp e).1) XL.keeps (by kernel_rfl) (by kernel_rfl) (by kernel_rfl) (fun s e => recFacts_of (Bool.and_eq_true_iff.mp e).2) (by kernel_rfl) (by assumption) (by decide +kernel) ⟨rfl, rfl, rfl, rfl, rfl, by decide +kernel⟩ ?hw walk
  w_witness2
end
theorem row_walk : Walk1 := by
  intro w s₀ s₁ mg mb G Y fa o pm cd doc dV kV ho hd hcd hD hmg hg args vals as hpre hlay hrd hwl hlo
  have KX := km_in_of Y
  have hT8 := km_tabs_of Y
  have X := (Ground.X G).1
  have V := (Ground.X G).2
  refine Ground.open G ?_
  intro T B D TE TW
  wrow_args hpre hlay hrd hwl hlo
  have e1 : mg (Str.ofString "law") = some (.ref 170) := mg_of KX T.g (by kernel_rfl)
  have e2 : mg (Str.ofString "law") = some (.ref fa) := hmg
  rw [e1] at e2
  cases e2
  have hT9 : TabsAt [((154 : Addr), (150 : Addr))] s₁.heap := List.forall_mem_cons.mpr ⟨⟨codeHd_of_K (c := 154) (P := 150) KX (by kernel_rfl), hT8 150 (.head _)⟩, List.forall_mem_nil _⟩
  have h5 : s₁.heap.get? 150 = some tabObj0 := hT8 150 (.head _)
  rename_i hL _ _ _ hI _ _ _
  rename Not _ => hc
  refine enter_call ?_
  refine kn_post hT9 (fun _ _ => rfl) ?_
  have T' : Top q0 loose0 (ExcName.means s₀.heap) mg mb s₁.heap := by
    have e : looseW q0 loose0 = loose0 := by kernel_rfl
    rw [← e]; exact T
  have CG : Cx w mg mb (ghostOf s₁.heap [((154 : Addr), (150 : Addr))]) := ⟨ghost_K hT9 KX (by kernel_rfl), ghost_ns hT9 T'.g, ghost_ns hT9 T'.b, (ghost_top hT9 T').nolimit, T'.builtins, (topRead_of T').free⟩
  have BA : (ghostOf s₁.heap [((154 : Addr), (150 : Addr))]).BuiltinsAt mg 150 := by
    obtain ⟨bm, ob, b1, b2, b3, b4, b5, b6⟩ := T'.bmain
    have hbP : bm ≠ 150 := fun q => by rw [q, h5] at b3; cases b3; cases b4
    have hbG : bm ≠ mainGlobals := fun q => by
      obtain ⟨o, es, ep, e, hd, _⟩ := T'.g
      rw [q, e] at b3; cases b3; rw [hd] at b6; cases b6
    exact ⟨bm, ob, b1, b2, hbG, hbP, ghost_get hT9 b3 (fun q => by rw [q] at b4; cases b4), b4, b5, b6⟩
  refine codeAny_mono (law_c CG (fun b o e => of_hideAll _ e) (hideAll_none _ (.head _)) BA h5 ⟨rfl, by decide +kernel, by decide +kernel⟩ hL hI (by omega)) ?_
  rintro r s' ⟨rfl, h', tk, rfl, hk, T5⟩
  refine ⟨⟨.inl ⟨_, .bool true, [], rfl, fun _ => rfl, ?_, ?_, fun _ => ⟨List.nodup_nil, fun a ha => nomatch ha⟩⟩, fun b o e => hk b o (fun q => ?_) (of_hideAll _ e), rfl, hg⟩, ?_, trivial⟩
  · w_reads
  · wrow_post
  · rw [q] at e; exact absurd ((hideAll_none [150] (.head _)).symm.trans e) (fun z => nomatch z)
  · rcases T5.out with q | ⟨c', _, q, _⟩
    · exact ⟨_, q⟩
    · exact ⟨_, q⟩
theorem row_holds : PySem.Challenge.rw_sc0084_01.Holds := from_walk1 row_walk
end Mine
end
theorem PySem.Challenge.cw_sc0084_01_holds : PySem.Challenge.rw_sc0084_01.Holds :=
  Mine.row_holds
