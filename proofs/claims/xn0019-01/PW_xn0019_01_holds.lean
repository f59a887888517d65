import PyProof.Rows.All
import Wide.All
import OpenK.AllK
import Wide.FinOn
import Lean
import PySem.Challenge.RW_xn0019_01
set_option Elab.async false
section
open PySem PySem.W PyProof.Rows
set_option maxRecDepth 100000
set_option linter.unusedVariables false
namespace Mine
noncomputable section
abbrev pw : Program := PySem.Challenge.pw_xn0019_01
def top (i : Nat) : Stmt := pw.main.body.getD i (.Pass default)
def fn (i : Nat) : Stmt := top i
def mt (i j : Nat) : Stmt := match top i with
  | .ClassDef (body := b) .. => b.getD j (.Pass default)
  | _ => .Pass default
def fP : Stmt → Arguments
  | .FunctionDef _ a _ _ _ _ _ _ _ _ => a
  | _ => default
def fB : Stmt → List Stmt
  | .FunctionDef _ _ b _ _ _ _ _ _ _ => b
  | _ => []
def fS : Stmt → Scope
  | .FunctionDef _ _ _ _ _ _ s _ _ _ => s
  | _ => default
def lf : Life := {}
def prs : List (Int × Str) := match top 2 with
  | .Assign _ (.Dict ks vs _) _ => (ks.zip vs).map fun x => match x with
    | (some (.Constant (.int i) _ _), .Constant (.str s) _ _) => (i, s)
    | _ => (0, Str.empty)
  | _ => []
def entriesFrom (t : Nat) : List (Int × Str) → List DictEntry
  | [] => []
  | x :: r => ⟨x.1, .int x.1 t, .str x.2 (t + 1)⟩ :: entriesFrom (t + 3) r
abbrev dictObj (es : List DictEntry) (n : Nat) : Obj := { cls := .type "dict", data := .dict es.toArray n }
def entriesTwo (t : Nat) : List (Int × Str) → List DictEntry
  | [] => []
  | x :: r => ⟨x.1, .int x.1 t, .str x.2 (t + 1)⟩ :: entriesTwo (t + 2) r
def subsOf : Nat → Nat → List (Int × Str) → List Obj
  | 0, _, _ => []
  | k + 1, t, l => dictObj (entriesFrom t (l.take 17)) 17 :: subsOf k (t + 51) (l.drop 17)
def subL : List Obj := subsOf 37 247 (prs.drop 17) ++ [dictObj (entriesTwo 2134 (prs.drop 646)) 4]
def subO (j : Nat) : Obj := subL.getD j { cls := .none }
def mainEs : List DictEntry := entriesFrom 196 (prs.take 646) ++ entriesTwo 2134 (prs.drop 646)
def o11 (P : Params) : Obj := { cls := (.type "tuple"), dict := none, data := .seq #[] 0, slots := #[] }
def o12 (P : Params) : Obj := { cls := .none, dict := none, data := .fields #[], slots := #[] }
def o13 (P : Params) : Obj := { cls := (.type "code"), dict := none, data := .fields #[(.str "<module>" 182), (.str "<module>" 183), (.str "/claim/cut.py" 184), (.int 1 0), (.int 0 0), (.int 0 0), (.int 0 0), (.int 0 0), (.ref 11), (.bool false), (.int 181 0), (.ref 12), .none, .none, .none, .none, (.int 185 0), (.int 1 0), (.str "/claim/cut.py" 186)], slots := #[] }
def o14 (P : Params) : Obj := { cls := (.type "frame"), dict := none, data := .plain, slots := #[(some (.ref 13)), (some (.ref 3)), (some (.ref 3)), none, (some (.str "__main__" 164)), none, (some (.ref 0))] }
def t_b (P : Params) : BT := (.node (boot_o_0 P) (.node (boot_o_1 P) (.node (boot_o_3 P) (.node (boot_o_7 P) .nil .nil) (.node (o11 P) .nil .nil)) (.node (boot_o_5 P) (.node (boot_o_9 P) .nil .nil) (.node (o13 P) .nil .nil))) (.node (boot_o_2 P) (.node (boot_o_4 P) (.node (boot_o_8 P) .nil .nil) (.node (o12 P) .nil .nil)) (.node (boot_o_6 P) (.node (boot_o_10 P) .nil .nil) (.node (o14 P) .nil .nil))))
abbrev x_b (w : World) (os : OsState) : SharedT := ⟨t_b w.params, 15, lf, #[], boot_drawn, 187, os⟩
def o3 (P : Params) : Obj := { cls := (.type "dict"), dict := none, data := .dict (List.toArray [⟨PyData.keyHash P "__name__", (.str "__name__" 165), (.str "cpy313.stringprep" 194)⟩, ⟨PyData.keyHash P "__doc__", (.str "__doc__" 166), .none⟩, ⟨PyData.keyHash P "__package__", (.str "__package__" 167), .none⟩, ⟨PyData.keyHash P "__loader__", (.str "__loader__" 168), (.builtin "__main__.__loader__#opaque")⟩, ⟨PyData.keyHash P "__spec__", (.str "__spec__" 169), .none⟩, ⟨PyData.keyHash P "__annotations__", (.str "__annotations__" 170), (.ref 6)⟩, ⟨PyData.keyHash P "__builtins__", (.str "__builtins__" 171), (.ref 4)⟩, ⟨PyData.keyHash P "__file__", (.str "__file__" 173), (.str "/claim/cut.py" 172)⟩, ⟨PyData.keyHash P "__cached__", (.str "__cached__" 174), .none⟩, ⟨PyData.keyHash P "_wall", (.str "_wall" 193), (.ref 21)⟩]) 10, slots := #[] }
def o12v1 (P : Params) : Obj := { cls := .none, dict := none, data := .fields #[(.int 1 0), (.int 0 0), (.ref 20)], slots := #[] }
def o15 (P : Params) : Obj := { cls := (.type "tuple"), dict := none, data := .seq #[] 0, slots := #[] }
def o16 (P : Params) : Obj := { cls := .none, dict := none, data := .fields #[], slots := #[] }
def o17 (P : Params) : Obj := { cls := (.type "tuple"), dict := none, data := .seq #[(.str "k" 190)] 0, slots := #[] }
def o18 (P : Params) : Obj := { cls := (.type "tuple"), dict := none, data := .seq #[] 0, slots := #[] }
def o19 (P : Params) : Obj := { cls := .none, dict := none, data := .func { name := "_wall", qualname := "_wall", params := fP (fn 0), body := .stmts (fB (fn 0)), scope := fS (fn 0), globals := 0, closure := [], defaults := .none, kwdefaults := .none, doc := .none, pyModule := .none, annotations := none, code := .none, closureTuple := .none, builtins := 0 }, slots := #[] }
def o20 (P : Params) : Obj := { cls := (.type "code"), dict := none, data := .fields #[(.str "_wall" 187), (.str "_wall" 188), (.str "/claim/cut.py" 189), (.int 1 0), (.int 1 0), (.int 0 0), (.int 0 0), (.int 3 0), (.ref 15), (.bool true), (.int 181 0), (.ref 16), .none, (.ref 17), (.ref 18), (.ref 19), (.int 191 0), (.int 1 0), (.str "/claim/cut.py" 192)], slots := #[] }
def o21 (P : Params) : Obj := { cls := (.type "function"), dict := none, data := .func { name := "_wall", qualname := "_wall", params := fP (fn 0), body := .stmts (fB (fn 0)), scope := fS (fn 0), globals := 3, closure := [], defaults := .none, kwdefaults := .none, doc := .none, pyModule := (.str "__main__" 164), annotations := none, code := (.ref 20), closureTuple := .none, builtins := 0 }, slots := #[] }
def t_s1 (P : Params) : BT := (.node (boot_o_0 P) (.node (boot_o_1 P) (.node (o3 P) (.node (boot_o_7 P) (.node (o15 P) .nil .nil) .nil) (.node (o11 P) (.node (o19 P) .nil .nil) .nil)) (.node (boot_o_5 P) (.node (boot_o_9 P) (.node (o17 P) .nil .nil) .nil) (.node (o13 P) (.node (o21 P) .nil .nil) .nil))) (.node (boot_o_2 P) (.node (boot_o_4 P) (.node (boot_o_8 P) (.node (o16 P) .nil .nil) .nil) (.node (o12v1 P) (.node (o20 P) .nil .nil) .nil)) (.node (boot_o_6 P) (.node (boot_o_10 P) (.node (o18 P) .nil .nil) .nil) (.node (o14 P) .nil .nil))))
abbrev x_s1 (w : World) (os : OsState) : SharedT := ⟨t_s1 w.params, 22, lf, #[], boot_drawn, 196, os⟩
def o3v1 (P : Params) : Obj := { cls := (.type "dict"), dict := none, data := .dict (List.toArray [⟨PyData.keyHash P "__name__", (.str "__name__" 165), (.str "cpy313.stringprep" 194)⟩, ⟨PyData.keyHash P "__doc__", (.str "__doc__" 166), .none⟩, ⟨PyData.keyHash P "__package__", (.str "__package__" 167), .none⟩, ⟨PyData.keyHash P "__loader__", (.str "__loader__" 168), (.builtin "__main__.__loader__#opaque")⟩, ⟨PyData.keyHash P "__spec__", (.str "__spec__" 169), .none⟩, ⟨PyData.keyHash P "__annotations__", (.str "__annotations__" 170), (.ref 6)⟩, ⟨PyData.keyHash P "__builtins__", (.str "__builtins__" 171), (.ref 4)⟩, ⟨PyData.keyHash P "__file__", (.str "__file__" 173), (.str "/claim/cut.py" 172)⟩, ⟨PyData.keyHash P "__cached__", (.str "__cached__" 174), .none⟩, ⟨PyData.keyHash P "_wall", (.str "_wall" 193), (.ref 21)⟩, ⟨PyData.keyHash P "b3_exceptions", (.str "b3_exceptions" 2146), (.ref 22)⟩]) 11, slots := #[] }
def o22 (_ : Params) : Obj := dictObj mainEs 650
def o23 (_ : Params) : Obj := subO 0
def o24 (_ : Params) : Obj := subO 1
def o25 (_ : Params) : Obj := subO 2
def o26 (_ : Params) : Obj := subO 3
def o27 (_ : Params) : Obj := subO 4
def o28 (_ : Params) : Obj := subO 5
def o29 (_ : Params) : Obj := subO 6
def o30 (_ : Params) : Obj := subO 7
def o31 (_ : Params) : Obj := subO 8
def o32 (_ : Params) : Obj := subO 9
def o33 (_ : Params) : Obj := subO 10
def o34 (_ : Params) : Obj := subO 11
def o35 (_ : Params) : Obj := subO 12
def o36 (_ : Params) : Obj := subO 13
def o37 (_ : Params) : Obj := subO 14
def o38 (_ : Params) : Obj := subO 15
def o39 (_ : Params) : Obj := subO 16
def o40 (_ : Params) : Obj := subO 17
def o41 (_ : Params) : Obj := subO 18
def o42 (_ : Params) : Obj := subO 19
def o43 (_ : Params) : Obj := subO 20
def o44 (_ : Params) : Obj := subO 21
def o45 (_ : Params) : Obj := subO 22
def o46 (_ : Params) : Obj := subO 23
def o47 (_ : Params) : Obj := subO 24
def o48 (_ : Params) : Obj := subO 25
def o49 (_ : Params) : Obj := subO 26
def o50 (_ : Params) : Obj := subO 27
def o51 (_ : Params) : Obj := subO 28
def o52 (_ : Params) : Obj := subO 29
def o53 (_ : Params) : Obj := subO 30
def o54 (_ : Params) : Obj := subO 31
def o55 (_ : Params) : Obj := subO 32
def o56 (_ : Params) : Obj := subO 33
def o57 (_ : Params) : Obj := subO 34
def o58 (_ : Params) : Obj := subO 35
def o59 (_ : Params) : Obj := subO 36
def o60 (_ : Params) : Obj := subO 37
def t_s2 (P : Params) : BT := (.node (boot_o_0 P) (.node (boot_o_1 P) (.node (o3v1 P) (.node (boot_o_7 P) (.node (o15 P) (.node (o31 P) .nil .nil) (.node (o47 P) .nil .nil)) (.node (o23 P) (.node (o39 P) .nil .nil) (.node (o55 P) .nil .nil))) (.node (o11 P) (.node (o19 P) (.node (o35 P) .nil .nil) (.node (o51 P) .nil .nil)) (.node (o27 P) (.node (o43 P) .nil .nil) (.node (o59 P) .nil .nil)))) (.node (boot_o_5 P) (.node (boot_o_9 P) (.node (o17 P) (.node (o33 P) .nil .nil) (.node (o49 P) .nil .nil)) (.node (o25 P) (.node (o41 P) .nil .nil) (.node (o57 P) .nil .nil))) (.node (o13 P) (.node (o21 P) (.node (o37 P) .nil .nil) (.node (o53 P) .nil .nil)) (.node (o29 P) (.node (o45 P) .nil .nil) .nil)))) (.node (boot_o_2 P) (.node (boot_o_4 P) (.node (boot_o_8 P) (.node (o16 P) (.node (o32 P) .nil .nil) (.node (o48 P) .nil .nil)) (.node (o24 P) (.node (o40 P) .nil .nil) (.node (o56 P) .nil .nil))) (.node (o12v1 P) (.node (o20 P) (.node (o36 P) .nil .nil) (.node (o52 P) .nil .nil)) (.node (o28 P) (.node (o44 P) .nil .nil) (.node (o60 P) .nil .nil)))) (.node (boot_o_6 P) (.node (boot_o_10 P) (.node (o18 P) (.node (o34 P) .nil .nil) (.node (o50 P) .nil .nil)) (.node (o26 P) (.node (o42 P) .nil .nil) (.node (o58 P) .nil .nil))) (.node (o14 P) (.node (o22 P) (.node (o38 P) .nil .nil) (.node (o54 P) .nil .nil)) (.node (o30 P) (.node (o46 P) .nil .nil) .nil)))))
abbrev x_s2 (w : World) (os : OsState) : SharedT := ⟨t_s2 w.params, 61, lf, #[], boot_drawn, 2147, os⟩
def o3v2 (P : Params) : Obj := { cls := (.type "dict"), dict := none, data := .dict (List.toArray [⟨PyData.keyHash P "__name__", (.str "__name__" 165), (.str "cpy313.stringprep" 194)⟩, ⟨PyData.keyHash P "__doc__", (.str "__doc__" 166), .none⟩, ⟨PyData.keyHash P "__package__", (.str "__package__" 167), .none⟩, ⟨PyData.keyHash P "__loader__", (.str "__loader__" 168), (.builtin "__main__.__loader__#opaque")⟩, ⟨PyData.keyHash P "__spec__", (.str "__spec__" 169), .none⟩, ⟨PyData.keyHash P "__annotations__", (.str "__annotations__" 170), (.ref 6)⟩, ⟨PyData.keyHash P "__builtins__", (.str "__builtins__" 171), (.ref 4)⟩, ⟨PyData.keyHash P "__file__", (.str "__file__" 173), (.str "/claim/cut.py" 172)⟩, ⟨PyData.keyHash P "__cached__", (.str "__cached__" 174), .none⟩, ⟨PyData.keyHash P "_wall", (.str "_wall" 193), (.ref 21)⟩, ⟨PyData.keyHash P "b3_exceptions", (.str "b3_exceptions" 2146), (.ref 22)⟩, ⟨PyData.keyHash P "map_table_b3", (.str "map_table_b3" 2154), (.ref 67)⟩]) 12, slots := #[] }
def o12v2 (P : Params) : Obj := { cls := .none, dict := none, data := .fields #[(.int 1 0), (.int 0 0), (.ref 20), (.int 6 0), (.int 0 0), (.ref 66)], slots := #[] }
def o61 (P : Params) : Obj := { cls := (.type "tuple"), dict := none, data := .seq #[] 0, slots := #[] }
def o62 (P : Params) : Obj := { cls := .none, dict := none, data := .fields #[], slots := #[] }
def o63 (P : Params) : Obj := { cls := (.type "tuple"), dict := none, data := .seq #[(.str "code" 2150), (.str "r" 2151)] 0, slots := #[] }
def o64 (P : Params) : Obj := { cls := (.type "tuple"), dict := none, data := .seq #[] 0, slots := #[] }
def o65 (P : Params) : Obj := { cls := .none, dict := none, data := .func { name := "map_table_b3", qualname := "map_table_b3", params := fP (fn 3), body := .stmts (fB (fn 3)), scope := fS (fn 3), globals := 0, closure := [], defaults := .none, kwdefaults := .none, doc := .none, pyModule := .none, annotations := none, code := .none, closureTuple := .none, builtins := 0 }, slots := #[] }
def o66 (P : Params) : Obj := { cls := (.type "code"), dict := none, data := .fields #[(.str "map_table_b3" 2147), (.str "map_table_b3" 2148), (.str "/claim/cut.py" 2149), (.int 6 0), (.int 1 0), (.int 0 0), (.int 0 0), (.int 3 0), (.ref 61), (.bool true), (.int 181 0), (.ref 62), .none, (.ref 63), (.ref 64), (.ref 65), (.int 2152 0), (.int 6 0), (.str "/claim/cut.py" 2153)], slots := #[] }
def o67 (P : Params) : Obj := { cls := (.type "function"), dict := none, data := .func { name := "map_table_b3", qualname := "map_table_b3", params := fP (fn 3), body := .stmts (fB (fn 3)), scope := fS (fn 3), globals := 3, closure := [], defaults := .none, kwdefaults := .none, doc := .none, pyModule := (.str "cpy313.stringprep" 194), annotations := none, code := (.ref 66), closureTuple := .none, builtins := 0 }, slots := #[] }
def t_s3 (P : Params) : BT := (.node (boot_o_0 P) (.node (boot_o_1 P) (.node (o3v2 P) (.node (boot_o_7 P) (.node (o15 P) (.node (o31 P) (.node (o63 P) .nil .nil) .nil) (.node (o47 P) .nil .nil)) (.node (o23 P) (.node (o39 P) .nil .nil) (.node (o55 P) .nil .nil))) (.node (o11 P) (.node (o19 P) (.node (o35 P) (.node (o67 P) .nil .nil) .nil) (.node (o51 P) .nil .nil)) (.node (o27 P) (.node (o43 P) .nil .nil) (.node (o59 P) .nil .nil)))) (.node (boot_o_5 P) (.node (boot_o_9 P) (.node (o17 P) (.node (o33 P) (.node (o65 P) .nil .nil) .nil) (.node (o49 P) .nil .nil)) (.node (o25 P) (.node (o41 P) .nil .nil) (.node (o57 P) .nil .nil))) (.node (o13 P) (.node (o21 P) (.node (o37 P) .nil .nil) (.node (o53 P) .nil .nil)) (.node (o29 P) (.node (o45 P) .nil .nil) (.node (o61 P) .nil .nil))))) (.node (boot_o_2 P) (.node (boot_o_4 P) (.node (boot_o_8 P) (.node (o16 P) (.node (o32 P) (.node (o64 P) .nil .nil) .nil) (.node (o48 P) .nil .nil)) (.node (o24 P) (.node (o40 P) .nil .nil) (.node (o56 P) .nil .nil))) (.node (o12v2 P) (.node (o20 P) (.node (o36 P) .nil .nil) (.node (o52 P) .nil .nil)) (.node (o28 P) (.node (o44 P) .nil .nil) (.node (o60 P) .nil .nil)))) (.node (boot_o_6 P) (.node (boot_o_10 P) (.node (o18 P) (.node (o34 P) (.node (o66 P) .nil .nil) .nil) (.node (o50 P) .nil .nil)) (.node (o26 P) (.node (o42 P) .nil .nil) (.node (o58 P) .nil .nil))) (.node (o14 P) (.node (o22 P) (.node (o38 P) .nil .nil) (.node (o54 P) .nil .nil)) (.node (o30 P) (.node (o46 P) .nil .nil) (.node (o62 P) .nil .nil))))))
abbrev x_s3 (w : World) (os : OsState) : SharedT := ⟨t_s3 w.params, 68, lf, #[], boot_drawn, 2155, os⟩
def o3v3 (P : Params) : Obj := { cls := (.type "dict"), dict := none, data := .dict (List.toArray [⟨PyData.keyHash P "__name__", (.str "__name__" 165), (.str "cpy313.stringprep" 194)⟩, ⟨PyData.keyHash P "__doc__", (.str "__doc__" 166), .none⟩, ⟨PyData.keyHash P "__package__", (.str "__package__" 167), .none⟩, ⟨PyData.keyHash P "__loader__", (.str "__loader__" 168), (.builtin "__main__.__loader__#opaque")⟩, ⟨PyData.keyHash P "__spec__", (.str "__spec__" 169), .none⟩, ⟨PyData.keyHash P "__annotations__", (.str "__annotations__" 170), (.ref 6)⟩, ⟨PyData.keyHash P "__builtins__", (.str "__builtins__" 171), (.ref 4)⟩, ⟨PyData.keyHash P "__file__", (.str "__file__" 173), (.str "/claim/cut.py" 172)⟩, ⟨PyData.keyHash P "__cached__", (.str "__cached__" 174), .none⟩, ⟨PyData.keyHash P "_wall", (.str "_wall" 193), (.ref 21)⟩, ⟨PyData.keyHash P "b3_exceptions", (.str "b3_exceptions" 2146), (.ref 22)⟩, ⟨PyData.keyHash P "map_table_b3", (.str "map_table_b3" 2154), (.ref 67)⟩, ⟨PyData.keyHash P "c7_set", (.str "c7_set" 2182), (.ref 69)⟩]) 13, slots := #[] }
def o68 (P : Params) : Obj := { cls := (.type "range"), dict := none, data := .fields #[(.int 12272 2155), (.int 12284 2156), (.int 1 2157)], slots := #[] }
def o69 (P : Params) : Obj := { cls := (.type "set"), dict := none, data := .set #[(12272, (.int 12272 2158)), (12273, (.int 12273 2160)), (12274, (.int 12274 2162)), (12275, (.int 12275 2164)), (12276, (.int 12276 2166)), (12277, (.int 12277 2168)), (12278, (.int 12278 2170)), (12279, (.int 12279 2172)), (12280, (.int 12280 2174)), (12281, (.int 12281 2176)), (12282, (.int 12282 2178)), (12283, (.int 12283 2180))] 13 { mask := 31, place := #[16, 17, 18, 19, 20, 21, 22, 23, 24, 25, 26, 27], dummies := #[], finger := 0, led := !(P.followText "set-order"), moves := 1, plain := true }, slots := #[] }
def o70 (P : Params) : Obj := { cls := (.type "range_iterator"), dict := none, data := .fields #[(.int 12284 0), (.int 0 0), (.int 1 0)], slots := #[] }
def o71 (P : Params) : Obj := { cls := (.type "tuple"), dict := none, data := .seq #[] 0, slots := #[] }
def o72 (P : Params) : Obj := { cls := (.type "StopIteration"), dict := none, data := .fields #[(.ref 71), .none, .none, .none, (.bool false), .none], slots := #[] }
def t_s4 (P : Params) : BT := (.node (boot_o_0 P) (.node (boot_o_1 P) (.node (o3v3 P) (.node (boot_o_7 P) (.node (o15 P) (.node (o31 P) (.node (o63 P) .nil .nil) .nil) (.node (o47 P) .nil .nil)) (.node (o23 P) (.node (o39 P) (.node (o71 P) .nil .nil) .nil) (.node (o55 P) .nil .nil))) (.node (o11 P) (.node (o19 P) (.node (o35 P) (.node (o67 P) .nil .nil) .nil) (.node (o51 P) .nil .nil)) (.node (o27 P) (.node (o43 P) .nil .nil) (.node (o59 P) .nil .nil)))) (.node (boot_o_5 P) (.node (boot_o_9 P) (.node (o17 P) (.node (o33 P) (.node (o65 P) .nil .nil) .nil) (.node (o49 P) .nil .nil)) (.node (o25 P) (.node (o41 P) .nil .nil) (.node (o57 P) .nil .nil))) (.node (o13 P) (.node (o21 P) (.node (o37 P) (.node (o69 P) .nil .nil) .nil) (.node (o53 P) .nil .nil)) (.node (o29 P) (.node (o45 P) .nil .nil) (.node (o61 P) .nil .nil))))) (.node (boot_o_2 P) (.node (boot_o_4 P) (.node (boot_o_8 P) (.node (o16 P) (.node (o32 P) (.node (o64 P) .nil .nil) .nil) (.node (o48 P) .nil .nil)) (.node (o24 P) (.node (o40 P) (.node (o72 P) .nil .nil) .nil) (.node (o56 P) .nil .nil))) (.node (o12v2 P) (.node (o20 P) (.node (o36 P) (.node (o68 P) .nil .nil) .nil) (.node (o52 P) .nil .nil)) (.node (o28 P) (.node (o44 P) .nil .nil) (.node (o60 P) .nil .nil)))) (.node (boot_o_6 P) (.node (boot_o_10 P) (.node (o18 P) (.node (o34 P) (.node (o66 P) .nil .nil) .nil) (.node (o50 P) .nil .nil)) (.node (o26 P) (.node (o42 P) .nil .nil) (.node (o58 P) .nil .nil))) (.node (o14 P) (.node (o22 P) (.node (o38 P) (.node (o70 P) .nil .nil) .nil) (.node (o54 P) .nil .nil)) (.node (o30 P) (.node (o46 P) .nil .nil) (.node (o62 P) .nil .nil))))))
abbrev x_s4 (w : World) (os : OsState) : SharedT := ⟨t_s4 w.params, 73, lf, #[], boot_drawn, 2183, os⟩
def o3v4 (P : Params) : Obj := { cls := (.type "dict"), dict := none, data := .dict (List.toArray [⟨PyData.keyHash P "__name__", (.str "__name__" 165), (.str "cpy313.stringprep" 194)⟩, ⟨PyData.keyHash P "__doc__", (.str "__doc__" 166), .none⟩, ⟨PyData.keyHash P "__package__", (.str "__package__" 167), .none⟩, ⟨PyData.keyHash P "__loader__", (.str "__loader__" 168), (.builtin "__main__.__loader__#opaque")⟩, ⟨PyData.keyHash P "__spec__", (.str "__spec__" 169), .none⟩, ⟨PyData.keyHash P "__annotations__", (.str "__annotations__" 170), (.ref 6)⟩, ⟨PyData.keyHash P "__builtins__", (.str "__builtins__" 171), (.ref 4)⟩, ⟨PyData.keyHash P "__file__", (.str "__file__" 173), (.str "/claim/cut.py" 172)⟩, ⟨PyData.keyHash P "__cached__", (.str "__cached__" 174), .none⟩, ⟨PyData.keyHash P "_wall", (.str "_wall" 193), (.ref 21)⟩, ⟨PyData.keyHash P "b3_exceptions", (.str "b3_exceptions" 2146), (.ref 22)⟩, ⟨PyData.keyHash P "map_table_b3", (.str "map_table_b3" 2154), (.ref 67)⟩, ⟨PyData.keyHash P "c7_set", (.str "c7_set" 2182), (.ref 69)⟩, ⟨PyData.keyHash P "in_table_c7", (.str "in_table_c7" 2189), (.ref 79)⟩]) 14, slots := #[] }
def o12v3 (P : Params) : Obj := { cls := .none, dict := none, data := .fields #[(.int 1 0), (.int 0 0), (.ref 20), (.int 6 0), (.int 0 0), (.ref 66), (.int 12 0), (.int 0 0), (.ref 78)], slots := #[] }
def o73 (P : Params) : Obj := { cls := (.type "tuple"), dict := none, data := .seq #[] 0, slots := #[] }
def o74 (P : Params) : Obj := { cls := .none, dict := none, data := .fields #[], slots := #[] }
def o75 (P : Params) : Obj := { cls := (.type "tuple"), dict := none, data := .seq #[(.str "code" 2186)] 0, slots := #[] }
def o76 (P : Params) : Obj := { cls := (.type "tuple"), dict := none, data := .seq #[] 0, slots := #[] }
def o77 (P : Params) : Obj := { cls := .none, dict := none, data := .func { name := "in_table_c7", qualname := "in_table_c7", params := fP (fn 5), body := .stmts (fB (fn 5)), scope := fS (fn 5), globals := 0, closure := [], defaults := .none, kwdefaults := .none, doc := .none, pyModule := .none, annotations := none, code := .none, closureTuple := .none, builtins := 0 }, slots := #[] }
def o78 (P : Params) : Obj := { cls := (.type "code"), dict := none, data := .fields #[(.str "in_table_c7" 2183), (.str "in_table_c7" 2184), (.str "/claim/cut.py" 2185), (.int 12 0), (.int 1 0), (.int 0 0), (.int 0 0), (.int 3 0), (.ref 73), (.bool true), (.int 181 0), (.ref 74), .none, (.ref 75), (.ref 76), (.ref 77), (.int 2187 0), (.int 12 0), (.str "/claim/cut.py" 2188)], slots := #[] }
def o79 (P : Params) : Obj := { cls := (.type "function"), dict := none, data := .func { name := "in_table_c7", qualname := "in_table_c7", params := fP (fn 5), body := .stmts (fB (fn 5)), scope := fS (fn 5), globals := 3, closure := [], defaults := .none, kwdefaults := .none, doc := .none, pyModule := (.str "cpy313.stringprep" 194), annotations := none, code := (.ref 78), closureTuple := .none, builtins := 0 }, slots := #[] }
def t_s5 (P : Params) : BT := (.node (boot_o_0 P) (.node (boot_o_1 P) (.node (o3v4 P) (.node (boot_o_7 P) (.node (o15 P) (.node (o31 P) (.node (o63 P) .nil .nil) .nil) (.node (o47 P) (.node (o79 P) .nil .nil) .nil)) (.node (o23 P) (.node (o39 P) (.node (o71 P) .nil .nil) .nil) (.node (o55 P) .nil .nil))) (.node (o11 P) (.node (o19 P) (.node (o35 P) (.node (o67 P) .nil .nil) .nil) (.node (o51 P) .nil .nil)) (.node (o27 P) (.node (o43 P) (.node (o75 P) .nil .nil) .nil) (.node (o59 P) .nil .nil)))) (.node (boot_o_5 P) (.node (boot_o_9 P) (.node (o17 P) (.node (o33 P) (.node (o65 P) .nil .nil) .nil) (.node (o49 P) .nil .nil)) (.node (o25 P) (.node (o41 P) (.node (o73 P) .nil .nil) .nil) (.node (o57 P) .nil .nil))) (.node (o13 P) (.node (o21 P) (.node (o37 P) (.node (o69 P) .nil .nil) .nil) (.node (o53 P) .nil .nil)) (.node (o29 P) (.node (o45 P) (.node (o77 P) .nil .nil) .nil) (.node (o61 P) .nil .nil))))) (.node (boot_o_2 P) (.node (boot_o_4 P) (.node (boot_o_8 P) (.node (o16 P) (.node (o32 P) (.node (o64 P) .nil .nil) .nil) (.node (o48 P) .nil .nil)) (.node (o24 P) (.node (o40 P) (.node (o72 P) .nil .nil) .nil) (.node (o56 P) .nil .nil))) (.node (o12v3 P) (.node (o20 P) (.node (o36 P) (.node (o68 P) .nil .nil) .nil) (.node (o52 P) .nil .nil)) (.node (o28 P) (.node (o44 P) (.node (o76 P) .nil .nil) .nil) (.node (o60 P) .nil .nil)))) (.node (boot_o_6 P) (.node (boot_o_10 P) (.node (o18 P) (.node (o34 P) (.node (o66 P) .nil .nil) .nil) (.node (o50 P) .nil .nil)) (.node (o26 P) (.node (o42 P) (.node (o74 P) .nil .nil) .nil) (.node (o58 P) .nil .nil))) (.node (o14 P) (.node (o22 P) (.node (o38 P) (.node (o70 P) .nil .nil) .nil) (.node (o54 P) .nil .nil)) (.node (o30 P) (.node (o46 P) (.node (o78 P) .nil .nil) .nil) (.node (o62 P) .nil .nil))))))
abbrev x_s5 (w : World) (os : OsState) : SharedT := ⟨t_s5 w.params, 80, lf, #[], boot_drawn, 2190, os⟩
def o80 (P : Params) : Obj := { cls := (.type "list"), dict := none, data := .seq #[(.int 917505 2190)] 0, slots := #[] }
def o81 (P : Params) : Obj := { cls := (.type "range"), dict := none, data := .fields #[(.int 917536 2191), (.int 917632 2192), (.int 1 2193)], slots := #[] }
def o82 (P : Params) : Obj := { cls := (.type "list"), dict := none, data := .seq #[] 2, slots := #[] }
def o83 (P : Params) : Obj := { cls := (.type "range_iterator"), dict := none, data := .fields #[(.int 917536 0), (.int 96 0), (.int 1 0)], slots := #[] }
def t_c0 (P : Params) : BT := (.node (boot_o_0 P) (.node (boot_o_1 P) (.node (o3v4 P) (.node (boot_o_7 P) (.node (o15 P) (.node (o31 P) (.node (o63 P) .nil .nil) .nil) (.node (o47 P) (.node (o79 P) .nil .nil) .nil)) (.node (o23 P) (.node (o39 P) (.node (o71 P) .nil .nil) .nil) (.node (o55 P) .nil .nil))) (.node (o11 P) (.node (o19 P) (.node (o35 P) (.node (o67 P) .nil .nil) .nil) (.node (o51 P) (.node (o83 P) .nil .nil) .nil)) (.node (o27 P) (.node (o43 P) (.node (o75 P) .nil .nil) .nil) (.node (o59 P) .nil .nil)))) (.node (boot_o_5 P) (.node (boot_o_9 P) (.node (o17 P) (.node (o33 P) (.node (o65 P) .nil .nil) .nil) (.node (o49 P) (.node (o81 P) .nil .nil) .nil)) (.node (o25 P) (.node (o41 P) (.node (o73 P) .nil .nil) .nil) (.node (o57 P) .nil .nil))) (.node (o13 P) (.node (o21 P) (.node (o37 P) (.node (o69 P) .nil .nil) .nil) (.node (o53 P) .nil .nil)) (.node (o29 P) (.node (o45 P) (.node (o77 P) .nil .nil) .nil) (.node (o61 P) .nil .nil))))) (.node (boot_o_2 P) (.node (boot_o_4 P) (.node (boot_o_8 P) (.node (o16 P) (.node (o32 P) (.node (o64 P) .nil .nil) .nil) (.node (o48 P) (.node (o80 P) .nil .nil) .nil)) (.node (o24 P) (.node (o40 P) (.node (o72 P) .nil .nil) .nil) (.node (o56 P) .nil .nil))) (.node (o12v3 P) (.node (o20 P) (.node (o36 P) (.node (o68 P) .nil .nil) .nil) (.node (o52 P) .nil .nil)) (.node (o28 P) (.node (o44 P) (.node (o76 P) .nil .nil) .nil) (.node (o60 P) .nil .nil)))) (.node (boot_o_6 P) (.node (boot_o_10 P) (.node (o18 P) (.node (o34 P) (.node (o66 P) .nil .nil) .nil) (.node (o50 P) (.node (o82 P) .nil .nil) .nil)) (.node (o26 P) (.node (o42 P) (.node (o74 P) .nil .nil) .nil) (.node (o58 P) .nil .nil))) (.node (o14 P) (.node (o22 P) (.node (o38 P) (.node (o70 P) .nil .nil) .nil) (.node (o54 P) .nil .nil)) (.node (o30 P) (.node (o46 P) (.node (o78 P) .nil .nil) .nil) (.node (o62 P) .nil .nil))))))
abbrev x_c0 (w : World) (os : OsState) : SharedT := ⟨t_c0 w.params, 84, lf, #[], boot_drawn, 2196, os⟩
def o82v1 (P : Params) : Obj := { cls := (.type "list"), dict := none, data := .seq #[(.int 917536 2196)] 3, slots := #[] }
def o83v1 (P : Params) : Obj := { cls := (.type "range_iterator"), dict := none, data := .fields #[(.int 917537 0), (.int 95 0), (.int 1 0)], slots := #[] }
def t_c1 (P : Params) : BT := (.node (boot_o_0 P) (.node (boot_o_1 P) (.node (o3v4 P) (.node (boot_o_7 P) (.node (o15 P) (.node (o31 P) (.node (o63 P) .nil .nil) .nil) (.node (o47 P) (.node (o79 P) .nil .nil) .nil)) (.node (o23 P) (.node (o39 P) (.node (o71 P) .nil .nil) .nil) (.node (o55 P) .nil .nil))) (.node (o11 P) (.node (o19 P) (.node (o35 P) (.node (o67 P) .nil .nil) .nil) (.node (o51 P) (.node (o83v1 P) .nil .nil) .nil)) (.node (o27 P) (.node (o43 P) (.node (o75 P) .nil .nil) .nil) (.node (o59 P) .nil .nil)))) (.node (boot_o_5 P) (.node (boot_o_9 P) (.node (o17 P) (.node (o33 P) (.node (o65 P) .nil .nil) .nil) (.node (o49 P) (.node (o81 P) .nil .nil) .nil)) (.node (o25 P) (.node (o41 P) (.node (o73 P) .nil .nil) .nil) (.node (o57 P) .nil .nil))) (.node (o13 P) (.node (o21 P) (.node (o37 P) (.node (o69 P) .nil .nil) .nil) (.node (o53 P) .nil .nil)) (.node (o29 P) (.node (o45 P) (.node (o77 P) .nil .nil) .nil) (.node (o61 P) .nil .nil))))) (.node (boot_o_2 P) (.node (boot_o_4 P) (.node (boot_o_8 P) (.node (o16 P) (.node (o32 P) (.node (o64 P) .nil .nil) .nil) (.node (o48 P) (.node (o80 P) .nil .nil) .nil)) (.node (o24 P) (.node (o40 P) (.node (o72 P) .nil .nil) .nil) (.node (o56 P) .nil .nil))) (.node (o12v3 P) (.node (o20 P) (.node (o36 P) (.node (o68 P) .nil .nil) .nil) (.node (o52 P) .nil .nil)) (.node (o28 P) (.node (o44 P) (.node (o76 P) .nil .nil) .nil) (.node (o60 P) .nil .nil)))) (.node (boot_o_6 P) (.node (boot_o_10 P) (.node (o18 P) (.node (o34 P) (.node (o66 P) .nil .nil) .nil) (.node (o50 P) (.node (o82v1 P) .nil .nil) .nil)) (.node (o26 P) (.node (o42 P) (.node (o74 P) .nil .nil) .nil) (.node (o58 P) .nil .nil))) (.node (o14 P) (.node (o22 P) (.node (o38 P) (.node (o70 P) .nil .nil) .nil) (.node (o54 P) .nil .nil)) (.node (o30 P) (.node (o46 P) (.node (o78 P) .nil .nil) .nil) (.node (o62 P) .nil .nil))))))
abbrev x_c1 (w : World) (os : OsState) : SharedT := ⟨t_c1 w.params, 84, lf, #[], boot_drawn, 2197, os⟩
def o82v2 (P : Params) : Obj := { cls := (.type "list"), dict := none, data := .seq #[(.int 917536 2196), (.int 917537 2197), (.int 917538 2198), (.int 917539 2199), (.int 917540 2200), (.int 917541 2201), (.int 917542 2202), (.int 917543 2203), (.int 917544 2204), (.int 917545 2205), (.int 917546 2206), (.int 917547 2207), (.int 917548 2208), (.int 917549 2209), (.int 917550 2210), (.int 917551 2211), (.int 917552 2212), (.int 917553 2213), (.int 917554 2214), (.int 917555 2215), (.int 917556 2216), (.int 917557 2217), (.int 917558 2218), (.int 917559 2219), (.int 917560 2220)] 27, slots := #[] }
def o83v2 (P : Params) : Obj := { cls := (.type "range_iterator"), dict := none, data := .fields #[(.int 917561 0), (.int 71 0), (.int 1 0)], slots := #[] }
def t_c2 (P : Params) : BT := (.node (boot_o_0 P) (.node (boot_o_1 P) (.node (o3v4 P) (.node (boot_o_7 P) (.node (o15 P) (.node (o31 P) (.node (o63 P) .nil .nil) .nil) (.node (o47 P) (.node (o79 P) .nil .nil) .nil)) (.node (o23 P) (.node (o39 P) (.node (o71 P) .nil .nil) .nil) (.node (o55 P) .nil .nil))) (.node (o11 P) (.node (o19 P) (.node (o35 P) (.node (o67 P) .nil .nil) .nil) (.node (o51 P) (.node (o83v2 P) .nil .nil) .nil)) (.node (o27 P) (.node (o43 P) (.node (o75 P) .nil .nil) .nil) (.node (o59 P) .nil .nil)))) (.node (boot_o_5 P) (.node (boot_o_9 P) (.node (o17 P) (.node (o33 P) (.node (o65 P) .nil .nil) .nil) (.node (o49 P) (.node (o81 P) .nil .nil) .nil)) (.node (o25 P) (.node (o41 P) (.node (o73 P) .nil .nil) .nil) (.node (o57 P) .nil .nil))) (.node (o13 P) (.node (o21 P) (.node (o37 P) (.node (o69 P) .nil .nil) .nil) (.node (o53 P) .nil .nil)) (.node (o29 P) (.node (o45 P) (.node (o77 P) .nil .nil) .nil) (.node (o61 P) .nil .nil))))) (.node (boot_o_2 P) (.node (boot_o_4 P) (.node (boot_o_8 P) (.node (o16 P) (.node (o32 P) (.node (o64 P) .nil .nil) .nil) (.node (o48 P) (.node (o80 P) .nil .nil) .nil)) (.node (o24 P) (.node (o40 P) (.node (o72 P) .nil .nil) .nil) (.node (o56 P) .nil .nil))) (.node (o12v3 P) (.node (o20 P) (.node (o36 P) (.node (o68 P) .nil .nil) .nil) (.node (o52 P) .nil .nil)) (.node (o28 P) (.node (o44 P) (.node (o76 P) .nil .nil) .nil) (.node (o60 P) .nil .nil)))) (.node (boot_o_6 P) (.node (boot_o_10 P) (.node (o18 P) (.node (o34 P) (.node (o66 P) .nil .nil) .nil) (.node (o50 P) (.node (o82v2 P) .nil .nil) .nil)) (.node (o26 P) (.node (o42 P) (.node (o74 P) .nil .nil) .nil) (.node (o58 P) .nil .nil))) (.node (o14 P) (.node (o22 P) (.node (o38 P) (.node (o70 P) .nil .nil) .nil) (.node (o54 P) .nil .nil)) (.node (o30 P) (.node (o46 P) (.node (o78 P) .nil .nil) .nil) (.node (o62 P) .nil .nil))))))
abbrev x_c2 (w : World) (os : OsState) : SharedT := ⟨t_c2 w.params, 84, lf, #[], boot_drawn, 2221, os⟩
def o82v3 (P : Params) : Obj := { cls := (.type "list"), dict := none, data := .seq #[(.int 917536 2196), (.int 917537 2197), (.int 917538 2198), (.int 917539 2199), (.int 917540 2200), (.int 917541 2201), (.int 917542 2202), (.int 917543 2203), (.int 917544 2204), (.int 917545 2205), (.int 917546 2206), (.int 917547 2207), (.int 917548 2208), (.int 917549 2209), (.int 917550 2210), (.int 917551 2211), (.int 917552 2212), (.int 917553 2213), (.int 917554 2214), (.int 917555 2215), (.int 917556 2216), (.int 917557 2217), (.int 917558 2218), (.int 917559 2219), (.int 917560 2220), (.int 917561 2221), (.int 917562 2222), (.int 917563 2223), (.int 917564 2224), (.int 917565 2225), (.int 917566 2226), (.int 917567 2227), (.int 917568 2228), (.int 917569 2229), (.int 917570 2230), (.int 917571 2231), (.int 917572 2232), (.int 917573 2233), (.int 917574 2234), (.int 917575 2235), (.int 917576 2236), (.int 917577 2237), (.int 917578 2238), (.int 917579 2239), (.int 917580 2240), (.int 917581 2241), (.int 917582 2242), (.int 917583 2243), (.int 917584 2244)] 51, slots := #[] }
def o83v3 (P : Params) : Obj := { cls := (.type "range_iterator"), dict := none, data := .fields #[(.int 917585 0), (.int 47 0), (.int 1 0)], slots := #[] }
def t_c3 (P : Params) : BT := (.node (boot_o_0 P) (.node (boot_o_1 P) (.node (o3v4 P) (.node (boot_o_7 P) (.node (o15 P) (.node (o31 P) (.node (o63 P) .nil .nil) .nil) (.node (o47 P) (.node (o79 P) .nil .nil) .nil)) (.node (o23 P) (.node (o39 P) (.node (o71 P) .nil .nil) .nil) (.node (o55 P) .nil .nil))) (.node (o11 P) (.node (o19 P) (.node (o35 P) (.node (o67 P) .nil .nil) .nil) (.node (o51 P) (.node (o83v3 P) .nil .nil) .nil)) (.node (o27 P) (.node (o43 P) (.node (o75 P) .nil .nil) .nil) (.node (o59 P) .nil .nil)))) (.node (boot_o_5 P) (.node (boot_o_9 P) (.node (o17 P) (.node (o33 P) (.node (o65 P) .nil .nil) .nil) (.node (o49 P) (.node (o81 P) .nil .nil) .nil)) (.node (o25 P) (.node (o41 P) (.node (o73 P) .nil .nil) .nil) (.node (o57 P) .nil .nil))) (.node (o13 P) (.node (o21 P) (.node (o37 P) (.node (o69 P) .nil .nil) .nil) (.node (o53 P) .nil .nil)) (.node (o29 P) (.node (o45 P) (.node (o77 P) .nil .nil) .nil) (.node (o61 P) .nil .nil))))) (.node (boot_o_2 P) (.node (boot_o_4 P) (.node (boot_o_8 P) (.node (o16 P) (.node (o32 P) (.node (o64 P) .nil .nil) .nil) (.node (o48 P) (.node (o80 P) .nil .nil) .nil)) (.node (o24 P) (.node (o40 P) (.node (o72 P) .nil .nil) .nil) (.node (o56 P) .nil .nil))) (.node (o12v3 P) (.node (o20 P) (.node (o36 P) (.node (o68 P) .nil .nil) .nil) (.node (o52 P) .nil .nil)) (.node (o28 P) (.node (o44 P) (.node (o76 P) .nil .nil) .nil) (.node (o60 P) .nil .nil)))) (.node (boot_o_6 P) (.node (boot_o_10 P) (.node (o18 P) (.node (o34 P) (.node (o66 P) .nil .nil) .nil) (.node (o50 P) (.node (o82v3 P) .nil .nil) .nil)) (.node (o26 P) (.node (o42 P) (.node (o74 P) .nil .nil) .nil) (.node (o58 P) .nil .nil))) (.node (o14 P) (.node (o22 P) (.node (o38 P) (.node (o70 P) .nil .nil) .nil) (.node (o54 P) .nil .nil)) (.node (o30 P) (.node (o46 P) (.node (o78 P) .nil .nil) .nil) (.node (o62 P) .nil .nil))))))
abbrev x_c3 (w : World) (os : OsState) : SharedT := ⟨t_c3 w.params, 84, lf, #[], boot_drawn, 2245, os⟩
def o82v4 (P : Params) : Obj := { cls := (.type "list"), dict := none, data := .seq #[(.int 917536 2196), (.int 917537 2197), (.int 917538 2198), (.int 917539 2199), (.int 917540 2200), (.int 917541 2201), (.int 917542 2202), (.int 917543 2203), (.int 917544 2204), (.int 917545 2205), (.int 917546 2206), (.int 917547 2207), (.int 917548 2208), (.int 917549 2209), (.int 917550 2210), (.int 917551 2211), (.int 917552 2212), (.int 917553 2213), (.int 917554 2214), (.int 917555 2215), (.int 917556 2216), (.int 917557 2217), (.int 917558 2218), (.int 917559 2219), (.int 917560 2220), (.int 917561 2221), (.int 917562 2222), (.int 917563 2223), (.int 917564 2224), (.int 917565 2225), (.int 917566 2226), (.int 917567 2227), (.int 917568 2228), (.int 917569 2229), (.int 917570 2230), (.int 917571 2231), (.int 917572 2232), (.int 917573 2233), (.int 917574 2234), (.int 917575 2235), (.int 917576 2236), (.int 917577 2237), (.int 917578 2238), (.int 917579 2239), (.int 917580 2240), (.int 917581 2241), (.int 917582 2242), (.int 917583 2243), (.int 917584 2244), (.int 917585 2245), (.int 917586 2246), (.int 917587 2247), (.int 917588 2248), (.int 917589 2249), (.int 917590 2250), (.int 917591 2251), (.int 917592 2252), (.int 917593 2253), (.int 917594 2254), (.int 917595 2255), (.int 917596 2256), (.int 917597 2257), (.int 917598 2258), (.int 917599 2259), (.int 917600 2260), (.int 917601 2261), (.int 917602 2262), (.int 917603 2263), (.int 917604 2264), (.int 917605 2265), (.int 917606 2266), (.int 917607 2267), (.int 917608 2268)] 75, slots := #[] }
def o83v4 (P : Params) : Obj := { cls := (.type "range_iterator"), dict := none, data := .fields #[(.int 917609 0), (.int 23 0), (.int 1 0)], slots := #[] }
def t_c4 (P : Params) : BT := (.node (boot_o_0 P) (.node (boot_o_1 P) (.node (o3v4 P) (.node (boot_o_7 P) (.node (o15 P) (.node (o31 P) (.node (o63 P) .nil .nil) .nil) (.node (o47 P) (.node (o79 P) .nil .nil) .nil)) (.node (o23 P) (.node (o39 P) (.node (o71 P) .nil .nil) .nil) (.node (o55 P) .nil .nil))) (.node (o11 P) (.node (o19 P) (.node (o35 P) (.node (o67 P) .nil .nil) .nil) (.node (o51 P) (.node (o83v4 P) .nil .nil) .nil)) (.node (o27 P) (.node (o43 P) (.node (o75 P) .nil .nil) .nil) (.node (o59 P) .nil .nil)))) (.node (boot_o_5 P) (.node (boot_o_9 P) (.node (o17 P) (.node (o33 P) (.node (o65 P) .nil .nil) .nil) (.node (o49 P) (.node (o81 P) .nil .nil) .nil)) (.node (o25 P) (.node (o41 P) (.node (o73 P) .nil .nil) .nil) (.node (o57 P) .nil .nil))) (.node (o13 P) (.node (o21 P) (.node (o37 P) (.node (o69 P) .nil .nil) .nil) (.node (o53 P) .nil .nil)) (.node (o29 P) (.node (o45 P) (.node (o77 P) .nil .nil) .nil) (.node (o61 P) .nil .nil))))) (.node (boot_o_2 P) (.node (boot_o_4 P) (.node (boot_o_8 P) (.node (o16 P) (.node (o32 P) (.node (o64 P) .nil .nil) .nil) (.node (o48 P) (.node (o80 P) .nil .nil) .nil)) (.node (o24 P) (.node (o40 P) (.node (o72 P) .nil .nil) .nil) (.node (o56 P) .nil .nil))) (.node (o12v3 P) (.node (o20 P) (.node (o36 P) (.node (o68 P) .nil .nil) .nil) (.node (o52 P) .nil .nil)) (.node (o28 P) (.node (o44 P) (.node (o76 P) .nil .nil) .nil) (.node (o60 P) .nil .nil)))) (.node (boot_o_6 P) (.node (boot_o_10 P) (.node (o18 P) (.node (o34 P) (.node (o66 P) .nil .nil) .nil) (.node (o50 P) (.node (o82v4 P) .nil .nil) .nil)) (.node (o26 P) (.node (o42 P) (.node (o74 P) .nil .nil) .nil) (.node (o58 P) .nil .nil))) (.node (o14 P) (.node (o22 P) (.node (o38 P) (.node (o70 P) .nil .nil) .nil) (.node (o54 P) .nil .nil)) (.node (o30 P) (.node (o46 P) (.node (o78 P) .nil .nil) .nil) (.node (o62 P) .nil .nil))))))
abbrev x_c4 (w : World) (os : OsState) : SharedT := ⟨t_c4 w.params, 84, lf, #[], boot_drawn, 2269, os⟩
def o82v5 (P : Params) : Obj := { cls := (.type "list"), dict := none, data := .seq #[(.int 917536 2196), (.int 917537 2197), (.int 917538 2198), (.int 917539 2199), (.int 917540 2200), (.int 917541 2201), (.int 917542 2202), (.int 917543 2203), (.int 917544 2204), (.int 917545 2205), (.int 917546 2206), (.int 917547 2207), (.int 917548 2208), (.int 917549 2209), (.int 917550 2210), (.int 917551 2211), (.int 917552 2212), (.int 917553 2213), (.int 917554 2214), (.int 917555 2215), (.int 917556 2216), (.int 917557 2217), (.int 917558 2218), (.int 917559 2219), (.int 917560 2220), (.int 917561 2221), (.int 917562 2222), (.int 917563 2223), (.int 917564 2224), (.int 917565 2225), (.int 917566 2226), (.int 917567 2227), (.int 917568 2228), (.int 917569 2229), (.int 917570 2230), (.int 917571 2231), (.int 917572 2232), (.int 917573 2233), (.int 917574 2234), (.int 917575 2235), (.int 917576 2236), (.int 917577 2237), (.int 917578 2238), (.int 917579 2239), (.int 917580 2240), (.int 917581 2241), (.int 917582 2242), (.int 917583 2243), (.int 917584 2244), (.int 917585 2245), (.int 917586 2246), (.int 917587 2247), (.int 917588 2248), (.int 917589 2249), (.int 917590 2250), (.int 917591 2251), (.int 917592 2252), (.int 917593 2253), (.int 917594 2254), (.int 917595 2255), (.int 917596 2256), (.int 917597 2257), (.int 917598 2258), (.int 917599 2259), (.int 917600 2260), (.int 917601 2261), (.int 917602 2262), (.int 917603 2263), (.int 917604 2264), (.int 917605 2265), (.int 917606 2266), (.int 917607 2267), (.int 917608 2268), (.int 917609 2269), (.int 917610 2270), (.int 917611 2271), (.int 917612 2272), (.int 917613 2273), (.int 917614 2274), (.int 917615 2275), (.int 917616 2276), (.int 917617 2277), (.int 917618 2278), (.int 917619 2279), (.int 917620 2280), (.int 917621 2281), (.int 917622 2282), (.int 917623 2283), (.int 917624 2284), (.int 917625 2285), (.int 917626 2286), (.int 917627 2287), (.int 917628 2288), (.int 917629 2289), (.int 917630 2290), (.int 917631 2291)] 98, slots := #[] }
def o83v5 (P : Params) : Obj := { cls := (.type "range_iterator"), dict := none, data := .fields #[(.int 917632 0), (.int 0 0), (.int 1 0)], slots := #[] }
def t_c5 (P : Params) : BT := (.node (boot_o_0 P) (.node (boot_o_1 P) (.node (o3v4 P) (.node (boot_o_7 P) (.node (o15 P) (.node (o31 P) (.node (o63 P) .nil .nil) .nil) (.node (o47 P) (.node (o79 P) .nil .nil) .nil)) (.node (o23 P) (.node (o39 P) (.node (o71 P) .nil .nil) .nil) (.node (o55 P) .nil .nil))) (.node (o11 P) (.node (o19 P) (.node (o35 P) (.node (o67 P) .nil .nil) .nil) (.node (o51 P) (.node (o83v5 P) .nil .nil) .nil)) (.node (o27 P) (.node (o43 P) (.node (o75 P) .nil .nil) .nil) (.node (o59 P) .nil .nil)))) (.node (boot_o_5 P) (.node (boot_o_9 P) (.node (o17 P) (.node (o33 P) (.node (o65 P) .nil .nil) .nil) (.node (o49 P) (.node (o81 P) .nil .nil) .nil)) (.node (o25 P) (.node (o41 P) (.node (o73 P) .nil .nil) .nil) (.node (o57 P) .nil .nil))) (.node (o13 P) (.node (o21 P) (.node (o37 P) (.node (o69 P) .nil .nil) .nil) (.node (o53 P) .nil .nil)) (.node (o29 P) (.node (o45 P) (.node (o77 P) .nil .nil) .nil) (.node (o61 P) .nil .nil))))) (.node (boot_o_2 P) (.node (boot_o_4 P) (.node (boot_o_8 P) (.node (o16 P) (.node (o32 P) (.node (o64 P) .nil .nil) .nil) (.node (o48 P) (.node (o80 P) .nil .nil) .nil)) (.node (o24 P) (.node (o40 P) (.node (o72 P) .nil .nil) .nil) (.node (o56 P) .nil .nil))) (.node (o12v3 P) (.node (o20 P) (.node (o36 P) (.node (o68 P) .nil .nil) .nil) (.node (o52 P) .nil .nil)) (.node (o28 P) (.node (o44 P) (.node (o76 P) .nil .nil) .nil) (.node (o60 P) .nil .nil)))) (.node (boot_o_6 P) (.node (boot_o_10 P) (.node (o18 P) (.node (o34 P) (.node (o66 P) .nil .nil) .nil) (.node (o50 P) (.node (o82v5 P) .nil .nil) .nil)) (.node (o26 P) (.node (o42 P) (.node (o74 P) .nil .nil) .nil) (.node (o58 P) .nil .nil))) (.node (o14 P) (.node (o22 P) (.node (o38 P) (.node (o70 P) .nil .nil) .nil) (.node (o54 P) .nil .nil)) (.node (o30 P) (.node (o46 P) (.node (o78 P) .nil .nil) .nil) (.node (o62 P) .nil .nil))))))
abbrev x_c5 (w : World) (os : OsState) : SharedT := ⟨t_c5 w.params, 84, lf, #[], boot_drawn, 2292, os⟩
def o84 (P : Params) : Obj := { cls := (.type "tuple"), dict := none, data := .seq #[] 0, slots := #[] }
def o85 (P : Params) : Obj := { cls := (.type "StopIteration"), dict := none, data := .fields #[(.ref 84), .none, .none, .none, (.bool false), .none], slots := #[] }
def o86 (P : Params) : Obj := { cls := (.type "list"), dict := none, data := .seq #[(.int 917505 2190), (.int 917536 2196), (.int 917537 2197), (.int 917538 2198), (.int 917539 2199), (.int 917540 2200), (.int 917541 2201), (.int 917542 2202), (.int 917543 2203), (.int 917544 2204), (.int 917545 2205), (.int 917546 2206), (.int 917547 2207), (.int 917548 2208), (.int 917549 2209), (.int 917550 2210), (.int 917551 2211), (.int 917552 2212), (.int 917553 2213), (.int 917554 2214), (.int 917555 2215), (.int 917556 2216), (.int 917557 2217), (.int 917558 2218), (.int 917559 2219), (.int 917560 2220), (.int 917561 2221), (.int 917562 2222), (.int 917563 2223), (.int 917564 2224), (.int 917565 2225), (.int 917566 2226), (.int 917567 2227), (.int 917568 2228), (.int 917569 2229), (.int 917570 2230), (.int 917571 2231), (.int 917572 2232), (.int 917573 2233), (.int 917574 2234), (.int 917575 2235), (.int 917576 2236), (.int 917577 2237), (.int 917578 2238), (.int 917579 2239), (.int 917580 2240), (.int 917581 2241), (.int 917582 2242), (.int 917583 2243), (.int 917584 2244), (.int 917585 2245), (.int 917586 2246), (.int 917587 2247), (.int 917588 2248), (.int 917589 2249), (.int 917590 2250), (.int 917591 2251), (.int 917592 2252), (.int 917593 2253), (.int 917594 2254), (.int 917595 2255), (.int 917596 2256), (.int 917597 2257), (.int 917598 2258), (.int 917599 2259), (.int 917600 2260), (.int 917601 2261), (.int 917602 2262), (.int 917603 2263), (.int 917604 2264), (.int 917605 2265), (.int 917606 2266), (.int 917607 2267), (.int 917608 2268), (.int 917609 2269), (.int 917610 2270), (.int 917611 2271), (.int 917612 2272), (.int 917613 2273), (.int 917614 2274), (.int 917615 2275), (.int 917616 2276), (.int 917617 2277), (.int 917618 2278), (.int 917619 2279), (.int 917620 2280), (.int 917621 2281), (.int 917622 2282), (.int 917623 2283), (.int 917624 2284), (.int 917625 2285), (.int 917626 2286), (.int 917627 2287), (.int 917628 2288), (.int 917629 2289), (.int 917630 2290), (.int 917631 2291)] 0, slots := #[] }
def o87 (P : Params) : Obj := { cls := (.type "set"), dict := none, data := .set #[(917505, (.int 917505 2190))] 1 { mask := 7, place := #[1], dummies := #[], finger := 0, led := !(P.followText "set-order"), moves := 0, plain := true }, slots := #[] }
def o88 (P : Params) : Obj := { cls := (.type "list_iterator"), dict := none, data := .fields #[(.ref 86), (.int 1 0)], slots := #[] }
def t_c6 (P : Params) : BT := (.node (boot_o_0 P) (.node (boot_o_1 P) (.node (o3v4 P) (.node (boot_o_7 P) (.node (o15 P) (.node (o31 P) (.node (o63 P) .nil .nil) .nil) (.node (o47 P) (.node (o79 P) .nil .nil) .nil)) (.node (o23 P) (.node (o39 P) (.node (o71 P) .nil .nil) .nil) (.node (o55 P) (.node (o87 P) .nil .nil) .nil))) (.node (o11 P) (.node (o19 P) (.node (o35 P) (.node (o67 P) .nil .nil) .nil) (.node (o51 P) (.node (o83v5 P) .nil .nil) .nil)) (.node (o27 P) (.node (o43 P) (.node (o75 P) .nil .nil) .nil) (.node (o59 P) .nil .nil)))) (.node (boot_o_5 P) (.node (boot_o_9 P) (.node (o17 P) (.node (o33 P) (.node (o65 P) .nil .nil) .nil) (.node (o49 P) (.node (o81 P) .nil .nil) .nil)) (.node (o25 P) (.node (o41 P) (.node (o73 P) .nil .nil) .nil) (.node (o57 P) .nil .nil))) (.node (o13 P) (.node (o21 P) (.node (o37 P) (.node (o69 P) .nil .nil) .nil) (.node (o53 P) (.node (o85 P) .nil .nil) .nil)) (.node (o29 P) (.node (o45 P) (.node (o77 P) .nil .nil) .nil) (.node (o61 P) .nil .nil))))) (.node (boot_o_2 P) (.node (boot_o_4 P) (.node (boot_o_8 P) (.node (o16 P) (.node (o32 P) (.node (o64 P) .nil .nil) .nil) (.node (o48 P) (.node (o80 P) .nil .nil) .nil)) (.node (o24 P) (.node (o40 P) (.node (o72 P) .nil .nil) .nil) (.node (o56 P) (.node (o88 P) .nil .nil) .nil))) (.node (o12v3 P) (.node (o20 P) (.node (o36 P) (.node (o68 P) .nil .nil) .nil) (.node (o52 P) (.node (o84 P) .nil .nil) .nil)) (.node (o28 P) (.node (o44 P) (.node (o76 P) .nil .nil) .nil) (.node (o60 P) .nil .nil)))) (.node (boot_o_6 P) (.node (boot_o_10 P) (.node (o18 P) (.node (o34 P) (.node (o66 P) .nil .nil) .nil) (.node (o50 P) (.node (o82v5 P) .nil .nil) .nil)) (.node (o26 P) (.node (o42 P) (.node (o74 P) .nil .nil) .nil) (.node (o58 P) .nil .nil))) (.node (o14 P) (.node (o22 P) (.node (o38 P) (.node (o70 P) .nil .nil) .nil) (.node (o54 P) (.node (o86 P) .nil .nil) .nil)) (.node (o30 P) (.node (o46 P) (.node (o78 P) .nil .nil) .nil) (.node (o62 P) .nil .nil))))))
abbrev x_c6 (w : World) (os : OsState) : SharedT := ⟨t_c6 w.params, 89, lf, #[], boot_drawn, 2293, os⟩
def o87v1 (P : Params) : Obj := { cls := (.type "set"), dict := none, data := .set #[(917536, (.int 917536 2196)), (917505, (.int 917505 2190))] 2 { mask := 7, place := #[0, 1], dummies := #[], finger := 0, led := !(P.followText "set-order"), moves := 0, plain := true }, slots := #[] }
def o88v1 (P : Params) : Obj := { cls := (.type "list_iterator"), dict := none, data := .fields #[(.ref 86), (.int 2 0)], slots := #[] }
def t_c7 (P : Params) : BT := (.node (boot_o_0 P) (.node (boot_o_1 P) (.node (o3v4 P) (.node (boot_o_7 P) (.node (o15 P) (.node (o31 P) (.node (o63 P) .nil .nil) .nil) (.node (o47 P) (.node (o79 P) .nil .nil) .nil)) (.node (o23 P) (.node (o39 P) (.node (o71 P) .nil .nil) .nil) (.node (o55 P) (.node (o87v1 P) .nil .nil) .nil))) (.node (o11 P) (.node (o19 P) (.node (o35 P) (.node (o67 P) .nil .nil) .nil) (.node (o51 P) (.node (o83v5 P) .nil .nil) .nil)) (.node (o27 P) (.node (o43 P) (.node (o75 P) .nil .nil) .nil) (.node (o59 P) .nil .nil)))) (.node (boot_o_5 P) (.node (boot_o_9 P) (.node (o17 P) (.node (o33 P) (.node (o65 P) .nil .nil) .nil) (.node (o49 P) (.node (o81 P) .nil .nil) .nil)) (.node (o25 P) (.node (o41 P) (.node (o73 P) .nil .nil) .nil) (.node (o57 P) .nil .nil))) (.node (o13 P) (.node (o21 P) (.node (o37 P) (.node (o69 P) .nil .nil) .nil) (.node (o53 P) (.node (o85 P) .nil .nil) .nil)) (.node (o29 P) (.node (o45 P) (.node (o77 P) .nil .nil) .nil) (.node (o61 P) .nil .nil))))) (.node (boot_o_2 P) (.node (boot_o_4 P) (.node (boot_o_8 P) (.node (o16 P) (.node (o32 P) (.node (o64 P) .nil .nil) .nil) (.node (o48 P) (.node (o80 P) .nil .nil) .nil)) (.node (o24 P) (.node (o40 P) (.node (o72 P) .nil .nil) .nil) (.node (o56 P) (.node (o88v1 P) .nil .nil) .nil))) (.node (o12v3 P) (.node (o20 P) (.node (o36 P) (.node (o68 P) .nil .nil) .nil) (.node (o52 P) (.node (o84 P) .nil .nil) .nil)) (.node (o28 P) (.node (o44 P) (.node (o76 P) .nil .nil) .nil) (.node (o60 P) .nil .nil)))) (.node (boot_o_6 P) (.node (boot_o_10 P) (.node (o18 P) (.node (o34 P) (.node (o66 P) .nil .nil) .nil) (.node (o50 P) (.node (o82v5 P) .nil .nil) .nil)) (.node (o26 P) (.node (o42 P) (.node (o74 P) .nil .nil) .nil) (.node (o58 P) .nil .nil))) (.node (o14 P) (.node (o22 P) (.node (o38 P) (.node (o70 P) .nil .nil) .nil) (.node (o54 P) (.node (o86 P) .nil .nil) .nil)) (.node (o30 P) (.node (o46 P) (.node (o78 P) .nil .nil) .nil) (.node (o62 P) .nil .nil))))))
abbrev x_c7 (w : World) (os : OsState) : SharedT := ⟨t_c7 w.params, 89, lf, #[], boot_drawn, 2294, os⟩
def o87v2 (P : Params) : Obj := { cls := (.type "set"), dict := none, data := .set #[(917505, (.int 917505 2190)), (917536, (.int 917536 2196)), (917537, (.int 917537 2197)), (917538, (.int 917538 2198)), (917539, (.int 917539 2199)), (917540, (.int 917540 2200)), (917541, (.int 917541 2201)), (917542, (.int 917542 2202)), (917543, (.int 917543 2203)), (917544, (.int 917544 2204)), (917545, (.int 917545 2205)), (917546, (.int 917546 2206)), (917547, (.int 917547 2207)), (917548, (.int 917548 2208)), (917549, (.int 917549 2209)), (917550, (.int 917550 2210)), (917551, (.int 917551 2211)), (917552, (.int 917552 2212)), (917553, (.int 917553 2213)), (917554, (.int 917554 2214)), (917555, (.int 917555 2215)), (917556, (.int 917556 2216)), (917557, (.int 917557 2217)), (917558, (.int 917558 2218)), (917559, (.int 917559 2219)), (917560, (.int 917560 2220))] 28 { mask := 127, place := #[1, 32, 33, 34, 35, 36, 37, 38, 39, 40, 41, 42, 43, 44, 45, 46, 47, 48, 49, 50, 51, 52, 53, 54, 55, 56], dummies := #[], finger := 0, led := !(P.followText "set-order"), moves := 2, plain := true }, slots := #[] }
def o88v2 (P : Params) : Obj := { cls := (.type "list_iterator"), dict := none, data := .fields #[(.ref 86), (.int 26 0)], slots := #[] }
def t_c8 (P : Params) : BT := (.node (boot_o_0 P) (.node (boot_o_1 P) (.node (o3v4 P) (.node (boot_o_7 P) (.node (o15 P) (.node (o31 P) (.node (o63 P) .nil .nil) .nil) (.node (o47 P) (.node (o79 P) .nil .nil) .nil)) (.node (o23 P) (.node (o39 P) (.node (o71 P) .nil .nil) .nil) (.node (o55 P) (.node (o87v2 P) .nil .nil) .nil))) (.node (o11 P) (.node (o19 P) (.node (o35 P) (.node (o67 P) .nil .nil) .nil) (.node (o51 P) (.node (o83v5 P) .nil .nil) .nil)) (.node (o27 P) (.node (o43 P) (.node (o75 P) .nil .nil) .nil) (.node (o59 P) .nil .nil)))) (.node (boot_o_5 P) (.node (boot_o_9 P) (.node (o17 P) (.node (o33 P) (.node (o65 P) .nil .nil) .nil) (.node (o49 P) (.node (o81 P) .nil .nil) .nil)) (.node (o25 P) (.node (o41 P) (.node (o73 P) .nil .nil) .nil) (.node (o57 P) .nil .nil))) (.node (o13 P) (.node (o21 P) (.node (o37 P) (.node (o69 P) .nil .nil) .nil) (.node (o53 P) (.node (o85 P) .nil .nil) .nil)) (.node (o29 P) (.node (o45 P) (.node (o77 P) .nil .nil) .nil) (.node (o61 P) .nil .nil))))) (.node (boot_o_2 P) (.node (boot_o_4 P) (.node (boot_o_8 P) (.node (o16 P) (.node (o32 P) (.node (o64 P) .nil .nil) .nil) (.node (o48 P) (.node (o80 P) .nil .nil) .nil)) (.node (o24 P) (.node (o40 P) (.node (o72 P) .nil .nil) .nil) (.node (o56 P) (.node (o88v2 P) .nil .nil) .nil))) (.node (o12v3 P) (.node (o20 P) (.node (o36 P) (.node (o68 P) .nil .nil) .nil) (.node (o52 P) (.node (o84 P) .nil .nil) .nil)) (.node (o28 P) (.node (o44 P) (.node (o76 P) .nil .nil) .nil) (.node (o60 P) .nil .nil)))) (.node (boot_o_6 P) (.node (boot_o_10 P) (.node (o18 P) (.node (o34 P) (.node (o66 P) .nil .nil) .nil) (.node (o50 P) (.node (o82v5 P) .nil .nil) .nil)) (.node (o26 P) (.node (o42 P) (.node (o74 P) .nil .nil) .nil) (.node (o58 P) .nil .nil))) (.node (o14 P) (.node (o22 P) (.node (o38 P) (.node (o70 P) .nil .nil) .nil) (.node (o54 P) (.node (o86 P) .nil .nil) .nil)) (.node (o30 P) (.node (o46 P) (.node (o78 P) .nil .nil) .nil) (.node (o62 P) .nil .nil))))))
abbrev x_c8 (w : World) (os : OsState) : SharedT := ⟨t_c8 w.params, 89, lf, #[], boot_drawn, 2318, os⟩
def o87v3 (P : Params) : Obj := { cls := (.type "set"), dict := none, data := .set #[(917505, (.int 917505 2190)), (917536, (.int 917536 2196)), (917537, (.int 917537 2197)), (917538, (.int 917538 2198)), (917539, (.int 917539 2199)), (917540, (.int 917540 2200)), (917541, (.int 917541 2201)), (917542, (.int 917542 2202)), (917543, (.int 917543 2203)), (917544, (.int 917544 2204)), (917545, (.int 917545 2205)), (917546, (.int 917546 2206)), (917547, (.int 917547 2207)), (917548, (.int 917548 2208)), (917549, (.int 917549 2209)), (917550, (.int 917550 2210)), (917551, (.int 917551 2211)), (917552, (.int 917552 2212)), (917553, (.int 917553 2213)), (917554, (.int 917554 2214)), (917555, (.int 917555 2215)), (917556, (.int 917556 2216)), (917557, (.int 917557 2217)), (917558, (.int 917558 2218)), (917559, (.int 917559 2219)), (917560, (.int 917560 2220)), (917561, (.int 917561 2221)), (917562, (.int 917562 2222)), (917563, (.int 917563 2223)), (917564, (.int 917564 2224)), (917565, (.int 917565 2225)), (917566, (.int 917566 2226)), (917567, (.int 917567 2227)), (917568, (.int 917568 2228)), (917569, (.int 917569 2229)), (917570, (.int 917570 2230)), (917571, (.int 917571 2231)), (917572, (.int 917572 2232)), (917573, (.int 917573 2233)), (917574, (.int 917574 2234)), (917575, (.int 917575 2235)), (917576, (.int 917576 2236)), (917577, (.int 917577 2237)), (917578, (.int 917578 2238)), (917579, (.int 917579 2239)), (917580, (.int 917580 2240)), (917581, (.int 917581 2241)), (917582, (.int 917582 2242)), (917583, (.int 917583 2243)), (917584, (.int 917584 2244))] 52 { mask := 127, place := #[1, 32, 33, 34, 35, 36, 37, 38, 39, 40, 41, 42, 43, 44, 45, 46, 47, 48, 49, 50, 51, 52, 53, 54, 55, 56, 57, 58, 59, 60, 61, 62, 63, 64, 65, 66, 67, 68, 69, 70, 71, 72, 73, 74, 75, 76, 77, 78, 79, 80], dummies := #[], finger := 0, led := !(P.followText "set-order"), moves := 2, plain := true }, slots := #[] }
def o88v3 (P : Params) : Obj := { cls := (.type "list_iterator"), dict := none, data := .fields #[(.ref 86), (.int 50 0)], slots := #[] }
def t_c9 (P : Params) : BT := (.node (boot_o_0 P) (.node (boot_o_1 P) (.node (o3v4 P) (.node (boot_o_7 P) (.node (o15 P) (.node (o31 P) (.node (o63 P) .nil .nil) .nil) (.node (o47 P) (.node (o79 P) .nil .nil) .nil)) (.node (o23 P) (.node (o39 P) (.node (o71 P) .nil .nil) .nil) (.node (o55 P) (.node (o87v3 P) .nil .nil) .nil))) (.node (o11 P) (.node (o19 P) (.node (o35 P) (.node (o67 P) .nil .nil) .nil) (.node (o51 P) (.node (o83v5 P) .nil .nil) .nil)) (.node (o27 P) (.node (o43 P) (.node (o75 P) .nil .nil) .nil) (.node (o59 P) .nil .nil)))) (.node (boot_o_5 P) (.node (boot_o_9 P) (.node (o17 P) (.node (o33 P) (.node (o65 P) .nil .nil) .nil) (.node (o49 P) (.node (o81 P) .nil .nil) .nil)) (.node (o25 P) (.node (o41 P) (.node (o73 P) .nil .nil) .nil) (.node (o57 P) .nil .nil))) (.node (o13 P) (.node (o21 P) (.node (o37 P) (.node (o69 P) .nil .nil) .nil) (.node (o53 P) (.node (o85 P) .nil .nil) .nil)) (.node (o29 P) (.node (o45 P) (.node (o77 P) .nil .nil) .nil) (.node (o61 P) .nil .nil))))) (.node (boot_o_2 P) (.node (boot_o_4 P) (.node (boot_o_8 P) (.node (o16 P) (.node (o32 P) (.node (o64 P) .nil .nil) .nil) (.node (o48 P) (.node (o80 P) .nil .nil) .nil)) (.node (o24 P) (.node (o40 P) (.node (o72 P) .nil .nil) .nil) (.node (o56 P) (.node (o88v3 P) .nil .nil) .nil))) (.node (o12v3 P) (.node (o20 P) (.node (o36 P) (.node (o68 P) .nil .nil) .nil) (.node (o52 P) (.node (o84 P) .nil .nil) .nil)) (.node (o28 P) (.node (o44 P) (.node (o76 P) .nil .nil) .nil) (.node (o60 P) .nil .nil)))) (.node (boot_o_6 P) (.node (boot_o_10 P) (.node (o18 P) (.node (o34 P) (.node (o66 P) .nil .nil) .nil) (.node (o50 P) (.node (o82v5 P) .nil .nil) .nil)) (.node (o26 P) (.node (o42 P) (.node (o74 P) .nil .nil) .nil) (.node (o58 P) .nil .nil))) (.node (o14 P) (.node (o22 P) (.node (o38 P) (.node (o70 P) .nil .nil) .nil) (.node (o54 P) (.node (o86 P) .nil .nil) .nil)) (.node (o30 P) (.node (o46 P) (.node (o78 P) .nil .nil) .nil) (.node (o62 P) .nil .nil))))))
abbrev x_c9 (w : World) (os : OsState) : SharedT := ⟨t_c9 w.params, 89, lf, #[], boot_drawn, 2342, os⟩
def o87v4 (P : Params) : Obj := { cls := (.type "set"), dict := none, data := .set #[(917505, (.int 917505 2190)), (917536, (.int 917536 2196)), (917537, (.int 917537 2197)), (917538, (.int 917538 2198)), (917539, (.int 917539 2199)), (917540, (.int 917540 2200)), (917541, (.int 917541 2201)), (917542, (.int 917542 2202)), (917543, (.int 917543 2203)), (917544, (.int 917544 2204)), (917545, (.int 917545 2205)), (917546, (.int 917546 2206)), (917547, (.int 917547 2207)), (917548, (.int 917548 2208)), (917549, (.int 917549 2209)), (917550, (.int 917550 2210)), (917551, (.int 917551 2211)), (917552, (.int 917552 2212)), (917553, (.int 917553 2213)), (917554, (.int 917554 2214)), (917555, (.int 917555 2215)), (917556, (.int 917556 2216)), (917557, (.int 917557 2217)), (917558, (.int 917558 2218)), (917559, (.int 917559 2219)), (917560, (.int 917560 2220)), (917561, (.int 917561 2221)), (917562, (.int 917562 2222)), (917563, (.int 917563 2223)), (917564, (.int 917564 2224)), (917565, (.int 917565 2225)), (917566, (.int 917566 2226)), (917567, (.int 917567 2227)), (917568, (.int 917568 2228)), (917569, (.int 917569 2229)), (917570, (.int 917570 2230)), (917571, (.int 917571 2231)), (917572, (.int 917572 2232)), (917573, (.int 917573 2233)), (917574, (.int 917574 2234)), (917575, (.int 917575 2235)), (917576, (.int 917576 2236)), (917577, (.int 917577 2237)), (917578, (.int 917578 2238)), (917579, (.int 917579 2239)), (917580, (.int 917580 2240)), (917581, (.int 917581 2241)), (917582, (.int 917582 2242)), (917583, (.int 917583 2243)), (917584, (.int 917584 2244)), (917585, (.int 917585 2245)), (917586, (.int 917586 2246)), (917587, (.int 917587 2247)), (917588, (.int 917588 2248)), (917589, (.int 917589 2249)), (917590, (.int 917590 2250)), (917591, (.int 917591 2251)), (917592, (.int 917592 2252)), (917593, (.int 917593 2253)), (917594, (.int 917594 2254)), (917595, (.int 917595 2255)), (917596, (.int 917596 2256)), (917597, (.int 917597 2257)), (917598, (.int 917598 2258)), (917599, (.int 917599 2259)), (917600, (.int 917600 2260)), (917601, (.int 917601 2261)), (917602, (.int 917602 2262)), (917603, (.int 917603 2263)), (917604, (.int 917604 2264)), (917605, (.int 917605 2265)), (917606, (.int 917606 2266)), (917607, (.int 917607 2267)), (917608, (.int 917608 2268))] 76 { mask := 127, place := #[1, 32, 33, 34, 35, 36, 37, 38, 39, 40, 41, 42, 43, 44, 45, 46, 47, 48, 49, 50, 51, 52, 53, 54, 55, 56, 57, 58, 59, 60, 61, 62, 63, 64, 65, 66, 67, 68, 69, 70, 71, 72, 73, 74, 75, 76, 77, 78, 79, 80, 81, 82, 83, 84, 85, 86, 87, 88, 89, 90, 91, 92, 93, 94, 95, 96, 97, 98, 99, 100, 101, 102, 103, 104], dummies := #[], finger := 0, led := !(P.followText "set-order"), moves := 2, plain := true }, slots := #[] }
def o88v4 (P : Params) : Obj := { cls := (.type "list_iterator"), dict := none, data := .fields #[(.ref 86), (.int 74 0)], slots := #[] }
def t_c10 (P : Params) : BT := (.node (boot_o_0 P) (.node (boot_o_1 P) (.node (o3v4 P) (.node (boot_o_7 P) (.node (o15 P) (.node (o31 P) (.node (o63 P) .nil .nil) .nil) (.node (o47 P) (.node (o79 P) .nil .nil) .nil)) (.node (o23 P) (.node (o39 P) (.node (o71 P) .nil .nil) .nil) (.node (o55 P) (.node (o87v4 P) .nil .nil) .nil))) (.node (o11 P) (.node (o19 P) (.node (o35 P) (.node (o67 P) .nil .nil) .nil) (.node (o51 P) (.node (o83v5 P) .nil .nil) .nil)) (.node (o27 P) (.node (o43 P) (.node (o75 P) .nil .nil) .nil) (.node (o59 P) .nil .nil)))) (.node (boot_o_5 P) (.node (boot_o_9 P) (.node (o17 P) (.node (o33 P) (.node (o65 P) .nil .nil) .nil) (.node (o49 P) (.node (o81 P) .nil .nil) .nil)) (.node (o25 P) (.node (o41 P) (.node (o73 P) .nil .nil) .nil) (.node (o57 P) .nil .nil))) (.node (o13 P) (.node (o21 P) (.node (o37 P) (.node (o69 P) .nil .nil) .nil) (.node (o53 P) (.node (o85 P) .nil .nil) .nil)) (.node (o29 P) (.node (o45 P) (.node (o77 P) .nil .nil) .nil) (.node (o61 P) .nil .nil))))) (.node (boot_o_2 P) (.node (boot_o_4 P) (.node (boot_o_8 P) (.node (o16 P) (.node (o32 P) (.node (o64 P) .nil .nil) .nil) (.node (o48 P) (.node (o80 P) .nil .nil) .nil)) (.node (o24 P) (.node (o40 P) (.node (o72 P) .nil .nil) .nil) (.node (o56 P) (.node (o88v4 P) .nil .nil) .nil))) (.node (o12v3 P) (.node (o20 P) (.node (o36 P) (.node (o68 P) .nil .nil) .nil) (.node (o52 P) (.node (o84 P) .nil .nil) .nil)) (.node (o28 P) (.node (o44 P) (.node (o76 P) .nil .nil) .nil) (.node (o60 P) .nil .nil)))) (.node (boot_o_6 P) (.node (boot_o_10 P) (.node (o18 P) (.node (o34 P) (.node (o66 P) .nil .nil) .nil) (.node (o50 P) (.node (o82v5 P) .nil .nil) .nil)) (.node (o26 P) (.node (o42 P) (.node (o74 P) .nil .nil) .nil) (.node (o58 P) .nil .nil))) (.node (o14 P) (.node (o22 P) (.node (o38 P) (.node (o70 P) .nil .nil) .nil) (.node (o54 P) (.node (o86 P) .nil .nil) .nil)) (.node (o30 P) (.node (o46 P) (.node (o78 P) .nil .nil) .nil) (.node (o62 P) .nil .nil))))))
abbrev x_c10 (w : World) (os : OsState) : SharedT := ⟨t_c10 w.params, 89, lf, #[], boot_drawn, 2366, os⟩
def o3v5 (P : Params) : Obj := { cls := (.type "dict"), dict := none, data := .dict (List.toArray [⟨PyData.keyHash P "__name__", (.str "__name__" 165), (.str "cpy313.stringprep" 194)⟩, ⟨PyData.keyHash P "__doc__", (.str "__doc__" 166), .none⟩, ⟨PyData.keyHash P "__package__", (.str "__package__" 167), .none⟩, ⟨PyData.keyHash P "__loader__", (.str "__loader__" 168), (.builtin "__main__.__loader__#opaque")⟩, ⟨PyData.keyHash P "__spec__", (.str "__spec__" 169), .none⟩, ⟨PyData.keyHash P "__annotations__", (.str "__annotations__" 170), (.ref 6)⟩, ⟨PyData.keyHash P "__builtins__", (.str "__builtins__" 171), (.ref 4)⟩, ⟨PyData.keyHash P "__file__", (.str "__file__" 173), (.str "/claim/cut.py" 172)⟩, ⟨PyData.keyHash P "__cached__", (.str "__cached__" 174), .none⟩, ⟨PyData.keyHash P "_wall", (.str "_wall" 193), (.ref 21)⟩, ⟨PyData.keyHash P "b3_exceptions", (.str "b3_exceptions" 2146), (.ref 22)⟩, ⟨PyData.keyHash P "map_table_b3", (.str "map_table_b3" 2154), (.ref 67)⟩, ⟨PyData.keyHash P "c7_set", (.str "c7_set" 2182), (.ref 69)⟩, ⟨PyData.keyHash P "in_table_c7", (.str "in_table_c7" 2189), (.ref 79)⟩, ⟨PyData.keyHash P "c9_set", (.str "c9_set" 2389), (.ref 87)⟩]) 15, slots := #[] }
def o87v5 (P : Params) : Obj := { cls := (.type "set"), dict := none, data := .set #[(917505, (.int 917505 2190)), (917536, (.int 917536 2196)), (917537, (.int 917537 2197)), (917538, (.int 917538 2198)), (917539, (.int 917539 2199)), (917540, (.int 917540 2200)), (917541, (.int 917541 2201)), (917542, (.int 917542 2202)), (917543, (.int 917543 2203)), (917544, (.int 917544 2204)), (917545, (.int 917545 2205)), (917546, (.int 917546 2206)), (917547, (.int 917547 2207)), (917548, (.int 917548 2208)), (917549, (.int 917549 2209)), (917550, (.int 917550 2210)), (917551, (.int 917551 2211)), (917552, (.int 917552 2212)), (917553, (.int 917553 2213)), (917554, (.int 917554 2214)), (917555, (.int 917555 2215)), (917556, (.int 917556 2216)), (917557, (.int 917557 2217)), (917558, (.int 917558 2218)), (917559, (.int 917559 2219)), (917560, (.int 917560 2220)), (917561, (.int 917561 2221)), (917562, (.int 917562 2222)), (917563, (.int 917563 2223)), (917564, (.int 917564 2224)), (917565, (.int 917565 2225)), (917566, (.int 917566 2226)), (917567, (.int 917567 2227)), (917568, (.int 917568 2228)), (917569, (.int 917569 2229)), (917570, (.int 917570 2230)), (917571, (.int 917571 2231)), (917572, (.int 917572 2232)), (917573, (.int 917573 2233)), (917574, (.int 917574 2234)), (917575, (.int 917575 2235)), (917576, (.int 917576 2236)), (917577, (.int 917577 2237)), (917578, (.int 917578 2238)), (917579, (.int 917579 2239)), (917580, (.int 917580 2240)), (917581, (.int 917581 2241)), (917582, (.int 917582 2242)), (917583, (.int 917583 2243)), (917584, (.int 917584 2244)), (917585, (.int 917585 2245)), (917586, (.int 917586 2246)), (917587, (.int 917587 2247)), (917588, (.int 917588 2248)), (917589, (.int 917589 2249)), (917590, (.int 917590 2250)), (917591, (.int 917591 2251)), (917592, (.int 917592 2252)), (917593, (.int 917593 2253)), (917594, (.int 917594 2254)), (917595, (.int 917595 2255)), (917596, (.int 917596 2256)), (917597, (.int 917597 2257)), (917598, (.int 917598 2258)), (917599, (.int 917599 2259)), (917600, (.int 917600 2260)), (917601, (.int 917601 2261)), (917602, (.int 917602 2262)), (917603, (.int 917603 2263)), (917604, (.int 917604 2264)), (917605, (.int 917605 2265)), (917606, (.int 917606 2266)), (917607, (.int 917607 2267)), (917608, (.int 917608 2268)), (917609, (.int 917609 2269)), (917610, (.int 917610 2270)), (917611, (.int 917611 2271)), (917612, (.int 917612 2272)), (917613, (.int 917613 2273)), (917614, (.int 917614 2274)), (917615, (.int 917615 2275)), (917616, (.int 917616 2276)), (917617, (.int 917617 2277)), (917618, (.int 917618 2278)), (917619, (.int 917619 2279)), (917620, (.int 917620 2280)), (917621, (.int 917621 2281)), (917622, (.int 917622 2282)), (917623, (.int 917623 2283)), (917624, (.int 917624 2284)), (917625, (.int 917625 2285)), (917626, (.int 917626 2286)), (917627, (.int 917627 2287)), (917628, (.int 917628 2288)), (917629, (.int 917629 2289)), (917630, (.int 917630 2290)), (917631, (.int 917631 2291))] 100 { mask := 511, place := #[1, 32, 33, 34, 35, 36, 37, 38, 39, 40, 41, 42, 43, 44, 45, 46, 47, 48, 49, 50, 51, 52, 53, 54, 55, 56, 57, 58, 59, 60, 61, 62, 63, 64, 65, 66, 67, 68, 69, 70, 71, 72, 73, 74, 75, 76, 77, 78, 79, 80, 81, 82, 83, 84, 85, 86, 87, 88, 89, 90, 91, 92, 93, 94, 95, 96, 97, 98, 99, 100, 101, 102, 103, 104, 105, 106, 107, 108, 109, 110, 111, 112, 113, 114, 115, 116, 117, 118, 119, 120, 121, 122, 123, 124, 125, 126, 127], dummies := #[], finger := 0, led := !(P.followText "set-order"), moves := 3, plain := true }, slots := #[] }
def o88v5 (P : Params) : Obj := { cls := (.type "list_iterator"), dict := none, data := .fields #[.none, (.int 97 0)], slots := #[] }
def o89 (P : Params) : Obj := { cls := (.type "tuple"), dict := none, data := .seq #[] 0, slots := #[] }
def o90 (P : Params) : Obj := { cls := (.type "StopIteration"), dict := none, data := .fields #[(.ref 89), .none, .none, .none, (.bool false), .none], slots := #[] }
def t_s6 (P : Params) : BT := (.node (boot_o_0 P) (.node (boot_o_1 P) (.node (o3v5 P) (.node (boot_o_7 P) (.node (o15 P) (.node (o31 P) (.node (o63 P) .nil .nil) .nil) (.node (o47 P) (.node (o79 P) .nil .nil) .nil)) (.node (o23 P) (.node (o39 P) (.node (o71 P) .nil .nil) .nil) (.node (o55 P) (.node (o87v5 P) .nil .nil) .nil))) (.node (o11 P) (.node (o19 P) (.node (o35 P) (.node (o67 P) .nil .nil) .nil) (.node (o51 P) (.node (o83v5 P) .nil .nil) .nil)) (.node (o27 P) (.node (o43 P) (.node (o75 P) .nil .nil) .nil) (.node (o59 P) .nil .nil)))) (.node (boot_o_5 P) (.node (boot_o_9 P) (.node (o17 P) (.node (o33 P) (.node (o65 P) .nil .nil) .nil) (.node (o49 P) (.node (o81 P) .nil .nil) .nil)) (.node (o25 P) (.node (o41 P) (.node (o73 P) .nil .nil) .nil) (.node (o57 P) (.node (o89 P) .nil .nil) .nil))) (.node (o13 P) (.node (o21 P) (.node (o37 P) (.node (o69 P) .nil .nil) .nil) (.node (o53 P) (.node (o85 P) .nil .nil) .nil)) (.node (o29 P) (.node (o45 P) (.node (o77 P) .nil .nil) .nil) (.node (o61 P) .nil .nil))))) (.node (boot_o_2 P) (.node (boot_o_4 P) (.node (boot_o_8 P) (.node (o16 P) (.node (o32 P) (.node (o64 P) .nil .nil) .nil) (.node (o48 P) (.node (o80 P) .nil .nil) .nil)) (.node (o24 P) (.node (o40 P) (.node (o72 P) .nil .nil) .nil) (.node (o56 P) (.node (o88v5 P) .nil .nil) .nil))) (.node (o12v3 P) (.node (o20 P) (.node (o36 P) (.node (o68 P) .nil .nil) .nil) (.node (o52 P) (.node (o84 P) .nil .nil) .nil)) (.node (o28 P) (.node (o44 P) (.node (o76 P) .nil .nil) .nil) (.node (o60 P) .nil .nil)))) (.node (boot_o_6 P) (.node (boot_o_10 P) (.node (o18 P) (.node (o34 P) (.node (o66 P) .nil .nil) .nil) (.node (o50 P) (.node (o82v5 P) .nil .nil) .nil)) (.node (o26 P) (.node (o42 P) (.node (o74 P) .nil .nil) .nil) (.node (o58 P) (.node (o90 P) .nil .nil) .nil))) (.node (o14 P) (.node (o22 P) (.node (o38 P) (.node (o70 P) .nil .nil) .nil) (.node (o54 P) (.node (o86 P) .nil .nil) .nil)) (.node (o30 P) (.node (o46 P) (.node (o78 P) .nil .nil) .nil) (.node (o62 P) .nil .nil))))))
abbrev x_s6 (w : World) (os : OsState) : SharedT := ⟨t_s6 w.params, 91, lf, #[], boot_drawn, 2390, os⟩
def o3v6 (P : Params) : Obj := { cls := (.type "dict"), dict := none, data := .dict (List.toArray [⟨PyData.keyHash P "__name__", (.str "__name__" 165), (.str "cpy313.stringprep" 194)⟩, ⟨PyData.keyHash P "__doc__", (.str "__doc__" 166), .none⟩, ⟨PyData.keyHash P "__package__", (.str "__package__" 167), .none⟩, ⟨PyData.keyHash P "__loader__", (.str "__loader__" 168), (.builtin "__main__.__loader__#opaque")⟩, ⟨PyData.keyHash P "__spec__", (.str "__spec__" 169), .none⟩, ⟨PyData.keyHash P "__annotations__", (.str "__annotations__" 170), (.ref 6)⟩, ⟨PyData.keyHash P "__builtins__", (.str "__builtins__" 171), (.ref 4)⟩, ⟨PyData.keyHash P "__file__", (.str "__file__" 173), (.str "/claim/cut.py" 172)⟩, ⟨PyData.keyHash P "__cached__", (.str "__cached__" 174), .none⟩, ⟨PyData.keyHash P "_wall", (.str "_wall" 193), (.ref 21)⟩, ⟨PyData.keyHash P "b3_exceptions", (.str "b3_exceptions" 2146), (.ref 22)⟩, ⟨PyData.keyHash P "map_table_b3", (.str "map_table_b3" 2154), (.ref 67)⟩, ⟨PyData.keyHash P "c7_set", (.str "c7_set" 2182), (.ref 69)⟩, ⟨PyData.keyHash P "in_table_c7", (.str "in_table_c7" 2189), (.ref 79)⟩, ⟨PyData.keyHash P "c9_set", (.str "c9_set" 2389), (.ref 87)⟩, ⟨PyData.keyHash P "in_table_c9", (.str "in_table_c9" 2396), (.ref 97)⟩]) 16, slots := #[] }
def o12v4 (P : Params) : Obj := { cls := .none, dict := none, data := .fields #[(.int 1 0), (.int 0 0), (.ref 20), (.int 6 0), (.int 0 0), (.ref 66), (.int 12 0), (.int 0 0), (.ref 78), (.int 15 0), (.int 0 0), (.ref 96)], slots := #[] }
def o91 (P : Params) : Obj := { cls := (.type "tuple"), dict := none, data := .seq #[] 0, slots := #[] }
def o92 (P : Params) : Obj := { cls := .none, dict := none, data := .fields #[], slots := #[] }
def o93 (P : Params) : Obj := { cls := (.type "tuple"), dict := none, data := .seq #[(.str "code" 2393)] 0, slots := #[] }
def o94 (P : Params) : Obj := { cls := (.type "tuple"), dict := none, data := .seq #[] 0, slots := #[] }
def o95 (P : Params) : Obj := { cls := .none, dict := none, data := .func { name := "in_table_c9", qualname := "in_table_c9", params := fP (fn 7), body := .stmts (fB (fn 7)), scope := fS (fn 7), globals := 0, closure := [], defaults := .none, kwdefaults := .none, doc := .none, pyModule := .none, annotations := none, code := .none, closureTuple := .none, builtins := 0 }, slots := #[] }
def o96 (P : Params) : Obj := { cls := (.type "code"), dict := none, data := .fields #[(.str "in_table_c9" 2390), (.str "in_table_c9" 2391), (.str "/claim/cut.py" 2392), (.int 15 0), (.int 1 0), (.int 0 0), (.int 0 0), (.int 3 0), (.ref 91), (.bool true), (.int 181 0), (.ref 92), .none, (.ref 93), (.ref 94), (.ref 95), (.int 2394 0), (.int 15 0), (.str "/claim/cut.py" 2395)], slots := #[] }
def o97 (P : Params) : Obj := { cls := (.type "function"), dict := none, data := .func { name := "in_table_c9", qualname := "in_table_c9", params := fP (fn 7), body := .stmts (fB (fn 7)), scope := fS (fn 7), globals := 3, closure := [], defaults := .none, kwdefaults := .none, doc := .none, pyModule := (.str "cpy313.stringprep" 194), annotations := none, code := (.ref 96), closureTuple := .none, builtins := 0 }, slots := #[] }
def t_s7 (P : Params) : BT := (.node (boot_o_0 P) (.node (boot_o_1 P) (.node (o3v6 P) (.node (boot_o_7 P) (.node (o15 P) (.node (o31 P) (.node (o63 P) .nil .nil) (.node (o95 P) .nil .nil)) (.node (o47 P) (.node (o79 P) .nil .nil) .nil)) (.node (o23 P) (.node (o39 P) (.node (o71 P) .nil .nil) .nil) (.node (o55 P) (.node (o87v5 P) .nil .nil) .nil))) (.node (o11 P) (.node (o19 P) (.node (o35 P) (.node (o67 P) .nil .nil) .nil) (.node (o51 P) (.node (o83v5 P) .nil .nil) .nil)) (.node (o27 P) (.node (o43 P) (.node (o75 P) .nil .nil) .nil) (.node (o59 P) (.node (o91 P) .nil .nil) .nil)))) (.node (boot_o_5 P) (.node (boot_o_9 P) (.node (o17 P) (.node (o33 P) (.node (o65 P) .nil .nil) (.node (o97 P) .nil .nil)) (.node (o49 P) (.node (o81 P) .nil .nil) .nil)) (.node (o25 P) (.node (o41 P) (.node (o73 P) .nil .nil) .nil) (.node (o57 P) (.node (o89 P) .nil .nil) .nil))) (.node (o13 P) (.node (o21 P) (.node (o37 P) (.node (o69 P) .nil .nil) .nil) (.node (o53 P) (.node (o85 P) .nil .nil) .nil)) (.node (o29 P) (.node (o45 P) (.node (o77 P) .nil .nil) .nil) (.node (o61 P) (.node (o93 P) .nil .nil) .nil))))) (.node (boot_o_2 P) (.node (boot_o_4 P) (.node (boot_o_8 P) (.node (o16 P) (.node (o32 P) (.node (o64 P) .nil .nil) (.node (o96 P) .nil .nil)) (.node (o48 P) (.node (o80 P) .nil .nil) .nil)) (.node (o24 P) (.node (o40 P) (.node (o72 P) .nil .nil) .nil) (.node (o56 P) (.node (o88v5 P) .nil .nil) .nil))) (.node (o12v4 P) (.node (o20 P) (.node (o36 P) (.node (o68 P) .nil .nil) .nil) (.node (o52 P) (.node (o84 P) .nil .nil) .nil)) (.node (o28 P) (.node (o44 P) (.node (o76 P) .nil .nil) .nil) (.node (o60 P) (.node (o92 P) .nil .nil) .nil)))) (.node (boot_o_6 P) (.node (boot_o_10 P) (.node (o18 P) (.node (o34 P) (.node (o66 P) .nil .nil) .nil) (.node (o50 P) (.node (o82v5 P) .nil .nil) .nil)) (.node (o26 P) (.node (o42 P) (.node (o74 P) .nil .nil) .nil) (.node (o58 P) (.node (o90 P) .nil .nil) .nil))) (.node (o14 P) (.node (o22 P) (.node (o38 P) (.node (o70 P) .nil .nil) .nil) (.node (o54 P) (.node (o86 P) .nil .nil) .nil)) (.node (o30 P) (.node (o46 P) (.node (o78 P) .nil .nil) .nil) (.node (o62 P) (.node (o94 P) .nil .nil) .nil))))))
abbrev x_s7 (w : World) (os : OsState) : SharedT := ⟨t_s7 w.params, 98, lf, #[], boot_drawn, 2397, os⟩
def o3v7 (P : Params) : Obj := { cls := (.type "dict"), dict := none, data := .dict (List.toArray [⟨PyData.keyHash P "__name__", (.str "__name__" 165), (.str "cpy313.email.header" 2397)⟩, ⟨PyData.keyHash P "__doc__", (.str "__doc__" 166), .none⟩, ⟨PyData.keyHash P "__package__", (.str "__package__" 167), .none⟩, ⟨PyData.keyHash P "__loader__", (.str "__loader__" 168), (.builtin "__main__.__loader__#opaque")⟩, ⟨PyData.keyHash P "__spec__", (.str "__spec__" 169), .none⟩, ⟨PyData.keyHash P "__annotations__", (.str "__annotations__" 170), (.ref 6)⟩, ⟨PyData.keyHash P "__builtins__", (.str "__builtins__" 171), (.ref 4)⟩, ⟨PyData.keyHash P "__file__", (.str "__file__" 173), (.str "/claim/cut.py" 172)⟩, ⟨PyData.keyHash P "__cached__", (.str "__cached__" 174), .none⟩, ⟨PyData.keyHash P "_wall", (.str "_wall" 193), (.ref 21)⟩, ⟨PyData.keyHash P "b3_exceptions", (.str "b3_exceptions" 2146), (.ref 22)⟩, ⟨PyData.keyHash P "map_table_b3", (.str "map_table_b3" 2154), (.ref 67)⟩, ⟨PyData.keyHash P "c7_set", (.str "c7_set" 2182), (.ref 69)⟩, ⟨PyData.keyHash P "in_table_c7", (.str "in_table_c7" 2189), (.ref 79)⟩, ⟨PyData.keyHash P "c9_set", (.str "c9_set" 2389), (.ref 87)⟩, ⟨PyData.keyHash P "in_table_c9", (.str "in_table_c9" 2396), (.ref 97)⟩, ⟨PyData.keyHash P "EMPTYSTRING", (.str "EMPTYSTRING" 2400), (.str "" 2399)⟩]) 17, slots := #[] }
def t_s9 (P : Params) : BT := (.node (boot_o_0 P) (.node (boot_o_1 P) (.node (o3v7 P) (.node (boot_o_7 P) (.node (o15 P) (.node (o31 P) (.node (o63 P) .nil .nil) (.node (o95 P) .nil .nil)) (.node (o47 P) (.node (o79 P) .nil .nil) .nil)) (.node (o23 P) (.node (o39 P) (.node (o71 P) .nil .nil) .nil) (.node (o55 P) (.node (o87v5 P) .nil .nil) .nil))) (.node (o11 P) (.node (o19 P) (.node (o35 P) (.node (o67 P) .nil .nil) .nil) (.node (o51 P) (.node (o83v5 P) .nil .nil) .nil)) (.node (o27 P) (.node (o43 P) (.node (o75 P) .nil .nil) .nil) (.node (o59 P) (.node (o91 P) .nil .nil) .nil)))) (.node (boot_o_5 P) (.node (boot_o_9 P) (.node (o17 P) (.node (o33 P) (.node (o65 P) .nil .nil) (.node (o97 P) .nil .nil)) (.node (o49 P) (.node (o81 P) .nil .nil) .nil)) (.node (o25 P) (.node (o41 P) (.node (o73 P) .nil .nil) .nil) (.node (o57 P) (.node (o89 P) .nil .nil) .nil))) (.node (o13 P) (.node (o21 P) (.node (o37 P) (.node (o69 P) .nil .nil) .nil) (.node (o53 P) (.node (o85 P) .nil .nil) .nil)) (.node (o29 P) (.node (o45 P) (.node (o77 P) .nil .nil) .nil) (.node (o61 P) (.node (o93 P) .nil .nil) .nil))))) (.node (boot_o_2 P) (.node (boot_o_4 P) (.node (boot_o_8 P) (.node (o16 P) (.node (o32 P) (.node (o64 P) .nil .nil) (.node (o96 P) .nil .nil)) (.node (o48 P) (.node (o80 P) .nil .nil) .nil)) (.node (o24 P) (.node (o40 P) (.node (o72 P) .nil .nil) .nil) (.node (o56 P) (.node (o88v5 P) .nil .nil) .nil))) (.node (o12v4 P) (.node (o20 P) (.node (o36 P) (.node (o68 P) .nil .nil) .nil) (.node (o52 P) (.node (o84 P) .nil .nil) .nil)) (.node (o28 P) (.node (o44 P) (.node (o76 P) .nil .nil) .nil) (.node (o60 P) (.node (o92 P) .nil .nil) .nil)))) (.node (boot_o_6 P) (.node (boot_o_10 P) (.node (o18 P) (.node (o34 P) (.node (o66 P) .nil .nil) .nil) (.node (o50 P) (.node (o82v5 P) .nil .nil) .nil)) (.node (o26 P) (.node (o42 P) (.node (o74 P) .nil .nil) .nil) (.node (o58 P) (.node (o90 P) .nil .nil) .nil))) (.node (o14 P) (.node (o22 P) (.node (o38 P) (.node (o70 P) .nil .nil) .nil) (.node (o54 P) (.node (o86 P) .nil .nil) .nil)) (.node (o30 P) (.node (o46 P) (.node (o78 P) .nil .nil) .nil) (.node (o62 P) (.node (o94 P) .nil .nil) .nil))))))
abbrev x_s9 (w : World) (os : OsState) : SharedT := ⟨t_s9 w.params, 98, lf, #[], boot_drawn, 2401, os⟩
def o3v8 (P : Params) : Obj := { cls := (.type "dict"), dict := none, data := .dict (List.toArray [⟨PyData.keyHash P "__name__", (.str "__name__" 165), (.str "cpy313.email.header" 2397)⟩, ⟨PyData.keyHash P "__doc__", (.str "__doc__" 166), .none⟩, ⟨PyData.keyHash P "__package__", (.str "__package__" 167), .none⟩, ⟨PyData.keyHash P "__loader__", (.str "__loader__" 168), (.builtin "__main__.__loader__#opaque")⟩, ⟨PyData.keyHash P "__spec__", (.str "__spec__" 169), .none⟩, ⟨PyData.keyHash P "__annotations__", (.str "__annotations__" 170), (.ref 6)⟩, ⟨PyData.keyHash P "__builtins__", (.str "__builtins__" 171), (.ref 4)⟩, ⟨PyData.keyHash P "__file__", (.str "__file__" 173), (.str "/claim/cut.py" 172)⟩, ⟨PyData.keyHash P "__cached__", (.str "__cached__" 174), .none⟩, ⟨PyData.keyHash P "_wall", (.str "_wall" 193), (.ref 21)⟩, ⟨PyData.keyHash P "b3_exceptions", (.str "b3_exceptions" 2146), (.ref 22)⟩, ⟨PyData.keyHash P "map_table_b3", (.str "map_table_b3" 2154), (.ref 67)⟩, ⟨PyData.keyHash P "c7_set", (.str "c7_set" 2182), (.ref 69)⟩, ⟨PyData.keyHash P "in_table_c7", (.str "in_table_c7" 2189), (.ref 79)⟩, ⟨PyData.keyHash P "c9_set", (.str "c9_set" 2389), (.ref 87)⟩, ⟨PyData.keyHash P "in_table_c9", (.str "in_table_c9" 2396), (.ref 97)⟩, ⟨PyData.keyHash P "EMPTYSTRING", (.str "EMPTYSTRING" 2400), (.str "" 2399)⟩, ⟨PyData.keyHash P "_Accumulator", (.str "_Accumulator" 2493), (.ref 175)⟩]) 18, slots := #[] }
def o12v5 (P : Params) : Obj := { cls := .none, dict := none, data := .fields #[(.int 1 0), (.int 0 0), (.ref 20), (.int 6 0), (.int 0 0), (.ref 66), (.int 12 0), (.int 0 0), (.ref 78), (.int 15 0), (.int 0 0), (.ref 96), (.int 19 0), (.int 0 0), (.ref 104)], slots := #[] }
def o98 (P : Params) : Obj := { cls := (.type "tuple"), dict := none, data := .seq #[(.type "list")] 0, slots := #[] }
def o99 (P : Params) : Obj := { cls := (.type "builtin_function_or_method"), dict := none, data := .fields #[(.builtin "type.__prepare__"), (.type "type")], slots := #[] }
def o100 (P : Params) : Obj := { cls := (.type "dict"), dict := none, data := .dict (List.toArray [⟨PyData.keyHash P "__module__", (.str "__module__" 2408), (.str "cpy313.email.header" 2397)⟩, ⟨PyData.keyHash P "__qualname__", (.str "__qualname__" 2410), (.str "_Accumulator" 2409)⟩, ⟨PyData.keyHash P "__firstlineno__", (.str "__firstlineno__" 2412), (.int 19 2411)⟩, ⟨PyData.keyHash P "__init__", (.str "__init__" 2422), (.ref 114)⟩, ⟨PyData.keyHash P "push", (.str "push" 2431), (.ref 121)⟩, ⟨PyData.keyHash P "pop_from", (.str "pop_from" 2440), (.ref 129)⟩, ⟨PyData.keyHash P "pop", (.str "pop" 2447), (.ref 136)⟩, ⟨PyData.keyHash P "__len__", (.str "__len__" 2454), (.ref 143)⟩, ⟨PyData.keyHash P "__str__", (.str "__str__" 2461), (.ref 150)⟩, ⟨PyData.keyHash P "reset", (.str "reset" 2469), (.ref 158)⟩, ⟨PyData.keyHash P "is_onlyws", (.str "is_onlyws" 2476), (.ref 165)⟩, ⟨PyData.keyHash P "part_count", (.str "part_count" 2483), (.ref 172)⟩, ⟨PyData.keyHash P "__static_attributes__", (.str "__static_attributes__" 2485), (.ref 173)⟩, ⟨PyData.keyHash P "__classcell__", (.str "__classcell__" 2486), (.ref 101)⟩]) 14, slots := #[] }
def o101 (P : Params) : Obj := { cls := (.type "cell"), dict := none, data := .cell (some (.ref 175)), slots := #[] }
def o102 (P : Params) : Obj := { cls := (.type "tuple"), dict := none, data := .seq #[] 0, slots := #[] }
def o103 (P : Params) : Obj := { cls := .none, dict := none, data := .fields #[(.int 21 0), (.int 4 0), (.ref 113), (.int 25 0), (.int 4 0), (.ref 120), (.int 28 0), (.int 4 0), (.ref 128), (.int 31 0), (.int 4 0), (.ref 135), (.int 34 0), (.int 4 0), (.ref 142), (.int 37 0), (.int 4 0), (.ref 149), (.int 40 0), (.int 4 0), (.ref 157), (.int 43 0), (.int 4 0), (.ref 164), (.int 46 0), (.int 4 0), (.ref 171)], slots := #[] }
def o104 (P : Params) : Obj := { cls := (.type "code"), dict := none, data := .fields #[(.str "_Accumulator" 2403), (.str "_Accumulator" 2404), (.str "/claim/cut.py" 2405), (.int 19 0), (.int 0 0), (.int 0 0), (.int 0 0), (.int 0 0), (.ref 102), (.bool false), (.int 181 0), (.ref 103), .none, .none, .none, .none, (.int 2406 0), (.int 19 0), (.str "/claim/cut.py" 2407)], slots := #[] }
def o105 (P : Params) : Obj := { cls := (.type "frame"), dict := none, data := .plain, slots := #[(some (.ref 104)), (some (.ref 3)), (some (.ref 100)), none, (some (.str "cpy313.email.header" 2397)), none, (some (.ref 0))] }
def o106 (P : Params) : Obj := { cls := (.type "tuple"), dict := none, data := .seq #[(.int 0 2413)] 0, slots := #[] }
def o107 (P : Params) : Obj := { cls := (.type "tuple"), dict := none, data := .seq #[(.ref 101)] 0, slots := #[] }
def o108 (P : Params) : Obj := { cls := (.type "tuple"), dict := none, data := .seq #[(.str "__class__" 2417)] 0, slots := #[] }
def o109 (P : Params) : Obj := { cls := .none, dict := none, data := .fields #[], slots := #[] }
def o110 (P : Params) : Obj := { cls := (.type "tuple"), dict := none, data := .seq #[(.str "self" 2418), (.str "initial_size" 2419)] 0, slots := #[] }
def o111 (P : Params) : Obj := { cls := (.type "tuple"), dict := none, data := .seq #[] 0, slots := #[] }
def o112 (P : Params) : Obj := { cls := .none, dict := none, data := .func { name := "__init__", qualname := "_Accumulator.__init__", params := fP (mt 10 0), body := .stmts (fB (mt 10 0)), scope := fS (mt 10 0), globals := 0, closure := [], defaults := .none, kwdefaults := .none, doc := .none, pyModule := .none, annotations := none, code := .none, closureTuple := .none, builtins := 0 }, slots := #[] }
def o113 (P : Params) : Obj := { cls := (.type "code"), dict := none, data := .fields #[(.str "__init__" 2414), (.str "_Accumulator.__init__" 2415), (.str "/claim/cut.py" 2416), (.int 21 0), (.int 2 0), (.int 0 0), (.int 0 0), (.int 3 0), (.ref 108), (.bool true), (.int 181 0), (.ref 109), .none, (.ref 110), (.ref 111), (.ref 112), (.int 2420 0), (.int 21 0), (.str "/claim/cut.py" 2421)], slots := #[] }
def o114 (P : Params) : Obj := { cls := (.type "function"), dict := none, data := .func { name := "__init__", qualname := "_Accumulator.__init__", params := fP (mt 10 0), body := .stmts (fB (mt 10 0)), scope := fS (mt 10 0), globals := 3, closure := [("__class__", 101)], defaults := (.ref 106), kwdefaults := .none, doc := .none, pyModule := (.str "cpy313.email.header" 2397), annotations := none, code := (.ref 113), closureTuple := (.ref 107), builtins := 0 }, slots := #[] }
def o115 (P : Params) : Obj := { cls := (.type "tuple"), dict := none, data := .seq #[] 0, slots := #[] }
def o116 (P : Params) : Obj := { cls := .none, dict := none, data := .fields #[], slots := #[] }
def o117 (P : Params) : Obj := { cls := (.type "tuple"), dict := none, data := .seq #[(.str "self" 2426), (.str "fws" 2427), (.str "string" 2428)] 0, slots := #[] }
def o118 (P : Params) : Obj := { cls := (.type "tuple"), dict := none, data := .seq #[] 0, slots := #[] }
def o119 (P : Params) : Obj := { cls := .none, dict := none, data := .func { name := "push", qualname := "_Accumulator.push", params := fP (mt 10 1), body := .stmts (fB (mt 10 1)), scope := fS (mt 10 1), globals := 0, closure := [], defaults := .none, kwdefaults := .none, doc := .none, pyModule := .none, annotations := none, code := .none, closureTuple := .none, builtins := 0 }, slots := #[] }
def o120 (P : Params) : Obj := { cls := (.type "code"), dict := none, data := .fields #[(.str "push" 2423), (.str "_Accumulator.push" 2424), (.str "/claim/cut.py" 2425), (.int 25 0), (.int 3 0), (.int 0 0), (.int 0 0), (.int 3 0), (.ref 115), (.bool true), (.int 181 0), (.ref 116), .none, (.ref 117), (.ref 118), (.ref 119), (.int 2429 0), (.int 25 0), (.str "/claim/cut.py" 2430)], slots := #[] }
def o121 (P : Params) : Obj := { cls := (.type "function"), dict := none, data := .func { name := "push", qualname := "_Accumulator.push", params := fP (mt 10 1), body := .stmts (fB (mt 10 1)), scope := fS (mt 10 1), globals := 3, closure := [], defaults := .none, kwdefaults := .none, doc := .none, pyModule := (.str "cpy313.email.header" 2397), annotations := none, code := (.ref 120), closureTuple := .none, builtins := 0 }, slots := #[] }
def o122 (P : Params) : Obj := { cls := (.type "tuple"), dict := none, data := .seq #[(.int 0 2432)] 0, slots := #[] }
def o123 (P : Params) : Obj := { cls := (.type "tuple"), dict := none, data := .seq #[] 0, slots := #[] }
def o124 (P : Params) : Obj := { cls := .none, dict := none, data := .fields #[], slots := #[] }
def o125 (P : Params) : Obj := { cls := (.type "tuple"), dict := none, data := .seq #[(.str "self" 2436), (.str "i" 2437)] 0, slots := #[] }
def o126 (P : Params) : Obj := { cls := (.type "tuple"), dict := none, data := .seq #[] 0, slots := #[] }
def o127 (P : Params) : Obj := { cls := .none, dict := none, data := .func { name := "pop_from", qualname := "_Accumulator.pop_from", params := fP (mt 10 2), body := .stmts (fB (mt 10 2)), scope := fS (mt 10 2), globals := 0, closure := [], defaults := .none, kwdefaults := .none, doc := .none, pyModule := .none, annotations := none, code := .none, closureTuple := .none, builtins := 0 }, slots := #[] }
def o128 (P : Params) : Obj := { cls := (.type "code"), dict := none, data := .fields #[(.str "pop_from" 2433), (.str "_Accumulator.pop_from" 2434), (.str "/claim/cut.py" 2435), (.int 28 0), (.int 2 0), (.int 0 0), (.int 0 0), (.int 3 0), (.ref 123), (.bool true), (.int 181 0), (.ref 124), .none, (.ref 125), (.ref 126), (.ref 127), (.int 2438 0), (.int 28 0), (.str "/claim/cut.py" 2439)], slots := #[] }
def o129 (P : Params) : Obj := { cls := (.type "function"), dict := none, data := .func { name := "pop_from", qualname := "_Accumulator.pop_from", params := fP (mt 10 2), body := .stmts (fB (mt 10 2)), scope := fS (mt 10 2), globals := 3, closure := [], defaults := (.ref 122), kwdefaults := .none, doc := .none, pyModule := (.str "cpy313.email.header" 2397), annotations := none, code := (.ref 128), closureTuple := .none, builtins := 0 }, slots := #[] }
def o130 (P : Params) : Obj := { cls := (.type "tuple"), dict := none, data := .seq #[] 0, slots := #[] }
def o131 (P : Params) : Obj := { cls := .none, dict := none, data := .fields #[], slots := #[] }
def o132 (P : Params) : Obj := { cls := (.type "tuple"), dict := none, data := .seq #[(.str "self" 2444)] 0, slots := #[] }
def o133 (P : Params) : Obj := { cls := (.type "tuple"), dict := none, data := .seq #[] 0, slots := #[] }
def o134 (P : Params) : Obj := { cls := .none, dict := none, data := .func { name := "pop", qualname := "_Accumulator.pop", params := fP (mt 10 3), body := .stmts (fB (mt 10 3)), scope := fS (mt 10 3), globals := 0, closure := [], defaults := .none, kwdefaults := .none, doc := .none, pyModule := .none, annotations := none, code := .none, closureTuple := .none, builtins := 0 }, slots := #[] }
def o135 (P : Params) : Obj := { cls := (.type "code"), dict := none, data := .fields #[(.str "pop" 2441), (.str "_Accumulator.pop" 2442), (.str "/claim/cut.py" 2443), (.int 31 0), (.int 1 0), (.int 0 0), (.int 0 0), (.int 3 0), (.ref 130), (.bool true), (.int 181 0), (.ref 131), .none, (.ref 132), (.ref 133), (.ref 134), (.int 2445 0), (.int 31 0), (.str "/claim/cut.py" 2446)], slots := #[] }
def o136 (P : Params) : Obj := { cls := (.type "function"), dict := none, data := .func { name := "pop", qualname := "_Accumulator.pop", params := fP (mt 10 3), body := .stmts (fB (mt 10 3)), scope := fS (mt 10 3), globals := 3, closure := [], defaults := .none, kwdefaults := .none, doc := .none, pyModule := (.str "cpy313.email.header" 2397), annotations := none, code := (.ref 135), closureTuple := .none, builtins := 0 }, slots := #[] }
def o137 (P : Params) : Obj := { cls := (.type "tuple"), dict := none, data := .seq #[] 0, slots := #[] }
def o138 (P : Params) : Obj := { cls := .none, dict := none, data := .fields #[], slots := #[] }
def o139 (P : Params) : Obj := { cls := (.type "tuple"), dict := none, data := .seq #[(.str "self" 2451)] 0, slots := #[] }
def o140 (P : Params) : Obj := { cls := (.type "tuple"), dict := none, data := .seq #[] 0, slots := #[] }
def o141 (P : Params) : Obj := { cls := .none, dict := none, data := .func { name := "__len__", qualname := "_Accumulator.__len__", params := fP (mt 10 4), body := .stmts (fB (mt 10 4)), scope := fS (mt 10 4), globals := 0, closure := [], defaults := .none, kwdefaults := .none, doc := .none, pyModule := .none, annotations := none, code := .none, closureTuple := .none, builtins := 0 }, slots := #[] }
def o142 (P : Params) : Obj := { cls := (.type "code"), dict := none, data := .fields #[(.str "__len__" 2448), (.str "_Accumulator.__len__" 2449), (.str "/claim/cut.py" 2450), (.int 34 0), (.int 1 0), (.int 0 0), (.int 0 0), (.int 3 0), (.ref 137), (.bool true), (.int 181 0), (.ref 138), .none, (.ref 139), (.ref 140), (.ref 141), (.int 2452 0), (.int 34 0), (.str "/claim/cut.py" 2453)], slots := #[] }
def o143 (P : Params) : Obj := { cls := (.type "function"), dict := none, data := .func { name := "__len__", qualname := "_Accumulator.__len__", params := fP (mt 10 4), body := .stmts (fB (mt 10 4)), scope := fS (mt 10 4), globals := 3, closure := [], defaults := .none, kwdefaults := .none, doc := .none, pyModule := (.str "cpy313.email.header" 2397), annotations := none, code := (.ref 142), closureTuple := .none, builtins := 0 }, slots := #[] }
def o144 (P : Params) : Obj := { cls := (.type "tuple"), dict := none, data := .seq #[] 0, slots := #[] }
def o145 (P : Params) : Obj := { cls := .none, dict := none, data := .fields #[], slots := #[] }
def o146 (P : Params) : Obj := { cls := (.type "tuple"), dict := none, data := .seq #[(.str "self" 2458)] 0, slots := #[] }
def o147 (P : Params) : Obj := { cls := (.type "tuple"), dict := none, data := .seq #[] 0, slots := #[] }
def o148 (P : Params) : Obj := { cls := .none, dict := none, data := .func { name := "__str__", qualname := "_Accumulator.__str__", params := fP (mt 10 5), body := .stmts (fB (mt 10 5)), scope := fS (mt 10 5), globals := 0, closure := [], defaults := .none, kwdefaults := .none, doc := .none, pyModule := .none, annotations := none, code := .none, closureTuple := .none, builtins := 0 }, slots := #[] }
def o149 (P : Params) : Obj := { cls := (.type "code"), dict := none, data := .fields #[(.str "__str__" 2455), (.str "_Accumulator.__str__" 2456), (.str "/claim/cut.py" 2457), (.int 37 0), (.int 1 0), (.int 0 0), (.int 0 0), (.int 3 0), (.ref 144), (.bool true), (.int 181 0), (.ref 145), .none, (.ref 146), (.ref 147), (.ref 148), (.int 2459 0), (.int 37 0), (.str "/claim/cut.py" 2460)], slots := #[] }
def o150 (P : Params) : Obj := { cls := (.type "function"), dict := none, data := .func { name := "__str__", qualname := "_Accumulator.__str__", params := fP (mt 10 5), body := .stmts (fB (mt 10 5)), scope := fS (mt 10 5), globals := 3, closure := [], defaults := .none, kwdefaults := .none, doc := .none, pyModule := (.str "cpy313.email.header" 2397), annotations := none, code := (.ref 149), closureTuple := .none, builtins := 0 }, slots := #[] }
def o151 (P : Params) : Obj := { cls := (.type "tuple"), dict := none, data := .seq #[.none] 0, slots := #[] }
def o152 (P : Params) : Obj := { cls := (.type "tuple"), dict := none, data := .seq #[] 0, slots := #[] }
def o153 (P : Params) : Obj := { cls := .none, dict := none, data := .fields #[], slots := #[] }
def o154 (P : Params) : Obj := { cls := (.type "tuple"), dict := none, data := .seq #[(.str "self" 2465), (.str "startval" 2466)] 0, slots := #[] }
def o155 (P : Params) : Obj := { cls := (.type "tuple"), dict := none, data := .seq #[] 0, slots := #[] }
def o156 (P : Params) : Obj := { cls := .none, dict := none, data := .func { name := "reset", qualname := "_Accumulator.reset", params := fP (mt 10 6), body := .stmts (fB (mt 10 6)), scope := fS (mt 10 6), globals := 0, closure := [], defaults := .none, kwdefaults := .none, doc := .none, pyModule := .none, annotations := none, code := .none, closureTuple := .none, builtins := 0 }, slots := #[] }
def o157 (P : Params) : Obj := { cls := (.type "code"), dict := none, data := .fields #[(.str "reset" 2462), (.str "_Accumulator.reset" 2463), (.str "/claim/cut.py" 2464), (.int 40 0), (.int 2 0), (.int 0 0), (.int 0 0), (.int 3 0), (.ref 152), (.bool true), (.int 181 0), (.ref 153), .none, (.ref 154), (.ref 155), (.ref 156), (.int 2467 0), (.int 40 0), (.str "/claim/cut.py" 2468)], slots := #[] }
def o158 (P : Params) : Obj := { cls := (.type "function"), dict := none, data := .func { name := "reset", qualname := "_Accumulator.reset", params := fP (mt 10 6), body := .stmts (fB (mt 10 6)), scope := fS (mt 10 6), globals := 3, closure := [], defaults := (.ref 151), kwdefaults := .none, doc := .none, pyModule := (.str "cpy313.email.header" 2397), annotations := none, code := (.ref 157), closureTuple := .none, builtins := 0 }, slots := #[] }
def o159 (P : Params) : Obj := { cls := (.type "tuple"), dict := none, data := .seq #[] 0, slots := #[] }
def o160 (P : Params) : Obj := { cls := .none, dict := none, data := .fields #[], slots := #[] }
def o161 (P : Params) : Obj := { cls := (.type "tuple"), dict := none, data := .seq #[(.str "self" 2473)] 0, slots := #[] }
def o162 (P : Params) : Obj := { cls := (.type "tuple"), dict := none, data := .seq #[] 0, slots := #[] }
def o163 (P : Params) : Obj := { cls := .none, dict := none, data := .func { name := "is_onlyws", qualname := "_Accumulator.is_onlyws", params := fP (mt 10 7), body := .stmts (fB (mt 10 7)), scope := fS (mt 10 7), globals := 0, closure := [], defaults := .none, kwdefaults := .none, doc := .none, pyModule := .none, annotations := none, code := .none, closureTuple := .none, builtins := 0 }, slots := #[] }
def o164 (P : Params) : Obj := { cls := (.type "code"), dict := none, data := .fields #[(.str "is_onlyws" 2470), (.str "_Accumulator.is_onlyws" 2471), (.str "/claim/cut.py" 2472), (.int 43 0), (.int 1 0), (.int 0 0), (.int 0 0), (.int 3 0), (.ref 159), (.bool true), (.int 181 0), (.ref 160), .none, (.ref 161), (.ref 162), (.ref 163), (.int 2474 0), (.int 43 0), (.str "/claim/cut.py" 2475)], slots := #[] }
def o165 (P : Params) : Obj := { cls := (.type "function"), dict := none, data := .func { name := "is_onlyws", qualname := "_Accumulator.is_onlyws", params := fP (mt 10 7), body := .stmts (fB (mt 10 7)), scope := fS (mt 10 7), globals := 3, closure := [], defaults := .none, kwdefaults := .none, doc := .none, pyModule := (.str "cpy313.email.header" 2397), annotations := none, code := (.ref 164), closureTuple := .none, builtins := 0 }, slots := #[] }
def o166 (P : Params) : Obj := { cls := (.type "tuple"), dict := none, data := .seq #[] 0, slots := #[] }
def o167 (P : Params) : Obj := { cls := .none, dict := none, data := .fields #[], slots := #[] }
def o168 (P : Params) : Obj := { cls := (.type "tuple"), dict := none, data := .seq #[(.str "self" 2480)] 0, slots := #[] }
def o169 (P : Params) : Obj := { cls := (.type "tuple"), dict := none, data := .seq #[] 0, slots := #[] }
def o170 (P : Params) : Obj := { cls := .none, dict := none, data := .func { name := "part_count", qualname := "_Accumulator.part_count", params := fP (mt 10 8), body := .stmts (fB (mt 10 8)), scope := fS (mt 10 8), globals := 0, closure := [], defaults := .none, kwdefaults := .none, doc := .none, pyModule := .none, annotations := none, code := .none, closureTuple := .none, builtins := 0 }, slots := #[] }
def o171 (P : Params) : Obj := { cls := (.type "code"), dict := none, data := .fields #[(.str "part_count" 2477), (.str "_Accumulator.part_count" 2478), (.str "/claim/cut.py" 2479), (.int 46 0), (.int 1 0), (.int 0 0), (.int 0 0), (.int 3 0), (.ref 166), (.bool true), (.int 181 0), (.ref 167), .none, (.ref 168), (.ref 169), (.ref 170), (.int 2481 0), (.int 46 0), (.str "/claim/cut.py" 2482)], slots := #[] }
def o172 (P : Params) : Obj := { cls := (.type "function"), dict := none, data := .func { name := "part_count", qualname := "_Accumulator.part_count", params := fP (mt 10 8), body := .stmts (fB (mt 10 8)), scope := fS (mt 10 8), globals := 3, closure := [], defaults := .none, kwdefaults := .none, doc := .none, pyModule := (.str "cpy313.email.header" 2397), annotations := none, code := (.ref 171), closureTuple := .none, builtins := 0 }, slots := #[] }
def o173 (P : Params) : Obj := { cls := (.type "tuple"), dict := none, data := .seq #[(.str "_initial_size" 2484)] 0, slots := #[] }
def o174 (P : Params) : Obj := { cls := (.type "dict"), dict := none, data := .dict (List.toArray [⟨PyData.keyHash P "__module__", (.str "__module__" 2408), (.str "cpy313.email.header" 2397)⟩, ⟨PyData.keyHash P "__firstlineno__", (.str "__firstlineno__" 2412), (.int 19 2411)⟩, ⟨PyData.keyHash P "__init__", (.str "__init__" 2422), (.ref 114)⟩, ⟨PyData.keyHash P "push", (.str "push" 2431), (.ref 121)⟩, ⟨PyData.keyHash P "pop_from", (.str "pop_from" 2440), (.ref 129)⟩, ⟨PyData.keyHash P "pop", (.str "pop" 2447), (.ref 136)⟩, ⟨PyData.keyHash P "__len__", (.str "__len__" 2454), (.ref 143)⟩, ⟨PyData.keyHash P "__str__", (.str "__str__" 2461), (.ref 150)⟩, ⟨PyData.keyHash P "reset", (.str "reset" 2469), (.ref 158)⟩, ⟨PyData.keyHash P "is_onlyws", (.str "is_onlyws" 2476), (.ref 165)⟩, ⟨PyData.keyHash P "part_count", (.str "part_count" 2483), (.ref 172)⟩, ⟨PyData.keyHash P "__static_attributes__", (.str "__static_attributes__" 2485), (.ref 173)⟩, ⟨PyData.keyHash P "__dict__", (.str "__dict__" 2488), (.ref 176)⟩, ⟨PyData.keyHash P "__weakref__", (.str "__weakref__" 2490), (.ref 177)⟩, ⟨PyData.keyHash P "__doc__", (.str "__doc__" 2491), .none⟩]) 5, slots := #[] }
def o175 (P : Params) : Obj := { cls := (.type "type"), dict := none, data := .cls { name := "_Accumulator", bases := [(.type "list")], mro := [(.ref 175), (.type "list"), (.type "object")], ns := 174, qualname := "_Accumulator", hasDict := true, slotNames := [], subclasses := [], abstract := false, collection := none, hasDel := false }, slots := #[(some (.ref 98)), none, (some (.str "_Accumulator" 2401)), (some (.str "_Accumulator" 2409)), (some (.builtin "list.__new__")), (some (.bool true))] }
def o176 (P : Params) : Obj := { cls := (.type "getset_descriptor"), dict := none, data := .fields #[(.str "__dict__" 2487), (.ref 175), (.builtin "function.__dict__"), (.builtin "function.__dict__#set")], slots := #[] }
def o177 (P : Params) : Obj := { cls := (.type "getset_descriptor"), dict := none, data := .fields #[(.str "__weakref__" 2489), (.ref 175), (.builtin "ExceptionGroup.__weakref__"), .none], slots := #[] }
def o178 (P : Params) : Obj := { cls := (.type "super"), dict := none, data := .fields #[(.ref 175), (.ref 175), (.ref 175)], slots := #[] }
def o179 (P : Params) : Obj := { cls := (.type "builtin_function_or_method"), dict := none, data := .fields #[(.builtin "object.__init_subclass__"), (.ref 175)], slots := #[] }
def t_s10 (P : Params) : BT := (.node (boot_o_0 P) (.node (boot_o_1 P) (.node (o3v8 P) (.node (boot_o_7 P) (.node (o15 P) (.node (o31 P) (.node (o63 P) (.node (o127 P) .nil .nil) .nil) (.node (o95 P) (.node (o159 P) .nil .nil) .nil)) (.node (o47 P) (.node (o79 P) (.node (o143 P) .nil .nil) .nil) (.node (o111 P) (.node (o175 P) .nil .nil) .nil))) (.node (o23 P) (.node (o39 P) (.node (o71 P) (.node (o135 P) .nil .nil) .nil) (.node (o103 P) (.node (o167 P) .nil .nil) .nil)) (.node (o55 P) (.node (o87v5 P) (.node (o151 P) .nil .nil) .nil) (.node (o119 P) .nil .nil)))) (.node (o11 P) (.node (o19 P) (.node (o35 P) (.node (o67 P) (.node (o131 P) .nil .nil) .nil) (.node (o99 P) (.node (o163 P) .nil .nil) .nil)) (.node (o51 P) (.node (o83v5 P) (.node (o147 P) .nil .nil) .nil) (.node (o115 P) (.node (o179 P) .nil .nil) .nil))) (.node (o27 P) (.node (o43 P) (.node (o75 P) (.node (o139 P) .nil .nil) .nil) (.node (o107 P) (.node (o171 P) .nil .nil) .nil)) (.node (o59 P) (.node (o91 P) (.node (o155 P) .nil .nil) .nil) (.node (o123 P) .nil .nil))))) (.node (boot_o_5 P) (.node (boot_o_9 P) (.node (o17 P) (.node (o33 P) (.node (o65 P) (.node (o129 P) .nil .nil) .nil) (.node (o97 P) (.node (o161 P) .nil .nil) .nil)) (.node (o49 P) (.node (o81 P) (.node (o145 P) .nil .nil) .nil) (.node (o113 P) (.node (o177 P) .nil .nil) .nil))) (.node (o25 P) (.node (o41 P) (.node (o73 P) (.node (o137 P) .nil .nil) .nil) (.node (o105 P) (.node (o169 P) .nil .nil) .nil)) (.node (o57 P) (.node (o89 P) (.node (o153 P) .nil .nil) .nil) (.node (o121 P) .nil .nil)))) (.node (o13 P) (.node (o21 P) (.node (o37 P) (.node (o69 P) (.node (o133 P) .nil .nil) .nil) (.node (o101 P) (.node (o165 P) .nil .nil) .nil)) (.node (o53 P) (.node (o85 P) (.node (o149 P) .nil .nil) .nil) (.node (o117 P) .nil .nil))) (.node (o29 P) (.node (o45 P) (.node (o77 P) (.node (o141 P) .nil .nil) .nil) (.node (o109 P) (.node (o173 P) .nil .nil) .nil)) (.node (o61 P) (.node (o93 P) (.node (o157 P) .nil .nil) .nil) (.node (o125 P) .nil .nil)))))) (.node (boot_o_2 P) (.node (boot_o_4 P) (.node (boot_o_8 P) (.node (o16 P) (.node (o32 P) (.node (o64 P) (.node (o128 P) .nil .nil) .nil) (.node (o96 P) (.node (o160 P) .nil .nil) .nil)) (.node (o48 P) (.node (o80 P) (.node (o144 P) .nil .nil) .nil) (.node (o112 P) (.node (o176 P) .nil .nil) .nil))) (.node (o24 P) (.node (o40 P) (.node (o72 P) (.node (o136 P) .nil .nil) .nil) (.node (o104 P) (.node (o168 P) .nil .nil) .nil)) (.node (o56 P) (.node (o88v5 P) (.node (o152 P) .nil .nil) .nil) (.node (o120 P) .nil .nil)))) (.node (o12v5 P) (.node (o20 P) (.node (o36 P) (.node (o68 P) (.node (o132 P) .nil .nil) .nil) (.node (o100 P) (.node (o164 P) .nil .nil) .nil)) (.node (o52 P) (.node (o84 P) (.node (o148 P) .nil .nil) .nil) (.node (o116 P) .nil .nil))) (.node (o28 P) (.node (o44 P) (.node (o76 P) (.node (o140 P) .nil .nil) .nil) (.node (o108 P) (.node (o172 P) .nil .nil) .nil)) (.node (o60 P) (.node (o92 P) (.node (o156 P) .nil .nil) .nil) (.node (o124 P) .nil .nil))))) (.node (boot_o_6 P) (.node (boot_o_10 P) (.node (o18 P) (.node (o34 P) (.node (o66 P) (.node (o130 P) .nil .nil) .nil) (.node (o98 P) (.node (o162 P) .nil .nil) .nil)) (.node (o50 P) (.node (o82v5 P) (.node (o146 P) .nil .nil) .nil) (.node (o114 P) (.node (o178 P) .nil .nil) .nil))) (.node (o26 P) (.node (o42 P) (.node (o74 P) (.node (o138 P) .nil .nil) .nil) (.node (o106 P) (.node (o170 P) .nil .nil) .nil)) (.node (o58 P) (.node (o90 P) (.node (o154 P) .nil .nil) .nil) (.node (o122 P) .nil .nil)))) (.node (o14 P) (.node (o22 P) (.node (o38 P) (.node (o70 P) (.node (o134 P) .nil .nil) .nil) (.node (o102 P) (.node (o166 P) .nil .nil) .nil)) (.node (o54 P) (.node (o86 P) (.node (o150 P) .nil .nil) .nil) (.node (o118 P) .nil .nil))) (.node (o30 P) (.node (o46 P) (.node (o78 P) (.node (o142 P) .nil .nil) .nil) (.node (o110 P) (.node (o174 P) .nil .nil) .nil)) (.node (o62 P) (.node (o94 P) (.node (o158 P) .nil .nil) .nil) (.node (o126 P) .nil .nil)))))))
abbrev x_s10 (w : World) (os : OsState) : SharedT := ⟨t_s10 w.params, 180, lf, #[], boot_drawn, 2494, os⟩
def o2 (P : Params) : Obj := { cls := .none, dict := none, data := .dict (List.toArray [⟨PyData.keyHash P "type.__subclasses__.Exception.0", (.str "type.__subclasses__.Exception.0" 2512), (.int 189 0)⟩, ⟨PyData.keyHash P "type.__subclasses__.Exception.n", (.str "type.__subclasses__.Exception.n" 2513), (.int 1 0)⟩]) 2, slots := #[] }
def o3v9 (P : Params) : Obj := { cls := (.type "dict"), dict := none, data := .dict (List.toArray [⟨PyData.keyHash P "__name__", (.str "__name__" 165), (.str "cpy313.ftplib" 2494)⟩, ⟨PyData.keyHash P "__doc__", (.str "__doc__" 166), .none⟩, ⟨PyData.keyHash P "__package__", (.str "__package__" 167), .none⟩, ⟨PyData.keyHash P "__loader__", (.str "__loader__" 168), (.builtin "__main__.__loader__#opaque")⟩, ⟨PyData.keyHash P "__spec__", (.str "__spec__" 169), .none⟩, ⟨PyData.keyHash P "__annotations__", (.str "__annotations__" 170), (.ref 6)⟩, ⟨PyData.keyHash P "__builtins__", (.str "__builtins__" 171), (.ref 4)⟩, ⟨PyData.keyHash P "__file__", (.str "__file__" 173), (.str "/claim/cut.py" 172)⟩, ⟨PyData.keyHash P "__cached__", (.str "__cached__" 174), .none⟩, ⟨PyData.keyHash P "_wall", (.str "_wall" 193), (.ref 21)⟩, ⟨PyData.keyHash P "b3_exceptions", (.str "b3_exceptions" 2146), (.ref 22)⟩, ⟨PyData.keyHash P "map_table_b3", (.str "map_table_b3" 2154), (.ref 67)⟩, ⟨PyData.keyHash P "c7_set", (.str "c7_set" 2182), (.ref 69)⟩, ⟨PyData.keyHash P "in_table_c7", (.str "in_table_c7" 2189), (.ref 79)⟩, ⟨PyData.keyHash P "c9_set", (.str "c9_set" 2389), (.ref 87)⟩, ⟨PyData.keyHash P "in_table_c9", (.str "in_table_c9" 2396), (.ref 97)⟩, ⟨PyData.keyHash P "EMPTYSTRING", (.str "EMPTYSTRING" 2400), (.str "" 2399)⟩, ⟨PyData.keyHash P "_Accumulator", (.str "_Accumulator" 2493), (.ref 175)⟩, ⟨PyData.keyHash P "Error", (.str "Error" 2515), (.ref 189)⟩]) 19, slots := #[] }
def o12v6 (P : Params) : Obj := { cls := .none, dict := none, data := .fields #[(.int 1 0), (.int 0 0), (.ref 20), (.int 6 0), (.int 0 0), (.ref 66), (.int 12 0), (.int 0 0), (.ref 78), (.int 15 0), (.int 0 0), (.ref 96), (.int 19 0), (.int 0 0), (.ref 104), (.int 49 0), (.int 0 0), (.ref 185)], slots := #[] }
def o180 (P : Params) : Obj := { cls := (.type "tuple"), dict := none, data := .seq #[(.type "Exception")] 0, slots := #[] }
def o181 (P : Params) : Obj := { cls := (.type "builtin_function_or_method"), dict := none, data := .fields #[(.builtin "type.__prepare__"), (.type "type")], slots := #[] }
def o182 (P : Params) : Obj := { cls := (.type "dict"), dict := none, data := .dict (List.toArray [⟨PyData.keyHash P "__module__", (.str "__module__" 2503), (.str "cpy313.ftplib" 2494)⟩, ⟨PyData.keyHash P "__qualname__", (.str "__qualname__" 2505), (.str "Error" 2504)⟩, ⟨PyData.keyHash P "__firstlineno__", (.str "__firstlineno__" 2507), (.int 49 2506)⟩, ⟨PyData.keyHash P "__static_attributes__", (.str "__static_attributes__" 2508), (.ref 187)⟩]) 4, slots := #[] }
def o183 (P : Params) : Obj := { cls := (.type "tuple"), dict := none, data := .seq #[] 0, slots := #[] }
def o184 (P : Params) : Obj := { cls := .none, dict := none, data := .fields #[], slots := #[] }
def o185 (P : Params) : Obj := { cls := (.type "code"), dict := none, data := .fields #[(.str "Error" 2498), (.str "Error" 2499), (.str "/claim/cut.py" 2500), (.int 49 0), (.int 0 0), (.int 0 0), (.int 0 0), (.int 0 0), (.ref 183), (.bool false), (.int 181 0), (.ref 184), .none, .none, .none, .none, (.int 2501 0), (.int 49 0), (.str "/claim/cut.py" 2502)], slots := #[] }
def o186 (P : Params) : Obj := { cls := (.type "frame"), dict := none, data := .plain, slots := #[(some (.ref 185)), (some (.ref 3)), (some (.ref 182)), none, (some (.str "cpy313.ftplib" 2494)), none, (some (.ref 0))] }
def o187 (P : Params) : Obj := { cls := (.type "tuple"), dict := none, data := .seq #[] 0, slots := #[] }
def o188 (P : Params) : Obj := { cls := (.type "dict"), dict := none, data := .dict (List.toArray [⟨PyData.keyHash P "__module__", (.str "__module__" 2503), (.str "cpy313.ftplib" 2494)⟩, ⟨PyData.keyHash P "__firstlineno__", (.str "__firstlineno__" 2507), (.int 49 2506)⟩, ⟨PyData.keyHash P "__static_attributes__", (.str "__static_attributes__" 2508), (.ref 187)⟩, ⟨PyData.keyHash P "__weakref__", (.str "__weakref__" 2510), (.ref 190)⟩, ⟨PyData.keyHash P "__doc__", (.str "__doc__" 2511), .none⟩]) 3, slots := #[] }
def o189 (P : Params) : Obj := { cls := (.type "type"), dict := none, data := .cls { name := "Error", bases := [(.type "Exception")], mro := [(.ref 189), (.type "Exception"), (.type "BaseException"), (.type "object")], ns := 188, qualname := "Error", hasDict := true, slotNames := [], subclasses := [], abstract := false, collection := none, hasDel := false }, slots := #[(some (.ref 180)), none, (some (.str "Error" 2496)), (some (.str "Error" 2504)), (some (.builtin "Exception.__new__")), (some (.bool true))] }
def o190 (P : Params) : Obj := { cls := (.type "getset_descriptor"), dict := none, data := .fields #[(.str "__weakref__" 2509), (.ref 189), (.builtin "ExceptionGroup.__weakref__"), .none], slots := #[] }
def o191 (P : Params) : Obj := { cls := (.type "super"), dict := none, data := .fields #[(.ref 189), (.ref 189), (.ref 189)], slots := #[] }
def o192 (P : Params) : Obj := { cls := (.type "builtin_function_or_method"), dict := none, data := .fields #[(.builtin "object.__init_subclass__"), (.ref 189)], slots := #[] }
def t_s12 (P : Params) : BT := (.node (boot_o_0 P) (.node (boot_o_1 P) (.node (o3v9 P) (.node (boot_o_7 P) (.node (o15 P) (.node (o31 P) (.node (o63 P) (.node (o127 P) .nil .nil) (.node (o191 P) .nil .nil)) (.node (o95 P) (.node (o159 P) .nil .nil) .nil)) (.node (o47 P) (.node (o79 P) (.node (o143 P) .nil .nil) .nil) (.node (o111 P) (.node (o175 P) .nil .nil) .nil))) (.node (o23 P) (.node (o39 P) (.node (o71 P) (.node (o135 P) .nil .nil) .nil) (.node (o103 P) (.node (o167 P) .nil .nil) .nil)) (.node (o55 P) (.node (o87v5 P) (.node (o151 P) .nil .nil) .nil) (.node (o119 P) (.node (o183 P) .nil .nil) .nil)))) (.node (o11 P) (.node (o19 P) (.node (o35 P) (.node (o67 P) (.node (o131 P) .nil .nil) .nil) (.node (o99 P) (.node (o163 P) .nil .nil) .nil)) (.node (o51 P) (.node (o83v5 P) (.node (o147 P) .nil .nil) .nil) (.node (o115 P) (.node (o179 P) .nil .nil) .nil))) (.node (o27 P) (.node (o43 P) (.node (o75 P) (.node (o139 P) .nil .nil) .nil) (.node (o107 P) (.node (o171 P) .nil .nil) .nil)) (.node (o59 P) (.node (o91 P) (.node (o155 P) .nil .nil) .nil) (.node (o123 P) (.node (o187 P) .nil .nil) .nil))))) (.node (boot_o_5 P) (.node (boot_o_9 P) (.node (o17 P) (.node (o33 P) (.node (o65 P) (.node (o129 P) .nil .nil) .nil) (.node (o97 P) (.node (o161 P) .nil .nil) .nil)) (.node (o49 P) (.node (o81 P) (.node (o145 P) .nil .nil) .nil) (.node (o113 P) (.node (o177 P) .nil .nil) .nil))) (.node (o25 P) (.node (o41 P) (.node (o73 P) (.node (o137 P) .nil .nil) .nil) (.node (o105 P) (.node (o169 P) .nil .nil) .nil)) (.node (o57 P) (.node (o89 P) (.node (o153 P) .nil .nil) .nil) (.node (o121 P) (.node (o185 P) .nil .nil) .nil)))) (.node (o13 P) (.node (o21 P) (.node (o37 P) (.node (o69 P) (.node (o133 P) .nil .nil) .nil) (.node (o101 P) (.node (o165 P) .nil .nil) .nil)) (.node (o53 P) (.node (o85 P) (.node (o149 P) .nil .nil) .nil) (.node (o117 P) (.node (o181 P) .nil .nil) .nil))) (.node (o29 P) (.node (o45 P) (.node (o77 P) (.node (o141 P) .nil .nil) .nil) (.node (o109 P) (.node (o173 P) .nil .nil) .nil)) (.node (o61 P) (.node (o93 P) (.node (o157 P) .nil .nil) .nil) (.node (o125 P) (.node (o189 P) .nil .nil) .nil)))))) (.node (o2 P) (.node (boot_o_4 P) (.node (boot_o_8 P) (.node (o16 P) (.node (o32 P) (.node (o64 P) (.node (o128 P) .nil .nil) (.node (o192 P) .nil .nil)) (.node (o96 P) (.node (o160 P) .nil .nil) .nil)) (.node (o48 P) (.node (o80 P) (.node (o144 P) .nil .nil) .nil) (.node (o112 P) (.node (o176 P) .nil .nil) .nil))) (.node (o24 P) (.node (o40 P) (.node (o72 P) (.node (o136 P) .nil .nil) .nil) (.node (o104 P) (.node (o168 P) .nil .nil) .nil)) (.node (o56 P) (.node (o88v5 P) (.node (o152 P) .nil .nil) .nil) (.node (o120 P) (.node (o184 P) .nil .nil) .nil)))) (.node (o12v6 P) (.node (o20 P) (.node (o36 P) (.node (o68 P) (.node (o132 P) .nil .nil) .nil) (.node (o100 P) (.node (o164 P) .nil .nil) .nil)) (.node (o52 P) (.node (o84 P) (.node (o148 P) .nil .nil) .nil) (.node (o116 P) (.node (o180 P) .nil .nil) .nil))) (.node (o28 P) (.node (o44 P) (.node (o76 P) (.node (o140 P) .nil .nil) .nil) (.node (o108 P) (.node (o172 P) .nil .nil) .nil)) (.node (o60 P) (.node (o92 P) (.node (o156 P) .nil .nil) .nil) (.node (o124 P) (.node (o188 P) .nil .nil) .nil))))) (.node (boot_o_6 P) (.node (boot_o_10 P) (.node (o18 P) (.node (o34 P) (.node (o66 P) (.node (o130 P) .nil .nil) .nil) (.node (o98 P) (.node (o162 P) .nil .nil) .nil)) (.node (o50 P) (.node (o82v5 P) (.node (o146 P) .nil .nil) .nil) (.node (o114 P) (.node (o178 P) .nil .nil) .nil))) (.node (o26 P) (.node (o42 P) (.node (o74 P) (.node (o138 P) .nil .nil) .nil) (.node (o106 P) (.node (o170 P) .nil .nil) .nil)) (.node (o58 P) (.node (o90 P) (.node (o154 P) .nil .nil) .nil) (.node (o122 P) (.node (o186 P) .nil .nil) .nil)))) (.node (o14 P) (.node (o22 P) (.node (o38 P) (.node (o70 P) (.node (o134 P) .nil .nil) .nil) (.node (o102 P) (.node (o166 P) .nil .nil) .nil)) (.node (o54 P) (.node (o86 P) (.node (o150 P) .nil .nil) .nil) (.node (o118 P) (.node (o182 P) .nil .nil) .nil))) (.node (o30 P) (.node (o46 P) (.node (o78 P) (.node (o142 P) .nil .nil) .nil) (.node (o110 P) (.node (o174 P) .nil .nil) .nil)) (.node (o62 P) (.node (o94 P) (.node (o158 P) .nil .nil) .nil) (.node (o126 P) (.node (o190 P) .nil .nil) .nil)))))))
abbrev x_s12 (w : World) (os : OsState) : SharedT := ⟨t_s12 w.params, 193, lf, #[], boot_drawn, 2516, os⟩
def o3v10 (P : Params) : Obj := { cls := (.type "dict"), dict := none, data := .dict (List.toArray [⟨PyData.keyHash P "__name__", (.str "__name__" 165), (.str "cpy313.ftplib" 2494)⟩, ⟨PyData.keyHash P "__doc__", (.str "__doc__" 166), .none⟩, ⟨PyData.keyHash P "__package__", (.str "__package__" 167), .none⟩, ⟨PyData.keyHash P "__loader__", (.str "__loader__" 168), (.builtin "__main__.__loader__#opaque")⟩, ⟨PyData.keyHash P "__spec__", (.str "__spec__" 169), .none⟩, ⟨PyData.keyHash P "__annotations__", (.str "__annotations__" 170), (.ref 6)⟩, ⟨PyData.keyHash P "__builtins__", (.str "__builtins__" 171), (.ref 4)⟩, ⟨PyData.keyHash P "__file__", (.str "__file__" 173), (.str "/claim/cut.py" 172)⟩, ⟨PyData.keyHash P "__cached__", (.str "__cached__" 174), .none⟩, ⟨PyData.keyHash P "_wall", (.str "_wall" 193), (.ref 21)⟩, ⟨PyData.keyHash P "b3_exceptions", (.str "b3_exceptions" 2146), (.ref 22)⟩, ⟨PyData.keyHash P "map_table_b3", (.str "map_table_b3" 2154), (.ref 67)⟩, ⟨PyData.keyHash P "c7_set", (.str "c7_set" 2182), (.ref 69)⟩, ⟨PyData.keyHash P "in_table_c7", (.str "in_table_c7" 2189), (.ref 79)⟩, ⟨PyData.keyHash P "c9_set", (.str "c9_set" 2389), (.ref 87)⟩, ⟨PyData.keyHash P "in_table_c9", (.str "in_table_c9" 2396), (.ref 97)⟩, ⟨PyData.keyHash P "EMPTYSTRING", (.str "EMPTYSTRING" 2400), (.str "" 2399)⟩, ⟨PyData.keyHash P "_Accumulator", (.str "_Accumulator" 2493), (.ref 175)⟩, ⟨PyData.keyHash P "Error", (.str "Error" 2515), (.ref 189)⟩, ⟨PyData.keyHash P "error_reply", (.str "error_reply" 2531), (.ref 202)⟩]) 20, slots := #[] }
def o12v7 (P : Params) : Obj := { cls := .none, dict := none, data := .fields #[(.int 1 0), (.int 0 0), (.ref 20), (.int 6 0), (.int 0 0), (.ref 66), (.int 12 0), (.int 0 0), (.ref 78), (.int 15 0), (.int 0 0), (.ref 96), (.int 19 0), (.int 0 0), (.ref 104), (.int 49 0), (.int 0 0), (.ref 185), (.int 51 0), (.int 0 0), (.ref 198)], slots := #[] }
def o189v1 (P : Params) : Obj := { cls := (.type "type"), dict := none, data := .cls { name := "Error", bases := [(.type "Exception")], mro := [(.ref 189), (.type "Exception"), (.type "BaseException"), (.type "object")], ns := 188, qualname := "Error", hasDict := true, slotNames := [], subclasses := [(.ref 202)], abstract := false, collection := none, hasDel := false }, slots := #[(some (.ref 180)), none, (some (.str "Error" 2496)), (some (.str "Error" 2504)), (some (.builtin "Exception.__new__")), (some (.bool true))] }
def o193 (P : Params) : Obj := { cls := (.type "tuple"), dict := none, data := .seq #[(.ref 189)] 0, slots := #[] }
def o194 (P : Params) : Obj := { cls := (.type "builtin_function_or_method"), dict := none, data := .fields #[(.builtin "type.__prepare__"), (.type "type")], slots := #[] }
def o195 (P : Params) : Obj := { cls := (.type "dict"), dict := none, data := .dict (List.toArray [⟨PyData.keyHash P "__module__", (.str "__module__" 2523), (.str "cpy313.ftplib" 2494)⟩, ⟨PyData.keyHash P "__qualname__", (.str "__qualname__" 2525), (.str "error_reply" 2524)⟩, ⟨PyData.keyHash P "__firstlineno__", (.str "__firstlineno__" 2527), (.int 51 2526)⟩, ⟨PyData.keyHash P "__static_attributes__", (.str "__static_attributes__" 2528), (.ref 200)⟩]) 4, slots := #[] }
def o196 (P : Params) : Obj := { cls := (.type "tuple"), dict := none, data := .seq #[] 0, slots := #[] }
def o197 (P : Params) : Obj := { cls := .none, dict := none, data := .fields #[], slots := #[] }
def o198 (P : Params) : Obj := { cls := (.type "code"), dict := none, data := .fields #[(.str "error_reply" 2518), (.str "error_reply" 2519), (.str "/claim/cut.py" 2520), (.int 51 0), (.int 0 0), (.int 0 0), (.int 0 0), (.int 0 0), (.ref 196), (.bool false), (.int 181 0), (.ref 197), .none, .none, .none, .none, (.int 2521 0), (.int 51 0), (.str "/claim/cut.py" 2522)], slots := #[] }
def o199 (P : Params) : Obj := { cls := (.type "frame"), dict := none, data := .plain, slots := #[(some (.ref 198)), (some (.ref 3)), (some (.ref 195)), none, (some (.str "cpy313.ftplib" 2494)), none, (some (.ref 0))] }
def o200 (P : Params) : Obj := { cls := (.type "tuple"), dict := none, data := .seq #[] 0, slots := #[] }
def o201 (P : Params) : Obj := { cls := (.type "dict"), dict := none, data := .dict (List.toArray [⟨PyData.keyHash P "__module__", (.str "__module__" 2523), (.str "cpy313.ftplib" 2494)⟩, ⟨PyData.keyHash P "__firstlineno__", (.str "__firstlineno__" 2527), (.int 51 2526)⟩, ⟨PyData.keyHash P "__static_attributes__", (.str "__static_attributes__" 2528), (.ref 200)⟩, ⟨PyData.keyHash P "__doc__", (.str "__doc__" 2529), .none⟩]) 2, slots := #[] }
def o202 (P : Params) : Obj := { cls := (.type "type"), dict := none, data := .cls { name := "error_reply", bases := [(.ref 189)], mro := [(.ref 202), (.ref 189), (.type "Exception"), (.type "BaseException"), (.type "object")], ns := 201, qualname := "error_reply", hasDict := true, slotNames := [], subclasses := [], abstract := false, collection := none, hasDel := false }, slots := #[(some (.ref 193)), none, (some (.str "error_reply" 2516)), (some (.str "error_reply" 2524)), (some (.builtin "Exception.__new__")), (some (.bool true))] }
def o203 (P : Params) : Obj := { cls := (.type "super"), dict := none, data := .fields #[(.ref 202), (.ref 202), (.ref 202)], slots := #[] }
def o204 (P : Params) : Obj := { cls := (.type "builtin_function_or_method"), dict := none, data := .fields #[(.builtin "object.__init_subclass__"), (.ref 202)], slots := #[] }
def t_s13 (P : Params) : BT := (.node (boot_o_0 P) (.node (boot_o_1 P) (.node (o3v10 P) (.node (boot_o_7 P) (.node (o15 P) (.node (o31 P) (.node (o63 P) (.node (o127 P) .nil .nil) (.node (o191 P) .nil .nil)) (.node (o95 P) (.node (o159 P) .nil .nil) .nil)) (.node (o47 P) (.node (o79 P) (.node (o143 P) .nil .nil) .nil) (.node (o111 P) (.node (o175 P) .nil .nil) .nil))) (.node (o23 P) (.node (o39 P) (.node (o71 P) (.node (o135 P) .nil .nil) (.node (o199 P) .nil .nil)) (.node (o103 P) (.node (o167 P) .nil .nil) .nil)) (.node (o55 P) (.node (o87v5 P) (.node (o151 P) .nil .nil) .nil) (.node (o119 P) (.node (o183 P) .nil .nil) .nil)))) (.node (o11 P) (.node (o19 P) (.node (o35 P) (.node (o67 P) (.node (o131 P) .nil .nil) (.node (o195 P) .nil .nil)) (.node (o99 P) (.node (o163 P) .nil .nil) .nil)) (.node (o51 P) (.node (o83v5 P) (.node (o147 P) .nil .nil) .nil) (.node (o115 P) (.node (o179 P) .nil .nil) .nil))) (.node (o27 P) (.node (o43 P) (.node (o75 P) (.node (o139 P) .nil .nil) (.node (o203 P) .nil .nil)) (.node (o107 P) (.node (o171 P) .nil .nil) .nil)) (.node (o59 P) (.node (o91 P) (.node (o155 P) .nil .nil) .nil) (.node (o123 P) (.node (o187 P) .nil .nil) .nil))))) (.node (boot_o_5 P) (.node (boot_o_9 P) (.node (o17 P) (.node (o33 P) (.node (o65 P) (.node (o129 P) .nil .nil) (.node (o193 P) .nil .nil)) (.node (o97 P) (.node (o161 P) .nil .nil) .nil)) (.node (o49 P) (.node (o81 P) (.node (o145 P) .nil .nil) .nil) (.node (o113 P) (.node (o177 P) .nil .nil) .nil))) (.node (o25 P) (.node (o41 P) (.node (o73 P) (.node (o137 P) .nil .nil) (.node (o201 P) .nil .nil)) (.node (o105 P) (.node (o169 P) .nil .nil) .nil)) (.node (o57 P) (.node (o89 P) (.node (o153 P) .nil .nil) .nil) (.node (o121 P) (.node (o185 P) .nil .nil) .nil)))) (.node (o13 P) (.node (o21 P) (.node (o37 P) (.node (o69 P) (.node (o133 P) .nil .nil) (.node (o197 P) .nil .nil)) (.node (o101 P) (.node (o165 P) .nil .nil) .nil)) (.node (o53 P) (.node (o85 P) (.node (o149 P) .nil .nil) .nil) (.node (o117 P) (.node (o181 P) .nil .nil) .nil))) (.node (o29 P) (.node (o45 P) (.node (o77 P) (.node (o141 P) .nil .nil) .nil) (.node (o109 P) (.node (o173 P) .nil .nil) .nil)) (.node (o61 P) (.node (o93 P) (.node (o157 P) .nil .nil) .nil) (.node (o125 P) (.node (o189v1 P) .nil .nil) .nil)))))) (.node (o2 P) (.node (boot_o_4 P) (.node (boot_o_8 P) (.node (o16 P) (.node (o32 P) (.node (o64 P) (.node (o128 P) .nil .nil) (.node (o192 P) .nil .nil)) (.node (o96 P) (.node (o160 P) .nil .nil) .nil)) (.node (o48 P) (.node (o80 P) (.node (o144 P) .nil .nil) .nil) (.node (o112 P) (.node (o176 P) .nil .nil) .nil))) (.node (o24 P) (.node (o40 P) (.node (o72 P) (.node (o136 P) .nil .nil) (.node (o200 P) .nil .nil)) (.node (o104 P) (.node (o168 P) .nil .nil) .nil)) (.node (o56 P) (.node (o88v5 P) (.node (o152 P) .nil .nil) .nil) (.node (o120 P) (.node (o184 P) .nil .nil) .nil)))) (.node (o12v7 P) (.node (o20 P) (.node (o36 P) (.node (o68 P) (.node (o132 P) .nil .nil) (.node (o196 P) .nil .nil)) (.node (o100 P) (.node (o164 P) .nil .nil) .nil)) (.node (o52 P) (.node (o84 P) (.node (o148 P) .nil .nil) .nil) (.node (o116 P) (.node (o180 P) .nil .nil) .nil))) (.node (o28 P) (.node (o44 P) (.node (o76 P) (.node (o140 P) .nil .nil) (.node (o204 P) .nil .nil)) (.node (o108 P) (.node (o172 P) .nil .nil) .nil)) (.node (o60 P) (.node (o92 P) (.node (o156 P) .nil .nil) .nil) (.node (o124 P) (.node (o188 P) .nil .nil) .nil))))) (.node (boot_o_6 P) (.node (boot_o_10 P) (.node (o18 P) (.node (o34 P) (.node (o66 P) (.node (o130 P) .nil .nil) (.node (o194 P) .nil .nil)) (.node (o98 P) (.node (o162 P) .nil .nil) .nil)) (.node (o50 P) (.node (o82v5 P) (.node (o146 P) .nil .nil) .nil) (.node (o114 P) (.node (o178 P) .nil .nil) .nil))) (.node (o26 P) (.node (o42 P) (.node (o74 P) (.node (o138 P) .nil .nil) (.node (o202 P) .nil .nil)) (.node (o106 P) (.node (o170 P) .nil .nil) .nil)) (.node (o58 P) (.node (o90 P) (.node (o154 P) .nil .nil) .nil) (.node (o122 P) (.node (o186 P) .nil .nil) .nil)))) (.node (o14 P) (.node (o22 P) (.node (o38 P) (.node (o70 P) (.node (o134 P) .nil .nil) (.node (o198 P) .nil .nil)) (.node (o102 P) (.node (o166 P) .nil .nil) .nil)) (.node (o54 P) (.node (o86 P) (.node (o150 P) .nil .nil) .nil) (.node (o118 P) (.node (o182 P) .nil .nil) .nil))) (.node (o30 P) (.node (o46 P) (.node (o78 P) (.node (o142 P) .nil .nil) .nil) (.node (o110 P) (.node (o174 P) .nil .nil) .nil)) (.node (o62 P) (.node (o94 P) (.node (o158 P) .nil .nil) .nil) (.node (o126 P) (.node (o190 P) .nil .nil) .nil)))))))
abbrev x_s13 (w : World) (os : OsState) : SharedT := ⟨t_s13 w.params, 205, lf, #[], boot_drawn, 2532, os⟩
def o3v11 (P : Params) : Obj := { cls := (.type "dict"), dict := none, data := .dict (List.toArray [⟨PyData.keyHash P "__name__", (.str "__name__" 165), (.str "law_xn0019_01" 2543)⟩, ⟨PyData.keyHash P "__doc__", (.str "__doc__" 166), .none⟩, ⟨PyData.keyHash P "__package__", (.str "__package__" 167), .none⟩, ⟨PyData.keyHash P "__loader__", (.str "__loader__" 168), (.builtin "__main__.__loader__#opaque")⟩, ⟨PyData.keyHash P "__spec__", (.str "__spec__" 169), .none⟩, ⟨PyData.keyHash P "__annotations__", (.str "__annotations__" 170), (.ref 6)⟩, ⟨PyData.keyHash P "__builtins__", (.str "__builtins__" 171), (.ref 4)⟩, ⟨PyData.keyHash P "__file__", (.str "__file__" 173), (.str "/claim/cut.py" 172)⟩, ⟨PyData.keyHash P "__cached__", (.str "__cached__" 174), .none⟩, ⟨PyData.keyHash P "_wall", (.str "_wall" 193), (.ref 21)⟩, ⟨PyData.keyHash P "b3_exceptions", (.str "b3_exceptions" 2146), (.ref 22)⟩, ⟨PyData.keyHash P "map_table_b3", (.str "map_table_b3" 2154), (.ref 67)⟩, ⟨PyData.keyHash P "c7_set", (.str "c7_set" 2182), (.ref 69)⟩, ⟨PyData.keyHash P "in_table_c7", (.str "in_table_c7" 2189), (.ref 79)⟩, ⟨PyData.keyHash P "c9_set", (.str "c9_set" 2389), (.ref 87)⟩, ⟨PyData.keyHash P "in_table_c9", (.str "in_table_c9" 2396), (.ref 97)⟩, ⟨PyData.keyHash P "EMPTYSTRING", (.str "EMPTYSTRING" 2400), (.str "" 2399)⟩, ⟨PyData.keyHash P "_Accumulator", (.str "_Accumulator" 2493), (.ref 175)⟩, ⟨PyData.keyHash P "Error", (.str "Error" 2515), (.ref 189)⟩, ⟨PyData.keyHash P "error_reply", (.str "error_reply" 2531), (.ref 202)⟩, ⟨PyData.keyHash P "parse257", (.str "parse257" 2542), (.ref 211)⟩, ⟨PyData.keyHash P "_law_walk", (.str "_law_walk" 2550), (.ref 216)⟩, ⟨PyData.keyHash P "_law_ways", (.str "_law_ways" 2562), (.ref 223)⟩, ⟨PyData.keyHash P "law", (.str "law" 2568), (.ref 228)⟩]) 24, slots := #[] }
def o12v8 (P : Params) : Obj := { cls := .none, dict := none, data := .fields #[(.int 1 0), (.int 0 0), (.ref 20), (.int 6 0), (.int 0 0), (.ref 66), (.int 12 0), (.int 0 0), (.ref 78), (.int 15 0), (.int 0 0), (.ref 96), (.int 19 0), (.int 0 0), (.ref 104), (.int 49 0), (.int 0 0), (.ref 185), (.int 51 0), (.int 0 0), (.ref 198), (.int 53 0), (.int 0 0), (.ref 210), (.int 71 0), (.int 0 0), (.ref 215), (.int 102 0), (.int 0 0), (.ref 222), (.int 112 0), (.int 0 0), (.ref 227)], slots := #[] }
def o205 (P : Params) : Obj := { cls := (.type "tuple"), dict := none, data := .seq #[] 0, slots := #[] }
def o206 (P : Params) : Obj := { cls := .none, dict := none, data := .fields #[], slots := #[] }
def o207 (P : Params) : Obj := { cls := (.type "tuple"), dict := none, data := .seq #[(.str "resp" 2535), (.str "dirname" 2536), (.str "i" 2537), (.str "n" 2538), (.str "c" 2539)] 0, slots := #[] }
def o208 (P : Params) : Obj := { cls := (.type "tuple"), dict := none, data := .seq #[] 0, slots := #[] }
def o209 (P : Params) : Obj := { cls := .none, dict := none, data := .func { name := "parse257", qualname := "parse257", params := fP (fn 14), body := .stmts (fB (fn 14)), scope := fS (fn 14), globals := 0, closure := [], defaults := .none, kwdefaults := .none, doc := .none, pyModule := .none, annotations := none, code := .none, closureTuple := .none, builtins := 0 }, slots := #[] }
def o210 (P : Params) : Obj := { cls := (.type "code"), dict := none, data := .fields #[(.str "parse257" 2532), (.str "parse257" 2533), (.str "/claim/cut.py" 2534), (.int 53 0), (.int 1 0), (.int 0 0), (.int 0 0), (.int 3 0), (.ref 205), (.bool true), (.int 181 0), (.ref 206), .none, (.ref 207), (.ref 208), (.ref 209), (.int 2540 0), (.int 53 0), (.str "/claim/cut.py" 2541)], slots := #[] }
def o211 (P : Params) : Obj := { cls := (.type "function"), dict := none, data := .func { name := "parse257", qualname := "parse257", params := fP (fn 14), body := .stmts (fB (fn 14)), scope := fS (fn 14), globals := 3, closure := [], defaults := .none, kwdefaults := .none, doc := .none, pyModule := (.str "cpy313.ftplib" 2494), annotations := none, code := (.ref 210), closureTuple := .none, builtins := 0 }, slots := #[] }
def o212 (P : Params) : Obj := { cls := (.type "tuple"), dict := none, data := .seq #[] 0, slots := #[] }
def o213 (P : Params) : Obj := { cls := .none, dict := none, data := .fields #[], slots := #[] }
def o214 (P : Params) : Obj := { cls := .none, dict := none, data := .func { name := "_law_walk", qualname := "_law_walk", params := fP (fn 16), body := .stmts (fB (fn 16)), scope := fS (fn 16), globals := 0, closure := [], defaults := .none, kwdefaults := .none, doc := .none, pyModule := .none, annotations := none, code := .none, closureTuple := .none, builtins := 0 }, slots := #[] }
def o215 (P : Params) : Obj := { cls := (.type "code"), dict := none, data := .fields #[(.str "_law_walk" 2545), (.str "_law_walk" 2546), (.str "/claim/cut.py" 2547), (.int 71 0), (.int 3 0), (.int 0 0), (.int 0 0), (.int 3 0), (.ref 212), (.bool true), (.int 181 0), (.ref 213), .none, .none, .none, (.ref 214), (.int 2548 0), (.int 71 0), (.str "/claim/cut.py" 2549)], slots := #[] }
def o216 (P : Params) : Obj := { cls := (.type "function"), dict := none, data := .func { name := "_law_walk", qualname := "_law_walk", params := fP (fn 16), body := .stmts (fB (fn 16)), scope := fS (fn 16), globals := 3, closure := [], defaults := .none, kwdefaults := .none, doc := .none, pyModule := (.str "law_xn0019_01" 2543), annotations := none, code := (.ref 215), closureTuple := .none, builtins := 0 }, slots := #[] }
def o217 (P : Params) : Obj := { cls := (.type "tuple"), dict := none, data := .seq #[] 0, slots := #[] }
def o218 (P : Params) : Obj := { cls := .none, dict := none, data := .fields #[], slots := #[] }
def o219 (P : Params) : Obj := { cls := (.type "tuple"), dict := none, data := .seq #[(.str "begin" 2554), (.str "steps" 2555), (.str "fits" 2556), (.str "way" 2557), (.str "whole" 2558), (.str "step" 2559)] 0, slots := #[] }
def o220 (P : Params) : Obj := { cls := (.type "tuple"), dict := none, data := .seq #[] 0, slots := #[] }
def o221 (P : Params) : Obj := { cls := .none, dict := none, data := .func { name := "_law_ways", qualname := "_law_ways", params := fP (fn 17), body := .stmts (fB (fn 17)), scope := fS (fn 17), globals := 0, closure := [], defaults := .none, kwdefaults := .none, doc := .none, pyModule := .none, annotations := none, code := .none, closureTuple := .none, builtins := 0 }, slots := #[] }
def o222 (P : Params) : Obj := { cls := (.type "code"), dict := none, data := .fields #[(.str "_law_ways" 2551), (.str "_law_ways" 2552), (.str "/claim/cut.py" 2553), (.int 102 0), (.int 2 0), (.int 0 0), (.int 0 0), (.int 3 0), (.ref 217), (.bool true), (.int 181 0), (.ref 218), .none, (.ref 219), (.ref 220), (.ref 221), (.int 2560 0), (.int 102 0), (.str "/claim/cut.py" 2561)], slots := #[] }
def o223 (P : Params) : Obj := { cls := (.type "function"), dict := none, data := .func { name := "_law_ways", qualname := "_law_ways", params := fP (fn 17), body := .stmts (fB (fn 17)), scope := fS (fn 17), globals := 3, closure := [], defaults := .none, kwdefaults := .none, doc := .none, pyModule := (.str "law_xn0019_01" 2543), annotations := none, code := (.ref 222), closureTuple := .none, builtins := 0 }, slots := #[] }
def o224 (P : Params) : Obj := { cls := (.type "tuple"), dict := none, data := .seq #[] 0, slots := #[] }
def o225 (P : Params) : Obj := { cls := .none, dict := none, data := .fields #[], slots := #[] }
def o226 (P : Params) : Obj := { cls := .none, dict := none, data := .func { name := "law", qualname := "law", params := fP (fn 18), body := .stmts (fB (fn 18)), scope := fS (fn 18), globals := 0, closure := [], defaults := .none, kwdefaults := .none, doc := .none, pyModule := .none, annotations := none, code := .none, closureTuple := .none, builtins := 0 }, slots := #[] }
def o227 (P : Params) : Obj := { cls := (.type "code"), dict := none, data := .fields #[(.str "law" 2563), (.str "law" 2564), (.str "/claim/cut.py" 2565), (.int 112 0), (.int 1 0), (.int 0 0), (.int 0 0), (.int 3 0), (.ref 224), (.bool true), (.int 181 0), (.ref 225), .none, .none, .none, (.ref 226), (.int 2566 0), (.int 112 0), (.str "/claim/cut.py" 2567)], slots := #[] }
def o228 (P : Params) : Obj := { cls := (.type "function"), dict := none, data := .func { name := "law", qualname := "law", params := fP (fn 18), body := .stmts (fB (fn 18)), scope := fS (fn 18), globals := 3, closure := [], defaults := .none, kwdefaults := .none, doc := .none, pyModule := (.str "law_xn0019_01" 2543), annotations := none, code := (.ref 227), closureTuple := .none, builtins := 0 }, slots := #[] }
def t_s18 (P : Params) : BT := (.node (boot_o_0 P) (.node (boot_o_1 P) (.node (o3v11 P) (.node (boot_o_7 P) (.node (o15 P) (.node (o31 P) (.node (o63 P) (.node (o127 P) .nil .nil) (.node (o191 P) .nil .nil)) (.node (o95 P) (.node (o159 P) .nil .nil) (.node (o223 P) .nil .nil))) (.node (o47 P) (.node (o79 P) (.node (o143 P) .nil .nil) (.node (o207 P) .nil .nil)) (.node (o111 P) (.node (o175 P) .nil .nil) .nil))) (.node (o23 P) (.node (o39 P) (.node (o71 P) (.node (o135 P) .nil .nil) (.node (o199 P) .nil .nil)) (.node (o103 P) (.node (o167 P) .nil .nil) .nil)) (.node (o55 P) (.node (o87v5 P) (.node (o151 P) .nil .nil) (.node (o215 P) .nil .nil)) (.node (o119 P) (.node (o183 P) .nil .nil) .nil)))) (.node (o11 P) (.node (o19 P) (.node (o35 P) (.node (o67 P) (.node (o131 P) .nil .nil) (.node (o195 P) .nil .nil)) (.node (o99 P) (.node (o163 P) .nil .nil) (.node (o227 P) .nil .nil))) (.node (o51 P) (.node (o83v5 P) (.node (o147 P) .nil .nil) (.node (o211 P) .nil .nil)) (.node (o115 P) (.node (o179 P) .nil .nil) .nil))) (.node (o27 P) (.node (o43 P) (.node (o75 P) (.node (o139 P) .nil .nil) (.node (o203 P) .nil .nil)) (.node (o107 P) (.node (o171 P) .nil .nil) .nil)) (.node (o59 P) (.node (o91 P) (.node (o155 P) .nil .nil) (.node (o219 P) .nil .nil)) (.node (o123 P) (.node (o187 P) .nil .nil) .nil))))) (.node (boot_o_5 P) (.node (boot_o_9 P) (.node (o17 P) (.node (o33 P) (.node (o65 P) (.node (o129 P) .nil .nil) (.node (o193 P) .nil .nil)) (.node (o97 P) (.node (o161 P) .nil .nil) (.node (o225 P) .nil .nil))) (.node (o49 P) (.node (o81 P) (.node (o145 P) .nil .nil) (.node (o209 P) .nil .nil)) (.node (o113 P) (.node (o177 P) .nil .nil) .nil))) (.node (o25 P) (.node (o41 P) (.node (o73 P) (.node (o137 P) .nil .nil) (.node (o201 P) .nil .nil)) (.node (o105 P) (.node (o169 P) .nil .nil) .nil)) (.node (o57 P) (.node (o89 P) (.node (o153 P) .nil .nil) (.node (o217 P) .nil .nil)) (.node (o121 P) (.node (o185 P) .nil .nil) .nil)))) (.node (o13 P) (.node (o21 P) (.node (o37 P) (.node (o69 P) (.node (o133 P) .nil .nil) (.node (o197 P) .nil .nil)) (.node (o101 P) (.node (o165 P) .nil .nil) .nil)) (.node (o53 P) (.node (o85 P) (.node (o149 P) .nil .nil) (.node (o213 P) .nil .nil)) (.node (o117 P) (.node (o181 P) .nil .nil) .nil))) (.node (o29 P) (.node (o45 P) (.node (o77 P) (.node (o141 P) .nil .nil) (.node (o205 P) .nil .nil)) (.node (o109 P) (.node (o173 P) .nil .nil) .nil)) (.node (o61 P) (.node (o93 P) (.node (o157 P) .nil .nil) (.node (o221 P) .nil .nil)) (.node (o125 P) (.node (o189v1 P) .nil .nil) .nil)))))) (.node (o2 P) (.node (boot_o_4 P) (.node (boot_o_8 P) (.node (o16 P) (.node (o32 P) (.node (o64 P) (.node (o128 P) .nil .nil) (.node (o192 P) .nil .nil)) (.node (o96 P) (.node (o160 P) .nil .nil) (.node (o224 P) .nil .nil))) (.node (o48 P) (.node (o80 P) (.node (o144 P) .nil .nil) (.node (o208 P) .nil .nil)) (.node (o112 P) (.node (o176 P) .nil .nil) .nil))) (.node (o24 P) (.node (o40 P) (.node (o72 P) (.node (o136 P) .nil .nil) (.node (o200 P) .nil .nil)) (.node (o104 P) (.node (o168 P) .nil .nil) .nil)) (.node (o56 P) (.node (o88v5 P) (.node (o152 P) .nil .nil) (.node (o216 P) .nil .nil)) (.node (o120 P) (.node (o184 P) .nil .nil) .nil)))) (.node (o12v8 P) (.node (o20 P) (.node (o36 P) (.node (o68 P) (.node (o132 P) .nil .nil) (.node (o196 P) .nil .nil)) (.node (o100 P) (.node (o164 P) .nil .nil) (.node (o228 P) .nil .nil))) (.node (o52 P) (.node (o84 P) (.node (o148 P) .nil .nil) (.node (o212 P) .nil .nil)) (.node (o116 P) (.node (o180 P) .nil .nil) .nil))) (.node (o28 P) (.node (o44 P) (.node (o76 P) (.node (o140 P) .nil .nil) (.node (o204 P) .nil .nil)) (.node (o108 P) (.node (o172 P) .nil .nil) .nil)) (.node (o60 P) (.node (o92 P) (.node (o156 P) .nil .nil) (.node (o220 P) .nil .nil)) (.node (o124 P) (.node (o188 P) .nil .nil) .nil))))) (.node (boot_o_6 P) (.node (boot_o_10 P) (.node (o18 P) (.node (o34 P) (.node (o66 P) (.node (o130 P) .nil .nil) (.node (o194 P) .nil .nil)) (.node (o98 P) (.node (o162 P) .nil .nil) (.node (o226 P) .nil .nil))) (.node (o50 P) (.node (o82v5 P) (.node (o146 P) .nil .nil) (.node (o210 P) .nil .nil)) (.node (o114 P) (.node (o178 P) .nil .nil) .nil))) (.node (o26 P) (.node (o42 P) (.node (o74 P) (.node (o138 P) .nil .nil) (.node (o202 P) .nil .nil)) (.node (o106 P) (.node (o170 P) .nil .nil) .nil)) (.node (o58 P) (.node (o90 P) (.node (o154 P) .nil .nil) (.node (o218 P) .nil .nil)) (.node (o122 P) (.node (o186 P) .nil .nil) .nil)))) (.node (o14 P) (.node (o22 P) (.node (o38 P) (.node (o70 P) (.node (o134 P) .nil .nil) (.node (o198 P) .nil .nil)) (.node (o102 P) (.node (o166 P) .nil .nil) .nil)) (.node (o54 P) (.node (o86 P) (.node (o150 P) .nil .nil) (.node (o214 P) .nil .nil)) (.node (o118 P) (.node (o182 P) .nil .nil) .nil))) (.node (o30 P) (.node (o46 P) (.node (o78 P) (.node (o142 P) .nil .nil) (.node (o206 P) .nil .nil)) (.node (o110 P) (.node (o174 P) .nil .nil) .nil)) (.node (o62 P) (.node (o94 P) (.node (o158 P) .nil .nil) (.node (o222 P) .nil .nil)) (.node (o126 P) (.node (o190 P) .nil .nil) .nil)))))))
abbrev x_s18 (w : World) (os : OsState) : SharedT := ⟨t_s18 w.params, 229, lf, #[], boot_drawn, 2569, os⟩

end
end Mine
end
section
open PySem PySem.W PyProof.Rows
set_option maxRecDepth 100000
set_option linter.unusedVariables false
namespace Mine
noncomputable section
abbrev en : Env := { scope := pw.main.scope, locals := mainNs, globals := mainNs, cells := [], code := .ref 13, frame := some 14 }
abbrev cE : Code := .body (behindTheImports pw) en
abbrev q0 : Pos := ⟨0, 0, 0, 0⟩
abbrev Bq : List Frame := [topFrame q0]
abbrev ann : Option Value := some (.ref 6)
abbrev th (l : List Nat) (pos : Pos) : Thread := piecesOf (l.map top) en cE pos Bq
abbrev tT := PySem.W.Fast.tw14364793385576792824
abbrev rT := PySem.W.Fast.tw10110043849684766642
abbrev gT := PySem.W.Fast.tw10295753902157049106
theorem runT {w : World} {n : Nat} {s s' : SharedT} {t : Thread} {p : Pos} (h : rT tT pw w 11 ann 1 n s t = some (.next, s', cE, p)) : segRunT treeTable pw w 11 ann 1 n s t = some (.next, s', cE, p) := by
  rw [PySem.W.Fast.te10110043849684766642, PySem.W.Fast.te14364793385576792824]; exact h
theorem goT {w : World} {n : Nat} {s s' : SharedT} {t t' : Thread} (h : gT tT pw w 11 ann 1 n s t = some (s', t')) : segGoT treeTable pw w 11 ann 1 n s t = some (s', t') := by
  rw [PySem.W.Fast.te10295753902157049106, PySem.W.Fast.te14364793385576792824]; exact h
def sndT (o : Option (SharedT × Thread)) (d : Thread) : Thread := match o with
  | some x => x.2
  | none => d
theorem goSnd {e : Option (SharedT × Thread)} {d : Thread} {s : SharedT} (h : e.map Prod.fst = some s) : e = some (s, sndT e d) := by
  cases e with
  | none => cases h
  | some x => obtain ⟨a, b⟩ := x; cases h; rfl
def stkOk : List Frame → Bool
  | .ret .. :: _ :: _ => true
  | _ => false
abbrev lc : Code := .builtin "list.extend.loop" ⟨[.ref 82, .ref 83, .none], []⟩
abbrev sc : Code := .builtin "set.update.loop" ⟨[.ref 87, .ref 88], []⟩
def runA (w : World) (os : OsState) : Option (SharedT × Thread) := gT tT pw w 11 ann 1 103 (x_s5 w os) (th [6] ⟨12, 0, 13, 30⟩)
def thA (w : World) (os : OsState) : Thread := sndT (runA w os) (th [6] ⟨12, 0, 13, 30⟩)
abbrev thL (stk : List Frame) : Thread := ⟨.pure (.again lc), lc, ⟨14, 24, 14, 51⟩, stk⟩
abbrev thD (stk : List Frame) : Thread := ⟨.pure (.again sc), sc, ⟨14, 9, 14, 52⟩, stk⟩
def runC (w : World) (os : OsState) : Option (SharedT × Thread) := gT tT pw w 11 ann 1 79 (x_c5 w os) (thL (thA w os).stack)
def thC (w : World) (os : OsState) : Thread := sndT (runC w os) (thL [])
end
end Mine
end
section
open PySem PySem.W PyProof.Rows
set_option maxRecDepth 100000
set_option linter.unusedVariables false
namespace Mine
noncomputable section
theorem go_trans {w : World} : ∀ {m n : Nat} {s s' s'' : Shared} {t t' t'' : Thread}, segGo treeTable pw w 11 ann 1 m s t = some (s', t') → segGo treeTable pw w 11 ann 1 n s' t' = some (s'', t'') → segGo treeTable pw w 11 ann 1 (m + n) s t = some (s'', t'')
  | 0, n, s, s', s'', t, t', t'', h, k => by
    obtain ⟨rfl, rfl⟩ : s = s' ∧ t = t' := by simpa [segGo] using h
    rw [Nat.zero_add]; exact k
  | m + 1, n, s, s', s'', t, t', t'', h, k => by
    rw [show m + 1 + n = m + n + 1 by omega]
    unfold segGo at h ⊢
    cases he : endAt 1 t with
    | some f => rw [he] at h; cases h
    | none =>
      rw [he] at h
      cases hk : stepOk 11 ann t with
      | false => rw [hk] at h; cases h
      | true =>
        rw [hk] at h
        cases hs : step (denote treeTable) pw w s t with
        | halt o s₂ => rw [hs] at h; cases h
        | go s₂ t₂ => rw [hs] at h; exact go_trans h k
/-- m steps lead the tree x to the tree y, whatever stands around it -/
def SG (w : World) (m : Nat) {α : Type} (x : Sem α) (s : Shared) (p : Pos) (y : Sem α) (s' : Shared) (p' : Pos) : Prop :=
  ∀ (K : α → Sem Fin) (H : Value → Sem Fin) (gd : Bool → Bool) (lv : List Value → List Value) (c : Code) (f : Frame) (stk : List Frame),
    segGo treeTable pw w 11 ann 1 m s ⟨x.wrap K H gd lv, c, p, f :: stk⟩ = some (s', ⟨y.wrap K H gd lv, c, p', f :: stk⟩)
section
variable {w : World} {α β : Type} {m n : Nat} {s s' s'' : Shared} {p p' p'' : Pos}
theorem SG.refl {x : Sem α} : SG w 0 x s p x s p := fun _ _ _ _ _ _ _ => rfl
theorem SG.trans {x y z : Sem α} (h : SG w m x s p y s' p') (k : SG w n y s' p' z s'' p'') : SG w (m + n) x s p z s'' p'' :=
  fun K H gd lv c f stk => go_trans (h K H gd lv c f stk) (k K H gd lv c f stk)
theorem SG.cast {x y : Sem α} {m' : Nat} (h : SG w m x s p y s' p') (e : m = m') : SG w m' x s p y s' p' := e ▸ h
theorem SG.wrap {x y : Sem α} (h : SG w m x s p y s' p') (K : α → Sem β) (H : Value → Sem β) (gd lv) : SG w m (x.wrap K H gd lv) s p (y.wrap K H gd lv) s' p' := fun K' H' gd' lv' c f stk => by
  rw [Sem.wrap_wrap, Sem.wrap_wrap]; exact h _ _ _ _ c f stk
theorem SG.bind {x y : Sem α} {g : α → Sem β} (h : SG w m x s p y s' p') : SG w m (x >>= g) s p (y >>= g) s' p' := by
  rw [Sem.bind_eq_wrap', Sem.bind_eq_wrap']; exact h.wrap _ _ _ _
theorem SG.keep {x y : Sem α} (vs : List Value) (h : SG w m x s p y s' p') : SG w m (x.keep vs) s p (y.keep vs) s' p' := by
  rw [Sem.keep_eq_wrap, Sem.keep_eq_wrap]; exact h.wrap _ _ _ _
theorem SG.onRaise {x y : Sem α} {g : Value → Sem Unit} (h : SG w m x s p y s' p') : SG w m (x.onRaise g) s p (y.onRaise g) s' p' := by
  rw [Sem.onRaise_eq_wrap, Sem.onRaise_eq_wrap]; exact h.wrap _ _ _ _
theorem SG.holding {x y : Sem α} (vs : List Value) (h : SG w m x s p y s' p') : SG w m (PySem.holding vs x) s p (PySem.holding vs y) s' p' := by
  unfold PySem.holding
  split
  · exact h
  · exact h.keep _
theorem endAt_not {t : Thread} (h : ∀ f, t.cur ≠ .pure (.done f)) : endAt 1 t = none := by
  unfold endAt
  split
  · rename_i e; exact absurd e (h _)
  · rfl
theorem go1 {t t' t'' : Thread} (he : ∀ f, t.cur ≠ .pure (.done f)) (hk : stepOk 11 ann t = true) (hs : step (denote treeTable) pw w s t = .go s' t') (h : segGo treeTable pw w 11 ann 1 n s' t' = some (s'', t'')) :
    segGo treeTable pw w 11 ann 1 (n + 1) s t = some (s'', t'') := by
  unfold segGo
  rw [endAt_not he, hk, hs]
  exact h
theorem SG.at {q : Pos} {k : Unit → Sem α} : SG w 1 (.at q k) s p (k ()) s q := fun K H gd lv c f stk => go1 (fun _ e => by cases e) rfl rfl rfl
theorem SG.rule {q : String} {k : Unit → Sem α} : SG w 1 (.rule q k) s p (k ()) s p := fun K H gd lv c f stk => go1 (fun _ e => by cases e) rfl rfl rfl
theorem SG.point {q : List Value} {k : Unit → Sem α} : SG w 1 (.point q k) s p (k ()) s p := fun K H gd lv c f stk => go1 (fun _ e => by cases e) rfl rfl rfl
theorem SG.fresh {k : Tok → Sem α} : SG w 1 (.fresh k) s p (k s.toks) { s with toks := s.toks + 1 } p := fun K H gd lv c f stk => go1 (fun _ e => by cases e) rfl rfl rfl
theorem SG.ask {k : Setting → Sem α} : SG w 1 (.ask k) s p (k ⟨pw, w.params⟩) s p := fun K H gd lv c f stk => go1 (fun _ e => by cases e) rfl rfl rfl
theorem SG.alloc {o : Obj} {k : Addr → Sem α} : SG w 1 (.alloc o k) s p (k s.heap.objs.size) { s with heap := s.heap.push o } p := fun K H gd lv c f stk => go1 (fun _ e => by cases e) rfl rfl rfl
theorem SG.load {a : Addr} {q : Option Value} {k : Obj → Sem α} {o : Obj} (ho : s.heap.get? a = some o) : SG w 1 (.load a q k) s p (k o) s p := fun K H gd lv c f stk => by
  refine go1 (fun _ e => by cases e) rfl ?_ rfl
  simp only [Sem.wrap, step, ho]
theorem SG.update {a : Addr} {q : Option Value} {g : Obj → Obj} {k : Unit → Sem α} {o : Obj} (ho : s.heap.get? a = some o) (ha : Nat.ble 11 a = true) : SG w 1 (.update a q g k) s p (k ()) { s with heap := s.heap.update a g } p := fun K H gd lv c f stk => by
  refine go1 (fun _ e => by cases e) ?_ ?_ rfl
  · show (_ && (Nat.ble 11 a || a == mainNs || a == cStatics || ann == some (.ref a))) = true
    rw [ha]; rfl
  · simp only [Sem.wrap, step, ho, Option.isSome_some, if_true]
end
end
end Mine
end
section
open PySem PySem.W PyProof.Rows
set_option maxRecDepth 100000
set_option linter.unusedVariables false
namespace Mine
noncomputable section
def hashOf (x : Int) : Int :=
  let h : Int := x.natAbs % (2 ^ 61 - 1 : Nat)
  let h := if x < 0 then -h else h
  if h == -1 then -2 else h
theorem hash_nil (i : Int) (t : Tok) (heap : Heap) (gens : Array GenState) (dr : Drawn) (tk : Nat) (os : OsState) (p : Pos) (K : Int → Sem Fin) (H : Value → Sem Fin) (gd : Bool → Bool) (lv : List Value → List Value) (c : Code) (f : Frame) (w : World) :
    segGo treeTable pw w 11 ann 1 5 ⟨heap, gens, dr, tk, os⟩ ⟨(pyHash (.int i t)).wrap K H gd lv, c, p, [f]⟩ = some (⟨heap, gens, dr, tk + 1, os⟩, ⟨(pyHashByItsType.reduced (hashOf i)).wrap K H gd lv, c, p, [f]⟩) := by
  refine byRow2 "special-get-raises" (P := fun w => segGo treeTable pw w 11 ann 1 5 ⟨heap, gens, dr, tk, os⟩ ⟨(pyHash (.int i t)).wrap K H gd lv, c, p, [f]⟩ = some (⟨heap, gens, dr, tk + 1, os⟩, ⟨(pyHashByItsType.reduced (hashOf i)).wrap K H gd lv, c, p, [f]⟩)) (fun w => ?_) (fun w => ?_) w
  · kernel_rfl
  · kernel_rfl
theorem hash_cons (i : Int) (t : Tok) (heap : Heap) (gens : Array GenState) (dr : Drawn) (tk : Nat) (os : OsState) (p : Pos) (K : Int → Sem Fin) (H : Value → Sem Fin) (gd : Bool → Bool) (lv : List Value → List Value) (c : Code) (f f2 : Frame) (stk : List Frame) (w : World) :
    segGo treeTable pw w 11 ann 1 5 ⟨heap, gens, dr, tk, os⟩ ⟨(pyHash (.int i t)).wrap K H gd lv, c, p, f :: f2 :: stk⟩ = some (⟨heap, gens, dr, tk + 1, os⟩, ⟨(pyHashByItsType.reduced (hashOf i)).wrap K H gd lv, c, p, f :: f2 :: stk⟩) := by
  refine byRow2 "special-get-raises" (P := fun w => segGo treeTable pw w 11 ann 1 5 ⟨heap, gens, dr, tk, os⟩ ⟨(pyHash (.int i t)).wrap K H gd lv, c, p, f :: f2 :: stk⟩ = some (⟨heap, gens, dr, tk + 1, os⟩, ⟨(pyHashByItsType.reduced (hashOf i)).wrap K H gd lv, c, p, f :: f2 :: stk⟩)) (fun w => ?_) (fun w => ?_) w
  · kernel_rfl
  · kernel_rfl
theorem hashOf_small {i : Int} (h0 : 0 ≤ i) (h1 : i < 2000000) : hashOf i = i := by
  unfold hashOf
  have e : ((i.natAbs % (2 ^ 61 - 1 : Nat) : Nat) : Int) = i := by
    rw [Nat.mod_eq_of_lt (by omega)]; omega
  simp only [Int.natCast_emod] at e
  split
  · omega
  · first
    | (have : (i == -1) = false := by simp; omega
       simp_all)
    | skip
theorem SG.hash {w : World} {i : Int} {t : Tok} {s : Shared} {p : Pos} (h0 : 0 ≤ i) (h1 : i < 2000000) : SG w 5 (pyHash (.int i t)) s p (pure i) { s with toks := s.toks + 1 } p := fun K H gd lv c f stk => by
  have e : pyHashByItsType.reduced (hashOf i) = pure i := by
    rw [hashOf_small h0 h1]
    unfold pyHashByItsType.reduced
    rw [if_pos (by simp; omega)]
    have : (i == -1) = false := by simp; omega
    rw [this]; rfl
  obtain ⟨heap, gens, dr, tk, os⟩ := s
  rw [← e]
  cases stk with
  | nil => exact hash_nil i t heap gens dr tk os p K H gd lv c f w
  | cons f2 stk => exact hash_cons i t heap gens dr tk os p K H gd lv c f f2 stk w
end
end Mine
end
section
open PySem PySem.W PyProof.Rows
set_option maxRecDepth 100000
set_option linter.unusedVariables false
namespace Mine
noncomputable section
theorem SG.of_eq {w : World} {α : Type} {x y : Sem α} {s : Shared} {p : Pos} (e : x = y) : SG w 0 x s p y s p := e ▸ SG.refl
theorem SG.eq_left {w : World} {α : Type} {m : Nat} {x x' y : Sem α} {s s' : Shared} {p p' : Pos} (e : x = x') (h : SG w m x' s p y s' p') : SG w m x s p y s' p' := e ▸ h
theorem SG.seq {w : World} {α β : Type} {m n : Nat} {x : Sem α} {a : α} {g : α → Sem β} {z : Sem β} {s s' s'' : Shared} {p p' p'' : Pos} (h : SG w m x s p (pure a) s' p') (k : SG w n (g a) s' p' z s'' p'') : SG w (m + n) (x >>= g) s p z s'' p'' :=
  (h.bind (g := g)).trans k
section
variable {w : World} {s : Shared} {p : Pos} {d : Addr} {es : Array DictEntry} {n : Nat} {i : Int} {t : Tok} {v : Value} {part : Option Value}
abbrev dO (es : Array DictEntry) (n : Nat) : Obj := { cls := .type "dict", data := .dict es n }
theorem SG.entries (ho : s.heap.get? d = some (dO es n)) : SG w 1 (dictEntries d part) s p (pure es) s p := by
  unfold dictEntries loadPart
  exact SG.load (k := fun o => (Sem.pure o).bind fun o => match o.data with | .dict es _ => pure es | _ => unsupported "internal:not-a-dict") ho
theorem SG.find (ho : s.heap.get? d = some (dO es n)) (hp : placesWithHash es.size (fun i => es[i]?.map (·.hash)) i = []) : SG w 1 (dictFind d (.int i t) i) s p (pure none) s p := by
  unfold dictFind
  show SG w 1 (dictEntries d _ >>= _) s p _ s p
  refine SG.seq (m := 1) (n := 0) (SG.entries ho) (SG.of_eq ?_)
  simp only [hp]
  rfl
theorem past_ok (h : es.size ≤ 100000) : (dO es n).data.pastItsLine = none := by
  show (if es.size > _ then _ else _) = _
  rw [if_neg]
  have e := sizeLine_eq
  omega
theorem SG.putKey (ho : s.heap.get? d = some (dO es n)) (hd : Nat.ble 11 d = true) (e : DictEntry) (hz : es.size < 100000) :
    SG w 3 (updateDictKeys d (·.push e) part) s p (pure ()) { s with heap := s.heap.update d (Obj.mapDictKeys (·.push e)) } p := by
  unfold updateDictKeys loadPart lookBehind
  refine SG.trans (m := 1) (n := 2) (SG.bind (SG.load ho)) ?_
  show SG w 2 ((updatePart d part _) >>= _) s p _ _ p
  refine SG.trans (m := 1) (n := 1) (SG.bind (SG.update ho hd)) ?_
  have ho' : (s.heap.update d (Obj.mapDictKeys (·.push e))).get? d = some (dO (es.push e) (n + 1)) := Heap.get?_update_self _ ho rfl
  show SG w 1 ((loadPart d part) >>= _) _ p _ _ p
  refine SG.trans (m := 1) (n := 0) (SG.bind (SG.load ho')) (SG.of_eq ?_)
  have q : (dO (es.push e) (n + 1)).data.pastItsLine = none := past_ok (by rw [Array.size_push]; omega)
  show (match (dO (es.push e) (n + 1)).data.pastItsLine with | some what => _ | _ => _) = _
  rw [q]
theorem SG.set (ho : s.heap.get? d = some (dO es n)) (hd : Nat.ble 11 d = true) (hz : es.size < 100000) (hp : placesWithHash es.size (fun i => es[i]?.map (·.hash)) i = []) (h0 : 0 ≤ i) (h1 : i < 2000000) {x : Str} {t' : Tok} :
    SG w 10 (dictSet d (.int i t) (.str x t')) s p (pure ()) { s with heap := s.heap.update d (Obj.mapDictKeys (·.push ⟨i, .int i t, .str x t'⟩)), toks := s.toks + 1 } p := by
  unfold dictSet
  show SG w 10 (pyHash (.int i t) >>= _) s p _ _ p
  refine SG.seq (m := 5) (n := 5) (SG.hash h0 h1) ?_
  unfold dictSetHashed
  show SG w 5 (dictFind d (.int i t) i >>= _) _ p _ _ p
  refine SG.seq (m := 1) (n := 4) (SG.find ho hp) ?_
  show SG w 4 (PySem.rule _ >>= _) _ p _ _ p
  exact SG.trans (m := 1) (n := 3) (SG.bind (y := pure ()) SG.rule) (SG.putKey (s := { s with toks := s.toks + 1 }) ho hd _ hz)
end
end
end Mine
end
section
open PySem PySem.W PyProof.Rows
set_option maxRecDepth 100000
set_option linter.unusedVariables false
namespace Mine
noncomputable section
def hL (l : List Obj) : Heap := ⟨l.toArray, lf⟩
theorem hL_push (l : List Obj) (o : Obj) : (hL l).push o = hL (l ++ [o]) := by
  show (⟨l.toArray.push o, lf⟩ : Heap) = ⟨(l ++ [o]).toArray, lf⟩
  rw [List.push_toArray]
theorem hL_size (l : List Obj) : (hL l).objs.size = l.length := by simp [hL]
theorem hL_get {A R : List Obj} {d : Addr} {o : Obj} (hA : A.length = d) (hf : o.isFreed = false) : (hL (A ++ o :: R)).get? d = some o := by
  subst hA
  have e : (hL (A ++ o :: R)).objs[A.length]? = some o := by simp [hL]
  unfold Heap.get?
  rw [e]
  obtain ⟨c, dd, dt, sl⟩ := o
  cases dt <;> first | rfl | (simp [Obj.isFreed] at hf)
theorem hL_update {A R : List Obj} {d : Addr} {o : Obj} (f : Obj → Obj) (hA : A.length = d) : (hL (A ++ o :: R)).update d f = hL (A ++ f o :: R) := by
  subst hA
  show (⟨(A ++ o :: R).toArray.modify A.length f, lf⟩ : Heap) = ⟨(A ++ f o :: R).toArray, lf⟩
  congr 1
  apply Array.ext
  · simp
  · intro j h1 h2
    simp only [Array.size_modify, List.size_toArray] at h1 h2
    rw [Array.getElem_modify]
    by_cases e : A.length = j
    · subst e; simp
    · rw [if_neg e]
      simp only [List.getElem_toArray, List.getElem_append]
      by_cases hj : j < A.length
      · simp [hj]
      · have : ∃ k, j - A.length = k + 1 := ⟨j - A.length - 1, by omega⟩
        obtain ⟨k, hk⟩ := this
        simp [hj, hk]
theorem places_nil {es : List DictEntry} {lo i : Int} (h : ∀ e ∈ es, e.hash < lo) (hi : lo ≤ i) : placesWithHash es.toArray.size (fun j => es.toArray[j]?.map (·.hash)) i = [] := by
  unfold placesWithHash
  rw [List.filter_eq_nil_iff]
  intro j hj
  simp only [List.mem_range, List.size_toArray] at hj
  simp only [List.getElem?_toArray, List.getElem?_eq_getElem hj, Option.map_some, beq_iff_eq, Option.some.injEq]
  have := h es[j] (List.getElem_mem hj)
  intro e
  omega
def sf : Int → List (Int × Str) → Bool
  | _, [] => true
  | lo, x :: r => decide (lo ≤ x.1) && decide (x.1 < 2000000) && sf (x.1 + 1) r
def hi : Int → List (Int × Str) → Int
  | lo, [] => lo
  | _, x :: r => hi (x.1 + 1) r
abbrev kS (x : Int × Str) : Sem Value := constValue en (.int x.1)
abbrev vS (pd : Pos) (x : Int × Str) : Sem Value := do let y ← constValue en (.str x.2); standAt pd; pure y
section
variable {w : World} {gens : Array GenState} {dr : Drawn} {os : OsState} {pd : Pos} {A R : List Obj} {d : Addr}
abbrev sh (l : List Obj) (gens : Array GenState) (dr : Drawn) (t : Nat) (os : OsState) : Shared := ⟨hL l, gens, dr, t, os⟩
theorem SG.pair (hA : A.length = d) (hd : Nat.ble 11 d = true) {es : List DictEntry} {n t : Nat} {lo : Int} {x : Int × Str} (hes : ∀ e ∈ es, e.hash < lo) (h0 : 0 ≤ lo) (h1 : lo ≤ x.1) (h2 : x.1 < 2000000) (hz : es.length < 100000) :
    SG w 13 (do let kv ← kS x; let vv ← PySem.holding [kv] (vS pd x); PySem.holding [kv, vv] (dictSet d kv vv)) (sh (A ++ dictObj es n :: R) gens dr t os) pd (pure ())
      (sh (A ++ dictObj (es ++ [⟨x.1, .int x.1 t, .str x.2 (t + 1)⟩]) (n + 1) :: R) gens dr (t + 3) os) pd := by
  refine SG.seq (m := 1) (n := 12) (a := .int x.1 t) (s' := sh (A ++ dictObj es n :: R) gens dr (t + 1) os) SG.fresh ?_
  refine SG.seq (m := 2) (n := 10) (a := .str x.2 (t + 1)) (s' := sh (A ++ dictObj es n :: R) gens dr (t + 2) os) (p' := pd) ?_ ?_
  · show SG w 2 (vS pd x) _ _ _ _ _
    refine SG.seq (m := 1) (n := 1) (a := .str x.2 (t + 1)) SG.fresh ?_
    exact SG.at
  · show SG w 10 (dictSet d (.int x.1 t) (.str x.2 (t + 1))) _ _ _ _ _
    have z := SG.set (w := w) (s := sh (A ++ dictObj es n :: R) gens dr (t + 2) os) (p := pd) (d := d) (es := es.toArray) (n := n) (i := x.1) (t := t) (x := x.2) (t' := t + 1) (hL_get hA rfl) hd (by simpa using hz) (places_nil hes h1) (by omega) h2
    rw [show (sh (A ++ dictObj es n :: R) gens dr (t + 2) os).heap = hL (A ++ dictObj es n :: R) from rfl, hL_update _ hA] at z
    have e : Obj.mapDictKeys (·.push ⟨x.1, .int x.1 t, .str x.2 (t + 1)⟩) (dictObj es n) = dictObj (es ++ [⟨x.1, .int x.1 t, .str x.2 (t + 1)⟩]) (n + 1) := by
      show (⟨_, _, .dict (es.toArray.push _) (n + 1), _⟩ : Obj) = _
      rw [List.push_toArray]
    rw [e] at z
    exact z
theorem SG.fill (hA : A.length = d) (hd : Nat.ble 11 d = true) : ∀ (l : List (Int × Str)) (es : List DictEntry) (n t : Nat) (lo : Int), (∀ e ∈ es, e.hash < lo) → 0 ≤ lo → sf lo l = true → es.length + l.length < 100000 →
    SG w (13 * l.length) (forIn (l.map fun x => (kS x, vS pd x)) PUnit.unit fun x r => do
        let kv ← x.1
        let vv ← PySem.holding [kv] x.2
        PySem.holding [kv, vv] (dictSet d kv vv)
        pure (ForInStep.yield PUnit.unit)) (sh (A ++ dictObj es n :: R) gens dr t os) pd (pure PUnit.unit)
      (sh (A ++ dictObj (es ++ entriesFrom t l) (n + l.length) :: R) gens dr (t + 3 * l.length) os) pd
  | [], es, n, t, lo, _, _, _, _ => by
    rw [List.map_nil, List.forIn_nil]
    simp only [entriesFrom, List.append_nil, List.length_nil, Nat.mul_zero, Nat.add_zero]
    exact SG.refl
  | x :: l, es, n, t, lo, hes, h0, hs, hz => by
    unfold sf at hs
    simp only [Bool.and_eq_true, decide_eq_true_eq] at hs
    obtain ⟨⟨h1, h2⟩, hs⟩ := hs
    rw [List.map_cons, List.forIn_cons]
    have ih := SG.fill hA hd l (es ++ [⟨x.1, .int x.1 t, .str x.2 (t + 1)⟩]) (n + 1) (t + 3) (x.1 + 1) (fun e he => by
      rcases List.mem_append.mp he with he | he
      · have := hes e he; omega
      · rw [List.mem_singleton.mp he]; show x.1 < x.1 + 1; omega) (by omega) hs (by rw [List.length_append]; simp at hz ⊢; omega)
    have z := SG.pair (w := w) (gens := gens) (dr := dr) (os := os) (pd := pd) (A := A) (R := R) (d := d) hA hd (n := n) (t := t) (x := x) hes h0 h1 h2 (by simp at hz; omega)
    have zz := SG.seq (g := fun _ => (pure (ForInStep.yield PUnit.unit) : Sem _)) z SG.refl
    refine SG.cast (SG.seq (m := 13 + 0) (n := 13 * l.length) (a := ForInStep.yield PUnit.unit) (s' := sh (A ++ dictObj (es ++ [⟨x.1, .int x.1 t, .str x.2 (t + 1)⟩]) (n + 1) :: R) gens dr (t + 3) os) (p' := pd) ?_ ?_) (by rw [List.length_cons]; omega)
    · refine SG.eq_left ?_ zz
      simp only [bind_assoc]
    · have e1 : es ++ entriesFrom t (x :: l) = es ++ [⟨x.1, .int x.1 t, .str x.2 (t + 1)⟩] ++ entriesFrom (t + 3) l := by simp [entriesFrom]
      have e2 : n + (x :: l).length = n + 1 + l.length := by rw [List.length_cons]; omega
      have e3 : t + 3 * (x :: l).length = t + 3 + 3 * l.length := by rw [List.length_cons]; omega
      rw [e1, e2, e3]
      exact ih
end
end
end Mine
end
section
open PySem PySem.W PyProof.Rows
set_option maxRecDepth 100000
set_option linter.unusedVariables false
namespace Mine
noncomputable section
theorem isDict (q : Option Value) (es : List DictEntry) (n : Nat) : ((Sem.pure (dictObj es n) : Sem Obj) >>= fun o => (pure o.cls >>= fun t => isSubtype t (.type "dict"))) = pure true := by kernel_rfl
theorem SG.isI {w : World} {s : Shared} {p : Pos} {a : Addr} {es : List DictEntry} {n : Nat} (ho : s.heap.get? a = some (dictObj es n)) : SG w 1 (isInstance (.ref a) (.type "dict")) s p (pure true) s p := by
  unfold isInstance typeOf loadPart
  refine SG.trans (m := 1) (n := 0) (SG.bind (SG.bind (SG.load ho))) (SG.of_eq ?_)
  kernel_rfl
theorem SG.spec {w : World} {s : Shared} {p : Pos} {a : Addr} {es : List DictEntry} {n : Nat} (ho : s.heap.get? a = some (dictObj es n)) : SG w 1 (specialOf (.ref a) "__iter__") s p (pure (some (.builtin "dict.__iter__"))) s p := by
  unfold specialOf typeOf loadPart
  refine SG.trans (m := 1) (n := 0) (SG.bind (SG.bind (SG.load ho))) (SG.of_eq ?_)
  kernel_rfl
theorem SG.epoch {w : World} {s : Shared} {p : Pos} {a : Addr} {es : List DictEntry} {n : Nat} {q : Option Value} (ho : s.heap.get? a = some (dictObj es n)) : SG w 1 (dictEpoch a q) s p (pure n) s p := by
  unfold dictEpoch loadPart
  exact SG.load (k := fun o => (Sem.pure o).bind fun o => match o.data with | .dict _ n => pure n | _ => unsupported "internal:not-a-dict") ho
theorem SG.loop {w : World} {p : Pos} {F : Nat → PUnit → Sem (ForInStep PUnit)} {St : Nat → Shared} {c N : Nat} (h : ∀ j r, j < N → SG w c (F j r) (St j) p (pure (ForInStep.yield PUnit.unit)) (St (j + 1)) p) :
    ∀ k j, j + k = N → SG w (c * k) (forIn (List.range' j k) PUnit.unit F) (St j) p (pure PUnit.unit) (St N) p
  | 0, j, e => by
    obtain rfl : j = N := by omega
    exact SG.refl
  | k + 1, j, e => by
    rw [List.range'_succ, List.forIn_cons]
    refine SG.cast (SG.seq (h j _ (by omega)) (SG.loop h k (j + 1) (by omega))) ?_
    rw [Nat.mul_succ]; omega
section
variable {w : World} {gens : Array GenState} {dr : Drawn} {os : OsState} {p : Pos} {A R : List Obj} {d a : Addr}
theorem focus (A R : List Obj) (o so : Obj) : A ++ o :: (R ++ [so]) = (A ++ o :: R) ++ so :: [] := by simp
theorem SG.put (hA : A.length = d) (hd : Nat.ble 11 d = true) {es : List DictEntry} {n t : Nat} {lo i : Int} {tk : Tok} {v : Value} (hes : ∀ e ∈ es, e.hash < lo) (h1 : lo ≤ i) (hz : es.length < 100000) :
    SG w 4 (dictPut d i (.int i tk) v) (sh (A ++ dictObj es n :: R) gens dr t os) p (pure ()) (sh (A ++ dictObj (es ++ [⟨i, .int i tk, v⟩]) (n + 1) :: R) gens dr t os) p := by
  unfold dictPut
  refine SG.seq (m := 1) (n := 3) (a := none) (SG.find (es := es.toArray) (n := n) (hL_get hA rfl) (places_nil hes h1)) ?_
  have z := SG.putKey (w := w) (s := sh (A ++ dictObj es n :: R) gens dr t os) (p := p) (d := d) (es := es.toArray) (n := n) (part := none) (hL_get hA rfl) hd ⟨i, .int i tk, v⟩ (by simpa using hz)
  rw [show (sh (A ++ dictObj es n :: R) gens dr t os).heap = hL (A ++ dictObj es n :: R) from rfl, hL_update _ hA] at z
  have e : Obj.mapDictKeys (·.push ⟨i, .int i tk, v⟩) (dictObj es n) = dictObj (es ++ [⟨i, .int i tk, v⟩]) (n + 1) := by
    show (⟨_, _, .dict (es.toArray.push _) (n + 1), _⟩ : Obj) = _
    rw [List.push_toArray]
  rw [e] at z
  exact z
def Good : Int → List DictEntry → Prop
  | _, [] => True
  | lo, e :: r => lo ≤ e.hash ∧ (∃ tk, e.key = .int e.hash tk) ∧ (∃ x tv, e.val = .str x tv) ∧ Good (e.hash + 1) r
theorem Good.at : ∀ {l : List DictEntry} {lo : Int} {j : Nat}, Good lo l → j < l.length →
    ∃ e, l[j]? = some e ∧ (∃ tk, e.key = .int e.hash tk) ∧ (∃ x tv, e.val = .str x tv) ∧ lo ≤ e.hash ∧ ∀ e' ∈ l.take j, e'.hash < e.hash
  | [], _, _, _, h => by simp at h
  | x :: l, lo, 0, hs, _ => ⟨_, rfl, hs.2.1, hs.2.2.1, hs.1, fun _ h => nomatch h⟩
  | x :: l, lo, j + 1, hs, h => by
    obtain ⟨e, h1, h2, h3, h4, h5⟩ := Good.at hs.2.2.2 (show j < l.length by simpa using h)
    refine ⟨e, by simpa using h1, h2, h3, by have := hs.1; omega, fun e' h' => ?_⟩
    rw [List.take_succ_cons] at h'
    rcases List.mem_cons.mp h' with rfl | h'
    · omega
    · exact h5 e' h'
theorem good_from : ∀ (l : List (Int × Str)) (t : Nat) (lo : Int), sf lo l = true → Good lo (entriesFrom t l)
  | [], _, _, _ => trivial
  | x :: l, t, lo, hs => by
    unfold sf at hs
    simp only [Bool.and_eq_true, decide_eq_true_eq] at hs
    exact ⟨hs.1.1, ⟨_, rfl⟩, ⟨_, _, rfl⟩, good_from l _ _ hs.2⟩
theorem good_two : ∀ (l : List (Int × Str)) (t : Nat) (lo : Int), sf lo l = true → Good lo (entriesTwo t l)
  | [], _, _, _ => trivial
  | x :: l, t, lo, hs => by
    unfold sf at hs
    simp only [Bool.and_eq_true, decide_eq_true_eq] at hs
    exact ⟨hs.1.1, ⟨_, rfl⟩, ⟨_, _, rfl⟩, good_two l _ _ hs.2⟩
theorem entries_len (t : Nat) : ∀ l : List (Int × Str), (entriesFrom t l).length = l.length
  | [] => rfl
  | x :: l => by rw [entriesFrom, List.length_cons, entries_len (t + 3) l, List.length_cons]
theorem two_len (t : Nat) : ∀ l : List (Int × Str), (entriesTwo t l).length = l.length
  | [] => rfl
  | x :: l => by rw [entriesTwo, List.length_cons, two_len (t + 2) l, List.length_cons]
theorem SG.merge (hA : A.length = d) (hd : Nat.ble 11 d = true) (ha : (A ++ dictObj [] 0 :: R).length = a) (hs : (a == sysModules) = false) {es : List DictEntry} {n t : Nat} {lo : Int} {l : List DictEntry} {sn : Nat} (hne : es ≠ []) (hes : ∀ e ∈ es, e.hash < lo) (hl : Good lo l) (hz : es.length + l.length < 100000) :
    SG w (5 + 6 * l.length) (mergeMapping d (.ref a) false) (sh (A ++ dictObj es n :: (R ++ [dictObj l sn])) gens dr t os) p (pure ())
      (sh (A ++ dictObj (es ++ l) (n + l.length) :: (R ++ [dictObj l sn])) gens dr t os) p := by
  have hsub : ∀ es' n', (hL (A ++ dictObj es' n' :: (R ++ [dictObj l sn]))).get? a = some (dictObj l sn) := fun es' n' => by
    rw [focus]
    exact hL_get (by rw [← ha]; simp) rfl
  unfold mergeMapping
  refine SG.cast (m := 1 + (1 + (1 + (1 + (1 + 6 * l.length))))) ?_ (by omega)
  refine SG.seq (SG.isI (hsub _ _)) ?_
  show SG w _ (specialOf (.ref a) "__iter__" >>= _) _ _ _ _ _
  refine SG.seq (SG.spec (hsub _ _)) ?_
  have q : ((some (Value.builtin "dict.__iter__") : Option Value) == some (Value.builtin "dict.__iter__")) = true := by decide
  simp only [q, pure_bind, hs, Bool.false_eq_true, if_false]
  refine SG.seq (SG.entries (es := es.toArray) (n := n) (hL_get hA rfl)) ?_
  have q2 : es.toArray.isEmpty = false := by
    cases es with
    | nil => exact absurd rfl hne
    | cons => rfl
  simp only [q2, Bool.false_eq_true, if_false]
  refine SG.seq (SG.entries (es := l.toArray) (n := sn) (hsub _ _)) ?_
  refine SG.seq (SG.epoch (hsub _ _)) ?_
  rw [show l.toArray.size = l.length from List.size_toArray, List.range_eq_range']
  have key := SG.loop (w := w) (p := p) (c := 6) (N := l.length) (St := fun j => sh (A ++ dictObj (es ++ l.take j) (n + j) :: (R ++ [dictObj l sn])) gens dr t os)
    (F := fun i (_ : PUnit) => (do
      let x ← dictEntries a
      match x[i]? with
      | some e => do
        PySem.holding [e.key, e.val] (dictPut d e.hash e.key e.val)
        let y ← dictEpoch a
        if (y != sn) = true then do
          unsupported "dict.changed-during-merge"
          pure (ForInStep.yield PUnit.unit)
        else pure (ForInStep.yield PUnit.unit)
      | _ => do
        unsupported "dict.changed-during-merge"
        pure (ForInStep.yield PUnit.unit) : Sem (ForInStep PUnit))) (fun j r hj => ?_) l.length 0 (by omega)
  · simp only [List.take_zero, List.append_nil, Nat.add_zero] at key
    rw [List.take_of_length_le (Nat.le_refl _)] at key
    refine SG.cast (SG.seq key (SG.refl (x := pure ()))) rfl
  · obtain ⟨e, he, hk, hv, hh⟩ := hl.at hj
    refine SG.cast (m := 1 + (4 + 1)) ?_ (by omega)
    refine SG.seq (SG.entries (es := l.toArray) (n := sn) (hsub _ _)) ?_
    simp only [List.getElem?_toArray, he]
    obtain ⟨tk, hk⟩ := hk
    obtain ⟨x, tv, hv⟩ := hv
    have em : e = ⟨e.hash, .int e.hash tk, .str x tv⟩ := by
      obtain ⟨a1, a2, a3⟩ := e
      simp only at hk hv
      subst hk hv; rfl
    rw [hk, hv]
    show SG w _ (dictPut d e.hash (.int e.hash tk) (.str x tv) >>= _) _ _ _ _ _
    refine SG.seq (SG.put (lo := e.hash) hA hd (fun e' he' => ?_) (Int.le_refl _) ?_) ?_
    · rcases List.mem_append.mp he' with h | h
      · have := hes e' h; have := hh.1; omega
      · exact hh.2 e' h
    · rw [List.length_append, List.length_take]; omega
    · have e1 : es ++ l.take (j + 1) = es ++ l.take j ++ [⟨e.hash, .int e.hash tk, .str x tv⟩] := by
        rw [← em, List.take_add_one, he]; simp
      rw [e1, show n + (j + 1) = n + j + 1 by omega]
      refine SG.seq (m := 1) (n := 0) (SG.epoch (hsub _ _)) (SG.of_eq ?_)
      simp
end
end
end Mine
end
section
open PySem PySem.W PyProof.Rows
set_option maxRecDepth 100000
set_option linter.unusedVariables false
namespace Mine
noncomputable section
section
variable {w : World} {gens : Array GenState} {dr : Drawn} {os : OsState} {pd : Pos} {B : List Obj}
abbrev prL (pd : Pos) (l : List (Int × Str)) : List (Sem Value × Sem Value) := l.map fun x => (kS x, vS pd x)
theorem SG.held {α : Type} {m : Nat} {x : Sem α} {a : α} {s s' : Shared} {p p' : Pos} (vs : List Value) (h : SG w m x s p (pure a) s' p') : SG w m (PySem.holding vs x) s p (pure a) s' p' := by
  have z := SG.holding vs h
  have e : PySem.holding vs (pure a : Sem α) = pure a := by
    unfold PySem.holding
    split <;> rfl
  rw [e] at z
  exact z
theorem SG.subLong {l : List (Int × Str)} {t : Nat} {lo : Int} (hB : Nat.ble 11 B.length = true) (h15 : 15 < l.length) (hz : l.length < 100000) (h0 : 0 ≤ lo) (hs : sf lo l = true) :
    SG w (2 + 13 * l.length) (subDict (prL pd l)) (sh B gens dr t os) pd (pure B.length) (sh (B ++ [dictObj (entriesFrom t l) l.length]) gens dr (t + 3 * l.length) os) pd := by
  unfold subDict
  refine SG.cast (m := 1 + ((1 + 13 * l.length) + 0)) ?_ (by omega)
  have e0 : (sh B gens dr t os).heap.push { cls := .type "dict", data := .dict #[] } = hL (B ++ [dictObj [] 0]) := hL_push B _
  refine SG.seq (a := B.length) (s' := sh (B ++ [dictObj [] 0]) gens dr t os) (p' := pd) ?_ ?_
  · have z := SG.alloc (w := w) (α := Addr) (s := sh B gens dr t os) (p := pd) (o := { cls := .type "dict", data := .dict #[] }) (k := .pure)
    rw [e0] at z
    rw [show (sh B gens dr t os).heap.objs.size = B.length from hL_size B] at z
    exact z
  · refine SG.seq (a := ()) (s' := sh (B ++ [dictObj (entriesFrom t l) l.length]) gens dr (t + 3 * l.length) os) (p' := pd) (SG.held _ ?_) SG.refl
    rw [if_neg (by rw [List.length_map]; omega)]
    show SG w _ (PySem.rule _ >>= _) _ _ _ _ _
    refine SG.seq (m := 1) (n := 13 * l.length) (a := ()) SG.rule ?_
    have z := SG.fill (w := w) (gens := gens) (dr := dr) (os := os) (pd := pd) (A := B) (R := []) (d := B.length) rfl hB l [] 0 t lo (fun _ h => nomatch h) h0 hs (by simpa using hz)
    simp only [List.nil_append, Nat.zero_add] at z
    exact SG.cast (SG.seq (n := 0) z (SG.refl (x := pure ()))) rfl
theorem SG.evalP : ∀ (l : List (Int × Str)) (t : Nat) (B : List Obj), SG w (3 * l.length) (evalPairs (prL pd l)) (sh B gens dr t os) pd (pure ((entriesTwo t l).map fun e => (e.key, e.val))) (sh B gens dr (t + 2 * l.length) os) pd
  | [], t, B => SG.refl
  | x :: l, t, B => by
    show SG w _ (evalPairs ((kS x, vS pd x) :: prL pd l)) _ _ _ _ _
    rw [evalPairs]
    refine SG.cast (m := 1 + (2 + (3 * l.length + 0))) ?_ (by rw [List.length_cons]; omega)
    refine SG.seq (a := .int x.1 t) (s' := sh B gens dr (t + 1) os) (p' := pd) SG.fresh ?_
    refine SG.seq (a := .str x.2 (t + 1)) (s' := sh B gens dr (t + 2) os) (p' := pd) ?_ ?_
    · show SG w 2 (vS pd x) _ _ _ _ _
      refine SG.seq (m := 1) (n := 1) (a := .str x.2 (t + 1)) SG.fresh ?_
      exact SG.at
    · refine SG.seq (a := (entriesTwo (t + 2) l).map fun e => (e.key, e.val)) (s' := sh B gens dr (t + 2 + 2 * l.length) os) (p' := pd) (SG.evalP l (t + 2) B) ?_
      rw [show t + 2 * (x :: l).length = t + 2 + 2 * l.length by rw [List.length_cons]; omega]
      exact SG.refl
theorem SG.fill2 (hB : Nat.ble 11 B.length = true) : ∀ (l es : List DictEntry) (n t : Nat) (lo : Int), (∀ e ∈ es, e.hash < lo) → 0 ≤ lo → Good lo l → (∀ e ∈ l, e.hash < 2000000) → es.length + l.length < 100000 →
    SG w (10 * l.length) (forIn (l.map fun e => (e.key, e.val)) PUnit.unit fun x r => do
        dictSet B.length x.1 x.2
        pure (ForInStep.yield PUnit.unit)) (sh (B ++ [dictObj es n]) gens dr t os) pd (pure PUnit.unit)
      (sh (B ++ [dictObj (es ++ l) (n + l.length)]) gens dr (t + l.length) os) pd
  | [], es, n, t, lo, _, _, _, _, _ => by
    rw [List.map_nil, List.forIn_nil]
    simp only [List.append_nil, List.length_nil, Nat.mul_zero, Nat.add_zero]
    exact SG.refl
  | e :: l, es, n, t, lo, hes, h0, hg, hb, hz => by
    obtain ⟨h1, ⟨tk, hk⟩, ⟨x, tv, hv⟩, hg'⟩ := hg
    rw [List.map_cons, List.forIn_cons]
    have ih := SG.fill2 hB l (es ++ [e]) (n + 1) (t + 1) (e.hash + 1) (fun e' he => by
      rcases List.mem_append.mp he with he | he
      · have := hes e' he; omega
      · rw [List.mem_singleton.mp he]; omega) (by omega) hg' (fun e' h => hb e' (List.mem_cons_of_mem _ h)) (by rw [List.length_append]; simp at hz ⊢; omega)
    have em : e = ⟨e.hash, .int e.hash tk, .str x tv⟩ := by
      obtain ⟨a1, a2, a3⟩ := e
      simp only at hk hv
      subst hk hv; rfl
    have z := SG.set (w := w) (s := sh (B ++ [dictObj es n]) gens dr t os) (p := pd) (d := B.length) (es := es.toArray) (n := n) (i := e.hash) (t := tk) (x := x) (t' := tv) (hL_get rfl rfl) hB (by simp at hz ⊢; omega) (places_nil hes h1) (by omega) (hb e (.head _))
    rw [show (sh (B ++ [dictObj es n]) gens dr t os).heap = hL (B ++ dictObj es n :: []) from rfl, hL_update _ rfl] at z
    have eo : Obj.mapDictKeys (·.push ⟨e.hash, .int e.hash tk, .str x tv⟩) (dictObj es n) = dictObj (es ++ [e]) (n + 1) := by
      rw [em]
      show (⟨_, _, .dict (es.toArray.push _) (n + 1), _⟩ : Obj) = _
      rw [List.push_toArray]
    rw [eo] at z
    refine SG.cast (m := (10 + 0) + 10 * l.length) ?_ (by rw [List.length_cons]; omega)
    refine SG.seq (a := ForInStep.yield PUnit.unit) (s' := sh (B ++ [dictObj (es ++ [e]) (n + 1)]) gens dr (t + 1) os) (p' := pd) ?_ ?_
    · rw [hk, hv]
      exact SG.seq z SG.refl
    · have e1 : es ++ e :: l = es ++ [e] ++ l := by simp
      have e2 : n + (e :: l).length = n + 1 + l.length := by rw [List.length_cons]; omega
      have e3 : t + (e :: l).length = t + 1 + l.length := by rw [List.length_cons]; omega
      rw [e1, e2, e3]
      exact ih
theorem two_small : ∀ (l : List (Int × Str)) (t : Nat) (lo : Int), sf lo l = true → ∀ e ∈ entriesTwo t l, e.hash < 2000000
  | [], _, _, _, _, h => nomatch h
  | x :: l, t, lo, hs, e, h => by
    unfold sf at hs
    simp only [Bool.and_eq_true, decide_eq_true_eq] at hs
    rw [entriesTwo] at h
    rcases List.mem_cons.mp h with rfl | h
    · exact hs.1.2
    · exact two_small l _ _ hs.2 e h
theorem SG.subShort {l : List (Int × Str)} {t : Nat} {lo : Int} (hB : Nat.ble 11 B.length = true) (h15 : l.length ≤ 15) (h0 : 0 ≤ lo) (hs : sf lo l = true) :
    SG w (1 + 13 * l.length) (subDict (prL pd l)) (sh B gens dr t os) pd (pure B.length) (sh (B ++ [dictObj (entriesTwo t l) l.length]) gens dr (t + 3 * l.length) os) pd := by
  unfold subDict
  refine SG.cast (m := 1 + ((3 * l.length + 10 * l.length) + 0)) ?_ (by omega)
  have e0 : (sh B gens dr t os).heap.push { cls := .type "dict", data := .dict #[] } = hL (B ++ [dictObj [] 0]) := hL_push B _
  refine SG.seq (a := B.length) (s' := sh (B ++ [dictObj [] 0]) gens dr t os) (p' := pd) ?_ ?_
  · have z := SG.alloc (w := w) (α := Addr) (s := sh B gens dr t os) (p := pd) (o := { cls := .type "dict", data := .dict #[] }) (k := .pure)
    rw [e0] at z
    rw [show (sh B gens dr t os).heap.objs.size = B.length from hL_size B] at z
    exact z
  · refine SG.seq (a := ()) (s' := sh (B ++ [dictObj (entriesTwo t l) l.length]) gens dr (t + 3 * l.length) os) (p' := pd) (SG.held _ ?_) SG.refl
    rw [if_pos (by rw [List.length_map]; omega)]
    refine SG.seq (SG.evalP l t _) (SG.held _ ?_)
    have z := SG.fill2 (w := w) (gens := gens) (dr := dr) (os := os) (pd := pd) (B := B) hB (entriesTwo t l) [] 0 (t + 2 * l.length) lo (fun _ h => nomatch h) h0 (good_two l t lo hs) (two_small l t lo hs) (by rw [two_len]; simp; omega)
    simp only [List.nil_append, Nat.zero_add, two_len] at z
    rw [show t + 3 * l.length = t + 2 * l.length + l.length by omega]
    exact SG.cast (SG.seq (n := 0) z (SG.refl (x := pure ()))) rfl
end
end
end Mine
end
section
open PySem PySem.W PyProof.Rows
set_option maxRecDepth 100000
set_option linter.unusedVariables false
namespace Mine
noncomputable section
abbrev item (pd : Pos) (x : Int × Str) : Option (Sem Value) × Sem Value := (some (kS x), vS pd x)
abbrev DSt := Option Addr × List (Sem Value × Sem Value)
section
variable {pd : Pos} {F : Option (Sem Value) × Sem Value → DSt → Sem (ForInStep DSt)} {fl : List (Sem Value × Sem Value) → Option Addr → Sem (Option Addr)}
theorem gather (h1 : ∀ k v main run, run.length + 1 ≠ 17 → F (some k, v) ⟨main, run⟩ = pure (.yield ⟨main, run ++ [(k, v)]⟩))
    (h2 : ∀ k v main run, run.length + 1 = 17 → F (some k, v) ⟨main, run⟩ = (fl (run ++ [(k, v)]) main >>= fun m => pure (.yield ⟨m, []⟩))) :
    ∀ (l : List (Int × Str)) (run : List (Sem Value × Sem Value)) (main : Option Addr) (rest : List (Option (Sem Value) × Sem Value)), run.length + l.length = 17 → l ≠ [] →
      forIn (l.map (item pd) ++ rest) (⟨main, run⟩ : DSt) F = (fl (run ++ prL pd l) main >>= fun m => forIn rest (⟨m, []⟩ : DSt) F)
  | [], _, _, _, _, h => absurd rfl h
  | x :: l, run, main, rest, e, _ => by
    rw [List.map_cons, List.cons_append, List.forIn_cons]
    by_cases hl : l = []
    · subst hl
      rw [h2 _ _ _ _ (by simpa using e)]
      simp only [bind_assoc, pure_bind, List.map_nil, List.nil_append, List.map_cons]
    · rw [h1 _ _ _ _ (by
        have : 0 < l.length := List.length_pos_iff.mpr hl
        rw [List.length_cons] at e; omega)]
      rw [pure_bind]
      show forIn (l.map (item pd) ++ rest) (⟨main, run ++ [(kS x, vS pd x)]⟩ : DSt) F = _
      rw [gather h1 h2 l _ main rest (by rw [List.length_append, List.length_singleton]; rw [List.length_cons] at e; omega) hl]
      simp only [List.append_assoc, List.singleton_append, List.map_cons]
theorem gather' (h1 : ∀ k v main run, run.length + 1 ≠ 17 → F (some k, v) ⟨main, run⟩ = pure (.yield ⟨main, run ++ [(k, v)]⟩)) :
    ∀ (l : List (Int × Str)) (run : List (Sem Value × Sem Value)) (main : Option Addr), run.length + l.length < 17 →
      forIn (l.map (item pd)) (⟨main, run⟩ : DSt) F = pure (⟨main, run ++ prL pd l⟩ : DSt)
  | [], run, main, _ => by simp
  | x :: l, run, main, e => by
    rw [List.length_cons] at e
    rw [List.map_cons, List.forIn_cons, h1 _ _ _ _ (by omega), pure_bind]
    show forIn (l.map (item pd)) (⟨main, run ++ [(kS x, vS pd x)]⟩ : DSt) F = _
    rw [gather' h1 l _ main (by rw [List.length_append, List.length_singleton]; omega)]
    simp only [List.append_assoc, List.singleton_append, List.map_cons]
end
theorem entries_app : ∀ (a b : List (Int × Str)) (t : Nat), entriesFrom t (a ++ b) = entriesFrom t a ++ entriesFrom (t + 3 * a.length) b
  | [], b, t => rfl
  | x :: a, b, t => by
    rw [List.cons_append, entriesFrom, entriesFrom, entries_app a b (t + 3), List.cons_append, List.length_cons]
    rw [show t + 3 * (a.length + 1) = t + 3 + 3 * a.length by omega]
theorem sf_split : ∀ (n : Nat) (l : List (Int × Str)) (lo : Int), sf lo l = true → sf lo (l.take n) = true ∧ ∃ lo', lo ≤ lo' ∧ sf lo' (l.drop n) = true ∧ ∀ t, ∀ e ∈ entriesFrom t (l.take n), e.hash < lo'
  | 0, l, lo, h => ⟨rfl, lo, Int.le_refl _, h, fun _ _ h => nomatch h⟩
  | n + 1, [], lo, h => ⟨rfl, lo, Int.le_refl _, rfl, fun _ _ h => nomatch h⟩
  | n + 1, x :: l, lo, h => by
    have h' := h
    unfold sf at h
    simp only [Bool.and_eq_true, decide_eq_true_eq] at h
    obtain ⟨a, lo', b, c, d⟩ := sf_split n l _ h.2
    refine ⟨?_, lo', by omega, c, fun t e he => ?_⟩
    · rw [List.take_succ_cons]
      unfold sf
      simp only [Bool.and_eq_true, decide_eq_true_eq]
      exact ⟨h.1, a⟩
    · rw [List.take_succ_cons, entriesFrom] at he
      rcases List.mem_cons.mp he with rfl | he
      · show x.1 < lo'; omega
      · exact d _ e he
end
end Mine
end
section
open PySem PySem.W PyProof.Rows
set_option maxRecDepth 100000
set_option linter.unusedVariables false
namespace Mine
noncomputable section
section
variable {w : World} {gens : Array GenState} {dr : Drawn} {os : OsState} {pd : Pos} {A : List Obj} {d : Addr}
theorem SG.quiet {α : Type} {m : Nat} {x : Sem α} {a : α} {g : Value → Sem Unit} {s s' : Shared} {p p' : Pos} (h : SG w m x s p (pure a) s' p') : SG w m (x.onRaise g) s p (pure a) s' p' := SG.onRaise (g := g) h
variable {F : Option (Sem Value) × Sem Value → DSt → Sem (ForInStep DSt)} {fl : List (Sem Value × Sem Value) → Option Addr → Sem (Option Addr)} {gr : Addr → Value → Sem Unit}
theorem SG.flush (hf : ∀ run d, run ≠ [] → fl run (some d) = (PySem.holding [.ref d] (subDict run) >>= fun sub => (PySem.holding [.ref d, .ref sub] (mergeMapping d (.ref sub) false)).onRaise (gr d) >>= fun _ => pure (some d)))
    (hA : A.length = d) (hd : Nat.ble 11 d = true) (hsys : ∀ a, d < a → (a == sysModules) = false) {R : List Obj} {es sub : List DictEntry} {n t m t' : Nat} {lo : Int} {l : List (Int × Str)} (hl : l ≠ []) (hne : es ≠ []) (hes : ∀ e ∈ es, e.hash < lo) (hg : Good lo sub) (hz : es.length + sub.length < 100000)
    (hsub : SG w m (subDict (prL pd l)) (sh (A ++ dictObj es n :: R) gens dr t os) pd (pure (A ++ dictObj es n :: R).length) (sh ((A ++ dictObj es n :: R) ++ [dictObj sub sub.length]) gens dr t' os) pd) :
    SG w (m + (5 + 6 * sub.length)) (fl (prL pd l) (some d)) (sh (A ++ dictObj es n :: R) gens dr t os) pd (pure (some d)) (sh (A ++ dictObj (es ++ sub) (n + sub.length) :: (R ++ [dictObj sub sub.length])) gens dr t' os) pd := by
  rw [hf _ _ (by cases l with | nil => exact absurd rfl hl | cons => simp)]
  have e1 : (A ++ dictObj es n :: R) ++ [dictObj sub sub.length] = A ++ dictObj es n :: (R ++ [dictObj sub sub.length]) := by simp
  rw [e1] at hsub
  have hlt : d < (A ++ dictObj es n :: R).length := by
    subst hA
    rw [List.length_append, List.length_cons]
    exact Nat.lt_add_of_pos_right (Nat.succ_pos _)
  refine SG.seq (SG.held _ hsub) ?_
  refine SG.cast (m := (5 + 6 * sub.length) + 0) ?_ (by omega)
  refine SG.seq (a := ()) (SG.quiet (SG.held _ (SG.merge (w := w) (gens := gens) (dr := dr) (os := os) (p := pd) (A := A) (R := R) (d := d) hA hd (a := (A ++ dictObj es n :: R).length) (by simp) (hsys _ hlt) hne hes hg hz))) SG.refl
theorem SG.chunks (h1 : ∀ k v main run, run.length + 1 ≠ 17 → F (some k, v) ⟨main, run⟩ = pure (.yield ⟨main, run ++ [(k, v)]⟩))
    (h2 : ∀ k v main run, run.length + 1 = 17 → F (some k, v) ⟨main, run⟩ = (fl (run ++ [(k, v)]) main >>= fun m => pure (.yield ⟨m, []⟩)))
    (hf : ∀ run d, run ≠ [] → fl run (some d) = (PySem.holding [.ref d] (subDict run) >>= fun sub => (PySem.holding [.ref d, .ref sub] (mergeMapping d (.ref sub) false)).onRaise (gr d) >>= fun _ => pure (some d)))
    (hA : A.length = d) (hd : Nat.ble 11 d = true) (hsys : ∀ a, d < a → (a == sysModules) = false) :
    ∀ (k : Nat) (l : List (Int × Str)) (R : List Obj) (es : List DictEntry) (n t : Nat) (lo : Int), 17 * k ≤ l.length → es ≠ [] → (∀ e ∈ es, e.hash < lo) → 0 ≤ lo → sf lo l = true → es.length + l.length < 100000 →
      SG w (330 * k) (forIn (l.map (item pd)) (⟨some d, []⟩ : DSt) F) (sh (A ++ dictObj es n :: R) gens dr t os) pd (forIn ((l.drop (17 * k)).map (item pd)) (⟨some d, []⟩ : DSt) F)
        (sh (A ++ dictObj (es ++ entriesFrom t (l.take (17 * k))) (n + 17 * k) :: (R ++ subsOf k t l)) gens dr (t + 51 * k) os) pd
  | 0, l, R, es, n, t, lo, _, _, _, _, _, _ => by
    simp only [Nat.mul_zero, List.drop_zero, List.take_zero, entriesFrom, List.append_nil, Nat.add_zero, subsOf]
    exact SG.refl
  | k + 1, l, R, es, n, t, lo, hk, hne, hes, h0, hs, hz => by
    have hl17 : (l.take 17).length = 17 := by rw [List.length_take]; omega
    obtain ⟨s1, lo', s2, s3, s4⟩ := sf_split 17 l lo hs
    have hB : Nat.ble 11 (A ++ dictObj es n :: R).length = true := by
      rw [List.length_append, hA]
      have := Nat.le_of_ble_eq_true hd
      exact Nat.ble_eq_true_of_le (by omega)
    have z := SG.subLong (w := w) (gens := gens) (dr := dr) (os := os) (pd := pd) (B := A ++ dictObj es n :: R) (l := l.take 17) (t := t) hB (by omega) (by omega) h0 s1
    have e17 : (entriesFrom t (l.take 17)).length = 17 := by rw [entries_len, hl17]
    have z2 := SG.flush (w := w) (gens := gens) (dr := dr) (os := os) (pd := pd) (A := A) (d := d) (fl := fl) (gr := gr) hf hA hd hsys (R := R) (es := es) (sub := entriesFrom t (l.take 17)) (n := n) (t := t) (lo := lo) (l := l.take 17) (by intro e; rw [e] at hl17; cases hl17) hne hes (good_from _ _ _ s1) (by rw [e17]; omega) (m := 2 + 13 * 17) (t' := t + 3 * 17) (by rw [hl17] at z; rw [e17]; exact z)
    rw [e17] at z2
    have ih := SG.chunks h1 h2 hf hA hd hsys k (l.drop 17) (R ++ [dictObj (entriesFrom t (l.take 17)) 17]) (es ++ entriesFrom t (l.take 17)) (n + 17) (t + 51) lo' (by rw [List.length_drop]; omega) (by intro e; rw [List.append_eq_nil_iff] at e; exact hne e.1) (fun e he => by
      rcases List.mem_append.mp he with he | he
      · have := hes e he; omega
      · exact s4 t e he) (by omega) s3 (by rw [List.length_append, e17, List.length_drop]; omega)
    have e0 : l.map (item pd) = (l.take 17).map (item pd) ++ (l.drop 17).map (item pd) := by rw [← List.map_append, List.take_append_drop]
    rw [e0, gather h1 h2 (l.take 17) [] (some d) ((l.drop 17).map (item pd)) (by simpa using hl17) (by intro e; rw [e] at hl17; cases hl17)]
    rw [List.nil_append]
    have e3 : l.take (17 * (k + 1)) = l.take 17 ++ (l.drop 17).take (17 * k) := by
      rw [show 17 * (k + 1) = 17 + 17 * k by omega, List.take_add]
    have e4 : l.drop (17 * (k + 1)) = (l.drop 17).drop (17 * k) := by rw [List.drop_drop]; congr 1; omega
    rw [e3, e4, entries_app, hl17]
    rw [show n + 17 * (k + 1) = n + 17 + 17 * k by omega, show t + 51 * (k + 1) = t + 51 + 51 * k by omega]
    refine SG.cast (SG.seq z2 ?_) (show 2 + 13 * 17 + (5 + 6 * 17) + 330 * k = 330 * (k + 1) by omega)
    simp only [List.append_assoc, List.singleton_append] at ih
    simp only [subsOf]
    exact ih
end
end
end Mine
end
section
open PySem PySem.W PyProof.Rows
set_option maxRecDepth 100000
set_option linter.unusedVariables false
namespace Mine
noncomputable section
section
variable {w : World} {gens : Array GenState} {dr : Drawn} {os : OsState} {pd : Pos} {A : List Obj} {d : Addr}
variable {F : Option (Sem Value) × Sem Value → DSt → Sem (ForInStep DSt)} {fl : List (Sem Value × Sem Value) → Option Addr → Sem (Option Addr)} {gr : Addr → Value → Sem Unit} {G : DSt → Sem Value}
theorem SG.whole (h1 : ∀ k v main run, run.length + 1 ≠ 17 → F (some k, v) ⟨main, run⟩ = pure (.yield ⟨main, run ++ [(k, v)]⟩))
    (h2 : ∀ k v main run, run.length + 1 = 17 → F (some k, v) ⟨main, run⟩ = (fl (run ++ [(k, v)]) main >>= fun m => pure (.yield ⟨m, []⟩)))
    (hf : ∀ run d, run ≠ [] → fl run (some d) = (PySem.holding [.ref d] (subDict run) >>= fun sub => (PySem.holding [.ref d, .ref sub] (mergeMapping d (.ref sub) false)).onRaise (gr d) >>= fun _ => pure (some d)))
    (hf0 : ∀ run, run ≠ [] → fl run none = (subDict run >>= fun d => pure (some d)))
    (hG : ∀ main run, G ⟨main, run⟩ = (fl run main >>= fun o => match o with | some d => pure (.ref d) | none => newDict))
    (hA : A.length = d) (hd : Nat.ble 11 d = true) (hsys : ∀ a, d < a → (a == sysModules) = false) (l : List (Int × Str)) (t : Nat) (hl : l.length = 650) (hs : sf 0 l = true) :
    SG w 12515 (forIn (l.map (item pd)) (⟨none, []⟩ : DSt) F >>= G) (sh A gens dr t os) pd (pure (.ref d))
      (sh (A ++ dictObj (entriesFrom t (l.take 646) ++ entriesTwo (t + 1938) (l.drop 646)) 650 :: (subsOf 37 (t + 51) (l.drop 17) ++ [dictObj (entriesTwo (t + 1938) (l.drop 646)) 4])) gens dr (t + 1950) os) pd := by
  have hl17 : (l.take 17).length = 17 := by rw [List.length_take]; omega
  have n17 : l.take 17 ≠ [] := by intro e; rw [e] at hl17; cases hl17
  obtain ⟨s1, lo, s2, s3, s4⟩ := sf_split 17 l 0 hs
  have e0 : l.map (item pd) = (l.take 17).map (item pd) ++ (l.drop 17).map (item pd) := by rw [← List.map_append, List.take_append_drop]
  have z := SG.subLong (w := w) (gens := gens) (dr := dr) (os := os) (pd := pd) (B := A) (l := l.take 17) (t := t) (by rw [hA]; exact hd) (by omega) (by omega) (Int.le_refl 0) s1
  rw [hl17, hA] at z
  have e17 : (entriesFrom t (l.take 17)).length = 17 := by rw [entries_len, hl17]
  have c := SG.chunks (w := w) (gens := gens) (dr := dr) (os := os) (pd := pd) (A := A) (d := d) h1 h2 hf hA hd hsys 37 (l.drop 17) [] (entriesFrom t (l.take 17)) 17 (t + 51) lo (by rw [List.length_drop]; omega) (by intro e; rw [e] at e17; cases e17) (s4 t) (by omega) s3 (by rw [e17, List.length_drop]; omega)
  have e646 : entriesFrom t (l.take 17) ++ entriesFrom (t + 51) ((l.drop 17).take (17 * 37)) = entriesFrom t (l.take 646) := by
    rw [show l.take 646 = l.take 17 ++ (l.drop 17).take (17 * 37) from by rw [show (646 : Nat) = 17 + 17 * 37 from rfl, List.take_add], entries_app, hl17]
  have d646 : (l.drop 17).drop (17 * 37) = l.drop 646 := by rw [List.drop_drop]
  rw [e646, d646, List.nil_append] at c
  have hl4 : (l.drop 646).length = 4 := by rw [List.length_drop]; omega
  have n4 : l.drop 646 ≠ [] := by intro e; rw [e] at hl4; cases hl4
  obtain ⟨q1, lo', q2, q3, q4⟩ := sf_split 646 l 0 hs
  have hB : Nat.ble 11 (A ++ dictObj (entriesFrom t (l.take 646)) (17 + 17 * 37) :: subsOf 37 (t + 51) (l.drop 17)).length = true := by
    rw [List.length_append, hA]
    have := Nat.le_of_ble_eq_true hd
    exact Nat.ble_eq_true_of_le (by omega)
  have y := SG.subShort (w := w) (gens := gens) (dr := dr) (os := os) (pd := pd) (B := A ++ dictObj (entriesFrom t (l.take 646)) (17 + 17 * 37) :: subsOf 37 (t + 51) (l.drop 17)) (l := l.drop 646) (t := t + 1938) hB (by omega) (by omega) q3
  have two4 : (entriesTwo (t + 1938) (l.drop 646)).length = 4 := by rw [two_len, hl4]
  have len646 : (entriesFrom t (l.take 646)).length = 646 := by rw [entries_len, List.length_take]; omega
  have y2 := SG.flush (w := w) (gens := gens) (dr := dr) (os := os) (pd := pd) (A := A) (d := d) (fl := fl) (gr := gr) hf hA hd hsys (R := subsOf 37 (t + 51) (l.drop 17)) (es := entriesFrom t (l.take 646)) (sub := entriesTwo (t + 1938) (l.drop 646)) (n := 17 + 17 * 37) (t := t + 1938) (lo := lo') (l := l.drop 646) n4 (by intro e; rw [e] at len646; cases len646) (q4 t) (good_two _ _ _ q3) (by rw [two4]; omega) (m := 1 + 13 * 4) (t' := t + 1938 + 3 * 4) (by rw [hl4] at y; rw [two4]; exact y)
  rw [two4] at y2
  rw [e0, gather h1 h2 (l.take 17) [] none ((l.drop 17).map (item pd)) (by simpa using hl17) n17, List.nil_append, hf0 _ (by intro e; rw [List.map_eq_nil_iff] at e; exact n17 e)]
  simp only [bind_assoc]
  refine SG.cast (m := (2 + 13 * 17) + (330 * 37 + (1 + 13 * 4 + (5 + 6 * 4) + 0))) ?_ rfl
  refine SG.seq z ?_
  rw [pure_bind]
  refine SG.trans (SG.bind c) ?_
  rw [gather' h1 (l.drop 646) [] (some d) (by rw [hl4]; decide), pure_bind, List.nil_append, hG]
  exact SG.seq y2 SG.refl
end
end
end Mine
end
section
open PySem PySem.W PyProof.Rows
set_option maxRecDepth 100000
set_option linter.unusedVariables false
namespace Mine
noncomputable section
def flushD (run : List (Sem Value × Sem Value)) (main : Option Addr) : Sem (Option Addr) := do
    if run.isEmpty then return main
    match main with
    | none => return some (← subDict run)
    | some d =>
      let sub ← holding [.ref d] (subDict run)
      (holding [.ref d, .ref sub] (mergeMapping d (.ref sub) false)).onRaise fun x => do let _ ← holding [.ref d, x] (runValue (.builtin "proto.let_go" {}))
      return some d
theorem isE {α : Type} {l : List α} (h : l ≠ []) : l.isEmpty = false := by cases l with | nil => exact absurd rfl h | cons => rfl
theorem SG.display {w : World} {gens : Array GenState} {dr : Drawn} {os : OsState} {pd : Pos} {A : List Obj} {d : Addr} (hA : A.length = d) (hd : Nat.ble 11 d = true) (hsys : ∀ a, d < a → (a == sysModules) = false) (l : List (Int × Str)) (t : Nat) (hl : l.length = 650) (hs : sf 0 l = true) :
    SG w 12515 (dictDisplay (l.map (item pd))) (sh A gens dr t os) pd (pure (.ref d))
      (sh (A ++ dictObj (entriesFrom t (l.take 646) ++ entriesTwo (t + 1938) (l.drop 646)) 650 :: (subsOf 37 (t + 51) (l.drop 17) ++ [dictObj (entriesTwo (t + 1938) (l.drop 646)) 4])) gens dr (t + 1950) os) pd := by
  unfold dictDisplay
  refine SG.whole (fl := flushD) (gr := fun d x => do let _ ← PySem.holding [.ref d, x] (runValue (.builtin "proto.let_go" {}))) ?_ ?_ ?_ ?_ ?_ hA hd hsys l t hl hs
  · intro k v main run h
    have : (List.length (run ++ [(k, v)]) == 17) = false := by
      rw [List.length_append, List.length_singleton]; exact beq_eq_false_iff_ne.mpr h
    simp only [this, Bool.false_eq_true, if_false]
  · intro k v main run h
    have : (List.length (run ++ [(k, v)]) == 17) = true := by
      rw [List.length_append, List.length_singleton, h]; rfl
    simp only [this, if_true]
    rfl
  · intro run d h
    unfold flushD
    rw [isE h]
    rfl
  · intro run h
    unfold flushD
    rw [isE h]
    rfl
  · intro main run
    rfl
end
end Mine
end
section
open PySem PySem.W PyProof.Rows
set_option maxRecDepth 100000
set_option linter.unusedVariables false
namespace Mine
noncomputable section


theorem prs_len : prs.length = 650 := by decide +kernel
theorem prs_sf : sf 0 prs = true := by decide +kernel
def ks2 : List (Option Expr) := match top 2 with
  | .Assign _ (.Dict ks _ _) _ => ks
  | _ => []
def vs2 : List Expr := match top 2 with
  | .Assign _ (.Dict _ vs _) _ => vs
  | _ => []
def pd2 : Pos := match top 2 with
  | .Assign _ (.Dict _ _ p) _ => p
  | _ => default
def pn2 : Pos := match top 2 with
  | .Assign [.Name _ p] _ _ => p
  | _ => default
def pa2 : Pos := match top 2 with
  | .Assign _ _ p => p
  | _ => default
def nm2 : Str := match top 2 with
  | .Assign [.Name x _] _ _ => x
  | _ => default
theorem top2 : top 2 = .Assign [.Name nm2 pn2] (.Dict ks2 vs2 pd2) pa2 := by kernel_rfl
theorem items2 : ((evalEachOpt ks2 en).zip ((evalEach vs2 en).map fun v => do let x ← v; standAt pd2; pure x)) = prs.map (item pd2) := by kernel_rfl
theorem swaps2 : swapsWith (.Dict ks2 vs2 pd2) (some (.Name nm2 pn2)) pa2.line en = pure false := by kernel_rfl
theorem t2_list (P : Params) : ((t_s2 P).set 3 (fun _ => o3 P)).list 61 = (t_s1 P).list 22 ++ dictObj (entriesFrom 196 (prs.take 646) ++ entriesTwo (196 + 1938) (prs.drop 646)) 650 :: (subsOf 37 (196 + 51) (prs.drop 17) ++ [dictObj (entriesTwo (196 + 1938) (prs.drop 646)) 4]) := by kernel_rfl
end
end Mine
end
section
open PySem PySem.W PyProof.Rows
set_option maxRecDepth 100000
set_option linter.unusedVariables false
namespace Mine
noncomputable section
set_option profiler true
set_option profiler.threshold 200
abbrev rest2 (v : Value) : Sem Flow := do
    standAt pn2
    bindName en nm2 v
    pure .next
abbrev y_s2 (w : World) (os : OsState) : SharedT := ⟨(t_s2 w.params).set 3 (fun _ => o3 w.params), 61, lf, #[], boot_drawn, 2146, os⟩
theorem x1_abs (w : World) (os : OsState) : (x_s1 w os).abs = sh ((t_s1 w.params).list 22) #[] boot_drawn 196 os := rfl
abbrev fin2 (A : List Obj) : List Obj := A ++ dictObj (entriesFrom 196 (prs.take 646) ++ entriesTwo (196 + 1938) (prs.drop 646)) 650 :: (subsOf 37 (196 + 51) (prs.drop 17) ++ [dictObj (entriesTwo (196 + 1938) (prs.drop 646)) 4])
theorem y2_abs (w : World) (os : OsState) : (y_s2 w os).abs = sh (fin2 ((t_s1 w.params).list 22)) #[] boot_drawn 2146 os := by
  show (⟨⟨(((t_s2 w.params).set 3 (fun _ => o3 w.params)).list 61).toArray, lf⟩, #[], boot_drawn, 2146, os⟩ : Shared) = _
  rw [t2_list]; rfl
theorem p2d (w : World) (os : OsState) (A : List Obj) (hA : A.length = 22) : SG w 12515 (dictDisplay (prs.map (item pd2))) (sh A #[] boot_drawn 196 os) pd2 (pure (.ref 22)) (sh (fin2 A) #[] boot_drawn 2146 os) pd2 :=
  SG.display hA rfl (fun a h => by
    have : sysModules ≤ 22 := by decide
    exact beq_eq_false_iff_ne.mpr (Nat.ne_of_gt (Nat.lt_of_le_of_lt this h))) prs 196 prs_len prs_sf
theorem p2g (w : World) (os : OsState) (A : List Obj) (hA : A.length = 22) : SG w (2 + 12515) (exec (top 2) en) (sh A #[] boot_drawn 196 os) ⟨4, 0, 4, 8⟩ (rest2 (.ref 22)) (sh (fin2 A) #[] boot_drawn 2146 os) pd2 := by
  rw [top2]
  refine SG.eq_left (exec_Assign_Name en nm2 pn2 (.Dict ks2 vs2 pd2) pa2 swaps2) ?_
  show SG w _ (standAt pa2 >>= fun _ => eval (.Dict ks2 vs2 pd2) en >>= rest2) _ _ _ _ _
  refine SG.cast (m := 1 + (1 + 12515)) ?_ rfl
  refine SG.trans (SG.bind (y := pure ()) SG.at) ?_
  refine SG.bind (y := pure (Value.ref 22)) ?_
  show SG w _ (standAt pd2 >>= fun _ => dictDisplay ((evalEachOpt ks2 en).zip ((evalEach vs2 en).map fun v => do let x ← v; standAt pd2; pure x))) _ _ _ _ _
  rw [items2]
  exact SG.trans (SG.bind (y := pure ()) SG.at) (p2d w os A hA)
theorem p2a (w : World) (os : OsState) : SG w (2 + 12515) (exec (top 2) en) (x_s1 w os).abs ⟨4, 0, 4, 8⟩ (rest2 (.ref 22)) (y_s2 w os).abs pd2 := by
  rw [x1_abs, y2_abs]
  exact p2g w os _ (by unfold BT.list; rw [List.length_map, List.length_range])
theorem p2 (w : World) (os : OsState) : segRun treeTable pw w 11 ann 1 (2 + 12515 + 8) (x_s1 w os).abs (th [2] ⟨4, 0, 4, 8⟩) = some (.next, (x_s2 w os).abs, cE, ⟨5, 0, 5, 13⟩) := by
  have e : th [2] ⟨4, 0, 4, 8⟩ = ⟨(exec (top 2) en).wrap (fun f => match f with | .next => (execs [] en).wrap doneF deadEnd id id | f => doneF f) deadEnd id id, cE, ⟨4, 0, 4, 8⟩, Bq⟩ := by
    show (⟨(execs [top 2] en).wrap doneF deadEnd id id, cE, _, Bq⟩ : Thread) = _
    rw [execs_cons_wrap]; rfl
  rw [e]
  refine seg_go (p2a w os _ _ _ _ cE _ []) ?_
  refine segRun_of (s := y_s2 w os) (s' := x_s2 w os) ?_
  refine runT ?_
  kernel_rfl
end
end Mine
end
section
open PySem PySem.W PyProof.Rows
set_option maxRecDepth 100000
set_option linter.unusedVariables false
namespace Mine
noncomputable section


abbrev setO (es : Array (Int × Value)) (n : Nat) (t : SetTable) : Obj := { cls := .type "set", data := .set es n t }
theorem scan_absent (a : Addr) (x : Value) (h : Int) : ∀ (l : List (Int × Value)) (i : Nat), (∀ e ∈ l, e.1 ≠ h) → setScanFrom a x h true l i = pure .absent
  | [], _, _ => rfl
  | (h', y) :: l, i, k => by
    have e : (h' == h) = false := beq_eq_false_iff_ne.mpr (k _ (.head _))
    unfold setScanFrom
    rw [e]
    exact scan_absent a x h l (i + 1) fun e he => k e (.tail _ he)
section
variable {w : World} {s : Shared} {p : Pos} {a : Addr} {es es' es'' : Array (Int × Value)} {n : Nat} {t t' t'' : SetTable} {v : Int} {tk : Tok}
theorem SG.setState (ho : s.heap.get? a = some (setO es n t)) (hs : t.place.size = es.size) (hf : t.fill ≤ t.mask) : SG w 1 (PySem.setState a) s p (pure (es, n, t)) s p := by
  unfold PySem.setState
  refine SG.seq (m := 1) (n := 0) (a := setO es n t) (SG.load (k := .pure) ho) (SG.of_eq ?_)
  have e : (t.place.size != es.size || decide (t.fill > t.mask)) = false := by
    rw [hs]; simp; omega
  show (if (t.place.size != es.size || decide (t.fill > t.mask)) = true then _ else _) = _
  rw [e]; rfl
theorem SG.store (ho : s.heap.get? a = some (setO es n t)) (ha : Nat.ble 11 a = true) (hz : es'.size ≤ 1000) : SG w 2 (storeSet a es' t') s p (pure ()) { s with heap := s.heap.update a (Obj.putSet es' t') } p := by
  unfold storeSet
  refine SG.seq (m := 1) (n := 1) (a := setO es n t) (SG.load (k := .pure) ho) ?_
  have e : ¬ es'.size > sizeLine := by have := sizeLine_eq; omega
  show SG w 1 (if es'.size > sizeLine then _ else _) _ _ _ _ _
  rw [if_neg e]
  exact SG.update (k := .pure) ho ha
theorem SG.addScan (ho : s.heap.get? a = some (setO es n t)) (ha : Nat.ble 11 a = true) (hs : t.place.size = es.size) (hf : t.fill ≤ t.mask) (hb : byScan (.int v tk) es = true) (hn : ∀ e ∈ es.toList, e.1 ≠ v)
    (hl : layNew t es v (.int v tk) = (es', t', false, false)) (hz : es'.size ≤ 1000) (hp : t'.plain = true) (hfull : t'.tooFull = false) :
    SG w 4 (setAddHashed a (.int v tk) v) s p (pure true) { s with heap := s.heap.update a (Obj.putSet es' t') } p := by
  unfold setAddHashed
  refine SG.held _ ?_
  rw [show (100000 : Nat) = 99999 + 1 from rfl, setAddHashedIn]
  refine SG.seq (m := 1) (n := 3) (SG.setState ho hs hf) ?_
  simp only [hb, if_true]
  unfold setAddByScan
  refine SG.seq (m := 3) (n := 0) (a := some true) ?_ SG.refl
  refine SG.cast (m := 1 + (2 + 0)) ?_ rfl
  refine SG.trans (SG.bind (y := pure ()) SG.rule) ?_
  show SG w _ (setScanFrom a (.int v tk) v true es.toList 0 >>= _) _ _ _ _ _
  rw [scan_absent a _ v es.toList 0 hn]
  show SG w _ (match layNew t es v (.int v tk) with | _ => _) _ _ _ _ _
  rw [hl]
  refine SG.cast (m := 0 + (0 + (2 + 0))) ?_ rfl
  refine SG.seq (m := 0) (a := ()) (SG.of_eq rfl) ?_
  simp only [hp, if_true]
  refine SG.seq (m := 0) (a := true) (SG.of_eq (x := hashByValue 8 (.int v tk)) rfl) ?_
  simp only [if_true]
  refine SG.seq (m := 2) (n := 0) (SG.store ho ha hz) (SG.of_eq ?_)
  simp [hfull]
theorem SG.addFull (ho : s.heap.get? a = some (setO es n t)) (ha : Nat.ble 11 a = true) (hs : t.place.size = es.size) (hf : t.fill ≤ t.mask) (hb : byScan (.int v tk) es = true) (hn : ∀ e ∈ es.toList, e.1 ≠ v)
    (hl : layNew t es v (.int v tk) = (es', t', false, false)) (hz : es'.size ≤ 1000) (hp : t'.plain = true) (hfull : t'.tooFull = true) (hr : relayAll t' es' (SetTable.grown es'.size) = (es'', t'', false)) (hz' : es''.size ≤ 1000) :
    SG w 6 (setAddHashed a (.int v tk) v) s p (pure true) { s with heap := (s.heap.update a (Obj.putSet es' t')).update a (Obj.putSet es'' t'') } p := by
  unfold setAddHashed
  refine SG.held _ ?_
  rw [show (100000 : Nat) = 99999 + 1 from rfl, setAddHashedIn]
  refine SG.seq (m := 1) (n := 5) (SG.setState ho hs hf) ?_
  simp only [hb, if_true]
  unfold setAddByScan
  refine SG.seq (m := 5) (n := 0) (a := some true) ?_ SG.refl
  refine SG.cast (m := 1 + (4 + 0)) ?_ rfl
  refine SG.trans (SG.bind (y := pure ()) SG.rule) ?_
  show SG w _ (setScanFrom a (.int v tk) v true es.toList 0 >>= _) _ _ _ _ _
  rw [scan_absent a _ v es.toList 0 hn]
  show SG w _ (match layNew t es v (.int v tk) with | _ => _) _ _ _ _ _
  rw [hl]
  refine SG.cast (m := 0 + (0 + (2 + 2))) ?_ rfl
  refine SG.seq (m := 0) (a := ()) (SG.of_eq rfl) ?_
  simp only [hp, if_true]
  refine SG.seq (m := 0) (a := true) (SG.of_eq (x := hashByValue 8 (.int v tk)) rfl) ?_
  simp only [if_true]
  refine SG.seq (m := 2) (n := 2) (SG.store ho ha hz) ?_
  simp only [hfull, Bool.not_false, Bool.and_true, if_true]
  show SG w _ (match relayAll t' es' (SetTable.grown es'.size) with | _ => _) _ _ _ _ _
  rw [hr]
  refine SG.cast (m := 0 + 2) ?_ rfl
  refine SG.seq (m := 0) (a := ()) (SG.of_eq rfl) ?_
  have ho' : (s.heap.update a (Obj.putSet es' t')).get? a = some (setO es' (n + 1) t') := Heap.get?_update_self _ ho rfl
  exact SG.seq (m := 2) (n := 0) (SG.store (s := { s with heap := s.heap.update a (Obj.putSet es' t') }) ho' ha hz') SG.refl
end
end
end Mine
end
section
open PySem PySem.W PyProof.Rows
set_option maxRecDepth 100000
set_option linter.unusedVariables false
namespace Mine
noncomputable section


def LL : List (Int × Value) := (917505, .int 917505 2190) :: (List.range 96).map fun j : Nat => (Int.ofNat (917536 + j), Value.int (Int.ofNat (917536 + j)) (2196 + j : Nat))
def PL : List Nat := 1 :: (List.range 96).map (32 + ·)
abbrev tb (led : Bool) (m mv : Nat) (pl : List Nat) : SetTable := { mask := m, place := pl.toArray, dummies := #[], finger := 0, led := led, moves := mv, plain := true }
def KL : List Int := 917505 :: (List.range 76).map fun j : Nat => Int.ofNat (917536 + j)
theorem kl : (LL.take 77).toArray.map (·.1) = KL.toArray := by kernel_rfl
def ownAt (j : Nat) : Option Nat := if j == 1 then some 0 else if 32 ≤ j && j < 108 then some (j - 31) else none
def own : List (Option Nat) := (List.range 512).map ownAt
theorem lc1 : SetTable.layClean 511 KL.toArray = some own.toArray := by kernel_rfl
theorem own_at {j : Nat} (h : j < 512) : own.toArray.getD j none = ownAt j := by
  unfold own
  simp [h]
theorem lc2f : (List.range 512).filterMap (fun j => (ownAt j).map (j, ·)) = (PL.take 77).zip (List.range 77) := by decide +kernel
theorem filt {f g : Nat → Option (Nat × Nat)} : ∀ {l : List Nat}, (∀ x ∈ l, f x = g x) → l.filterMap f = l.filterMap g
  | [], _ => rfl
  | a :: l, h => by rw [List.filterMap_cons, List.filterMap_cons, h a (by simp), filt fun x hx => h x (by simp [hx])]
theorem lc2 : (List.range 512).filterMap (fun j => (own.toArray.getD j none).map (j, ·)) = (PL.take 77).zip (List.range 77) := by
  rw [← lc2f]
  exact filt fun j hj => by rw [own_at (List.mem_range.mp hj)]
theorem lc4 : (List.range 77).toArray.filterMap ((LL.take 77).toArray[·]?) = (LL.take 77).toArray := by kernel_rfl
theorem lc3 : coversAll (List.range 77).toArray 77 = true := by
  unfold coversAll
  exact List.isPerm_iff.mpr (List.Perm.refl _)
theorem lcl : (PL.take 77).length = 77 := by decide +kernel
theorem lc2z : ((PL.take 77).zip (List.range 77)).map (·.1) = PL.take 77 ∧ ((PL.take 77).zip (List.range 77)).map (·.2) = List.range 77 :=
  ⟨List.map_fst_zip (by rw [lcl, List.length_range]; exact Nat.le_refl _), List.map_snd_zip (by rw [lcl, List.length_range]; exact Nat.le_refl _)⟩
theorem relay77 (led : Bool) : relayAll (tb led 127 2 (PL.take 77)) (LL.take 77).toArray 308 = ((LL.take 77).toArray, tb led 511 3 (PL.take 77), false) := by
  have e : (tb led 127 2 (PL.take 77)).relaid ((LL.take 77).toArray.map (·.1)) 308 = some (tb led 511 3 (PL.take 77), (List.range 77).toArray) := by
    rw [kl]
    show SetTable.laid 511 0 3 led true KL.toArray = _
    unfold SetTable.laid
    rw [lc1]
    show some (({ mask := 511, place := (((List.range 512).filterMap (fun j => (own.toArray.getD j none).map (j, ·))).map (·.1)).toArray, dummies := #[], finger := 0, led, moves := 3, plain := true } : SetTable), (((List.range 512).filterMap (fun j => (own.toArray.getD j none).map (j, ·))).map (·.2)).toArray) = _
    rw [lc2, lc2z.1, lc2z.2]
  unfold relayAll
  rw [e]
  show (if (coversAll (List.range 77).toArray (LL.take 77).toArray.size && SetTable.fits _ ((List.range 77).toArray.filterMap ((LL.take 77).toArray[·]?)).size) = true then ((List.range 77).toArray.filterMap ((LL.take 77).toArray[·]?), tb led 511 3 (PL.take 77), false) else _) = _
  rw [lc4, show (LL.take 77).toArray.size = 77 by decide +kernel, lc3]
  rfl
theorem below_go (xs : Array Nat) (j : Nat) : ∀ (fuel lo hi : Nat), lo ≤ hi → hi - lo ≤ fuel → (∀ m < hi, xs.getD m j < j) → SetTable.below.go xs j fuel lo hi = hi
  | 0, lo, hi, h1, h2, h3 => by
    unfold SetTable.below.go; omega
  | fuel + 1, lo, hi, h1, h2, h3 => by
    unfold SetTable.below.go
    by_cases h : lo < hi
    · rw [if_pos h]
      simp only [h3 ((lo + hi) / 2) (by omega), if_true]
      exact below_go xs j fuel _ hi (by omega) (by omega) h3
    · rw [if_neg h]; omega
theorem below_end {pl : List Nat} {j : Nat} (h : ∀ x ∈ pl, x < j) : SetTable.below pl.toArray j = pl.length := by
  unfold SetTable.below
  refine (below_go _ _ _ _ _ (Nat.zero_le _) (by omega) fun m hm => ?_).trans (List.size_toArray ..)
  have hm' : m < pl.length := by simpa using hm
  simp only [Array.getD, List.size_toArray, hm', dif_pos]
  exact h _ (by simp)
theorem slot_end {led : Bool} {m mv : Nat} {pl : List Nat} {j : Nat} (h : ∀ x ∈ pl, x < j) : (tb led m mv pl).slot j = .empty := by
  unfold SetTable.slot
  simp only [below_end h]
  have e : (pl.toArray[pl.length]? == some j) = false := by simp
  rw [e]
  rfl
theorem insert_end {α : Type} (l : List α) (x : α) : SetTable.insertAt l.toArray l.length x = (l ++ [x]).toArray := by
  unfold SetTable.insertAt
  simp
theorem layNew_end {led : Bool} {m mv : Nat} {pl : List Nat} {l : List (Int × Value)} {h : Int} {x : Value} (hp : ∀ y ∈ pl, y < SetTable.bits h % (m + 1)) (hl : l.length = pl.length) (hm : pl.length + 1 ≤ m) :
    layNew (tb led m mv pl) l.toArray h x = ((l ++ [(h, x)]).toArray, tb led m mv (pl ++ [SetTable.bits h % (m + 1)]), false, false) := by
  have e1 : (tb led m mv pl).freeSlot h = some (SetTable.bits h % (m + 1), false) := by
    unfold SetTable.freeSlot SetTable.probe
    have : ∃ k, 10 * SetTable.turns (tb led m mv pl).mask = k + 1 := ⟨10 * SetTable.turns m - 1, by show 10 * (m + 15) = 10 * (m + 15) - 1 + 1; omega⟩
    obtain ⟨k, hk⟩ := this
    rw [hk]
    unfold SetTable.probe.go
    have : (tb led m mv pl).slot ((tb led m mv pl).probeStart h).j = .empty := slot_end hp
    rw [this]
    rfl
  have e2 : (tb led m mv pl).put (SetTable.bits h % (m + 1)) = (tb led m mv (pl ++ [SetTable.bits h % (m + 1)]), pl.length) := by
    unfold SetTable.put
    simp only [below_end hp]
    rw [insert_end]
    rfl
  unfold layNew
  rw [e1]
  simp only [e2]
  rw [← hl, insert_end]
  have e3 : (tb led m mv (pl ++ [SetTable.bits h % (m + 1)])).fits (l ++ [(h, x)]).toArray.size = true := by
    unfold SetTable.fits SetTable.fill
    simp [hl]; omega
  unfold SetTable.orStandIn
  rw [e3]
  rfl
end
end Mine
end
section
open PySem PySem.W PyProof.Rows
set_option maxRecDepth 100000
set_option linter.unusedVariables false
namespace Mine
noncomputable section


def itO (i : Nat) : Obj := { cls := .type "list_iterator", data := .fields #[.ref 86, .int i 0] }
def vv (i : Nat) : Value := (LL.getD i default).2
abbrev xN (S : Obj) (w : World) (os : OsState) (i t : Nat) : SharedT := ⟨((t_c8 w.params).set 88 (fun _ => itO i)).set 87 (fun _ => S), 89, lf, #[], boot_drawn, t, os⟩
theorem nx_nil (S : Obj) (K : Option Value → Sem Fin) (H : Value → Sem Fin) (gd : Bool → Bool) (lv : List Value → List Value) (c : Code) (p : Pos) (f : Frame) (os : OsState) (t : Nat) (w : World) :
    (List.range 71).map (fun j => gT tT pw w 11 ann 1 10 (xN S w os (26 + j) t) ⟨(pyNext (.ref 88)).wrap K H gd lv, c, p, [f]⟩) = (List.range 71).map (fun j => some (xN S w os (27 + j) t, ⟨(pure (some (vv (26 + j))) : Sem (Option Value)).wrap K H gd lv, c, p, [f]⟩)) := by
  kernel_rfl
theorem nx_cons (S : Obj) (K : Option Value → Sem Fin) (H : Value → Sem Fin) (gd : Bool → Bool) (lv : List Value → List Value) (c : Code) (p : Pos) (f f2 : Frame) (stk : List Frame) (os : OsState) (t : Nat) (w : World) :
    (List.range 71).map (fun j => gT tT pw w 11 ann 1 10 (xN S w os (26 + j) t) ⟨(pyNext (.ref 88)).wrap K H gd lv, c, p, f :: f2 :: stk⟩) = (List.range 71).map (fun j => some (xN S w os (27 + j) t, ⟨(pure (some (vv (26 + j))) : Sem (Option Value)).wrap K H gd lv, c, p, f :: f2 :: stk⟩)) := by
  kernel_rfl
theorem SG.next (w : World) (S : Obj) (os : OsState) (t : Nat) (p : Pos) {i : Nat} (h1 : 26 ≤ i) (h2 : i < 97) : SG w 10 (pyNext (.ref 88)) (xN S w os i t).abs p (pure (some (vv i))) (xN S w os (i + 1) t).abs p := fun K H gd lv c f stk => by
  obtain ⟨j, rfl⟩ : ∃ j, i = 26 + j := ⟨i - 26, by omega⟩
  rw [show 26 + j + 1 = 27 + j by omega]
  refine segGo_of (goT ?_)
  have hj : j ∈ List.range 71 := List.mem_range.mpr (by omega)
  cases stk with
  | nil => exact List.map_inj_left.mp (nx_nil S K H gd lv c p f os t w) j hj
  | cons f2 stk => exact List.map_inj_left.mp (nx_cons S K H gd lv c p f f2 stk os t w) j hj
end
end Mine
end
section
open PySem PySem.W PyProof.Rows
set_option maxRecDepth 100000
set_option linter.unusedVariables false
namespace Mine
noncomputable section


abbrev led (P : Params) : Bool := !(P.followText "set-order")
abbrev stO (P : Params) (i m mv n : Nat) : Obj := setO (LL.take i).toArray n (tb (led P) m mv (PL.take i))
theorem get87 (S I : Obj) (P : Params) : (((t_c8 P).set 88 (fun _ => I)).set 87 (fun _ => S)).get 87 = some S := by kernel_rfl
theorem set87 (S I : Obj) (P : Params) (f : Obj → Obj) : ((((t_c8 P).set 88 (fun _ => I)).set 87 (fun _ => S)).set 87 f) = ((t_c8 P).set 88 (fun _ => I)).set 87 (fun _ => f S) := by kernel_rfl
theorem xN_get {S : Obj} {w : World} {os : OsState} {i t : Nat} (hS : alive S = some S) : (xN S w os i t).abs.heap.get? 87 = some S :=
  (abs_get (show 87 < 89 by decide) (get87 S _ _)).trans hS
theorem xN_upd (S : Obj) (w : World) (os : OsState) (i t : Nat) (f : Obj → Obj) : (xN S w os i t).abs.heap.update 87 f = (xN (f S) w os i t).abs.heap := by
  show (absHeap _ 89 lf).update 87 f = absHeap _ 89 lf
  rw [← absHeap_set (get87 S _ _), set87]
theorem LL_all : (∀ x ∈ LL, (∃ tk, x.2 = .int x.1 tk) ∧ 0 ≤ x.1 ∧ x.1 < 2000000) := by
  intro x hx
  unfold LL at hx
  rcases List.mem_cons.mp hx with rfl | hx
  · exact ⟨⟨_, rfl⟩, by decide, by decide⟩
  · obtain ⟨j, hj, rfl⟩ := List.mem_map.mp hx
    have := List.mem_range.mp hj
    exact ⟨⟨_, rfl⟩, by simp; omega, by simp; omega⟩
theorem LL_len : LL.length = 97 := by decide +kernel
theorem PL_len : PL.length = 97 := by decide +kernel
theorem LL_pw : LL.Pairwise (fun a b => a.1 ≠ b.1) := by
  have : (List.range 97).all (fun i => (List.range i).all fun j => (LL.getD j default).1 != (LL.getD i default).1) = true := by decide +kernel
  rw [List.pairwise_iff_getElem]
  intro i j hi hj hij
  rw [LL_len] at hi hj
  have := List.all_eq_true.mp (List.all_eq_true.mp this j (List.mem_range.mpr hj)) i (List.mem_range.mpr hij)
  simpa [List.getD, hi, hj, LL_len] using this
abbrev again_tree : Sem Fin := (pyNext (.ref 88)).wrap (fun o => (match o with | some x => (PySem.holding [x] (setAdd 87 x) >>= fun _ => again sc) | none => ret .none : Sem Fin)) .raise id id
theorem again_go (w : World) (s : Shared) (k : Result → Sem Fin) (h : Option Value) (g : Bool) (l : List Value) (c : Code) (p : Pos) (kept : List Value) (f2 : Frame) (stk : List Frame) :
    segGo treeTable pw w 11 ann 1 1 s (thD (.ret k h g l c p kept :: f2 :: stk)) = some (s, ⟨again_tree, sc, ⟨14, 9, 14, 52⟩, .ret k h g l c p kept :: f2 :: stk⟩) := by
  have e : denote treeTable sc = again_tree := by
    show (pyNext (.ref 88)).bind _ = _
    rw [Sem.bind_eq_wrap]
    congr 1
    funext o
    cases o <;> rfl
  rw [← e]
  obtain ⟨h1, h2, h3, h4, h5⟩ := s
  kernel_rfl
theorem LL_at {i : Nat} (h : i < 97) : ∃ x tk, LL[i]? = some (x, .int x tk) ∧ vv i = .int x tk ∧ 0 ≤ x ∧ x < 2000000 := by
  have hl : i < LL.length := by rw [LL_len]; exact h
  obtain ⟨⟨tk, e⟩, h0, h1⟩ := LL_all LL[i] (List.getElem_mem hl)
  refine ⟨LL[i].1, tk, ?_, ?_, h0, h1⟩
  · rw [List.getElem?_eq_getElem hl, ← e]
  · unfold vv
    rw [List.getD_eq_getElem?_getD, List.getElem?_eq_getElem hl]
    exact e
theorem SG.setAdd {w : World} {s : Shared} {p : Pos} {v : Int} {tk : Tok} {m : Nat} {r : Bool} {s' : Shared} (h0 : 0 ≤ v) (h1 : v < 2000000) (h : SG w m (setAddHashed 87 (.int v tk) v) { s with toks := s.toks + 1 } p (pure r) s' p) : SG w (5 + m) (PySem.holding [.int v tk] (setAdd 87 (.int v tk))) s p (pure r) s' p := by
  refine SG.held _ ?_
  unfold PySem.setAdd
  refine SG.held _ ?_
  exact SG.seq (SG.hash h0 h1) h
theorem iter (w : World) (os : OsState) {i t m mv n : Nat} {m' mv' n' c : Nat} (h1 : 26 ≤ i) (h2 : i < 97)
    (h : ∀ x tk, LL[i]? = some (x, .int x tk) → ∀ p, SG w c (setAddHashed 87 (.int x tk) x) (xN (stO w.params i m mv n) w os (i + 1) (t + 1)).abs p (pure true) (xN (stO w.params (i + 1) m' mv' n') w os (i + 1) (t + 1)).abs p)
    (k : Result → Sem Fin) (hh : Option Value) (g : Bool) (l : List Value) (cc : Code) (p : Pos) (kept : List Value) (f2 : Frame) (stk : List Frame) :
    segGo treeTable pw w 11 ann 1 (16 + c) (xN (stO w.params i m mv n) w os i t).abs (thD (.ret k hh g l cc p kept :: f2 :: stk)) = some ((xN (stO w.params (i + 1) m' mv' n') w os (i + 1) (t + 1)).abs, thD (.ret k hh g l cc p kept :: f2 :: stk)) := by
  obtain ⟨x, tk, e1, e2, h0, h1'⟩ := LL_at h2
  rw [show 16 + c = 1 + (10 + (5 + c)) by omega]
  refine go_trans (again_go w _ k hh g l cc p kept f2 stk) ?_
  refine go_trans (SG.next w _ os t _ h1 h2 _ _ _ _ _ _ _) ?_
  rw [e2]
  have z := SG.setAdd (w := w) (s := (xN (stO w.params i m mv n) w os (i + 1) t).abs) (p := ⟨14, 9, 14, 52⟩) h0 h1' (h x tk e1 _)
  have z2 := z (fun _ => again sc) .raise id id sc (.ret k hh g l cc p kept) (f2 :: stk)
  show segGo treeTable pw w 11 ann 1 (5 + c) _ ⟨(PySem.holding [.int x tk] (PySem.setAdd 87 (.int x tk))).bind (fun _ => again sc), _, _, _⟩ = _
  rw [Sem.bind_eq_wrap]
  exact z2
end
end Mine
end
section
open PySem PySem.W PyProof.Rows
set_option maxRecDepth 100000
set_option linter.unusedVariables false
namespace Mine
noncomputable section


theorem slots127 : (List.range 97).all (fun i => PL.getD i 0 == SetTable.bits (LL.getD i default).1 % (127 + 1)) = true := by decide +kernel
theorem slots511 : (List.range 97).all (fun i => PL.getD i 0 == SetTable.bits (LL.getD i default).1 % (511 + 1)) = true := by decide +kernel
theorem PL_up : (List.range 97).all (fun i => (PL.take i).all fun y => decide (y < PL.getD i 0)) = true := by decide +kernel
theorem scannable_LL (i : Nat) : (LL.take i).toArray.all (·.2.scannable) = true := by
  rw [List.all_toArray, List.all_eq_true]
  intro x hx
  obtain ⟨⟨tk, e⟩, _⟩ := LL_all x (List.mem_of_mem_take hx)
  rw [e]; rfl
theorem len_take (i : Nat) (h : i ≤ 97) : (LL.take i).length = i := by rw [List.length_take, LL_len]; omega
theorem plen_take (i : Nat) (h : i ≤ 97) : (PL.take i).length = i := by rw [List.length_take, PL_len]; omega
section
variable {led : Bool} {m mv i : Nat} {x : Int} {tk : Tok}
theorem scan_ok (h : i < 97) : byScan (.int x tk) (LL.take i).toArray = true := by
  unfold byScan
  rw [scannable_LL, List.size_toArray, len_take i (by omega)]
  have : i < scanBound := by unfold scanBound; omega
  simp [this, Value.scannable]
theorem absent_ok (h : i < 97) (e : LL[i]? = some (x, .int x tk)) : ∀ y ∈ (LL.take i).toArray.toList, y.1 ≠ x := by
  intro y hy
  rw [List.toList_toArray] at hy
  obtain ⟨j, hj, rfl⟩ := List.mem_iff_getElem.mp hy
  rw [len_take i (by omega)] at hj
  have hi : i < LL.length := by rw [LL_len]; exact h
  have := List.pairwise_iff_getElem.mp LL_pw j i (by omega) hi hj
  rw [List.getElem_take]
  rw [List.getElem?_eq_getElem hi] at e
  have e' : LL[i] = (x, .int x tk) := by simpa using e
  rw [e'] at this
  exact this
theorem lay_ok (hs : (List.range 97).all (fun i => PL.getD i 0 == SetTable.bits (LL.getD i default).1 % (m + 1)) = true) (h : i < 97) (hm : i + 1 ≤ m) (e : LL[i]? = some (x, .int x tk)) :
    layNew (tb led m mv (PL.take i)) (LL.take i).toArray x (.int x tk) = ((LL.take (i + 1)).toArray, tb led m mv (PL.take (i + 1)), false, false) := by
  have a1 : PL.getD i 0 = SetTable.bits x % (m + 1) := by
    have := List.all_eq_true.mp hs i (List.mem_range.mpr h)
    rw [List.getD_eq_getElem?_getD (l := LL), e] at this
    simpa using this
  have a2 : PL[i]? = some (SetTable.bits x % (m + 1)) := by
    have hi : i < PL.length := by rw [PL_len]; exact h
    rw [List.getD_eq_getElem?_getD, List.getElem?_eq_getElem hi] at a1
    rw [List.getElem?_eq_getElem hi, ← a1]; rfl
  rw [layNew_end (fun y hy => ?_) (by rw [len_take i (by omega), plen_take i (by omega)]) (by rw [plen_take i (by omega)]; omega)]
  · rw [List.take_add_one, List.take_add_one, e, a2]; rfl
  · have := List.all_eq_true.mp (List.all_eq_true.mp PL_up i (List.mem_range.mpr h)) y hy
    rw [← a1]
    exact of_decide_eq_true this
theorem full_no (h : i ≤ 97) (hm : i * 5 < m * 3) : (tb led m mv (PL.take i)).tooFull = false := by
  unfold SetTable.tooFull SetTable.fill
  simp [plen_take i h]; omega
theorem full_yes (h : i ≤ 97) (hm : m * 3 ≤ i * 5) : (tb led m mv (PL.take i)).tooFull = true := by
  unfold SetTable.tooFull SetTable.fill
  simp [plen_take i h]; omega
end
theorem put_stO (P : Params) (i m mv n : Nat) (es : Array (Int × Value)) (t : SetTable) : Obj.putSet es t (stO P i m mv n) = setO es (n + 1) t := rfl
theorem add_plain (w : World) (os : OsState) {i m mv n t : Nat} (hs : (List.range 97).all (fun i => PL.getD i 0 == SetTable.bits (LL.getD i default).1 % (m + 1)) = true) (h : i < 97) (hm : (i + 1) * 5 < m * 3) (x : Int) (tk : Tok) (e : LL[i]? = some (x, .int x tk)) (p : Pos) :
    SG w 4 (setAddHashed 87 (.int x tk) x) (xN (stO w.params i m mv n) w os (i + 1) t).abs p (pure true) (xN (stO w.params (i + 1) m mv (n + 1)) w os (i + 1) t).abs p := by
  have z := SG.addScan (w := w) (s := (xN (stO w.params i m mv n) w os (i + 1) t).abs) (p := p) (a := 87) (xN_get rfl) (by rfl) (by show (PL.take i).toArray.size = (LL.take i).toArray.size; rw [List.size_toArray, List.size_toArray, len_take i (by omega), plen_take i (by omega)])
    (by show (PL.take i).toArray.size + 0 ≤ m; rw [List.size_toArray, plen_take i (by omega)]; omega) (scan_ok (tk := tk) h) (absent_ok h e) (lay_ok (mv := mv) hs h (by omega) e) (by rw [List.size_toArray, len_take _ (by omega)]; omega) rfl (full_no (by omega) hm)
  rw [xN_upd, put_stO] at z
  exact z
theorem add_full (w : World) (os : OsState) {t n : Nat} (x : Int) (tk : Tok) (e : LL[76]? = some (x, .int x tk)) (p : Pos) :
    SG w 6 (setAddHashed 87 (.int x tk) x) (xN (stO w.params 76 127 2 n) w os 77 t).abs p (pure true) (xN (stO w.params 77 511 3 (n + 2)) w os 77 t).abs p := by
  have z := SG.addFull (w := w) (s := (xN (stO w.params 76 127 2 n) w os 77 t).abs) (p := p) (a := 87) (xN_get rfl) (by rfl) (by show (PL.take 76).toArray.size = (LL.take 76).toArray.size; rw [List.size_toArray, List.size_toArray, len_take 76 (by omega), plen_take 76 (by omega)])
    (by show (PL.take 76).toArray.size + 0 ≤ 127; rw [List.size_toArray, plen_take 76 (by omega)]; omega) (scan_ok (tk := tk) (by omega)) (absent_ok (by omega) e) (lay_ok (led := led w.params) (m := 127) (mv := 2) slots127 (by omega) (by omega) e) (by rw [List.size_toArray, len_take _ (by omega)]; omega) rfl (full_yes (by omega) (by omega))
    (by rw [List.size_toArray, len_take 77 (by omega)]; exact relay77 (led w.params)) (by rw [List.size_toArray, len_take _ (by omega)]; omega)
  rw [xN_upd, put_stO] at z
  rw [show ((xN (setO (LL.take (76 + 1)).toArray (n + 1) (tb (led w.params) 127 2 (PL.take (76 + 1)))) w os 77 t).abs.heap.update 87 (Obj.putSet (LL.take 77).toArray (tb (led w.params) 511 3 (PL.take 77)))) = _ from xN_upd _ w os 77 t _] at z
  exact z
end
end Mine
end
section
open PySem PySem.W PyProof.Rows
set_option maxRecDepth 100000
set_option linter.unusedVariables false
namespace Mine
noncomputable section


theorem eAq  (w : World) : ∀ os, (runA w os).map Prod.fst = some (x_c1 w os) := by
  refine byRow2 "special-get-raises" (P := fun w => ∀ os, (runA w os).map Prod.fst = some (x_c1 w os)) (fun w => ?_) (fun w => ?_) w
  · intro os; kernel_rfl
  · intro os; kernel_rfl
theorem shA  (w : World) : ∀ os, ((thA w os).cur, (thA w os).code, (thA w os).pos, stkOk (thA w os).stack) = (.pure (.again lc), lc, ⟨14, 24, 14, 51⟩, true) := by
  refine byRow2 "special-get-raises" (P := fun w => ∀ os, ((thA w os).cur, (thA w os).code, (thA w os).pos, stkOk (thA w os).stack) = (.pure (.again lc), lc, ⟨14, 24, 14, 51⟩, true)) (fun w => ?_) (fun w => ?_) w
  · intro os; kernel_rfl
  · intro os; kernel_rfl
theorem c2q (os : OsState) (k : Result → Sem Fin) (h : Option Value) (g : Bool) (l : List Value) (c : Code) (p : Pos) (kept : List Value) (f2 : Frame) (stk : List Frame) (w : World) : segGoT treeTable pw w 11 ann 1 408 (x_c1 w os) (thL (.ret k h g l c p kept :: f2 :: stk)) = some (x_c2 w os, thL (.ret k h g l c p kept :: f2 :: stk)) := by
  refine byRow2 "special-get-raises" (P := fun w => segGoT treeTable pw w 11 ann 1 408 (x_c1 w os) (thL (.ret k h g l c p kept :: f2 :: stk)) = some (x_c2 w os, thL (.ret k h g l c p kept :: f2 :: stk))) (fun w => ?_) (fun w => ?_) w
  · refine goT ?_; kernel_rfl
  · refine goT ?_; kernel_rfl
theorem c2 (w : World) (os : OsState) (stk : List Frame) (ok : stkOk stk = true) : segGoT treeTable pw w 11 ann 1 408 (x_c1 w os) (thL stk) = some (x_c2 w os, thL stk) := by
  cases stk with
  | nil => cases ok
  | cons f r => cases r with
    | nil => cases f <;> cases ok
    | cons f2 r => cases f with
      | ret k h g l c p kept => exact c2q os k h g l c p kept f2 r w
      | gen => cases ok
theorem c3q (os : OsState) (k : Result → Sem Fin) (h : Option Value) (g : Bool) (l : List Value) (c : Code) (p : Pos) (kept : List Value) (f2 : Frame) (stk : List Frame) (w : World) : segGoT treeTable pw w 11 ann 1 408 (x_c2 w os) (thL (.ret k h g l c p kept :: f2 :: stk)) = some (x_c3 w os, thL (.ret k h g l c p kept :: f2 :: stk)) := by
  refine byRow2 "special-get-raises" (P := fun w => segGoT treeTable pw w 11 ann 1 408 (x_c2 w os) (thL (.ret k h g l c p kept :: f2 :: stk)) = some (x_c3 w os, thL (.ret k h g l c p kept :: f2 :: stk))) (fun w => ?_) (fun w => ?_) w
  · refine goT ?_; kernel_rfl
  · refine goT ?_; kernel_rfl
theorem c3 (w : World) (os : OsState) (stk : List Frame) (ok : stkOk stk = true) : segGoT treeTable pw w 11 ann 1 408 (x_c2 w os) (thL stk) = some (x_c3 w os, thL stk) := by
  cases stk with
  | nil => cases ok
  | cons f r => cases r with
    | nil => cases f <;> cases ok
    | cons f2 r => cases f with
      | ret k h g l c p kept => exact c3q os k h g l c p kept f2 r w
      | gen => cases ok
theorem c4q (os : OsState) (k : Result → Sem Fin) (h : Option Value) (g : Bool) (l : List Value) (c : Code) (p : Pos) (kept : List Value) (f2 : Frame) (stk : List Frame) (w : World) : segGoT treeTable pw w 11 ann 1 408 (x_c3 w os) (thL (.ret k h g l c p kept :: f2 :: stk)) = some (x_c4 w os, thL (.ret k h g l c p kept :: f2 :: stk)) := by
  refine byRow2 "special-get-raises" (P := fun w => segGoT treeTable pw w 11 ann 1 408 (x_c3 w os) (thL (.ret k h g l c p kept :: f2 :: stk)) = some (x_c4 w os, thL (.ret k h g l c p kept :: f2 :: stk))) (fun w => ?_) (fun w => ?_) w
  · refine goT ?_; kernel_rfl
  · refine goT ?_; kernel_rfl
theorem c4 (w : World) (os : OsState) (stk : List Frame) (ok : stkOk stk = true) : segGoT treeTable pw w 11 ann 1 408 (x_c3 w os) (thL stk) = some (x_c4 w os, thL stk) := by
  cases stk with
  | nil => cases ok
  | cons f r => cases r with
    | nil => cases f <;> cases ok
    | cons f2 r => cases f with
      | ret k h g l c p kept => exact c4q os k h g l c p kept f2 r w
      | gen => cases ok
theorem c5q (os : OsState) (k : Result → Sem Fin) (h : Option Value) (g : Bool) (l : List Value) (c : Code) (p : Pos) (kept : List Value) (f2 : Frame) (stk : List Frame) (w : World) : segGoT treeTable pw w 11 ann 1 391 (x_c4 w os) (thL (.ret k h g l c p kept :: f2 :: stk)) = some (x_c5 w os, thL (.ret k h g l c p kept :: f2 :: stk)) := by
  refine byRow2 "special-get-raises" (P := fun w => segGoT treeTable pw w 11 ann 1 391 (x_c4 w os) (thL (.ret k h g l c p kept :: f2 :: stk)) = some (x_c5 w os, thL (.ret k h g l c p kept :: f2 :: stk))) (fun w => ?_) (fun w => ?_) w
  · refine goT ?_; kernel_rfl
  · refine goT ?_; kernel_rfl
theorem c5 (w : World) (os : OsState) (stk : List Frame) (ok : stkOk stk = true) : segGoT treeTable pw w 11 ann 1 391 (x_c4 w os) (thL stk) = some (x_c5 w os, thL stk) := by
  cases stk with
  | nil => cases ok
  | cons f r => cases r with
    | nil => cases f <;> cases ok
    | cons f2 r => cases f with
      | ret k h g l c p kept => exact c5q os k h g l c p kept f2 r w
      | gen => cases ok
theorem eCq  (w : World) : ∀ os, (runC w os).map Prod.fst = some (x_c6 w os) := by
  refine byRow2 "special-get-raises" (P := fun w => ∀ os, (runC w os).map Prod.fst = some (x_c6 w os)) (fun w => ?_) (fun w => ?_) w
  · intro os; kernel_rfl
  · intro os; kernel_rfl
theorem shC  (w : World) : ∀ os, ((thC w os).cur, (thC w os).code, (thC w os).pos, stkOk (thC w os).stack) = (.pure (.again sc), sc, ⟨14, 9, 14, 52⟩, true) := by
  refine byRow2 "special-get-raises" (P := fun w => ∀ os, ((thC w os).cur, (thC w os).code, (thC w os).pos, stkOk (thC w os).stack) = (.pure (.again sc), sc, ⟨14, 9, 14, 52⟩, true)) (fun w => ?_) (fun w => ?_) w
  · intro os; kernel_rfl
  · intro os; kernel_rfl
theorem c8q (os : OsState) (k : Result → Sem Fin) (h : Option Value) (g : Bool) (l : List Value) (c : Code) (p : Pos) (kept : List Value) (f2 : Frame) (stk : List Frame) (w : World) : segGoT treeTable pw w 11 ann 1 504 (x_c6 w os) (thD (.ret k h g l c p kept :: f2 :: stk)) = some (x_c8 w os, thD (.ret k h g l c p kept :: f2 :: stk)) := by
  refine byRow2 "special-get-raises" (P := fun w => segGoT treeTable pw w 11 ann 1 504 (x_c6 w os) (thD (.ret k h g l c p kept :: f2 :: stk)) = some (x_c8 w os, thD (.ret k h g l c p kept :: f2 :: stk))) (fun w => ?_) (fun w => ?_) w
  · refine goT ?_; kernel_rfl
  · refine goT ?_; kernel_rfl
theorem c8 (w : World) (os : OsState) (stk : List Frame) (ok : stkOk stk = true) : segGoT treeTable pw w 11 ann 1 504 (x_c6 w os) (thD stk) = some (x_c8 w os, thD stk) := by
  cases stk with
  | nil => cases ok
  | cons f r => cases r with
    | nil => cases f <;> cases ok
    | cons f2 r => cases f with
      | ret k h g l c p kept => exact c8q os k h g l c p kept f2 r w
      | gen => cases ok
end
end Mine
end
section
open PySem PySem.W PyProof.Rows
set_option maxRecDepth 100000
set_option linter.unusedVariables false
namespace Mine
noncomputable section


section
variable (w : World) (os : OsState) (k : Result → Sem Fin) (hh : Option Value) (g : Bool) (l : List Value) (cc : Code) (p : Pos) (kept : List Value) (f2 : Frame) (stk : List Frame)
theorem c8_eq : x_c8 w os = xN (stO w.params 26 127 2 28) w os 26 2318 := by kernel_rfl
theorem loop1 : ∀ j, j ≤ 50 → segGo treeTable pw w 11 ann 1 (20 * j) (xN (stO w.params 26 127 2 28) w os 26 2318).abs (thD (.ret k hh g l cc p kept :: f2 :: stk)) = some ((xN (stO w.params (26 + j) 127 2 (28 + j)) w os (26 + j) (2318 + j)).abs, thD (.ret k hh g l cc p kept :: f2 :: stk))
  | 0, _ => rfl
  | j + 1, h => by
    rw [show 20 * (j + 1) = 20 * j + (16 + 4) by omega, show 26 + (j + 1) = 26 + j + 1 by omega, show 28 + (j + 1) = 28 + j + 1 by omega, show 2318 + (j + 1) = 2318 + j + 1 by omega]
    exact go_trans (loop1 j (by omega)) (iter w os (by omega) (by omega) (fun x tk e p => add_plain w os slots127 (by omega) (by omega) x tk e p) k hh g l cc p kept f2 stk)
theorem full : segGo treeTable pw w 11 ann 1 22 (xN (stO w.params 76 127 2 78) w os 76 2368).abs (thD (.ret k hh g l cc p kept :: f2 :: stk)) = some ((xN (stO w.params 77 511 3 80) w os 77 2369).abs, thD (.ret k hh g l cc p kept :: f2 :: stk)) :=
  iter w os (i := 76) (c := 6) (by omega) (by omega) (fun x tk e p => add_full w os x tk e p) k hh g l cc p kept f2 stk
theorem loop2 : ∀ j, j ≤ 20 → segGo treeTable pw w 11 ann 1 (20 * j) (xN (stO w.params 77 511 3 80) w os 77 2369).abs (thD (.ret k hh g l cc p kept :: f2 :: stk)) = some ((xN (stO w.params (77 + j) 511 3 (80 + j)) w os (77 + j) (2369 + j)).abs, thD (.ret k hh g l cc p kept :: f2 :: stk))
  | 0, _ => rfl
  | j + 1, h => by
    rw [show 20 * (j + 1) = 20 * j + (16 + 4) by omega, show 77 + (j + 1) = 77 + j + 1 by omega, show 80 + (j + 1) = 80 + j + 1 by omega, show 2369 + (j + 1) = 2369 + j + 1 by omega]
    exact go_trans (loop2 j (by omega)) (iter w os (by omega) (by omega) (fun x tk e p => add_plain w os slots511 (by omega) (by omega) x tk e p) k hh g l cc p kept f2 stk)
theorem loops : segGo treeTable pw w 11 ann 1 1422 (x_c8 w os).abs (thD (.ret k hh g l cc p kept :: f2 :: stk)) = some ((xN (stO w.params 97 511 3 100) w os 97 2389).abs, thD (.ret k hh g l cc p kept :: f2 :: stk)) := by
  rw [c8_eq]
  exact go_trans (loop1 w os k hh g l cc p kept f2 stk 50 (by omega)) (go_trans (full w os k hh g l cc p kept f2 stk) (loop2 w os k hh g l cc p kept f2 stk 20 (by omega)))
end
end
end Mine
end
section
open PySem PySem.W PyProof.Rows
set_option maxRecDepth 100000
set_option linter.unusedVariables false
namespace Mine
noncomputable section


theorem stk_form {stk : List Frame} (h : stkOk stk = true) : ∃ k hh g l c p kept f2 r, stk = .ret k hh g l c p kept :: f2 :: r := by
  cases stk with
  | nil => cases h
  | cons f r => cases r with
    | nil => cases f <;> cases h
    | cons f2 r => cases f with
      | ret k hh g l c p kept => exact ⟨k, hh, g, l, c, p, kept, f2, r, rfl⟩
      | gen => cases h
theorem cEnd (w : World) : ∀ os, segRunT treeTable pw w 11 ann 1 28 (xN (stO w.params 97 511 3 100) w os 97 2389) (thD (thC w os).stack) = some (.next, x_s6 w os, cE, ⟨14, 0, 14, 6⟩) := by
  refine byRow2 "special-get-raises" (P := fun w => ∀ os, segRunT treeTable pw w 11 ann 1 28 (xN (stO w.params 97 511 3 100) w os 97 2389) (thD (thC w os).stack) = some (.next, x_s6 w os, cE, ⟨14, 0, 14, 6⟩)) (fun w => ?_) (fun w => ?_) w
  · intro os; refine runT ?_; kernel_rfl
  · intro os; refine runT ?_; kernel_rfl
theorem thread_ext {t : Thread} {stk : List Frame} {c : Code} {p : Pos} {x : Sem Fin} (h : (t.cur, t.code, t.pos, stkOk t.stack) = (x, c, p, true)) : t = ⟨x, c, p, t.stack⟩ ∧ stkOk t.stack = true := by
  obtain ⟨a, b, c', d⟩ := t
  simp only [Prod.mk.injEq] at h
  obtain ⟨rfl, rfl, rfl, h⟩ := h
  exact ⟨rfl, h⟩
theorem runA_go (w : World) (os : OsState) : gT tT pw w 11 ann 1 103 (x_s5 w os) (th [6] ⟨12, 0, 13, 30⟩) = some (x_c1 w os, thA w os) := by
  have z := goSnd (d := th [6] ⟨12, 0, 13, 30⟩) (eAq w os)
  rw [show sndT (runA w os) (th [6] ⟨12, 0, 13, 30⟩) = thA w os by unfold thA; rfl] at z
  rw [← z]
  unfold runA
  rfl
theorem runC_go (w : World) (os : OsState) : gT tT pw w 11 ann 1 79 (x_c5 w os) (thL (thA w os).stack) = some (x_c6 w os, thC w os) := by
  have z := goSnd (d := thL []) (eCq w os)
  rw [show sndT (runC w os) (thL []) = thC w os by unfold thC; rfl] at z
  rw [← z]
  unfold runC
  rfl
theorem p6 (w : World) (os : OsState) : segRun treeTable pw w 11 ann 1 (103 + (408 + (408 + (408 + (391 + (79 + (504 + (1422 + 28)))))))) (x_s5 w os).abs (th [6] ⟨12, 0, 13, 30⟩) = some (.next, (x_s6 w os).abs, cE, ⟨14, 0, 14, 6⟩) := by
  obtain ⟨eA, okA⟩ := thread_ext (stk := []) (shA w os)
  obtain ⟨eC, okC⟩ := thread_ext (stk := []) (shC w os)
  have a1 := segGo_of (goT (runA_go w os))
  have a2 := segGo_of (goT (runC_go w os))
  rw [eA] at a1
  rw [eC] at a2
  refine seg_go a1 ?_
  refine seg_go (segGo_of (c2 w os _ okA)) ?_
  refine seg_go (segGo_of (c3 w os _ okA)) ?_
  refine seg_go (segGo_of (c4 w os _ okA)) ?_
  refine seg_go (segGo_of (c5 w os _ okA)) ?_
  refine seg_go a2 ?_
  refine seg_go (segGo_of (c8 w os _ okC)) ?_
  refine seg_go (n := 1422) (s' := (xN (stO w.params 97 511 3 100) w os 97 2389).abs) (t' := thD (thC w os).stack) ?_ (segRun_of (cEnd w os))
  obtain ⟨k, hh, g, l, c, p, kept, f2, r, e⟩ := stk_form okC
  rw [e]
  exact loops w os k hh g l c p kept f2 r
end
end Mine
end
section
open PySem PySem.W PyProof.Rows
set_option maxRecDepth 100000
set_option linter.unusedVariables false
namespace Mine
noncomputable section


theorem p01 (w : World) (os : OsState) : segRunT treeTable pw w 11 ann 1 39 (x_b w os) (th [0, 1] q0) = some (.next, x_s1 w os, cE, ⟨4, 0, 4, 8⟩) := by refine runT ?_; kernel_rfl
theorem p3 (w : World) (os : OsState) : segRunT treeTable pw w 11 ann 1 31 (x_s2 w os) (th [3] ⟨5, 0, 5, 13⟩) = some (.next, x_s3 w os, cE, ⟨6, 0, 10, 23⟩) := by refine runT ?_; kernel_rfl
theorem p4 (w : World) : ∀ os : OsState, segRunT treeTable pw w 11 ann 1 361 (x_s3 w os) (th [4] ⟨6, 0, 10, 23⟩) = some (.next, x_s4 w os, cE, ⟨11, 0, 11, 6⟩) := by
  refine byRow2 "special-get-raises" (P := fun w => ∀ os : OsState, segRunT treeTable pw w 11 ann 1 361 (x_s3 w os) (th [4] ⟨6, 0, 10, 23⟩) = some (.next, x_s4 w os, cE, ⟨11, 0, 11, 6⟩)) (fun w => ?_) (fun w => ?_) w
  · intro os; refine runT ?_; kernel_rfl
  · intro os; refine runT ?_; kernel_rfl
theorem p5 (w : World) (os : OsState) : segRunT treeTable pw w 11 ann 1 30 (x_s4 w os) (th [5] ⟨11, 0, 11, 6⟩) = some (.next, x_s5 w os, cE, ⟨12, 0, 13, 30⟩) := by refine runT ?_; kernel_rfl
theorem p789 (w : World) (os : OsState) : segRunT treeTable pw w 11 ann 1 48 (x_s6 w os) (th [7, 8, 9] ⟨14, 0, 14, 6⟩) = some (.next, x_s9 w os, cE, ⟨18, 0, 18, 11⟩) := by refine runT ?_; kernel_rfl
theorem p10 (w : World) (os : OsState) : segRunT treeTable pw w 11 ann 1 500 (x_s9 w os) (th [10] ⟨18, 0, 18, 11⟩) = some (.next, x_s10 w os, cE, ⟨19, 0, 47, 16⟩) := by refine runT ?_; kernel_rfl
theorem p12 (w : World) (os : OsState) : segRunT treeTable pw w 11 ann 1 206 (x_s10 w os) (th [11, 12] ⟨19, 0, 47, 16⟩) = some (.next, x_s12 w os, cE, ⟨49, 0, 50, 8⟩) := by refine runT ?_; kernel_rfl
theorem p13 (w : World) (os : OsState) : segRunT treeTable pw w 11 ann 1 214 (x_s12 w os) (th [13] ⟨49, 0, 50, 8⟩) = some (.next, x_s13 w os, cE, ⟨51, 0, 52, 8⟩) := by refine runT ?_; kernel_rfl
theorem p18 (w : World) (os : OsState) : segRunT treeTable pw w 11 ann 1 129 (x_s13 w os) (th [14, 15, 16, 17, 18] ⟨51, 0, 52, 8⟩) = some (.next, x_s18 w os, cE, ⟨112, 0, 117, 15⟩) := by refine runT ?_; kernel_rfl
theorem preGo (w : World) (os : OsState) : topGo treeTable pw w 11 ann 12 ⟨boot_heap w.params, #[], boot_drawn, boot_toks, os⟩ (topStub pw) = some ((x_b w os).abs, ⟨denote treeTable cE, cE, q0, Bq⟩) := by kernel_rfl
theorem finRun (w : World) (os : OsState) : topRun treeTable pw w 11 ann 2 (x_s18 w os).abs ⟨doneF .next, cE, ⟨112, 0, 117, 15⟩, Bq⟩ = some (x_s18 w os).abs := by kernel_rfl
theorem blockRun (w : World) (os : OsState) : segRun treeTable pw w 11 ann 1 1 (x_b w os).abs (blockOf (behindTheImports pw) en cE q0 Bq) = some (.next, (x_b w os).abs, cE, q0) := by kernel_rfl
theorem body_eq : behindTheImports pw = [0, 1].map top ++ ([2].map top ++ ([3].map top ++ ([4].map top ++ ([5].map top ++ ([6].map top ++ ([7, 8, 9].map top ++ ([10].map top ++ ([11, 12].map top ++ ([13].map top ++ ([14, 15, 16, 17, 18].map top ++ [])))))))))) := by kernel_rfl
abbrev Msteps : Nat := 12 + (1 + (39 + ((2 + 12515 + 8) + (31 + (361 + (30 + ((103 + (408 + (408 + (408 + (391 + (79 + (504 + (1422 + 28)))))))) + (48 + (500 + (206 + (214 + (129 + 2))))))))))))
theorem runAll (w : World) (os : OsState) : topRun treeTable pw w 11 ann Msteps ⟨boot_heap w.params, #[], boot_drawn, boot_toks, os⟩ (topStub pw) = some (x_s18 w os).abs := by
  refine go_top (preGo w os) ?_
  refine piece_block (blockRun w os) ?_
  have e : restOf (behindTheImports pw) en cE q0 [topFrame q0] = restOf ([0, 1].map top ++ ([2].map top ++ ([3].map top ++ ([4].map top ++ ([5].map top ++ ([6].map top ++ ([7, 8, 9].map top ++ ([10].map top ++ ([11, 12].map top ++ ([13].map top ++ ([14, 15, 16, 17, 18].map top ++ []))))))))))) en cE q0 [topFrame q0] := congrArg (fun l => restOf l en cE q0 [topFrame q0]) body_eq
  rw [e]
  refine piece_app (segRun_of (p01 w os)) ?_
  refine piece_app (p2 w os) ?_
  refine piece_app (segRun_of (p3 w os)) ?_
  refine piece_app (segRun_of (p4 w os)) ?_
  refine piece_app (segRun_of (p5 w os)) ?_
  refine piece_app (p6 w os) ?_
  refine piece_app (segRun_of (p789 w os)) ?_
  refine piece_app (segRun_of (p10 w os)) ?_
  refine piece_app (segRun_of (p12 w os)) ?_
  refine piece_app (segRun_of (p13 w os)) ?_
  refine piece_app (segRun_of (p18 w os)) ?_
  exact piece_nil (finRun w os)
end
end Mine
end
section
open PySem PySem.W PyProof.Rows
set_option maxRecDepth 100000
set_option linter.unusedVariables false
namespace Mine
noncomputable section


abbrev rw' := PySem.Challenge.rw_xn0019_01
def o21L : Params → Obj := by
  refine (?f : (n : Str) → (a : Arguments) → (b : List Stmt) → (d : _) → (r : _) → (tc : _) → (c : Scope) → (p : _) → (tp : _) → (x : _) → fn 0 = .FunctionDef n a b d r tc c p tp x → Params → Obj) _ _ _ _ _ _ _ _ _ _ rfl
  exact fun _ a b _ _ _ c _ _ _ _ P => { cls := (.type "function"), dict := none, data := .func { name := "_wall", qualname := "_wall", params := a, body := .stmts (b), scope := c, globals := 3, closure := [], defaults := .none, kwdefaults := .none, doc := .none, pyModule := (.str "__main__" 164), annotations := none, code := (.ref 20), closureTuple := .none, builtins := 0 }, slots := #[] }
def o67L : Params → Obj := by
  refine (?f : (n : Str) → (a : Arguments) → (b : List Stmt) → (d : _) → (r : _) → (tc : _) → (c : Scope) → (p : _) → (tp : _) → (x : _) → fn 3 = .FunctionDef n a b d r tc c p tp x → Params → Obj) _ _ _ _ _ _ _ _ _ _ rfl
  exact fun _ a b _ _ _ c _ _ _ _ P => { cls := (.type "function"), dict := none, data := .func { name := "map_table_b3", qualname := "map_table_b3", params := a, body := .stmts (b), scope := c, globals := 3, closure := [], defaults := .none, kwdefaults := .none, doc := .none, pyModule := (.str "cpy313.stringprep" 194), annotations := none, code := (.ref 66), closureTuple := .none, builtins := 0 }, slots := #[] }
def o79L : Params → Obj := by
  refine (?f : (n : Str) → (a : Arguments) → (b : List Stmt) → (d : _) → (r : _) → (tc : _) → (c : Scope) → (p : _) → (tp : _) → (x : _) → fn 5 = .FunctionDef n a b d r tc c p tp x → Params → Obj) _ _ _ _ _ _ _ _ _ _ rfl
  exact fun _ a b _ _ _ c _ _ _ _ P => { cls := (.type "function"), dict := none, data := .func { name := "in_table_c7", qualname := "in_table_c7", params := a, body := .stmts (b), scope := c, globals := 3, closure := [], defaults := .none, kwdefaults := .none, doc := .none, pyModule := (.str "cpy313.stringprep" 194), annotations := none, code := (.ref 78), closureTuple := .none, builtins := 0 }, slots := #[] }
def o97L : Params → Obj := by
  refine (?f : (n : Str) → (a : Arguments) → (b : List Stmt) → (d : _) → (r : _) → (tc : _) → (c : Scope) → (p : _) → (tp : _) → (x : _) → fn 7 = .FunctionDef n a b d r tc c p tp x → Params → Obj) _ _ _ _ _ _ _ _ _ _ rfl
  exact fun _ a b _ _ _ c _ _ _ _ P => { cls := (.type "function"), dict := none, data := .func { name := "in_table_c9", qualname := "in_table_c9", params := a, body := .stmts (b), scope := c, globals := 3, closure := [], defaults := .none, kwdefaults := .none, doc := .none, pyModule := (.str "cpy313.stringprep" 194), annotations := none, code := (.ref 96), closureTuple := .none, builtins := 0 }, slots := #[] }
def o114L : Params → Obj := by
  refine (?f : (n : Str) → (a : Arguments) → (b : List Stmt) → (d : _) → (r : _) → (tc : _) → (c : Scope) → (p : _) → (tp : _) → (x : _) → mt 10 0 = .FunctionDef n a b d r tc c p tp x → Params → Obj) _ _ _ _ _ _ _ _ _ _ rfl
  exact fun _ a b _ _ _ c _ _ _ _ P => { cls := (.type "function"), dict := none, data := .func { name := "__init__", qualname := "_Accumulator.__init__", params := a, body := .stmts (b), scope := c, globals := 3, closure := [("__class__", 101)], defaults := (.ref 106), kwdefaults := .none, doc := .none, pyModule := (.str "cpy313.email.header" 2397), annotations := none, code := (.ref 113), closureTuple := (.ref 107), builtins := 0 }, slots := #[] }
def o121L : Params → Obj := by
  refine (?f : (n : Str) → (a : Arguments) → (b : List Stmt) → (d : _) → (r : _) → (tc : _) → (c : Scope) → (p : _) → (tp : _) → (x : _) → mt 10 1 = .FunctionDef n a b d r tc c p tp x → Params → Obj) _ _ _ _ _ _ _ _ _ _ rfl
  exact fun _ a b _ _ _ c _ _ _ _ P => { cls := (.type "function"), dict := none, data := .func { name := "push", qualname := "_Accumulator.push", params := a, body := .stmts (b), scope := c, globals := 3, closure := [], defaults := .none, kwdefaults := .none, doc := .none, pyModule := (.str "cpy313.email.header" 2397), annotations := none, code := (.ref 120), closureTuple := .none, builtins := 0 }, slots := #[] }
def o129L : Params → Obj := by
  refine (?f : (n : Str) → (a : Arguments) → (b : List Stmt) → (d : _) → (r : _) → (tc : _) → (c : Scope) → (p : _) → (tp : _) → (x : _) → mt 10 2 = .FunctionDef n a b d r tc c p tp x → Params → Obj) _ _ _ _ _ _ _ _ _ _ rfl
  exact fun _ a b _ _ _ c _ _ _ _ P => { cls := (.type "function"), dict := none, data := .func { name := "pop_from", qualname := "_Accumulator.pop_from", params := a, body := .stmts (b), scope := c, globals := 3, closure := [], defaults := (.ref 122), kwdefaults := .none, doc := .none, pyModule := (.str "cpy313.email.header" 2397), annotations := none, code := (.ref 128), closureTuple := .none, builtins := 0 }, slots := #[] }
def o136L : Params → Obj := by
  refine (?f : (n : Str) → (a : Arguments) → (b : List Stmt) → (d : _) → (r : _) → (tc : _) → (c : Scope) → (p : _) → (tp : _) → (x : _) → mt 10 3 = .FunctionDef n a b d r tc c p tp x → Params → Obj) _ _ _ _ _ _ _ _ _ _ rfl
  exact fun _ a b _ _ _ c _ _ _ _ P => { cls := (.type "function"), dict := none, data := .func { name := "pop", qualname := "_Accumulator.pop", params := a, body := .stmts (b), scope := c, globals := 3, closure := [], defaults := .none, kwdefaults := .none, doc := .none, pyModule := (.str "cpy313.email.header" 2397), annotations := none, code := (.ref 135), closureTuple := .none, builtins := 0 }, slots := #[] }
def o143L : Params → Obj := by
  refine (?f : (n : Str) → (a : Arguments) → (b : List Stmt) → (d : _) → (r : _) → (tc : _) → (c : Scope) → (p : _) → (tp : _) → (x : _) → mt 10 4 = .FunctionDef n a b d r tc c p tp x → Params → Obj) _ _ _ _ _ _ _ _ _ _ rfl
  exact fun _ a b _ _ _ c _ _ _ _ P => { cls := (.type "function"), dict := none, data := .func { name := "__len__", qualname := "_Accumulator.__len__", params := a, body := .stmts (b), scope := c, globals := 3, closure := [], defaults := .none, kwdefaults := .none, doc := .none, pyModule := (.str "cpy313.email.header" 2397), annotations := none, code := (.ref 142), closureTuple := .none, builtins := 0 }, slots := #[] }
def o150L : Params → Obj := by
  refine (?f : (n : Str) → (a : Arguments) → (b : List Stmt) → (d : _) → (r : _) → (tc : _) → (c : Scope) → (p : _) → (tp : _) → (x : _) → mt 10 5 = .FunctionDef n a b d r tc c p tp x → Params → Obj) _ _ _ _ _ _ _ _ _ _ rfl
  exact fun _ a b _ _ _ c _ _ _ _ P => { cls := (.type "function"), dict := none, data := .func { name := "__str__", qualname := "_Accumulator.__str__", params := a, body := .stmts (b), scope := c, globals := 3, closure := [], defaults := .none, kwdefaults := .none, doc := .none, pyModule := (.str "cpy313.email.header" 2397), annotations := none, code := (.ref 149), closureTuple := .none, builtins := 0 }, slots := #[] }
def o158L : Params → Obj := by
  refine (?f : (n : Str) → (a : Arguments) → (b : List Stmt) → (d : _) → (r : _) → (tc : _) → (c : Scope) → (p : _) → (tp : _) → (x : _) → mt 10 6 = .FunctionDef n a b d r tc c p tp x → Params → Obj) _ _ _ _ _ _ _ _ _ _ rfl
  exact fun _ a b _ _ _ c _ _ _ _ P => { cls := (.type "function"), dict := none, data := .func { name := "reset", qualname := "_Accumulator.reset", params := a, body := .stmts (b), scope := c, globals := 3, closure := [], defaults := (.ref 151), kwdefaults := .none, doc := .none, pyModule := (.str "cpy313.email.header" 2397), annotations := none, code := (.ref 157), closureTuple := .none, builtins := 0 }, slots := #[] }
def o165L : Params → Obj := by
  refine (?f : (n : Str) → (a : Arguments) → (b : List Stmt) → (d : _) → (r : _) → (tc : _) → (c : Scope) → (p : _) → (tp : _) → (x : _) → mt 10 7 = .FunctionDef n a b d r tc c p tp x → Params → Obj) _ _ _ _ _ _ _ _ _ _ rfl
  exact fun _ a b _ _ _ c _ _ _ _ P => { cls := (.type "function"), dict := none, data := .func { name := "is_onlyws", qualname := "_Accumulator.is_onlyws", params := a, body := .stmts (b), scope := c, globals := 3, closure := [], defaults := .none, kwdefaults := .none, doc := .none, pyModule := (.str "cpy313.email.header" 2397), annotations := none, code := (.ref 164), closureTuple := .none, builtins := 0 }, slots := #[] }
def o172L : Params → Obj := by
  refine (?f : (n : Str) → (a : Arguments) → (b : List Stmt) → (d : _) → (r : _) → (tc : _) → (c : Scope) → (p : _) → (tp : _) → (x : _) → mt 10 8 = .FunctionDef n a b d r tc c p tp x → Params → Obj) _ _ _ _ _ _ _ _ _ _ rfl
  exact fun _ a b _ _ _ c _ _ _ _ P => { cls := (.type "function"), dict := none, data := .func { name := "part_count", qualname := "_Accumulator.part_count", params := a, body := .stmts (b), scope := c, globals := 3, closure := [], defaults := .none, kwdefaults := .none, doc := .none, pyModule := (.str "cpy313.email.header" 2397), annotations := none, code := (.ref 171), closureTuple := .none, builtins := 0 }, slots := #[] }
def o211L : Params → Obj := by
  refine (?f : (n : Str) → (a : Arguments) → (b : List Stmt) → (d : _) → (r : _) → (tc : _) → (c : Scope) → (p : _) → (tp : _) → (x : _) → fn 14 = .FunctionDef n a b d r tc c p tp x → Params → Obj) _ _ _ _ _ _ _ _ _ _ rfl
  exact fun _ a b _ _ _ c _ _ _ _ P => { cls := (.type "function"), dict := none, data := .func { name := "parse257", qualname := "parse257", params := a, body := .stmts (b), scope := c, globals := 3, closure := [], defaults := .none, kwdefaults := .none, doc := .none, pyModule := (.str "cpy313.ftplib" 2494), annotations := none, code := (.ref 210), closureTuple := .none, builtins := 0 }, slots := #[] }
def o216L : Params → Obj := by
  refine (?f : (n : Str) → (a : Arguments) → (b : List Stmt) → (d : _) → (r : _) → (tc : _) → (c : Scope) → (p : _) → (tp : _) → (x : _) → fn 16 = .FunctionDef n a b d r tc c p tp x → Params → Obj) _ _ _ _ _ _ _ _ _ _ rfl
  exact fun _ a b _ _ _ c _ _ _ _ P => { cls := (.type "function"), dict := none, data := .func { name := "_law_walk", qualname := "_law_walk", params := a, body := .stmts (b), scope := c, globals := 3, closure := [], defaults := .none, kwdefaults := .none, doc := .none, pyModule := (.str "law_xn0019_01" 2543), annotations := none, code := (.ref 215), closureTuple := .none, builtins := 0 }, slots := #[] }
def o223L : Params → Obj := by
  refine (?f : (n : Str) → (a : Arguments) → (b : List Stmt) → (d : _) → (r : _) → (tc : _) → (c : Scope) → (p : _) → (tp : _) → (x : _) → fn 17 = .FunctionDef n a b d r tc c p tp x → Params → Obj) _ _ _ _ _ _ _ _ _ _ rfl
  exact fun _ a b _ _ _ c _ _ _ _ P => { cls := (.type "function"), dict := none, data := .func { name := "_law_ways", qualname := "_law_ways", params := a, body := .stmts (b), scope := c, globals := 3, closure := [], defaults := .none, kwdefaults := .none, doc := .none, pyModule := (.str "law_xn0019_01" 2543), annotations := none, code := (.ref 222), closureTuple := .none, builtins := 0 }, slots := #[] }
def o228L : Params → Obj := by
  refine (?f : (n : Str) → (a : Arguments) → (b : List Stmt) → (d : _) → (r : _) → (tc : _) → (c : Scope) → (p : _) → (tp : _) → (x : _) → fn 18 = .FunctionDef n a b d r tc c p tp x → Params → Obj) _ _ _ _ _ _ _ _ _ _ rfl
  exact fun _ a b _ _ _ c _ _ _ _ P => { cls := (.type "function"), dict := none, data := .func { name := "law", qualname := "law", params := a, body := .stmts (b), scope := c, globals := 3, closure := [], defaults := .none, kwdefaults := .none, doc := .none, pyModule := (.str "law_xn0019_01" 2543), annotations := none, code := (.ref 227), closureTuple := .none, builtins := 0 }, slots := #[] }
def K (P : Params) : Frag := (nat_lit 0, boot_o_0 P) :: (nat_lit 2, o2 P) :: (nat_lit 3, o3v11 P) :: (nat_lit 15, o15 P) :: (nat_lit 17, o17 P) :: (nat_lit 18, o18 P) :: (nat_lit 20, o20 P) :: (nat_lit 21, o21L P) :: (nat_lit 22, o22 P) :: (nat_lit 61, o61 P) :: (nat_lit 63, o63 P) :: (nat_lit 64, o64 P) :: (nat_lit 66, o66 P) :: (nat_lit 67, o67L P) :: (nat_lit 69, o69 P) :: (nat_lit 73, o73 P) :: (nat_lit 75, o75 P) :: (nat_lit 76, o76 P) :: (nat_lit 78, o78 P) :: (nat_lit 79, o79L P) :: (nat_lit 87, o87v5 P) :: (nat_lit 91, o91 P) :: (nat_lit 93, o93 P) :: (nat_lit 94, o94 P) :: (nat_lit 96, o96 P) :: (nat_lit 97, o97L P) :: (nat_lit 98, o98 P) :: (nat_lit 101, o101 P) :: (nat_lit 106, o106 P) :: (nat_lit 107, o107 P) :: (nat_lit 108, o108 P) :: (nat_lit 110, o110 P) :: (nat_lit 111, o111 P) :: (nat_lit 113, o113 P) :: (nat_lit 114, o114L P) :: (nat_lit 115, o115 P) :: (nat_lit 117, o117 P) :: (nat_lit 118, o118 P) :: (nat_lit 120, o120 P) :: (nat_lit 121, o121L P) :: (nat_lit 122, o122 P) :: (nat_lit 123, o123 P) :: (nat_lit 125, o125 P) :: (nat_lit 126, o126 P) :: (nat_lit 128, o128 P) :: (nat_lit 129, o129L P) :: (nat_lit 130, o130 P) :: (nat_lit 132, o132 P) :: (nat_lit 133, o133 P) :: (nat_lit 135, o135 P) :: (nat_lit 136, o136L P) :: (nat_lit 137, o137 P) :: (nat_lit 139, o139 P) :: (nat_lit 140, o140 P) :: (nat_lit 142, o142 P) :: (nat_lit 143, o143L P) :: (nat_lit 144, o144 P) :: (nat_lit 146, o146 P) :: (nat_lit 147, o147 P) :: (nat_lit 149, o149 P) :: (nat_lit 150, o150L P) :: (nat_lit 151, o151 P) :: (nat_lit 152, o152 P) :: (nat_lit 154, o154 P) :: (nat_lit 155, o155 P) :: (nat_lit 157, o157 P) :: (nat_lit 158, o158L P) :: (nat_lit 159, o159 P) :: (nat_lit 161, o161 P) :: (nat_lit 162, o162 P) :: (nat_lit 164, o164 P) :: (nat_lit 165, o165L P) :: (nat_lit 166, o166 P) :: (nat_lit 168, o168 P) :: (nat_lit 169, o169 P) :: (nat_lit 171, o171 P) :: (nat_lit 172, o172L P) :: (nat_lit 173, o173 P) :: (nat_lit 174, o174 P) :: (nat_lit 175, o175 P) :: (nat_lit 176, o176 P) :: (nat_lit 177, o177 P) :: (nat_lit 180, o180 P) :: (nat_lit 187, o187 P) :: (nat_lit 188, o188 P) :: (nat_lit 189, o189v1 P) :: (nat_lit 190, o190 P) :: (nat_lit 193, o193 P) :: (nat_lit 200, o200 P) :: (nat_lit 201, o201 P) :: (nat_lit 202, o202 P) :: (nat_lit 205, o205 P) :: (nat_lit 207, o207 P) :: (nat_lit 208, o208 P) :: (nat_lit 210, o210 P) :: (nat_lit 211, o211L P) :: (nat_lit 212, o212 P) :: (nat_lit 215, o215 P) :: (nat_lit 216, o216L P) :: (nat_lit 217, o217 P) :: (nat_lit 219, o219 P) :: (nat_lit 220, o220 P) :: (nat_lit 222, o222 P) :: (nat_lit 223, o223L P) :: (nat_lit 224, o224 P) :: (nat_lit 227, o227 P) :: (nat_lit 228, o228L P) :: []
def kas : List Addr := nat_lit 0 :: nat_lit 2 :: nat_lit 3 :: nat_lit 15 :: nat_lit 17 :: nat_lit 18 :: nat_lit 20 :: nat_lit 21 :: nat_lit 22 :: nat_lit 61 :: nat_lit 63 :: nat_lit 64 :: nat_lit 66 :: nat_lit 67 :: nat_lit 69 :: nat_lit 73 :: nat_lit 75 :: nat_lit 76 :: nat_lit 78 :: nat_lit 79 :: nat_lit 87 :: nat_lit 91 :: nat_lit 93 :: nat_lit 94 :: nat_lit 96 :: nat_lit 97 :: nat_lit 98 :: nat_lit 101 :: nat_lit 106 :: nat_lit 107 :: nat_lit 108 :: nat_lit 110 :: nat_lit 111 :: nat_lit 113 :: nat_lit 114 :: nat_lit 115 :: nat_lit 117 :: nat_lit 118 :: nat_lit 120 :: nat_lit 121 :: nat_lit 122 :: nat_lit 123 :: nat_lit 125 :: nat_lit 126 :: nat_lit 128 :: nat_lit 129 :: nat_lit 130 :: nat_lit 132 :: nat_lit 133 :: nat_lit 135 :: nat_lit 136 :: nat_lit 137 :: nat_lit 139 :: nat_lit 140 :: nat_lit 142 :: nat_lit 143 :: nat_lit 144 :: nat_lit 146 :: nat_lit 147 :: nat_lit 149 :: nat_lit 150 :: nat_lit 151 :: nat_lit 152 :: nat_lit 154 :: nat_lit 155 :: nat_lit 157 :: nat_lit 158 :: nat_lit 159 :: nat_lit 161 :: nat_lit 162 :: nat_lit 164 :: nat_lit 165 :: nat_lit 166 :: nat_lit 168 :: nat_lit 169 :: nat_lit 171 :: nat_lit 172 :: nat_lit 173 :: nat_lit 174 :: nat_lit 175 :: nat_lit 176 :: nat_lit 177 :: nat_lit 180 :: nat_lit 187 :: nat_lit 188 :: nat_lit 189 :: nat_lit 190 :: nat_lit 193 :: nat_lit 200 :: nat_lit 201 :: nat_lit 202 :: nat_lit 205 :: nat_lit 207 :: nat_lit 208 :: nat_lit 210 :: nat_lit 211 :: nat_lit 212 :: nat_lit 215 :: nat_lit 216 :: nat_lit 217 :: nat_lit 219 :: nat_lit 220 :: nat_lit 222 :: nat_lit 223 :: nat_lit 224 :: nat_lit 227 :: nat_lit 228 :: []
theorem kas_eq (P : Params) : kas = (K P).map (·.1) := by kernel_rfl
abbrev H : Hook := kmHook K kas kas_eq [138, 145]
def q : Program := view pw [18]
def loose : List Str := ["_wall", "b3_exceptions", "map_table_b3", "c7_set", "in_table_c7", "c9_set", "in_table_c9", "EMPTYSTRING", "_Accumulator", "Error", "error_reply", "parse257", "_law_walk", "_law_ways"]
abbrev RW : RowW := rw'.row.toRowW
abbrev Xt : Shared → Bool := fun s => xlAt q [] s && recOk (RowW.records RW) s
abbrev H1 (P : Params) : Heap := absHeap (t_s18 P) 229 lf
abbrev e1 (w : World) (os : OsState) : Shared := ⟨H1 w.params, #[], boot_drawn, 2569, os⟩
abbrev mods : List Str := importedModules pw.main.body
theorem open1 : ∀ w : World, (fencedOpening treeTable pw w 40000).map (fun s => (s.heap, s.gens, s.drawn, s.toks)) = some (boot_heap w.params, Array.mk [], boot_drawn, boot_toks) :=
  boot_open (by kernel_rfl) (by decide +kernel) (fun s => by kernel_rfl)
theorem size1 : ∀ w : World, ((boot_heap w.params).isNs mainGlobals && (#[] : Array GenState).size == 0, (boot_heap w.params).objs.size, (boot_heap w.params).nsMap mainGlobals "__annotations__") = (true, 11, ann) := fun w => by kernel_rfl
theorem l1 (w : World) (os : OsState) : staticsOk mods (boot_heap w.params) (H1 w.params) = true := by kernel_rfl
theorem l2 (w : World) (os : OsState) : namesBound pw (H1 w.params) = true := by kernel_rfl
theorem l3 (w : World) (os : OsState) : gensDone (e1 w os) = true := by kernel_rfl
theorem l4 (w : World) (os : OsState) : laidKept (boot_heap w.params) (H1 w.params) = true := by kernel_rfl
end
end Mine
end
section
open PySem PySem.W PyProof.Rows
set_option maxRecDepth 100000
set_option linter.unusedVariables false
namespace Mine
noncomputable section


theorem g1 (w : World) (os : OsState) : seen ((recsOf q).map (·.name)) (ownsOf q) [] { e1 w os with gens := #[] } = expectedOf q := by kernel_rfl
theorem g2 (w : World) (os : OsState) : (e1 w os).heap.bltView = bltViewBooted := by kernel_rfl
theorem g3a (w : World) (os : OsState) : (e1 w os).heap.keysOk (looseW q loose) ((recsOf q).map (·.name)) ((litsOf q).map (·.1)) ((clssOf q (looseW q loose)).map (·.name)) = true := by kernel_rfl
theorem g3b (w : World) (os : OsState) : ((e1 w os).heap.accountedOkI mods && (e1 w os).heap.isNs mainGlobals && (e1 w os).heap.isNs builtinsNs) = true := by kernel_rfl
theorem g3c (w : World) (os : OsState) : tablesOk q (e1 w os).heap = true := by kernel_rfl
theorem g3d (w : World) (os : OsState) : Xt (e1 w os) = true := by kernel_rfl
theorem g4 (w : World) (os : OsState) : tabsOk q (e1 w os) = true := by kernel_rfl
theorem g5 (w : World) (os : OsState) : pinSeenD q (drecsOf q) (e1 w os) = pinGoodD (drecsOf q) := by kernel_rfl
theorem g6 (w : World) (os : OsState) : plainSeenE q (looseW q loose) (e1 w os) = plainGoodE q (looseW q loose) := by kernel_rfl
theorem g7 (w : World) (os : OsState) : plainSeenD q loose (e1 w os) = plainGoodD q loose := by kernel_rfl
theorem g8 (w : World) (os : OsState) : wideSeen q (e1 w os) = wideGood q := by kernel_rfl
theorem g9 (w : World) (os : OsState) : clsSeenW q loose (e1 w os) = clsGoodW q loose := by kernel_rfl
theorem gH (w : World) (os : OsState) : Hook.obs H (e1 w os) = Hook.val H w := by kernel_rfl
end
end Mine
end
section
open PySem PySem.W PyProof.Rows
set_option maxRecDepth 100000
set_option linter.unusedVariables false
namespace Mine
noncomputable section
theorem left : LeftO pw q loose Xt (Hook.obs H) (Hook.val H) 40000 := by
  refine LeftO.of_pieces (H₀ := boot_heap) (H₁ := H1) (gs₀ := #[]) (gs₁ := #[]) (d₀ := boot_drawn) (d₁ := boot_drawn) (k₀ := boot_toks) (k₁ := 2569) (m₀ := 11) (ann := ann) (M := Msteps) open1 size1 (fun w os => runAll w os) (by decide +kernel) (fun w => ?_)
  funext os
  refine looks_pair ?_ (looks_pair ?_ (gH w os))
  · show (staticsOk mods (boot_heap w.params) (H1 w.params) && namesBound pw (H1 w.params) && gensDone (e1 w os) && laidKept (boot_heap w.params) (H1 w.params)) = true
    rw [l1 w os, l2 w os, l3 w os, l4 w os]; rfl
  · unfold openSeen openGood
    refine looks_pair (g1 w os) (looks_pair (g2 w os) (looks_pair ?_ (looks_pair (g4 w os) (looks_pair (g5 w os) (looks_pair (g6 w os) (looks_pair (g7 w os) (looks_pair (g8 w os) (g9 w os))))))))
    show ((e1 w os).heap.keysOk _ _ _ _ && (e1 w os).heap.accountedOkI mods && (e1 w os).heap.isNs mainGlobals && (e1 w os).heap.isNs builtinsNs && tablesOk q (e1 w os).heap && Xt (e1 w os) && true) = true
    have b := g3b w os
    simp only [Bool.and_eq_true] at b ⊢
    exact ⟨⟨⟨⟨⟨⟨g3a w os, b.1.1⟩, b.1.2⟩, b.2⟩, g3c w os⟩, Bool.and_eq_true_iff.mp (g3d w os)⟩, trivial⟩


theorem hd (d : DefRec) (kwd : List (Str × Expr)) (hdef : defOf q rw'.row.name = some (d, kwd)) (hp : rw'.row.prog.theDef rw'.row.name = some (d.params, d.body, d.scope)) (hk : kwWritten? d.params.kwonlyargs d.params.kw_defaults = some kwd)
    (walk : WalkO q loose (XL q []) (Hook.says H) RW d kwd fun f vs => PySem.call f vs) : PySem.Challenge.rw_xn0019_01.Holds := by
  w_on
  refine holds_law (by rw [PySem.W.Fast.te9446332074065402090]; kernel_rfl) fun said => ?_
  refine holds_open (q := q) (loose := loose) (Xt := Xt) (XP := XL q []) (Yf := Hook.obs H) (Ya := Hook.val H) (YP := Hook.says H) (N := 40000) left (Hook.of H) (Hook.keeps H) (fun s e => xl_of s (Bool.and_eq_true_iff.mp e).1) XL.keeps hdef hp hk (fun s e => recFacts_of (Bool.and_eq_true_iff.mp e).2) (by rfl) (by first | assumption | decide +kernel) (by decide +kernel) ⟨rfl, rfl, rfl, rfl, rfl, by decide +kernel⟩ ?hw walk
  case hw => w_witness2
end
end Mine
end
section
open PySem PySem.W PyProof.Rows
set_option maxRecDepth 100000
set_option linter.unusedVariables false
namespace Mine
abbrev PR : Program := RW.prog
def intsOf (l : List (Int × Value)) : List Int := l.map (·.1)
def okInts (l : List (Int × Value)) : Bool := l.all fun e => e.2.isInt e.1 && (hashInt e.1 == e.1) && e.2.scannable
theorem elems_ok {w : World} {l : List (Int × Value)} (h : okInts l = true) : ElemsOf (intKind PR w) l := by
  intro e he
  have := List.all_eq_true.mp h e he
  simp only [Bool.and_eq_true, beq_iff_eq] at this
  exact ⟨⟨e.1, this.1.1, this.1.2.symm⟩, this.2⟩
theorem mem_ok {w : World} {l : List (Int × Value)} (h : okInts l = true) (k : Int) : k ∈ intsOf l ↔ ∃ e ∈ l, (intKind PR w).is k e.2 = true := by
  constructor
  · intro hk
    obtain ⟨e, he, rfl⟩ := List.mem_map.mp hk
    have := List.all_eq_true.mp h e he
    simp only [Bool.and_eq_true] at this
    exact ⟨e, he, this.1.1⟩
  · rintro ⟨e, he, hk⟩
    have := List.all_eq_true.mp h e he
    simp only [Bool.and_eq_true] at this
    have := (intKind PR w).inj e.2 _ _ this.1.1 hk
    subst this
    exact List.mem_map.mpr ⟨e, he, rfl⟩
theorem set_of {w : World} {h : Heap} {a : Addr} {es : Array (Int × Value)} {n : Nat} {t : SetTable} (ho : h.get? a = some { cls := .type "set", data := .set es n t }) (h1 : okInts es.toList = true) (h2 : es.size < scanBound) (h3 : t.fits es.size = true) {S : Int → Bool} (hS : ∀ k, S k = true ↔ k ∈ intsOf es.toList) :
    h.SetOf (intKind PR w) a S es.size :=
  ⟨_, es, n, t, ho, ⟨rfl, rfl, rfl⟩, rfl, elems_ok h1, fun k => (hS k).trans (mem_ok h1 k), h2, h3, rfl⟩
def S7 (k : Int) : Bool := decide (12272 ≤ k ∧ k < 12284)
def S9 (k : Int) : Bool := decide (k = 917505 ∨ (917536 ≤ k ∧ k < 917632))
def es7 (P : Params) : Array (Int × Value) := match (o69 P).data with
  | .set es _ _ => es
  | _ => #[]
def es9 (P : Params) : Array (Int × Value) := match (o87v5 P).data with
  | .set es _ _ => es
  | _ => #[]
theorem mem7 (P : Params) (k : Int) : S7 k = true ↔ k ∈ intsOf (es7 P).toList := by
  have a : (intsOf (es7 P).toList).all S7 = true := by kernel_rfl
  have b : (List.range 12).all (fun j => (intsOf (es7 P).toList).contains (Int.ofNat (12272 + j))) = true := by kernel_rfl
  constructor
  · intro h
    have h := of_decide_eq_true h
    have := List.all_eq_true.mp b (k.toNat - 12272) (List.mem_range.mpr (by omega))
    rw [show (Int.ofNat (12272 + (k.toNat - 12272)) : Int) = k by simp; omega] at this
    simpa using this
  · exact fun h => List.all_eq_true.mp a k h
theorem mem9 (P : Params) (k : Int) : S9 k = true ↔ k ∈ intsOf (es9 P).toList := by
  have a : (intsOf (es9 P).toList).all S9 = true := by kernel_rfl
  have b : (List.range 96).all (fun j => (intsOf (es9 P).toList).contains (Int.ofNat (917536 + j))) = true := by kernel_rfl
  have c : (intsOf (es9 P).toList).contains 917505 = true := by kernel_rfl
  constructor
  · intro h
    rcases of_decide_eq_true h with h | h
    · subst h; simpa using c
    · have := List.all_eq_true.mp b (k.toNat - 917536) (List.mem_range.mpr (by omega))
      rw [show (Int.ofNat (917536 + (k.toNat - 917536)) : Int) = k by simp; omega] at this
      simpa using this
  · exact fun h => List.all_eq_true.mp a k h
theorem set7 {w : World} {h : Heap} (X : (K w.params).In h) : h.SetOf (intKind PR w) 69 S7 12 := by
  have ho : h.get? 69 = some (o69 w.params) := X 69 _ (by kernel_rfl)
  have hs : (es7 w.params).size = 12 := by kernel_rfl
  rw [← hs]
  exact set_of (t := match (o69 w.params).data with | .set _ _ t => t | _ => default) (n := match (o69 w.params).data with | .set _ n _ => n | _ => 0) (ho.trans (by kernel_rfl)) (by kernel_rfl) (by rw [hs]; decide) (by kernel_rfl) (mem7 _)
theorem set9 {w : World} {h : Heap} (X : (K w.params).In h) : h.SetOf (intKind PR w) 87 S9 97 := by
  have ho : h.get? 87 = some (o87v5 w.params) := X 87 _ (by kernel_rfl)
  have hs : (es9 w.params).size = 97 := by kernel_rfl
  rw [← hs]
  exact set_of (t := match (o87v5 w.params).data with | .set _ _ t => t | _ => default) (n := match (o87v5 w.params).data with | .set _ n _ => n | _ => 0) (ho.trans (by kernel_rfl)) (by kernel_rfl) (by rw [hs]; decide) (by kernel_rfl) (mem9 _)
theorem SetOf.keep {w : World} {h h' : Heap} {a : Addr} {S : Int → Bool} {n : Nat} (x : h.SetOf (intKind PR w) a S n) (k : ∀ b o, h.get? b = some o → h'.get? b = some o) : h'.SetOf (intKind PR w) a S n := by
  obtain ⟨o, es, ep, t, ho, r⟩ := x
  exact ⟨o, es, ep, t, k _ _ ho, r⟩
theorem in7 {w : World} {A : Around} {E : Value → Shared → Prop} {s : Shared} {h₀ : Heap} {L : Addr} {m : Str → Option Value} {k : Int} {u : Tok} {Q : Value → Shared → Prop} (X : (K w.params).In h₀) (F : Fr h₀ L s.heap m) (h : Q (.bool (S7 k)) { s with toks := s.toks + 1 }) :
    wpAny (model PR w) A (compareOp .In (.int k u) (.ref 69)) Q E s :=
  wpAny_inSet_of (knd := intKind PR w) (k := k) (by show Value.isInt k (.int k u) = true; simp [Value.isInt]) rfl (SetOf.keep (set7 X) F.keep) h
theorem in9 {w : World} {A : Around} {E : Value → Shared → Prop} {s : Shared} {h₀ : Heap} {L : Addr} {m : Str → Option Value} {k : Int} {u : Tok} {Q : Value → Shared → Prop} (X : (K w.params).In h₀) (F : Fr h₀ L s.heap m) (h : Q (.bool (S9 k)) { s with toks := s.toks + 1 }) :
    wpAny (model PR w) A (compareOp .In (.int k u) (.ref 87)) Q E s :=
  wpAny_inSet_of (knd := intKind PR w) (k := k) (by show Value.isInt k (.int k u) = true; simp [Value.isInt]) rfl (SetOf.keep (set9 X) F.keep) h
end Mine
end
section
open PySem PySem.W PyProof.Rows
set_option linter.unusedVariables false
namespace Mine
abbrev Pc (w : World) (mean : ExcName → Option Value) (mg mb : Str → Option Value) (f : Addr) (vs : List Value) (pre : Prop) (R : Tok → Value) : Prop :=
  ∀ news : CbLed, CbClaim PR w (K w.params) q (looseW q loose) mean mg mb f news [] pre vs R
local macro_rules | `(tactic| walk_at "compareOp In int ref") => `(tactic| (k_here; first | (refine' in7 ?k1 ?k2 ?_; (case k1 => k_asm); (case k2 => k_asm); k_whole) | (refine' in9 ?k1 ?k2 ?_; (case k1 => k_asm); (case k2 => k_asm); k_whole)))
set_option maxRecDepth 100000 in
set_option maxHeartbeats 8000000 in
theorem c7 (w : World) (mean : ExcName → Option Value) (mg mb : Str → Option Value) (n : Nat) (t : Tok) : Pc w mean mg mb 79 [.str ⟨#[n]⟩ t] True (fun _ => .bool (S7 n)) := by
  have h0 : PySem.Challenge.rw_xn0019_01.prog = PySem.Challenge.rw_xn0019_01.prog ∧ K = K := ⟨rfl, rfl⟩; revert h0; k_fill; w_top off; k_with_none; intro h0; clear h0
  intro news
  dsimp only [CbClaim, CbLists, CbRet]
  intros; rename_i hret
  refine wpAny_call ?_
  k_dflt cell_enter
  k_steps
  all_goals cb_end hret
set_option maxRecDepth 100000 in
set_option maxHeartbeats 8000000 in
theorem c9 (w : World) (mean : ExcName → Option Value) (mg mb : Str → Option Value) (n : Nat) (t : Tok) : Pc w mean mg mb 97 [.str ⟨#[n]⟩ t] True (fun _ => .bool (S9 n)) := by
  have h0 : PySem.Challenge.rw_xn0019_01.prog = PySem.Challenge.rw_xn0019_01.prog ∧ K = K := ⟨rfl, rfl⟩; revert h0; k_fill; w_top off; k_with_none; intro h0; clear h0
  intro news
  dsimp only [CbClaim, CbLists, CbRet]
  intros; rename_i hret
  refine wpAny_call ?_
  k_dflt cell_enter
  k_steps
  all_goals cb_end hret
end Mine
end
section
open PySem PySem.W PyProof.Rows
set_option maxRecDepth 100000
set_option linter.unusedVariables false
namespace Mine
def codesL : List Nat := [8481, 13169, 13201, 13202, 13203, 13204, 13226, 13227, 13228, 13255, 13273, 64259, 64260]
def foldsL : List Str := ["tel", "hpa", "khz", "mhz", "ghz", "thz", "kpa", "mpa", "gpa", "co.", "ppm", "ffi", "ffl"]
def fold (j : Nat) : Str := foldsL.getD j default
def code (j : Nat) : Nat := codesL.getD j 0
theorem keys22 {w : World} : KeysOf (intKind PR w) mainEs.toArray := by
  have a : mainEs.all (fun e => e.key.isInt e.hash && (e.hash == hashInt e.hash)) = true := by decide +kernel
  intro e he
  have := List.all_eq_true.mp a e (by simpa using he)
  simp only [Bool.and_eq_true, beq_iff_eq] at this
  exact ⟨e.hash, this.1, this.2⟩
theorem find22 : (List.range 13).all (fun j => match findBy (fun k v => Value.isInt k v) mainEs.toArray (Int.ofNat (code j)) with | some (.str x _) => x == fold j | _ => false) = true := by decide +kernel
theorem find22' {j : Nat} (h : j < 13) : ∃ tk, findBy (fun k v => Value.isInt k v) mainEs.toArray (code j : Int) = some (.str (fold j) tk) := by
  have := List.all_eq_true.mp find22 j (List.mem_range.mpr h)
  rw [show Int.ofNat (code j) = (code j : Int) from rfl] at this
  split at this
  · rename_i x tk e
    exact ⟨tk, by rw [e, eq_of_beq this]⟩
  · cases this
theorem map22 {w : World} {h : Heap} (X : (K w.params).In h) : h.MapOf (intKind PR w) 22 (fun k => findBy (fun k v => Value.isInt k v) mainEs.toArray k) :=
  ⟨o22 w.params, mainEs.toArray, 650, X 22 (o22 w.params) (by kernel_rfl), ⟨rfl, rfl, rfl⟩, rfl, keys22, fun _ => rfl⟩
theorem MapOf.keep {w : World} {h h' : Heap} {a : Addr} {f : Int → Option Value} (x : h.MapOf (intKind PR w) a f) (k : ∀ b o, h.get? b = some o → h'.get? b = some o) : h'.MapOf (intKind PR w) a f := by
  obtain ⟨o, es, ep, ho, r⟩ := x
  exact ⟨o, es, ep, k _ _ ho, r⟩
theorem get22 {w : World} {A : Around} {E : Value → Shared → Prop} {s : Shared} {h₀ : Heap} {L : Addr} {m : Str → Option Value} {j : Nat} {u : Tok} {Q : Value → Shared → Prop} (X : (K w.params).In h₀) (F : Fr h₀ L s.heap m) (hj : j < 13) (h : ∀ tk, Q (.str (fold j) tk) { s with toks := s.toks + 1 }) :
    wpAny (model PR w) A (call (.builtin "dict.get") [.ref 22, .int (code j) u]) Q E s := by
  obtain ⟨tk, e⟩ := find22' hj
  have hd := MapOf.keep (map22 X) F.keep
  exact call_meetsIn PySem.F.slot_dict_get hd.typeIs PySem.F.entry_dict_get (PySem.F.args_dict_get_2 _ _) (meets_dict_get (intKind PR w) 22 (k := (code j : Int)) (by show Value.isInt _ (.int _ u) = true; simp [Value.isInt]) (by decide)) ⟨_, hd, by rw [e]; exact h tk⟩
theorem meth22 {w : World} {A : Around} {E : Value → Shared → Prop} {s : Shared} {h₀ : Heap} {L : Addr} {m : Str → Option Value} {pl : Sem Bool} {Q : Value × List Value → Shared → Prop} (X : (K w.params).In h₀) (F : Fr h₀ L s.heap m) (h : Q (.builtin "dict.get", [.ref 22]) s) :
    wpAny (model PR w) A (getMethod (.ref 22) "get" pl) Q E s :=
  have hd := MapOf.keep (map22 X) F.keep
  getMethod_builtin hd.typeIs PySem.F.plainAttrs_dict PySem.F.slot_dict_get PySem.F.type_dict_get hd.noDict h
end Mine
namespace Mine
local macro_rules | `(tactic| walk_at "call builtin:dict.get") => `(tactic| (k_here; (refine' get22 ?k1 ?k2 ?k3 ?_; (case k1 => k_asm); (case k2 => k_asm); (case k3 => assumption); k_whole; intro tk22)))
local macro_rules | `(tactic| walk_at "getMethod ref") => `(tactic| (k_here; (refine' meth22 ?k1 ?k2 ?_; (case k1 => k_asm); (case k2 => k_asm); k_whole)))
set_option maxRecDepth 100000 in
set_option maxHeartbeats 8000000 in
theorem b3c (w : World) (mean : ExcName → Option Value) (mg mb : Str → Option Value) (j : Nat) (t : Tok) (hj : j < 13) : Pc w mean mg mb 67 [.str ⟨#[code j]⟩ t] True (fun t => .str (fold j) t) := by
  have h0 : PySem.Challenge.rw_xn0019_01.prog = PySem.Challenge.rw_xn0019_01.prog ∧ K = K := ⟨rfl, rfl⟩; revert h0; k_fill; w_top off; k_with_none; intro h0; clear h0
  intro news
  dsimp only [CbClaim, CbLists, CbRet]
  intros; rename_i hret
  refine wpAny_call ?_
  k_dflt cell_enter
  k_steps
  all_goals cb_end hret
end Mine
end
section
open PySem PySem.W PyProof.Rows
set_option maxRecDepth 100000
set_option linter.unusedVariables false
namespace Mine
def rs (n mark : Nat) : Str := ⟨([50, 53, 55, 32, 34] ++ (List.replicate n 34 ++ [mark])).toArray⟩
def out (n mark : Nat) : Str := ⟨(List.replicate (n / 2) 34 ++ (if n % 2 = 0 then [mark] else [])).toArray⟩
def quotes (n : Nat) : Str := ⟨(List.replicate n 34).toArray⟩
theorem rs_len (n mark : Nat) : (rs n mark).length = n + 6 := by
  show (([50, 53, 55, 32, 34] ++ (List.replicate n 34 ++ [mark])).toArray).size = _
  simp
theorem out_len (n mark : Nat) : (out n mark).length ≤ n / 2 + 1 := by
  show ((List.replicate (n / 2) 34 ++ (if n % 2 = 0 then [mark] else [])).toArray).size ≤ _
  split <;> simp
theorem quotes_len (n : Nat) : (quotes n).length = n := by
  show ((List.replicate n 34).toArray).size = _
  simp
theorem rs_at (n mark i : Nat) : (rs n mark).cps[i]? = if i < 5 then [50, 53, 55, 32, 34][i]? else if i < n + 5 then some 34 else if i = n + 5 then some mark else none := by
  show (([50, 53, 55, 32, 34] ++ (List.replicate n 34 ++ [mark])).toArray)[i]? = _
  rw [List.getElem?_toArray, List.getElem?_append]
  by_cases h : i < 5
  · simp [h]
  · have h' : ¬ i < [50, 53, 55, 32, 34].length := h
    rw [if_neg h', if_neg h, List.getElem?_append, List.length_replicate]
    have e5 : i - [50, 53, 55, 32, 34].length = i - 5 := rfl
    rw [e5]
    by_cases h2 : i < n + 5
    · rw [if_pos h2, if_pos (by omega), List.getElem?_replicate, if_pos (by omega)]
    · rw [if_neg h2, if_neg (by omega)]
      by_cases h3 : i = n + 5
      · rw [if_pos h3]
        have : i - 5 - n = 0 := by omega
        rw [this]; rfl
      · rw [if_neg h3]
        apply List.getElem?_eq_none
        show 1 ≤ i - 5 - n
        omega
theorem idx_ok {i : Int} {n : Nat} (h0 : 0 ≤ i) (h1 : i < n) : seqIndex? i n = some i.toNat := by
  unfold seqIndex?
  have e : ¬ i < 0 := by omega
  simp only [e, if_false]
  simp; omega
theorem item_q {n mark : Nat} {i : Int} (h1 : 5 ≤ i) (h2 : i < n + 5) : Txt.item (rs n mark) i = ⟨#[34]⟩ := by
  unfold Txt.item Txt.charAt
  rw [rs_len, idx_ok (by omega) (by omega)]
  show (⟨#[((rs n mark).cps[i.toNat]?).getD 0]⟩ : Str) = _
  rw [rs_at, if_neg (by omega), if_pos (by omega)]
  rfl
theorem item_m {n mark : Nat} {i : Int} (h : i = n + 5) : Txt.item (rs n mark) i = ⟨#[mark]⟩ := by
  unfold Txt.item Txt.charAt
  rw [rs_len, idx_ok (by omega) (by omega)]
  show (⟨#[((rs n mark).cps[i.toNat]?).getD 0]⟩ : Str) = _
  rw [rs_at, if_neg (by omega), if_neg (by omega), if_pos (by omega)]
  rfl
theorem quote_is : Str.ofString "\"" = ⟨#[34]⟩ := by decide
theorem mark_ne {mark : Nat} (h : mark ≠ 34) : ((⟨#[mark]⟩ : Str) == Str.ofString "\"") = false := by
  rw [quote_is]
  exact beq_eq_false_iff_ne.mpr (fun e => h (by simpa using e))
def Inv (n mark : Nat) (i : Int) (d : Str) : Prop := (∃ j : Nat, i = 5 + 2 * (j : Int) ∧ d = quotes j ∧ 2 * j ≤ n) ∨ (i = n + 6 ∧ d = out n mark)
abbrev Inv' (n mark : Nat) (i : Int) (d : Str) : Prop := (5 ≤ i ∧ i ≤ n + 6 ∧ d.length ≤ 100) ∧ Inv n mark i d
theorem inv0 (n mark : Nat) : Inv' n mark 5 (Str.ofString "") := ⟨⟨by omega, by omega, by decide⟩, .inl ⟨0, rfl, rfl, Nat.zero_le _⟩⟩
theorem quotes_add (j : Nat) : quotes j ++ (⟨#[34]⟩ : Str) = quotes (j + 1) := by
  show (⟨(List.replicate j 34).toArray ++ #[34]⟩ : Str) = ⟨(List.replicate (j + 1) 34).toArray⟩
  rw [List.replicate_succ']; exact congrArg Str.mk (List.append_toArray (List.replicate j 34) [34])
theorem out_even {n mark j : Nat} (h : n = 2 * j) : quotes j ++ (⟨#[mark]⟩ : Str) = out n mark := by
  show (⟨(List.replicate j 34).toArray ++ #[mark]⟩ : Str) = ⟨(List.replicate (n / 2) 34 ++ (if n % 2 = 0 then [mark] else [])).toArray⟩
  rw [show n / 2 = j by omega, if_pos (by omega)]; exact congrArg Str.mk (List.append_toArray (List.replicate j 34) [mark])
theorem out_odd {n mark j : Nat} (h : n = 2 * j + 1) : quotes j = out n mark := by
  show (⟨(List.replicate j 34).toArray⟩ : Str) = ⟨(List.replicate (n / 2) 34 ++ (if n % 2 = 0 then [mark] else [])).toArray⟩
  rw [show n / 2 = j by omega, if_neg (by omega)]; simp
section
variable {n mark : Nat} {x : Str} {i : Int} {d : Str}
theorem inv_q (hx : rs n mark = x) (hm : mark ≠ 34) (hn : n ≤ 80) (I : Inv n mark i d) (h5 : 5 ≤ i) (h1 : (Txt.item x i == Str.ofString "\"") = true) (h2 : ¬ (x.length : Int) ≤ i + 1) (h3 : (Txt.item x (i + 1) != Str.ofString "\"") = false) : Inv' n mark (i + 1 + 1) (d ++ Txt.item x i) := by
  subst hx
  rw [rs_len] at h2
  rcases I with ⟨j, rfl, rfl, hj⟩ | ⟨rfl, rfl⟩
  · have a : 5 + 2 * (j : Int) + 1 ≠ n + 5 := by
      intro e
      rw [item_m e] at h3
      simp only [bne, mark_ne hm] at h3
      cases h3
    rw [item_q (by omega) (by omega), quotes_add]
    exact ⟨⟨by omega, by omega, by rw [quotes_len]; omega⟩, .inl ⟨j + 1, by omega, rfl, by omega⟩⟩
  · omega
theorem inv_m (hx : rs n mark = x) (hm : mark ≠ 34) (hn : n ≤ 80) (I : Inv n mark i d) (h5 : 5 ≤ i) (h0 : i < (x.length : Int)) (h1 : (Txt.item x i == Str.ofString "\"") = false) : Inv' n mark (i + 1) (d ++ Txt.item x i) := by
  subst hx
  rw [rs_len] at h0
  have a : i = n + 5 := by
    by_cases e : i = n + 5
    · exact e
    · rw [item_q h5 (by omega), quote_is] at h1
      cases h1
  rcases I with ⟨j, hj, rfl, hj2⟩ | ⟨e, _⟩
  · rw [item_m a, out_even (n := n) (by omega)]
    exact ⟨⟨by omega, by omega, by have := out_len n mark; omega⟩, .inr ⟨by omega, rfl⟩⟩
  · omega
theorem end_len (hx : rs n mark = x) (hm : mark ≠ 34) (I : Inv n mark i d) (h5 : 5 ≤ i) (h0 : i < (x.length : Int)) (h1 : (Txt.item x i == Str.ofString "\"") = true) (h2 : (x.length : Int) ≤ i + 1) : d = out n mark := by
  subst hx
  rw [rs_len] at h0 h2
  have a : i = n + 5 := by omega
  rw [item_m a, mark_ne hm] at h1
  cases h1
theorem end_q (hx : rs n mark = x) (hm : mark ≠ 34) (I : Inv n mark i d) (h5 : 5 ≤ i) (h0 : i < (x.length : Int)) (h1 : (Txt.item x i == Str.ofString "\"") = true) (h2 : ¬ (x.length : Int) ≤ i + 1) (h3 : (Txt.item x (i + 1) != Str.ofString "\"") = true) : d = out n mark := by
  subst hx
  rw [rs_len] at h0 h2
  have a : i + 1 = n + 5 := by
    by_cases e : i + 1 = n + 5
    · exact e
    · rw [item_q (by omega) (by omega), quote_is] at h3
      simp at h3
  rcases I with ⟨j, hj, rfl, hj2⟩ | ⟨e, _⟩
  · exact out_odd (by omega)
  · omega
theorem end_i (hx : rs n mark = x) (I : Inv n mark i d) (h5 : 5 ≤ i) (hi : i ≤ n + 6) (h0 : ¬ i < (x.length : Int)) : d = out n mark := by
  subst hx
  rw [rs_len] at h0
  rcases I with ⟨j, hj, rfl, hj2⟩ | ⟨_, e⟩
  · omega
  · exact e
theorem hdA (n mark : Nat) : (Txt.slice (rs n mark) none (some 3) != Str.ofString "257") = false := by
  have e : Builtin.Str.strSliceIndices none (some 3) 1 (rs n mark).length = [0, 1, 2] := by
    unfold Builtin.Str.strSliceIndices
    rw [rs_len]
    have a : max (0 : Int) (min 3 ((n : Int) + 6)) = 3 := by omega
    simp
    rw [a]
    rfl
  unfold Txt.slice
  rw [e, rs_len]
  have b : ((1 : Int) == 1 && ([0, 1, 2] : List Nat).length == n + 6) = false := by simp
  rw [b]
  simp only [Bool.false_eq_true, if_false, List.filterMap_cons, List.filterMap_nil, rs_at]
  rfl
theorem hdB (n mark : Nat) : (Txt.slice (rs n mark) (some 3) (some 5) != Str.ofString " \"") = false := by
  have e : Builtin.Str.strSliceIndices (some 3) (some 5) 1 (rs n mark).length = [3, 4] := by
    unfold Builtin.Str.strSliceIndices
    rw [rs_len]
    have a : max (0 : Int) (min 5 ((n : Int) + 6)) = 5 := by omega
    have a' : max (0 : Int) (min 3 ((n : Int) + 6)) = 3 := by omega
    simp
    rw [a, a']
    rfl
  unfold Txt.slice
  rw [e, rs_len]
  have b : ((1 : Int) == 1 && ([3, 4] : List Nat).length == n + 6) = false := by simp
  rw [b]
  simp only [Bool.false_eq_true, if_false, List.filterMap_cons, List.filterMap_nil, rs_at]
  rfl
end
end Mine
end
section
open PySem PySem.W PyProof.Rows
set_option maxRecDepth 100000
set_option linter.unusedVariables false
namespace Mine
set_option maxHeartbeats 8000000 in
theorem p257' (w : World) (mean : ExcName → Option Value) (mg mb : Str → Option Value) (n mark : Nat) (t : Tok) (x : Str) (hx : rs n mark = x) (hlen : x.length = n + 6) (hn : n ≤ 80) (hm : mark ≠ 34)
    (hA : (Txt.slice x none (some 3) != Str.ofString "257") = false) (hB : (Txt.slice x (some 3) (some 5) != Str.ofString " \"") = false) : Pc w mean mg mb 211 [.str x t] True (fun t => .str (out n mark) t) := by
  have h0 : PySem.Challenge.rw_xn0019_01.prog = PySem.Challenge.rw_xn0019_01.prog ∧ K = K := ⟨rfl, rfl⟩; revert h0; k_fill; w_top off; k_with_none; intro h0; clear h0
  intro news
  dsimp only [CbClaim, CbLists, CbRet]
  intros; rename_i hret
  refine wpAny_call ?_
  k_dflt cell_enter
  k_with "exec While Compare cons nil" => k_while (fun (script : List Int) (i : Int) (dirname : Str) => Inv' n mark i dirname) (fun (script : List Int) (i : Int) (dirname : Str) => n + 6 - i.toNat) "i" "dirname"
  k_with "state" => first | exact inv0 n mark | exact inv_q hx hm hn (by assumption) (by assumption) (by assumption) (by assumption) (by assumption) | exact inv_m hx hm hn (by assumption) (by assumption) (by assumption) (by assumption)
  k_with "tree" => first | exact end_len hx hm (by assumption) (by assumption) (by assumption) (by assumption) (by assumption) | exact end_q hx hm (by assumption) (by assumption) (by assumption) (by assumption) (by assumption) (by assumption) | exact end_i hx (by assumption) (by assumption) (by assumption) (by assumption)
  k_steps
  all_goals cb_end hret
theorem p257 (w : World) (mean : ExcName → Option Value) (mg mb : Str → Option Value) (n mark : Nat) (t : Tok) (hn : n ≤ 80) (hm : mark ≠ 34) : Pc w mean mg mb 211 [.str (rs n mark) t] True (fun t => .str (out n mark) t) :=
  p257' w mean mg mb n mark t _ rfl (rs_len n mark) hn hm (hdA n mark) (hdB n mark)
end Mine
end
section
open PySem PySem.W PyProof.Rows
set_option maxRecDepth 100000
set_option linter.unusedVariables false
namespace Mine
def wstep (way : Int) (x : Int) (s : Int) : Int := if (way.fdiv (2 ^ s.toNat)).fmod 2 = 1 then 3 * x + 2 ^ s.toNat else x
def wholeF (way b : Int) (ss : List Int) : Int := ss.foldl (wstep way) b
def rng (k : Int) : List Int := rangeKs 0 (k - 0).toNat
def hit (b k way : Int) : Bool := (wholeF way b (rng k)).fmod (2 ^ k.toNat) == 0
def fitsD (b k : Int) (pre : List Int) : List Dat := (pre.filter (hit b k)).map fun way => Dat.tuple [.int way, .int ((wholeF way b (rng k)).fdiv (2 ^ k.toNat))]
def WI (ww b : Int) (pre : List Int) (x : Int) : Prop := x = wholeF ww b pre
abbrev WI' (ww b : Int) (pre : List Int) (x : Int) : Prop := WI ww b pre x ∧ 0 ≤ x ∧ x ≤ 25 * 4 ^ pre.length
theorem wi0 {ww b : Int} (hb : 0 ≤ b) (hb' : b < 24) : WI' ww b [] b := ⟨rfl, hb, by simp; omega⟩
theorem pow_small {n : Int} (h0 : 0 ≤ n) (h3 : n < 4) : 1 ≤ (2 : Int) ^ n.toNat ∧ (2 : Int) ^ n.toNat ≤ 8 := by
  rcases (by omega : n = 0 ∨ n = 1 ∨ n = 2 ∨ n = 3) with rfl | rfl | rfl | rfl <;> decide
theorem four_pow (l : Nat) : 1 ≤ (4 : Int) ^ l := by
  have : 0 < (4 : Int) ^ l := Int.pow_pos (by decide)
  omega
section
variable {ww b k x n : Int} {pre : List Int}
theorem wi_yes (I : WI ww b pre x) (h0 : 0 ≤ x) (h1 : x ≤ 25 * 4 ^ pre.length) (hn : n = 0 + (pre.length : Int)) (hl : pre.length < (k - 0).toNat) (hk : k ≤ 4) (c : (ww.fdiv (2 ^ n.toNat)).fmod 2 = 1) : WI' ww b (pre ++ [n]) (3 * x + 2 ^ n.toNat) := by
  obtain ⟨p1, p2⟩ := pow_small (n := n) (by omega) (by omega)
  have q := four_pow pre.length
  refine ⟨?_, by omega, ?_⟩
  · unfold WI wholeF at *
    rw [List.foldl_append, ← I]
    show _ = wstep ww x n
    unfold wstep
    rw [if_pos c]
  · rw [List.length_append, List.length_singleton, Int.pow_succ]; omega
theorem wi_no (I : WI ww b pre x) (h0 : 0 ≤ x) (h1 : x ≤ 25 * 4 ^ pre.length) (c : (ww.fdiv (2 ^ n.toNat)).fmod 2 ≠ 1) : WI' ww b (pre ++ [n]) x := by
  have q := four_pow pre.length
  refine ⟨?_, by omega, ?_⟩
  · unfold WI wholeF at *
    rw [List.foldl_append, ← I]
    show _ = wstep ww x n
    unfold wstep
    rw [if_neg c]
  · rw [List.length_append, List.length_singleton, Int.pow_succ]; omega
abbrev FI (b k : Int) (pre : List Int) (out : List Dat) : Prop := out = fitsD b k pre ∧ out.length ≤ pre.length
theorem fi0 : FI b k [] [] := ⟨rfl, Nat.le_refl _⟩
theorem fi_yes (hl : (fitsD b k pre).length ≤ pre.length) (I : WI n b (rangeKs 0 (k - 0).toNat) x) (c : x.fmod (2 ^ k.toNat) = 0) : FI b k (pre ++ [n]) (fitsD b k pre ++ [Dat.tuple [.int n, .int (x.fdiv (2 ^ k.toNat))]]) := by
  unfold WI at I
  refine ⟨?_, by simp; exact hl⟩
  unfold fitsD
  have h : hit b k n = true := by unfold hit rng; rw [← I]; exact beq_iff_eq.mpr c
  rw [List.filter_append, List.map_append, List.filter_cons_of_pos h]
  unfold rng
  rw [I]; rfl
theorem fi_no (hl : (fitsD b k pre).length ≤ pre.length) (I : WI n b (rangeKs 0 (k - 0).toNat) x) (c : x.fmod (2 ^ k.toNat) ≠ 0) : FI b k (pre ++ [n]) (fitsD b k pre) := by
  unfold WI at I
  refine ⟨?_, by simp; omega⟩
  have h : ¬ hit b k n = true := by unfold hit rng; rw [← I]; exact fun e => c (beq_iff_eq.mp e)
  unfold fitsD
  rw [List.filter_append, List.filter_cons_of_neg h, List.filter_nil, List.append_nil]
end
theorem pow_lo (k : Int) : 1 ≤ (2 : Int) ^ k.toNat := by
  have : 0 < (2 : Int) ^ k.toNat := Int.pow_pos (by decide)
  omega
theorem pow_hi {k : Int} (h1 : 1 ≤ k) (h4 : k ≤ 4) : (2 : Int) ^ k.toNat ≤ 16 := by
  rcases (by omega : k = 1 ∨ k = 2 ∨ k = 3 ∨ k = 4) with rfl | rfl | rfl | rfl <;> decide
/-- the answers of the ways' reckoning: all of them -/
def waysD (b k : Int) : List Dat := fitsD b k (rangeKs 0 ((2 : Int) ^ k.toNat - 0).toNat)
abbrev CbRetR (h₀ : Heap) (L : Addr) (m : Str → Option Value) (news : CbLed) (s : Shared) (Q : Value → Shared → Prop) (d : Dat) : Prop :=
  ∀ (v : Value) (led : CbLed) (h' : Heap) (tk' : Nat), Fr h₀ L h' m → News h₀ L h' led → (∀ p ∈ news, p ∈ led) → DatIn led v d → Q v { s with heap := h', toks := tk' }
abbrev Dc (w : World) (mean : ExcName → Option Value) (mg mb : Str → Option Value) (f : Addr) (vs : List Value) (d : Dat) : Prop :=
  ∀ (news : CbLed) (dp un : Nat) (gd : Option (List Code)) (cn : Str) (cs : Scope) (a : Addr) (ccd : Value) (cl : List (Str × Addr)) (outer : List Env) (A₀ : Around) (base h₀ : Heap) (L : Addr) (m : Str → Option Value) (s : Shared) (Q E : Value → Shared → Prop),
    Below A₀ base outer h₀ → Fr h₀ L s.heap m → (K w.params).In h₀ → News h₀ L s.heap news → Top q (looseW q loose) mean mg mb h₀ → cs.kind = .function →
    dp + 8 < recursionLimit → un + 64 < cLine → CbRetR h₀ L m news s Q d →
      wpAny (model PR w) (ktrTop dp un gd cn cs L a ccd cl outer) (call (.ref f) vs) Q E s
def Halt (P : Prop) : Prop := P
theorem Halt.mk {P : Prop} (h : Halt P) : P := h
end Mine
end
section
open PySem PySem.W PyProof.Rows
set_option maxRecDepth 100000
set_option linter.unusedVariables false
namespace Mine
set_option maxHeartbeats 8000000 in
theorem ways (w : World) (mean : ExcName → Option Value) (mg mb : Str → Option Value) (b k : Int) (t u : Tok) (hb : 0 ≤ b) (hb' : b < 24) (hk1 : 1 ≤ k) (hk4 : k ≤ 4) : Dc w mean mg mb 223 [.int b t, .int k u] (Dat.list (waysD b k)) := by
  have h0 : PySem.Challenge.rw_xn0019_01.prog = PySem.Challenge.rw_xn0019_01.prog ∧ K = K := ⟨rfl, rfl⟩; revert h0; k_fill; w_top off; k_with_none; intro h0; clear h0
  have hp1 : 1 ≤ (2 : Int) ^ k.toNat := pow_lo k
  have hp2 : (2 : Int) ^ k.toNat ≤ 16 := pow_hi hk1 hk4
  intro news
  intros; rename_i hret
  refine wpAny_call ?_
  k_dflt cell_enter
  k_with "pyIter ref" => refine Halt.mk ?_
  k_steps
  unfold Halt
  k_with "state" => first | exact fi0 | exact wi0 hb hb' | exact wi_yes (by assumption) (by assumption) (by assumption) (by assumption) (by assumption) hk4 (by assumption) | exact wi_no (by assumption) (by assumption) (by assumption) (by assumption) | exact fi_yes (by assumption) (by assumption) (by assumption) | exact fi_no (by assumption) (by assumption) (by assumption)
  k_dat (fun (pre : List Int) (fits : List Dat) => FI b k pre fits) "fits*"
  k_steps
  · unfold Halt
    k_state_given ["way"] (fun (ww : Int) (pre : List Int) (whole : Int) => WI' ww b pre whole) "whole"
    k_steps
  · exact hret _ _ _ _ (by assumption) (by assumption) (fun p hp => .tail _ (List.mem_append.mpr (.inl hp))) (.list (.head _) (DatAll.mono (fun _ h => .tail _ h) (by assumption)))
end Mine
end
section
open PySem PySem.W PyProof.Rows PySem.Builtin
set_option maxRecDepth 100000
set_option linter.unusedVariables false
namespace Mine
abbrev boxO (dx : Addr) (its : Array Value) (n : Nat) : Obj := { cls := .ref 175, dict := some dx, data := .seq its n }
section
variable {w : World} {A : Around} {R : Result → Shared → Prop} {h : Heap} {g : Array GenState} {d : Drawn} {t : Nat} {os : OsState}
abbrev cd175 (P : Params) : ClassData := match (o175 P).data with | .cls cd => cd | _ => default
theorem at175 (X : (K w.params).In h) : h.get? 175 = some (o175 w.params) := X 175 _ (by kernel_rfl)
theorem cls175 (X : (K w.params).In h) : Looks (model PR w) h (classData 175) (cd175 w.params) := looks_clsIn X (by kernel_rfl)
theorem mro175 (X : (K w.params).In h) : Looks (model PR w) h (mroOf (.ref 175)) [.ref 175, .type "list", .type "object"] := (cls175 X).andThen .now
theorem madeBy175 (X : (K w.params).In h) : Looks (model PR w) h (Bind.madeBy (.ref 175)) (some "list.__new__") := by
  intro A Q E s k q
  unfold Bind.madeBy
  refine wpAny_bind (mro175 X A _ E s k ?_)
  rw [List.forIn_cons]
  refine wpAny_bind (wpAny_bind (wpAny_bind (wpAny_bind (wpAny_loadPart (k _ _ (at175 X)) (wpAny_pure ?_)))))
  exact wpAny_pure (wpAny_pure (wpAny_pure q))
theorem base175 (X : (K w.params).In h) : Looks (model PR w) h (Bind.staticBase (.ref 175)) (.ref 175) := by
  intro A Q E s k q
  unfold Bind.staticBase
  refine wpAny_bind (mro175 X A _ E s k ?_)
  rw [List.forIn_cons]
  exact wpAny_bind (wpAny_bind (wpAny_bind (madeBy175 X A _ E s k (wpAny_pure (wpAny_pure (wpAny_pure q))))))
theorem self175 (X : (K w.params).In h) : Looks (model PR w) h (isSubtype (.ref 175) (.ref 175)) true := looks_mroIn X (by kernel_rfl)
theorem list175 (X : (K w.params).In h) : Looks (model PR w) h (isSubtype (.ref 175) (.type "list")) true := looks_mroIn X (by kernel_rfl)
theorem top175 (X : (K w.params).In h) : Looks (model PR w) h (isSubtype (.ref 175) (.type "object")) true := looks_mroIn X (by kernel_rfl)
theorem call175 (X : (K w.params).In h) : Looks (model PR w) h (specialOf (.ref 175) "__call__") (some (.builtin "type.__call__")) := looks_specialIn X (by kernel_rfl)
theorem typ175 (X : (K w.params).In h) : Looks (model PR w) h (isInstance (.ref 175) (.type "type")) true := looks_instIn X (by kernel_rfl)
theorem isType175 (X : (K w.params).In h) : Looks (model PR w) h (isType (.ref 175)) true := by
  intro A Q E s k q
  unfold isType loadHead
  refine wpAny_bind (wpAny_loadPart (k _ _ (at175 X)) ?_)
  exact wpAny_pure q
theorem init175 (X : (K w.params).In h) : Looks (model PR w) h (typeLookup (.ref 175) "__init__") (some (.ref 114)) := looks_findIn X (by kernel_rfl)
theorem ln_kind : builtinKind "list.__new__" = some .builtinFn := by decide +kernel
theorem ln_split : splitId "list.__new__" = some ("list", "__new__") := by decide +kernel
abbrev lnSig : Manifest.Signature := ⟨.any, "list", "list", .cls, [⟨"args", .varPos, false⟩, ⟨"kwargs", .varKw, false⟩]⟩
theorem ln_row : Manifest.signature? "list.__new__" = some lnSig := by kernel_rfl
theorem new175 {v : Value} (X : (K w.params).In h) (hq : R (.ok (.ret (.ref (h.objs.size + 1)))) ⟨(h.push emptyDict).push (boxO h.objs.size #[] 0), g, d, t, os⟩) :
    codeAny (model PR w) A (.call (.builtin "list.__new__") ⟨[.ref 175, v], []⟩) R ⟨h, g, d, t, os⟩ := by
  have base := base175 X
  have made := madeBy175 X
  have isT := isType175 X
  have sub := list175 X
  refine codeAny_call_builtin_code (plainId_quiet PySem.F.plain_list_new _) ?_
  simp only [checkBuiltinCall, ln_kind, ln_split, ln_row]
  have args : Bind.checkArgs "list.__new__" lnSig ⟨[.ref 175, v], []⟩ = pure () := by kernel_rfl
  rw [args]
  repeat (first | simp only [bne_self_eq_false, Bool.false_eq_true, if_false, Bool.not_true] | lk)
  refine codeAny_builtin_stack PySem.F.entry_list_new rfl fun p st => ?_
  rw [Around.under_plainId PySem.F.plain_list_new _]
  have hown := owner_list_new
  have hC := at175 X
  have hC' := Heap.get?_push_of_some (boxO h.objs.size #[] 0) (Heap.get?_push_of_some emptyDict hC)
  simp only [hown]
  repeat (first | simp only [bne_self_eq_false, Bool.false_eq_true, if_false, Bool.not_true] | lk)
  rw [Heap.size_push]
  exact hq
theorem make175 {v : Value} (X : (K w.params).In h)
    (hq : codeAny (model PR w) (A.under (.builtin "type.__call__" ⟨[.ref 175, v], []⟩)) (.call (.ref 114) ⟨[.ref (h.objs.size + 1), v], []⟩) (InitBack (h.objs.size + 1) R) ⟨(h.push emptyDict).push (boxO h.objs.size #[] 0), g, d, t, os⟩) :
    codeAny (model PR w) A (.call (.ref 175) ⟨[v], []⟩) R ⟨h, g, d, t, os⟩ := by
  have made := madeBy175 X
  have self := self175 X
  have call := call175 X
  have typ := typ175 X
  have hi := init175 X
  have hC := at175 X
  refine codeAny_of_tree ?_
  show wpAny _ _ (callAny (.ref 175) _) _ _ _
  refine nd_load hC ?_
  show wpAny _ _ (callAny.viaDunder (.ref 175) _) _ _ _
  unfold callAny.viaDunder
  refine wpAny_bind (call.at ?_)
  dsimp only
  rw [tc_bind]
  refine wpAny_bind (wpAny_pure (wpAny_bind (wpAny_pure ?_)))
  refine wpAny_pure (a := Fin.again (.call (.builtin "type.__call__") ⟨[.ref 175, v], []⟩)) (And.intro rfl ?_)
  refine codeAny_call_builtin_at (Code.quiet_builtin _ (by decide +kernel)) entry_typeCall (check_slot tc_kind tc_split typ (tc_args _ _ _) ?_)
  unfold Builtin.«type.__call__»
  have hm := mro175 X
  repeat (first | simp only [Bool.false_eq_true, if_false] | with_reducible refine wpAny_call ?_ | lk)
  refine new175 X ?_
  have k : ∀ b o, h.get? b = some o → ((h.push emptyDict).push (boxO h.objs.size #[] 0)).get? b = some o := fun b o e => Heap.get?_push_of_some _ (Heap.get?_push_of_some _ e)
  have hx : ((h.push emptyDict).push (boxO h.objs.size #[] 0)).get? (h.objs.size + 1) = some (boxO h.objs.size #[] 0) := by heap_get
  have t1 : Looks (model PR w) ((h.push emptyDict).push (boxO h.objs.size #[] 0)) (typeOf (.ref (h.objs.size + 1))) (.ref 175) := (Looks.ld hx).andThen .now
  have s1 := self.keeps k
  have i1 := hi.keeps k
  have b1 := (bind_fn (M := model PR w) X (f := 114) (.ref (h.objs.size + 1)) (by kernel_rfl)).keeps k
  unfold isInstance callSpecial? specialOf
  repeat (first | with_reducible refine wpAny_call ?_ | lk)
  refine codeAny_mono hq fun r s' z => ?_
  rcases r with e | (v | _ | _ | _) <;> first | exact z | exact z.elim | skip
  obtain ⟨rfl, z⟩ := z
  exact wpAny_pure (wpAny_pure z)
end
end Mine
end
section
open PySem PySem.W PyProof.Rows PySem.Builtin PySem.Builtin.ObjectAttr
set_option maxRecDepth 100000
set_option linter.unusedVariables false
set_option linter.unusedSimpArgs false
namespace Mine
section
variable {w : World} {A : Around} {R : Result → Shared → Prop} {s : Shared} {h₀ : Heap} {L : Addr} {m : Str → Option Value} {x dx : Addr}
theorem box_inst {h : Heap} {its : Array Value} {n : Nat} {od : Obj} (h1 : h.get? x = some (boxO dx its n)) (h2 : h.get? dx = some od) : InstAt h x (boxO dx its n) 175 (some od) := ⟨h1, rfl, rfl, h2⟩
theorem refuse175 (self : Value) : refuseLoop self "__setattr__" [.ref 175, .type "list", .type "object"] = pure () := by
  rw [refuseLoop_ref]; kernel_rfl
abbrev sizeName : Str := Str.ofString "_initial_size"
theorem osa175 {its : Array Value} {n n0 : Nat} {es es' : List DictEntry} {n' : Nat} {tk : Tok} {v : Value} {pre post : List (Addr × Obj)} (F : Fr h₀ L s.heap m) (N : News h₀ L s.heap (pre ++ (dx, dictOf es n) :: post)) (X : (K w.params).In s.heap)
    (I : InstAt s.heap x (boxO dx its n0) 175 (some (dictOf es n)))
    (hl : (getL sizeName es).isSome = true) (h1 : ∀ p ∈ pre, p.1 ≠ dx) (h2 : ∀ p ∈ post, p.1 ≠ dx)
    (e : (putL sizeName (PyData.keyHash w.params sizeName) (.str sizeName s.toks) v es, putN sizeName es n) = (es', n')) (hz : es'.length ≤ 1000)
    (h : ∀ h', Fr h₀ L h' m → News h₀ L h' (pre ++ (dx, dictOf es' n') :: post) → R (.ok (.ret .none)) { s with heap := h', toks := s.toks + 1 }) :
    codeAny (model PR w) A (.call (.builtin "object.__setattr__") ⟨[.ref x, .str sizeName tk, v], []⟩) R s := by
  have SF := PySem.F.store_object
  have sub : Looks (model PR w) s.heap (isInstance (.ref x) (.type "object")) true := I.type.andThen (top175 X)
  refine codeAny_call_builtin SF.slot.plain SF.entry (@check_slot (model PR w) _ _ s "object.__setattr__" "object" "__setattr__" (.ref x) [.str sizeName tk, v] [] _ SF.kind SF.split sub (SF.args (.ref x) (.str sizeName tk) v) ?_)
  have hm := mro175 X
  have ha : Looks (model PR w) s.heap (typeLookup (.ref 175) sizeName) none := looks_findIn X (by kernel_rfl)
  rw [osa_eq, refuse_eq]
  refine wpAny_bind (wpAny_bind (I.type.here (wpAny_bind (hm.here ?_))))
  rw [refuse175]
  refine wpAny_pure (wpAny_bind (I.type.here (wpAny_bind (ha.here (wpAny_bind (wpAny_pure ?_))))))
  obtain ⟨e1, e2⟩ := Prod.mk.inj e
  have e3 : Obj.putName sizeName (PyData.keyHash w.params sizeName) (.str sizeName s.toks) v (dictOf es n) = dictOf es' n' := by rw [putName_dict, e1, e2]
  obtain ⟨U1, U2⟩ := news_upd (f := Obj.putName sizeName (PyData.keyHash w.params sizeName) (.str sizeName s.toks) v) F N h1 h2 e3 rfl
  have D := (N (dx, dictOf es n) (by simp)).1
  have D' := (U2 (dx, dictOf es' n') (by simp)).1
  have hx := I.at_
  refine wpAny_bind (wpAny_pure (wpAny_bind (wpAny_bind (wpAny_loadPart hx (wpAny_bind ((cls175 X).here ?_))))))
  refine wpAny_pure (a := some dx) (wpAny_bind (wpAny_pure (wpAny_bind ?_)))
  unfold nsSet
  refine wpAny_bind (wpAny_bind (wpAny_askSetting (wpAny_pure (wpAny_bind (wpAny_mkText (wpAny_bind (wpAny_loadPart D ?_)))))))
  dsimp only
  have c : (!es.toArray.any (·.key.isStr sizeName) && es.toArray.any (·.refKey)) = false := by
    rw [← Array.any_toList, ← Array.any_toList]
    unfold getL at hl
    split at hl
    · rename_i en he
      rw [List.any_eq_true.mpr ⟨en, List.mem_of_find?_eq_some he, List.find?_some he⟩]; rfl
    · split at hl
      · cases hl
      · rename_i z; rw [Bool.not_eq_true] at z; rw [z, Bool.and_false]
  rw [aRefKeyMayBeTheName_at, c]
  refine wpAny_updatePart D ?_
  refine wpAny_bind (wpAny_lookBehind D' (pastItsLine_dict (by rw [List.size_toArray, sizeLine_eq]; omega)) ?_)
  exact wpAny_pure (h _ U1 U2)
theorem set175 {E : Value → Shared → Prop} {its : Array Value} {n n0 : Nat} {es es' : List DictEntry} {n' : Nat} {v : Value} {news news' : List (Addr × Obj)} {Q : Unit → Shared → Prop} (F : Fr h₀ L s.heap m) (X₀ : (K w.params).In h₀) (N : News h₀ L s.heap news)
    (hb : (x, boxO dx its n0) ∈ news) (hd : (dx, dictOf es n) ∈ news) (U : Upd dx (dictOf es n) (dictOf es' n') news news')
    (hl : (getL sizeName es).isSome = true) (e : (putL sizeName (PyData.keyHash w.params sizeName) (.str sizeName (s.toks + 1)) v es, putN sizeName es n) = (es', n')) (hz : es'.length ≤ 1000)
    (h : ∀ h', Fr h₀ L h' m → News h₀ L h' news' → Q () { s with heap := h', toks := s.toks + 2 }) :
    wpAny (model PR w) A (setAttr (.ref x) sizeName v) Q E s := by
  obtain ⟨pre, post, rfl, rfl, a, b⟩ := U.split
  have I := box_inst (N _ hb).1 (N _ hd).1
  exact set_plain (X₀.keeps F.keep) I (by kernel_rfl) (osa175 (s := { s with toks := s.toks + 1 }) F N (X₀.keeps F.keep) I hl a b e hz fun h' F' N' => h h' F' N')
end
end Mine
end
section
open PySem PySem.W PyProof.Rows PySem.Builtin PySem.Builtin.ObjectAttr
set_option maxRecDepth 100000
set_option linter.unusedVariables false
set_option linter.unusedSimpArgs false
namespace Mine
theorem wd_slot : Slot "wrapper_descriptor" "__get__" "wrapper_descriptor.__get__" := .of (owner := "wrapper_descriptor") (n := "__get__") (by rw [typeLookup_type, builtinLookup_eq_fast]; kernel_rfl) (by decide +kernel) (by decide +kernel) (by decide +kernel)
  (by first | exact .inl (by decide +kernel) | exact .inr (by decide +kernel)) (by rw [isSubtype_type]; kernel_rfl)
theorem wd_entry : entryFor table "wrapper_descriptor.__get__" = some Builtin.«wrapper_descriptor.__get__» := entryFor_of_tree (by kernel_rfl)
theorem wd_args (a b c : Value) : argsOk "wrapper_descriptor.__get__" ⟨[a, b, c], []⟩ := by unfold argsOk; kernel_rfl
abbrev mwObj (x : Addr) : Obj := { cls := .type "method-wrapper", dict := none, data := .fields #[.builtin "list.__init__", .ref x], slots := #[] }
theorem li_type : typeOf (.builtin "list.__init__") = pure (.type "wrapper_descriptor") := by show builtinType _ = _; rw [builtinType_eq_fast]; kernel_rfl
section
variable {w : World} {A : Around} {R : Result → Shared → Prop} {E : Value → Shared → Prop} {h : Heap} {g : Array GenState} {d : Drawn} {t : Nat} {os : OsState} {x dx so q : Addr}
theorem wd_get {its : Array Value} {n : Nat} {od : Obj} {Q : Value → Shared → Prop} (X : (K w.params).In h) (I : InstAt h x (boxO dx its n) 175 (some od)) (hq : Q (.ref h.objs.size) ⟨h.push (mwObj x), g, d, t, os⟩) :
    wpAny (model PR w) A (call (.builtin "wrapper_descriptor.__get__") [.builtin "list.__init__", .ref x, .ref 175]) Q E ⟨h, g, d, t, os⟩ := by
  refine wpAny_call_entry wd_slot (show Shared.TypeIs _ (.builtin "list.__init__") "wrapper_descriptor" from li_type) wd_entry ?_ (wd_args _ _ _)
  have i1 : ∀ o : String, o = "list" → Looks (model PR w) h (isInstance (.ref x) (.type o)) true := fun o e => e ▸ I.type.andThen (list175 X)
  unfold Builtin.«wrapper_descriptor.__get__»
  repeat (first | with_reducible refine Looks.at (i1 _ (by decide +kernel)) ?_ | simp only [bne_self_eq_false, Bool.false_eq_true, if_false, Bool.not_true] | lk)
  exact ⟨_, rfl, hq⟩
set_option maxHeartbeats 400000 in
theorem sup_ga {its : Array Value} {n : Nat} {od : Obj} {tk : Tok} {Q : PySem.Fin → Shared → Prop} (X : (K w.params).In h) (I : InstAt h x (boxO dx its n) 175 (some od)) (hso : h.get? so = some (ks_superObj 175 x 175))
    (hq : Q (.done (.ret (.ref h.objs.size))) ⟨h.push (mwObj x), g, d, t, os⟩) :
    wpAny (model PR w) A (Builtin.«super.__getattribute__» ⟨[.ref so, .str "__init__" tk], []⟩) Q E ⟨h, g, d, t, os⟩ := by
  have hlk := wd_slot.lookup
  have hno : Looks (model PR w) h (opaqueClassAbove (.ref 175)) none := looks_opaque X (by kernel_rfl)
  have hC := mro175 X
  have hxC : x ≠ 175 := ks_ne X I (cd := cd175 w.params) (by kernel_rfl)
  have hne : (Value.ref x == Value.ref 175) = false := by simp [hxC]
  have hdt : (ks_superObj 175 x 175).data = .fields #[.ref 175, .ref x, .ref 175] := rfl
  have f0 : (#[.ref 175, .ref x, .ref 175] : Array Value)[0]? = some (.ref 175) := rfl
  have f1 : (#[.ref 175, .ref x, .ref 175] : Array Value)[1]? = some (.ref x) := rfl
  have f2 : (#[.ref 175, .ref x, .ref 175] : Array Value)[2]? = some (.ref 175) := rfl
  have hl : (([.ref 175, .type "list", .type "object"] : List Value).dropWhile (· != .ref 175)).drop 1 = [.type "list", .type "object"] := rfl
  have hf : alongIn (K w.params) "__init__" [.type "list", .type "object"] = some (some (.builtin "list.__init__")) := by kernel_rfl
  have hn : (Str.ofString "__init__" == ("__class__" : Str)) = false := by decide
  have ht := li_type
  unfold Builtin.«super.__getattribute__»
  iterate 22 try (first
    | (with_reducible refine wpAny_field hso hdt f0 ?_) | (with_reducible refine wpAny_field hso hdt f1 ?_) | (with_reducible refine wpAny_field hso hdt f2 ?_)
    | (with_reducible refine ks_wpAny_notOpaque hno ?_)
    | (with_reducible refine Looks.at hC ?_; rw [hl])
    | (simp only [hn, hne, Bool.or_false, Bool.false_eq_true, if_false])
    | wp_step
    | dsimp only)
  rw [List.forIn_cons]
  have hu : ownIn (K w.params) (Str.ofString "__init__") (.type "list") = some (some (.builtin "list.__init__")) := by kernel_rfl
  refine wpAny_bind (wpAny_bind (wpAny_bind (Looks.at (looks_ownIn X hu) ?_)))
  refine wpAny_bind (wpAny_of_eq ht ?_)
  refine wpAny_bind (wpAny_of_eq hlk ?_)
  refine wpAny_bind (wpAny_holding (wd_get X I ?_))
  repeat lk
  exact hq
theorem sup_method {its : Array Value} {n : Nat} {od : Obj} {pl : Sem Bool} {Q : Value × List Value → Shared → Prop} (X : (K w.params).In h) (I : InstAt h x (boxO dx its n) 175 (some od)) (hso : h.get? so = some (ks_superObj 175 x 175))
    (hq : Q (.ref h.objs.size, []) ⟨h.push (mwObj x), g, d, t + 1, os⟩) :
    wpAny (model PR w) A (getMethod (.ref so) "__init__" pl) Q E ⟨h, g, d, t, os⟩ := by
  have hlk := PySem.F.ks_slot_super_ga.lookup
  have hcan := PySem.F.ks_canon_super_ga
  have hT : ∀ t', (⟨h, g, d, t', os⟩ : Shared).TypeIs (.ref so) "super" := fun _ => ⟨_, hso, rfl⟩
  unfold getMethod
  refine wpAny_bind (wpAny_specialOf (hT _) hlk ?_)
  show wpAny _ _ (if (Manifest.canonical "super.__getattribute__" != "object.__getattribute__") = true then _ else _) _ _ _
  rw [if_pos hcan]
  unfold getAttr getAttrBy
  refine wpAny_bind (wpAny_bind (wpAny_mkText (wpAny_holding (wpAny_bind (wpAny_typeOf (hT _) (wpAny_bind (wpAny_of_eq hlk ?_)))))))
  show wpAny _ _ (getAttrByItsOwn (.ref so) (.str "__init__" t) (.type "super") (.builtin "super.__getattribute__") true false) _ _ _
  unfold getAttrByItsOwn hookBefore callGetattribute boundAndCalled
  refine wpAny_bind (wpAny_of_eq (show (if onTheHeap (.type "super") then typeLookup (.type "super") "__getattr__" else pure none) = pure none from rfl) ?_)
  refine wpAny_bind (wpAny_attempt (wpAny_holding ?_))
  show wpAny _ _ (bindSpecial (.builtin "super.__getattribute__") (.ref so) >>= _) _ _ _
  refine wpAny_bind (wpAny_of_eq (PySem.F.ks_slot_super_ga.bind _) ?_)
  refine wpAny_mono (Q := fun v s' => v = .ref h.objs.size ∧ s' = ⟨h.push (mwObj x), g, d, t + 1, os⟩) (E := fun _ _ => False)
    (wpAny_call_entry PySem.F.ks_slot_super_ga (hT _) PySem.F.ks_entry_super_ga (sup_ga X I hso ⟨_, rfl, rfl, rfl⟩) (PySem.F.ks_gaArgs_super _ _)) (fun v s' hv => ?_) fun _ _ z => z.elim
  obtain ⟨rfl, rfl⟩ := hv
  exact wpAny_pure (wpAny_pure hq)
end
section
variable {w : World} {A : Around} {R : Result → Shared → Prop} {E : Value → Shared → Prop} {s : Shared} {h₀ : Heap} {L : Addr} {m : Str → Option Value} {x dx so q : Addr}
theorem mw_bound (x : Addr) : checkBoundCall "list.__init__" ⟨[.ref x], []⟩ = pure () := by kernel_rfl
theorem mw_call {n : Nat} {pre post : List (Addr × Obj)} (F : Fr h₀ L s.heap m) (N : News h₀ L s.heap (pre ++ (x, boxO dx #[] n) :: post)) (h1 : ∀ p ∈ pre, p.1 ≠ x) (h2 : ∀ p ∈ post, p.1 ≠ x)
    (hq : (q, mwObj x) ∈ pre ++ (x, boxO dx #[] n) :: post) 
    (h : ∀ h' n', Fr h₀ L h' m → News h₀ L h' (pre ++ (x, boxO dx #[] n') :: post) → R (.ok (.ret .none)) { s with heap := h' }) :
    codeAny (model PR w) A (.call (.ref q) ⟨[], []⟩) R s := by
  refine codeAny_of_tree ?_
  show wpAny _ _ (callAny (.ref q) _) _ _ _
  unfold callAny
  refine wpAny_bind (wpAny_load (N _ hq).1 ?_)
  show wpAny _ _ (checkBoundCall "list.__init__" ⟨[.ref x], []⟩ >>= _) _ _ _
  rw [mw_bound]
  refine wpAny_bind (wpAny_pure (wpAny_pure (And.intro (Code.quiet_builtin _ (by decide +kernel)) ?_)))
  show codeAny _ _ (.builtin "list.__init__" ⟨[.ref x], []⟩) _ _
  refine codeAny_builtin PySem.F.entry_list_init ?_
  have hx := (N (x, boxO dx #[] n) (by simp)).1
  show wpAny _ _ (Builtin.List.listItems (.ref x) >>= fun old => Builtin.List.listUpdate (.ref x) (fun _ => #[]) >>= fun _ => letGo old.toList.reverse >>= fun _ => ret .none) _ _ _
  refine wpAny_bind (listItems_at hx rfl (wpAny_bind (listUpdate_at hx rfl ?_)))
  obtain ⟨U1, U2⟩ := news_upd (f := Obj.mapSeq (fun _ => #[])) F N h1 h2 (rfl : Obj.mapSeq (fun _ => #[]) (boxO dx #[] n) = boxO dx #[] _) rfl
  exact wpAny_bind (wpAny_pure (wpAny_pure (h _ _ U1 U2)))
end
end Mine
end
section
open PySem PySem.W PyProof.Rows PySem.Builtin PySem.Builtin.ObjectAttr
set_option maxRecDepth 100000
set_option linter.unusedVariables false
set_option linter.unusedSimpArgs false
namespace Mine
abbrev sizeE (h : Int) (tk : Tok) (k : Int) (t : Tok) : DictEntry := ⟨h, .str (Str.ofString "_initial_size") tk, .int k t⟩
theorem makeK {w : World} {A : Around} {R : Result → Shared → Prop} {s : Shared} {h₀ : Heap} {L : Addr} {m : Str → Option Value} {news : List (Addr × Obj)} {v : Value} (F : Fr h₀ L s.heap m) (X : (K w.params).In h₀) (N : News h₀ L s.heap news)
    (h : ∀ x dx h', Fr h₀ L h' m → News h₀ L h' ((x, boxO dx #[] 0) :: (dx, dictOf [] 0) :: news) → (∀ p ∈ news, p.1 < dx) → dx < x →
      codeAny (model PR w) (A.under (.builtin "type.__call__" ⟨[.ref 175, v], []⟩)) (.call (.ref 114) ⟨[.ref x, v], []⟩) (InitBack x R) { s with heap := h' }) :
    codeAny (model PR w) A (.call (.ref 175) ⟨[v], []⟩) R s := by
  obtain ⟨hh, g, d, t, os⟩ := s
  refine make175 (X.keeps F.keep) (h _ hh.objs.size _ ((F.push _).push _) ?_ (fun p hp => Heap.lt_size (N p hp).1) (Nat.lt_succ_self _))
  have := (N.push F emptyDict).push (F.push _) (boxO hh.objs.size #[] 0)
  rw [Heap.size_push] at this
  exact this
theorem mwK {w : World} {A : Around} {E : Value → Shared → Prop} {s : Shared} {h₀ : Heap} {L : Addr} {m : Str → Option Value} {x dx q : Addr} {news : List (Addr × Obj)} {g : Obj → List (Addr × Obj)} {n : Nat} {Q : Value → Shared → Prop}
    (F : Fr h₀ L s.heap m) (N : News h₀ L s.heap news) (hq : (q, mwObj x) ∈ news) (U : UpdF x (boxO dx #[] n) news g)
    (h : ∀ h' n', Fr h₀ L h' m → News h₀ L h' (g (boxO dx #[] n')) → Q .none { s with heap := h' }) :
    wpAny (model PR w) A (call (.ref q) []) Q E s := by
  obtain ⟨pre, post, rfl, hg, h1, h2⟩ := U.split
  refine wpAny_call (mw_call F N h1 h2 hq fun h' n' F' N' => ?_)
  rw [← hg] at N'
  exact h h' n' F' N'
theorem supK {w : World} {A : Around} {E : Value → Shared → Prop} {s : Shared} {h₀ : Heap} {L : Addr} {m : Str → Option Value} {x dx so : Addr} {news : List (Addr × Obj)} {n : Nat} {od : Obj} {pl : Sem Bool} {Q : Value × List Value → Shared → Prop}
    (F : Fr h₀ L s.heap m) (X : (K w.params).In h₀) (N : News h₀ L s.heap news) (hs : (so, ks_superObj 175 x 175) ∈ news) (hb : (x, boxO dx #[] n) ∈ news) (hd : (dx, od) ∈ news)
    (h : ∀ q h', Fr h₀ L h' m → News h₀ L h' ((q, mwObj x) :: news) → (∀ p ∈ news, p.1 < q) → Q (.ref q, []) { s with heap := h', toks := s.toks + 1 }) :
    wpAny (model PR w) A (getMethod (.ref so) "__init__" pl) Q E s := by
  obtain ⟨hh, g, d, t, os⟩ := s
  refine sup_method (X.keeps F.keep) (box_inst (N _ hb).1 (N _ hd).1) (N _ hs).1 ?_
  obtain ⟨F', N', l'⟩ := ks_newsPush (s := ⟨hh, g, d, t, os⟩) (o := mwObj x) F N rfl (Heap.get?_push_at rfl rfl) (fun b o e => Heap.get?_push_of_some _ e)
  exact h _ _ F' N' l'
theorem mwWith {w : World} {A : Around} {E : Value → Shared → Prop} {s : Shared} {h₀ : Heap} {L : Addr} {x q : Addr} {news : List (Addr × Obj)} {pos : Pos} {env : Env} {Q : Value → Shared → Prop} (N : News h₀ L s.heap news) (hq : (q, mwObj x) ∈ news)
    (h : wpAny (model PR w) A (call (.ref q) []) Q E s) : wpAny (model PR w) A (callWith pos (.ref q) [] (backTo pos (starEach [] env)) []) Q E s := by
  unfold callWith
  refine wpAny_bind (wpAny_holding (evalArgs_nil3 (wpAny_bind (wpAny_standAt ?_))))
  have L1 : Looks (model PR w) s.heap (keeperOf (.ref q)) .machine := (Looks.ld (part := none) (N _ hq).1).andThen (Looks.of_pure rfl)
  refine wpAny_bind (L1.here ?_)
  exact wpAny_bind (wpAny_mono h (fun r s₂ hr => wpAny_bind (wpAny_holding (wpAny_point (wpAny_pure hr)))) fun _ _ y => y)
theorem InstAt.of_box {h₀ h : Heap} {L x dx : Addr} {news : List (Addr × Obj)} {od : Obj} {its : Array Value} {n : Nat} (N : News h₀ L h news) (h1 : (x, boxO dx its n) ∈ news) (h2 : (dx, od) ∈ news) :
    W.InstAt h x (boxO dx its n) 175 (some od) := ⟨(N _ h1).1, rfl, rfl, (N _ h2).1⟩
theorem allne_of_lt {news : List (Addr × Obj)} {d : Addr} (h : ∀ p ∈ news, p.1 < d) : ∀ p ∈ news, p.1 ≠ d := fun p hp => Nat.ne_of_lt (h p hp)
theorem alllt_trans {news : List (Addr × Obj)} {d e : Addr} (h : ∀ p ∈ news, p.1 < d) (l : d < e) : ∀ p ∈ news, p.1 < e := fun p hp => Nat.lt_trans (h p hp) l
end Mine
namespace Mine
local macro_rules | `(tactic| k_all) => `(tactic| exact allne_of_lt (by assumption))
local macro_rules | `(tactic| k_inst) => `(tactic| (refine' InstAt.of_box ?N ?h1 ?h2; (case N => k_asm); (case h1 => k_mem); (case h2 => k_mem)))
local macro_rules | `(tactic| walk_at "setAttr ref") => `(tactic| (k_here; (refine' set175 ?k1 ?k2 ?k3 ?k4 ?k5 ?k6 ?k7 ?k8 ?k9 ?_; (case k1 => k_asm); (case k2 => k_asm); (case k3 => k_asm); (case k4 => k_mem); (case k5 => k_mem); (case k6 => k_upd); (case k7 => rfl); (case k8 => rfl); (case k9 => exact Nat.le_of_ble_eq_true rfl)); intro h' F' N'; (try dsimp only)))
local macro_rules | `(tactic| walk_at "getMethod ref") => `(tactic| (k_here; (refine' supK ?k1 ?k2 ?k3 ?k4 ?k5 ?k6 ?_; (case k1 => k_asm); (case k2 => k_asm); (case k3 => k_asm); (case k4 => k_mem); (case k5 => k_mem); (case k6 => k_mem)); intro q' h' F' N' l1; (try k_lt l1); (try dsimp only)))
local macro_rules | `(tactic| walk_at "call ref") => `(tactic| (k_here; (refine' mwK ?k1 ?k2 ?k3 ?k4 ?_; (case k1 => k_asm); (case k2 => k_asm); (case k3 => k_mem); (case k4 => k_updF)); intro h' n' F' N'; (try dsimp only at N' ⊢)))
local macro_rules | `(tactic| walk_at "callWith ref") => `(tactic| (k_here; (refine' mwWith ?k1 ?k2 ?_; (case k1 => k_asm); (case k2 => k_mem))))
set_option maxHeartbeats 8000000 in
theorem mkBox (w : World) (mean : ExcName → Option Value) (mg mb : Str → Option Value) (k : Int) (t : Tok) : 
  ∀ (news : CbLed) (dp un : Nat) (gd : Option (List Code)) (cn : Str) (cs : Scope) (a : Addr) (ccd : Value) (cl : List (Str × Addr)) (outer : List Env) (A₀ : Around) (base h₀ : Heap) (L : Addr) (m : Str → Option Value) (s : Shared) (Q E : Value → Shared → Prop),
    Below A₀ base outer h₀ → Fr h₀ L s.heap m → (K w.params).In h₀ → News h₀ L s.heap news → Top q (looseW q loose) mean mg mb h₀ → cs.kind = .function →
    dp + 8 < recursionLimit → un + 64 < cLine → 
    (∀ x dx h' tk' n1 hh tk n2, Fr h₀ L h' m → News h₀ L h' ((x, boxO dx #[] n1) :: (dx, dictOf [sizeE hh tk k t] n2) :: news) → (∀ p ∈ news, p.1 < dx) → dx < x → Q (.ref x) { s with heap := h', toks := tk' }) →
      wpAny (model PR w) (ktrTop dp un gd cn cs L a ccd cl outer) (call (.ref 175) [.int k t]) Q E s := by
  have h0 : PySem.Challenge.rw_xn0019_01.prog = PySem.Challenge.rw_xn0019_01.prog ∧ K = K := ⟨rfl, rfl⟩; revert h0; k_fill; w_top off; k_with_none; intro h0; clear h0
  intros; rename_i hret
  refine wpAny_call ?_
  refine makeK (by assumption) (by assumption) (by assumption) ?_
  intro x dx h1 F1 N1 l1 l2
  have l3 := alllt_trans l1 l2
  have l4 : @LT.lt Nat _ dx x := l2
  k_dflt (refine' ks_code_super ?k1 ?k2 ?k3 ?k4 ?k5 ?kA ?kF ?kK ?k6 ?k7 ?k8 ?k9 ?kB ?_ ?c1 ?c2 ?c3 ?c4; (case kA => exact rfl); (case kF => exact rfl); (case kK => assumption); (case k1 => k_asm); (case k2 => k_asm); (case k3 => k_asm); (case k4 => k_asm); (case k5 => k_asm); (case k6 => k_is); (case k7 => k_is); (case k8 => ktr_room); (case k9 => exact binds_K (by k_in) rfl (by k_is) rfl rfl rfl); (case kB => exact locs rfl); (case c1 => decide); (case c2 => exact rfl); (case c3 => exact rfl); (case c4 => exact rfl); intro g' L' h' FG' F' N' B' X' T' l1; (try k_lt l1); (try dsimp only); (try k_lift B'))
  iterate 7 walk1
  refine ks_wpAt_Expr_any ?_
  refine ks_wpAt_MethodCall ?_
  walk1
  k_steps
  exact hret x dx _ _ _ _ _ _ (by assumption) (cb_drop (by assumption) (fun p hp => .tail _ (.tail _ hp))) (by assumption) l2
end Mine
end
section
open PySem PySem.W PyProof.Rows PySem.Builtin PySem.Builtin.ObjectAttr
set_option maxRecDepth 100000
set_option linter.unusedVariables false
set_option linter.unusedSimpArgs false
namespace Mine
theorem canon_list_ga : (Manifest.canonical "list.__getattribute__" != "object.__getattribute__") = false := by decide +kernel
section
variable {w : World} {A : Around} {R : Result → Shared → Prop} {E : Value → Shared → Prop} {s : Shared} {h₀ : Heap} {L : Addr} {m : Str → Option Value} {x dx so q : Addr} {its : Array Value} {n : Nat} {od : Obj} {name : Str}
theorem method175 {f tf : Value} {pl : Sem Bool} {Q : Value × List Value → Shared → Prop} (X : (K w.params).In s.heap) (I : W.InstAt s.heap x (boxO dx its n) 175 (some od))
    (hf : findIn (K w.params) (.ref 175) name = some (some f)) (ht : typeIn (K w.params) f = some tf) (htf : (tf != .type "function" && tf != .type "method_descriptor" && tf != .type "wrapper_descriptor") = false)
    (hs : lookIn name od = some none) (h : Q (f, [.ref x]) s) : wpAny (model PR w) A (getMethod (.ref x) name pl) Q E s := by
  have hga : findIn (K w.params) (.ref 175) "__getattribute__" = some (some (.builtin "list.__getattribute__")) := by kernel_rfl
  have hk : findIn (K w.params) (.ref 175) "__getattr__" = some none := by kernel_rfl
  unfold getMethod specialOf
  refine wpAny_bind (wpAny_bind (I.type.here ((looks_findIn X hga).here ?_)))
  dsimp only
  rw [canon_list_ga, if_neg (by decide)]
  refine wpAny_bind (wpAny_bind (I.type.here ((looks_findIn X hk).here ?_)))
  refine wpAny_bind (wpAny_bind (I.type.here ((looks_findIn X hf).here (wpAny_bind ((looks_typeIn X ht).here ?_)))))
  rw [htf, if_neg (by decide)]
  refine wpAny_bind (wpAny_loadPart I.at_ ?_)
  have hd : s.heap.get? dx = some od := I.dict
  refine wpAny_bind (wpAny_bind (wpAny_loadPart hd ?_))
  rw [nsLook_of hs]
  refine wpAny_pure ?_
  exact wpAny_bind (wpAny_rule (wpAny_pure h))
theorem la_kind : builtinKind "list.append" = some .method := by decide +kernel
theorem la_split : splitId "list.append" = some ("list", "append") := by decide +kernel
theorem append175 {v : Value} {pre post : List (Addr × Obj)} (F : Fr h₀ L s.heap m) (X₀ : (K w.params).In h₀) (N : News h₀ L s.heap (pre ++ (x, boxO dx its n) :: post)) (h1 : ∀ p ∈ pre, p.1 ≠ x) (h2 : ∀ p ∈ post, p.1 ≠ x)
    (hd : (dx, od) ∈ pre ++ (x, boxO dx its n) :: post) (hz : its.size ≤ 1000)
    (h : ∀ h', Fr h₀ L h' m → News h₀ L h' (pre ++ (x, boxO dx (its.push v) (n + 1)) :: post) → R (.ok (.ret .none)) { s with heap := h' }) :
    codeAny (model PR w) A (.call (.builtin "list.append") ⟨[.ref x, v], []⟩) R s := by
  have X := X₀.keeps F.keep
  have hx := (N (x, boxO dx its n) (by simp)).1
  have I := box_inst hx (N _ hd).1
  have sub : Looks (model PR w) s.heap (isInstance (.ref x) (.type "list")) true := I.type.andThen (list175 X)
  have check : ∀ (A' : Around) (E' : Value → Shared → Prop) (Q : Unit → Shared → Prop), Q () s → wpAny (model PR w) A' (checkBuiltinCall "list.append" ⟨[.ref x, v], []⟩) Q E' s := by
    intro A' E' Q q
    simp only [checkBuiltinCall, la_kind, la_split]
    refine wpAny_bind (sub.here ?_)
    simp only [Bool.not_true, Bool.false_eq_true, if_false]
    cases hsig : Manifest.signature? "list.append" with
    | none => exact wpAny_pure q
    | some sig =>
      have ha := PySem.args_list_append (.ref x) v
      simp only [argsOk, hsig] at ha
      have h2 : Bind.checkArgs "list.append" sig ⟨[.ref x, v], []⟩ = pure () := ha
      show wpAny _ A' (Bind.checkArgs "list.append" sig ⟨[.ref x, v], []⟩) Q E' s
      rw [h2]; exact wpAny_pure q
  refine codeAny_call_builtin PySem.F.slot_list_append.plain PySem.F.entry_list_append (check _ _ _ ?_)
  show wpAny _ _ (pure (Value.ref x, v) >>= fun p => Builtin.List.listUpdate p.1 (·.push p.2) >>= fun _ => ret .none) _ _ _
  refine wpAny_bind (wpAny_pure (wpAny_bind (listUpdate_at hx rfl ?_ (by rw [sizeLine_eq]; omega) (by rw [sizeLine_eq, Array.size_push]; omega))))
  have e : Obj.mapSeq (·.push v) (boxO dx its n) = boxO dx (its.push v) (n + 1) := by simp [Obj.mapSeq]
  obtain ⟨U1, U2⟩ := news_upd (f := Obj.mapSeq (·.push v)) F N h1 h2 e rfl
  exact wpAny_pure (h _ U1 U2)
end
end Mine
end
section
open PySem PySem.W PyProof.Rows PySem.Builtin PySem.Builtin.ObjectAttr
set_option maxRecDepth 100000
set_option linter.unusedVariables false
set_option linter.unusedSimpArgs false
namespace Mine
theorem allLt_mem {d : Addr} : ∀ {l : List (Addr × Obj)}, AllLt d l → ∀ {p : Addr × Obj}, p ∈ l → @LT.lt Nat _ p.1 d
  | [], _, _, hp => nomatch hp
  | q :: r, h, p, hp => by
    rcases List.mem_cons.mp hp with rfl | hp
    · exact h.1
    · exact allLt_mem h.2 hp
theorem updMem {d : Addr} {o : Obj} {l : List (Addr × Obj)} {g : Obj → List (Addr × Obj)} (U : UpdF d o l g) : (d, o) ∈ l := by
  obtain ⟨pre, post, rfl, _⟩ := U.split
  simp
theorem ne_of_upd {T box : Addr} {o : Obj} {news : List (Addr × Obj)} {g : Obj → List (Addr × Obj)} (h : ∀ p ∈ news, p.1 < T) (U : UpdF box o news g) : T ≠ box := Nat.ne_of_gt (h _ (updMem U))
abbrev tupO (f p : Str) (t1 t2 : Tok) : Obj := { cls := .type "tuple", data := .seq #[Value.str f t1, Value.str p t2] }
/-- of the head dict of a box -/
structure BoxDict (od : Obj) (k : Int) : Prop where
  one : lookIn (Str.ofString "push") od = some none
  two : lookIn (Str.ofString "append") od = some none
  three : ∃ t, lookIn (Str.ofString "_initial_size") od = some (some (.int k t))
theorem boxDict_of {h : Int} {tk : Tok} {k : Int} {t : Tok} {n : Nat} : BoxDict (dictOf [sizeE h tk k t] n) k := ⟨rfl, rfl, ⟨t, rfl⟩⟩
section
variable {w : World} {A : Around} {R : Result → Shared → Prop} {E : Value → Shared → Prop} {s : Shared} {h₀ : Heap} {L : Addr} {m : Str → Option Value} {x dx so q : Addr} {its : Array Value} {n : Nat} {od : Obj} {name : Str} {k : Int} {news : List (Addr × Obj)} {g : Obj → List (Addr × Obj)}
theorem pushM {pl : Sem Bool} {Q : Value × List Value → Shared → Prop} (F : Fr h₀ L s.heap m) (X : (K w.params).In h₀) (N : News h₀ L s.heap news) (hb : (x, boxO dx its n) ∈ news) (hd : (dx, od) ∈ news) (D : BoxDict od k)
    (h : Q (.ref 121, [.ref x]) s) : wpAny (model PR w) A (getMethod (.ref x) "push" pl) Q E s :=
  method175 (X.keeps F.keep) (box_inst (N _ hb).1 (N _ hd).1) (by kernel_rfl) (tf := .type "function") (by kernel_rfl) (by decide +kernel) D.one h
theorem appendM {pl : Sem Bool} {Q : Value × List Value → Shared → Prop} (F : Fr h₀ L s.heap m) (X : (K w.params).In h₀) (N : News h₀ L s.heap news) (hb : (x, boxO dx its n) ∈ news) (hd : (dx, od) ∈ news) (D : BoxDict od k)
    (h : Q (.builtin "list.append", [.ref x]) s) : wpAny (model PR w) A (getMethod (.ref x) "append" pl) Q E s :=
  method175 (X.keeps F.keep) (box_inst (N _ hb).1 (N _ hd).1) (by kernel_rfl) (tf := .type "method_descriptor") (by kernel_rfl) (by decide +kernel) D.two h
theorem appendK {v : Value} {Q : Value → Shared → Prop} (F : Fr h₀ L s.heap m) (X : (K w.params).In h₀) (N : News h₀ L s.heap news) (U : UpdF x (boxO dx its n) news g) (hd : (dx, od) ∈ news) (hz : its.size ≤ 1000)
    (h : ∀ h', Fr h₀ L h' m → News h₀ L h' (g (boxO dx (its.push v) (n + 1))) → Q .none { s with heap := h' }) :
    wpAny (model PR w) A (call (.builtin "list.append") [.ref x, v]) Q E s := by
  obtain ⟨pre, post, rfl, hg, h1, h2⟩ := U.split
  refine wpAny_call (append175 F X N h1 h2 hd hz fun h' F' N' => ?_)
  rw [← hg] at N'
  exact h h' F' N'
end
end Mine
namespace Mine
local macro_rules | `(tactic| k_updF) => `(tactic| first | assumption | (refine' UpdF.tail ?a ?b; (case a => exact ne_of_upd (by assumption) (by assumption)); (case b => assumption)))
local macro_rules | `(tactic| k_mem) => `(tactic| first | exact updMem (by assumption) | assumption | exact List.mem_cons_of_mem _ (updMem (by assumption)) | exact List.mem_cons_of_mem _ (by assumption))
local macro_rules | `(tactic| walk_at "getMethod ref") => `(tactic| (k_here; (refine' appendM ?k1 ?k2 ?k3 ?k4 ?k5 ?k6 ?_; (case k1 => k_asm); (case k2 => k_asm); (case k3 => k_asm); (case k4 => k_mem); (case k5 => k_mem); (case k6 => assumption))))
local macro_rules | `(tactic| walk_at "call builtin:list.append") => `(tactic| (k_here; (refine' appendK ?k1 ?k2 ?k3 ?k4 ?k5 ?k6 ?_; (case k1 => k_asm); (case k2 => k_asm); (case k3 => k_asm); (case k4 => k_updF); (case k5 => k_mem); (case k6 => assumption)); intro h' F' N'))
set_option maxHeartbeats 8000000 in
theorem pushC (w : World) (mean : ExcName → Option Value) (mg mb : Str → Option Value) (f p : Str) (t1 t2 : Tok) (x dx : Addr) (its : Array Value) (n : Nat) (od : Obj) (k : Int) (g : Obj → List (Addr × Obj)) :
  ∀ (news : CbLed) (dp un : Nat) (gd : Option (List Code)) (cn : Str) (cs : Scope) (a : Addr) (ccd : Value) (cl : List (Str × Addr)) (outer : List Env) (A₀ : Around) (base h₀ : Heap) (L : Addr) (m : Str → Option Value) (s : Shared) (Q E : Value → Shared → Prop),
    Below A₀ base outer h₀ → Fr h₀ L s.heap m → (K w.params).In h₀ → News h₀ L s.heap news → Top q (looseW q loose) mean mg mb h₀ → cs.kind = .function →
    dp + 8 < recursionLimit → un + 64 < cLine → UpdF x (boxO dx its n) news g → (dx, od) ∈ news → BoxDict od k → its.size ≤ 1000 →
    (∀ T h' tk', Fr h₀ L h' m → News h₀ L h' ((T, tupO f p t1 t2) :: g (boxO dx (its.push (.ref T)) (n + 1))) → (∀ p ∈ news, p.1 < T) → Q .none { s with heap := h', toks := tk' }) →
      wpAny (model PR w) (ktrTop dp un gd cn cs L a ccd cl outer) (call (.ref 121) [.ref x, .str f t1, .str p t2]) Q E s := by
  have h0 : PySem.Challenge.rw_xn0019_01.prog = PySem.Challenge.rw_xn0019_01.prog ∧ K = K := ⟨rfl, rfl⟩; revert h0; k_fill; w_top off; k_with_none; intro h0; clear h0
  intros; rename_i hret
  refine wpAny_call ?_
  k_dflt cell_enter
  k_steps
  exact hret _ _ _ (by assumption) (by assumption) (by assumption)
end Mine
end
section
open PySem PySem.W PyProof.Rows
set_option maxRecDepth 100000
set_option linter.unusedVariables false
set_option linter.unusedSimpArgs false
namespace Mine
/-- any object that holds items one after the other -/
def HasSeq (h : Heap) (a : Addr) (items : Array Value) : Prop := ∃ o n, h.get? a = some o ∧ o.data = .seq items n
theorem HasSeq.at {h h' : Heap} {a : Addr} {items : Array Value} (x : HasSeq h a items) (k : ∀ o, h.get? a = some o → h'.get? a = some o) : HasSeq h' a items :=
  let ⟨o, n, ho, hd⟩ := x; ⟨o, n, k o ho, hd⟩
section
variable {prog : Program} {w : World} {A : Around} {E : Value → Shared → Prop} {s : Shared} {it l : Addr} {i : Nat} {items : Array Value}
theorem next_item {x : Value} {Q : Option Value → Shared → Prop} (hit : s.heap.IsListIter it l i) (hl : HasSeq s.heap l items) (hx : items[i]? = some x)
    (hQ : ∀ h', h'.IsListIter it l (i + 1) → Heap.SameBut it s.heap h' → Q (some x) { s with heap := h' }) : wpAny (model prog w) A (pyNext (.ref it)) Q E s := by
  obtain ⟨o, ho, hc, hd⟩ := id hit
  obtain ⟨ol, nl, hol, hdl⟩ := hl
  unfold pyNext
  refine wpAny_bind (wpAny_attempt (wpAny_callSpecial?_slot (name := Str.ofString "__next__") hit.typeIs slot_listiter_next
    (wpAny_call_entry slot_listiter_next hit.typeIs entry_listiter_next ?_ (args_listiter_next _))))
  show wpAny _ _ (field (.ref it) 0 >>= _) _ _ s
  refine wpAny_bind (wpAny_field ho hd (x := .ref l) rfl ?_)
  show wpAny _ _ (if (Value.ref l == Value.none) = true then _ else _) _ _ s
  rw [if_neg (show ¬ ((Value.ref l == Value.none) = true) from Bool.false_ne_true)]
  show wpAny _ _ (field (.ref it) 1 >>= _) _ _ s
  refine wpAny_bind (wpAny_field ho hd (x := .int i 0) rfl ?_)
  show wpAny _ _ (seqItems? (.ref l) >>= _) _ _ s
  refine wpAny_bind (wpAny_seqItems hol hdl ?_)
  simp only [Int.toNat_natCast, hx]
  refine wpAny_bind (wpAny_setField ho hd (by simp) (wpAny_pure ⟨x, rfl, wpAny_pure (hQ _ ?_ (Heap.SameBut.update ..))⟩))
  exact ⟨_, Heap.get?_update_self _ ho (Obj.isFreed_of_fields (Obj.data_mapFields hd _)), (Obj.cls_mapFields ..).trans hc, by
    rw [Obj.data_mapFields hd]; simp [rawInt]⟩
theorem next_end {Q : Option Value → Shared → Prop} (hh : A.handled = none) (hit : s.heap.IsListIter it l i) (hl : HasSeq s.heap l items) (hx : items[i]? = none)
    (hQ : ∀ h', Heap.ExtBut it s.heap h' → Q none { s with heap := h' }) : wpAny (model prog w) A (pyNext (.ref it)) Q E s := by
  obtain ⟨o, ho, hc, hd⟩ := id hit
  obtain ⟨ol, nl, hol, hdl⟩ := hl
  unfold pyNext
  refine wpAny_bind (wpAny_attempt (wpAny_callSpecial?_slot (name := Str.ofString "__next__") hit.typeIs slot_listiter_next
    (wpAny_call_entry slot_listiter_next hit.typeIs entry_listiter_next ?_ (args_listiter_next _))))
  show wpAny _ _ (field (.ref it) 0 >>= _) _ _ s
  refine wpAny_bind (wpAny_field ho hd (x := .ref l) rfl ?_)
  show wpAny _ _ (if (Value.ref l == Value.none) = true then _ else _) _ _ s
  rw [if_neg (show ¬ ((Value.ref l == Value.none) = true) from Bool.false_ne_true)]
  show wpAny _ _ (field (.ref it) 1 >>= _) _ _ s
  refine wpAny_bind (wpAny_field ho hd (x := .int i 0) rfl ?_)
  show wpAny _ _ (seqItems? (.ref l) >>= _) _ _ s
  refine wpAny_bind (wpAny_seqItems hol hdl ?_)
  simp only [Int.toNat_natCast, hx]
  refine wpAny_bind (wpAny_rule (wpAny_bind (wpAny_setField ho hd (by simp) ?_)))
  show wpAny _ _ (newExc (.type "StopIteration") [] >>= _) _ _ _
  refine wpAny_bind ?_
  simp only [newExc, newTuple]
  refine wpAny_bind (wpAny_newObj_type ?_ (by size_fits))
  refine wpAny_bind (m := firstArgMember _ _) (wpAny_of_eq (a := Value.none) (by first | rfl | (simp only [firstArgMember]; rfl)) ?_)
  refine wpAny_newObj_type ?_ (by size_fits)
  simp only [raiseNew]
  refine wpAny_bind (wpAny_handled ?_)
  rw [show A.in1.handled = none from hh]
  refine wpAny_bind (wpAny_pure (wpAny_throw ?_))
  refine wpAny_bind (wpAny_isInstance (T := "StopIteration") (b := true) ⟨_, Heap.get?_push_size _ rfl, rfl⟩ isSubtype_stop ?_)
  exact wpAny_pure (hQ _ (((Heap.SameBut.update ..).extBut.push _).push _))
/-- a walk over the pairs of a box -/
theorem walkPairs (hh : A.handled = none) (I ax : Addr) (hne : ax ≠ I) (items : Array Value) (Ts : Nat → Addr) (vals : Nat → Array Value)
    (hit : ∀ j, j < items.size → items[j]? = some (.ref (Ts j))) (hTI : ∀ j, j < items.size → Ts j ≠ I) :
    WalksU prog w A I (I :: ax :: (List.range items.size).map Ts) [I] items.size (fun j v => j < items.size ∧ v = vals j)
      (fun j h => h.IsListIter I ax j ∧ HasSeq h ax items ∧ ∀ k, k < items.size → h.IsTuple (Ts k) (vals k))
      (fun j T h => (j < items.size ∧ T = Ts j) ∧ h.IsListIter I ax (j + 1) ∧ HasSeq h ax items ∧ ∀ k, k < items.size → h.IsTuple (Ts k) (vals k)) where
  sub := fun b hb => by simp at hb; simp [hb]
  frame := fun _ _ _ st hk => ⟨st.1.at fun o e => hk I (by simp) o e, st.2.1.at fun o e => hk ax (by simp) o e,
    fun k hk' => (st.2.2 k hk').at fun o e => hk (Ts k) (List.mem_cons_of_mem _ (List.mem_cons_of_mem _ (List.mem_map.mpr ⟨k, List.mem_range.mpr hk', rfl⟩))) o e⟩
  item := fun i s Q E hi st hQ => by
    refine next_item st.1 st.2.1 (x := .ref (Ts i)) (hit i hi) fun h' hit' hs' => ?_
    have tup : ∀ k, k < items.size → h'.IsTuple (Ts k) (vals k) := fun k hk' => (st.2.2 k hk').extBut hs'.extBut (hTI k hk')
    exact hQ (Ts i) (vals i) h' s.toks ⟨hi, rfl⟩ (tup i hi) ⟨⟨hi, rfl⟩, hit', st.2.1.at (fun o e => hs'.extBut _ _ hne e), tup⟩ fun b o hb e => hs'.extBut b o (fun h => hb (by simp [h])) e
  go := fun _ _ _ _ _ s Q _ hm hQ => wpAny_letOwnedTupleGo_listiter hm.2.1 (hQ s.heap hm.2 fun _ _ _ e => e)
  apart := fun j T _ hm hmem => by
    rcases List.mem_cons.mp hmem with e | e
    · exact hTI j hm.1.1 (hm.1.2 ▸ e)
    · cases e
  done := fun s Q E st hQ => next_end hh st.1 st.2.1 (by simp) fun h' he' => hQ h' s.toks fun b o hb e => he' b o (fun h => hb (by simp [h])) e
  self := fun _ _ _ _ st hQ => wpAny_pyIter_listiter st.1 hQ
end
section
variable {w : World} {A : Around} {E : Value → Shared → Prop} {s : Shared} {x dx : Addr} {its : Array Value} {n : Nat} {od : Obj}
theorem iter_box {Q : Value → Shared → Prop} (X : (K w.params).In s.heap) (I : W.InstAt s.heap x (boxO dx its n) 175 (some od))
    (hQ : Q (.ref s.heap.objs.size) { s with heap := s.heap.push { cls := .type "list_iterator", data := .fields #[.ref x, .int 0 0] } }) :
    wpAny (model PR w) A (pyIter (.ref x)) Q E s := by
  obtain ⟨h, g, d, t, os⟩ := s
  have hi : findIn (K w.params) (.ref 175) "__iter__" = some (some (.builtin "list.__iter__")) := by kernel_rfl
  have i1 := I.type (M := model PR w)
  have i2 : Looks (model PR w) h (typeLookup (.ref 175) "__iter__") (some (.builtin "list.__iter__")) := looks_findIn X hi
  have i3 : Looks (model PR w) h (isInstance (.ref x) (.type "list")) true := I.type.andThen (list175 X)
  have hb := slot_list_iter.bind (.ref x)
  unfold pyIter specialOf
  repeat (first | with_reducible refine Looks.at i1 ?_ | with_reducible refine Looks.at i2 ?_ | with_reducible refine wpAny_of_eq hb ?_ | with_reducible refine wpAny_call ?_ | lk)
  have hT : ∀ T : Heap, Shared.TypeIs ⟨h.push { cls := .type "list_iterator", data := .fields #[.ref x, .int 0 0] }, g, d, t, os⟩ (.ref h.objs.size) "list_iterator" := fun _ => ⟨_, Heap.get?_push_size _ rfl, rfl⟩
  have hn := slot_listiter_next.lookup
  have fin : ∀ (A' : Around) (E' : Value → Shared → Prop) (R : Result → Shared → Prop), R (.ok (.ret (.ref h.objs.size))) ⟨h.push { cls := .type "list_iterator", data := .fields #[.ref x, .int 0 0] }, g, d, t, os⟩ →
      codeAny (model PR w) A' (.call (.builtin "list.__iter__") ⟨[.ref x], []⟩) R ⟨h, g, d, t, os⟩ := by
    intro A' E' R hR
    refine codeAny_call_builtin slot_list_iter.plain entry_list_iter (@check_slot (model PR w) _ _ _ "list.__iter__" "list" "__iter__" (.ref x) [] [] _ (by decide +kernel) (by decide +kernel) i3 (args_list_iter _) ?_)
    show wpAny _ _ (do ret (← newFields "list_iterator" [.ref x, rawInt 0])) _ _ _
    exact wpAny_bind (wpAny_newObj_type (wpAny_pure hR))
  split
  · rw [hb]
    repeat (first | with_reducible refine wpAny_call ?_ | lk)
    refine fin _ (fun _ _ => True) _ ?_
    refine wpAny_pure ?_
    refine wpAny_bind (wpAny_bind (wpAny_typeOf (hT h) (wpAny_of_eq hn ?_)))
    exact wpAny_pure hQ
  · rw [hb]
    refine wpAny_tryCatch ?_
    repeat (first | with_reducible refine wpAny_call ?_ | lk)
    refine fin _ (fun _ _ => True) _ ?_
    refine wpAny_pure ?_
    refine wpAny_bind (wpAny_bind (wpAny_typeOf (hT h) (wpAny_of_eq hn ?_)))
    exact wpAny_pure hQ
end
end Mine
end
section
open PySem PySem.W PyProof.Rows
set_option maxRecDepth 100000
set_option linter.unusedVariables false
set_option linter.unusedSimpArgs false
namespace Mine
abbrev tabT (ps : Array Value) : Obj := { cls := .none, data := .fields ps }
/-- the table of the codes within a code that holds one generator expression: not yet made, or made -/
def Tab (pos : Pos) (ps : Array Value) : Prop := ps = #[] ∨ ∃ c' : Addr, ps = #[rawInt pos.line, rawInt pos.col, .ref c']
theorem codeAmong_one (pos : Pos) (c' : Addr) : codeAmong pos (#[rawInt pos.line, rawInt pos.col, .ref c'] : Array Value).toList = some (.ref c') := by
  simp [codeAmong, rawInt]
section
variable {w : World} {A : Around} {E : Value → Shared → Prop} {s : Shared} {h₀ : Heap} {L c P : Addr} {m : Str → Option Value} {news : List (Addr × Obj)} {g : Obj → List (Addr × Obj)} {ps : Array Value} {env : Env} {pos : Pos} {qn : Str} {scope : Scope}
theorem codeHd_isCode {h : Heap} (C : CodeHd h₀ c P) (k : ∀ b o, h₀.get? b = some o → h.get? b = some o) (hP : h.get? P = some (tabT ps)) (ht : TriplesOk ps.toList) : h.IsCode c P ps ∧ h.TableAt c P ps := by
  obtain ⟨o, vs, file, tf, flags, tg, inF, text, tt, e1, e2, e3, e4, e5, e6, e7, e8, e9, e10⟩ := C
  exact ⟨⟨o, vs, file, tf, flags, tg, inF, text, tt, _, k _ _ e1, e3, e5, e6, e7, e8, e9, hP, rfl, ht, e10⟩, ⟨o, vs, k _ _ e1, e2, e3, e4⟩, hP⟩
theorem genCode {Q : Value → Shared → Prop} (F : Fr h₀ L s.heap m) (N : News h₀ L s.heap news) (C : CodeHd h₀ c P) (U : UpdF P (tabT ps) news g) (ht : Tab pos ps) (hc : env.code = .ref c)
    (h : ∀ c' h' tk ps', Fr h₀ L h' m → News h₀ L h' (g (tabT ps')) → Tab pos ps' → Heap.ExtBut P s.heap h' → s.heap.objs.size ≤ h'.objs.size → Q (.ref c') { s with heap := h', toks := tk }) :
    wpAny (model PR w) A (genexprCode env pos qn scope) Q E s := by
  obtain ⟨pre, post, rfl, hg, h1, h2⟩ := U.split
  have hP := (N (P, tabT ps) (by simp)).1
  rcases ht with rfl | ⟨c', rfl⟩
  · obtain ⟨ic, ta⟩ := codeHd_isCode C F.keep hP (ps := #[]) (by exact trivial)
    refine wpAny_genexprCodeX hc ic ta rfl fun c' h' tk hx hge hlt _ _ ht' _ => ?_
    have hP0 := (N (P, tabT #[]) (by simp)).2
    refine h c' h' tk _ ⟨F.ns.extBut hx (Ne.symm hP0.1), fun b o e => hx b o (fun z => by rw [z, hP0.2] at e; cases e) (F.keep b o e), F.above⟩ ?_ (.inr ⟨c', rfl⟩) hx (Nat.le_trans hge (Nat.le_of_lt hlt))
    rw [hg]
    intro p hp
    rcases List.mem_append.mp hp with hp | hp
    · have := N p (List.mem_append_left _ hp)
      exact ⟨hx _ _ (h1 p hp) this.1, this.2⟩
    · rcases List.mem_cons.mp hp with rfl | hp
      · exact ⟨by simpa using ht'.2, hP0⟩
      · have := N p (List.mem_append_right _ (.tail _ hp))
        exact ⟨hx _ _ (h2 p hp) this.1, this.2⟩
  · obtain ⟨o, vs, file, tf, flags, tg, inF, text, tt, e1, e2, e3, e4, e5, e6, e7, e8, e9, e10⟩ := C
    unfold genexprCode codeAt
    rw [hc, if_neg (show ¬ ((Value.ref c == Value.none) = true) from Bool.false_ne_true)]
    refine wpAny_bind (wpAny_fieldsOf (F.keep _ _ e1) e3 ?_)
    rw [e5]
    refine wpAny_bind (wpAny_fieldsOf hP rfl ?_)
    rw [codeAmong_one]
    refine wpAny_pure (h c' s.heap s.toks _ F ?_ (.inr ⟨c', rfl⟩) (fun _ _ _ e => e) (Nat.le_refl _))
    rw [hg]; exact N
theorem passing_all (n : Nat) : passing (fun _ => true) n 0 = List.range n := by simp [passing]
theorem genBox {elt iter : Expr} {xa xb : Str} {pa pb pt : Pos} {kt : Nat} {Q : Value → Shared → Prop} {x dx : Addr} {its : Array Value} {n : Nat} {od : Obj} {Ts : Nat → Addr} {va vb : Nat → Value} {Fv : Nat → Value → Prop} {mg mb : Str → Option Value} {mean : ExcName → Option Value}
    (hh : A.handled = none) (hco : scope.isCoroutine = false) (hclos : closureFor scope env = pure []) (hcell : ∀ y ∈ scope.names, y.2 ≠ .cell) (h0 : scope.names.lookup (".0" : Str) = some NameKind.local)
    (hxa : scope.names.lookup xa = some .local) (hxb : scope.names.lookup xb = some .local) (hab : xa ≠ xb) (hkind : scope.kind = .function) (hroom : A.depth < recursionLimit)
    (hglob : env.globals = mainGlobals) (hs : ∀ x, genFold iter env x = pure x) (hc : env.code = .ref c)
    (F : Fr h₀ L s.heap m) (X : (K w.params).In h₀) (T : Top q (looseW q loose) mean mg mb h₀) (N : News h₀ L s.heap news) (C : CodeHd h₀ c P) (U : UpdF P (tabT ps) news g) (ht : Tab pos ps) (G : AllBare s.gens)
    (hb : (x, boxO dx its n) ∈ news) (hd : (dx, od) ∈ news)
    (hit : ∀ j, j < its.size → its[j]? = some (.ref (Ts j)) ∧ s.heap.IsTuple (Ts j) #[va j, vb j])
    (hiter : ∀ Q', Q' (.ref x) s → wpAny (model PR w) A (eval iter env) Q' E s)
    (helt : ∀ (c' C : Addr) (A' : Around) E' i (u : Shared) m₂, A'.handled = none → A'.depth ≤ A.depth + 1 → A'.units ≤ A.units + 8 → i < its.size → Fr h₀ C u.heap m₂ → m₂ xa = some (va i) → m₂ xb = some (vb i) →
      wpAny (model PR w) A' (eval elt (genEnv scope [] C (.ref c') builtinsNs env)) (fun y s₃ => Fv i y ∧ Keeps u s₃) E' u)
    (h : ∀ a s₅ ps' Kb, Fr h₀ L s₅.heap m → News h₀ L s₅.heap (g (tabT ps')) → Tab pos ps' → AllBare s₅.gens → s₅.os = s.os → L ≤ Kb → (∀ p ∈ news, p.1 ≤ Kb) → (∀ b o, b ≠ P → s.heap.get? b = some o → s₅.heap.get? b = some o) →
      Gen PR w A Kb a its.size Fv s₅ → Q (.ref a) s₅) :
    wpAny (model PR w) A (eval (.GeneratorExp elt [⟨.Tuple [.Name xa pa, .Name xb pb] kt pt, iter, [], 0⟩] scope pos) env) Q E s := by
  refine wpAny_GeneratorExp_walksQTD hh hco hclos hcell h0 hxa hxb hab hkind hroom (hiter _ ?_) hs
  have I := box_inst (N _ hb).1 (N _ hd).1
  have hxlt := Heap.lt_size (N _ hb).1
  refine iter_box (X.keeps F.keep) I ?_
  have F1 : Fr h₀ L (s.heap.push { cls := .type "list_iterator", data := .fields #[.ref x, .int 0 0] }) m := F.push _
  have N1 : News h₀ L (s.heap.push { cls := .type "list_iterator", data := .fields #[.ref x, .int 0 0] }) news := fun p hp => ⟨Heap.get?_push_of_some _ (N p hp).1, (N p hp).2⟩
  refine ⟨T.nolimit.keeps F1.keep, ?_⟩
  refine genCode (s := { s with heap := s.heap.push { cls := .type "list_iterator", data := .fields #[.ref x, .int 0 0] } }) F1 N1 C U ht hc fun c' h' tk ps' F' N' ht' hx hsz => ?_
  obtain ⟨bm, ob, M⟩ := bmod_of_top T
  obtain ⟨pre, post, e, hg, h1, h2⟩ := U.split
  have hPx : x ≠ P := by
    intro z
    have a1 := (N _ hb).1
    have a2 := (N (P, tabT ps) (by rw [e]; simp)).1
    rw [z] at a1; rw [a1] at a2; cases a2
  have hPn : h₀.get? P = none := (N (P, tabT ps) (by rw [e]; simp)).2.2
  have hPlt : P < s.heap.objs.size := Heap.lt_size (N (P, tabT ps) (by rw [e]; simp)).1
  rw [hglob]
  refine wpAny_builtinsFor (m := mg) (bm := bm) (o := ob) (M.ns.keeps F'.keep) M.name M.ne (F'.keep _ _ M.obj) M.cls M.dict M.data ?_
  have hT : ∀ j, j < its.size → Ts j < s.heap.objs.size ∧ Ts j ≠ P ∧ h'.IsTuple (Ts j) #[va j, vb j] := by
    intro j hj
    obtain ⟨o, ho, r⟩ := (hit j hj).2
    have hne : Ts j ≠ P := by
      intro z
      have a2 := (N (P, tabT ps) (by rw [e]; simp)).1
      rw [z, a2] at ho
      cases ho
      cases r.1
    exact ⟨Heap.lt_size ho, hne, ⟨o, hx _ _ hne (Heap.get?_push_of_some _ ho), r⟩⟩
  have hIP : s.heap.objs.size ≠ P := Ne.symm (Nat.ne_of_lt hPlt)
  have hLlt : @LT.lt Nat _ L s.heap.objs.size := F.ns.lt
  have hL' : @LT.lt Nat _ L h'.objs.size := F'.ns.lt
  have hab0 : @LE.le Nat _ h₀.objs.size L := F.above
  rw [Heap.size_push] at hsz
  refine ⟨s.heap.objs.size, _, _, its.size, _, _, _, fun _ => true, Fv, rfl, fun A' hA => walkPairs hA s.heap.objs.size x (Nat.ne_of_lt hxlt) its Ts (fun j => #[va j, vb j]) (fun j hj => (hit j hj).1) (fun j hj => Nat.ne_of_lt (hT j hj).1), ?_, ⟨?_, ?_, fun k hk => (hT k hk).2.2⟩, ?_, T.nolimit.keeps F'.keep, ?_, ?_, ?_⟩
  · rintro i vals ⟨_, rfl⟩; exact ⟨_, _, rfl⟩
  · exact ⟨_, hx _ _ hIP (Heap.get?_push_size _ rfl), rfl, rfl⟩
  · exact ⟨_, _, hx _ _ hPx (Heap.get?_push_of_some _ (N _ hb).1), rfl⟩
  · intro b hb'
    rcases List.mem_cons.mp hb' with rfl | hb'
    · exact hsz
    · rcases List.mem_cons.mp hb' with rfl | hb'
      · exact Nat.lt_of_lt_of_le (Nat.lt_succ_of_lt hxlt) hsz
      · obtain ⟨j, hj, rfl⟩ := List.mem_map.mp hb'
        exact Nat.lt_of_lt_of_le (Nat.lt_succ_of_lt (hT j (List.mem_range.mp hj)).1) hsz
  · intro hm
    obtain ⟨mc, hn, _⟩ := T.nolimit
    have : cStatics < h₀.objs.size := hn.lt
    rw [List.mem_singleton.mp hm] at this
    exact absurd (Nat.lt_of_lt_of_le this hab0) (Nat.not_lt.mpr (Nat.le_of_lt hLlt))
  · intro href hhref
    have inB : ∀ (u : Shared) m₂, u.heap.Ns h'.objs.size m₂ → (∀ b ∈ List.range h'.objs.size, b ∉ [s.heap.objs.size] → ∀ o, href.get? b = some o → u.heap.get? b = some o) → Fr h₀ h'.objs.size u.heap m₂ := by
      intro u m₂ hn hkp
      refine ⟨hn, fun b o e' => ?_, Nat.le_trans F'.above (Nat.le_of_lt hL')⟩
      have hb1 : @LT.lt Nat _ b h₀.objs.size := Heap.lt_size e'
      exact hkp b (List.mem_range.mpr (Nat.lt_of_lt_of_le hb1 (Nat.le_trans hab0 (Nat.le_of_lt hL')))) (fun hm => by rw [List.mem_singleton.mp hm] at hb1; omega) o (hhref b o (F'.keep b o e'))
    refine ⟨fun A' E' i a b u m₂ hA hD hU hP hn hma hmb hkp => wpAny_pure ⟨rfl, ⟨u.heap, u.toks, rfl, fun _ _ e => e⟩⟩, fun A' E' i a b u m₂ hA hD hU hP hp hn hma hmb hkp => ?_⟩
    obtain ⟨hi, hv⟩ := hP
    have ha : a = va i ∧ b = vb i := by simpa using hv
    obtain ⟨rfl, rfl⟩ := ha
    exact helt c' _ A' E' i u m₂ hA hD hU hi (inB u m₂ hn hkp) hma hmb
  · intro a h₅ tk' gs hgb hag hsz₅ hk₅ W hat
    rw [passing_all] at W
    have W' : WalksS PR w A.in4 a (a :: h'.objs.size :: List.range h'.objs.size) (h'.objs.size :: [s.heap.objs.size]) (GenOnlyQ s.gens.size) its.size Fv (GenAt PR w A.in4 a s.gens.size h'.objs.size (List.range h'.objs.size) [s.heap.objs.size] (fun _ => true) its.size Fv) := by
      have := W.imp (P' := Fv) (fun j y hy => by
        obtain ⟨i, hi, hf⟩ := hy
        rw [List.getElem?_range] at hi
        · cases hi; exact hf
        · by_cases hj : j < its.size
          · exact hj
          · rw [List.getElem?_eq_none (by simpa using hj)] at hi; cases hi)
      rw [List.length_range] at this
      exact this
    refine h a _ ps' (s.heap.objs.size - 1) ⟨?_, fun b o e => hk₅ b o (F'.keep b o e), F'.above⟩ (fun p hp => ⟨hk₅ _ _ (N' p hp).1, (N' p hp).2⟩) ht' (G.push hgb) rfl (Nat.le_sub_one_of_lt hLlt) (fun p hp => Nat.le_sub_one_of_lt (Heap.lt_size (N p hp).1)) (fun b o hbP e => hk₅ b o (hx b o hbP (Heap.get?_push_of_some _ e))) ⟨_, _, _, _, W', hat, (fun i s' st => st.1.typeIs), List.mem_cons_self, ?_, ?_⟩
    · exact F'.ns.keeps hk₅
    · intro b hb'
      show b < h₅.objs.size
      rw [hsz₅]
      rcases List.mem_cons.mp hb' with rfl | hb'
      · exact Nat.lt_succ_self _
      · rcases List.mem_cons.mp hb' with rfl | hb'
        · exact Nat.lt_succ_of_lt hag
        · exact Nat.lt_succ_of_lt (Nat.lt_trans (List.mem_range.mp hb') hag)
    · intro b hb'
      rcases List.mem_cons.mp hb' with rfl | hb'
      · show @LT.lt Nat _ (s.heap.objs.size - 1) h'.objs.size; omega
      · rw [List.mem_singleton.mp hb']; show @LT.lt Nat _ (s.heap.objs.size - 1) s.heap.objs.size; omega
end
end Mine
end
section
open PySem PySem.W PyProof.Rows
set_option maxRecDepth 100000
set_option linter.unusedVariables false
set_option linter.unusedSimpArgs false
namespace Mine
theorem args_sum2 (a b : Value) : argsOk "sum" ⟨[a, b], []⟩ := by unfold argsOk; kernel_rfl
/-- the same walk, one turn ahead -/
theorem shiftS {prog : Program} {w : World} {A : Around} {I : Addr} {fp wr : List Addr} {G : Array GenState → Array GenState → Prop} {n : Nat} {P : Nat → Value → Prop} {St : Nat → Shared → Prop}
    (W : WalksS prog w A I fp wr G n P St) :
    WalksS prog w A I fp wr G (n + 1) (fun j v => match j with | 0 => False | j + 1 => P j v) (fun j s => match j with | 0 => False | j + 1 => St j s) where
  sub := W.sub
  grefl := W.grefl
  gtrans := W.gtrans
  frame := fun i s h' tk st ht hk => by
    cases i with
    | zero => exact st
    | succ i => exact W.frame i s h' tk st ht hk
  item := fun i s Q E hi st hQ => by
    cases i with
    | zero => exact st.elim
    | succ i => exact W.item i s Q E (Nat.lt_of_succ_lt_succ hi) st fun v s' hP hst hm => hQ v s' hP hst hm
  done := fun s Q E st hQ => W.done s Q E st hQ
  self := fun i s Q E st hQ => by
    cases i with
    | zero => exact st.elim
    | succ i => exact W.self i s Q E st hQ
def startVal (k : Int) (val : Nat → Int) : Nat → Int
  | 0 => k
  | j + 1 => val j
theorem preSum_start (k : Int) (val : Nat → Int) : ∀ j, preSum (startVal k val) (j + 1) = k + preSum val j
  | 0 => by simp [preSum, startVal]
  | j + 1 => by rw [preSum, preSum_start k val j]; simp only [preSum, startVal]; omega
section
variable {prog : Program} {w : World} {A : Around} {E : Value → Shared → Prop} {s : Shared} {h₀ : Heap} {L Kb a : Addr} {m : Str → Option Value} {n : Nat} {Fv : Nat → Value → Prop} {Q : Value → Shared → Prop} {k : Int} {t : Tok}
theorem sumStart (Fh : Fr h₀ L s.heap m) (G : AllBare s.gens) (X : Gen prog w A Kb a n Fv s) (hLK : L ≤ Kb) (val : Nat → Int) (hval : ∀ j v, Fv j v → ∃ t, v = .int (val j) t) (hk : InLong k)
    (hfit : ∀ j, j < n → InLong (val j) ∧ InLong (k + preSum val (j + 1)))
    (hQ : ∀ s' t', Fr h₀ L s'.heap m → AllBare s'.gens → s'.os = s.os → (∀ b o, b ≤ Kb → s.heap.get? b = some o → s'.heap.get? b = some o) → Q (.int (k + preSum val n) t') s') :
    wpAny (model prog w) A (call (.builtin "sum") [.ref a, .int k t]) Q E s := by
  obtain ⟨fp, wr, g, St, W, hst, _, _, hfp, hwr⟩ := X
  have W := W.in4_1
  refine call_function_tree F.kind_sum F.plain_sum F.entry_sum (args_sum2 _ _) ?_
  unfold Builtin.«sum»
  simp only [List.length_cons, List.length_nil]
  rw [if_neg (by decide)]
  refine wpAny_bind (wpAny_of_eq (show Builtin.Builtins.bindParams "sum" ["start"] 0 ⟨[.int k t], []⟩ = pure [some (.int k t)] from rfl) ?_)
  refine wpAny_bind (W.self 0 _ _ _ hst ?_)
  have hfl : (decide (-(2 ^ 63) ≤ k) && decide (k < 2 ^ 63)) = true := by
    obtain ⟨a, b⟩ := hk
    simp only [Bool.and_eq_true, decide_eq_true_eq]
    exact ⟨a, b⟩
  show wpAny _ _ (if (decide (-(2 ^ 63) ≤ k) && decide (k < 2 ^ 63)) = true then _ else _) _ _ _
  rw [if_pos hfl]
  refine wpAny_bind (wpAny_rule (wpAny_bind (wpAny_mkInt (wpAny_bind (wpAny_pure ?_)))))
  simp only [List.forIn_cons, List.forIn_nil]
  refine wpAny_bind (wpAny_bind (wpAny_bind (wpAny_isInstance (T := "int") (b := false) (typeIs_int _ _ _) PySem.sub_int_str ?_)))
  simp only [Bool.false_eq_true, if_false]
  refine wpAny_pure (wpAny_bind (wpAny_bind (wpAny_isInstance (T := "int") (b := false) (typeIs_int _ _ _) PySem.sub_int_bytes ?_)))
  simp only [Bool.false_eq_true, if_false]
  refine wpAny_pure (wpAny_bind (wpAny_bind (wpAny_isInstance (T := "int") (b := false) (typeIs_int _ _ _) PySem.sub_int_bytearray ?_)))
  simp only [Bool.false_eq_true, if_false]
  refine wpAny_pure (wpAny_pure ?_)
  refine wpAny_bind (wpAny_newObj_type ?_)
  have hSf : s.heap.objs.size ∉ fp := fun hm => Nat.lt_irrefl _ (hfp _ hm)
  refine wpAny_pure ⟨plainId_quiet F.plain_sum_loop _, codeAny_sum_loopS (shiftS W) (startVal k val) ?_ ?_ s.heap.objs.size hSf n 1 _ s.toks 0 (by omega) (by omega)
    (W.frame 0 s _ _ hst (by first | exact Nat.le_refl _ | exact Nat.le_succ _ | omega) fun b _ o e => Heap.get?_push_of_some _ e) ?_ fun s' t' hm => ?_⟩
  · intro i v hv
    cases i with
    | zero => exact hv.elim
    | succ i => exact hval i v hv
  · intro j hj
    rw [preSum_start]
    cases j with
    | zero => exact ⟨hk, by simpa [preSum] using hk⟩
    | succ j => exact hfit j (Nat.lt_of_succ_lt_succ hj)
  · rw [preSum_start]
    simpa [preSum] using Heap.get?_push_size _ rfl
  · rw [preSum_start]
    have hm := hm.drop_new (by first | exact Nat.le_refl _ | exact Nat.le_succ _ | omega)
    exact hQ s' t' (Fh.moved hm fun b hb => Nat.lt_of_le_of_lt hLK (hwr b hb)) (G.movedS hm) hm.os fun b o hb e => hm.heap b o (fun hmem => Nat.lt_irrefl _ (Nat.lt_of_lt_of_le (hwr b hmem) hb)) e
end
end Mine
end
section
open PySem PySem.W PyProof.Rows PySem.Builtin PySem.Builtin.ObjectAttr
set_option maxRecDepth 100000
set_option linter.unusedVariables false
set_option linter.unusedSimpArgs false
namespace Mine
theorem lga_kind : builtinKind "list.__getattribute__" = some .slot := by decide +kernel
theorem lga_split : splitId "list.__getattribute__" = some ("list", "__getattribute__") := by decide +kernel
section
variable {w : World} {A : Around} {E : Value → Shared → Prop} {s : Shared} {h₀ : Heap} {L : Addr} {m : Str → Option Value} {x dx : Addr} {its : Array Value} {n : Nat} {od : Obj} {k : Int} {news : List (Addr × Obj)}
theorem getSize0 {expr : Bool} {Q : Value → Shared → Prop} {t : Tok} (X : (K w.params).In s.heap) (I : W.InstAt s.heap x (boxO dx its n) 175 (some od)) (D : lookIn sizeName od = some (some (.int k t)))
    (h : Q (.int k t) { s with toks := s.toks + 1 }) : wpAny (model PR w) A (getAttr (.ref x) sizeName expr) Q E s := by
  obtain ⟨hh, g, d, tk, os⟩ := s
  have hga : findIn (K w.params) (.ref 175) "__getattribute__" = some (some (.builtin "list.__getattribute__")) := by kernel_rfl
  have hk : findIn (K w.params) (.ref 175) "__getattr__" = some none := by kernel_rfl
  have ha : findIn (K w.params) (.ref 175) sizeName = some none := by kernel_rfl
  have i1 := I.type (M := model PR w)
  have i2 := looks_findIn (M := model PR w) X hga
  have i3 := looks_findIn (M := model PR w) X hk
  have i4 : Looks (model PR w) hh (isInstance (.ref x) (.type "list")) true := i1.andThen (list175 X)
  have hf : findObj (K w.params) 175 (some od) sizeName = some (.value (.int k t)) := by
    unfold findObj
    have hc : clsIn (K w.params) 175 = some (cd175 w.params) := by kernel_rfl
    rw [hc, Option.bind_some, ha, Option.bind_some]
    have ho : W.ownOf (cd175 w.params) (some od) sizeName = some (some (.int k t)) := by
      unfold W.ownOf
      rw [if_pos (by kernel_rfl)]
      exact D
    simp [ho]
  have i5 := looks_find (M := model PR w) X I hf
  have hb := PySem.F.slot_list_getattribute.bind (.ref x)
  have fin : ∀ (A' : Around) (R : Result → Shared → Prop), R (.ok (.ret (.int k t))) ⟨hh, g, d, tk + 1, os⟩ → codeAny (model PR w) A' (.call (.builtin "list.__getattribute__") ⟨[.ref x, .str sizeName tk], []⟩) R ⟨hh, g, d, tk + 1, os⟩ := by
    intro A' R hR
    refine codeAny_call_builtin PySem.F.slot_list_getattribute.plain PySem.F.entry_list_ga (@check_slot (model PR w) _ _ ⟨hh, g, d, tk + 1, os⟩ "list.__getattribute__" "list" "__getattribute__" (.ref x) [.str sizeName tk] [] _ lga_kind lga_split i4 (by unfold argsOk; kernel_rfl) ?_)
    unfold Builtin.«object.__getattribute__»
    repeat (first | with_reducible refine Looks.at i1 ?_ | with_reducible refine Looks.at i5 ?_ | lk)
    exact hR
  unfold getAttr getAttrBy
  refine wpAny_bind (wpAny_mkText (wpAny_holding (wpAny_bind (i1.at (wpAny_bind (i2.at ?_))))))
  show wpAny _ _ (getAttrByItsOwn (.ref x) (.str sizeName tk) (.ref 175) (.builtin "list.__getattribute__") true expr) _ _ _
  unfold getAttrByItsOwn hookBefore callGetattribute boundAndCalled
  refine wpAny_bind (i3.at ?_)
  refine wpAny_bind (wpAny_attempt (wpAny_holding ?_))
  rw [show (expr && onTheHeap (Value.builtin "list.__getattribute__")) = false from Bool.and_false _, if_neg (by decide), hb]
  refine wpAny_bind (wpAny_pure (wpAny_call (fin _ _ ?_)))
  show wpAny _ _ (handedOut (.int k t)) _ _ _
  exact wpAny_pure h
end
end Mine
end
section
open PySem PySem.W PyProof.Rows PySem.Builtin PySem.Builtin.ObjectAttr
set_option maxRecDepth 100000
set_option linter.unusedVariables false
set_option linter.unusedSimpArgs false
namespace Mine
/-- the items of a box, as texts -/
def Pairs (news : List (Addr × Obj)) (its : Array Value) (prs : List (Str × Str)) : Prop :=
  its.size = prs.length ∧ ∀ j (hj : j < prs.length), ∃ T t1 t2, its[j]? = some (.ref T) ∧ (T, tupO prs[j].1 prs[j].2 t1 t2) ∈ news
theorem Pairs.mono {news news' : List (Addr × Obj)} {its : Array Value} {prs : List (Str × Str)} (h : Pairs news its prs) (s : ∀ p ∈ news, p ∈ news') : Pairs news' its prs :=
  ⟨h.1, fun j hj => let ⟨T, t1, t2, a, b⟩ := h.2 j hj; ⟨T, t1, t2, a, s _ b⟩⟩
theorem Pairs.nil {news : List (Addr × Obj)} : Pairs news #[] [] := ⟨rfl, fun j hj => absurd hj (Nat.not_lt_zero _)⟩
theorem Pairs.push {news : List (Addr × Obj)} {its : Array Value} {prs : List (Str × Str)} (h : Pairs news its prs) {T : Addr} {f p : Str} {t1 t2 : Tok} (hT : (T, tupO f p t1 t2) ∈ news) : Pairs news (its.push (.ref T)) (prs ++ [(f, p)]) := by
  refine ⟨by simp [h.1], fun j hj => ?_⟩
  by_cases hl : j < prs.length
  · obtain ⟨T', u1, u2, a, b⟩ := h.2 j hl
    have hs : j < its.size := by rw [h.1]; exact hl
    refine ⟨T', u1, u2, ?_, ?_⟩
    · rw [Array.getElem?_push_lt hs]
      rw [Array.getElem?_eq_getElem hs] at a
      exact a
    · simpa [List.getElem_append_left hl] using b
  · have hj' : j = prs.length := by simp at hj; omega
    subst hj'
    refine ⟨T, t1, t2, ?_, ?_⟩
    · rw [← h.1]; simp
    · simpa using hT
/-- the addresses and the values of the pairs -/
theorem Pairs.open {h₀ h : Heap} {L : Addr} {news : List (Addr × Obj)} {its : Array Value} {prs : List (Str × Str)} (x : Pairs news its prs) (N : News h₀ L h news) :
    ∃ (Ts : Nat → Addr) (va vb : Nat → Value), (∀ j, j < its.size → its[j]? = some (.ref (Ts j)) ∧ h.IsTuple (Ts j) #[va j, vb j]) ∧
      ∀ j (hj : j < prs.length), (∃ t, va j = .str prs[j].1 t) ∧ ∃ t, vb j = .str prs[j].2 t := by
  have H : ∀ j, ∃ t : Addr × Value × Value, j < prs.length → (its[j]? = some (.ref t.1) ∧ h.IsTuple t.1 #[t.2.1, t.2.2]) ∧ ∀ hj : j < prs.length, (∃ u, t.2.1 = .str prs[j].1 u) ∧ ∃ u, t.2.2 = .str prs[j].2 u := by
    intro j
    by_cases hj : j < prs.length
    · obtain ⟨T, t1, t2, a, b⟩ := x.2 j hj
      exact ⟨(T, .str prs[j].1 t1, .str prs[j].2 t2), fun _ => ⟨⟨a, ⟨_, (N _ b).1, rfl, ⟨0, rfl⟩⟩⟩, fun _ => ⟨⟨t1, rfl⟩, ⟨t2, rfl⟩⟩⟩⟩
    · exact ⟨(0, .none, .none), fun h => absurd h hj⟩
  exact ⟨fun j => (Classical.choose (H j)).1, fun j => (Classical.choose (H j)).2.1, fun j => (Classical.choose (H j)).2.2, fun j hj => (Classical.choose_spec (H j) (x.1 ▸ hj)).1, fun j hj => (Classical.choose_spec (H j) hj).2 hj⟩
end Mine
end
section
open PySem PySem.W PyProof.Rows PySem.Builtin PySem.Builtin.ObjectAttr PySem.Calls
set_option maxRecDepth 100000
set_option linter.unusedVariables false
set_option linter.unusedSimpArgs false
namespace Mine
section
variable {M : Model} {w : World} {A : Around} {E : Value → Shared → Prop} {s : Shared} {h₀ : Heap} {C : Addr} {m : Str → Option Value} {scope : Scope} {code : Value} {env : Env} {x : Str} {pos : Pos} {v : Value} {Q : Value → Shared → Prop} {mg mb : Str → Option Value} {mean : ExcName → Option Value} {P : Params}
theorem gnameB (F : Fr h₀ C s.heap m) (X : (K P).In h₀) (T : Top q (looseW q loose) mean mg mb h₀) (e : nsIn (K P) mainGlobals x = some none) (hv : bootBuiltins x = some v) (hn : x ≠ "__name__") (h : Q v s)
    (hg : env.globals = mainGlobals) (hk : scope.kind = .function) (hx : (genEnv scope [] C code builtinsNs env).kindOf x = some .globalImplicit) (hd : (x == ("__debug__" : Str)) = false) :
    wpAny M A (eval (.Name x pos) (genEnv scope [] C code builtinsNs env)) Q E s :=
  Name_function_global hk hx (loadGlobal_builtin (env := genEnv scope [] C code builtinsNs env) (show s.heap.Ns env.globals mg from hg ▸ T.g.keeps F.keep) (mg_none_of X T.g e) (T.b.keeps F.keep) ((T.builtins x hn).trans hv) h) hd
theorem gnameK (F : Fr h₀ C s.heap m) (X : (K P).In h₀) (T : Top q (looseW q loose) mean mg mb h₀) (e : nsIn (K P) mainGlobals x = some (some v)) (h : Q v s)
    (hg : env.globals = mainGlobals) (hk : scope.kind = .function) (hx : (genEnv scope [] C code builtinsNs env).kindOf x = some .globalImplicit) (hd : (x == ("__debug__" : Str)) = false) :
    wpAny M A (eval (.Name x pos) (genEnv scope [] C code builtinsNs env)) Q E s :=
  Name_function_global hk hx (loadGlobal_global (env := genEnv scope [] C code builtinsNs env) (show s.heap.Ns env.globals mg from hg ▸ T.g.keeps F.keep) (mg_of X T.g e) h) hd
end
/-- what the scope of both generator expressions says of its names -/
structure GScope (scope : Scope) : Prop where
  kind : scope.kind = .function
  a : scope.names.lookup (Str.ofString "fws") = some .local
  b : scope.names.lookup (Str.ofString "part") = some .local
section
variable {w : World} {A : Around} {E : Value → Shared → Prop} {u : Shared} {h₀ : Heap} {C : Addr} {m : Str → Option Value} {scope : Scope} {code : Value} {env : Env} {mg mb : Str → Option Value} {mean : ExcName → Option Value} {p1 p2 p3 p4 p5 p6 p7 : Pos} {f p : Str} {ta tb : Tok}
theorem lenElt (F : Fr h₀ C u.heap m) (X : (K w.params).In h₀) (T : Top q (looseW q loose) mean mg mb h₀) (S : GScope scope) (hlen : scope.names.lookup (Str.ofString "len") = some .globalImplicit) (hg : env.globals = mainGlobals)
    (ha : m (Str.ofString "fws") = some (.str f ta)) (hb : m (Str.ofString "part") = some (.str p tb)) (hf : f.length ≤ 1000) (hp : p.length ≤ 1000) :
    wpAny (model PR w) A (eval (.BinOp (.Call (.Name (Str.ofString "len") p1) [.Name (Str.ofString "fws") p2] [] p3) .Add (.Call (.Name (Str.ofString "len") p4) [.Name (Str.ofString "part") p5] [] p6) p7) (genEnv scope [] C code builtinsNs env))
      (fun y s₃ => (∃ t, y = .int ((f.length : Int) + (p.length : Int)) t) ∧ Keeps u s₃) E u := by
  have hbl : bootBuiltins (Str.ofString "len") = some (.builtin "len") := by first | rfl | kernel_rfl
  refine wpAny_BinOp (Call_ (gnameB F X T (by kernel_rfl) hbl (by decide) ?_ hg S.kind hlen (by decide)))
  refine PyProof.Rows.callWith_builtin1 (spliced_cons (ldVarG F ha ?_ S.kind S.a) )
  refine spliced_nil (SBL.len (by omega) ?_)
  refine Call_ (gnameB F X T (by kernel_rfl) hbl (by decide) ?_ hg S.kind hlen (by decide))
  refine PyProof.Rows.callWith_builtin1 (spliced_cons (ldVarG F hb ?_ S.kind S.b) )
  refine spliced_nil (SBL.len (by omega) ?_)
  exact add_int ⟨⟨_, rfl⟩, ⟨_, _, rfl, fun _ _ e => e⟩⟩
theorem strElt {te : Tok} {kt : Nat} {pl : Sem Bool} (F : Fr h₀ C u.heap m) (X : (K w.params).In h₀) (T : Top q (looseW q loose) mean mg mb h₀) (S : GScope scope) (hlen : scope.names.lookup (Str.ofString "EMPTYSTRING") = some .globalImplicit) (hg : env.globals = mainGlobals)
    (he : nsIn (K w.params) mainGlobals (Str.ofString "EMPTYSTRING") = some (some (.str (Str.ofString "") te)))
    (hcall : eval (.Call (.Attribute (.Name (Str.ofString "EMPTYSTRING") p2) (Str.ofString "join") p1) [.Tuple [.Name (Str.ofString "fws") p5, .Name (Str.ofString "part") p6] kt p3] [] p4) (genEnv scope [] C code builtinsNs env) = (do
      let ov ← eval (.Name (Str.ofString "EMPTYSTRING") p2) (genEnv scope [] C code builtinsNs env)
      standAt p1.atName
      let (f, first) ← holding [ov] (getMethod ov (Str.ofString "join") pl)
      callWith p4 f first (backTo p4 (starEach [.Tuple [.Name (Str.ofString "fws") p5, .Name (Str.ofString "part") p6] kt p3] (genEnv scope [] C code builtinsNs env))) []))
    (ha : m (Str.ofString "fws") = some (.str f ta)) (hb : m (Str.ofString "part") = some (.str p tb)) (hf : f.length ≤ 1000) (hp : p.length ≤ 1000) :
    wpAny (model PR w) A (eval (.Call (.Attribute (.Name (Str.ofString "EMPTYSTRING") p2) (Str.ofString "join") p1) [.Tuple [.Name (Str.ofString "fws") p5, .Name (Str.ofString "part") p6] kt p3] [] p4) (genEnv scope [] C code builtinsNs env))
      (fun y s₃ => (∃ t, y = .str (Txt.join (Str.ofString "") [f, p]) t) ∧ Keeps u s₃) E u := by
  refine MethodCall_ (gnameK F X T he ?_ hg S.kind hlen (by decide)) hcall
  refine GM.join ?_
  refine callWith_method1 (spliced_cons ?_)
  refine Tuple_ (k := kt) ?_
  refine spliced_cons (ldVarG F ha (spliced_cons (ldVarG F hb (spliced_nil ?_) S.kind S.b)) S.kind S.a)
  refine wpAny_newObj_type ?_ (by size_fits)
  refine spliced_nil ?_
  refine join_tupleW (ys := [f, p]) ⟨_, Heap.get?_push_size _ rfl, rfl, 0, rfl⟩ (.cons _ _ (.cons _ _ .nil)) (by decide) (by simp; omega) fun t' k => ?_
  exact ⟨⟨_, rfl⟩, ⟨_, _, rfl, fun _ _ e => Heap.get?_push_of_some _ e⟩⟩
end
end Mine
end
section
open PySem PySem.W PyProof.Rows
set_option maxRecDepth 100000
set_option linter.unusedVariables false
set_option linter.unusedSimpArgs false
namespace Mine
def sumLen (prs : List (Str × Str)) : Int := (prs.map fun x => (x.1.length : Int) + (x.2.length : Int)).sum
def valOf (prs : List (Str × Str)) (j : Nat) : Int := match prs[j]? with | some p => (p.1.length : Int) + (p.2.length : Int) | none => 0
theorem valOf_at {prs : List (Str × Str)} {j : Nat} (h : j < prs.length) : valOf prs j = (prs[j].1.length : Int) + (prs[j].2.length : Int) := by
  unfold valOf; rw [List.getElem?_eq_getElem h]
theorem preSum_valOf (prs : List (Str × Str)) : ∀ j, j ≤ prs.length → preSum (valOf prs) j = sumLen (prs.take j)
  | 0, _ => by simp [preSum, sumLen]
  | j + 1, h => by
    rw [preSum, preSum_valOf prs j (by omega), valOf_at (by omega), List.take_succ_eq_append_getElem (by omega)]
    unfold sumLen
    rw [List.map_append, List.sum_append]
    simp only [List.map_cons, List.map_nil, List.sum_cons, List.sum_nil, Int.add_zero]
theorem sumLen_bd {prs : List (Str × Str)} (h : ∀ p ∈ prs, p.1.length ≤ 1000 ∧ p.2.length ≤ 1000) : 0 ≤ sumLen prs ∧ sumLen prs ≤ 2000 * (prs.length : Int) := by
  induction prs with
  | nil => simp [sumLen]
  | cons p r ih =>
    have a := h p List.mem_cons_self
    have b := ih fun x hx => h x (List.mem_cons_of_mem _ hx)
    have e : sumLen (p :: r) = ((p.1.length : Int) + (p.2.length : Int)) + sumLen r := by simp [sumLen]
    rw [e, List.length_cons]
    omega
theorem fit_valOf {prs : List (Str × Str)} {k : Int} (h : ∀ p ∈ prs, p.1.length ≤ 1000 ∧ p.2.length ≤ 1000) (hn : prs.length ≤ 1000) (h0 : 0 ≤ k) (h1 : k ≤ 1000) (j : Nat) (hj : j < prs.length) :
    InLong (valOf prs j) ∧ InLong (k + preSum (valOf prs) (j + 1)) := by
  have a := h _ (List.getElem_mem hj)
  have b := sumLen_bd (prs := prs.take (j + 1)) fun p hp => h p (List.mem_of_mem_take hp)
  rw [preSum_valOf prs (j + 1) (by omega), valOf_at hj]
  have c : (prs.take (j + 1)).length ≤ 1000 := by simp; omega
  unfold InLong
  omega
theorem sumLen_eq (prs : List (Str × Str)) : preSum (valOf prs) prs.length = sumLen prs := by rw [preSum_valOf prs _ (Nat.le_refl _), List.take_length]
end Mine
end
section
open PySem PySem.W PyProof.Rows
set_option maxRecDepth 100000
set_option linter.unusedVariables false
set_option linter.unusedSimpArgs false
namespace Mine
theorem gen_toks {prog : Program} {w : World} {A : Around} {K a : Addr} {n : Nat} {F : Nat → Value → Prop} {s : Shared} {tk : Nat} (X : Gen prog w A K a n F s) (h : s.toks ≤ tk) : Gen prog w A K a n F { s with toks := tk } := by
  obtain ⟨fp, wr, g, St, W, hst, r⟩ := X
  exact ⟨fp, wr, g, St, W, W.frame 0 s s.heap tk hst h (fun _ _ _ e => e), r⟩
theorem upd_addr {d : Addr} {o o' : Obj} {l : List (Addr × Obj)} {g : Obj → List (Addr × Obj)} (U : UpdF d o l g) {p : Addr × Obj} (h : p ∈ g o') : ∃ p' ∈ l, p'.1 = p.1 := by
  obtain ⟨pre, post, rfl, hg, _, _⟩ := U.split
  rw [hg] at h
  rcases List.mem_append.mp h with h | h
  · exact ⟨p, List.mem_append_left _ h, rfl⟩
  · rcases List.mem_cons.mp h with rfl | h
    · exact ⟨(d, o), by simp, rfl⟩
    · exact ⟨p, List.mem_append_right _ (.tail _ h), rfl⟩
theorem upd_other {d : Addr} {o o' : Obj} {l : List (Addr × Obj)} {g : Obj → List (Addr × Obj)} (U : UpdF d o l g) {p : Addr × Obj} (h : p ∈ l) (hp : p.1 ≠ d) : p ∈ g o' := by
  obtain ⟨pre, post, rfl, hg, _, _⟩ := U.split
  rw [hg]
  rcases List.mem_append.mp h with h | h
  · exact List.mem_append_left _ h
  · rcases List.mem_cons.mp h with rfl | h
    · exact absurd rfl hp
    · exact List.mem_append_right _ (.tail _ h)
def posL : Pos := { line := 35, col := 19, endLine := 35, endCol := 63 }
theorem hd142 {w : World} {h : Heap} (X : (K w.params).In h) : CodeHd h 142 138 := codeHd_of_K X (by kernel_rfl)
theorem elt_len {w : World} {A : Around} {E : Value → Shared → Prop} {u : Shared} {h₀ : Heap} {C : Addr} {m : Str → Option Value} {scope : Scope} {code : Value} {env : Env} {mg mb : Str → Option Value} {mean : ExcName → Option Value} {p1 p2 p3 p4 p5 p6 p7 : Pos} {prs : List (Str × Str)} {i : Nat} {va vb : Nat → Value}
    (F : Fr h₀ C u.heap m) (X : (K w.params).In h₀) (T : Top q (looseW q loose) mean mg mb h₀) (S : GScope scope) (hlen : scope.names.lookup (Str.ofString "len") = some .globalImplicit) (hg : env.globals = mainGlobals)
    (hi : i < prs.length) (hv : ∀ j (hj : j < prs.length), (∃ t, va j = .str prs[j].1 t) ∧ ∃ t, vb j = .str prs[j].2 t) (hb : ∀ p ∈ prs, p.1.length ≤ 1000 ∧ p.2.length ≤ 1000)
    (ha : m (Str.ofString "fws") = some (va i)) (hbb : m (Str.ofString "part") = some (vb i)) :
    wpAny (model PR w) A (eval (.BinOp (.Call (.Name (Str.ofString "len") p1) [.Name (Str.ofString "fws") p2] [] p3) .Add (.Call (.Name (Str.ofString "len") p4) [.Name (Str.ofString "part") p5] [] p6) p7) (genEnv scope [] C code builtinsNs env))
      (fun y s₃ => (∃ t, y = .int (valOf prs i) t) ∧ Keeps u s₃) E u := by
  obtain ⟨⟨t1, e1⟩, t2, e2⟩ := hv i hi
  have b := hb _ (List.getElem_mem hi)
  rw [valOf_at hi]
  exact lenElt F X T S hlen hg (ha.trans (congrArg some e1)) (hbb.trans (congrArg some e2)) b.1 b.2
local macro_rules | `(tactic| walk_at "getAttr ref") => `(tactic| (k_here; (refine' getSize0 ?k1 ?k2 ?k3 ?_; (case k1 => exact Frag.In.keeps (by assumption) (Fr.keep (by assumption))); (case k2 => assumption); (case k3 => assumption)); (try dsimp only)))
local macro_rules | `(tactic| walk_at "call builtin:sum") => `(tactic| refine Halt.mk ?_)
local macro_rules | `(tactic| walk_at "eval GeneratorExp") => `(tactic| refine Halt.mk ?_)
set_option maxHeartbeats 8000000 in
theorem lenC (w : World) (mean : ExcName → Option Value) (mg mb : Str → Option Value) (x dx : Addr) (its : Array Value) (n : Nat) (od : Obj) (k : Int) (prs : List (Str × Str)) (ps : Array Value) (g : Obj → List (Addr × Obj)) :
  ∀ (news : CbLed) (dp un : Nat) (gd : Option (List Code)) (cn : Str) (cs : Scope) (a : Addr) (ccd : Value) (cl : List (Str × Addr)) (outer : List Env) (A₀ : Around) (base h₀ : Heap) (L : Addr) (m : Str → Option Value) (s : Shared) (Q E : Value → Shared → Prop),
    Below A₀ base outer h₀ → Fr h₀ L s.heap m → (K w.params).In h₀ → News h₀ L s.heap news → Top q (looseW q loose) mean mg mb h₀ → cs.kind = .function →
    dp + 8 < recursionLimit → un + 64 < cLine → UpdF (138 : Addr) (tabT ps) news g → Tab posL ps → AllBare s.gens → (x, boxO dx its n) ∈ news → (dx, od) ∈ news → BoxDict od k → Pairs news its prs → prs.length ≤ 1000 → (∀ p ∈ prs, p.1.length ≤ 1000 ∧ p.2.length ≤ 1000) → 0 ≤ k → k ≤ 1000 →
    (∀ ps' s' t', Fr h₀ L s'.heap m → News h₀ L s'.heap (g (tabT ps')) → Tab posL ps' → AllBare s'.gens → s'.os = s.os → Q (.int (k + sumLen prs) t') s') →
      wpAny (model PR w) (ktrTop dp un gd cn cs L a ccd cl outer) (call (.ref 143) [.ref x]) Q E s := by
  have h0 : PySem.Challenge.rw_xn0019_01.prog = PySem.Challenge.rw_xn0019_01.prog ∧ K = K := ⟨rfl, rfl⟩; revert h0; k_fill; w_top off; k_with_none; intro h0; clear h0
  intro news dp un gd cn cs a ccd cl outer A₀ base h₀ L m s Q E hB hF hX hN hT hcs hdp hun hU hTab hG hbx hdx hD hP hpl hpb hk0 hk1 hret
  refine wpAny_call ?_
  k_dflt cell_enter
  k_steps
  unfold Halt
  rename Fr _ _ _ _ => F5
  rename News _ _ _ _ => N5
  rename Frag.In _ _ => X5
  rename Top _ _ _ _ _ _ => T5
  obtain ⟨Ts, va, vb, hit, hv⟩ := hP.open N5
  refine genBox (c := 142) (P := 138) (Fv := fun i y => ∃ t, y = .int (valOf prs i) t) rfl rfl rfl (by decide) rfl rfl rfl (by decide) rfl ?hroom rfl (fun _ => rfl) rfl F5 X5 T5 N5 (hd142 X5) hU hTab hG hbx hdx hit ?hiter ?helt ?hh
  case hroom => simp only [depth_deeper, depth_caller]; exact Nat.lt_of_le_of_lt (Nat.add_le_add_left (by decide : 1 ≤ 8) dp) hdp
  case hiter => intro Q' hQ'; k_steps; exact hQ'
  case helt =>
    intro c' C A' E' i u m₂ hA hDd hUu hi F2 ha hb
    exact elt_len F2 X5 T5 ⟨rfl, rfl, rfl⟩ rfl rfl (hP.1 ▸ hi) hv hpb ha hb
  intro a s₅ ps' Kb F6 N6 ht6 G6 os6 hL6 hK6 keep6 gen6
  clear hit hv
  have hx1 : x ≠ 138 := by
    intro z
    have a1 := (N5 _ hbx).1
    have a2 := (N5 _ (updMem hU)).1
    rw [z, a2] at a1; cases a1
  have hx2 : dx ≠ 138 := by
    intro z
    obtain ⟨t, b⟩ := hD.three
    have a1 := (N5 _ hdx).1
    have a2 := (N5 _ (updMem hU)).1
    rw [z, a2] at a1; cases a1
    unfold lookIn at b
    dsimp only at b
    cases b
  have I6 : W.InstAt s₅.heap x (boxO dx its n) 175 (some od) := box_inst (keep6 _ _ hx1 (N5 _ hbx).1) (keep6 _ _ hx2 (N5 _ hdx).1)
  obtain ⟨tz, hz⟩ := hD.three
  clear F5 N5 keep6 hN hF
  k_steps
  unfold Halt
  rename Fr _ _ _ _ => F6
  refine sumStart F6 G6 (gen_toks gen6 (Nat.le_succ _)) hL6 (valOf prs) (fun _ _ z => z) ⟨by omega, by omega⟩ (hP.1 ▸ fit_valOf hpb hpl hk0 hk1) fun s7 t7 F7 G7 os7 keep7 => ?_
  rw [hP.1, sumLen_eq]
  have N7 : News _ _ s7.heap (g (tabT ps')) := fun p hp => ⟨keep7 _ _ (by obtain ⟨p', h1, h2⟩ := upd_addr hU hp; rw [← h2]; exact hK6 p' h1) (N6 _ hp).1, (N6 _ hp).2⟩
  clear F6 N6 gen6 keep7 I6
  k_steps
  exact hret _ _ _ (by assumption) (by assumption) ht6 G7 (os7.trans os6)
end Mine
end
section
open PySem PySem.W PyProof.Rows
set_option maxRecDepth 100000
set_option linter.unusedVariables false
set_option linter.unusedSimpArgs false
namespace Mine
def posS : Pos := { line := 38, col := 32, endLine := 38, endCol := 88 }
theorem hd149 {w : World} {h : Heap} (X : (K w.params).In h) : CodeHd h 149 145 := codeHd_of_K X (by kernel_rfl)
def joins (prs : List (Str × Str)) : List Str := prs.map fun p => Txt.join (Str.ofString "") [p.1, p.2]
def txOf (prs : List (Str × Str)) (j : Nat) : Str := match prs[j]? with | some p => Txt.join (Str.ofString "") [p.1, p.2] | none => default
theorem txOf_at {prs : List (Str × Str)} {j : Nat} (h : j < prs.length) : txOf prs j = Txt.join (Str.ofString "") [prs[j].1, prs[j].2] := by
  unfold txOf; rw [List.getElem?_eq_getElem h]
theorem joins_eq (prs : List (Str × Str)) : (List.range prs.length).map (txOf prs) = joins prs := by
  refine List.ext_getElem (by simp [joins]) fun j h1 h2 => ?_
  simp only [List.length_map, List.length_range] at h1
  simp only [List.getElem_map, List.getElem_range, joins]
  exact txOf_at h1
theorem empty_at (P : Params) : nsIn (K P) mainGlobals (Str.ofString "EMPTYSTRING") = some (some (.str (Str.ofString "") 2399)) := by kernel_rfl
theorem elt_str {w : World} {A : Around} {E : Value → Shared → Prop} {u : Shared} {h₀ : Heap} {C : Addr} {m : Str → Option Value} {scope : Scope} {code : Value} {env : Env} {mg mb : Str → Option Value} {mean : ExcName → Option Value} {p1 p2 p3 p4 p5 p6 : Pos} {prs : List (Str × Str)} {i : Nat} {va vb : Nat → Value} {kt : Nat} {pl : Sem Bool}
    (F : Fr h₀ C u.heap m) (X : (K w.params).In h₀) (T : Top q (looseW q loose) mean mg mb h₀) (S : GScope scope) (hlen : scope.names.lookup (Str.ofString "EMPTYSTRING") = some .globalImplicit) (hg : env.globals = mainGlobals)
    (hcall : eval (.Call (.Attribute (.Name (Str.ofString "EMPTYSTRING") p2) (Str.ofString "join") p1) [.Tuple [.Name (Str.ofString "fws") p5, .Name (Str.ofString "part") p6] kt p3] [] p4) (genEnv scope [] C code builtinsNs env) = (do
      let ov ← eval (.Name (Str.ofString "EMPTYSTRING") p2) (genEnv scope [] C code builtinsNs env)
      standAt p1.atName
      let (f, first) ← holding [ov] (getMethod ov (Str.ofString "join") pl)
      callWith p4 f first (backTo p4 (starEach [.Tuple [.Name (Str.ofString "fws") p5, .Name (Str.ofString "part") p6] kt p3] (genEnv scope [] C code builtinsNs env))) []))
    (hi : i < prs.length) (hv : ∀ j (hj : j < prs.length), (∃ t, va j = .str prs[j].1 t) ∧ ∃ t, vb j = .str prs[j].2 t) (hb : ∀ p ∈ prs, p.1.length ≤ 1000 ∧ p.2.length ≤ 1000)
    (ha : m (Str.ofString "fws") = some (va i)) (hbb : m (Str.ofString "part") = some (vb i)) :
    wpAny (model PR w) A (eval (.Call (.Attribute (.Name (Str.ofString "EMPTYSTRING") p2) (Str.ofString "join") p1) [.Tuple [.Name (Str.ofString "fws") p5, .Name (Str.ofString "part") p6] kt p3] [] p4) (genEnv scope [] C code builtinsNs env))
      (fun y s₃ => (∃ t, y = .str (txOf prs i) t) ∧ Keeps u s₃) E u := by
  obtain ⟨⟨t1, e1⟩, t2, e2⟩ := hv i hi
  have b := hb _ (List.getElem_mem hi)
  rw [txOf_at hi]
  exact strElt F X T S hlen hg (empty_at _) hcall (ha.trans (congrArg some e1)) (hbb.trans (congrArg some e2)) b.1 b.2
local macro_rules | `(tactic| walk_at "call builtin:str.join") => `(tactic| refine Halt.mk ?_)
local macro_rules | `(tactic| walk_at "eval GeneratorExp") => `(tactic| refine Halt.mk ?_)
set_option maxHeartbeats 8000000 in
theorem strC (w : World) (mean : ExcName → Option Value) (mg mb : Str → Option Value) (x dx : Addr) (its : Array Value) (n : Nat) (od : Obj) (k : Int) (prs : List (Str × Str)) (ps : Array Value) (g : Obj → List (Addr × Obj)) :
  ∀ (news : CbLed) (dp un : Nat) (gd : Option (List Code)) (cn : Str) (cs : Scope) (a : Addr) (ccd : Value) (cl : List (Str × Addr)) (outer : List Env) (A₀ : Around) (base h₀ : Heap) (L : Addr) (m : Str → Option Value) (s : Shared) (Q E : Value → Shared → Prop),
    Below A₀ base outer h₀ → Fr h₀ L s.heap m → (K w.params).In h₀ → News h₀ L s.heap news → Top q (looseW q loose) mean mg mb h₀ → cs.kind = .function →
    dp + 8 < recursionLimit → un + 64 < cLine → UpdF (145 : Addr) (tabT ps) news g → Tab posS ps → AllBare s.gens → (x, boxO dx its n) ∈ news → (dx, od) ∈ news → BoxDict od k → Pairs news its prs → prs.length ≤ 1000 → (∀ p ∈ prs, p.1.length ≤ 1000 ∧ p.2.length ≤ 1000) → JoinOk (Str.ofString "") (joins prs) = true →
    (∀ ps' s' t', Fr h₀ L s'.heap m → News h₀ L s'.heap (g (tabT ps')) → Tab posS ps' → AllBare s'.gens → s'.os = s.os → Q (.str (Txt.join (Str.ofString "") (joins prs)) t') s') →
      wpAny (model PR w) (ktrTop dp un gd cn cs L a ccd cl outer) (call (.ref 150) [.ref x]) Q E s := by
  have h0 : PySem.Challenge.rw_xn0019_01.prog = PySem.Challenge.rw_xn0019_01.prog ∧ K = K := ⟨rfl, rfl⟩; revert h0; k_fill; w_top off; k_with_none; intro h0; clear h0
  intro news dp un gd cn cs a ccd cl outer A₀ base h₀ L m s Q E hB hF hX hN hT hcs hdp hun hU hTab hG hbx hdx hD hP hpl hpb hJ hret
  refine wpAny_call ?_
  k_dflt cell_enter
  k_steps
  unfold Halt
  rename Fr _ _ _ _ => F5
  rename News _ _ _ _ => N5
  rename Frag.In _ _ => X5
  rename Top _ _ _ _ _ _ => T5
  obtain ⟨Ts, va, vb, hit, hv⟩ := hP.open N5
  refine genBox (c := 149) (P := 145) (Fv := fun i y => ∃ t, y = .str (txOf prs i) t) rfl rfl rfl (by decide) rfl rfl rfl (by decide) rfl ?hroom rfl (fun _ => rfl) rfl F5 X5 T5 N5 (hd149 X5) hU hTab hG hbx hdx hit ?hiter ?helt ?hh
  case hroom => simp only [depth_deeper, depth_caller]; exact Nat.lt_of_le_of_lt (Nat.add_le_add_left (by decide : 1 ≤ 8) dp) hdp
  case hiter => intro Q' hQ'; k_steps; exact hQ'
  case helt =>
    intro c' C A' E' i u m₂ hA hDd hUu hi F2 ha hb
    exact elt_str F2 X5 T5 ⟨rfl, rfl, rfl⟩ rfl rfl rfl (hP.1 ▸ hi) hv hpb ha hb
  intro a s₅ ps' Kb F6 N6 ht6 G6 os6 hL6 hK6 keep6 gen6
  clear hit hv
  have hx1 : x ≠ 145 := by
    intro z
    have a1 := (N5 _ hbx).1
    have a2 := (N5 _ (updMem hU)).1
    rw [z, a2] at a1; cases a1
  have hx2 : dx ≠ 145 := by
    intro z
    obtain ⟨t, b⟩ := hD.three
    have a1 := (N5 _ hdx).1
    have a2 := (N5 _ (updMem hU)).1
    rw [z, a2] at a1; cases a1
    unfold lookIn at b
    dsimp only at b
    cases b
  have I6 : W.InstAt s₅.heap x (boxO dx its n) 175 (some od) := box_inst (keep6 _ _ hx1 (N5 _ hbx).1) (keep6 _ _ hx2 (N5 _ hdx).1)
  clear F5 N5 keep6 hN hF
  k_steps
  unfold Halt
  rename Fr _ _ _ _ => F6
  refine join_rowsK F6 G6 gen6 hL6 (txOf prs) (fun _ _ z => z) (by rw [hP.1, joins_eq]; exact hJ) (fun s7 t7 F7 G7 os7 keep7 => ?_) (by rw [hP.1, sizeLine_eq]; omega)
  rw [hP.1, joins_eq]
  have N7 : News _ _ s7.heap (g (tabT ps')) := fun p hp => ⟨keep7 _ _ (by obtain ⟨p', h1, h2⟩ := upd_addr hU hp; rw [← h2]; exact hK6 p' h1) (N6 _ hp).1, (N6 _ hp).2⟩
  clear F6 N6 gen6 keep7 I6
  k_steps
  exact hret _ _ _ (by assumption) (by assumption) ht6 G7 (os7.trans os6)
end Mine
end
section
open PySem PySem.W PyProof.Rows PySem.Calls
set_option maxRecDepth 100000
set_option linter.unusedVariables false
set_option linter.unusedSimpArgs false
namespace Mine
abbrev ritO (x left : Int) : Obj := { cls := .type "range_iterator", dict := none, data := .fields #[rawInt x, rawInt left, rawInt 1], slots := #[] }
/-- the end of a turn -/
def TurnG (h₀ : Heap) (L I : Addr) (o : Obj) (J : (Str → Option Value) → List (Addr × Obj) → Prop) (os : OsState) (Q : Flow → Shared → Prop) (f : Flow) (s₃ : Shared) : Prop :=
  match f with
  | .ret v => Q (.ret v) s₃
  | .brk => Q .next s₃
  | _ => ∃ m led, Fr h₀ L s₃.heap m ∧ News h₀ L s₃.heap ((I, o) :: led) ∧ (∀ p ∈ led, p.1 ≠ I) ∧ J m led ∧ AllBare s₃.gens ∧ s₃.os = os
section
variable {prog : Program} {w : World} {A : Around} {E : Value → Shared → Prop} {s : Shared} {h₀ : Heap} {m : Str → Option Value} {env : Env} {x : Str} {px : Pos} {body : List Stmt} {I : Addr} {led : List (Addr × Obj)} {N : Nat} {os : OsState} {Q : Flow → Shared → Prop}
theorem fr_but {h h' : Heap} {L a : Addr} (F : Fr h₀ L h m) (h1 : L ≠ a) (h2 : h₀.get? a = none) (hx : Heap.ExtBut a h h') : Fr h₀ L h' m :=
  ⟨F.ns.extBut hx h1, fun b o e => hx b o (fun z => by rw [z, h2] at e; cases e) (F.keep b o e), F.above⟩
theorem news_but {h h' : Heap} {L a : Addr} {l : List (Addr × Obj)} (N : News h₀ L h l) (h1 : ∀ p ∈ l, p.1 ≠ a) (hx : Heap.ExtBut a h h') : News h₀ L h' l :=
  fun p hp => ⟨hx _ _ (h1 p hp) (N p hp).1, (N p hp).2⟩
theorem forG (J : Nat → (Str → Option Value) → List (Addr × Obj) → Prop) (hx : env.kindOf x = some .local)
    (hp : (env.scope.kind == .class || (env.scope.kind == .module && env.locals != env.globals)) = false) (hh : A.handled = none)
    (F : Fr h₀ env.locals s.heap m) (Nn : News h₀ env.locals s.heap ((I, ritO 0 N) :: led)) (hne : ∀ p ∈ led, p.1 ≠ I) (G : AllBare s.gens) (hos : s.os = os) (hJ : J 0 m led)
    (hE : PassesOwn (model prog w) A env E)
    (turn : ∀ (i : Nat) m' led' s' t, i < N → J i m' led' → (∀ p ∈ led', p.1 ≠ I) → AllBare s'.gens → s'.os = os → Fr h₀ env.locals s'.heap (fun y => if y = x then some (.int (i : Int) t) else m' y) → News h₀ env.locals s'.heap ((I, ritO ((i : Int) + 1) ((N : Int) - (i : Int) - 1)) :: led') →
      wpAny (model prog w) A (execs body env) (TurnG h₀ env.locals I (ritO ((i : Int) + 1) ((N : Int) - (i : Int) - 1)) (J (i + 1)) os Q) E s')
    (done : ∀ m' led' s', J N m' led' → AllBare s'.gens → s'.os = os → Fr h₀ env.locals s'.heap m' → News h₀ env.locals s'.heap led' → Q .next s') :
    codeAny (model prog w) A (.forLoop (.Name x px) (.ref I) body [] env) (fun r s' => match r with | .ok f => Q f s' | .error e => cameBackBy (model prog w) A env E e s') s := by
  refine codeAny_forLoop (fun k s' => ∃ (i : Nat) (m' : Str → Option Value) (led' : List (Addr × Obj)), k = N - i ∧ i ≤ N ∧ J i m' led' ∧ (∀ p ∈ led', p.1 ≠ I) ∧ AllBare s'.gens ∧ s'.os = os ∧ Fr h₀ env.locals s'.heap m' ∧ News h₀ env.locals s'.heap ((I, ritO (i : Int) ((N : Int) - (i : Int))) :: led')) ?_ (N - 0)
    ⟨0, m, led, rfl, Nat.zero_le _, hJ, hne, G, hos, F, by simpa using Nn⟩
  rintro k s' ⟨i, m', led', rfl, hi, hJ', hne', G', hos', F', N'⟩
  obtain ⟨i1, i2, i3⟩ := N' _ (List.mem_cons_self)
  by_cases hlt : i < N
  · refine wpAny_pyNext_range_item (prog := prog) (w := w) (step := 1) i1 (by omega) fun h' hit' hs' => ?_
    have F1 := fr_but F' (Ne.symm i2) i3 hs'.extBut
    have N1 : News h₀ env.locals h' ((I, ritO ((i : Int) + 1) ((N : Int) - (i : Int) - 1)) :: led') := fun p hp => by
      rcases List.mem_cons.mp hp with rfl | hp
      · exact ⟨hit', i2, i3⟩
      · exact news_but (fun p hp => N' p (.tail _ hp)) hne' hs'.extBut p hp
    refine wpAny_assign_Name (wpAny_storeName_local hx F1.ns (fun h₂ hn₂ hs₂ => ?_) hp)
    refine wpAny_mono (turn i m' led' _ s'.toks hlt hJ' hne' G' hos' (F1.set hn₂ hs₂) (N1.set hs₂)) (fun f s₃ h₃ => ?_) hE
    cases f with
    | ret v => exact h₃
    | brk => exact h₃
    | cont =>
      obtain ⟨m₂, l₂, a, b, c, d, e, f⟩ := h₃
      have e1 : ((i + 1 : Nat) : Int) = (i : Int) + 1 := by omega
      have e2 : (N : Int) - ((i : Int) + 1) = (N : Int) - (i : Int) - 1 := by omega
      exact ⟨N - (i + 1), by omega, i + 1, m₂, l₂, rfl, hlt, d, c, e, f, a, by rw [e1, e2]; exact b⟩
    | next =>
      obtain ⟨m₂, l₂, a, b, c, d, e, f⟩ := h₃
      have e1 : ((i + 1 : Nat) : Int) = (i : Int) + 1 := by omega
      have e2 : (N : Int) - ((i : Int) + 1) = (N : Int) - (i : Int) - 1 := by omega
      exact ⟨N - (i + 1), by omega, i + 1, m₂, l₂, rfl, hlt, d, c, e, f, a, by rw [e1, e2]; exact b⟩
  · have hin : i = N := by omega
    subst hin
    refine wpAny_pyNext_range_end (prog := prog) (w := w) hh i1 (by omega) fun h' hx' => wpAny_execs_nil ?_
    exact done m' led' _ hJ' G' hos' (fr_but F' (Ne.symm i2) i3 hx') (news_but (fun p hp => N' p (.tail _ hp)) hne' hx')
theorem iterG {r : Addr} {b : Int} {t u v : Tok} {news : List (Addr × Obj)} {L : Addr} {Q : Value → Shared → Prop} (hr : IsRange s.heap r 0 b 1 t u v) (hb : 0 ≤ b) (hb' : b < 2 ^ 62) (F : Fr h₀ L s.heap m) (Nn : News h₀ L s.heap news)
    (h : ∀ I h', Fr h₀ L h' m → News h₀ L h' ((I, ritO 0 b) :: news) → (∀ p ∈ news, p.1 < I) → Q (.ref I) { s with heap := h' }) :
    wpAny (model prog w) A (pyIter (.ref r)) Q E s := by
  have e : Builtin.Range.rangeSize 0 b 1 = b := by
    have := rangeSize_nat 0 b
    rw [this]; omega
  refine wpAny_pyIter_range hr (small_one (by omega) (by omega) (by omega) (by omega)) ?_
  rw [e]
  exact h _ _ (F.push _) (Nn.push F (ritO 0 b)) fun p hp => Heap.lt_size (Nn p hp).1
end
end Mine
end
section
open PySem PySem.W PyProof.Rows
set_option maxRecDepth 100000
set_option linter.unusedVariables false
namespace Mine
def markC (W : Int) : Nat := if W < 12 then (12272 + W).toNat else if W = 12 then 917505 else (917523 + W).toNat
def otherC (W : Int) : Nat := if W < 79 then [34, 12271, 12284, 917504, 917632].getD (W.fmod 5).toNat 0 else (917427 + W).toNat
def lastC (size W : Int) : Nat := if size.fmod 2 = 0 then markC W else otherC W
theorem mark7 {W : Int} (h0 : 0 ≤ W) (h1 : W < 109) : S7 (markC W) = decide (W < 12) := by
  have : (List.range 109).all (fun j => S7 (markC j) == decide ((j : Int) < 12)) = true := by decide +kernel
  have := List.all_eq_true.mp this W.toNat (List.mem_range.mpr (by omega))
  rw [show ((W.toNat : Nat) : Int) = W by omega] at this
  exact eq_of_beq this
theorem mark9 {W : Int} (h0 : 0 ≤ W) (h1 : W < 109) : S9 (markC W) = decide (W ≥ 12) := by
  have : (List.range 109).all (fun j => S9 (markC j) == decide ((j : Int) ≥ 12)) = true := by decide +kernel
  have := List.all_eq_true.mp this W.toNat (List.mem_range.mpr (by omega))
  rw [show ((W.toNat : Nat) : Int) = W by omega] at this
  exact eq_of_beq this
theorem mark34 {W : Int} (h0 : 0 ≤ W) (h1 : W < 109) : markC W ≠ 34 := by
  have : (List.range 109).all (fun j => markC j != 34) = true := by decide +kernel
  have := List.all_eq_true.mp this W.toNat (List.mem_range.mpr (by omega))
  rw [show ((W.toNat : Nat) : Int) = W by omega] at this
  exact bne_iff_ne.mp this
theorem other7 {W : Int} (h0 : 0 ≤ W) (h1 : W < 109) : S7 (otherC W) = false := by
  have : (List.range 109).all (fun j => S7 (otherC j) == false) = true := by decide +kernel
  have := List.all_eq_true.mp this W.toNat (List.mem_range.mpr (by omega))
  rw [show ((W.toNat : Nat) : Int) = W by omega] at this
  exact eq_of_beq this
theorem other9 {W : Int} (h0 : 0 ≤ W) (h1 : W < 109) : S9 (otherC W) = false := by
  have : (List.range 109).all (fun j => S9 (otherC j) == false) = true := by decide +kernel
  have := List.all_eq_true.mp this W.toNat (List.mem_range.mpr (by omega))
  rw [show ((W.toNat : Nat) : Int) = W by omega] at this
  exact eq_of_beq this
/-- one turn -/
def sizeS (size : Int) : Int := if size.fmod 2 = 0 then size.fdiv 2 else 2 + 3 * size.fdiv 2
def wayS (i : Nat) (size way : Int) : Int := if size.fmod 2 = 0 then way else way + 2 ^ i
/-- the whole walk: way and size ahead of turn i -/
def walkF (size : Int) : Nat → Int × Int
  | 0 => (0, size)
  | i + 1 => (wayS i (walkF size i).2 (walkF size i).1, sizeS (walkF size i).2)
theorem walk_size {size : Int} (h0 : 0 ≤ size) (h1 : size < 24) {i : Nat} (hi : i ≤ 4) : 0 ≤ (walkF size i).2 ∧ (walkF size i).2 ≤ 80 ∧ 0 ≤ (walkF size i).1 ∧ (walkF size i).1 < 16 := by
  have : (List.range 24).all (fun b => (List.range 5).all fun i => decide (0 ≤ (walkF b i).2 ∧ (walkF b i).2 ≤ 80 ∧ 0 ≤ (walkF b i).1 ∧ (walkF b i).1 < 16)) = true := by decide +kernel
  have := List.all_eq_true.mp this size.toNat (List.mem_range.mpr (by omega))
  have := List.all_eq_true.mp this i (List.mem_range.mpr (by omega))
  rw [show ((size.toNat : Nat) : Int) = size by omega] at this
  exact of_decide_eq_true this
def datB : Dat → Dat → Bool
  | .int a, .int b => a == b
  | .tuple [.int a, .int b], .tuple [.int c, .int d] => a == c && b == d
  | _, _ => false
theorem datB_eq {a b c d : Int} {x : Dat} (h : datB x (.tuple [.int c, .int d]) = true) : x = .tuple [.int c, .int d] := by
  unfold datB at h
  split at h
  · rename_i e; cases e
  · rename_i e; cases e
    simp only [Bool.and_eq_true, beq_iff_eq] at h
    rw [h.1, h.2]
  · cases h
/-- the law itself, in plain numbers -/
theorem plain_law {size : Int} (h0 : 0 ≤ size) (h1 : size < 24) {k : Nat} (hk1 : 1 ≤ k) (hk : k ≤ 4) : waysD size k = [Dat.tuple [.int (walkF size k).1, .int (walkF size k).2]] := by
  have : (List.range 24).all (fun b => (List.range 5).all fun k => k == 0 || match waysD b k with | [x] => datB x (Dat.tuple [.int (walkF b k).1, .int (walkF b k).2]) | _ => false) = true := by decide +kernel
  have := List.all_eq_true.mp this size.toNat (List.mem_range.mpr (by omega))
  have := List.all_eq_true.mp this k (List.mem_range.mpr (by omega))
  rw [show ((size.toNat : Nat) : Int) = size by omega] at this
  have e : (k == 0) = false := by rw [beq_eq_false_iff_ne]; omega
  rw [e, Bool.false_or] at this
  split at this
  · rename_i x hx
    rw [hx, datB_eq (a := 0) (b := 0) this]
  · cases this
end Mine
end
section
open PySem PySem.W PyProof.Rows
set_option maxRecDepth 100000
set_option linter.unusedVariables false
namespace Mine
theorem slice_last {l : List Nat} {c : Nat} : Txt.slice ⟨(l ++ [c]).toArray⟩ (some (-1)) none = ⟨#[c]⟩ := by
  have hl : (⟨(l ++ [c]).toArray⟩ : Str).length = l.length + 1 := by show ((l ++ [c]).toArray).size = _; simp
  show StrLaws.sliceText _ _ _ = _
  rw [StrLaws.sliceText_from_neg (by decide) (by rw [hl]; omega), hl]
  have e1 : ((-1 : Int) + ((l.length + 1 : Nat) : Int)).toNat = l.length := by omega
  have e2 : (((⟨(l ++ [c]).toArray⟩ : Str).cps.toList.length : Int) - ((-1 : Int) + ((l.length + 1 : Nat) : Int))).toNat = 1 := by simp; omega
  rw [e1, e2]
  simp
theorem slice_init {l : List Nat} {c : Nat} : Txt.slice ⟨(l ++ [c]).toArray⟩ none (some (-1)) = ⟨l.toArray⟩ := by
  have hl : (⟨(l ++ [c]).toArray⟩ : Str).length = l.length + 1 := by show ((l ++ [c]).toArray).size = _; simp
  show StrLaws.sliceText _ _ _ = _
  rw [StrLaws.sliceText_to_neg (by decide) (by rw [hl]; omega), hl]
  have e1 : ((-1 : Int) + ((l.length + 1 : Nat) : Int) - 0).toNat = l.length := by omega
  rw [e1]
  simp
theorem out_ev {n mk : Nat} (h : n % 2 = 0) : out n mk = ⟨(List.replicate (n / 2) 34 ++ [mk]).toArray⟩ := by unfold out; rw [if_pos h]
theorem out_od {n mk : Nat} (h : n % 2 = 1) : out n mk = ⟨(List.replicate (n / 2) 34).toArray⟩ := by unfold out; rw [if_neg (by omega)]; simp
theorem out_last_ev {n mk : Nat} (h : n % 2 = 0) : (Txt.slice (out n mk) (some (-1)) none == (⟨#[mk]⟩ : Str)) = true := by rw [out_ev h, slice_last]; exact beq_self_eq_true _
theorem out_last_od {n mk : Nat} (h : n % 2 = 1) (hm : mk ≠ 34) : (Txt.slice (out n mk) (some (-1)) none == (⟨#[mk]⟩ : Str)) = false := by
  rw [out_od h]
  cases hk : n / 2 with
  | zero => 
    have : Txt.slice (⟨(List.replicate 0 34).toArray⟩ : Str) (some (-1)) none = ⟨#[]⟩ := by decide
    rw [this]; exact beq_eq_false_iff_ne.mpr (fun e => by simp at e)
  | succ k =>
    rw [List.replicate_succ', slice_last]
    exact beq_eq_false_iff_ne.mpr (fun e => hm (by simpa using e.symm))
theorem out_init {n mk : Nat} (h : n % 2 = 0) : Txt.slice (out n mk) none (some (-1)) = quotes (n / 2) := by rw [out_ev h, slice_init]; rfl
theorem out_len_ev {n mk : Nat} (h : n % 2 = 0) : (out n mk).length = n / 2 + 1 := by rw [out_ev h]; show ((List.replicate (n / 2) 34 ++ [mk]).toArray).size = _; simp
theorem out_len_od {n mk : Nat} (h : n % 2 = 1) : (out n mk).length = n / 2 := by rw [out_od h]; show ((List.replicate (n / 2) 34).toArray).size = _; simp
theorem mul_quote (n : Int) : Txt.mul (Str.ofString "\"") n = quotes n.toNat := by
  have h := mul_one_list 34 n
  rw [quote_is]
  have e : (Txt.mul ⟨#[34]⟩ n).cps = (List.replicate n.toNat 34).toArray := by rw [← h]
  have e2 : Txt.mul ⟨#[34]⟩ n = Str.mk (Txt.mul ⟨#[34]⟩ n).cps := rfl
  rw [e2, e]; rfl
theorem rs_eq (n : Int) (mk : Nat) : Str.ofString "257 \"" ++ Txt.mul (Str.ofString "\"") n ++ (⟨#[mk]⟩ : Str) = rs n.toNat mk := by
  rw [mul_quote]
  have e : Str.ofString "257 \"" = ⟨#[50, 53, 55, 32, 34]⟩ := by decide
  rw [e]
  show (⟨#[50, 53, 55, 32, 34] ++ (List.replicate n.toNat 34).toArray ++ #[mk]⟩ : Str) = ⟨([50, 53, 55, 32, 34] ++ (List.replicate n.toNat 34 ++ [mk])).toArray⟩
  congr 1
  simp
/-- the texts' sum -/
def cat : List (Str × Str) → Str
  | l => l.foldl (fun x p => x ++ p.2) (Str.ofString "")
theorem cat_nil : cat [] = Str.ofString "" := rfl
theorem cat_push (l : List (Str × Str)) (f p : Str) : cat (l ++ [(f, p)]) = cat l ++ p := by unfold cat; rw [List.foldl_append]; rfl
theorem str_append_nil (x : Str) : x ++ (Str.ofString "" : Str) = x := by
  have e : (Str.ofString "" : Str) = ⟨#[]⟩ := by decide
  rw [e]; show (⟨x.cps ++ #[]⟩ : Str) = x; simp
theorem str_nil_append (x : Str) : (Str.ofString "" : Str) ++ x = x := by
  have e : (Str.ofString "" : Str) = ⟨#[]⟩ := by decide
  rw [e]; show (⟨#[] ++ x.cps⟩ : Str) = x; simp
theorem str_assoc (x y z : Str) : x ++ y ++ z = x ++ (y ++ z) := by show (⟨x.cps ++ y.cps ++ z.cps⟩ : Str) = ⟨x.cps ++ (y.cps ++ z.cps)⟩; simp
theorem glue_fold {g : Str} (hg : g.cps = #[]) : ∀ (r : List Str) (acc : Array Nat), (⟨r.foldl (fun acc p => acc ++ g.cps ++ p.cps) acc⟩ : Str) = r.foldl (fun x p => x ++ p) ⟨acc⟩
  | [], _ => rfl
  | p :: r, acc => by
    rw [List.foldl_cons, List.foldl_cons, glue_fold hg r, hg]
    rw [Array.append_empty]; rfl
theorem empty_cps : (Str.ofString "" : Str).cps = #[] := by decide
theorem join_nil (l : List Str) : Txt.join (Str.ofString "") l = l.foldl (fun x p => x ++ p) (Str.ofString "") := by
  cases l with
  | nil => decide
  | cons x r =>
    show (⟨r.foldl (fun acc p => acc ++ (Str.ofString "" : Str).cps ++ p.cps) x.cps⟩ : Str) = _
    rw [glue_fold empty_cps, List.foldl_cons]
    congr 1
    rw [str_nil_append]
theorem join_two (p : Str) : Txt.join (Str.ofString "") [Str.ofString "", p] = p := by
  rw [join_nil]
  show (Str.ofString "" ++ Str.ofString "") ++ p = p
  rw [str_append_nil, str_nil_append]
theorem join_cat {prs : List (Str × Str)} (h : ∀ p ∈ prs, p.1 = Str.ofString "") : Txt.join (Str.ofString "") (joins prs) = cat prs := by
  have e : joins prs = prs.map (·.2) := by
    unfold joins
    refine List.map_congr_left fun p hp => ?_
    rw [h p hp, join_two]
  rw [e, join_nil, List.foldl_map]
  rfl
theorem join_ok {prs : List (Str × Str)} (h : ∀ p ∈ prs, p.1.length ≤ 1000 ∧ p.2.length ≤ 1000) (hn : prs.length ≤ 1000) : JoinOk (Str.ofString "") (joins prs) = true := by
  have a : ∀ l : List (Str × Str), (∀ p ∈ l, p.1.length ≤ 1000 ∧ p.2.length ≤ 1000) → ((joins l).map (·.length)).sum ≤ 2000 * l.length := by
    intro l
    induction l with
    | nil => intro _; simp [joins]
    | cons p r ih =>
      intro h
      have b := h p List.mem_cons_self
      have c := ih fun x hx => h x (List.mem_cons_of_mem _ hx)
      have e : (Txt.join (Str.ofString "") [p.1, p.2]).length = p.1.length + p.2.length := by
        rw [join_nil]
        show ((Str.ofString "" ++ p.1) ++ p.2).length = _
        rw [str_nil_append]
        show (p.1.cps ++ p.2.cps).size = _
        rw [Array.size_append]; rfl
      have d : ((joins (p :: r)).map (·.length)).sum = (p.1.length + p.2.length) + ((joins r).map (·.length)).sum := by
        show ((Txt.join (Str.ofString "") [p.1, p.2]) :: joins r |>.map (·.length)).sum = _
        rw [List.map_cons, List.sum_cons, e]
      rw [d, List.length_cons]
      omega
  have b := a prs h
  refine joinOk_of ?_
  have z : (Str.ofString "" : Str).length = 0 := by decide
  rw [z]
  omega
end Mine
end
section
open PySem PySem.W PyProof.Rows PySem.Calls
set_option maxRecDepth 100000
set_option linter.unusedVariables false
set_option linter.unusedSimpArgs false
namespace Mine
structure Stop : Prop where
abbrev pairO (way : Int) (t : Tok) (size : Int) (t' : Tok) : Obj := { cls := .type "tuple", data := .seq #[Value.int way t, Value.int size t'] }
def codesD : List Dat := codesL.map fun (c : Nat) => Dat.int (c : Int)
def foldsD : List Dat := foldsL.map Dat.str
section
variable {M : Model} {A : Around} {E : Value → Shared → Prop} {s : Shared} {h₀ : Heap} {L : Addr} {m : Str → Option Value} {env : Env} {news : List (Addr × Obj)} {Q : Value → Shared → Prop}
theorem evalCut {e : Expr} (V : Value → Prop) (F : Fr h₀ L s.heap m) (N : News h₀ L s.heap news)
    (hv : ∀ Q' : Value → Shared → Prop, (∀ v h' tk', V v → Fr h₀ L h' m → News h₀ L h' news → Q' v { s with heap := h', toks := tk' }) → wpAny M A (eval e env) Q' E s)
    (h : ∀ v h' tk', V v → Fr h₀ L h' m → News h₀ L h' news → Q v { s with heap := h', toks := tk' }) : wpAny M A (eval e env) Q E s := hv Q h
theorem fr_kstB {h : Heap} {ps : List (Str × Value)} {x : Str} {v : Value} (H : ∀ p ∈ ps, m p.1 = some p.2) (F : Fr h₀ L h (fun y => if y = x then some v else m y)) : Fr h₀ L h (fun y => if y = x then some v else kstB m ps y) := by
  have e : kstB m ps = m := by funext z; exact kstB_eq H fun _ => rfl
  rw [e]; exact F
theorem fr_kstB0 {h : Heap} {ps : List (Str × Value)} (H : ∀ p ∈ ps, m p.1 = some p.2) (F : Fr h₀ L h m) : Fr h₀ L h (kstB m ps) := by
  have e : kstB m ps = m := by funext z; exact kstB_eq H fun _ => rfl
  rw [e]; exact F
end
/-- the names that the walk's loop keeps -/
abbrev wps (way sz seed : Int) (cA fA : Addr) (t1 t2 t3 : Tok) : List (Str × Value) :=
  [((Str.ofString "size" : Str), Value.int sz t1), (Str.ofString "way", Value.int way t2), (Str.ofString "seed", Value.int seed t3), (Str.ofString "codes", Value.ref cA), (Str.ofString "folds", Value.ref fA)]
abbrev wled (fA cA : Addr) (vf vc : List Value) (nf nc : Nat) (ps1 ps2 : Array Value) (rest : CbLed) : CbLed :=
  (fA, listOf vf.toArray nf) :: (cA, listOf vc.toArray nc) :: (138, tabT ps1) :: (145, tabT ps2) :: rest
abbrev offT (l : CbLed) : Prop := ∀ p ∈ l, p.1 ≠ 138 ∧ p.1 ≠ 145
/-- what a turn leaves -/
def TurnW (size0 seed : Int) (fA cA : Addr) (vf vc : List Value) (nf nc : Nat) (rest : CbLed) (h₀ : Heap) (L I : Addr) (o : Obj) (i : Nat) (os : OsState) (s₃ : Shared) : Prop :=
  ∃ m ps1 ps2 t1 t2 t3, Fr h₀ L s₃.heap m ∧ News h₀ L s₃.heap ((I, o) :: wled fA cA vf vc nf nc ps1 ps2 rest) ∧ Tab posL ps1 ∧ Tab posS ps2 ∧
    (∀ p ∈ wps (walkF size0 i).1 (walkF size0 i).2 seed cA fA t1 t2 t3, m p.1 = some p.2) ∧ AllBare s₃.gens ∧ s₃.os = os
def TurnWF (P : Shared → Prop) (Q : Flow → Shared → Prop) (f : Flow) (s₃ : Shared) : Prop := match f with
  | .ret v => Q (.ret v) s₃
  | .brk => Q .next s₃
  | _ => P s₃
section
variable {prog : Program} {w : World} {A : Around} {E : Value → Shared → Prop} {s : Shared} {h₀ : Heap} {m : Str → Option Value} {env : Env} {px : Pos} {body : List Stmt} {I : Addr} {os : OsState} {Q : Flow → Shared → Prop}
theorem walkLoop {size0 steps seed : Int} {fA cA : Addr} {vf vc : List Value} {nf nc : Nat} {ps1 ps2 : Array Value} {rest : CbLed} {t1 t2 t3 : Tok} (hs0 : 0 ≤ size0) (hs1 : size0 < 24) (hk1 : 1 ≤ steps) (hk4 : steps ≤ 4)
    (hx : env.kindOf (Str.ofString "step") = some .local)
    (hp : (env.scope.kind == .class || (env.scope.kind == .module && env.locals != env.globals)) = false) (hh : A.handled = none)
    (F : Fr h₀ env.locals s.heap m) (Nn : News h₀ env.locals s.heap ((I, ritO 0 steps) :: wled fA cA vf vc nf nc ps1 ps2 rest)) (hne : ∀ p ∈ wled fA cA vf vc nf nc ps1 ps2 rest, p.1 < I) (G : AllBare s.gens) (hos : s.os = os)
    (hoff : offT [(fA, listOf vf.toArray nf), (cA, listOf vc.toArray nc)]) (hvf : DatAll [] vf foldsD) (hvc : DatAll [] vc codesD) (T1 : Tab posL ps1) (T2 : Tab posS ps2) (hm : ∀ p ∈ wps 0 size0 seed cA fA t1 t2 t3, m p.1 = some p.2)
    (hE : PassesOwn (model prog w) A env E)
    (turn : ∀ vf vc, DatAll [] vf foldsD → DatAll [] vc codesD → (∀ o0 : Obj, offT [(I, o0), (fA, listOf vf.toArray nf), (cA, listOf vc.toArray nc)]) → ∀ (i : Nat) m' ps1 ps2 t1 t2 t3 s' t, (i : Int) < steps → i < 4 → Tab posL ps1 → Tab posS ps2 → AllBare s'.gens → s'.os = os → 0 ≤ (walkF size0 i).2 → (walkF size0 i).2 ≤ 80 → 0 ≤ (walkF size0 i).1 → (walkF size0 i).1 < 16 →
      Fr h₀ env.locals s'.heap (fun y => if y = Str.ofString "step" then some (.int (i : Int) t) else kstB m' (wps (walkF size0 i).1 (walkF size0 i).2 seed cA fA t1 t2 t3) y) →
      News h₀ env.locals s'.heap ((I, ritO ((i : Int) + 1) (steps - (i : Int) - 1)) :: wled fA cA vf vc nf nc ps1 ps2 rest) →
      wpAny (model prog w) A (execs body env) (TurnWF (TurnW size0 seed fA cA vf vc nf nc rest h₀ env.locals I (ritO ((i : Int) + 1) (steps - (i : Int) - 1)) (i + 1) os) Q) E s')
    (done : ∀ m' ps1 ps2 t1 t2 t3 s', Tab posL ps1 → Tab posS ps2 → AllBare s'.gens → s'.os = os → Fr h₀ env.locals s'.heap (kstB m' (wps (walkF size0 steps.toNat).1 (walkF size0 steps.toNat).2 seed cA fA t1 t2 t3)) →
      News h₀ env.locals s'.heap ((138, tabT ps1) :: (145, tabT ps2) :: rest) → Q .next s') :
    codeAny (model prog w) A (.forLoop (.Name (Str.ofString "step") px) (.ref I) body [] env) (fun r s' => match r with | .ok f => Q f s' | .error e => cameBackBy (model prog w) A env E e s') s := by
  have hst : ((steps.toNat : Nat) : Int) = steps := by omega
  refine forG (N := steps.toNat) (m := m) (os := os) (fun i m' led => ∃ ps1 ps2 t1 t2 t3, led = wled fA cA vf vc nf nc ps1 ps2 rest ∧ Tab posL ps1 ∧ Tab posS ps2 ∧ ∀ p ∈ wps (walkF size0 i).1 (walkF size0 i).2 seed cA fA t1 t2 t3, m' p.1 = some p.2) hx hp hh F (led := wled fA cA vf vc nf nc ps1 ps2 rest) (I := I) (by rw [hst]; exact Nn) (fun p hp => Nat.ne_of_lt (hne p hp)) G hos ⟨ps1, ps2, t1, t2, t3, rfl, T1, T2, hm⟩ hE ?_ ?_
  · rintro i m' led' s' t hi ⟨p1, p2, u1, u2, u3, rfl, a1, a2, a3⟩ hne' G' hos' F' N'
    obtain ⟨w1, w2, w3, w4⟩ := walk_size hs0 hs1 (i := i) (by omega)
    rw [hst] at N' ⊢
    refine wpAny_mono (turn vf vc hvf hvc (fun o0 => List.forall_mem_cons.mpr ⟨⟨Nat.ne_of_gt (hne (138, tabT ps1) (.tail _ (.tail _ (.head _)))), Nat.ne_of_gt (hne (145, tabT ps2) (.tail _ (.tail _ (.tail _ (.head _)))))⟩, hoff⟩) i m' p1 p2 u1 u2 u3 s' t (by omega) (by omega) a1 a2 G' hos' w1 w2 w3 w4 (fr_kstB a3 F') N') (fun f s₃ h₃ => ?_) fun _ _ e => e
    have fin : TurnW size0 seed fA cA vf vc nf nc rest h₀ env.locals I (ritO ((i : Int) + 1) (steps - (i : Int) - 1)) (i + 1) os s₃ → TurnG h₀ env.locals I (ritO ((i : Int) + 1) (steps - (i : Int) - 1)) (fun m' led => ∃ ps1 ps2 t1 t2 t3, led = wled fA cA vf vc nf nc ps1 ps2 rest ∧ Tab posL ps1 ∧ Tab posS ps2 ∧ ∀ p ∈ wps (walkF size0 (i + 1)).1 (walkF size0 (i + 1)).2 seed cA fA t1 t2 t3, m' p.1 = some p.2) os Q .next s₃ := by
      rintro ⟨m₂, q1, q2, v1, v2, v3, b1, b2, b3, b4, b5, b6, b7⟩
      refine ⟨m₂, _, b1, b2, ?_, ⟨q1, q2, v1, v2, v3, rfl, b3, b4, b5⟩, b6, b7⟩
      intro p hp
      rcases List.mem_cons.mp hp with rfl | hp
      · exact hne' _ (.head _)
      rcases List.mem_cons.mp hp with rfl | hp
      · exact hne' _ (.tail _ (.head _))
      rcases List.mem_cons.mp hp with rfl | hp
      · exact hne' (138, tabT p1) (.tail _ (.tail _ (.head _)))
      rcases List.mem_cons.mp hp with rfl | hp
      · exact hne' (145, tabT p2) (.tail _ (.tail _ (.tail _ (.head _))))
      exact hne' p (.tail _ (.tail _ (.tail _ (.tail _ hp))))
    cases f with
    | ret v => exact h₃
    | brk => exact h₃
    | next => exact fin h₃
    | cont => exact fin h₃
  · rintro m' led' s' ⟨p1, p2, u1, u2, u3, rfl, a1, a2, a3⟩ G' hos' F' N'
    exact done m' p1 p2 u1 u2 u3 s' a1 a2 G' hos' (fr_kstB0 a3 F') fun p hp => N' p (.tail _ (.tail _ hp))
end
end Mine
end
section
open PySem PySem.W PyProof.Rows
set_option maxRecDepth 100000
set_option linter.unusedVariables false
set_option linter.unusedSimpArgs false
namespace Mine
/-- a list's head part and its tail -/
inductive Sp : List (Addr × Obj) → List (Addr × Obj) → List (Addr × Obj) → Prop
  | nil {t : List (Addr × Obj)} : Sp t [] t
  | cons {p : Addr × Obj} {l pre t : List (Addr × Obj)} : Sp l pre t → Sp (p :: l) (p :: pre) t
theorem Sp.eq {l pre t : List (Addr × Obj)} (h : Sp l pre t) : l = pre ++ t := by
  induction h with
  | nil => rfl
  | cons _ ih => rw [ih]; rfl
theorem updF_app {d : Addr} {o : Obj} {l : List (Addr × Obj)} {g : Obj → List (Addr × Obj)} (U : UpdF d o l g) : ∀ {pre : List (Addr × Obj)}, (∀ p ∈ pre, p.1 ≠ d) → UpdF d o (pre ++ l) (fun o' => pre ++ g o')
  | [], _ => U
  | p :: r, h => .tail (h p List.mem_cons_self) (updF_app U fun q hq => h q (List.mem_cons_of_mem _ hq))
abbrev tled (pre rest : CbLed) (q1 q2 : Array Value) : CbLed := pre ++ ((138, tabT q1) :: (145, tabT q2) :: rest)
section
variable {w : World} {mean : ExcName → Option Value} {mg mb : Str → Option Value} {x dx : Addr} {its : Array Value} {n : Nat} {od : Obj} {k : Int} {prs : List (Str × Str)} {q1 q2 : Array Value} {pre rest : CbLed}
  {dp un : Nat} {gd : Option (List Code)} {cn : Str} {cs : Scope} {a : Addr} {ccd : Value} {cl : List (Str × Addr)} {outer : List Env} {A₀ : Around} {base h₀ : Heap} {L : Addr} {m : Str → Option Value} {s : Shared} {Q E : Value → Shared → Prop} {os : OsState}
theorem upd138 (hp : offT pre) (hr : offT rest) : UpdF (138 : Addr) (tabT q1) (tled pre rest q1 q2) (fun o' => pre ++ ((138, o') :: (145, tabT q2) :: rest)) :=
  updF_app (.head fun p hp' => by
    rcases List.mem_cons.mp hp' with rfl | hp'
    · exact (by decide : (145 : Nat) ≠ 138)
    · exact (hr p hp').1) fun p hp' => (hp p hp').1
theorem upd145 (hp : offT pre) (hr : offT rest) : UpdF (145 : Addr) (tabT q2) (tled pre rest q1 q2) (fun o' => pre ++ ((138, tabT q1) :: (145, o') :: rest)) :=
  updF_app (.tail (by exact (by decide : (138 : Nat) ≠ 145)) (.head fun p hp' => (hr p hp').2)) fun p hp' => (hp p hp').2
theorem strBox (hB : Below A₀ base outer h₀) (hF : Fr h₀ L s.heap m) (hX : (K w.params).In h₀) (hN : News h₀ L s.heap (tled pre rest q1 q2)) (hT : Top q (looseW q loose) mean mg mb h₀) (hcs : cs.kind = .function)
    (hd : dp + 8 < recursionLimit) (hu : un + 80 < cLine) (hp : offT pre) (hr : offT rest) (ht : Tab posS q2) (hG : AllBare s.gens) (hb : (x, boxO dx its n) ∈ pre) (hdx : (dx, od) ∈ pre) (hD : BoxDict od k) (hP : Pairs (tled pre rest q1 q2) its prs)
    (hl : prs.length ≤ 1000) (hpb : ∀ p ∈ prs, p.1.length ≤ 1000 ∧ p.2.length ≤ 1000)
    (h : ∀ q2' s' t', Fr h₀ L s'.heap m → News h₀ L s'.heap (tled pre rest q1 q2') → Tab posS q2' → AllBare s'.gens → s'.os = s.os → Q (.str (Txt.join (Str.ofString "") (joins prs)) t') s') :
    wpAny (model PR w) (ktrTop dp un gd cn cs L a ccd cl outer) (call (.type "str") [.ref x]) Q E s := by
  have hb' : (x, boxO dx its n) ∈ tled pre rest q1 q2 := List.mem_append_left _ hb
  have hdx' : (dx, od) ∈ tled pre rest q1 q2 := List.mem_append_left _ hdx
  refine kso_call (K := K w.params) ?_ (hX.keeps hF.keep) (box_inst (hN _ hb').1 (hN _ hdx').1) (f := 150) (by kernel_rfl) (by kernel_rfl) ?_
  · ktr_units
  · refine' strC w mean mg mb x dx its n od k prs q2 _ _ _ _ _ _ _ _ _ _ _ _ _ _ _ _ _ _ _ hB hF hX hN hT hcs hd ?_ (upd145 hp hr) ht hG hb' hdx' hD hP hl hpb (join_ok hpb hl) ?_
    · ktr_units
    · intro ps' s' t' F' N' ht' G' os'
      exact h ps' s' t' F' N' ht' G' os'
theorem lenBox (hB : Below A₀ base outer h₀) (hF : Fr h₀ L s.heap m) (hX : (K w.params).In h₀) (hN : News h₀ L s.heap (tled pre rest q1 q2)) (hT : Top q (looseW q loose) mean mg mb h₀) (hcs : cs.kind = .function)
    (hd : dp + 8 < recursionLimit) (hu : un + 80 < cLine) (hp : offT pre) (hr : offT rest) (ht : Tab posL q1) (hG : AllBare s.gens) (hb : (x, boxO dx its n) ∈ pre) (hdx : (dx, od) ∈ pre) (hD : BoxDict od k) (hP : Pairs (tled pre rest q1 q2) its prs)
    (hl : prs.length ≤ 1000) (hpb : ∀ p ∈ prs, p.1.length ≤ 1000 ∧ p.2.length ≤ 1000) (hk0 : 0 ≤ k) (hk1 : k ≤ 1000)
    (h : ∀ q1' s' t', Fr h₀ L s'.heap m → News h₀ L s'.heap (tled pre rest q1' q2) → Tab posL q1' → AllBare s'.gens → s'.os = s.os → Q (.int (k + sumLen prs) t') s') :
    wpAny (model PR w) (ktrTop dp un gd cn cs L a ccd cl outer) (call (.builtin "len") [.ref x]) Q E s := by
  have hb' : (x, boxO dx its n) ∈ tled pre rest q1 q2 := List.mem_append_left _ hb
  have hdx' : (dx, od) ∈ tled pre rest q1 q2 := List.mem_append_left _ hdx
  refine len_K hF hX (box_inst (hN _ hb').1 (hN _ hdx').1) (f := 143) (by kernel_rfl) (by kernel_rfl) ?_
  refine' lenC w mean mg mb x dx its n od k prs q1 _ _ _ _ _ _ _ _ _ _ _ _ _ _ _ _ _ _ _ hB hF hX hN hT hcs hd ?_ (upd138 hp hr) ht hG hb' hdx' hD hP hl hpb hk0 hk1 ?_
  · ktr_units
  · intro ps' s' t' F' N' ht' G' os'
    have b := sumLen_bd hpb
    exact ⟨⟨by omega, by omega⟩, h ps' _ _ F' N' ht' G' os'⟩
end
end Mine
end
section
open PySem PySem.W PyProof.Rows PySem.Calls
set_option maxRecDepth 100000
set_option linter.unusedVariables false
set_option linter.unusedSimpArgs false
namespace Mine
theorem thirteen {j : Nat} (h : j < 13) : j = 0 ∨ j = 1 ∨ j = 2 ∨ j = 3 ∨ j = 4 ∨ j = 5 ∨ j = 6 ∨ j = 7 ∨ j = 8 ∨ j = 9 ∨ j = 10 ∨ j = 11 ∨ j = 12 := by omega
theorem codes_at {j : Nat} (h : j < 13) : codesD[j]? = some (Dat.int ((code j : Nat) : Int)) := by
  rcases thirteen h with rfl | rfl | rfl | rfl | rfl | rfl | rfl | rfl | rfl | rfl | rfl | rfl | rfl <;> rfl
theorem folds_at {j : Nat} (h : j < 13) : foldsD[j]? = some (Dat.str (fold j)) := by
  rcases thirteen h with rfl | rfl | rfl | rfl | rfl | rfl | rfl | rfl | rfl | rfl | rfl | rfl | rfl <;> rfl
theorem code_bd {j : Nat} (h : j < 13) : ((code j : Nat) : Int) ≤ 64260 := by
  rcases thirteen h with rfl | rfl | rfl | rfl | rfl | rfl | rfl | rfl | rfl | rfl | rfl | rfl | rfl <;> decide
theorem fold_len {j : Nat} (h : j < 13) : (fold j).length = 3 := by
  rcases thirteen h with rfl | rfl | rfl | rfl | rfl | rfl | rfl | rfl | rfl | rfl | rfl | rfl | rfl <;> decide
section
variable {prog : Program} {w : World} {A : Around} {E : Value → Shared → Prop} {s : Shared} {h₀ : Heap} {L l : Addr} {value slice : PySem.Expr} {news : List (Addr × Obj)} {us : List Value} {n : Nat} {k : Int} {u : Tok} {Q : Value → Shared → Prop}
theorem codeItem (N : News h₀ L s.heap news) (hm : (l, listOf us.toArray n) ∈ news) (hd : DatAll [] us codesD) (h0 : 0 ≤ k) (h1 : k < 13) (h : ∀ t, Q (.int ((code k.toNat : Nat) : Int) t) s)
    (hs : subscripted slice false (.ref l) (.int k u) = operate [.ref l, .int k u] (getItem (.ref l) (.int k u)) := by with_unfolding_all rfl) :
    wpAny (model prog w) A (subscriptTail value slice (.ref l) (.int k u)) Q E s := by
  refine kd_item N hm hd h0 h1 (by omega) (fun v d hk _ hD => ?_) hs
  rw [codes_at (by omega)] at hk
  cases hk
  cases hD
  exact h _
theorem foldItem (N : News h₀ L s.heap news) (hm : (l, listOf us.toArray n) ∈ news) (hd : DatAll [] us foldsD) (h0 : 0 ≤ k) (h1 : k < 13) (h : ∀ t, Q (.str (fold k.toNat) t) s)
    (hs : subscripted slice false (.ref l) (.int k u) = operate [.ref l, .int k u] (getItem (.ref l) (.int k u)) := by with_unfolding_all rfl) :
    wpAny (model prog w) A (subscriptTail value slice (.ref l) (.int k u)) Q E s := by
  refine kd_item N hm hd h0 h1 (by omega) (fun v d hk _ hD => ?_) hs
  rw [folds_at (by omega)] at hk
  cases hk
  cases hD
  exact h _
end
/-- the texts pushed so far -/
def prsF (a : Int) (j : Nat) : List (Str × Str) := (List.range j).map fun (q : Nat) => (Str.ofString "", fold ((a + (q : Int)).fmod 13).toNat)
theorem fm13 (a : Int) : 0 ≤ a.fmod 13 ∧ a.fmod 13 < 13 := ⟨Int.fmod_nonneg_of_pos _ (by decide), Int.fmod_lt_of_pos _ (by decide)⟩
theorem prsF_succ (a : Int) (j : Nat) : prsF a (j + 1) = prsF a j ++ [(Str.ofString "", fold ((a + (j : Int)).fmod 13).toNat)] := by unfold prsF; rw [List.range_succ, List.map_append]; rfl
theorem prsF_len (a : Int) (j : Nat) : (prsF a j).length = j := by simp [prsF]
theorem prsF_mem {a : Int} {j : Nat} {p : Str × Str} (h : p ∈ prsF a j) : p.1 = Str.ofString "" ∧ p.2.length = 3 := by
  obtain ⟨q, _, rfl⟩ := List.mem_map.mp h
  have := fm13 (a + (q : Int))
  exact ⟨rfl, fold_len (by omega)⟩
theorem prsF_sum (a : Int) : ∀ j : Nat, sumLen (prsF a j) = 3 * (j : Int)
  | 0 => rfl
  | j + 1 => by
    have := fm13 (a + (j : Int))
    have e : sumLen (prsF a (j + 1)) = sumLen (prsF a j) + (((Str.ofString "" : Str).length : Int) + ((fold ((a + (j : Int)).fmod 13).toNat).length : Int)) := by
      rw [prsF_succ]; unfold sumLen; rw [List.map_append, List.sum_append]; simp
    rw [e, prsF_sum a j, fold_len (by omega)]
    have z : (Str.ofString "" : Str).length = 0 := by decide
    rw [z]; omega
theorem str_len_append (x y : Str) : (x ++ y).length = x.length + y.length := by show (x.cps ++ y.cps).size = _; rw [Array.size_append]; rfl
theorem cat_len (a : Int) : ∀ j : Nat, (cat (prsF a j)).length = 3 * j
  | 0 => by show (Str.ofString "" : Str).length = 0; decide
  | j + 1 => by
    have := fm13 (a + (j : Int))
    rw [prsF_succ, cat_push, str_len_append, cat_len a j, fold_len (by omega)]; omega
abbrev ips (held : Str) (x : Addr) (fd : Str) (way sz seed i : Int) (cA fA : Addr) (th t1 t2 t3 t4 t5 : Tok) : List (Str × Value) :=
  [((Str.ofString "held" : Str), Value.str held th), (Str.ofString "box", Value.ref x), (Str.ofString "found", Value.str fd t1), (Str.ofString "way", Value.int way t2), (Str.ofString "size", Value.int sz t3), (Str.ofString "seed", Value.int seed t4),
    (Str.ofString "codes", Value.ref cA), (Str.ofString "folds", Value.ref fA), (Str.ofString "step", Value.int i t5)]
/-- of the tail of the ledger within the inner loop -/
structure Tail (x I2 : Addr) (rest R : CbLed) (its : Array Value) (prs : List (Str × Str)) : Prop where
  off : offT R
  nx : ∀ p ∈ R, p.1 ≠ x
  ni : ∀ p ∈ R, p.1 ≠ I2
  sub : ∀ p ∈ rest, p ∈ R
  prs : Pairs R its prs
def InnerP (a : Int) (x I2 dx : Addr) (od : Obj) (I : Addr) (oI : Obj) (fd : Str) (way sz seed i : Int) (fA cA : Addr) (vf vc : List Value) (nf nc : Nat) (q1 q2 : Array Value) (rest : CbLed) (h₀ : Heap) (L : Addr) (t1 t2 t3 t4 t5 : Tok) (o : Obj) (j : Nat) (os : OsState) (s₃ : Shared) : Prop :=
  ∃ m its n R th, Fr h₀ L s₃.heap m ∧ News h₀ L s₃.heap ((I2, o) :: (x, boxO dx its n) :: (dx, od) :: (I, oI) :: wled fA cA vf vc nf nc q1 q2 R) ∧ its.size = j ∧ Tail x I2 rest R its (prsF a j) ∧
    (∀ p ∈ ips (cat (prsF a j)) x fd way sz seed i cA fA th t1 t2 t3 t4 t5, m p.1 = some p.2) ∧ AllBare s₃.gens ∧ s₃.os = os
section
variable {prog : Program} {w : World} {A : Around} {E : Value → Shared → Prop} {s : Shared} {h₀ : Heap} {m : Str → Option Value} {env : Env} {px : Pos} {body : List Stmt} {I : Addr} {os : OsState} {Q : Flow → Shared → Prop}
theorem innerLoop {a : Int} {x I2 dx : Addr} {od oI : Obj} {fd : Str} {way sz seed i : Int} {fA cA : Addr} {vf vc : List Value} {nf nc n0 nlen : Nat} {q1 q2 : Array Value} {rest : CbLed} {th t1 t2 t3 t4 t5 : Tok}
    (hx : env.kindOf (Str.ofString "place") = some .local)
    (hp : (env.scope.kind == .class || (env.scope.kind == .module && env.locals != env.globals)) = false) (hh : A.handled = none)
    (F : Fr h₀ env.locals s.heap m) (Nn : News h₀ env.locals s.heap ((I2, ritO 0 (nlen : Int)) :: (x, boxO dx #[] n0) :: (dx, od) :: (I, oI) :: wled fA cA vf vc nf nc q1 q2 rest))
    (hne : ∀ p ∈ (x, boxO dx #[] n0) :: (dx, od) :: (I, oI) :: wled fA cA vf vc nf nc q1 q2 rest, p.1 < I2) (hoff : offT rest) (hxr : ∀ p ∈ rest, p.1 < x) (G : AllBare s.gens) (hos : s.os = os)
    (hm : ∀ p ∈ ips (Str.ofString "") x fd way sz seed i cA fA th t1 t2 t3 t4 t5, m p.1 = some p.2)
    (hE : PassesOwn (model prog w) A env E)
    (turn : ∀ (j : Nat) m' its n R th s' t, j < nlen → its.size = j → Tail x I2 rest R its (prsF a j) → AllBare s'.gens → s'.os = os →
      Fr h₀ env.locals s'.heap (fun y => if y = Str.ofString "place" then some (.int (j : Int) t) else kstB m' (ips (cat (prsF a j)) x fd way sz seed i cA fA th t1 t2 t3 t4 t5) y) →
      News h₀ env.locals s'.heap ((I2, ritO ((j : Int) + 1) ((nlen : Int) - (j : Int) - 1)) :: (x, boxO dx its n) :: (dx, od) :: (I, oI) :: wled fA cA vf vc nf nc q1 q2 R) →
      wpAny (model prog w) A (execs body env) (TurnWF (InnerP a x I2 dx od I oI fd way sz seed i fA cA vf vc nf nc q1 q2 rest h₀ env.locals t1 t2 t3 t4 t5 (ritO ((j : Int) + 1) ((nlen : Int) - (j : Int) - 1)) (j + 1) os) Q) E s')
    (done : ∀ m' its n R th s', its.size = nlen → Tail x I2 rest R its (prsF a nlen) → AllBare s'.gens → s'.os = os →
      Fr h₀ env.locals s'.heap (kstB m' (ips (cat (prsF a nlen)) x fd way sz seed i cA fA th t1 t2 t3 t4 t5)) →
      News h₀ env.locals s'.heap ((x, boxO dx its n) :: (dx, od) :: (I, oI) :: wled fA cA vf vc nf nc q1 q2 R) → Q .next s') :
    codeAny (model prog w) A (.forLoop (.Name (Str.ofString "place") px) (.ref I2) body [] env) (fun r s' => match r with | .ok f => Q f s' | .error e => cameBackBy (model prog w) A env E e s') s := by
  refine forG (N := nlen) (m := m) (os := os) (fun j m' led => ∃ its n R th, led = (x, boxO dx its n) :: (dx, od) :: (I, oI) :: wled fA cA vf vc nf nc q1 q2 R ∧ its.size = j ∧ Tail x I2 rest R its (prsF a j) ∧ ∀ p ∈ ips (cat (prsF a j)) x fd way sz seed i cA fA th t1 t2 t3 t4 t5, m' p.1 = some p.2) hx hp hh F Nn (fun p hp => Nat.ne_of_lt (hne p hp)) G hos
    ⟨#[], n0, rest, th, rfl, rfl, ⟨hoff, fun p hp => Nat.ne_of_lt (hxr p hp), fun p hp => Nat.ne_of_lt (hne p (.tail _ (.tail _ (.tail _ (.tail _ (.tail _ (.tail _ (.tail _ hp)))))))), fun _ h => h, Pairs.nil⟩, hm⟩ hE ?_ ?_
  · rintro j m' led' s' t hj ⟨its, n, R, th', rfl, b1, b2, b3⟩ hne' G' hos' F' N'
    refine wpAny_mono (turn j m' its n R th' s' t hj b1 b2 G' hos' (fr_kstB b3 F') N') (fun f s₃ h₃ => ?_) fun _ _ e => e
    have fin : InnerP a x I2 dx od I oI fd way sz seed i fA cA vf vc nf nc q1 q2 rest h₀ env.locals t1 t2 t3 t4 t5 (ritO ((j : Int) + 1) ((nlen : Int) - (j : Int) - 1)) (j + 1) os s₃ → TurnG h₀ env.locals I2 (ritO ((j : Int) + 1) ((nlen : Int) - (j : Int) - 1)) (fun m' led => ∃ its n R th, led = (x, boxO dx its n) :: (dx, od) :: (I, oI) :: wled fA cA vf vc nf nc q1 q2 R ∧ its.size = j + 1 ∧ Tail x I2 rest R its (prsF a (j + 1)) ∧ ∀ p ∈ ips (cat (prsF a (j + 1))) x fd way sz seed i cA fA th t1 t2 t3 t4 t5, m' p.1 = some p.2) os Q .next s₃ := by
      rintro ⟨m₂, its₂, n₂, R₂, th₂, c1, c2, c3, c4, c5, c6, c7⟩
      refine ⟨m₂, _, c1, c2, ?_, ⟨its₂, n₂, R₂, th₂, rfl, c3, c4, c5⟩, c6, c7⟩
      intro p hp
      rcases List.mem_cons.mp hp with rfl | hp
      · exact hne' (x, boxO dx its n) (.head _)
      rcases List.mem_cons.mp hp with rfl | hp
      · exact hne' (dx, od) (.tail _ (.head _))
      rcases List.mem_cons.mp hp with rfl | hp
      · exact hne' (I, oI) (.tail _ (.tail _ (.head _)))
      rcases List.mem_cons.mp hp with rfl | hp
      · exact hne' (fA, listOf vf.toArray nf) (.tail _ (.tail _ (.tail _ (.head _))))
      rcases List.mem_cons.mp hp with rfl | hp
      · exact hne' (cA, listOf vc.toArray nc) (.tail _ (.tail _ (.tail _ (.tail _ (.head _)))))
      rcases List.mem_cons.mp hp with rfl | hp
      · exact hne' (138, tabT q1) (.tail _ (.tail _ (.tail _ (.tail _ (.tail _ (.head _))))))
      rcases List.mem_cons.mp hp with rfl | hp
      · exact hne' (145, tabT q2) (.tail _ (.tail _ (.tail _ (.tail _ (.tail _ (.tail _ (.head _)))))))
      exact c4.ni p hp
    cases f with
    | ret v => exact h₃
    | brk => exact h₃
    | next => exact fin h₃
    | cont => exact fin h₃
  · rintro m' led' s' ⟨its, n, R, th', rfl, b1, b2, b3⟩ G' hos' F' N'
    exact done m' its n R th' s' b1 b2 G' hos' (fr_kstB0 b3 F') N'
end
end Mine
end
section
open PySem PySem.W PyProof.Rows
set_option maxRecDepth 100000
set_option linter.unusedVariables false
set_option linter.unusedSimpArgs false
namespace Mine
theorem chrV {c d : Nat} {t : Tok} (h : d = c) : ∃ t', Value.str ⟨#[c]⟩ t = .str ⟨#[d]⟩ t' := ⟨t, by rw [h]⟩
theorem c7b {w : World} {mean : ExcName → Option Value} {mg mb : Str → Option Value} {n : Nat} {t : Tok} {b : Bool} (h : S7 n = b) : Pc w mean mg mb 79 [.str ⟨#[n]⟩ t] True (fun _ => .bool b) := h ▸ c7 w mean mg mb n t
theorem c9b {w : World} {mean : ExcName → Option Value} {mg mb : Str → Option Value} {n : Nat} {t : Tok} {b : Bool} (h : S9 n = b) : Pc w mean mg mb 97 [.str ⟨#[n]⟩ t] True (fun _ => .bool b) := h ▸ c9 w mean mg mb n t
theorem p257b {w : World} {mean : ExcName → Option Value} {mg mb : Str → Option Value} {sz : Int} {mark : Nat} {t : Tok} (h0 : 0 ≤ sz) (hn : sz ≤ 80) (hm : mark ≠ 34) : Pc w mean mg mb 211 [.str (Str.ofString "257 \"" ++ Txt.mul (Str.ofString "\"") sz ++ (⟨#[mark]⟩ : Str)) t] True (fun t => .str (out sz.toNat mark) t) := by
  rw [rs_eq]; exact p257 w mean mg mb _ mark t (by omega) hm
theorem last_a {n mk ok : Nat} {fd : Str} (hfd : out n mk = fd) (hm : mk ≠ 34) (h : (Txt.slice fd (some (-1)) none == (⟨#[mk]⟩ : Str)) = true) : (if n % 2 = 0 then mk else ok) = mk := by
  by_cases e : n % 2 = 0
  · rw [if_pos e]
  · rw [← hfd, out_last_od (by omega) hm] at h; cases h
theorem last_b {n mk ok : Nat} {fd : Str} (hfd : out n mk = fd) (h : (Txt.slice fd (some (-1)) none == (⟨#[mk]⟩ : Str)) = false) : (if n % 2 = 0 then mk else ok) = ok := by
  by_cases e : n % 2 = 0
  · rw [← hfd, out_last_ev e] at h; cases h
  · rw [if_neg e]
theorem last_cases {n : Nat} {W : Int} (h0 : 0 ≤ W) (h1 : W < 109) {lc : Nat} (h : (if n % 2 = 0 then markC W else otherC W) = lc) :
    (n % 2 = 0 ∧ ∃ b nb, S7 lc = b ∧ S9 lc = nb ∧ (b == decide (W < 12) && nb == decide (12 ≤ W)) = true) ∨ (n % 2 = 1 ∧ S7 lc = false ∧ S9 lc = false ∧ (false == decide (W < 12) && false == decide (12 ≤ W)) = false) := by
  by_cases e : n % 2 = 0
  · rw [if_pos e] at h
    subst h
    refine .inl ⟨e, _, _, mark7 h0 h1, mark9 h0 h1, ?_⟩
    simp
  · rw [if_neg e] at h
    subst h
    refine .inr ⟨by omega, other7 h0 h1, other9 h0 h1, ?_⟩
    by_cases g : W < 12
    · rw [decide_eq_true g]; rfl
    · rw [decide_eq_true (show 12 ≤ W by omega)]; simp
theorem compEnd1 {h₀ : Heap} {L I C D : Addr} {m : Str → Option Value} {s₁ : Shared} {oI oC oD : Obj} {S : List (Addr × Obj) → Prop} {rest : Value → List (Addr × Obj) → Prop} {y : Value} {h' : Heap} {tk : Nat} {news' : List (Addr × Obj)}
    (F : Fr h₀ L h' m) (N : News h₀ L h' ((I, oI) :: (C, oC) :: (D, oD) :: news')) (off : LCg.Off3 I C D news') (hS : S news') (r : rest y news') :
    LCg.CompEnd h₀ L m s₁ I oI C oC D oD S rest y { s₁ with heap := h', toks := tk } := .intro F N news' (fun _ h => h) off hS r
theorem news_sp {h₀ h : Heap} {L : Addr} {led pre t : List (Addr × Obj)} (N : News h₀ L h led) (S : Sp led pre t) : News h₀ L h (pre ++ t) := S.eq ▸ N
theorem even_texts {n : Nat} {mk : Nat} {fd : Str} (hfd : out n mk = fd) (e : n % 2 = 0) :
    (Txt.join (Str.ofString "") (joins [(Str.ofString "", Txt.slice fd none (some (-1)))]) != Txt.mul (Str.ofString "\"") ((fd.length : Int) - 1)) = false := by
  subst hfd
  rw [mul_quote, out_init e, out_len_ev e]
  have h : Txt.join (Str.ofString "") (joins [(Str.ofString "", quotes (n / 2))]) = quotes (n / 2) := by
    rw [join_cat (by intro p hp; rw [List.mem_singleton.mp hp])]
    show Str.ofString "" ++ quotes (n / 2) = _
    rw [str_nil_append]
  rw [h, show ((((n / 2 + 1 : Nat) : Int)) - 1).toNat = n / 2 by omega]
  simp
theorem even_bd {n : Nat} {mk : Nat} {fd : Str} (hfd : out n mk = fd) (e : n % 2 = 0) (hn : n ≤ 80) : ∀ p ∈ [((Str.ofString "" : Str), Txt.slice fd none (some (-1)))], p.1.length ≤ 1000 ∧ p.2.length ≤ 1000 := by
  intro p hp
  rw [List.mem_singleton.mp hp, ← hfd, out_init e]
  exact ⟨by show (Str.ofString "" : Str).length ≤ 1000; decide, by show (quotes _).length ≤ 1000; rw [quotes_len]; omega⟩
theorem even_size {sz : Int} {mk : Nat} {fd : Str} (hfd : out sz.toNat mk = fd) (h0 : 0 ≤ sz) (e : sz.toNat % 2 = 0) : 0 + sumLen [(Str.ofString "", Txt.slice fd none (some (-1)))] = sizeS sz := by
  rw [← hfd, out_init e]
  have h : sumLen [(Str.ofString "", quotes (sz.toNat / 2))] = ((Str.ofString "" : Str).length : Int) + ((quotes (sz.toNat / 2)).length : Int) := by simp [sumLen]
  rw [h, quotes_len]
  have z : (Str.ofString "" : Str).length = 0 := by decide
  rw [z]
  unfold sizeS
  rw [if_pos (by rw [Int.fmod_eq_emod_of_nonneg _ (by decide)]; omega), Int.fdiv_eq_ediv_of_nonneg _ (by decide)]
  omega
theorem even_way {sz wy : Int} {i : Nat} (h0 : 0 ≤ sz) (e : sz.toNat % 2 = 0) : wayS i sz wy = wy := by
  unfold wayS
  rw [if_pos (by rw [Int.fmod_eq_emod_of_nonneg _ (by decide)]; omega)]
theorem oth_all {W : Int} : (0 ≤ ([34, 12271, 12284, 917504, 917632] : List Int).getD (W.fmod 5).toNat 0 ∧ ([34, 12271, 12284, 917504, 917632] : List Int).getD (W.fmod 5).toNat 0 ≤ 917632) ∧
    (W < 79 → otherC W = (([34, 12271, 12284, 917504, 917632] : List Int).getD (W.fmod 5).toNat 0).toNat) := by
  have a : 0 ≤ W.fmod 5 := Int.fmod_nonneg_of_pos _ (by decide)
  have b : W.fmod 5 < 5 := Int.fmod_lt_of_pos _ (by decide)
  unfold otherC
  generalize W.fmod 5 = r at *
  rcases (by omega : r = 0 ∨ r = 1 ∨ r = 2 ∨ r = 3 ∨ r = 4) with rfl | rfl | rfl | rfl | rfl <;> refine ⟨by decide, fun h => ?_⟩ <;> rw [if_pos h] <;> rfl
theorem oth_hi {W : Int} (h : ¬ W < 79) : otherC W = (917427 + W).toNat := by unfold otherC; rw [if_neg h]
local macro_rules | `(tactic| walk_at "call ref") => `(tactic| (k_here; (with_reducible show wpAny _ _ (call (Value.ref 211) _) _ _ _); (refine' p257b ?p1 ?p2 ?p3 _ _ _ _ _ _ _ _ _ _ _ _ _ _ _ _ _ _ ?k1 ?k2 ?k3 ?k4 ?k5 ?kK ?kp ?kd ?ku ?kR; (case p1 => assumption); (case p2 => assumption); (case p3 => assumption); (case k1 => k_asm); (case k2 => k_asm); (case k3 => k_asm); (case k4 => k_asm); (case k5 => k_asm); (case kK => first | exact rfl | assumption); (case kp => trivial); (case kd => ktr_room); (case ku => ktr_units)); intro t9 h9 tk9 F9 N9; (try dsimp only)))
local macro_rules | `(tactic| walk_at "call ref") => `(tactic| (k_here; (with_reducible show wpAny _ _ (call (Value.ref 79) _) _ _ _); (refine' c7b ?p1 _ _ _ _ _ _ _ _ _ _ _ _ _ _ _ _ _ _ ?k1 ?k2 ?k3 ?k4 ?k5 ?kK ?kp ?kd ?ku ?kR; (case p1 => assumption); (case k1 => k_asm); (case k2 => k_asm); (case k3 => k_asm); (case k4 => k_asm); (case k5 => k_asm); (case kK => first | exact rfl | assumption); (case kp => trivial); (case kd => ktr_room); (case ku => ktr_units)); intro t9 h9 tk9 F9 N9; (try dsimp only)))
local macro_rules | `(tactic| walk_at "call ref") => `(tactic| (k_here; (with_reducible show wpAny _ _ (call (Value.ref 97) _) _ _ _); (refine' c9b ?p1 _ _ _ _ _ _ _ _ _ _ _ _ _ _ _ _ _ _ ?k1 ?k2 ?k3 ?k4 ?k5 ?kK ?kp ?kd ?ku ?kR; (case p1 => assumption); (case k1 => k_asm); (case k2 => k_asm); (case k3 => k_asm); (case k4 => k_asm); (case k5 => k_asm); (case kK => first | exact rfl | assumption); (case kp => trivial); (case kd => ktr_room); (case ku => ktr_units)); intro t9 h9 tk9 F9 N9; (try dsimp only)))
theorem two_lt {dx x : Addr} (h : dx < x) : @LT.lt Nat _ dx x := h
local macro_rules | `(tactic| walk_at "call ref") => `(tactic| (k_here; (with_reducible show wpAny _ _ (call (Value.ref 175) _) _ _ _); (refine' mkBox _ _ _ _ _ _ _ _ _ _ _ _ _ _ _ _ _ _ _ _ _ _ _ _ ?k1 ?k2 ?k3 ?k4 ?k5 ?kK ?kd ?ku ?kR; (case k1 => k_asm); (case k2 => k_asm); (case k3 => k_asm); (case k4 => k_asm); (case k5 => k_asm); (case kK => first | exact rfl | assumption); (case kd => ktr_room); (case ku => ktr_units)); intro x' dx' h' tk' n1' hh' tk2' n2' F' N' l1' l2'; (have l3' := alllt_trans l1' l2'); (replace l2' := two_lt l2'); k_lt l1'; k_lt l3'; (try dsimp only)))
local macro_rules | `(tactic| walk_at "getMethod ref") => `(tactic| (k_here; (refine' pushM ?k1 ?k2 ?k3 ?k4 ?k5 ?k6 ?_; (case k1 => k_asm); (case k2 => k_asm); (case k3 => k_asm); (case k4 => k_mem); (case k5 => k_mem); (case k6 => exact boxDict_of))))
local macro_rules | `(tactic| walk_at "call ref") => `(tactic| (k_here; (with_reducible show wpAny _ _ (call (Value.ref 121) _) _ _ _); (refine' pushC _ _ _ _ _ _ _ _ _ _ _ _ _ _ _ _ _ _ _ _ _ _ _ _ _ _ _ _ _ _ _ _ _ ?k1 ?k2 ?k3 ?k4 ?k5 ?kK ?kd ?ku ?kU ?km ?kb ?kz ?kR; (case k1 => k_asm); (case k2 => k_asm); (case k3 => k_asm); (case k4 => k_asm); (case k5 => k_asm); (case kK => first | exact rfl | assumption); (case kd => ktr_room); (case ku => ktr_units); (case kU => k_updF); (case km => k_mem); (case kb => exact boxDict_of); (case kz => first | decide | omega)); intro T' h' tk' F' N' l1'; k_lt l1'; (try dsimp only at N' ⊢)))
local macro_rules | `(tactic| walk_at "CompEnd") => `(tactic| (refine' compEnd1 ?k1 ?k2 ?k3 ?k4 ?_; (case k1 => assumption); (case k2 => assumption); (case k3 => (simp only [LCg.Off3, and_true]; assumption)); (case k4 => lcg_src)))
local macro_rules | `(tactic| walk_at "call type:str") => `(tactic| refine Halt.mk ?_)
local macro_rules | `(tactic| walk_at "call builtin:len") => `(tactic| ((with_reducible show wpAny _ _ (call (Value.builtin "len") [Value.ref _]) _ _ _); refine Halt.mk ?_))
local macro_rules | `(tactic| walk_at "exec For Name Call cons nil") => `(tactic| refine Halt.mk ?_)
local macro_rules | `(tactic| walk_at "pyIter ref") => `(tactic| refine Halt.mk ?_)
local macro_rules | `(tactic| walk_at "exec Assign") => `(tactic| ((have hStop : Stop := by assumption); clear hStop; refine Halt.mk ?_))
theorem b3b {w : World} {mean : ExcName → Option Value} {mg mb : Str → Option Value} {j : Nat} {t : Tok} (hj : j < 13) : Pc w mean mg mb 67 [.str ⟨#[((code j : Nat) : Int).toNat]⟩ t] True (fun t => .str (fold j) t) := b3c w mean mg mb j t hj
theorem mem_rot {α : Type} {t p : α} {R : List α} : ∀ {l : List α}, p ∈ l ++ t :: R → p ∈ t :: (l ++ R)
  | l, h => by
    rcases List.mem_append.mp h with h | h
    · exact .tail _ (List.mem_append_left _ h)
    · rcases List.mem_cons.mp h with rfl | h
      · exact .head _
      · exact .tail _ (List.mem_append_right _ h)
theorem odd_texts (a : Int) (n : Nat) : (Txt.join (Str.ofString "") (joins (prsF a n)) != cat (prsF a n)) = false := by
  rw [join_cat fun p hp => (prsF_mem hp).1]; simp
theorem odd_bd (a : Int) (n : Nat) : ∀ p ∈ prsF a n, p.1.length ≤ 1000 ∧ p.2.length ≤ 1000 := fun p hp => by
  obtain ⟨e1, e2⟩ := prsF_mem hp
  rw [e1, e2]; exact ⟨by decide, by decide⟩
theorem odd_size {sz a : Int} {mk : Nat} {fd : Str} (hfd : out sz.toNat mk = fd) (h0 : 0 ≤ sz) (e : sz.toNat % 2 = 1) : 2 + sumLen (prsF a fd.length) = sizeS sz := by
  rw [prsF_sum, ← hfd, out_len_od e]
  unfold sizeS
  rw [if_neg (by rw [Int.fmod_eq_emod_of_nonneg _ (by decide)]; omega), Int.fdiv_eq_ediv_of_nonneg _ (by decide)]
  omega
theorem odd_way {sz wy : Int} {i : Nat} (h0 : 0 ≤ sz) (e : sz.toNat % 2 = 1) : wayS i sz wy = wy + 2 ^ ((i : Nat) : Int).toNat := by
  unfold wayS
  rw [if_neg (by rw [Int.fmod_eq_emod_of_nonneg _ (by decide)]; omega), Int.toNat_natCast]
local macro_rules | `(tactic| k_all) => `(tactic| exact Tail.nx (by assumption))
local macro_rules | `(tactic| walk_at "subscriptTail") => `(tactic| (k_here; (with_reducible show wpAny _ _ (subscriptTail _ _ (Value.ref _) (Value.int _ _)) _ _ _); first | (refine' codeItem ?k1 ?k2 ?k3 ?k4 ?k5 ?k6 ?k7; (case k1 => k_asm); (case k2 => k_mem); (case k3 => assumption); (case k4 => assumption); (case k5 => assumption); (case k7 => with_unfolding_all rfl); intro tki) | (refine' foldItem ?k1 ?k2 ?k3 ?k4 ?k5 ?k6 ?k7; (case k1 => k_asm); (case k2 => k_mem); (case k3 => assumption); (case k4 => assumption); (case k5 => assumption); (case k7 => with_unfolding_all rfl); intro tki)))
local macro_rules | `(tactic| walk_at "call ref") => `(tactic| (k_here; (with_reducible show wpAny _ _ (call (Value.ref 67) _) _ _ _); (refine' b3b ?p1 _ _ _ _ _ _ _ _ _ _ _ _ _ _ _ _ _ _ ?k1 ?k2 ?k3 ?k4 ?k5 ?kK ?kp ?kd ?ku ?kR; (case p1 => assumption); (case k1 => k_asm); (case k2 => k_asm); (case k3 => k_asm); (case k4 => k_asm); (case k5 => k_asm); (case kK => first | exact rfl | assumption); (case kp => trivial); (case kd => ktr_room); (case ku => ktr_units)); intro t9 h9 tk9 F9 N9; (try dsimp only)))
set_option maxHeartbeats 40000000 in
theorem walkC (w : World) (mean : ExcName → Option Value) (mg mb : Str → Option Value) (size steps seed : Int) (t1 t2 t3 : Tok) (h0 : 0 ≤ size) (h1 : size < 24) (h2 : 1 ≤ steps) (h3 : steps ≤ 4) (h4 : 0 ≤ seed) (h5 : seed ≤ 20000) (ps1 ps2 : Array Value) (rest : CbLed) :
  ∀ (dp un : Nat) (gd : Option (List Code)) (cn : Str) (cs : Scope) (a : Addr) (ccd : Value) (cl : List (Str × Addr)) (outer : List Env) (A₀ : Around) (base h₀ : Heap) (L : Addr) (m : Str → Option Value) (s : Shared) (Q E : Value → Shared → Prop),
    Below A₀ base outer h₀ → Fr h₀ L s.heap m → (K w.params).In h₀ → News h₀ L s.heap ((138, tabT ps1) :: (145, tabT ps2) :: rest) → (∀ p ∈ rest, p.1 ≠ 138 ∧ p.1 ≠ 145) → Top q (looseW q loose) mean mg mb h₀ → cs.kind = .function →
    dp + 16 < recursionLimit → un + 128 < cLine → Tab posL ps1 → Tab posS ps2 → AllBare s.gens →
    (∀ T t t' ps1' ps2' s', Fr h₀ L s'.heap m → News h₀ L s'.heap ((T, pairO (walkF size steps.toNat).1 t (walkF size steps.toNat).2 t') :: (138, tabT ps1') :: (145, tabT ps2') :: rest) → Tab posL ps1' → Tab posS ps2' → AllBare s'.gens → s'.os = s.os → Q (.ref T) s') →
      wpAny (model PR w) (ktrTop dp un gd cn cs L a ccd cl outer) (call (.ref 216) [.int size t1, .int steps t2, .int seed t3]) Q E s := by
  have h0 : PySem.Challenge.rw_xn0019_01.prog = PySem.Challenge.rw_xn0019_01.prog ∧ K = K := ⟨rfl, rfl⟩; revert h0; k_fill; w_top off; k_with_none; intro h0; clear h0
  intro dp un gd cn cs a ccd cl outer A₀ base h₀ L m s Q E hB hF hX hN hrest hT hcs hdp hun hTab hTab2 hG hret
  have hd8 : dp + 1 + 8 < recursionLimit := Nat.lt_of_le_of_lt (by omega) hdp
  have hu80 : un + 80 < cLine := by omega
  have hu83 : un + 3 + 80 < cLine := by omega
  refine wpAny_call ?_
  k_dflt cell_enter
  k_steps
  unfold Halt
  refine wpAny_For ?_ (by intro _; rfl)
  k_steps
  unfold Halt
  rename Fr _ _ _ _ => F5
  rename News _ _ _ _ => N5
  rename IsRange _ _ _ _ _ _ _ _ => R5
  rename Below _ _ _ _ => B5
  rename Frag.In _ _ => X5
  rename Top _ _ _ _ _ _ => T5
  refine iterG R5 (by omega) (by omega) F5 N5 fun I h6 F6 N6 lt6 => ?_
  clear R5 F5 N5 hN
  refine' walkLoop (size0 := size) (steps := steps) (seed := seed) (os := s.os) h0 h1 h2 h3 rfl rfl rfl F6 N6 lt6 hG rfl ?off ?vf ?vc hTab hTab2 ?hm ?hE ?turn ?done
  case off => exact List.forall_mem_cons.mpr ⟨⟨by k_ne, by k_ne⟩, List.forall_mem_cons.mpr ⟨⟨by k_ne, by k_ne⟩, List.forall_mem_nil _⟩⟩
  case vf => repeat (first | exact DatAll.nil | refine DatAll.cons (DatIn.str _ _) ?_)
  case vc => repeat (first | exact DatAll.nil | refine DatAll.cons (DatIn.int _ _) ?_)
  case hm => (refine List.forall_mem_cons.mpr ⟨?e1, List.forall_mem_cons.mpr ⟨?e2, List.forall_mem_cons.mpr ⟨?e3, List.forall_mem_cons.mpr ⟨?e4, List.forall_mem_cons.mpr ⟨?e5, List.forall_mem_nil _⟩⟩⟩⟩⟩) <;> with_unfolding_all rfl
  case hE => passes_own
  case done =>
    clear F6 N6 lt6
    intro m9 q1 q2 u1 u2 u3 s9 a1 a2 G9 os9 F9 N9
    k_steps
    exact hret _ _ _ q1 q2 _ (by assumption) (by assumption) a1 a2 G9 os9
  case turn =>
    clear F6 N6 lt6 hG hTab hTab2
    intro vf vc hvf hvc hoffW i m9 q1 q2 u1 u2 u3 s9 t9 hi hi4 a1 a2 G9 os9 z0 z1 y0 y1 F9 N9
    have hs80 : (walkF size i).2.toNat ≤ 80 := by omega
    repeat (rename And _ _ => zz; clear zz)
    have hSA : Stop := ⟨⟩
    generalize hsz : (walkF size i).2 = sz at *
    generalize hwy : (walkF size i).1 = wy at *
    have hW0 : 0 ≤ (seed + 31 * (i : Int)).fmod 109 := Int.fmod_nonneg_of_pos _ (by decide)
    have hW1 : (seed + 31 * (i : Int)).fmod 109 < 109 := Int.fmod_lt_of_pos _ (by decide)
    generalize hW : (seed + 31 * (i : Int)).fmod 109 = W at hW0 hW1
    have hm34 := mark34 hW0 hW1
    k_steps
    -- which
    unfold Halt
    refine wpAny_Assign_Name ?_
    refine evalCut (fun v => ∃ t, v = .int W t) F9 N9 ?_ ?_
    · intro Q' hQ'
      clear hSA
      k_steps
      exact hQ' _ _ _ ⟨_, by rw [hW]⟩ (by assumption) (by assumption)
    rintro _ h10 tk10 ⟨t10, rfl⟩ F10 N10
    k_steps
    -- mark
    unfold Halt
    refine wpAny_Assign_Name ?_
    rename Fr _ _ _ _ => F11
    rename News _ _ _ _ => N11
    refine evalCut (fun v => ∃ t, v = .str ⟨#[markC W]⟩ t) F11 N11 ?_ ?_
    · intro Q' hQ'
      clear hSA
      k_steps
      all_goals exact hQ' _ _ _ (chrV (by unfold markC; (repeat split) <;> first | rfl | omega)) (by assumption) (by assumption)
    rintro _ h12 tk12 ⟨t12, rfl⟩ F12 N12
    try clear F11 N11 F10 N10
    k_steps
    -- other
    unfold Halt
    refine wpAny_Assign_Name ?_
    rename Fr _ _ _ _ => F13
    rename News _ _ _ _ => N13
    try clear F12 N12
    refine evalCut (fun v => ∃ t, v = .str ⟨#[otherC W]⟩ t) F13 N13 ?_ ?_
    · intro Q' hQ'
      clear hSA
      have hg0 := (oth_all (W := W)).1.1
      have hg1 := (oth_all (W := W)).1.2
      k_steps
      · exact hQ' _ _ _ (chrV (oth_all.2 (by assumption))) (by assumption) (cb_drop (by assumption) fun p hp => .tail _ hp)
      · exact hQ' _ _ _ (chrV (oth_hi (by omega))) (by assumption) (by assumption)
    rintro _ h14 tk14 ⟨t14, rfl⟩ F14 N14
    try clear F13 N13
    k_steps
    -- found
    unfold Halt
    refine wpAny_Assign_Name ?_
    rename Fr _ _ _ _ => F15
    rename News _ _ _ _ => N15
    try clear F14 N14
    obtain ⟨fd, hfd⟩ : ∃ fd, out sz.toNat (markC W) = fd := ⟨_, rfl⟩
    have hfl : fd.length ≤ 41 := by have := out_len sz.toNat (markC W); rw [hfd] at this; omega
    refine evalCut (fun v => ∃ t, v = .str fd t) F15 N15 ?_ ?_
    · intro Q' hQ'
      clear hSA
      k_steps
      exact hQ' _ _ _ ⟨_, by rw [hfd]⟩ (by assumption) (by assumption)
    rintro _ h16 tk16 ⟨t16, rfl⟩ F16 N16
    try clear F15 N15
    k_steps
    -- last
    unfold Halt
    refine wpAny_Assign_Name ?_
    rename Fr _ _ _ _ => F17
    rename News _ _ _ _ => N17
    try clear F16 N16
    obtain ⟨lc, hlc⟩ : ∃ lc, (if sz.toNat % 2 = 0 then markC W else otherC W) = lc := ⟨_, rfl⟩
    refine evalCut (fun v => ∃ t, v = .str ⟨#[lc]⟩ t) F17 N17 ?_ ?_
    · intro Q' hQ'
      clear hSA
      k_steps
      all_goals exact hQ' _ _ _ (chrV (hlc.symm.trans (by first | exact last_a hfd hm34 (by assumption) | exact last_b hfd (by assumption)))) (by assumption) (by assumption)
    rintro _ h18 tk18 ⟨t18, rfl⟩ F18 N18
    try clear F17 N17
    clear hSA
    have hcase := last_cases hW0 hW1 hlc
    clear hlc
    rcases hcase with ⟨c1, b, nb, c3, c4, c5⟩ | ⟨c1, c3, c4, c5⟩
    · k_steps
      walk_at "call ref"
      k_steps
      walk_at "call ref"
      k_steps
      rename News _ _ _ _ => N19
      replace N19 := cb_drop (news := (I, ritO ((i : Int) + 1) (steps - (i : Int) - 1)) :: wled _ _ vf vc 0 0 q1 q2 rest) N19 (by intro p hp; repeat (first | exact hp | apply List.Mem.tail))
      repeat (rename And _ _ => zz; clear zz)
      iterate 3 (k_steps; (try walk_at "call ref"))
      k_steps
      unfold Halt
      rename Fr _ _ _ _ => F20
      rename News _ _ _ _ => N20
      have hne := even_texts hfd c1
      have hbd := even_bd hfd c1 hs80
      refine' strBox (w := w) (mean := mean) (mg := mg) (mb := mb) (k := 0) (prs := [(Str.ofString "", Txt.slice fd none (some (-1)))]) (q1 := q1) (q2 := q2) (rest := rest) (pre := [_, _, _, _, _, _]) ?zB ?zF ?zX N20 ?zT ?zcs ?zd ?zu ?zp ?zr ?zt ?zG ?zb ?zdx ?zD ?zP ?zl ?zpb ?zh
      case zB => k_asm
      case zF => k_asm
      case zX => k_asm
      case zT => k_asm
      case zcs => exact rfl
      case zd => exact hd8
      case zu => exact hu83
      case zp => repeat' (first | exact hoffW _ | refine List.forall_mem_cons.mpr ⟨⟨?_, ?_⟩, ?_⟩ | k_ne)
      case zr => exact hrest
      case zt => exact a2
      case zG => exact G9
      case zb => k_mem
      case zdx => k_mem
      case zD => exact boxDict_of
      case zP => exact Pairs.mono (Pairs.push (prs := []) Pairs.nil (by k_mem)) (fun p hp => List.mem_append_left _ hp)
      case zl => exact Nat.le_of_ble_eq_true rfl
      case zpb => exact hbd
      case zh =>
        intro q3 s21 t21 F21 N21 a3 G21 os21
        clear F20 N20
        simp only [tled, List.cons_append, List.nil_append] at N21
        k_steps
        unfold Halt
        rename Fr _ _ _ _ => F22
        rename News _ _ _ _ => N22
        refine' lenBox (w := w) (mean := mean) (mg := mg) (mb := mb) (k := 0) (prs := [(Str.ofString "", Txt.slice fd none (some (-1)))]) (q1 := q1) (q2 := q3) (rest := rest) (pre := [_, _, _, _, _, _]) ?yB ?yF ?yX N22 ?yT ?ycs ?yd ?yu ?yp ?yr ?yt ?yG ?yb ?ydx ?yD ?yP ?yl ?ypb ?yk0 ?yk1 ?yh
        case yB => k_asm
        case yF => k_asm
        case yX => k_asm
        case yT => k_asm
        case ycs => exact rfl
        case yd => exact hd8
        case yu => exact hu83
        case yp => repeat' (first | exact hoffW _ | refine List.forall_mem_cons.mpr ⟨⟨?_, ?_⟩, ?_⟩ | k_ne)
        case yr => exact hrest
        case yt => exact a1
        case yG => exact G21
        case yb => k_mem
        case ydx => k_mem
        case yD => exact boxDict_of
        case yP => exact Pairs.mono (Pairs.push (prs := []) Pairs.nil (by k_mem)) (fun p hp => List.mem_append_left _ hp)
        case yl => exact Nat.le_of_ble_eq_true rfl
        case ypb => exact hbd
        case yk0 => decide
        case yk1 => decide
        case yh =>
          intro q4 s23 t23 F23 N23 a4 G23 os23
          rw [even_size hfd z0 c1]
          clear F22 N22
          simp only [tled, List.cons_append, List.nil_append] at N23
          k_steps
          rename Fr _ _ _ _ => F24
          rename News _ _ _ _ => N24
          refine ⟨_, q4, q3, t23, u2, u3, F24, cb_drop N24 (by intro p hp; repeat (first | exact hp | apply List.Mem.tail)), a4, a3, ?_, G23, os23.trans (os21.trans os9)⟩
          rw [show walkF size (i + 1) = (wayS i (walkF size i).2 (walkF size i).1, sizeS (walkF size i).2) from rfl, hsz, hwy, even_way z0 c1]
          (refine List.forall_mem_cons.mpr ⟨?ev1, List.forall_mem_cons.mpr ⟨?ev2, List.forall_mem_cons.mpr ⟨?ev3, List.forall_mem_cons.mpr ⟨?ev4, List.forall_mem_cons.mpr ⟨?ev5, List.forall_mem_nil _⟩⟩⟩⟩⟩) <;> with_unfolding_all rfl
    · k_steps
      walk_at "call ref"
      k_steps
      walk_at "call ref"
      k_steps
      rename News _ _ _ _ => N19
      replace N19 := cb_drop (news := (I, ritO ((i : Int) + 1) (steps - (i : Int) - 1)) :: wled _ _ vf vc 0 0 q1 q2 rest) N19 (by intro p hp; repeat (first | exact hp | apply List.Mem.tail))
      repeat (rename And _ _ => zz; clear zz)
      iterate 2 (k_steps; (try walk_at "call ref"))
      k_steps
      unfold Halt
      refine wpAny_For ?_ (by intro _; rfl)
      k_steps
      unfold Halt
      rename Fr _ _ _ _ => F5
      rename News _ _ _ _ => N5
      rename IsRange _ _ _ _ _ _ _ _ => R5
      rename And _ _ => l3
      refine iterG R5 (Int.natCast_nonneg _) (by omega) F5 N5 fun I2 h6 F6 N6 lt6 => ?_
      refine' innerLoop (a := seed + (i : Int)) (os := s.os) (nlen := fd.length) (q1 := q1) (q2 := q2) (rest := rest) (vf := vf) (vc := vc) (fd := fd) (sz := sz) (seed := seed) (i := (i : Int)) (way := wy + 2 ^ ((i : Nat) : Int).toNat) rfl rfl rfl F6 N6 lt6 hrest ?zr G9 os9 ?zm ?zE ?zt ?zd
      case zr => exact fun p hp => allLt_mem l3.2.2.2.2.2 hp
      case zm => (refine List.forall_mem_cons.mpr ⟨?od1, List.forall_mem_cons.mpr ⟨?od2, List.forall_mem_cons.mpr ⟨?od3, List.forall_mem_cons.mpr ⟨?od4, List.forall_mem_cons.mpr ⟨?od5, List.forall_mem_cons.mpr ⟨?od6, List.forall_mem_cons.mpr ⟨?od7, List.forall_mem_cons.mpr ⟨?od8, List.forall_mem_cons.mpr ⟨?od9, List.forall_mem_nil _⟩⟩⟩⟩⟩⟩⟩⟩⟩) <;> with_unfolding_all rfl
      case zE => passes_own
      case zt =>
        have ltI := lt6
        k_lt ltI
        clear F6 N6 lt6 R5 F5 N5
        intro j m7 its n7 R th7 s7 t7 hj b1 T1 G7 os7 F7 N7
        obtain ⟨P, hPe⟩ : ∃ P, (seed + (i : Int) + (j : Int)).fmod 13 = P := ⟨_, rfl⟩
        have hP0 : 0 ≤ P := hPe ▸ (fm13 _).1
        have hP1 : P < 13 := hPe ▸ (fm13 _).2
        have hP2 : P.toNat < 13 := by clear ltI l3; omega
        have hcb := code_bd hP2
        have hc0 : (0 : Int) ≤ ((code P.toNat : Nat) : Int) := Int.natCast_nonneg _
        have hf3 := fold_len hP2
        have hca := cat_len (seed + (i : Int)) j
        have hca2 : (cat (prsF (seed + (i : Int)) j)).length ≤ 200 := by rw [hca]; clear ltI l3; omega
        have hits : its.size ≤ 1000 := by rw [b1]; clear ltI l3; omega
        have hSA : Stop := ⟨⟩
        k_steps
        unfold Halt
        refine wpAny_Assign_Name ?_
        refine evalCut (fun v => ∃ t, v = .int P t) F7 N7 ?_ ?_
        · intro Q' hQ'
          clear hSA
          k_steps
          exact hQ' _ _ _ ⟨_, by rw [hPe]⟩ (by assumption) (by assumption)
        rintro _ h10 tk10 ⟨t10, rfl⟩ F10 N10
        clear hSA
        k_steps
        walk_at "call ref"
        k_steps
        walk_at "call ref"
        k_steps
        k_here
        refine' foldItem ?k1 ?k2 ?k3 ?k4 ?k5 ?k6 ?k7
        case k1 => k_asm
        case k2 => k_mem
        case k3 => assumption
        case k4 => assumption
        case k5 => assumption
        case k7 => with_unfolding_all rfl
        intro tki
        k_steps
        rename Fr _ _ _ _ => F24
        rename News _ _ _ _ => N24
        refine' ⟨_, its.push (.ref _), _, (_, tupO (Str.ofString "") (fold P.toNat) _ _) :: R, _, F24, fun p hp => N24 p (mem_rot (l := [_, _, _, _, _, _, _, _]) hp), ?ys, ⟨?yo, ?ynx, ?yni, ?ysub, ?yprs⟩, ?yips, G7, os7⟩
        case ys => rw [Array.size_push, b1]
        case yo => exact List.forall_mem_cons.mpr ⟨⟨by k_ne, by k_ne⟩, T1.off⟩
        case ynx => exact List.forall_mem_cons.mpr ⟨by k_ne, T1.nx⟩
        case yni => exact List.forall_mem_cons.mpr ⟨by k_ne, T1.ni⟩
        case ysub => exact fun p hp => .tail _ (T1.sub p hp)
        case yprs => rw [prsF_succ, hPe]; exact Pairs.push (T1.prs.mono fun p hp => .tail _ hp) (.head _)
        case yips =>
          rw [show cat (prsF (seed + (i : Int)) (j + 1)) = cat (prsF (seed + (i : Int)) j) ++ fold P.toNat from by rw [prsF_succ, cat_push, hPe]]
          (refine List.forall_mem_cons.mpr ⟨?a1, List.forall_mem_cons.mpr ⟨?a2, List.forall_mem_cons.mpr ⟨?a3, List.forall_mem_cons.mpr ⟨?a4, List.forall_mem_cons.mpr ⟨?a5, List.forall_mem_cons.mpr ⟨?a6, List.forall_mem_cons.mpr ⟨?a7, List.forall_mem_cons.mpr ⟨?a8, List.forall_mem_cons.mpr ⟨?a9, List.forall_mem_nil _⟩⟩⟩⟩⟩⟩⟩⟩⟩) <;> with_unfolding_all rfl
      case zd =>
        have ltI := lt6
        clear ltI F6 N6 lt6 R5 F5 N5
        intro m7 its n7 R th7 s7 b1 T1 G7 os7 F7 N7
        have hne := odd_texts (seed + (i : Int)) fd.length
        have hbd := odd_bd (seed + (i : Int)) fd.length
        have hpl : (prsF (seed + (i : Int)) fd.length).length ≤ 1000 := by rw [prsF_len]; clear l3; omega
        have hca := cat_len (seed + (i : Int)) fd.length
        have hca2 : (cat (prsF (seed + (i : Int)) fd.length)).length ≤ 200 := by rw [hca]; clear l3; omega
        k_steps
        unfold Halt
        rename Fr _ _ _ _ => F20
        rename News _ _ _ _ => N20
        refine' strBox (w := w) (mean := mean) (mg := mg) (mb := mb) (k := 2) (prs := prsF (seed + (i : Int)) fd.length) (q1 := q1) (q2 := q2) (rest := R) (pre := [_, _, _, _, _]) ?zB ?zF ?zX N20 ?zT ?zcs ?zd ?zu ?zp ?zr ?zt ?zG ?zb ?zdx ?zD ?zP ?zl ?zpb ?zh
        case zB => k_asm
        case zF => k_asm
        case zX => k_asm
        case zT => k_asm
        case zcs => exact rfl
        case zd => exact hd8
        case zu => exact hu83
        case zp => repeat' (first | exact hoffW _ | refine List.forall_mem_cons.mpr ⟨⟨?_, ?_⟩, ?_⟩ | k_ne)
        case zr => exact T1.off
        case zt => exact a2
        case zG => exact G7
        case zb => k_mem
        case zdx => k_mem
        case zD => exact boxDict_of
        case zP => exact T1.prs.mono (fun p hp => List.mem_append_right _ (.tail _ (.tail _ hp)))
        case zl => exact hpl
        case zpb => exact hbd
        case zh =>
          intro q3 s21 t21 F21 N21 a3 G21 os21
          clear F20 N20
          simp only [tled, List.cons_append, List.nil_append] at N21
          k_steps
          unfold Halt
          rename Fr _ _ _ _ => F22
          rename News _ _ _ _ => N22
          refine' lenBox (w := w) (mean := mean) (mg := mg) (mb := mb) (k := 2) (prs := prsF (seed + (i : Int)) fd.length) (q1 := q1) (q2 := q3) (rest := R) (pre := [_, _, _, _, _]) ?yB ?yF ?yX N22 ?yT ?ycs ?yd ?yu ?yp ?yr ?yt ?yG ?yb ?ydx ?yD ?yP ?yl ?ypb ?yk0 ?yk1 ?yh
          case yB => k_asm
          case yF => k_asm
          case yX => k_asm
          case yT => k_asm
          case ycs => exact rfl
          case yd => exact hd8
          case yu => exact hu83
          case yp => repeat' (first | exact hoffW _ | refine List.forall_mem_cons.mpr ⟨⟨?_, ?_⟩, ?_⟩ | k_ne)
          case yr => exact T1.off
          case yt => exact a1
          case yG => exact G21
          case yb => k_mem
          case ydx => k_mem
          case yD => exact boxDict_of
          case yP => exact T1.prs.mono (fun p hp => List.mem_append_right _ (.tail _ (.tail _ hp)))
          case yl => exact hpl
          case ypb => exact hbd
          case yk0 => decide
          case yk1 => decide
          case yh =>
            intro q4 s23 t23 F23 N23 a4 G23 os23
            rw [odd_size hfd z0 c1]
            clear F22 N22
            simp only [tled, List.cons_append, List.nil_append] at N23
            k_steps
            rename Fr _ _ _ _ => F24
            rename News _ _ _ _ => N24
            refine' ⟨_, q4, q3, t23, ?xtw, u3, F24, ?xn, a4, a3, ?xf, G23, os23.trans (os21.trans os7)⟩
            case xn =>
              intro p hp
              refine N24 p (.tail _ (.tail _ ?_))
              rcases List.mem_cons.mp hp with rfl | hp
              · exact .head _
              rcases List.mem_cons.mp hp with rfl | hp
              · exact .tail _ (.head _)
              rcases List.mem_cons.mp hp with rfl | hp
              · exact .tail _ (.tail _ (.head _))
              rcases List.mem_cons.mp hp with rfl | hp
              · exact .tail _ (.tail _ (.tail _ (.head _)))
              rcases List.mem_cons.mp hp with rfl | hp
              · exact .tail _ (.tail _ (.tail _ (.tail _ (.head _))))
              exact .tail _ (.tail _ (.tail _ (.tail _ (.tail _ (T1.sub p hp)))))
            case xf =>
              rw [show walkF size (i + 1) = (wayS i (walkF size i).2 (walkF size i).1, sizeS (walkF size i).2) from rfl, hsz, hwy, odd_way z0 c1]
              (refine List.forall_mem_cons.mpr ⟨?d1, List.forall_mem_cons.mpr ⟨?d2, List.forall_mem_cons.mpr ⟨?d3, List.forall_mem_cons.mpr ⟨?d4, List.forall_mem_cons.mpr ⟨?d5, List.forall_mem_nil _⟩⟩⟩⟩⟩) <;> with_unfolding_all rfl
end Mine
end
section
open PySem PySem.W PyProof.Rows
set_option maxRecDepth 100000
set_option linter.unusedVariables false
set_option linter.unusedSimpArgs false
namespace Mine
theorem law_tab (P : Params) : tabIn (K P) (Str.ofString "law") = some (227, 225) := by kernel_rfl
theorem law_at (P : Params) : nsIn (K P) mainGlobals (Str.ofString "law") = some (some (.ref 228)) := by kernel_rfl
theorem law_228 (P : Params) : (K P).lookup 228 = some (o228L P) := by kernel_rfl
theorem law_code228 (P : Params) : ∃ fd, (o228L P).data = .func fd ∧ fd.code = .ref 227 := ⟨_, rfl, rfl⟩
theorem recs_law : ((recsOf q).all fun d => d.name == Str.ofString "law") = true := by kernel_rfl
theorem owns_none : (ownsOf q).isEmpty = true := by kernel_rfl
theorem fn_ne {o : Obj} {fd : FuncData} (h : o.data = .func fd) : o ≠ tabObj #[] := fun e => by rw [e] at h; cases h
theorem ghostTop {w : World} {mean : ExcName → Option Value} {mg mb : Str → Option Value} {h₁ : Heap} {tabs : List (Addr × Addr)} (hT : TabsAt tabs h₁) (hne : 225 ∉ tabs.map (·.2)) (X : (K w.params).In h₁) (T : Top q (looseW q loose) mean mg mb h₁) :
    Top q (looseW q loose) mean mg mb (ghostOf h₁ tabs) where
  g := ghost_ns hT T.g
  b := ghost_ns hT T.b
  nolimit := let ⟨mc, a, r⟩ := T.nolimit; ⟨mc, ghost_ns hT a, r⟩
  nodigits := let ⟨mc, a, r⟩ := T.nodigits; ⟨mc, ghost_ns hT a, r⟩
  fn := fun d hd => by
    obtain ⟨a, o, pm, code, doc, h1, h2, h3, c, oc, vs, t, e1, e2, e3, e4⟩ := T.fn d hd
    refine ⟨a, o, pm, code, doc, h1, ghost_get hT h2 (fn_ne h3), h3, c, oc, vs, t, e1, ghost_get hT e2 (fun z => ?_), e3, e4⟩
    rw [z] at e3; cases e3; cases e4
  own := fun o ho => by
    have e := owns_none
    rw [List.isEmpty_iff] at e
    rw [e] at ho; cases ho
  const := T.const
  free := T.free
  builtins := T.builtins
  tab := fun d hd => by
    have hn : d.name = Str.ofString "law" := eq_of_beq (List.all_eq_true.mp recs_law d hd)
    obtain ⟨a, o, fd, c, P, h1, h2, h3, h4, h5, h6⟩ := T.tab d hd
    have e1 := mg_of X T.g (law_at w.params)
    rw [hn, e1] at h1
    cases h1
    have e2 := X _ _ (law_228 w.params)
    rw [h2] at e2
    cases e2
    obtain ⟨fd', f1, f2⟩ := law_code228 w.params
    rw [f1] at h3; cases h3
    rw [f2] at h4; cases h4
    have hc : CodeHd h₁ 227 225 := codeHd_of_K X (by kernel_rfl)
    have hP : P = 225 := by
      obtain ⟨⟨oc, vs, g1, g2, g3, g4⟩, g5⟩ := h6
      obtain ⟨o', vs', _, _, _, _, _, _, _, k1, k2, k3, k4, k5, _⟩ := hc
      rw [g1] at k1; cases k1
      rw [g3] at k3; cases k3
      rw [g4] at k4; cases k4; rfl
    subst hP
    have hc' : CodeHd (ghostOf h₁ tabs) 227 225 := by
      obtain ⟨o', vs', a1, a2, a3, a4, a5, a6, a7, k1, k2, r⟩ := hc
      exact ⟨o', vs', a1, a2, a3, a4, a5, a6, a7, ghost_get hT k1 (fun z => by rw [z] at k2; cases k2), k2, r⟩
    have hp' : (ghostOf h₁ tabs).get? 225 = some (tabObj #[]) := ghost_ne h6.2 hne
    exact ⟨228, o228L w.params, _, 227, 225, hn ▸ e1, ghost_get hT h2 (fn_ne f1), f1, f2, hc'.code hp' trivial, hc'.tab hp'⟩
  bmain := let ⟨bm, ob, a1, a2, a3, a4, r⟩ := T.bmain; ⟨bm, ob, a1, a2, ghost_get hT a3 (fun z => by rw [z] at a4; cases a4), a4, r⟩
  seer := fun e => by
    have x := T.seer e
    exact ⟨let ⟨mc, a, b⟩ := x.statics; ⟨mc, ghost_ns hT a, b⟩, let ⟨mc, a, b⟩ := x.mods; ⟨mc, ghost_ns hT a, b⟩, let ⟨mc, a, b⟩ := x.imp; ⟨mc, ghost_ns hT a, b⟩,
      let ⟨mg, bm, ob, a, b, c, d, e⟩ := x.main; ⟨mg, bm, ob, ghost_ns hT a, b, ghost_get hT c (fun z => by rw [z] at d; cases d), d, e⟩⟩
theorem postG {M : Model} {A : Around} {cd : Code} {s s₁ : Shared} {cw : ClaimW} {cl : Str → Option Addr} {mean : ExcName → Option Value} {args : List WData} {tabs : List (Addr × Addr)} (hT : TabsAt tabs s₁.heap) (hr : ∀ x, cw.raises args x = false) (hp : cw.post args (.bool true) args = true)
    (h : codeAny M A cd (fun r s' => r = .ok (.ret (.bool true)) ∧ (∀ b o, (ghostOf s₁.heap tabs).get? b = some o → s'.heap.get? b = some o) ∧ GrownAll tabs s'.heap ∧ s'.os = s₁.os ∧ AllBare s'.gens) s) : codeAny M A cd (GoodWG cw cl mean args s₁) s :=
  codeAny_mono h fun r s' ⟨hc, hk, hgr, hos, hg⟩ => by
    have keep : ∀ b o, b ∉ tabs.map (·.2) → s₁.heap.get? b = some o → s'.heap.get? b = some o := fun b o hb e => hk b o (ghost_ne e hb)
    have grown : ∀ b o, b ∈ tabs.map (·.2) → s₁.heap.get? b = some o → isCodeTable s₁.heap b ∧ o = tabObj #[] ∧ ∃ ps, s'.heap.get? b = some (tabObj ps) := fun b o hb e => by
      obtain ⟨q, hq, rfl⟩ := List.mem_map.mp hb
      have e2 := (hT q hq).2
      rw [e] at e2
      exact ⟨((hT q hq).1.tab (hT q hq).2).isCodeTable, Option.some.inj e2, hgr.get q hq⟩
    refine ⟨.inl ⟨.bool true, .bool true, [], hc, hr, .bool _, hp, fun _ => ⟨.nil, fun a ha => nomatch ha⟩⟩, ⟨fun b o e => ?_, fun b o e => ?_⟩, hos, hg⟩
    · by_cases hb : b ∈ tabs.map (·.2)
      · obtain ⟨ht, rfl, ps, hP⟩ := grown b o hb e
        exact .inr (.inl ⟨ht, rfl, #[], ps, rfl, by rw [Array.empty_append]; exact hP⟩)
      · exact .inl (keep b o hb e)
    · by_cases hb : b ∈ tabs.map (·.2)
      · obtain ⟨_, _, ps, hP⟩ := grown b o hb e
        exact ⟨_, hP⟩
      · exact ⟨o, keep b o hb e⟩
end Mine
end
section
open PySem PySem.W PyProof.Rows PySem.Calls
set_option maxRecDepth 100000
set_option linter.unusedVariables false
set_option linter.unusedSimpArgs false
namespace Mine
theorem ne_of_news {h₀ h : Heap} {L : Addr} {news : List (Addr × Obj)} {a b : Addr} {o1 o2 : Obj} (N : News h₀ L h news) (h1 : (a, o1) ∈ news) (h2 : (b, o2) ∈ news) (hne : o1.cls ≠ o2.cls) : a ≠ b := fun z => by
  have a1 := (N _ h1).1
  have a2 := (N _ h2).1
  simp only at a1 a2
  rw [z, a2] at a1
  cases a1
  exact hne rfl
theorem waysK {w : World} {mean : ExcName → Option Value} {mg mb : Str → Option Value} {b k : Int} {t u : Tok} (hb : 0 ≤ b) (hb' : b < 24) (hk1 : 1 ≤ k) (hk4 : k ≤ 4) :
  ∀ (news : CbLed) (dp un : Nat) (gd : Option (List Code)) (cn : Str) (cs : Scope) (a : Addr) (ccd : Value) (cl : List (Str × Addr)) (outer : List Env) (A₀ : Around) (base h₀ : Heap) (L : Addr) (m : Str → Option Value) (s : Shared) (Q E : Value → Shared → Prop),
    Below A₀ base outer h₀ → Fr h₀ L s.heap m → (K w.params).In h₀ → News h₀ L s.heap news → Top q (looseW q loose) mean mg mb h₀ → cs.kind = .function →
    dp + 8 < recursionLimit → un + 64 < cLine →
    (∀ a c n1 n2 u1 u2 h' tk', Fr h₀ L h' m → News h₀ L h' ((a, listOf #[.ref c] n1) :: (c, ({ cls := .type "tuple", data := .seq #[.int (walkF b k.toNat).1 u1, .int (walkF b k.toNat).2 u2] n2 } : Obj)) :: news) → Q (.ref a) { s with heap := h', toks := tk' }) →
      wpAny (model PR w) (ktrTop dp un gd cn cs L a ccd cl outer) (call (.ref 223) [.int b t, .int k u]) Q E s := by
  intro news dp un gd cn cs a ccd cl outer A₀ base h₀ L m s Q E hB hF hX hN hT hcs hd hu h
  refine ways w mean mg mb b k t u hb hb' hk1 hk4 news dp un gd cn cs a ccd cl outer A₀ base h₀ L m s Q E hB hF hX hN hT hcs hd hu ?_
  intro v led h' tk' F' N' sub hD
  have hp := plain_law hb hb' (k := k.toNat) (by omega) (by omega)
  rw [show ((k.toNat : Nat) : Int) = k by omega] at hp
  rw [hp] at hD
  cases hD with
  | list hm hA =>
    cases hA with
    | cons h1 h2 =>
      cases h2
      cases h1 with
      | tuple hm2 hA2 =>
        cases hA2 with
        | cons i1 i2 =>
          cases i2 with
          | cons i3 i4 =>
            cases i4; cases i1; cases i3
            exact h _ _ _ _ _ _ h' tk' F' (cb_drop N' (List.forall_mem_cons.mpr ⟨hm, List.forall_mem_cons.mpr ⟨hm2, sub⟩⟩))
section
variable {prog : Program} {w : World} {A : Around} {E : Value → Shared → Prop} {s : Shared} {h₀ : Heap} {m : Str → Option Value} {env : Env} {px : Pos} {body : List Stmt} {I D : Addr} {os : OsState} {Q : Flow → Shared → Prop} {ys : List Value}
abbrev lled (D : Addr) (ys : List Value) (q1 q2 : Array Value) : CbLed := [(D, LCg.lst ys), (138, tabT q1), (145, tabT q2)]
def LawP (h₀ : Heap) (L I D : Addr) (ys : List Value) (oI : Obj) (os : OsState) (s₃ : Shared) : Prop :=
  ∃ m q1 q2, Fr h₀ L s₃.heap m ∧ News h₀ L s₃.heap ((I, oI) :: lled D ys q1 q2) ∧ Tab posL q1 ∧ Tab posS q2 ∧ AllBare s₃.gens ∧ s₃.os = os
theorem lawLoop {q1 q2 : Array Value} (hx : env.kindOf (Str.ofString "v") = some .local)
    (hp : (env.scope.kind == .class || (env.scope.kind == .module && env.locals != env.globals)) = false) (hh : A.handled = none)
    (F : Fr h₀ env.locals s.heap m) (Nn : News h₀ env.locals s.heap ((I, { cls := .type "list_iterator", data := .fields #[.ref D, .int 0 0] }) :: lled D ys q1 q2)) (hI : ∀ p ∈ lled D ys q1 q2, p.1 < I) (G : AllBare s.gens) (hos : s.os = os) (T1 : Tab posL q1) (T2 : Tab posS q2)
    (hE : PassesOwn (model prog w) A env E)
    (turn : ∀ (i : Nat) (v : Value) (m' : Str → Option Value) (oI : Obj) (q1 q2 : Array Value) (s' : Shared), ys[i]? = some v → oI.cls = .type "list_iterator" → Tab posL q1 → Tab posS q2 → AllBare s'.gens → s'.os = os →
      Fr h₀ env.locals s'.heap (fun y => if y = Str.ofString "v" then some v else m' y) → News h₀ env.locals s'.heap ((I, oI) :: lled D ys q1 q2) →
      wpAny (model prog w) A (execs body env) (TurnWF (LawP h₀ env.locals I D ys oI os) Q) E s')
    (done : ∀ m' q1 q2 s', Tab posL q1 → Tab posS q2 → AllBare s'.gens → s'.os = os → Fr h₀ env.locals s'.heap m' → News h₀ env.locals s'.heap (lled D ys q1 q2) → Q .next s') :
    codeAny (model prog w) A (.forLoop (.Name (Str.ofString "v") px) (.ref I) body [] env) (fun r s' => match r with | .ok f => Q f s' | .error e => cameBackBy (model prog w) A env E e s') s := by
  have hDI : D ≠ I := Nat.ne_of_lt (hI _ (.head _))
  have h1I : (138 : Addr) ≠ I := Nat.ne_of_lt (hI (138, tabT q1) (.tail _ (.head _)))
  have h2I : (145 : Addr) ≠ I := Nat.ne_of_lt (hI (145, tabT q2) (.tail _ (.tail _ (.head _))))
  have hne : ∀ q1 q2, ∀ p ∈ lled D ys q1 q2, p.1 ≠ I := fun q1 q2 => List.forall_mem_cons.mpr ⟨hDI, List.forall_mem_cons.mpr ⟨h1I, List.forall_mem_cons.mpr ⟨h2I, List.forall_mem_nil _⟩⟩⟩
  refine codeAny_forLoop (fun k s' => ∃ (i : Nat) (m' : Str → Option Value) (oI : Obj) (q1 q2 : Array Value), k = ys.length - i ∧ i ≤ ys.length ∧ Tab posL q1 ∧ Tab posS q2 ∧ AllBare s'.gens ∧ s'.os = os ∧ Fr h₀ env.locals s'.heap m' ∧ s'.heap.IsListIter I D i ∧ News h₀ env.locals s'.heap ((I, oI) :: lled D ys q1 q2)) ?_ (ys.length - 0)
    ⟨0, m, _, q1, q2, rfl, Nat.zero_le _, T1, T2, G, hos, F, ⟨_, (Nn _ (.head _)).1, rfl, rfl⟩, Nn⟩
  rintro k s' ⟨i, m', oI, q1, q2, rfl, hi, a1, a2, G', hos', F', hit, N'⟩
  obtain ⟨i1, i2, i3⟩ := N' _ (List.mem_cons_self)
  have hl : HasSeq s'.heap D ys.toArray := ⟨_, _, (N' (D, LCg.lst ys) (.tail _ (.head _))).1, rfl⟩
  by_cases hlt : i < ys.length
  · have hv : ys[i]? = some ys[i] := List.getElem?_eq_getElem hlt
    refine next_item hit hl (x := ys[i]) (by simpa using hv) fun h' hit' hs' => ?_
    obtain ⟨o2, ho2, hc2, hd2⟩ := id hit'
    have F1 := fr_but F' (Ne.symm i2) i3 hs'.extBut
    have N1 : News h₀ env.locals h' ((I, o2) :: lled D ys q1 q2) := fun p hp => by
      rcases List.mem_cons.mp hp with rfl | hp
      · exact ⟨ho2, i2, i3⟩
      · exact news_but (fun p hp => N' p (.tail _ hp)) (hne q1 q2) hs'.extBut p hp
    refine wpAny_assign_Name (wpAny_storeName_local hx F1.ns (fun h₂ hn₂ hs₂ => ?_) hp)
    have hit2 : ∀ {hh : Heap}, (∀ o, h'.get? I = some o → hh.get? I = some o) → hh.IsListIter I D (i + 1) := fun k => ⟨o2, k _ ho2, hc2, hd2⟩
    refine wpAny_mono (turn i _ m' o2 q1 q2 _ hv hc2 a1 a2 G' hos' (F1.set hn₂ hs₂) (N1.set hs₂)) (fun f s₃ h₃ => ?_) hE
    have fin : LawP h₀ env.locals I D ys o2 os s₃ → ∃ mm, mm < ys.length - i ∧ ∃ (i : Nat) (m' : Str → Option Value) (oI : Obj) (q1 q2 : Array Value), mm = ys.length - i ∧ i ≤ ys.length ∧ Tab posL q1 ∧ Tab posS q2 ∧ AllBare s₃.gens ∧ s₃.os = os ∧ Fr h₀ env.locals s₃.heap m' ∧ s₃.heap.IsListIter I D i ∧ News h₀ env.locals s₃.heap ((I, oI) :: lled D ys q1 q2) := by
      rintro ⟨m₂, p1, p2, b1, b2, b3, b4, b5, b6⟩
      exact ⟨ys.length - (i + 1), by omega, i + 1, m₂, o2, p1, p2, rfl, hlt, b3, b4, b5, b6, b1, ⟨o2, (b2 _ (.head _)).1, hc2, hd2⟩, b2⟩
    cases f with
    | ret v => exact h₃
    | brk => exact h₃
    | cont => exact fin h₃
    | next => exact fin h₃
  · have hin : i = ys.length := by omega
    refine next_end hh hit hl (by rw [hin]; simp) fun h' hx' => wpAny_execs_nil ?_
    exact done m' q1 q2 _ a1 a2 G' hos' (fr_but F' (Ne.symm i2) i3 hx') (news_but (fun p hp => N' p (.tail _ hp)) (hne q1 q2) hx')
end
end Mine
end
section
open PySem PySem.W PyProof.Rows
set_option maxRecDepth 100000
set_option linter.unusedVariables false
set_option linter.unusedSimpArgs false
namespace Mine
theorem iterL {prog : Program} {w : World} {A : Around} {E : Value → Shared → Prop} {s : Shared} {h₀ : Heap} {m : Str → Option Value} {D L : Addr} {ys : List Value} {news : List (Addr × Obj)} {Q : Value → Shared → Prop} (F : Fr h₀ L s.heap m) (Nn : News h₀ L s.heap news) (hm : (D, LCg.lst ys) ∈ news)
    (h : ∀ I h', Fr h₀ L h' m → News h₀ L h' ((I, ({ cls := .type "list_iterator", data := .fields #[.ref D, .int 0 0] } : Obj)) :: news) → (∀ p ∈ news, p.1 < I) → Q (.ref I) { s with heap := h' }) :
    wpAny (model prog w) A (pyIter (.ref D)) Q E s := by
  have hl : s.heap.IsList D ys.toArray := ⟨_, (Nn _ hm).1, rfl, _, rfl⟩
  exact wpAny_pyIter_list hl (h _ _ (F.push _) (Nn.push F _) fun p hp => Heap.lt_size (Nn p hp).1)
theorem ints_mod {ys : List Value} {l : List Int} {i : Nat} {v : Value} (hI : IntsAre ys (l.map fun k' => k'.fmod (10 ^ Int.toNat 6))) (hv : ys[i]? = some v) : ∃ n t, v = .int n t ∧ 0 ≤ n ∧ n < 1000000 := by
  obtain ⟨n, t, rfl, hn⟩ := hI.at i v hv
  refine ⟨n, t, rfl, ?_⟩
  obtain ⟨k, _, rfl⟩ := List.mem_map.mp (List.mem_of_getElem? hn)
  exact ⟨Int.fmod_nonneg_of_pos _ (by decide), Int.fmod_lt_of_pos _ (by decide)⟩
theorem cls_ne {T : String} {o : Obj} (h : o.cls = .type T) : o.cls ≠ .none := by rw [h]; exact fun e => by cases e
theorem perm46 {h₀ h : Heap} {L : Addr} {a b c d e f : Addr × Obj} (N : News h₀ L h [a, b, c, d, e, f]) : News h₀ L h [e, f, a, b, c, d] := cb_drop N (by lcg_sub)
local macro_rules | `(tactic| walk_at "exec For Name Name cons nil") => `(tactic| refine Halt.mk ?_)
local macro_rules | `(tactic| walk_at "pyIter ref") => `(tactic| refine Halt.mk ?_)
local macro_rules | `(tactic| walk_at "compareOp NotEq ref ref") => `(tactic| refine Halt.mk ?_)
local macro_rules | `(tactic| walk_at "call ref") => `(tactic| ((with_reducible show wpAny _ _ (call (Value.ref 216) _) _ _ _); refine Halt.mk ?_))
local macro_rules | `(tactic| walk_at "call ref") => `(tactic| ((with_reducible show wpAny _ _ (call (Value.ref 223) _) _ _ _); refine Halt.mk ?_))
set_option maxHeartbeats 8000000 in
theorem fin : PySem.Challenge.rw_xn0019_01.Holds := by
  refine hd _ _ (by rfl) (by rfl) (by rfl) ?_
  have h0 : PySem.Challenge.rw_xn0019_01.prog = PySem.Challenge.rw_xn0019_01.prog ∧ K = K := ⟨rfl, rfl⟩; revert h0; k_fill; w_top off; k_with_none; intro h0; clear h0
  intro w s₀ s₁ mg mb G Y fa o pm cd doc dV kV ho hd hcd hD hmg hg args vals as hpre hlay hrd hwl hlo
  have KX := km_in_of Y
  have hT8 := km_tabs_of Y
  have X := (Ground.X G).1
  have V := (Ground.X G).2
  refine Ground.open G ?_
  intro T B D TE TW
  try (refine guard_noD D (by decide +kernel) ?_; clear D)
  have hT9 : TabsAt [(142, 138), (149, 145)] s₁.heap := List.forall_mem_cons.mpr ⟨⟨codeHd_of_K KX (by kernel_rfl), hT8 138 (by k_mem)⟩, List.forall_mem_cons.mpr ⟨⟨codeHd_of_K KX (by kernel_rfl), hT8 145 (by k_mem)⟩, fun _ h => nomatch h⟩⟩
  clear hmg
  wrow_args hpre hlay hrd hwl hlo
  refine enter_call ?_
  w_top on
  refine postG hT9 (fun _ => rfl) (by first | (with_unfolding_all rfl) | kernel_rfl) ?_
  w_call any ho hd hcd hD T F
  clear hd
  rename News _ _ _ _ => N
  have l0 := ghost_lt hT9 F
  have X' := ghost_K hT9 KX (by kernel_rfl)
  have T' := ghostTop hT9 (by decide) KX T
  have K' := ghost_below hT9
  have N' := ghost_news hT9 F N
  have F' := ghost_fr hT9 F
  simp only [tabNews, List.map_cons, List.map_nil, List.nil_append, List.cons_append] at N'
  simp only [tabNews, List.map_cons, List.map_nil] at l0
  k_lt l0
  rename Heap.IsList _ _ _ => hlst
  rename IntsAre _ _ => hints
  have hlst' := ghost_list hT9 hlst
  rename List Int => ns
  rename List Value => vs
  clear hcd hD ho G Y hT8 B TE TW V F N hlst X T KX
  k_drop
  try k_fold
  k_steps
  unfold Halt
  refine wpAny_For ?_ (by intro _; rfl)
  k_steps
  unfold Halt
  rename Fr _ _ _ _ => F5
  rename News _ _ _ _ => N5
  rename IntsAre _ _ => hints9
  refine iterL F5 N5 (by k_mem) fun I h6 F6 N6 lt6 => ?_
  refine' lawLoop (ys := ys) (q1 := #[]) (q2 := #[]) (os := s₁.os) rfl rfl rfl F6 (cb_drop N6 (by lcg_sub)) (List.forall_mem_cons.mpr ⟨lt6 (_, _) (by k_mem), List.forall_mem_cons.mpr ⟨lt6 (138, tabT #[]) (by k_mem), List.forall_mem_cons.mpr ⟨lt6 (145, tabT #[]) (by k_mem), List.forall_mem_nil _⟩⟩⟩) (.of_eq hg) rfl (.inl rfl) (.inl rfl) ?zE ?zt ?zd
  case zE => passes_own
  case zt =>
    intro i v m9 oI q1 q2 s9 hv hoI a1 a2 G9 os9 F9 N9
    obtain ⟨n, t, rfl, n0, n1⟩ := ints_mod hints9 hv
    have hb0 : 0 ≤ n.fmod 24 := Int.fmod_nonneg_of_pos _ (by decide)
    have hb1 : n.fmod 24 < 24 := Int.fmod_lt_of_pos _ (by decide)
    have hc0 : 0 ≤ (n.fdiv 24).fmod 4 := Int.fmod_nonneg_of_pos _ (by decide)
    have hc1 : (n.fdiv 24).fmod 4 < 4 := Int.fmod_lt_of_pos _ (by decide)
    have hk1 : 1 ≤ 1 + (n.fdiv 24).fmod 4 := by clear N9 F9; omega
    have hk4 : 1 + (n.fdiv 24).fmod 4 ≤ 4 := by clear N9 F9; omega
    have hs0 : 0 ≤ n.fdiv 96 := by rw [Int.fdiv_eq_ediv_of_nonneg _ (by decide)]; exact Int.ediv_nonneg n0 (by decide)
    have hs1 : n.fdiv 96 ≤ 20000 := by rw [Int.fdiv_eq_ediv_of_nonneg _ (by decide)]; clear N9 F9; omega
    k_steps
    unfold Halt
    rename Fr _ _ _ _ => F10
    rename News _ _ _ _ => N10
    refine' waysK hb0 hb1 hk1 hk4 _ _ _ _ _ _ _ _ _ _ _ _ _ _ _ _ _ _ ?xB F10 X' N10 T' rfl ?xd ?xu ?xh
    case xB => exact K'
    case xd => ktr_room
    case xu => ktr_units
    case xh =>
    intro a c n1 n2 v1 v2 h11 tk11 F11 N11
    try clear F10 N10
    k_steps
    unfold Halt
    rename Fr _ _ _ _ => F12
    rename News _ _ _ _ => N12
    have r1 : ∀ {x : Addr} {o : Obj}, (x, o) ∈ _ → o.cls ≠ .none → x ≠ 138 ∧ x ≠ 145 := fun hm hc => ⟨ne_of_news N12 hm (b := 138) (o2 := tabT q1) (by k_mem) hc, ne_of_news N12 hm (b := 145) (o2 := tabT q2) (by k_mem) hc⟩
    refine' walkC w _ mg mb _ _ _ _ _ _ hb0 hb1 hk1 hk4 hs0 hs1 q1 q2 [_, _, _, _] _ _ _ _ _ _ _ _ _ _ _ _ _ _ _ _ _ K' F12 X' (perm46 N12) ?wr T' rfl ?wd ?wu a1 a2 G9 ?wh
    case wr => exact List.forall_mem_cons.mpr ⟨r1 (by k_mem) (cls_ne rfl), List.forall_mem_cons.mpr ⟨r1 (by k_mem) (cls_ne rfl), List.forall_mem_cons.mpr ⟨r1 (by k_mem) (cls_ne hoI), List.forall_mem_cons.mpr ⟨r1 (by k_mem) (cls_ne rfl), List.forall_mem_nil _⟩⟩⟩⟩
    case wd => ktr_room
    case wu => ktr_units
    case wh =>
    intro T u u' p1 p2 s13 F13 N13 b1 b2 G13 os13
    try clear F12 N12 F11 N11
    k_steps
    unfold Halt
    rename Fr _ _ _ _ => F14
    rename News _ _ _ _ => N14
    refine' kqd_ne (ds := [Dat.tuple [.int (walkF (n.fmod 24) (1 + (n.fdiv 24).fmod 4).toNat).1, .int (walkF (n.fmod 24) (1 + (n.fdiv 24).fmod 4).toNat).2]]) (es := [Dat.tuple [.int (walkF (n.fmod 24) (1 + (n.fdiv 24).fmod 4).toNat).1, .int (walkF (n.fmod 24) (1 + (n.fdiv 24).fmod 4).toNat).2]])
      (xs := [.ref c]) (ys := [.ref T]) N14 ?w1 ?w2 ?w3 ?w4 (fun _ h => h) ?w5 ?w6 ?w7 ?w8 (fun _ h => h) ?w9 ?w10 ?w11 ?w12
    case w1 => k_mem
    case w2 => rfl
    case w3 => rfl
    case w4 => exact .cons (.tuple (vs := [.int _ v1, .int _ v2]) (by k_mem) (.cons (.int _ _) (.cons (.int _ _) .nil))) .nil
    case w5 => k_mem
    case w6 => rfl
    case w7 => rfl
    case w8 => exact .cons (.tuple (vs := [.int _ u, .int _ u']) (by k_mem) (.cons (.int _ _) (.cons (.int _ _) .nil))) .nil
    case w9 => intro d hd; rw [List.mem_singleton.mp hd]; rfl
    case w10 => intro d hd; rw [List.mem_singleton.mp hd]; rfl
    case w11 => first | ke_room | ktr_units
    case w12 =>
    simp only [eq_self, decide_true, Bool.not_true]
    k_steps
    rename Fr _ _ _ _ => F15
    rename News _ _ _ _ => N15
    exact ⟨_, p1, p2, F15, cb_drop N15 (by lcg_sub), b1, b2, G13, os13.trans os9⟩
  case zd =>
    intro m9 q1 q2 s9 a1 a2 G9 os9 F9 N9
    k_steps
    all_goals exact G9
end Mine
end
open PySem PySem.W PyProof.Rows
theorem PySem.Challenge.cw_xn0019_01_holds : PySem.Challenge.rw_xn0019_01.Holds := by
  exact Mine.fin
