import PyProof.Rows.All
import Wide.All
import OpenK.AllK
import Wide.FinOn
import Lean
import PySem.Challenge.RW_op0061_01
set_option Elab.async false
set_option maxRecDepth 100000
set_option maxHeartbeats 8000000
set_option linter.unusedVariables false
section
namespace Mine
open PySem PySem.W PySem.W.X PyProof.Rows

theorem sa0 : Str.ofString "__name__" = ⟨⟨[95, 95, 110, 97, 109, 101, 95, 95]⟩⟩ := rfl
theorem sa1 : Str.ofString "cpy313.statistics" = ⟨⟨[99, 112, 121, 51, 49, 51, 46, 115, 116, 97, 116, 105, 115, 116, 105, 99, 115]⟩⟩ := rfl
theorem sa2 : Str.ofString "StatisticsError" = ⟨⟨[83, 116, 97, 116, 105, 115, 116, 105, 99, 115, 69, 114, 114, 111, 114]⟩⟩ := rfl
theorem sa3 : Str.ofString "ValueError" = ⟨⟨[86, 97, 108, 117, 101, 69, 114, 114, 111, 114]⟩⟩ := rfl
theorem sa4 : Str.ofString "median_low" = ⟨⟨[109, 101, 100, 105, 97, 110, 95, 108, 111, 119]⟩⟩ := rfl
theorem sa5 : Str.ofString "data" = ⟨⟨[100, 97, 116, 97]⟩⟩ := rfl
theorem sa6 : Str.ofString "sorted" = ⟨⟨[115, 111, 114, 116, 101, 100]⟩⟩ := rfl
theorem sa7 : Str.ofString "n" = ⟨⟨[110]⟩⟩ := rfl
theorem sa8 : Str.ofString "len" = ⟨⟨[108, 101, 110]⟩⟩ := rfl
theorem sa9 : Str.ofString "no median for empty data" = ⟨⟨[110, 111, 32, 109, 101, 100, 105, 97, 110, 32, 102, 111, 114, 32, 101, 109, 112, 116, 121, 32, 100, 97, 116, 97]⟩⟩ := rfl
theorem sa10 : Str.ofString "median_high" = ⟨⟨[109, 101, 100, 105, 97, 110, 95, 104, 105, 103, 104]⟩⟩ := rfl
theorem sa11 : Str.ofString "cpy313.functools" = ⟨⟨[99, 112, 121, 51, 49, 51, 46, 102, 117, 110, 99, 116, 111, 111, 108, 115]⟩⟩ := rfl
theorem sa12 : Str.ofString "cmp_to_key" = ⟨⟨[99, 109, 112, 95, 116, 111, 95, 107, 101, 121]⟩⟩ := rfl
theorem sa13 : Str.ofString "mycmp" = ⟨⟨[109, 121, 99, 109, 112]⟩⟩ := rfl
theorem sa14 : Str.ofString "K" = ⟨⟨[75]⟩⟩ := rfl
theorem sa15 : Str.ofString "object" = ⟨⟨[111, 98, 106, 101, 99, 116]⟩⟩ := rfl
theorem sa16 : Str.ofString "__module__" = ⟨⟨[95, 95, 109, 111, 100, 117, 108, 101, 95, 95]⟩⟩ := rfl
theorem sa17 : Str.ofString "__slots__" = ⟨⟨[95, 95, 115, 108, 111, 116, 115, 95, 95]⟩⟩ := rfl
theorem sa18 : Str.ofString "obj" = ⟨⟨[111, 98, 106]⟩⟩ := rfl
theorem sa19 : Str.ofString "__init__" = ⟨⟨[95, 95, 105, 110, 105, 116, 95, 95]⟩⟩ := rfl
theorem sa20 : Str.ofString "self" = ⟨⟨[115, 101, 108, 102]⟩⟩ := rfl
theorem sa21 : Str.ofString "__lt__" = ⟨⟨[95, 95, 108, 116, 95, 95]⟩⟩ := rfl
theorem sa22 : Str.ofString "other" = ⟨⟨[111, 116, 104, 101, 114]⟩⟩ := rfl
theorem sa23 : Str.ofString "__gt__" = ⟨⟨[95, 95, 103, 116, 95, 95]⟩⟩ := rfl
theorem sa24 : Str.ofString "__eq__" = ⟨⟨[95, 95, 101, 113, 95, 95]⟩⟩ := rfl
theorem sa25 : Str.ofString "__le__" = ⟨⟨[95, 95, 108, 101, 95, 95]⟩⟩ := rfl
theorem sa26 : Str.ofString "__ge__" = ⟨⟨[95, 95, 103, 101, 95, 95]⟩⟩ := rfl
theorem sa27 : Str.ofString "__hash__" = ⟨⟨[95, 95, 104, 97, 115, 104, 95, 95]⟩⟩ := rfl
theorem sa28 : Str.ofString "_initial_missing" = ⟨⟨[95, 105, 110, 105, 116, 105, 97, 108, 95, 109, 105, 115, 115, 105, 110, 103]⟩⟩ := rfl
theorem sa29 : Str.ofString "reduce" = ⟨⟨[114, 101, 100, 117, 99, 101]⟩⟩ := rfl
theorem sa30 : Str.ofString "function" = ⟨⟨[102, 117, 110, 99, 116, 105, 111, 110]⟩⟩ := rfl
theorem sa31 : Str.ofString "sequence" = ⟨⟨[115, 101, 113, 117, 101, 110, 99, 101]⟩⟩ := rfl
theorem sa32 : Str.ofString "initial" = ⟨⟨[105, 110, 105, 116, 105, 97, 108]⟩⟩ := rfl
theorem sa33 : Str.ofString "it" = ⟨⟨[105, 116]⟩⟩ := rfl
theorem sa34 : Str.ofString "iter" = ⟨⟨[105, 116, 101, 114]⟩⟩ := rfl
theorem sa35 : Str.ofString "value" = ⟨⟨[118, 97, 108, 117, 101]⟩⟩ := rfl
theorem sa36 : Str.ofString "next" = ⟨⟨[110, 101, 120, 116]⟩⟩ := rfl
theorem sa37 : Str.ofString "StopIteration" = ⟨⟨[83, 116, 111, 112, 73, 116, 101, 114, 97, 116, 105, 111, 110]⟩⟩ := rfl
theorem sa38 : Str.ofString "TypeError" = ⟨⟨[84, 121, 112, 101, 69, 114, 114, 111, 114]⟩⟩ := rfl
theorem sa39 : Str.ofString "reduce() of empty iterable with no initial value" = ⟨⟨[114, 101, 100, 117, 99, 101, 40, 41, 32, 111, 102, 32, 101, 109, 112, 116, 121, 32, 105, 116, 101, 114, 97, 98, 108, 101, 32, 119, 105, 116, 104, 32, 110, 111, 32, 105, 110, 105, 116, 105, 97, 108, 32, 118, 97, 108, 117, 101]⟩⟩ := rfl
theorem sa40 : Str.ofString "element" = ⟨⟨[101, 108, 101, 109, 101, 110, 116]⟩⟩ := rfl
theorem sa41 : Str.ofString "cpy313.unittest.util" = ⟨⟨[99, 112, 121, 51, 49, 51, 46, 117, 110, 105, 116, 116, 101, 115, 116, 46, 117, 116, 105, 108]⟩⟩ := rfl
theorem sa42 : Str.ofString "sorted_list_difference" = ⟨⟨[115, 111, 114, 116, 101, 100, 95, 108, 105, 115, 116, 95, 100, 105, 102, 102, 101, 114, 101, 110, 99, 101]⟩⟩ := rfl
theorem sa43 : Str.ofString "expected" = ⟨⟨[101, 120, 112, 101, 99, 116, 101, 100]⟩⟩ := rfl
theorem sa44 : Str.ofString "actual" = ⟨⟨[97, 99, 116, 117, 97, 108]⟩⟩ := rfl
theorem sa45 : Str.ofString "i" = ⟨⟨[105]⟩⟩ := rfl
theorem sa46 : Str.ofString "j" = ⟨⟨[106]⟩⟩ := rfl
theorem sa47 : Str.ofString "missing" = ⟨⟨[109, 105, 115, 115, 105, 110, 103]⟩⟩ := rfl
theorem sa48 : Str.ofString "unexpected" = ⟨⟨[117, 110, 101, 120, 112, 101, 99, 116, 101, 100]⟩⟩ := rfl
theorem sa49 : Str.ofString "e" = ⟨⟨[101]⟩⟩ := rfl
theorem sa50 : Str.ofString "a" = ⟨⟨[97]⟩⟩ := rfl
theorem sa51 : Str.ofString "append" = ⟨⟨[97, 112, 112, 101, 110, 100]⟩⟩ := rfl
theorem sa52 : Str.ofString "IndexError" = ⟨⟨[73, 110, 100, 101, 120, 69, 114, 114, 111, 114]⟩⟩ := rfl
theorem sa53 : Str.ofString "extend" = ⟨⟨[101, 120, 116, 101, 110, 100]⟩⟩ := rfl
theorem sa54 : Str.ofString "three_way_cmp" = ⟨⟨[116, 104, 114, 101, 101, 95, 119, 97, 121, 95, 99, 109, 112]⟩⟩ := rfl
theorem sa55 : Str.ofString "x" = ⟨⟨[120]⟩⟩ := rfl
theorem sa56 : Str.ofString "y" = ⟨⟨[121]⟩⟩ := rfl
theorem sa57 : Str.ofString "law_op0061_01" = ⟨⟨[108, 97, 119, 95, 111, 112, 48, 48, 54, 49, 95, 48, 49]⟩⟩ := rfl
theorem sa58 : Str.ofString "_law_all_are" = ⟨⟨[95, 108, 97, 119, 95, 97, 108, 108, 95, 97, 114, 101]⟩⟩ := rfl
theorem sa59 : Str.ofString "middles" = ⟨⟨[109, 105, 100, 100, 108, 101, 115]⟩⟩ := rfl
theorem sa60 : Str.ofString "twin" = ⟨⟨[116, 119, 105, 110]⟩⟩ := rfl
theorem sa61 : Str.ofString "middle" = ⟨⟨[109, 105, 100, 100, 108, 101]⟩⟩ := rfl
theorem sa62 : Str.ofString "_law_lines" = ⟨⟨[95, 108, 97, 119, 95, 108, 105, 110, 101, 115]⟩⟩ := rfl
theorem sa63 : Str.ofString "keys" = ⟨⟨[107, 101, 121, 115]⟩⟩ := rfl
theorem sa64 : Str.ofString "twins" = ⟨⟨[116, 119, 105, 110, 115]⟩⟩ := rfl
theorem sa65 : Str.ofString "lines" = ⟨⟨[108, 105, 110, 101, 115]⟩⟩ := rfl
theorem sa66 : Str.ofString "list" = ⟨⟨[108, 105, 115, 116]⟩⟩ := rfl
theorem sa67 : Str.ofString "range" = ⟨⟨[114, 97, 110, 103, 101]⟩⟩ := rfl
theorem sa68 : Str.ofString "at" = ⟨⟨[97, 116]⟩⟩ := rfl
theorem sa69 : Str.ofString "line" = ⟨⟨[108, 105, 110, 101]⟩⟩ := rfl
theorem sa70 : Str.ofString "k" = ⟨⟨[107]⟩⟩ := rfl
theorem sa71 : Str.ofString "b" = ⟨⟨[98]⟩⟩ := rfl
theorem sa72 : Str.ofString "c" = ⟨⟨[99]⟩⟩ := rfl
theorem sa73 : Str.ofString "three" = ⟨⟨[116, 104, 114, 101, 101]⟩⟩ := rfl
theorem sa74 : Str.ofString "_law_laid" = ⟨⟨[95, 108, 97, 119, 95, 108, 97, 105, 100]⟩⟩ := rfl
theorem sa75 : Str.ofString "rows" = ⟨⟨[114, 111, 119, 115]⟩⟩ := rfl
theorem sa76 : Str.ofString "thing" = ⟨⟨[116, 104, 105, 110, 103]⟩⟩ := rfl
theorem sa77 : Str.ofString "laid" = ⟨⟨[108, 97, 105, 100]⟩⟩ := rfl
theorem sa78 : Str.ofString "going" = ⟨⟨[103, 111, 105, 110, 103]⟩⟩ := rfl
theorem sa79 : Str.ofString "row" = ⟨⟨[114, 111, 119]⟩⟩ := rfl
theorem sa80 : Str.ofString "now" = ⟨⟨[110, 111, 119]⟩⟩ := rfl
theorem sa81 : Str.ofString "place" = ⟨⟨[112, 108, 97, 99, 101]⟩⟩ := rfl
theorem sa82 : Str.ofString "told" = ⟨⟨[116, 111, 108, 100]⟩⟩ := rfl
theorem sa83 : Str.ofString "_law_hooks" = ⟨⟨[95, 108, 97, 119, 95, 104, 111, 111, 107, 115]⟩⟩ := rfl
theorem sa84 : Str.ofString "sizes" = ⟨⟨[115, 105, 122, 101, 115]⟩⟩ := rfl
theorem sa85 : Str.ofString "product" = ⟨⟨[112, 114, 111, 100, 117, 99, 116]⟩⟩ := rfl
theorem sa86 : Str.ofString "size" = ⟨⟨[115, 105, 122, 101]⟩⟩ := rfl
theorem sa87 : Str.ofString ".0" = ⟨⟨[46, 48]⟩⟩ := rfl
theorem sa88 : Str.ofString "fast" = ⟨⟨[102, 97, 115, 116]⟩⟩ := rfl
theorem sa89 : Str.ofString "_law_longest" = ⟨⟨[95, 108, 97, 119, 95, 108, 111, 110, 103, 101, 115, 116]⟩⟩ := rfl
theorem sa90 : Str.ofString "ranks" = ⟨⟨[114, 97, 110, 107, 115]⟩⟩ := rfl
theorem sa91 : Str.ofString "ends" = ⟨⟨[101, 110, 100, 115]⟩⟩ := rfl
theorem sa92 : Str.ofString "max" = ⟨⟨[109, 97, 120]⟩⟩ := rfl
theorem sa93 : Str.ofString "law" = ⟨⟨[108, 97, 119]⟩⟩ := rfl
theorem sa94 : Str.ofString "script" = ⟨⟨[115, 99, 114, 105, 112, 116]⟩⟩ := rfl
theorem sa95 : Str.ofString "heights" = ⟨⟨[104, 101, 105, 103, 104, 116, 115]⟩⟩ := rfl
theorem sa96 : Str.ofString "sum" = ⟨⟨[115, 117, 109]⟩⟩ := rfl
theorem sa97 : Str.ofString "bounded" = ⟨⟨[98, 111, 117, 110, 100, 101, 100]⟩⟩ := rfl
theorem sa98 : Str.ofString "min" = ⟨⟨[109, 105, 110]⟩⟩ := rfl
theorem sa99 : Str.ofString "key" = ⟨⟨[107, 101, 121]⟩⟩ := rfl
theorem sa100 : Str.ofString "tables" = ⟨⟨[116, 97, 98, 108, 101, 115]⟩⟩ := rfl
theorem sa101 : Str.ofString "table" = ⟨⟨[116, 97, 98, 108, 101]⟩⟩ := rfl
theorem sa102 : Str.ofString "signs" = ⟨⟨[115, 105, 103, 110, 115]⟩⟩ := rfl
theorem sa103 : Str.ofString "sign" = ⟨⟨[115, 105, 103, 110]⟩⟩ := rfl
theorem sa104 : Str.ofString "type" = ⟨⟨[116, 121, 112, 101]⟩⟩ := rfl
theorem sa105 : Str.ofString "int" = ⟨⟨[105, 110, 116]⟩⟩ := rfl
theorem sa106 : Str.ofString "rank" = ⟨⟨[114, 97, 110, 107]⟩⟩ := rfl
theorem sa107 : Str.ofString "/claim/cut.py" = ⟨⟨[47, 99, 108, 97, 105, 109, 47, 99, 117, 116, 46, 112, 121]⟩⟩ := rfl
noncomputable def pickL {α : Type} (a x : α) (_ : a = x) : α := x
noncomputable def nthS : List Stmt → Nat → Stmt
  | a :: _, 0 => a
  | _ :: l, n + 1 => nthS l n
  | [], _ => default
noncomputable def dP : Stmt → Arguments
  | .FunctionDef _ a _ _ _ _ _ _ _ _ => a
  | _ => default
noncomputable def dB : Stmt → List Stmt
  | .FunctionDef _ _ b _ _ _ _ _ _ _ => b
  | _ => []
noncomputable def dS : Stmt → Scope
  | .FunctionDef _ _ _ _ _ _ s _ _ _ => s
  | _ => default
noncomputable def fnHx (n m : Str) (t : Nat) (d : Value) (c : Addr) (s : Stmt) : Obj :=
  ⟨.type SZ.s7174869446012820540x8, none, .func ⟨n, n, dP s, .stmts (dB s), dS s, 3, [], d, .none, .none, .str m t, none, .ref c, .none, 0⟩, #[]⟩
noncomputable def cdHx (n : Str) (t l a x : Nat) (y z u : Value) (r : Nat) (c : Nat) (v : Nat) : Obj :=
  ⟨.type SZ.s5856160107412720595x4, none, .fields #[.str n t, .str n (t + 1), .str ⟨⟨[47, 99, 108, 97, 105, 109, 47, 99, 117, 116, 46, 112, 121]⟩⟩ (t + 2), .int l 0, .int a 0, .int 0 0, .int 0 0, .int 3 0, .ref x, .bool true, .int 181 0, .ref (x + 1), .none, y, z, u, .int r 0, .int l 0, .str ⟨⟨[47, 99, 108, 97, 105, 109, 47, 99, 117, 116, 46, 112, 121]⟩⟩ c], #[]⟩
noncomputable def hz.zo_39 : Params → Obj := boot_o_0
noncomputable def sl2 : Stmt := pickL (nthS Challenge.pw_op0061_01.main.body 2) _ (by dsimp only [nthS, Challenge.pw_op0061_01, sa0, sa1, sa2, sa3, sa4, sa5, sa6, sa7, sa8, sa9, sa10, sa11, sa12, sa13, sa14, sa15, sa16, sa17, sa18, sa19, sa20, sa21, sa22, sa23, sa24, sa25, sa26, sa27, sa28, sa29, sa30, sa31, sa32, sa33, sa34, sa35, sa36, sa37, sa38, sa39, sa40, sa41, sa42, sa43, sa44, sa45, sa46, sa47, sa48, sa49, sa50, sa51, sa52, sa53, sa54, sa55, sa56, sa57, sa58, sa59, sa60, sa61, sa62, sa63, sa64, sa65, sa66, sa67, sa68, sa69, sa70, sa71, sa72, sa73, sa74, sa75, sa76, sa77, sa78, sa79, sa80, sa81, sa82, sa83, sa84, sa85, sa86, sa87, sa88, sa89, sa90, sa91, sa92, sa93, sa94, sa95, sa96, sa97, sa98, sa99, sa100, sa101, sa102, sa103, sa104, sa105, sa106, sa107])
noncomputable def sl3 : Stmt := pickL (nthS Challenge.pw_op0061_01.main.body 3) _ (by dsimp only [nthS, Challenge.pw_op0061_01, sa0, sa1, sa2, sa3, sa4, sa5, sa6, sa7, sa8, sa9, sa10, sa11, sa12, sa13, sa14, sa15, sa16, sa17, sa18, sa19, sa20, sa21, sa22, sa23, sa24, sa25, sa26, sa27, sa28, sa29, sa30, sa31, sa32, sa33, sa34, sa35, sa36, sa37, sa38, sa39, sa40, sa41, sa42, sa43, sa44, sa45, sa46, sa47, sa48, sa49, sa50, sa51, sa52, sa53, sa54, sa55, sa56, sa57, sa58, sa59, sa60, sa61, sa62, sa63, sa64, sa65, sa66, sa67, sa68, sa69, sa70, sa71, sa72, sa73, sa74, sa75, sa76, sa77, sa78, sa79, sa80, sa81, sa82, sa83, sa84, sa85, sa86, sa87, sa88, sa89, sa90, sa91, sa92, sa93, sa94, sa95, sa96, sa97, sa98, sa99, sa100, sa101, sa102, sa103, sa104, sa105, sa106, sa107])
noncomputable def sl5 : Stmt := pickL (nthS Challenge.pw_op0061_01.main.body 5) _ (by dsimp only [nthS, Challenge.pw_op0061_01, sa0, sa1, sa2, sa3, sa4, sa5, sa6, sa7, sa8, sa9, sa10, sa11, sa12, sa13, sa14, sa15, sa16, sa17, sa18, sa19, sa20, sa21, sa22, sa23, sa24, sa25, sa26, sa27, sa28, sa29, sa30, sa31, sa32, sa33, sa34, sa35, sa36, sa37, sa38, sa39, sa40, sa41, sa42, sa43, sa44, sa45, sa46, sa47, sa48, sa49, sa50, sa51, sa52, sa53, sa54, sa55, sa56, sa57, sa58, sa59, sa60, sa61, sa62, sa63, sa64, sa65, sa66, sa67, sa68, sa69, sa70, sa71, sa72, sa73, sa74, sa75, sa76, sa77, sa78, sa79, sa80, sa81, sa82, sa83, sa84, sa85, sa86, sa87, sa88, sa89, sa90, sa91, sa92, sa93, sa94, sa95, sa96, sa97, sa98, sa99, sa100, sa101, sa102, sa103, sa104, sa105, sa106, sa107])
noncomputable def sl7 : Stmt := pickL (nthS Challenge.pw_op0061_01.main.body 7) _ (by dsimp only [nthS, Challenge.pw_op0061_01, sa0, sa1, sa2, sa3, sa4, sa5, sa6, sa7, sa8, sa9, sa10, sa11, sa12, sa13, sa14, sa15, sa16, sa17, sa18, sa19, sa20, sa21, sa22, sa23, sa24, sa25, sa26, sa27, sa28, sa29, sa30, sa31, sa32, sa33, sa34, sa35, sa36, sa37, sa38, sa39, sa40, sa41, sa42, sa43, sa44, sa45, sa46, sa47, sa48, sa49, sa50, sa51, sa52, sa53, sa54, sa55, sa56, sa57, sa58, sa59, sa60, sa61, sa62, sa63, sa64, sa65, sa66, sa67, sa68, sa69, sa70, sa71, sa72, sa73, sa74, sa75, sa76, sa77, sa78, sa79, sa80, sa81, sa82, sa83, sa84, sa85, sa86, sa87, sa88, sa89, sa90, sa91, sa92, sa93, sa94, sa95, sa96, sa97, sa98, sa99, sa100, sa101, sa102, sa103, sa104, sa105, sa106, sa107])
noncomputable def sl9 : Stmt := pickL (nthS Challenge.pw_op0061_01.main.body 9) _ (by dsimp only [nthS, Challenge.pw_op0061_01, sa0, sa1, sa2, sa3, sa4, sa5, sa6, sa7, sa8, sa9, sa10, sa11, sa12, sa13, sa14, sa15, sa16, sa17, sa18, sa19, sa20, sa21, sa22, sa23, sa24, sa25, sa26, sa27, sa28, sa29, sa30, sa31, sa32, sa33, sa34, sa35, sa36, sa37, sa38, sa39, sa40, sa41, sa42, sa43, sa44, sa45, sa46, sa47, sa48, sa49, sa50, sa51, sa52, sa53, sa54, sa55, sa56, sa57, sa58, sa59, sa60, sa61, sa62, sa63, sa64, sa65, sa66, sa67, sa68, sa69, sa70, sa71, sa72, sa73, sa74, sa75, sa76, sa77, sa78, sa79, sa80, sa81, sa82, sa83, sa84, sa85, sa86, sa87, sa88, sa89, sa90, sa91, sa92, sa93, sa94, sa95, sa96, sa97, sa98, sa99, sa100, sa101, sa102, sa103, sa104, sa105, sa106, sa107])
noncomputable def sl10 : Stmt := pickL (nthS Challenge.pw_op0061_01.main.body 10) _ (by dsimp only [nthS, Challenge.pw_op0061_01, sa0, sa1, sa2, sa3, sa4, sa5, sa6, sa7, sa8, sa9, sa10, sa11, sa12, sa13, sa14, sa15, sa16, sa17, sa18, sa19, sa20, sa21, sa22, sa23, sa24, sa25, sa26, sa27, sa28, sa29, sa30, sa31, sa32, sa33, sa34, sa35, sa36, sa37, sa38, sa39, sa40, sa41, sa42, sa43, sa44, sa45, sa46, sa47, sa48, sa49, sa50, sa51, sa52, sa53, sa54, sa55, sa56, sa57, sa58, sa59, sa60, sa61, sa62, sa63, sa64, sa65, sa66, sa67, sa68, sa69, sa70, sa71, sa72, sa73, sa74, sa75, sa76, sa77, sa78, sa79, sa80, sa81, sa82, sa83, sa84, sa85, sa86, sa87, sa88, sa89, sa90, sa91, sa92, sa93, sa94, sa95, sa96, sa97, sa98, sa99, sa100, sa101, sa102, sa103, sa104, sa105, sa106, sa107])
noncomputable def sl12 : Stmt := pickL (nthS Challenge.pw_op0061_01.main.body 12) _ (by dsimp only [nthS, Challenge.pw_op0061_01, sa0, sa1, sa2, sa3, sa4, sa5, sa6, sa7, sa8, sa9, sa10, sa11, sa12, sa13, sa14, sa15, sa16, sa17, sa18, sa19, sa20, sa21, sa22, sa23, sa24, sa25, sa26, sa27, sa28, sa29, sa30, sa31, sa32, sa33, sa34, sa35, sa36, sa37, sa38, sa39, sa40, sa41, sa42, sa43, sa44, sa45, sa46, sa47, sa48, sa49, sa50, sa51, sa52, sa53, sa54, sa55, sa56, sa57, sa58, sa59, sa60, sa61, sa62, sa63, sa64, sa65, sa66, sa67, sa68, sa69, sa70, sa71, sa72, sa73, sa74, sa75, sa76, sa77, sa78, sa79, sa80, sa81, sa82, sa83, sa84, sa85, sa86, sa87, sa88, sa89, sa90, sa91, sa92, sa93, sa94, sa95, sa96, sa97, sa98, sa99, sa100, sa101, sa102, sa103, sa104, sa105, sa106, sa107])
noncomputable def sl13 : Stmt := pickL (nthS Challenge.pw_op0061_01.main.body 13) _ (by dsimp only [nthS, Challenge.pw_op0061_01, sa0, sa1, sa2, sa3, sa4, sa5, sa6, sa7, sa8, sa9, sa10, sa11, sa12, sa13, sa14, sa15, sa16, sa17, sa18, sa19, sa20, sa21, sa22, sa23, sa24, sa25, sa26, sa27, sa28, sa29, sa30, sa31, sa32, sa33, sa34, sa35, sa36, sa37, sa38, sa39, sa40, sa41, sa42, sa43, sa44, sa45, sa46, sa47, sa48, sa49, sa50, sa51, sa52, sa53, sa54, sa55, sa56, sa57, sa58, sa59, sa60, sa61, sa62, sa63, sa64, sa65, sa66, sa67, sa68, sa69, sa70, sa71, sa72, sa73, sa74, sa75, sa76, sa77, sa78, sa79, sa80, sa81, sa82, sa83, sa84, sa85, sa86, sa87, sa88, sa89, sa90, sa91, sa92, sa93, sa94, sa95, sa96, sa97, sa98, sa99, sa100, sa101, sa102, sa103, sa104, sa105, sa106, sa107])
noncomputable def sl14 : Stmt := pickL (nthS Challenge.pw_op0061_01.main.body 14) _ (by dsimp only [nthS, Challenge.pw_op0061_01, sa0, sa1, sa2, sa3, sa4, sa5, sa6, sa7, sa8, sa9, sa10, sa11, sa12, sa13, sa14, sa15, sa16, sa17, sa18, sa19, sa20, sa21, sa22, sa23, sa24, sa25, sa26, sa27, sa28, sa29, sa30, sa31, sa32, sa33, sa34, sa35, sa36, sa37, sa38, sa39, sa40, sa41, sa42, sa43, sa44, sa45, sa46, sa47, sa48, sa49, sa50, sa51, sa52, sa53, sa54, sa55, sa56, sa57, sa58, sa59, sa60, sa61, sa62, sa63, sa64, sa65, sa66, sa67, sa68, sa69, sa70, sa71, sa72, sa73, sa74, sa75, sa76, sa77, sa78, sa79, sa80, sa81, sa82, sa83, sa84, sa85, sa86, sa87, sa88, sa89, sa90, sa91, sa92, sa93, sa94, sa95, sa96, sa97, sa98, sa99, sa100, sa101, sa102, sa103, sa104, sa105, sa106, sa107])
noncomputable def sl15 : Stmt := pickL (nthS Challenge.pw_op0061_01.main.body 15) _ (by dsimp only [nthS, Challenge.pw_op0061_01, sa0, sa1, sa2, sa3, sa4, sa5, sa6, sa7, sa8, sa9, sa10, sa11, sa12, sa13, sa14, sa15, sa16, sa17, sa18, sa19, sa20, sa21, sa22, sa23, sa24, sa25, sa26, sa27, sa28, sa29, sa30, sa31, sa32, sa33, sa34, sa35, sa36, sa37, sa38, sa39, sa40, sa41, sa42, sa43, sa44, sa45, sa46, sa47, sa48, sa49, sa50, sa51, sa52, sa53, sa54, sa55, sa56, sa57, sa58, sa59, sa60, sa61, sa62, sa63, sa64, sa65, sa66, sa67, sa68, sa69, sa70, sa71, sa72, sa73, sa74, sa75, sa76, sa77, sa78, sa79, sa80, sa81, sa82, sa83, sa84, sa85, sa86, sa87, sa88, sa89, sa90, sa91, sa92, sa93, sa94, sa95, sa96, sa97, sa98, sa99, sa100, sa101, sa102, sa103, sa104, sa105, sa106, sa107])
noncomputable def sl16 : Stmt := pickL (nthS Challenge.pw_op0061_01.main.body 16) _ (by dsimp only [nthS, Challenge.pw_op0061_01, sa0, sa1, sa2, sa3, sa4, sa5, sa6, sa7, sa8, sa9, sa10, sa11, sa12, sa13, sa14, sa15, sa16, sa17, sa18, sa19, sa20, sa21, sa22, sa23, sa24, sa25, sa26, sa27, sa28, sa29, sa30, sa31, sa32, sa33, sa34, sa35, sa36, sa37, sa38, sa39, sa40, sa41, sa42, sa43, sa44, sa45, sa46, sa47, sa48, sa49, sa50, sa51, sa52, sa53, sa54, sa55, sa56, sa57, sa58, sa59, sa60, sa61, sa62, sa63, sa64, sa65, sa66, sa67, sa68, sa69, sa70, sa71, sa72, sa73, sa74, sa75, sa76, sa77, sa78, sa79, sa80, sa81, sa82, sa83, sa84, sa85, sa86, sa87, sa88, sa89, sa90, sa91, sa92, sa93, sa94, sa95, sa96, sa97, sa98, sa99, sa100, sa101, sa102, sa103, sa104, sa105, sa106, sa107])
noncomputable def sl17 : Stmt := pickL (nthS Challenge.pw_op0061_01.main.body 17) _ (by dsimp only [nthS, Challenge.pw_op0061_01, sa0, sa1, sa2, sa3, sa4, sa5, sa6, sa7, sa8, sa9, sa10, sa11, sa12, sa13, sa14, sa15, sa16, sa17, sa18, sa19, sa20, sa21, sa22, sa23, sa24, sa25, sa26, sa27, sa28, sa29, sa30, sa31, sa32, sa33, sa34, sa35, sa36, sa37, sa38, sa39, sa40, sa41, sa42, sa43, sa44, sa45, sa46, sa47, sa48, sa49, sa50, sa51, sa52, sa53, sa54, sa55, sa56, sa57, sa58, sa59, sa60, sa61, sa62, sa63, sa64, sa65, sa66, sa67, sa68, sa69, sa70, sa71, sa72, sa73, sa74, sa75, sa76, sa77, sa78, sa79, sa80, sa81, sa82, sa83, sa84, sa85, sa86, sa87, sa88, sa89, sa90, sa91, sa92, sa93, sa94, sa95, sa96, sa97, sa98, sa99, sa100, sa101, sa102, sa103, sa104, sa105, sa106, sa107])
noncomputable def hz.zo_41 (P : Params) : Obj := (Obj.mk Value.none none (Data.dict (List.toArray []) 0) (List.toArray []))
noncomputable def hz.zo_42 (P : Params) : Obj := (Obj.mk (Value.type SZ.s14018661285674007319x4) none (Data.dict (List.toArray [(DictEntry.mk (PyData.keyHash P ⟨⟨[95, 95, 110, 97, 109, 101, 95, 95]⟩⟩) (Value.str ⟨⟨[95, 95, 110, 97, 109, 101, 95, 95]⟩⟩ 165) (Value.str ⟨⟨[108, 97, 119, 95, 111, 112, 48, 48, 54, 49, 95, 48, 49]⟩⟩ 271)), (DictEntry.mk (PyData.keyHash P ⟨⟨[95, 95, 100, 111, 99, 95, 95]⟩⟩) (Value.str ⟨⟨[95, 95, 100, 111, 99, 95, 95]⟩⟩ 166) Value.none), (DictEntry.mk (PyData.keyHash P ⟨⟨[95, 95, 112, 97, 99, 107, 97, 103, 101, 95, 95]⟩⟩) (Value.str ⟨⟨[95, 95, 112, 97, 99, 107, 97, 103, 101, 95, 95]⟩⟩ 167) Value.none), (DictEntry.mk (PyData.keyHash P ⟨⟨[95, 95, 108, 111, 97, 100, 101, 114, 95, 95]⟩⟩) (Value.str ⟨⟨[95, 95, 108, 111, 97, 100, 101, 114, 95, 95]⟩⟩ 168) (Value.builtin SZ.s7097527257260152453x26)), (DictEntry.mk (PyData.keyHash P ⟨⟨[95, 95, 115, 112, 101, 99, 95, 95]⟩⟩) (Value.str ⟨⟨[95, 95, 115, 112, 101, 99, 95, 95]⟩⟩ 169) Value.none), (DictEntry.mk (PyData.keyHash P ⟨⟨[95, 95, 97, 110, 110, 111, 116, 97, 116, 105, 111, 110, 115, 95, 95]⟩⟩) (Value.str ⟨⟨[95, 95, 97, 110, 110, 111, 116, 97, 116, 105, 111, 110, 115, 95, 95]⟩⟩ 170) (Value.ref 6)), (DictEntry.mk (PyData.keyHash P ⟨⟨[95, 95, 98, 117, 105, 108, 116, 105, 110, 115, 95, 95]⟩⟩) (Value.str ⟨⟨[95, 95, 98, 117, 105, 108, 116, 105, 110, 115, 95, 95]⟩⟩ 171) (Value.ref 4)), (DictEntry.mk (PyData.keyHash P ⟨⟨[95, 95, 102, 105, 108, 101, 95, 95]⟩⟩) (Value.str ⟨⟨[95, 95, 102, 105, 108, 101, 95, 95]⟩⟩ 173) (Value.str ⟨⟨[47, 99, 108, 97, 105, 109, 47, 99, 117, 116, 46, 112, 121]⟩⟩ 172)), (DictEntry.mk (PyData.keyHash P ⟨⟨[95, 95, 99, 97, 99, 104, 101, 100, 95, 95]⟩⟩) (Value.str ⟨⟨[95, 95, 99, 97, 99, 104, 101, 100, 95, 95]⟩⟩ 174) Value.none), (DictEntry.mk (PyData.keyHash P ⟨⟨[83, 116, 97, 116, 105, 115, 116, 105, 99, 115, 69, 114, 114, 111, 114]⟩⟩) (Value.str ⟨⟨[83, 116, 97, 116, 105, 115, 116, 105, 99, 115, 69, 114, 114, 111, 114]⟩⟩ 206) (Value.ref 24)), (DictEntry.mk (PyData.keyHash P ⟨⟨[109, 101, 100, 105, 97, 110, 95, 108, 111, 119]⟩⟩) (Value.str ⟨⟨[109, 101, 100, 105, 97, 110, 95, 108, 111, 119]⟩⟩ 214) (Value.ref 34)), (DictEntry.mk (PyData.keyHash P ⟨⟨[109, 101, 100, 105, 97, 110, 95, 104, 105, 103, 104]⟩⟩) (Value.str ⟨⟨[109, 101, 100, 105, 97, 110, 95, 104, 105, 103, 104]⟩⟩ 222) (Value.ref 41)), (DictEntry.mk (PyData.keyHash P ⟨⟨[99, 109, 112, 95, 116, 111, 95, 107, 101, 121]⟩⟩) (Value.str ⟨⟨[99, 109, 112, 95, 116, 111, 95, 107, 101, 121]⟩⟩ 233) (Value.ref 48)), (DictEntry.mk (PyData.keyHash P ⟨⟨[95, 105, 110, 105, 116, 105, 97, 108, 95, 109, 105, 115, 115, 105, 110, 103]⟩⟩) (Value.str ⟨⟨[95, 105, 110, 105, 116, 105, 97, 108, 95, 109, 105, 115, 115, 105, 110, 103]⟩⟩ 234) (Value.ref 49)), (DictEntry.mk (PyData.keyHash P ⟨⟨[114, 101, 100, 117, 99, 101]⟩⟩) (Value.str ⟨⟨[114, 101, 100, 117, 99, 101]⟩⟩ 246) (Value.ref 57)), (DictEntry.mk (PyData.keyHash P ⟨⟨[115, 111, 114, 116, 101, 100, 95, 108, 105, 115, 116, 95, 100, 105, 102, 102, 101, 114, 101, 110, 99, 101]⟩⟩) (Value.str ⟨⟨[115, 111, 114, 116, 101, 100, 95, 108, 105, 115, 116, 95, 100, 105, 102, 102, 101, 114, 101, 110, 99, 101]⟩⟩ 262) (Value.ref 64)), (DictEntry.mk (PyData.keyHash P ⟨⟨[116, 104, 114, 101, 101, 95, 119, 97, 121, 95, 99, 109, 112]⟩⟩) (Value.str ⟨⟨[116, 104, 114, 101, 101, 95, 119, 97, 121, 95, 99, 109, 112]⟩⟩ 270) (Value.ref 71)), (DictEntry.mk (PyData.keyHash P ⟨⟨[95, 108, 97, 119, 95, 97, 108, 108, 95, 97, 114, 101]⟩⟩) (Value.str ⟨⟨[95, 108, 97, 119, 95, 97, 108, 108, 95, 97, 114, 101]⟩⟩ 281) (Value.ref 78)), (DictEntry.mk (PyData.keyHash P ⟨⟨[95, 108, 97, 119, 95, 108, 105, 110, 101, 115]⟩⟩) (Value.str ⟨⟨[95, 108, 97, 119, 95, 108, 105, 110, 101, 115]⟩⟩ 300) (Value.ref 85)), (DictEntry.mk (PyData.keyHash P ⟨⟨[95, 108, 97, 119, 95, 108, 97, 105, 100]⟩⟩) (Value.str ⟨⟨[95, 108, 97, 119, 95, 108, 97, 105, 100]⟩⟩ 314) (Value.ref 92)), (DictEntry.mk (PyData.keyHash P ⟨⟨[95, 108, 97, 119, 95, 104, 111, 111, 107, 115]⟩⟩) (Value.str ⟨⟨[95, 108, 97, 119, 95, 104, 111, 111, 107, 115]⟩⟩ 320) (Value.ref 97)), (DictEntry.mk (PyData.keyHash P ⟨⟨[95, 108, 97, 119, 95, 108, 111, 110, 103, 101, 115, 116]⟩⟩) (Value.str ⟨⟨[95, 108, 97, 119, 95, 108, 111, 110, 103, 101, 115, 116]⟩⟩ 326) (Value.ref 102)), (DictEntry.mk (PyData.keyHash P ⟨⟨[108, 97, 119]⟩⟩) (Value.str ⟨⟨[108, 97, 119]⟩⟩ 332) (Value.ref 107))]) 23) (List.toArray []))
noncomputable def hz.zo_43 (P : Params) : Obj := (Obj.mk (Value.type SZ.s6658869562736209489x6) (some 0) Data.plain (List.toArray []))
noncomputable def hz.zo_64 (P : Params) : Obj := cdHx ⟨⟨[109, 101, 100, 105, 97, 110, 95, 108, 111, 119]⟩⟩ 207 4 1 28 (Value.ref 30) (Value.ref 31) (Value.ref 32) 212 213 0
noncomputable def hz.zo_65 (P : Params) : Obj := fnHx ⟨⟨[109, 101, 100, 105, 97, 110, 95, 108, 111, 119]⟩⟩ ⟨⟨[99, 112, 121, 51, 49, 51, 46, 115, 116, 97, 116, 105, 115, 116, 105, 99, 115]⟩⟩ 187 Value.none 33 sl2
noncomputable def hz.zo_71 (P : Params) : Obj := cdHx ⟨⟨[109, 101, 100, 105, 97, 110, 95, 104, 105, 103, 104]⟩⟩ 215 13 1 35 (Value.ref 37) (Value.ref 38) (Value.ref 39) 220 221 0
noncomputable def hz.zo_72 (P : Params) : Obj := fnHx ⟨⟨[109, 101, 100, 105, 97, 110, 95, 104, 105, 103, 104]⟩⟩ ⟨⟨[99, 112, 121, 51, 49, 51, 46, 115, 116, 97, 116, 105, 115, 116, 105, 99, 115]⟩⟩ 187 Value.none 40 sl3
noncomputable def hz.zo_74 (P : Params) : Obj := (Obj.mk Value.none none (Data.fields (List.toArray [])) (List.toArray []))
noncomputable def hz.zo_78 (P : Params) : Obj := cdHx ⟨⟨[99, 109, 112, 95, 116, 111, 95, 107, 101, 121]⟩⟩ 225 20 1 42 (Value.ref 44) (Value.ref 45) (Value.ref 46) 231 232 0
noncomputable def hz.zo_79 (P : Params) : Obj := fnHx ⟨⟨[99, 109, 112, 95, 116, 111, 95, 107, 101, 121]⟩⟩ ⟨⟨[99, 112, 121, 51, 49, 51, 46, 102, 117, 110, 99, 116, 111, 111, 108, 115]⟩⟩ 223 Value.none 47 sl5
noncomputable def hz.zo_80 (P : Params) : Obj := (Obj.mk (Value.type SZ.s2742458400755230247x6) none Data.plain (List.toArray []))
noncomputable def hz.zo_81 (P : Params) : Obj := (Obj.mk (Value.type SZ.s2766695959194262286x5) none (Data.seq (List.toArray [(Value.ref 49)]) 0) (List.toArray []))
noncomputable def hz.zo_87 (P : Params) : Obj := cdHx ⟨⟨[114, 101, 100, 117, 99, 101]⟩⟩ 235 46 3 51 (Value.ref 53) (Value.ref 54) (Value.ref 55) 244 245 0
noncomputable def hz.zo_88 (P : Params) : Obj := fnHx ⟨⟨[114, 101, 100, 117, 99, 101]⟩⟩ ⟨⟨[99, 112, 121, 51, 49, 51, 46, 102, 117, 110, 99, 116, 111, 111, 108, 115]⟩⟩ 223 (Value.ref 50) 56 sl7
noncomputable def hz.zo_94 (P : Params) : Obj := cdHx ⟨⟨[115, 111, 114, 116, 101, 100, 95, 108, 105, 115, 116, 95, 100, 105, 102, 102, 101, 114, 101, 110, 99, 101]⟩⟩ 249 59 2 58 (Value.ref 60) (Value.ref 61) (Value.ref 62) 260 261 0
noncomputable def hz.zo_95 (P : Params) : Obj := fnHx ⟨⟨[115, 111, 114, 116, 101, 100, 95, 108, 105, 115, 116, 95, 100, 105, 102, 102, 101, 114, 101, 110, 99, 101]⟩⟩ ⟨⟨[99, 112, 121, 51, 49, 51, 46, 117, 110, 105, 116, 116, 101, 115, 116, 46, 117, 116, 105, 108]⟩⟩ 247 Value.none 63 sl9
noncomputable def hz.zo_101 (P : Params) : Obj := cdHx ⟨⟨[116, 104, 114, 101, 101, 95, 119, 97, 121, 95, 99, 109, 112]⟩⟩ 263 91 2 65 (Value.ref 67) (Value.ref 68) (Value.ref 69) 268 269 0
noncomputable def hz.zo_102 (P : Params) : Obj := fnHx ⟨⟨[116, 104, 114, 101, 101, 95, 119, 97, 121, 95, 99, 109, 112]⟩⟩ ⟨⟨[99, 112, 121, 51, 49, 51, 46, 117, 110, 105, 116, 116, 101, 115, 116, 46, 117, 116, 105, 108]⟩⟩ 247 Value.none 70 sl10
noncomputable def hz.zo_108 (P : Params) : Obj := cdHx ⟨⟨[95, 108, 97, 119, 95, 97, 108, 108, 95, 97, 114, 101]⟩⟩ 273 94 2 72 (Value.ref 74) (Value.ref 75) (Value.ref 76) 279 280 0
noncomputable def hz.zo_109 (P : Params) : Obj := fnHx ⟨⟨[95, 108, 97, 119, 95, 97, 108, 108, 95, 97, 114, 101]⟩⟩ ⟨⟨[108, 97, 119, 95, 111, 112, 48, 48, 54, 49, 95, 48, 49]⟩⟩ 271 Value.none 77 sl12
noncomputable def hz.zo_115 (P : Params) : Obj := cdHx ⟨⟨[95, 108, 97, 119, 95, 108, 105, 110, 101, 115]⟩⟩ 282 99 3 79 (Value.ref 81) (Value.ref 82) (Value.ref 83) 298 299 0
noncomputable def hz.zo_116 (P : Params) : Obj := fnHx ⟨⟨[95, 108, 97, 119, 95, 108, 105, 110, 101, 115]⟩⟩ ⟨⟨[108, 97, 119, 95, 111, 112, 48, 48, 54, 49, 95, 48, 49]⟩⟩ 271 Value.none 84 sl13
noncomputable def hz.zo_122 (P : Params) : Obj := cdHx ⟨⟨[95, 108, 97, 119, 95, 108, 97, 105, 100]⟩⟩ 301 117 2 86 (Value.ref 88) (Value.ref 89) (Value.ref 90) 312 313 0
noncomputable def hz.zo_123 (P : Params) : Obj := fnHx ⟨⟨[95, 108, 97, 119, 95, 108, 97, 105, 100]⟩⟩ ⟨⟨[108, 97, 119, 95, 111, 112, 48, 48, 54, 49, 95, 48, 49]⟩⟩ 271 Value.none 91 sl14
noncomputable def hz.zo_127 (P : Params) : Obj := cdHx ⟨⟨[95, 108, 97, 119, 95, 104, 111, 111, 107, 115]⟩⟩ 315 135 1 93 Value.none Value.none (Value.ref 95) 318 319 0
noncomputable def hz.zo_128 (P : Params) : Obj := fnHx ⟨⟨[95, 108, 97, 119, 95, 104, 111, 111, 107, 115]⟩⟩ ⟨⟨[108, 97, 119, 95, 111, 112, 48, 48, 54, 49, 95, 48, 49]⟩⟩ 271 Value.none 96 sl15
noncomputable def hz.zo_132 (P : Params) : Obj := cdHx ⟨⟨[95, 108, 97, 119, 95, 108, 111, 110, 103, 101, 115, 116]⟩⟩ 321 141 1 98 Value.none Value.none (Value.ref 100) 324 325 0
noncomputable def hz.zo_133 (P : Params) : Obj := fnHx ⟨⟨[95, 108, 97, 119, 95, 108, 111, 110, 103, 101, 115, 116]⟩⟩ ⟨⟨[108, 97, 119, 95, 111, 112, 48, 48, 54, 49, 95, 48, 49]⟩⟩ 271 Value.none 101 sl16
noncomputable def hz.zo_135 (P : Params) : Obj := (Obj.mk Value.none none (Data.fields (List.toArray [])) (List.toArray []))
noncomputable def hz.zo_137 (P : Params) : Obj := cdHx ⟨⟨[108, 97, 119]⟩⟩ 327 146 1 103 Value.none Value.none (Value.ref 105) 330 331 0
noncomputable def hz.zo_138 (P : Params) : Obj := fnHx ⟨⟨[108, 97, 119]⟩⟩ ⟨⟨[108, 97, 119, 95, 111, 112, 48, 48, 54, 49, 95, 48, 49]⟩⟩ 271 Value.none 106 sl17
noncomputable def hz.heap_138 (P : Params) : Frag := [(0, hz.zo_39 P), (2, hz.zo_41 P), (3, hz.zo_42 P), (4, hz.zo_43 P), (33, hz.zo_64 P), (34, hz.zo_65 P), (40, hz.zo_71 P), (41, hz.zo_72 P), (43, hz.zo_74 P), (47, hz.zo_78 P), (48, hz.zo_79 P), (49, hz.zo_80 P), (50, hz.zo_81 P), (56, hz.zo_87 P), (57, hz.zo_88 P), (63, hz.zo_94 P), (64, hz.zo_95 P), (70, hz.zo_101 P), (71, hz.zo_102 P), (77, hz.zo_108 P), (78, hz.zo_109 P), (84, hz.zo_115 P), (85, hz.zo_116 P), (91, hz.zo_122 P), (92, hz.zo_123 P), (96, hz.zo_127 P), (97, hz.zo_128 P), (101, hz.zo_132 P), (102, hz.zo_133 P), (104, hz.zo_135 P), (106, hz.zo_137 P), (107, hz.zo_138 P)]
noncomputable def viewP : Program := { Challenge.pw_op0061_01 with main := { Challenge.pw_op0061_01.main with body := [nthS Challenge.pw_op0061_01.main.body 1, nthS Challenge.pw_op0061_01.main.body 2, nthS Challenge.pw_op0061_01.main.body 3, nthS Challenge.pw_op0061_01.main.body 5, nthS Challenge.pw_op0061_01.main.body 6, nthS Challenge.pw_op0061_01.main.body 9, nthS Challenge.pw_op0061_01.main.body 10, nthS Challenge.pw_op0061_01.main.body 12, nthS Challenge.pw_op0061_01.main.body 13, nthS Challenge.pw_op0061_01.main.body 14, nthS Challenge.pw_op0061_01.main.body 15, nthS Challenge.pw_op0061_01.main.body 16, nthS Challenge.pw_op0061_01.main.body 17] } }
end Mine
end
section
namespace Mine
open PySem PySem.W PySem.W.X PyProof.Rows
/-- the written part without the law's own code table -/
noncomputable def K2 (P : Params) : Frag := (hz.heap_138 P).filter fun p => p.1 != 104
noncomputable def K0 (P : Params) : Frag := (hz.heap_138 P).filter fun p => p.1 != 43 && p.1 != 104
theorem K2_eq (P : Params) : K2 P = (hz.heap_138 P).filter (fun p => p.1 != 104) := rfl
theorem lookup_filter {g : Nat → Bool} {a : Addr} {o : Obj} : ∀ {l : Frag}, (l.filter fun p => g p.1).lookup a = some o → g a = true ∧ l.lookup a = some o
  | [], h => by cases h
  | (b, x) :: l, h => by
    rw [List.filter_cons] at h
    split at h
    · rename_i hg
      rw [List.lookup_cons] at h ⊢
      cases e : a == b with
      | true =>
        rw [e] at h
        have e' : a = b := by simpa using e
        exact ⟨e' ▸ hg, h⟩
      | false => rw [e] at h; exact lookup_filter h
    · rename_i hg
      have z := lookup_filter h
      refine ⟨z.1, ?_⟩
      rw [List.lookup_cons]
      cases e : a == b with
      | true =>
        have e' : a = b := by simpa using e
        exact absurd (e' ▸ z.1) hg
      | false => exact z.2
end Mine
end
section
namespace Mine
open PySem PySem.W PySem.Calls PyProof.Rows PySem.Spec

/-- pure data -/
inductive D where
  | none
  | bool (b : Bool)
  | int (i : Int)
  | list (ds : List D)
  | tuple (ds : List D)
  | key (k : Nat)
  | range (lo hi st : Int)
  | val (v : Value)

noncomputable def Ext (h h' : Heap) : Prop := ∀ b o, h.get? b = some o → h'.get? b = some o
noncomputable def Keep (M : Addr → Prop) (h h' : Heap) : Prop :=
  (∀ b o, ¬ M b → h.get? b = some o → h'.get? b = some o) ∧ ∀ b o, h.get? b = some o → ∃ o', h'.get? b = some o'

theorem Ext.refl (h : Heap) : Ext h h := fun _ _ e => e
theorem Ext.trans {h h' h'' : Heap} (a : Ext h h') (b : Ext h' h'') : Ext h h'' := fun x o e => b x o (a x o e)
theorem Ext.push (h : Heap) (o : Obj) : Ext h (h.push o) := fun _ _ e => Heap.get?_push_of_some _ e
theorem Ext.keep {M : Addr → Prop} {h h' : Heap} (e : Ext h h') : Keep M h h' := ⟨fun b o _ x => e b o x, fun b o x => ⟨o, e b o x⟩⟩
theorem Keep.refl {M : Addr → Prop} (h : Heap) : Keep M h h := (Ext.refl h).keep
theorem Keep.trans {M : Addr → Prop} {h h' h'' : Heap} (a : Keep M h h') (b : Keep M h' h'') : Keep M h h'' :=
  ⟨fun x o n e => b.1 x o n (a.1 x o n e), fun x o e => let ⟨o', e'⟩ := a.2 x o e; b.2 x o' e'⟩
theorem Keep.same {M : Addr → Prop} {a : Addr} {h h' : Heap} (hs : Heap.SameBut a h h') (ha : M a) (hx : ∃ o, h'.get? a = some o) : Keep M h h' :=
  ⟨fun b o n e => (hs.2 b (fun q => n (q ▸ ha))).trans e, fun b o e => by
    by_cases q : b = a
    · subst q; exact hx
    · exact ⟨o, (hs.2 b q).trans e⟩⟩
theorem fresh_size (h : Heap) : h.get? h.objs.size = none := Heap.get?_none_of_le (Nat.le_refl _)

structure Cx where
  prog : Program
  w : World
  C : Addr
  g : Heap

/-- an object of the class that cmp_to_key makes -/
noncomputable def keyObj (C dx : Addr) (k : Nat) (t : Tok) : Obj := { cls := .ref C, dict := some dx, data := .plain, slots := Array.mk [some (.int k t)] }

mutual
inductive Rep (C : Addr) (h : Heap) (X : Addr → Prop) : Value → D → Prop
  | none : Rep C h X .none .none
  | bool (b : Bool) : Rep C h X (.bool b) (.bool b)
  | int (i : Int) (t : Tok) : Rep C h X (.int i t) (.int i)
  | list {a : Addr} {vs : List Value} {ds : List D} (hl : h.IsList a vs.toArray) (hx : ¬ X a) (hs : Reps C h X vs ds) : Rep C h X (.ref a) (.list ds)
  | tuple {a : Addr} {vs : List Value} {ds : List D} (hl : IsTup h a vs.toArray) (hx : ¬ X a) (hs : Reps C h X vs ds) : Rep C h X (.ref a) (.tuple ds)
  | key {a dx : Addr} {k : Nat} {t : Tok} (ho : h.get? a = some (keyObj C dx k t)) (hx : ¬ X a) : Rep C h X (.ref a) (.key k)
  | range {a : Addr} {lo hi st : Int} {t u v : Tok} (ho : IsRange h a lo hi st t u v) (hx : ¬ X a) : Rep C h X (.ref a) (.range lo hi st)
  | val (v : Value) : Rep C h X v (.val v)
inductive Reps (C : Addr) (h : Heap) (X : Addr → Prop) : List Value → List D → Prop
  | nil : Reps C h X [] []
  | cons {v : Value} {d : D} {vs : List Value} {ds : List D} (hv : Rep C h X v d) (hs : Reps C h X vs ds) : Reps C h X (v :: vs) (d :: ds)
end

theorem isList_ext {h h' : Heap} {a : Addr} {vs : Array Value} (e : ∀ o, h.get? a = some o → h'.get? a = some o) (x : h.IsList a vs) : h'.IsList a vs :=
  let ⟨o, ho, r⟩ := x; ⟨o, e o ho, r⟩
theorem isTup_ext {h h' : Heap} {a : Addr} {vs : Array Value} (e : ∀ o, h.get? a = some o → h'.get? a = some o) (x : IsTup h a vs) : IsTup h' a vs :=
  let ⟨o, ho, r⟩ := x; ⟨o, e o ho, r⟩

mutual
theorem Rep.keep {C : Addr} {h h' : Heap} {X : Addr → Prop} (k : ∀ b o, ¬ X b → h.get? b = some o → h'.get? b = some o) : ∀ {v : Value} {d : D}, Rep C h X v d → Rep C h' X v d
  | _, _, .none => .none
  | _, _, .bool b => .bool b
  | _, _, .int i t => .int i t
  | _, _, .list hl hx hs => .list (isList_ext (fun o e => k _ o hx e) hl) hx (Reps.keep k hs)
  | _, _, .tuple hl hx hs => .tuple (isTup_ext (fun o e => k _ o hx e) hl) hx (Reps.keep k hs)
  | _, _, .key ho hx => .key (k _ _ hx ho) hx
  | _, _, .range ho hx => .range (k _ _ hx ho) hx
  | _, _, .val v => .val v
theorem Reps.keep {C : Addr} {h h' : Heap} {X : Addr → Prop} (k : ∀ b o, ¬ X b → h.get? b = some o → h'.get? b = some o) : ∀ {vs : List Value} {ds : List D}, Reps C h X vs ds → Reps C h' X vs ds
  | _, _, .nil => .nil
  | _, _, .cons hv hs => .cons (Rep.keep k hv) (Reps.keep k hs)
end
mutual
theorem Rep.less {C : Addr} {h : Heap} {X Y : Addr → Prop} (k : ∀ b, Y b → X b) : ∀ {v : Value} {d : D}, Rep C h X v d → Rep C h Y v d
  | _, _, .none => .none
  | _, _, .bool b => .bool b
  | _, _, .int i t => .int i t
  | _, _, .list hl hx hs => .list hl (fun q => hx (k _ q)) (Reps.less k hs)
  | _, _, .tuple hl hx hs => .tuple hl (fun q => hx (k _ q)) (Reps.less k hs)
  | _, _, .key ho hx => .key ho (fun q => hx (k _ q))
  | _, _, .range ho hx => .range ho (fun q => hx (k _ q))
  | _, _, .val v => .val v
theorem Reps.less {C : Addr} {h : Heap} {X Y : Addr → Prop} (k : ∀ b, Y b → X b) : ∀ {vs : List Value} {ds : List D}, Reps C h X vs ds → Reps C h Y vs ds
  | _, _, .nil => .nil
  | _, _, .cons hv hs => .cons (Rep.less k hv) (Reps.less k hs)
end
/- a new mutable address that did not exist when the rep was made -/
mutual
theorem Rep.more {C : Addr} {h : Heap} {X : Addr → Prop} {a : Addr} (ha : h.get? a = .none) : ∀ {v : Value} {d : D}, Rep C h X v d → Rep C h (fun b => X b ∨ b = a) v d
  | _, _, .none => .none
  | _, _, .bool b => .bool b
  | _, _, .int i t => .int i t
  | _, _, .list hl hx hs => .list hl (fun q => q.elim hx fun e => by subst e; obtain ⟨o, ho, _⟩ := hl; rw [ha] at ho; cases ho) (Reps.more ha hs)
  | _, _, .tuple hl hx hs => .tuple hl (fun q => q.elim hx fun e => by subst e; obtain ⟨o, ho, _⟩ := hl; rw [ha] at ho; cases ho) (Reps.more ha hs)
  | _, _, .key ho hx => .key ho (fun q => q.elim hx fun e => by subst e; rw [ha] at ho; cases ho)
  | _, _, .range ho hx => .range ho (fun q => q.elim hx fun e => by subst e; unfold IsRange at ho; rw [ha] at ho; cases ho)
  | _, _, .val v => .val v
theorem Reps.more {C : Addr} {h : Heap} {X : Addr → Prop} {a : Addr} (ha : h.get? a = .none) : ∀ {vs : List Value} {ds : List D}, Reps C h X vs ds → Reps C h (fun b => X b ∨ b = a) vs ds
  | _, _, .nil => .nil
  | _, _, .cons hv hs => .cons (Rep.more ha hv) (Reps.more ha hs)
end
theorem Rep.ext {C : Addr} {h h' : Heap} {X : Addr → Prop} (k : Ext h h') {v : Value} {d : D} (r : Rep C h X v d) : Rep C h' X v d := r.keep fun b o _ e => k b o e
theorem Reps.ext {C : Addr} {h h' : Heap} {X : Addr → Prop} (k : Ext h h') {v : List Value} {d : List D} (r : Reps C h X v d) : Reps C h' X v d := r.keep fun b o _ e => k b o e
theorem Reps.length {C : Addr} {h : Heap} {X : Addr → Prop} : ∀ {vs : List Value} {ds : List D}, Reps C h X vs ds → vs.length = ds.length
  | _, _, .nil => rfl
  | _, _, .cons _ hs => congrArg (· + 1) (Reps.length hs)
theorem Reps.get {C : Addr} {h : Heap} {X : Addr → Prop} : ∀ {vs : List Value} {ds : List D}, Reps C h X vs ds → ∀ {i : Nat} {d : D}, ds[i]? = some d → ∃ v, vs[i]? = some v ∧ Rep C h X v d
  | _, _, .nil, i, d, e => by simp at e
  | _, _, .cons (v := v) hv hs, 0, d, e => ⟨v, rfl, by simp at e; subst e; exact hv⟩
  | _, _, .cons hv hs, i + 1, d, e => by
    obtain ⟨v, h1, h2⟩ := Reps.get hs (i := i) (d := d) (by simpa using e)
    exact ⟨v, by simpa using h1, h2⟩
theorem Reps.append {C : Addr} {h : Heap} {X : Addr → Prop} : ∀ {vs : List Value} {ds : List D}, Reps C h X vs ds → ∀ {us : List Value} {es : List D}, Reps C h X us es → Reps C h X (vs ++ us) (ds ++ es)
  | _, _, .nil, _, _, r => r
  | _, _, .cons hv hs, _, _, r => .cons hv (Reps.append hs r)
/-- what a name holds: data, or a list of the frame's own -/
inductive En where
  | imm (d : D)
  | own (a : Addr) (ds : List D)
noncomputable def EnRep (C : Addr) (h : Heap) (X : Addr → Prop) (M : Addr → Prop) (v : Value) : En → Prop
  | .imm d => Rep C h X v d
  | .own a ds => ∃ vs, v = .ref a ∧ M a ∧ PlainL h a vs.toArray ∧ Reps C h X vs ds

structure Fx where
  A : Around
  env : Env
  X : Addr → Prop
  M : Addr → Prop

structure Room (k : Nat) (A : Around) : Prop where
  hd : A.handled = Option.none
  dep : A.depth + k < 900
  un : A.units + 100 * k < 9000
theorem Room.mono {k j : Nat} {A : Around} (r : Room k A) (h : j ≤ k) : Room j A := ⟨r.hd, by have := r.dep; omega, by have := r.un; omega⟩
theorem Room.in1 {k : Nat} {A : Around} (r : Room (k + 1) A) : Room k A.in1 := ⟨r.hd, by have := r.dep; simp only [Around.in1_depth]; omega, by have := r.un; simp only [Around.in1_units]; omega⟩
theorem Room.deeper {k : Nat} {A : Around} {e : Env} (r : Room (k + 1) A) : Room k (A.deeper e) := ⟨r.hd, by have := r.dep; show A.depth + 1 + k < 900; omega, by have := r.un; simp only [Around.deeper_units]; omega⟩
theorem Room.depth {k : Nat} {A : Around} (r : Room k A) : A.depth < recursionLimit := by have := r.dep; unfold recursionLimit; omega
theorem Room.units {k : Nat} {A : Around} (r : Room k A) : A.units < cLine := by have := r.un; rw [cLine_is]; omega

noncomputable abbrev Rho := List (Str × Option En)
inductive Upd : Rho → Str → Option En → Rho → Prop
  | here {x : Str} {e e' : Option En} {r : Rho} : Upd ((x, e) :: r) x e' ((x, e') :: r)
  | there {x : Str} {p : Str × Option En} {e' : Option En} {r r' : Rho} (u : Upd r x e' r') : Upd (p :: r) x e' (p :: r')
theorem Upd.names {ρ ρ' : Rho} {x : Str} {e : Option En} (u : Upd ρ x e ρ') : ρ'.map (·.1) = ρ.map (·.1) := by
  induction u with
  | here => rfl
  | there _ ih => simp only [List.map_cons, ih]
theorem Upd.name {ρ ρ' : Rho} {x : Str} {e : Option En} (u : Upd ρ x e ρ') : x ∈ ρ.map (·.1) := by
  induction u with
  | here => exact .head _
  | there _ ih => exact .tail _ ih
theorem Upd.mem {ρ ρ' : Rho} {x : Str} {e : Option En} (u : Upd ρ x e ρ') (nd : (ρ.map (·.1)).Nodup) : ∀ p ∈ ρ', p = (x, e) ∨ (p ∈ ρ ∧ p.1 ≠ x) := by
  induction u with
  | @here x e e' r =>
    intro p hp
    rw [List.map_cons, List.nodup_cons] at nd
    rcases List.mem_cons.mp hp with h | h
    · exact .inl h
    · refine .inr ⟨.tail _ h, fun q => nd.1 ?_⟩
      have z := List.mem_map_of_mem (f := fun y : Str × Option En => y.1) h
      rw [q] at z
      exact z
  | @there x q e' r r' u ih =>
    intro p hp
    rw [List.map_cons, List.nodup_cons] at nd
    rcases List.mem_cons.mp hp with h | h
    · subst h
      refine .inr ⟨.head _, fun z => nd.1 ?_⟩
      rw [z]
      exact u.name
    · rcases ih nd.2 p h with h | ⟨h1, h2⟩
      · exact .inl h
      · exact .inr ⟨.tail _ h1, h2⟩
/-- forgetting -/
inductive Le : Rho → Rho → Prop
  | nil : Le [] []
  | same {p : Str × Option En} {r r' : Rho} (u : Le r r') : Le (p :: r) (p :: r')
  | drop {x : Str} {e : Option En} {r r' : Rho} (u : Le r r') : Le ((x, e) :: r) ((x, none) :: r')
theorem Le.refl : ∀ ρ : Rho, Le ρ ρ
  | [] => .nil
  | _ :: r => .same (Le.refl r)
theorem Le.names {ρ ρ' : Rho} (u : Le ρ ρ') : ρ'.map (·.1) = ρ.map (·.1) := by
  induction u with
  | nil => rfl
  | same _ ih => simp only [List.map_cons, ih]
  | drop _ ih => simp only [List.map_cons, ih]
theorem Le.mem {ρ ρ' : Rho} (u : Le ρ ρ') {x : Str} {en : En} (h : (x, some en) ∈ ρ') : (x, some en) ∈ ρ := by
  induction u with
  | nil => exact h
  | same _ ih =>
    rcases List.mem_cons.mp h with h | h
    · exact h ▸ .head _
    · exact .tail _ (ih h)
  | drop _ ih =>
    rcases List.mem_cons.mp h with h | h
    · cases h
    · exact .tail _ (ih h)

/-- the frame's state -/
structure St (c : Cx) (f : Fx) (ρ : Rho) (h : Heap) : Prop where
  nd : (ρ.map (·.1)).Nodup
  ext : Ext c.g h
  xok : ∀ a, f.X a → ∃ o, h.get? a = some o
  cl : ∀ x a, f.env.cells.lookup x = some a → ∃ v, h.IsCell a v
  oa : ∀ x y a ds es, (x, some (En.own a ds)) ∈ ρ → (y, some (En.own a es)) ∈ ρ → x = y
  ns : ∃ m, h.Ns f.env.locals m ∧ ∀ x en, (x, some en) ∈ ρ → f.env.kindOf x = some .local → ∃ v, m x = some v ∧ EnRep c.C h f.X f.M v en
  cs : ∀ x en, (x, some en) ∈ ρ → f.env.kindOf x ≠ some .local → ∃ a v, (f.env.kindOf x = some .cell ∨ f.env.kindOf x = some .free) ∧ f.env.cells.lookup x = some a ∧ h.IsCell a (some v) ∧ EnRep c.C h f.X f.M v en

structure OkE (c : Cx) (f : Fx) : Prop where
  kind : f.env.scope.kind = .function
  glob : f.env.globals = mainGlobals
  blt : f.env.builtins = builtinsNs
  mx : ∀ a, f.M a → f.X a
  loc : f.M f.env.locals
  apart : ∀ x y a, f.env.cells.lookup x = some a → f.env.cells.lookup y = some a → x = y
  dis : ∀ a, f.X a → c.g.get? a = Option.none
structure Ok (c : Cx) (f : Fx) (k : Nat) : Prop extends OkE c f where
  room : Room k f.A

theorem EnRep.ext {C : Addr} {h h' : Heap} {X M : Addr → Prop} (k : Ext h h') {v : Value} {en : En} (r : EnRep C h X M v en) : EnRep C h' X M v en := by
  cases en with
  | imm d => exact Rep.ext k r
  | own a ds =>
    obtain ⟨vs, e, hm, hl, hs⟩ := r
    exact ⟨vs, e, hm, hl.keeps k, hs.ext k⟩

theorem St.up {c : Cx} {f : Fx} {ρ : Rho} {h h' : Heap} (s : St c f ρ h) (k : Ext h h') : St c f ρ h' where
  nd := s.nd
  ext := s.ext.trans k
  xok := fun a ha => let ⟨o, e⟩ := s.xok a ha; ⟨o, k _ _ e⟩
  cl := fun x a e => let ⟨v, q⟩ := s.cl x a e; ⟨v, q.keeps k⟩
  oa := s.oa
  ns := let ⟨m, hn, r⟩ := s.ns; ⟨m, hn.keeps k, fun x en hx hl => let ⟨v, h1, h2⟩ := r x en hx hl; ⟨v, h1, h2.ext k⟩⟩
  cs := fun x en hx hl => let ⟨a, v, h1, h2, h3, h4⟩ := s.cs x en hx hl; ⟨a, v, h1, h2, h3.keeps k, h4.ext k⟩

theorem St.sub {c : Cx} {f : Fx} {ρ ρ' : Rho} {h : Heap} (s : St c f ρ h) (k : Le ρ ρ') : St c f ρ' h where
  nd := by rw [k.names]; exact s.nd
  ext := s.ext
  xok := s.xok
  cl := s.cl
  oa := fun x y a ds es h1 h2 => s.oa x y a ds es (k.mem h1) (k.mem h2)
  ns := let ⟨m, hn, r⟩ := s.ns; ⟨m, hn, fun x en hx hl => r x en (k.mem hx) hl⟩
  cs := fun x en hx hl => s.cs x en (k.mem hx) hl

/-- an expression gives d -/
noncomputable def Ev (c : Cx) (f : Fx) (ρ : Rho) (e : Expr) (d : D) : Prop :=
  ∀ (s : Shared) (Q E : Value → Shared → Prop), St c f ρ s.heap → (∀ v h' tk, Ext s.heap h' → Rep c.C h' f.X v d → Q v { s with heap := h', toks := tk }) →
    wpAny (model c.prog c.w) f.A (eval e f.env) Q E s

inductive Out where
  | next | brk | cont
  | ret (d : D)
noncomputable def FlRep (C : Addr) (h : Heap) (X M : Addr → Prop) : Flow → Out → Prop
  | .next, .next => True
  | .brk, .brk => True
  | .cont, .cont => True
  | .ret v, .ret d => Rep C h (fun a => X a ∧ ¬ M a) v d
  | _, _ => False

noncomputable def Ex (c : Cx) (f : Fx) (ρ : Rho) (st : Stmt) (ρ' : Rho) (o : Out) : Prop :=
  ∀ (s : Shared) (Q : Flow → Shared → Prop) (E : Value → Shared → Prop), St c f ρ s.heap →
    (∀ fl h' tk, Keep f.M s.heap h' → FlRep c.C h' f.X f.M fl o → St c f ρ' h' → Q fl { s with heap := h', toks := tk }) →
    wpAny (model c.prog c.w) f.A (exec st f.env) Q E s
noncomputable def Exs (c : Cx) (f : Fx) (ρ : Rho) (st : List Stmt) (ρ' : Rho) (o : Out) : Prop :=
  ∀ (s : Shared) (Q : Flow → Shared → Prop) (E : Value → Shared → Prop), St c f ρ s.heap →
    (∀ fl h' tk, Keep f.M s.heap h' → FlRep c.C h' f.X f.M fl o → St c f ρ' h' → Q fl { s with heap := h', toks := tk }) →
    wpAny (model c.prog c.w) f.A (execs st f.env) Q E s
end Mine
end
section
namespace Mine
open PySem PySem.W PySem.Calls PyProof.Rows PySem.Spec

noncomputable abbrev Fx.Y (f : Fx) : Addr → Prop := fun a => f.X a ∧ ¬ f.M a
structure W (c : Cx) (f : Fx) (h : Heap) : Prop where
  ext : Ext c.g h
  xok : ∀ a, f.X a → ∃ o, h.get? a = some o
theorem St.w {c : Cx} {f : Fx} {ρ : Rho} {h : Heap} (s : St c f ρ h) : W c f h := ⟨s.ext, s.xok⟩
theorem W.up {c : Cx} {f : Fx} {h h' : Heap} (s : W c f h) (k : Ext h h') : W c f h' := ⟨s.ext.trans k, fun a ha => let ⟨o, e⟩ := s.xok a ha; ⟨o, k _ _ e⟩⟩
theorem W.fresh {c : Cx} {f : Fx} {h : Heap} (s : W c f h) {a : Addr} (ha : h.get? a = none) : ¬ f.X a := fun q => by
  obtain ⟨o, e⟩ := s.xok a q; rw [ha] at e; cases e

/-- weak: may be a list of the frame's own -/
noncomputable def Ev0 (c : Cx) (f : Fx) (ρ : Rho) (e : Expr) (d : D) : Prop :=
  ∀ (s : Shared) (Q E : Value → Shared → Prop), St c f ρ s.heap → (∀ v h' tk, Ext s.heap h' → Rep c.C h' f.Y v d → Q v { s with heap := h', toks := tk }) →
    wpAny (model c.prog c.w) f.A (eval e f.env) Q E s
theorem Rep.y {c : Cx} {f : Fx} {h : Heap} {v : Value} {d : D} (r : Rep c.C h f.X v d) : Rep c.C h f.Y v d := r.less fun _ q => q.1
theorem Reps.y {c : Cx} {f : Fx} {h : Heap} {v : List Value} {d : List D} (r : Reps c.C h f.X v d) : Reps c.C h f.Y v d := r.less fun _ q => q.1
theorem Ev.w {c : Cx} {f : Fx} {ρ : Rho} {e : Expr} {d : D} (h : Ev c f ρ e d) : Ev0 c f ρ e d := fun s Q E st k => h s Q E st fun v h' tk x r => k v h' tk x r.y

noncomputable def Op2 (c : Cx) (f : Fx) (t : Value → Value → Sem Value) (d1 d2 d : D) : Prop :=
  ∀ (s : Shared) (v1 v2 : Value) (Q E : Value → Shared → Prop), W c f s.heap → Rep c.C s.heap f.X v1 d1 → Rep c.C s.heap f.X v2 d2 →
    (∀ v h' tk, Ext s.heap h' → Rep c.C h' f.X v d → Q v { s with heap := h', toks := tk }) → wpAny (model c.prog c.w) f.A (t v1 v2) Q E s
/-- a comparison -/
noncomputable def Cm (c : Cx) (f : Fx) (op : CmpOp) (d1 d2 : D) (b : Bool) : Prop :=
  ∀ (s : Shared) (v1 v2 : Value) (Q E : Value → Shared → Prop), W c f s.heap → Rep c.C s.heap f.Y v1 d1 → Rep c.C s.heap f.Y v2 d2 →
    (∀ h' tk, Ext s.heap h' → Q (.bool b) { s with heap := h', toks := tk }) → wpAny (model c.prog c.w) f.A (compareOp op v1 v2) Q E s

section
variable {c : Cx} {f : Fx} {ρ : Rho} {k : Nat}

theorem ev_int {i : Int} {n : Nat} {pos : Pos} : Ev c f ρ (.Constant (.int i) n pos) (.int i) := fun s Q E st k =>
  wpAny_Constant_int (k _ s.heap _ (Ext.refl _) (.int _ _))
theorem ev_bool {b : Bool} {n : Nat} {pos : Pos} : Ev c f ρ (.Constant (.bool b) n pos) (.bool b) := fun s Q E st k =>
  wpAny_pure (k _ s.heap s.toks (Ext.refl _) (.bool _))
theorem load_ofE (o : OkE c f) {x : Str} {en : En} (hx : (x, some en) ∈ ρ) (hd : (x == ("__classdict__" : Str)) = false) {s : Shared} {Q : Value → Shared → Prop} {E : Value → Shared → Prop} (st : St c f ρ s.heap)
    (k : ∀ v, EnRep c.C s.heap f.X f.M v en → Q v s) : wpAny (model c.prog c.w) f.A (loadName f.env x) Q E s := by
  by_cases hl : f.env.kindOf x = some .local
  · obtain ⟨m, hn, r⟩ := st.ns
    obtain ⟨v, hv, hr⟩ := r x en hx hl
    exact wpAny_loadName_local o.kind hl hn hv (k v hr)
  · obtain ⟨a, v, hk, hc, hv, hr⟩ := st.cs x en hx hl
    rcases hk with hk | hk
    · exact wpAny_loadName_cell o.kind hk hc hv (k v hr)
    · exact wpAny_loadName_free o.kind hk hc hv (k v hr) hd

theorem load_of (o : Ok c f k) {x : Str} {en : En} (hx : (x, some en) ∈ ρ) (hd : (x == ("__classdict__" : Str)) = false) {s : Shared} {Q : Value → Shared → Prop} {E : Value → Shared → Prop} (st : St c f ρ s.heap)
    (k : ∀ v, EnRep c.C s.heap f.X f.M v en → Q v s) : wpAny (model c.prog c.w) f.A (loadName f.env x) Q E s := load_ofE o.toOkE hx hd st k
theorem ev_nameE (o : OkE c f) {x : Str} {pos : Pos} {d : D} (hx : (x, some (En.imm d)) ∈ ρ) (hd : (x == ("__debug__" : Str) || x == ("__classdict__" : Str)) = false) : Ev c f ρ (.Name x pos) d := fun s Q E st k => by
  rw [Bool.or_eq_false_iff] at hd
  exact wpAny_Name (load_ofE o hx hd.2 st fun v hr => k v s.heap s.toks (Ext.refl _) hr) hd.1
theorem ev_name (o : Ok c f k) {x : Str} {pos : Pos} {d : D} (hx : (x, some (En.imm d)) ∈ ρ) (hd : (x == ("__debug__" : Str) || x == ("__classdict__" : Str)) = false) : Ev c f ρ (.Name x pos) d := fun s Q E st k => by
  rw [Bool.or_eq_false_iff] at hd
  exact wpAny_Name (load_of o hx hd.2 st fun v hr => k v s.heap s.toks (Ext.refl _) hr) hd.1
theorem ev0_own (o : Ok c f k) {x : Str} {pos : Pos} {a : Addr} {ds : List D} (hx : (x, some (En.own a ds)) ∈ ρ) (hd : (x == ("__debug__" : Str) || x == ("__classdict__" : Str)) = false) : Ev0 c f ρ (.Name x pos) (.list ds) := fun s Q E st k => by
  rw [Bool.or_eq_false_iff] at hd
  refine wpAny_Name (load_of o hx hd.2 st fun v hr => ?_) hd.1
  obtain ⟨vs, rfl, hm, hl, hs⟩ := hr
  exact k _ s.heap s.toks (Ext.refl _) (.list hl.isList (fun q => q.2 hm) hs.y)

/-- the world's tables -/
structure Base (c : Cx) : Prop where
  K : (K0 c.w.params).In c.g
  top : ∃ mg mb, c.g.Ns mainGlobals mg ∧ c.g.Ns builtinsNs mb ∧ ∀ x : Str, x ≠ "__name__" → mb x = bootBuiltins x
  nolimit : c.g.NoLimit

theorem ev_glob (B : Base c) (o : Ok c f k) {x : Str} {pos : Pos} {v : Value} (hk : f.env.kindOf x = some .globalImplicit) (e : nsIn (K0 c.w.params) mainGlobals x = some (some v)) (hd : (x == ("__debug__" : Str)) = false) :
    Ev c f ρ (.Name x pos) (.val v) := fun s Q E st k => by
  obtain ⟨mg, mb, hg, hb, _⟩ := B.top
  refine Name_function_global o.kind hk (loadGlobal_global ?_ (mg_of B.K hg e) (k v s.heap s.toks (Ext.refl _) (.val v))) hd
  rw [o.glob]
  exact hg.keeps st.ext
theorem ev_blt (B : Base c) (o : Ok c f k) {x : Str} {pos : Pos} {v : Value} (hk : f.env.kindOf x = some .globalImplicit) (e : nsIn (K0 c.w.params) mainGlobals x = some none) (hv : bootBuiltins x = some v)
    (hn : (x == ("__debug__" : Str) || x == ("__name__" : Str)) = false) : Ev c f ρ (.Name x pos) (.val v) := fun s Q E st k => by
  obtain ⟨mg, mb, hg, hb, hbb⟩ := B.top
  rw [Bool.or_eq_false_iff] at hn
  refine Name_function_global o.kind hk (loadGlobal_builtin (mg := mg) (mb := mb) ?_ (mg_none_of B.K hg e) ?_ ((hbb x (by simpa using hn.2)).trans hv) (k v s.heap s.toks (Ext.refl _) (.val v))) hn.1
  · rw [o.glob]; exact hg.keeps st.ext
  · rw [o.blt]; exact hb.keeps st.ext

theorem ev_binop {l r : Expr} {op : Operator} {pos : Pos} {d1 d2 d : D} (h1 : Ev c f ρ l d1) (h2 : Ev c f ρ r d2) (h : Op2 c f (binaryOp op) d1 d2 d) : Ev c f ρ (.BinOp l op r pos) d := fun s Q E st k =>
  wpAny_BinOp (h1 s _ E st fun v1 s1 t1 x1 r1 => h2 _ _ E (st.up x1) fun v2 s2 t2 x2 r2 => h _ v1 v2 Q E ((st.up x1).up x2).w (r1.ext x2) r2 fun v s3 t3 x3 r3 => k v s3 t3 ((x1.trans x2).trans x3) r3)

theorem ev_cmp {l r : Expr} {op : CmpOp} {pos : Pos} {d1 d2 : D} {b : Bool} (h1 : Ev0 c f ρ l d1) (h2 : Ev0 c f ρ r d2) (h : Cm c f op d1 d2 b) (hm : behindInMarks op r = false) : Ev c f ρ (.Compare l [op] [r] pos) (.bool b) := fun s Q E st k =>
  wpAny_Compare1 (h1 s _ E st fun v1 s1 t1 x1 r1 => h2 _ _ E (st.up x1) fun v2 s2 t2 x2 r2 => h _ v1 v2 Q E ((st.up x1).up x2).w (r1.ext x2) r2 fun s3 t3 x3 => k _ s3 t3 ((x1.trans x2).trans x3) (.bool b)) hm

theorem ev_neg {e : Expr} {pos : Pos} {i : Int} (h1 : Ev c f ρ e (.int i)) : Ev c f ρ (.UnaryOp .USub e pos) (.int (-i)) := fun s Q E st k =>
  wpAny_UnaryOp (h1 s _ E st fun v1 s1 t1 x1 r1 => by
    cases r1
    exact neg_int (k _ _ _ x1 (.int _ _)))

theorem op_add {a b : Int} : Op2 c f (binaryOp .Add) (.int a) (.int b) (.int (a + b)) := fun s v1 v2 Q E w r1 r2 k => by
  cases r1; cases r2; exact add_int (k _ s.heap _ (Ext.refl _) (.int _ _))
theorem op_iadd {a b : Int} : Op2 c f (inplaceOp .Add) (.int a) (.int b) (.int (a + b)) := fun s v1 v2 Q E w r1 r2 k => by
  cases r1; cases r2; exact iadd_int (k _ s.heap _ (Ext.refl _) (.int _ _))
theorem op_sub {a b : Int} : Op2 c f (binaryOp .Sub) (.int a) (.int b) (.int (a - b)) := fun s v1 v2 Q E w r1 r2 k => by
  cases r1; cases r2; exact sub_int (k _ s.heap _ (Ext.refl _) (.int _ _))
theorem op_subb {a b : Bool} : Op2 c f (binaryOp .Sub) (.bool a) (.bool b) (.int (b2i a - b2i b)) := fun s v1 v2 Q E w r1 r2 k => by
  cases r1; cases r2; exact sub_bool (k _ s.heap _ (Ext.refl _) (.int _ _))
theorem op_mul {a b : Int} (hm : IntMulOk a b) : Op2 c f (binaryOp .Mult) (.int a) (.int b) (.int (a * b)) := fun s v1 v2 Q E w r1 r2 k => by
  cases r1; cases r2; exact mul_int (k _ s.heap _ (Ext.refl _) (.int _ _)) hm
theorem op_imul {a b : Int} (hm : IntMulOk a b) : Op2 c f (inplaceOp .Mult) (.int a) (.int b) (.int (a * b)) := fun s v1 v2 Q E w r1 r2 k => by
  cases r1; cases r2; exact imul_int (k _ s.heap _ (Ext.refl _) (.int _ _)) hm
theorem op_mod {a b : Int} (hb : b ≠ 0) : Op2 c f (binaryOp .Mod) (.int a) (.int b) (.int (a.fmod b)) := fun s v1 v2 Q E w r1 r2 k => by
  cases r1; cases r2; exact mod_int' hb (k _ s.heap _ (Ext.refl _) (.int _ _))
theorem op_div {a b : Int} (hb : b ≠ 0) (hp : Builtin.divisionGoesByPylong a b = false) : Op2 c f (binaryOp .FloorDiv) (.int a) (.int b) (.int (a.fdiv b)) := fun s v1 v2 Q E w r1 r2 k => by
  cases r1; cases r2; exact floordiv_int hb (k _ s.heap _ (Ext.refl _) (.int _ _)) (.inl hp)

theorem cm_eq {a b : Int} : Cm c f .Eq (.int a) (.int b) (a == b) := fun s v1 v2 Q E w r1 r2 k => by
  cases r1; cases r2; exact eq_int (k s.heap _ (Ext.refl _))
theorem cm_ne {a b : Int} : Cm c f .NotEq (.int a) (.int b) (a != b) := fun s v1 v2 Q E w r1 r2 k => by
  cases r1; cases r2; exact ne_int (k s.heap _ (Ext.refl _))
theorem cm_lt {a b : Int} : Cm c f .Lt (.int a) (.int b) (decide (a < b)) := fun s v1 v2 Q E w r1 r2 k => by
  cases r1; cases r2; exact lt_int (k s.heap _ (Ext.refl _))
theorem cm_gt {a b : Int} : Cm c f .Gt (.int a) (.int b) (decide (a > b)) := fun s v1 v2 Q E w r1 r2 k => by
  cases r1; cases r2; exact gt_int (k s.heap _ (Ext.refl _))
end
end Mine
end
section
namespace Mine
open PySem PySem.W PySem.Calls PyProof.Rows PySem.Spec

noncomputable def EvL (c : Cx) (f : Fx) (ρ : Rho) (es : List Expr) (ds : List D) : Prop :=
  ∀ (pos : Pos) (s : Shared) (Q : List Value → Shared → Prop) (E : Value → Shared → Prop), St c f ρ s.heap → (∀ vs h' tk, Ext s.heap h' → Reps c.C h' f.X vs ds → Q vs { s with heap := h', toks := tk }) →
    wpAny (model c.prog c.w) f.A (spliced (backTo pos (starEach es f.env))) Q E s
noncomputable def EvL0 (c : Cx) (f : Fx) (ρ : Rho) (es : List Expr) (ds : List D) : Prop :=
  ∀ (pos : Pos) (s : Shared) (Q : List Value → Shared → Prop) (E : Value → Shared → Prop), St c f ρ s.heap → (∀ vs h' tk, Ext s.heap h' → Reps c.C h' f.Y vs ds → Q vs { s with heap := h', toks := tk }) →
    wpAny (model c.prog c.w) f.A (spliced (backTo pos (starEach es f.env))) Q E s

/-- a slice's part -/
noncomputable def EvP (c : Cx) (f : Fx) (ρ : Rho) : Option Expr → Option Int → Prop
  | none, none => True
  | some e, some i => Ev c f ρ e (.int i)
  | _, _ => False

noncomputable def pick {α : Type} (xs : List α) (lo hi st : Option Int) : List α :=
  (sliceRange (sliceBounds lo hi st xs.length).1 (sliceBounds lo hi st xs.length).2.1 (sliceBounds lo hi st xs.length).2.2).filterMap (xs[·]?)

section
variable {c : Cx} {f : Fx} {ρ : Rho} {k : Nat}

theorem evl_nil : EvL c f ρ [] [] := fun pos s Q E st k => spliced_nil (k [] s.heap s.toks (Ext.refl _) .nil)
theorem evl_cons {e : Expr} {es : List Expr} {d : D} {ds : List D} (h : Ev c f ρ e d) (hs : EvL c f ρ es ds) (he : isStarred e = false) : EvL c f ρ (e :: es) (d :: ds) := fun pos s Q E st k => by
  have e1 : starEach (e :: es) f.env = (false, eval e f.env) :: starEach es f.env := by cases e <;> first | rfl | cases he
  rw [e1]
  refine spliced_cons (h s _ E st fun v h1 t1 x1 r1 => hs pos _ _ E (st.up x1) fun vs h2 t2 x2 r2 => ?_)
  exact k _ h2 t2 (x1.trans x2) (.cons (r1.ext x2) r2)
theorem evl0_nil : EvL0 c f ρ [] [] := fun pos s Q E st k => spliced_nil (k [] s.heap s.toks (Ext.refl _) .nil)
theorem evl0_cons {e : Expr} {es : List Expr} {d : D} {ds : List D} (h : Ev0 c f ρ e d) (hs : EvL0 c f ρ es ds) (he : isStarred e = false) : EvL0 c f ρ (e :: es) (d :: ds) := fun pos s Q E st k => by
  have e1 : starEach (e :: es) f.env = (false, eval e f.env) :: starEach es f.env := by cases e <;> first | rfl | cases he
  rw [e1]
  refine spliced_cons (h s _ E st fun v h1 t1 x1 r1 => hs pos _ _ E (st.up x1) fun vs h2 t2 x2 r2 => ?_)
  exact k _ h2 t2 (x1.trans x2) (.cons (r1.ext x2) r2)
theorem rep_newList {h : Heap} {vs : List Value} {ds : List D} {n : Nat} (w : W c f h) (r : Reps c.C h f.X vs ds) : Rep c.C (h.push { cls := .type "list", data := .seq vs.toArray n }) f.X (.ref h.objs.size) (.list ds) :=
  .list ⟨_, Heap.get?_push_size _ rfl, rfl, _, rfl⟩ (w.fresh (fresh_size h)) (r.ext (Ext.push _ _))
theorem rep_newTuple {h : Heap} {vs : List Value} {ds : List D} {n : Nat} (w : W c f h) (r : Reps c.C h f.X vs ds) : Rep c.C (h.push { cls := .type "tuple", data := .seq vs.toArray n }) f.X (.ref h.objs.size) (.tuple ds) :=
  .tuple ⟨_, Heap.get?_push_size _ rfl, rfl, _, rfl⟩ (w.fresh (fresh_size h)) (r.ext (Ext.push _ _))

theorem ev_list {es : List Expr} {pos : Pos} {ds : List D} (h : EvL c f ρ es ds) (hz : ds.length ≤ 1000000) : Ev c f ρ (.List es pos) (.list ds) := fun s Q E st k =>
  wpAny_List (h pos s _ E st fun vs h1 t1 x1 r1 => ⟨by rw [r1.length, sizeLine_eq]; omega, k _ _ _ (x1.trans (Ext.push _ _)) (rep_newList (st.up x1).w r1)⟩)
theorem ev_tuple {es : List Expr} {n : Nat} {pos : Pos} {ds : List D} (h : EvL c f ρ es ds) (hz : ds.length ≤ 1000000) : Ev c f ρ (.Tuple es n pos) (.tuple ds) := fun s Q E st k =>
  wpAny_Tuple (h pos s _ E st fun vs h1 t1 x1 r1 => ⟨by rw [r1.length, sizeLine_eq]; omega, k _ _ _ (x1.trans (Ext.push _ _)) (rep_newTuple (st.up x1).w r1)⟩)

theorem sub_plain {slice : Expr} (hs : ∀ l u t p, slice ≠ .Slice l u t p) (o i : Value) : subscripted slice false o i = operate [o, i] (getItem o i) := by
  cases slice <;> first | rfl | exact absurd rfl (hs _ _ _ _)

/-- an item -/
theorem ev_sub {value slice : Expr} {pos : Pos} {ds : List D} {i : Int} {d : D} (h1 : Ev c f ρ value (.list ds)) (h2 : Ev c f ρ slice (.int i)) (hi : ds[i.toNat]? = some d) (h0 : 0 ≤ i) (hz : ds.length ≤ 1000000)
    (hs : ∀ l u t p, slice ≠ .Slice l u t p) : Ev c f ρ (.Subscript value slice pos) d := fun s Q E st k =>
  Subscript_ (h1 s _ E st fun v1 s1 t1 x1 r1 => h2 _ _ E (st.up x1) fun v2 s2 t2 x2 r2 => by
    have r1' := r1.ext x2
    cases r2 with
    | int _ t =>
      cases r1' with
      | list hl hx hr =>
        obtain ⟨v, e, rv⟩ := hr.get hi
        have lt : i.toNat < ds.length := (List.getElem?_eq_some_iff.mp hi).1
        exact tail_any hl.typeIs slot_list_getitem.lookup (wpAny_getItem_list hl h0 (by omega) (by simpa using e) (k v s2 t2 (x1.trans x2) rv)) (sub_plain hs _ _))
theorem ev_sub_own (o : Ok c f k) {x : Str} {px : Pos} {slice : Expr} {pos : Pos} {a : Addr} {ds : List D} {i : Int} {d : D} (hx : (x, some (En.own a ds)) ∈ ρ) (hd : (x == ("__debug__" : Str) || x == ("__classdict__" : Str)) = false)
    (h2 : Ev c f ρ slice (.int i)) (hi : ds[i.toNat]? = some d) (h0 : 0 ≤ i) (hz : ds.length ≤ 1000000) (hs : ∀ l u t p, slice ≠ .Slice l u t p) : Ev c f ρ (.Subscript (.Name x px) slice pos) d := fun s Q E st k => by
  rw [Bool.or_eq_false_iff] at hd
  refine Subscript_ (wpAny_Name (load_of o hx hd.2 st fun v hr => ?_) hd.1)
  obtain ⟨vs, rfl, hm, hl, hr⟩ := hr
  refine h2 _ _ E st fun v2 s2 t2 x2 r2 => ?_
  cases r2 with
  | int _ t =>
    obtain ⟨v, e, rv⟩ := (hr.ext x2).get hi
    have lt : i.toNat < ds.length := (List.getElem?_eq_some_iff.mp hi).1
    have hl' := isList_ext (fun o q => x2 a o q) hl.isList
    have hT : Shared.TypeIs { s with heap := s2, toks := t2 } (.ref a) "list" := Heap.IsList.typeIs (s := { s with heap := s2, toks := t2 }) hl'
    exact tail_any hT slot_list_getitem.lookup (wpAny_getItem_list hl' h0 (by omega) (by simpa using e) (k v s2 t2 x2 rv)) (sub_plain hs _ _)

theorem part_of {o : Option Expr} {p : Option Int} (h : EvP c f ρ o p) {s : Shared} {Q E : Value → Shared → Prop} (st : St c f ρ s.heap)
    (k : ∀ v h' tk, Ext s.heap h' → IsPart v p → Q v { s with heap := h', toks := tk }) : wpAny (model c.prog c.w) f.A (evalPart o f.env) Q E s := by
  cases o with
  | none =>
    cases p with
    | none => exact wpAny_pure (k _ s.heap s.toks (Ext.refl _) .none)
    | some i => exact h.elim
  | some e =>
    cases p with
    | none => exact h.elim
    | some i =>
      exact h s Q E st fun v h' tk x r => by
        cases r with
        | int _ t => exact k _ h' tk x (.int i t)

theorem Reps.pick {C : Addr} {h : Heap} {X : Addr → Prop} {vs : List Value} {ds : List D} (r : Reps C h X vs ds) (lo hi st : Option Int) : Reps C h X (Mine.pick vs lo hi st) (Mine.pick ds lo hi st) := by
  unfold Mine.pick
  rw [r.length]
  generalize sliceRange (sliceBounds lo hi st ds.length).1 (sliceBounds lo hi st ds.length).2.1 (sliceBounds lo hi st ds.length).2.2 = l
  induction l with
  | nil => exact .nil
  | cons i l ih =>
    rw [List.filterMap_cons, List.filterMap_cons]
    cases e : ds[i]? with
    | some d =>
      obtain ⟨v, e1, e2⟩ := r.get e
      rw [e1]
      exact .cons e2 ih
    | none =>
      have : vs[i]? = none := by
        rw [List.getElem?_eq_none_iff] at e ⊢
        rw [r.length]; exact e
      rw [this]; exact ih
theorem pick_eq (vs : List Value) (lo hi st : Option Int) : slicePick vs.toArray lo hi st = (pick vs lo hi st).toArray := by
  unfold slicePick pick
  have e : (fun x : Nat => vs.toArray[x]?) = fun x => vs[x]? := by funext x; simp
  simp only [List.size_toArray, e]

theorem ev_slice {value : Expr} {lower upper step : Option Expr} {p pos : Pos} {ds : List D} {lo hi st : Option Int} (h1 : Ev c f ρ value (.list ds)) (hl : EvP c f ρ lower lo) (hu : EvP c f ρ upper hi) (hs : EvP c f ρ step st)
    (h0 : st ≠ some 0) (hz : ds.length ≤ 1000000) : Ev c f ρ (.Subscript value (.Slice lower upper step p) pos) (.list (pick ds lo hi st)) := fun s Q E St k =>
  Subscript_ (h1 s _ E St fun v1 s1 t1 x1 r1 => wpAny_Slice (part_of hl (St.up x1) fun vl s2 t2 x2 pl => part_of hu ((St.up x1).up x2) fun vu s3 t3 x3 pu => part_of hs (((St.up x1).up x2).up x3) fun vt s4 t4 x4 pt => by
    have r1' := ((r1.ext x2).ext x3).ext x4
    have st4 := (((St.up x1).up x2).up x3).up x4
    cases r1' with
    | list hl hx hr =>
      rename_i a vs
      have hl' := hl.push { cls := .type "slice", data := .fields #[vl, vu, vt] }
      have hT : Shared.TypeIs { s with heap := s4.push { cls := .type "slice", data := .fields #[vl, vu, vt] }, toks := t4 } (.ref a) "list" := Heap.IsList.typeIs (s := { s with heap := s4.push { cls := .type "slice", data := .fields #[vl, vu, vt] }, toks := t4 }) hl'
      have hsub : ∃ ops, subscripted (.Slice lower upper step p) false (.ref a) (.ref s4.objs.size) = operate ops (getItem (.ref a) (.ref s4.objs.size)) := by
        cases step with
        | none => exact ⟨_, rfl⟩
        | some _ => exact ⟨_, rfl⟩
      obtain ⟨ops, hsub⟩ := hsub
      refine tail_any hT slot_list_getitem.lookup (wpAny_getItem_list_slice hl' (Heap.IsSliceOf.new ..) pl pu pt h0 ?_ (by rw [List.size_toArray, hr.length, sizeLine_eq]; omega)) hsub
      rw [pick_eq]
      exact k _ _ _ ((((x1.trans x2).trans x3).trans x4).trans ((Ext.push _ _).trans (Ext.push _ _))) (rep_newList (f := f) (st4.w.up (Ext.push _ _)) ((hr.pick lo hi st).ext (Ext.push _ _)))))
end
end Mine
end
section
namespace Mine
open PySem PySem.W PySem.Calls PyProof.Rows PySem.Spec

section
variable {C : Addr} {h h' : Heap} {X M : Addr → Prop}
theorem ns_ne_cell {a b : Addr} {m : Str → Option Value} {v : Option Value} (n : h.Ns a m) (x : h.IsCell b v) : a ≠ b := by
  rintro rfl
  obtain ⟨o, es, ep, e, d, _⟩ := n
  obtain ⟨o', e', d'⟩ := x
  rw [e] at e'; cases e'; rw [d] at d'; cases d'
theorem ns_ne_list {a b : Addr} {m : Str → Option Value} {vs : Array Value} (n : h.Ns a m) (x : h.IsList b vs) : a ≠ b := by
  rintro rfl
  obtain ⟨o, es, ep, e, d, _⟩ := n
  obtain ⟨o', e', _, k, d'⟩ := x
  rw [e] at e'; cases e'; rw [d] at d'; cases d'
theorem cell_ne_list {a b : Addr} {v : Option Value} {vs : Array Value} (n : h.IsCell a v) (x : h.IsList b vs) : a ≠ b := by
  rintro rfl
  obtain ⟨o, e, d⟩ := n
  obtain ⟨o', e', _, k, d'⟩ := x
  rw [e] at e'; cases e'; rw [d] at d'; cases d'
theorem EnRep.same {b : Addr} {v : Value} {en : En} (hs : Heap.SameBut b h h') (hb : X b) (hne : ∀ a ds, en = .own a ds → a ≠ b) (r : EnRep C h X M v en) : EnRep C h' X M v en := by
  have keep : ∀ x o, ¬ X x → h.get? x = some o → h'.get? x = some o := fun x o n e => (hs.2 x (fun q => n (q ▸ hb))).trans e
  cases en with
  | imm d => exact Rep.keep keep r
  | own a ds =>
    obtain ⟨vs, e, hm, hl, hr⟩ := r
    exact ⟨vs, e, hm, hl.extBut hs.extBut (hne a ds rfl), hr.keep keep⟩
theorem EnRep.list {v : Value} {a : Addr} {ds : List D} (r : EnRep C h X M v (.own a ds)) : ∃ vs, h.IsList a vs := let ⟨vs, _, _, hl, _⟩ := r; ⟨_, hl.isList⟩
end

section
variable {c : Cx} {f : Fx} {ρ ρ' : Rho} {k : Nat}

theorem St.en {h : Heap} (st : St c f ρ h) {x : Str} {en : En} (hx : (x, some en) ∈ ρ) : ∃ v, EnRep c.C h f.X f.M v en := by
  by_cases hl : f.env.kindOf x = some .local
  · obtain ⟨m, hn, r⟩ := st.ns
    obtain ⟨v, hv, hr⟩ := r x en hx hl
    exact ⟨v, hr⟩
  · obtain ⟨a, v, hk, hc, hv, hr⟩ := st.cs x en hx hl
    exact ⟨v, hr⟩
theorem Ext.sameBut {g h h' : Heap} {b : Addr} (e : Ext g h) (hs : Heap.SameBut b h h') (hb : g.get? b = none) : Ext g h' := fun x o q =>
  (hs.2 x (fun z => by subst z; rw [hb] at q; cases q)).trans (e x o q)

/-- where a name may be stored -/
noncomputable def Stor (f : Fx) (x : Str) : Prop := f.env.kindOf x = some .local ∨ (f.env.kindOf x = some .cell ∧ ∃ a, f.env.cells.lookup x = some a ∧ f.M a)

theorem store_enE' (o : OkE c f) {x : Str} {en : En} {v : Value} (u : Upd ρ x (some en) ρ') (hk : Stor f x) {s : Shared} {Q : Unit → Shared → Prop} {E : Value → Shared → Prop} (st : St c f ρ s.heap)
    (r : EnRep c.C s.heap f.X f.M v en) (hoa : ∀ a ds, en = .own a ds → ∀ y es, (y, some (En.own a es)) ∉ ρ)
    (q : ∀ h' tk b, f.M b → Heap.SameBut b s.heap h' → (∃ o, h'.get? b = some o) → (f.env.kindOf x = some .local → b = f.env.locals) → St c f ρ' h' → Q () { s with heap := h', toks := tk }) : wpAny (model c.prog c.w) f.A (storeName f.env x v) Q E s := by
  have um := u.mem st.nd
  have noa : ∀ x y a ds es, (x, some (En.own a ds)) ∈ ρ' → (y, some (En.own a es)) ∈ ρ' → x = y := by
    intro x1 y1 a ds es h1 h2
    rcases um _ h1 with e1 | ⟨e1, n1⟩ <;> rcases um _ h2 with e2 | ⟨e2, n2⟩
    · cases e1; cases e2; rfl
    · cases e1; exact absurd e2 (hoa a ds rfl _ _)
    · cases e2; exact absurd e1 (hoa a es rfl _ _)
    · exact st.oa _ _ _ _ _ e1 e2
  have ownl : ∀ {y : Str} {en' : En} {a : Addr} {ds : List D}, (y, some en') ∈ ρ → en' = .own a ds → ∃ vs, s.heap.IsList a vs := fun {y en' a ds} hy e => by
    obtain ⟨v', r'⟩ := st.en hy
    subst e
    exact r'.list
  obtain ⟨m, hn, hr⟩ := st.ns
  rcases hk with hl | ⟨hc, a, ha, hMa⟩
  · refine wpAny_storeName_local hl hn (fun h' hn' hs => ?_) (by rw [o.kind]; rfl)
    have hL := o.loc
    have hX := o.mx _ hL
    have xk : ∃ ob, h'.get? f.env.locals = some ob := let ⟨ob, _, _, e, _⟩ := hn'; ⟨ob, e⟩
    refine q h' _ _ hL hs xk (fun _ => rfl) ⟨by rw [u.names]; exact st.nd, st.ext.sameBut hs (o.dis _ hX), fun a ha => ?_, fun y a e => ?_, noa, ⟨_, hn', fun y en' hy hyl => ?_⟩, fun y en' hy hyl => ?_⟩
    · by_cases e : a = f.env.locals
      · subst e; exact xk
      · obtain ⟨ob, q⟩ := st.xok a ha; exact ⟨ob, (hs.2 a e).trans q⟩
    · obtain ⟨v', x'⟩ := st.cl y a e
      exact ⟨v', x'.sameBut hs (Ne.symm (ns_ne_cell hn x'))⟩
    · rcases um _ hy with e1 | ⟨e1, n1⟩
      · cases e1
        refine ⟨v, by simp, r.same hs hX fun a ds e => ?_⟩
        subst e
        obtain ⟨vs, il⟩ := r.list
        exact Ne.symm (ns_ne_list hn il)
      · obtain ⟨v', hv', r'⟩ := hr y en' e1 hyl
        refine ⟨v', by rw [if_neg n1]; exact hv', r'.same hs hX fun a ds e => ?_⟩
        obtain ⟨vs, il⟩ := ownl e1 e
        exact Ne.symm (ns_ne_list hn il)
    · rcases um _ hy with e1 | ⟨e1, n1⟩
      · cases e1; exact absurd hl hyl
      · obtain ⟨a, v', hk, hc, hv, r'⟩ := st.cs y en' e1 hyl
        refine ⟨a, v', hk, hc, hv.sameBut hs (Ne.symm (ns_ne_cell hn hv)), r'.same hs hX fun a ds e => ?_⟩
        obtain ⟨vs, il⟩ := ownl e1 e
        exact Ne.symm (ns_ne_list hn il)
  · obtain ⟨v₀, hv₀⟩ := st.cl x a ha
    refine wpAny_storeName_cell o.kind hc ha hv₀ fun h' hv' hs => ?_
    have hX := o.mx _ hMa
    have xk : ∃ ob, h'.get? a = some ob := let ⟨ob, e, _⟩ := hv'; ⟨ob, e⟩
    have same : { s with heap := h' } = { s with heap := h', toks := s.toks } := rfl
    rw [same]
    refine q h' s.toks _ hMa hs xk (fun z => by rw [hc] at z; cases z) ⟨by rw [u.names]; exact st.nd, st.ext.sameBut hs (o.dis _ hX), fun b hb => ?_, fun y b e => ?_, noa, ⟨m, hn.sameBut hs (ns_ne_cell hn hv₀), fun y en' hy hyl => ?_⟩, fun y en' hy hyl => ?_⟩
    · by_cases e : b = a
      · subst e; exact xk
      · obtain ⟨ob, q⟩ := st.xok b hb; exact ⟨ob, (hs.2 b e).trans q⟩
    · by_cases e' : b = a
      · subst e'; exact ⟨_, hv'⟩
      · obtain ⟨v1, x1⟩ := st.cl y b e
        exact ⟨v1, x1.sameBut hs e'⟩
    · rcases um _ hy with e1 | ⟨e1, n1⟩
      · cases e1; rw [hc] at hyl; cases hyl
      · obtain ⟨v', hv', r'⟩ := hr y en' e1 hyl
        refine ⟨v', hv', r'.same hs hX fun b ds e => ?_⟩
        obtain ⟨vs, il⟩ := ownl e1 e
        exact Ne.symm (cell_ne_list hv₀ il)
    · rcases um _ hy with e1 | ⟨e1, n1⟩
      · cases e1
        refine ⟨a, v, .inl hc, ha, hv', r.same hs hX fun b ds e => ?_⟩
        subst e
        obtain ⟨vs, il⟩ := r.list
        exact Ne.symm (cell_ne_list hv₀ il)
      · obtain ⟨b, v', hk, hcb, hv, r'⟩ := st.cs y en' e1 hyl
        have hba : b ≠ a := fun e => n1 (o.apart y x a (e ▸ hcb) ha)
        refine ⟨b, v', hk, hcb, hv.sameBut hs hba, r'.same hs hX fun b ds e => ?_⟩
        obtain ⟨vs, il⟩ := ownl e1 e
        exact Ne.symm (cell_ne_list hv₀ il)
theorem store_en' (o : Ok c f k) {x : Str} {en : En} {v : Value} (u : Upd ρ x (some en) ρ') (hk : Stor f x) {s : Shared} {Q : Unit → Shared → Prop} {E : Value → Shared → Prop} (st : St c f ρ s.heap)
    (r : EnRep c.C s.heap f.X f.M v en) (hoa : ∀ a ds, en = .own a ds → ∀ y es, (y, some (En.own a es)) ∉ ρ)
    (q : ∀ h' tk b, f.M b → Heap.SameBut b s.heap h' → (∃ o, h'.get? b = some o) → (f.env.kindOf x = some .local → b = f.env.locals) → St c f ρ' h' → Q () { s with heap := h', toks := tk }) : wpAny (model c.prog c.w) f.A (storeName f.env x v) Q E s := store_enE' o.toOkE u hk st r hoa q
theorem store_enE (o : OkE c f) {x : Str} {en : En} {v : Value} (u : Upd ρ x (some en) ρ') (hk : Stor f x) {s : Shared} {Q : Unit → Shared → Prop} {E : Value → Shared → Prop} (st : St c f ρ s.heap)
    (r : EnRep c.C s.heap f.X f.M v en) (hoa : ∀ a ds, en = .own a ds → ∀ y es, (y, some (En.own a es)) ∉ ρ)
    (q : ∀ h' tk, Keep f.M s.heap h' → St c f ρ' h' → Q () { s with heap := h', toks := tk }) : wpAny (model c.prog c.w) f.A (storeName f.env x v) Q E s :=
  store_enE' o u hk st r hoa fun h' tk b hb hs xk _ st' => q h' tk (Keep.same hs hb xk) st'
theorem store_en (o : Ok c f k) {x : Str} {en : En} {v : Value} (u : Upd ρ x (some en) ρ') (hk : Stor f x) {s : Shared} {Q : Unit → Shared → Prop} {E : Value → Shared → Prop} (st : St c f ρ s.heap)
    (r : EnRep c.C s.heap f.X f.M v en) (hoa : ∀ a ds, en = .own a ds → ∀ y es, (y, some (En.own a es)) ∉ ρ)
    (q : ∀ h' tk, Keep f.M s.heap h' → St c f ρ' h' → Q () { s with heap := h', toks := tk }) : wpAny (model c.prog c.w) f.A (storeName f.env x v) Q E s := store_enE o.toOkE u hk st r hoa q
theorem store_ofE (o : OkE c f) {x : Str} {d : D} {v : Value} (u : Upd ρ x (some (.imm d)) ρ') (hk : Stor f x) {s : Shared} {Q : Unit → Shared → Prop} {E : Value → Shared → Prop} (st : St c f ρ s.heap)
    (r : Rep c.C s.heap f.X v d) (q : ∀ h' tk, Keep f.M s.heap h' → St c f ρ' h' → Q () { s with heap := h', toks := tk }) : wpAny (model c.prog c.w) f.A (storeName f.env x v) Q E s :=
  store_enE o u hk st r (fun a ds e => by cases e) q

theorem store_of (o : Ok c f k) {x : Str} {d : D} {v : Value} (u : Upd ρ x (some (.imm d)) ρ') (hk : Stor f x) {s : Shared} {Q : Unit → Shared → Prop} {E : Value → Shared → Prop} (st : St c f ρ s.heap)
    (r : Rep c.C s.heap f.X v d) (q : ∀ h' tk, Keep f.M s.heap h' → St c f ρ' h' → Q () { s with heap := h', toks := tk }) : wpAny (model c.prog c.w) f.A (storeName f.env x v) Q E s := store_ofE o.toOkE u hk st r q

/-- a plain Assign to a name -/
theorem ex_assign (o : Ok c f k) {x : Str} {e : Expr} {d : D} {px pos : Pos} (h : Ev c f ρ e d) (u : Upd ρ x (some (.imm d)) ρ') (hk : Stor f x) (hs : swapsWith e (some (.Name x px)) pos.line f.env = pure false) :
    Ex c f ρ (.Assign [.Name x px] e pos) ρ' .next := fun s Q E st q =>
  wpAny_Assign_Name (h s _ E st fun v h1 t1 x1 r1 => store_of o u hk (st.up x1) r1 fun h2 t2 x2 s2 => q .next h2 t2 (x1.keep.trans x2) trivial s2) hs

theorem ex_augE (o : OkE c f) {x : Str} {e : Expr} {op : Operator} {d0 d1 d : D} {px pos : Pos} (hx : (x, some (En.imm d0)) ∈ ρ) (hd : (x == ("__classdict__" : Str)) = false) (h : Ev c f ρ e d1) (hop : Op2 c f (inplaceOp op) d0 d1 d) (u : Upd ρ x (some (.imm d)) ρ') (hk : Stor f x) :
    Ex c f ρ (.AugAssign (.Name x px) op e pos) ρ' .next := fun s Q E st q =>
  wpAny_AugAssign_Name (load_ofE o hx hd st fun v0 r0 => h s _ E st fun v1 h1 t1 x1 r1 => hop _ v0 v1 _ E (st.up x1).w (Rep.ext x1 r0) r1 fun v h2 t2 x2 r2 =>
    store_ofE o u hk ((st.up x1).up x2) r2 fun h3 t3 x3 s3 => q .next h3 t3 ((x1.trans x2).keep.trans x3) trivial s3)

theorem ex_aug (o : Ok c f k) {x : Str} {e : Expr} {op : Operator} {d0 d1 d : D} {px pos : Pos} (hx : (x, some (En.imm d0)) ∈ ρ) (hd : (x == ("__classdict__" : Str)) = false) (h : Ev c f ρ e d1) (hop : Op2 c f (inplaceOp op) d0 d1 d) (u : Upd ρ x (some (.imm d)) ρ') (hk : Stor f x) :
    Ex c f ρ (.AugAssign (.Name x px) op e pos) ρ' .next := fun s Q E st q =>
  wpAny_AugAssign_Name (load_of o hx hd st fun v0 r0 => h s _ E st fun v1 h1 t1 x1 r1 => hop _ v0 v1 _ E (st.up x1).w (Rep.ext x1 r0) r1 fun v h2 t2 x2 r2 =>
    store_of o u hk ((st.up x1).up x2) r2 fun h3 t3 x3 s3 => q .next h3 t3 ((x1.trans x2).keep.trans x3) trivial s3)

theorem exs_nil : Exs c f ρ [] ρ .next := fun s Q E st q => wpAny_execs_nil (q .next s.heap s.toks (Keep.refl _) trivial st)
theorem exs_cons {st : Stmt} {rest : List Stmt} {ρ1 : Rho} {o : Out} (h1 : Ex c f ρ st ρ1 .next) (h2 : Exs c f ρ1 rest ρ' o) : Exs c f ρ (st :: rest) ρ' o := fun s Q E hst q =>
  wpAny_execs_cons (h1 s _ E hst fun fl h1 t1 x1 r1 s1 => by
    cases fl with
    | next => exact h2 _ _ E s1 fun fl h2 t2 x2 r2 s2 => q fl h2 t2 (x1.trans x2) r2 s2
    | _ => exact r1.elim)
theorem exs_stop {st : Stmt} {rest : List Stmt} {o : Out} (h1 : Ex c f ρ st ρ' o) (ho : o ≠ .next) : Exs c f ρ (st :: rest) ρ' o := fun s Q E hst q =>
  wpAny_execs_cons (h1 s _ E hst fun fl h1 t1 x1 r1 s1 => by
    cases fl with
    | next => cases o <;> first | exact absurd rfl ho | exact r1.elim
    | _ => exact q _ h1 t1 x1 r1 s1)
theorem ex_ret {e : Expr} {d : D} {pos : Pos} (h : Ev0 c f ρ e d) : Ex c f ρ (.Return (some e) pos) ρ (.ret d) := fun s Q E st q =>
  wpAny_Return_some (h s _ E st fun v h1 t1 x1 r1 => q (.ret v) h1 t1 x1.keep r1 (st.up x1))
theorem ex_break {pos : Pos} : Ex c f ρ (.Break pos) ρ .brk := fun s Q E st q => wpAny_Break (q .brk s.heap s.toks (Keep.refl _) trivial st)

/-- a test -/
noncomputable def Tr (c : Cx) (f : Fx) (ρ : Rho) (e : Expr) (b : Bool) : Prop :=
  ∀ (s : Shared) (Q : Bool → Shared → Prop) (E : Value → Shared → Prop), St c f ρ s.heap → (∀ h' tk, Ext s.heap h' → Q b { s with heap := h', toks := tk }) →
    wpAny (model c.prog c.w) f.A (isTrue e f.env (eval e f.env)) Q E s

theorem ex_if {test : Expr} {body orelse : List Stmt} {pos : Pos} {b : Bool} {o : Out} (t : Tr c f ρ test b) (h : Exs c f ρ (if b then body else orelse) ρ' o) : Ex c f ρ (.If test body orelse pos) ρ' o := fun s Q E st q =>
  wpAny_If (t s _ E st fun h1 t1 x1 => by
    cases b with
    | true => exact h _ _ E (st.up x1) fun fl h2 t2 x2 r2 s2 => q fl h2 t2 (x1.keep.trans x2) r2 s2
    | false => exact h _ _ E (st.up x1) fun fl h2 t2 x2 r2 s2 => q fl h2 t2 (x1.keep.trans x2) r2 s2)
theorem tr_cmp {l r : Expr} {op : CmpOp} {pos : Pos} {d1 d2 : D} {b : Bool} (h1 : Ev0 c f ρ l d1) (h2 : Ev0 c f ρ r d2) (h : Cm c f op d1 d2 b) (hm : behindInMarks op r = false) : Tr c f ρ (.Compare l [op] [r] pos) b := fun s Q E st k =>
  wpAny_isTrue_Compare1 (h1 s _ E st fun v1 s1 t1 x1 r1 => h2 _ _ E (st.up x1) fun v2 s2 t2 x2 r2 => h _ v1 v2 _ E ((st.up x1).up x2).w (r1.ext x2) r2 fun s3 t3 x3 =>
    wpAny_truthy_bool (k s3 t3 ((x1.trans x2).trans x3))) hm
theorem tr_not {e : Expr} {pos : Pos} {b : Bool} (h : Tr c f ρ e b) : Tr c f ρ (.UnaryOp .Not e pos) (!b) := fun s Q E st k => by
  rw [arm_isTrue_UnaryOp]
  exact wpAny_bind (h s _ E st fun h1 t1 x1 => wpAny_pure (k h1 t1 x1))
/-- a test that is a call's bool -/
theorem tr_call {fn : Expr} {args : List Expr} {kws : List Keyword} {pos : Pos} {b : Bool} (h : Ev c f ρ (.Call fn args kws pos) (.bool b)) : Tr c f ρ (.Call fn args kws pos) b := fun s Q E st k => by
  refine wpAny_isTrue_value (h s _ E st fun v h1 t1 x1 r1 => ?_)
  cases r1
  exact wpAny_truthy_bool (k h1 t1 x1)
theorem tr_true {n : Nat} {pos : Pos} {b : Bool} : Tr c f ρ (.Constant (.bool b) n pos) b := fun s Q E st k => by
  exact wpAny_isTrue_value (wpAny_pure (wpAny_truthy_bool (k s.heap s.toks (Ext.refl _))))
theorem tr_and2 {a b : Expr} {pos : Pos} {x y : Bool} (h1 : Tr c f ρ a x) (h2 : x = true → Tr c f ρ b y) : Tr c f ρ (.BoolOp .And [a, b] pos) (x && y) := fun s Q E st k => by
  rw [arm_isTrue_BoolOp, arm_allTrue_cons]
  refine wpAny_bind (h1 s _ E st fun h' t' x1 => ?_)
  cases x with
  | false => exact wpAny_pure (k h' t' x1)
  | true =>
    show wpAny _ _ (allTrue .And [b] f.env) Q E _
    rw [arm_allTrue_cons]
    refine wpAny_bind (h2 rfl _ _ E (st.up x1) fun h2' t2 x2 => ?_)
    cases y with
    | false => exact wpAny_pure (k h2' t2 (x1.trans x2))
    | true => exact wpAny_pure (k h2' t2 (x1.trans x2))
theorem tr_or2 {a b : Expr} {pos : Pos} {x y : Bool} (h1 : Tr c f ρ a x) (h2 : x = false → Tr c f ρ b y) : Tr c f ρ (.BoolOp .Or [a, b] pos) (x || y) := fun s Q E st k => by
  rw [arm_isTrue_BoolOp, arm_allTrue_cons]
  refine wpAny_bind (h1 s _ E st fun h' t' x1 => ?_)
  cases x with
  | true => exact wpAny_pure (k h' t' x1)
  | false =>
    show wpAny _ _ (allTrue .Or [b] f.env) Q E _
    rw [arm_allTrue_cons]
    refine wpAny_bind (h2 rfl _ _ E (st.up x1) fun h2' t2 x2 => ?_)
    cases y with
    | false => exact wpAny_pure (k h2' t2 (x1.trans x2))
    | true => exact wpAny_pure (k h2' t2 (x1.trans x2))

/-- a while -/
noncomputable def Wh (c : Cx) (f : Fx) (test : Expr) (body : List Stmt) (ρ ρ' : Rho) (o : Out) : Prop :=
  ∀ (s : Shared) (R : Result → Shared → Prop), St c f ρ s.heap → (∀ fl h' tk, Keep f.M s.heap h' → FlRep c.C h' f.X f.M fl o → St c f ρ' h' → R (.ok fl) { s with heap := h', toks := tk }) →
    codeAny (model c.prog c.w) f.A (.whileLoop test body [] f.env) R s
theorem wh_turn {test : Expr} {body : List Stmt} {s : Shared} {R : Result → Shared → Prop}
    (h : wpAny (model c.prog c.w) f.A (isTrue test f.env (eval test f.env)) (fun b s₂ =>
        if b then wpAny (model c.prog c.w) f.A (execs body f.env) (fun fl s₃ => match fl with
            | .next | .cont => codeAny (model c.prog c.w) f.A (.whileLoop test body [] f.env) R s₃
            | .brk => R (.ok .next) s₃
            | .ret v => R (.ok (.ret v)) s₃) (notedBy (model c.prog c.w) f.A f.env fun e s' => R (.error e) s') s₂
        else R (.ok .next) s₂) (notedBy (model c.prog c.w) f.A f.env fun e s' => R (.error e) s') s) : codeAny (model c.prog c.w) f.A (.whileLoop test body [] f.env) R s := by
  refine codeAny_of_tree ?_
  show wpAny _ f.A ((whileTurn test body [] f.env).onRaise (fun x => do noteFrame x f.env; theTreesLotGoes x)) _ _ s
  refine wpAny_noted ?_
  simp only [whileTurn]
  refine wpAny_bind (wpAny_mono h (fun b s₂ h₂ => ?_) fun _ _ h' => h')
  cases b with
  | false =>
    simp only [Bool.false_eq_true, if_false] at h₂ ⊢
    exact wpAny_bind (wpAny_execs_nil (wpAny_pure h₂))
  | true =>
    simp only [if_true] at h₂ ⊢
    refine wpAny_bind (wpAny_mono h₂ (fun fl s₃ h₃ => ?_) fun _ _ h' => h')
    cases fl with
    | next => exact wpAny_pure ⟨rfl, h₃⟩
    | cont => exact wpAny_pure ⟨rfl, h₃⟩
    | brk => exact wpAny_pure h₃
    | ret v => exact wpAny_pure h₃
theorem wh_stop {test : Expr} {body : List Stmt} (t : Tr c f ρ test false) : Wh c f test body ρ ρ .next := fun s R st q =>
  wh_turn (t s _ _ st fun h1 t1 x1 => by
    simp only [Bool.false_eq_true, if_false]
    exact q .next h1 t1 x1.keep trivial (st.up x1))
theorem wh_step {test : Expr} {body : List Stmt} {ρ1 : Rho} {o : Out} (t : Tr c f ρ test true) (h : Exs c f ρ body ρ1 .next) (w : Wh c f test body ρ1 ρ' o) : Wh c f test body ρ ρ' o := fun s R st q =>
  wh_turn (t s _ _ st fun h1 t1 x1 => by
    simp only [if_true]
    refine h _ _ _ (st.up x1) fun fl h2 t2 x2 r2 s2 => ?_
    cases fl with
    | next => exact w _ _ s2 fun fl h3 t3 x3 r3 s3 => q fl h3 t3 ((x1.keep.trans x2).trans x3) r3 s3
    | _ => exact r2.elim)
theorem ex_while {test : Expr} {body : List Stmt} {pos : Pos} {o : Out} (w : Wh c f test body ρ ρ' o) : Ex c f ρ (.While test body [] pos) ρ' o := fun s Q E st q => wpAny_While (w s _ st q)
end
end Mine
end
section
namespace Mine
open PySem PySem.W PySem.Calls PyProof.Rows PySem.Spec

/-- a function's contract -/
noncomputable def Fn (c : Cx) (k : Nat) (fv : Value) (ds : List D) (d : D) : Prop :=
  ∀ (A : Around) (X : Addr → Prop) (s : Shared) (vs : List Value) (Q E : Value → Shared → Prop), Room k A → Ext c.g s.heap → (∀ a, X a → c.g.get? a = none) → (∀ a, X a → ∃ o, s.heap.get? a = some o) → Reps c.C s.heap X vs ds →
    (∀ v h' tk, Ext s.heap h' → Rep c.C h' X v d → Q v { s with heap := h', toks := tk }) → wpAny (model c.prog c.w) A (call fv vs) Q E s
/-- what callWith does with it -/
noncomputable def Kp (c : Cx) (fv : Value) : Prop :=
  ∀ (A : Around) (s : Shared) (pos : Pos) (args : List (Bool × Sem Value)) (Q E : Value → Shared → Prop), args.any (·.1) = false →
    wpAny (model c.prog c.w) A (evalArgs fv true args []) (fun x s₁ => Ext c.g s₁.heap ∧ wpAny (model c.prog c.w) A (call fv x.pos x.kw) Q E s₁) E s → wpAny (model c.prog c.w) A (callWith pos fv [] args []) Q E s
theorem kp_fn {c : Cx} {a : Addr} {o : Obj} {fd : FuncData} (ho : c.g.get? a = some o) (hd : o.data = .func fd) : Kp c (.ref a) := fun A s pos args Q E _ h =>
  callWith_function (o := o) (fd := fd) (first := []) (wpAny_mono h (fun x s₁ h₁ => ⟨⟨h₁.1 _ _ ho, hd⟩, h₁.2⟩) fun _ _ e => e)
theorem kp_builtin {c : Cx} {id : String} : Kp c (.builtin id) := fun A s pos args Q E hp h => callWith_builtin (first := []) hp (wpAny_mono h (fun x s₁ h₁ => h₁.2) fun _ _ e => e)
theorem kp_type {c : Cx} {T : String} : Kp c (.type T) := fun A s pos args Q E hp h => PySem.callWith_type (first := []) hp (wpAny_mono h (fun x s₁ h₁ => h₁.2) fun _ _ e => e)

/-- a body that returns -/
noncomputable def Bd (c : Cx) (f : Fx) (ρ : Rho) (st : List Stmt) (d : D) : Prop :=
  ∀ (s : Shared) (Q : Flow → Shared → Prop) (E : Value → Shared → Prop), St c f ρ s.heap →
    (∀ v h' tk, Keep f.M s.heap h' → Rep c.C h' f.Y v d → Q (.ret v) { s with heap := h', toks := tk }) → wpAny (model c.prog c.w) f.A (execs st f.env) Q E s

section
variable {c : Cx} {f : Fx} {ρ ρ' : Rho} {k : Nat}

theorem any_backTo (pos : Pos) (l : List (Bool × Sem Value)) : (backTo pos l).any (·.1) = l.any (·.1) := by
  unfold backTo
  rw [List.any_map]
  rfl
theorem evl_any {es : List Expr} (h : es.all (fun e => !isStarred e) = true) (env : Env) : (starEach es env).any (·.1) = false := by
  induction es with
  | nil => rfl
  | cons e es ih =>
    rw [List.all_cons, Bool.and_eq_true] at h
    have e1 : starEach (e :: es) env = (false, eval e env) :: starEach es env := by
      have := h.1
      cases e <;> first | rfl | cases this
    rw [e1, List.any_cons, ih h.2]; rfl

theorem args_of {fv : Value} {e : Expr} {es : List Expr} {pos : Pos} {s : Shared} {Q : Args → Shared → Prop} {E : Value → Shared → Prop} (he : isStarred e = false)
    (h : wpAny (model c.prog c.w) f.A (spliced (backTo pos (starEach (e :: es) f.env))) (fun vs s' => Q ⟨vs, []⟩ s') E s) : wpAny (model c.prog c.w) f.A (evalArgs fv true (backTo pos (starEach (e :: es) f.env)) []) Q E s := by
  have e1 : starEach (e :: es) f.env = (false, eval e f.env) :: starEach es f.env := by cases e <;> first | rfl | cases he
  rw [e1] at h ⊢
  exact evalArgs_plain h

theorem ev_call (o : Ok c f k) {x : Str} {px : Pos} {e : Expr} {es : List Expr} {pos : Pos} {fv : Value} {ds : List D} {d : D} (hf : Ev c f ρ (.Name x px) (.val fv)) (ha : EvL c f ρ (e :: es) ds) (F : Fn c k fv ds d) (kp : Kp c fv)
    (hs : (e :: es).all (fun e => !isStarred e) = true) : Ev c f ρ (.Call (.Name x px) (e :: es) [] pos) d := fun s Q E st q => by
  refine wpAny_Call_NameR (hf s _ E st fun v h1 t1 x1 r1 => ?_)
  cases r1
  refine kp f.A _ pos _ Q E (by rw [any_backTo]; exact evl_any hs _) (args_of (by rw [List.all_cons, Bool.and_eq_true] at hs; simpa using hs.1) (ha pos _ _ E (st.up x1) fun vs h2 t2 x2 r2 => ?_))
  exact ⟨((st.up x1).up x2).ext, F f.A f.X _ vs Q E o.room ((st.up x1).up x2).ext o.dis ((st.up x1).up x2).xok r2 fun v h3 t3 x3 r3 => q v h3 t3 ((x1.trans x2).trans x3) r3⟩
/-- a call whose arguments may be own lists and whose answer is no object -/
theorem ev_call0 (o : Ok c f k) {x : Str} {px : Pos} {e : Expr} {es : List Expr} {pos : Pos} {fv : Value} {ds : List D} {i : Int} (hf : Ev c f ρ (.Name x px) (.val fv)) (ha : EvL0 c f ρ (e :: es) ds) (F : Fn c k fv ds (.int i)) (kp : Kp c fv)
    (hs : (e :: es).all (fun e => !isStarred e) = true) : Ev c f ρ (.Call (.Name x px) (e :: es) [] pos) (.int i) := fun s Q E st q => by
  refine wpAny_Call_NameR (hf s _ E st fun v h1 t1 x1 r1 => ?_)
  cases r1
  refine kp f.A _ pos _ Q E (by rw [any_backTo]; exact evl_any hs _) (args_of (by rw [List.all_cons, Bool.and_eq_true] at hs; simpa using hs.1) (ha pos _ _ E (st.up x1) fun vs h2 t2 x2 r2 => ?_))
  refine ⟨((st.up x1).up x2).ext, F f.A f.Y _ vs Q E o.room ((st.up x1).up x2).ext (fun a q => o.dis a q.1) (fun a q => ((st.up x1).up x2).xok a q.1) r2 fun v h3 t3 x3 r3 => q v h3 t3 ((x1.trans x2).trans x3) ?_⟩
  cases r3
  exact .int _ _

theorem bd_seq {st : Stmt} {rest : List Stmt} {d : D} (h1 : Ex c f ρ st ρ' .next) (h2 : Bd c f ρ' rest d) : Bd c f ρ (st :: rest) d := fun s Q E hst q =>
  wpAny_execs_cons (h1 s _ E hst fun fl h1 t1 x1 r1 s1 => by
    cases fl with
    | next => exact h2 _ _ E s1 fun v h2 t2 x2 r2 => q v h2 t2 (x1.trans x2) r2
    | _ => exact r1.elim)
theorem bd_stop {st : Stmt} {rest : List Stmt} {d : D} (h1 : Ex c f ρ st ρ' (.ret d)) : Bd c f ρ (st :: rest) d := fun s Q E hst q =>
  wpAny_execs_cons (h1 s _ E hst fun fl h1 t1 x1 r1 s1 => by
    cases fl with
    | ret v => exact q v h1 t1 x1 r1
    | _ => exact r1.elim)
/-- a new list of the frame's own -/
noncomputable def Fx.add (f : Fx) (a : Addr) : Fx := { f with X := fun b => f.X b ∨ b = a, M := fun b => f.M b ∨ b = a }
noncomputable def EvF (c : Cx) (f : Fx) (ρ : Rho) (e : Expr) (ds : List D) : Prop :=
  ∀ (s : Shared) (Q E : Value → Shared → Prop), St c f ρ s.heap → (∀ a vs h1 n tk, Ext s.heap h1 → St c f ρ h1 → a = h1.objs.size → Reps c.C h1 f.X vs ds → Q (.ref a) { s with heap := h1.push { cls := .type "list", data := .seq vs.toArray n }, toks := tk }) →
    wpAny (model c.prog c.w) f.A (eval e f.env) Q E s
theorem evf_list {es : List Expr} {pos : Pos} {ds : List D} (h : EvL c f ρ es ds) (hz : ds.length ≤ 1000000) : EvF c f ρ (.List es pos) ds := fun s Q E st k =>
  wpAny_List (h pos s _ E st fun vs h1 t1 x1 r1 => ⟨by rw [r1.length, sizeLine_eq]; omega, k _ vs h1 0 t1 x1 (st.up x1) rfl r1⟩)
theorem Ok.add {a : Addr} (o : Ok c f k) (ha : c.g.get? a = none) : Ok c (f.add a) k where
  kind := o.kind
  glob := o.glob
  blt := o.blt
  mx := fun b q => q.imp (o.mx b) id
  loc := .inl o.loc
  apart := o.apart
  dis := fun b q => q.elim (o.dis b) fun e => e ▸ ha
  room := o.room
theorem EnRep.more {C : Addr} {h : Heap} {X M : Addr → Prop} {a : Addr} {v : Value} {en : En} (ha : h.get? a = none) (r : EnRep C h X M v en) : EnRep C h (fun b => X b ∨ b = a) (fun b => M b ∨ b = a) v en := by
  cases en with
  | imm d => exact Rep.more ha r
  | own b ds => obtain ⟨vs, e, hm, hl, hs⟩ := r; exact ⟨vs, e, .inl hm, hl, hs.more ha⟩
theorem St.add {h : Heap} {o : Obj} (st : St c f ρ h) (hf : o.isFreed = false) : St c (f.add h.objs.size) ρ (h.push o) where
  nd := st.nd
  ext := st.ext.trans (Ext.push _ _)
  xok := fun a q => q.elim (fun q => let ⟨o, e⟩ := st.xok a q; ⟨o, Heap.get?_push_of_some _ e⟩) fun e => ⟨o, e ▸ Heap.get?_push_size _ hf⟩
  cl := fun x a e => let ⟨v, q⟩ := st.cl x a e; ⟨v, q.keeps (Ext.push _ _)⟩
  oa := st.oa
  ns := let ⟨m, hn, r⟩ := st.ns; ⟨m, hn.keeps (Ext.push _ _), fun x en hx hl => let ⟨v, h1, h2⟩ := r x en hx hl; ⟨v, h1, (h2.more (fresh_size h)).ext (Ext.push _ _)⟩⟩
  cs := fun x en hx hl => let ⟨a, v, h1, h2, h3, h4⟩ := st.cs x en hx hl; ⟨a, v, h1, h2, h3.keeps (Ext.push _ _), (h4.more (fresh_size h)).ext (Ext.push _ _)⟩

theorem bd_own (o : Ok c f k) {x : Str} {e : Expr} {rest : List Stmt} {ds : List D} {d : D} {px pos : Pos} (h : EvF c f ρ e ds) (ρ' : Addr → Rho) (u : ∀ a, Upd ρ x (some (.own a ds)) (ρ' a)) (hk : Stor f x)
    (hs : swapsWith e (some (.Name x px)) pos.line f.env = pure false) (hrest : ∀ a, Ok c (f.add a) k → Bd c (f.add a) (ρ' a) rest d) : Bd c f ρ (.Assign [.Name x px] e pos :: rest) d := fun s Q E st q => by
  refine wpAny_execs_cons (wpAny_Assign_Name (h s _ E st fun a vs h1 n t1 x1 st1 ea r1 => ?_) hs)
  subst ea
  have hga : c.g.get? h1.objs.size = none := by
    cases e : c.g.get? h1.objs.size with
    | none => rfl
    | some o' => have := st1.ext _ _ e; rw [fresh_size] at this; cases this
  have o' := o.add hga
  have st2 := st1.add (o := { cls := .type "list", data := .seq vs.toArray n }) rfl
  have hk' : Stor (f.add h1.objs.size) x := hk.imp id fun ⟨h1, a, h2, h3⟩ => ⟨h1, a, h2, .inl h3⟩
  have fresh : ∀ b, f.X b → b ≠ h1.objs.size := fun b hb e => by
    obtain ⟨o, q⟩ := st1.xok b hb
    rw [e, fresh_size] at q; cases q
  refine store_en (f := f.add h1.objs.size) o' (u h1.objs.size) hk' st2 (v := .ref h1.objs.size) ⟨vs, rfl, .inr rfl, ⟨_, _, Heap.get?_push_size _ rfl, rfl, rfl, rfl⟩, (r1.more (fresh_size h1)).ext (Ext.push _ _)⟩ (fun a ds e y es hm => ?_) fun h3 t3 x3 s3 => ?_
  · cases e
    obtain ⟨v, r⟩ := st1.en hm
    obtain ⟨vs', _, hm', hl, _⟩ := r
    exact fresh _ (o.mx _ hm') rfl
  · refine hrest _ o' _ Q E s3 fun v h4 t4 x4 r4 => q v h4 t4 ?_ (r4.less fun b q => ⟨.inl q.1, fun z => z.elim q.2 (fresh b q.1)⟩)
    have big := x3.trans x4
    refine ⟨fun b ob hb e => big.1 b ob ?_ (Heap.get?_push_of_some _ (x1 b ob e)), fun b ob e => big.2 b ob (Heap.get?_push_of_some _ (x1 b ob e))⟩
    refine fun z => z.elim hb fun z => ?_
    have := x1 b ob e
    rw [z, fresh_size] at this; cases this

/-- append to an own list -/
theorem ex_append (o : Ok c f k) {x : Str} {e : Expr} {a : Addr} {ds : List D} {d : D} {px apos cpos pos : Pos} (hx : (x, some (En.own a ds)) ∈ ρ) (hd : (x == ("__debug__" : Str) || x == ("__classdict__" : Str)) = false)
    (h : Ev c f ρ e d) (u : Upd ρ x (some (.own a (ds ++ [d]))) ρ') (hz : ds.length ≤ 1000000) (hline : (apos.endLine == cpos.line) = true) (he : isStarred e = false) (hi : interactive f.env = false) :
    Ex c f ρ (.Expr (.Call (.Attribute (.Name x px) "append" apos) [e] [] cpos) pos) ρ' .next := fun s Q E st q => by
  rw [Bool.or_eq_false_iff] at hd
  have e1 : backTo cpos (starEach [e] f.env) = [(false, eval e f.env)] := by cases e <;> first | rfl | cases he
  refine wpAny_Expr (wpAny_Call_append rfl (by rw [e1]; rfl) hline e1 (wpAny_Name (load_of o hx hd.2 st fun v hr => ?_) hd.1)) hi
  obtain ⟨vs, rfl, hm, hl, hs⟩ := hr
  refine ⟨a, vs.toArray, rfl, hl, h _ _ E st fun v1 h1 t1 x1 r1 => ?_⟩
  have st1 := st.up x1
  have hl1 := hl.keeps x1
  refine list_append_plainL hl1 (fun h2 hl2 hs2 => ?_) (by rw [List.size_toArray, hs.length, sizeLine_eq]; omega)
  have hX := o.mx _ hm
  have keep : ∀ y o, ¬ f.X y → h1.get? y = some o → h2.get? y = some o := fun y o n e => (hs2.2 y (fun q => n (q ▸ hX))).trans e
  have xk : ∃ ob, h2.get? a = some ob := let ⟨ob, _, e, _⟩ := hl2; ⟨ob, e⟩
  have um := u.mem st1.nd
  have same : ({ s with heap := h2, toks := t1 } : Shared) = { { s with heap := h1, toks := t1 } with heap := h2 } := rfl
  rw [← same]
  have arr : vs.toArray.push v1 = (vs ++ [v1]).toArray := by simp
  rw [arr] at hl2
  have new : EnRep c.C h2 f.X f.M (.ref a) (.own a (ds ++ [d])) := ⟨vs ++ [v1], rfl, hm, hl2, (((hs.ext x1).append (.cons r1 .nil)).keep keep)⟩
  obtain ⟨m, hn, hr⟩ := st1.ns
  have other : ∀ {y : Str} {en : En} {v : Value}, (y, some en) ∈ ρ → y ≠ x → EnRep c.C h1 f.X f.M v en → EnRep c.C h2 f.X f.M v en := fun {y en v} hy hyx r => r.same hs2 hX fun b es e => by
    subst e
    intro e2
    subst e2
    exact hyx (st1.oa _ _ _ _ _ hy hx)
  have noa : ∀ x y a ds es, (x, some (En.own a ds)) ∈ ρ' → (y, some (En.own a es)) ∈ ρ' → x = y := by
    intro x1 y1 a' ds' es' h1 h2
    rcases um _ h1 with e1 | ⟨e1, n1⟩ <;> rcases um _ h2 with e2 | ⟨e2, n2⟩
    · cases e1; cases e2; rfl
    · cases e1; exact (st1.oa _ _ _ _ _ hx e2)
    · cases e2; exact (st1.oa _ _ _ _ _ e1 hx)
    · exact st1.oa _ _ _ _ _ e1 e2
  refine q .next h2 t1 (x1.keep.trans (Keep.same hs2 hm xk)) trivial ⟨by rw [u.names]; exact st1.nd, st1.ext.sameBut hs2 (o.dis _ hX), fun b hb => ?_, fun y b e => ?_, noa, ⟨m, hn.sameBut hs2 (ns_ne_list hn hl1.isList), fun y en hy hyl => ?_⟩, fun y en hy hyl => ?_⟩
  · by_cases e : b = a
    · subst e; exact xk
    · obtain ⟨ob, q⟩ := st1.xok b hb; exact ⟨ob, (hs2.2 b e).trans q⟩
  · obtain ⟨v', x'⟩ := st1.cl y b e
    exact ⟨v', x'.sameBut hs2 (cell_ne_list x' hl1.isList)⟩
  · rcases um _ hy with e1 | ⟨e1, n1⟩
    · cases e1
      obtain ⟨v', hv', r'⟩ := hr x _ hx hyl
      obtain ⟨_, rfl, _⟩ := r'
      exact ⟨_, hv', new⟩
    · obtain ⟨v', hv', r'⟩ := hr y en e1 hyl
      exact ⟨v', hv', other e1 n1 r'⟩
  · rcases um _ hy with e1 | ⟨e1, n1⟩
    · cases e1
      obtain ⟨b, v', hk, hc, hv, r'⟩ := st1.cs x _ hx hyl
      obtain ⟨_, rfl, _⟩ := r'
      exact ⟨b, _, hk, hc, hv.sameBut hs2 (cell_ne_list hv hl1.isList), new⟩
    · obtain ⟨b, v', hk, hc, hv, r'⟩ := st1.cs y en e1 hyl
      exact ⟨b, v', hk, hc, hv.sameBut hs2 (cell_ne_list hv hl1.isList), other e1 n1 r'⟩
end
end Mine
end
section
namespace Mine
open PySem PySem.W PySem.Calls PyProof.Rows PySem.Spec

mutual
theorem Rep.ofG {C : Addr} {g h : Heap} {X : Addr → Prop} (e : Ext g h) (hX : ∀ a, X a → g.get? a = .none) : ∀ {v : Value} {d : D}, Rep C g (fun _ => False) v d → Rep C h X v d
  | _, _, .none => .none
  | _, _, .bool b => .bool b
  | _, _, .int i t => .int i t
  | _, _, .list hl hx hs => .list (isList_ext (fun o q => e _ o q) hl) (fun q => by obtain ⟨o, ho, _⟩ := hl; rw [hX _ q] at ho; cases ho) (Reps.ofG e hX hs)
  | _, _, .tuple hl hx hs => .tuple (isTup_ext (fun o q => e _ o q) hl) (fun q => by obtain ⟨o, ho, _⟩ := hl; rw [hX _ q] at ho; cases ho) (Reps.ofG e hX hs)
  | _, _, .key ho hx => .key (e _ _ ho) (fun q => by rw [hX _ q] at ho; cases ho)
  | _, _, .range ho hx => .range (e _ _ ho) (fun q => by unfold IsRange at ho; rw [hX _ q] at ho; cases ho)
  | _, _, .val v => .val v
theorem Reps.ofG {C : Addr} {g h : Heap} {X : Addr → Prop} (e : Ext g h) (hX : ∀ a, X a → g.get? a = .none) : ∀ {vs : List Value} {ds : List D}, Reps C g (fun _ => False) vs ds → Reps C h X vs ds
  | _, _, .nil => .nil
  | _, _, .cons hv hs => .cons (Rep.ofG e hX hv) (Reps.ofG e hX hs)
end

theorem lookup_zip_rev {names : List Str} (nd : names.Nodup) : ∀ {vs : List Value}, ∀ {x : Str} {v : Value}, (x, v) ∈ names.zip vs → (names.zip vs).reverse.lookup x = some v := by
  intro vs x v hm
  have hnd : ((names.zip vs).reverse.map (·.1)).Nodup := by
    rw [List.map_reverse]
    refine List.pairwise_reverse.mpr (List.Pairwise.imp (fun h => Ne.symm h) ?_)
    have : ∀ (ns : List Str) (vs : List Value), ns.Nodup → ((ns.zip vs).map (·.1)).Nodup := by
      intro ns
      induction ns with
      | nil => intro vs _; simp
      | cons n ns ih =>
        intro vs h
        cases vs with
        | nil => simp
        | cons v vs =>
          rw [List.nodup_cons] at h
          rw [List.zip_cons_cons, List.map_cons, List.nodup_cons]
          refine ⟨fun q => h.1 ?_, ih vs h.2⟩
          obtain ⟨p, hp, e⟩ := List.mem_map.mp q
          have := List.of_mem_zip (a := p.1) (b := p.2) hp
          have e' : p.1 = n := e
          rw [← e']
          exact this.1
    exact this names vs nd
  have hm' : (x, v) ∈ (names.zip vs).reverse := List.mem_reverse.mpr hm
  generalize (names.zip vs).reverse = l at hnd hm'
  induction l with
  | nil => cases hm'
  | cons p l ih =>
    obtain ⟨y, u⟩ := p
    rw [List.map_cons, List.nodup_cons] at hnd
    rcases List.mem_cons.mp hm' with e | hm2
    · cases e; simp
    · have hne : (x == y) = false := by
        rw [beq_eq_false_iff_ne]
        intro e
        subst e
        have z := List.mem_map_of_mem (f := fun z : Str × Value => z.1) hm2
        exact hnd.1 z
      rw [List.lookup_cons, hne]
      exact ih hnd.2 hm2

noncomputable def parR (names : List Str) (ds : List D) : Rho := (names.zip ds).map fun p => (p.1, some (En.imm p.2))
noncomputable def noneR (names : List Str) : Rho := names.map fun x => (x, none)
noncomputable def frR (l : List (Str × D)) : Rho := l.map fun p => (p.1, some (En.imm p.2))

theorem parR_names : ∀ {names : List Str} {ds : List D}, names.length = ds.length → (parR names ds).map (·.1) = names
  | [], [], _ => rfl
  | n :: ns, d :: ds, h => by
    have := @parR_names ns ds (by simpa using h)
    simp only [parR, List.zip_cons_cons, List.map_cons] at this ⊢
    rw [this]
theorem parR_mem {C : Addr} {h : Heap} {X : Addr → Prop} : ∀ {names : List Str} {ds : List D} {vs : List Value}, Reps C h X vs ds → ∀ {x : Str} {en : En}, (x, some en) ∈ parR names ds → ∃ d v, en = .imm d ∧ (x, v) ∈ names.zip vs ∧ Rep C h X v d
  | [], _, _, _, _, _, hm => by simp [parR] at hm
  | n :: ns, _, _, .nil, _, _, hm => by simp [parR] at hm
  | n :: ns, _, _, .cons (v := v) (d := d) hv hs, x, en, hm => by
    simp only [parR, List.zip_cons_cons, List.map_cons] at hm
    rcases List.mem_cons.mp hm with e | hm
    · cases e; exact ⟨d, v, rfl, .head _, hv⟩
    · obtain ⟨d', v', e, h1, h2⟩ := parR_mem hs (names := ns) (x := x) (en := en) hm
      exact ⟨d', v', e, .tail _ h1, h2⟩

section
variable {c : Cx} {k : Nat}

/-- a def without cells of its own -/
theorem fn_def (B : Base c) {a : Addr} {o : Obj} {fd : FuncData} {body : List Stmt} {ds : List D} {d : D} (names locals : List Str) (fr : List (Str × D)) (ρ0 : Rho) (hρ : parR names ds ++ (noneR locals ++ frR fr) = ρ0)
    (ho : c.g.get? a = some o) (hdata : o.data = .func fd) (hcd : c.g.CodeRec fd.code fd.qualname) (hbody : fd.body = .stmts body) (hglob : fd.globals = mainGlobals) (hblt : fd.builtins = builtinsNs)
    (hbind : ∀ s vs, vs.length = ds.length → BindsTo s fd ⟨vs, []⟩ (names.zip vs)) (hnl : names.length = ds.length)
    (hcell : ∀ x ∈ fd.scope.names, x.2 ≠ .cell) (hloc : ∀ x ∈ names, fd.scope.names.lookup x = some .local) (nd : (names ++ (locals ++ fr.map (·.1))).Nodup)
    (hfr : ∀ p ∈ fr, ∃ b v, fd.scope.names.lookup p.1 = some .free ∧ fd.closure.lookup p.1 = some b ∧ c.g.IsCell b (some v) ∧ Rep c.C c.g (fun _ => False) v p.2)
    (hcl : ∀ x b, fd.closure.lookup x = some b → ∃ v, c.g.IsCell b v) (hap : ∀ x y b, fd.closure.lookup x = some b → fd.closure.lookup y = some b → x = y)
    (hb : ∀ (A : Around) (L : Addr) (X : Addr → Prop), (∀ b, X b → b ≠ L) → Ok c ⟨A, callEnv fd L a, fun b => X b ∨ b = L, fun b => b = L⟩ k → Bd c ⟨A, callEnv fd L a, fun b => X b ∨ b = L, fun b => b = L⟩ ρ0 body d)
    (hco : fd.scope.isCoroutine = false) (hgen : fd.scope.isGenerator = false) (hk : fd.scope.kind = .function) : Fn c (k + 1) (.ref a) ds d := fun A X s vs Q E room ext hX xok r q => by
  subst hρ
  refine wpAny_call (codeAny_call_def (room.depth) (ext _ _ ho) hdata (B.nolimit.keeps ext) (hcd.keeps ext) hbody (hbind s vs r.length) hcell (fun x hx => hloc _ (List.of_mem_zip (a := x.1) (b := x.2) hx).1) (fun h₀ hns hk₀ => ?_) hco hgen hk)
  have hL := fresh_size s.heap
  have hXL : ∀ b, X b → b ≠ s.heap.objs.size := fun b hb e => by obtain ⟨o, z⟩ := xok b hb; rw [e, hL] at z; cases z
  have hgL : c.g.get? s.heap.objs.size = none := by
    cases e : c.g.get? s.heap.objs.size with
    | none => rfl
    | some o' => have := ext _ _ e; rw [hL] at this; cases this
  have ok : Ok c ⟨A.deeper (callEnv fd s.heap.objs.size a), callEnv fd s.heap.objs.size a, fun b => X b ∨ b = s.heap.objs.size, fun b => b = s.heap.objs.size⟩ k :=
    { kind := hk, glob := hglob, blt := hblt, mx := fun b e => .inr e, loc := rfl, apart := hap, dis := fun b e => e.elim (hX b) fun e => e ▸ hgL, room := room.deeper }
  refine wpAny_mono (hb _ _ X hXL ok _ (fun fl s' => ∃ v h' tk, fl = .ret v ∧ s' = { s with heap := h', toks := tk } ∧ Ext s.heap h' ∧ Rep c.C h' X v d) _ ?_ fun v h' tk kp rv => ?_) (fun fl s' hf => ?_) fun _ _ x => x
  · refine ⟨?_, ext.trans hk₀, fun b e => ?_, fun x b e => ?_, fun x y b es fs h1 h2 => ?_, ⟨_, hns, fun x en hx hl => ?_⟩, fun x en hx hl => ?_⟩
    · rw [List.map_append, List.map_append, parR_names hnl]
      have e1 : (noneR locals).map (·.1) = locals := by simp only [noneR, List.map_map]; exact List.map_id' locals
      have e2 : (frR fr).map (·.1) = fr.map (·.1) := by simp only [frR, List.map_map]; rfl
      rw [e1, e2]; exact nd
    · rcases e with e | e
      · obtain ⟨o, z⟩ := xok b e; exact ⟨o, hk₀ _ _ z⟩
      · obtain ⟨o, _, _, z, _⟩ := hns; exact ⟨o, e ▸ z⟩
    · obtain ⟨v, z⟩ := hcl x b e; exact ⟨v, z.keeps (ext.trans hk₀)⟩
    · exfalso
      rcases List.mem_append.mp h1 with h1 | h1
      · obtain ⟨d', v', e', _⟩ := parR_mem r h1; cases e'
      · rcases List.mem_append.mp h1 with h1 | h1
        · simp [noneR] at h1
        · simp only [frR, List.mem_map] at h1
          obtain ⟨p, _, e'⟩ := h1
          cases e'
    · rcases List.mem_append.mp hx with h1 | h1
      · obtain ⟨d', v', e', hz, hr⟩ := parR_mem r h1
        subst e'
        exact ⟨v', lookup_zip_rev (List.nodup_append.mp nd).1 hz, (Rep.more hL hr).ext hk₀⟩
      · rcases List.mem_append.mp h1 with h1 | h1
        · simp [noneR] at h1
        · simp only [frR, List.mem_map] at h1
          obtain ⟨p, hp, e'⟩ := h1
          cases e'
          obtain ⟨b, v, hfk, _⟩ := hfr p hp
          rw [show Env.kindOf (callEnv fd s.heap.objs.size a) p.1 = fd.scope.names.lookup p.1 from rfl, hfk] at hl
          cases hl
    · rcases List.mem_append.mp hx with h1 | h1
      · obtain ⟨d', v', e', hz, hr⟩ := parR_mem r h1
        exact absurd (hloc x (List.of_mem_zip hz).1) hl
      · rcases List.mem_append.mp h1 with h1 | h1
        · simp [noneR] at h1
        · simp only [frR, List.mem_map] at h1
          obtain ⟨p, hp, e'⟩ := h1
          cases e'
          obtain ⟨b, v, hfk, hcb, hv, hr⟩ := hfr p hp
          exact ⟨b, v, .inr hfk, hcb, hv.keeps (ext.trans hk₀), hr.ofG (ext.trans hk₀) fun b e => e.elim (hX b) fun e => e ▸ hgL⟩
  · refine ⟨v, h', tk, rfl, rfl, fun b ob e => kp.1 b ob (fun z => ?_) (hk₀ b ob e), rv.less fun b hb => ⟨.inl hb, hXL b hb⟩⟩
    have z' : b = s.heap.objs.size := z
    rw [z', hL] at e; cases e
  · obtain ⟨v, h', tk, rfl, rfl, e, rv⟩ := hf
    exact q v h' tk e rv
end
end Mine
end
section
namespace Mine
open PySem PySem.W PySem.Calls PyProof.Rows PySem.Spec

/-- an iterator's object is no datum -/
noncomputable def IterObj (h : Heap) (I : Addr) : Prop := ∃ o, h.get? I = some o ∧ (∀ xs n, o.data ≠ .seq xs n) ∧ o.data ≠ .plain ∧ (∀ v, o.data ≠ .cell v) ∧ (o.cls = .type "range" → ∀ vs, o.data ≠ .fields vs)
theorem IterObj.ne_list {h : Heap} {I a : Addr} {vs : Array Value} (hI : IterObj h I) (hl : h.IsList a vs) : a ≠ I := fun q => by
  obtain ⟨o1, e1, n1, _⟩ := hI; obtain ⟨o2, e2, _, n, d2⟩ := hl; rw [q, e1] at e2; cases e2; exact n1 _ _ d2
theorem IterObj.ne_tup {h : Heap} {I a : Addr} {vs : Array Value} (hI : IterObj h I) (hl : IsTup h a vs) : a ≠ I := fun q => by
  obtain ⟨o1, e1, n1, _⟩ := hI; obtain ⟨o2, e2, _, n, d2⟩ := hl; rw [q, e1] at e2; cases e2; exact n1 _ _ d2
theorem IterObj.ne_cell {h : Heap} {I a : Addr} {v : Option Value} (hI : IterObj h I) (hl : h.IsCell a v) : a ≠ I := fun q => by
  obtain ⟨o1, e1, _, _, n1, _⟩ := hI; obtain ⟨o2, e2, d2⟩ := hl; rw [q, e1] at e2; cases e2; exact n1 _ d2
mutual
theorem Rep.iter {C : Addr} {h h' : Heap} {X : Addr → Prop} {I : Addr} (hI : IterObj h I) (k : ∀ b o, b ≠ I → h.get? b = some o → h'.get? b = some o) : ∀ {v : Value} {d : D}, Rep C h X v d → Rep C h' X v d
  | _, _, .none => .none
  | _, _, .bool b => .bool b
  | _, _, .int i t => .int i t
  | _, _, .list hl hx hs => .list (isList_ext (fun o e => k _ o (hI.ne_list hl) e) hl) hx (Reps.iter hI k hs)
  | _, _, .tuple hl hx hs => .tuple (isTup_ext (fun o e => k _ o (hI.ne_tup hl) e) hl) hx (Reps.iter hI k hs)
  | _, _, .key ho hx => .key (k _ _ (fun q => by obtain ⟨o1, e1, _, n1, _⟩ := hI; rw [q, e1] at ho; cases ho; exact n1 rfl) ho) hx
  | _, _, .range ho hx => .range (k _ _ (fun q => by obtain ⟨o1, e1, _, _, _, n1⟩ := hI; unfold IsRange at ho; rw [q, e1] at ho; cases ho; exact n1 rfl _ rfl) ho) hx
  | _, _, .val v => .val v
theorem Reps.iter {C : Addr} {h h' : Heap} {X : Addr → Prop} {I : Addr} (hI : IterObj h I) (k : ∀ b o, b ≠ I → h.get? b = some o → h'.get? b = some o) : ∀ {vs : List Value} {ds : List D}, Reps C h X vs ds → Reps C h' X vs ds
  | _, _, .nil => .nil
  | _, _, .cons hv hs => .cons (Rep.iter hI k hv) (Reps.iter hI k hs)
end

/-- what an iterator is about to give -/
inductive It (c : Cx) (f : Fx) (I : Addr) (h : Heap) : List D → Prop
  | list {ax : Addr} {vs : List Value} {i : Nat} {ds : List D} (hi : h.IsListIter I ax i) (hl : h.IsList ax vs.toArray) (hx : ¬ f.X ax) (hr : Reps c.C h f.X (vs.drop i) ds) : It c f I h ds
  | range {x st : Int} {n : Nat} (hi : IsRangeIter h I x n st) : It c f I h ((List.range n).map fun (j : Nat) => D.int (x + j * st))

noncomputable def KeepB (M : Addr → Prop) (I : Addr) (h h' : Heap) : Prop :=
  (∀ b o, ¬ M b → b ≠ I → h.get? b = some o → h'.get? b = some o) ∧ ∀ b o, b ≠ I → h.get? b = some o → ∃ o', h'.get? b = some o'
theorem KeepB.trans {M : Addr → Prop} {I : Addr} {h h' h'' : Heap} (a : KeepB M I h h') (b : KeepB M I h' h'') : KeepB M I h h'' :=
  ⟨fun x o n m e => b.1 x o n m (a.1 x o n m e), fun x o m e => let ⟨o', e'⟩ := a.2 x o m e; b.2 x o' m e'⟩
theorem Keep.b {M : Addr → Prop} {I : Addr} {h h' : Heap} (a : Keep M h h') : KeepB M I h h' := ⟨fun x o n _ e => a.1 x o n e, fun x o _ e => a.2 x o e⟩
theorem KeepB.of {M : Addr → Prop} {I : Addr} {h h' : Heap} (k : ∀ b o, b ≠ I → h.get? b = some o → h'.get? b = some o) : KeepB M I h h' := ⟨fun x o _ m e => k x o m e, fun x o m e => ⟨o, k x o m e⟩⟩
theorem KeepB.keep {M : Addr → Prop} {I : Addr} {h₀ h h' : Heap} (e : Ext h₀ h) (hI : h₀.get? I = none) (k : KeepB M I h h') : Keep M h₀ h' :=
  ⟨fun b o n q => k.1 b o n (fun z => by rw [z, hI] at q; cases q) (e b o q), fun b o q => k.2 b o (fun z => by rw [z, hI] at q; cases q) (e b o q)⟩

section
variable {c : Cx} {f : Fx} {ρ ρ' : Rho} {k : Nat} {I : Addr} {h h' : Heap}

theorem It.obj {ds : List D} (t : It c f I h ds) : IterObj h I := by
  cases t with
  | list hi hl hx hr => obtain ⟨o, e, hc, hd⟩ := hi; exact ⟨o, e, fun _ _ q => (by rw [hd] at q; cases q), fun q => (by rw [hd] at q; cases q), fun _ q => (by rw [hd] at q; cases q), fun q => (by rw [hc] at q; exact absurd q (by decide))⟩
  | range hi => exact ⟨_, hi, fun _ _ q => (by cases q), fun q => (by cases q), fun _ q => (by cases q), fun (q : Value.type "range_iterator" = .type "range") => absurd q (by decide)⟩
theorem EnRep.iter {C : Addr} {X M : Addr → Prop} {v : Value} {en : En} (hI : IterObj h I) (k : ∀ b o, b ≠ I → h.get? b = some o → h'.get? b = some o) (r : EnRep C h X M v en) : EnRep C h' X M v en := by
  cases en with
  | imm d => exact Rep.iter hI k r
  | own a ds =>
    obtain ⟨vs, e, hm, hl, hr⟩ := r
    refine ⟨vs, e, hm, ?_, hr.iter hI k⟩
    have ne := hI.ne_list hl.isList
    obtain ⟨o, n, e1, c1, r1⟩ := hl
    exact ⟨o, n, k _ _ ne e1, c1, r1⟩
theorem St.iter (o : Ok c f k) (st : St c f ρ h) (hI : IterObj h I) (hX : ¬ f.X I) (hg : c.g.get? I = none) (kk : ∀ b o, b ≠ I → h.get? b = some o → h'.get? b = some o) : St c f ρ h' where
  nd := st.nd
  ext := fun b o e => kk b o (fun q => by rw [q, hg] at e; cases e) (st.ext b o e)
  xok := fun a ha => let ⟨o, e⟩ := st.xok a ha; ⟨o, kk _ _ (fun q => hX (q ▸ ha)) e⟩
  cl := fun x a e => by
    obtain ⟨v, hc⟩ := st.cl x a e
    have ne := hI.ne_cell hc
    obtain ⟨o, e1, d1⟩ := hc
    exact ⟨v, o, kk _ _ ne e1, d1⟩
  oa := st.oa
  ns := by
    obtain ⟨m, hn, r⟩ := st.ns
    refine ⟨m, ?_, fun x en hx hl => let ⟨v, h1, h2⟩ := r x en hx hl; ⟨v, h1, h2.iter hI kk⟩⟩
    obtain ⟨ob, es, ep, e1, d1, r1⟩ := hn
    refine ⟨ob, es, ep, kk _ _ (fun q => ?_) e1, d1, r1⟩
    exact hX (q ▸ o.mx _ o.loc)
  cs := fun x en hx hl => by
    obtain ⟨a, v, h1, h2, hc, h4⟩ := st.cs x en hx hl
    have ne := hI.ne_cell hc
    obtain ⟨o, e1, d1⟩ := hc
    exact ⟨a, v, h1, h2, ⟨o, kk _ _ ne e1, d1⟩, h4.iter hI kk⟩
theorem It.keep (o : Ok c f k) {ds : List D} (t : It c f I h ds) (hX : ¬ f.X I) (kp : Keep f.M h h') : It c f I h' ds := by
  cases t with
  | list hi hl hx hr =>
    refine .list (i := _) ?_ (isList_ext (fun ob e => kp.1 _ ob (fun q => hx (o.mx _ q)) e) hl) hx (hr.keep fun b ob n e => kp.1 b ob (fun q => n (o.mx _ q)) e)
    obtain ⟨ob, e, r⟩ := hi
    exact ⟨ob, kp.1 _ _ (fun q => hX (o.mx _ q)) e, r⟩
  | range hi => exact .range (kp.1 _ _ (fun q => hX (o.mx _ q)) hi)

theorem it_next {d : D} {ds : List D} {s : Shared} {Q : Option Value → Shared → Prop} {E : Value → Shared → Prop} (t : It c f I s.heap (d :: ds)) (hX : ¬ f.X I)
    (q : ∀ v h' tk, Heap.SameBut I s.heap h' → It c f I h' ds → Rep c.C h' f.X v d → Q (some v) { s with heap := h', toks := tk }) : wpAny (model c.prog c.w) f.A (pyNext (.ref I)) Q E s := by
  have hI := t.obj
  generalize hds : d :: ds = dd at t
  cases t with
  | @list ax vs i _ hi hl hx hr =>
    subst hds
    generalize hvs : vs.drop i = vv at hr
    cases hr with
    | @cons v _ vr _ hv hs =>
      have e1 : vs[i]? = some v := by
        have : (vs.drop i)[0]? = some v := by rw [hvs]; rfl
        rwa [List.getElem?_drop, Nat.add_zero] at this
      have e2 : vs.drop (i + 1) = vr := by
        have : (vs.drop i).drop 1 = vr := by rw [hvs]; rfl
        rwa [List.drop_drop] at this
      refine wpAny_pyNext_list_item hi hl (x := v) (by simpa using e1) fun h' hi' hs' => ?_
      have kk : ∀ b o, b ≠ I → s.heap.get? b = some o → h'.get? b = some o := fun b o n e => (hs'.2 b n).trans e
      have nax : ax ≠ I := hI.ne_list hl
      exact q v h' s.toks hs' (.list hi' (isList_ext (fun o e => kk _ o nax e) hl) hx (by rw [e2]; exact hs.iter hI kk)) (hv.iter hI kk)
  | @range x st n hi =>
    cases n with
    | zero => cases hds
    | succ n =>
      have e1 : d = D.int x := by
        have := congrArg List.head? hds
        rw [List.range_succ_eq_map, List.map_cons, List.head?_cons, List.head?_cons] at this
        have z := Option.some.inj this
        rw [z]
        congr 1
        simp
      have e2 : ds = (List.range n).map fun (j : Nat) => D.int ((x + st) + j * st) := by
        have := congrArg List.tail hds
        rw [List.tail_cons] at this
        rw [this, List.range_succ_eq_map, List.map_cons, List.tail_cons, List.map_map]
        apply List.map_congr_left
        intro j _
        show D.int (x + ((j + 1 : Nat) : Int) * st) = _
        congr 1
        push_cast
        rw [Int.add_mul, Int.one_mul]; omega
      subst e1 e2
      refine wpAny_pyNext_range_item hi (by omega) fun h' hi' hs' => ?_
      refine q _ h' _ hs' (.range ?_) (.int _ _)
      have : ((n + 1 : Nat) : Int) - 1 = n := by omega
      rw [this] at hi'
      exact hi'
theorem it_end {s : Shared} {Q : Option Value → Shared → Prop} {E : Value → Shared → Prop} (hh : f.A.handled = none) (t : It c f I s.heap [])
    (q : ∀ h', (∀ b o, b ≠ I → s.heap.get? b = some o → h'.get? b = some o) → Q none { s with heap := h' }) : wpAny (model c.prog c.w) f.A (pyNext (.ref I)) Q E s := by
  generalize hds : ([] : List D) = dd at t
  cases t with
  | @list ax vs i _ hi hl hx hr =>
    subst hds
    have e := hr.length
    have e1 : vs[i]? = none := by
      rw [List.getElem?_eq_none_iff]
      have : (vs.drop i).length = 0 := by rw [e]; rfl
      rw [List.length_drop] at this; omega
    exact wpAny_pyNext_list_end hh hi hl (by simpa using e1) fun h' he => q h' fun b o n e => he b o n e
  | @range x st n hi =>
    cases n with
    | zero => exact wpAny_pyNext_range_end hh hi (by simp) fun h' he => q h' fun b o n e => he b o n e
    | succ n => rw [List.range_succ_eq_map, List.map_cons] at hds; cases hds

/-- a for loop over what an iterator still gives -/
noncomputable def Fo (c : Cx) (f : Fx) (x : Str) (px : Pos) (body : List Stmt) (ρ : Rho) (ds : List D) (ρ' : Rho) (o : Out) : Prop :=
  ∀ (s : Shared) (I : Addr) (R : Result → Shared → Prop), St c f ρ s.heap → It c f I s.heap ds → ¬ f.X I → c.g.get? I = none →
    (∀ fl h' tk, KeepB f.M I s.heap h' → FlRep c.C h' f.X f.M fl o → St c f ρ' h' → R (.ok fl) { s with heap := h', toks := tk }) →
    codeAny (model c.prog c.w) f.A (.forLoop (.Name x px) (.ref I) body [] f.env) R s
theorem fo_turn {x : Str} {px : Pos} {body : List Stmt} {it : Value} {s : Shared} {R : Result → Shared → Prop}
    (h : wpAny (model c.prog c.w) f.A (pyNext it) (fun r s₁ => match r with
      | none => R (.ok .next) s₁
      | some v => wpAny (model c.prog c.w) f.A (storeName f.env x v) (fun _ s₂ => wpAny (model c.prog c.w) f.A (execs body f.env) (fun fl s₃ => match fl with
          | .next | .cont => codeAny (model c.prog c.w) f.A (.forLoop (.Name x px) it body [] f.env) R s₃
          | .brk => R (.ok .next) s₃
          | .ret v => R (.ok (.ret v)) s₃) (notedBy (model c.prog c.w) f.A f.env fun e s' => R (.error e) s') s₂) (notedBy (model c.prog c.w) f.A f.env fun e s' => R (.error e) s') s₁) (notedBy (model c.prog c.w) f.A f.env fun e s' => R (.error e) s') s) :
    codeAny (model c.prog c.w) f.A (.forLoop (.Name x px) it body [] f.env) R s := by
  refine codeAny_of_tree ?_
  show wpAny _ f.A ((forTurn (.Name x px) it body [] f.env).onRaise (fun x => do noteFrame x f.env; theTreesLotGoes x)) _ _ s
  refine wpAny_noted ?_
  simp only [forTurn]
  refine wpAny_bind (wpAny_standAt (wpAny_bind (wpAny_onRaise (wpAny_mono h (fun r s₁ h₁ => ?_) fun _ _ h' => wpAny_standAt h'))))
  cases r with
  | none => exact wpAny_pure ⟨rfl, codeAny_block (wpAny_execs_nil h₁)⟩
  | some v =>
    refine wpAny_bind (wpAny_of_eq (show letOwnedTupleGo (.Name x px) it v = pure () from rfl) ?_)
    refine wpAny_bind (wpAny_mono (wpAny_assign_Name h₁) (fun _ s₂ h₂ => wpAny_bind (wpAny_mono h₂ (fun fl s₃ h₃ => ?_) fun _ _ h' => h')) fun _ _ h' => h')
    cases fl with
    | next => exact wpAny_pure ⟨rfl, h₃⟩
    | cont => exact wpAny_pure ⟨rfl, h₃⟩
    | brk => exact wpAny_pure h₃
    | ret v => exact wpAny_pure h₃
theorem fo_nil (o : Ok c f k) {x : Str} {px : Pos} {body : List Stmt} : Fo c f x px body ρ [] ρ .next := fun s I R st t hX hg q =>
  fo_turn (it_end o.room.hd t fun h' kk => q .next h' s.toks (.of kk) trivial (st.iter o t.obj hX hg kk))
theorem fo_one (o : Ok c f k) {x : Str} {px : Pos} {body : List Stmt} {d : D} {ds : List D} {ρ1 ρ2 : Rho} {o2 : Out} (u : Upd ρ x (some (.imm d)) ρ1) (hk : Stor f x) (h : Exs c f ρ1 body ρ2 o2) {s : Shared} {R : Result → Shared → Prop}
    (st : St c f ρ s.heap) (t : It c f I s.heap (d :: ds)) (hX : ¬ f.X I) (hg : c.g.get? I = none)
    (q : ∀ fl h' tk, KeepB f.M I s.heap h' → FlRep c.C h' f.X f.M fl o2 → St c f ρ2 h' → It c f I h' ds → (match fl with
          | .next | .cont => codeAny (model c.prog c.w) f.A (.forLoop (.Name x px) (.ref I) body [] f.env) R { s with heap := h', toks := tk }
          | .brk => R (.ok .next) { s with heap := h', toks := tk }
          | .ret v => R (.ok (.ret v)) { s with heap := h', toks := tk })) : codeAny (model c.prog c.w) f.A (.forLoop (.Name x px) (.ref I) body [] f.env) R s :=
  fo_turn (it_next t hX fun v h1 t1 hs1 it1 r1 => by
    have kk : ∀ b o, b ≠ I → s.heap.get? b = some o → h1.get? b = some o := fun b o n e => (hs1.2 b n).trans e
    have st1 := st.iter o t.obj hX hg kk
    refine store_of o u hk st1 r1 fun h2 t2 x2 s2 => ?_
    refine h _ _ _ s2 fun fl h3 t3 x3 r3 s3 => ?_
    have z := q fl h3 t3 ((KeepB.of kk).trans (x2.b.trans x3.b)) r3 s3 ((it1.keep o hX x2).keep o hX x3)
    cases fl <;> exact z)
theorem fo_cons (o : Ok c f k) {x : Str} {px : Pos} {body : List Stmt} {d : D} {ds : List D} {ρ1 ρ2 : Rho} {o2 : Out} (u : Upd ρ x (some (.imm d)) ρ1) (hk : Stor f x) (h : Exs c f ρ1 body ρ2 .next) (hr : Fo c f x px body ρ2 ds ρ' o2) :
    Fo c f x px body ρ (d :: ds) ρ' o2 := fun s I R st t hX hg q => fo_one o u hk h st t hX hg fun fl h1 t1 x1 r1 s1 it1 => by
  cases fl with
  | next => exact hr _ I R s1 it1 hX hg fun fl h2 t2 x2 r2 s2 => q fl h2 t2 (x1.trans x2) r2 s2
  | _ => exact r1.elim
theorem fo_ret (o : Ok c f k) {x : Str} {px : Pos} {body : List Stmt} {d e : D} {ds : List D} {ρ1 : Rho} (u : Upd ρ x (some (.imm d)) ρ1) (hk : Stor f x) (h : Exs c f ρ1 body ρ' (.ret e)) :
    Fo c f x px body ρ (d :: ds) ρ' (.ret e) := fun s I R st t hX hg q => fo_one o u hk h st t hX hg fun fl h1 t1 x1 r1 s1 it1 => by
  cases fl with
  | ret v => exact q _ h1 t1 x1 r1 s1
  | _ => exact r1.elim
theorem fo_le {x : Str} {px : Pos} {body : List Stmt} {ds : List D} {ρ1 : Rho} {o : Out} (h : Fo c f x px body ρ ds ρ1 o) (l : Le ρ1 ρ') : Fo c f x px body ρ ds ρ' o := fun s I R st t hX hg q => h s I R st t hX hg fun fl h1 t1 x1 r1 s1 => q fl h1 t1 x1 r1 (s1.sub l)
theorem fo_from {x : Str} {px : Pos} {body : List Stmt} {ds : List D} {ρ1 : Rho} {o : Out} (l : Le ρ ρ1) (h : Fo c f x px body ρ1 ds ρ' o) : Fo c f x px body ρ ds ρ' o := fun s I R st t hX hg q => h s I R (st.sub l) t hX hg q

/-- iterating over a datum -/
noncomputable def Items : D → List D → Prop
  | .list ds, es => es = ds
  | .range a b st, es => Builtin.Range.small a b st = true ∧ ∃ n : Nat, Builtin.Range.rangeSize a b st = n ∧ es = (List.range n).map fun (j : Nat) => D.int (a + j * st)
  | _, _ => False
theorem iter_of {d : D} {es : List D} (hi : Items d es) {s : Shared} {v : Value} {Q E : Value → Shared → Prop} (w : W c f s.heap) (r : Rep c.C s.heap f.X v d)
    (q : ∀ I h', Ext s.heap h' → s.heap.get? I = none → It c f I h' es → ¬ f.X I → c.g.get? I = none → Q (.ref I) { s with heap := h' }) : wpAny (model c.prog c.w) f.A (pyIter v) Q E s := by
  have hg : c.g.get? s.heap.objs.size = none := by
    cases e : c.g.get? s.heap.objs.size with
    | none => rfl
    | some o' => have := w.ext _ _ e; rw [fresh_size] at this; cases this
  cases r with
  | list hl hx hr =>
    have e : es = _ := hi
    subst e
    exact wpAny_pyIter_list hl (q _ _ (Ext.push _ _) (fresh_size _) (.list ⟨_, Heap.get?_push_size _ rfl, rfl, rfl⟩ (hl.push _) hx (by rw [List.drop_zero]; exact hr.ext (Ext.push _ _))) (w.fresh (fresh_size _)) hg)
  | range ho hx =>
    obtain ⟨hs, n, hn, rfl⟩ := hi
    refine wpAny_pyIter_range ho hs (q _ _ (Ext.push _ _) (fresh_size _) (.range ?_) (w.fresh (fresh_size _)) hg)
    rw [hn]
    exact Heap.get?_push_size _ rfl
  | _ => exact hi.elim
theorem ex_for {x : Str} {px : Pos} {iter : Expr} {body : List Stmt} {pos : Pos} {d : D} {es : List D} {o : Out} (h : Ev c f ρ iter d) (hi : Items d es) (hf : Fo c f x px body ρ es ρ' o) (hs : ∀ x, foldedSetIterable iter f.env x = pure x) :
    Ex c f ρ (.For (.Name x px) iter body [] pos) ρ' o := fun s Q E st q =>
  wpAny_For (h s _ E st fun v h1 t1 x1 r1 => iter_of hi (st.up x1).w r1 fun I h2 x2 fI it hX hg => hf _ I _ ((st.up x1).up x2) it hX hg fun fl h3 t3 x3 r3 s3 => q fl h3 t3 (x1.keep.trans (x3.keep x2 fI)) r3 s3) hs
end
end Mine
end
section
namespace Mine
open PySem PySem.W PySem.Calls PyProof.Rows PySem.Spec

noncomputable def closOf (env : Env) : List (Str × NameKind) → List (Str × Addr) → List (Str × Addr)
  | [], acc => acc
  | (n, k) :: r, acc => if k == .free then closOf env r ((n, (env.cells.lookup n).getD 0) :: acc) else closOf env r acc
noncomputable def FreeOk (env : Env) (names : List (Str × NameKind)) : Prop := ∀ n, (n, NameKind.free) ∈ names → (env.cells.lookup n).isSome = true

theorem clos_go (env : Env) (fn : Str × NameKind → List (Str × Addr) → Sem (ForInStep (List (Str × Addr))))
    (hf : ∀ n k acc, fn (n, k) acc = if k == .free then (do let a ← cellOf env n; pure (.yield ((n, a) :: acc))) else pure (.yield acc)) :
    ∀ (names : List (Str × NameKind)) (acc : List (Str × Addr)), FreeOk env names → forIn names acc fn = pure (closOf env names acc)
  | [], acc, _ => rfl
  | (n, k) :: r, acc, h => by
    have hr : FreeOk env r := fun m hm => h m (.tail _ hm)
    rw [List.forIn_cons, hf]
    unfold closOf
    by_cases hk : (k == NameKind.free) = true
    · rw [if_pos hk, if_pos hk]
      have hkk : k = .free := by simpa using hk
      obtain ⟨a, ha⟩ := Option.isSome_iff_exists.mp (h n (hkk ▸ .head _))
      have e1 : cellOf env n = pure a := by unfold cellOf; rw [ha]
      rw [e1, ha]
      exact clos_go env fn hf r _ hr
    · rw [if_neg hk, if_neg hk]
      exact clos_go env fn hf r _ hr
theorem closureFor_eq (scope : Scope) (env : Env) (h : FreeOk env scope.names) : closureFor scope env = pure (closOf env scope.names []) := by
  unfold closureFor
  have := clos_go env (fun x acc => if x.2 == .free then (do let a ← cellOf env x.1; pure (.yield ((x.1, a) :: acc))) else pure (.yield acc)) (fun _ _ _ => rfl) scope.names [] h
  show (forIn scope.names [] _ >>= fun r => pure r) = _
  have e2 : (forIn scope.names ([] : List (Str × Addr)) fun x acc => if x.2 == .free then (do let a ← cellOf env x.1; pure (.yield ((x.1, a) :: acc))) else pure (.yield acc)) >>= (fun r => pure r) = (pure (closOf env scope.names []) : Sem _) := by rw [this]; rfl
  exact e2
theorem clos_look {env : Env} {x : Str} {a : Addr} (ha : env.cells.lookup x = some a) : ∀ (names : List (Str × NameKind)) (acc : List (Str × Addr)), (x, NameKind.free) ∈ names ∨ acc.lookup x = some a → (closOf env names acc).lookup x = some a
  | [], acc, h => h.elim (fun q => nomatch q) id
  | (n, k) :: r, acc, h => by
    unfold closOf
    by_cases hk : (k == NameKind.free) = true
    · rw [if_pos hk]
      refine clos_look ha r _ ?_
      by_cases hn : (x == n) = true
      · have : x = n := by simpa using hn
        subst this
        exact .inr (by rw [List.lookup_cons, hn, ha]; rfl)
      · rcases h with h | h
        · rcases List.mem_cons.mp h with e | h
          · cases e; simp at hn
          · exact .inl h
        · have hn' : (x == n) = false := by simpa using hn
          exact .inr (by rw [List.lookup_cons, hn']; exact h)
    · rw [if_neg hk]
      refine clos_look ha r _ (h.imp (fun h => ?_) id)
      rcases List.mem_cons.mp h with e | h
      · cases e; simp at hk
      · exact h
theorem clos_back {env : Env} : ∀ (names : List (Str × NameKind)) (acc : List (Str × Addr)), FreeOk env names → (∀ y b, acc.lookup y = some b → env.cells.lookup y = some b) → ∀ y b, (closOf env names acc).lookup y = some b → env.cells.lookup y = some b
  | [], acc, _, h => h
  | (n, k) :: r, acc, hf, h => by
    have hr : FreeOk env r := fun m hm => hf m (.tail _ hm)
    unfold closOf
    by_cases hk : (k == NameKind.free) = true
    · rw [if_pos hk]
      refine clos_back r _ hr fun y b e => ?_
      have hkk : k = .free := by simpa using hk
      obtain ⟨a, ha⟩ := Option.isSome_iff_exists.mp (hf n (hkk ▸ .head _))
      by_cases hn : (y == n) = true
      · rw [List.lookup_cons, hn, ha] at e
        have : y = n := by simpa using hn
        subst this
        cases e
        exact ha
      · have hn' : (y == n) = false := by simpa using hn
        rw [List.lookup_cons, hn'] at e
        exact h y b e
    · rw [if_neg hk]; exact clos_back r _ hr h
theorem relabel_free {env : Env} : ∀ {names : List (Str × NameKind)} {x : Str}, names.lookup x = some .free →
    (names.map fun (n, k) => if (k == NameKind.free && env.scope.kind == .function && env.kindOf n == some .cell) then (n, NameKind.cell) else (n, k)).lookup x = some .cell ∨
    (names.map fun (n, k) => if (k == NameKind.free && env.scope.kind == .function && env.kindOf n == some .cell) then (n, NameKind.cell) else (n, k)).lookup x = some .free
  | [], _, h => by simp at h
  | (n, k) :: r, x, h => by
    have ih := @relabel_free env r x
    show List.lookup x ((if (k == NameKind.free && env.scope.kind == .function && env.kindOf n == some .cell) = true then (n, NameKind.cell) else (n, k)) :: _) = _ ∨ List.lookup x ((if (k == NameKind.free && env.scope.kind == .function && env.kindOf n == some .cell) = true then (n, NameKind.cell) else (n, k)) :: _) = _
    cases hx : x == n with
    | true =>
      simp only [List.lookup_cons, hx] at h
      cases h
      by_cases hc : (NameKind.free == NameKind.free && env.scope.kind == .function && env.kindOf n == some .cell) = true
      · rw [if_pos hc]; left; simp only [List.lookup_cons, hx]
      · rw [if_neg hc]; right; simp only [List.lookup_cons, hx]
    | false =>
      simp only [List.lookup_cons, hx] at h
      by_cases hc : (k == NameKind.free && env.scope.kind == .function && env.kindOf n == some .cell) = true
      · rw [if_pos hc]; simp only [List.lookup_cons, hx]; exact ih h
      · rw [if_neg hc]; simp only [List.lookup_cons, hx]; exact ih h

/-- the frame of a comprehension: Dd its list, Cc its names -/
noncomputable def cfx (f : Fx) (scope : Scope) (Dd Cc : Addr) : Fx :=
  { A := f.A, env := compEnvC scope (closOf f.env scope.names []) Cc f.env, X := fun b => (f.X b ∨ b = Dd) ∨ b = Cc, M := fun b => (f.M b ∨ b = Dd) ∨ b = Cc }

/-- the tests of a for -/
noncomputable def Ts (c : Cx) (f : Fx) (ρ : Rho) (ifs : List Expr) (b : Bool) : Prop :=
  ∀ (s : Shared) (Q : Bool → Shared → Prop) (E : Value → Shared → Prop), St c f ρ s.heap → (∀ h' tk, Ext s.heap h' → Q b { s with heap := h', toks := tk }) →
    wpAny (model c.prog c.w) f.A (forIn ifs true fun c r => if r = true then do let ok ← isTrue c f.env (eval c f.env); pure (ForInStep.yield ok) else pure (ForInStep.yield r)) Q E s

/-- the comprehension's loop -/
noncomputable def Cp (c : Cx) (f : Fx) (e : Expr) (depth : Nat) (ρ : Rho) (ds es : List D) : Prop :=
  ∀ (s : Shared) (I Dd : Addr) (as : List D) (vs : List Value) (R : Result → Shared → Prop), St c f ρ s.heap → It c f I s.heap ds → ¬ f.X I → c.g.get? I = none → f.M Dd → Dd ≠ f.env.locals →
    (∀ y a bs, (y, some (En.own a bs)) ∈ ρ → a ≠ Dd) → PlainL s.heap Dd vs.toArray → Reps c.C s.heap f.X vs as → as.length + es.length ≤ 1000000 →
    (∀ h' tk vs', (∀ b o, b ≠ f.env.locals → b ≠ Dd → b ≠ I → s.heap.get? b = some o → h'.get? b = some o) → PlainL h' Dd vs'.toArray → Reps c.C h' f.X vs' (as ++ es) → St c f ρ h' →
      R (.ok .next) { s with heap := h', toks := tk }) → codeAny (model c.prog c.w) f.A (.compLoop e depth (.ref I) (.ref Dd) f.env) R s

section
variable {c : Cx} {f : Fx} {ρ ρ' : Rho} {k : Nat} {I : Addr} {h h' : Heap}

theorem ts_nil : Ts c f ρ [] true := fun s Q E st q => wpAny_tests_nil (q s.heap s.toks (Ext.refl _))
theorem ts_one {e : Expr} {b : Bool} (t : Tr c f ρ e b) : Ts c f ρ [e] b := fun s Q E st q => wpAny_tests_one (t s Q E st q)

theorem plainL_iter {I : Addr} {a : Addr} {vs : Array Value} (hI : IterObj h I) (k : ∀ b o, b ≠ I → h.get? b = some o → h'.get? b = some o) (hl : PlainL h a vs) : PlainL h' a vs := by
  have ne := hI.ne_list hl.isList
  obtain ⟨o, n, e1, c1, r1⟩ := hl
  exact ⟨o, n, k _ _ ne e1, c1, r1⟩

/-- append to the hidden list -/
theorem app_hidden (o : Ok c f k) {Dd : Addr} {vs : List Value} {as : List D} {v : Value} {d : D} {s : Shared} {Q E : Value → Shared → Prop} (st : St c f ρ s.heap) (hM : f.M Dd) (hno : ∀ y a bs, (y, some (En.own a bs)) ∈ ρ → a ≠ Dd)
    (hl : PlainL s.heap Dd vs.toArray) (hr : Reps c.C s.heap f.X vs as) (rv : Rep c.C s.heap f.X v d) (hz : as.length ≤ 1000000)
    (q : ∀ h', Heap.SameBut Dd s.heap h' → PlainL h' Dd (vs ++ [v]).toArray → Reps c.C h' f.X (vs ++ [v]) (as ++ [d]) → St c f ρ h' → Q .none { s with heap := h' }) :
    wpAny (model c.prog c.w) f.A (call (.builtin "list.append") [.ref Dd, v]) Q E s := by
  refine list_append_plainL hl (fun h2 hl2 hs2 => ?_) (by rw [List.size_toArray, hr.length, sizeLine_eq]; omega)
  have hX := o.mx _ hM
  have arr : vs.toArray.push v = (vs ++ [v]).toArray := by simp
  rw [arr] at hl2
  have keep : ∀ y o, ¬ f.X y → s.heap.get? y = some o → h2.get? y = some o := fun y o n e => (hs2.2 y (fun q => n (q ▸ hX))).trans e
  have xk : ∃ ob, h2.get? Dd = some ob := let ⟨ob, _, e, _⟩ := hl2; ⟨ob, e⟩
  obtain ⟨m, hn, hrr⟩ := st.ns
  refine q h2 hs2 hl2 ((hr.append (.cons rv .nil)).keep keep) ⟨st.nd, st.ext.sameBut hs2 (o.dis _ hX), fun b hb => ?_, fun y b e => ?_, st.oa, ⟨m, hn.sameBut hs2 (ns_ne_list hn hl.isList), fun y en hy hyl => ?_⟩, fun y en hy hyl => ?_⟩
  · by_cases e : b = Dd
    · subst e; exact xk
    · obtain ⟨ob, q⟩ := st.xok b hb; exact ⟨ob, (hs2.2 b e).trans q⟩
  · obtain ⟨v', x'⟩ := st.cl y b e
    exact ⟨v', x'.sameBut hs2 (cell_ne_list x' hl.isList)⟩
  · obtain ⟨v', hv', r'⟩ := hrr y en hy hyl
    exact ⟨v', hv', r'.same hs2 hX fun a ds e => by subst e; exact hno _ _ _ hy⟩
  · obtain ⟨b, v', hk, hc, hv, r'⟩ := st.cs y en hy hyl
    exact ⟨b, v', hk, hc, hv.sameBut hs2 (cell_ne_list hv hl.isList), r'.same hs2 hX fun a ds e => by subst e; exact hno _ _ _ hy⟩

theorem cp_turn {elt iter : Expr} {x : Str} {px : Pos} {ifs : List Expr} {scope : Scope} {pos : Pos} {it acc : Value} {s : Shared} {R : Result → Shared → Prop}
    (h : wpAny (model c.prog c.w) f.A (pyNext it) (fun r s₁ => match r with
      | none => R (.ok .next) s₁
      | some v => wpAny (model c.prog c.w) f.A (storeName f.env x v) (fun _ s₂ =>
          wpAny (model c.prog c.w) f.A (forIn ifs true fun c r => if r = true then do let ok ← isTrue c f.env (eval c f.env); pure (ForInStep.yield ok) else pure (ForInStep.yield r)) (fun ok s₃ =>
            if ok = true then wpAny (model c.prog c.w) f.A (eval elt f.env) (fun x' s₄ =>
              wpAny (model c.prog c.w) f.A (call (.builtin "list.append") [acc, x']) (fun _ s₅ => codeAny (model c.prog c.w) f.A (.compLoop (.ListComp elt [⟨.Name x px, iter, ifs, 0⟩] scope pos) 0 it acc f.env) R s₅) (notedBy (model c.prog c.w) f.A f.env fun e s' => R (.error e) s') s₄) (notedBy (model c.prog c.w) f.A f.env fun e s' => R (.error e) s') s₃
            else codeAny (model c.prog c.w) f.A (.compLoop (.ListComp elt [⟨.Name x px, iter, ifs, 0⟩] scope pos) 0 it acc f.env) R s₃) (notedBy (model c.prog c.w) f.A f.env fun e s' => R (.error e) s') s₂) (notedBy (model c.prog c.w) f.A f.env fun e s' => R (.error e) s') s₁) (notedBy (model c.prog c.w) f.A f.env fun e s' => R (.error e) s') s) :
    codeAny (model c.prog c.w) f.A (.compLoop (.ListComp elt [⟨.Name x px, iter, ifs, 0⟩] scope pos) 0 it acc f.env) R s := by
  refine codeAny_of_tree ?_
  show wpAny _ f.A ((compTurn (.ListComp elt [⟨.Name x px, iter, ifs, 0⟩] scope pos) 0 it acc f.env).onRaise (fun x => do noteFrame x f.env; theTreesLotGoes x)) _ _ s
  refine wpAny_noted ?_
  rw [compTurn_list]
  refine wpAny_bind (wpAny_standAt (wpAny_bind (wpAny_mono h (fun r s₁ h₁ => ?_) fun _ _ h' => h')))
  cases r with
  | none => exact wpAny_pure h₁
  | some v =>
    refine wpAny_bind (wpAny_of_eq (show letOwnedTupleGo (.Name x px) it v = pure () from rfl) ?_)
    refine wpAny_bind (wpAny_mono (wpAny_assign_Name h₁) (fun _ s₂ h₂ => wpAny_bind (wpAny_mono h₂ (fun ok s₃ h₃ => ?_) fun _ _ h' => h')) fun _ _ h' => h')
    cases ok with
    | false => exact wpAny_pure ⟨rfl, h₃⟩
    | true =>
      exact wpAny_bind (wpAny_bind (wpAny_mono h₃ (fun x s₄ h₄ => wpAny_bind (wpAny_mono h₄ (fun _ s₅ h₅ => wpAny_pure (wpAny_pure ⟨rfl, h₅⟩)) fun _ _ h' => h')) fun _ _ h' => h'))

theorem cp_nil (o : Ok c f k) {elt iter : Expr} {x : Str} {px : Pos} {ifs : List Expr} {scope : Scope} {pos : Pos} : Cp c f (.ListComp elt [⟨.Name x px, iter, ifs, 0⟩] scope pos) 0 ρ [] [] := fun s I Dd as vs R st t hX hg hM hDL hno hl hr hz q =>
  cp_turn (it_end o.room.hd t fun h' kk => q h' s.toks vs (fun b o _ _ n e => kk b o n e) (plainL_iter t.obj kk hl) (by rw [List.append_nil]; exact hr.iter t.obj kk) (st.iter o t.obj hX hg kk))

theorem cp_cons (o : Ok c f k) {elt iter : Expr} {x : Str} {px : Pos} {ifs : List Expr} {scope : Scope} {pos : Pos} {d e : D} {ds es : List D} {b : Bool} {ρ1 : Rho} (u : Upd ρ x (some (.imm d)) ρ1) (hk : f.env.kindOf x = some .local) (l : Le ρ1 ρ)
    (ts : Ts c f ρ1 ifs b) (ev : b = true → Ev c f ρ1 elt e) (hr : Cp c f (.ListComp elt [⟨.Name x px, iter, ifs, 0⟩] scope pos) 0 ρ ds es) :
    Cp c f (.ListComp elt [⟨.Name x px, iter, ifs, 0⟩] scope pos) 0 ρ (d :: ds) (if b then e :: es else es) := fun s I Dd as vs R st t hX hg hM hDL hno hl hrs hz q =>
  cp_turn (it_next t hX fun v h1 t1 hs1 it1 r1 => by
    have kk : ∀ b o, b ≠ I → s.heap.get? b = some o → h1.get? b = some o := fun b o n e => (hs1.2 b n).trans e
    have st1 := st.iter o t.obj hX hg kk
    have hl1 := plainL_iter t.obj kk hl
    have hrs1 := hrs.iter t.obj kk
    refine store_en' o u (.inl hk) st1 (en := .imm d) r1 (fun a ds e => by cases e) fun h2 t2 bb hMb hs2 xk hbl st2 => ?_
    have hbl := hbl hk
    subst hbl
    have kp2 := Keep.same (M := f.M) hs2 hMb xk
    have hl2 := hl1.extBut hs2.extBut hDL
    have hrs2 := hrs1.keep (h' := h2) fun y ob n e => (hs2.2 y (fun q => n (q ▸ o.mx _ hMb))).trans e
    have it2 := it1.keep o hX kp2
    refine ts _ _ _ st2 fun h3 t3 x3 => ?_
    have st3 := st2.up x3
    have it3 := it2.keep o hX x3.keep
    cases b with
    | false =>
      simp only [Bool.false_eq_true, if_false] at hz q ⊢
      refine hr _ I Dd as vs R (st3.sub l) it3 hX hg hM hDL hno (hl2.keeps x3) (hrs2.ext x3) hz fun h' tk vs' k1 k2 k3 k4 => q h' tk vs' (fun b o n1 n2 n3 e => k1 b o n1 n2 n3 (x3 b o ((hs2.2 b n1).trans (kk b o n3 e)))) k2 k3 k4
    | true =>
      simp only [if_true] at hz q ⊢
      refine ev rfl _ _ _ st3 fun v4 h4 t4 x4 r4 => ?_
      have st4 := st3.up x4
      have it4 := it3.keep o hX x4.keep
      refine app_hidden o (st4.sub l) hM hno ((hl2.keeps x3).keeps x4) ((hrs2.ext x3).ext x4) r4 (by simp at hz; omega) fun h5 hs5 hl5 hrs5 st5 => ?_
      have xk5 : ∃ ob, h5.get? Dd = some ob := let ⟨ob, _, e, _⟩ := hl5; ⟨ob, e⟩
      refine hr _ I Dd (as ++ [e]) _ R st5 (it4.keep o hX (Keep.same hs5 hM xk5)) hX hg hM hDL hno hl5 hrs5 (by simp at hz ⊢; omega) fun h' tk vs' k1 k2 k3 k4 => q h' tk vs' (fun b o n1 n2 n3 e => k1 b o n1 n2 n3 ((hs5.2 b n2).trans (x4 b o (x3 b o ((hs2.2 b n1).trans (kk b o n3 e)))))) k2 (by rw [List.append_assoc] at k3; exact k3) k4)

/-- two fors: the inner loop's turn -/
theorem cp_turn2 {elt it1 it2 : Expr} {x y : Str} {px py : Pos} {ifs1 ifs2 : List Expr} {scope : Scope} {pos : Pos} {it acc : Value} {s : Shared} {R : Result → Shared → Prop}
    (h : wpAny (model c.prog c.w) f.A (pyNext it) (fun r s₁ => match r with
      | none => R (.ok .next) s₁
      | some v => wpAny (model c.prog c.w) f.A (storeName f.env y v) (fun _ s₂ =>
          wpAny (model c.prog c.w) f.A (forIn ifs2 true fun c r => if r = true then do let ok ← isTrue c f.env (eval c f.env); pure (ForInStep.yield ok) else pure (ForInStep.yield r)) (fun ok s₃ =>
            if ok = true then wpAny (model c.prog c.w) f.A (eval elt f.env) (fun x' s₄ =>
              wpAny (model c.prog c.w) f.A (call (.builtin "list.append") [acc, x']) (fun _ s₅ => codeAny (model c.prog c.w) f.A (.compLoop (.ListComp elt [⟨.Name x px, it1, ifs1, 0⟩, ⟨.Name y py, it2, ifs2, 0⟩] scope pos) 1 it acc f.env) R s₅) (notedBy (model c.prog c.w) f.A f.env fun e s' => R (.error e) s') s₄) (notedBy (model c.prog c.w) f.A f.env fun e s' => R (.error e) s') s₃
            else codeAny (model c.prog c.w) f.A (.compLoop (.ListComp elt [⟨.Name x px, it1, ifs1, 0⟩, ⟨.Name y py, it2, ifs2, 0⟩] scope pos) 1 it acc f.env) R s₃) (notedBy (model c.prog c.w) f.A f.env fun e s' => R (.error e) s') s₂) (notedBy (model c.prog c.w) f.A f.env fun e s' => R (.error e) s') s₁) (notedBy (model c.prog c.w) f.A f.env fun e s' => R (.error e) s') s) :
    codeAny (model c.prog c.w) f.A (.compLoop (.ListComp elt [⟨.Name x px, it1, ifs1, 0⟩, ⟨.Name y py, it2, ifs2, 0⟩] scope pos) 1 it acc f.env) R s := by
  refine codeAny_of_tree ?_
  show wpAny _ f.A ((compTurn (.ListComp elt [⟨.Name x px, it1, ifs1, 0⟩, ⟨.Name y py, it2, ifs2, 0⟩] scope pos) 1 it acc f.env).onRaise (fun x => do noteFrame x f.env; theTreesLotGoes x)) _ _ s
  refine wpAny_noted ?_
  have e1 : compTurn (.ListComp elt [⟨.Name x px, it1, ifs1, 0⟩, ⟨.Name y py, it2, ifs2, 0⟩] scope pos) 1 it acc f.env = (do
      standAt it2.pos
      match ← pyNext it with
      | none => pure (.done .next)
      | some v =>
        letOwnedTupleGo (.Name y py) it v
        assign (.Name y py) f.env v
        let mut ok := true
        for c in ifs2 do
          if ok then ok ← isTrue c f.env (eval c f.env)
        if ok then
          (do let _ ← call (.builtin "list.append") [acc, ← eval elt f.env])
        again (.compLoop (.ListComp elt [⟨.Name x px, it1, ifs1, 0⟩, ⟨.Name y py, it2, ifs2, 0⟩] scope pos) 1 it acc f.env)) := by rfl
  rw [e1]
  refine wpAny_bind (wpAny_standAt (wpAny_bind (wpAny_mono h (fun r s₁ h₁ => ?_) fun _ _ h' => h')))
  cases r with
  | none => exact wpAny_pure h₁
  | some v =>
    refine wpAny_bind (wpAny_of_eq (show letOwnedTupleGo (.Name y py) it v = pure () from rfl) ?_)
    refine wpAny_bind (wpAny_mono (wpAny_assign_Name h₁) (fun _ s₂ h₂ => wpAny_bind (wpAny_mono h₂ (fun ok s₃ h₃ => ?_) fun _ _ h' => h')) fun _ _ h' => h')
    cases ok with
    | false => exact wpAny_pure ⟨rfl, h₃⟩
    | true =>
      exact wpAny_bind (wpAny_bind (wpAny_mono h₃ (fun x s₄ h₄ => wpAny_bind (wpAny_mono h₄ (fun _ s₅ h₅ => wpAny_pure (wpAny_pure ⟨rfl, h₅⟩)) fun _ _ h' => h')) fun _ _ h' => h'))
theorem cp2_nil (o : Ok c f k) {elt it1 it2 : Expr} {x y : Str} {px py : Pos} {ifs1 ifs2 : List Expr} {scope : Scope} {pos : Pos} : Cp c f (.ListComp elt [⟨.Name x px, it1, ifs1, 0⟩, ⟨.Name y py, it2, ifs2, 0⟩] scope pos) 1 ρ [] [] := fun s I Dd as vs R st t hX hg hM hDL hno hl hr hz q =>
  cp_turn2 (it_end o.room.hd t fun h' kk => q h' s.toks vs (fun b o _ _ n e => kk b o n e) (plainL_iter t.obj kk hl) (by rw [List.append_nil]; exact hr.iter t.obj kk) (st.iter o t.obj hX hg kk))
theorem cp2_cons (o : Ok c f k) {elt it1 it2 : Expr} {x y : Str} {px py : Pos} {ifs1 ifs2 : List Expr} {scope : Scope} {pos : Pos} {d e : D} {ds es : List D} {b : Bool} {ρ1 : Rho} (u : Upd ρ y (some (.imm d)) ρ1) (hk : f.env.kindOf y = some .local) (l : Le ρ1 ρ)
    (ts : Ts c f ρ1 ifs2 b) (ev : b = true → Ev c f ρ1 elt e) (hr : Cp c f (.ListComp elt [⟨.Name x px, it1, ifs1, 0⟩, ⟨.Name y py, it2, ifs2, 0⟩] scope pos) 1 ρ ds es) :
    Cp c f (.ListComp elt [⟨.Name x px, it1, ifs1, 0⟩, ⟨.Name y py, it2, ifs2, 0⟩] scope pos) 1 ρ (d :: ds) (if b then e :: es else es) := fun s I Dd as vs R st t hX hg hM hDL hno hl hrs hz q =>
  cp_turn2 (it_next t hX fun v h1 t1 hs1 it1 r1 => by
    have kk : ∀ b o, b ≠ I → s.heap.get? b = some o → h1.get? b = some o := fun b o n e => (hs1.2 b n).trans e
    have st1 := st.iter o t.obj hX hg kk
    have hl1 := plainL_iter t.obj kk hl
    have hrs1 := hrs.iter t.obj kk
    refine store_en' o u (.inl hk) st1 (en := .imm d) r1 (fun a ds e => by cases e) fun h2 t2 bb hMb hs2 xk hbl st2 => ?_
    have hbl := hbl hk
    subst hbl
    have kp2 := Keep.same (M := f.M) hs2 hMb xk
    have hl2 := hl1.extBut hs2.extBut hDL
    have hrs2 := hrs1.keep (h' := h2) fun y ob n e => (hs2.2 y (fun q => n (q ▸ o.mx _ hMb))).trans e
    have it2 := it1.keep o hX kp2
    refine ts _ _ _ st2 fun h3 t3 x3 => ?_
    have st3 := st2.up x3
    have it3 := it2.keep o hX x3.keep
    cases b with
    | false =>
      simp only [Bool.false_eq_true, if_false] at hz q ⊢
      refine hr _ I Dd as vs R (st3.sub l) it3 hX hg hM hDL hno (hl2.keeps x3) (hrs2.ext x3) hz fun h' tk vs' k1 k2 k3 k4 => q h' tk vs' (fun b o n1 n2 n3 e => k1 b o n1 n2 n3 (x3 b o ((hs2.2 b n1).trans (kk b o n3 e)))) k2 k3 k4
    | true =>
      simp only [if_true] at hz q ⊢
      refine ev rfl _ _ _ st3 fun v4 h4 t4 x4 r4 => ?_
      have st4 := st3.up x4
      have it4 := it3.keep o hX x4.keep
      refine app_hidden o (st4.sub l) hM hno ((hl2.keeps x3).keeps x4) ((hrs2.ext x3).ext x4) r4 (by simp at hz; omega) fun h5 hs5 hl5 hrs5 st5 => ?_
      have xk5 : ∃ ob, h5.get? Dd = some ob := let ⟨ob, _, e, _⟩ := hl5; ⟨ob, e⟩
      refine hr _ I Dd (as ++ [e]) _ R st5 (it4.keep o hX (Keep.same hs5 hM xk5)) hX hg hM hDL hno hl5 hrs5 (by simp at hz ⊢; omega) fun h' tk vs' k1 k2 k3 k4 => q h' tk vs' (fun b o n1 n2 n3 e => k1 b o n1 n2 n3 ((hs5.2 b n2).trans (x4 b o (x3 b o ((hs2.2 b n1).trans (kk b o n3 e)))))) k2 (by rw [List.append_assoc] at k3; exact k3) k4)
/-- two fors: the outer loop's turn, no tests -/
theorem cp_turn1 {elt it1 it2 : Expr} {x y : Str} {px py : Pos} {ifs2 : List Expr} {scope : Scope} {pos : Pos} {it acc : Value} {s : Shared} {R : Result → Shared → Prop}
    (h : wpAny (model c.prog c.w) f.A (pyNext it) (fun r s₁ => match r with
      | none => R (.ok .next) s₁
      | some v => wpAny (model c.prog c.w) f.A (storeName f.env x v) (fun _ s₂ =>
          wpAny (model c.prog c.w) f.A (eval it2 f.env) (fun xv s₃ => wpAny (model c.prog c.w) f.A (pyIter xv) (fun jt s₄ =>
            codeAny (model c.prog c.w) f.A (.compStart (.ListComp elt [⟨.Name x px, it1, [], 0⟩, ⟨.Name y py, it2, ifs2, 0⟩] scope pos) 1 jt acc f.env)
              (fun r s' => match r with | .ok _ => codeAny (model c.prog c.w) f.A (.compLoop (.ListComp elt [⟨.Name x px, it1, [], 0⟩, ⟨.Name y py, it2, ifs2, 0⟩] scope pos) 0 it acc f.env) R s' | .error e => cameBackBy (model c.prog c.w) f.A f.env (notedBy (model c.prog c.w) f.A f.env fun e s' => R (.error e) s') e s') s₄)
            (notedBy (model c.prog c.w) f.A f.env fun e s' => R (.error e) s') s₃) (notedBy (model c.prog c.w) f.A f.env fun e s' => R (.error e) s') s₂) (notedBy (model c.prog c.w) f.A f.env fun e s' => R (.error e) s') s₁) (notedBy (model c.prog c.w) f.A f.env fun e s' => R (.error e) s') s)
    (hs2 : ∀ v, foldedSetIterable it2 f.env v = pure v) :
    codeAny (model c.prog c.w) f.A (.compLoop (.ListComp elt [⟨.Name x px, it1, [], 0⟩, ⟨.Name y py, it2, ifs2, 0⟩] scope pos) 0 it acc f.env) R s := by
  refine codeAny_of_tree ?_
  show wpAny _ f.A ((compTurn (.ListComp elt [⟨.Name x px, it1, [], 0⟩, ⟨.Name y py, it2, ifs2, 0⟩] scope pos) 0 it acc f.env).onRaise (fun x => do noteFrame x f.env; theTreesLotGoes x)) _ _ s
  refine wpAny_noted ?_
  have e1 : compTurn (.ListComp elt [⟨.Name x px, it1, [], 0⟩, ⟨.Name y py, it2, ifs2, 0⟩] scope pos) 0 it acc f.env = (do
      standAt it1.pos
      match ← pyNext it with
      | none => pure (.done .next)
      | some v =>
        letOwnedTupleGo (.Name x px) it v
        assign (.Name x px) f.env v
        let xv ← eval it2 f.env
        standAt it2.pos
        let xv ← foldedSetIterable it2 f.env xv
        let _ ← runOwn (.compStart (.ListComp elt [⟨.Name x px, it1, [], 0⟩, ⟨.Name y py, it2, ifs2, 0⟩] scope pos) 1 (← holding [xv] (pyIter xv)) acc f.env) f.env
        again (.compLoop (.ListComp elt [⟨.Name x px, it1, [], 0⟩, ⟨.Name y py, it2, ifs2, 0⟩] scope pos) 0 it acc f.env)) := by rfl
  rw [e1]
  refine wpAny_bind (wpAny_standAt (wpAny_bind (wpAny_mono h (fun r s₁ h₁ => ?_) fun _ _ h' => h')))
  cases r with
  | none => exact wpAny_pure h₁
  | some v =>
    refine wpAny_bind (wpAny_of_eq (show letOwnedTupleGo (.Name x px) it v = pure () from rfl) ?_)
    refine wpAny_bind (wpAny_mono (wpAny_assign_Name h₁) (fun _ s₂ h₂ => ?_) fun _ _ h' => h')
    refine wpAny_bind (wpAny_mono h₂ (fun xv s₃ h₃ => ?_) fun _ _ h' => h')
    refine wpAny_bind (wpAny_standAt (wpAny_bind (wpAny_of_eq (hs2 xv) (wpAny_bind (wpAny_holding (wpAny_mono h₃ (fun jt s₄ h₄ => ?_) fun _ _ h' => h'))))))
    refine wpAny_bind (wpAny_runOwn (codeAny_mono h₄ fun r s' hr => ?_))
    cases r with
    | ok fl => exact wpAny_pure ⟨rfl, hr⟩
    | error e => exact hr
theorem cp_start2 {elt it1 it2 : Expr} {x y : Str} {px py : Pos} {ifs1 ifs2 : List Expr} {scope : Scope} {pos : Pos} {it acc : Value} {s : Shared} {R : Result → Shared → Prop}
    (h0 : codeAny (model c.prog c.w) f.A (.compLoop (.ListComp elt [⟨.Name x px, it1, ifs1, 0⟩, ⟨.Name y py, it2, ifs2, 0⟩] scope pos) 1 it acc f.env) R s)
    (h : wpAny (model c.prog c.w) f.A (pyIter it) (fun it' s' => codeAny (model c.prog c.w) f.A (.compLoop (.ListComp elt [⟨.Name x px, it1, ifs1, 0⟩, ⟨.Name y py, it2, ifs2, 0⟩] scope pos) 1 it' acc f.env) R s')
      (notedBy (model c.prog c.w) f.A f.env fun x s' => R (.error x) s') s) :
    codeAny (model c.prog c.w) f.A (.compStart (.ListComp elt [⟨.Name x px, it1, ifs1, 0⟩, ⟨.Name y py, it2, ifs2, 0⟩] scope pos) 1 it acc f.env) R s := by
  refine codeAny_of_tree ?_
  show wpAny _ _ ((compStart (.ListComp elt [⟨.Name x px, it1, ifs1, 0⟩, ⟨.Name y py, it2, ifs2, 0⟩] scope pos) 1 it acc f.env).onRaise (fun x => do noteFrame x f.env; standAt theWindowsPlace)) _ _ s
  refine wpAny_notedAt ?_
  unfold compStart
  show wpAny _ _ (ask >>= _) _ _ s
  refine wpAny_bind (wpAny_askSetting (wpAny_ite ?_))
  split
  · first
      | exact wpAny_bind (wpAny_pure (wpAny_pure (And.intro rfl h0)))
      | exact wpAny_pure (And.intro rfl h0)
  · first
      | exact wpAny_bind (wpAny_rule (wpAny_bind (wpAny_standAt (wpAny_bind (wpAny_mono h (fun it' s' h' => wpAny_pure (And.intro rfl h')) fun _ _ x => x)))))
      | (refine wpAny_bind (wpAny_rule ?_); show wpAny _ _ (standAt it2.pos >>= _) _ _ s; exact wpAny_bind (wpAny_standAt (wpAny_bind (wpAny_mono h (fun it' s' h' => wpAny_pure (And.intro rfl h')) fun _ _ x => x))))
theorem It.keepX {ds : List D} (t : It c f I h ds) (hX : ¬ f.X I) (kk : ∀ b o, ¬ f.X b → h.get? b = some o → h'.get? b = some o) : It c f I h' ds := by
  cases t with
  | list hi hl hx hr =>
    refine .list (i := _) ?_ (isList_ext (fun ob e => kk _ ob hx e) hl) hx (hr.keep kk)
    obtain ⟨ob, e, r⟩ := hi
    exact ⟨ob, kk _ _ hX e, r⟩
  | range hi => exact .range (kk _ _ hX hi)
theorem it_self {ds : List D} {s : Shared} {Q E : Value → Shared → Prop} (t : It c f I s.heap ds) (q : Q (.ref I) s) : wpAny (model c.prog c.w) f.A (pyIter (.ref I)) Q E s := by
  cases t with
  | list hi hl hx hr => exact wpAny_pyIter_listiter hi q
  | range hi => exact wpAny_pyIter_rangeiter hi q
theorem cp1_nil (o : Ok c f k) {elt it1 it2 : Expr} {x y : Str} {px py : Pos} {ifs2 : List Expr} {scope : Scope} {pos : Pos} (hs2 : ∀ v, foldedSetIterable it2 f.env v = pure v) : Cp c f (.ListComp elt [⟨.Name x px, it1, [], 0⟩, ⟨.Name y py, it2, ifs2, 0⟩] scope pos) 0 ρ [] [] := fun s I Dd as vs R st t hX hg hM hDL hno hl hr hz q =>
  cp_turn1 (it_end o.room.hd t fun h' kk => q h' s.toks vs (fun b o _ _ n e => kk b o n e) (plainL_iter t.obj kk hl) (by rw [List.append_nil]; exact hr.iter t.obj kk) (st.iter o t.obj hX hg kk)) hs2
theorem cp1_cons (o : Ok c f k) {elt it1 it2 : Expr} {x y : Str} {px py : Pos} {ifs2 : List Expr} {scope : Scope} {pos : Pos} {d d2 : D} {ds js es fs : List D} {ρ1 : Rho} (u : Upd ρ x (some (.imm d)) ρ1) (hk : f.env.kindOf x = some .local) (l : Le ρ1 ρ)
    (ev : Ev c f ρ1 it2 d2) (hi : Items d2 js) (inner : Cp c f (.ListComp elt [⟨.Name x px, it1, [], 0⟩, ⟨.Name y py, it2, ifs2, 0⟩] scope pos) 1 ρ1 js es) (hs2 : ∀ v, foldedSetIterable it2 f.env v = pure v)
    (hr : Cp c f (.ListComp elt [⟨.Name x px, it1, [], 0⟩, ⟨.Name y py, it2, ifs2, 0⟩] scope pos) 0 ρ ds fs) :
    Cp c f (.ListComp elt [⟨.Name x px, it1, [], 0⟩, ⟨.Name y py, it2, ifs2, 0⟩] scope pos) 0 ρ (d :: ds) (es ++ fs) := fun s I Dd as vs R st t hX hg hM hDL hno hl hrs hz q =>
  cp_turn1 (it_next t hX fun v h1 t1 hs1 it1 r1 => by
    have kk : ∀ b o, b ≠ I → s.heap.get? b = some o → h1.get? b = some o := fun b o n e => (hs1.2 b n).trans e
    have st1 := st.iter o t.obj hX hg kk
    have hl1 := plainL_iter t.obj kk hl
    have hrs1 := hrs.iter t.obj kk
    refine store_en' o u (.inl hk) st1 (en := .imm d) r1 (fun a ds e => by cases e) fun h2 t2 bb hMb hs2 xk hbl st2 => ?_
    have hbl := hbl hk
    subst hbl
    have kp2 := Keep.same (M := f.M) hs2 hMb xk
    have hl2 := hl1.extBut hs2.extBut hDL
    have hrs2 := hrs1.keep (h' := h2) fun y ob n e => (hs2.2 y (fun q => n (q ▸ o.mx _ hMb))).trans e
    have it2 := it1.keep o hX kp2
    refine ev _ _ _ st2 fun v3 h3 t3 x3 r3 => iter_of hi (st2.up x3).w r3 fun J h4 x4 fJ it4 hXJ hgJ => ?_
    have st4 := (st2.up x3).up x4
    have itI4 := (it2.keep o hX x3.keep).keep o hX x4.keep
    have hno1 : ∀ y a bs, (y, some (En.own a bs)) ∈ ρ1 → a ≠ Dd := fun y a bs hy => by
      rcases u.mem st.nd _ hy with e | ⟨e, _⟩
      · cases e
      · exact hno _ _ _ e
    have hIJ : I ≠ J := fun e => by
      obtain ⟨ob, e1, _⟩ := (it2.keep o hX x3.keep).obj
      have fJ' : h3.get? J = none := fJ
      rw [e, fJ'] at e1; cases e1
    have hz1 : as.length + es.length ≤ 1000000 := by simp at hz; omega
    have go := inner { s with heap := h4, toks := t3 } J Dd as vs (fun r s' => match r with | .ok _ => codeAny (model c.prog c.w) f.A (.compLoop (.ListComp elt [⟨.Name x px, _, [], 0⟩, ⟨.Name y py, _, ifs2, 0⟩] scope pos) 0 (.ref I) (.ref Dd) f.env) R s' | .error e => cameBackBy (model c.prog c.w) f.A f.env (notedBy (model c.prog c.w) f.A f.env fun e s' => R (.error e) s') e s')
      st4 it4 hXJ hgJ hM hDL hno1 ((hl2.keeps x3).keeps x4) ((hrs2.ext x3).ext x4) hz1 (fun h5 t5 vs5 k1 k2 k3 k4 => by
        refine hr _ I Dd (as ++ es) vs5 R (k4.sub l) ?_ hX hg hM hDL hno k2 k3 (by simp at hz ⊢; omega) fun h' tk vs' m1 m2 m3 m4 => q h' tk vs' (fun b ob n1 n2 n3 e => ?_) m2 (by rw [List.append_assoc] at m3; exact m3) m4
        · refine (it2.keep o hX x3.keep).keepX hX fun b ob n e => k1 b ob (fun z => n (z ▸ o.mx _ o.loc)) (fun z => n (z ▸ o.mx _ hM)) (fun z => ?_) (x4 b ob e)
          have fJ' : h3.get? J = none := fJ
          rw [z, fJ'] at e; cases e
        · have nJ : b ≠ J := fun z => by
            have fJ' : h3.get? J = none := fJ
            have := x3 b ob ((hs2.2 b n1).trans (kk b ob n3 e))
            rw [z, fJ'] at this; cases this
          exact m1 b ob n1 n2 n3 (k1 b ob n1 n2 nJ (x4 b ob (x3 b ob ((hs2.2 b n1).trans (kk b ob n3 e))))))
    exact cp_start2 go (it_self it4 go)) hs2
end
end Mine
end
section
namespace Mine
open PySem PySem.W PySem.Calls PyProof.Rows PySem.Spec

section
variable {c : Cx} {f : Fx} {ρ ρ' ρc : Rho} {k : Nat} {I : Addr} {h h' : Heap}

theorem lookup_mem {α β : Type} [BEq α] [LawfulBEq α] : ∀ {l : List (α × β)} {x : α} {b : β}, l.lookup x = some b → (x, b) ∈ l
  | (y, v) :: r, x, b, e => by
    rw [List.lookup_cons] at e
    cases q : x == y with
    | true => rw [q] at e; cases e; rw [eq_of_beq q]; exact .head _
    | false => rw [q] at e; exact .tail _ (lookup_mem e)

/-- what the comprehension sees -/
structure Sees (f : Fx) (ρ : Rho) (scope : Scope) (ρc : Rho) : Prop where
  nd : (ρc.map (·.1)).Nodup
  sees : ∀ x en, (x, some en) ∈ ρc → (x, some en) ∈ ρ ∧ scope.names.lookup x = some .free ∧ f.env.kindOf x ≠ some .local
  free : FreeOk f.env scope.names
  nocell : ∀ y ∈ scope.names, y.2 ≠ .cell
  kind : scope.kind = .function
  names : ∀ y ∈ scope.names, y.2 = .local → scope.names.lookup y.1 = some .local

theorem It.more2 {ds : List D} {scope : Scope} {Dd Cc : Addr} (t : It c f I h ds) (hD : h.get? Dd = none) (hC : h.get? Cc = none) : It c (cfx f scope Dd Cc) I h ds := by
  cases t with
  | list hi hl hx hr =>
    refine .list hi hl (fun q => ?_) ((hr.more hD).more hC)
    obtain ⟨o, e, _⟩ := hl
    rcases q with (q | q) | q
    · exact hx q
    · rw [q, hD] at e; cases e
    · rw [q, hC] at e; cases e
  | range hi => exact .range hi
theorem It.up {ds : List D} (t : It c f I h ds) (k : Ext h h') : It c f I h' ds := by
  cases t with
  | list hi hl hx hr =>
    obtain ⟨ob, e, r⟩ := hi
    exact .list ⟨ob, k _ _ e, r⟩ (isList_ext (fun o e => k _ o e) hl) hx (hr.ext k)
  | range hi => exact .range (k _ _ hi)

theorem comp_go (o : Ok c f k) {e elt iter : Expr} {x : Str} {px : Pos} {ifs : List Expr} {rest : List Comprehension} {scope : Scope} {pos p0 : Pos} {d : D} {ds es : List D} {use : Option (Value → Sem Unit)} (he : e = .ListComp elt (⟨.Name x px, iter, ifs, 0⟩ :: rest) scope pos)
    (hiter : Ev c f ρ iter d) (hi : Items d ds) (sees : Sees f ρ scope ρc) (hrun : ∀ Dd Cc, Ok c (cfx f scope Dd Cc) k → Cp c (cfx f scope Dd Cc) e 0 ρc ds es) (hz : es.length ≤ 1000000) (hs : ∀ x, foldedSetIterable iter f.env x = pure x)
    {s : Shared} {Q E : Value → Shared → Prop} (st : St c f ρ s.heap)
    (q : ∀ Dd Cc h' tk, Ext s.heap h' → s.heap.get? Dd = none → s.heap.get? Cc = none → Dd ≠ Cc → (∃ m, h'.Ns Cc m) → Rep c.C h' (fun b => f.X b ∨ b = Cc) (.ref Dd) (.list es) → c.g.get? Cc = none → ¬ f.X Cc → compPost (model c.prog c.w) f.A E use Q (.ref Dd) Cc (.ok .next) { s with heap := h', toks := tk }) :
    wpAny (model c.prog c.w) f.A (comprehension e scope f.env p0 (newList []) false (eval iter f.env) use) Q E s := by
  subst he
  refine wpAny_comprehension_free (g := ⟨.Name x px, iter, ifs, 0⟩) (gs := rest) rfl hs (closureFor_eq scope f.env sees.free) sees.kind sees.names ?_
  refine hiter s _ E st fun v h1 t1 x1 r1 => ?_
  have st1 := st.up x1
  refine iter_of hi st1.w r1 fun I h2 x2 fI it hXI hgI => ?_
  have st2 := st1.up x2
  have fI' : h1.get? I = none := fI
  refine wpAny_newObj_type (wpAny_newFunctionEnv sees.nocell (by intro y hy; simp at hy) (fun h4 hns4 hsb4 => ?_) sees.kind)
  dsimp only at hns4 hsb4 ⊢
  generalize hH3 : h2.push { cls := .type "list", dict := none, data := .seq ([] : List Value).toArray } = H3 at hns4 hsb4 ⊢
  have hC : H3.objs.size = h2.objs.size + 1 := by rw [← hH3, Heap.size_push]
  have hDC : h2.objs.size ≠ H3.objs.size := by rw [hC]; exact Nat.ne_of_lt (Nat.lt_succ_self _)
  have fD : h2.get? h2.objs.size = none := fresh_size _
  have fC : h2.get? H3.objs.size = none := Heap.get?_none_of_le (by rw [hC]; exact Nat.le_succ _)
  have x23 : Ext h2 H3 := hH3 ▸ Ext.push _ _
  have x24 : Ext h2 h4 := fun b ob e => hsb4.extBut b ob (fun z => by rw [z, fC] at e; cases e) (Heap.get?_push_of_some _ (x23 b ob e))
  have none_of : ∀ {a : Addr}, h2.get? a = none → ∀ {g : Heap}, Ext g h2 → g.get? a = none := fun {a} ha {g} eg => by
    cases q : g.get? a with
    | none => rfl
    | some o' => have := eg _ _ q; rw [ha] at this; cases this
  have gD := none_of fD st2.ext
  have gC := none_of fC st2.ext
  have XD : ¬ f.X h2.objs.size := st2.w.fresh fD
  have XC : ¬ f.X H3.objs.size := st2.w.fresh fC
  have ok : Ok c (cfx f scope h2.objs.size H3.objs.size) k :=
    { kind := sees.kind, glob := o.glob, blt := o.blt, mx := fun b z => z.imp (fun z => z.imp (o.mx b) id) id, loc := .inr rfl,
      apart := fun y z b e1 e2 => o.apart y z b (clos_back _ [] sees.free (fun _ _ e => nomatch e) _ _ e1) (clos_back _ [] sees.free (fun _ _ e => nomatch e) _ _ e2),
      dis := fun b z => by
        rcases z with (z | z) | z
        · exact o.dis b z
        · rw [z]; exact gD
        · rw [z]; exact gC
      room := o.room }
  have hpl : PlainL h4 h2.objs.size ([] : List Value).toArray := by
    refine ⟨{ cls := .type "list", dict := none, data := .seq ([] : List Value).toArray }, 0, hsb4.extBut _ _ hDC (Heap.get?_push_of_some _ ?_), rfl, rfl, rfl⟩
    rw [← hH3]; exact Heap.get?_push_size _ rfl
  have stc : St c (cfx f scope h2.objs.size H3.objs.size) ρc h4 := by
    refine ⟨sees.nd, st2.ext.trans x24, fun b z => ?_, fun y b e => ?_, fun y z b bs cs h1 h2 => ?_, ⟨_, hns4, fun y en hy hyl => ?_⟩, fun y en hy hyl => ?_⟩
    · rcases z with (z | z) | z
      · obtain ⟨ob, w⟩ := st2.xok b z; exact ⟨ob, x24 _ _ w⟩
      · obtain ⟨ob, n, w, _⟩ := hpl; exact ⟨ob, z ▸ w⟩
      · obtain ⟨ob, _, _, w, _⟩ := hns4; exact ⟨ob, z ▸ w⟩
    · obtain ⟨v, w⟩ := st2.cl y b (clos_back _ [] sees.free (fun _ _ e => nomatch e) _ _ e)
      exact ⟨v, w.keeps x24⟩
    · exact st2.oa y z b bs cs (sees.sees _ _ h1).1 (sees.sees _ _ h2).1
    · obtain ⟨h1, h2, h3⟩ := sees.sees _ _ hy
      exfalso
      have hyl' : (relabel scope f.env).names.lookup y = some .local := hyl
      rcases relabel_free (env := f.env) h2 with w | w
      · rw [show (relabel scope f.env).names.lookup y = some .cell from w] at hyl'; cases hyl'
      · rw [show (relabel scope f.env).names.lookup y = some .free from w] at hyl'; cases hyl'
    · obtain ⟨h1, h2, h3⟩ := sees.sees _ _ hy
      obtain ⟨a, v, hk, hc, hv, r⟩ := st2.cs y en h1 h3
      refine ⟨a, v, relabel_free (env := f.env) h2, clos_look hc _ _ (.inl (lookup_mem h2)), hv.keeps x24, ?_⟩
      exact ((r.more fD).more fC).ext x24
  have itc : It c (cfx f scope h2.objs.size H3.objs.size) I h4 ds := (it.more2 fD fC).up x24
  have XI : ¬ (cfx f scope h2.objs.size H3.objs.size).X I := by
    obtain ⟨ob, w, _⟩ := it.obj
    rintro ((z | z) | z)
    · exact hXI z
    · rw [z, fD] at w; cases w
    · rw [z, fC] at w; cases w
  have go : codeAny (model c.prog c.w) f.A (.compLoop (.ListComp elt (⟨.Name x px, iter, ifs, 0⟩ :: rest) scope pos) 0 (.ref I) (.ref h2.objs.size) (compEnvC scope (closOf f.env scope.names []) H3.objs.size f.env))
      (compPost (model c.prog c.w) f.A E use Q (.ref h2.objs.size) H3.objs.size) { s with heap := h4, toks := t1 } := by
    refine hrun _ _ ok { s with heap := h4, toks := t1 } I h2.objs.size [] [] _ stc itc XI hgI (.inl (.inr rfl)) hDC (fun y a bs hy => ?_) hpl .nil (by simpa using hz) fun h5 t5 vs5 k1 k2 k3 k4 => ?_
    · obtain ⟨v, vs, _, hm, hl, _⟩ := st2.en (sees.sees _ _ hy).1
      intro z
      have := hl.isList
      obtain ⟨ob, w, _⟩ := this
      rw [z, fD] at w; cases w
    · have x25 : Ext h1 h5 := fun b ob e => k1 b ob (fun z => by
          have w := x2 b ob e; have z' : b = H3.objs.size := z; rw [z', fC] at w; cases w) (fun z => by have w := x2 b ob e; rw [z, fD] at w; cases w) (fun z => by rw [z, fI'] at e; cases e) (x24 _ _ (x2 _ _ e))
      have hnone : ∀ {a : Addr}, h2.get? a = none → s.heap.get? a = none := fun ha => none_of ha (x1.trans x2)
      refine q h2.objs.size H3.objs.size h5 t5 (x1.trans x25) (hnone fD) (hnone fC) hDC ?_ ?_ gC XC
      · obtain ⟨m, hn, _⟩ := k4.ns; exact ⟨m, hn⟩
      · exact .list k2.isList (fun z => z.elim XD hDC) (Reps.less (X := (cfx f scope h2.objs.size H3.objs.size).X) (fun b z => z.imp .inl id) (by simpa using k3))
  have goS : codeAny (model c.prog c.w) f.A (.compStart (.ListComp elt (⟨.Name x px, iter, ifs, 0⟩ :: rest) scope pos) 0 (.ref I) (.ref h2.objs.size) (compEnvC scope (closOf f.env scope.names []) H3.objs.size f.env))
      (compPost (model c.prog c.w) f.A E use Q (.ref h2.objs.size) H3.objs.size) { s with heap := h4, toks := t1 } :=
    codeAny_compStart_list go (it_self (c := c) (f := cfx f scope h2.objs.size H3.objs.size) (s := { s with heap := h4, toks := t1 }) itc go)
  exact goS

theorem ev_comp (o : Ok c f k) {elt iter : Expr} {x : Str} {px : Pos} {ifs : List Expr} {rest : List Comprehension} {scope : Scope} {pos : Pos} {d : D} {ds es : List D}
    (hiter : Ev c f ρ iter d) (hi : Items d ds) (sees : Sees f ρ scope ρc) (hrun : ∀ Dd Cc, Ok c (cfx f scope Dd Cc) k → Cp c (cfx f scope Dd Cc) (.ListComp elt (⟨.Name x px, iter, ifs, 0⟩ :: rest) scope pos) 0 ρc ds es) (hz : es.length ≤ 1000000) (hs : ∀ x, foldedSetIterable iter f.env x = pure x) :
    Ev c f ρ (.ListComp elt (⟨.Name x px, iter, ifs, 0⟩ :: rest) scope pos) (.list es) := fun s Q E st q => by
  rw [eval_ListComp]
  refine comp_go o rfl hiter hi sees hrun hz hs st fun Dd Cc h' tk x1 fD fC hDC hn r gC XC => ?_
  obtain ⟨m, hn⟩ := hn
  refine ⟨m, hn, fun h2 hs2 => q _ h2 tk (fun b ob e => (hs2.2 b (fun z => by rw [z, fC] at e; cases e)).trans (x1 b ob e)) ?_⟩
  exact (r.keep fun b ob n e => (hs2.2 b (fun z => n (.inr z))).trans e).less fun b z => .inl z

/-- name = [..]: the stores exchanged -/
theorem ex_assign_comp (o : Ok c f k) {y : Str} {py spos : Pos} {elt iter : Expr} {x : Str} {px : Pos} {ifs : List Expr} {rest : List Comprehension} {scope : Scope} {pos : Pos} {d : D} {ds es : List D}
    (hiter : Ev c f ρ iter d) (hi : Items d ds) (sees : Sees f ρ scope ρc) (hrun : ∀ Dd Cc, Ok c (cfx f scope Dd Cc) k → Cp c (cfx f scope Dd Cc) (.ListComp elt (⟨.Name x px, iter, ifs, 0⟩ :: rest) scope pos) 0 ρc ds es) (hz : es.length ≤ 1000000) (hs : ∀ x, foldedSetIterable iter f.env x = pure x)
    (u : Upd ρ y (some (.imm (.list es))) ρ') (hy : f.env.kindOf y = some .local) (hsw : swapsWith (.ListComp elt (⟨.Name x px, iter, ifs, 0⟩ :: rest) scope pos) (some (.Name y py)) spos.line f.env = pure true) :
    Ex c f ρ (.Assign [.Name y py] (.ListComp elt (⟨.Name x px, iter, ifs, 0⟩ :: rest) scope pos) spos) ρ' .next := fun s Q E st q => by
  rw [exec_Assign_Name_used _ _ _ _ hsw]
  refine wpAny_bind (wpAny_standAt (wpAny_bind ?_))
  show wpAny _ f.A (do let _ ← comprehension (.ListComp elt (⟨.Name x px, iter, ifs, 0⟩ :: rest) scope pos) scope f.env _ (newList []) false (eval iter f.env) (some (assign (.Name y py) f.env))) _ _ s
  refine wpAny_bind (wpAny_mono (comp_go (use := some (assign (.Name y py) f.env)) (Q := fun _ s' => Q .next s') o rfl hiter hi sees hrun hz hs st fun Dd Cc h' tk x1 fD fC hDC hn r gC XC => ?_) (fun _ s' hq => wpAny_pure (wpAny_pure hq)) fun _ _ e => e)
  obtain ⟨m, hn⟩ := hn
  have st1 := st.up x1
  show wpAny _ f.A (assign (.Name y py) f.env (.ref Dd)) _ _ _
  have r0 : Rep c.C h' f.X (.ref Dd) (.list es) := r.less fun b z => .inl z
  refine wpAny_assign_Name (store_en' o u (.inl hy) st1 (en := .imm (.list es)) r0 (fun a ds e => by cases e) fun h2 t2 bb hMb hs2 xk hbl st2 => ?_)
  have hbl := hbl hy
  subst hbl
  have hLC : f.env.locals ≠ Cc := fun z => XC (z ▸ o.mx _ o.loc)
  have hn2 : h2.Ns Cc m := hn.sameBut hs2 (Ne.symm hLC)
  refine ⟨m, hn2, fun h3 hs3 => ?_⟩
  have hI : IterObj h2 Cc := by
    obtain ⟨ob, es, ep, e, dd, _⟩ := hn2
    exact ⟨ob, e, fun _ _ z => (by rw [dd] at z; cases z), fun z => (by rw [dd] at z; cases z), fun _ z => (by rw [dd] at z; cases z), fun _ _ z => (by rw [dd] at z; cases z)⟩
  have kk : ∀ b ob, b ≠ Cc → h2.get? b = some ob → h3.get? b = some ob := fun b ob n e => (hs3.2 b n).trans e
  have kp2 := Keep.same (M := f.M) hs2 hMb xk
  refine q .next h3 t2 ⟨fun b ob n e => kk b ob (fun z => by rw [z, fC] at e; cases e) (kp2.1 b ob n (x1 b ob e)), fun b ob e => ?_⟩ trivial (st2.iter o hI XC gC kk)
  obtain ⟨o2, e2⟩ := kp2.2 b ob (x1 b ob e)
  exact ⟨o2, kk b o2 (fun z => by rw [z, fC] at e; cases e) e2⟩
end
end Mine
end
section
namespace Mine
open PySem PySem.W PySem.Calls PyProof.Rows PySem.Spec PySem.SeqAt

mutual
noncomputable def D.py : D → PyData
  | .bool b => .bool b
  | .int i => .int i
  | .list ds => .list (D.pys ds)
  | .tuple ds => .tuple (D.pys ds)
  | _ => .none
noncomputable def D.pys : List D → List PyData
  | [] => []
  | d :: ds => d.py :: D.pys ds
end
mutual
/-- plain data, at most n deep -/
noncomputable def D.pl : Nat → D → Bool
  | _, .none => true
  | _, .bool _ => true
  | _, .int _ => true
  | n, .list ds => match n with | 0 => false | n + 1 => D.pls n ds
  | n, .tuple ds => match n with | 0 => false | n + 1 => D.pls n ds
  | _, _ => false
noncomputable def D.pls : Nat → List D → Bool
  | _, [] => true
  | n, d :: ds => d.pl n && D.pls n ds
end
mutual
theorem Rep.reads {C : Addr} {h : Heap} {X : Addr → Prop} {n : Nat} : ∀ {v : Value} {d : D}, Rep C h X v d → d.pl n = true → ∃ as, Reads h v d.py as
  | _, _, .none, _ => ⟨_, .none⟩
  | _, _, .bool b, _ => ⟨_, .bool b⟩
  | _, _, .int i t, _ => ⟨_, .int i t⟩
  | _, _, .list hl hx hs, p => by
    cases n with
    | zero => simp [D.pl] at p
    | succ n =>
      obtain ⟨as, r⟩ := Reps.reads (n := n) hs (by simpa [D.pl] using p)
      obtain ⟨o, e, hc, k, hd⟩ := hl
      exact ⟨_, .list e hc hd (by simpa using r)⟩
  | _, _, .tuple hl hx hs, p => by
    cases n with
    | zero => simp [D.pl] at p
    | succ n =>
      obtain ⟨as, r⟩ := Reps.reads (n := n) hs (by simpa [D.pl] using p)
      obtain ⟨o, e, hc, k, hd⟩ := hl
      exact ⟨_, .tuple e hc hd (by simpa using r)⟩
  | _, _, .key ho hx, p => by simp [D.pl] at p
  | _, _, .range ho hx, p => by simp [D.pl] at p
  | _, _, .val v, p => by simp [D.pl] at p
theorem Reps.reads {C : Addr} {h : Heap} {X : Addr → Prop} {n : Nat} : ∀ {vs : List Value} {ds : List D}, Reps C h X vs ds → D.pls n ds = true → ∃ as, ReadsAll h vs (D.pys ds) as
  | _, _, .nil, _ => ⟨_, .nil⟩
  | _, _, .cons hv hs, p => by
    simp only [D.pls, Bool.and_eq_true] at p
    obtain ⟨as, r⟩ := Rep.reads hv p.1
    obtain ⟨bs, q⟩ := Reps.reads hs p.2
    exact ⟨_, .cons r q⟩
end
mutual
theorem pl_lay : ∀ (n : Nat) (d : D), d.pl n = true → d.py.canLay0 = true ∧ d.py.depth ≤ n
  | _, .none, _ => ⟨rfl, by simp [D.py, PyData.depth]⟩
  | _, .bool _, _ => ⟨rfl, by simp [D.py, PyData.depth]⟩
  | _, .int _, _ => ⟨rfl, by simp [D.py, PyData.depth]⟩
  | 0, .list _, h => by simp [D.pl] at h
  | 0, .tuple _, h => by simp [D.pl] at h
  | n + 1, .list ds, h => by
    have := pls_lay n ds (by simpa [D.pl] using h)
    simp only [D.py, PyData.canLay0, PyData.depth]
    exact ⟨this.1, Nat.succ_le_succ this.2⟩
  | n + 1, .tuple ds, h => by
    have := pls_lay n ds (by simpa [D.pl] using h)
    simp only [D.py, PyData.canLay0, PyData.depth]
    exact ⟨this.1, Nat.succ_le_succ this.2⟩
  | _, .key _, h => by simp [D.pl] at h
  | _, .range _ _ _, h => by simp [D.pl] at h
  | _, .val _, h => by simp [D.pl] at h
theorem pls_lay : ∀ (n : Nat) (ds : List D), D.pls n ds = true → PyData.canLayAll0 (D.pys ds) = true ∧ PyData.depthAll (D.pys ds) ≤ n
  | _, [], _ => ⟨rfl, by simp [D.pys, PyData.depthAll]⟩
  | n, d :: ds, h => by
    simp only [D.pls, Bool.and_eq_true] at h
    have h1 := pl_lay n d h.1
    have h2 := pls_lay n ds h.2
    simp only [D.pys, PyData.canLayAll0, PyData.depthAll, Bool.and_eq_true]
    exact ⟨⟨h1.1, h2.1⟩, Nat.max_le.mpr ⟨h1.2, h2.2⟩⟩
end
theorem pl_shaped {d : D} (h : d.pl 9 = true) : SeqAt.shaped d.py = true := by
  have := pl_lay 9 d h
  unfold SeqAt.shaped
  rw [this.1, Bool.true_and]
  exact decide_eq_true (by omega)

section
variable {c : Cx} {f : Fx} {k : Nat}

theorem room64 (o : Ok c f k) : f.A.units + 65 < cLine := by have := o.room.un; rw [cLine_is]; omega
theorem cm_dne (o : Ok c f k) {d e : D} (hd : d.pl 9 = true) (he : e.pl 9 = true) : Cm c f .NotEq d e (!PyData.eqv d.py e.py) := fun s v1 v2 Q E w r1 r2 q => by
  obtain ⟨as, ra⟩ := r1.reads hd
  obtain ⟨bs, rb⟩ := r2.reads he
  exact compareNe_shaped ra rb (pl_shaped hd) (pl_shaped he) (by have := room64 o; omega) (q s.heap s.toks (Ext.refl _))
theorem cm_din (o : Ok c f k) {d : D} {es : List D} (hd : d.pl 9 = true) (he : (D.list es).pl 9 = true) : Cm c f .In d (.list es) ((D.pys es).any fun y => PyData.eqv y d.py) := fun s v1 v2 Q E w r1 r2 q => by
  obtain ⟨as, ra⟩ := r1.reads hd
  obtain ⟨bs, rb⟩ := r2.reads he
  exact in_list_reads rb ra (canLay_of_shaped (pl_shaped he)) (canLay_of_shaped (pl_shaped hd)) (room_in_shaped (pl_shaped hd) (room64 o)) (q s.heap s.toks (Ext.refl _))
theorem cm_dnotin (o : Ok c f k) {d : D} {es : List D} (hd : d.pl 9 = true) (he : (D.list es).pl 9 = true) : Cm c f .NotIn d (.list es) (!(D.pys es).any fun y => PyData.eqv y d.py) := fun s v1 v2 Q E w r1 r2 q => by
  obtain ⟨as, ra⟩ := r1.reads hd
  obtain ⟨bs, rb⟩ := r2.reads he
  exact notIn_list_reads rb ra (canLay_of_shaped (pl_shaped he)) (canLay_of_shaped (pl_shaped hd)) (room_in_shaped (pl_shaped hd) (room64 o)) (q s.heap s.toks (Ext.refl _))
end

/-! lists of two ints, in order -/
section
open AutoSeq1 (wpAny_loadPart')
open MeetsSeq MeetsSeq2 MeetsSeq3 SeqRoads2
noncomputable def lt2 (a1 b1 a2 b2 : Int) : Bool := if a1 == a2 then (if b1 == b2 then false else decide (b1 < b2)) else decide (a1 < a2)

theorem rc_lt {prog : Program} {w : World} {A : Around} {E : Value → Shared → Prop} {s : Shared} {a b : Int} {t u : Tok} {Q : Value → Shared → Prop} (h : Q (.bool (decide (a < b))) s) : wpAny (model prog w) A (richCompare .Lt (.int a t) (.int b u)) Q E s :=
  richCompare_gives (op := .Lt) (typeIs_int s _ t) (typeIs_int s _ u) F.slot_int_lt F.entry_int_lt (F.args_int_lt_2 _ _) (gives_int_lt _ _ t u) (fun x => nomatch x) h
theorem rc_gt {prog : Program} {w : World} {A : Around} {E : Value → Shared → Prop} {s : Shared} {a b : Int} {t u : Tok} {Q : Value → Shared → Prop} (h : Q (.bool (decide (a > b))) s) : wpAny (model prog w) A (richCompare .Gt (.int a t) (.int b u)) Q E s :=
  richCompare_gives (op := .Gt) (typeIs_int s _ t) (typeIs_int s _ u) F.slot_int_gt F.entry_int_gt (F.args_int_gt_2 _ _) (gives_int_gt _ _ t u) (fun x => nomatch x) h

theorem loop_lt2 (l b : Addr) (xs ys : Array Value) (n n2 : Nat) (dd dd2 : Option Addr) (sl sl2 : Array (Option Value)) (a1 b1 a2 b2 : Int) (t1 u1 t2 u2 : Tok) (hx : xs.size = 2) (hy : ys.size = 2)
    (x0 : xs[(0 : Int).toNat]? = some (.int a1 t1)) (x1 : xs[(1 : Int).toNat]? = some (.int b1 u1)) (y0 : ys[(0 : Int).toNat]? = some (.int a2 t2)) (y1 : ys[(1 : Int).toNat]? = some (.int b2 u2)) :
    Meets (Builtin.«list.__eq__.loop» ⟨[.ref l, .ref b, rawInt 0, rawInt 0], []⟩)
      (fun A R s => s.heap.get? l = some { cls := .type "list", dict := dd, data := .seq xs n, slots := sl } ∧ s.heap.get? b = some { cls := .type "list", dict := dd2, data := .seq ys n2, slots := sl2 } ∧
        R (.ok (.ret (.bool (lt2 a1 b1 a2 b2)))) s) := by
  have x2 : xs[(2 : Int).toNat]? = none := by
    rw [Array.getElem?_eq_none_iff, hx]; decide
  have last : Meets (Builtin.«list.__eq__.loop» ⟨[.ref l, .ref b, rawInt 2, rawInt 0], []⟩)
      (fun A R s => s.heap.get? l = some { cls := .type "list", dict := dd, data := .seq xs n, slots := sl } ∧ s.heap.get? b = some { cls := .type "list", dict := dd2, data := .seq ys n2, slots := sl2 } ∧
        R (.ok (.ret (.bool false))) s) := by
    intro prog w A R s h
    obtain ⟨hl, hb, h⟩ := h
    unfold Builtin.«list.__eq__.loop»
    refine wpAny_bind (listItems_at hl rfl (wpAny_bind (listItems_at hb rfl ?_)))
    rw [x2]
    refine wpAny_bind (listItems_at hl rfl (wpAny_bind (listItems_at hb rfl (wpAny_pure ?_))))
    show R (.ok (.ret (.bool (decide (xs.size < ys.size))))) _
    rw [hx, hy]
    exact h
  have mid : Meets (Builtin.«list.__eq__.loop» ⟨[.ref l, .ref b, rawInt 1, rawInt 0], []⟩)
      (fun A R s => s.heap.get? l = some { cls := .type "list", dict := dd, data := .seq xs n, slots := sl } ∧ s.heap.get? b = some { cls := .type "list", dict := dd2, data := .seq ys n2, slots := sl2 } ∧
        R (.ok (.ret (.bool (if b1 == b2 then false else decide (b1 < b2))))) s) := by
    intro prog w A R s h
    obtain ⟨hl, hb, h⟩ := h
    unfold Builtin.«list.__eq__.loop»
    refine wpAny_bind (listItems_at hl rfl (wpAny_bind (listItems_at hb rfl ?_)))
    rw [x1, y1]
    refine wpAny_bind (EqGives.int b1 b2 u1 u2 _ _ _ _ _ _ ?_)
    cases hb' : (b1 == b2) with
    | true =>
      rw [hb'] at h
      exact wpAny_pure ⟨plainId_quiet plain_eq_loop _, codeAny_builtin entry_eq_loop (by
        rw [Around.under_plainId plain_eq_loop _]
        exact last prog w A R _ ⟨hl, hb, h⟩)⟩
    | false =>
      rw [hb'] at h
      refine wpAny_bind (listItems_at hl rfl (wpAny_bind (listItems_at hb rfl ?_)))
      rw [x1, y1]
      exact wpAny_bind (rc_lt (wpAny_pure h))
  intro prog w A R s h
  obtain ⟨hl, hb, h⟩ := h
  have e : (lt2 a1 b1 a2 b2) = if a1 == a2 then (if b1 == b2 then false else decide (b1 < b2)) else decide (a1 < a2) := by
    unfold lt2
    have e1 : (a2 == a1) = (a1 == a2) := by rw [Bool.eq_iff_iff, beq_iff_eq, beq_iff_eq]; exact eq_comm
    have e2 : (b2 == b1) = (b1 == b2) := by rw [Bool.eq_iff_iff, beq_iff_eq, beq_iff_eq]; exact eq_comm
    first | rfl | rw [e1, e2]
  rw [e] at h
  unfold Builtin.«list.__eq__.loop»
  refine wpAny_bind (listItems_at hl rfl (wpAny_bind (listItems_at hb rfl ?_)))
  rw [x0, y0]
  refine wpAny_bind (EqGives.int a1 a2 t1 t2 _ _ _ _ _ _ ?_)
  cases hb' : (a1 == a2) with
  | true =>
    rw [hb'] at h
    exact wpAny_pure ⟨plainId_quiet plain_eq_loop _, codeAny_builtin entry_eq_loop (by
      rw [Around.under_plainId plain_eq_loop _]
      exact mid prog w A R _ ⟨hl, hb, h⟩)⟩
  | false =>
    rw [hb'] at h
    refine wpAny_bind (listItems_at hl rfl (wpAny_bind (listItems_at hb rfl ?_)))
    rw [x0, y0]
    exact wpAny_bind (rc_lt (wpAny_pure h))
theorem list_lt2 (l b : Addr) (xs ys : Array Value) (n n2 : Nat) (dd dd2 : Option Addr) (sl sl2 : Array (Option Value)) (a1 b1 a2 b2 : Int) (t1 u1 t2 u2 : Tok) (hx : xs.size = 2) (hy : ys.size = 2)
    (x0 : xs[(0 : Int).toNat]? = some (.int a1 t1)) (x1 : xs[(1 : Int).toNat]? = some (.int b1 u1)) (y0 : ys[(0 : Int).toNat]? = some (.int a2 t2)) (y1 : ys[(1 : Int).toNat]? = some (.int b2 u2)) :
    Meets (Builtin.«list.__lt__» ⟨[.ref l, .ref b], []⟩)
      (fun A R s => s.heap.get? l = some { cls := .type "list", dict := dd, data := .seq xs n, slots := sl } ∧ s.heap.get? b = some { cls := .type "list", dict := dd2, data := .seq ys n2, slots := sl2 } ∧
        R (.ok (.ret (.bool (lt2 a1 b1 a2 b2)))) s) := by
  intro prog w A R s h
  obtain ⟨hl, hb, h⟩ := h
  have f3 := AutoSeq1.sub_list_list
  unfold Builtin.«list.__lt__»
  refine wpAny_bind (m := slotArgs _ _ _) (wpAny_pure (wpAny_bind (wpAny_isInstance (T := "list") (b := true) ⟨_, hb, rfl⟩ f3 ?_)))
  refine wpAny_pure ⟨plainId_quiet plain_eq_loop _, ?_⟩
  show codeAny _ _ (.builtin "list.__eq__.loop" ⟨[.ref l, .ref b, rawInt 0, rawInt 0], []⟩) _ _
  exact codeAny_builtin entry_eq_loop (by
    rw [Around.under_plainId plain_eq_loop _]
    exact loop_lt2 l b xs ys n n2 dd dd2 sl sl2 a1 b1 a2 b2 t1 u1 t2 u2 hx hy x0 x1 y0 y1 prog w A R _ ⟨hl, hb, h⟩)

theorem loop_gt2 (l b : Addr) (xs ys : Array Value) (n n2 : Nat) (dd dd2 : Option Addr) (sl sl2 : Array (Option Value)) (a1 b1 a2 b2 : Int) (t1 u1 t2 u2 : Tok) (hx : xs.size = 2) (hy : ys.size = 2)
    (x0 : xs[(0 : Int).toNat]? = some (.int a1 t1)) (x1 : xs[(1 : Int).toNat]? = some (.int b1 u1)) (y0 : ys[(0 : Int).toNat]? = some (.int a2 t2)) (y1 : ys[(1 : Int).toNat]? = some (.int b2 u2)) :
    Meets (Builtin.«list.__eq__.loop» ⟨[.ref l, .ref b, rawInt 0, rawInt 4], []⟩)
      (fun A R s => s.heap.get? l = some { cls := .type "list", dict := dd, data := .seq xs n, slots := sl } ∧ s.heap.get? b = some { cls := .type "list", dict := dd2, data := .seq ys n2, slots := sl2 } ∧
        R (.ok (.ret (.bool (lt2 a2 b2 a1 b1)))) s) := by
  have x2 : xs[(2 : Int).toNat]? = none := by
    rw [Array.getElem?_eq_none_iff, hx]; decide
  have last : Meets (Builtin.«list.__eq__.loop» ⟨[.ref l, .ref b, rawInt 2, rawInt 4], []⟩)
      (fun A R s => s.heap.get? l = some { cls := .type "list", dict := dd, data := .seq xs n, slots := sl } ∧ s.heap.get? b = some { cls := .type "list", dict := dd2, data := .seq ys n2, slots := sl2 } ∧
        R (.ok (.ret (.bool false))) s) := by
    intro prog w A R s h
    obtain ⟨hl, hb, h⟩ := h
    unfold Builtin.«list.__eq__.loop»
    refine wpAny_bind (listItems_at hl rfl (wpAny_bind (listItems_at hb rfl ?_)))
    rw [x2]
    refine wpAny_bind (listItems_at hl rfl (wpAny_bind (listItems_at hb rfl (wpAny_pure ?_))))
    show R (.ok (.ret (.bool (decide (xs.size > ys.size))))) _
    rw [hx, hy]
    exact h
  have mid : Meets (Builtin.«list.__eq__.loop» ⟨[.ref l, .ref b, rawInt 1, rawInt 4], []⟩)
      (fun A R s => s.heap.get? l = some { cls := .type "list", dict := dd, data := .seq xs n, slots := sl } ∧ s.heap.get? b = some { cls := .type "list", dict := dd2, data := .seq ys n2, slots := sl2 } ∧
        R (.ok (.ret (.bool (if b1 == b2 then false else decide (b1 > b2))))) s) := by
    intro prog w A R s h
    obtain ⟨hl, hb, h⟩ := h
    unfold Builtin.«list.__eq__.loop»
    refine wpAny_bind (listItems_at hl rfl (wpAny_bind (listItems_at hb rfl ?_)))
    rw [x1, y1]
    refine wpAny_bind (EqGives.int b1 b2 u1 u2 _ _ _ _ _ _ ?_)
    cases hb' : (b1 == b2) with
    | true =>
      rw [hb'] at h
      exact wpAny_pure ⟨plainId_quiet plain_eq_loop _, codeAny_builtin entry_eq_loop (by
        rw [Around.under_plainId plain_eq_loop _]
        exact last prog w A R _ ⟨hl, hb, h⟩)⟩
    | false =>
      rw [hb'] at h
      refine wpAny_bind (listItems_at hl rfl (wpAny_bind (listItems_at hb rfl ?_)))
      rw [x1, y1]
      exact wpAny_bind (rc_gt (wpAny_pure h))
  intro prog w A R s h
  obtain ⟨hl, hb, h⟩ := h
  have e : (lt2 a2 b2 a1 b1) = if a1 == a2 then (if b1 == b2 then false else decide (b1 > b2)) else decide (a1 > a2) := by
    unfold lt2
    have e1 : (a2 == a1) = (a1 == a2) := by rw [Bool.eq_iff_iff, beq_iff_eq, beq_iff_eq]; exact eq_comm
    have e2 : (b2 == b1) = (b1 == b2) := by rw [Bool.eq_iff_iff, beq_iff_eq, beq_iff_eq]; exact eq_comm
    first | rfl | rw [e1, e2]
  rw [e] at h
  unfold Builtin.«list.__eq__.loop»
  refine wpAny_bind (listItems_at hl rfl (wpAny_bind (listItems_at hb rfl ?_)))
  rw [x0, y0]
  refine wpAny_bind (EqGives.int a1 a2 t1 t2 _ _ _ _ _ _ ?_)
  cases hb' : (a1 == a2) with
  | true =>
    rw [hb'] at h
    exact wpAny_pure ⟨plainId_quiet plain_eq_loop _, codeAny_builtin entry_eq_loop (by
      rw [Around.under_plainId plain_eq_loop _]
      exact mid prog w A R _ ⟨hl, hb, h⟩)⟩
  | false =>
    rw [hb'] at h
    refine wpAny_bind (listItems_at hl rfl (wpAny_bind (listItems_at hb rfl ?_)))
    rw [x0, y0]
    exact wpAny_bind (rc_gt (wpAny_pure h))
theorem list_gt2 (l b : Addr) (xs ys : Array Value) (n n2 : Nat) (dd dd2 : Option Addr) (sl sl2 : Array (Option Value)) (a1 b1 a2 b2 : Int) (t1 u1 t2 u2 : Tok) (hx : xs.size = 2) (hy : ys.size = 2)
    (x0 : xs[(0 : Int).toNat]? = some (.int a1 t1)) (x1 : xs[(1 : Int).toNat]? = some (.int b1 u1)) (y0 : ys[(0 : Int).toNat]? = some (.int a2 t2)) (y1 : ys[(1 : Int).toNat]? = some (.int b2 u2)) :
    Meets (Builtin.«list.__gt__» ⟨[.ref l, .ref b], []⟩)
      (fun A R s => s.heap.get? l = some { cls := .type "list", dict := dd, data := .seq xs n, slots := sl } ∧ s.heap.get? b = some { cls := .type "list", dict := dd2, data := .seq ys n2, slots := sl2 } ∧
        R (.ok (.ret (.bool (lt2 a2 b2 a1 b1)))) s) := by
  intro prog w A R s h
  obtain ⟨hl, hb, h⟩ := h
  have f3 := AutoSeq1.sub_list_list
  unfold Builtin.«list.__gt__»
  refine wpAny_bind (m := slotArgs _ _ _) (wpAny_pure (wpAny_bind (wpAny_isInstance (T := "list") (b := true) ⟨_, hb, rfl⟩ f3 ?_)))
  refine wpAny_pure ⟨plainId_quiet plain_eq_loop _, ?_⟩
  show codeAny _ _ (.builtin "list.__eq__.loop" ⟨[.ref l, .ref b, rawInt 0, rawInt 4], []⟩) _ _
  exact codeAny_builtin entry_eq_loop (by
    rw [Around.under_plainId plain_eq_loop _]
    exact loop_gt2 l b xs ys n n2 dd dd2 sl sl2 a1 b1 a2 b2 t1 u1 t2 u2 hx hy x0 x1 y0 y1 prog w A R _ ⟨hl, hb, h⟩)
theorem tuple_lt2 (l b : Addr) (n n2 : Nat) (dd dd2 : Option Addr) (sl sl2 : Array (Option Value)) (a1 b1 a2 b2 : Int) (t1 u1 t2 u2 : Tok) :
    Meets (Builtin.«tuple.__lt__» ⟨[.ref l, .ref b], []⟩)
      (fun A R s => s.heap.get? l = some { cls := .type "tuple", dict := dd, data := .seq #[.int a1 t1, .int b1 u1] n, slots := sl } ∧ s.heap.get? b = some { cls := .type "tuple", dict := dd2, data := .seq #[.int a2 t2, .int b2 u2] n2, slots := sl2 } ∧
        R (.ok (.ret (.bool (lt2 a1 b1 a2 b2)))) s) := by
  intro prog w A R s h
  obtain ⟨hl, hb, h⟩ := h
  have f2 := AutoSeq1.sub_tuple_tuple
  have items : ∀ {a : Addr} {o : Obj} {xs : Array Value} {n : Nat} {Q : Array Value → Shared → Prop} {E : Value → Shared → Prop}, s.heap.get? a = some o → o.data = .seq xs n → Q xs s → wpAny (model prog w) A.in1 (Builtin.Tuple.tupleItemsOf (.ref a)) Q E s := fun ho hd h => by
    unfold Builtin.Tuple.tupleItemsOf
    exact wpAny_bind (wpAny_seqItems ho hd (wpAny_pure h))
  unfold Builtin.«tuple.__lt__»
  refine wpAny_bind (m := slotArgs _ _ _) (wpAny_pure (wpAny_bind (wpAny_isInstance (T := "tuple") (b := true) ⟨_, hb, rfl⟩ f2 ?_)))
  refine wpAny_bind (items hl rfl (wpAny_bind (items hb rfl ?_)))
  unfold lt2 at h
  refine wpAny_bind ?_
  show wpAny _ _ (forIn [(Value.int a1 t1, Value.int a2 t2), (Value.int b1 u1, Value.int b2 u2)] _ _) _ _ _
  rw [List.forIn_cons]
  refine wpAny_bind (wpAny_bind (EqGives.int a1 a2 t1 t2 _ _ _ _ _ _ ?_))
  cases hb' : (a1 == a2) with
  | true =>
    rw [hb'] at h
    refine wpAny_pure ?_
    dsimp only
    rw [List.forIn_cons]
    refine wpAny_bind (wpAny_bind (EqGives.int b1 b2 u1 u2 _ _ _ _ _ _ ?_))
    cases hb2 : (b1 == b2) with
    | true =>
      rw [hb2] at h
      refine wpAny_pure ?_
      dsimp only
      rw [List.forIn_nil]
      exact wpAny_pure (wpAny_pure h)
    | false =>
      rw [hb2] at h
      exact wpAny_bind (wpAny_rule (wpAny_bind (rc_lt (wpAny_bind (wpAny_pure (wpAny_pure (wpAny_pure (wpAny_pure h))))))))
  | false =>
    rw [hb'] at h
    exact wpAny_bind (wpAny_rule (wpAny_bind (rc_lt (wpAny_bind (wpAny_pure (wpAny_pure (wpAny_pure (wpAny_pure h))))))))

theorem rep2 {C : Addr} {h : Heap} {X : Addr → Prop} {vs : List Value} {a b : Int} (r : Reps C h X vs [.int a, .int b]) : ∃ t u, vs = [.int a t, .int b u] := by
  cases r with
  | cons h1 h2 => cases h2 with
    | cons h2 h3 => cases h3; cases h1; cases h2; exact ⟨_, _, rfl⟩
section
variable {c : Cx} {f : Fx} {k : Nat}
theorem cm_lt2 (o : Ok c f k) {a1 b1 a2 b2 : Int} : Cm c f .Lt (.list [.int a1, .int b1]) (.list [.int a2, .int b2]) (lt2 a1 b1 a2 b2) := fun s v1 v2 Q E w r1 r2 q => by
  cases r1 with
  | list hl hx hs =>
    cases r2 with
    | list hl2 hx2 hs2 =>
      obtain ⟨t1, u1, rfl⟩ := rep2 hs
      obtain ⟨t2, u2, rfl⟩ := rep2 hs2
      obtain ⟨⟨cls, dd, data, sl⟩, ho, hc, n, hd⟩ := hl
      obtain ⟨⟨cls2, dd2, data2, sl2⟩, ho2, hc2, n2, hd2⟩ := hl2
      simp only at hc hd hc2 hd2
      subst hc hd hc2 hd2
      exact richCompare_meets_room (op := .Lt) ⟨_, ho, rfl⟩ ⟨_, ho2, rfl⟩ F.slot_list_lt F.entry_list_lt (F.args_list_lt_2 _ _) (list_lt2 _ _ _ _ n n2 dd dd2 sl sl2 a1 b1 a2 b2 t1 u1 t2 u2 rfl rfl rfl rfl rfl rfl)
        ⟨ho, ho2, show Value.bool (lt2 a1 b1 a2 b2) ≠ Value.notImplemented ∧ Q (.bool (lt2 a1 b1 a2 b2)) s from ⟨(fun x => nomatch x), q s.heap s.toks (Ext.refl _)⟩⟩ o.room.units
theorem cm_gt2 (o : Ok c f k) {a1 b1 a2 b2 : Int} : Cm c f .Gt (.list [.int a1, .int b1]) (.list [.int a2, .int b2]) (lt2 a2 b2 a1 b1) := fun s v1 v2 Q E w r1 r2 q => by
  cases r1 with
  | list hl hx hs =>
    cases r2 with
    | list hl2 hx2 hs2 =>
      obtain ⟨t1, u1, rfl⟩ := rep2 hs
      obtain ⟨t2, u2, rfl⟩ := rep2 hs2
      obtain ⟨⟨cls, dd, data, sl⟩, ho, hc, n, hd⟩ := hl
      obtain ⟨⟨cls2, dd2, data2, sl2⟩, ho2, hc2, n2, hd2⟩ := hl2
      simp only at hc hd hc2 hd2
      subst hc hd hc2 hd2
      exact richCompare_meets_room (op := .Gt) ⟨_, ho, rfl⟩ ⟨_, ho2, rfl⟩ F.slot_list_gt F.entry_list_gt (F.args_list_gt_2 _ _) (list_gt2 _ _ _ _ n n2 dd dd2 sl sl2 a1 b1 a2 b2 t1 u1 t2 u2 rfl rfl rfl rfl rfl rfl)
        ⟨ho, ho2, show Value.bool (lt2 a2 b2 a1 b1) ≠ Value.notImplemented ∧ Q (.bool (lt2 a2 b2 a1 b1)) s from ⟨(fun x => nomatch x), q s.heap s.toks (Ext.refl _)⟩⟩ o.room.units
theorem cm_tlt2 (o : Ok c f k) {a1 b1 a2 b2 : Int} : Cm c f .Lt (.tuple [.int a1, .int b1]) (.tuple [.int a2, .int b2]) (lt2 a1 b1 a2 b2) := fun s v1 v2 Q E w r1 r2 q => by
  cases r1 with
  | tuple hl hx hs =>
    cases r2 with
    | tuple hl2 hx2 hs2 =>
      obtain ⟨t1, u1, rfl⟩ := rep2 hs
      obtain ⟨t2, u2, rfl⟩ := rep2 hs2
      obtain ⟨⟨cls, dd, data, sl⟩, ho, hc, n, hd⟩ := hl
      obtain ⟨⟨cls2, dd2, data2, sl2⟩, ho2, hc2, n2, hd2⟩ := hl2
      simp only at hc hd hc2 hd2
      subst hc hd hc2 hd2
      exact richCompare_meets_room (op := .Lt) ⟨_, ho, rfl⟩ ⟨_, ho2, rfl⟩ F.slot_tuple_lt F.entry_tuple_lt (F.args_tuple_lt_2 _ _) (tuple_lt2 _ _ n n2 dd dd2 sl sl2 a1 b1 a2 b2 t1 u1 t2 u2)
        ⟨ho, ho2, show Value.bool (lt2 a1 b1 a2 b2) ≠ Value.notImplemented ∧ Q (.bool (lt2 a1 b1 a2 b2)) s from ⟨(fun x => nomatch x), q s.heap s.toks (Ext.refl _)⟩⟩ o.room.units
end
end
end Mine
end
section
namespace Mine
open PySem PySem.W PySem.Calls PyProof.Rows PySem.Spec PySem.SeqAt

/-- a list of iL -/
noncomputable abbrev iL (ns : List Int) : List D := ns.map D.int
theorem reps_ints {C : Addr} {h : Heap} {X : Addr → Prop} : ∀ {ns : List Int} {vs : List Value}, Reps C h X vs (iL ns) → IntsAre vs ns
  | [], _, r => by cases r; exact .nil
  | n :: ns, _, r => by
    cases r with
    | cons h1 h2 => cases h1; exact .cons _ _ (reps_ints h2)

section
variable {c : Cx} {f : Fx} {k : Nat}

theorem fn_len {ds : List D} (hz : ds.length ≤ 1000000) : Fn c k (.builtin "len") [.list ds] (.int ds.length) := fun A X s vs Q E room ext hX xok r q => by
  cases r with
  | cons h1 h2 =>
    cases h2
    cases h1 with
    | list hl hx hr =>
      rename_i a vs
      refine call_len_list hl (by rw [List.size_toArray, hr.length]; omega) ?_
      have e : ((vs.toArray.size : Nat) : Int) = ds.length := by rw [List.size_toArray, hr.length]
      rw [e]
      exact q _ s.heap _ (Ext.refl _) (.int _ _)
theorem fn_max {ns : List Int} {M : Int} (hm : M ∈ ns) (hge : ∀ a ∈ ns, a ≤ M) : Fn c k (.builtin "max") [.list (iL ns)] (.int M) := fun A X s vs Q E room ext hX xok r q => by
  cases r with
  | cons h1 h2 =>
    cases h2
    cases h1 with
    | list hl hx hr =>
      have hi := reps_ints hr
      obtain ⟨xs, e⟩ := hi.allInts.items
      have hns : ns = xs.toList.map (·.1) := by rw [← hi.numsOf, ← nums_intItems, ← e]
      have hsz : 0 < xs.size := by
        have h3 : 0 < ns.length := List.length_pos_of_mem hm
        rw [hns, List.length_map, Array.length_toList] at h3; exact h3
      rw [e] at hl
      refine max_intList room.hd hl hsz fun v h' tk hv hk => ?_
      obtain ⟨t, rfl⟩ := intItems_at hv
      obtain ⟨h1, h2⟩ := argBest_gt (numAt xs) (xs.size - 1)
      have z : numAt xs (argBest (fun i j => decide (numAt xs i > numAt xs j)) (xs.size - 1)) = M := by
        refine Int.le_antisymm (hge _ ?_) ?_
        · rw [hns, numAt_eq]; exact getD_mem (by rw [List.length_map, Array.length_toList]; omega)
        · have hm' := hm
          rw [hns] at hm'
          obtain ⟨j, hj, e2⟩ := mem_getD hm'
          rw [List.length_map, Array.length_toList] at hj
          rw [← e2, ← numAt_eq]; exact h2 j (by omega)
      rw [z]
      exact q _ h' tk hk (.int _ _)
theorem fn_min {ns : List Int} {M : Int} (hm : M ∈ ns) (hge : ∀ a ∈ ns, M ≤ a) : Fn c k (.builtin "min") [.list (iL ns)] (.int M) := fun A X s vs Q E room ext hX xok r q => by
  cases r with
  | cons h1 h2 =>
    cases h2
    cases h1 with
    | list hl hx hr =>
      have hi := reps_ints hr
      obtain ⟨xs, e⟩ := hi.allInts.items
      have hns : ns = xs.toList.map (·.1) := by rw [← hi.numsOf, ← nums_intItems, ← e]
      have hsz : 0 < xs.size := by
        have h3 : 0 < ns.length := List.length_pos_of_mem hm
        rw [hns, List.length_map, Array.length_toList] at h3; exact h3
      rw [e] at hl
      refine min_intList room.hd hl hsz fun v h' tk hv hk => ?_
      obtain ⟨t, rfl⟩ := intItems_at hv
      obtain ⟨h1, h2⟩ := argBest_lt (numAt xs) (xs.size - 1)
      have z : numAt xs (argBest (fun i j => decide (numAt xs i < numAt xs j)) (xs.size - 1)) = M := by
        refine Int.le_antisymm ?_ (hge _ ?_)
        · have hm' := hm
          rw [hns] at hm'
          obtain ⟨j, hj, e2⟩ := mem_getD hm'
          rw [List.length_map, Array.length_toList] at hj
          rw [← e2, ← numAt_eq]; exact h2 j (by omega)
        · rw [hns, numAt_eq]; exact getD_mem (by rw [List.length_map, Array.length_toList]; omega)
      rw [z]
      exact q _ h' tk hk (.int _ _)
theorem fn_sum {ns : List Int} : Fn c k (.builtin "sum") [.list (iL ns)] (.int ns.sum) := fun A X s vs Q E room ext hX xok r q => by
  cases r with
  | cons h1 h2 =>
    cases h2
    cases h1 with
    | list hl hx hr =>
      have hi := reps_ints hr
      obtain ⟨xs, e⟩ := hi.allInts.items
      have hns : ns = xs.toList.map (·.1) := by rw [← hi.numsOf, ← nums_intItems, ← e]
      rw [e] at hl
      refine sum_intListG room.hd hl fun h' tk t' hk => ?_
      have z : preSum (numAt xs) xs.size = ns.sum := by
        rw [hns, preSum_eq, List.take_of_length_le (by simp)]
      rw [z]
      exact q _ h' tk hk (.int _ _)
theorem fn_range1 {n : Int} : Fn c k (.type "range") [.int n] (.range 0 n 1) := fun A X s vs Q E room ext hX xok r q => by
  cases r with
  | cons h1 h2 =>
    cases h2
    cases h1
    exact call_range_1 (q _ _ _ (Ext.push _ _) (.range (IsRange.new ..) (fun z => by obtain ⟨o, e⟩ := xok _ z; rw [fresh_size] at e; cases e)))
theorem fn_range3 {a b st : Int} (h0 : st ≠ 0) (hp : Builtin.divisionGoesByPylong (b - a) st = false) : Fn c k (.type "range") [.int a, .int b, .int st] (.range a b st) := fun A X s vs Q E room ext hX xok r q => by
  cases r with
  | cons h1 h2 =>
    cases h2 with
    | cons h2 h3 =>
      cases h3 with
      | cons h3 h4 =>
        cases h4
        cases h1; cases h2; cases h3
        exact call_range_3 h0 (q _ _ _ (Ext.push _ _) (.range (IsRange.new ..) (fun z => by obtain ⟨o, e⟩ := xok _ z; rw [fresh_size] at e; cases e))) (.inl hp)
theorem reps_of {C : Addr} {h : Heap} {X : Addr → Prop} : ∀ {vs : List Value} {ds : List D}, vs.length = ds.length → (∀ (i : Nat) v d, vs[i]? = some v → ds[i]? = some d → Rep C h X v d) → Reps C h X vs ds
  | [], [], _, _ => .nil
  | v :: vs, d :: ds, hl, hh => .cons (hh 0 v d rfl rfl) (reps_of (by simpa using hl) fun i v' d' e1 e2 => hh (i + 1) v' d' (by simpa using e1) (by simpa using e2))
theorem fn_listRange {a b st : Int} {es : List D} (hi : Items (.range a b st) es) (hz : es.length ≤ 1000000) : Fn c k (.type "list") [.range a b st] (.list es) := fun A X s vs Q E room ext hX xok r q => by
  cases r with
  | cons h1 h2 =>
    cases h2
    cases h1 with
    | range ho hx =>
      obtain ⟨hs, n, hn, rfl⟩ := hi
      refine call_list_range room.hd ho hs hn (by simp at hz; omega) fun h' tk acc' c' hk hS hI => ?_
      refine q _ h' tk hk (.list (vs := acc'.toList) ⟨_, hS, rfl, c', by simp⟩ (fun z => by obtain ⟨o, e⟩ := xok _ z; rw [fresh_size] at e; cases e) (reps_of (by simp [hI.1]) fun i v d e1 e2 => ?_))
      obtain ⟨t, rfl⟩ := hI.2 i v (by simpa using e1)
      rw [List.getElem?_map] at e2
      have lt : i < n := by
        have := (List.getElem?_eq_some_iff.mp e1).1
        rw [Array.length_toList, hI.1] at this; exact this
      rw [List.getElem?_range lt] at e2
      cases e2
      exact .int _ _
theorem fn_type {i : Int} : Fn c k (.type "type") [.int i] (.val (.type "int")) := fun A X s vs Q E room ext hX xok r q => by
  cases r with
  | cons h1 h2 =>
    cases h2
    cases h1
    exact call_type_of (typeIs_int s _ _) (by decide) (q _ s.heap s.toks (Ext.refl _) (.val _))
theorem cm_isnot {T : String} : Cm c f .IsNot (.val (.type T)) (.val (.type T)) false := fun s v1 v2 Q E w r1 r2 q => by
  cases r1; cases r2
  show wpAny _ _ (do return .bool (!(← isSame (.type T) (.type T)))) Q E s
  have e : isSame (Value.type T) (Value.type T) = pure true := by
    unfold isSame; simp
  rw [e]
  exact wpAny_bind (wpAny_pure (wpAny_pure (q s.heap s.toks (Ext.refl _))))
theorem op_cat {ds es : List D} (hz : ds.length + es.length ≤ 1000000) : Op2 c f (binaryOp .Add) (.list ds) (.list es) (.list (ds ++ es)) := fun s v1 v2 Q E w r1 r2 q => by
  cases r1 with
  | list hl hx hr =>
    cases r2 with
    | list hl2 hx2 hr2 =>
      rename_i l vs b ws
      obtain ⟨⟨cls, dd, data, sl⟩, ho, hc, n, hd⟩ := hl
      obtain ⟨⟨cls2, dd2, data2, sl2⟩, ho2, hc2, n2, hd2⟩ := hl2
      simp only at hc hd hc2 hd2
      subst hc hd hc2 hd2
      have e : vs.toArray ++ ws.toArray = (vs ++ ws).toArray := by simp
      refine concat_meets ⟨_, ho, rfl⟩ ⟨_, ho2, rfl⟩ noFill_list_add seq_list_add PySem.F.slot_list_add PySem.F.entry_list_add (PySem.F.args_list_add_2 _ _) (list_addW l b vs.toArray ws.toArray n n2 dd dd2 sl sl2 (by
        rw [List.size_toArray, List.size_toArray, hr.length, hr2.length, sizeLine_eq]; omega)) ⟨ho, ho2, ?_⟩
      rw [e]
      exact q _ _ s.toks (Ext.push _ _) (rep_newList w (hr.append hr2))
end
end Mine
end
open Mine PySem PySem.W PySem.Calls PyProof.Rows PySem.Spec
set_option hygiene false
set_option compiler.extract_closed false
local macro_rules | `(tactic| walk_at "m_upd") => `(tactic| first | exact Upd.here | (apply Upd.there; walk_at "m_upd"))
local macro_rules | `(tactic| walk_at "m_sz") => `(tactic| first | assumption | decide | (simp; done) | omega | (simp; omega))
local macro_rules | `(tactic| walk_at "m_op") => `(tactic| first | with_reducible exact op_add | with_reducible exact op_sub | with_reducible exact op_subb | with_reducible exact op_iadd | with_reducible exact op_mod (by decide) | with_reducible exact op_div (by decide) (by decide) | with_reducible exact op_cat (by walk_at "m_sz") | with_reducible assumption)
local macro_rules | `(tactic| walk_at "m_cm") => `(tactic| first
  | (with_reducible assumption)
  | ((with_reducible show Cm _ _ CmpOp.Eq (D.int _) (D.int _) _); exact cm_eq)
  | ((with_reducible show Cm _ _ CmpOp.NotEq (D.int _) (D.int _) _); exact cm_ne)
  | ((with_reducible show Cm _ _ CmpOp.Lt (D.int _) (D.int _) _); exact cm_lt)
  | ((with_reducible show Cm _ _ CmpOp.Gt (D.int _) (D.int _) _); exact cm_gt)
  | ((with_reducible show Cm _ _ CmpOp.IsNot _ _ _); exact cm_isnot))
local macro_rules | `(tactic| walk_at "m_F") => `(tactic| first | with_reducible assumption | with_reducible exact fn_range1 | with_reducible exact fn_sum | with_reducible exact fn_type | with_reducible exact fn_len (by walk_at "m_sz"))
local macro_rules | `(tactic| walk_at "m_kp") => `(tactic| first | with_reducible exact kp_builtin | with_reducible exact kp_type | with_reducible assumption | exact kp_fn (Base.K ‹Base _› _ _ rfl) rfl)
local macro_rules | `(tactic| walk_at "m_nm") => `(tactic| exact ev_name ‹Ok _ _ _› (by k_mem) rfl)
local macro_rules | `(tactic| walk_at "m_fv") => `(tactic| first
  | ((with_reducible first | refine nb_sorted ‹Base _› ‹Ok _ _ _› ?_ | refine nb_len ‹Base _› ‹Ok _ _ _› ?_ | refine nb_max ‹Base _› ‹Ok _ _ _› ?_ | refine nb_min ‹Base _› ‹Ok _ _ _› ?_ | refine nb_sum ‹Base _› ‹Ok _ _ _› ?_ | refine nb_range ‹Base _› ‹Ok _ _ _› ?_ | refine nb_list ‹Base _› ‹Ok _ _ _› ?_ | refine nb_type ‹Base _› ‹Ok _ _ _› ?_ | refine nb_iter ‹Base _› ‹Ok _ _ _› ?_ | refine nb_next ‹Base _› ‹Ok _ _ _› ?_ | refine nb_int ‹Base _› ‹Ok _ _ _› ?_ | refine ng_median_low ‹Base _› ‹Ok _ _ _› ?_ | refine ng_median_high ‹Base _› ‹Ok _ _ _› ?_ | refine ng_cmp_to_key ‹Base _› ‹Ok _ _ _› ?_ | refine ng_initial_missing ‹Base _› ‹Ok _ _ _› ?_ | refine ng_reduce ‹Base _› ‹Ok _ _ _› ?_ | refine ng_sorted_list_difference ‹Base _› ‹Ok _ _ _› ?_ | refine ng_three_way_cmp ‹Base _› ‹Ok _ _ _› ?_ | refine ng_law_all_are ‹Base _› ‹Ok _ _ _› ?_ | refine ng_law_lines ‹Base _› ‹Ok _ _ _› ?_ | refine ng_law_laid ‹Base _› ‹Ok _ _ _› ?_ | refine ng_law_hooks ‹Base _› ‹Ok _ _ _› ?_ | refine ng_law_longest ‹Base _› ‹Ok _ _ _› ?_); rfl)
  | walk_at "m_nm")
local macro_rules | `(tactic| walk_at "m_evl") => `(tactic| first | exact evl_nil | exact evl_cons (by walk_at "m_ev") (by walk_at "m_evl") rfl)
local macro_rules | `(tactic| walk_at "m_evl0") => `(tactic| first | exact evl0_nil | exact evl0_cons (by walk_at "m_ev0") (by walk_at "m_evl0") rfl)
local macro_rules | `(tactic| walk_at "m_ev0") => `(tactic| first | exact Ev.w (by walk_at "m_ev") | exact ev0_own ‹Ok _ _ _› (by k_mem) rfl)
local macro_rules | `(tactic| walk_at "m_at") => `(tactic| first | assumption | rfl | (simp; done) | decide)
local macro_rules | `(tactic| walk_at "m_part") => `(tactic| first | exact evp_none | exact evp_some (by walk_at "m_ev"))
local macro_rules | `(tactic| walk_at "m_ns") => `(tactic| (intros; exact fun e => nomatch e))
local macro_rules | `(tactic| walk_at "m_ev") => `(tactic| first
  | ((with_reducible show Ev _ _ _ (Expr.Constant (Const.int _) _ _) _); exact ev_int)
  | ((with_reducible show Ev _ _ _ (Expr.Constant (Const.bool _) _ _) _); exact ev_bool)
  | ((with_reducible show Ev _ _ _ (Expr.Constant Const.none _ _) _); exact ev_none)
  | ((with_reducible show Ev _ _ _ (Expr.Name _ _) _); walk_at "m_nm")
  | ((with_reducible show Ev _ _ _ (Expr.BinOp _ _ _ _) _); exact ev_binop (by walk_at "m_ev") (by walk_at "m_ev") (by walk_at "m_op"))
  | ((with_reducible show Ev _ _ _ (Expr.UnaryOp UnaryOp.USub _ _) _); exact ev_neg (by walk_at "m_ev"))
  | ((with_reducible show Ev _ _ _ (Expr.List _ _) _); exact ev_list (by walk_at "m_evl") (by walk_at "m_sz"))
  | ((with_reducible show Ev _ _ _ (Expr.Tuple _ _ _) _); exact ev_tuple (by walk_at "m_evl") (by walk_at "m_sz"))
  | ((with_reducible show Ev _ _ _ (Expr.Compare _ [_] [_] _) _); exact ev_cmp (by walk_at "m_ev0") (by walk_at "m_ev0") (by walk_at "m_cm") rfl)
  | ((with_reducible show Ev _ _ _ (Expr.Call _ _ _ _) _); first
    | exact ev_call ‹Ok _ _ _› (by walk_at "m_fv") (by walk_at "m_evl") (by walk_at "m_F") (by walk_at "m_kp") rfl
    | exact ev_call0 ‹Ok _ _ _› (by walk_at "m_fv") (by walk_at "m_evl0") (by walk_at "m_F") (by walk_at "m_kp") rfl)
  | ((with_reducible show Ev _ _ _ (Expr.Subscript _ (Expr.Slice _ _ _ _) _) _); exact ev_slice (by walk_at "m_ev") (by walk_at "m_part") (by walk_at "m_part") (by walk_at "m_part") (by walk_at "m_at") (by walk_at "m_sz"))
  | ((with_reducible show Ev _ _ _ (Expr.Subscript _ _ _) _); first
    | exact ev_sub (by walk_at "m_ev") (by walk_at "m_ev") (by walk_at "m_at") (by walk_at "m_sz") (by walk_at "m_sz") (by walk_at "m_ns")
    | exact ev_sub_own ‹Ok _ _ _› (by k_mem) rfl (by walk_at "m_ev") (by walk_at "m_at") (by walk_at "m_sz") (by walk_at "m_sz") (by walk_at "m_ns")))
local macro_rules | `(tactic| walk_at "m_tr") => `(tactic| first
  | ((with_reducible show Tr _ _ _ (Expr.Compare _ [_] [_] _) _); exact tr_cmp (by walk_at "m_ev0") (by walk_at "m_ev0") (by walk_at "m_cm") rfl)
  | ((with_reducible show Tr _ _ _ (Expr.UnaryOp UnaryOp.Not _ _) _); exact tr_not (by walk_at "m_tr"))
  | ((with_reducible show Tr _ _ _ (Expr.Constant _ _ _) _); exact tr_true)
  | ((with_reducible show Tr _ _ _ (Expr.Call _ _ _ _) _); exact tr_call (by walk_at "m_ev")))
local macro_rules | `(tactic| walk_at "m_stor") => `(tactic| first | exact .inl rfl | exact stor_cfD rfl rfl | exact stor_add (by walk_at "m_stor"))
local macro_rules | `(tactic| walk_at "m_st") => `(tactic| first
  | ((with_reducible show Ex _ _ _ (Stmt.Assign _ _ _) _ _); exact ex_assign ‹Ok _ _ _› (by walk_at "m_ev") (by walk_at "m_upd") (by walk_at "m_stor") rfl)
  | ((with_reducible show Ex _ _ _ (Stmt.AugAssign _ _ _ _) _ _); exact ex_aug ‹Ok _ _ _› (by k_mem) rfl (by walk_at "m_ev") (by walk_at "m_op") (by walk_at "m_upd") (by walk_at "m_stor"))
  | ((with_reducible show Ex _ _ _ (Stmt.Expr _ _) _ _); exact ex_append ‹Ok _ _ _› (by k_mem) rfl (by walk_at "m_ev") (by walk_at "m_upd") (by walk_at "m_sz") rfl rfl rfl)
  | ((with_reducible show Ex _ _ _ (Stmt.Return _ _) _ _); exact ex_ret (by walk_at "m_ev0")))
local macro_rules | `(tactic| walk_at "m_bd") => `(tactic| refine bd_seq (by walk_at "m_st") ?_)
local macro_rules | `(tactic| walk_at "m_exs") => `(tactic| refine exs_cons (by walk_at "m_st") ?_)
local macro_rules | `(tactic| walk_at "m_fn") => `(tactic| ((case hcd => exact codeRec_of (Base.K ‹Base _›) rfl); (case hbind => (intro s vs h; first | (obtain ⟨a, e⟩ := len1 h; subst e; exact BindsTo.of_eq rfl) | (obtain ⟨a, b, e⟩ := len2 h; subst e; exact BindsTo.of_eq rfl) | (obtain ⟨a, b, c, e⟩ := len3 h; subst e; exact BindsTo.of_eq rfl))); (case hcell => decide); (case hloc => decide); (case nd => decide); (case hfr => (intro p hp; cases hp)); (case hcl => (intro x b e; cases e)); (case hap => (intro x y b e; cases e))))
local macro_rules | `(tactic| walk_at "m_le") => `(tactic| first | exact Le.refl _ | (apply Le.same; walk_at "m_le") | (apply Le.drop; walk_at "m_le"))
local macro_rules | `(tactic| walk_at "m_fnc") => `(tactic| ((case hcd => exact codeRec_of (Base.K ‹Base _›) rfl); (case hbind => (intro vs h; first | (obtain ⟨a, e⟩ := len1 h; subst e; rfl) | (obtain ⟨a, b, e⟩ := len2 h; subst e; rfl) | (obtain ⟨a, b, c, e⟩ := len3 h; subst e; rfl))); (case nd => decide)))
local macro_rules | `(tactic| walk_at "m_in") => `(tactic| first | exact absurd ‹_› (by simp) | skip)
section
namespace Mine
open PySem PySem.W PySem.Calls PyProof.Rows PySem.Spec
section
variable {c : Cx} {f : Fx} {ρ ρ' : Rho} {k : Nat}
/-- a for loop, folded -/
theorem fo_fold (o : Ok c f k) {x : Str} {px : Pos} {body : List Stmt} {σ : Type} (R : σ → Rho) (g : σ → D → σ) (I : σ → List D → Prop) (hk : Stor f x)
    (step : ∀ s d ds, I s (d :: ds) → ∃ ρ1 ρ2, Upd (R s) x (some (.imm d)) ρ1 ∧ Exs c f ρ1 body ρ2 .next ∧ Le ρ2 (R (g s d)) ∧ I (g s d) ds) :
    ∀ (ds : List D) (s : σ), I s ds → Fo c f x px body (R s) ds (R (ds.foldl g s)) .next
  | [], s, _ => fo_nil o
  | d :: ds, s, h => by
    obtain ⟨ρ1, ρ2, u, e, l, i⟩ := step s d ds h
    exact fo_cons o u hk e (fo_from l (fo_fold o R g I hk step ds (g s d) i))
/-- a for loop that may return -/
theorem fo_any (o : Ok c f k) {x : Str} {px : Pos} {body : List Stmt} {e : D} (p : D → Bool) (hk : Stor f x) :
    ∀ (ds : List D), (∀ d ∈ ds, ∃ ρ1 ρ2, Upd ρ x (some (.imm d)) ρ1 ∧ Exs c f ρ1 body ρ2 (if p d then .ret e else .next) ∧ Le ρ2 ρ) → Fo c f x px body ρ ds ρ (if ds.any p then .ret e else .next)
  | [], _ => fo_nil o
  | d :: ds, h => by
    obtain ⟨ρ1, ρ2, u, ex, l⟩ := h d (.head _)
    rw [List.any_cons]
    cases hp : p d with
    | true =>
      rw [hp] at ex
      exact fo_le (fo_ret o u hk ex) l
    | false =>
      rw [hp] at ex
      rw [Bool.false_or]
      exact fo_cons o u hk ex (fo_from l (fo_any o p hk ds fun x hx => h x (.tail _ hx)))
theorem fo_any0 (o : Ok c f k) {x : Str} {px : Pos} {body : List Stmt} (e : D) (p : D → Bool) {ds : List D} (hp : ds.any p = false) (hk : Stor f x) (h : ∀ d ∈ ds, ∃ ρ1 ρ2, Upd ρ x (some (.imm d)) ρ1 ∧ Exs c f ρ1 body ρ2 (if p d then .ret e else .next) ∧ Le ρ2 ρ) : Fo c f x px body ρ ds ρ .next := by
  have z := fo_any o (px := px) p hk ds h
  rw [hp] at z; exact z
theorem fo_any1 (o : Ok c f k) {x : Str} {px : Pos} {body : List Stmt} (e : D) (p : D → Bool) {ds : List D} (hp : ds.any p = true) (hk : Stor f x) (h : ∀ d ∈ ds, ∃ ρ1 ρ2, Upd ρ x (some (.imm d)) ρ1 ∧ Exs c f ρ1 body ρ2 (if p d then .ret e else .next) ∧ Le ρ2 ρ) : Fo c f x px body ρ ds ρ (.ret e) := by
  have z := fo_any o (px := px) p hk ds h
  rw [hp] at z; exact z
theorem wh_from {test : Expr} {body : List Stmt} {ρ1 : Rho} {o : Out} (l : Le ρ ρ1) (h : Wh c f test body ρ1 ρ' o) : Wh c f test body ρ ρ' o := fun s R st q => h s R (st.sub l) q
/-- a while, run -/
noncomputable def runW {σ : Type} (nxt : σ → Option (Option σ)) : Nat → σ → Option σ
  | 0, _ => none
  | n + 1, s => match nxt s with
    | none => none
    | some none => some s
    | some (some s') => runW nxt n s'
theorem wh_run {test : Expr} {body : List Stmt} {σ : Type} (R : σ → Rho) (nxt : σ → Option (Option σ)) (hstop : ∀ s, nxt s = some none → Tr c f (R s) test false)
    (hstep : ∀ s s', nxt s = some (some s') → Tr c f (R s) test true ∧ ∃ ρ2, Exs c f (R s) body ρ2 .next ∧ Le ρ2 (R s')) : ∀ (n : Nat) (s r : σ), runW nxt n s = some r → Wh c f test body (R s) (R r) .next
  | 0, s, r, h => by cases h
  | n + 1, s, r, h => by
    unfold runW at h
    cases e : nxt s with
    | none => rw [e] at h; cases h
    | some o =>
      rw [e] at h
      cases o with
      | none => cases h; exact wh_stop (hstop s e)
      | some s' =>
        obtain ⟨t, ρ2, x, l⟩ := hstep s s' e
        exact wh_step t x (wh_from l (wh_run R nxt hstop hstep n s' r h))
theorem tr_eq {e : Expr} {b b' : Bool} (h : b = b') (x : Tr c f ρ e b) : Tr c f ρ e b' := h ▸ x
theorem ev_eq {e : Expr} {d d' : D} (h : d = d') (x : Ev c f ρ e d) : Ev c f ρ e d' := h ▸ x
theorem cm_eq' {op : CmpOp} {d1 d2 : D} {b b' : Bool} (h : b = b') (x : Cm c f op d1 d2 b) : Cm c f op d1 d2 b' := h ▸ x
theorem Fn.mono {j k : Nat} (h : j ≤ k) {fv : Value} {ds : List D} {d : D} (F : Fn c j fv ds d) : Fn c k fv ds d := fun A X s vs Q E room => F A X s vs Q E (room.mono h)
theorem evp_none : EvP c f ρ none none := trivial
theorem evp_some {e : Expr} {i : Int} (h : Ev c f ρ e (.int i)) : EvP c f ρ (some e) (some i) := h
end
end Mine
end
section
namespace Mine
open PySem PySem.W PySem.Calls PyProof.Rows PySem.Spec
section
variable {c : Cx} {f : Fx} {ρ ρ' ρ1 ρ2 ρ3 : Rho} {k : Nat}
/-- t stores in x -/
noncomputable def Puts (c : Cx) (f : Fx) (x : Str) (t : Value → Sem Unit) : Prop := ∀ (v : Value) (s : Shared) (Q : Unit → Shared → Prop) (E : Value → Shared → Prop), wpAny (model c.prog c.w) f.A (storeName f.env x v) Q E s → wpAny (model c.prog c.w) f.A (t v) Q E s
theorem puts_name {x : Str} {p : Pos} : Puts c f x (assign (.Name x p) f.env) := fun v s Q E h => assign_Name h
theorem puts_bind {x : Str} : Puts c f x (bindName f.env x) := fun v s Q E h => bindName_ h
/-- stored in order -/
inductive Sts (c : Cx) (f : Fx) : Rho → List (Value → Sem Unit) → List D → Rho → Prop
  | nil {ρ : Rho} : Sts c f ρ [] [] ρ
  | cons {ρ ρ1 ρ2 : Rho} {x : Str} {t : Value → Sem Unit} {d : D} {ts : List (Value → Sem Unit)} {ds : List D} (p : Puts c f x t) (u : Upd ρ x (some (.imm d)) ρ1) (hk : Stor f x) (h : Sts c f ρ1 ts ds ρ2) : Sts c f ρ (t :: ts) (d :: ds) ρ2
theorem in_order (o : Ok c f k) : ∀ {ρ ρ' : Rho} {ts : List (Value → Sem Unit)} {ds : List D} {vs : List Value}, Sts c f ρ ts ds ρ' → ∀ {s : Shared} {Q : Unit → Shared → Prop} {E : Value → Shared → Prop}, St c f ρ s.heap → Reps c.C s.heap f.X vs ds →
      (∀ h' tk, Keep f.M s.heap h' → St c f ρ' h' → Q () { s with heap := h', toks := tk }) → wpAny (model c.prog c.w) f.A (assignInOrder ts vs) Q E s
  | _, _, _, _, _, .nil, s, Q, E, st, _, q => assignInOrder_nil (q s.heap s.toks (Keep.refl _) st)
  | _, _, _, _, _, .cons p u hk h, s, Q, E, st, r, q => by
    cases r with
    | cons hv hs =>
      refine assignInOrder_cons (p _ _ _ _ (store_of o u hk st hv fun h1 t1 x1 s1 => ?_))
      refine in_order o h s1 (hs.keep fun b ob n e => x1.1 b ob (fun z => n (o.mx _ z)) e) fun h2 t2 x2 s2 => q h2 t2 (x1.trans x2) s2
theorem extBut_ext {h h' : Heap} (e : Heap.ExtBut h.objs.size h h') : Ext h h' := fun b o q => e b o (Nat.ne_of_lt (Heap.lt_size q)) q
theorem Reps.rev {C : Addr} {h : Heap} {X : Addr → Prop} : ∀ {vs : List Value} {ds : List D}, Reps C h X vs ds → Reps C h X vs.reverse ds.reverse
  | _, _, .nil => .nil
  | _, _, .cons hv hs => by
    rw [List.reverse_cons, List.reverse_cons]
    exact (Reps.rev hs).append (.cons hv .nil)
/-- names = a list -/
theorem ex_unpack (o : Ok c f k) {e : Expr} {elts : List Expr} {tp pos : Pos} {n : Nat} {ds : List D} (h : Ev c f ρ e (.list ds)) (u : Sts c f ρ ((assignEach elts f.env).map (·.2)) ds ρ') (hn : (assignEach elts f.env).length = ds.length)
    (hst : (assignEach elts f.env).findIdx? (·.1) = none) (hs : swapsWithSole [.Tuple elts n tp] e pos.line f.env = pure false) (hw : swappedStores [.Tuple elts n tp] e f.env = pure none) :
    Ex c f ρ (.Assign [.Tuple elts n tp] e pos) ρ' .next := fun s Q E st q => by
  refine Assign_Tuple (h s _ E st fun v h1 t1 x1 r1 => ?_) hs hw
  have st1 := st.up x1
  cases r1 with
  | list hl hx hr =>
    rename_i l vs
    rw [assign_Tuple]
    refine wpAny_bind (wpAny_standAt ?_)
    unfold unpack
    have hz : vs.toArray.size = ds.length := by rw [List.size_toArray, hr.length]
    rw [hst, hn, ← hz]
    refine wpAny_bind (wpAny_holding (kun_itemsOf (s := { s with heap := h1, toks := t1 }) o.room.hd hl fun h2 he => ?_))
    have x2 := extBut_ext he
    exact in_order o u (s := { s with heap := h2, toks := t1 }) (st1.up x2) (hr.ext x2) fun h3 t3 x3 s3 => q .next h3 t3 ((x1.trans x2).keep.trans x3) trivial s3
/-- names = (values), the stores exchanged -/
theorem ex_swap (o : Ok c f k) {e : Expr} {elts : List Expr} {tp pos : Pos} {n : Nat} {names : List Str} {ds : List D} (h : Ev c f ρ e (.tuple ds)) (u : Sts c f ρ (names.reverse.map fun n => bindName f.env n) ds.reverse ρ') (hn : names.length = ds.length)
    (hs : swapsWithSole [.Tuple elts n tp] e pos.line f.env = pure false) (hw : swappedStores [.Tuple elts n tp] e f.env = pure (some names)) :
    Ex c f ρ (.Assign [.Tuple elts n tp] e pos) ρ' .next := fun s Q E st q => by
  refine Assign_Tuple_swapped (h s _ E st fun v h1 t1 x1 r1 => ?_) hs hw
  have st1 := st.up x1
  cases r1 with
  | tuple hl hx hr =>
    rename_i l vs
    have hz : vs.toArray.size = names.length := by rw [List.size_toArray, hr.length, hn]
    rw [← hz]
    refine unpackItems_tuple (s := { s with heap := h1, toks := t1 }) o.room.hd hl fun h2 he => ?_
    have x2 := extBut_ext he
    exact in_order o u (s := { s with heap := h2, toks := t1 }) (st1.up x2) ((hr.ext x2).rev) fun h3 t3 x3 s3 => q .next h3 t3 ((x1.trans x2).keep.trans x3) trivial s3
end
end Mine
end
section
namespace Mine
open PySem PySem.W PySem.Calls PyProof.Rows PySem.Spec
/-- at a frame's address -/
noncomputable def FSet (l : List Env) (b : Addr) : Prop := b ∈ l.filterMap (·.frame)
/-- an exception that is under way -/
structure Fly (h : Heap) (e T : Addr) (fl c2 : Value) : Prop where
  at_ : ∃ oe vs oT ts, h.get? e = some oe ∧ oe.cls = .type "IndexError" ∧ oe.data = .fields vs ∧ vs[1]? = some (.ref T) ∧ vs[2]? = some c2 ∧ T ≠ e ∧ h.get? T = some oT ∧ oT.data = .fields ts ∧ ts[3]? = some fl
/-- an exception that no frame has noted -/
structure Raw (h : Heap) (e : Addr) (c2 : Value) : Prop where
  at_ : ∃ oe vs, h.get? e = some oe ∧ oe.cls = .type "IndexError" ∧ oe.data = .fields vs ∧ vs[1]? = some .none ∧ vs[2]? = some c2
section
variable {M : Model} {A : Around} {E : Value → Shared → Prop} {s : Shared} {base : Heap} {env : Env} {outer : List Env} {L e T : Addr} {fl c2 : Value}
theorem note_new {Q : Unit → Shared → Prop} (hfr : A.frames = some (env :: outer)) (hl : s.heap.FunFrames base (env :: outer)) (hf : env.frame = some L) (hr : Raw s.heap e c2)
    (q : ∀ h' T, (∀ b o, b ≠ e → ¬ FSet (env :: outer) b → s.heap.get? b = some o → h'.get? b = some o) → (∀ b o, FSet (env :: outer) b → s.heap.get? b = some o → ∃ sl, h'.get? b = some { o with slots := sl }) → s.heap.get? T = none → Fly h' e T (rawInt L) c2 → Q () { s with heap := h' }) :
    wpAny M A (noteFrame (.ref e) env) Q E s := by
  obtain ⟨oe, vs, he, hc, hd, h1, h2⟩ := hr
  have hsz : 1 < vs.size := (Array.getElem?_eq_some_iff.mp h1).1
  have hene : ¬ FSet (env :: outer) e := fun hm => by
    obtain ⟨_, o, ho, hnf⟩ := hl.mem hm
    rw [he] at ho; injection ho with ho; subst ho; exact hnf vs hd
  unfold noteFrame
  simp only [hf]
  refine wpAny_bind (wpAny_field he hd h1 ?_)
  rw [if_neg (by decide)]
  refine wpAny_bind (wpAny_frameOf_fun hfr hl hf fun h₁ hs₁ => ?_)
  refine wpAny_bind (wpAny_entryPlaceOf fun pl hpl => ?_)
  unfold EntryCells.newEntry newFields
  refine wpAny_bind (wpAny_newObj_type ?_ (hpl.sizeOk5 _ _ _ _ _))
  have he₁ : h₁.get? e = some oe := (hs₁.2.1 e hene).trans he
  have he₂ := Heap.get?_push_of_some (h := h₁) { cls := .type "traceback", dict := none, data := .fields ([Value.none, .ref L, .none, rawInt L, .none] ++ (if pl.isEmpty then List.replicate 6 Value.none else pl)).toArray } he₁
  refine wpAny_setField he₂ hd hsz ?_
  have hTe : h₁.objs.size ≠ e := Nat.ne_of_gt (Heap.lt_size he₁)
  have hd₃ := Obj.data_mapFields hd (·.setIfInBounds 1 (Value.ref h₁.objs.size))
  have he₃ := Heap.get?_update_self (Obj.mapFields (·.setIfInBounds 1 (Value.ref h₁.objs.size))) he₂ (Obj.isFreed_of_fields hd₃)
  have hT₃ := (Heap.get?_update_other (h₁.push { cls := .type "traceback", dict := none, data := .fields ([Value.none, .ref L, .none, rawInt L, .none] ++ (if pl.isEmpty then List.replicate 6 Value.none else pl)).toArray })
    (Obj.mapFields (·.setIfInBounds 1 (Value.ref h₁.objs.size))) (Ne.symm hTe)).trans (Heap.get?_push_size h₁ rfl)
  have keep : ∀ b o, b ≠ e → h₁.get? b = some o →
      ((h₁.push { cls := .type "traceback", dict := none, data := .fields ([Value.none, .ref L, .none, rawInt L, .none] ++ (if pl.isEmpty then List.replicate 6 Value.none else pl)).toArray }).update e (Obj.mapFields (·.setIfInBounds 1 (Value.ref h₁.objs.size)))).get? b = some o :=
    fun b o hbe hb => by
      rw [Heap.get?_update_other _ _ (Ne.symm hbe)]
      exact Heap.get?_push_of_some _ hb
  refine q _ h₁.objs.size (fun b o hb hn ho => keep b o hb ((hs₁.2.1 b hn).trans ho)) (fun b o hm ho => ?_) ?_ ⟨_, _, _, _, he₃, (Obj.cls_mapFields _ _).trans hc, hd₃, by simp [hsz], ?_, hTe, hT₃, rfl, ?_⟩
  · obtain ⟨sl, hs⟩ := hs₁.2.2 b o ho
    exact ⟨sl, keep b _ (fun z => hene (z ▸ hm)) hs⟩
  · rw [hs₁.1]; exact fresh_size _
  · rw [Array.getElem?_setIfInBounds_ne (by decide)]; exact h2
  · first | (simp; done) | (rcases hpl with rfl | ⟨_, _, _, _, _, _, _, rfl⟩ <;> simp)
theorem note_again {Q : Unit → Shared → Prop} (hf : env.frame = some L) (ht : Fly s.heap e T (rawInt L) c2) (h : Q () s) : wpAny M A (noteFrame (.ref e) env) Q E s := by
  obtain ⟨oe, vs, oT, ts, he, hcls, hd, h1, h2, hTe, hT, hdT, h3⟩ := ht
  unfold noteFrame
  simp only [hf]
  refine wpAny_bind (wpAny_field he hd h1 ?_)
  rw [if_pos (show (Value.ref T != Value.none) = true from by simp)]
  refine wpAny_bind (wpAny_field hT hdT h3 ?_)
  rw [if_pos (show (rawInt L == rawInt L) = true from by simp)]
  exact wpAny_pure h
theorem flight_set {Q : Unit → Shared → Prop} {fr : Option Addr} (ht : Fly s.heap e T fl c2) (h : ∀ h', Heap.SameBut T s.heap h' → (∃ o, h'.get? T = some o) → Fly h' e T (fr.elim .none fun f => rawInt f) c2 → Q () { s with heap := h' }) : wpAny M A (setFlight (.ref e) fr) Q E s := by
  obtain ⟨oe, vs, oT, ts, he, hcls, hd, h1, h2, hTe, hT, hdT, h3⟩ := ht
  have hsz3 : 3 < ts.size := (Array.getElem?_eq_some_iff.mp h3).1
  unfold setFlight
  refine wpAny_bind (wpAny_field he hd h1 ?_)
  rw [if_pos (show (Value.ref T != Value.none) = true from by simp)]
  refine wpAny_setField hT hdT hsz3 ?_
  have hT' := Heap.get?_update_self (Obj.mapFields (·.setIfInBounds 3 (fr.elim Value.none fun f => rawInt f))) hT (Obj.isFreed_of_fields (Obj.data_mapFields hdT _))
  exact h _ (Heap.SameBut.update ..) ⟨_, hT'⟩ ⟨oe, vs, _, _, (Heap.get?_update_other _ _ hTe).trans he, hcls, hd, h1, h2, hTe, hT', Obj.data_mapFields hdT _, by simp [hsz3]⟩
theorem back_set {Ev : Value → Shared → Prop} (hf : env.frame = some L) (ht : Fly s.heap e T fl c2) (h : ∀ h', Heap.SameBut T s.heap h' → (∃ o, h'.get? T = some o) → Fly h' e T (rawInt L) c2 → E (.ref e) { s with heap := h' }) : cameBackBy M A env E (.ref e) s := by
  have ht' := ht
  obtain ⟨oe, vs, oT, ts, he, hcls, hd, h1, h2, hTe, hT, hdT, h3⟩ := ht
  unfold cameBackBy
  refine wpAny_bind (wpAny_field he hd h1 ?_)
  rw [if_neg (show ¬ ((Value.ref T == Value.none) = true) from by simp)]
  rw [hf]
  first
    | exact wpAny_bind (wpAny_pure (flight_set ht' fun h' a b c => h h' a b c))
    | exact flight_set ht' fun h' a b c => h h' a b c
theorem pass_on {α : Type} {what : String} {Q : α → Shared → Prop} (hf : env.frame = some L) (ht : Fly s.heap e T fl c2) (h : ∀ h', Heap.SameBut T s.heap h' → (∃ o, h'.get? T = some o) → Fly h' e T (rawInt L) c2 → E (.ref e) { s with heap := h' }) : wpAny M A (PySem.passOn what (.ref e) env) Q E s := by
  have ht' := ht
  obtain ⟨oe, vs, oT, ts, he, hcls, hd, h1, h2, hTe, hT, hdT, h3⟩ := ht
  unfold PySem.passOn
  refine wpAny_bind (wpAny_field he hd h1 ?_)
  rw [if_neg (show ¬ ((Value.ref T == Value.none) = true) from by simp)]
  rw [hf]
  first
    | exact wpAny_bind (wpAny_pure (wpAny_bind (flight_set ht' fun h' a b c => wpAny_throw (h h' a b c))))
    | exact wpAny_bind (flight_set ht' fun h' a b c => wpAny_throw (h h' a b c))
end
section
variable {prog : Program} {w : World} {A : Around} {E : Value → Shared → Prop} {s : Shared}
/-- what is being handled when a new exception comes -/
noncomputable def HdAt (A : Around) (h : Heap) (c2 : Value) : Prop := (A.handled = none ∧ c2 = .none) ∨ ∃ e0 o0 vs0, A.handled = some (.ref e0) ∧ c2 = .ref e0 ∧ h.get? e0 = some o0 ∧ o0.data = .fields vs0 ∧ vs0[2]? = some .none
theorem entry_unchain : entryFor table "proto.unchain" = some Builtin.«proto.unchain» := entryFor_of_tree (by kernel_rfl)
theorem raise_new {α : Type} {Q : α → Shared → Prop} {c2 t : Value} {h : Heap} {e : Addr} (hA : HdAt A h c2) (kp : ∀ b o, h.get? b = some o → s.heap.get? b = some o) (ne : h.get? e = none) (he : s.heap.get? e = some { cls := .type "IndexError", data := .fields #[t, .none, .none, .none, .bool false, .none] })
    (hE : ∀ h', (∀ b o, h.get? b = some o → h'.get? b = some o) → Raw h' e c2 → E (.ref e) { s with heap := h' }) : wpAny (model prog w) A (raiseNew (.ref e) : Sem α) Q E s := by
  unfold raiseNew
  refine wpAny_bind (wpAny_handled ?_)
  rcases hA with ⟨hn, rfl⟩ | ⟨e0, o0, vs0, hh, rfl, h0, hd0, h02⟩
  · rw [hn]
    exact wpAny_bind (wpAny_pure (wpAny_throw (hE s.heap kp ⟨_, _, he, rfl, rfl, rfl, rfl⟩)))
  · rw [hh]
    have hne : e0 ≠ e := fun z => by rw [z, ne] at h0; cases h0
    dsimp only
    rw [if_pos (show (Value.ref e0 != Value.ref e) = true from by simpa using hne)]
    refine wpAny_bind (wpAny_holding (wpAny_runValue (codeAny_builtin entry_unchain ?_)))
    unfold Builtin.«proto.unchain»
    refine wpAny_bind (wpAny_field (kp _ _ h0) hd0 h02 ?_)
    rw [if_pos (by decide)]
    refine wpAny_bind (wpAny_pure (wpAny_pure ?_))
    refine wpAny_bind (show wpAny _ _ (setField (.ref e) 2 (.ref e0)) _ _ _ from wpAny_setField he rfl (by simp) (wpAny_throw (hE _ (fun b o hb => ?_) ⟨_, _, Heap.get?_update_self _ he rfl, rfl, rfl, by simp, by simp⟩)))
    have : b ≠ e := fun z => by rw [z, ne] at hb; cases hb
    exact (Heap.get?_update_other _ _ (Ne.symm this)).trans (kp b o hb)
theorem raise_words {α : Type} {msg : String} {Q : α → Shared → Prop} {c2 : Value} (hA : HdAt A s.heap c2) (hE : ∀ h' tk e, Ext s.heap h' → s.heap.get? e = none → Raw h' e c2 → E (.ref e) { s with heap := h', toks := tk }) :
    wpAny (model prog w) A (raiseErrorWords "IndexError" msg : Sem α) Q E s := by
  unfold raiseErrorWords
  refine wpAny_bind (wpAny_mkText (wpAny_bind ?_))
  unfold newExc newTuple
  refine wpAny_bind (wpAny_newObj_type ?_)
  refine wpAny_bind (m := firstArgMember _ _) (wpAny_of_eq (a := Value.none) (by simp only [firstArgMember, plainExc_IndexError.first]; rfl) ?_)
  rw [plainExc_IndexError.own]
  refine wpAny_newObj_type ?_
  refine raise_new (h := s.heap) hA (fun b o hb => Heap.get?_push_of_some _ (Heap.get?_push_of_some _ hb)) (Heap.get?_none_of_le (by simp)) (Heap.get?_push_size _ rfl) fun h' k r => hE h' _ _ k (Heap.get?_none_of_le (by simp)) r
/-- an item out of the list -/
theorem item_out {l : Addr} {items : Array Value} {k : Int} {t : Tok} {Q : Value → Shared → Prop} {c2 : Value} (hA : HdAt A s.heap c2) (hl : s.heap.IsList l items) (hout : (items.size : Int) ≤ k) (hhi : k < 2 ^ 63)
    (hE : ∀ h' tk e, Ext s.heap h' → s.heap.get? e = none → Raw h' e c2 → E (.ref e) { s with heap := h', toks := tk }) :
    wpAny (model prog w) A (getItem (.ref l) (.int k t)) Q E s := by
  obtain ⟨o, ho, hc, ne, hd⟩ := id hl
  unfold getItem
  try with_reducible refine wpAny_holding ?_
  first | refine wpAny_bind (wpAny_pure ?_) | skip
  refine wpAny_bind (wpAny_sequenceKey hl.typeIs (by decide) ?_)
  refine wpAny_bind (wpAny_callSpecial?_slot (name := Str.ofString "__getitem__") hl.typeIs slot_list_getitem
    (wpAny_call_entry slot_list_getitem hl.typeIs entry_list_getitem ?_ (args_list_getitem _ _)))
  show wpAny _ _ (Builtin.List.listSubscript? (.int k t) >>= _) _ _ s
  refine wpAny_bind (wpAny_listSubscript_int (fitsIndex_both (by omega) hhi) ?_)
  clear hhi
  have hA' : HdAt A.in1 s.heap c2 := hA
  cases k with
  | negSucc j => exact absurd hout (by have := Int.negSucc_lt_zero j; omega)
  | ofNat j =>
  have hx : items[j]? = none := Array.getElem?_eq_none (by have : (items.size : Int) ≤ (j : Int) := hout; omega)
  show wpAny _ _ ((seqItemAt l j >>= fun r => pure (r.map (j, ·))) >>= _) _ _ s
  refine wpAny_bind (wpAny_bind (wpAny_seqItemAt ho hd (wpAny_pure ?_)))
  rw [hx]
  first
    | exact wpAny_bind (wpAny_rule (raise_words hA' hE))
    | exact wpAny_bind (wpAny_rule (wpAny_bind (raise_words hA' hE)))
    | exact wpAny_bind (wpAny_bind (wpAny_rule (raise_words hA' hE)))
    | exact wpAny_rule (raise_words hA' hE)
    | exact wpAny_bind (wpAny_rule (raise_made hA' hE (by rw [ofString_length, sizeLine_eq]; decide +kernel)))
    | exact wpAny_bind (wpAny_rule (wpAny_bind (raise_made hA' hE (by rw [ofString_length, sizeLine_eq]; decide +kernel))))
end
end Mine
end
section
namespace Mine
open PySem PySem.W PySem.Calls PyProof.Rows PySem.Spec
section
variable {c : Cx} {f : Fx} {ρ ρ' ρc : Rho} {k : Nat} {I : Addr} {h h' : Heap}
/-- a store in a cell of the frame's own -/
theorem store_cell (o : Ok c f k) {x : Str} {d : D} {v : Value} {a : Addr} (u : Upd ρ x (some (.imm d)) ρ') (hc : f.env.kindOf x = some .cell) (ha : f.env.cells.lookup x = some a) (hMa : f.M a) {s : Shared} {Q : Unit → Shared → Prop} {E : Value → Shared → Prop} (st : St c f ρ s.heap)
    (r : Rep c.C s.heap f.X v d) (q : ∀ h' tk, Heap.SameBut a s.heap h' → (∃ ob, h'.get? a = some ob) → St c f ρ' h' → Q () { s with heap := h', toks := tk }) : wpAny (model c.prog c.w) f.A (storeName f.env x v) Q E s := by
  have um := u.mem st.nd
  obtain ⟨m, hn, hr⟩ := st.ns
  obtain ⟨v₀, hv₀⟩ := st.cl x a ha
  refine wpAny_storeName_cell o.kind hc ha hv₀ fun h' hv' hs => ?_
  have hX := o.mx _ hMa
  have xk : ∃ ob, h'.get? a = some ob := let ⟨ob, e, _⟩ := hv'; ⟨ob, e⟩
  have own : ∀ {y : Str} {b : Addr} {bs : List D}, (y, some (En.own b bs)) ∈ ρ → b ≠ a := fun {y b bs} hy => by
    obtain ⟨v', r'⟩ := st.en hy
    obtain ⟨vs, il⟩ := r'.list
    exact Ne.symm (cell_ne_list hv₀ il)
  have same : { s with heap := h' } = { s with heap := h', toks := s.toks } := rfl
  rw [same]
  refine q h' s.toks hs xk ⟨by rw [u.names]; exact st.nd, st.ext.sameBut hs (o.dis _ hX), fun b hb => ?_, fun y b e => ?_, fun y z b bs cs h1 h2 => ?_, ⟨m, hn.sameBut hs (ns_ne_cell hn hv₀), fun y en' hy hyl => ?_⟩, fun y en' hy hyl => ?_⟩
  · by_cases e : b = a
    · subst e; exact xk
    · obtain ⟨ob, q⟩ := st.xok b hb; exact ⟨ob, (hs.2 b e).trans q⟩
  · by_cases e' : b = a
    · subst e'; exact ⟨_, hv'⟩
    · obtain ⟨v1, x1⟩ := st.cl y b e
      exact ⟨v1, x1.sameBut hs e'⟩
  · rcases um _ h1 with e1 | ⟨e1, n1⟩
    · cases e1
    · rcases um _ h2 with e2 | ⟨e2, n2⟩
      · cases e2
      · exact st.oa _ _ _ _ _ e1 e2
  · rcases um _ hy with e1 | ⟨e1, n1⟩
    · cases e1; rw [hc] at hyl; cases hyl
    · obtain ⟨v', hv', r'⟩ := hr y en' e1 hyl
      exact ⟨v', hv', r'.same hs hX fun b ds e => own (e ▸ e1)⟩
  · rcases um _ hy with e1 | ⟨e1, n1⟩
    · cases e1
      exact ⟨a, v, .inl hc, ha, hv', Rep.keep (fun b ob n e => (hs.2 b (fun z => n (z ▸ hX))).trans e) r⟩
    · obtain ⟨b, v', hk, hcb, hv, r'⟩ := st.cs y en' e1 hyl
      have hba : b ≠ a := fun e => n1 (o.apart y x a (e ▸ hcb) ha)
      exact ⟨b, v', hk, hcb, hv.sameBut hs hba, r'.same hs hX fun b ds e => own (e ▸ e1)⟩
/-- the comprehension's loop, its name in a cell -/
noncomputable def CpK (c : Cx) (f : Fx) (a : Addr) (e : Expr) (ρ : Rho) (ds es : List D) : Prop :=
  ∀ (s : Shared) (I Dd : Addr) (as : List D) (vs : List Value) (R : Result → Shared → Prop), St c f ρ s.heap → It c f I s.heap ds → ¬ f.X I → c.g.get? I = none → f.M Dd → Dd ≠ a →
    (∀ y b bs, (y, some (En.own b bs)) ∈ ρ → b ≠ Dd) → PlainL s.heap Dd vs.toArray → Reps c.C s.heap f.X vs as → as.length + es.length ≤ 1000000 →
    (∀ h' tk vs', (∀ b o, b ≠ a → b ≠ Dd → b ≠ I → s.heap.get? b = some o → h'.get? b = some o) → PlainL h' Dd vs'.toArray → Reps c.C h' f.X vs' (as ++ es) → St c f ρ h' →
      R (.ok .next) { s with heap := h', toks := tk }) → codeAny (model c.prog c.w) f.A (.compLoop e 0 (.ref I) (.ref Dd) f.env) R s
theorem cpk_nil (o : Ok c f k) {a : Addr} {elt iter : Expr} {x : Str} {px : Pos} {ifs : List Expr} {scope : Scope} {pos : Pos} : CpK c f a (.ListComp elt [⟨.Name x px, iter, ifs, 0⟩] scope pos) ρ [] [] := fun s I Dd as vs R st t hX hg hM hDL hno hl hr hz q =>
  cp_turn (it_end o.room.hd t fun h' kk => q h' s.toks vs (fun b o _ _ n e => kk b o n e) (plainL_iter t.obj kk hl) (by rw [List.append_nil]; exact hr.iter t.obj kk) (st.iter o t.obj hX hg kk))
theorem cpk_cons (o : Ok c f k) {a : Addr} {elt iter : Expr} {x : Str} {px : Pos} {ifs : List Expr} {scope : Scope} {pos : Pos} {d e : D} {ds es : List D} {b : Bool} {ρ1 : Rho} (u : Upd ρ x (some (.imm d)) ρ1) (hk : f.env.kindOf x = some .cell) (ha : f.env.cells.lookup x = some a) (hMa : f.M a) (l : Le ρ1 ρ)
    (ts : Ts c f ρ1 ifs b) (ev : b = true → Ev c f ρ1 elt e) (hr : CpK c f a (.ListComp elt [⟨.Name x px, iter, ifs, 0⟩] scope pos) ρ ds es) :
    CpK c f a (.ListComp elt [⟨.Name x px, iter, ifs, 0⟩] scope pos) ρ (d :: ds) (if b then e :: es else es) := fun s I Dd as vs R st t hX hg hM hDL hno hl hrs hz q =>
  cp_turn (it_next t hX fun v h1 t1 hs1 it1 r1 => by
    have kk : ∀ b o, b ≠ I → s.heap.get? b = some o → h1.get? b = some o := fun b o n e => (hs1.2 b n).trans e
    have st1 := st.iter o t.obj hX hg kk
    have hl1 := plainL_iter t.obj kk hl
    have hrs1 := hrs.iter t.obj kk
    refine store_cell (s := { s with heap := h1, toks := t1 }) o u hk ha hMa st1 r1 fun h2 t2 hs2 xk st2 => ?_
    have kp2 := Keep.same (M := f.M) hs2 hMa xk
    have hl2 := hl1.extBut hs2.extBut hDL
    have hrs2 := hrs1.keep (h' := h2) fun y ob n e => (hs2.2 y (fun q => n (q ▸ o.mx _ hMa))).trans e
    have it2 := it1.keep o hX kp2
    refine ts _ _ _ st2 fun h3 t3 x3 => ?_
    have st3 := st2.up x3
    have it3 := it2.keep o hX x3.keep
    cases b with
    | false =>
      simp only [Bool.false_eq_true, if_false] at hz q ⊢
      refine hr _ I Dd as vs R (st3.sub l) it3 hX hg hM hDL hno (hl2.keeps x3) (hrs2.ext x3) hz fun h' tk vs' k1 k2 k3 k4 => q h' tk vs' (fun b o n1 n2 n3 e => k1 b o n1 n2 n3 (x3 b o ((hs2.2 b n1).trans (kk b o n3 e)))) k2 k3 k4
    | true =>
      simp only [if_true] at hz q ⊢
      refine ev rfl _ _ _ st3 fun v4 h4 t4 x4 r4 => ?_
      have st4 := st3.up x4
      have it4 := it3.keep o hX x4.keep
      refine app_hidden o (st4.sub l) hM hno ((hl2.keeps x3).keeps x4) ((hrs2.ext x3).ext x4) r4 (by simp at hz; omega) fun h5 hs5 hl5 hrs5 st5 => ?_
      have xk5 : ∃ ob, h5.get? Dd = some ob := let ⟨ob, _, e, _⟩ := hl5; ⟨ob, e⟩
      refine hr _ I Dd (as ++ [e]) _ R st5 (it4.keep o hX (Keep.same hs5 hM xk5)) hX hg hM hDL hno hl5 hrs5 (by simp at hz ⊢; omega) fun h' tk vs' k1 k2 k3 k4 => q h' tk vs' (fun b o n1 n2 n3 e => k1 b o n1 n2 n3 ((hs5.2 b n2).trans (x4 b o (x3 b o ((hs2.2 b n1).trans (kk b o n3 e)))))) k2 (by rw [List.append_assoc] at k3; exact k3) k4)
/-- the frame of a comprehension with one cell of its own -/
noncomputable def cfk (f : Fx) (scope : Scope) (x : Str) (Dd Cc a : Addr) : Fx :=
  { A := f.A, env := { compEnvC scope ((x, a) :: closOf f.env scope.names []) Cc f.env with cells := (x, a) :: closOf f.env scope.names [] }, X := fun b => (f.X b ∨ b = Dd) ∨ (b = Cc ∨ b = a), M := fun b => (f.M b ∨ b = Dd) ∨ (b = Cc ∨ b = a) }
/-- one name lies in a cell -/
structure One (scope : Scope) (x : Str) : Prop where
  cs : ∀ n acc, cellsFrom n scope.names acc = (x, n) :: acc
  pc : ∀ h : Heap, pushCells h scope.names = h.push { cls := .type "cell", data := .cell none }
  at_ : scope.names.lookup x = some .cell
structure SeesK (f : Fx) (ρ : Rho) (scope : Scope) (ρc : Rho) : Prop where
  nd : (ρc.map (·.1)).Nodup
  sees : ∀ x en, (x, some en) ∈ ρc → (x, some en) ∈ ρ ∧ scope.names.lookup x = some .free ∧ f.env.kindOf x ≠ some .local
  free : FreeOk f.env scope.names
  kind : scope.kind = .function
  names : ∀ y ∈ scope.names, y.2 = .local → scope.names.lookup y.1 = some .local
theorem newEnv_one {M : Model} {A : Around} {E : Value → Shared → Prop} {s : Shared} {scope : Scope} {x : Str} {globals : Addr} {cl : List (Str × Addr)} {qual : Str} {env : Env} {Q : Env → Shared → Prop} (O : One scope x)
    (h : Q { scope := scope, locals := s.heap.objs.size, globals := globals, cells := (x, s.heap.objs.size + 1) :: cl, qual := qual, func := none, code := env.code, frame := env.frame, builtins := env.builtins }
      { s with heap := (s.heap.push { cls := .type "dict", data := .dict #[] }).push { cls := .type "cell", data := .cell none } }) :
    wpAny M A (newFunctionEnv scope globals cl [] qual none .none (some env)) Q E s := by
  unfold newFunctionEnv
  refine wpAny_bind (wpAny_alloc ?_)
  refine wpAny_bind (wpAny_layCells _ (fun name kind cells => by cases hkc : kind == NameKind.cell <;> simp [hkc]) _ _ _ _ ?_)
  dsimp only [Option.isSome_some, if_true]
  rw [O.cs, O.pc, Heap.size_push]
  rw [List.forIn_nil]
  exact wpAny_bind (wpAny_pure (wpAny_pure h))
theorem reps3 {C : Addr} {h : Heap} {X : Addr → Prop} {D1 C1 a1 : Addr} {vs : List Value} {ds : List D} (r : Reps C h X vs ds) (hD : h.get? D1 = none) (hC : h.get? C1 = none) (hA : h.get? a1 = none) : Reps C h (fun b => (X b ∨ b = D1) ∨ (b = C1 ∨ b = a1)) vs ds :=
  (((r.more hD).more hC).more hA).less fun b z => z.elim (fun z => .inl (.inl z)) fun z => z.elim (fun z => .inl (.inr z)) .inr
theorem enRep3 {C : Addr} {h : Heap} {X M : Addr → Prop} {D1 C1 a1 : Addr} {v : Value} {en : En} (r : EnRep C h X M v en) (hD : h.get? D1 = none) (hC : h.get? C1 = none) (hA : h.get? a1 = none) : EnRep C h (fun b => (X b ∨ b = D1) ∨ (b = C1 ∨ b = a1)) (fun b => (M b ∨ b = D1) ∨ (b = C1 ∨ b = a1)) v en := by
  cases en with
  | imm d => exact (((Rep.more hA (Rep.more hC (Rep.more hD r)))).less fun b z => z.elim (fun z => .inl (.inl z)) fun z => z.elim (fun z => .inl (.inr z)) .inr)
  | own a ds =>
    obtain ⟨vs, e, hm, hl, hr⟩ := r
    exact ⟨vs, e, .inl (.inl hm), hl, reps3 hr hD hC hA⟩
theorem it3 {ds : List D} {scope : Scope} {x : Str} {Dd Cc a : Addr} (t : It c f I h ds) (hD : h.get? Dd = none) (hC : h.get? Cc = none) (hA : h.get? a = none) : It c (cfk f scope x Dd Cc a) I h ds := by
  cases t with
  | list hi hl hx hr =>
    refine .list hi hl (fun q => ?_) (reps3 hr hD hC hA)
    obtain ⟨o, e, _⟩ := hl
    rcases q with (q | q) | (q | q)
    · exact hx q
    · rw [q, hD] at e; cases e
    · rw [q, hC] at e; cases e
    · rw [q, hA] at e; cases e
  | range hi => exact .range hi
theorem comp_goK (o : Ok c f k) {e elt iter : Expr} {x : Str} {px : Pos} {ifs : List Expr} {rest : List Comprehension} {scope : Scope} {pos p0 : Pos} {d : D} {ds es : List D} {use : Option (Value → Sem Unit)} (he : e = .ListComp elt (⟨.Name x px, iter, ifs, 0⟩ :: rest) scope pos) (O : One scope x)
    (hiter : Ev c f ρ iter d) (hi : Items d ds) (sees : SeesK f ρ scope ρc) (hrun : ∀ Dd Cc a, Ok c (cfk f scope x Dd Cc a) k → CpK c (cfk f scope x Dd Cc a) a e ρc ds es) (hz : es.length ≤ 1000000) (hs : ∀ x, foldedSetIterable iter f.env x = pure x)
    {s : Shared} {Q E : Value → Shared → Prop} (st : St c f ρ s.heap)
    (q : ∀ Dd Cc h' tk, Ext s.heap h' → s.heap.get? Dd = none → s.heap.get? Cc = none → Dd ≠ Cc → (∃ m, h'.Ns Cc m) → Rep c.C h' (fun b => f.X b ∨ b = Cc) (.ref Dd) (.list es) → c.g.get? Cc = none → ¬ f.X Cc → compPost (model c.prog c.w) f.A E use Q (.ref Dd) Cc (.ok .next) { s with heap := h', toks := tk }) :
    wpAny (model c.prog c.w) f.A (comprehension e scope f.env p0 (newList []) false (eval iter f.env) use) Q E s := by
  subst he
  refine wpAny_comprehension_free (g := ⟨.Name x px, iter, ifs, 0⟩) (gs := rest) rfl hs (closureFor_eq scope f.env sees.free) sees.kind sees.names ?_
  refine hiter s _ E st fun v h1 t1 x1 r1 => ?_
  have st1 := st.up x1
  refine iter_of hi st1.w r1 fun I h2 x2 fI it hXI hgI => ?_
  have st2 := st1.up x2
  have fI' : h1.get? I = none := fI
  refine wpAny_newObj_type (newEnv_one O ?_)
  dsimp only
  generalize hH3 : h2.push { cls := .type "list", dict := none, data := .seq ([] : List Value).toArray } = H3
  have hC : H3.objs.size = h2.objs.size + 1 := by rw [← hH3, Heap.size_push]
  generalize hH5 : (H3.push { cls := .type "dict", data := .dict #[] }).push { cls := .type "cell", data := .cell none } = H5
  have x23 : Ext h2 H3 := hH3 ▸ Ext.push _ _
  have x35 : Ext H3 H5 := hH5 ▸ (Ext.push _ _).trans (Ext.push _ _)
  have x25 : Ext h2 H5 := x23.trans x35
  have hDC : h2.objs.size ≠ H3.objs.size := by rw [hC]; exact Nat.ne_of_lt (Nat.lt_succ_self _)
  have hDa : h2.objs.size ≠ H3.objs.size + 1 := by rw [hC]; omega
  have hCa : H3.objs.size ≠ H3.objs.size + 1 := by omega
  have fD : h2.get? h2.objs.size = none := fresh_size _
  have fC : h2.get? H3.objs.size = none := Heap.get?_none_of_le (by rw [hC]; exact Nat.le_succ _)
  have fA : h2.get? (H3.objs.size + 1) = none := Heap.get?_none_of_le (by rw [hC]; omega)
  have none_of : ∀ {a : Addr}, h2.get? a = none → ∀ {g : Heap}, Ext g h2 → g.get? a = none := fun {a} ha {g} eg => by
    cases q : g.get? a with
    | none => rfl
    | some o' => have := eg _ _ q; rw [ha] at this; cases this
  have gD := none_of fD st2.ext
  have gC := none_of fC st2.ext
  have gA := none_of fA st2.ext
  have XD : ¬ f.X h2.objs.size := st2.w.fresh fD
  have XC : ¬ f.X H3.objs.size := st2.w.fresh fC
  have hns : H5.Ns H3.objs.size (fun _ => none) := by
    rw [← hH5]
    exact (Heap.Ns.new H3 (.type "dict")).keeps (Ext.push _ _)
  have hcell : H5.IsCell (H3.objs.size + 1) none := by
    refine ⟨{ cls := .type "cell", data := .cell none }, ?_, rfl⟩
    have := Heap.get?_push_size (H3.push { cls := .type "dict", data := .dict #[] }) (o := { cls := .type "cell", data := .cell none }) rfl
    rw [Heap.size_push] at this
    rw [← hH5]; exact this
  have look : ∀ {y : Str} {b : Addr}, ((x, H3.objs.size + 1) :: closOf f.env scope.names []).lookup y = some b → (y = x ∧ b = H3.objs.size + 1) ∨ f.env.cells.lookup y = some b := fun {y b} e => by
    rw [List.lookup_cons] at e
    cases q : y == x with
    | true => rw [q] at e; cases e; exact .inl ⟨beq_iff_eq.mp q, rfl⟩
    | false => rw [q] at e; exact .inr (clos_back _ [] sees.free (fun _ _ e => nomatch e) _ _ e)
  have ne_of : ∀ {y : Str} {b : Addr}, f.env.cells.lookup y = some b → b ≠ H3.objs.size + 1 := fun {y b} e z => by
    obtain ⟨v, ob, w, _⟩ := st2.cl y b e
    rw [z, fA] at w; cases w
  have ok : Ok c (cfk f scope x h2.objs.size H3.objs.size (H3.objs.size + 1)) k :=
    { kind := sees.kind, glob := o.glob, blt := o.blt, mx := fun b z => z.imp (fun z => z.imp (o.mx b) id) id, loc := .inr (.inl rfl),
      apart := fun y z b e1 e2 => by
        rcases look e1 with ⟨h1, h1'⟩ | h1 <;> rcases look e2 with ⟨h2, h2'⟩ | h2
        · rw [h1, h2]
        · exact absurd h1' (ne_of h2)
        · exact absurd h2' (ne_of h1)
        · exact o.apart y z b h1 h2,
      dis := fun b z => by
        rcases z with (z | z) | (z | z)
        · exact o.dis b z
        · rw [z]; exact gD
        · rw [z]; exact gC
        · rw [z]; exact gA
      room := o.room }
  have hpl : PlainL H5 h2.objs.size ([] : List Value).toArray := by
    refine ⟨{ cls := .type "list", dict := none, data := .seq ([] : List Value).toArray }, 0, x35 _ _ ?_, rfl, rfl, rfl⟩
    rw [← hH3]; exact Heap.get?_push_size _ rfl
  have stc : St c (cfk f scope x h2.objs.size H3.objs.size (H3.objs.size + 1)) ρc H5 := by
    refine ⟨sees.nd, st2.ext.trans x25, fun b z => ?_, fun y b e => ?_, fun y z b bs cs h1 h2 => ?_, ⟨_, hns, fun y en hy hyl => ?_⟩, fun y en hy hyl => ?_⟩
    · rcases z with (z | z) | (z | z)
      · obtain ⟨ob, w⟩ := st2.xok b z; exact ⟨ob, x25 _ _ w⟩
      · obtain ⟨ob, n, w, _⟩ := hpl; exact ⟨ob, z ▸ w⟩
      · obtain ⟨ob, _, _, w, _⟩ := hns; exact ⟨ob, z ▸ w⟩
      · obtain ⟨ob, w, _⟩ := hcell; exact ⟨ob, z ▸ w⟩
    · rcases look e with ⟨_, h1⟩ | h1
      · exact ⟨none, h1 ▸ hcell⟩
      · obtain ⟨v, w⟩ := st2.cl y b h1
        exact ⟨v, w.keeps x25⟩
    · exact st2.oa y z b bs cs (sees.sees _ _ h1).1 (sees.sees _ _ h2).1
    · obtain ⟨h1, h2, h3⟩ := sees.sees _ _ hy
      exfalso
      have hyl' : (relabel scope f.env).names.lookup y = some .local := hyl
      rcases relabel_free (env := f.env) h2 with w | w
      · rw [show (relabel scope f.env).names.lookup y = some .cell from w] at hyl'; cases hyl'
      · rw [show (relabel scope f.env).names.lookup y = some .free from w] at hyl'; cases hyl'
    · obtain ⟨h1, h2, h3⟩ := sees.sees _ _ hy
      obtain ⟨a, v, hk, hc, hv, r⟩ := st2.cs y en h1 h3
      have hyx : (y == x) = false := by
        rw [beq_eq_false_iff_ne]
        rintro rfl
        rw [O.at_] at h2; cases h2
      refine ⟨a, v, relabel_free (env := f.env) h2, ?_, hv.keeps x25, ?_⟩
      · show ((x, H3.objs.size + 1) :: closOf f.env scope.names []).lookup y = some a
        rw [List.lookup_cons, hyx]
        exact clos_look hc _ _ (.inl (lookup_mem h2))
      · exact EnRep.ext x25 (enRep3 r fD fC fA)
  have itc : It c (cfk f scope x h2.objs.size H3.objs.size (H3.objs.size + 1)) I H5 ds := It.up (it3 it fD fC fA) x25
  have XI : ¬ (cfk f scope x h2.objs.size H3.objs.size (H3.objs.size + 1)).X I := by
    obtain ⟨ob, w, _⟩ := it.obj
    rintro ((z | z) | (z | z))
    · exact hXI z
    · rw [z, fD] at w; cases w
    · rw [z, fC] at w; cases w
    · rw [z, fA] at w; cases w
  have go : codeAny (model c.prog c.w) f.A (.compLoop (.ListComp elt (⟨.Name x px, iter, ifs, 0⟩ :: rest) scope pos) 0 (.ref I) (.ref h2.objs.size) (cfk f scope x h2.objs.size H3.objs.size (H3.objs.size + 1)).env)
      (compPost (model c.prog c.w) f.A E use Q (.ref h2.objs.size) H3.objs.size) { s with heap := H5, toks := t1 } := by
    refine hrun _ _ _ ok { s with heap := H5, toks := t1 } I h2.objs.size [] [] _ stc itc XI hgI (.inl (.inr rfl)) hDa (fun y a bs hy => ?_) hpl .nil (by simpa using hz) fun h5 t5 vs5 k1 k2 k3 k4 => ?_
    · obtain ⟨v, vs, _, hm, hl, _⟩ := st2.en (sees.sees _ _ hy).1
      intro z
      have := hl.isList
      obtain ⟨ob, w, _⟩ := this
      rw [z, fD] at w; cases w
    · have x15 : Ext h1 h5 := fun b ob e => k1 b ob (fun z => by have w := x2 b ob e; rw [z, fA] at w; cases w) (fun z => by have w := x2 b ob e; rw [z, fD] at w; cases w) (fun z => by rw [z, fI'] at e; cases e) (x25 _ _ (x2 _ _ e))
      have hnone : ∀ {a : Addr}, h2.get? a = none → s.heap.get? a = none := fun ha => none_of ha (x1.trans x2)
      refine q h2.objs.size H3.objs.size h5 t5 (x1.trans x15) (hnone fD) (hnone fC) hDC ?_ ?_ gC XC
      · obtain ⟨m, hn, _⟩ := k4.ns; exact ⟨m, hn⟩
      · exact .list k2.isList (fun z => z.elim XD hDC) (Reps.less (X := (cfk f scope x h2.objs.size H3.objs.size (H3.objs.size + 1)).X) (fun b z => z.elim (fun z => .inl (.inl z)) fun z => .inr (.inl z)) (by simpa using k3))
  have goS := codeAny_compStart_list (prog := c.prog) (w := c.w) go (it_self (c := c) (f := cfk f scope x h2.objs.size H3.objs.size (H3.objs.size + 1)) (s := { s with heap := H5, toks := t1 }) itc go)
  exact goS
theorem ev_compK (o : Ok c f k) {elt iter : Expr} {x : Str} {px : Pos} {ifs : List Expr} {rest : List Comprehension} {scope : Scope} {pos : Pos} {d : D} {ds es : List D} (O : One scope x)
    (hiter : Ev c f ρ iter d) (hi : Items d ds) (sees : SeesK f ρ scope ρc) (hrun : ∀ Dd Cc a, Ok c (cfk f scope x Dd Cc a) k → CpK c (cfk f scope x Dd Cc a) a (.ListComp elt (⟨.Name x px, iter, ifs, 0⟩ :: rest) scope pos) ρc ds es) (hz : es.length ≤ 1000000) (hs : ∀ x, foldedSetIterable iter f.env x = pure x) :
    Ev c f ρ (.ListComp elt (⟨.Name x px, iter, ifs, 0⟩ :: rest) scope pos) (.list es) := fun s Q E st q => by
  rw [eval_ListComp]
  refine comp_goK o rfl O hiter hi sees hrun hz hs st fun Dd Cc h' tk x1 fD fC hDC hn r gC XC => ?_
  obtain ⟨m, hn⟩ := hn
  refine ⟨m, hn, fun h2 hs2 => q _ h2 tk (fun b ob e => (hs2.2 b (fun z => by rw [z, fC] at e; cases e)).trans (x1 b ob e)) ?_⟩
  exact (r.keep fun b ob n e => (hs2.2 b (fun z => n (.inr z))).trans e).less fun b z => .inl z
/-- name = [..]: the stores exchanged -/
theorem ex_assign_compK (o : Ok c f k) {y : Str} {py spos : Pos} {elt iter : Expr} {x : Str} {px : Pos} {ifs : List Expr} {rest : List Comprehension} {scope : Scope} {pos : Pos} {d : D} {ds es : List D} (O : One scope x)
    (hiter : Ev c f ρ iter d) (hi : Items d ds) (sees : SeesK f ρ scope ρc) (hrun : ∀ Dd Cc a, Ok c (cfk f scope x Dd Cc a) k → CpK c (cfk f scope x Dd Cc a) a (.ListComp elt (⟨.Name x px, iter, ifs, 0⟩ :: rest) scope pos) ρc ds es) (hz : es.length ≤ 1000000) (hs : ∀ x, foldedSetIterable iter f.env x = pure x)
    (u : Upd ρ y (some (.imm (.list es))) ρ') (hy : f.env.kindOf y = some .local) (hsw : swapsWith (.ListComp elt (⟨.Name x px, iter, ifs, 0⟩ :: rest) scope pos) (some (.Name y py)) spos.line f.env = pure true) :
    Ex c f ρ (.Assign [.Name y py] (.ListComp elt (⟨.Name x px, iter, ifs, 0⟩ :: rest) scope pos) spos) ρ' .next := fun s Q E st q => by
  rw [exec_Assign_Name_used _ _ _ _ hsw]
  refine wpAny_bind (wpAny_standAt (wpAny_bind ?_))
  show wpAny _ f.A (do let _ ← comprehension (.ListComp elt (⟨.Name x px, iter, ifs, 0⟩ :: rest) scope pos) scope f.env _ (newList []) false (eval iter f.env) (some (assign (.Name y py) f.env))) _ _ s
  refine wpAny_bind (wpAny_mono (comp_goK (use := some (assign (.Name y py) f.env)) (Q := fun _ s' => Q .next s') o rfl O hiter hi sees hrun hz hs st fun Dd Cc h' tk x1 fD fC hDC hn r gC XC => ?_) (fun _ s' hq => wpAny_pure (wpAny_pure hq)) fun _ _ e => e)
  obtain ⟨m, hn⟩ := hn
  have st1 := st.up x1
  show wpAny _ f.A (assign (.Name y py) f.env (.ref Dd)) _ _ _
  have r0 : Rep c.C h' f.X (.ref Dd) (.list es) := r.less fun b z => .inl z
  refine wpAny_assign_Name (store_en' o u (.inl hy) st1 (en := .imm (.list es)) r0 (fun a ds e => by cases e) fun h2 t2 bb hMb hs2 xk hbl st2 => ?_)
  have hbl := hbl hy
  subst hbl
  have hLC : f.env.locals ≠ Cc := fun z => XC (z ▸ o.mx _ o.loc)
  have hn2 : h2.Ns Cc m := hn.sameBut hs2 (Ne.symm hLC)
  refine ⟨m, hn2, fun h3 hs3 => ?_⟩
  have hI : IterObj h2 Cc := by
    obtain ⟨ob, es, ep, e, dd, _⟩ := hn2
    exact ⟨ob, e, fun _ _ z => (by rw [dd] at z; cases z), fun z => (by rw [dd] at z; cases z), fun _ z => (by rw [dd] at z; cases z), fun _ _ z => (by rw [dd] at z; cases z)⟩
  have kk : ∀ b ob, b ≠ Cc → h2.get? b = some ob → h3.get? b = some ob := fun b ob n e => (hs3.2 b n).trans e
  have kp2 := Keep.same (M := f.M) hs2 hMb xk
  refine q .next h3 t2 ⟨fun b ob n e => kk b ob (fun z => by rw [z, fC] at e; cases e) (kp2.1 b ob n (x1 b ob e)), fun b ob e => ?_⟩ trivial (st2.iter o hI XC gC kk)
  obtain ⟨o2, e2⟩ := kp2.2 b ob (x1 b ob e)
  exact ⟨o2, kk b o2 (fun z => by rw [z, fC] at e; cases e) e2⟩
end
end Mine
end
section
namespace Mine
open PySem PySem.W PySem.Calls PyProof.Rows PySem.Spec
theorem bindL_at {kindOf : Str → Option NameKind} : ∀ {binds : List (Str × Value)} {m : Str → Option Value} {x : Str} {v : Value}, (binds.map (·.1)).Nodup → (x, v) ∈ binds → kindOf x = some .local → bindL kindOf binds m x = some v
  | (n, w) :: r, m, x, v, nd, h, hk => by
    rw [List.map_cons, List.nodup_cons] at nd
    unfold bindL
    rcases List.mem_cons.mp h with e | h
    · cases e
      rw [if_pos hk]
      have : ∀ (r : List (Str × Value)) (m : Str → Option Value), n ∉ r.map (·.1) → m n = some w → bindL kindOf r m n = some w := by
        intro r
        induction r with
        | nil => intro m _ e; exact e
        | cons p r ih =>
          obtain ⟨y, u⟩ := p
          intro m hn e
          unfold bindL
          refine ih _ (fun z => hn (by rw [List.map_cons]; exact .tail _ z)) ?_
          split
          · have hne : ¬ n = y := fun z => hn (by rw [z, List.map_cons]; exact .head _)
            show (if n = y then some u else m n) = _
            rw [if_neg hne]; exact e
          · exact e
      exact this r _ nd.1 (by simp)
    · exact bindL_at nd.2 h hk
theorem bindC_at {kindOf : Str → Option NameKind} : ∀ {binds : List (Str × Value)} {m : Str → Option Value} {x : Str} {v : Value}, (binds.map (·.1)).Nodup → (x, v) ∈ binds → kindOf x ≠ some .local → bindC kindOf binds m x = some v
  | (n, w) :: r, m, x, v, nd, h, hk => by
    rw [List.map_cons, List.nodup_cons] at nd
    unfold bindC
    rcases List.mem_cons.mp h with e | h
    · cases e
      rw [if_neg hk]
      have : ∀ (r : List (Str × Value)) (m : Str → Option Value), n ∉ r.map (·.1) → m n = some w → bindC kindOf r m n = some w := by
        intro r
        induction r with
        | nil => intro m _ e; exact e
        | cons p r ih =>
          obtain ⟨y, u⟩ := p
          intro m hn e
          unfold bindC
          refine ih _ (fun z => hn (by rw [List.map_cons]; exact .tail _ z)) ?_
          split
          · exact e
          · have hne : ¬ n = y := fun z => hn (by rw [z, List.map_cons]; exact .head _)
            show (if n = y then some u else m n) = _
            rw [if_neg hne]; exact e
      exact this r _ nd.1 (by simp)
    · exact bindC_at nd.2 h hk
theorem zip_nodup : ∀ (ns : List Str) (vs : List Value), ns.Nodup → ((ns.zip vs).map (·.1)).Nodup := by
  intro ns
  induction ns with
  | nil => intro vs _; simp
  | cons n ns ih =>
    intro vs h
    cases vs with
    | nil => simp
    | cons v vs =>
      rw [List.nodup_cons] at h
      rw [List.zip_cons_cons, List.map_cons, List.nodup_cons]
      refine ⟨fun q => h.1 ?_, ih vs h.2⟩
      obtain ⟨p, hp, e⟩ := List.mem_map.mp q
      have := List.of_mem_zip (a := p.1) (b := p.2) hp
      have e' : p.1 = n := e
      rw [← e']
      exact this.1
mutual
theorem rep_new {C : Addr} {h : Heap} {X Y : Addr → Prop} (hY : ∀ b, Y b → h.get? b = .none) : ∀ {v : Value} {d : D}, Rep C h X v d → Rep C h (fun b => X b ∨ Y b) v d
  | _, _, .none => .none
  | _, _, .bool b => .bool b
  | _, _, .int i t => .int i t
  | _, _, .list hl hx hs => .list hl (fun q => q.elim hx fun e => by obtain ⟨o, ho, _⟩ := hl; rw [hY _ e] at ho; cases ho) (reps_new hs hY)
  | _, _, .tuple hl hx hs => .tuple hl (fun q => q.elim hx fun e => by obtain ⟨o, ho, _⟩ := hl; rw [hY _ e] at ho; cases ho) (reps_new hs hY)
  | _, _, .key ho hx => .key ho (fun q => q.elim hx fun e => by rw [hY _ e] at ho; cases ho)
  | _, _, .range ho hx => .range ho (fun q => q.elim hx fun e => by unfold IsRange at ho; rw [hY _ e] at ho; cases ho)
  | _, _, .val v => .val v
theorem reps_new {C : Addr} {h : Heap} {X Y : Addr → Prop} : ∀ {vs : List Value} {ds : List D}, Reps C h X vs ds → (∀ b, Y b → h.get? b = .none) → Reps C h (fun b => X b ∨ Y b) vs ds
  | _, _, .nil, _ => .nil
  | _, _, .cons hv hs, hY => .cons (rep_new hY hv) (reps_new hs hY)
end
section
variable {c : Cx} {k : Nat}
/-- the frame of a def with cells -/
noncomputable abbrev cfD (A : Around) (fd : FuncData) (L a : Addr) (X : Addr → Prop) : Fx :=
  ⟨A, callEnvC fd L a, fun b => X b ∨ (b = L ∨ ∃ n, (callEnvC fd L a).cells.lookup n = some b), fun b => b = L ∨ ∃ n, (callEnvC fd L a).cells.lookup n = some b⟩
/-- a def with cells of its own -/
theorem fn_cdef (B : Base c) {a : Addr} {o : Obj} {fd : FuncData} {body : List Stmt} {ds : List D} {d : D} (names locals : List Str) (ρ0 : Rho) (hρ : parR names ds ++ noneR locals = ρ0)
    (ho : c.g.get? a = some o) (hdata : o.data = .func fd) (hcd : c.g.CodeRec fd.code fd.qualname) (hbody : fd.body = .stmts body) (hglob : fd.globals = mainGlobals) (hblt : fd.builtins = builtinsNs) (hclo : fd.closure = [])
    (hbind : ∀ vs : List Value, vs.length = ds.length → bindArgs fd ⟨vs, []⟩ = pure (names.zip vs)) (hnl : names.length = ds.length)
    (hkind : ∀ L : Addr, ∀ x ∈ names, fd.scope.names.lookup x = some .local ∨ (fd.scope.names.lookup x = some .cell ∧ ((cellsFrom (L + 1) fd.scope.names []).lookup x).isSome = true)) (nd : (names ++ locals).Nodup)
    (hb : ∀ (A : Around) (L : Addr) (X : Addr → Prop), Ok c (cfD A fd L a X) k → Bd c (cfD A fd L a X) ρ0 body d)
    (hco : fd.scope.isCoroutine = false) (hgen : fd.scope.isGenerator = false) (hk : fd.scope.kind = .function) : Fn c (k + 1) (.ref a) ds d := fun A X s vs Q E room ext hX xok r q => by
  subst hρ
  have hlen : vs.length = ds.length := r.length
  refine wpAny_call (codeAny_call_cells room.depth (ext _ _ ho) hdata (B.nolimit.keeps ext) (hcd.keeps ext) hbody (hbind vs hlen) hclo (fun x hx => hkind _ _ (List.of_mem_zip (a := x.1) (b := x.2) hx).1) (fun s₁ IC => ?_) hco hgen hk)
  obtain ⟨h₀, tk₀, es, hk₀⟩ := IC.done
  subst es
  have hL := fresh_size s.heap
  have old : ∀ b o, s.heap.get? b = some o → b < s.heap.objs.size := fun b o e => Heap.lt_size e
  have hnew : ∀ b, (b = s.heap.objs.size ∨ ∃ n, (callEnvC fd s.heap.objs.size a).cells.lookup n = some b) → s.heap.get? b = none := fun b z => by
    rcases z with z | ⟨n, z⟩
    · rw [z]; exact hL
    · have := IC.above n b (lookup_mem z)
      have this : s.heap.objs.size < b := this
      exact Heap.get?_none_of_le (Nat.le_of_lt this)
  have gnew : ∀ b, (b = s.heap.objs.size ∨ ∃ n, (callEnvC fd s.heap.objs.size a).cells.lookup n = some b) → c.g.get? b = none := fun b z => by
    cases e : c.g.get? b with
    | none => rfl
    | some o' => have := ext _ _ e; rw [hnew b z] at this; cases this
  have ok : Ok c (cfD (A.deeper (callEnvC fd s.heap.objs.size a)) fd s.heap.objs.size a X) k :=
    { kind := hk, glob := hglob, blt := hblt, mx := fun b e => .inr e, loc := .inl rfl,
      apart := fun x y b e1 e2 => name_of_addr IC.apart (lookup_mem e1) (lookup_mem e2),
      dis := fun b e => e.elim (hX b) fun e => gnew b e, room := room.deeper }
  have rr : Reps c.C h₀ (fun b => X b ∨ (b = s.heap.objs.size ∨ ∃ n, (callEnvC fd s.heap.objs.size a).cells.lookup n = some b)) vs ds := (reps_new r hnew).ext hk₀
  refine wpAny_mono (hb _ _ X ok _ (fun fl s' => ∃ v h' tk, fl = .ret v ∧ s' = { s with heap := h', toks := tk } ∧ Ext s.heap h' ∧ Rep c.C h' X v d) _ ?_ fun v h' tk kp rv => ?_) (fun fl s' hf => ?_) fun _ _ x => x
  · refine ⟨?_, ext.trans hk₀, fun b e => ?_, fun x b e => ?_, fun x y b es fs h1 h2 => ?_, ⟨_, IC.toInCall.ns, fun x en hx hl => ?_⟩, fun x en hx hl => ?_⟩
    · rw [List.map_append, parR_names hnl]
      have e1 : (noneR locals).map (·.1) = locals := by simp only [noneR, List.map_map]; exact List.map_id' locals
      rw [e1]; exact nd
    · rcases e with e | e | ⟨n, e⟩
      · obtain ⟨o, z⟩ := xok b e; exact ⟨o, hk₀ _ _ z⟩
      · obtain ⟨o, _, _, z, _⟩ := IC.toInCall.ns; exact ⟨o, e ▸ z⟩
      · obtain ⟨o, z, _⟩ := IC.cell n b e; exact ⟨o, z⟩
    · exact ⟨_, IC.cell x b e⟩
    · exfalso
      rcases List.mem_append.mp h1 with h1 | h1
      · obtain ⟨d', v', e', _⟩ := parR_mem r h1; cases e'
      · simp [noneR] at h1
    · rcases List.mem_append.mp hx with h1 | h1
      · obtain ⟨d', v', e', hz, hr⟩ := parR_mem rr h1
        subst e'
        exact ⟨v', bindL_at (zip_nodup _ _ (List.nodup_append.mp nd).1) hz hl, hr⟩
      · simp [noneR] at h1
    · rcases List.mem_append.mp hx with h1 | h1
      · obtain ⟨d', v', e', hz, hr⟩ := parR_mem rr h1
        subst e'
        rcases hkind s.heap.objs.size x (List.of_mem_zip hz).1 with hk' | ⟨hk', hc'⟩
        · exact absurd hk' hl
        · obtain ⟨b, hb'⟩ := Option.isSome_iff_exists.mp hc'
          have cell := IC.cell x b hb'
          rw [bindC_at (zip_nodup _ _ (List.nodup_append.mp nd).1) hz hl] at cell
          exact ⟨b, v', .inl hk', hb', cell, hr⟩
      · simp [noneR] at h1
  · refine ⟨v, h', tk, rfl, rfl, fun b ob e => kp.1 b ob (fun z => ?_) (hk₀ b ob e), rv.less fun b hb => ⟨.inl hb, fun z => ?_⟩⟩
    · rw [hnew b z] at e; cases e
    · obtain ⟨o, w⟩ := xok b hb
      rw [hnew b z] at w; cases w
  · obtain ⟨v, h', tk, rfl, rfl, e, rv⟩ := hf
    exact q v h' tk e rv
end
end Mine
end
section
namespace Mine
open PySem PySem.W PySem.Calls PyProof.Rows PySem.Spec
/-- slots may change -/
structure Slo (X M : Addr → Prop) (h h' : Heap) : Prop where
  keep : ∀ b o, ¬ X b → h.get? b = some o → h'.get? b = some o
  slot : ∀ b o, X b → ¬ M b → h.get? b = some o → ∃ sl, h'.get? b = some { o with slots := sl }
  there : ∀ b o, h.get? b = some o → ∃ o', h'.get? b = some o'
theorem Slo.refl {X M : Addr → Prop} (h : Heap) : Slo X M h h := ⟨fun _ _ _ e => e, fun _ o _ _ e => ⟨o.slots, e⟩, fun _ o e => ⟨o, e⟩⟩
theorem Slo.trans {X M : Addr → Prop} {h h' h'' : Heap} (a : Slo X M h h') (b : Slo X M h' h'') : Slo X M h h'' :=
  ⟨fun x o n e => b.keep x o n (a.keep x o n e), fun x o n m e => let ⟨_, e1⟩ := a.slot x o n m e; let ⟨sl, e2⟩ := b.slot x _ n m e1; ⟨sl, e2⟩, fun x o e => let ⟨_, e1⟩ := a.there x o e; b.there x _ e1⟩
theorem Slo.of_keep {X M : Addr → Prop} {h h' : Heap} (k : Keep M h h') (mx : ∀ a, M a → X a) : Slo X M h h' := ⟨fun x o n e => k.1 x o (fun z => n (mx x z)) e, fun x o _ m e => ⟨o.slots, k.1 x o m e⟩, fun x o e => k.2 x o e⟩
theorem Slo.of_ext {X M : Addr → Prop} {h h' : Heap} (k : Ext h h') : Slo X M h h' := ⟨fun x o _ e => k x o e, fun x o _ _ e => ⟨o.slots, k x o e⟩, fun x o e => ⟨o, k x o e⟩⟩
/-- the frames around -/
structure Fz (c : Cx) (f : Fx) (l : List Env) (h : Heap) : Prop where
  fr : f.A.frames = some l
  ff : h.FunFrames c.g l
  fx : ∀ b, FSet l b → f.X b
  fm : ∀ b, FSet l b → f.M b → b = f.env.locals
  hd : ∀ e, f.A.handled = some (.ref e) → ¬ f.M e
theorem funFrames_of {base h h' : Heap} : ∀ {l : List Env}, h.FunFrames base l → (∀ b o, FSet l b → h.get? b = some o → (∀ vs, o.data ≠ .fields vs) → ∃ o', h'.get? b = some o' ∧ ∀ vs, o'.data ≠ .fields vs) → h'.FunFrames base l
  | [], _, _ => trivial
  | env :: rest, ⟨hk, ⟨L, o, hf, hn, ho, hd⟩, hr⟩, k => by
    have hm : FSet (env :: rest) L := by
      show L ∈ (env :: rest).filterMap (·.frame)
      rw [List.filterMap_cons, hf]; exact .head _
    obtain ⟨o', h1, h2⟩ := k L o hm ho hd
    refine ⟨hk, ⟨L, o', hf, hn, h1, h2⟩, funFrames_of hr fun b o hb => k b o ?_⟩
    show b ∈ (env :: rest).filterMap (·.frame)
    rw [List.filterMap_cons, hf]; exact .tail _ hb
theorem Fz.slo {c : Cx} {f : Fx} {l : List Env} {h h' : Heap} {m : Str → Option Value} (z : Fz c f l h) (k : Slo f.X f.M h h') (hn : h'.Ns f.env.locals m) : Fz c f l h' := by
  refine ⟨z.fr, funFrames_of z.ff fun b o hb ho hd => ?_, z.fx, z.fm, z.hd⟩
  by_cases hM : f.M b
  · have := z.fm b hb hM
    subst this
    obtain ⟨o', es, ep, e, d, _⟩ := hn
    exact ⟨o', e, fun vs q => by rw [d] at q; cases q⟩
  · obtain ⟨sl, e⟩ := k.slot b o (z.fx b hb) hM ho
    exact ⟨_, e, hd⟩
theorem Fz.st {c : Cx} {f : Fx} {l : List Env} {h h' : Heap} {ρ : Rho} (z : Fz c f l h) (k : Slo f.X f.M h h') (st : St c f ρ h') : Fz c f l h' := let ⟨m, hn, _⟩ := st.ns; z.slo k hn
section
variable {c : Cx} {f : Fx} {ρ ρ' ρ1 ρ2 : Rho} {k : Nat} {l : List Env} {c2 : Value}
/-- data under changed slots -/
theorem EnRep.slo {C : Addr} {h h' : Heap} {X M : Addr → Prop} {v : Value} {en : En} (k : Slo X (fun _ => False) h h') (mx : ∀ a, M a → X a) (r : EnRep C h X M v en) : EnRep C h' X M v en := by
  cases en with
  | imm d => exact Rep.keep k.keep r
  | own a ds =>
    obtain ⟨vs, e, hm, ⟨o, n, h1, h2, h3, h4⟩, hr⟩ := r
    obtain ⟨sl, e'⟩ := k.slot a o (mx a hm) (fun q => q) h1
    exact ⟨vs, e, hm, ⟨_, n, e', h2, h3, h4⟩, hr.keep k.keep⟩
theorem ns_slo {X : Addr → Prop} {h h' : Heap} {a : Addr} {m : Str → Option Value} (k : Slo X (fun _ => False) h h') (n : h.Ns a m) : h'.Ns a m := by
  obtain ⟨o, es, ep, e, d, r⟩ := n
  by_cases hx : X a
  · obtain ⟨sl, e'⟩ := k.slot a o hx (fun q => q) e
    exact ⟨_, es, ep, e', d, r⟩
  · exact ⟨o, es, ep, k.keep a o hx e, d, r⟩
theorem cell_slo {X : Addr → Prop} {h h' : Heap} {a : Addr} {v : Option Value} (k : Slo X (fun _ => False) h h') (n : h.IsCell a v) : h'.IsCell a v := by
  obtain ⟨o, e, d⟩ := n
  by_cases hx : X a
  · obtain ⟨sl, e'⟩ := k.slot a o hx (fun q => q) e
    exact ⟨_, e', d⟩
  · exact ⟨o, k.keep a o hx e, d⟩
theorem St.slo (o : OkE c f) {h h' : Heap} (s : St c f ρ h) (k : Slo f.X (fun _ => False) h h') : St c f ρ h' where
  nd := s.nd
  ext := fun b ob e => k.keep b ob (fun z => by rw [o.dis b z] at e; cases e) (s.ext b ob e)
  xok := fun a ha => let ⟨ob, e⟩ := s.xok a ha; k.there _ _ e
  cl := fun x a e => let ⟨v, q⟩ := s.cl x a e; ⟨v, cell_slo k q⟩
  oa := s.oa
  ns := let ⟨m, hn, r⟩ := s.ns; ⟨m, ns_slo k hn, fun x en hx hl => let ⟨v, h1, h2⟩ := r x en hx hl; ⟨v, h1, h2.slo k o.mx⟩⟩
  cs := fun x en hx hl => let ⟨a, v, h1, h2, h3, h4⟩ := s.cs x en hx hl; ⟨a, v, h1, h2, cell_slo k h3, h4.slo k o.mx⟩
/-- two addresses more to be kept away from -/
noncomputable def Fx.ad (f : Fx) (e T : Addr) : Fx := { f with X := fun b => f.X b ∨ (b = e ∨ b = T) }
theorem OkE.ad {e T : Addr} (o : OkE c f) (he : c.g.get? e = none) (hT : c.g.get? T = none) : OkE c (f.ad e T) :=
  { kind := o.kind, glob := o.glob, blt := o.blt, mx := fun a z => .inl (o.mx a z), loc := o.loc, apart := o.apart, dis := fun a z => z.elim (o.dis a) fun z => z.elim (fun z => z ▸ he) fun z => z ▸ hT }
theorem enRep_ad {C : Addr} {h : Heap} {X M : Addr → Prop} {e T : Addr} {v : Value} {en : En} (he : h.get? e = none) (hT : h.get? T = none) (r : EnRep C h X M v en) : EnRep C h (fun b => X b ∨ (b = e ∨ b = T)) M v en := by
  cases en with
  | imm d => exact rep_new (fun b z => z.elim (fun z => z ▸ he) fun z => z ▸ hT) r
  | own a ds =>
    obtain ⟨vs, e, hm, hl, hs⟩ := r
    exact ⟨vs, e, hm, hl, reps_new hs fun b z => z.elim (fun z => z ▸ he) fun z => z ▸ hT⟩
theorem St.ad {e T : Addr} {h h' : Heap} (s : St c f ρ h) (he : h.get? e = none) (hT : h.get? T = none) (k : Ext h h') (xe : ∃ o, h'.get? e = some o) (xT : ∃ o, h'.get? T = some o) : St c (f.ad e T) ρ h' where
  nd := s.nd
  ext := s.ext.trans k
  xok := fun a z => z.elim (fun z => let ⟨o, q⟩ := s.xok a z; ⟨o, k _ _ q⟩) fun z => z.elim (fun z => z ▸ xe) fun z => z ▸ xT
  cl := fun x a e => let ⟨v, q⟩ := s.cl x a e; ⟨v, q.keeps k⟩
  oa := s.oa
  ns := let ⟨m, hn, r⟩ := s.ns; ⟨m, hn.keeps k, fun x en hx hl => let ⟨v, h1, h2⟩ := r x en hx hl; ⟨v, h1, (enRep_ad he hT h2).ext k⟩⟩
  cs := fun x en hx hl => let ⟨a, v, h1, h2, h3, h4⟩ := s.cs x en hx hl; ⟨a, v, h1, h2, h3.keeps k, (enRep_ad he hT h4).ext k⟩
theorem EnRep.lessX {C : Addr} {h : Heap} {X Y M : Addr → Prop} {v : Value} {en : En} (k : ∀ b, Y b → X b) (r : EnRep C h X M v en) : EnRep C h Y M v en := by
  cases en with
  | imm d => exact Rep.less k r
  | own a ds => obtain ⟨vs, e, hm, hl, hs⟩ := r; exact ⟨vs, e, hm, hl, hs.less k⟩
theorem St.lessX {f' : Fx} {h : Heap} (s : St c f' ρ h) (hA : f'.env = f.env) (hM : f'.M = f.M) (k : ∀ b, f.X b → f'.X b) : St c f ρ h := by
  obtain ⟨A', env', X', M'⟩ := f'
  obtain ⟨A, env, X, M⟩ := f
  dsimp only at hA hM k
  subst hA hM
  exact ⟨s.nd, s.ext, fun a z => s.xok a (k a z), s.cl, s.oa, let ⟨m, hn, r⟩ := s.ns; ⟨m, hn, fun x en hx hl => let ⟨v, h1, h2⟩ := r x en hx hl; ⟨v, h1, h2.lessX k⟩⟩, fun x en hx hl => let ⟨a, v, h1, h2, h3, h4⟩ := s.cs x en hx hl; ⟨a, v, h1, h2, h3, h4.lessX k⟩⟩
/-- an address of X, that holds a record, changes -/
theorem st_rec {h h' : Heap} {T : Addr} (o : OkE c f) (s : St c f ρ h) (hs : Heap.SameBut T h h') (hX : f.X T) (hd : ∃ ob vs, h.get? T = some ob ∧ ob.data = .fields vs) (xT : ∃ ob, h'.get? T = some ob) : St c f ρ h' := by
  obtain ⟨oT, ts, hT, hdT⟩ := hd
  have keep : ∀ x ob, ¬ f.X x → h.get? x = some ob → h'.get? x = some ob := fun x ob n e => (hs.2 x (fun q => n (q ▸ hX))).trans e
  have cellK : ∀ {a : Addr} {v : Option Value}, h.IsCell a v → h'.IsCell a v := fun {a v} n => n.sameBut hs fun q => by
    obtain ⟨ob, e, d⟩ := n
    rw [q, hT] at e; cases e; rw [hdT] at d; cases d
  have enK : ∀ {v : Value} {en : En}, EnRep c.C h f.X f.M v en → EnRep c.C h' f.X f.M v en := fun {v en} r => r.same hs hX fun a ds e q => by
    subst e
    obtain ⟨vs, _, _, ⟨ob, n, e1, _, _, d⟩, _⟩ := r
    rw [q, hT] at e1; cases e1; rw [hdT] at d; cases d
  refine ⟨s.nd, s.ext.sameBut hs (o.dis _ hX), fun a z => ?_, fun x a e => let ⟨v, q⟩ := s.cl x a e; ⟨v, cellK q⟩, s.oa, ?_, fun x en hx hl => let ⟨a, v, h1, h2, h3, h4⟩ := s.cs x en hx hl; ⟨a, v, h1, h2, cellK h3, enK h4⟩⟩
  · by_cases e : a = T
    · subst e; exact xT
    · obtain ⟨ob, q⟩ := s.xok a z; exact ⟨ob, (hs.2 a e).trans q⟩
  · obtain ⟨m, hn, r⟩ := s.ns
    refine ⟨m, hn.sameBut hs fun q => ?_, fun x en hx hl => let ⟨v, h1, h2⟩ := r x en hx hl; ⟨v, h1, enK h2⟩⟩
    obtain ⟨ob, es, ep, e, d, _⟩ := hn
    rw [q, hT] at e; cases e; rw [hdT] at d; cases d
end
end Mine
end
section
namespace Mine
open PySem PySem.W PySem.W.X PySem.Calls PyProof.Rows PySem.Spec

section
variable {α : Type} {prog : Program} {w : World} {A : Around} {c : Code} {Q : α → Shared → Prop} {E : Value → Shared → Prop} {h₀ : Heap} {chg news : List (Addr × Obj)} {g : Array GenState} {d : Drawn} {t : Nat} {os : OsState}
end
end Mine
namespace Mine
end Mine
namespace Mine
open PySem PySem.W PySem.W.X PySem.Calls PyProof.Rows PySem.Spec
/-- how much deeper -/
structure Deep (A : Around) (n : Nat) (B : Around) : Prop where
  depth : B.depth ≤ A.depth + 5 * n
  units : B.units ≤ A.units + 10 * n
theorem frames_le (c : Code) : c.frames ≤ 3 := by
  unfold Code.frames
  split <;> first | omega | (split <;> omega)
theorem cUnits_le (c : Code) : c.cUnits ≤ 10 := by
  have := frames_le c
  unfold Code.cUnits
  split <;> omega
theorem Deep.refl (A : Around) : Deep A 0 A := ⟨by omega, by omega⟩
theorem Deep.mark {A B : Around} {n : Nat} (d : Deep A n B) (h : Option Value) : Deep A n (B.mark h) := ⟨d.depth, d.units⟩
theorem weight_le (c : Code) (h : c.isCaller = false) : c.weight ≤ 5 := by
  have := frames_le c
  unfold Code.weight
  rw [h]
  split <;> split <;> simp <;> omega
theorem Deep.under {A B : Around} {n : Nat} (d : Deep A n B) (c : Code) (hc : c.isCaller = false) : Deep A (n + 1) (B.under c) := ⟨by
    have h1 := d.depth
    have h2 := weight_le c hc
    show B.depth + c.weight ≤ _
    omega, by
    have h1 := d.units
    have h2 := cUnits_le c
    show B.units + c.cUnits ≤ _
    omega⟩
section
variable {α : Type} {prog : Program} {w : World} {A : Around} {c : Code} {Q : α → Shared → Prop} {E : Value → Shared → Prop} {h₀ : Heap} {chg news : List (Addr × Obj)} {g : Array GenState} {d : Drawn} {t : Nat} {os : OsState}
end
section
variable {α β : Type} {prog : Program} {w : World} {A : Around} {c : Code} {Q : β → Shared → Prop} {E E' : Value → Shared → Prop} {h₀ : Heap} {chg news : List (Addr × Obj)} {g : Array GenState} {d : Drawn} {t : Nat} {os : OsState}
end
section
variable {α β : Type} {prog : Program} {w : World} {A : Around} {c : Code} {E : Value → Shared → Prop} {h₀ : Heap} {chg news : List (Addr × Obj)} {g : Array GenState} {d : Drawn} {t : Nat} {os : OsState}
end
section
variable {α : Type} {prog : Program} {w : World} {A : Around} {c : Code} {Q : α → Shared → Prop} {E : Value → Shared → Prop} {h₀ : Heap} {chg news : List (Addr × Obj)} {g : Array GenState} {d : Drawn} {t : Nat} {os : OsState}
end
section
variable {α : Type} {prog : Program} {w : World} {A : Around} {c : Code} {Q : α → Shared → Prop} {E : Value → Shared → Prop} {h₀ : Heap} {chg news : List (Addr × Obj)} {g : Array GenState} {d : Drawn} {t : Nat} {os : OsState}
end
section
variable {α : Type} {prog : Program} {w : World} {A : Around} {c : Code} {Q : α → Shared → Prop} {E : Value → Shared → Prop} {h₀ : Heap} {chg news : List (Addr × Obj)} {g : Array GenState} {d : Drawn} {t : Nat} {os : OsState}
end
section
variable {α : Type} {prog : Program} {w : World} {A : Around} {c : Code} {Q : α → Shared → Prop} {E : Value → Shared → Prop} {h₀ : Heap} {chg news : List (Addr × Obj)} {g : Array GenState} {d : Drawn} {t : Nat} {os : OsState}
end
section
variable {α : Type} {prog : Program} {w : World} {A : Around} {c : Code} {Q : α → Shared → Prop} {E : Value → Shared → Prop} {h₀ : Heap} {chg news : List (Addr × Obj)} {g : Array GenState} {d : Drawn} {t : Nat} {os : OsState}
end
section
variable {α : Type} {prog : Program} {w : World} {A : Around} {c : Code} {Q : α → Shared → Prop} {E : Value → Shared → Prop} {h₀ : Heap} {chg news : List (Addr × Obj)} {g : Array GenState} {d : Drawn} {t : Nat} {os : OsState}
end
end Mine
end
section
set_option pp.deepTerms false
set_option pp.maxSteps 700
namespace Mine
open PySem PySem.W PySem.W.X PySem.Calls PyProof.Rows PySem.Spec
section
variable {α : Type} {prog : Program} {w : World} {A : Around} {c : Code} {Q : α → Shared → Prop} {E : Value → Shared → Prop} {h₀ : Heap} {chg news : List (Addr × Obj)} {g : Array GenState} {d : Drawn} {t : Nat} {os : OsState}
end
section
variable {α : Type} {prog : Program} {w : World} {A : Around} {c : Code} {Q : α → Shared → Prop} {E : Value → Shared → Prop} {h₀ : Heap} {chg news : List (Addr × Obj)} {g : Array GenState} {d : Drawn} {t : Nat} {os : OsState}
end
section
variable {α β : Type} {prog : Program} {w : World} {A : Around} {c : Code} {Q : β → Shared → Prop} {E E' : Value → Shared → Prop} {h₀ : Heap} {chg news : List (Addr × Obj)} {g : Array GenState} {d : Drawn} {t : Nat} {os : OsState}
end
section
variable {β : Type} {prog : Program} {w : World} {A : Around} {c : Code} {Q : β → Shared → Prop} {E : Value → Shared → Prop} {h₀ : Heap} {chg news : List (Addr × Obj)} {g : Array GenState} {d : Drawn} {t : Nat} {os : OsState}
end
section
variable {α : Type} {prog : Program} {w : World} {A : Around} {c : Code} {Q : α → Shared → Prop} {E : Value → Shared → Prop} {h₀ : Heap} {chg news : List (Addr × Obj)} {g : Array GenState} {d : Drawn} {t : Nat} {os : OsState}
end
section
variable {α : Type} {prog : Program} {w : World} {A : Around} {c : Code} {Q : α → Shared → Prop} {E : Value → Shared → Prop} {h₀ : Heap} {chg news : List (Addr × Obj)} {g : Array GenState} {d : Drawn} {t : Nat} {os : OsState}
end
end Mine
end
section
namespace Mine
open PySem PySem.W PySem.W.X PySem.Calls PyProof.Rows PySem.Spec
section
variable {α : Type} {prog : Program} {w : World} {A : Around} {c : Code} {Q : α → Shared → Prop} {E : Value → Shared → Prop} {h₀ : Heap} {news : List (Addr × Obj)} {g : Array GenState} {d : Drawn} {t : Nat} {os : OsState}
end
section
variable {α : Type} {prog : Program} {w : World} {A : Around} {c : Code} {Q : α → Shared → Prop} {E : Value → Shared → Prop} {h₀ : Heap} {chg news : List (Addr × Obj)} {g : Array GenState} {d : Drawn} {t : Nat} {os : OsState}
end
section
variable {α : Type} {prog : Program} {w : World} {A : Around} {c : Code} {Q : α → Shared → Prop} {E : Value → Shared → Prop} {h₀ : Heap} {chg news : List (Addr × Obj)} {g : Array GenState} {d : Drawn} {t : Nat} {os : OsState}
end
end Mine
end
section
namespace Mine
open PySem PySem.W PySem.W.X PySem.Calls PyProof.Rows PySem.Spec
/-- the class that cmp_to_key makes -/
noncomputable abbrev clsN (C ns : Addr) (qn : Str) (b0 nm qv : Value) : Obj := { cls := .type "type", data := .cls { name := ⟨⟨[75]⟩⟩, bases := [.type "object"], mro := [.ref C, .type "object"], ns := ns, qualname := qn, hasDict := false, slotNames := [⟨⟨[111, 98, 106]⟩⟩], hasDel := false }, slots := Array.mk [some b0, none, some nm, some qv, some (.builtin "object.__new__"), some (.bool false)] }
/-- its names -/
noncomputable abbrev nsN (fi fl fg fe md : Addr) (h0 : Int) (t0 : Tok) (v0 : Value) (h1 : Int) (t1 : Tok) (v1 : Value) (h2 : Int) (t2 : Tok) (v2 : Value) (h3 : Int) (t3 : Tok) (h4 : Int) (t4 : Tok) (h5 : Int) (t5 : Tok) (h6 : Int) (t6 : Tok) (h7 : Int) (t7 : Tok) (v7 : Value) (h8 : Int) (t8 : Tok) (v8 : Value) (h9 : Int) (t9 : Tok) (h10 : Int) (t10 : Tok) (v10 : Value) (h11 : Int) (t11 : Tok) (h12 : Int) (t12 : Tok) (m : Nat) : Obj := { cls := .type "dict", data := .dict (Array.mk [⟨h0, .str ⟨⟨[95, 95, 109, 111, 100, 117, 108, 101, 95, 95]⟩⟩ t0, v0⟩, ⟨h1, .str ⟨⟨[95, 95, 102, 105, 114, 115, 116, 108, 105, 110, 101, 110, 111, 95, 95]⟩⟩ t1, v1⟩, ⟨h2, .str ⟨⟨[95, 95, 115, 108, 111, 116, 115, 95, 95]⟩⟩ t2, v2⟩, ⟨h3, .str ⟨⟨[95, 95, 105, 110, 105, 116, 95, 95]⟩⟩ t3, .ref fi⟩, ⟨h4, .str ⟨⟨[95, 95, 108, 116, 95, 95]⟩⟩ t4, .ref fl⟩, ⟨h5, .str ⟨⟨[95, 95, 103, 116, 95, 95]⟩⟩ t5, .ref fg⟩, ⟨h6, .str ⟨⟨[95, 95, 101, 113, 95, 95]⟩⟩ t6, .ref fe⟩, ⟨h7, .str ⟨⟨[95, 95, 108, 101, 95, 95]⟩⟩ t7, v7⟩, ⟨h8, .str ⟨⟨[95, 95, 103, 101, 95, 95]⟩⟩ t8, v8⟩, ⟨h9, .str ⟨⟨[95, 95, 104, 97, 115, 104, 95, 95]⟩⟩ t9, .none⟩, ⟨h10, .str ⟨⟨[95, 95, 115, 116, 97, 116, 105, 99, 95, 97, 116, 116, 114, 105, 98, 117, 116, 101, 115, 95, 95]⟩⟩ t10, v10⟩, ⟨h11, .str ⟨⟨[111, 98, 106]⟩⟩ t11, .ref md⟩, ⟨h12, .str ⟨⟨[95, 95, 100, 111, 99, 95, 95]⟩⟩ t12, .none⟩]) m }
/-- its slot -/
noncomputable abbrev mdN (C : Addr) (t : Tok) : Obj := { cls := .type "member_descriptor", data := .fields #[.str ⟨⟨[111, 98, 106]⟩⟩ t, .ref C, .builtin "proto.slot", .builtin "proto.slot#set", rawInt 0] }
noncomputable abbrev cmpParams (l : Nat) : Arguments := { posonlyargs := [], args := [⟨Str.ofString "self", none, ⟨l, 19, l, 23⟩⟩, ⟨Str.ofString "other", none, ⟨l, 25, l, 30⟩⟩], vararg := none, kwonlyargs := [], kw_defaults := [], kwarg := none, defaults := [] }
noncomputable abbrev cmpBody (l e : Nat) (op : CmpOp) : List Stmt := [Stmt.Return (some (Expr.Compare (Expr.Call (Expr.Name ⟨⟨[109, 121, 99, 109, 112]⟩⟩ ⟨l, 19, l, 24⟩) [Expr.Attribute (Expr.Name (Str.ofString "self") ⟨l, 25, l, 29⟩) ⟨⟨[111, 98, 106]⟩⟩ ⟨l, 25, l, 33⟩, Expr.Attribute (Expr.Name (Str.ofString "other") ⟨l, 35, l, 40⟩) ⟨⟨[111, 98, 106]⟩⟩ ⟨l, 35, l, 44⟩] [] ⟨l, 19, l, 45⟩) [op] [Expr.Constant (Const.int 0) 0 ⟨l, e, l, e + 1⟩] ⟨l, 19, l, e + 1⟩)) ⟨l, 12, l, e + 1⟩]
noncomputable abbrev cmpScope : Scope := { kind := ScopeKind.function, names := [(Str.ofString "self", NameKind.local), (Str.ofString "other", NameKind.local), (⟨⟨[109, 121, 99, 109, 112]⟩⟩, NameKind.free)], isGenerator := false, isCoroutine := false }
/-- a comparison -/
noncomputable abbrev cmpFn (name qn : Str) (l e : Nat) (op : CmpOp) (cell : Addr) (pm cd ct : Value) : FuncData := { name := name, qualname := qn, params := cmpParams l, body := FuncBody.stmts (cmpBody (l + 1) e op), scope := cmpScope, globals := 3, closure := [(⟨⟨[109, 121, 99, 109, 112]⟩⟩, cell)], defaults := .none, kwdefaults := .none, pyModule := pm, code := cd, closureTuple := ct }
noncomputable abbrev initFn (qn : Str) (pm cd : Value) : FuncData := { name := ⟨⟨[95, 95, 105, 110, 105, 116, 95, 95]⟩⟩, qualname := qn, params := { posonlyargs := [], args := [⟨Str.ofString "self", none, ⟨26, 21, 26, 25⟩⟩, ⟨⟨⟨[111, 98, 106]⟩⟩, none, ⟨26, 27, 26, 30⟩⟩], vararg := none, kwonlyargs := [], kw_defaults := [], kwarg := none, defaults := [] }, body := FuncBody.stmts [Stmt.Assign [Expr.Attribute (Expr.Name (Str.ofString "self") ⟨27, 12, 27, 16⟩) ⟨⟨[111, 98, 106]⟩⟩ ⟨27, 12, 27, 20⟩] (Expr.Name ⟨⟨[111, 98, 106]⟩⟩ ⟨27, 23, 27, 26⟩) ⟨27, 12, 27, 26⟩], scope := { kind := ScopeKind.function, names := [(Str.ofString "self", NameKind.local), (⟨⟨[111, 98, 106]⟩⟩, NameKind.local)], isGenerator := false, isCoroutine := false }, globals := 3, closure := [], defaults := .none, kwdefaults := .none, pyModule := pm, code := cd }
noncomputable abbrev fnO (fd : FuncData) : Obj := { cls := .type "function", data := .func fd }
noncomputable abbrev cdO (n : Value) (qn : Str) (t : Tok) (vs : List Value) : Obj := { cls := .type "code", data := .fields (Array.mk (n :: .str qn t :: vs)) }
/-- where the class's parts lie -/
structure KeyAt (lam C : Addr) (h : Heap) (ns md cell fi fl fg fe : Addr) : Prop where
  hC : ∃ qn b0 nm qv, h.get? C = some (clsN C ns qn b0 nm qv)
  hN : ∃ h0 t0 v0 h1 t1 v1 h2 t2 v2 h3 t3 h4 t4 h5 t5 h6 t6 h7 t7 v7 h8 t8 v8 h9 t9 h10 t10 v10 h11 t11 h12 t12 m, h.get? ns = some (nsN fi fl fg fe md h0 t0 v0 h1 t1 v1 h2 t2 v2 h3 t3 h4 t4 h5 t5 h6 t6 h7 t7 v7 h8 t8 v8 h9 t9 h10 t10 v10 h11 t11 h12 t12 m)
  hM : ∃ t, h.get? md = some (mdN C t)
  hcell : h.get? cell = some ⟨.type "cell", none, .cell (some (.ref lam)), #[]⟩
  hI : ∃ qn pm c n t vs, h.get? fi = some (fnO (initFn qn pm (.ref c))) ∧ h.get? c = some (cdO n qn t vs)
  hL : ∃ qn pm c ct n t vs, h.get? fl = some (fnO (cmpFn ⟨⟨[95, 95, 108, 116, 95, 95]⟩⟩ qn 29 48 .Lt cell pm (.ref c) ct)) ∧ h.get? c = some (cdO n qn t vs)
  hG : ∃ qn pm c ct n t vs, h.get? fg = some (fnO (cmpFn ⟨⟨[95, 95, 103, 116, 95, 95]⟩⟩ qn 32 48 .Gt cell pm (.ref c) ct)) ∧ h.get? c = some (cdO n qn t vs)
  hE : ∃ qn pm c ct n t vs, h.get? fe = some (fnO (cmpFn ⟨⟨[95, 95, 101, 113, 95, 95]⟩⟩ qn 35 49 .Eq cell pm (.ref c) ct)) ∧ h.get? c = some (cdO n qn t vs)
/-- what the call of cmp_to_key leaves -/
structure KeyRes (lam C : Addr) (h₀ h : Heap) : Prop where
  keep : ∀ b o, b ≠ 43 → h₀.get? b = some o → h.get? b = some o
  all : ∀ l : List Addr, (∀ a ∈ l, ∃ o, h₀.get? a = some o) → ∃ ns md cell fi fl fg fe, KeyAt lam C (hideAll h l) ns md cell fi fl fg fe
  tab : ∃ c ps more, h₀.TableAt c 43 ps ∧ h.get? 43 = some (tableObj (ps ++ more))
end Mine
end
section
namespace Mine
open PySem PySem.W PySem.Calls PyProof.Rows PySem.Spec
/-- the class and one of its functions -/
noncomputable abbrev kFr (C ns md f : Addr) (oC oN oM oF : Obj) : Frag := [(C, oC), (ns, oN), (md, oM), (f, oF)]
theorem frag_in {h : Heap} {K : Frag} (H : ∀ p ∈ K, h.get? p.1 = some p.2) : K.In h := by
  intro a o e
  exact H (a, o) (lookup_mem e)
section
variable {C ns md f : Addr} {oC oN oM oF : Obj}
theorem kfr_C : (kFr C ns md f oC oN oM oF).lookup C = some oC := by simp [kFr, List.lookup_cons]
theorem kfr_N (h1 : ns ≠ C) : (kFr C ns md f oC oN oM oF).lookup ns = some oN := by
  have e1 : (ns == C) = false := by simpa using h1
  simp [kFr, List.lookup_cons, e1]
theorem kfr_M (h1 : md ≠ C) (h2 : md ≠ ns) : (kFr C ns md f oC oN oM oF).lookup md = some oM := by
  have e1 : (md == C) = false := by simpa using h1
  have e2 : (md == ns) = false := by simpa using h2
  simp [kFr, List.lookup_cons, e1, e2]
theorem kfr_F (h1 : f ≠ C) (h2 : f ≠ ns) (h3 : f ≠ md) : (kFr C ns md f oC oN oM oF).lookup f = some oF := by
  have e1 : (f == C) = false := by simpa using h1
  have e2 : (f == ns) = false := by simpa using h2
  have e3 : (f == md) = false := by simpa using h3
  simp [kFr, List.lookup_cons, e1, e2, e3]
end

noncomputable def entLook (o : Obj) (name : Str) : Option (Option Value) := match o with
  | ⟨_, _, .dict es _, _⟩ => (match es.toList.find? (·.key.isStr name) with
      | some e => some (some e.val)
      | none => if es.toList.any (·.refKey) then none else some none)
  | _ => none
section
variable {K : Frag} {C ns md f : Addr} {qn : Str} {b0 nm qv v : Value} {oN : Obj} {name : Str}
theorem nsIn_ent (hN : K.lookup ns = some oN) : nsIn K ns name = entLook oN name := by
  unfold nsIn entLook
  rw [hN]
  obtain ⟨c, d, da, sl⟩ := oN
  cases da <;> rfl
theorem own_ent (hC : K.lookup C = some (clsN C ns qn b0 nm qv)) (hN : K.lookup ns = some oN) : ownIn K name (.ref C) = entLook oN name := by
  unfold ownIn; dsimp only
  rw [hC]
  exact nsIn_ent hN
theorem find_own (hC : K.lookup C = some (clsN C ns qn b0 nm qv)) (hN : K.lookup ns = some oN) (e : entLook oN name = some (some v)) : findIn K (.ref C) name = some (some v) := by
  unfold findIn; dsimp only
  rw [hC]
  show alongIn K name [.ref C, .type "object"] = _
  unfold alongIn
  rw [own_ent hC hN, e]
theorem find_up {r : Option Value} (hC : K.lookup C = some (clsN C ns qn b0 nm qv)) (hN : K.lookup ns = some oN) (e : entLook oN name = some none) (b : fastBuiltinOwn "object" name = r) : findIn K (.ref C) name = some r := by
  unfold findIn; dsimp only
  rw [hC]
  show alongIn K name [.ref C, .type "object"] = _
  unfold alongIn
  rw [own_ent hC hN, e]
  show alongIn K name [.type "object"] = _
  unfold alongIn
  rw [show ownIn K name (.type "object") = some (fastBuiltinOwn "object" name) from rfl, b]
  cases r <;> rfl
theorem typ_C (hC : K.lookup C = some (clsN C ns qn b0 nm qv)) : typeIn K (.ref C) = some (.type "type") := by
  unfold typeIn; dsimp only; rw [hC]; rfl
theorem cls_C (hC : K.lookup C = some (clsN C ns qn b0 nm qv)) : clsIn K C = some { name := ⟨⟨[75]⟩⟩, bases := [.type "object"], mro := [.ref C, .type "object"], ns := ns, qualname := qn, hasDict := false, slotNames := [⟨⟨[111, 98, 106]⟩⟩], hasDel := false } := by
  unfold clsIn; rw [hC]
theorem call_C (hC : K.lookup C = some (clsN C ns qn b0 nm qv)) : specialIn K (.ref C) "__call__" = some (some (.builtin "type.__call__")) := by
  unfold specialIn
  rw [typ_C hC]
  show findIn K (.type "type") "__call__" = _
  show fastLookup "type" "__call__" = _
  kernel_rfl!
theorem makes_C (hC : K.lookup C = some (clsN C ns qn b0 nm qv)) : makesIn K C = true := by
  have e1 := call_C hC
  have e2 : instIn K (.ref C) (.type "type") = some true := by
    unfold instIn
    rw [typ_C hC]
    show subIn K (.type "type") (.type "type") = _
    show (fastBuiltinMro "type").map (·.contains (.type "type")) = _
    kernel_rfl!
  unfold makesIn
  rw [hC]
  dsimp only
  rw [e1, e2]
  simp
end
end Mine
end
section
namespace Mine
open PySem PySem.W PySem.Calls PyProof.Rows PySem.Spec Builtin Builtin.ObjectAttr Builtin.Getset_descriptor
noncomputable abbrev oStr : Str := ⟨⟨[111, 98, 106]⟩⟩
section
variable {K : Frag} {C ns md : Addr} {qn : Str} {b0 nm qv v : Value} {oN : Obj} {name : Str} {tm : Tok}
theorem typ_md (hM : K.lookup md = some (mdN C tm)) : typeIn K (.ref md) = some (.type "member_descriptor") := by
  unfold typeIn; dsimp only; rw [hM]; rfl
theorem get_md (hM : K.lookup md = some (mdN C tm)) : specialIn K (.ref md) "__get__" = some (some (.builtin "member_descriptor.__get__")) := by
  unfold specialIn
  rw [typ_md hM]
  show fastLookup "member_descriptor" "__get__" = _
  kernel_rfl!
theorem takes_md (hM : K.lookup md = some (mdN C tm)) : takesIn K (.ref md) = some true := by
  have e : specialIn K (.ref md) "__set__" = some (some (.builtin "member_descriptor.__set__")) := by
    unfold specialIn
    rw [typ_md hM]
    show fastLookup "member_descriptor" "__set__" = _
    kernel_rfl!
  unfold takesIn
  rw [e]
theorem slot_md (hC : K.lookup C = some (clsN C ns qn b0 nm qv)) (hM : K.lookup md = some (mdN C tm)) : slotIn K md C = some 0 := by
  unfold slotIn
  have e : recIn K md "member_descriptor" = some [.str ⟨⟨[111, 98, 106]⟩⟩ tm, .ref C, .builtin "proto.slot", .builtin "proto.slot#set", rawInt 0] := by
    unfold recIn
    rw [hM]
    rfl
  rw [e, cls_C hC]
  simp [rawInt]
end
/-- an object of the class -/
structure Inst (h : Heap) (x : Addr) (ox : Obj) (C : Addr) : Prop where
  at_ : h.get? x = some ox
  cls : ox.cls = .ref C
theorem Inst.type {M : Model} {h : Heap} {x C : Addr} {ox : Obj} (I : Inst h x ox C) : Looks M h (typeOf (.ref x)) (.ref C) := I.cls ▸ (Looks.ld I.at_).andThen .now
section
variable {prog : Program} {w : World} {A : Around} {E : Value → Shared → Prop} {K : Frag} {C ns md x : Addr} {qn : Str} {b0 nm qv v : Value} {oN ox : Obj} {tm : Tok} {expr : Bool} {Q : Value → Shared → Prop} {s : Shared} {R : Result → Shared → Prop}
theorem look_obj {M : Model} {h : Heap} (X : K.In h) (hC : K.lookup C = some (clsN C ns qn b0 nm qv)) (hN : K.lookup ns = some oN) (hM : K.lookup md = some (mdN C tm)) (e : entLook oN oStr = some (some (.ref md))) :
    Looks M h (find (.ref x) (.ref C) oStr) (.bind (.builtin "member_descriptor.__get__") (.ref md)) := by
  have L1 := looks_findIn (M := M) X (find_own hC hN e)
  have L2 : Looks M h (getOf (some (.ref md))) (some (.builtin "member_descriptor.__get__")) := looks_specialIn X (get_md hM)
  have L3 := looks_takesIn (M := M) X (takes_md hM)
  exact L1.andThen (L2.andThen ((show Looks M h (dataDescriptor? (some (.ref md)) (some (.builtin "member_descriptor.__get__"))) (some (.builtin "member_descriptor.__get__", .ref md)) from L3.andThen .now).andThen (Looks.tag .now)))
/-- the slot is read -/
theorem mem_get (X : K.In s.heap) (I : Inst s.heap x ox C) (hC : K.lookup C = some (clsN C ns qn b0 nm qv)) (hM : K.lookup md = some (mdN C tm)) {tp : Value} (hv : (ox.slots[0]?).join = some v)
    (h : R (.ok (.ret v)) s) : codeAny (model prog w) A (.call (.builtin "member_descriptor.__get__") ⟨[.ref md, .ref x, tp], []⟩) R s := by
  obtain ⟨n, tn, owner, behind, tb, d, sl, cd, ho, hc, hm, hb, e0⟩ := slot_of X (slot_md hC hM)
  obtain ⟨hh, g, dr, t, os⟩ := s
  have L0 := I.type (M := model prog w)
  have L1 := looks_mroIn (M := model prog w) X hm
  have L2 : Looks (model prog w) hh (Slots.slotNamesOf (.ref C)) cd.slotNames := (looks_clsIn X hc).andThen .now
  have hx := I.at_
  dsimp only at ho hx L0 L1
  have f0 := looks_field (M := model prog w) ho 0 (v := .str n tn) rfl
  have f1 := looks_field (M := model prog w) ho 1 (v := owner) rfl
  have f2 := looks_field (M := model prog w) ho 2 (v := .builtin "proto.slot") rfl
  have f4 := looks_field (M := model prog w) ho 4 (v := .int behind tb) rfl
  refine codeAny_call_builtin KF.slot_mem.plain KF.entry_mem (KF.slot_mem.check _ _ _ _ _ _ _ _ ⟨_, ho, rfl⟩ (KF.args_mem _ _ _) ?_)
  unfold Builtin.«member_descriptor.__get__» descrGet
  rw [dga_obj]
  refine wpAny_bind (wpAny_pure ?_)
  unfold descrGetter descrCheckInstance descrNameAndClass isInstance
  repeat lk
  refine ⟨Code.quiet_builtin _ (by decide +kernel), codeAny_builtin KF.entry_slot ?_⟩
  unfold Builtin.«proto.slot» Slots.target
  repeat lk
  rw [if_neg hb]
  repeat lk
  rw [← e0, hv]
  exact wpAny_pure h
/-- x.obj -/
theorem get_obj (X : K.In s.heap) (I : Inst s.heap x ox C) (hC : K.lookup C = some (clsN C ns qn b0 nm qv)) (hN : K.lookup ns = some oN) (hM : K.lookup md = some (mdN C tm)) (e : entLook oN oStr = some (some (.ref md)))
    (ega : entLook oN "__getattribute__" = some none) (eg : entLook oN "__getattr__" = some none) (hv : (ox.slots[0]?).join = some v) (hh : handedIn v = true) (h : Q v { s with toks := s.toks + 1 }) :
    wpAny (model prog w) A (getAttr (.ref x) oStr expr) Q E s := by
  have g1 : findIn K (.ref C) "__getattribute__" = some (some (.builtin "object.__getattribute__")) := find_up hC hN ega (by kernel_rfl!)
  have g2 : findIn K (.ref C) "__getattr__" = some none := find_up hC hN eg (by kernel_rfl!)
  obtain ⟨hp, gg, d, t, os⟩ := s
  have L0 := I.type (M := model prog w)
  have L1 := looks_findIn (M := model prog w) X g1
  have L3 := look_obj (M := model prog w) (x := x) X hC hN hM e
  have L2 := looks_findIn (M := model prog w) X g2
  unfold getAttr getAttrBy
  refine wpAny_bind (wpAny_mkText (wpAny_holding (wpAny_bind (L0.at (wpAny_bind (L1.at ?_))))))
  show wpAny _ _ (getAttrEveryday _ _ _) _ _ _
  refine wpAny_bind (wpAny_onRaise (wpAny_runValue (codeAny_builtin F.plainObj_entry_getattr_hooked ?_)))
  refine wpAny_bind (wpAny_pure (wpAny_bind (L0.at (wpAny_bind (L3.at (wpAny_bind (L2.at ?_)))))))
  show wpAny _ _ (holding [Value.ref md] (call (.builtin "member_descriptor.__get__") [.ref md, .ref x, .ref C]) >>= ret) _ _ _
  refine wpAny_bind (wpAny_holding (wpAny_call (mem_get (s := ⟨hp, gg, d, t + 1, os⟩) X I hC hM hv (wpAny_pure ?_))))
  show wpAny _ _ (handedOut v) _ _ _
  rw [handedOut_of hh]
  exact wpAny_pure h
end
end Mine
end
section
namespace Mine
open PySem PySem.W PySem.Calls PyProof.Rows PySem.Spec Builtin Builtin.ObjectAttr Builtin.Getset_descriptor
section
variable {prog : Program} {w : World} {A : Around} {E : Value → Shared → Prop} {K : Frag} {C ns md x dx : Addr} {qn : Str} {b0 nm qv v : Value} {oN ox : Obj} {tm : Tok} {expr : Bool} {s : Shared} {R : Result → Shared → Prop}
noncomputable abbrev slotPut (v : Value) (o : Obj) : Obj := { o with slots := (o.slots ++ Array.replicate (1 - o.slots.size) none).setIfInBounds 0 (some v) }
/-- the slot is stored -/
theorem mem_set (X : K.In s.heap) (I : Inst s.heap x ox C) (hC : K.lookup C = some (clsN C ns qn b0 nm qv)) (hM : K.lookup md = some (mdN C tm)) (hz : ox.slots.size ≤ 1)
    (h : R (.ok (.ret .none)) { s with heap := s.heap.update x (slotPut v) }) : codeAny (model prog w) A (.call (.builtin "member_descriptor.__set__") ⟨[.ref md, .ref x, v], []⟩) R s := by
  obtain ⟨n, tn, owner, behind, tb, d, sl, cd, ho, hc, hm, hb, e0⟩ := slot_of X (slot_md hC hM)
  obtain ⟨hh, g, dr, t, os⟩ := s
  have L0 := I.type (M := model prog w)
  have L1 := looks_mroIn (M := model prog w) X hm
  have L2 : Looks (model prog w) hh (Slots.slotNamesOf (.ref C)) cd.slotNames := (looks_clsIn X hc).andThen .now
  have hx := I.at_
  dsimp only at ho hx L0 L1
  have f0 := looks_field (M := model prog w) ho 0 (v := .str n tn) rfl
  have f1 := looks_field (M := model prog w) ho 1 (v := owner) rfl
  have f3 := looks_field (M := model prog w) ho 3 (v := .builtin "proto.slot#set") rfl
  have f4 := looks_field (M := model prog w) ho 4 (v := .int behind tb) rfl
  refine codeAny_call_builtin KF.slot_mset.plain KF.entry_mset (KF.slot_mset.check _ _ _ _ _ _ _ _ ⟨_, ho, rfl⟩ (KF.args_mset _ _ _) ?_)
  unfold Builtin.«member_descriptor.__set__» descrSet descrStoreThrough descrCheckInstance descrNameAndClass isInstance
  have f5 : Looks (model prog w) hh (descrItself (.ref md)) [.ref md] := ((Looks.ld (part := none) ho).andThen .now).andThen (Looks.of_pure (by kernel_rfl))
  repeat lk
  refine ⟨Code.quiet_builtin _ (by decide +kernel), codeAny_builtin KF.entry_slotset ?_⟩
  unfold Builtin.«proto.slot#set» Slots.target
  repeat lk
  rw [if_neg hb]
  refine wpAny_pure (wpAny_bind ?_)
  rw [← e0]
  unfold setSlotAt
  dsimp only
  rw [if_neg (by rw [sizeLine_eq]; omega)]
  exact wpAny_updatePart hx (wpAny_pure h)
/-- x.obj = v -/
theorem set_obj {Q : Unit → Shared → Prop} {od : Obj} (X : K.In s.heap) (I : InstAt s.heap x ox C (some od)) (hC : K.lookup C = some (clsN C ns qn b0 nm qv)) (hN : K.lookup ns = some oN) (hM : K.lookup md = some (mdN C tm)) (e : entLook oN oStr = some (some (.ref md)))
    (es : entLook oN "__setattr__" = some none) (hz : ox.slots.size ≤ 1) (h : Q () { s with heap := s.heap.update x (slotPut v), toks := s.toks + 1 }) : wpAny (model prog w) A (setAttr (.ref x) oStr v) Q E s := by
  have g1 : findIn K (.ref C) "__setattr__" = some (some (.builtin "object.__setattr__")) := find_up hC hN es (by kernel_rfl!)
  have g2 : plainOver K C = true := by
    unfold plainOver
    rw [cls_C hC]
    rfl
  have g3 : takerIn K C oStr = some (some (.ref md)) := by
    unfold takerIn
    rw [find_own hC hN e, Option.bind_some]
    dsimp only
    rw [takes_md hM]
    rfl
  exact set_plain X I g1 (osa_descr (s := { s with toks := s.toks + 1 }) KF.slot_mset X I g2 g3 (typ_md hM) (mem_set (s := { s with toks := s.toks + 1 }) X ⟨I.at_, I.cls⟩ hC hM hz h))
end
section
variable {c : Cx} {k : Nat} {lam : Addr}
theorem ne_of_data {h : Heap} {a b : Addr} {o o' : Obj} (e1 : h.get? a = some o) (e2 : h.get? b = some o') (n : o ≠ o') : a ≠ b := fun q => by
  subst q; rw [e1] at e2; exact n (Option.some.inj e2)
/-- the call of __init__ -/
theorem init_call {A : Around} {s : Shared} {fi : Addr} {qn : Str} {pm : Value} {cc : Addr} {n : Value} {t tk : Tok} {vs : List Value} {K : Frag} {ns md x dx : Addr} {qc : Str} {b0 nm qv : Value} {oN : Obj} {tm : Tok} {kk : Nat} {R : Result → Shared → Prop}
    (B : Base c) (ext : Ext c.g s.heap) (room : Room 1 A) (hf : c.g.get? fi = some (fnO (initFn qn pm (.ref cc)))) (hcd : c.g.get? cc = some (cdO n qn t vs)) (X : K.In c.g)
    (hC : K.lookup c.C = some (clsN c.C ns qc b0 nm qv)) (hN : K.lookup ns = some oN) (hM : K.lookup md = some (mdN c.C tm)) (e : entLook oN oStr = some (some (.ref md))) (es : entLook oN "__setattr__" = some none)
    (hx : s.heap.get? x = some (instObj c.C dx)) (hd : s.heap.get? dx = some emptyDict)
    (q : ∀ h' tk', (∀ b o, b ≠ x → s.heap.get? b = some o → h'.get? b = some o) → h'.get? x = some (keyObj c.C dx kk tk) → R (.ok (.ret .none)) { s with heap := h', toks := tk' }) :
    codeAny (model c.prog c.w) A (.call (.ref fi) ⟨[.ref x, .int kk tk], []⟩) R s := by
  refine codeAny_call_def (binds := [(Str.ofString "self", .ref x), (oStr, .int kk tk)]) room.depth (ext _ _ hf) rfl (B.nolimit.keeps ext) ⟨cc, _, _, t, rfl, ext _ _ hcd, rfl, rfl⟩ rfl (BindsTo.of_eq rfl) (by show ∀ x ∈ [(Str.ofString "self", NameKind.local), (oStr, NameKind.local)], x.2 ≠ .cell; decide) (fun p hp => by
    rcases List.mem_cons.mp hp with rfl | hp
    · exact rfl
    · rcases List.mem_cons.mp hp with rfl | hp
      · exact rfl
      · cases hp) (fun h₀ hns hk₀ => ?_) rfl rfl rfl
  refine wpAny_execs_cons (plainObj_wpAny_Assign_Attribute ?_ rfl)
  have X0 : K.In h₀ := X.keeps fun b o z => hk₀ b o (ext b o z)
  refine wpAny_Name (wpAny_loadName_local rfl rfl hns (v := .int kk tk) rfl ?_) rfl
  refine wpAny_Name (wpAny_loadName_local rfl rfl hns (v := .ref x) rfl ?_) rfl
  have hx0 := hk₀ _ _ hx
  have same : ∀ b, b ≠ x → (h₀.update x (slotPut (.int kk tk))).get? b = h₀.get? b := fun b n => Heap.get?_update_ne _ _ _ _ n
  refine set_obj (s := { s with heap := h₀, toks := _ }) X0 (I := ⟨hx0, rfl, rfl, hk₀ _ _ hd⟩) hC hN hM e es (Nat.zero_le _) ?_
  refine wpAny_execs_nil ?_
  exact q _ _ (fun b o n z => (same b n).trans (hk₀ b o z)) (Heap.get?_update_self _ hx0 rfl)
end
end Mine
end
section
namespace Mine
open PySem PySem.W PySem.Calls PyProof.Rows PySem.Spec Builtin Builtin.ObjectAttr Builtin.Getset_descriptor
theorem Room.make {k : Nat} {A : Around} {C : Addr} {vs : List Value} {kw : List (Str × Value)} (r : Room (k + 1) A) : Room k (A.under (.builtin "type.__call__" ⟨.ref C :: vs, kw⟩)) := by
  have h1 : (Code.builtin "type.__call__" ⟨.ref C :: vs, kw⟩).weight ≤ 1 := by
    have : (Code.builtin "type.__call__" ⟨.ref C :: vs, kw⟩).weight = 1 := rfl
    omega
  have h2 : (Code.builtin "type.__call__" ⟨.ref C :: vs, kw⟩).cUnits ≤ 4 := by
    have : (Code.builtin "type.__call__" ⟨.ref C :: vs, kw⟩).cUnits = 1 := rfl
    omega
  refine ⟨r.hd, ?_, ?_⟩
  · have := r.dep
    show A.depth + (Code.builtin "type.__call__" ⟨.ref C :: vs, kw⟩).weight + k < 900
    omega
  · have := r.un
    show A.units + (Code.builtin "type.__call__" ⟨.ref C :: vs, kw⟩).cUnits + 100 * k < 9000
    omega
/-- what is known of the class at c.g -/
structure Parts (c : Cx) (lam ns md cell fi fl fg fe : Addr) : Prop where
  B : Base c
  K : KeyAt lam c.C c.g ns md cell fi fl fg fe
section
variable {c : Cx} {k : Nat} {lam ns md cell fi fl fg fe : Addr}
/-- the class, its names, its slot, a function of it -/
structure Look (c : Cx) (K : Frag) (ns md f : Addr) (oN oF : Obj) : Prop where
  X : K.In c.g
  C : ∃ qn b0 nm qv, K.lookup c.C = some (clsN c.C ns qn b0 nm qv)
  N : K.lookup ns = some oN
  M : ∃ t, K.lookup md = some (mdN c.C t)
  F : K.lookup f = some oF
theorem look_of {qn : Str} {b0 nm qv : Value} {t : Tok} {f : Addr} {oN oF : Obj} (e1 : c.g.get? c.C = some (clsN c.C ns qn b0 nm qv)) (e2 : c.g.get? ns = some oN) (e3 : c.g.get? md = some (mdN c.C t)) (e4 : c.g.get? f = some oF)
    (d2 : ∃ es m, oN.data = .dict es m) (d4 : ∃ fd, oF.data = .func fd) : ∃ K, Look c K ns md f oN oF := by
  obtain ⟨es, m, d2⟩ := d2
  obtain ⟨fd, d4⟩ := d4
  have n1 : ns ≠ c.C := ne_of_data e2 e1 fun q => by rw [q] at d2; cases d2
  have n2 : md ≠ c.C := ne_of_data e3 e1 fun q => by have := congrArg Obj.data q; cases this
  have n3 : md ≠ ns := ne_of_data e3 e2 fun q => by rw [← q] at d2; cases d2
  have n4 : f ≠ c.C := ne_of_data e4 e1 fun q => by rw [q] at d4; cases d4
  have n5 : f ≠ ns := ne_of_data e4 e2 fun q => by rw [q, d2] at d4; cases d4
  have n6 : f ≠ md := ne_of_data e4 e3 fun q => by rw [q] at d4; cases d4
  refine ⟨kFr c.C ns md f (clsN c.C ns qn b0 nm qv) oN (mdN c.C t) oF, frag_in fun p hp => ?_, ⟨qn, b0, nm, qv, kfr_C⟩, kfr_N n1, ⟨t, kfr_M n2 n3⟩, kfr_F n4 n5 n6⟩
  simp only [kFr, List.mem_cons, List.not_mem_nil, or_false] at hp
  rcases hp with rfl | rfl | rfl | rfl <;> assumption
/-- key(k) -/
theorem fn_key (P : Parts c lam ns md cell fi fl fg fe) {i : Nat} : Fn c (k + 2) (.ref c.C) [.int i] (.key i) := fun A X s vs Q E room ext hX xok r q => by
  cases r with
  | cons h1 h2 =>
    cases h2
    cases h1 with
    | int _ tk =>
      obtain ⟨qn, b0, nm, qv, e1⟩ := P.K.hC
      obtain ⟨h0, t0, v0, h1, t1, v1, h2, t2, v2, h3, t3, h4, t4, h5, t5, h6, t6, h7, t7, v7, h8, t8, v8, h9, t9, h10, t10, v10, h11, t11, h12, t12, m, e2⟩ := P.K.hN
      obtain ⟨tm, e3⟩ := P.K.hM
      obtain ⟨qi, pm, cc, n, t, ws, e4, e5⟩ := P.K.hI
      obtain ⟨K, L⟩ := look_of e1 e2 e3 e4 ⟨_, _, rfl⟩ ⟨_, rfl⟩
      obtain ⟨qn', b0', nm', qv', hC⟩ := L.C
      obtain ⟨tm', hM⟩ := L.M
      have XK := L.X
      have f1 := find_own (name := "__init__") hC L.N (v := .ref fi) (by kernel_rfl!)
      have f2 : typeIn K (.ref fi) = some (.type "function") := by
        unfold typeIn; dsimp only; rw [L.F]; rfl
      obtain ⟨hh, g, d, tt, os⟩ := s
      have x2 : Ext hh ((hh.push emptyDict).push (instObj c.C hh.objs.size)) := (Ext.push _ _).trans (Ext.push _ _)
      have XK' : K.In hh := XK.keeps ext
      refine wpAny_call (make_core (C := c.C) (init := .ref fi) (makes_of XK' (makes_C hC)) (looks_findIn XK' f1) (fun self => bind_fn XK' self f2) (.inl (by simp)) ?_)
      refine init_call (c := c) (x := hh.objs.size + 1) (dx := hh.objs.size) P.B (ext.trans x2) ?_ e4 e5 XK hC L.N hM (by kernel_rfl!) (by kernel_rfl!) ?_ ?_ fun h' tk' kk hx => ?_
      · exact Room.make (room.mono (Nat.le_add_left 2 k))
      · have := Heap.get?_push_size (hh.push emptyDict) (o := instObj c.C hh.objs.size) rfl
        rw [Heap.size_push] at this
        exact this
      · exact Heap.get?_push_of_some _ (Heap.get?_push_size _ rfl)
      · refine ⟨rfl, ?_⟩
        have hne : ∀ b o, hh.get? b = some o → b ≠ hh.objs.size + 1 := fun b o e z => by
          have := Heap.lt_size e
          rw [z] at this
          exact absurd this (Nat.not_lt.mpr (Nat.le_succ _))
        refine q _ h' tk' (fun b o e => kk b o (hne b o e) (x2 b o e)) (.key hx fun z => ?_)
        obtain ⟨o, e⟩ := xok _ z
        exact hne _ _ e rfl
/-- x.obj -/
theorem ev_obj (P : Parts c lam ns md cell fi fl fg fe) {f : Fx} {ρ : Rho} {x : Str} {px pos : Pos} {i : Nat} (h : Ev c f ρ (.Name x px) (.key i)) : Ev c f ρ (.Attribute (.Name x px) oStr pos) (.int i) := fun s Q E st q => by
  refine Attribute_name (h s _ E st fun v h1 t1 x1 r1 => ?_)
  cases r1 with
  | key ho hx =>
    obtain ⟨qn, b0, nm, qv, e1⟩ := P.K.hC
    obtain ⟨h0, t0, v0, h1, t1, v1, h2, t2, v2, h3, t3, h4, t4, h5, t5, h6, t6, h7, t7, v7, h8, t8, v8, h9, t9, h10, t10, v10, h11, t11, h12, t12, m, e2⟩ := P.K.hN
    obtain ⟨tm, e3⟩ := P.K.hM
    obtain ⟨qi, pm, cc, n, t, ws, e4, e5⟩ := P.K.hI
    obtain ⟨K, L⟩ := look_of e1 e2 e3 e4 ⟨_, _, rfl⟩ ⟨_, rfl⟩
    obtain ⟨qn', b0', nm', qv', hC⟩ := L.C
    obtain ⟨tm', hM⟩ := L.M
    exact get_obj (L.X.keeps (st.up x1).ext) ⟨ho, rfl⟩ hC L.N hM (by kernel_rfl!) (by kernel_rfl!) (by kernel_rfl!) rfl rfl (q _ _ _ x1 (.int _ _))
end
end Mine
end
section
namespace Mine
open PySem PySem.W PySem.Calls PyProof.Rows PySem.Spec
section
variable {c : Cx} {k : Nat} {lam ns md cell fi fl fg fe : Addr}
theorem fn_cmp (P : Parts c lam ns md cell fi fl fg fe) {fn : Addr} {name qn : Str} {l e : Nat} {op : CmpOp} {pm ct n : Value} {cc : Addr} {t : Tok} {vs : List Value} (hf : c.g.get? fn = some (fnO (cmpFn name qn l e op cell pm (.ref cc) ct))) (hc : c.g.get? cc = some (cdO n qn t vs))
    {ol : Obj} {fd : FuncData} (hl : c.g.get? lam = some ol) (hd : ol.data = .func fd) {a b : Nat} {z : Int} {r : Bool} (F : Fn c k (.ref lam) [.int a, .int b] (.int z)) (hop : ∀ f, Cm c f op (.int z) (.int 0) r) (hm : behindInMarks op (Expr.Constant (Const.int 0) 0 ⟨l + 1, e, l + 1, e + 1⟩) = false) :
    Fn c (k + 1) (.ref fn) [.key a, .key b] (.bool r) := by
  refine fn_def P.B [Str.ofString "self", Str.ofString "other"] [] [(⟨⟨[109, 121, 99, 109, 112]⟩⟩, .val (.ref lam))] _ rfl hf rfl ⟨cc, _, _, t, rfl, hc, rfl, rfl⟩ rfl rfl rfl ?hbind rfl ?hcell ?hloc ?nd ?hfr ?hcl ?hap ?hb rfl rfl rfl
  case hbind => intro s vs h; exact match vs, h with | [a, b], _ => BindsTo.of_eq rfl
  case hcell => show ∀ x ∈ cmpScope.names, x.2 ≠ .cell; decide
  case hloc => show ∀ x ∈ [Str.ofString "self", Str.ofString "other"], cmpScope.names.lookup x = some .local; decide
  case nd => show [Str.ofString "self", Str.ofString "other", (⟨⟨[109, 121, 99, 109, 112]⟩⟩ : Str)].Nodup; decide
  case hfr =>
    intro p hp
    rcases List.mem_cons.mp hp with rfl | hp
    · exact ⟨cell, .ref lam, rfl, by simp, ⟨_, P.K.hcell, rfl⟩, .val _⟩
    · cases hp
  case hcl =>
    intro x b e
    obtain ⟨h1, h2⟩ := List.mem_cons.mp (lookup_mem e) |>.elim (fun q => Prod.mk.inj q) (fun q => nomatch q)
    subst h2
    exact ⟨some (.ref lam), _, P.K.hcell, rfl⟩
  case hap =>
    intro x y b e1 e2
    have h1 := List.mem_cons.mp (lookup_mem e1) |>.elim (fun q => Prod.mk.inj q) (fun q => nomatch q)
    have h2 := List.mem_cons.mp (lookup_mem e2) |>.elim (fun q => Prod.mk.inj q) (fun q => nomatch q)
    rw [h1.1, h2.1]
  case hb =>
    intro A L X hXL ok
    refine bd_stop (ex_ret (Ev.w (ev_cmp (Ev.w (ev_call ok (ev_name ok ?_ rfl) (evl_cons (ev_obj P (ev_name ok ?_ rfl)) (evl_cons (ev_obj P (ev_name ok ?_ rfl)) evl_nil rfl) rfl) F (kp_fn hl hd) rfl)) (Ev.w ev_int) (hop _) hm)))
    all_goals k_mem
theorem fn_lt (P : Parts c lam ns md cell fi fl fg fe) {ol : Obj} {fd : FuncData} (hl : c.g.get? lam = some ol) (hd : ol.data = .func fd) {a b : Nat} {z : Int} (F : Fn c k (.ref lam) [.int a, .int b] (.int z)) : Fn c (k + 1) (.ref fl) [.key a, .key b] (.bool (decide (z < 0))) := by
  obtain ⟨qn, pm, cc, ct, n, t, vs, h1, h2⟩ := P.K.hL
  exact fn_cmp P h1 h2 hl hd F (fun f => cm_lt) rfl
theorem fn_gt (P : Parts c lam ns md cell fi fl fg fe) {ol : Obj} {fd : FuncData} (hl : c.g.get? lam = some ol) (hd : ol.data = .func fd) {a b : Nat} {z : Int} (F : Fn c k (.ref lam) [.int a, .int b] (.int z)) : Fn c (k + 1) (.ref fg) [.key a, .key b] (.bool (decide (z > 0))) := by
  obtain ⟨qn, pm, cc, ct, n, t, vs, h1, h2⟩ := P.K.hG
  exact fn_cmp P h1 h2 hl hd F (fun f => cm_gt) rfl
theorem fn_eq (P : Parts c lam ns md cell fi fl fg fe) {ol : Obj} {fd : FuncData} (hl : c.g.get? lam = some ol) (hd : ol.data = .func fd) {a b : Nat} {z : Int} (F : Fn c k (.ref lam) [.int a, .int b] (.int z)) : Fn c (k + 1) (.ref fe) [.key a, .key b] (.bool (z == 0)) := by
  obtain ⟨qn, pm, cc, ct, n, t, vs, h1, h2⟩ := P.K.hE
  exact fn_cmp P h1 h2 hl hd F (fun f => cm_eq) rfl
end
end Mine
end
section
namespace Mine
open PySem PySem.W PySem.Calls PyProof.Rows PySem.Spec
section
variable {M : Model} {A : Around} {E : Value → Shared → Prop} {s : Shared} {x y C f : Addr} {name : Str}
theorem ifBound_lk {args : List Value} {Q : Option Value → Shared → Prop} (T : Looks M s.heap (typeOf (.ref x)) (.ref C)) (Lf : Looks M s.heap (typeLookup (.ref C) name) (some (.ref f))) (Lb : ∀ self, Looks M s.heap (bindSpecial (.ref f) self) (.ref f, [self]))
    (h : wpAny M A (call (.ref f) (.ref x :: args)) (fun v => Q (some v)) E s) : wpAny M A (callSpecialIfBound? (.ref x) name args) Q E s := by
  simp only [callSpecialIfBound?, bindSpecialIfBound?]
  refine wpAny_holding (wpAny_bind (wpAny_bind (wpAny_bind (T.here (Lf.here ?_)))))
  refine wpAny_bind (wpAny_askSetting (wpAny_ite ?_))
  have fin : wpAny M A (call (.ref f) ([.ref x] ++ args) >>= fun v => pure (some v)) Q E s := wpAny_bind (wpAny_mono h (fun v s' h' => wpAny_pure h') fun _ _ h' => h')
  split
  · exact wpAny_bind ((Lb _).here (wpAny_pure (by exact fin)))
  · exact wpAny_tryCatch (wpAny_bind ((Lb _).here (wpAny_pure (by exact fin))))
theorem richCompare_lk {op : CmpOp} {sym : String} {ff r : Str} {Q : Value → Shared → Prop} (hop : cmpInfo op = (sym, ff, r)) (T : Looks M s.heap (typeOf (.ref x)) (.ref C)) (Ty : Looks M s.heap (typeOf (.ref y)) (.ref C)) (Lf : Looks M s.heap (typeLookup (.ref C) ff) (some (.ref f)))
    (Lb : ∀ self, Looks M s.heap (bindSpecial (.ref f) self) (.ref f, [self])) (hu : A.units < cLine) (h : wpAny M A (call (.ref f) [.ref x, .ref y]) (fun v s' => ∃ b, v = .bool b ∧ Q (.bool b) s') E s) : wpAny M A (richCompare op (.ref x) (.ref y)) Q E s := by
  unfold richCompare
  simp only [oneThing_ref]
  refine wpAny_holding ?_
  refine wpAny_bind (wpAny_cRoomFor hu ?_)
  rw [hop]
  dsimp only
  refine wpAny_bind (T.here ?_)
  refine wpAny_bind (Ty.here ?_)
  rw [show (Value.ref C != Value.ref C) = false from by simp]
  simp only [Bool.false_eq_true, if_false]
  refine wpAny_bind (wpAny_pure ?_)
  simp only [Bool.false_eq_true, if_false]
  unfold tryCompare
  refine wpAny_bind (wpAny_bind (ifBound_lk T Lf Lb (wpAny_mono h (fun v s' hv => ?_) fun _ _ e => e)))
  obtain ⟨b, rfl, hq⟩ := hv
  exact wpAny_pure (wpAny_pure hq)
end
section
variable {c : Cx} {k : Nat} {lam ns md cell fi fl fg fe : Addr} {f : Fx}
/-- a comparison's way -/
structure Way (c : Cx) (name : Str) (fn : Addr) : Prop where
  lf : Looks (model c.prog c.w) c.g (typeLookup (.ref c.C) name) (some (.ref fn))
  lb : ∀ self, Looks (model c.prog c.w) c.g (bindSpecial (.ref fn) self) (.ref fn, [self])
theorem way_of (P : Parts c lam ns md cell fi fl fg fe) {name : Str} {fn : Addr} {fd : FuncData} (hf : c.g.get? fn = some (fnO fd)) (he : ∀ oN, c.g.get? ns = some oN → entLook oN name = some (some (.ref fn))) : Way c name fn := by
  obtain ⟨qn, b0, nm, qv, e1⟩ := P.K.hC
  obtain ⟨h0, t0, v0, h1, t1, v1, h2, t2, v2, h3, t3, h4, t4, h5, t5, h6, t6, h7, t7, v7, h8, t8, v8, h9, t9, h10, t10, v10, h11, t11, h12, t12, m, e2⟩ := P.K.hN
  obtain ⟨tm, e3⟩ := P.K.hM
  obtain ⟨K, L⟩ := look_of e1 e2 e3 hf ⟨_, _, rfl⟩ ⟨_, rfl⟩
  obtain ⟨qn', b0', nm', qv', hC⟩ := L.C
  have f2 : typeIn K (.ref fn) = some (.type "function") := by
    unfold typeIn; dsimp only; rw [L.F]; rfl
  exact ⟨looks_findIn L.X (find_own hC L.N (he _ e2)), fun self => bind_fn L.X self f2⟩
theorem way_lt (P : Parts c lam ns md cell fi fl fg fe) : Way c "__lt__" fl := by
  obtain ⟨qn, pm, cc, ct, n, t, vs, h1, h2⟩ := P.K.hL
  refine way_of P h1 fun oN e => ?_
  obtain ⟨h0, t0, v0, h1, t1, v1, h2, t2, v2, h3, t3, h4, t4, h5, t5, h6, t6, h7, t7, v7, h8, t8, v8, h9, t9, h10, t10, v10, h11, t11, h12, t12, m, e2⟩ := P.K.hN
  rw [e2] at e; cases e
  kernel_rfl!
theorem way_gt (P : Parts c lam ns md cell fi fl fg fe) : Way c "__gt__" fg := by
  obtain ⟨qn, pm, cc, ct, n, t, vs, h1, h2⟩ := P.K.hG
  refine way_of P h1 fun oN e => ?_
  obtain ⟨h0, t0, v0, h1, t1, v1, h2, t2, v2, h3, t3, h4, t4, h5, t5, h6, t6, h7, t7, v7, h8, t8, v8, h9, t9, h10, t10, v10, h11, t11, h12, t12, m, e2⟩ := P.K.hN
  rw [e2] at e; cases e
  kernel_rfl!
theorem way_eq (P : Parts c lam ns md cell fi fl fg fe) : Way c "__eq__" fe := by
  obtain ⟨qn, pm, cc, ct, n, t, vs, h1, h2⟩ := P.K.hE
  refine way_of P h1 fun oN e => ?_
  obtain ⟨h0, t0, v0, h1, t1, v1, h2, t2, v2, h3, t3, h4, t4, h5, t5, h6, t6, h7, t7, v7, h8, t8, v8, h9, t9, h10, t10, v10, h11, t11, h12, t12, m, e2⟩ := P.K.hN
  rw [e2] at e; cases e
  kernel_rfl!
theorem inst_lk {M : Model} {h : Heap} {x C dx : Addr} {i : Nat} {t : Tok} (ho : h.get? x = some (keyObj C dx i t)) : Looks M h (typeOf (.ref x)) (.ref C) := (Looks.ld ho).andThen .now
/-- two keys compared -/
theorem cm_key {op : CmpOp} {sym : String} {ff r : Str} {fn : Addr} {a b : Nat} {z : Bool} (hop : cmpInfo op = (sym, ff, r)) (hplain : op ≠ .Is ∧ op ≠ .IsNot ∧ op ≠ .In ∧ op ≠ .NotIn) (Y : Way c ff fn) (o : Ok c f k) (F : Fn c k (.ref fn) [.key a, .key b] (.bool z)) :
    Cm c f op (.key a) (.key b) z := fun s v1 v2 Q E w r1 r2 q => by
  have rr : Reps c.C s.heap f.Y [v1, v2] [.key a, .key b] := .cons r1 (.cons r2 .nil)
  cases r1 with
  | key ho hx =>
    cases r2 with
    | key ho2 hx2 =>
      have hcall := F f.A f.Y s _ (fun v s' => ∃ b, v = .bool b ∧ Q (.bool b) s') E o.room w.ext (fun a q => o.dis a q.1) (fun a q => w.xok a q.1) rr (fun v h' tk x r => by
        cases r
        exact ⟨_, rfl, q h' tk x⟩)
      have z := richCompare_lk hop (inst_lk ho) (inst_lk ho2) (Y.lf.keeps w.ext) (fun self => (Y.lb self).keeps w.ext) o.room.units hcall
      obtain ⟨h1, h2, h3, h4⟩ := hplain
      unfold compareOp
      cases op <;> first | exact absurd rfl h1 | exact absurd rfl h2 | exact absurd rfl h3 | exact absurd rfl h4 | exact z
end
end Mine
end
section
namespace Mine
open PySem PySem.W PySem.Calls PyProof.Rows PySem.Spec
/-- the tree of a sort, its questions answered by cmp -/
noncomputable def evT {α : Type} (cmp : Nat → Nat → Bool) : KasT α → α
  | .ret a => a
  | .ask i j k => evT cmp (k (cmp i j))
noncomputable def okT {α : Type} (n : Nat) (cmp : Nat → Nat → Bool) : KasT α → Bool
  | .ret _ => true
  | .ask i j k => decide (i < n) && decide (j < n) && okT n cmp (k (cmp i j))
theorem kas_evT {α : Type} {C : Nat → Nat → (Bool → Shared → Prop) → Shared → Prop} {n : Nat} {cmp : Nat → Nat → Bool} {I : Shared → Prop} (hI : ∀ i j (F : Bool → Shared → Prop) s, i < n → j < n → I s → (∀ s', I s' → F (cmp i j) s') → C i j F s) {Q : α → Shared → Prop} :
    ∀ (t : KasT α) (s : Shared), okT n cmp t = true → I s → (∀ s', I s' → Q (evT cmp t) s') → t.kasWp C Q s
  | .ret a, s, _, i, q => q s i
  | .ask i j k, s, h, hi, q => by
    simp only [okT, Bool.and_eq_true, decide_eq_true_eq] at h
    exact hI i j _ s h.1.1 h.1.2 hi fun s' i' => kas_evT hI (k (cmp i j)) s' h.2 i' q
section
variable {prog : Program} {w : World} {A : Around} {E : Value → Shared → Prop} {s : Shared} {vs : List Value} {T : Value}
/-- list.sort -/
theorem list_sort_ev {a : Addr} {n : Nat} {cmp : Nat → Nat → Bool} {P : PySem.Fin → Shared → Prop} (ho : s.heap.get? a = some (seqObj "list" vs.toArray n)) (h2 : 2 ≤ vs.length) (h64 : vs.length < 64)
    (hT : ∀ h, (∀ b o, b ≠ a → s.heap.get? b = some o → h.get? b = some o) → ∀ v ∈ vs, Looks (model prog w) h (typeOf v) T) (hT1 : (T != Value.type "tuple") = true) (hT2 : (T == T) = true) (hok : okT vs.length cmp (kas_sort vs.length) = true)
    (hI : ∀ i j (F : Bool → Shared → Prop) h tk, i < vs.length → j < vs.length → (∀ b o, b ≠ a → s.heap.get? b = some o → h.get? b = some o) → (∀ h' tk', Ext h h' → F (cmp i j) { s with heap := h', toks := tk' }) →
      wpAny (model prog w) A (keyLt' oneType' (vs.getD i Value.none) (vs.getD j Value.none)) F (fun _ _ => False) { s with heap := h, toks := tk })
    (q : ∀ h' tk m, (∀ b o, b ≠ a → s.heap.get? b = some o → h'.get? b = some o) → h'.get? a = some (seqObj "list" ((evT cmp (kas_sort vs.length)).toList.map fun i => vs.getD i Value.none).toArray m) → P (.done (.ret .none)) { s with heap := h', toks := tk }) :
    wpAny (model prog w) A (Builtin.«list.sort» ⟨[.ref a], []⟩) P E s := by
  obtain ⟨e1, ho1⟩ : ∃ e1, (s.heap.update a (Obj.mapSeq fun _ => (#[] : Array Value))).get? a = some (seqObj "list" #[] e1) := ⟨_, get?_update_seq ho fun _ => #[]⟩
  generalize hH1 : s.heap.update a (Obj.mapSeq fun _ => (#[] : Array Value)) = H1 at ho1
  have k1 : ∀ b o, b ≠ a → s.heap.get? b = some o → H1.get? b = some o := fun b o n e => by rw [← hH1, Heap.get?_update_ne _ _ _ _ n]; exact e
  generalize hH3 : (H1.push (seqObj "tuple" vs.toArray 0)).push (seqObj "list" #[] 0) = H3
  have k13 : Ext H1 H3 := hH3 ▸ (Ext.push _ _).trans (Ext.push _ _)
  have k3 : ∀ b o, b ≠ a → s.heap.get? b = some o → H3.get? b = some o := fun b o n e => k13 b o (k1 b o n e)
  rw [list_sort_plain]
  refine wpAny_bind (listItems_at ho rfl ?_)
  refine wpAny_bind (listUpdate_at ho rfl ?_ (by rw [List.size_toArray, sizeLine_eq]; omega) (Nat.zero_le _))
  rw [hH1]
  refine wpAny_bind (seqEpoch_at ho1 rfl ?_)
  refine wpAny_bind (wpAny_newTuple ?_ (by show vs.length ≤ _; rw [sizeLine_eq]; omega))
  refine wpAny_bind (wpAny_newList ?_ (Nat.zero_le _))
  refine wpAny_holding ?_
  show wpAny (model prog w) A _ P E { s with heap := (H1.push (seqObj "tuple" vs.toArray 0)).push (seqObj "list" #[] 0) }
  rw [hH3]
  dsimp only
  have hn2 : ¬ vs.toArray.size < 2 := by rw [List.size_toArray]; omega
  rw [if_neg hn2, if_neg hn2]
  refine wpAny_bind (kas_kind h2 (hT H3 k3) hT1 hT2 ?_)
  have est : SortSt.mk' oneType' (vs.toArray.zip vs.toArray) #[] 7 none = kas_st oneType' (pairsOf vs) (List.toArray (List.range vs.length)) := by
    have e := kas_range (pairsOf vs)
    rw [pairsOf_size] at e
    show SortSt.mk' oneType' (pairsOf vs) #[] 7 none = SortSt.mk' oneType' ((List.toArray (List.range vs.length)).map (kas_item (pairsOf vs))) #[] 7 none
    rw [e]
  have ask : (kas_sort vs.length).kasWp (kas_ask prog w A oneType' vs) (fun p s' => p = evT cmp (kas_sort vs.length) ∧ ∃ h tk, s' = { s with heap := h, toks := tk } ∧ Ext H3 h) { s with heap := H3 } := by
    refine kas_evT (n := vs.length) (cmp := cmp) (I := fun s' => ∃ h tk, s' = { s with heap := h, toks := tk } ∧ Ext H3 h) (fun i j F s' hi hj ⟨h, tk, e, x⟩ f => ?_) _ _ hok ⟨H3, s.toks, rfl, Ext.refl _⟩ fun s' i => ⟨rfl, i⟩
    subst e
    exact hI i j F h tk hi hj (fun b o n e => x b o (k3 b o n e)) fun h' tk' x' => f _ ⟨h', tk', rfl, x.trans x'⟩
  rw [kas_ask_eq] at ask
  have run := kas_runs (E := E) (Q := fun _ st' s' => ∃ p : Array Nat, p.size = vs.length ∧ arrOf st' = p.map (kas_item (pairsOf vs)) ∧ failedOf st' = none ∧ p = evT cmp (kas_sort vs.length) ∧ ∃ h tk, s' = { s with heap := h, toks := tk } ∧ Ext H3 h)
    h2 h64 (fun p' st' s' a1 a2 a3 a4 => ⟨p', a1, a2, a3, a4.1, a4.2⟩) ask
  rw [← est] at run
  refine wpAny_bind (wpAny_mono run ?_ fun _ _ e => e)
  rintro ⟨⟨⟩, st'⟩ s' ⟨p, hp, har, hf, ep, h, tk, es, x⟩
  subst es
  dsimp only at har hf ⊢
  have na : h.get? a = some (seqObj "list" #[] e1) := x _ _ (k13 _ _ ho1)
  have hout : (arrOf st').map (·.2) = List.toArray (p.toList.map fun i => vs.getD i Value.none) := by
    apply Array.toList_inj.mp
    rw [har, Array.map_map, Array.toList_map]
    exact List.map_congr_left fun i _ => by show (kas_item (pairsOf vs) i).2 = _; rw [kas_item_eq]
  have hsz : (List.toArray (p.toList.map fun i => vs.getD i Value.none)).size = vs.length := by rw [List.size_toArray, List.length_map, Array.length_toList, hp]
  rw [hout]
  obtain ⟨c2, hc2⟩ : ∃ c2, (h.update a (Obj.mapSeq fun _ => List.toArray (p.toList.map fun i => vs.getD i Value.none))).get? a = some (seqObj "list" (List.toArray (p.toList.map fun i => vs.getD i Value.none)) c2) := ⟨_, get?_update_seq na fun _ => List.toArray (p.toList.map fun i => vs.getD i Value.none)⟩
  refine wpAny_bind (seqEpoch_at (s := { s with heap := h, toks := tk }) na rfl ?_)
  refine wpAny_bind (listUpdate_at (s := { s with heap := h, toks := tk }) na rfl ?_ (Nat.zero_le _) (Nat.le_trans (Nat.le_of_eq hsz) (by rw [sizeLine_eq]; omega)))
  rw [hf]
  simp only [bne_self_eq_false, Bool.false_eq_true, if_false]
  refine wpAny_pure (q _ tk c2 (fun b o n e => ?_) ?_)
  · rw [Heap.get?_update_ne _ _ _ _ n]; exact x b o (k3 b o n e)
  · rw [hc2, ep]
/-- sorted -/
theorem sorted_ev {l : Addr} {cmp : Nat → Nat → Bool} {Q : Value → Shared → Prop} (hl : s.heap.IsList l vs.toArray) (h2 : 2 ≤ vs.length) (h64 : vs.length < 64)
    (hT : ∀ h, Ext s.heap h → ∀ v ∈ vs, Looks (model prog w) h (typeOf v) T) (hT1 : (T != Value.type "tuple") = true) (hT2 : (T == T) = true) (hok : okT vs.length cmp (kas_sort vs.length) = true)
    (hI : ∀ i j (F : Bool → Shared → Prop) h tk, i < vs.length → j < vs.length → Ext s.heap h → (∀ h' tk', Ext h h' → F (cmp i j) { s with heap := h', toks := tk' }) →
      wpAny (model prog w) A.in1.in1 (keyLt' oneType' (vs.getD i Value.none) (vs.getD j Value.none)) F (fun _ _ => False) { s with heap := h, toks := tk })
    (q : ∀ D h' tk, Ext s.heap h' → s.heap.get? D = none → h'.IsList D ((evT cmp (kas_sort vs.length)).toList.map fun i => vs.getD i Value.none).toArray → Q (.ref D) { s with heap := h', toks := tk }) :
    wpAny (model prog w) A (call (.builtin "sorted") [.ref l]) Q E s := by
  refine Calls.call_function_entry kind_sorted plain_sorted entry_sorted (args_sorted1 _) ?_
  unfold Builtin.«sorted»
  refine wpAny_bind (m := checkCount "sorted" 1 1 _) (wpAny_pure ?_)
  refine wpAny_bind (collect_list hl ?_ (by rw [sizeLine_eq]; omega))
  refine wpAny_bind (wpAny_newList ?_ (by rw [sizeLine_eq]; omega))
  have hsz : ((s.heap.push (seqObj "list" #[] 0)).update s.heap.objs.size (Obj.mapSeq (· ++ vs.toArray))).objs.size = s.heap.objs.size + 1 := by
    rw [Heap.size_update, Heap.size_push]
  generalize hH1 : (s.heap.push (seqObj "list" #[] 0)).update s.heap.objs.size (Obj.mapSeq (· ++ vs.toArray)) = H1 at hsz
  have k1 : Ext s.heap H1 := fun b o e => by
    have hlt : b < s.heap.objs.size := Heap.lt_size e
    rw [← hH1, Heap.get?_update_ne _ _ _ _ (Nat.ne_of_lt hlt)]
    exact Heap.get?_push_of_some _ e
  have fD : s.heap.get? (s.heap.objs.size + 1) = none := Heap.get?_none_of_le (Nat.le_succ _)
  have hoL : (H1.push (seqObj "list" vs.toArray 0)).get? (s.heap.objs.size + 1) = some (seqObj "list" vs.toArray 0) := by
    rw [← hsz]; exact Heap.get?_push_size _ rfl
  have k2 : Ext s.heap (H1.push (seqObj "list" vs.toArray 0)) := k1.trans (Ext.push _ _)
  show wpAny _ _ _ _ _ { s with heap := H1.push (seqObj "list" vs.toArray 0) }
  rw [hsz]
  have big : ∀ {h : Heap}, (∀ b o, b ≠ s.heap.objs.size + 1 → (H1.push (seqObj "list" vs.toArray 0)).get? b = some o → h.get? b = some o) → Ext s.heap h := fun k b o e =>
    k b o (fun z => by rw [z, fD] at e; cases e) (k2 b o e)
  refine wpAny_bind (wpAny_holding (wpAny_call_entry slot_list_sort ⟨_, hoL, rfl⟩ entry_list_sort ?body (args_list_sort _)))
  case body =>
    refine list_sort_ev (s := { s with heap := H1.push (seqObj "list" vs.toArray 0) }) (cmp := cmp) hoL h2 h64 (fun h k => hT h (big k)) hT1 hT2 hok (fun i j F h tk hi hj k f => hI i j F h tk hi hj (big k) f) fun h' tk m k e => ?_
    exact ⟨_, rfl, wpAny_pure ⟨_, rfl, q _ h' tk (big k) fD ⟨_, e, rfl, m, rfl⟩⟩⟩
end
end Mine
end
section
namespace Mine
open PySem PySem.W PySem.Calls PyProof.Rows PySem.Spec
theorem getD_of {α : Type} {l : List α} {i : Nat} {x d : α} (e : l[i]? = some x) : l.getD i d = x := by
  rw [List.getD_eq_getElem?_getD, e]; rfl
section
variable {c : Cx} {k : Nat}
/-- sorted, of keys -/
theorem fn_sorted {fl : Addr} {is : List Nat} {cmp : Nat → Nat → Bool} (Y : Way c "__lt__" fl) (h2 : 2 ≤ is.length) (h64 : is.length < 64) (hok : okT is.length cmp (kas_sort is.length) = true)
    (F : ∀ i j, i < is.length → j < is.length → Fn c k (.ref fl) [.key (is.getD i 0), .key (is.getD j 0)] (.bool (cmp i j))) (hsz : ∀ i ∈ (evT cmp (kas_sort is.length)).toList, i < is.length) :
    Fn c (k + 2) (.builtin "sorted") [.list (is.map D.key)] (.list (((evT cmp (kas_sort is.length)).toList.map fun i => is.getD i 0).map D.key)) := fun A X s vs Q E room ext hX xok r q => by
  cases r with
  | cons h1 hn =>
    cases hn
    cases h1 with
    | list hl hx hr =>
      rename_i a ws
      have hlen : ws.length = is.length := by rw [hr.length, List.length_map]
      have at_ : ∀ {h : Heap}, Ext s.heap h → ∀ i, i < is.length → ∃ x dx t, ws.getD i .none = .ref x ∧ h.get? x = some (keyObj c.C dx (is.getD i 0) t) ∧ ¬ X x := fun {h} x i hi => by
        have e1 : (is.map D.key)[i]? = some (D.key (is.getD i 0)) := by
          rw [List.getElem?_map, List.getElem?_eq_getElem hi, getD_of (List.getElem?_eq_getElem hi)]; rfl
        obtain ⟨v, e2, rv⟩ := hr.get e1
        rw [getD_of e2]
        cases rv with
        | key ho hxx => exact ⟨_, _, _, rfl, x _ _ ho, hxx⟩
      rw [← hlen] at h2 h64 hok
      refine sorted_ev (T := .ref c.C) (cmp := cmp) hl h2 h64 (fun h x v hv => ?_) (by simp) (by simp) hok (fun i j G h tk hi hj x f => ?_) fun D h' tk x fD hD => ?_
      · obtain ⟨i, hi, e⟩ := List.mem_iff_getElem.mp hv
        obtain ⟨y, dy, t, e1, e2, _⟩ := at_ x i (hlen ▸ hi)
        rw [getD_of (List.getElem?_eq_getElem hi), e] at e1
        subst e1
        exact inst_lk e2
      · rw [hlen] at hi hj
        obtain ⟨y, dy, t, e1, e2, n1⟩ := at_ x i hi
        obtain ⟨y', dy', t', e1', e2', n2⟩ := at_ x j hj
        rw [e1, e1', keyLt'_oneType, oneLt'_eq]
        simp only [if_true]
        refine wpAny_bind (wpAny_cRoomFor ?_ ?_)
        · have := room.un
          show A.units + 1 + 1 < cLine
          rw [cLine_is]; omega
        have g := ext.trans x
        refine wpAny_bind (ifBound_lk (s := { s with heap := h, toks := tk }) (inst_lk e2) (Y.lf.keeps g) (fun self => (Y.lb self).keeps g) ?_)
        refine F i j hi hj A.in1.in1 X { s with heap := h, toks := tk } _ _ _ (room.in1.in1) g hX (fun a ha => let ⟨o, q⟩ := xok a ha; ⟨o, x _ _ q⟩) (.cons (.key e2 n1) (.cons (.key e2' n2) .nil)) fun v h' tk' x' r' => ?_
        cases r'
        exact wpAny_truthy_bool (f h' tk' x')
      · rw [hlen] at hD
        refine q _ h' tk x (.list hD (fun z => ?_) ?_)
        · obtain ⟨o, e⟩ := xok _ z
          rw [fD] at e; cases e
        · refine reps_of (by simp) fun i v d ev ed => ?_
          rw [List.getElem?_map] at ev
          rw [List.map_map, List.getElem?_map] at ed
          cases ei : (evT cmp (kas_sort is.length)).toList[i]? with
          | none => rw [ei] at ev; cases ev
          | some j =>
            rw [ei] at ev ed
            cases ev; cases ed
            have hj := hsz j (List.mem_of_getElem? ei)
            obtain ⟨y, dy, t, e1, e2, n1⟩ := at_ x j hj
            show Rep c.C h' X (ws.getD j Value.none) (Mine.D.key (is.getD j 0))
            rw [e1]
            exact .key e2 n1
end
end Mine
end
section
namespace Mine
open PySem PySem.W PySem.Calls PyProof.Rows PySem.Spec
section
variable {c : Cx} {f : Fx} {ρ ρ' ρc : Rho} {k : Nat} {α : Type}
theorem stor_cfD {A : Around} {fd : FuncData} {L a : Addr} {X : Addr → Prop} {x : Str} (hk : (callEnvC fd L a).kindOf x = some .cell) (hc : ((callEnvC fd L a).cells.lookup x).isSome = true) : Stor (cfD A fd L a X) x := by
  obtain ⟨b, e⟩ := Option.isSome_iff_exists.mp hc
  exact .inr ⟨hk, b, e, .inr ⟨x, e⟩⟩
theorem stor_add {x : Str} {b : Addr} (h : Stor f x) : Stor (f.add b) x := h.imp id fun ⟨h1, a, h2, h3⟩ => ⟨h1, a, h2, .inl h3⟩
/-- a comprehension's loop over encoded data -/
theorem cp_enc (o : Ok c f k) {elt iter : Expr} {x : Str} {px : Pos} {ifs : List Expr} {scope : Scope} {pos : Pos} (enc : α → D) (p : α → Bool) (g : α → D) (ρ1 : α → Rho) (u : ∀ a, Upd ρ x (some (.imm (enc a))) (ρ1 a)) (hk : f.env.kindOf x = some .local) (le : ∀ a, Le (ρ1 a) ρ) :
    ∀ (l : List α), (∀ a ∈ l, Ts c f (ρ1 a) ifs (p a) ∧ (p a = true → Ev c f (ρ1 a) elt (g a))) → Cp c f (.ListComp elt [⟨.Name x px, iter, ifs, 0⟩] scope pos) 0 ρ (l.map enc) ((l.filter p).map g)
  | [], _ => cp_nil o
  | d :: ds, hd => by
    have ih := cp_enc o (elt := elt) (iter := iter) (x := x) (px := px) (ifs := ifs) (scope := scope) (pos := pos) enc p g ρ1 u hk le ds fun e he => hd e (.tail _ he)
    have h1 := hd d (.head _)
    have z := cp_cons o (px := px) (iter := iter) (scope := scope) (pos := pos) (u d) hk (le d) h1.1 h1.2 ih
    rw [List.filter_cons]
    cases hp : p d with
    | true => rw [hp] at z; exact z
    | false => rw [hp] at z; exact z
theorem cpk_enc (o : Ok c f k) {a : Addr} {elt iter : Expr} {x : Str} {px : Pos} {ifs : List Expr} {scope : Scope} {pos : Pos} (enc : α → D) (p : α → Bool) (g : α → D) (ρ1 : α → Rho) (u : ∀ a, Upd ρ x (some (.imm (enc a))) (ρ1 a)) (hk : f.env.kindOf x = some .cell) (ha : f.env.cells.lookup x = some a) (hMa : f.M a) (le : ∀ a, Le (ρ1 a) ρ) :
    ∀ (l : List α), (∀ a ∈ l, Ts c f (ρ1 a) ifs (p a) ∧ (p a = true → Ev c f (ρ1 a) elt (g a))) → CpK c f a (.ListComp elt [⟨.Name x px, iter, ifs, 0⟩] scope pos) ρ (l.map enc) ((l.filter p).map g)
  | [], _ => cpk_nil o
  | d :: ds, hd => by
    have ih := cpk_enc o (elt := elt) (iter := iter) (x := x) (px := px) (ifs := ifs) (scope := scope) (pos := pos) enc p g ρ1 u hk ha hMa le ds fun e he => hd e (.tail _ he)
    have h1 := hd d (.head _)
    have z := cpk_cons o (px := px) (iter := iter) (scope := scope) (pos := pos) (u d) hk ha hMa (le d) h1.1 h1.2 ih
    rw [List.filter_cons]
    cases hp : p d with
    | true => rw [hp] at z; exact z
    | false => rw [hp] at z; exact z
/-- a for loop over encoded data, folded -/
theorem fo_enc (o : Ok c f k) {x : Str} {px : Pos} {body : List Stmt} {σ : Type} (enc : α → D) (R : σ → Rho) (g : σ → α → σ) (I : σ → List α → Prop) (hk : Stor f x)
    (step : ∀ s d ds, I s (d :: ds) → ∃ ρ1 ρ2, Upd (R s) x (some (.imm (enc d))) ρ1 ∧ Exs c f ρ1 body ρ2 .next ∧ Le ρ2 (R (g s d)) ∧ I (g s d) ds) :
    ∀ (ds : List α) (s : σ), I s ds → Fo c f x px body (R s) (ds.map enc) (R (ds.foldl g s)) .next
  | [], s, _ => fo_nil o
  | d :: ds, s, h => by
    obtain ⟨ρ1, ρ2, u, e, l, i⟩ := step s d ds h
    exact fo_cons o u hk e (fo_from l (fo_enc o enc R g I hk step ds (g s d) i))
end
noncomputable abbrev iN (a : Nat) : D := .int a
theorem nD_at {l : List Nat} {i : Nat} (h : i < l.length) : (l.map iN)[((i : Int)).toNat]? = some (.int (l.getD i 0 : Nat)) := by
  rw [Int.toNat_natCast, List.getElem?_map, List.getElem?_eq_getElem h, getD_of (List.getElem?_eq_getElem h)]; rfl
theorem op_imul' {c : Cx} {f : Fx} {a b z : Int} (hm : IntMulOk a b) (e : a * b = z) : Op2 c f (inplaceOp .Mult) (.int a) (.int b) (.int z) := e ▸ op_imul hm
theorem small_mul {a : Int} {b : Nat} (h : b ≤ 1000000) : IntMulOk a (b : Int) := IntMulOk.of_right (intBits_le_64 (by omega) (by omega))
theorem small_mulL {b : Int} {a : Nat} (h : a ≤ 1000000) : IntMulOk (a : Int) b := IntMulOk.of_left (intBits_le_64 (by omega) (by omega))
end Mine
end
section
namespace Mine
open PySem PySem.W PySem.Calls PyProof.Rows PySem.Spec
noncomputable def cmp3 (p q r : Bool) : Nat → Nat → Bool
  | 0, 1 => p
  | 1, 0 => !p
  | 0, 2 => q
  | 2, 0 => !q
  | 1, 2 => r
  | 2, 1 => !r
  | _, _ => false
/-- the three, and one above all -/
noncomputable def cmpT (p q r : Bool) : Nat → Nat → Bool
  | 3, _ => false
  | _, 3 => true
  | i, j => cmp3 p q r i j
/-- one below all, and the three -/
noncomputable def cmpB (p q r : Bool) : Nat → Nat → Bool
  | _, 0 => false
  | 0, _ => true
  | i + 1, j + 1 => cmp3 p q r i j
noncomputable def midI (p q r : Bool) : Nat := if p then (if r then 1 else if q then 2 else 0) else (if q then 0 else if r then 2 else 1)
noncomputable def mid3 (lt : Nat → Nat → Bool) (a b c : Nat) : Nat := [a, b, c].getD (midI (lt a b) (lt a c) (lt b c)) 0
theorem srt3 : ∀ p q r : Bool, (p && r → q) → (!p && !r → !q) → okT 3 (cmp3 p q r) (kas_sort 3) = true ∧ (evT (cmp3 p q r) (kas_sort 3)).toList[1]? = some (midI p q r) ∧ (∀ i ∈ (evT (cmp3 p q r) (kas_sort 3)).toList, i < 3) ∧ (evT (cmp3 p q r) (kas_sort 3)).toList.length = 3 := by decide +kernel
theorem srtT : ∀ p q r : Bool, (p && r → q) → (!p && !r → !q) → okT 4 (cmpT p q r) (kas_sort 4) = true ∧ (evT (cmpT p q r) (kas_sort 4)).toList[1]? = some (midI p q r) ∧ (∀ i ∈ (evT (cmpT p q r) (kas_sort 4)).toList, i < 4) ∧ (evT (cmpT p q r) (kas_sort 4)).toList.length = 4 := by decide +kernel
theorem srtB : ∀ p q r : Bool, (p && r → q) → (!p && !r → !q) → okT 4 (cmpB p q r) (kas_sort 4) = true ∧ (evT (cmpB p q r) (kas_sort 4)).toList[2]? = some (midI p q r + 1) ∧ (∀ i ∈ (evT (cmpB p q r) (kas_sort 4)).toList, i < 4) ∧ (evT (cmpB p q r) (kas_sort 4)).toList.length = 4 := by decide +kernel
theorem len1 {α : Type} : ∀ {vs : List α}, vs.length = 1 → ∃ a, vs = [a]
  | [a], _ => ⟨a, rfl⟩
theorem len2 {α : Type} : ∀ {vs : List α}, vs.length = 2 → ∃ a b, vs = [a, b]
  | [a, b], _ => ⟨a, b, rfl⟩
theorem len3 {α : Type} : ∀ {vs : List α}, vs.length = 3 → ∃ a b c, vs = [a, b, c]
  | [a, b, c], _ => ⟨a, b, c, rfl⟩
end Mine
end
section
namespace Mine
open PySem PySem.W PySem.Calls PyProof.Rows PySem.Spec
section
variable {c : Cx} {f : Fx} {ρ : Rho} {k : Nat} {pos : Pos}
theorem nb_sorted (B : Base c) (o : Ok c f k) (hk : f.env.kindOf (⟨⟨[115, 111, 114, 116, 101, 100]⟩⟩ : Str) = some .globalImplicit) : Ev c f ρ (.Name (⟨⟨[115, 111, 114, 116, 101, 100]⟩⟩ : Str) pos) (.val (.builtin "sorted")) := ev_blt B o hk rfl rfl rfl
theorem nb_len (B : Base c) (o : Ok c f k) (hk : f.env.kindOf (⟨⟨[108, 101, 110]⟩⟩ : Str) = some .globalImplicit) : Ev c f ρ (.Name (⟨⟨[108, 101, 110]⟩⟩ : Str) pos) (.val (.builtin "len")) := ev_blt B o hk rfl rfl rfl
theorem nb_max (B : Base c) (o : Ok c f k) (hk : f.env.kindOf (⟨⟨[109, 97, 120]⟩⟩ : Str) = some .globalImplicit) : Ev c f ρ (.Name (⟨⟨[109, 97, 120]⟩⟩ : Str) pos) (.val (.builtin "max")) := ev_blt B o hk rfl rfl rfl
theorem nb_min (B : Base c) (o : Ok c f k) (hk : f.env.kindOf (⟨⟨[109, 105, 110]⟩⟩ : Str) = some .globalImplicit) : Ev c f ρ (.Name (⟨⟨[109, 105, 110]⟩⟩ : Str) pos) (.val (.builtin "min")) := ev_blt B o hk rfl rfl rfl
theorem nb_sum (B : Base c) (o : Ok c f k) (hk : f.env.kindOf (⟨⟨[115, 117, 109]⟩⟩ : Str) = some .globalImplicit) : Ev c f ρ (.Name (⟨⟨[115, 117, 109]⟩⟩ : Str) pos) (.val (.builtin "sum")) := ev_blt B o hk rfl rfl rfl
theorem nb_range (B : Base c) (o : Ok c f k) (hk : f.env.kindOf (⟨⟨[114, 97, 110, 103, 101]⟩⟩ : Str) = some .globalImplicit) : Ev c f ρ (.Name (⟨⟨[114, 97, 110, 103, 101]⟩⟩ : Str) pos) (.val (.type "range")) := ev_blt B o hk rfl rfl rfl
theorem nb_list (B : Base c) (o : Ok c f k) (hk : f.env.kindOf (⟨⟨[108, 105, 115, 116]⟩⟩ : Str) = some .globalImplicit) : Ev c f ρ (.Name (⟨⟨[108, 105, 115, 116]⟩⟩ : Str) pos) (.val (.type "list")) := ev_blt B o hk rfl rfl rfl
theorem nb_type (B : Base c) (o : Ok c f k) (hk : f.env.kindOf (⟨⟨[116, 121, 112, 101]⟩⟩ : Str) = some .globalImplicit) : Ev c f ρ (.Name (⟨⟨[116, 121, 112, 101]⟩⟩ : Str) pos) (.val (.type "type")) := ev_blt B o hk rfl rfl rfl
theorem nb_iter (B : Base c) (o : Ok c f k) (hk : f.env.kindOf (⟨⟨[105, 116, 101, 114]⟩⟩ : Str) = some .globalImplicit) : Ev c f ρ (.Name (⟨⟨[105, 116, 101, 114]⟩⟩ : Str) pos) (.val (.builtin "iter")) := ev_blt B o hk rfl rfl rfl
theorem nb_next (B : Base c) (o : Ok c f k) (hk : f.env.kindOf (⟨⟨[110, 101, 120, 116]⟩⟩ : Str) = some .globalImplicit) : Ev c f ρ (.Name (⟨⟨[110, 101, 120, 116]⟩⟩ : Str) pos) (.val (.builtin "next")) := ev_blt B o hk rfl rfl rfl
theorem nb_int (B : Base c) (o : Ok c f k) (hk : f.env.kindOf (⟨⟨[105, 110, 116]⟩⟩ : Str) = some .globalImplicit) : Ev c f ρ (.Name (⟨⟨[105, 110, 116]⟩⟩ : Str) pos) (.val (.type "int")) := ev_blt B o hk rfl rfl rfl
theorem ng_median_low (B : Base c) (o : Ok c f k) (hk : f.env.kindOf (⟨⟨[109, 101, 100, 105, 97, 110, 95, 108, 111, 119]⟩⟩ : Str) = some .globalImplicit) : Ev c f ρ (.Name (⟨⟨[109, 101, 100, 105, 97, 110, 95, 108, 111, 119]⟩⟩ : Str) pos) (.val (.ref 34)) := ev_glob B o hk rfl rfl
theorem ng_median_high (B : Base c) (o : Ok c f k) (hk : f.env.kindOf (⟨⟨[109, 101, 100, 105, 97, 110, 95, 104, 105, 103, 104]⟩⟩ : Str) = some .globalImplicit) : Ev c f ρ (.Name (⟨⟨[109, 101, 100, 105, 97, 110, 95, 104, 105, 103, 104]⟩⟩ : Str) pos) (.val (.ref 41)) := ev_glob B o hk rfl rfl
theorem ng_cmp_to_key (B : Base c) (o : Ok c f k) (hk : f.env.kindOf (⟨⟨[99, 109, 112, 95, 116, 111, 95, 107, 101, 121]⟩⟩ : Str) = some .globalImplicit) : Ev c f ρ (.Name (⟨⟨[99, 109, 112, 95, 116, 111, 95, 107, 101, 121]⟩⟩ : Str) pos) (.val (.ref 48)) := ev_glob B o hk rfl rfl
theorem ng_initial_missing (B : Base c) (o : Ok c f k) (hk : f.env.kindOf (⟨⟨[95, 105, 110, 105, 116, 105, 97, 108, 95, 109, 105, 115, 115, 105, 110, 103]⟩⟩ : Str) = some .globalImplicit) : Ev c f ρ (.Name (⟨⟨[95, 105, 110, 105, 116, 105, 97, 108, 95, 109, 105, 115, 115, 105, 110, 103]⟩⟩ : Str) pos) (.val (.ref 49)) := ev_glob B o hk rfl rfl
theorem ng_reduce (B : Base c) (o : Ok c f k) (hk : f.env.kindOf (⟨⟨[114, 101, 100, 117, 99, 101]⟩⟩ : Str) = some .globalImplicit) : Ev c f ρ (.Name (⟨⟨[114, 101, 100, 117, 99, 101]⟩⟩ : Str) pos) (.val (.ref 57)) := ev_glob B o hk rfl rfl
theorem ng_sorted_list_difference (B : Base c) (o : Ok c f k) (hk : f.env.kindOf (⟨⟨[115, 111, 114, 116, 101, 100, 95, 108, 105, 115, 116, 95, 100, 105, 102, 102, 101, 114, 101, 110, 99, 101]⟩⟩ : Str) = some .globalImplicit) : Ev c f ρ (.Name (⟨⟨[115, 111, 114, 116, 101, 100, 95, 108, 105, 115, 116, 95, 100, 105, 102, 102, 101, 114, 101, 110, 99, 101]⟩⟩ : Str) pos) (.val (.ref 64)) := ev_glob B o hk rfl rfl
theorem ng_three_way_cmp (B : Base c) (o : Ok c f k) (hk : f.env.kindOf (⟨⟨[116, 104, 114, 101, 101, 95, 119, 97, 121, 95, 99, 109, 112]⟩⟩ : Str) = some .globalImplicit) : Ev c f ρ (.Name (⟨⟨[116, 104, 114, 101, 101, 95, 119, 97, 121, 95, 99, 109, 112]⟩⟩ : Str) pos) (.val (.ref 71)) := ev_glob B o hk rfl rfl
theorem ng_law_all_are (B : Base c) (o : Ok c f k) (hk : f.env.kindOf (⟨⟨[95, 108, 97, 119, 95, 97, 108, 108, 95, 97, 114, 101]⟩⟩ : Str) = some .globalImplicit) : Ev c f ρ (.Name (⟨⟨[95, 108, 97, 119, 95, 97, 108, 108, 95, 97, 114, 101]⟩⟩ : Str) pos) (.val (.ref 78)) := ev_glob B o hk rfl rfl
theorem ng_law_lines (B : Base c) (o : Ok c f k) (hk : f.env.kindOf (⟨⟨[95, 108, 97, 119, 95, 108, 105, 110, 101, 115]⟩⟩ : Str) = some .globalImplicit) : Ev c f ρ (.Name (⟨⟨[95, 108, 97, 119, 95, 108, 105, 110, 101, 115]⟩⟩ : Str) pos) (.val (.ref 85)) := ev_glob B o hk rfl rfl
theorem ng_law_laid (B : Base c) (o : Ok c f k) (hk : f.env.kindOf (⟨⟨[95, 108, 97, 119, 95, 108, 97, 105, 100]⟩⟩ : Str) = some .globalImplicit) : Ev c f ρ (.Name (⟨⟨[95, 108, 97, 119, 95, 108, 97, 105, 100]⟩⟩ : Str) pos) (.val (.ref 92)) := ev_glob B o hk rfl rfl
theorem ng_law_hooks (B : Base c) (o : Ok c f k) (hk : f.env.kindOf (⟨⟨[95, 108, 97, 119, 95, 104, 111, 111, 107, 115]⟩⟩ : Str) = some .globalImplicit) : Ev c f ρ (.Name (⟨⟨[95, 108, 97, 119, 95, 104, 111, 111, 107, 115]⟩⟩ : Str) pos) (.val (.ref 97)) := ev_glob B o hk rfl rfl
theorem ng_law_longest (B : Base c) (o : Ok c f k) (hk : f.env.kindOf (⟨⟨[95, 108, 97, 119, 95, 108, 111, 110, 103, 101, 115, 116]⟩⟩ : Str) = some .globalImplicit) : Ev c f ρ (.Name (⟨⟨[95, 108, 97, 119, 95, 108, 111, 110, 103, 101, 115, 116]⟩⟩ : Str) pos) (.val (.ref 102)) := ev_glob B o hk rfl rfl
end
end Mine
end
section
namespace Mine
open PySem PySem.W PySem.Calls PyProof.Rows PySem.Spec
section
variable {c : Cx} {k : Nat}
theorem fn_median_low (B : Base c) {ds es : List D} {d : D} {n : Nat} (hn : n = 3 ∨ n = 4) (S : Fn c k (.builtin "sorted") [.list ds] (.list es)) (hl : es.length = n) (he : es[1]? = some d) : Fn c (k + 1) (.ref 34) [.list ds] d := by
  refine fn_def B [(⟨⟨[100, 97, 116, 97]⟩⟩ : Str)] [(⟨⟨[110]⟩⟩ : Str)] [] _ rfl (B.K 34 _ rfl) rfl ?hcd rfl rfl rfl ?hbind rfl ?hcell ?hloc ?nd ?hfr ?hcl ?hap ?hb rfl rfl rfl
  case hb =>
    intro A L X hXL ok
    walk_at "m_bd"
    walk_at "m_bd"
    rw [hl]
    rcases hn with rfl | rfl
    · refine bd_seq (ex_if (b := false) (by walk_at "m_tr") exs_nil) ?_
      refine bd_stop (ex_if (b := true) (by walk_at "m_tr") (exs_stop (by walk_at "m_st") (by simp)))
    · refine bd_seq (ex_if (b := false) (by walk_at "m_tr") exs_nil) ?_
      refine bd_stop (ex_if (b := false) (by walk_at "m_tr") (exs_stop (by walk_at "m_st") (by simp)))
  walk_at "m_fn"
end
end Mine
end
section
namespace Mine
open PySem PySem.W PySem.Calls PyProof.Rows PySem.Spec
section
variable {α : Type}
theorem pick_plain (l : List α) (lo hi : Option Int) : pick l lo hi none = (l.drop (lo.elim 0 (clipAt l.length))).take (hi.elim l.length (clipAt l.length) - lo.elim 0 (clipAt l.length)) := by
  unfold Mine.pick
  rw [sliceBounds_plain]
  simp only [sliceRange_one]
  have := pick_run l.toArray (lo.elim 0 (clipAt l.length)) (hi.elim l.length (clipAt l.length) - lo.elim 0 (clipAt l.length))
  simp only [List.getElem?_toArray] at this
  exact this
theorem pick_from (l : List α) (a : Nat) : pick l (some (a : Int)) none none = l.drop a := by
  rw [pick_plain]
  simp only [Option.elim, clipAt_nat]
  rcases Nat.le_total a l.length with h | h
  · rw [Nat.min_eq_left h, List.take_of_length_le (by simp)]
  · rw [Nat.min_eq_right h, List.drop_of_length_le (by simp), List.drop_of_length_le h]; simp
theorem pick_upto (l : List α) (b : Nat) : pick l none (some (b : Int)) none = l.take b := by
  rw [pick_plain]
  simp only [Option.elim, clipAt_nat, List.drop_zero, Nat.sub_zero]
  rcases Nat.le_total b l.length with h | h
  · rw [Nat.min_eq_left h]
  · rw [Nat.min_eq_right h, List.take_of_length_le (by simp), List.take_of_length_le h]
theorem pick_part (l : List α) (a b : Nat) (h : a ≤ b) : pick l (some (a : Int)) (some (b : Int)) none = (l.drop a).take (b - a) := by
  rw [pick_plain]
  simp only [Option.elim, clipAt_nat]
  rcases Nat.le_total b l.length with hb | hb
  · rw [Nat.min_eq_left hb, Nat.min_eq_left (by omega)]
  · rw [Nat.min_eq_right hb]
    rcases Nat.le_total a l.length with ha | ha
    · rw [Nat.min_eq_left ha, List.take_of_length_le (by simp), List.take_of_length_le (by simp; omega)]
    · rw [Nat.min_eq_right ha, List.drop_of_length_le (by simp), List.drop_of_length_le ha]; simp
theorem pick_rev (l : List α) : pick l none none (some (-1)) = l.reverse := by
  unfold Mine.pick
  have e : sliceBounds none none (some (-1)) l.length = ((l.length : Int) - 1, -1, -1) := by
    first
    | rfl
    | simp [sliceBounds]
  have r : sliceRange ((l.length : Int) - 1) (-1) (-1) = (List.range l.length).reverse := by
    unfold sliceRange
    have h1 : ¬ ((-1 : Int) > 0) := by decide
    by_cases h : (l.length : Int) - 1 > -1
    · have e : ((l.length : Int) - 1 - -1 - -1 - 1) / (- -1) = (l.length : Int) := by
        rw [show (- -1 : Int) = 1 by decide, Int.ediv_one]
        omega
      simp only [h1, if_false, h, if_true, e, Int.toNat_natCast]
      apply List.ext_getElem (by simp)
      intro i hi1 hi2
      simp only [List.length_map, List.length_range] at hi1
      simp only [List.getElem_map, List.getElem_range, List.getElem_reverse, List.length_range]
      omega
    · have e : l.length = 0 := by omega
      rw [e]
      rfl
  rw [e]
  show (sliceRange ((l.length : Int) - 1) (-1) (-1)).filterMap (l[·]?) = _
  rw [r, List.filterMap_reverse]
  congr 1
  apply List.ext_getElem?
  intro i
  have : (List.range l.length).filterMap (l[·]?) = l := by
    have h := pick_run l.toArray 0 l.length
    have e : (List.range l.length).map (0 + ·) = List.range l.length := by
      rw [show ((0 + ·) : Nat → Nat) = id from funext fun k => Nat.zero_add k, List.map_id]
    rw [e] at h
    simp only [List.getElem?_toArray, List.drop_zero, List.take_length] at h
    exact h
  rw [this]
end
/-- a list of numbers -/
noncomputable abbrev nD (l : List Nat) : D := .list (l.map fun a : Nat => D.int a)
theorem eqv_int (a b : Nat) : PyData.eqv (D.int a).py (D.int b).py = (a == b) := by
  show ((a : Int) == (b : Int)) = (a == b)
  rw [Bool.eq_iff_iff, beq_iff_eq, beq_iff_eq]
  omega
theorem eqvAll_n : ∀ (a b : List Nat), PyData.eqvAll (D.pys (a.map fun a : Nat => D.int a)) (D.pys (b.map fun a : Nat => D.int a)) = (a == b)
  | [], [] => rfl
  | [], _ :: _ => rfl
  | _ :: _, [] => rfl
  | x :: xs, y :: ys => by
    have ih := eqvAll_n xs ys
    simp only [List.map_cons, D.pys, PyData.eqvAll]
    rw [ih, eqv_int]
    rfl
theorem eqv_n (a b : List Nat) : PyData.eqv (nD a).py (nD b).py = (a == b) := eqvAll_n a b
theorem any_n (x : List Nat) : ∀ (l : List (List Nat)), ((D.pys (l.map nD)).any fun y => PyData.eqv y (nD x).py) = l.contains x
  | [] => rfl
  | a :: l => by
    have ih := any_n x l
    simp only [List.map_cons, D.pys, List.any_cons, List.contains_cons]
    rw [ih, eqv_n]
    congr 1
    rw [Bool.eq_iff_iff, beq_iff_eq, beq_iff_eq]
    exact eq_comm
theorem pls_n : ∀ (a : List Nat) (k : Nat), D.pls k (a.map fun a : Nat => D.int a) = true
  | [], _ => rfl
  | x :: xs, k => by simp only [List.map_cons, D.pls, D.pl, pls_n xs k, Bool.true_and]
theorem pl_n (a : List Nat) (k : Nat) : (nD a).pl (k + 1) = true := by
  show D.pls k _ = true
  exact pls_n a k
theorem pls_nn : ∀ (l : List (List Nat)) (k : Nat), D.pls (k + 1) (l.map nD) = true
  | [], _ => rfl
  | x :: xs, k => by
    simp only [List.map_cons, D.pls]
    rw [pl_n, pls_nn xs k]; rfl
mutual
theorem eqv_refl : ∀ (d : D), PyData.eqv d.py d.py = true
  | .none => rfl
  | .bool b => by simp [D.py, PyData.eqv]
  | .int i => by simp [D.py, PyData.eqv]
  | .list ds => by
    show PyData.eqvAll _ _ = true
    exact eqvAll_refl ds
  | .tuple ds => by
    show PyData.eqvAll _ _ = true
    exact eqvAll_refl ds
  | .key _ => rfl
  | .range _ _ _ => rfl
  | .val _ => rfl
theorem eqvAll_refl : ∀ (ds : List D), PyData.eqvAll (D.pys ds) (D.pys ds) = true
  | [] => rfl
  | d :: ds => by
    simp only [D.pys, PyData.eqvAll]
    rw [eqv_refl d, eqvAll_refl ds]; rfl
end
/-- range -/
theorem items_to (m : Nat) (hm : m ≤ 1000) : Items (.range 0 m 1) ((List.range m).map fun j : Nat => D.int j) := by
  refine ⟨?_, m, ?_, ?_⟩
  · exact small_one (by decide) (by decide) (by omega) (by omega)
  · unfold Builtin.Range.rangeSize
    rw [if_pos (by decide)]
    by_cases h : (0 : Int) < m
    · rw [if_pos h, Int.ediv_one]; omega
    · rw [if_neg h]; omega
  · apply List.map_congr_left
    intro j _
    congr 1
    omega
end Mine
end
section
namespace Mine
open PySem PySem.W PySem.Calls PyProof.Rows PySem.Spec
noncomputable def maxL (l : List Nat) : Nat := l.foldl max 0
theorem maxL_ge : ∀ (l : List Nat) (m : Nat), m ≤ l.foldl max m ∧ ∀ a ∈ l, a ≤ l.foldl max m
  | [], m => ⟨Nat.le_refl _, fun a h => nomatch h⟩
  | x :: l, m => by
    obtain ⟨h1, h2⟩ := maxL_ge l (max m x)
    refine ⟨Nat.le_trans (Nat.le_max_left _ _) h1, fun a h => ?_⟩
    rcases List.mem_cons.mp h with rfl | h
    · exact Nat.le_trans (Nat.le_max_right _ _) h1
    · exact h2 a h
theorem maxL_mem : ∀ (l : List Nat) (m : Nat), l.foldl max m = m ∨ l.foldl max m ∈ l
  | [], m => .inl rfl
  | x :: l, m => by
    show l.foldl max (max m x) = m ∨ l.foldl max (max m x) ∈ x :: l
    rcases maxL_mem l (max m x) with h | h
    · rcases Nat.le_total m x with h2 | h2
      · rw [h, Nat.max_eq_right h2]; exact .inr (.head _)
      · rw [h, Nat.max_eq_left h2]; exact .inl rfl
    · exact .inr (.tail _ h)
noncomputable def endK (rs : List Int) (es : List Nat) (k : Nat) : Nat := 1 + maxL (((List.range k).filter fun j => decide (rs.getD j 0 < rs.getD k 0)).map fun j => es.getD j 0)
noncomputable def endsF (rs : List Int) : List Nat := (List.range rs.length).foldl (fun es k => es ++ [endK rs es k]) []
noncomputable def longest (rs : List Int) : Nat := maxL (endsF rs)
section
variable {c : Cx} {k : Nat}
theorem iL_n (l : List Nat) : l.map iN = iL (l.map fun a : Nat => (a : Int)) := by rw [iL, List.map_map]; rfl
theorem fn_maxN {l : List Nat} (h : l ≠ []) : Fn c k (.builtin "max") [.list (l.map iN)] (.int (maxL l : Nat)) := by
  rw [iL_n]
  refine fn_max (List.mem_map.mpr ⟨maxL l, ?_, rfl⟩) fun a ha => ?_
  · rcases maxL_mem l 0 with e | e
    · cases l with
      | nil => exact absurd rfl h
      | cons x l =>
        have := (maxL_ge (x :: l) 0).2 x (.head _)
        have e' : maxL (x :: l) = 0 := e
        have x0 : x = 0 := by have t : x ≤ maxL (x :: l) := this; omega
        rw [e', x0]; exact .head _
    · exact e
  · obtain ⟨x, hx, rfl⟩ := List.mem_map.mp ha
    have := (maxL_ge l 0).2 x hx
    have t : x ≤ maxL l := this
    omega
noncomputable abbrev longR (rs : List Int) (e k : Option En) : Rho := [((⟨⟨[114, 97, 110, 107, 115]⟩⟩ : Str), some (.imm (.list (rs.map D.int)))), ((⟨⟨[101, 110, 100, 115]⟩⟩ : Str), e), ((⟨⟨[107]⟩⟩ : Str), k)]
theorem fn_longest (B : Base c) {rs : List Int} (hl : rs.length ≤ 1000) (h0 : rs ≠ []) : Fn c (k + 1) (.ref 102) [.list (rs.map D.int)] (.int (longest rs : Nat)) := by
  refine fn_cdef B [(⟨⟨[114, 97, 110, 107, 115]⟩⟩ : Str)] [(⟨⟨[101, 110, 100, 115]⟩⟩ : Str), (⟨⟨[107]⟩⟩ : Str)] (longR rs none none) rfl (B.K 102 _ rfl) rfl ?hcd rfl rfl rfl rfl ?hbind rfl ?hkind ?nd ?hb rfl rfl rfl
  case hkind => intro L x hx; simp only [List.mem_cons, List.not_mem_nil, or_false] at hx; subst hx; exact .inr ⟨rfl, rfl⟩
  case hb =>
    intro A L X ok
    have hz : (rs.map D.int).length ≤ 1000000 := by rw [List.length_map]; omega
    refine bd_own (ds := ([] : List Nat).map iN) ok (evf_list (by walk_at "m_evl") (by simp)) (fun a => longR rs (some (.own a (([] : List Nat).map iN))) none) (fun a => by walk_at "m_upd") (by walk_at "m_stor") rfl fun a ok' => ?_
    clear ok
    have hlen : (endsF rs).length = rs.length := by
      unfold endsF
      have : ∀ (n : Nat) , ((List.range n).foldl (fun es k => es ++ [endK rs es k]) []).length = n := by
        intro n
        induction n with
        | zero => rfl
        | succ n ih => rw [List.range_succ, List.foldl_append, List.foldl_cons, List.foldl_nil, List.length_append, ih]; rfl
      exact this _
    refine bd_seq (ex_for (d := .range 0 ((rs.map D.int).length : Nat) 1) (es := (List.range rs.length).map iN) (by walk_at "m_ev") ?it
      (fo_enc ok' iN (fun es : List Nat => longR rs (some (.own a (es.map iN))) none) (fun es k => es ++ [endK rs es k]) (fun es l => ∃ i n, l = List.range' i n ∧ es.length = i ∧ i + n = rs.length) (by walk_at "m_stor") ?step _ [] ⟨0, rs.length, by rw [List.range_eq_range'], rfl, by omega⟩) (fun _ => rfl)) (bd_stop (ex_ret (Ev.w ?ret)))
    case it =>
      rw [List.length_map]
      exact items_to _ hl
    case ret =>
      have hne : (List.range rs.length).foldl (fun es k => es ++ [endK rs es k]) [] ≠ [] := fun e => by
        have e' : endsF rs = [] := e
        rw [e'] at hlen
        exact h0 (List.length_eq_zero_iff.mp hlen.symm)
      have F := fn_maxN (c := c) (k := k) hne
      exact ev_call0 ok' (by walk_at "m_fv") (by walk_at "m_evl0") F kp_builtin rfl
    case step =>
      intro es i is hI
      obtain ⟨i', n, e, he, hn⟩ := hI
      cases n with
      | zero => cases e
      | succ n =>
        rw [List.range'_succ] at e
        obtain ⟨rfl, rfl⟩ := List.cons.inj e
        subst he
        have hi : es.length < rs.length := by omega
        have hz2 : (es.map iN).length ≤ 1000000 := by rw [List.length_map]; omega
        have rs_at : ∀ j, j < rs.length → (rs.map D.int)[((j : Int)).toNat]? = some (.int (rs.getD j 0)) := fun j hj => by
          rw [Int.toNat_natCast, List.getElem?_map, List.getElem?_eq_getElem hj, getD_of (List.getElem?_eq_getElem hj)]; rfl
        have rk := rs_at _ hi
        have hfl : (((List.range es.length).filter fun j => decide (rs.getD j 0 < rs.getD es.length 0)).map fun j => iN (es.getD j 0)).length ≤ 1000 := by
          rw [List.length_map]
          refine Nat.le_trans (List.length_filter_le _ _) ?_
          rw [List.length_range]; omega
        have hlist : D.list ([.int 0] ++ ((List.range es.length).filter fun j => decide (rs.getD j 0 < rs.getD es.length 0)).map fun j => iN (es.getD j 0)) = .list ((0 :: ((List.range es.length).filter fun j => decide (rs.getD j 0 < rs.getD es.length 0)).map fun j => es.getD j 0).map iN) := by
          rw [List.map_cons, List.map_map]; rfl
        have F := fn_maxN (c := c) (k := k) (l := 0 :: ((List.range es.length).filter fun j => decide (rs.getD j 0 < rs.getD es.length 0)).map fun j => es.getD j 0) (by simp)
        have hv : (1 : Int) + (maxL (0 :: ((List.range es.length).filter fun j => decide (rs.getD j 0 < rs.getD es.length 0)).map fun j => es.getD j 0) : Nat) = (endK rs es es.length : Nat) := by
          have e : maxL (0 :: ((List.range es.length).filter fun j => decide (rs.getD j 0 < rs.getD es.length 0)).map fun j => es.getD j 0) = maxL (((List.range es.length).filter fun j => decide (rs.getD j 0 < rs.getD es.length 0)).map fun j => es.getD j 0) := rfl
          rw [e]
          unfold endK
          omega
        refine ⟨_, longR rs (some (.own a (es.map iN ++ [.int (endK rs es es.length : Nat)]))) (some (.imm (.int (es.length : Nat)))), by walk_at "m_upd", exs_cons (ex_append ok' (by k_mem) rfl (ev_eq (congrArg D.int hv) (ev_binop ev_int (ev_call ok' (by walk_at "m_fv") (evl_cons (ev_eq hlist (ev_binop (by walk_at "m_ev") ?comp (op_cat (by simp only [List.length_cons, List.length_nil]; omega)))) evl_nil rfl) F kp_builtin rfl) op_add)) (by walk_at "m_upd") hz2 rfl rfl rfl) exs_nil, ?le, es.length + 1, n, rfl, by rw [List.length_append]; rfl, by omega⟩
        case le =>
          rw [List.map_append]
          show Le _ (longR rs (some (.own a (es.map iN ++ [iN (endK rs es es.length)]))) none)
          walk_at "m_le"
        case comp =>
          refine ev_comp (ρc := [((⟨⟨[106]⟩⟩ : Str), none), ((⟨⟨[101, 110, 100, 115]⟩⟩ : Str), some (.own a (es.map iN))), ((⟨⟨[107]⟩⟩ : Str), some (.imm (.int (es.length : Nat)))), ((⟨⟨[114, 97, 110, 107, 115]⟩⟩ : Str), some (.imm (.list (rs.map D.int))))]) ok' (d := .range 0 (es.length : Nat) 1) (ds := (List.range es.length).map iN) (by walk_at "m_ev") (items_to _ (by omega)) ⟨(by decide : [(⟨⟨[106]⟩⟩ : Str), (⟨⟨[101, 110, 100, 115]⟩⟩ : Str), (⟨⟨[107]⟩⟩ : Str), (⟨⟨[114, 97, 110, 107, 115]⟩⟩ : Str)].Nodup), ?sees, ?free, by decide, rfl, by decide⟩ (fun Dd Cc ok2 => ?run) (by omega) (fun _ => rfl)
          case sees =>
            intro x en h
            simp only [List.mem_cons, List.not_mem_nil, or_false, Prod.mk.injEq, reduceCtorEq, and_false, false_or, Option.some.injEq] at h
            rcases h with ⟨rfl, rfl⟩ | ⟨rfl, rfl⟩ | ⟨rfl, rfl⟩
            · exact ⟨by k_mem, rfl, by intro e; cases e⟩
            · exact ⟨by k_mem, rfl, by intro e; cases e⟩
            · exact ⟨by k_mem, rfl, by intro e; cases e⟩
          case free =>
            intro n hn
            simp at hn
            rcases hn with rfl | rfl | rfl <;> rfl
          case run =>
            refine cp_enc ok2 iN (fun j => decide (rs.getD j 0 < rs.getD es.length 0)) (fun j => iN (es.getD j 0)) (fun j => [((⟨⟨[106]⟩⟩ : Str), some (.imm (iN j))), ((⟨⟨[101, 110, 100, 115]⟩⟩ : Str), some (.own a (es.map iN))), ((⟨⟨[107]⟩⟩ : Str), some (.imm (.int (es.length : Nat)))), ((⟨⟨[114, 97, 110, 107, 115]⟩⟩ : Str), some (.imm (.list (rs.map D.int))))]) (fun s => by walk_at "m_upd") rfl (fun s => by walk_at "m_le") _ (fun j hj => ?_)
            have hj := List.mem_range.mp hj
            have rj := rs_at j (by omega)
            have ej := nD_at hj
            exact ⟨ts_one (by walk_at "m_tr"), fun _ => by walk_at "m_ev"⟩
  walk_at "m_fnc"
end
end Mine
end
section
namespace Mine
open PySem PySem.W PySem.Calls PyProof.Rows PySem.Spec
section
variable {c : Cx} {f : Fx} {ρ ρ' ρ1 ρ2 : Rho} {k : Nat} {l : List Env} {c2 : Value}
noncomputable def ExW (c : Cx) (f : Fx) (l : List Env) (ρ : Rho) (st : Stmt) (ρ' : Rho) (o : Out) : Prop :=
  ∀ (s : Shared) (Q : Flow → Shared → Prop) (E : Value → Shared → Prop), St c f ρ s.heap → Fz c f l s.heap →
    (∀ fl h' tk, Slo f.X f.M s.heap h' → FlRep c.C h' f.X f.M fl o → St c f ρ' h' → Q fl { s with heap := h', toks := tk }) →
    wpAny (model c.prog c.w) f.A (exec st f.env) Q E s
noncomputable def ExsW (c : Cx) (f : Fx) (l : List Env) (ρ : Rho) (st : List Stmt) (ρ' : Rho) (o : Out) : Prop :=
  ∀ (s : Shared) (Q : Flow → Shared → Prop) (E : Value → Shared → Prop), St c f ρ s.heap → Fz c f l s.heap →
    (∀ fl h' tk, Slo f.X f.M s.heap h' → FlRep c.C h' f.X f.M fl o → St c f ρ' h' → Q fl { s with heap := h', toks := tk }) →
    wpAny (model c.prog c.w) f.A (execs st f.env) Q E s
noncomputable def BdW (c : Cx) (f : Fx) (l : List Env) (ρ : Rho) (st : List Stmt) (d : D) : Prop :=
  ∀ (s : Shared) (Q : Flow → Shared → Prop) (E : Value → Shared → Prop), St c f ρ s.heap → Fz c f l s.heap →
    (∀ v h' tk, Slo f.X f.M s.heap h' → Rep c.C h' f.Y v d → Q (.ret v) { s with heap := h', toks := tk }) → wpAny (model c.prog c.w) f.A (execs st f.env) Q E s
noncomputable def EvW (c : Cx) (f : Fx) (l : List Env) (ρ : Rho) (e : Expr) (d : D) : Prop :=
  ∀ (s : Shared) (Q E : Value → Shared → Prop), St c f ρ s.heap → Fz c f l s.heap → (∀ v h' tk, Slo f.X (fun _ => False) s.heap h' → Rep c.C h' f.X v d → Q v { s with heap := h', toks := tk }) →
    wpAny (model c.prog c.w) f.A (eval e f.env) Q E s
noncomputable def FnW (c : Cx) (k : Nat) (fv : Value) (ds : List D) (d : D) : Prop :=
  ∀ (A : Around) (X : Addr → Prop) (l : List Env) (s : Shared) (vs : List Value) (Q E : Value → Shared → Prop), Room k A → Ext c.g s.heap → (∀ a, X a → c.g.get? a = none) → (∀ a, X a → ∃ o, s.heap.get? a = some o) →
    A.frames = some l → s.heap.FunFrames c.g l → (∀ b, FSet l b → X b) → Reps c.C s.heap X vs ds →
    (∀ v h' tk, Slo X (fun _ => False) s.heap h' → Rep c.C h' X v d → Q v { s with heap := h', toks := tk }) → wpAny (model c.prog c.w) A (call fv vs) Q E s
theorem fnW_of {fv : Value} {ds : List D} {d : D} (F : Fn c k fv ds d) : FnW c k fv ds d := fun A X l s vs Q E room ext hX xok _ _ _ r q => F A X s vs Q E room ext hX xok r fun v h' tk x r => q v h' tk (.of_ext x) r
theorem slo_m {X M : Addr → Prop} {h h' : Heap} (k : Slo X (fun _ => False) h h') : Slo X M h h' := ⟨k.keep, fun b o x _ e => k.slot b o x (fun q => q) e, k.there⟩
theorem exw_of {st : Stmt} {o : Out} (mx : ∀ a, f.M a → f.X a) (h : Ex c f ρ st ρ' o) : ExW c f l ρ st ρ' o := fun s Q E hs _ q => h s Q E hs fun fl h' tk x r s' => q fl h' tk (.of_keep x mx) r s'
theorem exsw_of {st : List Stmt} {o : Out} (mx : ∀ a, f.M a → f.X a) (h : Exs c f ρ st ρ' o) : ExsW c f l ρ st ρ' o := fun s Q E hs _ q => h s Q E hs fun fl h' tk x r s' => q fl h' tk (.of_keep x mx) r s'
theorem bdw_of {st : List Stmt} {d : D} (mx : ∀ a, f.M a → f.X a) (h : Bd c f ρ st d) : BdW c f l ρ st d := fun s Q E hs _ q => h s Q E hs fun v h' tk x r => q v h' tk (.of_keep x mx) r
theorem exsw_nil : ExsW c f l ρ [] ρ .next := fun s Q E st _ q => wpAny_execs_nil (q .next s.heap s.toks (Slo.refl _) trivial st)
theorem exsw_cons {st : Stmt} {rest : List Stmt} {o : Out} (h1 : ExW c f l ρ st ρ1 .next) (h2 : ExsW c f l ρ1 rest ρ' o) : ExsW c f l ρ (st :: rest) ρ' o := fun s Q E hst z q =>
  wpAny_execs_cons (h1 s _ E hst z fun fl h1 t1 x1 r1 s1 => by
    cases fl with
    | next => exact h2 _ _ E s1 (z.st x1 s1) fun fl h2 t2 x2 r2 s2 => q fl h2 t2 (x1.trans x2) r2 s2
    | _ => exact r1.elim)
theorem exsw_stop {st : Stmt} {rest : List Stmt} {o : Out} (h1 : ExW c f l ρ st ρ' o) (ho : o ≠ .next) : ExsW c f l ρ (st :: rest) ρ' o := fun s Q E hst z q =>
  wpAny_execs_cons (h1 s _ E hst z fun fl h1 t1 x1 r1 s1 => by
    cases fl with
    | next => cases o <;> first | exact absurd rfl ho | exact r1.elim
    | _ => exact q _ h1 t1 x1 r1 s1)
theorem exsw_le {st : List Stmt} {o : Out} (h : ExsW c f l ρ st ρ1 o) (le : Le ρ1 ρ') : ExsW c f l ρ st ρ' o := fun s Q E hst z q => h s Q E hst z fun fl h1 t1 x1 r1 s1 => q fl h1 t1 x1 r1 (s1.sub le)
theorem exw_if {test : Expr} {body orelse : List Stmt} {pos : Pos} {b : Bool} {o : Out} (mx : ∀ a, f.M a → f.X a) (t : Tr c f ρ test b) (h : ExsW c f l ρ (if b then body else orelse) ρ' o) : ExW c f l ρ (.If test body orelse pos) ρ' o := fun s Q E st z q =>
  wpAny_If (t s _ E st fun h1 t1 x1 => by
    have y : Slo f.X f.M s.heap h1 := .of_ext x1
    cases b with
    | true => exact h _ _ E (st.up x1) (z.st y (st.up x1)) fun fl h2 t2 x2 r2 s2 => q fl h2 t2 (y.trans x2) r2 s2
    | false => exact h _ _ E (st.up x1) (z.st y (st.up x1)) fun fl h2 t2 x2 r2 s2 => q fl h2 t2 (y.trans x2) r2 s2)
theorem bdw_seq {st : Stmt} {rest : List Stmt} {d : D} (h1 : ExW c f l ρ st ρ' .next) (h2 : BdW c f l ρ' rest d) : BdW c f l ρ (st :: rest) d := fun s Q E hst z q =>
  wpAny_execs_cons (h1 s _ E hst z fun fl h1 t1 x1 r1 s1 => by
    cases fl with
    | next => exact h2 _ _ E s1 (z.st x1 s1) fun v h2 t2 x2 r2 => q v h2 t2 (x1.trans x2) r2
    | _ => exact r1.elim)
theorem evw_call (o : Ok c f k) {x : Str} {px : Pos} {e : Expr} {es : List Expr} {pos : Pos} {fv : Value} {ds : List D} {d : D} (hf : Ev c f ρ (.Name x px) (.val fv)) (ha : EvL c f ρ (e :: es) ds) (F : FnW c k fv ds d) (kp : Kp c fv)
    (hs : (e :: es).all (fun e => !isStarred e) = true) : EvW c f l ρ (.Call (.Name x px) (e :: es) [] pos) d := fun s Q E st z q => by
  refine wpAny_Call_NameR (hf s _ E st fun v h1 t1 x1 r1 => ?_)
  cases r1
  refine kp f.A _ pos _ Q E (by rw [any_backTo]; exact evl_any hs _) (args_of (by rw [List.all_cons, Bool.and_eq_true] at hs; simpa using hs.1) (ha pos _ _ E (st.up x1) fun vs h2 t2 x2 r2 => ?_))
  have st2 := (st.up x1).up x2
  have z2 := z.st (.of_ext (x1.trans x2)) st2
  exact ⟨st2.ext, F f.A f.X l _ vs Q E o.room st2.ext o.dis st2.xok z2.fr z2.ff z2.fx r2 fun v h3 t3 x3 r3 => q v h3 t3 ((Slo.of_ext (x1.trans x2)).trans x3) r3⟩
theorem exw_assign (o : Ok c f k) {x : Str} {e : Expr} {d : D} {px pos : Pos} (h : EvW c f l ρ e d) (u : Upd ρ x (some (.imm d)) ρ') (hk : Stor f x) (hs : swapsWith e (some (.Name x px)) pos.line f.env = pure false) :
    ExW c f l ρ (.Assign [.Name x px] e pos) ρ' .next := fun s Q E st z q =>
  wpAny_Assign_Name (h s _ E st z fun v h1 t1 x1 r1 => store_of o u hk (st.slo o.toOkE x1) r1 fun h2 t2 x2 s2 => q .next h2 t2 ((slo_m x1).trans (.of_keep x2 o.mx)) trivial s2) hs
theorem ff_mem {base h : Heap} {b : Addr} (ff : h.FunFrames base l) (hb : FSet l b) : ∃ o, h.get? b = some o := by
  have hb' : b ∈ l.filterMap (·.frame) := hb
  obtain ⟨_, o, e, _⟩ := ff.mem hb'
  exact ⟨o, e⟩
theorem Fz.addr {h : Heap} {o : Obj} (z : Fz c f l h) (hl : ∀ e, f.A.handled = some (.ref e) → ∃ o, h.get? e = some o) : Fz c (f.add h.objs.size) l (h.push o) where
  fr := z.fr
  ff := funFrames_of z.ff fun b o' _ e d => ⟨o', Heap.get?_push_of_some _ e, d⟩
  fx := fun b q => .inl (z.fx b q)
  fm := fun b q m => m.elim (z.fm b q) fun e => by
    obtain ⟨o', e'⟩ := ff_mem z.ff q
    rw [e, fresh_size] at e'; cases e'
  hd := fun e he m => m.elim (z.hd e he) fun q => by
    obtain ⟨o', e'⟩ := hl e he
    rw [q, fresh_size] at e'; cases e'
theorem bdw_own (o : Ok c f k) {x : Str} {e : Expr} {rest : List Stmt} {ds : List D} {d : D} {px pos : Pos} (h : EvF c f ρ e ds) (ρ' : Addr → Rho) (u : ∀ a, Upd ρ x (some (.own a ds)) (ρ' a)) (hk : Stor f x)
    (hs : swapsWith e (some (.Name x px)) pos.line f.env = pure false) (hrest : ∀ a, Ok c (f.add a) k → BdW c (f.add a) l (ρ' a) rest d) : BdW c f l ρ (.Assign [.Name x px] e pos :: rest) d := fun s Q E st z q => by
  refine wpAny_execs_cons (wpAny_Assign_Name (h s _ E st fun a vs h1 n t1 x1 st1 ea r1 => ?_) hs)
  subst ea
  have hga : c.g.get? h1.objs.size = none := by
    cases e : c.g.get? h1.objs.size with
    | none => rfl
    | some o' => have := st1.ext _ _ e; rw [fresh_size] at this; cases this
  have o' := o.add hga
  have st2 := st1.add (o := { cls := .type "list", data := .seq vs.toArray n }) rfl
  have hk' : Stor (f.add h1.objs.size) x := hk.imp id fun ⟨h1, a, h2, h3⟩ => ⟨h1, a, h2, .inl h3⟩
  have fresh : ∀ b, f.X b → b ≠ h1.objs.size := fun b hb e => by
    obtain ⟨o, q⟩ := st1.xok b hb
    rw [e, fresh_size] at q; cases q
  have z1 := z.st (.of_ext x1) st1
  have z2 := z1.addr (o := { cls := .type "list", data := .seq vs.toArray n }) fun e he => by rw [o.room.hd] at he; cases he
  refine store_en (f := f.add h1.objs.size) o' (u h1.objs.size) hk' st2 (v := .ref h1.objs.size) ⟨vs, rfl, .inr rfl, ⟨_, _, Heap.get?_push_size _ rfl, rfl, rfl, rfl⟩, (r1.more (fresh_size h1)).ext (Ext.push _ _)⟩ (fun a ds e y es hm => ?_) fun h3 t3 x3 s3 => ?_
  · cases e
    obtain ⟨v, r⟩ := st1.en hm
    obtain ⟨vs', _, hm', hl, _⟩ := r
    exact fresh _ (o.mx _ hm') rfl
  · have x3' : Slo (f.add h1.objs.size).X (f.add h1.objs.size).M _ _ := .of_keep x3 o'.mx
    refine hrest _ o' _ Q E s3 (z2.st x3' s3) fun v h4 t4 x4 r4 => q v h4 t4 ?_ (r4.less fun b q => ⟨.inl q.1, fun z => z.elim q.2 (fresh b q.1)⟩)
    have big := x3'.trans x4
    have old : ∀ b ob, s.heap.get? b = some ob → b ≠ h1.objs.size := fun b ob e zz => by
      have := x1 b ob e
      rw [zz, fresh_size] at this; cases this
    exact ⟨fun b ob hb e => big.keep b ob (fun zz => zz.elim hb (old b ob e)) (Heap.get?_push_of_some _ (x1 b ob e)), fun b ob hx hm e => big.slot b ob (.inl hx) (fun zz => zz.elim hm (old b ob e)) (Heap.get?_push_of_some _ (x1 b ob e)),
      fun b ob e => big.there b ob (Heap.get?_push_of_some _ (x1 b ob e))⟩
end
end Mine
end
section
namespace Mine
open PySem PySem.W PySem.Calls PyProof.Rows PySem.Spec
theorem list_extend_plainL {prog : Program} {w : World} {A : Around} {E : Value → Shared → Prop} {s : Shared} {l b : Addr} {its its2 : Array Value} {Q : Value → Shared → Prop} (hl : PlainL s.heap l its) (hb : s.heap.IsList b its2)
    (hQ : ∀ h', PlainL h' l (its ++ its2) → Heap.SameBut l s.heap h' → Q .none { s with heap := h' }) (hsz : its.size + its2.size ≤ 1000000) : wpAny (model prog w) A (call (.builtin "list.extend") [.ref l, .ref b]) Q E s := by
  obtain ⟨o, n, ho, hc, hdn, hd⟩ := id hl
  obtain ⟨o2, ho2, hc2, n2, hd2⟩ := id hb
  obtain ⟨n', hd'⟩ := Obj.data_mapSeq hd (· ++ its2)
  have hs1 : its.size ≤ sizeLine := by rw [sizeLine_eq]; omega
  have hs2 : its2.size ≤ sizeLine := by rw [sizeLine_eq]; omega
  have door : ¬ ((!its.isEmpty && Builtin.List.listTooLong (its.size + its2.size)) = true) := extend_door (by rw [sizeLine_eq]; omega)
  refine wpAny_call_entry PySem.F.slot_list_extend hl.isList.typeIs PySem.F.entry_list_extend ?_ (PySem.F.args_list_extend_2 _ _)
  show wpAny _ _ (Builtin.List.listExtendWith (.ref l) (.ref b) .none) _ _ s
  unfold Builtin.List.listExtendWith
  refine wpAny_bind (wpAny_typeOf ⟨o2, ho2, hc2⟩ ?_)
  have h1 : (Builtin.List.listSameRef (.ref l) (.ref b) || Value.type "list" == Value.type "list" || Value.type "list" == Value.type "tuple") = true := by simp
  simp only [h1, if_true]
  refine wpAny_bind ?_
  unfold Builtin.List.listItems
  refine wpAny_bind (wpAny_seqItems ho2 hd2 (wpAny_pure ?_))
  refine wpAny_bind ?_
  refine wpAny_bind (wpAny_seqItems ho hd (wpAny_pure ?_))
  rw [if_neg door]
  show wpAny _ _ (updateSeq l (· ++ its2) >>= fun _ => ret .none) _ _ s
  refine wpAny_bind ?_
  refine wpAny_updateSeq ho hd ?_ hs1 (by rw [Array.size_append, sizeLine_eq]; omega)
  refine wpAny_pure ⟨.none, rfl, hQ _ ?_ (Heap.SameBut.update ..)⟩
  refine ⟨_, n', Heap.get?_update_self _ ho (Obj.isFreed_of_seq hd'), (Obj.cls_mapSeq ..).trans hc, ?_, hd'⟩
  obtain ⟨c, d, dt, sl⟩ := o
  subst hd
  exact hdn
section
variable {c : Cx} {f : Fx} {ρ ρ' : Rho} {k : Nat}
theorem ex_extend (o : OkE c f) {x : Str} {e : Expr} {a : Addr} {ds es : List D} {px apos cpos pos : Pos} (hx : (x, some (En.own a ds)) ∈ ρ) (hd : (x == ("__debug__" : Str) || x == ("__classdict__" : Str)) = false)
    (h : Ev c f ρ e (.list es)) (u : Upd ρ x (some (.own a (ds ++ es))) ρ') (hz : ds.length + es.length ≤ 1000000) (hline : (apos.endLine == cpos.line) = true) (he : isStarred e = false) (hi : interactive f.env = false) :
    Ex c f ρ (.Expr (.Call (.Attribute (.Name x px) "extend" apos) [e] [] cpos) pos) ρ' .next := fun s Q E st q => by
  rw [Bool.or_eq_false_iff] at hd
  have e1 : backTo cpos (starEach [e] f.env) = [(false, eval e f.env)] := by cases e <;> first | rfl | cases he
  refine wpAny_Expr (wpAny_Call_method rfl (by rw [e1]; rfl) hline PySem.F.plainAttrs_list PySem.F.slot_list_extend PySem.F.type_list_extend (wpAny_Name (load_ofE o hx hd.2 st fun v hr => ?_) hd.1)) hi
  obtain ⟨vs, rfl, hm, hl, hs⟩ := hr
  refine ⟨hl.isList.typeIs, fun b eb => by cases eb; obtain ⟨ob, n, e, _, d, _⟩ := hl; exact ⟨ob, e, d⟩, ?_⟩
  rw [e1]
  refine Calls.callWith_builtin rfl (Calls.evalArgs_plain (Calls.spliced_cons (h _ _ E st fun v1 h1 t1 x1 r1 => Calls.spliced_nil ?_)))
  have st1 := st.up x1
  have hl1 := hl.keeps x1
  cases r1 with
  | @list b ws _ hlb hxb hrb =>
  refine list_extend_plainL hl1 hlb (fun h2 hl2 hs2 => ?_) (by rw [List.size_toArray, List.size_toArray, hs.length, hrb.length]; exact hz)
  have hX := o.mx _ hm
  have keep : ∀ y o, ¬ f.X y → h1.get? y = some o → h2.get? y = some o := fun y o n e => (hs2.2 y (fun q => n (q ▸ hX))).trans e
  have xk : ∃ ob, h2.get? a = some ob := let ⟨ob, _, e, _⟩ := hl2; ⟨ob, e⟩
  have um := u.mem st1.nd
  have same : ({ s with heap := h2, toks := t1 } : Shared) = { { s with heap := h1, toks := t1 } with heap := h2 } := rfl
  rw [← same]
  have arr : vs.toArray ++ ws.toArray = (vs ++ ws).toArray := by simp
  rw [arr] at hl2
  have new : EnRep c.C h2 f.X f.M (.ref a) (.own a (ds ++ es)) := ⟨vs ++ ws, rfl, hm, hl2, (((hs.ext x1).append hrb).keep keep)⟩
  obtain ⟨m, hn, hr⟩ := st1.ns
  have other : ∀ {y : Str} {en : En} {v : Value}, (y, some en) ∈ ρ → y ≠ x → EnRep c.C h1 f.X f.M v en → EnRep c.C h2 f.X f.M v en := fun {y en v} hy hyx r => r.same hs2 hX fun b es e => by
    subst e
    intro e2
    subst e2
    exact hyx (st1.oa _ _ _ _ _ hy hx)
  have noa : ∀ x y a ds es, (x, some (En.own a ds)) ∈ ρ' → (y, some (En.own a es)) ∈ ρ' → x = y := by
    intro x1 y1 a' ds' es' h1 h2
    rcases um _ h1 with e1 | ⟨e1, n1⟩ <;> rcases um _ h2 with e2 | ⟨e2, n2⟩
    · cases e1; cases e2; rfl
    · cases e1; exact (st1.oa _ _ _ _ _ hx e2)
    · cases e2; exact (st1.oa _ _ _ _ _ e1 hx)
    · exact st1.oa _ _ _ _ _ e1 e2
  refine q .next h2 t1 (x1.keep.trans (Keep.same hs2 hm xk)) trivial ⟨by rw [u.names]; exact st1.nd, st1.ext.sameBut hs2 (o.dis _ hX), fun b hb => ?_, fun y b e => ?_, noa, ⟨m, hn.sameBut hs2 (ns_ne_list hn hl1.isList), fun y en hy hyl => ?_⟩, fun y en hy hyl => ?_⟩
  · by_cases e : b = a
    · subst e; exact xk
    · obtain ⟨ob, q⟩ := st1.xok b hb; exact ⟨ob, (hs2.2 b e).trans q⟩
  · obtain ⟨v', x'⟩ := st1.cl y b e
    exact ⟨v', x'.sameBut hs2 (cell_ne_list x' hl1.isList)⟩
  · rcases um _ hy with e1 | ⟨e1, n1⟩
    · cases e1
      obtain ⟨v', hv', r'⟩ := hr x _ hx hyl
      obtain ⟨_, rfl, _⟩ := r'
      exact ⟨_, hv', new⟩
    · obtain ⟨v', hv', r'⟩ := hr y en e1 hyl
      exact ⟨v', hv', other e1 n1 r'⟩
  · rcases um _ hy with e1 | ⟨e1, n1⟩
    · cases e1
      obtain ⟨b, v', hk, hc, hv, r'⟩ := st1.cs x _ hx hyl
      obtain ⟨_, rfl, _⟩ := r'
      exact ⟨b, _, hk, hc, hv.sameBut hs2 (cell_ne_list hv hl1.isList), new⟩
    · obtain ⟨b, v', hk, hc, hv, r'⟩ := st1.cs y en e1 hyl
      exact ⟨b, v', hk, hc, hv.sameBut hs2 (cell_ne_list hv hl1.isList), other e1 n1 r'⟩
theorem cm_deqE (hu : f.A.units + 100 < cLine) {d e : D} (hd : d.pl 9 = true) (he : e.pl 9 = true) : Cm c f .Eq d e (PyData.eqv d.py e.py) := fun s v1 v2 Q E w r1 r2 q => by
  obtain ⟨as, ra⟩ := r1.reads hd
  obtain ⟨bs, rb⟩ := r2.reads he
  exact PySem.SeqAt.compareEq_shaped ra rb (pl_shaped hd) (pl_shaped he) (by omega) (q s.heap s.toks (Ext.refl _))
theorem ev_bltE (B : Base c) (o : OkE c f) {x : Str} {pos : Pos} {v : Value} (hk : f.env.kindOf x = some .globalImplicit) (e : nsIn (K0 c.w.params) mainGlobals x = some none) (hv : bootBuiltins x = some v)
    (hn : (x == ("__debug__" : Str) || x == ("__name__" : Str)) = false) : Ev c f ρ (.Name x pos) (.val v) := fun s Q E st k => by
  obtain ⟨mg, mb, hg, hb, hbb⟩ := B.top
  rw [Bool.or_eq_false_iff] at hn
  refine Name_function_global o.kind hk (loadGlobal_builtin (mg := mg) (mb := mb) ?_ (mg_none_of B.K hg e) ?_ ((hbb x (by simpa using hn.2)).trans hv) (k v s.heap s.toks (Ext.refl _) (.val v))) hn.1
  · rw [o.glob]; exact hg.keeps st.ext
  · rw [o.blt]; exact hb.keeps st.ext
/-- a subscript out of the list -/
theorem rz_sub (o : OkE c f) {x : Str} {px : Pos} {slice : Expr} {pos : Pos} {ds : List D} {i : Nat} {c2 : Value} (hx : (x, some (En.imm (.list ds))) ∈ ρ) (hd : (x == ("__debug__" : Str) || x == ("__classdict__" : Str)) = false)
    (h2 : Ev c f ρ slice (.int (i : Int))) (hi : ds.length ≤ i) (hb : i ≤ 1000000) (hs : ∀ l u t p, slice ≠ .Slice l u t p) {s : Shared} {Q E : Value → Shared → Prop} (st : St c f ρ s.heap) (hA : HdAt f.A s.heap c2)
    (hE : ∀ h' tk e, Ext s.heap h' → s.heap.get? e = none → Raw h' e c2 → E (.ref e) { s with heap := h', toks := tk }) : wpAny (model c.prog c.w) f.A (eval (.Subscript (.Name x px) slice pos) f.env) Q E s :=
  Subscript_ (ev_nameE o hx hd s _ E st fun v1 s1 t1 x1 r1 => h2 _ _ E (st.up x1) fun v2 s2 t2 x2 r2 => by
    have r1' := r1.ext x2
    cases r2 with
    | int _ t =>
      cases r1' with
      | list hl hx hr =>
        have hA' : HdAt f.A s2 c2 := by
          rcases hA with hA | ⟨e0, o0, vs0, h1, h2, h3, h4⟩
          · exact .inl hA
          · exact .inr ⟨e0, o0, vs0, h1, h2, x2 _ _ (x1 _ _ h3), h4⟩
        refine tail_any hl.typeIs slot_list_getitem.lookup ?_ (sub_plain hs _ _)
        refine item_out (s := { s with heap := s2, toks := t2 }) hA' hl (by rw [List.size_toArray, hr.length]; omega) (by omega) fun h' tk e k n r => hE h' tk e ((x1.trans x2).trans k) ?_ r
        cases q : s.heap.get? e with
        | none => rfl
        | some ob => rw [x2 _ _ (x1 _ _ q)] at n; cases n)
end
end Mine
end
section
namespace Mine
open PySem PySem.W PySem.Calls PyProof.Rows PySem.Spec
theorem Slo.wide {X M Y N : Addr → Prop} {h h' : Heap} (k : Slo X M h h') (hx : ∀ b, X b → Y b) (hm : ∀ b, X b → M b → N b) : Slo Y N h h' :=
  ⟨fun b o n e => k.keep b o (fun z => n (hx b z)) e, fun b o _ n e => by
    by_cases q : X b
    · exact k.slot b o q (fun z => n (hm b q z)) e
    · exact ⟨o.slots, k.keep b o q e⟩, k.there⟩
theorem Slo.cut {X M Y N : Addr → Prop} {h h' : Heap} (k : Slo Y N h h') (hy : ∀ b o, h.get? b = some o → Y b → X b) (hx : ∀ b, X b → Y b) (hn : ∀ b o, h.get? b = some o → N b → M b) : Slo X M h h' :=
  ⟨fun b o n e => k.keep b o (fun z => n (hy b o e z)) e, fun b o n m e => k.slot b o (hx b n) (fun z => m (hn b o e z)) e, k.there⟩
section
variable {c : Cx} {f : Fx} {ρ ρ' ρ1 ρ2 : Rho} {k : Nat} {outer : List Env} {c2 : Value} {L : Addr}
/-- an object of X with fields changes, perhaps others' slots, and T is new -/
theorem St.gen {h h' : Heap} {e T : Addr} (o : OkE c f) (s : St c f ρ h) (hX : f.X e) (he : ∃ ob vs, h.get? e = some ob ∧ ob.data = .fields vs) (hT : h.get? T = none) (hgT : c.g.get? T = none) (xT : ∃ ob, h'.get? T = some ob) (xe : ∃ ob, h'.get? e = some ob)
    (keep : ∀ b ob, ¬ f.X b → h.get? b = some ob → h'.get? b = some ob) (slot : ∀ b ob, f.X b → b ≠ e → h.get? b = some ob → ∃ sl, h'.get? b = some { ob with slots := sl })
    (Y : Addr → Prop) (hY : ∀ b, Y b → f.X b ∨ b = T) : St c { f with X := Y } ρ h' := by
  obtain ⟨oe, ve, hoe, hde⟩ := he
  have any : ∀ b ob, b ≠ e → h.get? b = some ob → ∃ sl, h'.get? b = some { ob with slots := sl } := fun b ob n q => by
    by_cases x : f.X b
    · exact slot b ob x n q
    · exact ⟨ob.slots, keep b ob x q⟩
  have cellK : ∀ {a : Addr} {v : Option Value}, h.IsCell a v → h'.IsCell a v := fun {a v} n => by
    obtain ⟨ob, q, d⟩ := n
    obtain ⟨sl, q'⟩ := any a ob (fun z => by rw [z, hoe] at q; cases q; rw [hde] at d; cases d) q
    exact ⟨_, q', d⟩
  have repK : ∀ {v : Value} {d : D}, Rep c.C h f.X v d → Rep c.C h' Y v d := fun {v d} r => ((Rep.more hT r).keep fun b ob n q => keep b ob (fun x => n (.inl x)) q).less hY
  have repsK : ∀ {v : List Value} {d : List D}, Reps c.C h f.X v d → Reps c.C h' Y v d := fun {v d} r => ((Reps.more hT r).keep fun b ob n q => keep b ob (fun x => n (.inl x)) q).less hY
  have enK : ∀ {v : Value} {en : En}, EnRep c.C h f.X f.M v en → EnRep c.C h' Y f.M v en := fun {v en} r => by
    cases en with
    | imm d => exact repK r
    | own a ds =>
      obtain ⟨vs, e1, hm, ⟨ob, n, h1, h2, h3, h4⟩, hr⟩ := r
      obtain ⟨sl, q'⟩ := any a ob (fun z => by rw [z, hoe] at h1; cases h1; rw [hde] at h4; cases h4) h1
      exact ⟨vs, e1, hm, ⟨_, n, q', h2, h3, h4⟩, repsK hr⟩
  have gdis : ∀ b, f.X b → c.g.get? b = none := o.dis
  refine ⟨s.nd, fun b ob q => keep b ob (fun x => by rw [gdis b x] at q; cases q) (s.ext b ob q), fun a z => ?_, fun x a q => let ⟨v, q⟩ := s.cl x a q; ⟨v, cellK q⟩, s.oa, ?_, fun x en hx hl => let ⟨a, v, h1, h2, h3, h4⟩ := s.cs x en hx hl; ⟨a, v, h1, h2, cellK h3, enK h4⟩⟩
  · rcases hY a z with z | z
    · by_cases q : a = e
      · exact q ▸ xe
      · obtain ⟨ob, q'⟩ := s.xok a z
        obtain ⟨sl, q''⟩ := any a ob q q'
        exact ⟨_, q''⟩
    · exact z ▸ xT
  · obtain ⟨m, hn, r⟩ := s.ns
    obtain ⟨ob, es, ep, e1, d, r1⟩ := hn
    obtain ⟨sl, q'⟩ := any f.env.locals ob (fun z => by rw [z, hoe] at e1; cases e1; rw [hde] at d; cases d) e1
    exact ⟨m, ⟨_, es, ep, q', d, r1⟩, fun x en hx hl => let ⟨v, h1, h2⟩ := r x en hx hl; ⟨v, h1, enK h2⟩⟩
/-- caught, or flying: the exception e with its traceback T -/
structure Got (c : Cx) (f : Fx) (ρ : Rho) (h h' : Heap) (e T : Addr) (fl c2 : Value) : Prop where
  ne : h.get? e = none
  nT : h.get? T = none
  slo : Slo f.X f.M h h'
  fly : Fly h' e T fl c2
  st : St c (f.ad e T) ρ h'
noncomputable def Exc (c : Cx) (f : Fx) (ρ : Rho) (L : Addr) (h h' : Heap) (e : Addr) (c2 : Value) : Prop :=
  (h.get? e = none ∧ Slo f.X f.M h h' ∧ Raw h' e c2 ∧ St c (f.ad e e) ρ h') ∨ ∃ T, Got c f ρ h h' e T (rawInt L) c2
theorem Got.back {h0 h h' : Heap} {e T : Addr} {fl : Value} (k : Slo f.X f.M h0 h) (g : Got c f ρ h h' e T fl c2) : Got c f ρ h0 h' e T fl c2 := by
  refine ⟨?_, ?_, k.trans g.slo, g.fly, g.st⟩
  · cases q : h0.get? e with
    | none => rfl
    | some o => obtain ⟨o', q'⟩ := k.there _ _ q; rw [g.ne] at q'; cases q'
  · cases q : h0.get? T with
    | none => rfl
    | some o => obtain ⟨o', q'⟩ := k.there _ _ q; rw [g.nT] at q'; cases q'
theorem Exc.back {h0 h h' : Heap} {e : Addr} (k : Slo f.X f.M h0 h) (g : Exc c f ρ L h h' e c2) : Exc c f ρ L h0 h' e c2 := by
  rcases g with ⟨ne, sl, r, st⟩ | ⟨T, g⟩
  · refine .inl ⟨?_, k.trans sl, r, st⟩
    cases q : h0.get? e with
    | none => rfl
    | some o => obtain ⟨o', q'⟩ := k.there _ _ q; rw [ne] at q'; cases q'
  · exact .inr ⟨T, g.back k⟩
/-- the flight's note changes -/
theorem Got.same {h h1 h2 : Heap} {e T : Addr} {fl fl' : Value} (o : OkE c f) (gx : Ext c.g h) (g : Got c f ρ h h1 e T fl c2) (hs : Heap.SameBut T h1 h2) (xT : ∃ ob, h2.get? T = some ob) (fly : Fly h2 e T fl' c2) : Got c f ρ h h2 e T fl' c2 := by
  refine ⟨g.ne, g.nT, ?_, fly, ?_⟩
  · refine ((g.slo.wide (Y := fun b => f.X b ∨ b = T) (N := fun b => f.M b ∨ b = T) (fun _ => .inl) (fun _ _ => .inl)).trans ⟨fun b ob n q => (hs.2 b fun z => n (.inr z)).trans q, fun b ob _ n q => ⟨ob.slots, (hs.2 b fun z => n (.inr z)).trans q⟩, fun b ob q => ?_⟩).cut (fun b ob q z => ?_) (fun _ => .inl) (fun b ob q z => ?_)
    · by_cases z : b = T
      · exact z ▸ xT
      · exact ⟨ob, (hs.2 b z).trans q⟩
    · exact z.elim id fun z => by rw [z, g.nT] at q; cases q
    · exact z.elim id fun z => by rw [z, g.nT] at q; cases q
  · obtain ⟨oe, vs, oT, ts, a1, a2, a3, a4, a5, a6, a7, a8, a9⟩ := g.fly
    have n1 : ∀ a, h.get? a = none → c.g.get? a = none := fun a q => by
      cases e : c.g.get? a with
      | none => rfl
      | some o => rw [gx _ _ e] at q; cases q
    have oE : OkE c (f.ad e T) := o.ad (n1 _ g.ne) (n1 _ g.nT)
    exact st_rec oE g.st hs (.inr (.inr rfl)) ⟨oT, ts, a7, a8⟩ xT
theorem exc_note {A : Around} {h : Heap} {s : Shared} {e : Addr} {Q : Unit → Shared → Prop} {E : Value → Shared → Prop} (o : OkE c f) (gx : Ext c.g h) (hfr : A.frames = some (f.env :: outer)) (hL : f.env.frame = some L) (z : Fz c f (f.env :: outer) h)
    (g : Exc c f ρ L h s.heap e c2) (q : ∀ h' T, Got c f ρ h h' e T (rawInt L) c2 → Q () { s with heap := h' }) : wpAny (model c.prog c.w) A (noteFrame (.ref e) f.env) Q E s := by
  rcases g with ⟨ne, sl, r, st⟩ | ⟨T, g⟩
  · obtain ⟨m, hn, _⟩ := st.ns
    have z1 := z.slo sl hn
    have n1 : ∀ a, h.get? a = none → c.g.get? a = none := fun a q => by
      cases e : c.g.get? a with
      | none => rfl
      | some o => rw [gx _ _ e] at q; cases q
    have oE : OkE c (f.ad e e) := o.ad (n1 _ ne) (n1 _ ne)
    have r' := r
    obtain ⟨oe, vs, a1, a2, a3, a4, a5⟩ := r'
    refine note_new hfr z1.ff hL r fun h' T kp sl' nT fl => q h' T ?_
    have nT0 : h.get? T = none := by
      cases w : h.get? T with
      | none => rfl
      | some ob => obtain ⟨ob', w'⟩ := sl.there _ _ w; rw [nT] at w'; cases w'
    have fl' := fl
    obtain ⟨oe2, vs2, oT, ts, b1, b2, b3, b4, b5, b6, b7, b8, b9⟩ := fl'
    have chg : ∀ b ob, ¬ (f.X b ∨ b = e) → s.heap.get? b = some ob → h'.get? b = some ob := fun b ob n w => kp b ob (fun y => n (.inr y)) (fun y => n (.inl (z.fx b y))) w
    have chs : ∀ b ob, b ≠ e → s.heap.get? b = some ob → ∃ sl, h'.get? b = some { ob with slots := sl } := fun b ob n w => by
      by_cases y : FSet (f.env :: outer) b
      · exact sl' b ob y w
      · exact ⟨ob.slots, kp b ob n y w⟩
    refine ⟨ne, nT0, ?_, fl, ?_⟩
    · refine ((sl.wide (Y := fun b => f.X b ∨ b = e) (N := fun b => f.M b ∨ b = e) (fun _ => .inl) (fun _ _ => .inl)).trans ⟨chg, fun b ob _ n w => chs b ob (fun y => n (.inr y)) w, fun b ob w => ?_⟩).cut (fun b ob w y => ?_) (fun _ => .inl) (fun b ob w y => ?_)
      · by_cases y : b = e
        · exact ⟨oe2, y ▸ b1⟩
        · obtain ⟨sl, w'⟩ := chs b ob y w; exact ⟨_, w'⟩
      · exact y.elim id fun y => by rw [y, ne] at w; cases w
      · exact y.elim id fun y => by rw [y, ne] at w; cases w
    · exact St.gen oE st (.inr (.inl rfl)) ⟨oe, vs, a1, a3⟩ nT (n1 _ nT0) ⟨oT, b7⟩ ⟨oe2, b1⟩ (fun b ob n w => chg b ob (fun y => n (y.elim .inl fun y => .inr (.inl y))) w) (fun b ob _ n w => chs b ob n w) _ fun b y => y.elim (fun y => .inl (.inl y)) fun y => y.elim (fun y => .inl (.inr (.inl y))) .inr
  · exact note_again hL g.fly (q s.heap T g)
theorem got_flight {A : Around} {h : Heap} {s : Shared} {e T : Addr} {fl : Value} {fr : Option Addr} {Q : Unit → Shared → Prop} {E : Value → Shared → Prop} (o : OkE c f) (gx : Ext c.g h) (g : Got c f ρ h s.heap e T fl c2)
    (q : ∀ h', Got c f ρ h h' e T (fr.elim .none fun f => rawInt f) c2 → Q () { s with heap := h' }) : wpAny (model c.prog c.w) A (setFlight (.ref e) fr) Q E s :=
  flight_set g.fly fun h' hs xT fl' => q h' (g.same o gx hs xT fl')
theorem got_back {A : Around} {h : Heap} {s : Shared} {e T : Addr} {fl : Value} {E : Value → Shared → Prop} (o : OkE c f) (gx : Ext c.g h) (hL : f.env.frame = some L) (g : Got c f ρ h s.heap e T fl c2)
    (q : ∀ h', Got c f ρ h h' e T (rawInt L) c2 → E (.ref e) { s with heap := h' }) : cameBackBy (model c.prog c.w) A f.env E (.ref e) s :=
  back_set (Ev := E) hL g.fly fun h' hs xT fl' => q h' (g.same o gx hs xT fl')
theorem got_pass {α : Type} {what : String} {A : Around} {h : Heap} {s : Shared} {e T : Addr} {fl : Value} {Q : α → Shared → Prop} {E : Value → Shared → Prop} (o : OkE c f) (gx : Ext c.g h) (hL : f.env.frame = some L) (g : Got c f ρ h s.heap e T fl c2)
    (q : ∀ h', Got c f ρ h h' e T (rawInt L) c2 → E (.ref e) { s with heap := h' }) : wpAny (model c.prog c.w) A (PySem.passOn what (.ref e) f.env) Q E s :=
  pass_on hL g.fly fun h' hs xT fl' => q h' (g.same o gx hs xT fl')
end
end Mine
end
section
namespace Mine
open PySem PySem.W PySem.Calls PyProof.Rows PySem.Spec
section
variable {c : Cx} {f : Fx} {ρ ρ' ρ1 ρ2 : Rho} {k : Nat} {outer : List Env} {c2 : Value} {L : Addr} {P : Value → Prop}
/-- a statement that raises -/
noncomputable def Rz1 (c : Cx) (f : Fx) (L : Addr) (outer : List Env) (ρ : Rho) (st : Stmt) (ρ' : Rho) (c2 : Value) (P : Value → Prop) : Prop :=
  ∀ (s : Shared) (Q : Flow → Shared → Prop) (E : Value → Shared → Prop), St c f ρ s.heap → Fz c f (f.env :: outer) s.heap → HdAt f.A s.heap c2 →
    (∀ e c3 h' tk, Exc c f ρ' L s.heap h' e c3 → P c3 → E (.ref e) { s with heap := h', toks := tk }) → wpAny (model c.prog c.w) f.A (exec st f.env) Q E s
noncomputable def RzS (c : Cx) (f : Fx) (L : Addr) (outer : List Env) (ρ : Rho) (st : List Stmt) (ρ' : Rho) (c2 : Value) (P : Value → Prop) : Prop :=
  ∀ (s : Shared) (Q : Flow → Shared → Prop) (E : Value → Shared → Prop), St c f ρ s.heap → Fz c f (f.env :: outer) s.heap → HdAt f.A s.heap c2 →
    (∀ e c3 h' tk, Exc c f ρ' L s.heap h' e c3 → P c3 → E (.ref e) { s with heap := h', toks := tk }) → wpAny (model c.prog c.w) f.A (execs st f.env) Q E s
noncomputable def AnyV (_ : Value) : Prop := True
theorem RzS.any {st : List Stmt} (h : RzS c f L outer ρ st ρ' c2 P) : RzS c f L outer ρ st ρ' c2 AnyV := fun s Q E st z hA q => h s Q E st z hA fun e c3 h' tk x _ => q e c3 h' tk x trivial
theorem HdAt.slo {A : Around} {X M : Addr → Prop} {h h' : Heap} (hm : ∀ e, A.handled = some (.ref e) → ¬ M e) (k : Slo X M h h') (x : HdAt A h c2) : HdAt A h' c2 := by
  rcases x with x | ⟨e0, o0, vs0, h1, h2, h3, h4, h5⟩
  · exact .inl x
  · by_cases q : X e0
    · obtain ⟨sl, w⟩ := k.slot e0 o0 q (hm e0 h1) h3
      exact .inr ⟨e0, _, vs0, h1, h2, w, h4, h5⟩
    · exact .inr ⟨e0, o0, vs0, h1, h2, k.keep e0 o0 q h3, h4, h5⟩
theorem Exc.le {h h' : Heap} {e : Addr} (l : Le ρ ρ') (x : Exc c f ρ L h h' e c2) : Exc c f ρ' L h h' e c2 := by
  rcases x with ⟨a, b, r, st⟩ | ⟨T, g⟩
  · exact .inl ⟨a, b, r, st.sub l⟩
  · exact .inr ⟨T, g.ne, g.nT, g.slo, g.fly, g.st.sub l⟩
theorem rzs_one {st : Stmt} {rest : List Stmt} (h : Rz1 c f L outer ρ st ρ' c2 P) : RzS c f L outer ρ (st :: rest) ρ' c2 P := fun s Q E hst z hA q => wpAny_execs_cons (h s _ E hst z hA q)
theorem rzs_cons {st : Stmt} {rest : List Stmt} (h1 : ExW c f (f.env :: outer) ρ st ρ1 .next) (h2 : RzS c f L outer ρ1 rest ρ' c2 P) : RzS c f L outer ρ (st :: rest) ρ' c2 P := fun s Q E hst z hA q =>
  wpAny_execs_cons (h1 s _ E hst z fun fl h1 t1 x1 r1 s1 => by
    cases fl with
    | next => exact h2 _ _ E s1 (z.st x1 s1) (hA.slo z.hd x1) fun e c3 h2 t2 x2 p => q e c3 h2 t2 (x2.back x1) p
    | _ => exact r1.elim)
theorem rzs_le {st : List Stmt} (h : RzS c f L outer ρ st ρ1 c2 P) (l : Le ρ1 ρ') : RzS c f L outer ρ st ρ' c2 P := fun s Q E hst z hA q => h s Q E hst z hA fun e c3 h' tk x p => q e c3 h' tk (x.le l) p
theorem rz_if {test : Expr} {body orelse : List Stmt} {pos : Pos} {b : Bool} (t : Tr c f ρ test b) (h : RzS c f L outer ρ (if b then body else orelse) ρ' c2 P) : Rz1 c f L outer ρ (.If test body orelse pos) ρ' c2 P := fun s Q E st z hA q =>
  wpAny_If (t s _ E st fun h1 t1 x1 => by
    have y : Slo f.X f.M s.heap h1 := .of_ext x1
    cases b with
    | true => exact h _ _ E (st.up x1) (z.st y (st.up x1)) (hA.slo z.hd y) fun e c3 h2 t2 x2 p => q e c3 h2 t2 (x2.back y) p
    | false => exact h _ _ E (st.up x1) (z.st y (st.up x1)) (hA.slo z.hd y) fun e c3 h2 t2 x2 p => q e c3 h2 t2 (x2.back y) p)
/-- an expression that raises at once -/
noncomputable def RzE (c : Cx) (f : Fx) (ρ : Rho) (e : Expr) (c2 : Value) : Prop :=
  ∀ (s : Shared) (Q E : Value → Shared → Prop), St c f ρ s.heap → HdAt f.A s.heap c2 → (∀ h' tk e, Ext s.heap h' → s.heap.get? e = none → Raw h' e c2 → E (.ref e) { s with heap := h', toks := tk }) → wpAny (model c.prog c.w) f.A (eval e f.env) Q E s
theorem exc_raw {h h' : Heap} {e : Addr} (o : OkE c f) (st : St c f ρ h) (x : Ext h h') (n : h.get? e = none) (r : Raw h' e c2) : Exc c f ρ L h h' e c2 := by
  have r' := r
  obtain ⟨oe, vs, a1, _⟩ := r'
  exact .inl ⟨n, .of_ext x, r, st.ad n n x ⟨oe, a1⟩ ⟨oe, a1⟩⟩
theorem rz_assign (o : OkE c f) {x : Str} {e : Expr} {px pos : Pos} (h : RzE c f ρ e c2) (hs : swapsWith e (some (.Name x px)) pos.line f.env = pure false) : Rz1 c f L outer ρ (.Assign [.Name x px] e pos) ρ c2 (· = c2) := fun s Q E st z hA q =>
  wpAny_Assign_Name (h s _ E st hA fun h' tk e x n r => q e c2 h' tk (exc_raw o st x n r) rfl) hs
/-- a while whose test raises at once -/
theorem rz_while (o : OkE c f) (hL : f.env.frame = some L) {l r : Expr} {op : CmpOp} {cpos pos : Pos} {body : List Stmt} (h : RzE c f ρ l c2) (hm : behindInMarks op r = false) : Rz1 c f L outer ρ (.While (.Compare l [op] [r] cpos) body [] pos) ρ c2 (· = c2) := fun s Q E st z hA q => by
  refine wpAny_While (wh_turn (wpAny_isTrue_Compare1 (h s _ _ st hA fun h' tk e x n r => ?_) hm))
  refine exc_note (s := { s with heap := h', toks := tk }) o st.ext z.fr hL z (exc_raw o st x n r) fun h2 T g => ?_
  refine got_back (s := { s with heap := h2, toks := tk }) o st.ext hL g fun h3 g3 => ?_
  exact q e c2 h3 tk (.inr ⟨T, g3⟩) rfl
/-- the frame while e is handled -/
noncomputable def Fx.mk1 (f : Fx) (e T : Addr) : Fx := { f.ad e T with A := f.A.mark (some (.ref e)) }
theorem OkE.mk1 {h h' : Heap} {e T : Addr} {fl : Value} (o : OkE c f) (gx : Ext c.g h) (g : Got c f ρ h h' e T fl c2) : OkE c (f.mk1 e T) := by
  have n1 : ∀ a, h.get? a = none → c.g.get? a = none := fun a q => by
    cases e : c.g.get? a with
    | none => rfl
    | some o => rw [gx _ _ e] at q; cases q
  have := o.ad (n1 _ g.ne) (n1 _ g.nT)
  exact { kind := this.kind, glob := this.glob, blt := this.blt, mx := this.mx, loc := this.loc, apart := this.apart, dis := this.dis }
theorem St.mk1 {h : Heap} {e T : Addr} (s : St c (f.ad e T) ρ h) : St c (f.mk1 e T) ρ h := ⟨s.nd, s.ext, s.xok, s.cl, s.oa, s.ns, s.cs⟩
theorem Fz.mk1 {l : List Env} {h h' : Heap} {e T : Addr} {fl : Value} (z : Fz c f l h) (o : OkE c f) (xok : ∀ a, f.X a → ∃ o, h.get? a = some o) (g : Got c f ρ h h' e T fl c2) : Fz c (f.mk1 e T) l h' := by
  obtain ⟨m, hn, _⟩ := g.st.ns
  have z1 := z.slo g.slo hn
  refine ⟨z1.fr, z1.ff, fun b q => .inl (z1.fx b q), z1.fm, fun e' he m => ?_⟩
  have : e' = e := by
    have w : some (Value.ref e) = some (Value.ref e') := he
    cases w; rfl
  subst this
  obtain ⟨ob, w⟩ := xok e' (o.mx _ m)
  rw [g.ne] at w; cases w
theorem HdAt.mk1 {h h' : Heap} {e T : Addr} {fl : Value} (g : Got c f ρ h h' e T fl .none) : HdAt (f.mk1 e T).A h' (.ref e) := by
  obtain ⟨oe, vs, oT, ts, a1, a2, a3, a4, a5, _⟩ := g.fly
  exact .inr ⟨e, oe, vs, rfl, rfl, a1, a3, a5⟩
theorem slo_out {h h' h'' : Heap} {e T : Addr} {fl : Value} (g : Got c f ρ h h' e T fl c2) (k : Slo (f.mk1 e T).X (f.mk1 e T).M h' h'') : Slo f.X f.M h h'' :=
  ((g.slo.wide (Y := (f.mk1 e T).X) (N := f.M) (fun _ => .inl) (fun _ _ => id)).trans k).cut (fun b o q z => z.elim id fun z => z.elim (fun z => by rw [z, g.ne] at q; cases q) fun z => by rw [z, g.nT] at q; cases q) (fun _ => .inl) (fun _ _ _ => id)
theorem Got.after {h h' h'' : Heap} {e T : Addr} {fl : Value} (g : Got c f ρ h h' e T fl c2) (k : Slo (f.mk1 e T).X (f.mk1 e T).M h' h'') (hd : ¬ f.M e) (hT : ¬ f.M T) (st : St c (f.mk1 e T) ρ' h'') : Got c f ρ' h h'' e T fl c2 := by
  obtain ⟨oe, vs, oT, ts, a1, a2, a3, a4, a5, a6, a7, a8, a9⟩ := g.fly
  obtain ⟨s1, b1⟩ := k.slot e oe (.inr (.inl rfl)) hd a1
  obtain ⟨s2, b2⟩ := k.slot T oT (.inr (.inr rfl)) hT a7
  exact ⟨g.ne, g.nT, slo_out g k, ⟨_, vs, _, ts, b1, a2, a3, a4, a5, a6, b2, a8, a9⟩, ⟨st.nd, st.ext, st.xok, st.cl, st.oa, st.ns, st.cs⟩⟩
theorem Exc.out {h h' h'' : Heap} {e T e2 : Addr} {fl c3 : Value} (g : Got c f ρ h h' e T fl c2) (x : Exc c (f.mk1 e T) ρ' L h' h'' e2 c3) : Exc c f ρ' L h h'' e2 c3 := by
  have none_of : ∀ a, h'.get? a = none → h.get? a = none := fun a q => by
    cases w : h.get? a with
    | none => rfl
    | some ob => obtain ⟨ob', w'⟩ := g.slo.there _ _ w; rw [q] at w'; cases w'
  have sub : ∀ {a b : Addr}, St c ((f.mk1 e T).ad a b) ρ' h'' → St c (f.ad a b) ρ' h'' := fun {a b} s => St.lessX (f := f.ad a b) s rfl rfl fun x z => z.elim (fun z => .inl (.inl z)) .inr
  rcases x with ⟨a, b, r, st⟩ | ⟨T2, g2⟩
  · exact .inl ⟨none_of _ a, slo_out g b, r, sub st⟩
  · exact .inr ⟨T2, none_of _ g2.ne, none_of _ g2.nT, slo_out g g2.slo, g2.fly, sub g2.st⟩
theorem not_M {h : Heap} (o : OkE c f) (st : St c f ρ h) {e : Addr} (n : h.get? e = none) : ¬ f.M e := fun m => by
  obtain ⟨ob, q⟩ := st.xok e (o.mx e m)
  rw [n] at q; cases q
/-- try: .. finally: .. -/
theorem exw_tf {body : List Stmt} {f₀ : Stmt} {fs : List Stmt} {pos : Pos} (h1 : ExsW c f (f.env :: outer) ρ body ρ1 .next) (h2 : ExsW c f (f.env :: outer) ρ1 (f₀ :: fs) ρ2 .next) : ExW c f (f.env :: outer) ρ (.Try body [] [] (f₀ :: fs) pos) ρ2 .next := fun s Q E st z q =>
  wpAny_Try_finally (h1 s _ _ st z fun fl h' tk x r s1 => by
    cases fl with
    | next =>
      refine wpAny_execs_nil ?_
      refine h2 _ _ _ s1 (z.st x s1) fun fl h2 t2 x2 r2 s2 => ?_
      cases fl with
      | next => exact q .next h2 t2 (x.trans x2) trivial s2
      | _ => exact r2.elim
    | _ => exact r.elim)
theorem rz_tf1 (o : OkE c f) (hL : f.env.frame = some L) {body : List Stmt} {f₀ : Stmt} {fs : List Stmt} {pos : Pos} (h1 : ExsW c f (f.env :: outer) ρ body ρ1 .next) (h2 : RzS c f L outer ρ1 (f₀ :: fs) ρ2 c2 P) : Rz1 c f L outer ρ (.Try body [] [] (f₀ :: fs) pos) ρ2 c2 P := fun s Q E st z hA q =>
  wpAny_Try_finally (h1 s _ _ st z fun fl h' tk x r s1 => by
    cases fl with
    | next =>
      refine wpAny_execs_nil ?_
      refine h2 _ _ _ s1 (z.st x s1) (hA.slo z.hd x) fun e c3 h2 t2 x2 p => ?_
      refine exc_note (s := { s with heap := h2, toks := t2 }) o st.ext z.fr hL z (x2.back x) fun h3 T g => ?_
      exact got_back (s := { s with heap := h3, toks := t2 }) o st.ext hL g fun h4 g4 => q e c3 h4 t2 (.inr ⟨T, g4⟩) p
    | _ => exact r.elim)
theorem rz_tf2 (o : OkE c f) (hL : f.env.frame = some L) {body : List Stmt} {f₀ : Stmt} {fs : List Stmt} {pos : Pos} (h1 : RzS c f L outer ρ body ρ1 c2 (· = .none))
    (h2 : ∀ e T, OkE c (f.mk1 e T) → ExsW c (f.mk1 e T) (f.env :: outer) ρ1 (f₀ :: fs) ρ2 .next ∨ RzS c (f.mk1 e T) L outer ρ1 (f₀ :: fs) ρ2 (.ref e) AnyV) : Rz1 c f L outer ρ (.Try body [] [] (f₀ :: fs) pos) ρ2 c2 AnyV := fun s Q E st z hA q =>
  wpAny_Try_finally (h1 s _ _ st z hA fun e c3 h' tk x p => by
    subst p
    refine exc_note (s := { s with heap := h', toks := tk }) o st.ext z.fr hL z x fun h2' T g => ?_
    refine ⟨(by intro w; cases w), ?_⟩
    refine exc_note (s := { s with heap := h2', toks := tk }) o st.ext z.fr hL z (.inr ⟨T, g⟩) fun h3 T' g3 => ?_
    refine got_flight (s := { s with heap := h3, toks := tk }) o st.ext g3 fun h4 g4 => ?_
    have o' : OkE c (f.mk1 e T') := o.mk1 st.ext g4
    have z' := z.mk1 o st.xok g4
    rcases h2 e T' o' with w | w
    · refine w { s with heap := h4, toks := tk } _ _ g4.st.mk1 z' fun fl h5 t5 x5 r5 s5 => ?_
      cases fl with
      | next => exact got_pass (s := { s with heap := h5, toks := t5 }) o st.ext hL (g4.after x5 (not_M o st g4.ne) (not_M o st g4.nT) s5) fun h6 g6 => q e .none h6 t5 (.inr ⟨T', g6⟩) trivial
      | _ => exact r5.elim
    · refine w { s with heap := h4, toks := tk } _ _ g4.st.mk1 z' (HdAt.mk1 g4) fun e2 c4 h5 t5 x5 p5 => ?_
      refine exc_note (A := (f.mk1 e T').A) (s := { s with heap := h5, toks := t5 }) o st.ext z.fr hL z (Exc.out g4 x5) fun h6 T6 g6 => ?_
      exact got_back (s := { s with heap := h6, toks := t5 }) o st.ext hL g6 fun h7 g7 => q e2 c4 h7 t5 (.inr ⟨T6, g7⟩) trivial)
/-- try: .. except IndexError: .. -/
theorem exw_te0 {body : List Stmt} {h₀ : ExceptHandler} {hs : List ExceptHandler} {pos : Pos} {l : List Env} (h : ExsW c f l ρ body ρ1 .next) : ExW c f l ρ (.Try body (h₀ :: hs) [] [] pos) ρ1 .next := fun s Q E st z q =>
  wpAny_Try_except (h s _ _ st z fun fl h' tk x r s1 => by
    cases fl with
    | next => exact wpAny_execs_nil (q .next h' tk x trivial s1)
    | _ => exact r.elim)
theorem exw_te (B : Base c) (o : OkE c f) (hh : f.A.handled = none) (hL : f.env.frame = some L) {body : List Stmt} {b₀ : Stmt} {suite : List Stmt} {np hp pos : Pos} {rest : List ExceptHandler} (hk : f.env.kindOf ((⟨⟨[73, 110, 100, 101, 120, 69, 114, 114, 111, 114]⟩⟩ : Str)) = some .globalImplicit)
    (h1 : RzS c f L outer ρ body ρ1 .none AnyV) (h2 : ∀ e T, OkE c (f.mk1 e T) → Exs c (f.mk1 e T) ρ1 (b₀ :: suite) ρ2 .brk) :
    ExW c f (f.env :: outer) ρ (.Try body (.ExceptHandler (some (.Name ((⟨⟨[73, 110, 100, 101, 120, 69, 114, 114, 111, 114]⟩⟩ : Str)) np)) none (b₀ :: suite) hp :: rest) [] [] pos) ρ2 .brk := fun s Q E st z q =>
  wpAny_Try_except (h1 s _ _ st z (.inl ⟨hh, rfl⟩) fun e c3 h' tk x p => by
    refine exc_note (s := { s with heap := h', toks := tk }) o st.ext z.fr hL z x fun h2' T g => ?_
    refine got_flight (s := { s with heap := h2', toks := tk }) o st.ext g fun h4 g4 => ?_
    have o' : OkE c (f.mk1 e T) := o.mk1 st.ext g4
    refine wpAny_handleBy_builtin PySem.F.isExc_IndexError PySem.F.notTuple_IndexError PySem.F.self_IndexError ?_
    refine ev_bltE (f := f.mk1 e T) B o' hk rfl rfl rfl { s with heap := h4, toks := tk } _ _ g4.st.mk1 fun v h5 t5 x5 r5 => ?_
    cases r5
    have st5 := g4.st.mk1.up x5
    have g5 : Got c f ρ1 s.heap h5 e T .none c3 := g4.after (.of_ext x5) (not_M o st g4.ne) (not_M o st g4.nT) st5
    refine ⟨rfl, ?_, ?_⟩
    · obtain ⟨oe, vs, oT, ts, a1, a2, _⟩ := g5.fly
      exact ⟨oe, a1, a2⟩
    · rw [if_pos rfl]
      refine got_flight (s := { s with heap := h5, toks := t5 }) o st.ext g5 fun h6 g6 => ?_
      refine h2 e T o' { s with heap := h6, toks := t5 } _ _ g6.st.mk1 fun fl h7 t7 x7 r7 s7 => ?_
      cases fl with
      | brk => exact q .brk h7 t7 (slo_out g6 (.of_keep x7 o'.mx)) trivial (St.lessX (f := f) s7 rfl rfl fun x z => .inl z)
      | _ => exact r7.elim)
end
end Mine
end
section
namespace Mine
open PySem PySem.W PySem.Calls PyProof.Rows PySem.Spec
section
variable {c : Cx} {f : Fx} {ρ ρ' ρ1 ρ2 : Rho} {k : Nat} {l : List Env} {c2 : Value}
noncomputable def WhW (c : Cx) (f : Fx) (l : List Env) (test : Expr) (body : List Stmt) (ρ ρ' : Rho) (o : Out) : Prop :=
  ∀ (s : Shared) (R : Result → Shared → Prop), St c f ρ s.heap → Fz c f l s.heap → (∀ fl h' tk, Slo f.X f.M s.heap h' → FlRep c.C h' f.X f.M fl o → St c f ρ' h' → R (.ok fl) { s with heap := h', toks := tk }) →
    codeAny (model c.prog c.w) f.A (.whileLoop test body [] f.env) R s
theorem whw_step {test : Expr} {body : List Stmt} {o : Out} (t : Tr c f ρ test true) (h : ExsW c f l ρ body ρ1 .next) (w : WhW c f l test body ρ1 ρ' o) : WhW c f l test body ρ ρ' o := fun s R st z q =>
  wh_turn (t s _ _ st fun h1 t1 x1 => by
    simp only [if_true]
    have y : Slo f.X f.M s.heap h1 := .of_ext x1
    refine h _ _ _ (st.up x1) (z.st y (st.up x1)) fun fl h2 t2 x2 r2 s2 => ?_
    cases fl with
    | next => exact w _ _ s2 (z.st (y.trans x2) s2) fun fl h3 t3 x3 r3 s3 => q fl h3 t3 ((y.trans x2).trans x3) r3 s3
    | _ => exact r2.elim)
theorem whw_brk {test : Expr} {body : List Stmt} (t : Tr c f ρ test true) (h : ExsW c f l ρ body ρ' .brk) : WhW c f l test body ρ ρ' .next := fun s R st z q =>
  wh_turn (t s _ _ st fun h1 t1 x1 => by
    simp only [if_true]
    have y : Slo f.X f.M s.heap h1 := .of_ext x1
    refine h _ _ _ (st.up x1) (z.st y (st.up x1)) fun fl h2 t2 x2 r2 s2 => ?_
    cases fl with
    | brk => exact q .next h2 t2 (y.trans x2) trivial s2
    | _ => exact r2.elim)
theorem whw_le {test : Expr} {body : List Stmt} {o : Out} (h : WhW c f l test body ρ ρ1 o) (le : Le ρ1 ρ') : WhW c f l test body ρ ρ' o := fun s R st z q => h s R st z fun fl h1 t1 x1 r1 s1 => q fl h1 t1 x1 r1 (s1.sub le)
theorem whw_from {test : Expr} {body : List Stmt} {o : Out} (le : Le ρ ρ1) (h : WhW c f l test body ρ1 ρ' o) : WhW c f l test body ρ ρ' o := fun s R st z q => h s R (st.sub le) z q
theorem exw_while {test : Expr} {body : List Stmt} {pos : Pos} {o : Out} (w : WhW c f l test body ρ ρ' o) : ExW c f l ρ (.While test body [] pos) ρ' o := fun s Q E st z q => wpAny_While (w s _ st z q)
theorem ex_two (o : Ok c f k) {x y : Str} {e : Expr} {d : D} {px py pos : Pos} (h : Ev c f ρ e d) (u : Upd ρ x (some (.imm d)) ρ1) (u2 : Upd ρ1 y (some (.imm d)) ρ2) (hk : Stor f x) (hk2 : Stor f y) (hw : swappedStores [.Name x px, .Name y py] e f.env = pure none) :
    Ex c f ρ (.Assign [.Name x px, .Name y py] e pos) ρ2 .next := fun s Q E st q =>
  wpAny_Assign_two (h s _ E st fun v h1 t1 x1 r1 => wpAny_assign_Name (store_enE' o.toOkE u hk (st.up x1) r1 (fun a ds e => by cases e) fun h2 t2 b hb hs xk hl st2 =>
    wpAny_assign_Name (store_of o u2 hk2 st2 (Rep.keep (fun b' ob n q => (hs.2 b' fun z => n (z ▸ o.mx _ hb)).trans q) r1) fun h3 t3 x3 s3 => q .next h3 t3 ((x1.keep.trans (Keep.same hs hb xk)).trans x3) trivial s3))) rfl hw
theorem ev_tuple0 {es : List Expr} {n : Nat} {pos : Pos} {ds : List D} (h : EvL0 c f ρ es ds) (hz : ds.length ≤ 1000000) : Ev0 c f ρ (.Tuple es n pos) (.tuple ds) := fun s Q E st k =>
  wpAny_Tuple (h pos s _ E st fun vs h1 t1 x1 r1 => ⟨by rw [r1.length, sizeLine_eq]; omega, k _ _ _ (x1.trans (Ext.push _ _))
    (.tuple ⟨_, Heap.get?_push_size _ rfl, rfl, _, rfl⟩ (fun q => (st.up x1).w.fresh (fresh_size h1) q.1) (r1.ext (Ext.push _ _)))⟩)
theorem op_inc {i : Nat} : Op2 c f (inplaceOp .Add) (.int (i : Int)) (.int 1) (.int ((i + 1 : Nat) : Int)) := by
  have : (((i + 1 : Nat) : Int)) = (i : Int) + 1 := by omega
  rw [this]; exact op_iadd
/-- a def without cells of its own, whose body may change frames' slots -/
theorem fn_defX (B : Base c) {a : Addr} {o : Obj} {fd : FuncData} {body : List Stmt} {ds : List D} {d : D} (names locals : List Str) (ex : List Value) (exD : List D) (hex : ∀ h X, Reps c.C h X ex exD) (ρ0 : Rho) (hρ : parR names (ds ++ exD) ++ noneR locals = ρ0)
    (ho : c.g.get? a = some o) (hdata : o.data = .func fd) (hcd : c.g.CodeRec fd.code fd.qualname) (hbody : fd.body = .stmts body) (hglob : fd.globals = mainGlobals) (hblt : fd.builtins = builtinsNs)
    (hbind : ∀ (s : Shared) vs, Ext c.g s.heap → vs.length = ds.length → BindsTo s fd ⟨vs, []⟩ (names.zip (vs ++ ex))) (hnl : names.length = (ds ++ exD).length)
    (hcell : ∀ x ∈ fd.scope.names, x.2 ≠ .cell) (hloc : ∀ x ∈ names, fd.scope.names.lookup x = some .local) (nd : (names ++ locals).Nodup)
    (hcl : ∀ x b, fd.closure.lookup x = some b → ∃ v, c.g.IsCell b v) (hap : ∀ x y b, fd.closure.lookup x = some b → fd.closure.lookup y = some b → x = y)
    (hb : ∀ (A : Around) (L : Addr) (X : Addr → Prop) (l : List Env), Ok c ⟨A, callEnv fd L a, fun b => X b ∨ b = L, fun b => b = L⟩ k → BdW c ⟨A, callEnv fd L a, fun b => X b ∨ b = L, fun b => b = L⟩ (callEnv fd L a :: l) ρ0 body d)
    (hco : fd.scope.isCoroutine = false) (hgen : fd.scope.isGenerator = false) (hk : fd.scope.kind = .function) : FnW c (k + 1) (.ref a) ds d := fun A X l s vs Q E room ext hX xok fr ff fx r0 q => by
  subst hρ
  have r := r0.append (hex s.heap X)
  refine wpAny_call (codeAny_call_def (room.depth) (ext _ _ ho) hdata (B.nolimit.keeps ext) (hcd.keeps ext) hbody (hbind s vs ext r0.length) hcell (fun x hx => hloc _ (List.of_mem_zip (a := x.1) (b := x.2) hx).1) (fun h₀ hns hk₀ => ?_) hco hgen hk)
  have hL := fresh_size s.heap
  have hXL : ∀ b, X b → b ≠ s.heap.objs.size := fun b hb e => by obtain ⟨o, z⟩ := xok b hb; rw [e, hL] at z; cases z
  have hgL : c.g.get? s.heap.objs.size = none := by
    cases e : c.g.get? s.heap.objs.size with
    | none => rfl
    | some o' => have := ext _ _ e; rw [hL] at this; cases this
  have ok : Ok c ⟨A.deeper (callEnv fd s.heap.objs.size a), callEnv fd s.heap.objs.size a, fun b => X b ∨ b = s.heap.objs.size, fun b => b = s.heap.objs.size⟩ k :=
    { kind := hk, glob := hglob, blt := hblt, mx := fun b e => .inr e, loc := rfl, apart := hap, dis := fun b e => e.elim (hX b) fun e => e ▸ hgL, room := room.deeper }
  have hns' := hns
  obtain ⟨oL, esL, epL, eL, dL, _⟩ := hns'
  refine wpAny_mono (hb _ _ X l ok _ (fun fl s' => ∃ v h' tk, fl = .ret v ∧ s' = { s with heap := h', toks := tk } ∧ Slo X (fun _ => False) s.heap h' ∧ Rep c.C h' X v d) _ ?_ ?_ fun v h' tk kp rv => ?_) (fun fl s' hf => ?_) fun _ _ x => x
  · refine ⟨?_, ext.trans hk₀, fun b e => ?_, fun x b e => ?_, fun x y b es fs h1 h2 => ?_, ⟨_, hns, fun x en hx hl => ?_⟩, fun x en hx hl => ?_⟩
    · rw [List.map_append, parR_names hnl]
      have e1 : (noneR locals).map (·.1) = locals := by simp only [noneR, List.map_map]; exact List.map_id' locals
      rw [e1]; exact nd
    · rcases e with e | e
      · obtain ⟨o, z⟩ := xok b e; exact ⟨o, hk₀ _ _ z⟩
      · exact ⟨oL, e ▸ eL⟩
    · obtain ⟨v, z⟩ := hcl x b e; exact ⟨v, z.keeps (ext.trans hk₀)⟩
    · exfalso
      rcases List.mem_append.mp h1 with h1 | h1
      · obtain ⟨d', v', e', _⟩ := parR_mem r h1; cases e'
      · simp [noneR] at h1
    · rcases List.mem_append.mp hx with h1 | h1
      · obtain ⟨d', v', e', hz, hr⟩ := parR_mem r h1
        subst e'
        exact ⟨v', lookup_zip_rev (List.nodup_append.mp nd).1 hz, (Rep.more hL hr).ext hk₀⟩
      · simp [noneR] at h1
    · rcases List.mem_append.mp hx with h1 | h1
      · obtain ⟨d', v', e', hz, hr⟩ := parR_mem r h1
        exact absurd (hloc x (List.of_mem_zip hz).1) hl
      · simp [noneR] at h1
  · have noH : (A.deeper (callEnv fd s.heap.objs.size a)).handled = none := ok.room.hd
    refine ⟨Around.frames_deeper fr, ⟨?_, ⟨_, oL, rfl, hgL, eL, fun vs q => by rw [dL] at q; cases q⟩, funFrames_of ff fun b o _ e d => ⟨o, hk₀ _ _ e, d⟩⟩, fun b q => ?_, fun b q m => m, fun e he => by rw [noH] at he; cases he⟩
    · show fd.scope.kind ≠ .module
      rw [hk]; decide
    · have q' : b ∈ (callEnv fd s.heap.objs.size a :: l).filterMap (·.frame) := q
      rw [List.filterMap_cons] at q'
      rcases List.mem_cons.mp (show b ∈ s.heap.objs.size :: l.filterMap (·.frame) from q') with q' | q'
      · exact .inr q'
      · exact .inl (fx b q')
  · have old : ∀ b ob, s.heap.get? b = some ob → b ≠ s.heap.objs.size := fun b ob e z => by rw [z, hL] at e; cases e
    exact ⟨v, h', tk, rfl, rfl, ⟨fun b ob n e => kp.keep b ob (fun z => z.elim n (old b ob e)) (hk₀ b ob e), fun b ob x _ e => kp.slot b ob (.inl x) (old b ob e) (hk₀ b ob e), fun b ob e => kp.there b ob (hk₀ b ob e)⟩, rv.less fun b hb => ⟨.inl hb, hXL b hb⟩⟩
  · obtain ⟨v, h', tk, rfl, rfl, e, rv⟩ := hf
    exact q v h' tk e rv
theorem fn_defW (B : Base c) {a : Addr} {o : Obj} {fd : FuncData} {body : List Stmt} {ds : List D} {d : D} (names locals : List Str) (ρ0 : Rho) (hρ : parR names ds ++ noneR locals = ρ0)
    (ho : c.g.get? a = some o) (hdata : o.data = .func fd) (hcd : c.g.CodeRec fd.code fd.qualname) (hbody : fd.body = .stmts body) (hglob : fd.globals = mainGlobals) (hblt : fd.builtins = builtinsNs)
    (hbind : ∀ s vs, vs.length = ds.length → BindsTo s fd ⟨vs, []⟩ (names.zip vs)) (hnl : names.length = ds.length)
    (hcell : ∀ x ∈ fd.scope.names, x.2 ≠ .cell) (hloc : ∀ x ∈ names, fd.scope.names.lookup x = some .local) (nd : (names ++ locals).Nodup)
    (hcl : ∀ x b, fd.closure.lookup x = some b → ∃ v, c.g.IsCell b v) (hap : ∀ x y b, fd.closure.lookup x = some b → fd.closure.lookup y = some b → x = y)
    (hb : ∀ (A : Around) (L : Addr) (X : Addr → Prop) (l : List Env), Ok c ⟨A, callEnv fd L a, fun b => X b ∨ b = L, fun b => b = L⟩ k → BdW c ⟨A, callEnv fd L a, fun b => X b ∨ b = L, fun b => b = L⟩ (callEnv fd L a :: l) ρ0 body d)
    (hco : fd.scope.isCoroutine = false) (hgen : fd.scope.isGenerator = false) (hk : fd.scope.kind = .function) : FnW c (k + 1) (.ref a) ds d :=
  fn_defX B names locals [] [] (fun _ _ => .nil) ρ0 (by rw [List.append_nil]; exact hρ) ho hdata hcd hbody hglob hblt (fun s vs _ h => by rw [List.append_nil]; exact hbind s vs h) (by rw [List.append_nil]; exact hnl) hcell hloc nd hcl hap hb hco hgen hk
end
end Mine
end
section
namespace Mine
open PySem PySem.W PySem.Calls PyProof.Rows PySem.Spec
noncomputable abbrev tD (H : Nat → Int) (t : Nat) : D := .list [.int (H t), .int (t : Int)]
theorem eqv_t (H : Nat → Int) (a b : Nat) : PyData.eqv (tD H a).py (tD H b).py = (a == b) := by
  show ((H a == H b) && (((a : Int) == (b : Int)) && true)) = (a == b)
  rw [Bool.eq_iff_iff, Bool.and_eq_true, Bool.and_true, beq_iff_eq, beq_iff_eq, beq_iff_eq]
  exact ⟨fun h => by omega, fun h => by subst h; exact ⟨rfl, rfl⟩⟩
noncomputable def sldP (lt : Nat → Nat → Bool) : Nat → List Nat → List Nat → List Nat → List Nat → List Nat × List Nat
  | n + 1, a :: as, b :: bs, m, u => if lt a b then sldP lt n as (b :: bs) (m ++ [a]) u else if lt b a then sldP lt n (a :: as) bs m (u ++ [b]) else sldP lt n as bs m u
  | _, as, bs, m, u => (m ++ as, u ++ bs)
theorem sldP_nl (lt : Nat → Nat → Bool) (n : Nat) (bs m u : List Nat) : sldP lt n [] bs m u = (m ++ [], u ++ bs) := by cases n <;> rfl
theorem sldP_nr (lt : Nat → Nat → Bool) (n : Nat) (as m u : List Nat) : sldP lt n as [] m u = (m ++ as, u ++ []) := by cases n <;> cases as <;> rfl
section
variable {c : Cx} {f : Fx} {ρ ρ' ρ1 ρ2 : Rho} {k : Nat} {l outer : List Env} {c2 : Value} {H : Nat → Int} {L : Addr}
theorem whw_meas {σ τ : Type} {test : Expr} {body : List Stmt} (μ : σ → Nat) (R : σ → Rho) (R' : τ → Rho) (fin : σ → τ) (inv : σ → Prop) (t : ∀ s, Tr c f (R s) test true)
    (step : ∀ s, inv s → (∃ s', μ s' < μ s ∧ inv s' ∧ fin s' = fin s ∧ ∃ ρ2, ExsW c f l (R s) body ρ2 .next ∧ Le ρ2 (R s')) ∨ (∃ ρ2, ExsW c f l (R s) body ρ2 .brk ∧ Le ρ2 (R' (fin s)))) :
    ∀ (n : Nat) (s : σ), μ s ≤ n → inv s → WhW c f l test body (R s) (R' (fin s)) .next
  | 0, s, hn, hi => by
    rcases step s hi with ⟨s', h, _⟩ | ⟨ρ2, h, le⟩
    · omega
    · exact whw_le (whw_brk (t s) h) le
  | n + 1, s, hn, hi => by
    rcases step s hi with ⟨s', h, i', e, ρ2, x, le⟩ | ⟨ρ2, h, le⟩
    · rw [← e]
      exact whw_step (t s) x (whw_from le (whw_meas μ R R' fin inv t step n s' (by omega) i'))
    · exact whw_le (whw_brk (t s) h) le
theorem t_at {as : List Nat} {i b : Nat} (h : as[i]? = some b) : (as.map (tD H))[((i : Int)).toNat]? = some (tD H b) := by
  rw [Int.toNat_natCast, List.getElem?_map, h]; rfl
theorem stop_w (o : OkE c f) (hu : f.A.units + 100 < cLine) {x I Y : Str} {px pI pY ps cpos pos : Pos} {body : List Stmt} {as : List Nat} {i t b : Nat} (hx : (x, some (.imm (.list (as.map (tD H))))) ∈ ρ) (hI : (I, some (.imm (.int (i : Int)))) ∈ ρ) (hY : (Y, some (.imm (tD H t))) ∈ ρ)
    (gx : (x == ("__debug__" : Str) || x == ("__classdict__" : Str)) = false) (gI : (I == ("__debug__" : Str) || I == ("__classdict__" : Str)) = false) (gY : (Y == ("__debug__" : Str) || Y == ("__classdict__" : Str)) = false) (ht : as[i]? = some b) (hne : b ≠ t) (hz : as.length ≤ 1000) :
    Ex c f ρ (.While (.Compare (.Subscript (.Name x px) (.Name I pI) ps) [.Eq] [.Name Y pY] cpos) body [] pos) ρ .next :=
  ex_while (wh_stop (tr_eq (b := PyData.eqv (tD H b).py (tD H t).py) (by rw [eqv_t]; simpa using hne)
    (tr_cmp (Ev.w (ev_sub (ev_nameE o hx gx) (ev_nameE o hI gI) (t_at ht) (by omega) (by rw [List.length_map]; omega) (by intros; exact fun e => nomatch e))) (Ev.w (ev_nameE o hY gY)) (cm_deqE hu rfl rfl) rfl)))
theorem out_sub (o : OkE c f) {x I : Str} {px pI ps : Pos} {as : List Nat} {i : Nat} (hx : (x, some (.imm (.list (as.map (tD H))))) ∈ ρ) (hI : (I, some (.imm (.int (i : Int)))) ∈ ρ)
    (gx : (x == ("__debug__" : Str) || x == ("__classdict__" : Str)) = false) (gI : (I == ("__debug__" : Str) || I == ("__classdict__" : Str)) = false) (ht : as.length ≤ i) (hz : i ≤ 1000) : RzE c f ρ (.Subscript (.Name x px) (.Name I pI) ps) c2 := fun s Q E st hA hE =>
  rz_sub o hx gx (ev_nameE o hI gI) (by rw [List.length_map]; exact ht) (by omega) (by intros; exact fun e => nomatch e) st hA hE
theorem out_w (o : OkE c f) (hL : f.env.frame = some L) {x I Y : Str} {px pI pY ps cpos pos : Pos} {body : List Stmt} {as : List Nat} {i : Nat} (hx : (x, some (.imm (.list (as.map (tD H))))) ∈ ρ) (hI : (I, some (.imm (.int (i : Int)))) ∈ ρ)
    (gx : (x == ("__debug__" : Str) || x == ("__classdict__" : Str)) = false) (gI : (I == ("__debug__" : Str) || I == ("__classdict__" : Str)) = false) (ht : as.length ≤ i) (hz : i ≤ 1000) :
    Rz1 c f L outer ρ (.While (.Compare (.Subscript (.Name x px) (.Name I pI) ps) [.Eq] [.Name Y pY] cpos) body [] pos) ρ c2 (· = c2) := rz_while o hL (out_sub o hx hI gx gI ht hz) rfl
noncomputable abbrev sldR (A B i j m u e a : Option En) : Rho := [((⟨⟨[101, 120, 112, 101, 99, 116, 101, 100]⟩⟩ : Str), A), ((⟨⟨[97, 99, 116, 117, 97, 108]⟩⟩ : Str), B), ((⟨⟨[105]⟩⟩ : Str), i), ((⟨⟨[106]⟩⟩ : Str), j), ((⟨⟨[109, 105, 115, 115, 105, 110, 103]⟩⟩ : Str), m), ((⟨⟨[117, 110, 101, 120, 112, 101, 99, 116, 101, 100]⟩⟩ : Str), u), ((⟨⟨[101]⟩⟩ : Str), e), ((⟨⟨[97]⟩⟩ : Str), a)]
end
end Mine
end
section
namespace Mine
open PySem PySem.W PySem.Calls PyProof.Rows PySem.Spec
section
variable {c : Cx} {f : Fx} {ρ ρ' ρ1 ρ2 : Rho} {k : Nat} {l : List Env} {c2 : Value} {I : Addr}
/-- an item of a tuple -/
theorem ev_subT {value slice : Expr} {pos : Pos} {ds : List D} {i : Int} {d : D} (h1 : Ev c f ρ value (.tuple ds)) (h2 : Ev c f ρ slice (.int i)) (hi : ds[i.toNat]? = some d) (h0 : 0 ≤ i) (hz : ds.length ≤ 1000000)
    (hs : ∀ l u t p, slice ≠ .Slice l u t p) : Ev c f ρ (.Subscript value slice pos) d := fun s Q E st k =>
  Subscript_ (h1 s _ E st fun v1 s1 t1 x1 r1 => h2 _ _ E (st.up x1) fun v2 s2 t2 x2 r2 => by
    have r1' := r1.ext x2
    cases r2 with
    | int _ t =>
      cases r1' with
      | tuple hl hx hr =>
        obtain ⟨v, e, rv⟩ := hr.get hi
        have lt : i.toNat < ds.length := (List.getElem?_eq_some_iff.mp hi).1
        exact tail_any hl.typeIs PySem.F.slot_tuple_getitem.lookup (PyProof.Rows.getItem_tuple (s := { s with heap := s2, toks := t2 }) hl (by omega) (by omega) (seqIndex_of h0 (by rw [List.size_toArray, hr.length]; omega)) (by simpa using e) (k v s2 t2 (x1.trans x2) rv)) (sub_plain hs _ _))
theorem It.slo {h h' : Heap} {ds : List D} (t : It c f I h ds) (hX : ¬ f.X I) (k : Slo f.X f.M h h') : It c f I h' ds := t.keepX hX k.keep
theorem Fz.iter {h h' : Heap} (z : Fz c f l h) (hX : ¬ f.X I) (kk : ∀ b o, b ≠ I → h.get? b = some o → h'.get? b = some o) : Fz c f l h' :=
  ⟨z.fr, funFrames_of z.ff fun b o hb e d => ⟨o, kk b o (fun q => hX (q ▸ z.fx b hb)) e, d⟩, z.fx, z.fm, z.hd⟩
structure SloI (I : Addr) (X M : Addr → Prop) (h h' : Heap) : Prop where
  keep : ∀ b o, ¬ X b → b ≠ I → h.get? b = some o → h'.get? b = some o
  slot : ∀ b o, X b → ¬ M b → b ≠ I → h.get? b = some o → ∃ sl, h'.get? b = some { o with slots := sl }
  there : ∀ b o, b ≠ I → h.get? b = some o → ∃ o', h'.get? b = some o'
theorem SloI.trans {X M : Addr → Prop} {h h' h'' : Heap} (a : SloI I X M h h') (b : SloI I X M h' h'') : SloI I X M h h'' :=
  ⟨fun x o n i e => b.keep x o n i (a.keep x o n i e), fun x o n m i e => let ⟨_, e1⟩ := a.slot x o n m i e; let ⟨sl, e2⟩ := b.slot x _ n m i e1; ⟨sl, e2⟩, fun x o i e => let ⟨_, e1⟩ := a.there x o i e; b.there x _ i e1⟩
theorem slo_iter {X M : Addr → Prop} {h h' : Heap} (kk : ∀ b o, b ≠ I → h.get? b = some o → h'.get? b = some o) : SloI I X M h h' :=
  ⟨fun b o n i e => kk b o i e, fun b o _ n i e => ⟨o.slots, kk b o i e⟩, fun b o i e => ⟨o, kk b o i e⟩⟩
theorem Slo.i {X M : Addr → Prop} {h h' : Heap} (k : Slo X M h h') : SloI I X M h h' := ⟨fun b o n _ => k.keep b o n, fun b o n m _ => k.slot b o n m, fun b o _ => k.there b o⟩
theorem SloI.noI {X M : Addr → Prop} {h h' : Heap} (k : SloI I X M h h') (n : h.get? I = none) : Slo X M h h' :=
  ⟨fun b o x e => k.keep b o x (fun z => by rw [z, n] at e; cases e) e, fun b o x m e => k.slot b o x m (fun z => by rw [z, n] at e; cases e) e, fun b o e => k.there b o (fun z => by rw [z, n] at e; cases e) e⟩
/-- a for loop, whose body may change frames' slots -/
noncomputable def FoW (c : Cx) (f : Fx) (l : List Env) (x : Str) (px : Pos) (body : List Stmt) (ρ : Rho) (ds : List D) (ρ' : Rho) (o : Out) : Prop :=
  ∀ (s : Shared) (I : Addr) (R : Result → Shared → Prop), St c f ρ s.heap → Fz c f l s.heap → It c f I s.heap ds → ¬ f.X I → c.g.get? I = none →
    (∀ fl h' tk, SloI I f.X f.M s.heap h' → FlRep c.C h' f.X f.M fl o → St c f ρ' h' → R (.ok fl) { s with heap := h', toks := tk }) →
    codeAny (model c.prog c.w) f.A (.forLoop (.Name x px) (.ref I) body [] f.env) R s
theorem fow_nil (o : Ok c f k) {x : Str} {px : Pos} {body : List Stmt} : FoW c f l x px body ρ [] ρ .next := fun s I R st z t hX hg q =>
  fo_turn (it_end o.room.hd t fun h' kk => q .next h' s.toks (slo_iter kk) trivial (st.iter o t.obj hX hg kk))
theorem fow_one (o : Ok c f k) {x : Str} {px : Pos} {body : List Stmt} {d : D} {ds : List D} {ρ1 ρ2 : Rho} {o2 : Out} (u : Upd ρ x (some (.imm d)) ρ1) (hk : Stor f x) (h : ExsW c f l ρ1 body ρ2 o2) {s : Shared} {R : Result → Shared → Prop}
    (st : St c f ρ s.heap) (z : Fz c f l s.heap) (t : It c f I s.heap (d :: ds)) (hX : ¬ f.X I) (hg : c.g.get? I = none)
    (q : ∀ fl h' tk, SloI I f.X f.M s.heap h' → FlRep c.C h' f.X f.M fl o2 → St c f ρ2 h' → Fz c f l h' → It c f I h' ds → (match fl with
          | .next | .cont => codeAny (model c.prog c.w) f.A (.forLoop (.Name x px) (.ref I) body [] f.env) R { s with heap := h', toks := tk }
          | .brk => R (.ok .next) { s with heap := h', toks := tk }
          | .ret v => R (.ok (.ret v)) { s with heap := h', toks := tk })) : codeAny (model c.prog c.w) f.A (.forLoop (.Name x px) (.ref I) body [] f.env) R s :=
  fo_turn (it_next t hX fun v h1 t1 hs1 it1 r1 => by
    have kk : ∀ b o, b ≠ I → s.heap.get? b = some o → h1.get? b = some o := fun b o n e => (hs1.2 b n).trans e
    have st1 := st.iter o t.obj hX hg kk
    have z1 := z.iter hX kk
    refine store_of o u hk st1 r1 fun h2 t2 x2 s2 => ?_
    have y2 : Slo f.X f.M h1 h2 := .of_keep x2 o.mx
    refine h _ _ _ s2 (z1.st y2 s2) fun fl h3 t3 x3 r3 s3 => ?_
    have w := q fl h3 t3 ((slo_iter kk).trans (y2.trans x3).i) r3 s3 (z1.st (y2.trans x3) s3) ((it1.slo hX y2).slo hX x3)
    cases fl <;> exact w)
theorem fow_cons (o : Ok c f k) {x : Str} {px : Pos} {body : List Stmt} {d : D} {ds : List D} {ρ1 ρ2 : Rho} {o2 : Out} (u : Upd ρ x (some (.imm d)) ρ1) (hk : Stor f x) (h : ExsW c f l ρ1 body ρ2 .next) (hr : FoW c f l x px body ρ2 ds ρ' o2) :
    FoW c f l x px body ρ (d :: ds) ρ' o2 := fun s I R st z t hX hg q => fow_one o u hk h st z t hX hg fun fl h1 t1 x1 r1 s1 z1 it1 => by
  cases fl with
  | next => exact hr _ I R s1 z1 it1 hX hg fun fl h2 t2 x2 r2 s2 => q fl h2 t2 (x1.trans x2) r2 s2
  | _ => exact r1.elim
theorem fow_from {x : Str} {px : Pos} {body : List Stmt} {ds : List D} {ρ1 : Rho} {o : Out} (le : Le ρ ρ1) (h : FoW c f l x px body ρ1 ds ρ' o) : FoW c f l x px body ρ ds ρ' o := fun s I R st z t hX hg q => h s I R (st.sub le) z t hX hg q
theorem exw_for (o : Ok c f k) {x : Str} {px : Pos} {iter : Expr} {body : List Stmt} {pos : Pos} {d : D} {es : List D} {o2 : Out} (h : Ev c f ρ iter d) (hi : Items d es) (hf : FoW c f l x px body ρ es ρ' o2) (hs : ∀ x, foldedSetIterable iter f.env x = pure x) :
    ExW c f l ρ (.For (.Name x px) iter body [] pos) ρ' o2 := fun s Q E st z q =>
  wpAny_For (h s _ E st fun v h1 t1 x1 r1 => iter_of hi (st.up x1).w r1 fun I h2 x2 fI it hX hg => hf _ I _ ((st.up x1).up x2) (z.st (.of_ext (x1.trans x2)) ((st.up x1).up x2)) it hX hg fun fl h3 t3 x3 r3 s3 => q fl h3 t3 ((Slo.of_ext x1).trans ((((Slo.of_ext x2).i (I := I)).trans x3).noI fI)) r3 s3) hs
/-- a for loop, folded by a function that may fail -/
theorem fow_M (o : Ok c f k) {α σ : Type} {x : Str} {px : Pos} {body : List Stmt} (enc : α → D) (R : σ → Rho) (g : σ → α → Option σ) (inv : σ → List α → Prop) (hk : Stor f x)
    (step : ∀ s a as s', inv s (a :: as) → g s a = some s' → ∃ ρ1 ρ2, Upd (R s) x (some (.imm (enc a))) ρ1 ∧ ExsW c f l ρ1 body ρ2 .next ∧ Le ρ2 (R s') ∧ inv s' as) :
    ∀ (as : List α) (s s' : σ), inv s as → as.foldlM g s = some s' → FoW c f l x px body (R s) (as.map enc) (R s') .next
  | [], s, s', _, e => by
    have : s = s' := by simpa using e
    subst this; exact fow_nil o
  | a :: as, s, s', i, e => by
    rw [List.foldlM_cons] at e
    cases q : g s a with
    | none => rw [q] at e; cases e
    | some s1 =>
      rw [q] at e
      obtain ⟨ρ1, ρ2, u, x, le, i1⟩ := step s a as s1 i q
      exact fow_cons o u hk x (fow_from le (fow_M o enc R g inv hk step as s1 s' i1 e))
end
end Mine
end
section
namespace Mine
open PySem PySem.W PySem.Calls PyProof.Rows PySem.Spec
section
variable {c : Cx} {k : Nat} {H : Nat → Int}
noncomputable abbrev ltH (H : Nat → Int) (a b : Nat) : Bool := lt2 (H a) (a : Int) (H b) (b : Int)
theorem nodup_next {as : List Nat} (na : as.Nodup) {i e b : Nat} (h : as[i]? = some e) (h' : as[i + 1]? = some b) : b ≠ e := by
  intro q
  subst q
  obtain ⟨l1, e1⟩ := List.getElem?_eq_some_iff.mp h
  obtain ⟨l2, e2⟩ := List.getElem?_eq_some_iff.mp h'
  exact (List.pairwise_iff_getElem.mp na) i (i + 1) l1 l2 (by omega) (e1.trans e2.symm)
theorem at_some {as : List Nat} {i : Nat} (h : i < as.length) : ∃ e, as[i]? = some e := ⟨as[i], List.getElem?_eq_getElem h⟩
theorem drop_at {as : List Nat} {i e : Nat} (h : as[i]? = some e) : as.drop i = e :: as.drop (i + 1) := by
  obtain ⟨l, q⟩ := List.getElem?_eq_some_iff.mp h
  rw [List.drop_eq_getElem_cons l, q]
local macro_rules | `(tactic| walk_at "m_inc") => `(tactic| exact ex_aug ‹Ok _ _ _› (by k_mem) rfl ev_int op_inc (by walk_at "m_upd") (by walk_at "m_stor"))
theorem exsw_stop1 {f : Fx} {ρ ρ' : Rho} {l : List Env} {st : Stmt} (h : ExW c f l ρ st ρ' .next) : ExsW c f l ρ [st] ρ' .next := exsw_cons h exsw_nil
theorem fn_sld (B : Base c) {lt : Nat → Nat → Bool} {nn : Nat} {as bs : List Nat} (hlt : ∀ a b, a < nn → b < nn → ltH H a b = lt a b) (hAn : ∀ a ∈ as, a < nn) (hBn : ∀ b ∈ bs, b < nn) (na : as.Nodup) (nb : bs.Nodup) (hz : as.length ≤ 500) (hzb : bs.length ≤ 500) :
    FnW c (k + 1) (.ref 64) [.list (as.map (tD H)), .list (bs.map (tD H))] (.tuple [.list ((sldP lt (as.length + bs.length) as bs [] []).1.map (tD H)), .list ((sldP lt (as.length + bs.length) as bs [] []).2.map (tD H))]) := by
  refine fn_defW B [(⟨⟨[101, 120, 112, 101, 99, 116, 101, 100]⟩⟩ : Str), (⟨⟨[97, 99, 116, 117, 97, 108]⟩⟩ : Str)] [(⟨⟨[105]⟩⟩ : Str), (⟨⟨[106]⟩⟩ : Str), (⟨⟨[109, 105, 115, 115, 105, 110, 103]⟩⟩ : Str), (⟨⟨[117, 110, 101, 120, 112, 101, 99, 116, 101, 100]⟩⟩ : Str), (⟨⟨[101]⟩⟩ : Str), (⟨⟨[97]⟩⟩ : Str)] (sldR (some (.imm (.list (as.map (tD H))))) (some (.imm (.list (bs.map (tD H))))) none none none none none none) rfl (B.K 64 _ rfl) rfl ?hcd rfl rfl rfl ?hbind rfl ?hcell ?hloc ?nd ?hcl ?hap ?hb rfl rfl rfl
  case hcd => exact codeRec_of (Base.K ‹Base _›) rfl
  case hbind => intro s vs h; obtain ⟨a, b, e⟩ := len2 h; subst e; exact BindsTo.of_eq rfl
  case hcell => decide
  case hloc => decide
  case nd => decide
  case hcl => intro x b e; cases e
  case hap => intro x y b e; cases e
  case hb =>
    intro A L X outer ok
    refine bdw_seq (exw_of ok.mx (ex_two ok ev_int (by walk_at "m_upd") (by walk_at "m_upd") (by walk_at "m_stor") (by walk_at "m_stor") rfl)) ?_
    refine bdw_own (ds := []) ok (evf_list (by walk_at "m_evl") (by simp)) (fun a => _) (fun a => by walk_at "m_upd") (by walk_at "m_stor") rfl fun a1 ok1 => ?_
    clear ok
    refine bdw_own (ds := []) ok1 (evf_list (by walk_at "m_evl") (by simp)) (fun a => _) (fun a => by walk_at "m_upd") (by walk_at "m_stor") rfl fun a2 ok2 => ?_
    clear ok1
    have hA : (as.map (tD H)).length ≤ 1000000 := by rw [List.length_map]; omega
    have hBz : (bs.map (tD H)).length ≤ 1000000 := by rw [List.length_map]; omega
    have hh : A.handled = none := ok2.room.hd
    have hu : A.units + 100 < cLine := by have this : A.units + 100 * k < 9000 := ok2.room.un; rw [cLine_is]; omega
    have mx := ok2.mx
    refine bdw_seq (exw_while (whw_meas (σ := Nat × Nat × Nat × List Nat × List Nat) (τ := List Nat × List Nat) (·.1)
      (fun s => sldR (some (.imm (.list (as.map (tD H))))) (some (.imm (.list (bs.map (tD H))))) (some (.imm (.int (s.2.1 : Nat)))) (some (.imm (.int (s.2.2.1 : Nat)))) (some (.own a1 (s.2.2.2.1.map (tD H)))) (some (.own a2 (s.2.2.2.2.map (tD H)))) none none)
      (fun r => sldR (some (.imm (.list (as.map (tD H))))) (some (.imm (.list (bs.map (tD H))))) none none (some (.own a1 (r.1.map (tD H)))) (some (.own a2 (r.2.map (tD H)))) none none)
      (fun s => sldP lt s.1 (as.drop s.2.1) (bs.drop s.2.2.1) s.2.2.2.1 s.2.2.2.2)
      (fun s => (as.length - s.2.1) + (bs.length - s.2.2.1) ≤ s.1 ∧ s.2.1 ≤ as.length ∧ s.2.2.1 ≤ bs.length ∧ s.2.2.2.1.length ≤ s.2.1 ∧ s.2.2.2.2.length ≤ s.2.2.1) ?test ?step _ (as.length + bs.length, 0, 0, [], []) (Nat.le_refl _) ⟨by simp, by simp, by simp, by simp, by simp⟩)) ?rest
    case test => intro s; exact tr_true
    case rest =>
      refine bdw_of mx (bd_stop (ex_ret (ev_tuple0 ?l (by simp))))
      exact evl0_cons (ev0_own ok2 (by k_mem) rfl) (evl0_cons (ev0_own ok2 (by k_mem) rfl) evl0_nil rfl) rfl
    case step =>
      intro s hI
      obtain ⟨n, i, j, m, u⟩ := s
      obtain ⟨hn, hi, hj, hm, hu'⟩ := hI
      dsimp only at hn hi hj hm hu' ⊢
      -- cases
      by_cases hi' : i < as.length
      rotate_left
      · have d1 : as.drop i = [] := List.drop_eq_nil_of_le (by omega)
        refine .inr ⟨_, exsw_stop (exw_te (ρ1 := (sldR (some (.imm (.list (as.map (tD H))))) (some (.imm (.list (bs.map (tD H))))) (some (.imm (.int ((i : Nat) : Int)))) (some (.imm (.int ((j : Nat) : Int)))) (some (.own a1 ((m).map (tD H)))) (some (.own a2 ((u).map (tD H)))) none none)) (ρ2 := (sldR (some (.imm (.list (as.map (tD H))))) (some (.imm (.list (bs.map (tD H))))) (some (.imm (.int ((i : Nat) : Int)))) (some (.imm (.int ((j : Nat) : Int)))) (some (.own a1 (((m).map (tD H)) ++ (as.drop (i)).map (tD H)))) (some (.own a2 (((u).map (tD H)) ++ (bs.drop (j)).map (tD H)))) none none)) B ok2.toOkE hh rfl rfl ?rz1 ?suite1) (by simp), ?le1⟩
        case suite1 =>
          intro e0 T0 o'
          refine exs_cons (ex_extend (es := (as.drop (i)).map (tD H)) o' (by k_mem) rfl (ev_eq (by rw [pick_from, List.map_drop]) (ev_slice (ev_nameE o' (by k_mem) rfl) (evp_some (ev_nameE o' (by k_mem) rfl)) evp_none evp_none (by simp) hA)) (by walk_at "m_upd") (by simp only [List.length_map, List.length_drop, List.length_append, List.length_cons, List.length_nil]; omega) rfl rfl rfl) ?_
          refine exs_cons (ex_extend (es := (bs.drop (j)).map (tD H)) o' (by k_mem) rfl (ev_eq (by rw [pick_from, List.map_drop]) (ev_slice (ev_nameE o' (by k_mem) rfl) (evp_some (ev_nameE o' (by k_mem) rfl)) evp_none evp_none (by simp) hBz)) (by walk_at "m_upd") (by simp only [List.length_map, List.length_drop, List.length_append, List.length_cons, List.length_nil]; omega) rfl rfl rfl) ?_
          exact exs_stop ex_break (by simp)
        case le1 =>
          have e9 : sldP lt n (as.drop i) (bs.drop j) m u = (m ++ as.drop (i), u ++ bs.drop (j)) := by
            rw [d1, sldP_nl]
          rw [e9]; simp only [List.map_append]
          exact .same (.same (.drop (.drop (Le.refl _))))
        case rz1 =>
          exact RzS.any (rzs_one (rz_assign ok2.toOkE (out_sub ok2.toOkE (by k_mem) (by k_mem) rfl rfl (by omega) (by omega)) rfl))
      obtain ⟨e, he⟩ := at_some hi'
      by_cases hj' : j < bs.length
      rotate_left
      · have d1 : bs.drop j = [] := List.drop_eq_nil_of_le (by omega)
        refine .inr ⟨_, exsw_stop (exw_te (ρ1 := (sldR (some (.imm (.list (as.map (tD H))))) (some (.imm (.list (bs.map (tD H))))) (some (.imm (.int ((i : Nat) : Int)))) (some (.imm (.int ((j : Nat) : Int)))) (some (.own a1 ((m).map (tD H)))) (some (.own a2 ((u).map (tD H)))) none none)) (ρ2 := (sldR (some (.imm (.list (as.map (tD H))))) (some (.imm (.list (bs.map (tD H))))) (some (.imm (.int ((i : Nat) : Int)))) (some (.imm (.int ((j : Nat) : Int)))) (some (.own a1 (((m).map (tD H)) ++ (as.drop (i)).map (tD H)))) (some (.own a2 (((u).map (tD H)) ++ (bs.drop (j)).map (tD H)))) none none)) B ok2.toOkE hh rfl rfl ?rz2 ?suite2) (by simp), ?le2⟩
        case suite2 =>
          intro e0 T0 o'
          refine exs_cons (ex_extend (es := (as.drop (i)).map (tD H)) o' (by k_mem) rfl (ev_eq (by rw [pick_from, List.map_drop]) (ev_slice (ev_nameE o' (by k_mem) rfl) (evp_some (ev_nameE o' (by k_mem) rfl)) evp_none evp_none (by simp) hA)) (by walk_at "m_upd") (by simp only [List.length_map, List.length_drop, List.length_append, List.length_cons, List.length_nil]; omega) rfl rfl rfl) ?_
          refine exs_cons (ex_extend (es := (bs.drop (j)).map (tD H)) o' (by k_mem) rfl (ev_eq (by rw [pick_from, List.map_drop]) (ev_slice (ev_nameE o' (by k_mem) rfl) (evp_some (ev_nameE o' (by k_mem) rfl)) evp_none evp_none (by simp) hBz)) (by walk_at "m_upd") (by simp only [List.length_map, List.length_drop, List.length_append, List.length_cons, List.length_nil]; omega) rfl rfl rfl) ?_
          exact exs_stop ex_break (by simp)
        case le2 =>
          have e9 : sldP lt n (as.drop i) (bs.drop j) m u = (m ++ as.drop (i), u ++ bs.drop (j)) := by
            rw [d1, sldP_nr]
          rw [e9]; simp only [List.map_append]
          exact .same (.same (.drop (.drop (Le.refl _))))
        case rz2 =>
          exact rzs_cons (exw_of mx (ex_assign ok2 (ev_sub (ev_nameE ok2.toOkE (by k_mem) rfl) (ev_nameE ok2.toOkE (by k_mem) rfl) (t_at he) (by omega) hA (by walk_at "m_ns")) (by walk_at "m_upd") (by walk_at "m_stor") rfl)) (rzs_le (RzS.any (rzs_one (rz_assign ok2.toOkE (out_sub ok2.toOkE (by k_mem) (by k_mem) rfl rfl (by omega) (by omega)) rfl))) (.same (.same (.same (.same (.same (.same (.drop (.same .nil)))))))))
      obtain ⟨a, ha⟩ := at_some hj'
      have de := drop_at he
      have da := drop_at ha
      obtain ⟨n', rfl⟩ : ∃ n', n = n' + 1 := ⟨n - 1, by omega⟩
      have sl : sldP lt (n' + 1) (as.drop i) (bs.drop j) m u = if lt e a then sldP lt n' (as.drop (i + 1)) (a :: bs.drop (j + 1)) (m ++ [e]) u else if lt a e then sldP lt n' (e :: as.drop (i + 1)) (bs.drop (j + 1)) m (u ++ [a]) else sldP lt n' (as.drop (i + 1)) (bs.drop (j + 1)) m u := by
        rw [de, da]; rfl
      have Tlt : Cm c _ .Lt (tD H e) (tD H a) (lt e a) := cm_eq' (hlt e a (hAn e (List.mem_of_getElem? he)) (hBn a (List.mem_of_getElem? ha))) (cm_lt2 ok2)
      have Tgt : Cm c _ .Gt (tD H e) (tD H a) (lt a e) := cm_eq' (hlt a e (hBn a (List.mem_of_getElem? ha)) (hAn e (List.mem_of_getElem? he))) (cm_gt2 ok2)
      cases hlt : lt e a with
      | true =>
        have sl1 : sldP lt (n' + 1) (as.drop i) (bs.drop j) m u = sldP lt n' (as.drop (i + 1)) (bs.drop j) (m ++ [e]) u := by rw [sl, hlt, if_pos rfl, ← da]
        have mm : (m ++ [e]).map (tD H) = m.map (tD H) ++ [tD H e] := by rw [List.map_append]; rfl
        by_cases hi2 : i + 1 < as.length
        · obtain ⟨b, hb⟩ := at_some hi2
          refine .inl ⟨(n', i + 1, j, m ++ [e], u), by omega, ⟨by dsimp only; omega, by dsimp only; omega, by dsimp only; omega, by simp only [List.length_append, List.length_cons, List.length_nil]; omega, by simp only [List.length_append, List.length_cons, List.length_nil]; omega⟩, ?eq3, (sldR (some (.imm (.list (as.map (tD H))))) (some (.imm (.list (bs.map (tD H))))) (some (.imm (.int ((i + 1 : Nat) : Int)))) (some (.imm (.int ((j : Nat) : Int)))) (some (.own a1 ((m ++ [e]).map (tD H)))) (some (.own a2 ((u).map (tD H)))) (some (.imm (tD H e))) (some (.imm (tD H a)))), ?x3, ?le3⟩
          case eq3 =>
            show sldP lt n' (as.drop (i + 1)) (bs.drop (j)) (m ++ [e]) (u) = _
            exact sl1.symm
          case le3 => exact .same (.same (.same (.same (.same (.same (.drop (.drop .nil)))))))
          case x3 =>
            refine exsw_stop1 (exw_te0 ?b3)
            refine exsw_cons (exw_of mx (ex_assign ok2 (ev_sub (ev_nameE ok2.toOkE (by k_mem) rfl) (ev_nameE ok2.toOkE (by k_mem) rfl) (t_at he) (by omega) hA (by walk_at "m_ns")) (by walk_at "m_upd") (by walk_at "m_stor") rfl)) ?_
            refine exsw_cons (exw_of mx (ex_assign ok2 (ev_sub (ev_nameE ok2.toOkE (by k_mem) rfl) (ev_nameE ok2.toOkE (by k_mem) rfl) (t_at ha) (by omega) hBz (by walk_at "m_ns")) (by walk_at "m_upd") (by walk_at "m_stor") rfl)) ?_
            rw [mm]
            refine exsw_cons (exw_if (b := true) mx (tr_eq (b' := true) hlt (tr_cmp (Ev.w (ev_nameE ok2.toOkE (by k_mem) rfl)) (Ev.w (ev_nameE ok2.toOkE (by k_mem) rfl)) Tlt rfl)) ?_) exsw_nil
            exact exsw_cons (exw_of mx (ex_append ok2 (by k_mem) rfl (ev_nameE ok2.toOkE (by k_mem) rfl) (by walk_at "m_upd") (by rw [List.length_map]; omega) rfl rfl rfl)) (exsw_cons (exw_of mx (by walk_at "m_inc")) (exsw_cons (exw_of mx (stop_w ok2.toOkE hu (by k_mem) (by k_mem) (by k_mem) rfl rfl rfl hb (nodup_next na he hb) (by omega))) exsw_nil))
        · have d1 : as.drop (i + 1) = [] := List.drop_eq_nil_of_le (by omega)
          refine .inr ⟨_, exsw_stop (exw_te (ρ1 := (sldR (some (.imm (.list (as.map (tD H))))) (some (.imm (.list (bs.map (tD H))))) (some (.imm (.int ((i + 1 : Nat) : Int)))) (some (.imm (.int ((j : Nat) : Int)))) (some (.own a1 ((m ++ [e]).map (tD H)))) (some (.own a2 ((u).map (tD H)))) none none)) (ρ2 := (sldR (some (.imm (.list (as.map (tD H))))) (some (.imm (.list (bs.map (tD H))))) (some (.imm (.int ((i + 1 : Nat) : Int)))) (some (.imm (.int ((j : Nat) : Int)))) (some (.own a1 (((m ++ [e]).map (tD H)) ++ (as.drop (i + 1)).map (tD H)))) (some (.own a2 (((u).map (tD H)) ++ (bs.drop (j)).map (tD H)))) none none)) B ok2.toOkE hh rfl rfl ?rz4 ?suite4) (by simp), ?le4⟩
          case suite4 =>
            intro e0 T0 o'
            refine exs_cons (ex_extend (es := (as.drop (i + 1)).map (tD H)) o' (by k_mem) rfl (ev_eq (by rw [pick_from, List.map_drop]) (ev_slice (ev_nameE o' (by k_mem) rfl) (evp_some (ev_nameE o' (by k_mem) rfl)) evp_none evp_none (by simp) hA)) (by walk_at "m_upd") (by simp only [List.length_map, List.length_drop, List.length_append, List.length_cons, List.length_nil]; omega) rfl rfl rfl) ?_
            refine exs_cons (ex_extend (es := (bs.drop (j)).map (tD H)) o' (by k_mem) rfl (ev_eq (by rw [pick_from, List.map_drop]) (ev_slice (ev_nameE o' (by k_mem) rfl) (evp_some (ev_nameE o' (by k_mem) rfl)) evp_none evp_none (by simp) hBz)) (by walk_at "m_upd") (by simp only [List.length_map, List.length_drop, List.length_append, List.length_cons, List.length_nil]; omega) rfl rfl rfl) ?_
            exact exs_stop ex_break (by simp)
          case le4 =>
            have e9 : sldP lt (n' + 1) (as.drop i) (bs.drop j) m u = (m ++ [e] ++ as.drop (i + 1), u ++ bs.drop (j)) := by
              rw [sl1, d1, sldP_nl]
            rw [e9]; simp only [List.map_append]
            exact .same (.same (.drop (.drop (Le.refl _))))
          case rz4 =>
            rw [mm]
            refine rzs_cons (exw_of mx (ex_assign ok2 (ev_sub (ev_nameE ok2.toOkE (by k_mem) rfl) (ev_nameE ok2.toOkE (by k_mem) rfl) (t_at he) (by omega) hA (by walk_at "m_ns")) (by walk_at "m_upd") (by walk_at "m_stor") rfl)) (rzs_cons (exw_of mx (ex_assign ok2 (ev_sub (ev_nameE ok2.toOkE (by k_mem) rfl) (ev_nameE ok2.toOkE (by k_mem) rfl) (t_at ha) (by omega) hBz (by walk_at "m_ns")) (by walk_at "m_upd") (by walk_at "m_stor") rfl)) (rzs_le (ρ1 := (sldR (some (.imm (.list (as.map (tD H))))) (some (.imm (.list (bs.map (tD H))))) (some (.imm (.int ((i + 1 : Nat) : Int)))) (some (.imm (.int ((j : Nat) : Int)))) (some (.own a1 ((m).map (tD H) ++ [tD H e]))) (some (.own a2 ((u).map (tD H)))) (some (.imm (tD H e))) (some (.imm (tD H a))))) (rzs_one ?q4) (.same (.same (.same (.same (.same (.same (.drop (.drop .nil))))))))))
            refine rz_if (b := true) (tr_eq (b' := true) hlt (tr_cmp (Ev.w (ev_nameE ok2.toOkE (by k_mem) rfl)) (Ev.w (ev_nameE ok2.toOkE (by k_mem) rfl)) Tlt rfl)) ?_
            exact rzs_cons (exw_of mx (ex_append ok2 (by k_mem) rfl (ev_nameE ok2.toOkE (by k_mem) rfl) (by walk_at "m_upd") (by rw [List.length_map]; omega) rfl rfl rfl)) (rzs_cons (exw_of mx (by walk_at "m_inc")) (RzS.any (rzs_one (out_w ok2.toOkE rfl (by k_mem) (by k_mem) rfl rfl (by omega) (by omega)))))

      | false =>
      cases hgt : lt a e with
      | true =>
        have sl1 : sldP lt (n' + 1) (as.drop i) (bs.drop j) m u = sldP lt n' (as.drop i) (bs.drop (j + 1)) m (u ++ [a]) := by rw [sl, hlt, hgt, if_neg (by simp), if_pos rfl, ← de]
        have mm : (u ++ [a]).map (tD H) = u.map (tD H) ++ [tD H a] := by rw [List.map_append]; rfl
        by_cases hj2 : j + 1 < bs.length
        · obtain ⟨b, hb2⟩ := at_some hj2
          refine .inl ⟨(n', i, j + 1, m, u ++ [a]), by omega, ⟨by dsimp only; omega, by dsimp only; omega, by dsimp only; omega, by simp only [List.length_append, List.length_cons, List.length_nil]; omega, by simp only [List.length_append, List.length_cons, List.length_nil]; omega⟩, ?eq5, (sldR (some (.imm (.list (as.map (tD H))))) (some (.imm (.list (bs.map (tD H))))) (some (.imm (.int ((i : Nat) : Int)))) (some (.imm (.int ((j + 1 : Nat) : Int)))) (some (.own a1 ((m).map (tD H)))) (some (.own a2 ((u ++ [a]).map (tD H)))) (some (.imm (tD H e))) (some (.imm (tD H a)))), ?x5, ?le5⟩
          case eq5 =>
            show sldP lt n' (as.drop (i)) (bs.drop (j + 1)) (m) (u ++ [a]) = _
            exact sl1.symm
          case le5 => exact .same (.same (.same (.same (.same (.same (.drop (.drop .nil)))))))
          case x5 =>
            refine exsw_stop1 (exw_te0 ?b5)
            refine exsw_cons (exw_of mx (ex_assign ok2 (ev_sub (ev_nameE ok2.toOkE (by k_mem) rfl) (ev_nameE ok2.toOkE (by k_mem) rfl) (t_at he) (by omega) hA (by walk_at "m_ns")) (by walk_at "m_upd") (by walk_at "m_stor") rfl)) ?_
            refine exsw_cons (exw_of mx (ex_assign ok2 (ev_sub (ev_nameE ok2.toOkE (by k_mem) rfl) (ev_nameE ok2.toOkE (by k_mem) rfl) (t_at ha) (by omega) hBz (by walk_at "m_ns")) (by walk_at "m_upd") (by walk_at "m_stor") rfl)) ?_
            rw [mm]
            refine exsw_cons (exw_if (b := false) mx (tr_eq (b' := false) hlt (tr_cmp (Ev.w (ev_nameE ok2.toOkE (by k_mem) rfl)) (Ev.w (ev_nameE ok2.toOkE (by k_mem) rfl)) Tlt rfl)) (exsw_cons (exw_if (b := true) mx (tr_eq (b' := true) hgt (tr_cmp (Ev.w (ev_nameE ok2.toOkE (by k_mem) rfl)) (Ev.w (ev_nameE ok2.toOkE (by k_mem) rfl)) Tgt rfl)) ?_) exsw_nil)) exsw_nil
            exact exsw_cons (exw_of mx (ex_append ok2 (by k_mem) rfl (ev_nameE ok2.toOkE (by k_mem) rfl) (by walk_at "m_upd") (by rw [List.length_map]; omega) rfl rfl rfl)) (exsw_cons (exw_of mx (by walk_at "m_inc")) (exsw_cons (exw_of mx (stop_w ok2.toOkE hu (by k_mem) (by k_mem) (by k_mem) rfl rfl rfl hb2 (nodup_next nb ha hb2) (by omega))) exsw_nil))
        · have d1 : bs.drop (j + 1) = [] := List.drop_eq_nil_of_le (by omega)
          refine .inr ⟨_, exsw_stop (exw_te (ρ1 := (sldR (some (.imm (.list (as.map (tD H))))) (some (.imm (.list (bs.map (tD H))))) (some (.imm (.int ((i : Nat) : Int)))) (some (.imm (.int ((j + 1 : Nat) : Int)))) (some (.own a1 ((m).map (tD H)))) (some (.own a2 ((u ++ [a]).map (tD H)))) none none)) (ρ2 := (sldR (some (.imm (.list (as.map (tD H))))) (some (.imm (.list (bs.map (tD H))))) (some (.imm (.int ((i : Nat) : Int)))) (some (.imm (.int ((j + 1 : Nat) : Int)))) (some (.own a1 (((m).map (tD H)) ++ (as.drop (i)).map (tD H)))) (some (.own a2 (((u ++ [a]).map (tD H)) ++ (bs.drop (j + 1)).map (tD H)))) none none)) B ok2.toOkE hh rfl rfl ?rz6 ?suite6) (by simp), ?le6⟩
          case suite6 =>
            intro e0 T0 o'
            refine exs_cons (ex_extend (es := (as.drop (i)).map (tD H)) o' (by k_mem) rfl (ev_eq (by rw [pick_from, List.map_drop]) (ev_slice (ev_nameE o' (by k_mem) rfl) (evp_some (ev_nameE o' (by k_mem) rfl)) evp_none evp_none (by simp) hA)) (by walk_at "m_upd") (by simp only [List.length_map, List.length_drop, List.length_append, List.length_cons, List.length_nil]; omega) rfl rfl rfl) ?_
            refine exs_cons (ex_extend (es := (bs.drop (j + 1)).map (tD H)) o' (by k_mem) rfl (ev_eq (by rw [pick_from, List.map_drop]) (ev_slice (ev_nameE o' (by k_mem) rfl) (evp_some (ev_nameE o' (by k_mem) rfl)) evp_none evp_none (by simp) hBz)) (by walk_at "m_upd") (by simp only [List.length_map, List.length_drop, List.length_append, List.length_cons, List.length_nil]; omega) rfl rfl rfl) ?_
            exact exs_stop ex_break (by simp)
          case le6 =>
            have e9 : sldP lt (n' + 1) (as.drop i) (bs.drop j) m u = (m ++ as.drop (i), u ++ [a] ++ bs.drop (j + 1)) := by
              rw [sl1, d1, sldP_nr]
            rw [e9]; simp only [List.map_append]
            exact .same (.same (.drop (.drop (Le.refl _))))
          case rz6 =>
            rw [mm]
            refine rzs_cons (exw_of mx (ex_assign ok2 (ev_sub (ev_nameE ok2.toOkE (by k_mem) rfl) (ev_nameE ok2.toOkE (by k_mem) rfl) (t_at he) (by omega) hA (by walk_at "m_ns")) (by walk_at "m_upd") (by walk_at "m_stor") rfl)) (rzs_cons (exw_of mx (ex_assign ok2 (ev_sub (ev_nameE ok2.toOkE (by k_mem) rfl) (ev_nameE ok2.toOkE (by k_mem) rfl) (t_at ha) (by omega) hBz (by walk_at "m_ns")) (by walk_at "m_upd") (by walk_at "m_stor") rfl)) (rzs_le (ρ1 := (sldR (some (.imm (.list (as.map (tD H))))) (some (.imm (.list (bs.map (tD H))))) (some (.imm (.int ((i : Nat) : Int)))) (some (.imm (.int ((j + 1 : Nat) : Int)))) (some (.own a1 ((m).map (tD H)))) (some (.own a2 ((u).map (tD H) ++ [tD H a]))) (some (.imm (tD H e))) (some (.imm (tD H a))))) (rzs_one ?q6) (.same (.same (.same (.same (.same (.same (.drop (.drop .nil))))))))))
            refine rz_if (b := false) (tr_eq (b' := false) hlt (tr_cmp (Ev.w (ev_nameE ok2.toOkE (by k_mem) rfl)) (Ev.w (ev_nameE ok2.toOkE (by k_mem) rfl)) Tlt rfl)) (rzs_one (rz_if (b := true) (tr_eq (b' := true) hgt (tr_cmp (Ev.w (ev_nameE ok2.toOkE (by k_mem) rfl)) (Ev.w (ev_nameE ok2.toOkE (by k_mem) rfl)) Tgt rfl)) ?_))
            exact rzs_cons (exw_of mx (ex_append ok2 (by k_mem) rfl (ev_nameE ok2.toOkE (by k_mem) rfl) (by walk_at "m_upd") (by rw [List.length_map]; omega) rfl rfl rfl)) (rzs_cons (exw_of mx (by walk_at "m_inc")) (RzS.any (rzs_one (out_w ok2.toOkE rfl (by k_mem) (by k_mem) rfl rfl (by omega) (by omega)))))

      | false =>
        have sl1 : sldP lt (n' + 1) (as.drop i) (bs.drop j) m u = sldP lt n' (as.drop (i + 1)) (bs.drop (j + 1)) m u := by rw [sl, hlt, hgt, if_neg (by simp), if_neg (by simp)]
        by_cases hi2 : i + 1 < as.length
        · obtain ⟨b, hb⟩ := at_some hi2
          by_cases hj2 : j + 1 < bs.length
          · obtain ⟨b2, hb2⟩ := at_some hj2
            refine .inl ⟨(n', i + 1, j + 1, m, u), by omega, ⟨by dsimp only; omega, by dsimp only; omega, by dsimp only; omega, by simp only [List.length_append, List.length_cons, List.length_nil]; omega, by simp only [List.length_append, List.length_cons, List.length_nil]; omega⟩, ?eq7, (sldR (some (.imm (.list (as.map (tD H))))) (some (.imm (.list (bs.map (tD H))))) (some (.imm (.int ((i + 1 : Nat) : Int)))) (some (.imm (.int ((j + 1 : Nat) : Int)))) (some (.own a1 ((m).map (tD H)))) (some (.own a2 ((u).map (tD H)))) (some (.imm (tD H e))) (some (.imm (tD H a)))), ?x7, ?le7⟩
            case eq7 =>
              show sldP lt n' (as.drop (i + 1)) (bs.drop (j + 1)) (m) (u) = _
              exact sl1.symm
            case le7 => exact .same (.same (.same (.same (.same (.same (.drop (.drop .nil)))))))
            case x7 =>
              refine exsw_stop1 (exw_te0 ?b7)
              refine exsw_cons (exw_of mx (ex_assign ok2 (ev_sub (ev_nameE ok2.toOkE (by k_mem) rfl) (ev_nameE ok2.toOkE (by k_mem) rfl) (t_at he) (by omega) hA (by walk_at "m_ns")) (by walk_at "m_upd") (by walk_at "m_stor") rfl)) ?_
              refine exsw_cons (exw_of mx (ex_assign ok2 (ev_sub (ev_nameE ok2.toOkE (by k_mem) rfl) (ev_nameE ok2.toOkE (by k_mem) rfl) (t_at ha) (by omega) hBz (by walk_at "m_ns")) (by walk_at "m_upd") (by walk_at "m_stor") rfl)) ?_
              refine exsw_cons (exw_if (b := false) mx (tr_eq (b' := false) hlt (tr_cmp (Ev.w (ev_nameE ok2.toOkE (by k_mem) rfl)) (Ev.w (ev_nameE ok2.toOkE (by k_mem) rfl)) Tlt rfl)) (exsw_cons (exw_if (b := false) mx (tr_eq (b' := false) hgt (tr_cmp (Ev.w (ev_nameE ok2.toOkE (by k_mem) rfl)) (Ev.w (ev_nameE ok2.toOkE (by k_mem) rfl)) Tgt rfl)) ?_) exsw_nil)) exsw_nil
              exact exsw_cons (exw_of mx (by walk_at "m_inc")) (exsw_cons (exw_tf (exsw_cons (exw_of mx (stop_w ok2.toOkE hu (by k_mem) (by k_mem) (by k_mem) rfl rfl rfl hb (nodup_next na he hb) (by omega))) exsw_nil) (exsw_cons (exw_of mx (by walk_at "m_inc")) (exsw_cons (exw_of mx (stop_w ok2.toOkE hu (by k_mem) (by k_mem) (by k_mem) rfl rfl rfl hb2 (nodup_next nb ha hb2) (by omega))) exsw_nil))) exsw_nil)
          · have d1 : bs.drop (j + 1) = [] := List.drop_eq_nil_of_le (by omega)
            refine .inr ⟨_, exsw_stop (exw_te (ρ1 := (sldR (some (.imm (.list (as.map (tD H))))) (some (.imm (.list (bs.map (tD H))))) (some (.imm (.int ((i + 1 : Nat) : Int)))) (some (.imm (.int ((j + 1 : Nat) : Int)))) (some (.own a1 ((m).map (tD H)))) (some (.own a2 ((u).map (tD H)))) none none)) (ρ2 := (sldR (some (.imm (.list (as.map (tD H))))) (some (.imm (.list (bs.map (tD H))))) (some (.imm (.int ((i + 1 : Nat) : Int)))) (some (.imm (.int ((j + 1 : Nat) : Int)))) (some (.own a1 (((m).map (tD H)) ++ (as.drop (i + 1)).map (tD H)))) (some (.own a2 (((u).map (tD H)) ++ (bs.drop (j + 1)).map (tD H)))) none none)) B ok2.toOkE hh rfl rfl ?rz8 ?suite8) (by simp), ?le8⟩
            case suite8 =>
              intro e0 T0 o'
              refine exs_cons (ex_extend (es := (as.drop (i + 1)).map (tD H)) o' (by k_mem) rfl (ev_eq (by rw [pick_from, List.map_drop]) (ev_slice (ev_nameE o' (by k_mem) rfl) (evp_some (ev_nameE o' (by k_mem) rfl)) evp_none evp_none (by simp) hA)) (by walk_at "m_upd") (by simp only [List.length_map, List.length_drop, List.length_append, List.length_cons, List.length_nil]; omega) rfl rfl rfl) ?_
              refine exs_cons (ex_extend (es := (bs.drop (j + 1)).map (tD H)) o' (by k_mem) rfl (ev_eq (by rw [pick_from, List.map_drop]) (ev_slice (ev_nameE o' (by k_mem) rfl) (evp_some (ev_nameE o' (by k_mem) rfl)) evp_none evp_none (by simp) hBz)) (by walk_at "m_upd") (by simp only [List.length_map, List.length_drop, List.length_append, List.length_cons, List.length_nil]; omega) rfl rfl rfl) ?_
              exact exs_stop ex_break (by simp)
            case le8 =>
              have e9 : sldP lt (n' + 1) (as.drop i) (bs.drop j) m u = (m ++ as.drop (i + 1), u ++ bs.drop (j + 1)) := by
                rw [sl1, d1, sldP_nr]
              rw [e9]; simp only [List.map_append]
              exact .same (.same (.drop (.drop (Le.refl _))))
            case rz8 =>
              refine rzs_cons (exw_of mx (ex_assign ok2 (ev_sub (ev_nameE ok2.toOkE (by k_mem) rfl) (ev_nameE ok2.toOkE (by k_mem) rfl) (t_at he) (by omega) hA (by walk_at "m_ns")) (by walk_at "m_upd") (by walk_at "m_stor") rfl)) (rzs_cons (exw_of mx (ex_assign ok2 (ev_sub (ev_nameE ok2.toOkE (by k_mem) rfl) (ev_nameE ok2.toOkE (by k_mem) rfl) (t_at ha) (by omega) hBz (by walk_at "m_ns")) (by walk_at "m_upd") (by walk_at "m_stor") rfl)) (rzs_le (ρ1 := (sldR (some (.imm (.list (as.map (tD H))))) (some (.imm (.list (bs.map (tD H))))) (some (.imm (.int ((i + 1 : Nat) : Int)))) (some (.imm (.int ((j + 1 : Nat) : Int)))) (some (.own a1 ((m).map (tD H)))) (some (.own a2 ((u).map (tD H)))) (some (.imm (tD H e))) (some (.imm (tD H a))))) (rzs_one ?q8) (.same (.same (.same (.same (.same (.same (.drop (.drop .nil))))))))))
              refine rz_if (b := false) (tr_eq (b' := false) hlt (tr_cmp (Ev.w (ev_nameE ok2.toOkE (by k_mem) rfl)) (Ev.w (ev_nameE ok2.toOkE (by k_mem) rfl)) Tlt rfl)) (rzs_one (rz_if (b := false) (tr_eq (b' := false) hgt (tr_cmp (Ev.w (ev_nameE ok2.toOkE (by k_mem) rfl)) (Ev.w (ev_nameE ok2.toOkE (by k_mem) rfl)) Tgt rfl)) ?_))
              refine rzs_cons (exw_of mx (by walk_at "m_inc")) (rzs_one ?_)
              exact rz_tf1 ok2.toOkE rfl (exsw_cons (exw_of mx (stop_w ok2.toOkE hu (by k_mem) (by k_mem) (by k_mem) rfl rfl rfl hb (nodup_next na he hb) (by omega))) exsw_nil) (rzs_cons (exw_of mx (by walk_at "m_inc")) (RzS.any (rzs_one (out_w ok2.toOkE rfl (by k_mem) (by k_mem) rfl rfl (by omega) (by omega)))))
        · have d1 : as.drop (i + 1) = [] := List.drop_eq_nil_of_le (by omega)
          refine .inr ⟨_, exsw_stop (exw_te (ρ1 := (sldR (some (.imm (.list (as.map (tD H))))) (some (.imm (.list (bs.map (tD H))))) (some (.imm (.int ((i + 1 : Nat) : Int)))) (some (.imm (.int ((j + 1 : Nat) : Int)))) (some (.own a1 ((m).map (tD H)))) (some (.own a2 ((u).map (tD H)))) none none)) (ρ2 := (sldR (some (.imm (.list (as.map (tD H))))) (some (.imm (.list (bs.map (tD H))))) (some (.imm (.int ((i + 1 : Nat) : Int)))) (some (.imm (.int ((j + 1 : Nat) : Int)))) (some (.own a1 (((m).map (tD H)) ++ (as.drop (i + 1)).map (tD H)))) (some (.own a2 (((u).map (tD H)) ++ (bs.drop (j + 1)).map (tD H)))) none none)) B ok2.toOkE hh rfl rfl ?rz9 ?suite9) (by simp), ?le9⟩
          case suite9 =>
            intro e0 T0 o'
            refine exs_cons (ex_extend (es := (as.drop (i + 1)).map (tD H)) o' (by k_mem) rfl (ev_eq (by rw [pick_from, List.map_drop]) (ev_slice (ev_nameE o' (by k_mem) rfl) (evp_some (ev_nameE o' (by k_mem) rfl)) evp_none evp_none (by simp) hA)) (by walk_at "m_upd") (by simp only [List.length_map, List.length_drop, List.length_append, List.length_cons, List.length_nil]; omega) rfl rfl rfl) ?_
            refine exs_cons (ex_extend (es := (bs.drop (j + 1)).map (tD H)) o' (by k_mem) rfl (ev_eq (by rw [pick_from, List.map_drop]) (ev_slice (ev_nameE o' (by k_mem) rfl) (evp_some (ev_nameE o' (by k_mem) rfl)) evp_none evp_none (by simp) hBz)) (by walk_at "m_upd") (by simp only [List.length_map, List.length_drop, List.length_append, List.length_cons, List.length_nil]; omega) rfl rfl rfl) ?_
            exact exs_stop ex_break (by simp)
          case le9 =>
            have e9 : sldP lt (n' + 1) (as.drop i) (bs.drop j) m u = (m ++ as.drop (i + 1), u ++ bs.drop (j + 1)) := by
              rw [sl1, d1, sldP_nl]
            rw [e9]; simp only [List.map_append]
            exact .same (.same (.drop (.drop (Le.refl _))))
          case rz9 =>
              refine rzs_cons (exw_of mx (ex_assign ok2 (ev_sub (ev_nameE ok2.toOkE (by k_mem) rfl) (ev_nameE ok2.toOkE (by k_mem) rfl) (t_at he) (by omega) hA (by walk_at "m_ns")) (by walk_at "m_upd") (by walk_at "m_stor") rfl)) (rzs_cons (exw_of mx (ex_assign ok2 (ev_sub (ev_nameE ok2.toOkE (by k_mem) rfl) (ev_nameE ok2.toOkE (by k_mem) rfl) (t_at ha) (by omega) hBz (by walk_at "m_ns")) (by walk_at "m_upd") (by walk_at "m_stor") rfl)) (rzs_le (ρ1 := (sldR (some (.imm (.list (as.map (tD H))))) (some (.imm (.list (bs.map (tD H))))) (some (.imm (.int ((i + 1 : Nat) : Int)))) (some (.imm (.int ((j + 1 : Nat) : Int)))) (some (.own a1 ((m).map (tD H)))) (some (.own a2 ((u).map (tD H)))) (some (.imm (tD H e))) (some (.imm (tD H a))))) (rzs_one ?q9) (.same (.same (.same (.same (.same (.same (.drop (.drop .nil))))))))))
              refine rz_if (b := false) (tr_eq (b' := false) hlt (tr_cmp (Ev.w (ev_nameE ok2.toOkE (by k_mem) rfl)) (Ev.w (ev_nameE ok2.toOkE (by k_mem) rfl)) Tlt rfl)) (rzs_one (rz_if (b := false) (tr_eq (b' := false) hgt (tr_cmp (Ev.w (ev_nameE ok2.toOkE (by k_mem) rfl)) (Ev.w (ev_nameE ok2.toOkE (by k_mem) rfl)) Tgt rfl)) ?_))
              refine rzs_cons (exw_of mx (by walk_at "m_inc")) (rzs_one ?_)
              refine rz_tf2 ok2.toOkE rfl (rzs_one (out_w ok2.toOkE rfl (by k_mem) (by k_mem) rfl rfl (by omega) (by omega))) fun e9 T9 o9 => ?_
              by_cases hj2 : j + 1 < bs.length
              · obtain ⟨b2, hb2⟩ := at_some hj2
                exact .inl (exsw_cons (exw_of o9.mx (ex_augE o9 (by k_mem) rfl ev_int op_inc (by walk_at "m_upd") (.inl rfl))) (exsw_cons (exw_of o9.mx (stop_w o9 hu (by k_mem) (by k_mem) (by k_mem) rfl rfl rfl hb2 (nodup_next nb ha hb2) (by omega))) exsw_nil))
              · exact .inr (rzs_cons (exw_of o9.mx (ex_augE o9 (by k_mem) rfl ev_int op_inc (by walk_at "m_upd") (.inl rfl))) (RzS.any (rzs_one (out_w o9 rfl (by k_mem) (by k_mem) rfl rfl (by omega) (by omega)))))
end
end Mine
end
section
namespace Mine
open PySem PySem.W PySem.Calls PyProof.Rows PySem.Spec
variable {c : Cx} {k : Nat}
theorem fn_three (B : Base c) {d1 d2 : D} {b1 b2 : Bool} (h1 : ∀ f, Ok c f k → Cm c f .Gt d1 d2 b1) (h2 : ∀ f, Ok c f k → Cm c f .Lt d1 d2 b2) : Fn c (k + 1) (.ref 71) [d1, d2] (.int (b2i b1 - b2i b2)) := by
  refine fn_def B [Str.ofString "x", Str.ofString "y"] [] [] _ rfl (B.K 71 _ rfl) rfl ?hcd rfl rfl rfl ?hbind rfl ?hcell ?hloc ?nd ?hfr ?hcl ?hap ?hb rfl rfl rfl
  case hcd => exact codeRec_of B.K rfl
  case hbind => intro s vs h; exact match vs, h with | [a, b], _ => BindsTo.of_eq rfl
  case hcell => decide
  case hloc => decide
  case nd => decide
  case hfr => intro p hp; cases hp
  case hcl => intro x b e; cases e
  case hap => intro x y b e; cases e
  case hb =>
    intro A L X hXL ok
    refine bd_stop (ex_ret (Ev.w (ev_binop (ev_cmp (Ev.w (ev_name ok ?_ rfl)) (Ev.w (ev_name ok ?_ rfl)) (h1 _ ok) rfl) (ev_cmp (Ev.w (ev_name ok ?_ rfl)) (Ev.w (ev_name ok ?_ rfl)) (h2 _ ok) rfl) op_subb)))
    all_goals k_mem
end Mine
end
section
namespace Mine
open PySem PySem.W PySem.Calls PyProof.Rows PySem.Spec
/-- how many things at the row's head are lesser -/
noncomputable def cnd (lt : Nat → Nat → Bool) (g x : Nat) : Bool := decide (b2i (lt g x) - b2i (lt x g) < 0)
noncomputable def plc (lt : Nat → Nat → Bool) (row : List Nat) (g : Nat) : Nat := (row.takeWhile (cnd lt g)).length
noncomputable def nowR (row : List Nat) (p g : Nat) : List Nat := row.take p ++ [g] ++ row.drop (p + 1)
theorem mem_now {row : List Nat} {p g b : Nat} (h : b ∈ nowR row p g) : b ∈ row ∨ b = g := by
  unfold nowR at h
  rw [List.mem_append, List.mem_append, List.mem_singleton] at h
  rcases h with (h | h) | h
  · exact .inl (List.mem_of_mem_take h)
  · exact .inr h
  · exact .inl (List.mem_of_mem_drop h)
noncomputable def layS (lt : Nat → Nat → Bool) (nn : Nat) (st : List (List Nat) × List Nat) (row : List Nat) : Option (List (List Nat) × List Nat) :=
  match st.2 with
  | [] => some (st.1 ++ [row], [])
  | [g] => if (∀ a ∈ row, a < nn) ∧ g < nn ∧ row.Nodup ∧ (nowR row (plc lt row g) g).Nodup ∧ row.length ≤ 100 ∧ sldP lt (row.length + (nowR row (plc lt row g) g).length) row (nowR row (plc lt row g) g) [] [] = ((row.drop (plc lt row g)).take 1, [g])
      then some (st.1 ++ [nowR row (plc lt row g) g], (row.drop (plc lt row g)).take 1) else none
  | _ => none
noncomputable def laidP (lt : Nat → Nat → Bool) (nn : Nat) (rows : List (List Nat)) (t : Nat) : Option (List (List Nat)) :=
  match rows.foldlM (layS lt nn) ([], [t]) with
  | some (laid, []) => some laid
  | some (laid, [g]) => some (laid ++ [[g]])
  | _ => none
theorem tw_lt {α : Type} (p : α → Bool) : ∀ (l : List α) (i : Nat), i < (l.takeWhile p).length → ∃ x, l[i]? = some x ∧ p x = true
  | [], i, h => by simp at h
  | a :: l, i, h => by
    rw [List.takeWhile_cons] at h
    cases q : p a with
    | false => rw [q] at h; simp at h
    | true =>
      rw [q, if_pos rfl] at h
      cases i with
      | zero => exact ⟨a, rfl, q⟩
      | succ i =>
        obtain ⟨x, h1, h2⟩ := tw_lt p l i (by simpa using h)
        exact ⟨x, by simpa using h1, h2⟩
theorem tw_at {α : Type} (p : α → Bool) : ∀ (l : List α) (x : α), l[(l.takeWhile p).length]? = some x → p x = false
  | [], x, h => by simp at h
  | a :: l, x, h => by
    rw [List.takeWhile_cons] at h
    cases q : p a with
    | false => rw [q, if_neg (by simp)] at h; simp at h; exact h ▸ q
    | true => rw [q, if_pos rfl] at h; exact tw_at p l x (by simpa using h)
theorem tw_le {α : Type} (p : α → Bool) : ∀ (l : List α), (l.takeWhile p).length ≤ l.length
  | [] => by simp
  | a :: l => by
    rw [List.takeWhile_cons]
    have := tw_le p l
    cases q : p a with
    | false => simp
    | true => rw [if_pos rfl]; simp; exact this
theorem pls_t (H : Nat → Int) (k : Nat) : ∀ (l : List Nat), D.pls (k + 1) (l.map (tD H)) = true
  | [] => rfl
  | x :: xs => by
    simp only [List.map_cons, D.pls]
    rw [pls_t H k xs]; rfl
noncomputable abbrev rowD (H : Nat → Int) (r : List Nat) : D := .list (r.map (tD H))
theorem pl_row (H : Nat → Int) (k : Nat) (l : List Nat) : (rowD H l).pl (k + 2) = true := by
  show D.pls (k + 1) _ = true
  exact pls_t H k l
theorem pls_rows (H : Nat → Int) (k : Nat) : ∀ (l : List (List Nat)), D.pls (k + 2) (l.map (rowD H)) = true
  | [] => rfl
  | x :: xs => by
    simp only [List.map_cons, D.pls]
    rw [pl_row, pls_rows H k xs]; rfl
theorem runP (P : Nat) : ∀ (n p : Nat), p + n = P → runW (fun p : Nat => if p < P then some (some (p + 1)) else if p = P then some none else none) (n + 1) p = some P
  | 0, p, h => by
    have : p = P := by omega
    subst this
    simp [runW]
  | n + 1, p, h => by
    rw [runW, if_pos (by omega)]
    exact runP P n (p + 1) (by omega)
section
variable {c : Cx} {k : Nat} {H : Nat → Int}
noncomputable abbrev laidR (rows thing laid going row now place told : Option En) : Rho := [((⟨⟨[114, 111, 119, 115]⟩⟩ : Str), rows), ((⟨⟨[116, 104, 105, 110, 103]⟩⟩ : Str), thing), ((⟨⟨[108, 97, 105, 100]⟩⟩ : Str), laid), ((⟨⟨[103, 111, 105, 110, 103]⟩⟩ : Str), going), ((⟨⟨[114, 111, 119]⟩⟩ : Str), row), ((⟨⟨[110, 111, 119]⟩⟩ : Str), now), ((⟨⟨[112, 108, 97, 99, 101]⟩⟩ : Str), place), ((⟨⟨[116, 111, 108, 100]⟩⟩ : Str), told)]
theorem fn_laid (B : Base c) {lt : Nat → Nat → Bool} {nn : Nat} (hlt : ∀ a b, a < nn → b < nn → ltH H a b = lt a b) {rows : List (List Nat)} {t : Nat} {L : List (List Nat)} (hz : rows.length ≤ 100) (hL : laidP lt nn rows t = some L) : FnW c (k + 2) (.ref 92) [.list (rows.map (rowD H)), tD H t] (.list (L.map (rowD H))) := by
  refine fn_defW B [(⟨⟨[114, 111, 119, 115]⟩⟩ : Str), (⟨⟨[116, 104, 105, 110, 103]⟩⟩ : Str)] [(⟨⟨[108, 97, 105, 100]⟩⟩ : Str), (⟨⟨[103, 111, 105, 110, 103]⟩⟩ : Str), (⟨⟨[114, 111, 119]⟩⟩ : Str), (⟨⟨[110, 111, 119]⟩⟩ : Str), (⟨⟨[112, 108, 97, 99, 101]⟩⟩ : Str), (⟨⟨[116, 111, 108, 100]⟩⟩ : Str)] (laidR (some (.imm (.list (rows.map (rowD H))))) (some (.imm (tD H t))) none none none none none none) rfl (B.K 92 _ rfl) rfl ?hcd rfl rfl rfl ?hbind rfl ?hcell ?hloc ?nd ?hcl ?hap ?hb rfl rfl rfl
  case hcd => exact codeRec_of (Base.K ‹Base _›) rfl
  case hbind => intro s vs h; obtain ⟨a, b, e⟩ := len2 h; subst e; exact BindsTo.of_eq rfl
  case hcell => decide
  case hloc => decide
  case nd => decide
  case hcl => intro x b e; cases e
  case hap => intro x y b e; cases e
  case hb =>
    intro A L0 X outer ok
    refine bdw_own (ds := []) ok (evf_list (by walk_at "m_evl") (by simp)) (fun a => _) (fun a => by walk_at "m_upd") (by walk_at "m_stor") rfl fun a ok1 => ?_
    clear ok
    have mx := ok1.mx
    refine bdw_seq (exw_of mx (by walk_at "m_st")) ?_
    obtain ⟨⟨laid, going⟩, hf, hfin⟩ : ∃ st, rows.foldlM (layS lt nn) ([], [t]) = some st ∧ ((st.2 = [] ∧ L = st.1) ∨ ∃ g, st.2 = [g] ∧ L = st.1 ++ [[g]]) := by
      unfold laidP at hL
      cases q : rows.foldlM (layS lt nn) ([], [t]) with
      | none => rw [q] at hL; cases hL
      | some st =>
        rw [q] at hL
        obtain ⟨laid, going⟩ := st
        match going, hL with
        | [], e => exact ⟨_, rfl, .inl ⟨rfl, by cases e; rfl⟩⟩
        | [g], e => exact ⟨_, rfl, .inr ⟨g, rfl, by cases e; rfl⟩⟩
        | _ :: _ :: _, e => cases e
    refine bdw_seq (exw_for ok1 (d := .list (rows.map (rowD H))) (es := rows.map (rowD H)) (by walk_at "m_ev") rfl
      (fow_M ok1 (rowD H) (fun st : List (List Nat) × List Nat => laidR (some (.imm (.list (rows.map (rowD H))))) (some (.imm (tD H t))) (some (.own a (st.1.map (rowD H)))) (some (.imm (.list (st.2.map (tD H))))) none none none none) (layS lt nn) (fun st rem => st.1.length + rem.length = rows.length) (by walk_at "m_stor") ?step rows ([], [t]) (laid, going) (by simp) hf) (fun _ => rfl)) ?rest
    case rest =>
      have hlen : laid.length = rows.length := by
        have : ∀ (rs : List (List Nat)) (s s' : List (List Nat) × List Nat), rs.foldlM (layS lt nn) s = some s' → s'.1.length = s.1.length + rs.length := by
          intro rs
          induction rs with
          | nil => intro s s' e; have : s = s' := by simpa using e
                   subst this; simp
          | cons r rs ih =>
            intro s s' e
            rw [List.foldlM_cons] at e
            cases q : layS lt nn s r with
            | none => rw [q] at e; cases e
            | some s1 =>
              rw [q] at e
              have := ih s1 s' e
              have z : s1.1.length = s.1.length + 1 := by
                unfold layS at q
                split at q
                · cases q; simp
                · split at q
                  · cases q; simp
                  · cases q
                · cases q
              rw [this, z, List.length_cons]; omega
        have := this rows _ _ hf
        simpa using this
      have hzl : (laid.map (rowD H)).length ≤ 1000000 := by rw [List.length_map]; omega
      rcases hfin with ⟨rfl, rfl⟩ | ⟨g, rfl, rfl⟩
      · have T : Cm c _ .NotEq (.list (([] : List Nat).map (tD H))) (.list []) false := cm_dne ok1 rfl rfl
        exact bdw_of mx (bd_seq (ex_if (b := false) (by walk_at "m_tr") exs_nil) (bd_stop (by walk_at "m_st")))
      · have T : Cm c _ .NotEq (.list ([g].map (tD H))) (.list []) true := cm_dne ok1 rfl rfl
        have e : (laid ++ [[g]]).map (rowD H) = laid.map (rowD H) ++ [.list ([g].map (tD H))] := by rw [List.map_append]; rfl
        rw [e]
        exact bdw_of mx (bd_seq (ex_if (b := true) (by walk_at "m_tr") (exs_cons (by walk_at "m_st") exs_nil)) (bd_stop (by walk_at "m_st")))
    case step =>
      intro st row rem st' hinv hg
      obtain ⟨ld, gs⟩ := st
      dsimp only at hinv
      have hzl : (ld.map (rowD H)).length ≤ 1000000 := by rw [List.length_map]; rw [List.length_cons] at hinv; omega
      match gs, hg with
      | [], hg =>
        have e' : st' = (ld ++ [row], []) := by cases hg; rfl
        subst e'
        have T : Cm c _ .NotEq (.list (([] : List Nat).map (tD H))) (.list []) false := cm_dne ok1 rfl rfl
        have e : (ld ++ [row]).map (rowD H) = ld.map (rowD H) ++ [rowD H row] := by rw [List.map_append]; rfl
        refine ⟨_, laidR (some (.imm (.list (rows.map (rowD H))))) (some (.imm (tD H t))) (some (.own a (ld.map (rowD H) ++ [rowD H row]))) (some (.imm (.list (([] : List Nat).map (tD H))))) (some (.imm (rowD H row))) (some (.imm (rowD H row))) none none, by walk_at "m_upd", exsw_of mx ?_, ?_, ?_⟩
        · exact exs_cons (by walk_at "m_st") (exs_cons (ex_if (b := false) (by walk_at "m_tr") exs_nil) (exs_cons (by walk_at "m_st") exs_nil))
        · dsimp only; rw [e]
          exact .same (.same (.same (.same (.drop (.drop (Le.refl _))))))
        · dsimp only; rw [List.length_append]; rw [List.length_cons] at hinv; simp only [List.length_cons, List.length_nil]; omega
      | [g], hg =>
        have hp := tw_le (cnd lt g) row
        have tlt := tw_lt (cnd lt g) row
        have tat := tw_at (cnd lt g) row
        unfold layS at hg
        dsimp only at hg
        rw [show (row.takeWhile (cnd lt g)).length = plc lt row g from rfl] at hp tlt tat
        generalize plc lt row g = p at hg hp tlt tat
        split at hg
        · rename_i hc
          obtain ⟨hrn, hgn, n1, n2, hr, htold⟩ := hc
          have e' : st' = (ld ++ [nowR row p g], (row.drop p).take 1) := by cases hg; rfl
          subst e'
          have hg1 : ∀ q, q < p → ∃ x, row[q]? = some x ∧ cnd lt g x = true := tlt
          have F3 : ∀ x, x < nn → Fn c (k + 1) (.ref 71) [tD H x, tD H g] (.int (b2i (lt g x) - b2i (lt x g))) := fun x hx => fn_three B (fun f o => cm_eq' (hlt g x hgn hx) (cm_gt2 o)) (fun f o => cm_eq' (hlt x g hx hgn) (cm_lt2 o))
          have hzr : (row.map (tD H)).length ≤ 1000000 := by rw [List.length_map]; omega
          have T : Cm c _ .NotEq (.list ([g].map (tD H))) (.list []) true := cm_dne ok1 rfl rfl
          have F := fn_sld (c := c) (k := k) (H := H) B (as := row) (bs := nowR row p g) hlt hrn (fun b hb => (mem_now hb).elim (hrn b) (fun e => e ▸ hgn)) n1 n2 (by omega) (by unfold nowR; simp only [List.length_append, List.length_take, List.length_drop, List.length_cons, List.length_nil]; omega)
          rw [htold] at F
          dsimp only at F
          have hzg : ([g].map (tD H)).length ≤ 1000000 := by simp
          have hzp : (pick (row.map (tD H)) none (some (p : Int)) none).length + ([g].map (tD H)).length ≤ 1000000 := by
            rw [pick_upto, List.length_take]; simp only [List.length_map, List.length_cons, List.length_nil]; omega
          have hzq : (pick (row.map (tD H)) none (some (p : Int)) none ++ [g].map (tD H)).length + (pick (row.map (tD H)) (some ((p : Int) + 1)) none none).length ≤ 1000000 := by
            rw [pick_upto, show (p : Int) + 1 = ((p + 1 : Nat) : Int) from by omega, pick_from, List.length_append, List.length_take, List.length_drop]; simp only [List.length_map, List.length_cons, List.length_nil]; omega
          have hnow : D.list (pick (row.map (tD H)) none (some (p : Int)) none ++ [g].map (tD H) ++ pick (row.map (tD H)) (some ((p : Int) + 1)) none none) = rowD H (nowR row p g) := by
            rw [pick_upto, show (p : Int) + 1 = ((p + 1 : Nat) : Int) from by omega, pick_from]
            show D.list _ = D.list _
            unfold nowR
            rw [List.map_append, List.map_append, List.map_take, List.map_drop]
          have hpart : D.list (pick (row.map (tD H)) (some (p : Int)) (some ((p : Int) + 1)) none) = .list (((row.drop p).take 1).map (tD H)) := by
            rw [show (p : Int) + 1 = ((p + 1 : Nat) : Int) from by omega, pick_part _ _ _ (by omega), show p + 1 - p = 1 from by omega, List.map_take, List.map_drop]
          have T2 : Cm c _ .NotEq (.tuple [.list (((row.drop p).take 1).map (tD H)), .list ([g].map (tD H))]) (.tuple [.list (((row.drop p).take 1).map (tD H)), .list ([g].map (tD H))]) false := cm_eq' (by rw [eqv_refl]; rfl) (cm_dne ok1 (by show D.pls 8 [_, _] = true; simp only [D.pls, Bool.and_eq_true]; exact ⟨pl_row H 6 _, pl_row H 6 _, trivial⟩) (by show D.pls 8 [_, _] = true; simp only [D.pls, Bool.and_eq_true]; exact ⟨pl_row H 6 _, pl_row H 6 _, trivial⟩))
          have e : (ld ++ [nowR row p g]).map (rowD H) = ld.map (rowD H) ++ [rowD H (nowR row p g)] := by rw [List.map_append]; rfl
          refine ⟨_, (laidR (some (.imm (.list (rows.map (rowD H))))) (some (.imm (tD H t))) (some (.own a (ld.map (rowD H) ++ [rowD H (nowR row p g)]))) (some (.imm (.list (((row.drop p).take 1).map (tD H))))) (some (.imm (rowD H row))) (some (.imm (rowD H (nowR row p g)))) none none), by walk_at "m_upd",
            exsw_cons (exw_of mx (by walk_at "m_st")) (exsw_cons (exw_if (b := true) (ρ' := (laidR (some (.imm (.list (rows.map (rowD H))))) (some (.imm (tD H t))) (some (.own a (ld.map (rowD H)))) (some (.imm (.list (((row.drop p).take 1).map (tD H))))) (some (.imm (rowD H row))) (some (.imm (rowD H (nowR row p g)))) none none)) mx (by walk_at "m_tr") ?suite) (exsw_cons (exw_of mx (by walk_at "m_st")) exsw_nil)), ?_, ?_⟩
          case suite =>
            refine exsw_le (exsw_cons (exw_of mx (ex_assign ok1 (d := .int ((0 : Nat) : Int)) ev_int (by walk_at "m_upd") (by walk_at "m_stor") rfl)) (exsw_cons (exw_of mx (ex_while (wh_run (fun q : Nat => (laidR (some (.imm (.list (rows.map (rowD H))))) (some (.imm (tD H t))) (some (.own a (ld.map (rowD H)))) (some (.imm (.list ([g].map (tD H))))) (some (.imm (rowD H row))) (some (.imm (rowD H row))) (some (.imm (.int (q : Int)))) none))
              (fun q : Nat => if q < p then some (some (q + 1)) else if q = p then some none else none) ?hstop ?hstep (p + 1) 0 p (runP p p 0 (by omega)))))
              (exsw_cons (exw_of mx (ex_assign ok1 (ev_eq hnow (by walk_at "m_ev")) (by walk_at "m_upd") (by walk_at "m_stor") rfl))
              (exsw_cons (exw_assign ok1 (evw_call ok1 (by walk_at "m_fv") (by walk_at "m_evl") F (by walk_at "m_kp") rfl) (by walk_at "m_upd") (by walk_at "m_stor") rfl)
              (exsw_cons (exw_of mx (ex_if (b := false) (tr_cmp (Ev.w (by walk_at "m_nm")) (Ev.w (ev_tuple (evl_cons (ev_eq hpart (by walk_at "m_ev")) (evl_cons (by walk_at "m_nm") evl_nil rfl) rfl) (by simp))) T2 rfl) exs_nil))
              (exsw_cons (exw_of mx (ex_assign ok1 (ev_subT (d := .list (((row.drop p).take 1).map (tD H))) (by walk_at "m_nm") ev_int rfl (by omega) (by simp) (by walk_at "m_ns")) (by walk_at "m_upd") (by walk_at "m_stor") rfl)) exsw_nil)))))) ?le
            case le => exact .same (.same (.same (.same (.same (.same (.drop (.drop .nil)))))))
            case hstop =>
              intro q hq
              have : q = p := by
                split at hq
                · cases hq
                · split at hq
                  · assumption
                  · cases hq
              subst this
              by_cases hq2 : q < row.length
              · obtain ⟨x, hx⟩ := at_some hq2
                have hcf := tat x hx
                have hxD := t_at (H := H) hx
                have F3x := F3 x (hrn x (List.mem_of_getElem? hx))
                have t1 : decide ((q : Int) < (((row.map (tD H)).length : Nat) : Int)) = true := by rw [List.length_map]; exact decide_eq_true (by omega)
                exact tr_eq (b := true && false) rfl (tr_and2 (tr_eq t1 (tr_cmp (by walk_at "m_ev0") (by walk_at "m_ev0") cm_lt rfl)) fun _ => tr_eq hcf (tr_cmp (Ev.w (ev_call ok1 (by walk_at "m_fv") (evl_cons (by walk_at "m_ev") (evl_cons (ev_sub (d := tD H g) (by walk_at "m_nm") ev_int rfl (by omega) hzg (by walk_at "m_ns")) evl_nil rfl) rfl) F3x (by walk_at "m_kp") rfl)) (Ev.w ev_int) cm_lt rfl))
              · have t1 : decide ((q : Int) < (((row.map (tD H)).length : Nat) : Int)) = false := by rw [List.length_map]; exact decide_eq_false (by omega)
                exact tr_eq (b := false && false) rfl (tr_and2 (tr_eq t1 (tr_cmp (by walk_at "m_ev0") (by walk_at "m_ev0") cm_lt rfl)) fun q => by cases q)
            case hstep =>
              intro q q' hq
              obtain ⟨hlt, rfl⟩ : q < p ∧ q' = q + 1 := by
                split at hq
                · cases hq; exact ⟨by assumption, rfl⟩
                · split at hq <;> cases hq
              obtain ⟨x, hx, hct⟩ := hg1 q hlt
              have hxD := t_at (H := H) hx
              have F3x := F3 x (hrn x (List.mem_of_getElem? hx))
              refine ⟨?_, _, exs_cons (ex_aug ok1 (by k_mem) rfl ev_int op_inc (by walk_at "m_upd") (by walk_at "m_stor")) exs_nil, Le.refl _⟩
              have t1 : decide ((q : Int) < (((row.map (tD H)).length : Nat) : Int)) = true := by rw [List.length_map]; exact decide_eq_true (by omega)
              exact tr_eq (b := true && true) rfl (tr_and2 (tr_eq t1 (tr_cmp (by walk_at "m_ev0") (by walk_at "m_ev0") cm_lt rfl)) fun _ => tr_eq hct (tr_cmp (Ev.w (ev_call ok1 (by walk_at "m_fv") (evl_cons (by walk_at "m_ev") (evl_cons (ev_sub (d := tD H g) (by walk_at "m_nm") ev_int rfl (by omega) hzg (by walk_at "m_ns")) evl_nil rfl) rfl) F3x (by walk_at "m_kp") rfl)) (Ev.w ev_int) cm_lt rfl))
          · dsimp only; rw [e]
            exact .same (.same (.same (.same (.drop (.drop (.drop (.drop .nil)))))))
          · dsimp only; rw [List.length_append]; rw [List.length_cons] at hinv; simp only [List.length_cons, List.length_nil]; omega
        · cases hg
      | _ :: _ :: _, hg => cases hg
end
end Mine
end
section
namespace Mine
open PySem PySem.W PySem.Calls PyProof.Rows PySem.Spec
section
variable {c : Cx} {f : Fx} {ρ ρ' ρ1 ρ2 ρ3 : Rho} {k : Nat} {l : List Env} {I : Addr}
theorem It.fx {f' : Fx} {h : Heap} {ds : List D} (e : f'.X = f.X) (t : It c f I h ds) : It c f' I h ds := by
  cases t with
  | list hi hl hx hr => exact .list hi hl (by rw [e]; exact hx) (by rw [e]; exact hr)
  | range hi => exact .range hi
noncomputable def Fx.in1 (f : Fx) : Fx := { f with A := f.A.in1 }
/-- iter(..) -/
theorem ev_iter (o : Ok c f k) {x : Str} {px : Pos} {e : Expr} {pos : Pos} {d : D} {es : List D} (hf : Ev c f ρ (.Name x px) (.val (.builtin "iter"))) (ha : Ev c f ρ e d) (hi : Items d es) (hs : isStarred e = false) {s : Shared} {Q E : Value → Shared → Prop} (st : St c f ρ s.heap)
    (q : ∀ I h' tk, Ext s.heap h' → s.heap.get? I = none → It c f I h' es → ¬ f.X I → c.g.get? I = none → Q (.ref I) { s with heap := h', toks := tk }) : wpAny (model c.prog c.w) f.A (eval (.Call (.Name x px) [e] [] pos) f.env) Q E s := by
  refine wpAny_Call_NameR (hf s _ E st fun v h1 t1 x1 r1 => ?_)
  cases r1
  have ha' : EvL c f ρ [e] [d] := evl_cons ha evl_nil hs
  refine kp_builtin f.A _ pos _ Q E (by rw [any_backTo]; exact evl_any (by simp [hs]) _) (args_of hs (ha' pos _ _ E (st.up x1) fun vs h2 t2 x2 r2 => ?_))
  have st2 := (st.up x1).up x2
  refine ⟨st2.ext, ?_⟩
  cases r2 with
  | @cons v _ _ _ rv rs =>
    cases rs
    refine call_function_entry (by decide +kernel) (by decide +kernel) kdk_entry_iter (kdk_args_iter _) ?_
    unfold Builtin.«iter»
    refine wpAny_bind (m := someArgs "iter" 1 2 _) (wpAny_of_eq (a := [v]) (by first | rfl | kernel_rfl!) ?_)
    show wpAny _ _ (pyIter v >>= _) _ _ _
    refine wpAny_bind (iter_of (c := c) (f := f.in1) hi ⟨st2.ext, st2.xok⟩ rv fun I h3 x3 fI it hX hg => ?_)
    refine wpAny_pure ⟨_, rfl, q I h3 t2 ((x1.trans x2).trans x3) ?_ (It.fx (f := f.in1) (f' := f) rfl it) hX hg⟩
    cases w : s.heap.get? I with
    | none => rfl
    | some ob => rw [x2 _ _ (x1 _ _ w)] at fI; cases fI
theorem cm_is_same {a : Addr} : Cm c f .Is (.val (.ref a)) (.val (.ref a)) true := fun s v1 v2 Q E w r1 r2 q => by
  cases r1; cases r2
  show wpAny _ _ (do return .bool (← isSame (.ref a) (.ref a))) Q E s
  have e : isSame (Value.ref a) (Value.ref a) = pure true := by
    unfold isSame; simp
  rw [e]
  exact wpAny_bind (wpAny_pure (wpAny_pure (q s.heap s.toks (Ext.refl _))))
theorem cm_is_list {a : Addr} {ds : List D} {o : Obj} (ho : c.g.get? a = some o) (hd : ∀ xs n, o.data ≠ .seq xs n) : Cm c f .Is (.list ds) (.val (.ref a)) false := fun s v1 v2 Q E w r1 r2 q => by
  cases r2
  cases r1 with
  | @list b vs _ hl hx hr =>
    obtain ⟨ob, hb, hc, n, hdb⟩ := hl
    have hab := w.ext _ _ ho
    have ne : b ≠ a := fun e => by
      rw [e, hab] at hb; cases hb; exact hd _ _ hdb
    show wpAny _ _ (do return .bool (← isSame (.ref b) (.ref a))) Q E s
    refine wpAny_bind ?_
    unfold isSame
    dsimp only
    rw [if_neg (by simpa using ne)]
    refine wpAny_bind (wpAny_load hb (wpAny_bind (wpAny_load hab ?_)))
    have fin := wpAny_pure (M := model c.prog c.w) (A := f.A) (E := E) (Q := fun (b : Bool) s₁ => wpAny (model c.prog c.w) f.A (pure (Value.bool b)) Q E s₁) (a := false) (s := s) (wpAny_pure (q s.heap s.toks (Ext.refl _)))
    rw [hc, hdb]
    split <;> first | exact fin | (rename_i h1 _ _ _; exact absurd h1 (by decide)) | skip
theorem red_tail (o : Ok c f k) {x y v : Str} {px py pv pos rp : Pos} {body : List Stmt} {es : List D} {d : D} (hy : (y, some (En.imm (.val (.ref I)))) ∈ ρ2) (gy : (y == ("__debug__" : Str) || y == ("__classdict__" : Str)) = false) (hf : FoW c f l x px body ρ2 es ρ3 .next) (hret : Ev c f ρ3 (.Name v pv) d)
    (hs : ∀ a, foldedSetIterable (.Name y py) f.env a = pure a) {s : Shared} {Q : Flow → Shared → Prop} {E : Value → Shared → Prop} (st : St c f ρ2 s.heap) (z : Fz c f l s.heap) (t : It c f I s.heap es) (hX : ¬ f.X I) (hg : c.g.get? I = none)
    (q : ∀ v h' tk, SloI I f.X f.M s.heap h' → Rep c.C h' f.Y v d → Q (.ret v) { s with heap := h', toks := tk }) : wpAny (model c.prog c.w) f.A (execs [.For (.Name x px) (.Name y py) body [] pos, .Return (some (.Name v pv)) rp] f.env) Q E s := by
  refine wpAny_execs_cons (wpAny_For (ev_name o hy gy s _ E st fun w h1 t1 x1 r1 => ?_) hs)
  cases r1
  have it1 := t.up x1
  refine it_self it1 ?_
  have y1 : Slo f.X f.M s.heap h1 := .of_ext x1
  refine hf _ I _ (st.up x1) (z.st y1 (st.up x1)) it1 hX hg fun fl h2 t2 x2 r2 s2 => ?_
  cases fl with
  | next =>
    refine wpAny_execs_cons (wpAny_Return_some (hret _ _ E s2 fun w h3 t3 x3 r3 => ?_))
    exact q w h3 t3 ((y1.i.trans x2).trans (Slo.of_ext x3).i) r3.y
  | _ => exact r2.elim
end
end Mine
end
section
namespace Mine
open PySem PySem.W PySem.Calls PyProof.Rows PySem.Spec
section
variable {c : Cx} {f : Fx} {ρ ρ' ρ1 ρ2 ρ3 : Rho} {k : Nat} {l : List Env} {I : Addr}
noncomputable abbrev redR (fn sq ini it value elt : Option En) : Rho := [((⟨⟨[102, 117, 110, 99, 116, 105, 111, 110]⟩⟩ : Str), fn), ((⟨⟨[115, 101, 113, 117, 101, 110, 99, 101]⟩⟩ : Str), sq), ((⟨⟨[105, 110, 105, 116, 105, 97, 108]⟩⟩ : Str), ini), ((⟨⟨[105, 116]⟩⟩ : Str), it), ((⟨⟨[118, 97, 108, 117, 101]⟩⟩ : Str), value), ((⟨⟨[101, 108, 101, 109, 101, 110, 116]⟩⟩ : Str), elt)]
theorem use_ex {stm : Stmt} {s : Shared} {Q : Flow → Shared → Prop} {E : Value → Shared → Prop} (st : St c f ρ s.heap) (h : Ex c f ρ stm ρ' .next) (q : ∀ h' tk, Keep f.M s.heap h' → St c f ρ' h' → Q .next { s with heap := h', toks := tk }) : wpAny (model c.prog c.w) f.A (exec stm f.env) Q E s :=
  h s Q E st fun fl h' tk x r s' => by
    cases fl with
    | next => exact q h' tk x s'
    | _ => exact r.elim
/-- the first item -/
theorem next_range {A : Around} {x st : Int} {n : Int} {s : Shared} {Q E : Value → Shared → Prop} (hit : IsRangeIter s.heap I x n st) (hn : 0 < n)
    (hQ : ∀ h', IsRangeIter h' I (x + st) (n - 1) st → Heap.SameBut I s.heap h' → Q (.int x s.toks) { s with heap := h', toks := s.toks + 1 }) : wpAny (model c.prog c.w) A (call (.builtin "next") [.ref I]) Q E s := by
  have hT : s.TypeIs (.ref I) "range_iterator" := ⟨_, hit, rfl⟩
  refine call_function_entry (by decide +kernel) (by decide +kernel) kdk_entry_next (kdk_args_next _) ?_
  unfold Builtin.«next»
  refine wpAny_bind (m := someArgs "next" 1 2 _) (wpAny_of_eq (a := [Value.ref I]) (by first | rfl | kernel_rfl!) ?_)
  dsimp only
  refine wpAny_bind (wpAny_specialOf (name := Str.ofString "__next__") hT PySem.F.slot_range_iterator_next.lookup ?_)
  refine wpAny_ite_split (fun hab => absurd hab (by decide)) (fun _ => ?_)
  refine wpAny_bind (wpAny_callSpecial?_slot (name := Str.ofString "__next__") hT PySem.F.slot_range_iterator_next
    (call_meets PySem.F.slot_range_iterator_next hT PySem.F.entry_range_iterator_next (PySem.F.args_range_iterator_next_1 _) (AutoRange.range_iterator___next___range_iterator_1 I x n st (by omega)) ⟨hit, ?_⟩))
  exact wpAny_pure ⟨_, rfl, hQ _ (Heap.get?_update_self _ (Heap.get?_update_self _ hit rfl) rfl) ((Heap.SameBut.update ..).trans (Heap.SameBut.update ..))⟩
theorem fn_reduce (B : Base c) {α σ : Type} {fv : Value} (kp : Kp c fv) (encS : σ → D) (enc : α → D) (g : σ → α → Option σ) (F : ∀ s a s', g s a = some s' → FnW c k fv [encS s, enc a] (encS s')) (hl : ∀ s, ∃ ds, encS s = .list ds)
    {as : List α} {s0 s1 : σ} (hg : as.foldlM g s0 = some s1) : FnW c (k + 1) (.ref 57) [.val fv, .list (as.map enc), encS s0] (encS s1) := by
  refine fn_defX B [(⟨⟨[102, 117, 110, 99, 116, 105, 111, 110]⟩⟩ : Str), (⟨⟨[115, 101, 113, 117, 101, 110, 99, 101]⟩⟩ : Str), (⟨⟨[105, 110, 105, 116, 105, 97, 108]⟩⟩ : Str)] [(⟨⟨[105, 116]⟩⟩ : Str), (⟨⟨[118, 97, 108, 117, 101]⟩⟩ : Str), (⟨⟨[101, 108, 101, 109, 101, 110, 116]⟩⟩ : Str)] [] [] (fun _ _ => .nil) (redR (some (.imm (.val fv))) (some (.imm (.list (as.map enc)))) (some (.imm (encS s0))) none none none) rfl (B.K 57 _ rfl) rfl ?hcd rfl rfl rfl ?hbind rfl ?hcell ?hloc ?nd ?hcl ?hap ?hb rfl rfl rfl
  case hcd => exact codeRec_of (Base.K ‹Base _›) rfl
  case hbind => intro s vs hx h; obtain ⟨a, b, c, e⟩ := len3 h; subst e; exact BindsTo.of_defaults rfl (hx _ _ (B.K _ _ rfl)) rfl rfl rfl
  case hcell => decide
  case hloc => decide
  case nd => decide
  case hcl => intro x b e; cases e
  case hap => intro x y b e; cases e
  case hb =>
    intro A L X outer ok s Q E st z q
    obtain ⟨ds0, hd0⟩ := hl s0
    have T : ∀ f', Cm c f' .Is (encS s0) (.val (.ref 49)) false := fun f' => by rw [hd0]; exact cm_is_list (B.K 49 _ rfl) (fun _ _ e => by cases e)
    refine wpAny_execs_cons (wpAny_Assign_Name (ev_iter (d := .list (as.map enc)) (es := as.map enc) ok (by walk_at "m_fv") (by walk_at "m_nm") rfl rfl st fun I h1 t1 x1 fI it1 hX hg' => ?_) rfl)
    refine store_of (d := .val (.ref I)) (ρ' := redR (some (.imm (.val fv))) (some (.imm (.list (as.map enc)))) (some (.imm (encS s0))) (some (.imm (.val (.ref I)))) none none) ok (by walk_at "m_upd") (by walk_at "m_stor") (st.up x1) (.val _) fun h2 t2 x2 s2 => ?_
    have it2 := it1.keep ok hX x2
    refine wpAny_execs_cons (use_ex (ρ' := redR (some (.imm (.val fv))) (some (.imm (.list (as.map enc)))) (some (.imm (encS s0))) (some (.imm (.val (.ref I)))) (some (.imm (encS s0))) none) s2 (ex_if (b := false) (tr_cmp (Ev.w (by walk_at "m_nm")) (Ev.w (by walk_at "m_fv")) (T _) rfl) (exs_cons (by walk_at "m_st") exs_nil)) fun h3 t3 x3 s3 => ?_)
    have it3 := it2.keep ok hX x3
    have y3 : Slo _ _ s.heap h3 := ((Slo.of_ext x1).trans (.of_keep x2 ok.mx)).trans (.of_keep x3 ok.mx)
    have z3 := z.st y3 s3
    refine red_tail ok (by k_mem) rfl (fow_M ok enc (fun st : σ => redR (some (.imm (.val fv))) (some (.imm (.list (as.map enc)))) (some (.imm (encS s0))) (some (.imm (.val (.ref I)))) (some (.imm (encS st))) none) g (fun _ _ => True) (by walk_at "m_stor") ?step as s0 s1 trivial hg) (by walk_at "m_nm") (fun _ => rfl) s3 z3 it3 hX hg' fun v h4 t4 x4 r4 => q v h4 t4 ((y3.i.trans x4).noI fI) r4
    intro st a _ st' _ hs
    exact ⟨_, _, by walk_at "m_upd", exsw_cons (exw_assign ok (evw_call ok (by walk_at "m_nm") (evl_cons (by walk_at "m_nm") (evl_cons (by walk_at "m_nm") evl_nil rfl) rfl) (F st a st' hs) kp rfl) (by walk_at "m_upd") (by walk_at "m_stor") rfl) exsw_nil, by walk_at "m_le", trivial⟩
end
end Mine
end
section
namespace Mine
open PySem PySem.W PySem.Calls PyProof.Rows PySem.Spec
section
variable {c : Cx} {f : Fx} {ρ ρ' ρ1 ρ2 ρ3 : Rho} {k : Nat} {l : List Env} {I : Addr}
theorem ev_next (o : Ok c f k) {x : Str} {px : Pos} {e : Expr} {pos : Pos} {a st0 n : Int} (hf : Ev c f ρ (.Name x px) (.val (.builtin "next"))) (ha : Ev c f ρ e (.val (.ref I))) (hs : isStarred e = false) {s : Shared} {Q E : Value → Shared → Prop} (st : St c f ρ s.heap) (hit : IsRangeIter s.heap I a n st0) (hn : 0 < n)
    (q : ∀ u h' tk, (∀ b o, b ≠ I → s.heap.get? b = some o → h'.get? b = some o) → IsRangeIter h' I (a + st0) (n - 1) st0 → Q (.int a u) { s with heap := h', toks := tk }) : wpAny (model c.prog c.w) f.A (eval (.Call (.Name x px) [e] [] pos) f.env) Q E s := by
  refine wpAny_Call_NameR (hf s _ E st fun v h1 t1 x1 r1 => ?_)
  cases r1
  have ha' : EvL c f ρ [e] [.val (.ref I)] := evl_cons ha evl_nil hs
  refine kp_builtin f.A _ pos _ Q E (by rw [any_backTo]; exact evl_any (by simp [hs]) _) (args_of hs (ha' pos _ _ E (st.up x1) fun vs h2 t2 x2 r2 => ?_))
  refine ⟨((st.up x1).up x2).ext, ?_⟩
  cases r2 with
  | @cons v _ _ _ rv rs =>
    cases rs
    cases rv
    exact next_range (s := { s with heap := h2, toks := t2 }) (x2 _ _ (x1 _ _ hit)) hn fun h3 h4 hs3 => q _ h3 _ (fun b ob n e => (hs3.2 b n).trans (x2 _ _ (x1 _ _ e))) h4
theorem ev_iterR (o : Ok c f k) {x : Str} {px : Pos} {e : Expr} {pos : Pos} {a b st0 n : Int} (hf : Ev c f ρ (.Name x px) (.val (.builtin "iter"))) (ha : Ev c f ρ e (.range a b st0)) (hsm : Builtin.Range.small a b st0 = true) (hn : Builtin.Range.rangeSize a b st0 = n) (hs : isStarred e = false) {s : Shared} {Q E : Value → Shared → Prop} (st : St c f ρ s.heap)
    (q : ∀ I h' tk, Ext s.heap h' → s.heap.get? I = none → IsRangeIter h' I a n st0 → ¬ f.X I → c.g.get? I = none → Q (.ref I) { s with heap := h', toks := tk }) : wpAny (model c.prog c.w) f.A (eval (.Call (.Name x px) [e] [] pos) f.env) Q E s := by
  refine wpAny_Call_NameR (hf s _ E st fun v h1 t1 x1 r1 => ?_)
  cases r1
  have ha' : EvL c f ρ [e] [.range a b st0] := evl_cons ha evl_nil hs
  refine kp_builtin f.A _ pos _ Q E (by rw [any_backTo]; exact evl_any (by simp [hs]) _) (args_of hs (ha' pos _ _ E (st.up x1) fun vs h2 t2 x2 r2 => ?_))
  have st2 := (st.up x1).up x2
  have w2 := st2.w
  refine ⟨st2.ext, ?_⟩
  cases r2 with
  | @cons v _ _ _ rv rs =>
    cases rs
    cases rv with
    | @range r _ _ _ t u v ho hx =>
    refine call_function_entry (by decide +kernel) (by decide +kernel) kdk_entry_iter (kdk_args_iter _) ?_
    unfold Builtin.«iter»
    refine wpAny_bind (m := someArgs "iter" 1 2 _) (wpAny_of_eq (a := [.ref r]) (by first | rfl | kernel_rfl!) ?_)
    show wpAny _ _ (pyIter (.ref r) >>= _) _ _ _
    have ex := (x1.trans x2).trans (Ext.push h2 { cls := .type "range_iterator", data := .fields #[rawInt a, rawInt (Builtin.Range.rangeSize a b st0), rawInt st0] })
    refine wpAny_bind (wpAny_pyIter_range (s := { s with heap := h2, toks := t2 }) ho hsm (wpAny_pure ⟨_, rfl, q h2.objs.size _ t2 ex ?_ ?_ (w2.fresh (fresh_size _)) ?_⟩))
    · cases w : s.heap.get? h2.objs.size with
      | none => rfl
      | some ob => have := x2 _ _ (x1 _ _ w); rw [fresh_size] at this; cases this
    · rw [hn]; exact Heap.get?_push_size _ rfl
    · cases w : c.g.get? h2.objs.size with
      | none => rfl
      | some ob => have := st2.ext _ _ w; rw [fresh_size] at this; cases this
theorem it_down {h : Heap} {m : Nat} (hit : IsRangeIter h I (((m + 1 : Nat) : Int) + (-1)) (((m + 1 : Nat) : Int) - 1) (-1)) : It c f I h (((List.range m).map fun j => m - j).map fun a : Nat => D.int (a : Int)) := by
  have e : (((List.range m).map fun j => m - j).map fun a : Nat => D.int (a : Int)) = (List.range m).map fun (j : Nat) => D.int ((((m + 1 : Nat) : Int) + (-1)) + j * (-1)) := by
    rw [List.map_map]
    apply List.map_congr_left
    intro j hj
    have := List.mem_range.mp hj
    show D.int _ = D.int _
    congr 1
    show ((m - j : Nat) : Int) = _
    omega
  rw [e]
  refine .range ?_
  have e2 : ((m + 1 : Nat) : Int) - 1 = (m : Int) := by omega
  rw [e2] at hit
  exact hit
noncomputable def mulS (s a : Nat) : Option Nat := if s ≤ 1000 ∧ a ≤ 1000 then some (s * a) else none
theorem fn_reduce0 (B : Base c) {fv : Value} (kp : Kp c fv) (F : ∀ a b : Nat, a ≤ 1000 → b ≤ 1000 → FnW c k fv [.int (a : Int), .int (b : Int)] (.int ((a * b : Nat) : Int))) {m r : Nat} (hsm : Builtin.Range.small ((m + 1 : Nat) : Int) 0 (-1) = true) (hn : Builtin.Range.rangeSize ((m + 1 : Nat) : Int) 0 (-1) = ((m + 1 : Nat) : Int)) (hg : ((List.range m).map fun j => m - j).foldlM mulS (m + 1) = some r) :
    FnW c (k + 1) (.ref 57) [.val fv, .range ((m + 1 : Nat) : Int) 0 (-1)] (.int (r : Int)) := by
  refine fn_defX B [(⟨⟨[102, 117, 110, 99, 116, 105, 111, 110]⟩⟩ : Str), (⟨⟨[115, 101, 113, 117, 101, 110, 99, 101]⟩⟩ : Str), (⟨⟨[105, 110, 105, 116, 105, 97, 108]⟩⟩ : Str)] [(⟨⟨[105, 116]⟩⟩ : Str), (⟨⟨[118, 97, 108, 117, 101]⟩⟩ : Str), (⟨⟨[101, 108, 101, 109, 101, 110, 116]⟩⟩ : Str)] [.ref 49] [.val (.ref 49)] (fun _ _ => .cons (.val _) .nil) (redR (some (.imm (.val fv))) (some (.imm (.range ((m + 1 : Nat) : Int) 0 (-1)))) (some (.imm (.val (.ref 49)))) none none none) rfl (B.K 57 _ rfl) rfl ?hcd rfl rfl rfl ?hbind rfl ?hcell ?hloc ?nd ?hcl ?hap ?hb rfl rfl rfl
  case hcd => exact codeRec_of (Base.K ‹Base _›) rfl
  case hbind => intro s vs hx h; obtain ⟨a, b, e⟩ := len2 h; subst e; exact BindsTo.of_defaults rfl (hx _ _ (B.K _ _ rfl)) rfl rfl rfl
  case hcell => decide
  case hloc => decide
  case nd => decide
  case hcl => intro x b e; cases e
  case hap => intro x y b e; cases e
  case hb =>
    intro A L X outer ok s Q E st z q
    refine wpAny_execs_cons (wpAny_Assign_Name (ev_iterR ok (by walk_at "m_fv") (by walk_at "m_nm") hsm hn rfl st fun I h1 t1 x1 fI it1 hX hg' => ?_) rfl)
    refine store_of (d := .val (.ref I)) (ρ' := redR (some (.imm (.val fv))) (some (.imm (.range ((m + 1 : Nat) : Int) 0 (-1)))) (some (.imm (.val (.ref 49)))) (some (.imm (.val (.ref I)))) none none) ok (by walk_at "m_upd") (by walk_at "m_stor") (st.up x1) (.val _) fun h2 t2 x2 s2 => ?_
    have hit : IsRangeIter h2 I ((m + 1 : Nat) : Int) ((m + 1 : Nat) : Int) (-1) := x2.1 _ _ (fun z => hX (ok.mx _ z)) it1
    have hobj : IterObj h2 I := ⟨_, hit, fun _ _ q => (by cases q), fun q => (by cases q), fun _ q => (by cases q), fun (q : Value.type "range_iterator" = .type "range") => absurd q (by decide)⟩
    refine wpAny_execs_cons (wpAny_If (tr_cmp (op := .Is) (b := true) (Ev.w (by walk_at "m_nm")) (Ev.w (by walk_at "m_fv")) cm_is_same rfl _ _ _ s2 fun h3 t3 x3 => ?_))
    have s3 := s2.up x3
    refine wpAny_execs_cons (wpAny_Try_except (wpAny_execs_cons (wpAny_Assign_Name (ev_next (s := { s with heap := h3, toks := t3 }) ok (by walk_at "m_fv") (by walk_at "m_nm") rfl s3 (x3 _ _ hit) (by omega) fun u h4 t4 kk4 hit4 => ?_) rfl)))
    have hobj3 : IterObj h3 I := let ⟨o, e, r⟩ := hobj; ⟨o, x3 _ _ e, r⟩
    have s4 := s3.iter ok hobj3 hX hg' kk4
    refine store_of (d := .int ((m + 1 : Nat) : Int)) (ρ' := redR (some (.imm (.val fv))) (some (.imm (.range ((m + 1 : Nat) : Int) 0 (-1)))) (some (.imm (.val (.ref 49)))) (some (.imm (.val (.ref I)))) (some (.imm (.int ((m + 1 : Nat) : Int)))) none) ok (by walk_at "m_upd") (by walk_at "m_stor") s4 (.int _ _) fun h5 t5 x5 s5 => ?_
    refine wpAny_execs_nil (wpAny_execs_nil (wpAny_execs_nil ?_))
    have it5 := (it_down hit4).keep ok hX x5
    have y2 : Slo _ _ s.heap h2 := (Slo.of_ext x1).trans (.of_keep x2 ok.mx)
    have y5 : SloI I _ _ s.heap h5 := (((y2.trans (.of_ext x3)).i).trans (slo_iter kk4)).trans (Slo.of_keep x5 ok.mx).i
    have z5 := ((z.st (y2.trans (.of_ext x3)) s3).iter hX kk4).st (.of_keep x5 ok.mx) s5
    refine red_tail ok (by k_mem) rfl (fow_M ok (fun a : Nat => D.int (a : Int)) (fun a : Nat => redR (some (.imm (.val fv))) (some (.imm (.range ((m + 1 : Nat) : Int) 0 (-1)))) (some (.imm (.val (.ref 49)))) (some (.imm (.val (.ref I)))) (some (.imm (.int (a : Int)))) none) mulS (fun _ _ => True) (by walk_at "m_stor") ?step _ (m + 1) r trivial hg) (by walk_at "m_nm") (fun _ => rfl) s5 z5 it5 hX hg' fun v h6 t6 x6 r6 => q v h6 t6 ((y5.trans x6).noI fI) r6
    intro st' a _ st'' _ hs
    obtain ⟨h1000, rfl⟩ : (st' ≤ 1000 ∧ a ≤ 1000) ∧ st'' = st' * a := by
      unfold mulS at hs
      split at hs
      · cases hs; exact ⟨by assumption, rfl⟩
      · cases hs
    exact ⟨_, _, by walk_at "m_upd", exsw_cons (exw_assign ok (evw_call ok (by walk_at "m_nm") (evl_cons (by walk_at "m_nm") (evl_cons (by walk_at "m_nm") evl_nil rfl) rfl) (F st' a h1000.1 h1000.2) kp rfl) (by walk_at "m_upd") (by walk_at "m_stor") rfl) exsw_nil, by walk_at "m_le", trivial⟩
end
end Mine
end
section
namespace Mine
open PySem PySem.W PySem.Calls PyProof.Rows PySem.Spec
section
variable {c : Cx} {f : Fx} {ρ ρ' ρ1 ρ2 ρ3 : Rho} {k : Nat} {l : List Env}
/-- the call of a lambda -/
theorem fn_lam (B : Base c) {a : Addr} {o : Obj} {fd : FuncData} {body : Expr} {ds : List D} {z : Int} (names : List Str) (fr : List (Str × D)) (ρ0 : Rho) (hρ : parR names ds ++ frR fr = ρ0)
    (ho : c.g.get? a = some o) (hdata : o.data = .func fd) (hcd : c.g.CodeRec fd.code fd.qualname) (hbody : fd.body = .expr body) (hglob : fd.globals = mainGlobals) (hblt : fd.builtins = builtinsNs)
    (hbind : ∀ vs : List Value, vs.length = ds.length → bindArgs fd ⟨vs, []⟩ = pure (names.zip vs)) (hnl : names.length = ds.length)
    (hcell : ∀ x ∈ fd.scope.names, x.2 ≠ .cell) (hloc : ∀ x ∈ names, fd.scope.names.lookup x = some .local) (nd : (names ++ fr.map (·.1)).Nodup)
    (hfr : ∀ p ∈ fr, ∃ b v, fd.scope.names.lookup p.1 = some .free ∧ fd.closure.lookup p.1 = some b ∧ c.g.IsCell b (some v) ∧ Rep c.C c.g (fun _ => False) v p.2)
    (hcl : ∀ x b, fd.closure.lookup x = some b → ∃ v, c.g.IsCell b v) (hap : ∀ x y b, fd.closure.lookup x = some b → fd.closure.lookup y = some b → x = y)
    (hb : ∀ (A : Around) (L : Addr) (X : Addr → Prop), Ok c ⟨A, callEnv fd L a, fun b => X b ∨ b = L, fun b => b = L⟩ k → Ev c ⟨A, callEnv fd L a, fun b => X b ∨ b = L, fun b => b = L⟩ ρ0 body (.int z))
    (hco : fd.scope.isCoroutine = false) (hgen : fd.scope.isGenerator = false) (hk : fd.scope.kind = .function) : Fn c (k + 1) (.ref a) ds (.int z) := fun A X s vs Q E room ext hX xok r q => by
  subst hρ
  refine wpAny_call (kla_callFunE room.depth (ext _ _ ho) hdata hco hgen hbody (hcd.keeps ext) ?_)
  rw [hbind vs r.length]
  refine wpAny_pure ?_
  refine wpAny_newFunctionEnv (binds := names.zip vs) hcell (fun x hx => hloc _ (List.of_mem_zip (a := x.1) (b := x.2) hx).1) (fun h₀ hns hsb => ⟨(B.nolimit.keeps ext).fresh _ hsb, ?_⟩) hk
  have hk₀ : ∀ b o, s.heap.get? b = some o → h₀.get? b = some o := fun b o e => hsb.extBut b o (Nat.ne_of_lt (Heap.lt_size e)) (Heap.get?_push_of_some _ e)
  have hL := fresh_size s.heap
  have hXL : ∀ b, X b → b ≠ s.heap.objs.size := fun b hb e => by obtain ⟨o, z⟩ := xok b hb; rw [e, hL] at z; cases z
  have hgL : c.g.get? s.heap.objs.size = none := by
    cases e : c.g.get? s.heap.objs.size with
    | none => rfl
    | some o' => have := ext _ _ e; rw [hL] at this; cases this
  have ok : Ok c ⟨A.deeper (callEnv fd s.heap.objs.size a), callEnv fd s.heap.objs.size a, fun b => X b ∨ b = s.heap.objs.size, fun b => b = s.heap.objs.size⟩ k :=
    { kind := hk, glob := hglob, blt := hblt, mx := fun b e => .inr e, loc := rfl, apart := hap, dis := fun b e => e.elim (hX b) fun e => e ▸ hgL, room := room.deeper }
  refine kla_codeExpr (hb _ _ X ok _ _ _ ?_ fun v h' tk kp rv => ?_)
  · refine ⟨?_, ext.trans hk₀, fun b e => ?_, fun x b e => ?_, fun x y b es fs h1 h2 => ?_, ⟨_, hns, fun x en hx hl => ?_⟩, fun x en hx hl => ?_⟩
    · rw [List.map_append, parR_names hnl]
      have e2 : (frR fr).map (·.1) = fr.map (·.1) := by simp only [frR, List.map_map]; rfl
      rw [e2]; exact nd
    · rcases e with e | e
      · obtain ⟨o, z⟩ := xok b e; exact ⟨o, hk₀ _ _ z⟩
      · obtain ⟨o, _, _, z, _⟩ := hns; exact ⟨o, e ▸ z⟩
    · obtain ⟨v, z⟩ := hcl x b e; exact ⟨v, z.keeps (ext.trans hk₀)⟩
    · exfalso
      rcases List.mem_append.mp h1 with h1 | h1
      · obtain ⟨d', v', e', _⟩ := parR_mem r h1; cases e'
      · simp only [frR, List.mem_map] at h1
        obtain ⟨p, _, e'⟩ := h1
        cases e'
    · rcases List.mem_append.mp hx with h1 | h1
      · obtain ⟨d', v', e', hz, hr⟩ := parR_mem r h1
        subst e'
        exact ⟨v', lookup_zip_rev (List.nodup_append.mp nd).1 hz, (Rep.more hL hr).ext hk₀⟩
      · simp only [frR, List.mem_map] at h1
        obtain ⟨p, hp, e'⟩ := h1
        cases e'
        obtain ⟨b, v, hfk, _⟩ := hfr p hp
        rw [show Env.kindOf (callEnv fd s.heap.objs.size a) p.1 = fd.scope.names.lookup p.1 from rfl, hfk] at hl
        cases hl
    · rcases List.mem_append.mp hx with h1 | h1
      · obtain ⟨d', v', e', hz, hr⟩ := parR_mem r h1
        exact absurd (hloc x (List.of_mem_zip hz).1) hl
      · simp only [frR, List.mem_map] at h1
        obtain ⟨p, hp, e'⟩ := h1
        cases e'
        obtain ⟨b, v, hfk, hcb, hv, hr⟩ := hfr p hp
        exact ⟨b, v, .inr hfk, hcb, hv.keeps (ext.trans hk₀), hr.ofG (ext.trans hk₀) fun b e => e.elim (hX b) fun e => e ▸ hgL⟩
  · cases rv
    exact q _ h' tk (fun b ob e => kp b ob (hk₀ b ob e)) (.int _ _)
/-- x or y, of whole numbers -/
theorem ev_or {e1 e2 : Expr} {pos : Pos} {x y : Int} (h1 : Ev c f ρ e1 (.int x)) (h2 : x = 0 → Ev c f ρ e2 (.int y)) : Ev c f ρ (.BoolOp .Or [e1, e2] pos) (.int (if x = 0 then y else x)) := fun s Q E st q =>
  BoolOp_or (h1 s _ E st fun v h' t1 x1 r1 => by
    cases r1
    refine truthy_int ?_
    by_cases hx : x = 0
    · subst hx
      rw [if_neg (by simp)]
      refine BoolOp_one (h2 rfl _ _ E (st.up x1) fun v h2 t2 x2 r2 => ?_)
      rw [if_pos rfl] at q
      exact q v h2 t2 (x1.trans x2) r2
    · rw [if_pos (by simpa using hx)]
      rw [if_neg hx] at q
      exact q _ h' t1 x1 (.int _ _))
end
end Mine
end
section
namespace Mine
open PySem PySem.W PySem.Calls PyProof.Rows PySem.Spec
/-- the frame of a comprehension whose items change frames' slots -/
noncomputable def cfw (f : Fx) (scope : Scope) (Dd Cc : Addr) : Fx :=
  { A := f.A, env := compEnvC scope (closOf f.env scope.names []) Cc f.env, X := fun b => (f.X b ∨ b = Dd) ∨ b = Cc, M := fun b => b = Dd ∨ b = Cc }
noncomputable def CpW (c : Cx) (f : Fx) (l : List Env) (e : Expr) (depth : Nat) (ρ : Rho) (ds es : List D) : Prop :=
  ∀ (s : Shared) (I Dd : Addr) (as : List D) (vs : List Value) (R : Result → Shared → Prop), St c f ρ s.heap → Fz c f l s.heap → It c f I s.heap ds → ¬ f.X I → c.g.get? I = none → f.M Dd → Dd ≠ f.env.locals →
    (∀ y a bs, (y, some (En.own a bs)) ∈ ρ → a ≠ Dd) → PlainL s.heap Dd vs.toArray → Reps c.C s.heap f.X vs as → as.length + es.length ≤ 1000000 →
    (∀ h' tk vs', SloI I f.X f.M s.heap h' → PlainL h' Dd vs'.toArray → Reps c.C h' f.X vs' (as ++ es) → St c f ρ h' →
      R (.ok .next) { s with heap := h', toks := tk }) → codeAny (model c.prog c.w) f.A (.compLoop e depth (.ref I) (.ref Dd) f.env) R s
section
variable {c : Cx} {f : Fx} {ρ ρ' ρc : Rho} {k : Nat} {l : List Env} {I : Addr} {h h' : Heap}
theorem plainL_slo {X : Addr → Prop} {a : Addr} {vs : Array Value} (k : Slo X (fun _ => False) h h') (hl : PlainL h a vs) : PlainL h' a vs := by
  obtain ⟨o, n, e1, c1, d1, r1⟩ := hl
  by_cases hx : X a
  · obtain ⟨sl, e⟩ := k.slot a o hx (fun q => q) e1; exact ⟨_, n, e, c1, d1, r1⟩
  · exact ⟨o, n, k.keep a o hx e1, c1, d1, r1⟩
theorem cpw_nil (o : Ok c f k) {elt iter : Expr} {x : Str} {px : Pos} {ifs : List Expr} {scope : Scope} {pos : Pos} : CpW c f l (.ListComp elt [⟨.Name x px, iter, ifs, 0⟩] scope pos) 0 ρ [] [] := fun s I Dd as vs R st z t hX hg hM hDL hno hl hr hz q =>
  cp_turn (it_end o.room.hd t fun h' kk => q h' s.toks vs (slo_iter kk) (plainL_iter t.obj kk hl) (by rw [List.append_nil]; exact hr.iter t.obj kk) (st.iter o t.obj hX hg kk))
theorem cpw_cons (o : Ok c f k) {elt iter : Expr} {x : Str} {px : Pos} {scope : Scope} {pos : Pos} {d e : D} {ds es : List D} {ρ1 : Rho} (u : Upd ρ x (some (.imm d)) ρ1) (hk : f.env.kindOf x = some .local) (le : Le ρ1 ρ)
    (ev : EvW c f l ρ1 elt e) (hr : CpW c f l (.ListComp elt [⟨.Name x px, iter, [], 0⟩] scope pos) 0 ρ ds es) :
    CpW c f l (.ListComp elt [⟨.Name x px, iter, [], 0⟩] scope pos) 0 ρ (d :: ds) (e :: es) := fun s I Dd as vs R st z t hX hg hM hDL hno hl hrs hz q =>
  cp_turn (it_next t hX fun v h1 t1 hs1 it1 r1 => by
    have kk : ∀ b o, b ≠ I → s.heap.get? b = some o → h1.get? b = some o := fun b o n e => (hs1.2 b n).trans e
    have st1 := st.iter o t.obj hX hg kk
    have z1 := z.iter hX kk
    have hl1 := plainL_iter t.obj kk hl
    have hrs1 := hrs.iter t.obj kk
    refine store_en' o u (.inl hk) st1 (en := .imm d) r1 (fun a ds e => by cases e) fun h2 t2 bb hMb hs2 xk hbl st2 => ?_
    have hbl := hbl hk
    subst hbl
    have kp2 := Keep.same (M := f.M) hs2 hMb xk
    have y2 : Slo f.X f.M h1 h2 := .of_keep kp2 o.mx
    have hl2 := hl1.extBut hs2.extBut hDL
    have hrs2 := hrs1.keep (h' := h2) fun y ob n e => (hs2.2 y (fun q => n (q ▸ o.mx _ hMb))).trans e
    have it2 := it1.slo hX y2
    have z2 := z1.st y2 st2
    refine ts_nil (ρ := ρ1) _ _ _ st2 fun h3 t3 x3 => ?_
    have st3 := st2.up x3
    have y3 : Slo f.X f.M h2 h3 := .of_ext x3
    have it3 := it2.slo hX y3
    have z3 := z2.st y3 st3
    simp only [if_true]
    refine ev _ _ _ st3 z3 fun v4 h4 t4 x4 r4 => ?_
    have st4 := st3.slo o.toOkE x4
    have y4 : Slo f.X f.M h3 h4 := slo_m x4
    have it4 := it3.slo hX y4
    have z4 := z3.st y4 st4
    refine app_hidden o (st4.sub le) hM hno (plainL_slo x4 (hl2.keeps x3)) ((hrs2.ext x3).keep x4.keep) r4 (by simp at hz; omega) fun h5 hs5 hl5 hrs5 st5 => ?_
    have xk5 : ∃ ob, h5.get? Dd = some ob := let ⟨ob, _, e, _⟩ := hl5; ⟨ob, e⟩
    have y5 : Slo f.X f.M h4 h5 := .of_keep (Keep.same hs5 hM xk5) o.mx
    refine hr _ I Dd (as ++ [e]) _ R st5 (z4.st y5 st5) (it4.slo hX y5) hX hg hM hDL hno hl5 hrs5 (by simp at hz ⊢; omega) fun h' tk vs' k1 k2 k3 k4 => q h' tk vs' ((slo_iter kk).trans ((((y2.trans y3).trans y4).trans y5).i.trans k1)) k2 (by rw [List.append_assoc] at k3; exact k3) k4)
theorem cpw_map (o : Ok c f k) {α : Type} {elt iter : Expr} {x : Str} {px : Pos} {scope : Scope} {pos : Pos} (enc g : α → D) (ρ1 : α → Rho) (u : ∀ a, Upd ρ x (some (.imm (enc a))) (ρ1 a)) (hk : f.env.kindOf x = some .local) (le : ∀ a, Le (ρ1 a) ρ) :
    ∀ (as : List α), (∀ a ∈ as, EvW c f l (ρ1 a) elt (g a)) → CpW c f l (.ListComp elt [⟨.Name x px, iter, [], 0⟩] scope pos) 0 ρ (as.map enc) (as.map g)
  | [], _ => cpw_nil o
  | a :: as, h => cpw_cons o (u a) hk (le a) (h a (.head _)) (cpw_map o enc g ρ1 u hk le as fun b hb => h b (.tail _ hb))
theorem evw_comp (o : Ok c f k) {elt iter : Expr} {x : Str} {px : Pos} {ifs : List Expr} {rest : List Comprehension} {scope : Scope} {pos : Pos} {d : D} {ds es : List D}
    (hiter : Ev c f ρ iter d) (hi : Items d ds) (sees : Sees f ρ scope ρc) (himm : ∀ y en, (y, some en) ∈ ρc → ∃ d, en = .imm d) (hrun : ∀ Dd Cc, Ok c (cfw f scope Dd Cc) k → CpW c (cfw f scope Dd Cc) l (.ListComp elt (⟨.Name x px, iter, ifs, 0⟩ :: rest) scope pos) 0 ρc ds es) (hz : es.length ≤ 1000000) (hs : ∀ x, foldedSetIterable iter f.env x = pure x) :
    EvW c f l ρ (.ListComp elt (⟨.Name x px, iter, ifs, 0⟩ :: rest) scope pos) (.list es) := fun s Q E st z q => by
  rw [eval_ListComp]
  refine wpAny_comprehension_free (g := ⟨.Name x px, iter, ifs, 0⟩) (gs := rest) rfl hs (closureFor_eq scope f.env sees.free) sees.kind sees.names ?_
  refine hiter s _ E st fun v h1 t1 x1 r1 => ?_
  have st1 := st.up x1
  refine iter_of hi st1.w r1 fun I h2 x2 fI it hXI hgI => ?_
  have st2 := st1.up x2
  have fI' : h1.get? I = none := fI
  refine wpAny_newObj_type (wpAny_newFunctionEnv sees.nocell (by intro y hy; simp at hy) (fun h4 hns4 hsb4 => ?_) sees.kind)
  dsimp only at hns4 hsb4 ⊢
  generalize hH3 : h2.push { cls := .type "list", dict := none, data := .seq ([] : List Value).toArray } = H3 at hns4 hsb4 ⊢
  have hC : H3.objs.size = h2.objs.size + 1 := by rw [← hH3, Heap.size_push]
  have hDC : h2.objs.size ≠ H3.objs.size := by rw [hC]; exact Nat.ne_of_lt (Nat.lt_succ_self _)
  have fD : h2.get? h2.objs.size = none := fresh_size _
  have fC : h2.get? H3.objs.size = none := Heap.get?_none_of_le (by rw [hC]; exact Nat.le_succ _)
  have x23 : Ext h2 H3 := hH3 ▸ Ext.push _ _
  have x24 : Ext h2 h4 := fun b ob e => hsb4.extBut b ob (fun z => by rw [z, fC] at e; cases e) (Heap.get?_push_of_some _ (x23 b ob e))
  have none_of : ∀ {a : Addr}, h2.get? a = none → ∀ {g : Heap}, Ext g h2 → g.get? a = none := fun {a} ha {g} eg => by
    cases q : g.get? a with
    | none => rfl
    | some o' => have := eg _ _ q; rw [ha] at this; cases this
  have gD := none_of fD st2.ext
  have gC := none_of fC st2.ext
  have XD : ¬ f.X h2.objs.size := st2.w.fresh fD
  have XC : ¬ f.X H3.objs.size := st2.w.fresh fC
  have ok : Ok c (cfw f scope h2.objs.size H3.objs.size) k :=
    { kind := sees.kind, glob := o.glob, blt := o.blt, mx := fun b z => z.elim (fun z => .inl (.inr z)) .inr, loc := .inr rfl,
      apart := fun y z b e1 e2 => o.apart y z b (clos_back _ [] sees.free (fun _ _ e => nomatch e) _ _ e1) (clos_back _ [] sees.free (fun _ _ e => nomatch e) _ _ e2),
      dis := fun b z => by
        rcases z with (z | z) | z
        · exact o.dis b z
        · rw [z]; exact gD
        · rw [z]; exact gC
      room := o.room }
  have hpl : PlainL h4 h2.objs.size ([] : List Value).toArray := by
    refine ⟨{ cls := .type "list", dict := none, data := .seq ([] : List Value).toArray }, 0, hsb4.extBut _ _ hDC (Heap.get?_push_of_some _ ?_), rfl, rfl, rfl⟩
    rw [← hH3]; exact Heap.get?_push_size _ rfl
  have stc : St c (cfw f scope h2.objs.size H3.objs.size) ρc h4 := by
    refine ⟨sees.nd, st2.ext.trans x24, fun b z => ?_, fun y b e => ?_, fun y z b bs cs h1 h2 => ?_, ⟨_, hns4, fun y en hy hyl => ?_⟩, fun y en hy hyl => ?_⟩
    · rcases z with (z | z) | z
      · obtain ⟨ob, w⟩ := st2.xok b z; exact ⟨ob, x24 _ _ w⟩
      · obtain ⟨ob, n, w, _⟩ := hpl; exact ⟨ob, z ▸ w⟩
      · obtain ⟨ob, _, _, w, _⟩ := hns4; exact ⟨ob, z ▸ w⟩
    · obtain ⟨v, w⟩ := st2.cl y b (clos_back _ [] sees.free (fun _ _ e => nomatch e) _ _ e)
      exact ⟨v, w.keeps x24⟩
    · exact st2.oa y z b bs cs (sees.sees _ _ h1).1 (sees.sees _ _ h2).1
    · obtain ⟨h1, h2, h3⟩ := sees.sees _ _ hy
      exfalso
      have hyl' : (relabel scope f.env).names.lookup y = some .local := hyl
      rcases relabel_free (env := f.env) h2 with w | w
      · rw [show (relabel scope f.env).names.lookup y = some .cell from w] at hyl'; cases hyl'
      · rw [show (relabel scope f.env).names.lookup y = some .free from w] at hyl'; cases hyl'
    · obtain ⟨h1, h2, h3⟩ := sees.sees _ _ hy
      obtain ⟨a, v, hk, hc, hv, r⟩ := st2.cs y en h1 h3
      obtain ⟨dd, rfl⟩ := himm _ _ hy
      refine ⟨a, v, relabel_free (env := f.env) h2, clos_look hc _ _ (.inl (lookup_mem h2)), hv.keeps x24, ?_⟩
      exact (Rep.more fC (Rep.more fD r)).ext x24
  have itc : It c (cfw f scope h2.objs.size H3.objs.size) I h4 ds := (It.fx (f := cfx f scope h2.objs.size H3.objs.size) (f' := cfw f scope h2.objs.size H3.objs.size) rfl (it.more2 fD fC)).up x24
  have XI : ¬ (cfw f scope h2.objs.size H3.objs.size).X I := by
    obtain ⟨ob, w, _⟩ := it.obj
    rintro ((z | z) | z)
    · exact hXI z
    · rw [z, fD] at w; cases w
    · rw [z, fC] at w; cases w
  have z2 := z.st (.of_ext (x1.trans x2)) st2
  have zc : Fz c (cfw f scope h2.objs.size H3.objs.size) l h4 := by
    refine ⟨z2.fr, funFrames_of z2.ff fun b o _ e d => ⟨o, x24 _ _ e, d⟩, fun b q => .inl (.inl (z2.fx b q)), fun b q m => ?_, fun e he => ?_⟩
    · obtain ⟨ob, w⟩ := ff_mem z2.ff q
      rcases m with m | m
      · rw [m, fD] at w; cases w
      · rw [m, fC] at w; cases w
    · have := o.room.hd; rw [show (cfw f scope h2.objs.size H3.objs.size).A.handled = f.A.handled from rfl, this] at he; cases he
  have go : codeAny (model c.prog c.w) f.A (.compLoop (.ListComp elt (⟨.Name x px, iter, ifs, 0⟩ :: rest) scope pos) 0 (.ref I) (.ref h2.objs.size) (compEnvC scope (closOf f.env scope.names []) H3.objs.size f.env))
      (compPost (model c.prog c.w) f.A E none Q (.ref h2.objs.size) H3.objs.size) { s with heap := h4, toks := t1 } := by
    refine hrun _ _ ok { s with heap := h4, toks := t1 } I h2.objs.size [] [] _ stc zc itc XI hgI (.inl rfl) hDC (fun y a bs hy => ?_) hpl .nil (by simpa using hz) fun h5 t5 vs5 k1 k2 k3 k4 => ?_
    · obtain ⟨dd, e⟩ := himm _ _ hy
      cases e
    · obtain ⟨m, hn, _⟩ := k4.ns
      refine ⟨m, hn, fun h6 hs6 => q _ h6 t5 ⟨fun b ob n e => ?_, fun b ob x _ e => ?_, fun b ob e => ?_⟩ ?_⟩
      · have nC : b ≠ H3.objs.size := fun w => by have w2 := x2 b ob (x1 b ob e); rw [w, fC] at w2; cases w2
        have nD : b ≠ h2.objs.size := fun w => by have w2 := x2 b ob (x1 b ob e); rw [w, fD] at w2; cases w2
        have nI : b ≠ I := fun w => by have w2 := x1 b ob e; rw [w, fI'] at w2; cases w2
        exact (hs6.2 b nC).trans (k1.keep b ob (fun w => w.elim (fun w => w.elim n nD) nC) nI (x24 _ _ (x2 _ _ (x1 _ _ e))))
      · have nC : b ≠ H3.objs.size := fun w => by have w2 := x2 b ob (x1 b ob e); rw [w, fC] at w2; cases w2
        have nD : b ≠ h2.objs.size := fun w => by have w2 := x2 b ob (x1 b ob e); rw [w, fD] at w2; cases w2
        have nI : b ≠ I := fun w => by have w2 := x1 b ob e; rw [w, fI'] at w2; cases w2
        obtain ⟨sl, w⟩ := k1.slot b ob (.inl (.inl x)) (fun w => w.elim nD nC) nI (x24 _ _ (x2 _ _ (x1 _ _ e)))
        exact ⟨sl, (hs6.2 b nC).trans w⟩
      · have nC : b ≠ H3.objs.size := fun w => by have w2 := x2 b ob (x1 b ob e); rw [w, fC] at w2; cases w2
        have nI : b ≠ I := fun w => by have w2 := x1 b ob e; rw [w, fI'] at w2; cases w2
        obtain ⟨o', w⟩ := k1.there b ob nI (x24 _ _ (x2 _ _ (x1 _ _ e)))
        exact ⟨o', (hs6.2 b nC).trans w⟩
      · have r5 : Rep c.C h5 (fun b => f.X b ∨ b = H3.objs.size) (.ref h2.objs.size) (.list es) := .list k2.isList (fun z => z.elim XD hDC) (Reps.less (X := (cfw f scope h2.objs.size H3.objs.size).X) (fun b z => z.imp .inl id) (by simpa using k3))
        exact (r5.keep fun b ob n e => (hs6.2 b (fun z => n (.inr z))).trans e).less fun b z => .inl z
  exact codeAny_compStart_list go (it_self (c := c) (f := cfw f scope h2.objs.size H3.objs.size) (s := { s with heap := h4, toks := t1 }) itc go)
end
end Mine
end
section
namespace Mine
open PySem PySem.W PySem.W.X PySem.Calls PyProof.Rows PySem.Spec

/-- a function object's data -/
noncomputable def fdO (o : Obj) : FuncData := match o.data with
  | .func fd => fd
  | _ => Classical.choice ⟨default⟩
/-- a code's tree, by the quick table -/
noncomputable abbrev den (c : Code) : Sem Fin := ZFast.zw11892475500146522536 ZFast.tableZ c
theorem den_eq (c : Code) : denote table c = den c := by unfold den; rw [ZFast.tableZ_eq, ZFast.ze11892475500146522536]
/-- a frame is entered -/
noncomputable abbrev entT : Sem Unit := ZFast.enterX 0
theorem entT_eq : enterFrame = entT := by unfold entT; rw [← ZFast.enterX_eq]

/-- what is to be run: the heap as far as known -/
noncomputable def GoR (V : XV) (gl : List GenState) (c : Code) (κ : Kont) (t : Sem Fin) (T : BT) (m i : Nat) (ch : Ch) : Prop :=
  ∀ h, X.Rep V h T m ch → Means V c none κ t ⟨h, ⟨gl⟩, V.d, V.t₀ + i, V.os⟩
inductive Ac where
  | ld (j : Nat)
  | up (j : Nat)
  | no
  | en
structure Hn where
  n : Nat
  a : Ac
structure MS where
  c : Code
  κ : Kont
  t : Sem Fin
  T : BT
  m : Nat
  i : Nat
  ch : Ch
  l : List Nat
  r : List Nat
  tl : List (Sem Fin)
  tr : List (Sem Fin)
noncomputable abbrev MK := Code → Kont → Sem Fin → BT → Nat → Nat → Ch → MS
noncomputable def GoM (V : XV) (gl : List GenState) (σ : MS) : Prop := GoR V gl σ.c σ.κ σ.t σ.T σ.m σ.i σ.ch
noncomputable def stopM : MK := fun c κ t T m i ch => ⟨c, κ, t, T, m, i, ch, [], [], [], []⟩
noncomputable def hdOf : Kont → Option Value
  | .base => none
  | .ret _ hd _ κ => hd.or (hdOf κ)
  | .gen .. => none
  | .genS .. => none
noncomputable def lookL : List (Addr × Obj) → Addr → Option Obj
  | [], _ => none
  | p :: l, a => match Nat.beq p.1 a with
    | true => some p.2
    | false => lookL l a
noncomputable def lookO (B : List (Addr × Obj)) (ch : Ch) (a : Addr) : Option Obj := match chLook ch a with
  | some vs => some (tableObj vs)
  | none => lookL B a
noncomputable def Olds (h : Heap) (B : List (Addr × Obj)) : Prop := ∀ p ∈ B, h.get? p.1 = some p.2
noncomputable def retM (r : Result) (K : MK) (t : Sem Fin) (c : Code) (κ : Kont) (T : BT) (m i : Nat) (ch : Ch) (ih : MK) : MS := match κ with
  | .ret c' _ k κ' => ih c' κ' (k r) T m i ch
  | .base => K c κ t T m i ch
  | .gen .. => K c κ t T m i ch
  | .genS .. => K c κ t T m i ch
noncomputable def advS (V : XV) (B : List (Addr × Obj)) (K : MK) (ih : MK) : MK := fun c κ t T m i ch => match t with
  | .pure fin => match fin with
    | .done f => retM (.ok f) K t c κ T m i ch ih
    | .again c' => match c'.quiet with
      | true => ih c' κ (den c') T m i ch
      | false => K c κ t T m i ch
  | .raise e => retM (.error e) K t c κ T m i ch ih
  | .rule _ k => ih c κ (k ()) T m i ch
  | .at _ k => ih c κ (k ()) T m i ch
  | .point _ k => ih c κ (k ()) T m i ch
  | .ask k => ih c κ (k ⟨V.prog, V.w.params⟩) T m i ch
  | .load a _ k => match lookO B ch a with
    | some o => ih c κ (k o) T m i ch
    | none => K c κ t T m i ch
  | .loadIfAlive a k => match lookO B ch a with
    | some o => ih c κ (k (some o)) T m i ch
    | none => K c κ t T m i ch
  | .alloc o k => match o.isFreed with
    | true => K c κ t T m i ch
    | false => match (T.ins m o).get m with
      | some _ => ih c κ (k (V.n₁ + m)) (T.ins m o) (m + 1) i ch
      | none => K c κ t T m i ch
  | .update a _ f k => match nowTab V ch a with
    | some vs => match tabOf (f (tableObj vs)) with
      | some vs' => match strip vs.toList vs'.toList with
        | some _ => ih c κ (k ()) T m i (chPut ch a vs')
        | none => K c κ t T m i ch
      | none => K c κ t T m i ch
    | none => K c κ t T m i ch
  | .fresh k => ih c κ (k (V.t₀ + i)) T m (i + 1) ch
  | .handled own k => match own with
    | false => ih c κ (k (hdOf κ)) T m i ch
    | true => K c κ t T m i ch
  | .call c' hd g l k => match okMark hd with
    | true => ih c' (.ret c hd k κ) (den c') T m i ch
    | false => K c κ t T m i ch
  | .unsupported .. => K c κ t T m i ch
  | .finish .. => K c κ t T m i ch
  | .register .. => K c κ t T m i ch
  | .choose .. => K c κ t T m i ch
  | .os .. => K c κ t T m i ch
  | .newGen .. => K c κ t T m i ch
  | .genState .. => K c κ t T m i ch
  | .resume .. => K c κ t T m i ch
  | .yield .. => K c κ t T m i ch
  | .stack .. => K c κ t T m i ch
  | .fork .. => K c κ t T m i ch
  | .thread .. => K c κ t T m i ch
  | .await .. => K c κ t T m i ch
noncomputable def adv (V : XV) (B : List (Addr × Obj)) (K : MK) : Nat → MK
  | 0 => K
  | n + 1 => advS V B K (adv V B K n)
noncomputable def obM (a b : Nat) (σ : MS) : MS := ⟨σ.c, σ.κ, σ.t, σ.T, σ.m, σ.i, σ.ch, a :: σ.l, b :: σ.r, σ.tl, σ.tr⟩
noncomputable def obT (a b : Sem Fin) (σ : MS) : MS := ⟨σ.c, σ.κ, σ.t, σ.T, σ.m, σ.i, σ.ch, σ.l, σ.r, a :: σ.tl, b :: σ.tr⟩
/-- how deep a continuation is -/
noncomputable def kdeep : Kont → Nat
  | .base => 0
  | .ret _ _ _ κ => kdeep κ + 1
  | .gen .. => 0
  | .genS .. => 0
noncomputable def kplain : Kont → Bool
  | .base => true
  | .ret c _ _ κ => !c.isCaller && kplain κ
  | .gen .. => true
  | .genS .. => true
theorem deep_of {V : XV} : ∀ κ, kplain κ = true → Deep V.A₀ (kdeep κ) (aroundOf V true κ)
  | .base, _ => Deep.refl _
  | .ret c hd k κ, h => by
    obtain ⟨h1, h2⟩ := Bool.and_eq_true_iff.mp h
    exact ((deep_of κ h2).under c (by simpa using h1)).mark hd
  | .gen .., _ => Deep.refl _
  | .genS .., _ => Deep.refl _
theorem deep_at {V : XV} {κ : Kont} {c : Code} (h : (kplain κ && !c.isCaller) = true) : Deep V.A₀ (kdeep κ + 1) ((aroundOf V true κ).under c) := by
  obtain ⟨h1, h2⟩ := Bool.and_eq_true_iff.mp h
  exact (deep_of κ h1).under c (by simpa using h2)
/-- the ground that the machine stands on -/
structure Gr (V : XV) (B : List (Addr × Obj)) : Prop where
  O : V.Ok
  OB : Olds V.h₀ B
  hh : V.A₀.handled = none
  nl : V.h₀.NoLimit
  hu : V.A₀.units + 400 < 9900
  hd : V.A₀.depth + 160 < 1000
noncomputable def actM (V : XV) (B : List (Addr × Obj)) (K : MK) (a : Ac) : MK := fun c κ t T m i ch => match a with
  | .ld j => match t with
    | .load a _ k => match T.get j with
      | some o => obM a (V.n₁ + j) (K c κ (k o) T m i ch)
      | none => stopM c κ t T m i ch
    | .loadIfAlive a k => match T.get j with
      | some o => obM a (V.n₁ + j) (K c κ (k (some o)) T m i ch)
      | none => stopM c κ t T m i ch
    | _ => stopM c κ t T m i ch
  | .up j => match t with
    | .update a _ f k => match T.get j with
      | some o => match (f o).isFreed with
        | false => obM a (V.n₁ + j) (K c κ (k ()) (T.set j f) m i ch)
        | true => stopM c κ t T m i ch
      | none => stopM c κ t T m i ch
    | _ => stopM c κ t T m i ch
  | .no => K c κ t T m i ch
  | .en => match t with
    | .stack k => match k [] with
      | .load a _ k2 => match lookO B ch a with
        | some o => match kplain κ && !c.isCaller && Nat.ble (kdeep κ + 1) 30 with
          | true => match chLook ch cStatics with
            | none => obT t (R.bindR entT fun _ => k2 o) (K c κ (k2 o) T m i ch)
            | some _ => stopM c κ t T m i ch
          | false => stopM c κ t T m i ch
        | none => stopM c κ t T m i ch
      | _ => stopM c κ t T m i ch
    | _ => stopM c κ t T m i ch
noncomputable def run (V : XV) (B : List (Addr × Obj)) : List Hn → MK
  | [] => stopM
  | h :: hs => adv V B (actM V B (run V B hs) h.a) h.n

/-- what a continuation must show -/
noncomputable def Same (σ : MS) : Prop := σ.l = σ.r ∧ σ.tl = σ.tr
noncomputable def Good (V : XV) (gl : List GenState) (K : MK) : Prop := ∀ c κ t T m i ch, Same (K c κ t T m i ch) → GoM V gl (K c κ t T m i ch) → GoR V gl c κ t T m i ch
theorem good_stop {V : XV} {gl : List GenState} : Good V gl stopM := fun _ _ _ _ _ _ _ _ x => x
theorem hdOf_eq {V : XV} (hh : V.A₀.handled = none) : ∀ κ, (aroundOf V true κ).handled = hdOf κ
  | .base => hh
  | .ret c hd k κ => by
    show hd.or (aroundOf V true κ).handled = hd.or (hdOf κ)
    rw [hdOf_eq hh κ]
  | .gen .. => hh
  | .genS .. => hh
theorem lookL_get {h : Heap} : ∀ {B : List (Addr × Obj)}, Olds h B → ∀ {a : Addr} {o : Obj}, lookL B a = some o → h.get? a = some o
  | [], _, _, _, e => by cases e
  | p :: l, H, a, o, e => by
    unfold lookL at e
    split at e
    · rename_i q
      cases e
      rw [← Nat.eq_of_beq_eq_true q]; exact H p (.head _)
    · exact lookL_get (fun x hx => H x (.tail _ hx)) e
theorem lookO_get {V : XV} {B : List (Addr × Obj)} (OB : Olds V.h₀ B) {h : Heap} {T : BT} {m : Nat} {ch : Ch} (D : X.Rep V h T m ch) {a : Addr} {o : Obj} (e : lookO B ch a = some o) : h.get? a = some o := by
  unfold lookO at e
  cases c : chLook ch a with
  | some vs => rw [c] at e; cases e; exact (D.ch a vs c).1
  | none =>
    rw [c] at e
    exact D.keep a o (lookL_get OB e) c
section
variable {V : XV} {B : List (Addr × Obj)} {gl : List GenState} {K ih : MK}
theorem good_ret (H : Good V gl K) (I : Good V gl ih) {r : Result} {c κ t T m i ch} (ht : t = leafOf r) (e : Same (retM r K t c κ T m i ch ih)) (x : GoM V gl (retM r K t c κ T m i ch ih)) : GoR V gl c κ t T m i ch := by
  cases κ with
  | base => exact H _ _ _ _ _ _ _ e x
  | gen => exact H _ _ _ _ _ _ _ e x
  | genS => exact H _ _ _ _ _ _ _ e x
  | ret c' hd k κ' =>
    have z := I _ _ _ _ _ _ _ e x
    intro h D
    have key : endOf V (.ret c' hd k κ') r ⟨h, ⟨gl⟩, V.d, V.t₀ + i, V.os⟩ := z h D
    cases r with
    | ok f => subst ht; exact y_pure _ _ _ _ _ _ _ _ _ (y_done _ _ _ _ _ _ key)
    | error e => subst ht; exact y_raise _ _ _ _ _ _ _ _ _ (y_err _ _ _ key)
theorem good_adv (G : Gr V B) (H : Good V gl K) (I : Good V gl ih) : Good V gl (advS V B K ih) := by
  intro c κ t T m i ch e x
  cases t with
  | pure fin =>
    cases fin with
    | done f => exact good_ret H I (r := .ok f) rfl e x
    | again c' =>
      simp only [advS] at e x
      split at e
      · rename_i q
        rw [q] at x
        have z := I _ _ _ _ _ _ _ e x
        intro h D
        exact y_pure _ _ _ _ _ _ _ _ _ (y_again _ _ _ _ _ _ q (y_code _ _ _ _ _ _ (by rw [den_eq]; exact z h D)))
      · rename_i q
        rw [q] at x
        exact H _ _ _ _ _ _ _ e x
  | raise e' => exact good_ret H I (r := .error e') rfl e x
  | rule tag k => exact fun h D => y_skim _ _ _ _ _ _ _ _ _ 1 (I _ _ _ _ _ _ _ e x h D)
  | «at» q k => exact fun h D => y_skim _ _ _ _ _ _ _ _ _ 1 (I _ _ _ _ _ _ _ e x h D)
  | point l k => exact fun h D => y_skim _ _ _ _ _ _ _ _ _ 1 (I _ _ _ _ _ _ _ e x h D)
  | ask k => exact fun h D => y_skim _ _ _ _ _ _ _ _ _ 1 (I _ _ _ _ _ _ _ e x h D)
  | load a q k =>
    simp only [advS] at e x
    split at e
    · rename_i o ho
      rw [ho] at x
      exact fun h D => y_load _ _ _ _ _ _ _ _ _ _ _ _ _ _ _ _ (lookO_get G.OB D ho) (I _ _ _ _ _ _ _ e x h D)
    · rename_i ho
      rw [ho] at x
      exact H _ _ _ _ _ _ _ e x
  | loadIfAlive a k =>
    simp only [advS] at e x
    split at e
    · rename_i o ho
      rw [ho] at x
      exact fun h D => y_alive _ _ _ _ _ _ _ _ _ _ _ _ _ _ _ (lookO_get G.OB D ho) (I _ _ _ _ _ _ _ e x h D)
    · rename_i ho
      rw [ho] at x
      exact H _ _ _ _ _ _ _ e x
  | alloc o k =>
    simp only [advS] at e x
    split at e
    · rename_i q
      rw [q] at x
      exact H _ _ _ _ _ _ _ e x
    · rename_i hf
      rw [hf] at x
      dsimp only at x
      split at e
      · rename_i o' q
        rw [q] at x
        have z := I _ _ _ _ _ _ _ e x
        intro h D
        have D' := D.alloc G.O hf (by rw [q]; rfl)
        have ea : h.objs.size = V.n₁ + m := D.size
        exact wpOwn_bind (m := alloc o) (f := k) (wpOwn_of_wpAny (wpAny_alloc (by rw [ea]; exact z _ D')))
      · rename_i q
        rw [q] at x
        exact H _ _ _ _ _ _ _ e x
  | update a q f k =>
    simp only [advS] at e x
    split at e
    · rename_i vs h1
      rw [h1] at x
      dsimp only at x
      split at e
      · rename_i vs' h2
        rw [h2] at x
        dsimp only at x
        split at e
        · rename_i mo h3
          rw [h3] at x
          have z := I _ _ _ _ _ _ _ e x
          intro h D
          obtain ⟨ho, D'⟩ := D.table G.O h1 (tabOf_eq h2) h3
          exact wpOwn_bind (m := updatePart a q f) (f := k) (wpOwn_of_wpAny (wpAny_updatePart ho (z _ D')))
        · rename_i h3
          rw [h3] at x
          exact H _ _ _ _ _ _ _ e x
      · rename_i h2
        rw [h2] at x
        exact H _ _ _ _ _ _ _ e x
    · rename_i h1
      rw [h1] at x
      exact H _ _ _ _ _ _ _ e x
  | fresh k => exact fun h D => y_fresh _ _ _ _ _ _ _ _ _ _ _ _ _ (I _ _ _ _ _ _ _ e x h D)
  | handled own k =>
    cases own with
    | true => exact H _ _ _ _ _ _ _ e x
    | false =>
      intro h D
      refine y_handled _ _ _ _ _ _ _ _ _ ?_
      rw [hdOf_eq G.hh]
      exact I _ _ _ _ _ _ _ e x h D
  | call c' hd g l k =>
    simp only [advS] at e x
    split at e
    · rename_i q
      rw [q] at x
      have z := I _ _ _ _ _ _ _ e x
      have hnb : hd ≠ some byPass := by
        intro e
        subst e
        simp [okMark] at q
      intro h D
      exact y_call _ _ _ _ _ _ _ _ _ _ _ _ _ hnb (y_code _ _ _ _ _ _ (by rw [den_eq]; exact z h D))
    · rename_i q
      rw [q] at x
      exact H _ _ _ _ _ _ _ e x
  | _ => exact H _ _ _ _ _ _ _ e x
theorem good_run1 (G : Gr V B) (H : Good V gl K) : ∀ n, Good V gl (adv V B K n)
  | 0 => H
  | n + 1 => good_adv G H (good_run1 G H n)
theorem good_act (G : Gr V B) (H : Good V gl K) (a : Ac) : Good V gl (actM V B K a) := by
  intro c κ t T m i ch e x
  cases a with
  | ld j =>
    cases t with
    | load a q k =>
      simp only [actM] at e x
      split at e
      · rename_i o ho
        rw [ho] at x
        have e1 := (List.cons.inj e.1).1
        have e2 : Same (K c κ _ T m i ch) := ⟨(List.cons.inj e.1).2, e.2⟩
        have z := H _ _ _ _ _ _ _ e2 x
        exact fun h D => y_load _ _ _ _ _ _ _ _ _ _ _ _ _ _ _ _ (by rw [e1]; exact (D.own _ _ ho).2) (z h D)
      · rename_i ho
        rw [ho] at x
        exact x
    | loadIfAlive a k =>
      simp only [actM] at e x
      split at e
      · rename_i o ho
        rw [ho] at x
        have e1 := (List.cons.inj e.1).1
        have e2 : Same (K c κ _ T m i ch) := ⟨(List.cons.inj e.1).2, e.2⟩
        have z := H _ _ _ _ _ _ _ e2 x
        exact fun h D => y_alive _ _ _ _ _ _ _ _ _ _ _ _ _ _ _ (by rw [e1]; exact (D.own _ _ ho).2) (z h D)
      · rename_i ho
        rw [ho] at x
        exact x
    | _ => exact x
  | up j =>
    cases t with
    | update a q f k =>
      simp only [actM] at e x
      split at e
      · rename_i o ho
        rw [ho] at x
        dsimp only at x
        split at e
        · rename_i hf
          rw [hf] at x
          have e1 := (List.cons.inj e.1).1
          have e2 : Same (K c κ (k ()) (T.set j f) m i ch) := ⟨(List.cons.inj e.1).2, e.2⟩
          have z := H _ _ _ _ _ _ _ e2 x
          subst e1
          intro h D
          have ej : V.n₁ + j - V.n₁ = j := Nat.add_sub_cancel_left ..
          have D' := D.update G.O (a := V.n₁ + j) (f := f) (Nat.le_add_right ..) (by rw [ej]; exact ho) hf
          rw [ej] at D'
          exact wpOwn_bind (m := updatePart _ q f) (f := k) (wpOwn_of_wpAny (wpAny_updatePart (D.own _ _ ho).2 (z _ D')))
        · rename_i hf
          rw [hf] at x
          exact x
      · rename_i ho
        rw [ho] at x
        exact x
    | _ => exact x
  | no => exact H _ _ _ _ _ _ _ e x
  | en =>
    cases t with
    | stack k =>
      simp only [actM] at e x
      split at e
      · rename_i a q k2 hk
        rw [hk] at x
        dsimp only at x
        split at e
        · rename_i o ho
          rw [ho] at x
          dsimp only at x
          split at e
          · rename_i hp
            rw [hp] at x
            dsimp only at x
            split at e
            · rename_i hc
              rw [hc] at x
              have e1 := (List.cons.inj e.2).1
              have e2 : Same (K c κ (k2 o) T m i ch) := ⟨e.1, (List.cons.inj e.2).2⟩
              have z := H _ _ _ _ _ _ _ e2 x
              obtain ⟨hp1, hp2⟩ := Bool.and_eq_true_iff.mp hp
              have hn := Nat.le_of_ble_eq_true hp2
              have dp := deep_at (V := V) hp1
              intro h D
              rw [e1, ← entT_eq, ← R.bindR_eq]
              refine wpOwn_bind (m := enterFrame) (wpOwn_of_wpAny (wpAny_enterFrame (G.nl.at fun o e => D.keep _ o e hc) ?_ (z h D)))
              have := dp.depth
              have := G.hd
              unfold recursionLimit
              omega
            · rename_i hc
              rw [hc] at x
              exact x
          · rename_i hp
            rw [hp] at x
            exact x
        · rename_i ho
          rw [ho] at x
          exact x
      · rename_i hk
        split at x
        · rename_i a q k2 hk2
          exact absurd hk2 (hk _ _ _)
        · exact x
    | _ => exact x
theorem good_run (G : Gr V B) : ∀ hs, Good V gl (run V B hs)
  | [] => good_stop
  | h :: hs => good_run1 G (good_act G (good_run G hs) h.a) h.n
end
theorem run_sound {V : XV} {B : List (Addr × Obj)} {gl : List GenState} (G : Gr V B) (hs : List Hn) {c κ t T m i ch} (e : ((run V B hs c κ t T m i ch).l, (run V B hs c κ t T m i ch).tl) = ((run V B hs c κ t T m i ch).r, (run V B hs c κ t T m i ch).tr)) (x : GoM V gl (run V B hs c κ t T m i ch)) : GoR V gl c κ t T m i ch :=
  good_run G hs _ _ _ _ _ _ _ ⟨congrArg Prod.fst e, congrArg Prod.snd e⟩ x
theorem cutN {V : XV} {gl : List GenState} {σ : MS} {t : Sem Fin} {m : Nat} (em : σ.m = m) (e : σ.t = t) (x : GoR V gl σ.c σ.κ t σ.T m σ.i σ.ch) : GoM V gl σ := by
  unfold GoM; rw [e, em]; exact x
theorem finM {V : XV} {gl : List GenState} {σ : MS} {f : Flow} (e1 : σ.κ = .base) (e2 : σ.t = .pure (.done f)) (x : ∀ h, X.Rep V h σ.T σ.m σ.ch → V.R₀ (.ok f) ⟨h, ⟨gl⟩, V.d, V.t₀ + σ.i, V.os⟩) : GoM V gl σ := by
  intro h D
  rw [e1, e2]
  exact y_pure _ _ _ _ _ _ _ _ _ (y_done _ _ _ _ _ _ (x h D))
end Mine
end
section
namespace Mine
open PySem PySem.W PySem.W.X PySem.Calls PyProof.Rows PySem.Spec
/-- the objects of K lie in the heap -/
structure AI (h : Heap) (K : Frag) : Prop where
  ok : AllIn h K
theorem allIn_lookup {h : Heap} : ∀ {K : Frag}, AllIn h K → K.In h
  | [], _, a, o, e => by cases e
  | p :: K, A, a, o, e => by
    obtain ⟨b, x⟩ := p
    rw [List.lookup_cons] at e
    split at e
    · rename_i q
      cases e
      rw [beq_iff_eq.mp q]; exact A.1
    · exact allIn_lookup A.2 a o e
theorem allIn_filter {h : Heap} {f : Addr × Obj → Bool} : ∀ {K : Frag}, AllIn h K → AllIn h (K.filter f)
  | [], _ => trivial
  | p :: K, A => by
    rw [List.filter_cons]
    split
    · exact ⟨A.1, allIn_filter A.2⟩
    · exact allIn_filter A.2
theorem allIn_keep {h h' : Heap} : ∀ {K : Frag}, AllIn h K → (∀ p ∈ K, h.get? p.1 = some p.2 → h'.get? p.1 = some p.2) → AllIn h' K
  | [], _, _ => trivial
  | p :: K, A, k => ⟨k p (.head _) A.1, allIn_keep A.2 fun q hq => k q (.tail _ hq)⟩
theorem AI.get {h : Heap} {K : Frag} (A : AI h K) {a : Addr} {o : Obj} (e : K.lookup a = some o) : h.get? a = some o := allIn_lookup A.ok a o e
theorem AI.keep {h h' : Heap} {K : Frag} (A : AI h K) (k : ∀ p ∈ K, h.get? p.1 = some p.2 → h'.get? p.1 = some p.2) : AI h' K := ⟨allIn_keep A.ok k⟩
noncomputable def flds (o : Obj) : Array Value := match o.data with
  | .fields vs => vs
  | _ => #[]
noncomputable abbrev xvG (tv : Array Value) (prog : Program) (w : World) (h₀ : Heap) (N : Nat) (A : Around) (R : Result → Shared → Prop) (d : Drawn) (t : Nat) (os : OsState) : XV :=
  { prog := prog, w := w, h₀ := h₀, n₁ := N, kt := .nil, tabs := [(43, tv)], A₀ := A, R₀ := R, d := d, t₀ := t, os := os }
theorem chLook_one {b a : Addr} {tv vs : Array Value} (e : chLook [(b, tv)] a = some vs) : b = a ∧ tv = vs := by
  unfold chLook at e
  split at e
  · rename_i q
    exact ⟨Nat.eq_of_beq_eq_true q, Option.some.inj e⟩
  · cases e
theorem xvG_ok {tv : Array Value} {prog : Program} {w : World} {h₀ : Heap} {N : Nat} {A : Around} {R : Result → Shared → Prop} {d : Drawn} {t : Nat} {os : OsState} (hs : h₀.objs.size = N) (T : ∃ c, h₀.TableAt c 43 tv) : (xvG tv prog w h₀ N A R d t os).Ok where
  size := hs
  kt := trivial
  tabs := fun a vs e => by
    obtain ⟨rfl, rfl⟩ := chLook_one e
    exact T
theorem co_runG {tv : Array Value} {prog : Program} {w : World} {h₀ : Heap} {N : Nat} {A : Around} {R : Result → Shared → Prop} {d : Drawn} {t : Nat} {os : OsState} {gl : List GenState} {c : Code} (hs : h₀.objs.size = N) (T : ∃ c, h₀.TableAt c 43 tv)
    (x : (xvG tv prog w h₀ N A R d t os).Ok → GoR (xvG tv prog w h₀ N A R d t os) gl c .base (den c) .nil 0 0 []) : codeAny (model prog w) A c R ⟨h₀, ⟨gl⟩, d, t, os⟩ :=
  y_code _ _ _ _ _ _ (by rw [den_eq]; exact x (xvG_ok hs T) h₀ (X.Rep.start (xvG_ok hs T)))
end Mine
end
section
namespace Mine
open PySem PySem.W PySem.W.X PySem.Calls PyProof.Rows PySem.Spec
section
variable {α β : Type} {D : Heap → Prop} {prog : Program} {w : World} {A : Around} {c : Code} {Q : α → Shared → Prop} {E : Value → Shared → Prop} {g : Array GenState} {d : Drawn} {t : Nat} {os : OsState}
end
section
variable {α β : Type} {D : Heap → Prop} {prog : Program} {w : World} {A : Around} {c : Code} {Q : β → Shared → Prop} {E E' : Value → Shared → Prop} {g : Array GenState} {d : Drawn} {t : Nat} {os : OsState}
end
/-- a frame is entered first, under some binds -/
inductive Enters : {α : Type} → Sem α → Sem α → Prop
  | base {α : Type} (f : Unit → Sem α) : Enters (R.bindR entT f) (f ())
  | step {α β : Type} {t r : Sem α} (g : α → Sem β) (h : Enters t r) : Enters (R.bindR t g) (R.bindR r g)
  | keep {α : Type} {t r : Sem α} (l : List Value) (h : Enters t r) : Enters (R.keepR l t) (R.keepR l r)
  | tried {α : Type} {t r : Sem α} (g : Value → Sem α) (h : Enters t r) : Enters (R.catchR t g) (R.catchR r g)
  | onRaise {α : Type} {t r : Sem α} (g : Value → Sem Unit) (h : Enters t r) : Enters (R.onRaiseR t g) (R.onRaiseR r g)
theorem Enters.sound {M : Model} {A : Around} {s : Shared} (hl : s.heap.NoLimit) (hd : A.depth < recursionLimit) {α : Type} {t r : Sem α} (h : Enters t r) :
    ∀ (Γ : PySem.Ctx) (hΓ : Γ.In A) (Q : α → Pos → Shared → Prop) (E : Value → Pos → Shared → Prop), (∀ p, Sem.wp M Γ r Q E p s) → ∀ p, Sem.wp M Γ t Q E p s := by
  induction h with
  | base f =>
    intro Γ hΓ Q E x p
    rw [← R.bindR_eq, ← entT_eq]
    rw [Sem.wp_bind]
    refine Sem.wp_mono M Γ enterFrame (fun a p' s' (h' : ∀ p', Sem.wp M Γ (f a) Q E p' s') => h' p') (fun _ _ _ (h' : False) => h'.elim) p s ?_
    exact wpAny_enterFrame (Q := fun a s' => ∀ p', Sem.wp M Γ (f a) Q E p' s') (E := fun _ _ => False) hl hd (fun p' => x p') Γ p hΓ
  | step g h ih =>
    intro Γ hΓ Q E x p
    rw [← R.bindR_eq, Sem.wp_bind]
    refine ih Γ hΓ _ _ (fun p' => ?_) p
    have z := x p'
    rw [← R.bindR_eq, Sem.wp_bind] at z
    exact z
  | keep l h ih =>
    intro Γ hΓ Q E x p
    rw [← R.keepR_eq, Sem.wp_keep]
    refine ih Γ hΓ _ _ (fun p' => ?_) p
    have z := x p'
    rw [← R.keepR_eq, Sem.wp_keep] at z
    exact z
  | tried g h ih =>
    intro Γ hΓ Q E x p
    rw [← R.catchR_eq, Sem.wp_tryCatch]
    refine ih Γ hΓ _ _ (fun p' => ?_) p
    have z := x p'
    rw [← R.catchR_eq, Sem.wp_tryCatch] at z
    exact z
  | onRaise g h ih =>
    intro Γ hΓ Q E x p
    rw [← R.onRaiseR_eq, Sem.wp_onRaise]
    refine ih Γ hΓ _ _ (fun p' => ?_) p
    have z := x p'
    rw [← R.onRaiseR_eq, Sem.wp_onRaise] at z
    exact z
theorem gor_enterR {V : XV} {B : List (Addr × Obj)} {gl : List GenState} {c : Code} {κ : Kont} {T : BT} {m i : Nat} {ch : Ch} {t r : Sem Fin} (G : Gr V B) (h : Enters t r) (hk : (kplain κ && !c.isCaller && Nat.ble (kdeep κ + 1) 30) = true) (hc : chLook ch cStatics = none) (x : GoR V gl c κ r T m i ch) : GoR V gl c κ t T m i ch := by
  obtain ⟨hp1, hp2⟩ := Bool.and_eq_true_iff.mp hk
  have hn := Nat.le_of_ble_eq_true hp2
  have dp := deep_at (V := V) hp1
  intro hh D
  intro Γ p hcd hΓ
  refine h.sound (A := (aroundOf V true κ).under c) (G.nl.at fun o e => D.keep _ o e hc) ?_ Γ (hcd ▸ hΓ.in) _ _ (fun p' => x hh D Γ p' hcd hΓ) p
  have := dp.depth
  have := G.hd
  unfold recursionLimit
  omega
theorem gor_enter {V : XV} {B : List (Addr × Obj)} {gl : List GenState} {σ : MS} {m : Nat} {t r : Sem Fin} (G : Gr V B) (em : σ.m = m) (e : σ.t = t) (h : Enters t r) (hk : (kplain σ.κ && !σ.c.isCaller && Nat.ble (kdeep σ.κ + 1) 30) = true) (hc : chLook σ.ch cStatics = none) (x : GoR V gl σ.c σ.κ r σ.T m σ.i σ.ch) : GoM V gl σ := by
  unfold GoM
  rw [e, em]
  obtain ⟨hp1, hp2⟩ := Bool.and_eq_true_iff.mp hk
  have hn := Nat.le_of_ble_eq_true hp2
  have dp := deep_at (V := V) hp1
  intro hh D
  intro Γ p hcd hΓ
  refine h.sound (A := (aroundOf V true σ.κ).under σ.c) (G.nl.at fun o e => D.keep _ o e hc) ?_ Γ (hcd ▸ hΓ.in) _ _ (fun p' => x hh D Γ p' hcd hΓ) p
  have := dp.depth
  have := G.hd
  unfold recursionLimit
  omega
theorem gor_call {V : XV} {gl : List GenState} {c c' : Code} {κ : Kont} {hd : Option Value} {gd : Bool} {l : List Value} {k : Result → Sem Fin} {T : BT} {m i : Nat} {ch : Ch} (hm : okMark hd = true) (x : GoR V gl c' (.ret c hd k κ) (den c') T m i ch) : GoR V gl c κ (.call c' hd gd l k) T m i ch := by
  have hnb : hd ≠ some byPass := by
    intro e
    subst e
    simp [okMark] at hm
  intro h D
  exact y_call _ _ _ _ _ _ _ _ _ _ _ _ _ hnb (y_code _ _ _ _ _ _ (by rw [den_eq]; exact x h D))
theorem gor_again {V : XV} {gl : List GenState} {c c' : Code} {κ : Kont} {T : BT} {m i : Nat} {ch : Ch} (hq : c'.quiet = true) (x : GoR V gl c' κ (den c') T m i ch) : GoR V gl c κ (.pure (.again c')) T m i ch := by
  intro h D
  exact y_pure _ _ _ _ _ _ _ _ _ (y_again _ _ _ _ _ _ hq (y_code _ _ _ _ _ _ (by rw [den_eq]; exact x h D)))
theorem gor_alloc {V : XV} {gl : List GenState} {c : Code} {κ : Kont} {o : Obj} {k : Addr → Sem Fin} {T : BT} {m i : Nat} {ch : Ch} (O : V.Ok) (hf : o.isFreed = false) (hg : ((T.ins m o).get m).isSome = true) (x : GoR V gl c κ (k (V.n₁ + m)) (T.ins m o) (m + 1) i ch) : GoR V gl c κ (.alloc o k) T m i ch := by
  intro h D
  have D' := D.alloc O hf hg
  have ea : h.objs.size = V.n₁ + m := D.size
  exact wpOwn_bind (m := alloc o) (f := k) (wpOwn_of_wpAny (wpAny_alloc (by rw [ea]; exact x _ D')))
/-- the new objects, laid anew, each unevaluated -/
noncomputable def reb (T : BT) : Nat → BT
  | 0 => .nil
  | n + 1 => (reb T n).ins n ((T.get n).getD default)
/-- a call that the machine runs to its end, the state laid anew -/
theorem gor_thru {V : XV} {B : List (Addr × Obj)} {gl : List GenState} {c c' : Code} {κ : Kont} {hd : Option Value} {gd : Bool} {l : List Value} {k : Result → Sem Fin} {T : BT} {m i : Nat} {ch : Ch} (G : Gr V B) (hs : List Hn) (v : Value) (m' i' : Nat) (ch' : Ch) (T' : BT → BT) (hm : okMark hd = true)
    (e : ((run V B hs c' (.ret c hd k κ) (den c') T m i ch).l, (run V B hs c' (.ret c hd k κ) (den c') T m i ch).tl) = ((run V B hs c' (.ret c hd k κ) (den c') T m i ch).r, (run V B hs c' (.ret c hd k κ) (den c') T m i ch).tr))
    (er : ((run V B hs c' (.ret c hd k κ) (den c') T m i ch).c, (run V B hs c' (.ret c hd k κ) (den c') T m i ch).κ, (run V B hs c' (.ret c hd k κ) (den c') T m i ch).t, (run V B hs c' (.ret c hd k κ) (den c') T m i ch).m, (run V B hs c' (.ret c hd k κ) (den c') T m i ch).i, (run V B hs c' (.ret c hd k κ) (den c') T m i ch).ch) = (c, κ, k (.ok (.ret v)), m', i', ch'))
    (eT : (run V B hs c' (.ret c hd k κ) (den c') T m i ch).T = T' (run V B hs c' (.ret c hd k κ) (den c') T m i ch).T)
    (x : GoR V gl c κ (k (.ok (.ret v))) (T' (run V B hs c' (.ret c hd k κ) (den c') T m i ch).T) m' i' ch') : GoR V gl c κ (.call c' hd gd l k) T m i ch := by
  refine gor_call hm (run_sound G hs e ?_)
  have e1 := congrArg Prod.fst er
  have e2 := congrArg (fun x => x.2.1) er
  have e3 := congrArg (fun x => x.2.2.1) er
  have e4 := congrArg (fun x => x.2.2.2.1) er
  have e5 := congrArg (fun x => x.2.2.2.2.1) er
  have e6 := congrArg (fun x => x.2.2.2.2.2) er
  dsimp only at e1 e2 e3 e4 e5 e6
  unfold GoM
  rw [e1, e2, e3, e4, e5, e6, eT]
  exact x
/-- a decision is taken -/
theorem gor_dec {V : XV} {gl : List GenState} {σ : MS} {m : Nat} {p : Prop} {d : Decidable p} (F : Decidable p → Sem Fin) (d' : Decidable p) (em : σ.m = m) (e : σ.t = F d) (x : GoR V gl σ.c σ.κ (F d') σ.T m σ.i σ.ch) : GoM V gl σ := by
  unfold GoM
  rw [e, em, Subsingleton.elim d d']
  exact x
/-- a value that hangs on a decision -/
theorem gor_val {V : XV} {gl : List GenState} {σ : MS} {m : Nat} {p : Prop} {d : Decidable p} (F : Value → Sem Fin) (H : Decidable p → Value) (d' : Decidable p) {v : Value} (em : σ.m = m) (e : σ.t = F (H d)) (ev : H d' = v) (x : GoR V gl σ.c σ.κ (F v) σ.T m σ.i σ.ch) : GoM V gl σ := by
  unfold GoM
  rw [e, em, Subsingleton.elim d d', ev]
  exact x
end Mine
end
section
namespace Mine
open PySem PySem.W PySem.W.X PySem.Calls PyProof.Rows PySem.Spec
/-- what the class creation reads of the top -/
noncomputable abbrev oldC (P : Params) : List (Addr × Obj) := [(0, hz.zo_39 P), (2, hz.zo_41 P), (3, hz.zo_42 P), (4, hz.zo_43 P), (43, hz.zo_74 P), (47, hz.zo_78 P), (48, hz.zo_79 P)]
theorem oldC_ok {P : Params} {h : Heap} (A : AI h (K2 P)) : Olds h (oldC P) := by
  have e0 : h.get? 0 = some (hz.zo_39 P) := A.get (by kernel_rfl!)
  have e2 : h.get? 2 = some (hz.zo_41 P) := A.get (by kernel_rfl!)
  have e3 : h.get? 3 = some (hz.zo_42 P) := A.get (by kernel_rfl!)
  have e4 : h.get? 4 = some (hz.zo_43 P) := A.get (by kernel_rfl!)
  have e43 : h.get? 43 = some (hz.zo_74 P) := A.get (by kernel_rfl!)
  have e47 : h.get? 47 = some (hz.zo_78 P) := A.get (by kernel_rfl!)
  have e48 : h.get? 48 = some (hz.zo_79 P) := A.get (by kernel_rfl!)
  intro p hp
  simp only [oldC, List.mem_cons, List.not_mem_nil, or_false] at hp
  rcases hp with rfl | rfl | rfl | rfl | rfl | rfl | rfl <;> assumption
noncomputable def tvC (P : Params) : Array Value := flds (hz.zo_74 P)
theorem tvC_at {P : Params} {h : Heap} (A : AI h (K2 P)) : ∃ c, h.TableAt c 43 (tvC P) :=
  ⟨47, table_at (vs := flds (hz.zo_78 P)) (A.get (o := hz.zo_78 P) (by kernel_rfl!)) (by kernel_rfl!) (by kernel_rfl!) (A.get (o := hz.zo_74 P) (by kernel_rfl!)) (by kernel_rfl!)⟩
end Mine
end
section
namespace Mine
open PySem PySem.W PySem.W.X PySem.Calls PyProof.Rows PySem.Spec
noncomputable def eF1_1 (w : World) (N : Nat) := let y0 := (@Mine.fdO (@Mine.hz.zo_79 (@PySem.World.params w))); let y1 := (@PySem.FuncData.scope y0); let y2 := (@instHAdd.{0} @Nat @instAddNat); let y3 := (@HAdd.hAdd.{0, 0, 0} @Nat @Nat @Nat y2 N (nat_lit 0)); let y4 := (@PySem.FuncData.globals y0); let y5 := (@List.cons.{0} (@Prod.{0, 0} @PySem.Str @PySem.Addr) (@Prod.mk.{0, 0} @PySem.Str @PySem.Addr (@PySem.Str.mk (@Array.mk.{0} @Nat (@List.cons.{0} @Nat (nat_lit 109) (@List.cons.{0} @Nat (nat_lit 121) (@List.cons.{0} @Nat (nat_lit 99) (@List.cons.{0} @Nat (nat_lit 109) (@List.cons.{0} @Nat (nat_lit 112) (@List.nil.{0} @Nat)))))))) (@HAdd.hAdd.{0, 0, 0} @Nat @Nat @Nat y2 N (nat_lit 1))) (@PySem.FuncData.closure y0)); let y6 := (@HAppend.hAppend.{0, 0, 0} @PySem.Str @PySem.Str @PySem.Str (@instHAppendOfAppend.{0} @PySem.Str @PySem.W.ZFast.zw178013285451222756) (@PySem.Str.mk (@Array.mk.{0} @Nat (@List.cons.{0} @Nat (nat_lit 99) (@List.cons.{0} @Nat (nat_lit 109) (@List.cons.{0} @Nat (nat_lit 112) (@List.cons.{0} @Nat (nat_lit 95) (@List.cons.{0} @Nat (nat_lit 116) (@List.cons.{0} @Nat (nat_lit 111) (@List.cons.{0} @Nat (nat_lit 95) (@List.cons.{0} @Nat (nat_lit 107) (@List.cons.{0} @Nat (nat_lit 101) (@List.cons.{0} @Nat (nat_lit 121) (@List.nil.{0} @Nat))))))))))))) (@PySem.Str.mk (@Array.mk.{0} @Nat (@List.cons.{0} @Nat (nat_lit 46) (@List.cons.{0} @Nat (nat_lit 60) (@List.cons.{0} @Nat (nat_lit 108) (@List.cons.{0} @Nat (nat_lit 111) (@List.cons.{0} @Nat (nat_lit 99) (@List.cons.{0} @Nat (nat_lit 97) (@List.cons.{0} @Nat (nat_lit 108) (@List.cons.{0} @Nat (nat_lit 115) (@List.cons.{0} @Nat (nat_lit 62) (@List.cons.{0} @Nat (nat_lit 46) (@List.nil.{0} @Nat)))))))))))))); let y7 := (@Option.some.{0} @PySem.Addr (@OfNat.ofNat.{0} @PySem.Addr (nat_lit 48) (@instOfNatNat (nat_lit 48)))); let y8 := (@PySem.newFunctionEnv.match_3.{1} (fun (x9 : (@Option.{0} @PySem.Env)) => @PySem.Env) (@Option.none.{0} @PySem.Env) (fun (x10 : @PySem.Env) => (@PySem.Env.mk y1 y3 y4 y5 y6 y7 (@PySem.Env.code x10) (@PySem.Env.frame x10) (@PySem.Env.builtins x10))) (fun (x11 : @Unit) => (@PySem.Env.mk y1 y3 y4 y5 y6 y7 (@PySem.FuncData.code y0) (@Option.some.{0} @PySem.Addr y3) (@PySem.FuncData.builtins y0)))); let y12 := (@Monad.toBind.{0, 0} @PySem.Sem @PySem.W.ZFast.zw12456147031677567982); let y13 := (@PySem.FuncData.name y0); let y14 := (@PySem.FuncData.qualname y0); let y15 := (fun (x16 : @PySem.Value) => (@PySem.W.ZFast.zw6905046200447255374 x16)); (fun (x17 : @Unit) => (let x21 : @PySem.Code := (@PySem.callFunction.match_7.{1} (fun (x18 : @PySem.FuncBody) => @PySem.Code) (@PySem.FuncData.body y0) (fun (x19 : (@List.{0} @PySem.Stmt)) => (@PySem.Code.func x19 y8)) (fun (x20 : @PySem.Expr) => (@PySem.Code.expr x20 y8))); (@PySem.callFunction.match_9.{1} (fun (x22 : @Bool) => (fun (x23 : @Bool) => (@PySem.Sem @PySem.Fin))) (@PySem.Scope.isGenerator y1) (@PySem.Scope.isCoroutine y1) (fun (x24 : @Unit) => (@PySem.W.ZFast.zw12377390311714414960 x21)) (fun (x25 : @Unit) => (@Bind.bind.{0, 0} @PySem.Sem y12 @PySem.Value @PySem.Fin (@PySem.W.ZFast.zw2426001476595277715 x21 y13 y14) y15)) (fun (x26 : @Unit) => (@Bind.bind.{0, 0} @PySem.Sem y12 @PySem.Value @PySem.Fin (@PySem.W.ZFast.zw8720955422536348303 x21 y13 y14) y15)) (fun (x27 : @Unit) => (@Bind.bind.{0, 0} @PySem.Sem y12 @PySem.Value @PySem.Fin (@PySem.W.ZFast.zw13055414885448386229 x21 y13 y14) y15)))))
noncomputable abbrev VC (w : World) (h₀ : Heap) (N : Nat) (A : Around) (R : Result → Shared → Prop) (d : Drawn) (t : Nat) (os : OsState) : XV := xvG (tvC w.params) Challenge.rw_op0061_01.prog w h₀ N A R d t os
noncomputable def sC0 (w : World) (h₀ : Heap) (N : Nat) (A : Around) (R : Result → Shared → Prop) (d : Drawn) (t : Nat) (os : OsState) (lam : Addr) : MS := run (VC w h₀ N A R d t os) (oldC w.params) [⟨4, .ld 1⟩, ⟨0, .up 1⟩] (.call (.ref 48) ⟨[.ref lam], []⟩) .base (den (.call (.ref 48) ⟨[.ref lam], []⟩)) .nil 0 0 []

set_option pp.deepTerms false
set_option pp.maxSteps 400
noncomputable def dC2 (N : Nat) : Decidable (N + 58 = N + 9) := (.isFalse (by omega))
noncomputable def cF2 (N : Nat) (w : World) (t : Nat) (d : Decidable (N + 58 = N + 9)) : Sem Fin := let y1 := (@Monad.toBind.{0, 0} @PySem.Sem @PySem.W.ZFast.zw12456147031677567982); let y2 := (@instHAdd.{0} @Nat @instAddNat); let y3 := (@HAdd.hAdd.{0, 0, 0} @Nat @Nat @Nat y2 N (nat_lit 9)); let y4 := (@PySem.Value.ref y3); let y5 := (@PySem.Str.mk (@Array.mk.{0} @Nat (@List.cons.{0} @Nat (nat_lit 95) (@List.cons.{0} @Nat (nat_lit 95) (@List.cons.{0} @Nat (nat_lit 115) (@List.cons.{0} @Nat (nat_lit 108) (@List.cons.{0} @Nat (nat_lit 111) (@List.cons.{0} @Nat (nat_lit 116) (@List.cons.{0} @Nat (nat_lit 115) (@List.cons.{0} @Nat (nat_lit 95) (@List.cons.{0} @Nat (nat_lit 95) (@List.nil.{0} @Nat)))))))))))); let y6 := (@PySem.Str.cps y5); let y7 := (@PySem.DictEntry.val (@PySem.nsLookByArray.match_1.{1} (fun (x8 : (@Option.{0} @PySem.DictEntry)) => @PySem.DictEntry) (@Option.none.{0} @PySem.DictEntry) (fun (x9 : @PySem.DictEntry) => (@PySem.DictEntry.mk (@PySem.DictEntry.hash x9) (@PySem.DictEntry.key x9) y4)) (fun (x10 : @Unit) => (@PySem.DictEntry.mk (@PySem.W.X.condFn.{1} @Int (@Array.isEmpty.{0} @Nat y6) (@OfNat.ofNat.{0} @Int (nat_lit 0) (@instOfNat (nat_lit 0))) (@PySem.W.ZFast.zw12210062019545310541 (@PySem.Params.strHash (@PySem.Setting.params (@PySem.Setting.mk (@PySem.W.OpenLaw.prog @PySem.Challenge.rw_op0061_01) (@PySem.World.params w))) y6))) (@PySem.Value.str y5 (@HAdd.hAdd.{0, 0, 0} @Nat @Nat @Nat y2 t (@HAdd.hAdd.{0, 0, 0} @Nat @Nat @Nat y2 (@HAdd.hAdd.{0, 0, 0} @Nat @Nat @Nat y2 (@HAdd.hAdd.{0, 0, 0} @Nat @Nat @Nat y2 (@HAdd.hAdd.{0, 0, 0} @Nat @Nat @Nat y2 (@HAdd.hAdd.{0, 0, 0} @Nat @Nat @Nat y2 (@HAdd.hAdd.{0, 0, 0} @Nat @Nat @Nat y2 (@HAdd.hAdd.{0, 0, 0} @Nat @Nat @Nat y2 (@HAdd.hAdd.{0, 0, 0} @Nat @Nat @Nat y2 (@HAdd.hAdd.{0, 0, 0} @Nat @Nat @Nat y2 (@HAdd.hAdd.{0, 0, 0} @Nat @Nat @Nat y2 (@HAdd.hAdd.{0, 0, 0} @Nat @Nat @Nat y2 (@HAdd.hAdd.{0, 0, 0} @Nat @Nat @Nat y2 (@HAdd.hAdd.{0, 0, 0} @Nat @Nat @Nat y2 (@HAdd.hAdd.{0, 0, 0} @Nat @Nat @Nat y2 (@HAdd.hAdd.{0, 0, 0} @Nat @Nat @Nat y2 (@HAdd.hAdd.{0, 0, 0} @Nat @Nat @Nat y2 (@OfNat.ofNat.{0} @Nat (nat_lit 0) (@instOfNatNat (nat_lit 0))) (nat_lit 1)) (nat_lit 1)) (nat_lit 1)) (nat_lit 1)) (nat_lit 1)) (nat_lit 1)) (nat_lit 1)) (nat_lit 1)) (nat_lit 1)) (nat_lit 1)) (nat_lit 1)) (nat_lit 1)) (nat_lit 1)) (nat_lit 1)) (nat_lit 1)) (nat_lit 1)))) y4)))); let y11 := ((x12 : @Unit) → (@PySem.Sem @PySem.Fin)); let y13 := (@HAdd.hAdd.{0, 0, 0} @Nat @Nat @Nat y2 N (nat_lit 58)); let y14 := (@PySem.Value.ref y13); let y15 := (@instBEqOfDecidableEq.{0} @PySem.Value @PySem.W.ZFast.zw7966671052430208091); let y16 := (@PySem.Obj.cls (@PySem.Obj.mk (@PySem.Value.type @PySem.W.SZ.s9222952809800978799x4) (@Option.none.{0} @PySem.Addr) (@PySem.Data.seq (@List.toArray.{0} @PySem.Value (@HAppend.hAppend.{0, 0, 0} (@List.{0} @PySem.Value) (@List.{0} @PySem.Value) (@List.{0} @PySem.Value) (@instHAppendOfAppend.{0} (@List.{0} @PySem.Value) (@PySem.W.ZFast.zw15056007747304108558.{0} @PySem.Value)) (@List.cons.{0} @PySem.Value (@PySem.Value.str (@PySem.Str.mk (@Array.mk.{0} @Nat (@List.cons.{0} @Nat (nat_lit 111) (@List.cons.{0} @Nat (nat_lit 98) (@List.cons.{0} @Nat (nat_lit 106) (@List.nil.{0} @Nat)))))) (@HAdd.hAdd.{0, 0, 0} @Nat @Nat @Nat y2 t (@HAdd.hAdd.{0, 0, 0} @Nat @Nat @Nat y2 (@HAdd.hAdd.{0, 0, 0} @Nat @Nat @Nat y2 (@HAdd.hAdd.{0, 0, 0} @Nat @Nat @Nat y2 (@HAdd.hAdd.{0, 0, 0} @Nat @Nat @Nat y2 (@HAdd.hAdd.{0, 0, 0} @Nat @Nat @Nat y2 (@HAdd.hAdd.{0, 0, 0} @Nat @Nat @Nat y2 (@HAdd.hAdd.{0, 0, 0} @Nat @Nat @Nat y2 (@HAdd.hAdd.{0, 0, 0} @Nat @Nat @Nat y2 (@HAdd.hAdd.{0, 0, 0} @Nat @Nat @Nat y2 (@HAdd.hAdd.{0, 0, 0} @Nat @Nat @Nat y2 (@HAdd.hAdd.{0, 0, 0} @Nat @Nat @Nat y2 (@HAdd.hAdd.{0, 0, 0} @Nat @Nat @Nat y2 (@HAdd.hAdd.{0, 0, 0} @Nat @Nat @Nat y2 (@HAdd.hAdd.{0, 0, 0} @Nat @Nat @Nat y2 (@HAdd.hAdd.{0, 0, 0} @Nat @Nat @Nat y2 (@OfNat.ofNat.{0} @Nat (nat_lit 0) (@instOfNatNat (nat_lit 0))) (nat_lit 1)) (nat_lit 1)) (nat_lit 1)) (nat_lit 1)) (nat_lit 1)) (nat_lit 1)) (nat_lit 1)) (nat_lit 1)) (nat_lit 1)) (nat_lit 1)) (nat_lit 1)) (nat_lit 1)) (nat_lit 1)) (nat_lit 1)) (nat_lit 1)))) (@List.nil.{0} @PySem.Value)) (@List.nil.{0} @PySem.Value))) (@OfNat.ofNat.{0} @Nat (nat_lit 0) (@instOfNatNat (nat_lit 0)))) (@List.toArray.{0} (@Option.{0} @PySem.Value) (@List.nil.{0} (@Option.{0} @PySem.Value))))); let y17 := (@Eq.{1} @PySem.Addr y13 y3); (@Bool.rec.{1} (fun (x18 : @Bool) => (@PySem.Sem @PySem.Fin)) (@Bind.bind.{0, 0} @PySem.Sem y1 @PySem.Value @PySem.Fin (@PySem.W.ZFast.zw8711993805878244202 y7) (fun (x19 : @PySem.Value) => (@Bind.bind.{0, 0} @PySem.Sem y1 @Bool @PySem.Fin (@PySem.W.ZFast.zw17359229931016689406 @Bool (@List.cons.{0} @PySem.Value x19 (@List.nil.{0} @PySem.Value)) (@PySem.W.ZFast.zw15112759502256325868 y7)) (fun (x20 : @Bool) => (let x22 : y11 := (fun (x21 : @Unit) => (@PySem.W.ZFast.zw12377390311714414960 (@PySem.Code.builtin @PySem.W.SZ.s9316426964554523096x16 (@PySem.Args.mk (@List.cons.{0} @PySem.Value y14 (@List.cons.{0} @PySem.Value x19 (@List.cons.{0} @PySem.Value y14 (@List.nil.{0} @PySem.Value)))) (@List.nil.{0} (@Prod.{0, 0} @PySem.Str @PySem.Value)))))); (@PySem.W.X.condFn.{1} (@PySem.Sem @PySem.Fin) (@Bool.or x20 (@PySem.W.R.anyR.{0} @String @PySem.W.ZFast.zw16271295295120926622 (fun (x23 : @String) => (@BEq.beq.{0} @PySem.Value y15 y16 (@PySem.Value.type x23))))) (@Bind.bind.{0, 0} @PySem.Sem y1 @Unit @PySem.Fin (@PySem.rule "list.extend.makes-room") (fun (x24 : @Unit) => (@Bind.bind.{0, 0} @PySem.Sem y1 @Unit @PySem.Fin (@PySem.W.ZFast.zw922294955767894045 y14) (fun (x25 : @Unit) => (x22 x25))))) (x22 @Unit.unit))))))) (@Bind.bind.{0, 0} @PySem.Sem y1 (@Array.{0} @PySem.Value) @PySem.Fin (@PySem.W.ZFast.zw10557518346328741659 y7) (fun (x26 : (@Array.{0} @PySem.Value)) => (@Bind.bind.{0, 0} @PySem.Sem y1 (@Array.{0} @PySem.Value) @PySem.Fin (@PySem.W.ZFast.zw10557518346328741659 y14) (fun (x27 : (@Array.{0} @PySem.Value)) => (let x31 : y11 := (fun (x28 : @Unit) => (@Bind.bind.{0, 0} @PySem.Sem y1 @Unit @PySem.Fin (@PySem.W.ZFast.zw2060155186595164805 y14 (fun (x29 : (@Array.{0} @PySem.Value)) => (@HAppend.hAppend.{0, 0, 0} (@Array.{0} @PySem.Value) (@Array.{0} @PySem.Value) (@Array.{0} @PySem.Value) (@instHAppendOfAppend.{0} (@Array.{0} @PySem.Value) (@PySem.W.ZFast.zw494991955013373658.{0} @PySem.Value)) x29 x26))) (fun (x30 : @Unit) => (@PySem.W.ZFast.zw6905046200447255374 y14)))); (@PySem.W.X.condFn.{1} (@PySem.Sem @PySem.Fin) (@Bool.and (@Bool.not (@Array.isEmpty.{0} @PySem.Value x27)) (@PySem.Builtin.List.listTooLong (@HAdd.hAdd.{0, 0, 0} @Nat @Nat @Nat y2 (@Array.size.{0} @PySem.Value x27) (@Array.size.{0} @PySem.Value x26)))) (@Bind.bind.{0, 0} @PySem.Sem y1 @Unit @PySem.Fin (@PySem.unsupported @Unit "list.extend:memory") (fun (x32 : @Unit) => (x31 x32))) (x31 @Unit.unit))))))) (@Bool.rec.{1} (fun (x33 : @Bool) => @Bool) (@BEq.beq.{0} @PySem.Value y15 y16 (@PySem.Value.type @PySem.W.SZ.s2766695959194262286x5)) @Bool.true (@Bool.rec.{1} (fun (x34 : @Bool) => @Bool) (@BEq.beq.{0} @PySem.Value y15 y16 (@PySem.Value.type @PySem.W.SZ.s9222952809800978799x4)) @Bool.true (@Decidable.rec.{1} y17 (fun (x35 : (@Decidable y17)) => @Bool) (fun (x36 : (@Not y17)) => @Bool.false) (fun (x37 : y17) => @Bool.true) d))))
noncomputable def dC3 (N : Nat) : Decidable (N + 60 = N + 60) := (.isTrue rfl)
noncomputable def cF3 (N : Nat) (w : World) (t : Nat) (d : Decidable (N + 60 = N + 60)) : Sem Fin := let y1 := (@Monad.toBind.{0, 0} @PySem.Sem @PySem.W.ZFast.zw12456147031677567982); let y2 := (@instHAdd.{0} @Nat @instAddNat); let y3 := (@HAdd.hAdd.{0, 0, 0} @Nat @Nat @Nat y2 N (nat_lit 60)); let y4 := (@PySem.Value.ref y3); let y5 := (@List.cons.{0} @PySem.Value (@PySem.Value.type @PySem.W.SZ.s2742458400755230247x6) (@List.nil.{0} @PySem.Value)); let y6 := (fun (x7 : (@Option.{0} @PySem.DictEntry)) => @PySem.DictEntry); let y8 := (@List.cons.{0} @Nat (nat_lit 95) (@List.cons.{0} @Nat (nat_lit 95) (@List.nil.{0} @Nat))); let y9 := (@List.cons.{0} @Nat (nat_lit 101) y8); let y10 := (@List.cons.{0} @Nat (nat_lit 110) (@List.cons.{0} @Nat (nat_lit 97) (@List.cons.{0} @Nat (nat_lit 109) y9))); let y11 := (@List.cons.{0} @Nat (nat_lit 95) y10); let y12 := (@PySem.Str.mk (@Array.mk.{0} @Nat (@List.cons.{0} @Nat (nat_lit 95) y11))); let y13 := (@PySem.DictEntry.val (@PySem.DictEntry.mk (@PySem.PyData.keyHash (@PySem.World.params w) y12) (@PySem.Value.str y12 (@OfNat.ofNat.{0} @Nat (nat_lit 165) (@instOfNatNat (nat_lit 165)))) (@PySem.Value.str (@PySem.Str.mk (@Array.mk.{0} @Nat (@List.cons.{0} @Nat (nat_lit 108) (@List.cons.{0} @Nat (nat_lit 97) (@List.cons.{0} @Nat (nat_lit 119) (@List.cons.{0} @Nat (nat_lit 95) (@List.cons.{0} @Nat (nat_lit 111) (@List.cons.{0} @Nat (nat_lit 112) (@List.cons.{0} @Nat (nat_lit 48) (@List.cons.{0} @Nat (nat_lit 48) (@List.cons.{0} @Nat (nat_lit 54) (@List.cons.{0} @Nat (nat_lit 49) (@List.cons.{0} @Nat (nat_lit 95) (@List.cons.{0} @Nat (nat_lit 48) (@List.cons.{0} @Nat (nat_lit 49) (@List.nil.{0} @Nat)))))))))))))))) (@OfNat.ofNat.{0} @Nat (nat_lit 271) (@instOfNatNat (nat_lit 271)))))); let y14 := (@List.cons.{0} @Nat (nat_lit 108) y9); let y15 := (@PySem.Str.mk (@Array.mk.{0} @Nat (@List.cons.{0} @Nat (nat_lit 95) (@List.cons.{0} @Nat (nat_lit 95) (@List.cons.{0} @Nat (nat_lit 109) (@List.cons.{0} @Nat (nat_lit 111) (@List.cons.{0} @Nat (nat_lit 100) (@List.cons.{0} @Nat (nat_lit 117) y14)))))))); let y16 := (@PySem.Str.cps y15); let y17 := (@OfNat.ofNat.{0} @Int (nat_lit 0) (@instOfNat (nat_lit 0))); let y18 := (@PySem.Setting.params (@PySem.Setting.mk (@PySem.W.OpenLaw.prog @PySem.Challenge.rw_op0061_01) (@PySem.World.params w))); let y19 := (@PySem.W.X.condFn.{1} @Int (@Array.isEmpty.{0} @Nat y16) y17 (@PySem.W.ZFast.zw12210062019545310541 (@PySem.Params.strHash y18 y16))); let y20 := (@List.cons.{0} @Nat (nat_lit 115) (@List.nil.{0} @Nat)); let y21 := (@PySem.Value.str (@PySem.Str.mk (@Array.mk.{0} @Nat (@List.cons.{0} @Nat (nat_lit 99) (@List.cons.{0} @Nat (nat_lit 112) (@List.cons.{0} @Nat (nat_lit 121) (@List.cons.{0} @Nat (nat_lit 51) (@List.cons.{0} @Nat (nat_lit 49) (@List.cons.{0} @Nat (nat_lit 51) (@List.cons.{0} @Nat (nat_lit 46) (@List.cons.{0} @Nat (nat_lit 102) (@List.cons.{0} @Nat (nat_lit 117) (@List.cons.{0} @Nat (nat_lit 110) (@List.cons.{0} @Nat (nat_lit 99) (@List.cons.{0} @Nat (nat_lit 116) (@List.cons.{0} @Nat (nat_lit 111) (@List.cons.{0} @Nat (nat_lit 111) (@List.cons.{0} @Nat (nat_lit 108) y20))))))))))))))))) (@HAdd.hAdd.{0, 0, 0} @Nat @Nat @Nat y2 t (@HAdd.hAdd.{0, 0, 0} @Nat @Nat @Nat y2 (@HAdd.hAdd.{0, 0, 0} @Nat @Nat @Nat y2 (@HAdd.hAdd.{0, 0, 0} @Nat @Nat @Nat y2 (@HAdd.hAdd.{0, 0, 0} @Nat @Nat @Nat y2 (@HAdd.hAdd.{0, 0, 0} @Nat @Nat @Nat y2 (@HAdd.hAdd.{0, 0, 0} @Nat @Nat @Nat y2 (@HAdd.hAdd.{0, 0, 0} @Nat @Nat @Nat y2 (@HAdd.hAdd.{0, 0, 0} @Nat @Nat @Nat y2 (@HAdd.hAdd.{0, 0, 0} @Nat @Nat @Nat y2 (@HAdd.hAdd.{0, 0, 0} @Nat @Nat @Nat y2 (@HAdd.hAdd.{0, 0, 0} @Nat @Nat @Nat y2 (@HAdd.hAdd.{0, 0, 0} @Nat @Nat @Nat y2 (@HAdd.hAdd.{0, 0, 0} @Nat @Nat @Nat y2 (@OfNat.ofNat.{0} @Nat (nat_lit 0) (@instOfNatNat (nat_lit 0))) (nat_lit 1)) (nat_lit 1)) (nat_lit 1)) (nat_lit 1)) (nat_lit 1)) (nat_lit 1)) (nat_lit 1)) (nat_lit 1)) (nat_lit 1)) (nat_lit 1)) (nat_lit 1)) (nat_lit 1)) (nat_lit 1)))); let y22 := (@Mine.fdO (@Mine.hz.zo_79 (@PySem.World.params w))); let y23 := (@PySem.FuncData.scope y22); let y24 := (@HAdd.hAdd.{0, 0, 0} @Nat @Nat @Nat y2 N (nat_lit 0)); let y25 := (@PySem.FuncData.globals y22); let y26 := (@List.cons.{0} (@Prod.{0, 0} @PySem.Str @PySem.Addr) (@Prod.mk.{0, 0} @PySem.Str @PySem.Addr (@PySem.Str.mk (@Array.mk.{0} @Nat (@List.cons.{0} @Nat (nat_lit 109) (@List.cons.{0} @Nat (nat_lit 121) (@List.cons.{0} @Nat (nat_lit 99) (@List.cons.{0} @Nat (nat_lit 109) (@List.cons.{0} @Nat (nat_lit 112) (@List.nil.{0} @Nat)))))))) (@HAdd.hAdd.{0, 0, 0} @Nat @Nat @Nat y2 N (nat_lit 1))) (@PySem.FuncData.closure y22)); let y27 := (@HAppend.hAppend.{0, 0, 0} @PySem.Str @PySem.Str @PySem.Str (@instHAppendOfAppend.{0} @PySem.Str @PySem.W.ZFast.zw178013285451222756) (@PySem.Str.mk (@Array.mk.{0} @Nat (@List.cons.{0} @Nat (nat_lit 99) (@List.cons.{0} @Nat (nat_lit 109) (@List.cons.{0} @Nat (nat_lit 112) (@List.cons.{0} @Nat (nat_lit 95) (@List.cons.{0} @Nat (nat_lit 116) (@List.cons.{0} @Nat (nat_lit 111) (@List.cons.{0} @Nat (nat_lit 95) (@List.cons.{0} @Nat (nat_lit 107) (@List.cons.{0} @Nat (nat_lit 101) (@List.cons.{0} @Nat (nat_lit 121) (@List.nil.{0} @Nat))))))))))))) (@PySem.Str.mk (@Array.mk.{0} @Nat (@List.cons.{0} @Nat (nat_lit 46) (@List.cons.{0} @Nat (nat_lit 60) (@List.cons.{0} @Nat (nat_lit 108) (@List.cons.{0} @Nat (nat_lit 111) (@List.cons.{0} @Nat (nat_lit 99) (@List.cons.{0} @Nat (nat_lit 97) (@List.cons.{0} @Nat (nat_lit 108) (@List.cons.{0} @Nat (nat_lit 115) (@List.cons.{0} @Nat (nat_lit 62) (@List.cons.{0} @Nat (nat_lit 46) (@List.nil.{0} @Nat)))))))))))))); let y28 := (@Option.some.{0} @PySem.Addr (@OfNat.ofNat.{0} @PySem.Addr (nat_lit 48) (@instOfNatNat (nat_lit 48)))); let y29 := (@PySem.newFunctionEnv.match_3.{1} (fun (x30 : (@Option.{0} @PySem.Env)) => @PySem.Env) (@Option.none.{0} @PySem.Env) (fun (x31 : @PySem.Env) => (@PySem.Env.mk y23 y24 y25 y26 y27 y28 (@PySem.Env.code x31) (@PySem.Env.frame x31) (@PySem.Env.builtins x31))) (fun (x32 : @Unit) => (@PySem.Env.mk y23 y24 y25 y26 y27 y28 (@PySem.FuncData.code y22) (@Option.some.{0} @PySem.Addr y24) (@PySem.FuncData.builtins y22)))); let y33 := (@PySem.Str.mk (@Array.mk.{0} @Nat (@List.cons.{0} @Nat (nat_lit 75) (@List.nil.{0} @Nat)))); let y34 := (@PySem.Value.str (@PySem.W.ZFast.zw17798618104000559429 y29 y33 y33) (@HAdd.hAdd.{0, 0, 0} @Nat @Nat @Nat y2 t (@HAdd.hAdd.{0, 0, 0} @Nat @Nat @Nat y2 (@HAdd.hAdd.{0, 0, 0} @Nat @Nat @Nat y2 (@HAdd.hAdd.{0, 0, 0} @Nat @Nat @Nat y2 (@HAdd.hAdd.{0, 0, 0} @Nat @Nat @Nat y2 (@HAdd.hAdd.{0, 0, 0} @Nat @Nat @Nat y2 (@HAdd.hAdd.{0, 0, 0} @Nat @Nat @Nat y2 (@HAdd.hAdd.{0, 0, 0} @Nat @Nat @Nat y2 (@HAdd.hAdd.{0, 0, 0} @Nat @Nat @Nat y2 (@HAdd.hAdd.{0, 0, 0} @Nat @Nat @Nat y2 (@OfNat.ofNat.{0} @Nat (nat_lit 0) (@instOfNatNat (nat_lit 0))) (nat_lit 1)) (nat_lit 1)) (nat_lit 1)) (nat_lit 1)) (nat_lit 1)) (nat_lit 1)) (nat_lit 1)) (nat_lit 1)) (nat_lit 1)))); let y35 := (@PySem.Str.mk (@Array.mk.{0} @Nat (@List.cons.{0} @Nat (nat_lit 95) (@List.cons.{0} @Nat (nat_lit 95) (@List.cons.{0} @Nat (nat_lit 113) (@List.cons.{0} @Nat (nat_lit 117) (@List.cons.{0} @Nat (nat_lit 97) (@List.cons.{0} @Nat (nat_lit 108) y10)))))))); let y36 := (@PySem.Str.cps y35); let y37 := (@PySem.Pos.mk (@OfNat.ofNat.{0} @Nat (nat_lit 22) (@instOfNatNat (nat_lit 22))) (@OfNat.ofNat.{0} @Nat (nat_lit 4) (@instOfNatNat (nat_lit 4))) (@OfNat.ofNat.{0} @Nat (nat_lit 43) (@instOfNatNat (nat_lit 43))) (@OfNat.ofNat.{0} @Nat (nat_lit 23) (@instOfNatNat (nat_lit 23)))); let y38 := (@PySem.Value.int (@Nat.cast.{0} @Int @instNatCastInt (@PySem.firstLineOf (@List.nil.{0} @PySem.Expr) y37)) (@HAdd.hAdd.{0, 0, 0} @Nat @Nat @Nat y2 t (@HAdd.hAdd.{0, 0, 0} @Nat @Nat @Nat y2 (@HAdd.hAdd.{0, 0, 0} @Nat @Nat @Nat y2 (@HAdd.hAdd.{0, 0, 0} @Nat @Nat @Nat y2 (@HAdd.hAdd.{0, 0, 0} @Nat @Nat @Nat y2 (@HAdd.hAdd.{0, 0, 0} @Nat @Nat @Nat y2 (@HAdd.hAdd.{0, 0, 0} @Nat @Nat @Nat y2 (@HAdd.hAdd.{0, 0, 0} @Nat @Nat @Nat y2 (@HAdd.hAdd.{0, 0, 0} @Nat @Nat @Nat y2 (@HAdd.hAdd.{0, 0, 0} @Nat @Nat @Nat y2 (@HAdd.hAdd.{0, 0, 0} @Nat @Nat @Nat y2 (@HAdd.hAdd.{0, 0, 0} @Nat @Nat @Nat y2 (@OfNat.ofNat.{0} @Nat (nat_lit 0) (@instOfNatNat (nat_lit 0))) (nat_lit 1)) (nat_lit 1)) (nat_lit 1)) (nat_lit 1)) (nat_lit 1)) (nat_lit 1)) (nat_lit 1)) (nat_lit 1)) (nat_lit 1)) (nat_lit 1)) (nat_lit 1)))); let y39 := (@PySem.Str.mk (@Array.mk.{0} @Nat (@List.cons.{0} @Nat (nat_lit 95) (@List.cons.{0} @Nat (nat_lit 95) (@List.cons.{0} @Nat (nat_lit 102) (@List.cons.{0} @Nat (nat_lit 105) (@List.cons.{0} @Nat (nat_lit 114) (@List.cons.{0} @Nat (nat_lit 115) (@List.cons.{0} @Nat (nat_lit 116) (@List.cons.{0} @Nat (nat_lit 108) (@List.cons.{0} @Nat (nat_lit 105) (@List.cons.{0} @Nat (nat_lit 110) (@List.cons.{0} @Nat (nat_lit 101) (@List.cons.{0} @Nat (nat_lit 110) (@List.cons.{0} @Nat (nat_lit 111) y8))))))))))))))); let y40 := (@PySem.Str.cps y39); let y41 := (@PySem.Value.ref (@HAdd.hAdd.{0, 0, 0} @Nat @Nat @Nat y2 N (nat_lit 9))); let y42 := (@List.cons.{0} @Nat (nat_lit 115) y8); let y43 := (@PySem.Str.mk (@Array.mk.{0} @Nat (@List.cons.{0} @Nat (nat_lit 95) (@List.cons.{0} @Nat (nat_lit 95) (@List.cons.{0} @Nat (nat_lit 115) (@List.cons.{0} @Nat (nat_lit 108) (@List.cons.{0} @Nat (nat_lit 111) (@List.cons.{0} @Nat (nat_lit 116) y42)))))))); let y44 := (@PySem.Str.cps y43); let y45 := (@PySem.Value.ref (@HAdd.hAdd.{0, 0, 0} @Nat @Nat @Nat y2 N (nat_lit 16))); let y46 := (@List.cons.{0} @Nat (nat_lit 116) y8); let y47 := (@PySem.Str.mk (@Array.mk.{0} @Nat (@List.cons.{0} @Nat (nat_lit 95) (@List.cons.{0} @Nat (nat_lit 95) (@List.cons.{0} @Nat (nat_lit 105) (@List.cons.{0} @Nat (nat_lit 110) (@List.cons.{0} @Nat (nat_lit 105) y46))))))); let y48 := (@PySem.Str.cps y47); let y49 := (@PySem.Value.ref (@HAdd.hAdd.{0, 0, 0} @Nat @Nat @Nat y2 N (nat_lit 24))); let y50 := (@PySem.Str.mk (@Array.mk.{0} @Nat (@List.cons.{0} @Nat (nat_lit 95) (@List.cons.{0} @Nat (nat_lit 95) (@List.cons.{0} @Nat (nat_lit 108) y46))))); let y51 := (@PySem.Str.cps y50); let y52 := (@PySem.Value.ref (@HAdd.hAdd.{0, 0, 0} @Nat @Nat @Nat y2 N (nat_lit 32))); let y53 := (@PySem.Str.mk (@Array.mk.{0} @Nat (@List.cons.{0} @Nat (nat_lit 95) (@List.cons.{0} @Nat (nat_lit 95) (@List.cons.{0} @Nat (nat_lit 103) y46))))); let y54 := (@PySem.Str.cps y53); let y55 := (@PySem.Value.ref (@HAdd.hAdd.{0, 0, 0} @Nat @Nat @Nat y2 N (nat_lit 40))); let y56 := (@PySem.Str.mk (@Array.mk.{0} @Nat (@List.cons.{0} @Nat (nat_lit 95) (@List.cons.{0} @Nat (nat_lit 95) (@List.cons.{0} @Nat (nat_lit 101) (@List.cons.{0} @Nat (nat_lit 113) y8)))))); let y57 := (@PySem.Str.cps y56); let y58 := (@PySem.Value.ref (@HAdd.hAdd.{0, 0, 0} @Nat @Nat @Nat y2 N (nat_lit 48))); let y59 := (@PySem.Str.mk (@Array.mk.{0} @Nat (@List.cons.{0} @Nat (nat_lit 95) (@List.cons.{0} @Nat (nat_lit 95) y14)))); let y60 := (@PySem.Str.cps y59); let y61 := (@PySem.Value.ref (@HAdd.hAdd.{0, 0, 0} @Nat @Nat @Nat y2 N (nat_lit 56))); let y62 := (@PySem.Str.mk (@Array.mk.{0} @Nat (@List.cons.{0} @Nat (nat_lit 95) (@List.cons.{0} @Nat (nat_lit 95) (@List.cons.{0} @Nat (nat_lit 103) y9))))); let y63 := (@PySem.Str.cps y62); let y64 := (@PySem.Str.mk (@Array.mk.{0} @Nat (@List.cons.{0} @Nat (nat_lit 95) (@List.cons.{0} @Nat (nat_lit 95) (@List.cons.{0} @Nat (nat_lit 104) (@List.cons.{0} @Nat (nat_lit 97) (@List.cons.{0} @Nat (nat_lit 115) (@List.cons.{0} @Nat (nat_lit 104) y8)))))))); let y65 := (@PySem.Str.cps y64); let y66 := (@PySem.Value.ref (@HAdd.hAdd.{0, 0, 0} @Nat @Nat @Nat y2 N (nat_lit 57))); let y67 := (@PySem.Str.mk (@Array.mk.{0} @Nat (@List.cons.{0} @Nat (nat_lit 95) (@List.cons.{0} @Nat (nat_lit 95) (@List.cons.{0} @Nat (nat_lit 115) (@List.cons.{0} @Nat (nat_lit 116) (@List.cons.{0} @Nat (nat_lit 97) (@List.cons.{0} @Nat (nat_lit 116) (@List.cons.{0} @Nat (nat_lit 105) (@List.cons.{0} @Nat (nat_lit 99) (@List.cons.{0} @Nat (nat_lit 95) (@List.cons.{0} @Nat (nat_lit 97) (@List.cons.{0} @Nat (nat_lit 116) (@List.cons.{0} @Nat (nat_lit 116) (@List.cons.{0} @Nat (nat_lit 114) (@List.cons.{0} @Nat (nat_lit 105) (@List.cons.{0} @Nat (nat_lit 98) (@List.cons.{0} @Nat (nat_lit 117) (@List.cons.{0} @Nat (nat_lit 116) (@List.cons.{0} @Nat (nat_lit 101) y42)))))))))))))))))))); let y68 := (@PySem.Str.cps y67); let y69 := (@List.toArray.{0} @PySem.DictEntry (@List.cons.{0} @PySem.DictEntry (@PySem.nsLookByArray.match_1.{1} y6 (@Option.some.{0} @PySem.DictEntry (@PySem.nsLookByArray.match_1.{1} y6 (@Option.none.{0} @PySem.DictEntry) (fun (x70 : @PySem.DictEntry) => (@PySem.DictEntry.mk (@PySem.DictEntry.hash x70) (@PySem.DictEntry.key x70) y13)) (fun (x71 : @Unit) => (@PySem.DictEntry.mk y19 (@PySem.Value.str y15 (@HAdd.hAdd.{0, 0, 0} @Nat @Nat @Nat y2 t (@HAdd.hAdd.{0, 0, 0} @Nat @Nat @Nat y2 (@HAdd.hAdd.{0, 0, 0} @Nat @Nat @Nat y2 (@HAdd.hAdd.{0, 0, 0} @Nat @Nat @Nat y2 (@HAdd.hAdd.{0, 0, 0} @Nat @Nat @Nat y2 (@HAdd.hAdd.{0, 0, 0} @Nat @Nat @Nat y2 (@HAdd.hAdd.{0, 0, 0} @Nat @Nat @Nat y2 (@HAdd.hAdd.{0, 0, 0} @Nat @Nat @Nat y2 (@HAdd.hAdd.{0, 0, 0} @Nat @Nat @Nat y2 (@OfNat.ofNat.{0} @Nat (nat_lit 0) (@instOfNatNat (nat_lit 0))) (nat_lit 1)) (nat_lit 1)) (nat_lit 1)) (nat_lit 1)) (nat_lit 1)) (nat_lit 1)) (nat_lit 1)) (nat_lit 1)))) y13)))) (fun (x72 : @PySem.DictEntry) => (@PySem.DictEntry.mk (@PySem.DictEntry.hash x72) (@PySem.DictEntry.key x72) y21)) (fun (x73 : @Unit) => (@PySem.DictEntry.mk y19 (@PySem.Value.str y15 (@HAdd.hAdd.{0, 0, 0} @Nat @Nat @Nat y2 t (@HAdd.hAdd.{0, 0, 0} @Nat @Nat @Nat y2 (@HAdd.hAdd.{0, 0, 0} @Nat @Nat @Nat y2 (@HAdd.hAdd.{0, 0, 0} @Nat @Nat @Nat y2 (@HAdd.hAdd.{0, 0, 0} @Nat @Nat @Nat y2 (@HAdd.hAdd.{0, 0, 0} @Nat @Nat @Nat y2 (@HAdd.hAdd.{0, 0, 0} @Nat @Nat @Nat y2 (@HAdd.hAdd.{0, 0, 0} @Nat @Nat @Nat y2 (@HAdd.hAdd.{0, 0, 0} @Nat @Nat @Nat y2 (@HAdd.hAdd.{0, 0, 0} @Nat @Nat @Nat y2 (@HAdd.hAdd.{0, 0, 0} @Nat @Nat @Nat y2 (@HAdd.hAdd.{0, 0, 0} @Nat @Nat @Nat y2 (@HAdd.hAdd.{0, 0, 0} @Nat @Nat @Nat y2 (@HAdd.hAdd.{0, 0, 0} @Nat @Nat @Nat y2 (@HAdd.hAdd.{0, 0, 0} @Nat @Nat @Nat y2 (@OfNat.ofNat.{0} @Nat (nat_lit 0) (@instOfNatNat (nat_lit 0))) (nat_lit 1)) (nat_lit 1)) (nat_lit 1)) (nat_lit 1)) (nat_lit 1)) (nat_lit 1)) (nat_lit 1)) (nat_lit 1)) (nat_lit 1)) (nat_lit 1)) (nat_lit 1)) (nat_lit 1)) (nat_lit 1)) (nat_lit 1)))) y21))) (@List.cons.{0} @PySem.DictEntry (@PySem.nsLookByArray.match_1.{1} y6 (@Option.none.{0} @PySem.DictEntry) (fun (x74 : @PySem.DictEntry) => (@PySem.DictEntry.mk (@PySem.DictEntry.hash x74) (@PySem.DictEntry.key x74) y34)) (fun (x75 : @Unit) => (@PySem.DictEntry.mk (@PySem.W.X.condFn.{1} @Int (@Array.isEmpty.{0} @Nat y36) y17 (@PySem.W.ZFast.zw12210062019545310541 (@PySem.Params.strHash y18 y36))) (@PySem.Value.str y35 (@HAdd.hAdd.{0, 0, 0} @Nat @Nat @Nat y2 t (@HAdd.hAdd.{0, 0, 0} @Nat @Nat @Nat y2 (@HAdd.hAdd.{0, 0, 0} @Nat @Nat @Nat y2 (@HAdd.hAdd.{0, 0, 0} @Nat @Nat @Nat y2 (@HAdd.hAdd.{0, 0, 0} @Nat @Nat @Nat y2 (@HAdd.hAdd.{0, 0, 0} @Nat @Nat @Nat y2 (@HAdd.hAdd.{0, 0, 0} @Nat @Nat @Nat y2 (@HAdd.hAdd.{0, 0, 0} @Nat @Nat @Nat y2 (@HAdd.hAdd.{0, 0, 0} @Nat @Nat @Nat y2 (@HAdd.hAdd.{0, 0, 0} @Nat @Nat @Nat y2 (@HAdd.hAdd.{0, 0, 0} @Nat @Nat @Nat y2 (@OfNat.ofNat.{0} @Nat (nat_lit 0) (@instOfNatNat (nat_lit 0))) (nat_lit 1)) (nat_lit 1)) (nat_lit 1)) (nat_lit 1)) (nat_lit 1)) (nat_lit 1)) (nat_lit 1)) (nat_lit 1)) (nat_lit 1)) (nat_lit 1)))) y34))) (@List.cons.{0} @PySem.DictEntry (@PySem.nsLookByArray.match_1.{1} y6 (@Option.none.{0} @PySem.DictEntry) (fun (x76 : @PySem.DictEntry) => (@PySem.DictEntry.mk (@PySem.DictEntry.hash x76) (@PySem.DictEntry.key x76) y38)) (fun (x77 : @Unit) => (@PySem.DictEntry.mk (@PySem.W.X.condFn.{1} @Int (@Array.isEmpty.{0} @Nat y40) y17 (@PySem.W.ZFast.zw12210062019545310541 (@PySem.Params.strHash y18 y40))) (@PySem.Value.str y39 (@HAdd.hAdd.{0, 0, 0} @Nat @Nat @Nat y2 t (@HAdd.hAdd.{0, 0, 0} @Nat @Nat @Nat y2 (@HAdd.hAdd.{0, 0, 0} @Nat @Nat @Nat y2 (@HAdd.hAdd.{0, 0, 0} @Nat @Nat @Nat y2 (@HAdd.hAdd.{0, 0, 0} @Nat @Nat @Nat y2 (@HAdd.hAdd.{0, 0, 0} @Nat @Nat @Nat y2 (@HAdd.hAdd.{0, 0, 0} @Nat @Nat @Nat y2 (@HAdd.hAdd.{0, 0, 0} @Nat @Nat @Nat y2 (@HAdd.hAdd.{0, 0, 0} @Nat @Nat @Nat y2 (@HAdd.hAdd.{0, 0, 0} @Nat @Nat @Nat y2 (@HAdd.hAdd.{0, 0, 0} @Nat @Nat @Nat y2 (@HAdd.hAdd.{0, 0, 0} @Nat @Nat @Nat y2 (@HAdd.hAdd.{0, 0, 0} @Nat @Nat @Nat y2 (@OfNat.ofNat.{0} @Nat (nat_lit 0) (@instOfNatNat (nat_lit 0))) (nat_lit 1)) (nat_lit 1)) (nat_lit 1)) (nat_lit 1)) (nat_lit 1)) (nat_lit 1)) (nat_lit 1)) (nat_lit 1)) (nat_lit 1)) (nat_lit 1)) (nat_lit 1)) (nat_lit 1)))) y38))) (@List.cons.{0} @PySem.DictEntry (@PySem.nsLookByArray.match_1.{1} y6 (@Option.none.{0} @PySem.DictEntry) (fun (x78 : @PySem.DictEntry) => (@PySem.DictEntry.mk (@PySem.DictEntry.hash x78) (@PySem.DictEntry.key x78) y41)) (fun (x79 : @Unit) => (@PySem.DictEntry.mk (@PySem.W.X.condFn.{1} @Int (@Array.isEmpty.{0} @Nat y44) y17 (@PySem.W.ZFast.zw12210062019545310541 (@PySem.Params.strHash y18 y44))) (@PySem.Value.str y43 (@HAdd.hAdd.{0, 0, 0} @Nat @Nat @Nat y2 t (@HAdd.hAdd.{0, 0, 0} @Nat @Nat @Nat y2 (@HAdd.hAdd.{0, 0, 0} @Nat @Nat @Nat y2 (@HAdd.hAdd.{0, 0, 0} @Nat @Nat @Nat y2 (@HAdd.hAdd.{0, 0, 0} @Nat @Nat @Nat y2 (@HAdd.hAdd.{0, 0, 0} @Nat @Nat @Nat y2 (@HAdd.hAdd.{0, 0, 0} @Nat @Nat @Nat y2 (@HAdd.hAdd.{0, 0, 0} @Nat @Nat @Nat y2 (@HAdd.hAdd.{0, 0, 0} @Nat @Nat @Nat y2 (@HAdd.hAdd.{0, 0, 0} @Nat @Nat @Nat y2 (@HAdd.hAdd.{0, 0, 0} @Nat @Nat @Nat y2 (@HAdd.hAdd.{0, 0, 0} @Nat @Nat @Nat y2 (@HAdd.hAdd.{0, 0, 0} @Nat @Nat @Nat y2 (@HAdd.hAdd.{0, 0, 0} @Nat @Nat @Nat y2 (@HAdd.hAdd.{0, 0, 0} @Nat @Nat @Nat y2 (@HAdd.hAdd.{0, 0, 0} @Nat @Nat @Nat y2 (@HAdd.hAdd.{0, 0, 0} @Nat @Nat @Nat y2 (@OfNat.ofNat.{0} @Nat (nat_lit 0) (@instOfNatNat (nat_lit 0))) (nat_lit 1)) (nat_lit 1)) (nat_lit 1)) (nat_lit 1)) (nat_lit 1)) (nat_lit 1)) (nat_lit 1)) (nat_lit 1)) (nat_lit 1)) (nat_lit 1)) (nat_lit 1)) (nat_lit 1)) (nat_lit 1)) (nat_lit 1)) (nat_lit 1)) (nat_lit 1)))) y41))) (@List.cons.{0} @PySem.DictEntry (@PySem.nsLookByArray.match_1.{1} y6 (@Option.none.{0} @PySem.DictEntry) (fun (x80 : @PySem.DictEntry) => (@PySem.DictEntry.mk (@PySem.DictEntry.hash x80) (@PySem.DictEntry.key x80) y45)) (fun (x81 : @Unit) => (@PySem.DictEntry.mk (@PySem.W.X.condFn.{1} @Int (@Array.isEmpty.{0} @Nat y48) y17 (@PySem.W.ZFast.zw12210062019545310541 (@PySem.Params.strHash y18 y48))) (@PySem.Value.str y47 (@HAdd.hAdd.{0, 0, 0} @Nat @Nat @Nat y2 t (@HAdd.hAdd.{0, 0, 0} @Nat @Nat @Nat y2 (@HAdd.hAdd.{0, 0, 0} @Nat @Nat @Nat y2 (@HAdd.hAdd.{0, 0, 0} @Nat @Nat @Nat y2 (@HAdd.hAdd.{0, 0, 0} @Nat @Nat @Nat y2 (@HAdd.hAdd.{0, 0, 0} @Nat @Nat @Nat y2 (@HAdd.hAdd.{0, 0, 0} @Nat @Nat @Nat y2 (@HAdd.hAdd.{0, 0, 0} @Nat @Nat @Nat y2 (@HAdd.hAdd.{0, 0, 0} @Nat @Nat @Nat y2 (@HAdd.hAdd.{0, 0, 0} @Nat @Nat @Nat y2 (@HAdd.hAdd.{0, 0, 0} @Nat @Nat @Nat y2 (@HAdd.hAdd.{0, 0, 0} @Nat @Nat @Nat y2 (@HAdd.hAdd.{0, 0, 0} @Nat @Nat @Nat y2 (@HAdd.hAdd.{0, 0, 0} @Nat @Nat @Nat y2 (@HAdd.hAdd.{0, 0, 0} @Nat @Nat @Nat y2 (@HAdd.hAdd.{0, 0, 0} @Nat @Nat @Nat y2 (@HAdd.hAdd.{0, 0, 0} @Nat @Nat @Nat y2 (@HAdd.hAdd.{0, 0, 0} @Nat @Nat @Nat y2 (@HAdd.hAdd.{0, 0, 0} @Nat @Nat @Nat y2 (@HAdd.hAdd.{0, 0, 0} @Nat @Nat @Nat y2 (@HAdd.hAdd.{0, 0, 0} @Nat @Nat @Nat y2 (@HAdd.hAdd.{0, 0, 0} @Nat @Nat @Nat y2 (@HAdd.hAdd.{0, 0, 0} @Nat @Nat @Nat y2 (@HAdd.hAdd.{0, 0, 0} @Nat @Nat @Nat y2 (@HAdd.hAdd.{0, 0, 0} @Nat @Nat @Nat y2 (@OfNat.ofNat.{0} @Nat (nat_lit 0) (@instOfNatNat (nat_lit 0))) (nat_lit 1)) (nat_lit 1)) (nat_lit 1)) (nat_lit 1)) (nat_lit 1)) (nat_lit 1)) (nat_lit 1)) (nat_lit 1)) (nat_lit 1)) (nat_lit 1)) (nat_lit 1)) (nat_lit 1)) (nat_lit 1)) (nat_lit 1)) (nat_lit 1)) (nat_lit 1)) (nat_lit 1)) (nat_lit 1)) (nat_lit 1)) (nat_lit 1)) (nat_lit 1)) (nat_lit 1)) (nat_lit 1)) (nat_lit 1)))) y45))) (@List.cons.{0} @PySem.DictEntry (@PySem.nsLookByArray.match_1.{1} y6 (@Option.none.{0} @PySem.DictEntry) (fun (x82 : @PySem.DictEntry) => (@PySem.DictEntry.mk (@PySem.DictEntry.hash x82) (@PySem.DictEntry.key x82) y49)) (fun (x83 : @Unit) => (@PySem.DictEntry.mk (@PySem.W.X.condFn.{1} @Int (@Array.isEmpty.{0} @Nat y51) y17 (@PySem.W.ZFast.zw12210062019545310541 (@PySem.Params.strHash y18 y51))) (@PySem.Value.str y50 (@HAdd.hAdd.{0, 0, 0} @Nat @Nat @Nat y2 t (@HAdd.hAdd.{0, 0, 0} @Nat @Nat @Nat y2 (@HAdd.hAdd.{0, 0, 0} @Nat @Nat @Nat y2 (@HAdd.hAdd.{0, 0, 0} @Nat @Nat @Nat y2 (@HAdd.hAdd.{0, 0, 0} @Nat @Nat @Nat y2 (@HAdd.hAdd.{0, 0, 0} @Nat @Nat @Nat y2 (@HAdd.hAdd.{0, 0, 0} @Nat @Nat @Nat y2 (@HAdd.hAdd.{0, 0, 0} @Nat @Nat @Nat y2 (@HAdd.hAdd.{0, 0, 0} @Nat @Nat @Nat y2 (@HAdd.hAdd.{0, 0, 0} @Nat @Nat @Nat y2 (@HAdd.hAdd.{0, 0, 0} @Nat @Nat @Nat y2 (@HAdd.hAdd.{0, 0, 0} @Nat @Nat @Nat y2 (@HAdd.hAdd.{0, 0, 0} @Nat @Nat @Nat y2 (@HAdd.hAdd.{0, 0, 0} @Nat @Nat @Nat y2 (@HAdd.hAdd.{0, 0, 0} @Nat @Nat @Nat y2 (@HAdd.hAdd.{0, 0, 0} @Nat @Nat @Nat y2 (@HAdd.hAdd.{0, 0, 0} @Nat @Nat @Nat y2 (@HAdd.hAdd.{0, 0, 0} @Nat @Nat @Nat y2 (@HAdd.hAdd.{0, 0, 0} @Nat @Nat @Nat y2 (@HAdd.hAdd.{0, 0, 0} @Nat @Nat @Nat y2 (@HAdd.hAdd.{0, 0, 0} @Nat @Nat @Nat y2 (@HAdd.hAdd.{0, 0, 0} @Nat @Nat @Nat y2 (@HAdd.hAdd.{0, 0, 0} @Nat @Nat @Nat y2 (@HAdd.hAdd.{0, 0, 0} @Nat @Nat @Nat y2 (@HAdd.hAdd.{0, 0, 0} @Nat @Nat @Nat y2 (@HAdd.hAdd.{0, 0, 0} @Nat @Nat @Nat y2 (@HAdd.hAdd.{0, 0, 0} @Nat @Nat @Nat y2 (@HAdd.hAdd.{0, 0, 0} @Nat @Nat @Nat y2 (@HAdd.hAdd.{0, 0, 0} @Nat @Nat @Nat y2 (@HAdd.hAdd.{0, 0, 0} @Nat @Nat @Nat y2 (@HAdd.hAdd.{0, 0, 0} @Nat @Nat @Nat y2 (@HAdd.hAdd.{0, 0, 0} @Nat @Nat @Nat y2 (@HAdd.hAdd.{0, 0, 0} @Nat @Nat @Nat y2 (@HAdd.hAdd.{0, 0, 0} @Nat @Nat @Nat y2 (@OfNat.ofNat.{0} @Nat (nat_lit 0) (@instOfNatNat (nat_lit 0))) (nat_lit 1)) (nat_lit 1)) (nat_lit 1)) (nat_lit 1)) (nat_lit 1)) (nat_lit 1)) (nat_lit 1)) (nat_lit 1)) (nat_lit 1)) (nat_lit 1)) (nat_lit 1)) (nat_lit 1)) (nat_lit 1)) (nat_lit 1)) (nat_lit 1)) (nat_lit 1)) (nat_lit 1)) (nat_lit 1)) (nat_lit 1)) (nat_lit 1)) (nat_lit 1)) (nat_lit 1)) (nat_lit 1)) (nat_lit 1)) (nat_lit 1)) (nat_lit 1)) (nat_lit 1)) (nat_lit 1)) (nat_lit 1)) (nat_lit 1)) (nat_lit 1)) (nat_lit 1)) (nat_lit 1)))) y49))) (@List.cons.{0} @PySem.DictEntry (@PySem.nsLookByArray.match_1.{1} y6 (@Option.none.{0} @PySem.DictEntry) (fun (x84 : @PySem.DictEntry) => (@PySem.DictEntry.mk (@PySem.DictEntry.hash x84) (@PySem.DictEntry.key x84) y52)) (fun (x85 : @Unit) => (@PySem.DictEntry.mk (@PySem.W.X.condFn.{1} @Int (@Array.isEmpty.{0} @Nat y54) y17 (@PySem.W.ZFast.zw12210062019545310541 (@PySem.Params.strHash y18 y54))) (@PySem.Value.str y53 (@HAdd.hAdd.{0, 0, 0} @Nat @Nat @Nat y2 t (@HAdd.hAdd.{0, 0, 0} @Nat @Nat @Nat y2 (@HAdd.hAdd.{0, 0, 0} @Nat @Nat @Nat y2 (@HAdd.hAdd.{0, 0, 0} @Nat @Nat @Nat y2 (@HAdd.hAdd.{0, 0, 0} @Nat @Nat @Nat y2 (@HAdd.hAdd.{0, 0, 0} @Nat @Nat @Nat y2 (@HAdd.hAdd.{0, 0, 0} @Nat @Nat @Nat y2 (@HAdd.hAdd.{0, 0, 0} @Nat @Nat @Nat y2 (@HAdd.hAdd.{0, 0, 0} @Nat @Nat @Nat y2 (@HAdd.hAdd.{0, 0, 0} @Nat @Nat @Nat y2 (@HAdd.hAdd.{0, 0, 0} @Nat @Nat @Nat y2 (@HAdd.hAdd.{0, 0, 0} @Nat @Nat @Nat y2 (@HAdd.hAdd.{0, 0, 0} @Nat @Nat @Nat y2 (@HAdd.hAdd.{0, 0, 0} @Nat @Nat @Nat y2 (@HAdd.hAdd.{0, 0, 0} @Nat @Nat @Nat y2 (@HAdd.hAdd.{0, 0, 0} @Nat @Nat @Nat y2 (@HAdd.hAdd.{0, 0, 0} @Nat @Nat @Nat y2 (@HAdd.hAdd.{0, 0, 0} @Nat @Nat @Nat y2 (@HAdd.hAdd.{0, 0, 0} @Nat @Nat @Nat y2 (@HAdd.hAdd.{0, 0, 0} @Nat @Nat @Nat y2 (@HAdd.hAdd.{0, 0, 0} @Nat @Nat @Nat y2 (@HAdd.hAdd.{0, 0, 0} @Nat @Nat @Nat y2 (@HAdd.hAdd.{0, 0, 0} @Nat @Nat @Nat y2 (@HAdd.hAdd.{0, 0, 0} @Nat @Nat @Nat y2 (@HAdd.hAdd.{0, 0, 0} @Nat @Nat @Nat y2 (@HAdd.hAdd.{0, 0, 0} @Nat @Nat @Nat y2 (@HAdd.hAdd.{0, 0, 0} @Nat @Nat @Nat y2 (@HAdd.hAdd.{0, 0, 0} @Nat @Nat @Nat y2 (@HAdd.hAdd.{0, 0, 0} @Nat @Nat @Nat y2 (@HAdd.hAdd.{0, 0, 0} @Nat @Nat @Nat y2 (@HAdd.hAdd.{0, 0, 0} @Nat @Nat @Nat y2 (@HAdd.hAdd.{0, 0, 0} @Nat @Nat @Nat y2 (@HAdd.hAdd.{0, 0, 0} @Nat @Nat @Nat y2 (@HAdd.hAdd.{0, 0, 0} @Nat @Nat @Nat y2 (@HAdd.hAdd.{0, 0, 0} @Nat @Nat @Nat y2 (@HAdd.hAdd.{0, 0, 0} @Nat @Nat @Nat y2 (@HAdd.hAdd.{0, 0, 0} @Nat @Nat @Nat y2 (@HAdd.hAdd.{0, 0, 0} @Nat @Nat @Nat y2 (@HAdd.hAdd.{0, 0, 0} @Nat @Nat @Nat y2 (@HAdd.hAdd.{0, 0, 0} @Nat @Nat @Nat y2 (@HAdd.hAdd.{0, 0, 0} @Nat @Nat @Nat y2 (@HAdd.hAdd.{0, 0, 0} @Nat @Nat @Nat y2 (@HAdd.hAdd.{0, 0, 0} @Nat @Nat @Nat y2 (@OfNat.ofNat.{0} @Nat (nat_lit 0) (@instOfNatNat (nat_lit 0))) (nat_lit 1)) (nat_lit 1)) (nat_lit 1)) (nat_lit 1)) (nat_lit 1)) (nat_lit 1)) (nat_lit 1)) (nat_lit 1)) (nat_lit 1)) (nat_lit 1)) (nat_lit 1)) (nat_lit 1)) (nat_lit 1)) (nat_lit 1)) (nat_lit 1)) (nat_lit 1)) (nat_lit 1)) (nat_lit 1)) (nat_lit 1)) (nat_lit 1)) (nat_lit 1)) (nat_lit 1)) (nat_lit 1)) (nat_lit 1)) (nat_lit 1)) (nat_lit 1)) (nat_lit 1)) (nat_lit 1)) (nat_lit 1)) (nat_lit 1)) (nat_lit 1)) (nat_lit 1)) (nat_lit 1)) (nat_lit 1)) (nat_lit 1)) (nat_lit 1)) (nat_lit 1)) (nat_lit 1)) (nat_lit 1)) (nat_lit 1)) (nat_lit 1)) (nat_lit 1)))) y52))) (@List.cons.{0} @PySem.DictEntry (@PySem.nsLookByArray.match_1.{1} y6 (@Option.none.{0} @PySem.DictEntry) (fun (x86 : @PySem.DictEntry) => (@PySem.DictEntry.mk (@PySem.DictEntry.hash x86) (@PySem.DictEntry.key x86) y55)) (fun (x87 : @Unit) => (@PySem.DictEntry.mk (@PySem.W.X.condFn.{1} @Int (@Array.isEmpty.{0} @Nat y57) y17 (@PySem.W.ZFast.zw12210062019545310541 (@PySem.Params.strHash y18 y57))) (@PySem.Value.str y56 (@HAdd.hAdd.{0, 0, 0} @Nat @Nat @Nat y2 t (@HAdd.hAdd.{0, 0, 0} @Nat @Nat @Nat y2 (@HAdd.hAdd.{0, 0, 0} @Nat @Nat @Nat y2 (@HAdd.hAdd.{0, 0, 0} @Nat @Nat @Nat y2 (@HAdd.hAdd.{0, 0, 0} @Nat @Nat @Nat y2 (@HAdd.hAdd.{0, 0, 0} @Nat @Nat @Nat y2 (@HAdd.hAdd.{0, 0, 0} @Nat @Nat @Nat y2 (@HAdd.hAdd.{0, 0, 0} @Nat @Nat @Nat y2 (@HAdd.hAdd.{0, 0, 0} @Nat @Nat @Nat y2 (@HAdd.hAdd.{0, 0, 0} @Nat @Nat @Nat y2 (@HAdd.hAdd.{0, 0, 0} @Nat @Nat @Nat y2 (@HAdd.hAdd.{0, 0, 0} @Nat @Nat @Nat y2 (@HAdd.hAdd.{0, 0, 0} @Nat @Nat @Nat y2 (@HAdd.hAdd.{0, 0, 0} @Nat @Nat @Nat y2 (@HAdd.hAdd.{0, 0, 0} @Nat @Nat @Nat y2 (@HAdd.hAdd.{0, 0, 0} @Nat @Nat @Nat y2 (@HAdd.hAdd.{0, 0, 0} @Nat @Nat @Nat y2 (@HAdd.hAdd.{0, 0, 0} @Nat @Nat @Nat y2 (@HAdd.hAdd.{0, 0, 0} @Nat @Nat @Nat y2 (@HAdd.hAdd.{0, 0, 0} @Nat @Nat @Nat y2 (@HAdd.hAdd.{0, 0, 0} @Nat @Nat @Nat y2 (@HAdd.hAdd.{0, 0, 0} @Nat @Nat @Nat y2 (@HAdd.hAdd.{0, 0, 0} @Nat @Nat @Nat y2 (@HAdd.hAdd.{0, 0, 0} @Nat @Nat @Nat y2 (@HAdd.hAdd.{0, 0, 0} @Nat @Nat @Nat y2 (@HAdd.hAdd.{0, 0, 0} @Nat @Nat @Nat y2 (@HAdd.hAdd.{0, 0, 0} @Nat @Nat @Nat y2 (@HAdd.hAdd.{0, 0, 0} @Nat @Nat @Nat y2 (@HAdd.hAdd.{0, 0, 0} @Nat @Nat @Nat y2 (@HAdd.hAdd.{0, 0, 0} @Nat @Nat @Nat y2 (@HAdd.hAdd.{0, 0, 0} @Nat @Nat @Nat y2 (@HAdd.hAdd.{0, 0, 0} @Nat @Nat @Nat y2 (@HAdd.hAdd.{0, 0, 0} @Nat @Nat @Nat y2 (@HAdd.hAdd.{0, 0, 0} @Nat @Nat @Nat y2 (@HAdd.hAdd.{0, 0, 0} @Nat @Nat @Nat y2 (@HAdd.hAdd.{0, 0, 0} @Nat @Nat @Nat y2 (@HAdd.hAdd.{0, 0, 0} @Nat @Nat @Nat y2 (@HAdd.hAdd.{0, 0, 0} @Nat @Nat @Nat y2 (@HAdd.hAdd.{0, 0, 0} @Nat @Nat @Nat y2 (@HAdd.hAdd.{0, 0, 0} @Nat @Nat @Nat y2 (@HAdd.hAdd.{0, 0, 0} @Nat @Nat @Nat y2 (@HAdd.hAdd.{0, 0, 0} @Nat @Nat @Nat y2 (@HAdd.hAdd.{0, 0, 0} @Nat @Nat @Nat y2 (@HAdd.hAdd.{0, 0, 0} @Nat @Nat @Nat y2 (@HAdd.hAdd.{0, 0, 0} @Nat @Nat @Nat y2 (@HAdd.hAdd.{0, 0, 0} @Nat @Nat @Nat y2 (@HAdd.hAdd.{0, 0, 0} @Nat @Nat @Nat y2 (@HAdd.hAdd.{0, 0, 0} @Nat @Nat @Nat y2 (@HAdd.hAdd.{0, 0, 0} @Nat @Nat @Nat y2 (@HAdd.hAdd.{0, 0, 0} @Nat @Nat @Nat y2 (@HAdd.hAdd.{0, 0, 0} @Nat @Nat @Nat y2 (@HAdd.hAdd.{0, 0, 0} @Nat @Nat @Nat y2 (@OfNat.ofNat.{0} @Nat (nat_lit 0) (@instOfNatNat (nat_lit 0))) (nat_lit 1)) (nat_lit 1)) (nat_lit 1)) (nat_lit 1)) (nat_lit 1)) (nat_lit 1)) (nat_lit 1)) (nat_lit 1)) (nat_lit 1)) (nat_lit 1)) (nat_lit 1)) (nat_lit 1)) (nat_lit 1)) (nat_lit 1)) (nat_lit 1)) (nat_lit 1)) (nat_lit 1)) (nat_lit 1)) (nat_lit 1)) (nat_lit 1)) (nat_lit 1)) (nat_lit 1)) (nat_lit 1)) (nat_lit 1)) (nat_lit 1)) (nat_lit 1)) (nat_lit 1)) (nat_lit 1)) (nat_lit 1)) (nat_lit 1)) (nat_lit 1)) (nat_lit 1)) (nat_lit 1)) (nat_lit 1)) (nat_lit 1)) (nat_lit 1)) (nat_lit 1)) (nat_lit 1)) (nat_lit 1)) (nat_lit 1)) (nat_lit 1)) (nat_lit 1)) (nat_lit 1)) (nat_lit 1)) (nat_lit 1)) (nat_lit 1)) (nat_lit 1)) (nat_lit 1)) (nat_lit 1)) (nat_lit 1)) (nat_lit 1)))) y55))) (@List.cons.{0} @PySem.DictEntry (@PySem.nsLookByArray.match_1.{1} y6 (@Option.none.{0} @PySem.DictEntry) (fun (x88 : @PySem.DictEntry) => (@PySem.DictEntry.mk (@PySem.DictEntry.hash x88) (@PySem.DictEntry.key x88) y58)) (fun (x89 : @Unit) => (@PySem.DictEntry.mk (@PySem.W.X.condFn.{1} @Int (@Array.isEmpty.{0} @Nat y60) y17 (@PySem.W.ZFast.zw12210062019545310541 (@PySem.Params.strHash y18 y60))) (@PySem.Value.str y59 (@HAdd.hAdd.{0, 0, 0} @Nat @Nat @Nat y2 t (@HAdd.hAdd.{0, 0, 0} @Nat @Nat @Nat y2 (@HAdd.hAdd.{0, 0, 0} @Nat @Nat @Nat y2 (@HAdd.hAdd.{0, 0, 0} @Nat @Nat @Nat y2 (@HAdd.hAdd.{0, 0, 0} @Nat @Nat @Nat y2 (@HAdd.hAdd.{0, 0, 0} @Nat @Nat @Nat y2 (@HAdd.hAdd.{0, 0, 0} @Nat @Nat @Nat y2 (@HAdd.hAdd.{0, 0, 0} @Nat @Nat @Nat y2 (@HAdd.hAdd.{0, 0, 0} @Nat @Nat @Nat y2 (@HAdd.hAdd.{0, 0, 0} @Nat @Nat @Nat y2 (@HAdd.hAdd.{0, 0, 0} @Nat @Nat @Nat y2 (@HAdd.hAdd.{0, 0, 0} @Nat @Nat @Nat y2 (@HAdd.hAdd.{0, 0, 0} @Nat @Nat @Nat y2 (@HAdd.hAdd.{0, 0, 0} @Nat @Nat @Nat y2 (@HAdd.hAdd.{0, 0, 0} @Nat @Nat @Nat y2 (@HAdd.hAdd.{0, 0, 0} @Nat @Nat @Nat y2 (@HAdd.hAdd.{0, 0, 0} @Nat @Nat @Nat y2 (@HAdd.hAdd.{0, 0, 0} @Nat @Nat @Nat y2 (@HAdd.hAdd.{0, 0, 0} @Nat @Nat @Nat y2 (@HAdd.hAdd.{0, 0, 0} @Nat @Nat @Nat y2 (@HAdd.hAdd.{0, 0, 0} @Nat @Nat @Nat y2 (@HAdd.hAdd.{0, 0, 0} @Nat @Nat @Nat y2 (@HAdd.hAdd.{0, 0, 0} @Nat @Nat @Nat y2 (@HAdd.hAdd.{0, 0, 0} @Nat @Nat @Nat y2 (@HAdd.hAdd.{0, 0, 0} @Nat @Nat @Nat y2 (@HAdd.hAdd.{0, 0, 0} @Nat @Nat @Nat y2 (@HAdd.hAdd.{0, 0, 0} @Nat @Nat @Nat y2 (@HAdd.hAdd.{0, 0, 0} @Nat @Nat @Nat y2 (@HAdd.hAdd.{0, 0, 0} @Nat @Nat @Nat y2 (@HAdd.hAdd.{0, 0, 0} @Nat @Nat @Nat y2 (@HAdd.hAdd.{0, 0, 0} @Nat @Nat @Nat y2 (@HAdd.hAdd.{0, 0, 0} @Nat @Nat @Nat y2 (@HAdd.hAdd.{0, 0, 0} @Nat @Nat @Nat y2 (@HAdd.hAdd.{0, 0, 0} @Nat @Nat @Nat y2 (@HAdd.hAdd.{0, 0, 0} @Nat @Nat @Nat y2 (@HAdd.hAdd.{0, 0, 0} @Nat @Nat @Nat y2 (@HAdd.hAdd.{0, 0, 0} @Nat @Nat @Nat y2 (@HAdd.hAdd.{0, 0, 0} @Nat @Nat @Nat y2 (@HAdd.hAdd.{0, 0, 0} @Nat @Nat @Nat y2 (@HAdd.hAdd.{0, 0, 0} @Nat @Nat @Nat y2 (@HAdd.hAdd.{0, 0, 0} @Nat @Nat @Nat y2 (@HAdd.hAdd.{0, 0, 0} @Nat @Nat @Nat y2 (@HAdd.hAdd.{0, 0, 0} @Nat @Nat @Nat y2 (@HAdd.hAdd.{0, 0, 0} @Nat @Nat @Nat y2 (@HAdd.hAdd.{0, 0, 0} @Nat @Nat @Nat y2 (@HAdd.hAdd.{0, 0, 0} @Nat @Nat @Nat y2 (@HAdd.hAdd.{0, 0, 0} @Nat @Nat @Nat y2 (@HAdd.hAdd.{0, 0, 0} @Nat @Nat @Nat y2 (@HAdd.hAdd.{0, 0, 0} @Nat @Nat @Nat y2 (@HAdd.hAdd.{0, 0, 0} @Nat @Nat @Nat y2 (@HAdd.hAdd.{0, 0, 0} @Nat @Nat @Nat y2 (@HAdd.hAdd.{0, 0, 0} @Nat @Nat @Nat y2 (@HAdd.hAdd.{0, 0, 0} @Nat @Nat @Nat y2 (@HAdd.hAdd.{0, 0, 0} @Nat @Nat @Nat y2 (@HAdd.hAdd.{0, 0, 0} @Nat @Nat @Nat y2 (@HAdd.hAdd.{0, 0, 0} @Nat @Nat @Nat y2 (@HAdd.hAdd.{0, 0, 0} @Nat @Nat @Nat y2 (@HAdd.hAdd.{0, 0, 0} @Nat @Nat @Nat y2 (@HAdd.hAdd.{0, 0, 0} @Nat @Nat @Nat y2 (@HAdd.hAdd.{0, 0, 0} @Nat @Nat @Nat y2 (@HAdd.hAdd.{0, 0, 0} @Nat @Nat @Nat y2 (@OfNat.ofNat.{0} @Nat (nat_lit 0) (@instOfNatNat (nat_lit 0))) (nat_lit 1)) (nat_lit 1)) (nat_lit 1)) (nat_lit 1)) (nat_lit 1)) (nat_lit 1)) (nat_lit 1)) (nat_lit 1)) (nat_lit 1)) (nat_lit 1)) (nat_lit 1)) (nat_lit 1)) (nat_lit 1)) (nat_lit 1)) (nat_lit 1)) (nat_lit 1)) (nat_lit 1)) (nat_lit 1)) (nat_lit 1)) (nat_lit 1)) (nat_lit 1)) (nat_lit 1)) (nat_lit 1)) (nat_lit 1)) (nat_lit 1)) (nat_lit 1)) (nat_lit 1)) (nat_lit 1)) (nat_lit 1)) (nat_lit 1)) (nat_lit 1)) (nat_lit 1)) (nat_lit 1)) (nat_lit 1)) (nat_lit 1)) (nat_lit 1)) (nat_lit 1)) (nat_lit 1)) (nat_lit 1)) (nat_lit 1)) (nat_lit 1)) (nat_lit 1)) (nat_lit 1)) (nat_lit 1)) (nat_lit 1)) (nat_lit 1)) (nat_lit 1)) (nat_lit 1)) (nat_lit 1)) (nat_lit 1)) (nat_lit 1)) (nat_lit 1)) (nat_lit 1)) (nat_lit 1)) (nat_lit 1)) (nat_lit 1)) (nat_lit 1)) (nat_lit 1)) (nat_lit 1)) (nat_lit 1)))) y58))) (@List.cons.{0} @PySem.DictEntry (@PySem.nsLookByArray.match_1.{1} y6 (@Option.none.{0} @PySem.DictEntry) (fun (x90 : @PySem.DictEntry) => (@PySem.DictEntry.mk (@PySem.DictEntry.hash x90) (@PySem.DictEntry.key x90) y61)) (fun (x91 : @Unit) => (@PySem.DictEntry.mk (@PySem.W.X.condFn.{1} @Int (@Array.isEmpty.{0} @Nat y63) y17 (@PySem.W.ZFast.zw12210062019545310541 (@PySem.Params.strHash y18 y63))) (@PySem.Value.str y62 (@HAdd.hAdd.{0, 0, 0} @Nat @Nat @Nat y2 t (@HAdd.hAdd.{0, 0, 0} @Nat @Nat @Nat y2 (@HAdd.hAdd.{0, 0, 0} @Nat @Nat @Nat y2 (@HAdd.hAdd.{0, 0, 0} @Nat @Nat @Nat y2 (@HAdd.hAdd.{0, 0, 0} @Nat @Nat @Nat y2 (@HAdd.hAdd.{0, 0, 0} @Nat @Nat @Nat y2 (@HAdd.hAdd.{0, 0, 0} @Nat @Nat @Nat y2 (@HAdd.hAdd.{0, 0, 0} @Nat @Nat @Nat y2 (@HAdd.hAdd.{0, 0, 0} @Nat @Nat @Nat y2 (@HAdd.hAdd.{0, 0, 0} @Nat @Nat @Nat y2 (@HAdd.hAdd.{0, 0, 0} @Nat @Nat @Nat y2 (@HAdd.hAdd.{0, 0, 0} @Nat @Nat @Nat y2 (@HAdd.hAdd.{0, 0, 0} @Nat @Nat @Nat y2 (@HAdd.hAdd.{0, 0, 0} @Nat @Nat @Nat y2 (@HAdd.hAdd.{0, 0, 0} @Nat @Nat @Nat y2 (@HAdd.hAdd.{0, 0, 0} @Nat @Nat @Nat y2 (@HAdd.hAdd.{0, 0, 0} @Nat @Nat @Nat y2 (@HAdd.hAdd.{0, 0, 0} @Nat @Nat @Nat y2 (@HAdd.hAdd.{0, 0, 0} @Nat @Nat @Nat y2 (@HAdd.hAdd.{0, 0, 0} @Nat @Nat @Nat y2 (@HAdd.hAdd.{0, 0, 0} @Nat @Nat @Nat y2 (@HAdd.hAdd.{0, 0, 0} @Nat @Nat @Nat y2 (@HAdd.hAdd.{0, 0, 0} @Nat @Nat @Nat y2 (@HAdd.hAdd.{0, 0, 0} @Nat @Nat @Nat y2 (@HAdd.hAdd.{0, 0, 0} @Nat @Nat @Nat y2 (@HAdd.hAdd.{0, 0, 0} @Nat @Nat @Nat y2 (@HAdd.hAdd.{0, 0, 0} @Nat @Nat @Nat y2 (@HAdd.hAdd.{0, 0, 0} @Nat @Nat @Nat y2 (@HAdd.hAdd.{0, 0, 0} @Nat @Nat @Nat y2 (@HAdd.hAdd.{0, 0, 0} @Nat @Nat @Nat y2 (@HAdd.hAdd.{0, 0, 0} @Nat @Nat @Nat y2 (@HAdd.hAdd.{0, 0, 0} @Nat @Nat @Nat y2 (@HAdd.hAdd.{0, 0, 0} @Nat @Nat @Nat y2 (@HAdd.hAdd.{0, 0, 0} @Nat @Nat @Nat y2 (@HAdd.hAdd.{0, 0, 0} @Nat @Nat @Nat y2 (@HAdd.hAdd.{0, 0, 0} @Nat @Nat @Nat y2 (@HAdd.hAdd.{0, 0, 0} @Nat @Nat @Nat y2 (@HAdd.hAdd.{0, 0, 0} @Nat @Nat @Nat y2 (@HAdd.hAdd.{0, 0, 0} @Nat @Nat @Nat y2 (@HAdd.hAdd.{0, 0, 0} @Nat @Nat @Nat y2 (@HAdd.hAdd.{0, 0, 0} @Nat @Nat @Nat y2 (@HAdd.hAdd.{0, 0, 0} @Nat @Nat @Nat y2 (@HAdd.hAdd.{0, 0, 0} @Nat @Nat @Nat y2 (@HAdd.hAdd.{0, 0, 0} @Nat @Nat @Nat y2 (@HAdd.hAdd.{0, 0, 0} @Nat @Nat @Nat y2 (@HAdd.hAdd.{0, 0, 0} @Nat @Nat @Nat y2 (@HAdd.hAdd.{0, 0, 0} @Nat @Nat @Nat y2 (@HAdd.hAdd.{0, 0, 0} @Nat @Nat @Nat y2 (@HAdd.hAdd.{0, 0, 0} @Nat @Nat @Nat y2 (@HAdd.hAdd.{0, 0, 0} @Nat @Nat @Nat y2 (@HAdd.hAdd.{0, 0, 0} @Nat @Nat @Nat y2 (@HAdd.hAdd.{0, 0, 0} @Nat @Nat @Nat y2 (@HAdd.hAdd.{0, 0, 0} @Nat @Nat @Nat y2 (@HAdd.hAdd.{0, 0, 0} @Nat @Nat @Nat y2 (@HAdd.hAdd.{0, 0, 0} @Nat @Nat @Nat y2 (@HAdd.hAdd.{0, 0, 0} @Nat @Nat @Nat y2 (@HAdd.hAdd.{0, 0, 0} @Nat @Nat @Nat y2 (@HAdd.hAdd.{0, 0, 0} @Nat @Nat @Nat y2 (@HAdd.hAdd.{0, 0, 0} @Nat @Nat @Nat y2 (@HAdd.hAdd.{0, 0, 0} @Nat @Nat @Nat y2 (@HAdd.hAdd.{0, 0, 0} @Nat @Nat @Nat y2 (@HAdd.hAdd.{0, 0, 0} @Nat @Nat @Nat y2 (@HAdd.hAdd.{0, 0, 0} @Nat @Nat @Nat y2 (@HAdd.hAdd.{0, 0, 0} @Nat @Nat @Nat y2 (@HAdd.hAdd.{0, 0, 0} @Nat @Nat @Nat y2 (@HAdd.hAdd.{0, 0, 0} @Nat @Nat @Nat y2 (@HAdd.hAdd.{0, 0, 0} @Nat @Nat @Nat y2 (@HAdd.hAdd.{0, 0, 0} @Nat @Nat @Nat y2 (@HAdd.hAdd.{0, 0, 0} @Nat @Nat @Nat y2 (@HAdd.hAdd.{0, 0, 0} @Nat @Nat @Nat y2 (@OfNat.ofNat.{0} @Nat (nat_lit 0) (@instOfNatNat (nat_lit 0))) (nat_lit 1)) (nat_lit 1)) (nat_lit 1)) (nat_lit 1)) (nat_lit 1)) (nat_lit 1)) (nat_lit 1)) (nat_lit 1)) (nat_lit 1)) (nat_lit 1)) (nat_lit 1)) (nat_lit 1)) (nat_lit 1)) (nat_lit 1)) (nat_lit 1)) (nat_lit 1)) (nat_lit 1)) (nat_lit 1)) (nat_lit 1)) (nat_lit 1)) (nat_lit 1)) (nat_lit 1)) (nat_lit 1)) (nat_lit 1)) (nat_lit 1)) (nat_lit 1)) (nat_lit 1)) (nat_lit 1)) (nat_lit 1)) (nat_lit 1)) (nat_lit 1)) (nat_lit 1)) (nat_lit 1)) (nat_lit 1)) (nat_lit 1)) (nat_lit 1)) (nat_lit 1)) (nat_lit 1)) (nat_lit 1)) (nat_lit 1)) (nat_lit 1)) (nat_lit 1)) (nat_lit 1)) (nat_lit 1)) (nat_lit 1)) (nat_lit 1)) (nat_lit 1)) (nat_lit 1)) (nat_lit 1)) (nat_lit 1)) (nat_lit 1)) (nat_lit 1)) (nat_lit 1)) (nat_lit 1)) (nat_lit 1)) (nat_lit 1)) (nat_lit 1)) (nat_lit 1)) (nat_lit 1)) (nat_lit 1)) (nat_lit 1)) (nat_lit 1)) (nat_lit 1)) (nat_lit 1)) (nat_lit 1)) (nat_lit 1)) (nat_lit 1)) (nat_lit 1)) (nat_lit 1)))) y61))) (@List.cons.{0} @PySem.DictEntry (@PySem.nsLookByArray.match_1.{1} y6 (@Option.none.{0} @PySem.DictEntry) (fun (x92 : @PySem.DictEntry) => (@PySem.DictEntry.mk (@PySem.DictEntry.hash x92) (@PySem.DictEntry.key x92) @PySem.Value.none)) (fun (x93 : @Unit) => (@PySem.DictEntry.mk (@PySem.W.X.condFn.{1} @Int (@Array.isEmpty.{0} @Nat y65) y17 (@PySem.W.ZFast.zw12210062019545310541 (@PySem.Params.strHash y18 y65))) (@PySem.Value.str y64 (@HAdd.hAdd.{0, 0, 0} @Nat @Nat @Nat y2 t (@HAdd.hAdd.{0, 0, 0} @Nat @Nat @Nat y2 (@HAdd.hAdd.{0, 0, 0} @Nat @Nat @Nat y2 (@HAdd.hAdd.{0, 0, 0} @Nat @Nat @Nat y2 (@HAdd.hAdd.{0, 0, 0} @Nat @Nat @Nat y2 (@HAdd.hAdd.{0, 0, 0} @Nat @Nat @Nat y2 (@HAdd.hAdd.{0, 0, 0} @Nat @Nat @Nat y2 (@HAdd.hAdd.{0, 0, 0} @Nat @Nat @Nat y2 (@HAdd.hAdd.{0, 0, 0} @Nat @Nat @Nat y2 (@HAdd.hAdd.{0, 0, 0} @Nat @Nat @Nat y2 (@HAdd.hAdd.{0, 0, 0} @Nat @Nat @Nat y2 (@HAdd.hAdd.{0, 0, 0} @Nat @Nat @Nat y2 (@HAdd.hAdd.{0, 0, 0} @Nat @Nat @Nat y2 (@HAdd.hAdd.{0, 0, 0} @Nat @Nat @Nat y2 (@HAdd.hAdd.{0, 0, 0} @Nat @Nat @Nat y2 (@HAdd.hAdd.{0, 0, 0} @Nat @Nat @Nat y2 (@HAdd.hAdd.{0, 0, 0} @Nat @Nat @Nat y2 (@HAdd.hAdd.{0, 0, 0} @Nat @Nat @Nat y2 (@HAdd.hAdd.{0, 0, 0} @Nat @Nat @Nat y2 (@HAdd.hAdd.{0, 0, 0} @Nat @Nat @Nat y2 (@HAdd.hAdd.{0, 0, 0} @Nat @Nat @Nat y2 (@HAdd.hAdd.{0, 0, 0} @Nat @Nat @Nat y2 (@HAdd.hAdd.{0, 0, 0} @Nat @Nat @Nat y2 (@HAdd.hAdd.{0, 0, 0} @Nat @Nat @Nat y2 (@HAdd.hAdd.{0, 0, 0} @Nat @Nat @Nat y2 (@HAdd.hAdd.{0, 0, 0} @Nat @Nat @Nat y2 (@HAdd.hAdd.{0, 0, 0} @Nat @Nat @Nat y2 (@HAdd.hAdd.{0, 0, 0} @Nat @Nat @Nat y2 (@HAdd.hAdd.{0, 0, 0} @Nat @Nat @Nat y2 (@HAdd.hAdd.{0, 0, 0} @Nat @Nat @Nat y2 (@HAdd.hAdd.{0, 0, 0} @Nat @Nat @Nat y2 (@HAdd.hAdd.{0, 0, 0} @Nat @Nat @Nat y2 (@HAdd.hAdd.{0, 0, 0} @Nat @Nat @Nat y2 (@HAdd.hAdd.{0, 0, 0} @Nat @Nat @Nat y2 (@HAdd.hAdd.{0, 0, 0} @Nat @Nat @Nat y2 (@HAdd.hAdd.{0, 0, 0} @Nat @Nat @Nat y2 (@HAdd.hAdd.{0, 0, 0} @Nat @Nat @Nat y2 (@HAdd.hAdd.{0, 0, 0} @Nat @Nat @Nat y2 (@HAdd.hAdd.{0, 0, 0} @Nat @Nat @Nat y2 (@HAdd.hAdd.{0, 0, 0} @Nat @Nat @Nat y2 (@HAdd.hAdd.{0, 0, 0} @Nat @Nat @Nat y2 (@HAdd.hAdd.{0, 0, 0} @Nat @Nat @Nat y2 (@HAdd.hAdd.{0, 0, 0} @Nat @Nat @Nat y2 (@HAdd.hAdd.{0, 0, 0} @Nat @Nat @Nat y2 (@HAdd.hAdd.{0, 0, 0} @Nat @Nat @Nat y2 (@HAdd.hAdd.{0, 0, 0} @Nat @Nat @Nat y2 (@HAdd.hAdd.{0, 0, 0} @Nat @Nat @Nat y2 (@HAdd.hAdd.{0, 0, 0} @Nat @Nat @Nat y2 (@HAdd.hAdd.{0, 0, 0} @Nat @Nat @Nat y2 (@HAdd.hAdd.{0, 0, 0} @Nat @Nat @Nat y2 (@HAdd.hAdd.{0, 0, 0} @Nat @Nat @Nat y2 (@HAdd.hAdd.{0, 0, 0} @Nat @Nat @Nat y2 (@HAdd.hAdd.{0, 0, 0} @Nat @Nat @Nat y2 (@HAdd.hAdd.{0, 0, 0} @Nat @Nat @Nat y2 (@HAdd.hAdd.{0, 0, 0} @Nat @Nat @Nat y2 (@HAdd.hAdd.{0, 0, 0} @Nat @Nat @Nat y2 (@HAdd.hAdd.{0, 0, 0} @Nat @Nat @Nat y2 (@HAdd.hAdd.{0, 0, 0} @Nat @Nat @Nat y2 (@HAdd.hAdd.{0, 0, 0} @Nat @Nat @Nat y2 (@HAdd.hAdd.{0, 0, 0} @Nat @Nat @Nat y2 (@HAdd.hAdd.{0, 0, 0} @Nat @Nat @Nat y2 (@HAdd.hAdd.{0, 0, 0} @Nat @Nat @Nat y2 (@HAdd.hAdd.{0, 0, 0} @Nat @Nat @Nat y2 (@HAdd.hAdd.{0, 0, 0} @Nat @Nat @Nat y2 (@HAdd.hAdd.{0, 0, 0} @Nat @Nat @Nat y2 (@HAdd.hAdd.{0, 0, 0} @Nat @Nat @Nat y2 (@HAdd.hAdd.{0, 0, 0} @Nat @Nat @Nat y2 (@HAdd.hAdd.{0, 0, 0} @Nat @Nat @Nat y2 (@HAdd.hAdd.{0, 0, 0} @Nat @Nat @Nat y2 (@HAdd.hAdd.{0, 0, 0} @Nat @Nat @Nat y2 (@HAdd.hAdd.{0, 0, 0} @Nat @Nat @Nat y2 (@OfNat.ofNat.{0} @Nat (nat_lit 0) (@instOfNatNat (nat_lit 0))) (nat_lit 1)) (nat_lit 1)) (nat_lit 1)) (nat_lit 1)) (nat_lit 1)) (nat_lit 1)) (nat_lit 1)) (nat_lit 1)) (nat_lit 1)) (nat_lit 1)) (nat_lit 1)) (nat_lit 1)) (nat_lit 1)) (nat_lit 1)) (nat_lit 1)) (nat_lit 1)) (nat_lit 1)) (nat_lit 1)) (nat_lit 1)) (nat_lit 1)) (nat_lit 1)) (nat_lit 1)) (nat_lit 1)) (nat_lit 1)) (nat_lit 1)) (nat_lit 1)) (nat_lit 1)) (nat_lit 1)) (nat_lit 1)) (nat_lit 1)) (nat_lit 1)) (nat_lit 1)) (nat_lit 1)) (nat_lit 1)) (nat_lit 1)) (nat_lit 1)) (nat_lit 1)) (nat_lit 1)) (nat_lit 1)) (nat_lit 1)) (nat_lit 1)) (nat_lit 1)) (nat_lit 1)) (nat_lit 1)) (nat_lit 1)) (nat_lit 1)) (nat_lit 1)) (nat_lit 1)) (nat_lit 1)) (nat_lit 1)) (nat_lit 1)) (nat_lit 1)) (nat_lit 1)) (nat_lit 1)) (nat_lit 1)) (nat_lit 1)) (nat_lit 1)) (nat_lit 1)) (nat_lit 1)) (nat_lit 1)) (nat_lit 1)) (nat_lit 1)) (nat_lit 1)) (nat_lit 1)) (nat_lit 1)) (nat_lit 1)) (nat_lit 1)) (nat_lit 1)) (nat_lit 1)) (nat_lit 1)))) @PySem.Value.none))) (@List.cons.{0} @PySem.DictEntry (@PySem.nsLookByArray.match_1.{1} y6 (@Option.none.{0} @PySem.DictEntry) (fun (x94 : @PySem.DictEntry) => (@PySem.DictEntry.mk (@PySem.DictEntry.hash x94) (@PySem.DictEntry.key x94) y66)) (fun (x95 : @Unit) => (@PySem.DictEntry.mk (@PySem.W.X.condFn.{1} @Int (@Array.isEmpty.{0} @Nat y68) y17 (@PySem.W.ZFast.zw12210062019545310541 (@PySem.Params.strHash y18 y68))) (@PySem.Value.str y67 (@HAdd.hAdd.{0, 0, 0} @Nat @Nat @Nat y2 t (@HAdd.hAdd.{0, 0, 0} @Nat @Nat @Nat y2 (@HAdd.hAdd.{0, 0, 0} @Nat @Nat @Nat y2 (@HAdd.hAdd.{0, 0, 0} @Nat @Nat @Nat y2 (@HAdd.hAdd.{0, 0, 0} @Nat @Nat @Nat y2 (@HAdd.hAdd.{0, 0, 0} @Nat @Nat @Nat y2 (@HAdd.hAdd.{0, 0, 0} @Nat @Nat @Nat y2 (@HAdd.hAdd.{0, 0, 0} @Nat @Nat @Nat y2 (@HAdd.hAdd.{0, 0, 0} @Nat @Nat @Nat y2 (@HAdd.hAdd.{0, 0, 0} @Nat @Nat @Nat y2 (@HAdd.hAdd.{0, 0, 0} @Nat @Nat @Nat y2 (@HAdd.hAdd.{0, 0, 0} @Nat @Nat @Nat y2 (@HAdd.hAdd.{0, 0, 0} @Nat @Nat @Nat y2 (@HAdd.hAdd.{0, 0, 0} @Nat @Nat @Nat y2 (@HAdd.hAdd.{0, 0, 0} @Nat @Nat @Nat y2 (@HAdd.hAdd.{0, 0, 0} @Nat @Nat @Nat y2 (@HAdd.hAdd.{0, 0, 0} @Nat @Nat @Nat y2 (@HAdd.hAdd.{0, 0, 0} @Nat @Nat @Nat y2 (@HAdd.hAdd.{0, 0, 0} @Nat @Nat @Nat y2 (@HAdd.hAdd.{0, 0, 0} @Nat @Nat @Nat y2 (@HAdd.hAdd.{0, 0, 0} @Nat @Nat @Nat y2 (@HAdd.hAdd.{0, 0, 0} @Nat @Nat @Nat y2 (@HAdd.hAdd.{0, 0, 0} @Nat @Nat @Nat y2 (@HAdd.hAdd.{0, 0, 0} @Nat @Nat @Nat y2 (@HAdd.hAdd.{0, 0, 0} @Nat @Nat @Nat y2 (@HAdd.hAdd.{0, 0, 0} @Nat @Nat @Nat y2 (@HAdd.hAdd.{0, 0, 0} @Nat @Nat @Nat y2 (@HAdd.hAdd.{0, 0, 0} @Nat @Nat @Nat y2 (@HAdd.hAdd.{0, 0, 0} @Nat @Nat @Nat y2 (@HAdd.hAdd.{0, 0, 0} @Nat @Nat @Nat y2 (@HAdd.hAdd.{0, 0, 0} @Nat @Nat @Nat y2 (@HAdd.hAdd.{0, 0, 0} @Nat @Nat @Nat y2 (@HAdd.hAdd.{0, 0, 0} @Nat @Nat @Nat y2 (@HAdd.hAdd.{0, 0, 0} @Nat @Nat @Nat y2 (@HAdd.hAdd.{0, 0, 0} @Nat @Nat @Nat y2 (@HAdd.hAdd.{0, 0, 0} @Nat @Nat @Nat y2 (@HAdd.hAdd.{0, 0, 0} @Nat @Nat @Nat y2 (@HAdd.hAdd.{0, 0, 0} @Nat @Nat @Nat y2 (@HAdd.hAdd.{0, 0, 0} @Nat @Nat @Nat y2 (@HAdd.hAdd.{0, 0, 0} @Nat @Nat @Nat y2 (@HAdd.hAdd.{0, 0, 0} @Nat @Nat @Nat y2 (@HAdd.hAdd.{0, 0, 0} @Nat @Nat @Nat y2 (@HAdd.hAdd.{0, 0, 0} @Nat @Nat @Nat y2 (@HAdd.hAdd.{0, 0, 0} @Nat @Nat @Nat y2 (@HAdd.hAdd.{0, 0, 0} @Nat @Nat @Nat y2 (@HAdd.hAdd.{0, 0, 0} @Nat @Nat @Nat y2 (@HAdd.hAdd.{0, 0, 0} @Nat @Nat @Nat y2 (@HAdd.hAdd.{0, 0, 0} @Nat @Nat @Nat y2 (@HAdd.hAdd.{0, 0, 0} @Nat @Nat @Nat y2 (@HAdd.hAdd.{0, 0, 0} @Nat @Nat @Nat y2 (@HAdd.hAdd.{0, 0, 0} @Nat @Nat @Nat y2 (@HAdd.hAdd.{0, 0, 0} @Nat @Nat @Nat y2 (@HAdd.hAdd.{0, 0, 0} @Nat @Nat @Nat y2 (@HAdd.hAdd.{0, 0, 0} @Nat @Nat @Nat y2 (@HAdd.hAdd.{0, 0, 0} @Nat @Nat @Nat y2 (@HAdd.hAdd.{0, 0, 0} @Nat @Nat @Nat y2 (@HAdd.hAdd.{0, 0, 0} @Nat @Nat @Nat y2 (@HAdd.hAdd.{0, 0, 0} @Nat @Nat @Nat y2 (@HAdd.hAdd.{0, 0, 0} @Nat @Nat @Nat y2 (@HAdd.hAdd.{0, 0, 0} @Nat @Nat @Nat y2 (@HAdd.hAdd.{0, 0, 0} @Nat @Nat @Nat y2 (@HAdd.hAdd.{0, 0, 0} @Nat @Nat @Nat y2 (@HAdd.hAdd.{0, 0, 0} @Nat @Nat @Nat y2 (@HAdd.hAdd.{0, 0, 0} @Nat @Nat @Nat y2 (@HAdd.hAdd.{0, 0, 0} @Nat @Nat @Nat y2 (@HAdd.hAdd.{0, 0, 0} @Nat @Nat @Nat y2 (@HAdd.hAdd.{0, 0, 0} @Nat @Nat @Nat y2 (@HAdd.hAdd.{0, 0, 0} @Nat @Nat @Nat y2 (@HAdd.hAdd.{0, 0, 0} @Nat @Nat @Nat y2 (@HAdd.hAdd.{0, 0, 0} @Nat @Nat @Nat y2 (@HAdd.hAdd.{0, 0, 0} @Nat @Nat @Nat y2 (@HAdd.hAdd.{0, 0, 0} @Nat @Nat @Nat y2 (@HAdd.hAdd.{0, 0, 0} @Nat @Nat @Nat y2 (@OfNat.ofNat.{0} @Nat (nat_lit 0) (@instOfNatNat (nat_lit 0))) (nat_lit 1)) (nat_lit 1)) (nat_lit 1)) (nat_lit 1)) (nat_lit 1)) (nat_lit 1)) (nat_lit 1)) (nat_lit 1)) (nat_lit 1)) (nat_lit 1)) (nat_lit 1)) (nat_lit 1)) (nat_lit 1)) (nat_lit 1)) (nat_lit 1)) (nat_lit 1)) (nat_lit 1)) (nat_lit 1)) (nat_lit 1)) (nat_lit 1)) (nat_lit 1)) (nat_lit 1)) (nat_lit 1)) (nat_lit 1)) (nat_lit 1)) (nat_lit 1)) (nat_lit 1)) (nat_lit 1)) (nat_lit 1)) (nat_lit 1)) (nat_lit 1)) (nat_lit 1)) (nat_lit 1)) (nat_lit 1)) (nat_lit 1)) (nat_lit 1)) (nat_lit 1)) (nat_lit 1)) (nat_lit 1)) (nat_lit 1)) (nat_lit 1)) (nat_lit 1)) (nat_lit 1)) (nat_lit 1)) (nat_lit 1)) (nat_lit 1)) (nat_lit 1)) (nat_lit 1)) (nat_lit 1)) (nat_lit 1)) (nat_lit 1)) (nat_lit 1)) (nat_lit 1)) (nat_lit 1)) (nat_lit 1)) (nat_lit 1)) (nat_lit 1)) (nat_lit 1)) (nat_lit 1)) (nat_lit 1)) (nat_lit 1)) (nat_lit 1)) (nat_lit 1)) (nat_lit 1)) (nat_lit 1)) (nat_lit 1)) (nat_lit 1)) (nat_lit 1)) (nat_lit 1)) (nat_lit 1)) (nat_lit 1)) (nat_lit 1)))) y66))) (@List.nil.{0} @PySem.DictEntry)))))))))))))); let y96 := (@PySem.Str.mk (@Array.mk.{0} @Nat (@List.cons.{0} @Nat (nat_lit 95) (@List.cons.{0} @Nat (nat_lit 95) (@List.cons.{0} @Nat (nat_lit 100) (@List.cons.{0} @Nat (nat_lit 101) (@List.cons.{0} @Nat (nat_lit 108) y8))))))); let y97 := (@PySem.Str.mk (@Array.mk.{0} @Nat (@List.cons.{0} @Nat (nat_lit 111) (@List.cons.{0} @Nat (nat_lit 98) (@List.cons.{0} @Nat (nat_lit 106) (@List.cons.{0} @Nat (nat_lit 101) (@List.cons.{0} @Nat (nat_lit 99) (@List.cons.{0} @Nat (nat_lit 116) (@List.nil.{0} @Nat))))))))); let y98 := (@PySem.DictEntry.val (@PySem.DictEntry.mk (@PySem.PyData.keyHash (@PySem.World.params w) y97) (@PySem.Value.str y97 (@OfNat.ofNat.{0} @Nat (nat_lit 70) (@instOfNatNat (nat_lit 70)))) (@PySem.Value.type @PySem.W.SZ.s2742458400755230247x6))); let y99 := (@Prod.snd.{0, 0} (@Option.{0} @PySem.Value) @PySem.Value (@Prod.mk.{0, 0} (@Option.{0} @PySem.Value) @PySem.Value (@Option.some.{0} @PySem.Value (@PySem.Value.type @PySem.W.SZ.s2742458400755230247x6)) y98)); let y100 := (@HAdd.hAdd.{0, 0, 0} @Nat @Nat @Nat y2 N (nat_lit 59)); let y101 := (@instHAppendOfAppend.{0} (@List.{0} @PySem.Value) (@PySem.W.ZFast.zw15056007747304108558.{0} @PySem.Value)); let y102 := (@Prod.{0, 0} (@Option.{0} @PySem.Str) (@PySem.Sem @PySem.Value)); let y103 := (@PySem.Args.mk (@HAppend.hAppend.{0, 0, 0} (@List.{0} @PySem.Value) (@List.{0} @PySem.Value) (@List.{0} @PySem.Value) y101 (@List.cons.{0} @PySem.Value y98 (@List.nil.{0} @PySem.Value)) (@List.nil.{0} @PySem.Value)) (@List.zip.{0, 0} @PySem.Str @PySem.Value (@List.filterMap.{0, 0} y102 @PySem.Str (fun (x104 : y102) => (@Prod.fst.{0, 0} (@Option.{0} @PySem.Str) (@PySem.Sem @PySem.Value) x104)) (@PySem.W.ZFast.zw621762911399731506 y37 (@PySem.W.ZFast.zw11621922129505618389 (@List.nil.{0} @PySem.Keyword) y29))) (@List.nil.{0} @PySem.Value))); let y105 := (@Array.toList.{0} @PySem.Value (@Option.getD.{0} (@Array.{0} @PySem.Value) (@Option.some.{0} (@Array.{0} @PySem.Value) (@List.toArray.{0} @PySem.Value (@PySem.Args.pos y103))) (@List.toArray.{0} @PySem.Value (@List.nil.{0} @PySem.Value)))); let y106 := (@PySem.W.X.condFn.{1} (@List.{0} @PySem.Value) (@List.isEmpty.{0} @PySem.Value y105) y5 y105); let y107 := (@PySem.Str.mk (@Array.mk.{0} @Nat (@List.cons.{0} @Nat (nat_lit 111) (@List.cons.{0} @Nat (nat_lit 98) (@List.cons.{0} @Nat (nat_lit 106) (@List.nil.{0} @Nat)))))); let y108 := (@PySem.W.ZFast.zw16508023016112465041 y33 y107); let y109 := (@Prod.mk.{0, 0} (@List.{0} @PySem.Str) @Nat (@List.nil.{0} @PySem.Str) (@OfNat.ofNat.{0} @Nat (nat_lit 0) (@instOfNatNat (nat_lit 0)))); let y110 := (@Prod.{0, 0} (@Array.{0} @PySem.Str) (@List.{0} @PySem.Str)); let y111 := (@Prod.{0, 0} @Bool y110); let y112 := (@Prod.mk.{0, 0} @Bool y111 @Bool.false (@Prod.mk.{0, 0} @Bool y110 @Bool.false (@Prod.mk.{0, 0} (@Array.{0} @PySem.Str) (@List.{0} @PySem.Str) (@List.toArray.{0} @PySem.Str (@List.nil.{0} @PySem.Str)) (@List.nil.{0} @PySem.Str)))); let y113 := (@Prod.snd.{0, 0} @Bool y111 y112); let y114 := (@Prod.snd.{0, 0} @Bool y110 y113); let y115 := (@Prod.mk.{0, 0} @Bool y111 (@Prod.fst.{0, 0} @Bool y111 y112) (@Prod.mk.{0, 0} @Bool y110 (@Prod.fst.{0, 0} @Bool y110 y113) (@Prod.mk.{0, 0} (@Array.{0} @PySem.Str) (@List.{0} @PySem.Str) (@PySem.W.ZFast.zw2398297429280069960.{0} @PySem.Str (@Prod.fst.{0, 0} (@Array.{0} @PySem.Str) (@List.{0} @PySem.Str) y114) y107) (@Prod.snd.{0, 0} (@Array.{0} @PySem.Str) (@List.{0} @PySem.Str) y114)))); let y116 := (@Prod.mk.{0, 0} @Bool @Bool (@Prod.fst.{0, 0} @Bool y111 y115) (@Prod.fst.{0, 0} @Bool y110 (@Prod.snd.{0, 0} @Bool y111 y115))); let y117 := (@Prod.mk.{0, 0} @Bool @Bool (@Prod.fst.{0, 0} @Bool @Bool y116) (@Prod.snd.{0, 0} @Bool @Bool y116)); let y118 := (@PySem.Builtin.Slots.Plan.mk (@Prod.fst.{0, 0} (@List.{0} @PySem.Str) @Nat (@Prod.mk.{0, 0} (@List.{0} @PySem.Str) @Nat (@PySem.W.ZFast.zw12599328854161826234 y108 (@Prod.fst.{0, 0} (@List.{0} @PySem.Str) @Nat y109)) (@HAdd.hAdd.{0, 0, 0} @Nat @Nat @Nat y2 (@Prod.snd.{0, 0} (@List.{0} @PySem.Str) @Nat y109) (@PySem.Str.length y108)))) (@Prod.fst.{0, 0} @Bool @Bool y117) (@Prod.snd.{0, 0} @Bool @Bool y117) (@List.replicate.{0} @PySem.Str (@HAdd.hAdd.{0, 0, 0} @Nat @Nat @Nat y2 (@OfNat.ofNat.{0} @Nat (nat_lit 0) (@instOfNatNat (nat_lit 0))) (@PySem.W.ZFast.zw5391546832398108619 @PySem.W.SZ.s2742458400755230247x6)) @PySem.Str.empty)); let y119 := (@PySem.Builtin.Slots.Plan.weak y118); let y120 := ((x121 : @Unit) → (@PySem.Sem @PySem.Fin)); let y122 := (@PySem.Str.mk (@Array.mk.{0} @Nat (@List.cons.{0} @Nat (nat_lit 95) (@List.cons.{0} @Nat (nat_lit 95) (@List.cons.{0} @Nat (nat_lit 100) (@List.cons.{0} @Nat (nat_lit 111) (@List.cons.{0} @Nat (nat_lit 99) y8))))))); let y123 := (@PySem.Sem (@ForInStep.{0} @PUnit.{1})); let y124 := ((x125 : @Unit) → y123); let y126 := (@Prod.{0, 0} @PySem.Value @PySem.Value); let y127 := (fun (x128 : y126) => y123); let y129 := (@Applicative.toPure.{0, 0} @PySem.Sem (@Monad.toApplicative.{0, 0} @PySem.Sem @PySem.W.ZFast.zw12456147031677567982)); let y130 := (@Pure.pure.{0, 0} @PySem.Sem y129 (@ForInStep.{0} @PUnit.{1}) (@ForInStep.yield.{0} @PUnit.{1} @PUnit.unit.{1})); let y131 := (fun (x132 : @Unit) => y130); let y133 := (fun (x134 : y126) => y130); let y135 := (fun (x136 : @PySem.Value) => y123); let y137 := (@List.cons.{0} @PySem.Value y4 (@List.nil.{0} @PySem.Value)); let y138 := (@PySem.W.ZFast.zw1156441195427279134 y100 (@Option.none.{0} @PySem.Value)); let y139 := (@Prod.{0, 0} @PySem.Value (@List.{0} @PySem.Value)); let y140 := (@Prod.{0, 0} @PySem.Str @PySem.Value); let y141 := (@List.nil.{0} y140); let y142 := (@instHAppendOfAppend.{0} @String @PySem.W.ZFast.zw9309626314029892736); let y143 := (@PySem.Args.mk (@List.cons.{0} @PySem.Value (@PySem.Value.str y33 (@HAdd.hAdd.{0, 0, 0} @Nat @Nat @Nat y2 t (@OfNat.ofNat.{0} @Nat (nat_lit 0) (@instOfNatNat (nat_lit 0))))) (@List.cons.{0} @PySem.Value (@PySem.Value.ref (@HAdd.hAdd.{0, 0, 0} @Nat @Nat @Nat y2 N (nat_lit 2))) (@List.cons.{0} @PySem.Value (@PySem.Value.ref (@HAdd.hAdd.{0, 0, 0} @Nat @Nat @Nat y2 N (nat_lit 4))) (@List.nil.{0} @PySem.Value)))) (@PySem.W.R.filterR.{0} y140 (fun (x144 : y140) => (@bne.{0} @PySem.Str (@instBEqOfDecidableEq.{0} @PySem.Str @PySem.W.Fast.sDec) (@Prod.fst.{0, 0} @PySem.Str @PySem.Value x144) (@PySem.Str.mk (@Array.mk.{0} @Nat (@List.cons.{0} @Nat (nat_lit 109) (@List.cons.{0} @Nat (nat_lit 101) (@List.cons.{0} @Nat (nat_lit 116) (@List.cons.{0} @Nat (nat_lit 97) (@List.cons.{0} @Nat (nat_lit 99) (@List.cons.{0} @Nat (nat_lit 108) (@List.cons.{0} @Nat (nat_lit 97) (@List.cons.{0} @Nat (nat_lit 115) y20)))))))))))) (@PySem.Args.kw y103))); let y145 := (@List.cons.{0} @PySem.Value (@PySem.Value.type (@Option.elim.{0, 1} @PySem.Manifest.BuiltinType @String (@PySem.W.ZFast.findY @PySem.W.SZ.s2742458400755230247x6) @PySem.W.SZ.s17162191345867700912x4 (fun (x146 : @PySem.Manifest.BuiltinType) => (@PySem.Manifest.BuiltinType.metatype x146)))) (@PySem.Args.pos y143)); let y147 := (@instBEqOfDecidableEq.{0} @PySem.Value @PySem.W.ZFast.zw7966671052430208091); let y148 := (@PySem.Str.mk (@Array.mk.{0} @Nat (@List.cons.{0} @Nat (nat_lit 95) (@List.cons.{0} @Nat (nat_lit 95) (@List.cons.{0} @Nat (nat_lit 119) (@List.cons.{0} @Nat (nat_lit 101) (@List.cons.{0} @Nat (nat_lit 97) (@List.cons.{0} @Nat (nat_lit 107) (@List.cons.{0} @Nat (nat_lit 114) (@List.cons.{0} @Nat (nat_lit 101) (@List.cons.{0} @Nat (nat_lit 102) y8))))))))))); let y149 := (@PySem.Str.mk (@Array.mk.{0} @Nat (@List.cons.{0} @Nat (nat_lit 95) (@List.cons.{0} @Nat (nat_lit 95) (@List.cons.{0} @Nat (nat_lit 100) (@List.cons.{0} @Nat (nat_lit 105) (@List.cons.{0} @Nat (nat_lit 99) y46))))))); let y150 := ((x151 : @Unit) → (@PySem.Sem @Bool)); let y152 := ((x153 : @Nat) → (@PySem.Sem @Bool)); let y154 := ((x155 : @Nat) → (@PySem.Sem @PySem.Fin)); let y156 := (@List.{0} (@Prod.{0, 0} @PySem.Code @PySem.Pos)); let y157 := (@Prod.{0, 0} @PySem.GenStatus (@Option.{0} y156)); let y158 := (fun (x159 : (@List.{0} @PySem.Value)) => (@PySem.Sem @Bool)); let y160 := (@Prod.{0, 0} @String @PySem.Manifest.AttrKind); let y161 := (fun (x162 : @PySem.Value) => (@PySem.Builtin.«type.__base__».match_3.{1} (fun (x163 : @PySem.Value) => (@PySem.Sem @Bool)) x162 (fun (x164 : @PySem.Addr) => (@Bind.bind.{0, 0} @PySem.Sem y1 @Bool @Bool (@PySem.W.ZFast.zw1869334852251445681 x164) (fun (x165 : @Bool) => (@PySem.W.X.condFn.{1} (@PySem.Sem @Bool) x165 (@Pure.pure.{0, 0} @PySem.Sem y129 @Bool @Bool.true) (@Bind.bind.{0, 0} @PySem.Sem y1 @PySem.ClassData @Bool (@PySem.W.ZFast.zw14687309341766221076 x164) (fun (x166 : @PySem.ClassData) => (@Bind.bind.{0, 0} @PySem.Sem y1 (@Option.{0} @PySem.Value) @Bool (@PySem.W.ZFast.zw13143150168775219229 (@PySem.ClassData.ns x166) y96) (fun (x167 : (@Option.{0} @PySem.Value)) => (@Pure.pure.{0, 0} @PySem.Sem y129 @Bool (@Option.isSome.{0} @PySem.Value x167)))))))))) (fun (x168 : @String) => (@Pure.pure.{0, 0} @PySem.Sem y129 @Bool (@Option.elim.{0, 1} @PySem.Manifest.BuiltinType @Bool (@PySem.W.ZFast.findY x168) @Bool.false (fun (x169 : @PySem.Manifest.BuiltinType) => (@PySem.W.R.anyR.{0} y160 (@PySem.Manifest.BuiltinType.attrs x169) (fun (x170 : y160) => (@PySem.W.S.eqLit (nat_lit 27127620749844576) (@Prod.fst.{0, 0} @String @PySem.Manifest.AttrKind x170)))))))) (fun (x171 : @PySem.Value) => (@Pure.pure.{0, 0} @PySem.Sem y129 @Bool @Bool.false)))); let y172 := (fun (x173 : @Bool) => (@List.{0} @PySem.Value)); let y174 := (@List.rec.{1, 0} @PySem.Value (fun (x175 : (@List.{0} @PySem.Value)) => (@List.{0} @PySem.Value)) (@List.nil.{0} @PySem.Value) (fun (x176 : @PySem.Value) => (fun (x177 : (@List.{0} @PySem.Value)) => (fun (x178 : (@List.{0} @PySem.Value)) => (@Bool.rec.{1} y172 x178 (@List.cons.{0} @PySem.Value x176 x178) (@bne.{0} @PySem.Value y147 x176 y4))))) y5); let y179 := (@Eq.{1} @PySem.Value y4 y4); let y180 := (@Decidable y179); let y181 := (@Eq.{1} @PySem.Addr y3 y3); (@PySem.Sem.rec.{1} @Bool (fun (x182 : (@PySem.Sem @Bool)) => (@PySem.Sem @PySem.Fin)) (fun (x183 : @Bool) => (@Bind.bind.{0, 0} @PySem.Sem y1 @Unit @PySem.Fin (@PySem.W.ZFast.zw12441007379849987547 y3 (fun (x184 : @PySem.ClassData) => (@PySem.ClassData.mk (@PySem.ClassData.name x184) (@PySem.ClassData.bases x184) (@List.cons.{0} @PySem.Value y4 y5) (@PySem.ClassData.ns x184) (@PySem.ClassData.qualname x184) (@PySem.ClassData.hasDict x184) (@PySem.ClassData.slotNames x184) (@PySem.ClassData.subclasses x184) (@PySem.ClassData.abstract x184) (@PySem.ClassData.collection x184) (@Bool.or (@Array.any.{0} @PySem.DictEntry y69 (fun (x185 : @PySem.DictEntry) => (@PySem.W.ZFast.zw995047462949696687 (@PySem.DictEntry.key x185) y96)) (@OfNat.ofNat.{0} @Nat (nat_lit 0) (@instOfNatNat (nat_lit 0))) (@Array.size.{0} @PySem.DictEntry y69)) x183)))) (fun (x186 : @Unit) => (@Bind.bind.{0, 0} @PySem.Sem y1 (@Option.{0} @String) @PySem.Fin (@PySem.W.ZFast.zw6838149247815620303 y99) (fun (x187 : (@Option.{0} @String)) => (@Bind.bind.{0, 0} @PySem.Sem y1 @Unit @PySem.Fin (@PySem.W.ZFast.zw12752861748066203577 y3 (@OfNat.ofNat.{0} @Nat (nat_lit 4) (@instOfNatNat (nat_lit 4))) (@Option.some.{0} @PySem.Value (@Option.elim.{0, 1} @String @PySem.Value x187 @PySem.Value.none @PySem.Value.builtin))) (fun (x188 : @Unit) => (@Bind.bind.{0, 0} @PySem.Sem y1 @Unit @PySem.Fin (@PySem.W.ZFast.zw2292210677410107715 y3) (fun (x189 : @Unit) => (@Bind.bind.{0, 0} @PySem.Sem y1 @Unit @PySem.Fin (@PySem.W.ZFast.zw6110745523598445359 y4 y100 y106 y118) (fun (x190 : @Unit) => (@Bind.bind.{0, 0} @PySem.Sem y1 @Bool @PySem.Fin (@PySem.W.ZFast.zw11503740424321261171 y99) (fun (x191 : @Bool) => (@Bind.bind.{0, 0} @PySem.Sem y1 @Unit @PySem.Fin (@PySem.W.ZFast.zw12752861748066203577 y3 (@OfNat.ofNat.{0} @Nat (nat_lit 5) (@instOfNatNat (nat_lit 5))) (@Option.some.{0} @PySem.Value (@PySem.Value.bool (@Bool.or y119 x191)))) (fun (x192 : @Unit) => (let x276 : y120 := (fun (x193 : @Unit) => (let x271 : y120 := (fun (x194 : @Unit) => (@Bind.bind.{0, 0} @PySem.Sem y1 (@Option.{0} @PySem.Value) @PySem.Fin (@PySem.W.ZFast.zw13143150168775219229 y100 y122) (fun (x195 : (@Option.{0} @PySem.Value)) => (let x269 : y120 := (fun (x196 : @Unit) => (@Bind.bind.{0, 0} @PySem.Sem y1 (@Option.{0} @PySem.Value) @PySem.Fin (@PySem.W.ZFast.zw13143150168775219229 y100 y56) (fun (x197 : (@Option.{0} @PySem.Value)) => (let x265 : y120 := (fun (x198 : @Unit) => (@Bind.bind.{0, 0} @PySem.Sem y1 @PUnit.{1} @PySem.Fin (@PySem.W.R.forLR.{0, 0, 0} @PySem.Sem @PySem.W.ZFast.zw12456147031677567982 @PySem.Value @PUnit.{1} y106 @PUnit.unit.{1} (fun (x199 : @PySem.Value) => (fun (x200 : @PUnit.{1}) => (let x204 : y124 := (fun (x201 : @Unit) => (@PySem.Builtin.«type.__new__».match_13.{1} y127 (@Prod.mk.{0, 0} @PySem.Value @PySem.Value x199 y4) (fun (x202 : @String) => (fun (x203 : @PySem.Addr) => (@Bind.bind.{0, 0} @PySem.Sem y1 @Unit (@ForInStep.{0} @PUnit.{1}) (@PySem.W.ZFast.zw3755665945235797109 x202 x203) y131))) y133)); (@PySem.Builtin.unwrapMethodObject.match_5.{1} y135 x199 (fun (x205 : @PySem.Addr) => (@Bind.bind.{0, 0} @PySem.Sem y1 @Unit (@ForInStep.{0} @PUnit.{1}) (@PySem.W.ZFast.zw12441007379849987547 x205 (fun (x206 : @PySem.ClassData) => (@PySem.ClassData.mk (@PySem.ClassData.name x206) (@PySem.ClassData.bases x206) (@PySem.ClassData.mro x206) (@PySem.ClassData.ns x206) (@PySem.ClassData.qualname x206) (@PySem.ClassData.hasDict x206) (@PySem.ClassData.slotNames x206) (@HAppend.hAppend.{0, 0, 0} (@List.{0} @PySem.Value) (@List.{0} @PySem.Value) (@List.{0} @PySem.Value) y101 (@PySem.ClassData.subclasses x206) y137) (@PySem.ClassData.abstract x206) (@PySem.ClassData.collection x206) (@PySem.ClassData.hasDel x206)))) (fun (x207 : @Unit) => (x204 x207)))) (fun (x208 : @PySem.Value) => (x204 @Unit.unit))))))) (fun (x209 : @PUnit.{1}) => (let x249 : (@PySem.Sem @Unit) := (let x210 : @Bool := @Bool.false; (@Bind.bind.{0, 0} @PySem.Sem y1 (@Array.{0} @PySem.DictEntry) @Unit y138 (fun (x211 : (@Array.{0} @PySem.DictEntry)) => (@Bind.bind.{0, 0} @PySem.Sem y1 @Bool @Unit (@PySem.W.R.forAR.{0, 0, 0} @PySem.Sem @PySem.W.ZFast.zw12456147031677567982 @PySem.DictEntry @Bool x211 x210 (fun (x212 : @PySem.DictEntry) => (fun (x213 : @Bool) => (let x214 : @Bool := x213; (@Bind.bind.{0, 0} @PySem.Sem y1 (@Option.{0} @PySem.Str) (@ForInStep.{0} @Bool) (@PySem.W.ZFast.zw8364510232829398291 (@PySem.DictEntry.key x212)) (fun (x215 : (@Option.{0} @PySem.Str)) => (@PySem.W.X.condFn.{1} (@PySem.Sem (@ForInStep.{0} @Bool)) (@Option.isNone.{0} @PySem.Str x215) (let x216 : @Bool := @Bool.true; (@Pure.pure.{0, 0} @PySem.Sem y129 (@ForInStep.{0} @Bool) (@ForInStep.yield.{0} @Bool x216))) (@Pure.pure.{0, 0} @PySem.Sem y129 (@ForInStep.{0} @Bool) (@ForInStep.yield.{0} @Bool x214))))))))) (fun (x217 : @Bool) => (let x218 : @Bool := x217; (let x245 : ((x219 : @Unit) → (@PySem.Sem @Unit)) := (fun (x220 : @Unit) => (@Bind.bind.{0, 0} @PySem.Sem y1 (@Array.{0} @PySem.DictEntry) @Unit y138 (fun (x221 : (@Array.{0} @PySem.DictEntry)) => (@Bind.bind.{0, 0} @PySem.Sem y1 @PUnit.{1} @Unit (@PySem.W.R.forAR.{0, 0, 0} @PySem.Sem @PySem.W.ZFast.zw12456147031677567982 @PySem.DictEntry @PUnit.{1} x221 @PUnit.unit.{1} (fun (x222 : @PySem.DictEntry) => (fun (x223 : @PUnit.{1}) => (@PySem.W.X.condFn.{1} y123 (@PySem.W.ZFast.zw264283885093000298 (@PySem.DictEntry.key x222) (@PySem.DictEntry.val x222)) (@Bind.bind.{0, 0} @PySem.Sem y1 @Unit (@ForInStep.{0} @PUnit.{1}) @PySem.W.ZFast.zw7490985275653899657 y131) (@Bind.bind.{0, 0} @PySem.Sem y1 (@Option.{0} @PySem.Value) (@ForInStep.{0} @PUnit.{1}) (@PySem.W.ZFast.zw4214721358667687652 (@PySem.DictEntry.val x222) (@PySem.Str.mk (@Array.mk.{0} @Nat (@List.cons.{0} @Nat (nat_lit 95) (@List.cons.{0} @Nat (nat_lit 95) (@List.cons.{0} @Nat (nat_lit 115) (@List.cons.{0} @Nat (nat_lit 101) (@List.cons.{0} @Nat (nat_lit 116) y11)))))))) (fun (x224 : (@Option.{0} @PySem.Value)) => (@PySem.Builtin.linearize.match_3.{1} (fun (x225 : (@Option.{0} @PySem.Value)) => y123) x224 (fun (x226 : @PySem.Value) => (@Bind.bind.{0, 0} @PySem.Sem y1 @Unit (@ForInStep.{0} @PUnit.{1}) (@PySem.rule @PySem.W.SZ.s6324515800472705169x14) (fun (x227 : @Unit) => (@Bind.bind.{0, 0} @PySem.Sem y1 y139 (@ForInStep.{0} @PUnit.{1}) (@PySem.W.ZFast.zw10151708918511008663 x226 (@PySem.DictEntry.val x222)) (fun (x228 : y139) => (@PySem.Builtin.linearize.match_1.{1} (fun (x229 : y139) => y123) x228 (fun (x230 : @PySem.Value) => (fun (x231 : (@List.{0} @PySem.Value)) => (@Bind.bind.{0, 0} @PySem.Sem y1 @PySem.Value (@ForInStep.{0} @PUnit.{1}) (@PySem.W.R.catchR @PySem.Value (@PySem.W.ZFast.zw11478286150595567475 x230 (@HAppend.hAppend.{0, 0, 0} (@List.{0} @PySem.Value) (@List.{0} @PySem.Value) (@List.{0} @PySem.Value) y101 x231 (@List.cons.{0} @PySem.Value y4 (@List.cons.{0} @PySem.Value (@PySem.DictEntry.key x222) (@List.nil.{0} @PySem.Value)))) y141) (fun (x232 : @PySem.Value) => (@PySem.W.ZFast.zw17359229931016689406 @PySem.Value (@List.cons.{0} @PySem.Value x232 (@List.nil.{0} @PySem.Value)) (@Bind.bind.{0, 0} @PySem.Sem y1 @Unit @PySem.Value (@PySem.rule "class.set_name-raised") (fun (x233 : @Unit) => (@Bind.bind.{0, 0} @PySem.Sem y1 @String @PySem.Value (@PySem.W.ZFast.zw8349319619548498818 (@PySem.DictEntry.val x222)) (fun (x234 : @String) => (@Bind.bind.{0, 0} @PySem.Sem y1 @PySem.Str @PySem.Value (@PySem.W.ZFast.zw15254168695846047697 (@PySem.DictEntry.key x222)) (fun (x235 : @PySem.Str) => (let x236 : @String := (@HAppend.hAppend.{0, 0, 0} @String @String @String y142 (@HAppend.hAppend.{0, 0, 0} @String @String @String y142 (@HAppend.hAppend.{0, 0, 0} @String @String @String y142 (@HAppend.hAppend.{0, 0, 0} @String @String @String y142 (@HAppend.hAppend.{0, 0, 0} @String @String @String y142 (@HAppend.hAppend.{0, 0, 0} @String @String @String y142 (@ToString.toString.{0} @String @instToStringString "Error calling __set_name__ on '") (@ToString.toString.{0} @String @instToStringString x234)) (@ToString.toString.{0} @String @instToStringString "' instance ")) (@ToString.toString.{0} @String @instToStringString (@PySem.W.ZFast.zw16320311567567194475 x235))) (@ToString.toString.{0} @String @instToStringString " in '")) (@ToString.toString.{0} @String @instToStringString (@PySem.W.ZFast.zw16320311567567194475 y33))) (@ToString.toString.{0} @String @instToStringString "'")); (@Bind.bind.{0, 0} @PySem.Sem y1 @PySem.Value @PySem.Value (@PySem.W.ZFast.zw10821573891100952770 (@PySem.Str.ofString x236)) (fun (x237 : @PySem.Value) => (@Bind.bind.{0, 0} @PySem.Sem y1 @PySem.Value @PySem.Value (@PySem.W.ZFast.zw11478286150595567475 (@PySem.Value.builtin @PySem.W.SZ.s4736239206327650563x22) (@List.cons.{0} @PySem.Value x232 (@List.cons.{0} @PySem.Value x237 (@List.nil.{0} @PySem.Value))) y141) (fun (x238 : @PySem.Value) => (@MonadExcept.throw.{0, 0, 0} @PySem.Value @PySem.Sem @PySem.W.ZFast.zw16348484164971924005 @PySem.Value x232))))))))))))))) (fun (x239 : @PySem.Value) => y130)))))))))) (fun (x240 : (@Option.{0} @PySem.Value)) => y130)))))))) (fun (x241 : @PUnit.{1}) => (@Bind.bind.{0, 0} @PySem.Sem y1 @PySem.Value @Unit (@PySem.W.ZFast.zw11478286150595567475 (@PySem.Value.type @PySem.W.SZ.s4290257624100764138x5) (@List.cons.{0} @PySem.Value y4 y137) y141) (fun (x242 : @PySem.Value) => (@Bind.bind.{0, 0} @PySem.Sem y1 @PySem.Value @Unit (@PySem.W.ZFast.zw17359229931016689406 @PySem.Value (@List.cons.{0} @PySem.Value x242 (@List.nil.{0} @PySem.Value)) (@PySem.W.ZFast.zw4926136581373384958 x242 (@PySem.Str.mk (@Array.mk.{0} @Nat (@List.cons.{0} @Nat (nat_lit 95) (@List.cons.{0} @Nat (nat_lit 95) (@List.cons.{0} @Nat (nat_lit 105) (@List.cons.{0} @Nat (nat_lit 110) (@List.cons.{0} @Nat (nat_lit 105) (@List.cons.{0} @Nat (nat_lit 116) (@List.cons.{0} @Nat (nat_lit 95) (@List.cons.{0} @Nat (nat_lit 115) (@List.cons.{0} @Nat (nat_lit 117) (@List.cons.{0} @Nat (nat_lit 98) (@List.cons.{0} @Nat (nat_lit 99) (@List.cons.{0} @Nat (nat_lit 108) (@List.cons.{0} @Nat (nat_lit 97) (@List.cons.{0} @Nat (nat_lit 115) y42)))))))))))))))) @Bool.false)) (fun (x243 : @PySem.Value) => (@Bind.bind.{0, 0} @PySem.Sem y1 @PySem.Value @Unit (@PySem.W.ZFast.zw11478286150595567475 x243 (@List.nil.{0} @PySem.Value) (@PySem.Args.kw (@PySem.Args.mk y145 (@PySem.Args.kw (@PySem.Args.mk y145 (@PySem.Args.kw y143)))))) (fun (x244 : @PySem.Value) => (@Pure.pure.{0, 0} @PySem.Sem y129 @Unit @Unit.unit)))))))))))); (@PySem.W.X.condFn.{1} (@PySem.Sem @Unit) x218 (@Bind.bind.{0, 0} @PySem.Sem y1 @Unit @Unit (@PySem.rule "class.non-string-key-warns") (fun (x246 : @Unit) => (@Bind.bind.{0, 0} @PySem.Sem y1 @String @Unit (@PySem.W.ZFast.zw5594667868987787063 (@OfNat.ofNat.{0} @Nat (nat_lit 200) (@instOfNatNat (nat_lit 200))) y4) (fun (x247 : @String) => (@Bind.bind.{0, 0} @PySem.Sem y1 @Unit @Unit (@PySem.W.ZFast.zw10195375617869553621 @PySem.W.SZ.s17481586968713580700x14 (@PySem.Str.ofString (@HAppend.hAppend.{0, 0, 0} @String @String @String y142 (@ToString.toString.{0} @String @instToStringString "non-string key in the __dict__ of class ") (@ToString.toString.{0} @String @instToStringString x247))) (@OfNat.ofNat.{0} @Int (nat_lit 1) (@instOfNat (nat_lit 1))) @PySem.Value.none) (fun (x248 : @Unit) => (x245 x248))))))) (x245 @Unit.unit))))))))); (@Bind.bind.{0, 0} @PySem.Sem y1 @Unit @PySem.Fin (@PySem.W.R.catchR @Unit (@PySem.W.ZFast.zw17359229931016689406 @Unit y137 x249) (fun (x250 : @PySem.Value) => (@Bind.bind.{0, 0} @PySem.Sem y1 @Unit @Unit (@PySem.rule "class.hook-failed") (fun (x251 : @Unit) => (@Bind.bind.{0, 0} @PySem.Sem y1 @PUnit.{1} @Unit (@PySem.W.R.forLR.{0, 0, 0} @PySem.Sem @PySem.W.ZFast.zw12456147031677567982 @PySem.Value @PUnit.{1} y106 @PUnit.unit.{1} (fun (x252 : @PySem.Value) => (fun (x253 : @PUnit.{1}) => (let x257 : y124 := (fun (x254 : @Unit) => (@PySem.Builtin.«type.__new__».match_13.{1} y127 (@Prod.mk.{0, 0} @PySem.Value @PySem.Value x252 y4) (fun (x255 : @String) => (fun (x256 : @PySem.Addr) => (@Bind.bind.{0, 0} @PySem.Sem y1 @Unit (@ForInStep.{0} @PUnit.{1}) (@PySem.W.ZFast.zw5876879860989197946 x255 x256) y131))) y133)); (@PySem.Builtin.unwrapMethodObject.match_5.{1} y135 x252 (fun (x258 : @PySem.Addr) => (@Bind.bind.{0, 0} @PySem.Sem y1 @Unit (@ForInStep.{0} @PUnit.{1}) (@PySem.W.ZFast.zw12441007379849987547 x258 (fun (x259 : @PySem.ClassData) => (@PySem.ClassData.mk (@PySem.ClassData.name x259) (@PySem.ClassData.bases x259) (@PySem.ClassData.mro x259) (@PySem.ClassData.ns x259) (@PySem.ClassData.qualname x259) (@PySem.ClassData.hasDict x259) (@PySem.ClassData.slotNames x259) (@PySem.W.R.mapR.{0, 0} @PySem.Value @PySem.Value (fun (x260 : @PySem.Value) => (@PySem.W.X.condFn.{1} @PySem.Value (@BEq.beq.{0} @PySem.Value y147 x260 y4) @PySem.Value.notImplemented x260)) (@PySem.ClassData.subclasses x259)) (@PySem.ClassData.abstract x259) (@PySem.ClassData.collection x259) (@PySem.ClassData.hasDel x259)))) (fun (x261 : @Unit) => (x257 x261)))) (fun (x262 : @PySem.Value) => (x257 @Unit.unit))))))) (fun (x263 : @PUnit.{1}) => (@MonadExcept.throw.{0, 0, 0} @PySem.Value @PySem.Sem @PySem.W.ZFast.zw16348484164971924005 @Unit x250))))))) (fun (x264 : @Unit) => (@PySem.W.ZFast.zw6905046200447255374 y4))))))); (@PySem.W.X.condFn.{1} (@PySem.Sem @PySem.Fin) (@Option.isSome.{0} @PySem.Value x197) (@Bind.bind.{0, 0} @PySem.Sem y1 (@Option.{0} @PySem.Value) @PySem.Fin (@PySem.W.ZFast.zw13143150168775219229 y100 y64) (fun (x266 : (@Option.{0} @PySem.Value)) => (@PySem.W.X.condFn.{1} (@PySem.Sem @PySem.Fin) (@Option.isNone.{0} @PySem.Value x266) (@Bind.bind.{0, 0} @PySem.Sem y1 @Unit @PySem.Fin (@PySem.rule "class.eq-without-hash") (fun (x267 : @Unit) => (@Bind.bind.{0, 0} @PySem.Sem y1 @Unit @PySem.Fin (@PySem.W.ZFast.zw1291218889547360412 y100 y64 @PySem.Value.none) (fun (x268 : @Unit) => (x265 x268))))) (x265 @Unit.unit)))) (x265 @Unit.unit)))))); (@PySem.W.X.condFn.{1} (@PySem.Sem @PySem.Fin) (@Option.isNone.{0} @PySem.Value x195) (@Bind.bind.{0, 0} @PySem.Sem y1 @Unit @PySem.Fin (@PySem.W.ZFast.zw1291218889547360412 y100 y122 @PySem.Value.none) (fun (x270 : @Unit) => (x269 x270))) (x269 @Unit.unit)))))); (@PySem.W.X.condFn.{1} (@PySem.Sem @PySem.Fin) y119 (@Bind.bind.{0, 0} @PySem.Sem y1 (@Option.{0} @PySem.Value) @PySem.Fin (@PySem.W.ZFast.zw13143150168775219229 y100 y148) (fun (x272 : (@Option.{0} @PySem.Value)) => (@PySem.W.X.condFn.{1} (@PySem.Sem @PySem.Fin) (@Option.isNone.{0} @PySem.Value x272) (@Bind.bind.{0, 0} @PySem.Sem y1 @PySem.Value @PySem.Fin (@PySem.W.ZFast.zw10821573891100952770 y148) (fun (x273 : @PySem.Value) => (@Bind.bind.{0, 0} @PySem.Sem y1 @PySem.Value @PySem.Fin (@PySem.W.ZFast.zw15415582192633789933 @PySem.W.SZ.s14755015743595814543x17 (@List.cons.{0} @PySem.Value x273 (@List.cons.{0} @PySem.Value y4 (@List.cons.{0} @PySem.Value (@PySem.Value.builtin @PySem.W.SZ.s10220274742760427390x26) (@List.cons.{0} @PySem.Value @PySem.Value.none (@List.nil.{0} @PySem.Value)))))) (fun (x274 : @PySem.Value) => (@Bind.bind.{0, 0} @PySem.Sem y1 @Unit @PySem.Fin (@PySem.W.ZFast.zw1291218889547360412 y100 y148 x274) (fun (x275 : @Unit) => (x271 x275))))))) (x271 @Unit.unit)))) (x271 @Unit.unit)))); (@PySem.W.X.condFn.{1} (@PySem.Sem @PySem.Fin) (@PySem.Builtin.Slots.Plan.dict y118) (@Bind.bind.{0, 0} @PySem.Sem y1 (@Option.{0} @PySem.Value) @PySem.Fin (@PySem.W.ZFast.zw13143150168775219229 y100 y149) (fun (x277 : (@Option.{0} @PySem.Value)) => (@PySem.W.X.condFn.{1} (@PySem.Sem @PySem.Fin) (@Option.isNone.{0} @PySem.Value x277) (@Bind.bind.{0, 0} @PySem.Sem y1 @PySem.Value @PySem.Fin (@PySem.W.ZFast.zw10821573891100952770 y149) (fun (x278 : @PySem.Value) => (@Bind.bind.{0, 0} @PySem.Sem y1 @PySem.Value @PySem.Fin (@PySem.W.ZFast.zw15415582192633789933 @PySem.W.SZ.s14755015743595814543x17 (@List.cons.{0} @PySem.Value x278 (@List.cons.{0} @PySem.Value y4 (@List.cons.{0} @PySem.Value (@PySem.Value.builtin @PySem.W.SZ.s6511155373996960695x17) (@List.cons.{0} @PySem.Value (@PySem.Value.builtin @PySem.W.SZ.s12411053484034534018x21) (@List.nil.{0} @PySem.Value)))))) (fun (x279 : @PySem.Value) => (@Bind.bind.{0, 0} @PySem.Sem y1 @Unit @PySem.Fin (@PySem.W.ZFast.zw1291218889547360412 y100 y149 x279) (fun (x280 : @Unit) => (x276 x280))))))) (x276 @Unit.unit)))) (x276 @Unit.unit)))))))))))))))))) (fun (x281 : @PySem.Value) => (@PySem.Sem.raise @PySem.Fin x281)) (fun (x282 : @String) => (@PySem.Sem.unsupported @PySem.Fin x282)) (fun (x283 : @PySem.Ending) => (@PySem.Sem.finish @PySem.Fin x283)) (fun (x284 : @String) => (fun (x285 : y150) => (fun (x286 : y120) => (@PySem.Sem.rule @PySem.Fin x284 x286)))) (fun (x287 : @PySem.Pos) => (fun (x288 : y150) => (fun (x289 : y120) => (@PySem.Sem.at @PySem.Fin x287 x289)))) (fun (x290 : @PySem.Addr) => (fun (x291 : (@Option.{0} @PySem.Value)) => (fun (x293 : ((x292 : @PySem.Obj) → (@PySem.Sem @Bool))) => (fun (x295 : ((x294 : @PySem.Obj) → (@PySem.Sem @PySem.Fin))) => (@PySem.Sem.load @PySem.Fin x290 x291 x295))))) (fun (x296 : @PySem.Addr) => (fun (x297 : (@Option.{0} @PySem.Value)) => (fun (x299 : ((x298 : @PySem.Obj) → @PySem.Obj)) => (fun (x300 : y150) => (fun (x301 : y120) => (@PySem.Sem.update @PySem.Fin x296 x297 x299 x301)))))) (fun (x302 : @PySem.Obj) => (fun (x304 : ((x303 : @PySem.Addr) → (@PySem.Sem @Bool))) => (fun (x306 : ((x305 : @PySem.Addr) → (@PySem.Sem @PySem.Fin))) => (@PySem.Sem.alloc @PySem.Fin x302 x306)))) (fun (x307 : @PySem.Addr) => (fun (x309 : ((x308 : (@Option.{0} @PySem.Obj)) → (@PySem.Sem @Bool))) => (fun (x311 : ((x310 : (@Option.{0} @PySem.Obj)) → (@PySem.Sem @PySem.Fin))) => (@PySem.Sem.loadIfAlive @PySem.Fin x307 x311)))) (fun (x312 : (@List.{0} @PySem.Value)) => (fun (x313 : y150) => (fun (x314 : y120) => (@PySem.Sem.point @PySem.Fin x312 x314)))) (fun (x315 : @PySem.Addr) => (fun (x316 : y150) => (fun (x317 : y120) => (@PySem.Sem.register @PySem.Fin x315 x317)))) (fun (x319 : ((x318 : @PySem.Tok) → (@PySem.Sem @Bool))) => (fun (x321 : ((x320 : @PySem.Tok) → (@PySem.Sem @PySem.Fin))) => (@PySem.Sem.fresh @PySem.Fin x321))) (fun (x323 : ((x322 : @PySem.Setting) → (@PySem.Sem @Bool))) => (fun (x325 : ((x324 : @PySem.Setting) → (@PySem.Sem @PySem.Fin))) => (@PySem.Sem.ask @PySem.Fin x325))) (fun (x326 : @PySem.Source) => (fun (x327 : @Nat) => (fun (x328 : y152) => (fun (x329 : y154) => (@PySem.Sem.choose @PySem.Fin x326 x327 x329))))) (fun (x330 : @PySem.OsRequest) => (fun (x331 : (@List.{0} @PySem.Value)) => (fun (x333 : ((x332 : @PySem.OsReply) → (@PySem.Sem @Bool))) => (fun (x335 : ((x334 : @PySem.OsReply) → (@PySem.Sem @PySem.Fin))) => (@PySem.Sem.os @PySem.Fin x330 x331 x335))))) (fun (x336 : @PySem.Code) => (fun (x337 : (@Option.{0} @PySem.Value)) => (fun (x338 : @Bool) => (fun (x339 : (@List.{0} @PySem.Value)) => (fun (x341 : ((x340 : @PySem.Result) → (@PySem.Sem @Bool))) => (fun (x343 : ((x342 : @PySem.Result) → (@PySem.Sem @PySem.Fin))) => (@PySem.Sem.call @PySem.Fin x336 x337 x338 x339 x343))))))) (fun (x344 : @Bool) => (fun (x346 : ((x345 : (@Option.{0} @PySem.Value)) → (@PySem.Sem @Bool))) => (fun (x348 : ((x347 : (@Option.{0} @PySem.Value)) → (@PySem.Sem @PySem.Fin))) => (@PySem.Sem.handled @PySem.Fin x344 x348)))) (fun (x349 : @PySem.Code) => (fun (x350 : y152) => (fun (x351 : y154) => (@PySem.Sem.newGen @PySem.Fin x349 x351)))) (fun (x352 : @Nat) => (fun (x354 : ((x353 : y157) → (@PySem.Sem @Bool))) => (fun (x356 : ((x355 : y157) → (@PySem.Sem @PySem.Fin))) => (@PySem.Sem.genState @PySem.Fin x352 x356)))) (fun (x357 : @Nat) => (fun (x358 : @PySem.Resume) => (fun (x359 : (@List.{0} @PySem.Value)) => (fun (x361 : ((x360 : @PySem.GenResult) → (@PySem.Sem @Bool))) => (fun (x363 : ((x362 : @PySem.GenResult) → (@PySem.Sem @PySem.Fin))) => (@PySem.Sem.resume @PySem.Fin x357 x358 x359 x363)))))) (fun (x364 : @PySem.Value) => (fun (x365 : @Bool) => (fun (x366 : (@List.{0} @PySem.Value)) => (fun (x368 : ((x367 : @PySem.Resume) → (@PySem.Sem @Bool))) => (fun (x370 : ((x369 : @PySem.Resume) → (@PySem.Sem @PySem.Fin))) => (@PySem.Sem.yield @PySem.Fin x364 x365 x366 x370)))))) (fun (x372 : ((x371 : y156) → (@PySem.Sem @Bool))) => (fun (x374 : ((x373 : y156) → (@PySem.Sem @PySem.Fin))) => (@PySem.Sem.stack @PySem.Fin x374))) (fun (x375 : @PySem.Code) => (fun (x376 : y152) => (fun (x377 : y154) => (@PySem.Sem.fork @PySem.Fin x375 x377)))) (fun (x378 : y152) => (fun (x379 : y154) => (@PySem.Sem.thread @PySem.Fin x379))) (fun (x380 : @PySem.Addr) => (fun (x382 : ((x381 : @PySem.Obj) → (@Option.{0} @PySem.Obj))) => (fun (x383 : @Bool) => (fun (x384 : (@List.{0} @PySem.Value)) => (fun (x386 : ((x385 : @Bool) → (@PySem.Sem @Bool))) => (fun (x388 : ((x387 : @Bool) → (@PySem.Sem @PySem.Fin))) => (@PySem.Sem.await @PySem.Fin x380 x382 x383 x384 x388))))))) ((@List.rec.{1, 0} @PySem.Value (fun (x389 : (@List.{0} @PySem.Value)) => (@PProd.{1, 1} (@PySem.Sem @Bool) (@List.below.{1, 0} @PySem.Value y158 x389))) (@PProd.mk.{1, 1} (@PySem.Sem @Bool) @PUnit.{1} (@List.anyM._f.{0, 0} @PySem.Sem @PySem.W.ZFast.zw12456147031677567982 @PySem.Value y161 (@List.nil.{0} @PySem.Value) @PUnit.unit.{1}) @PUnit.unit.{1}) (fun (x390 : @PySem.Value) => (fun (x391 : (@List.{0} @PySem.Value)) => let y392 := (@PProd.{1, 1} (@PySem.Sem @Bool) (@List.below.{1, 0} @PySem.Value y158 x391)); (fun (x393 : y392) => (@PProd.mk.{1, 1} (@PySem.Sem @Bool) y392 (@List.anyM._f.{0, 0} @PySem.Sem @PySem.W.ZFast.zw12456147031677567982 @PySem.Value y161 (@List.cons.{0} @PySem.Value x390 x391) x393) x393)))) (@Bool.rec.{1} y172 y174 (@List.cons.{0} @PySem.Value y4 y174) (@Bool.rec.{1} (fun (x394 : @Bool) => @Bool) @Bool.true @Bool.false (@Decidable.rec.{1} y179 (fun (x395 : y180) => @Bool) (fun (x396 : (@Not y179)) => @Bool.false) (fun (x397 : y179) => @Bool.true) (@Decidable.rec.{1} y181 (fun (x398 : (@Decidable y181)) => y180) (fun (x399 : (@Not y181)) => (@Decidable.isFalse y179 (@PySem.instDecidableEqValue.decEq._proof_20 y3 y3 x399))) (fun (x400 : y181) => (@Eq.ndrec.{1, 1} @PySem.Addr y3 (fun (x401 : @PySem.Addr) => (@Decidable (@Eq.{1} @PySem.Value y4 (@PySem.Value.ref x401)))) (@Decidable.isTrue y179 (@PySem.instDecidableEqValue.decEq._proof_19 y3)) y3 x400)) d)))))).1)
noncomputable def dC4 (N : Nat) : Decidable (N + 60 = N + 60) := (.isTrue rfl)
noncomputable def cF4 (N : Nat) (d : Decidable (N + 60 = N + 60)) : Sem Fin := let y1 := (@Monad.toBind.{0, 0} @PySem.Sem @PySem.W.ZFast.zw12456147031677567982); let y2 := (@instHAdd.{0} @Nat @instAddNat); let y3 := (@PySem.Value.ref (@HAdd.hAdd.{0, 0, 0} @Nat @Nat @Nat y2 N (nat_lit 62))); let y4 := (@HAdd.hAdd.{0, 0, 0} @Nat @Nat @Nat y2 N (nat_lit 60)); let y5 := (@PySem.Value.ref y4); let y6 := ((x7 : @Unit) → (@PySem.Sem @PySem.Value)); let y8 := ((x9 : @Unit) → (@PySem.Sem @PySem.Fin)); let y10 := ((x11 : @Nat) → (@PySem.Sem @PySem.Value)); let y12 := ((x13 : @Nat) → (@PySem.Sem @PySem.Fin)); let y14 := (@List.{0} (@Prod.{0, 0} @PySem.Code @PySem.Pos)); let y15 := (@Prod.{0, 0} @PySem.GenStatus (@Option.{0} y14)); let y16 := (@Applicative.toPure.{0, 0} @PySem.Sem (@Monad.toApplicative.{0, 0} @PySem.Sem @PySem.W.ZFast.zw12456147031677567982)); let y17 := (@PySem.W.ZFast.zw11987936663869333405 y5); let y18 := (@PySem.W.ZFast.zw10380811246957099773 y5); let y19 := (@PySem.W.ZFast.zw4267813433224596687 y5); let y20 := (@instHAppendOfAppend.{0} @String @PySem.W.ZFast.zw9309626314029892736); let y21 := (fun (x22 : (@Option.{0} @PySem.Value)) => ((fun (x23 : (@Option.{0} @PySem.Value)) => (@PySem.Sem @PySem.Value)) x22)); let y24 := (@instBEqOfDecidableEq.{0} @PySem.Value @PySem.W.ZFast.zw7966671052430208091); let y25 := (@Eq.{1} @PySem.Value y5 y5); let y26 := (@Decidable y25); let y27 := (@Eq.{1} @PySem.Addr y4 y4); (@PySem.Sem.rec.{1} @PySem.Value (fun (x28 : (@PySem.Sem @PySem.Value)) => (@PySem.Sem @PySem.Fin)) (fun (x29 : @PySem.Value) => (@Bind.bind.{0, 0} @PySem.Sem y1 @Unit @PySem.Fin (@PySem.W.ZFast.zw17858455048448223758 y3 (@OfNat.ofNat.{0} @Nat (nat_lit 0) (@instOfNatNat (nat_lit 0))) y5) (fun (x30 : @Unit) => (@Bind.bind.{0, 0} @PySem.Sem y1 @Unit @PySem.Fin (@PySem.W.ZFast.zw17858455048448223758 y3 (@OfNat.ofNat.{0} @Nat (nat_lit 1) (@instOfNatNat (nat_lit 1))) y5) (fun (x31 : @Unit) => (@Bind.bind.{0, 0} @PySem.Sem y1 @Unit @PySem.Fin (@PySem.W.ZFast.zw17858455048448223758 y3 (@OfNat.ofNat.{0} @Nat (nat_lit 2) (@instOfNatNat (nat_lit 2))) x29) (fun (x32 : @Unit) => (@PySem.W.ZFast.zw6905046200447255374 @PySem.Value.none)))))))) (fun (x33 : @PySem.Value) => (@PySem.Sem.raise @PySem.Fin x33)) (fun (x34 : @String) => (@PySem.Sem.unsupported @PySem.Fin x34)) (fun (x35 : @PySem.Ending) => (@PySem.Sem.finish @PySem.Fin x35)) (fun (x36 : @String) => (fun (x37 : y6) => (fun (x38 : y8) => (@PySem.Sem.rule @PySem.Fin x36 x38)))) (fun (x39 : @PySem.Pos) => (fun (x40 : y6) => (fun (x41 : y8) => (@PySem.Sem.at @PySem.Fin x39 x41)))) (fun (x42 : @PySem.Addr) => (fun (x43 : (@Option.{0} @PySem.Value)) => (fun (x45 : ((x44 : @PySem.Obj) → (@PySem.Sem @PySem.Value))) => (fun (x47 : ((x46 : @PySem.Obj) → (@PySem.Sem @PySem.Fin))) => (@PySem.Sem.load @PySem.Fin x42 x43 x47))))) (fun (x48 : @PySem.Addr) => (fun (x49 : (@Option.{0} @PySem.Value)) => (fun (x51 : ((x50 : @PySem.Obj) → @PySem.Obj)) => (fun (x52 : y6) => (fun (x53 : y8) => (@PySem.Sem.update @PySem.Fin x48 x49 x51 x53)))))) (fun (x54 : @PySem.Obj) => (fun (x56 : ((x55 : @PySem.Addr) → (@PySem.Sem @PySem.Value))) => (fun (x58 : ((x57 : @PySem.Addr) → (@PySem.Sem @PySem.Fin))) => (@PySem.Sem.alloc @PySem.Fin x54 x58)))) (fun (x59 : @PySem.Addr) => (fun (x61 : ((x60 : (@Option.{0} @PySem.Obj)) → (@PySem.Sem @PySem.Value))) => (fun (x63 : ((x62 : (@Option.{0} @PySem.Obj)) → (@PySem.Sem @PySem.Fin))) => (@PySem.Sem.loadIfAlive @PySem.Fin x59 x63)))) (fun (x64 : (@List.{0} @PySem.Value)) => (fun (x65 : y6) => (fun (x66 : y8) => (@PySem.Sem.point @PySem.Fin x64 x66)))) (fun (x67 : @PySem.Addr) => (fun (x68 : y6) => (fun (x69 : y8) => (@PySem.Sem.register @PySem.Fin x67 x69)))) (fun (x71 : ((x70 : @PySem.Tok) → (@PySem.Sem @PySem.Value))) => (fun (x73 : ((x72 : @PySem.Tok) → (@PySem.Sem @PySem.Fin))) => (@PySem.Sem.fresh @PySem.Fin x73))) (fun (x75 : ((x74 : @PySem.Setting) → (@PySem.Sem @PySem.Value))) => (fun (x77 : ((x76 : @PySem.Setting) → (@PySem.Sem @PySem.Fin))) => (@PySem.Sem.ask @PySem.Fin x77))) (fun (x78 : @PySem.Source) => (fun (x79 : @Nat) => (fun (x80 : y10) => (fun (x81 : y12) => (@PySem.Sem.choose @PySem.Fin x78 x79 x81))))) (fun (x82 : @PySem.OsRequest) => (fun (x83 : (@List.{0} @PySem.Value)) => (fun (x85 : ((x84 : @PySem.OsReply) → (@PySem.Sem @PySem.Value))) => (fun (x87 : ((x86 : @PySem.OsReply) → (@PySem.Sem @PySem.Fin))) => (@PySem.Sem.os @PySem.Fin x82 x83 x87))))) (fun (x88 : @PySem.Code) => (fun (x89 : (@Option.{0} @PySem.Value)) => (fun (x90 : @Bool) => (fun (x91 : (@List.{0} @PySem.Value)) => (fun (x93 : ((x92 : @PySem.Result) → (@PySem.Sem @PySem.Value))) => (fun (x95 : ((x94 : @PySem.Result) → (@PySem.Sem @PySem.Fin))) => (@PySem.Sem.call @PySem.Fin x88 x89 x90 x91 x95))))))) (fun (x96 : @Bool) => (fun (x98 : ((x97 : (@Option.{0} @PySem.Value)) → (@PySem.Sem @PySem.Value))) => (fun (x100 : ((x99 : (@Option.{0} @PySem.Value)) → (@PySem.Sem @PySem.Fin))) => (@PySem.Sem.handled @PySem.Fin x96 x100)))) (fun (x101 : @PySem.Code) => (fun (x102 : y10) => (fun (x103 : y12) => (@PySem.Sem.newGen @PySem.Fin x101 x103)))) (fun (x104 : @Nat) => (fun (x106 : ((x105 : y15) → (@PySem.Sem @PySem.Value))) => (fun (x108 : ((x107 : y15) → (@PySem.Sem @PySem.Fin))) => (@PySem.Sem.genState @PySem.Fin x104 x108)))) (fun (x109 : @Nat) => (fun (x110 : @PySem.Resume) => (fun (x111 : (@List.{0} @PySem.Value)) => (fun (x113 : ((x112 : @PySem.GenResult) → (@PySem.Sem @PySem.Value))) => (fun (x115 : ((x114 : @PySem.GenResult) → (@PySem.Sem @PySem.Fin))) => (@PySem.Sem.resume @PySem.Fin x109 x110 x111 x115)))))) (fun (x116 : @PySem.Value) => (fun (x117 : @Bool) => (fun (x118 : (@List.{0} @PySem.Value)) => (fun (x120 : ((x119 : @PySem.Resume) → (@PySem.Sem @PySem.Value))) => (fun (x122 : ((x121 : @PySem.Resume) → (@PySem.Sem @PySem.Fin))) => (@PySem.Sem.yield @PySem.Fin x116 x117 x118 x122)))))) (fun (x124 : ((x123 : y14) → (@PySem.Sem @PySem.Value))) => (fun (x126 : ((x125 : y14) → (@PySem.Sem @PySem.Fin))) => (@PySem.Sem.stack @PySem.Fin x126))) (fun (x127 : @PySem.Code) => (fun (x128 : y10) => (fun (x129 : y12) => (@PySem.Sem.fork @PySem.Fin x127 x129)))) (fun (x130 : y10) => (fun (x131 : y12) => (@PySem.Sem.thread @PySem.Fin x131))) (fun (x132 : @PySem.Addr) => (fun (x134 : ((x133 : @PySem.Obj) → (@Option.{0} @PySem.Obj))) => (fun (x135 : @Bool) => (fun (x136 : (@List.{0} @PySem.Value)) => (fun (x138 : ((x137 : @Bool) → (@PySem.Sem @PySem.Value))) => (fun (x140 : ((x139 : @Bool) → (@PySem.Sem @PySem.Fin))) => (@PySem.Sem.await @PySem.Fin x132 x134 x135 x136 x140))))))) (@Bool.rec.{1} (fun (x141 : @Bool) => (@PySem.Sem @PySem.Value)) (@Bind.bind.{0, 0} @PySem.Sem y1 @PySem.Value @PySem.Value (@PySem.W.ZFast.zw14684505520029207082 y5) (fun (x142 : @PySem.Value) => (@Bind.bind.{0, 0} @PySem.Sem y1 @Bool @PySem.Value (@PySem.W.ZFast.zw16098473122060591676 x142 y5) (fun (x143 : @Bool) => (@PySem.W.X.condFn.{1} (@PySem.Sem @PySem.Value) x143 (@Pure.pure.{0, 0} @PySem.Sem y16 @PySem.Value x142) (@Bind.bind.{0, 0} @PySem.Sem y1 (@Option.{0} @PySem.Value) @PySem.Value (@PySem.W.ZFast.zw18250491105767826471 y5 (@PySem.Str.mk (@Array.mk.{0} @Nat (@List.cons.{0} @Nat (nat_lit 95) (@List.cons.{0} @Nat (nat_lit 95) (@List.cons.{0} @Nat (nat_lit 99) (@List.cons.{0} @Nat (nat_lit 108) (@List.cons.{0} @Nat (nat_lit 97) (@List.cons.{0} @Nat (nat_lit 115) (@List.cons.{0} @Nat (nat_lit 115) (@List.cons.{0} @Nat (nat_lit 95) (@List.cons.{0} @Nat (nat_lit 95) (@List.nil.{0} @Nat))))))))))))) (fun (x144 : (@Option.{0} @PySem.Value)) => (let x162 : y6 := (fun (x145 : @Unit) => (@Bind.bind.{0, 0} @PySem.Sem y1 @Unit @PySem.Value y17 (fun (x146 : @Unit) => (@Bind.bind.{0, 0} @PySem.Sem y1 @Bool @PySem.Value y18 (fun (x147 : @Bool) => (let x160 : y6 := (fun (x148 : @Unit) => (@Bind.bind.{0, 0} @PySem.Sem y1 @Unit @PySem.Value (@PySem.rule "super.obj-not-instance") (fun (x149 : @Unit) => (@Bind.bind.{0, 0} @PySem.Sem y1 @Bool @PySem.Value y18 (fun (x150 : @Bool) => (let x155 : ((x151 : @String) → (@PySem.Sem @PySem.Value)) := (fun (x152 : @String) => (@Bind.bind.{0, 0} @PySem.Sem y1 @Unit @PySem.Value (@PySem.rule "super.check.no-instance-or-subtype") (fun (x153 : @Unit) => (@Bind.bind.{0, 0} @PySem.Sem y1 @String @PySem.Value y19 (fun (x154 : @String) => (@PySem.W.ZFast.zw4082907035670056827 @PySem.Value @PySem.W.SZ.s2804747833354056582x9 (@HAppend.hAppend.{0, 0, 0} @String @String @String y20 (@HAppend.hAppend.{0, 0, 0} @String @String @String y20 (@HAppend.hAppend.{0, 0, 0} @String @String @String y20 (@HAppend.hAppend.{0, 0, 0} @String @String @String y20 (@ToString.toString.{0} @String @instToStringString "super(type, obj): obj (") (@ToString.toString.{0} @String @instToStringString x152)) (@ToString.toString.{0} @String @instToStringString ") is not an instance or subtype of type (")) (@ToString.toString.{0} @String @instToStringString x154)) (@ToString.toString.{0} @String @instToStringString ").")))))))); let y156 := (fun (x157 : @String) => (x155 x157)); (@PySem.W.X.condFn.{1} (@PySem.Sem @PySem.Value) x150 (@Bind.bind.{0, 0} @PySem.Sem y1 @String @PySem.Value y19 (fun (x158 : @String) => (@Bind.bind.{0, 0} @PySem.Sem y1 @String @PySem.Value (@Pure.pure.{0, 0} @PySem.Sem y16 @String (@HAppend.hAppend.{0, 0, 0} @String @String @String y20 (@ToString.toString.{0} @String @instToStringString "type ") (@ToString.toString.{0} @String @instToStringString x158))) y156))) (@Bind.bind.{0, 0} @PySem.Sem y1 @String @PySem.Value (@PySem.W.ZFast.zw8349319619548498818 y5) (fun (x159 : @String) => (@Bind.bind.{0, 0} @PySem.Sem y1 @String @PySem.Value (@Pure.pure.{0, 0} @PySem.Sem y16 @String (@HAppend.hAppend.{0, 0, 0} @String @String @String y20 (@ToString.toString.{0} @String @instToStringString "instance of ") (@ToString.toString.{0} @String @instToStringString x159))) y156)))))))))); (@PySem.W.X.condFn.{1} (@PySem.Sem @PySem.Value) x147 (@Bind.bind.{0, 0} @PySem.Sem y1 @Unit @PySem.Value y17 (fun (x161 : @Unit) => (x160 x161))) (x160 @Unit.unit)))))))); (@Option.rec.{1, 0} @PySem.Value (fun (x163 : (@Option.{0} @PySem.Value)) => let y164 := (y21 x163); ((x166 : ((x165 : (@Nat.hasNotBit (nat_lit 2) (@Option.ctorIdx.{0} @PySem.Value x163))) → y164)) → y164)) (fun (x168 : ((x167 : (@Nat.hasNotBit (nat_lit 2) (@Option.ctorIdx.{0} @PySem.Value (@Option.none.{0} @PySem.Value)))) → (y21 (@Option.none.{0} @PySem.Value)))) => (x168 (@Nat.ne_of_beq_eq_false (@Nat.land (@OfNat.ofNat.{0} @Nat (nat_lit 1) (@instOfNatNat (nat_lit 1))) (@Nat.shiftRight (nat_lit 2) (nat_lit 0))) (@OfNat.ofNat.{0} @Nat (nat_lit 1) (@instOfNatNat (nat_lit 1))) (@Eq.refl.{1} @Bool @Bool.false)))) (fun (x169 : @PySem.Value) => let y170 := (@Option.some.{0} @PySem.Value x169); (fun (x172 : ((x171 : (@Nat.hasNotBit (nat_lit 2) (@Option.ctorIdx.{0} @PySem.Value y170))) → (y21 y170))) => ((fun (x173 : @PySem.Value) => ((fun (x174 : @PySem.Value) => (@Bind.bind.{0, 0} @PySem.Sem y1 @Bool @PySem.Value (@PySem.W.ZFast.zw10380811246957099773 x174) (fun (x175 : @Bool) => (@PySem.W.X.condFn.{1} (@PySem.Sem @PySem.Value) x175 (@PySem.W.X.condFn.{1} (@PySem.Sem @PySem.Value) (@bne.{0} @PySem.Value y24 x174 x142) (@Bind.bind.{0, 0} @PySem.Sem y1 @Bool @PySem.Value (@PySem.W.ZFast.zw16098473122060591676 x174 y5) (fun (x176 : @Bool) => (@PySem.W.X.condFn.{1} (@PySem.Sem @PySem.Value) x176 (@Bind.bind.{0, 0} @PySem.Sem y1 @Unit @PySem.Value (@PySem.rule "super.by-__class__") (fun (x177 : @Unit) => (@Pure.pure.{0, 0} @PySem.Sem y16 @PySem.Value x174))) (x162 @Unit.unit)))) (x162 @Unit.unit)) (x162 @Unit.unit))))) x173)) x169))) x144 (fun (x178 : (@Nat.hasNotBit (nat_lit 2) (@Option.ctorIdx.{0} @PySem.Value x144))) => ((fun (x179 : (@Option.{0} @PySem.Value)) => (x162 @Unit.unit)) x144))))))))))) (@Pure.pure.{0, 0} @PySem.Sem y16 @PySem.Value y5) (@Bool.rec.{1} (fun (x180 : @Bool) => @Bool) (@List.rec.{1, 0} @PySem.Value (fun (x181 : (@List.{0} @PySem.Value)) => @Bool) @Bool.false (fun (x182 : @PySem.Value) => (fun (x183 : (@List.{0} @PySem.Value)) => (fun (x184 : @Bool) => (@Bool.rec.{1} (fun (x185 : @Bool) => @Bool) x184 @Bool.true (@BEq.beq.{0} @PySem.Value y24 y5 x182))))) (@List.cons.{0} @PySem.Value (@PySem.Value.type @PySem.W.SZ.s2742458400755230247x6) (@List.nil.{0} @PySem.Value))) @Bool.true (@Decidable.rec.{1} y25 (fun (x186 : y26) => @Bool) (fun (x187 : (@Not y25)) => @Bool.false) (fun (x188 : y25) => @Bool.true) (@Decidable.rec.{1} y27 (fun (x189 : (@Decidable y27)) => y26) (fun (x190 : (@Not y27)) => (@Decidable.isFalse y25 (@PySem.instDecidableEqValue.decEq._proof_20 y4 y4 x190))) (fun (x191 : y27) => (@Eq.ndrec.{1, 1} @PySem.Addr y4 (fun (x192 : @PySem.Addr) => (@Decidable (@Eq.{1} @PySem.Value y5 (@PySem.Value.ref x192)))) (@Decidable.isTrue y25 (@PySem.instDecidableEqValue.decEq._proof_19 y4)) y4 x191)) d)))))
noncomputable def dC5 (N : Nat) : Decidable (N + 60 = N + 60) := (.isTrue rfl)
noncomputable def cF5 (N : Nat) (t : Nat) (d : Decidable (N + 60 = N + 60)) : Sem Fin := let y1 := (@Prod.{0, 0} (@Option.{0} @PySem.Fin) @Unit); let y2 := (@PySem.Sem y1); let y3 := (@Applicative.toPure.{0, 0} @PySem.Sem (@Monad.toApplicative.{0, 0} @PySem.Sem @PySem.W.ZFast.zw12456147031677567982)); let y4 := (@instHAdd.{0} @Nat @instAddNat); let y5 := (@List.cons.{0} @Nat (nat_lit 95) (@List.cons.{0} @Nat (nat_lit 95) (@List.nil.{0} @Nat))); let y6 := (@PySem.Str.mk (@Array.mk.{0} @Nat (@List.cons.{0} @Nat (nat_lit 95) (@List.cons.{0} @Nat (nat_lit 95) (@List.cons.{0} @Nat (nat_lit 105) (@List.cons.{0} @Nat (nat_lit 110) (@List.cons.{0} @Nat (nat_lit 105) (@List.cons.{0} @Nat (nat_lit 116) (@List.cons.{0} @Nat (nat_lit 95) (@List.cons.{0} @Nat (nat_lit 115) (@List.cons.{0} @Nat (nat_lit 117) (@List.cons.{0} @Nat (nat_lit 98) (@List.cons.{0} @Nat (nat_lit 99) (@List.cons.{0} @Nat (nat_lit 108) (@List.cons.{0} @Nat (nat_lit 97) (@List.cons.{0} @Nat (nat_lit 115) (@List.cons.{0} @Nat (nat_lit 115) y5))))))))))))))))); let y7 := (@List.nil.{0} (@Prod.{0, 0} @PySem.Str @PySem.Value)); let y8 := ((x9 : @Unit) → y2); let y10 := ((x11 : @Unit) → (@PySem.Sem @PySem.Fin)); let y12 := ((x13 : @Nat) → y2); let y14 := ((x15 : @Nat) → (@PySem.Sem @PySem.Fin)); let y16 := (@List.{0} (@Prod.{0, 0} @PySem.Code @PySem.Pos)); let y17 := (@Prod.{0, 0} @PySem.GenStatus (@Option.{0} y16)); let y18 := ((x19 : y1) → y2); let y20 := (fun (x21 : y1) => (@Pure.pure.{0, 0} @PySem.Sem y3 y1 x21)); let y22 := (@Monad.toBind.{0, 0} @PySem.Sem @PySem.W.ZFast.zw12456147031677567982); let y23 := (@ForInStep.{0} y1); let y24 := (fun (x25 : (@Option.{0} @PySem.Value)) => (@PySem.Sem y23)); let y26 := (fun (x27 : (@Option.{0} @PySem.Value)) => (y24 x27)); let y28 := (@instBEqOfDecidableEq.{0} @PySem.Value @PySem.W.ZFast.zw7966671052430208091); let y29 := (fun (x30 : (@Array.{0} @PySem.Value)) => (fun (x31 : @Nat) => (@LT.lt.{0} @Nat @instLTNat x31 (@Array.size.{0} @PySem.Value x30)))); let y32 := (@HAdd.hAdd.{0, 0, 0} @Nat @Nat @Nat y4 N (nat_lit 60)); let y33 := (@PySem.Value.ref y32); let y34 := (@Array.setIfInBounds.{0} @PySem.Value (@Array.setIfInBounds.{0} @PySem.Value (@Array.setIfInBounds.{0} @PySem.Value (@List.toArray.{0} @PySem.Value (@List.cons.{0} @PySem.Value @PySem.Value.none (@List.cons.{0} @PySem.Value @PySem.Value.none (@List.cons.{0} @PySem.Value @PySem.Value.none (@List.nil.{0} @PySem.Value))))) (@OfNat.ofNat.{0} @Nat (nat_lit 0) (@instOfNatNat (nat_lit 0))) y33) (@OfNat.ofNat.{0} @Nat (nat_lit 1) (@instOfNatNat (nat_lit 1))) y33) (@OfNat.ofNat.{0} @Nat (nat_lit 2) (@instOfNatNat (nat_lit 2))) y33); let y35 := (@Array.size.{0} @PySem.Value y34); let y36 := (@GetElem.getElem.{0, 0, 0} (@Array.{0} @PySem.Value) @Nat @PySem.Value y29 (@Array.instGetElemNatLtSize.{0} @PySem.Value) y34 (@OfNat.ofNat.{0} @Nat (nat_lit 1) (@instOfNatNat (nat_lit 1))) (@Nat.le_of_ble_eq_true (@Nat.succ (@OfNat.ofNat.{0} @Nat (nat_lit 1) (@instOfNatNat (nat_lit 1)))) y35 (@rfl.{1} @Bool @Bool.true))); let y37 := (@GetElem.getElem.{0, 0, 0} (@Array.{0} @PySem.Value) @Nat @PySem.Value y29 (@Array.instGetElemNatLtSize.{0} @PySem.Value) y34 (@OfNat.ofNat.{0} @Nat (nat_lit 2) (@instOfNatNat (nat_lit 2))) (@Nat.le_of_ble_eq_true (@Nat.succ (@OfNat.ofNat.{0} @Nat (nat_lit 2) (@instOfNatNat (nat_lit 2)))) y35 (@rfl.{1} @Bool @Bool.true))); let y38 := (fun (x39 : @PySem.Value) => (@Bind.bind.{0, 0} @PySem.Sem y22 @PySem.Fin y23 (@PySem.W.ZFast.zw6905046200447255374 x39) (fun (x40 : @PySem.Fin) => (@Pure.pure.{0, 0} @PySem.Sem y3 y23 (@ForInStep.done.{0} y1 (@Prod.mk.{0, 0} (@Option.{0} @PySem.Fin) @Unit (@Option.some.{0} @PySem.Fin x40) @Unit.unit)))))); let y41 := (@Prod.mk.{0, 0} (@Option.{0} @PySem.Fin) @Unit (@Option.none.{0} @PySem.Fin) @Unit.unit); let y42 := ((x43 : (@List.{0} @PySem.Value)) → (@List.{0} @PySem.Value)); let y44 := (fun (x45 : @Nat) => y42); let y46 := (@Nat.below.{1} y44 (@Nat.succ (nat_lit 0))); let y47 := ((x48 : y46) → (@List.{0} @PySem.Value)); let y49 := (@List.cons.{0} @PySem.Value (@PySem.Value.type @PySem.W.SZ.s2742458400755230247x6) (@List.nil.{0} @PySem.Value)); let y50 := (fun (x51 : (@List.{0} @PySem.Value)) => (@List.{0} @PySem.Value)); let y52 := (@GetElem.getElem.{0, 0, 0} (@Array.{0} @PySem.Value) @Nat @PySem.Value y29 (@Array.instGetElemNatLtSize.{0} @PySem.Value) y34 (@OfNat.ofNat.{0} @Nat (nat_lit 0) (@instOfNatNat (nat_lit 0))) (@Nat.le_of_ble_eq_true (@Nat.succ (@OfNat.ofNat.{0} @Nat (nat_lit 0) (@instOfNatNat (nat_lit 0)))) y35 (@rfl.{1} @Bool @Bool.true))); let y53 := (fun (x54 : @PySem.Value) => (@bne.{0} @PySem.Value y28 x54 y52)); let y55 := (@Eq.{1} @PySem.Value y33 y52); let y56 := (@Eq.{1} @PySem.Addr y32 y32); let y57 := (@Eq.{1} @PySem.Value y33 y33); (@PySem.Sem.rec.{1} y1 (fun (x58 : y2) => (@PySem.Sem @PySem.Fin)) (fun (x59 : y1) => (let x60 : y1 := x59; (@Break.runK.match_1.{0, 1} @PySem.Fin (fun (x61 : (@Option.{0} @PySem.Fin)) => (@PySem.Sem @PySem.Fin)) (@Prod.fst.{0, 0} (@Option.{0} @PySem.Fin) @Unit x60) (fun (x62 : @PySem.Fin) => (@Pure.pure.{0, 0} @PySem.Sem y3 @PySem.Fin x62)) (fun (x63 : @Unit) => (@PySem.W.ZFast.zw12377390311714414960 (@PySem.Code.builtin @PySem.W.SZ.s8788111523789015523x23 (@PySem.Args.mk (@HAppend.hAppend.{0, 0, 0} (@List.{0} @PySem.Value) (@List.{0} @PySem.Value) (@List.{0} @PySem.Value) (@instHAppendOfAppend.{0} (@List.{0} @PySem.Value) (@PySem.W.ZFast.zw15056007747304108558.{0} @PySem.Value)) (@List.cons.{0} @PySem.Value (@PySem.Value.ref (@HAdd.hAdd.{0, 0, 0} @Nat @Nat @Nat y4 N (nat_lit 62))) (@List.nil.{0} @PySem.Value)) (@List.cons.{0} @PySem.Value (@PySem.Value.str y6 (@HAdd.hAdd.{0, 0, 0} @Nat @Nat @Nat y4 t (@HAdd.hAdd.{0, 0, 0} @Nat @Nat @Nat y4 (@HAdd.hAdd.{0, 0, 0} @Nat @Nat @Nat y4 (@HAdd.hAdd.{0, 0, 0} @Nat @Nat @Nat y4 (@HAdd.hAdd.{0, 0, 0} @Nat @Nat @Nat y4 (@HAdd.hAdd.{0, 0, 0} @Nat @Nat @Nat y4 (@HAdd.hAdd.{0, 0, 0} @Nat @Nat @Nat y4 (@HAdd.hAdd.{0, 0, 0} @Nat @Nat @Nat y4 (@HAdd.hAdd.{0, 0, 0} @Nat @Nat @Nat y4 (@HAdd.hAdd.{0, 0, 0} @Nat @Nat @Nat y4 (@HAdd.hAdd.{0, 0, 0} @Nat @Nat @Nat y4 (@HAdd.hAdd.{0, 0, 0} @Nat @Nat @Nat y4 (@HAdd.hAdd.{0, 0, 0} @Nat @Nat @Nat y4 (@HAdd.hAdd.{0, 0, 0} @Nat @Nat @Nat y4 (@HAdd.hAdd.{0, 0, 0} @Nat @Nat @Nat y4 (@HAdd.hAdd.{0, 0, 0} @Nat @Nat @Nat y4 (@HAdd.hAdd.{0, 0, 0} @Nat @Nat @Nat y4 (@HAdd.hAdd.{0, 0, 0} @Nat @Nat @Nat y4 (@HAdd.hAdd.{0, 0, 0} @Nat @Nat @Nat y4 (@HAdd.hAdd.{0, 0, 0} @Nat @Nat @Nat y4 (@HAdd.hAdd.{0, 0, 0} @Nat @Nat @Nat y4 (@HAdd.hAdd.{0, 0, 0} @Nat @Nat @Nat y4 (@HAdd.hAdd.{0, 0, 0} @Nat @Nat @Nat y4 (@HAdd.hAdd.{0, 0, 0} @Nat @Nat @Nat y4 (@HAdd.hAdd.{0, 0, 0} @Nat @Nat @Nat y4 (@HAdd.hAdd.{0, 0, 0} @Nat @Nat @Nat y4 (@HAdd.hAdd.{0, 0, 0} @Nat @Nat @Nat y4 (@HAdd.hAdd.{0, 0, 0} @Nat @Nat @Nat y4 (@HAdd.hAdd.{0, 0, 0} @Nat @Nat @Nat y4 (@HAdd.hAdd.{0, 0, 0} @Nat @Nat @Nat y4 (@HAdd.hAdd.{0, 0, 0} @Nat @Nat @Nat y4 (@HAdd.hAdd.{0, 0, 0} @Nat @Nat @Nat y4 (@HAdd.hAdd.{0, 0, 0} @Nat @Nat @Nat y4 (@HAdd.hAdd.{0, 0, 0} @Nat @Nat @Nat y4 (@HAdd.hAdd.{0, 0, 0} @Nat @Nat @Nat y4 (@HAdd.hAdd.{0, 0, 0} @Nat @Nat @Nat y4 (@HAdd.hAdd.{0, 0, 0} @Nat @Nat @Nat y4 (@HAdd.hAdd.{0, 0, 0} @Nat @Nat @Nat y4 (@HAdd.hAdd.{0, 0, 0} @Nat @Nat @Nat y4 (@HAdd.hAdd.{0, 0, 0} @Nat @Nat @Nat y4 (@HAdd.hAdd.{0, 0, 0} @Nat @Nat @Nat y4 (@HAdd.hAdd.{0, 0, 0} @Nat @Nat @Nat y4 (@HAdd.hAdd.{0, 0, 0} @Nat @Nat @Nat y4 (@HAdd.hAdd.{0, 0, 0} @Nat @Nat @Nat y4 (@HAdd.hAdd.{0, 0, 0} @Nat @Nat @Nat y4 (@HAdd.hAdd.{0, 0, 0} @Nat @Nat @Nat y4 (@HAdd.hAdd.{0, 0, 0} @Nat @Nat @Nat y4 (@HAdd.hAdd.{0, 0, 0} @Nat @Nat @Nat y4 (@HAdd.hAdd.{0, 0, 0} @Nat @Nat @Nat y4 (@HAdd.hAdd.{0, 0, 0} @Nat @Nat @Nat y4 (@HAdd.hAdd.{0, 0, 0} @Nat @Nat @Nat y4 (@HAdd.hAdd.{0, 0, 0} @Nat @Nat @Nat y4 (@HAdd.hAdd.{0, 0, 0} @Nat @Nat @Nat y4 (@HAdd.hAdd.{0, 0, 0} @Nat @Nat @Nat y4 (@HAdd.hAdd.{0, 0, 0} @Nat @Nat @Nat y4 (@HAdd.hAdd.{0, 0, 0} @Nat @Nat @Nat y4 (@HAdd.hAdd.{0, 0, 0} @Nat @Nat @Nat y4 (@HAdd.hAdd.{0, 0, 0} @Nat @Nat @Nat y4 (@HAdd.hAdd.{0, 0, 0} @Nat @Nat @Nat y4 (@HAdd.hAdd.{0, 0, 0} @Nat @Nat @Nat y4 (@HAdd.hAdd.{0, 0, 0} @Nat @Nat @Nat y4 (@HAdd.hAdd.{0, 0, 0} @Nat @Nat @Nat y4 (@HAdd.hAdd.{0, 0, 0} @Nat @Nat @Nat y4 (@HAdd.hAdd.{0, 0, 0} @Nat @Nat @Nat y4 (@HAdd.hAdd.{0, 0, 0} @Nat @Nat @Nat y4 (@HAdd.hAdd.{0, 0, 0} @Nat @Nat @Nat y4 (@HAdd.hAdd.{0, 0, 0} @Nat @Nat @Nat y4 (@HAdd.hAdd.{0, 0, 0} @Nat @Nat @Nat y4 (@HAdd.hAdd.{0, 0, 0} @Nat @Nat @Nat y4 (@HAdd.hAdd.{0, 0, 0} @Nat @Nat @Nat y4 (@HAdd.hAdd.{0, 0, 0} @Nat @Nat @Nat y4 (@HAdd.hAdd.{0, 0, 0} @Nat @Nat @Nat y4 (@HAdd.hAdd.{0, 0, 0} @Nat @Nat @Nat y4 (@HAdd.hAdd.{0, 0, 0} @Nat @Nat @Nat y4 (@HAdd.hAdd.{0, 0, 0} @Nat @Nat @Nat y4 (@HAdd.hAdd.{0, 0, 0} @Nat @Nat @Nat y4 (@HAdd.hAdd.{0, 0, 0} @Nat @Nat @Nat y4 (@OfNat.ofNat.{0} @Nat (nat_lit 0) (@instOfNatNat (nat_lit 0))) (nat_lit 1)) (nat_lit 1)) (nat_lit 1)) (nat_lit 1)) (nat_lit 1)) (nat_lit 1)) (nat_lit 1)) (nat_lit 1)) (nat_lit 1)) (nat_lit 1)) (nat_lit 1)) (nat_lit 1)) (nat_lit 1)) (nat_lit 1)) (nat_lit 1)) (nat_lit 1)) (nat_lit 1)) (nat_lit 1)) (nat_lit 1)) (nat_lit 1)) (nat_lit 1)) (nat_lit 1)) (nat_lit 1)) (nat_lit 1)) (nat_lit 1)) (nat_lit 1)) (nat_lit 1)) (nat_lit 1)) (nat_lit 1)) (nat_lit 1)) (nat_lit 1)) (nat_lit 1)) (nat_lit 1)) (nat_lit 1)) (nat_lit 1)) (nat_lit 1)) (nat_lit 1)) (nat_lit 1)) (nat_lit 1)) (nat_lit 1)) (nat_lit 1)) (nat_lit 1)) (nat_lit 1)) (nat_lit 1)) (nat_lit 1)) (nat_lit 1)) (nat_lit 1)) (nat_lit 1)) (nat_lit 1)) (nat_lit 1)) (nat_lit 1)) (nat_lit 1)) (nat_lit 1)) (nat_lit 1)) (nat_lit 1)) (nat_lit 1)) (nat_lit 1)) (nat_lit 1)) (nat_lit 1)) (nat_lit 1)) (nat_lit 1)) (nat_lit 1)) (nat_lit 1)) (nat_lit 1)) (nat_lit 1)) (nat_lit 1)) (nat_lit 1)) (nat_lit 1)) (nat_lit 1)) (nat_lit 1)) (nat_lit 1)) (nat_lit 1)) (nat_lit 1)) (nat_lit 1)) (nat_lit 1)) (nat_lit 1)))) (@List.nil.{0} @PySem.Value))) y7))))))) (fun (x64 : @PySem.Value) => (@PySem.Sem.raise @PySem.Fin x64)) (fun (x65 : @String) => (@PySem.Sem.unsupported @PySem.Fin x65)) (fun (x66 : @PySem.Ending) => (@PySem.Sem.finish @PySem.Fin x66)) (fun (x67 : @String) => (fun (x68 : y8) => (fun (x69 : y10) => (@PySem.Sem.rule @PySem.Fin x67 x69)))) (fun (x70 : @PySem.Pos) => (fun (x71 : y8) => (fun (x72 : y10) => (@PySem.Sem.at @PySem.Fin x70 x72)))) (fun (x73 : @PySem.Addr) => (fun (x74 : (@Option.{0} @PySem.Value)) => (fun (x76 : ((x75 : @PySem.Obj) → y2)) => (fun (x78 : ((x77 : @PySem.Obj) → (@PySem.Sem @PySem.Fin))) => (@PySem.Sem.load @PySem.Fin x73 x74 x78))))) (fun (x79 : @PySem.Addr) => (fun (x80 : (@Option.{0} @PySem.Value)) => (fun (x82 : ((x81 : @PySem.Obj) → @PySem.Obj)) => (fun (x83 : y8) => (fun (x84 : y10) => (@PySem.Sem.update @PySem.Fin x79 x80 x82 x84)))))) (fun (x85 : @PySem.Obj) => (fun (x87 : ((x86 : @PySem.Addr) → y2)) => (fun (x89 : ((x88 : @PySem.Addr) → (@PySem.Sem @PySem.Fin))) => (@PySem.Sem.alloc @PySem.Fin x85 x89)))) (fun (x90 : @PySem.Addr) => (fun (x92 : ((x91 : (@Option.{0} @PySem.Obj)) → y2)) => (fun (x94 : ((x93 : (@Option.{0} @PySem.Obj)) → (@PySem.Sem @PySem.Fin))) => (@PySem.Sem.loadIfAlive @PySem.Fin x90 x94)))) (fun (x95 : (@List.{0} @PySem.Value)) => (fun (x96 : y8) => (fun (x97 : y10) => (@PySem.Sem.point @PySem.Fin x95 x97)))) (fun (x98 : @PySem.Addr) => (fun (x99 : y8) => (fun (x100 : y10) => (@PySem.Sem.register @PySem.Fin x98 x100)))) (fun (x102 : ((x101 : @PySem.Tok) → y2)) => (fun (x104 : ((x103 : @PySem.Tok) → (@PySem.Sem @PySem.Fin))) => (@PySem.Sem.fresh @PySem.Fin x104))) (fun (x106 : ((x105 : @PySem.Setting) → y2)) => (fun (x108 : ((x107 : @PySem.Setting) → (@PySem.Sem @PySem.Fin))) => (@PySem.Sem.ask @PySem.Fin x108))) (fun (x109 : @PySem.Source) => (fun (x110 : @Nat) => (fun (x111 : y12) => (fun (x112 : y14) => (@PySem.Sem.choose @PySem.Fin x109 x110 x112))))) (fun (x113 : @PySem.OsRequest) => (fun (x114 : (@List.{0} @PySem.Value)) => (fun (x116 : ((x115 : @PySem.OsReply) → y2)) => (fun (x118 : ((x117 : @PySem.OsReply) → (@PySem.Sem @PySem.Fin))) => (@PySem.Sem.os @PySem.Fin x113 x114 x118))))) (fun (x119 : @PySem.Code) => (fun (x120 : (@Option.{0} @PySem.Value)) => (fun (x121 : @Bool) => (fun (x122 : (@List.{0} @PySem.Value)) => (fun (x124 : ((x123 : @PySem.Result) → y2)) => (fun (x126 : ((x125 : @PySem.Result) → (@PySem.Sem @PySem.Fin))) => (@PySem.Sem.call @PySem.Fin x119 x120 x121 x122 x126))))))) (fun (x127 : @Bool) => (fun (x129 : ((x128 : (@Option.{0} @PySem.Value)) → y2)) => (fun (x131 : ((x130 : (@Option.{0} @PySem.Value)) → (@PySem.Sem @PySem.Fin))) => (@PySem.Sem.handled @PySem.Fin x127 x131)))) (fun (x132 : @PySem.Code) => (fun (x133 : y12) => (fun (x134 : y14) => (@PySem.Sem.newGen @PySem.Fin x132 x134)))) (fun (x135 : @Nat) => (fun (x137 : ((x136 : y17) → y2)) => (fun (x139 : ((x138 : y17) → (@PySem.Sem @PySem.Fin))) => (@PySem.Sem.genState @PySem.Fin x135 x139)))) (fun (x140 : @Nat) => (fun (x141 : @PySem.Resume) => (fun (x142 : (@List.{0} @PySem.Value)) => (fun (x144 : ((x143 : @PySem.GenResult) → y2)) => (fun (x146 : ((x145 : @PySem.GenResult) → (@PySem.Sem @PySem.Fin))) => (@PySem.Sem.resume @PySem.Fin x140 x141 x142 x146)))))) (fun (x147 : @PySem.Value) => (fun (x148 : @Bool) => (fun (x149 : (@List.{0} @PySem.Value)) => (fun (x151 : ((x150 : @PySem.Resume) → y2)) => (fun (x153 : ((x152 : @PySem.Resume) → (@PySem.Sem @PySem.Fin))) => (@PySem.Sem.yield @PySem.Fin x147 x148 x149 x153)))))) (fun (x155 : ((x154 : y16) → y2)) => (fun (x157 : ((x156 : y16) → (@PySem.Sem @PySem.Fin))) => (@PySem.Sem.stack @PySem.Fin x157))) (fun (x158 : @PySem.Code) => (fun (x159 : y12) => (fun (x160 : y14) => (@PySem.Sem.fork @PySem.Fin x158 x160)))) (fun (x161 : y12) => (fun (x162 : y14) => (@PySem.Sem.thread @PySem.Fin x162))) (fun (x163 : @PySem.Addr) => (fun (x165 : ((x164 : @PySem.Obj) → (@Option.{0} @PySem.Obj))) => (fun (x166 : @Bool) => (fun (x167 : (@List.{0} @PySem.Value)) => (fun (x169 : ((x168 : @Bool) → y2)) => (fun (x171 : ((x170 : @Bool) → (@PySem.Sem @PySem.Fin))) => (@PySem.Sem.await @PySem.Fin x163 x165 x166 x167 x171))))))) (@List.rec.{1, 0} @PySem.Value (fun (x172 : (@List.{0} @PySem.Value)) => y18) y20 (fun (x173 : @PySem.Value) => (fun (x174 : (@List.{0} @PySem.Value)) => (fun (x175 : y18) => (fun (x176 : y1) => (@Bind.bind.{0, 0} @PySem.Sem y22 y23 y1 (@Bind.bind.{0, 0} @PySem.Sem y22 (@Option.{0} @PySem.Value) y23 (@PySem.W.ZFast.zw16165789035321007116 x173 y6) (fun (x177 : (@Option.{0} @PySem.Value)) => (@Option.rec.{1, 0} @PySem.Value (fun (x178 : (@Option.{0} @PySem.Value)) => let y179 := (y26 x178); ((x181 : ((x180 : (@Nat.hasNotBit (nat_lit 2) (@Option.ctorIdx.{0} @PySem.Value x178))) → y179)) → y179)) (fun (x183 : ((x182 : (@Nat.hasNotBit (nat_lit 2) (@Option.ctorIdx.{0} @PySem.Value (@Option.none.{0} @PySem.Value)))) → (y26 (@Option.none.{0} @PySem.Value)))) => (x183 (@Nat.ne_of_beq_eq_false (@Nat.land (@OfNat.ofNat.{0} @Nat (nat_lit 1) (@instOfNatNat (nat_lit 1))) (@Nat.shiftRight (nat_lit 2) (nat_lit 0))) (@OfNat.ofNat.{0} @Nat (nat_lit 1) (@instOfNatNat (nat_lit 1))) (@Eq.refl.{1} @Bool @Bool.false)))) (fun (x184 : @PySem.Value) => let y185 := (@Option.some.{0} @PySem.Value x184); (fun (x187 : ((x186 : (@Nat.hasNotBit (nat_lit 2) (@Option.ctorIdx.{0} @PySem.Value y185))) → (y26 y185))) => ((fun (x188 : @PySem.Value) => ((fun (x189 : @PySem.Value) => (@Bind.bind.{0, 0} @PySem.Sem y22 @PySem.Value y23 (@PySem.W.ZFast.zw14684505520029207082 x189) (fun (x190 : @PySem.Value) => (@Bind.bind.{0, 0} @PySem.Sem y22 (@Option.{0} @PySem.Value) y23 (@PySem.W.ZFast.zw1381439984260040727 x190 (@PySem.Str.mk (@Array.mk.{0} @Nat (@List.cons.{0} @Nat (nat_lit 95) (@List.cons.{0} @Nat (nat_lit 95) (@List.cons.{0} @Nat (nat_lit 103) (@List.cons.{0} @Nat (nat_lit 101) (@List.cons.{0} @Nat (nat_lit 116) y5)))))))) (fun (x191 : (@Option.{0} @PySem.Value)) => (@PySem.Builtin.«super.__getattribute__».match_4.{1} y24 x191 (fun (x192 : @PySem.Value) => (@Bind.bind.{0, 0} @PySem.Sem y22 @PySem.Value y23 (@PySem.W.ZFast.zw17359229931016689406 @PySem.Value (@List.cons.{0} @PySem.Value x189 (@List.nil.{0} @PySem.Value)) (@PySem.W.ZFast.zw11478286150595567475 x192 (@List.cons.{0} @PySem.Value x189 (@List.cons.{0} @PySem.Value (@PySem.W.X.condFn.{1} @PySem.Value (@BEq.beq.{0} @PySem.Value y28 y36 y37) @PySem.Value.none y36) (@List.cons.{0} @PySem.Value y37 (@List.nil.{0} @PySem.Value)))) y7)) y38)) (fun (x193 : @Unit) => (@Bind.bind.{0, 0} @PySem.Sem y22 @PySem.Value y23 (@PySem.W.ZFast.zw7647782990772092024 x189) y38)))))))) x188)) x184))) x177 (fun (x194 : (@Nat.hasNotBit (nat_lit 2) (@Option.ctorIdx.{0} @PySem.Value x177))) => ((fun (x195 : (@Option.{0} @PySem.Value)) => (@Pure.pure.{0, 0} @PySem.Sem y3 y23 (@ForInStep.yield.{0} y1 y41))) x177))))) (fun (x196 : y23) => (@ForInStep.rec.{1, 0} y1 (fun (x197 : y23) => y2) y20 (fun (x198 : y1) => (x175 x198)) x196))))))) (@List.rec.{1, 0} @PySem.Value (fun (x199 : (@List.{0} @PySem.Value)) => y47) (fun (x200 : y46) => (@List.nil.{0} @PySem.Value)) (fun (x201 : @PySem.Value) => (fun (x202 : (@List.{0} @PySem.Value)) => (fun (x203 : y47) => (fun (x204 : y46) => ((x204).1 x202))))) (@Bool.rec.{1} (fun (x205 : @Bool) => (@List.{0} @PySem.Value)) (@List.cons.{0} @PySem.Value y33 y49) ((@List.rec.{1, 0} @PySem.Value (fun (x206 : (@List.{0} @PySem.Value)) => (@PProd.{1, 1} (@List.{0} @PySem.Value) (@List.below.{1, 0} @PySem.Value y50 x206))) (@PProd.mk.{1, 1} (@List.{0} @PySem.Value) @PUnit.{1} (@List.dropWhile._f.{0} @PySem.Value y53 (@List.nil.{0} @PySem.Value) @PUnit.unit.{1}) @PUnit.unit.{1}) (fun (x207 : @PySem.Value) => (fun (x208 : (@List.{0} @PySem.Value)) => let y209 := (@PProd.{1, 1} (@List.{0} @PySem.Value) (@List.below.{1, 0} @PySem.Value y50 x208)); (fun (x210 : y209) => (@PProd.mk.{1, 1} (@List.{0} @PySem.Value) y209 (@List.dropWhile._f.{0} @PySem.Value y53 (@List.cons.{0} @PySem.Value x207 x208) x210) x210)))) y49)).1 (@Bool.rec.{1} (fun (x211 : @Bool) => @Bool) @Bool.true @Bool.false (@Decidable.rec.{1} y55 (fun (x212 : (@Decidable y55)) => @Bool) (fun (x213 : (@Not y55)) => @Bool.false) (fun (x214 : y55) => @Bool.true) (@Decidable.rec.{1} y56 (fun (x215 : (@Decidable y56)) => (@Decidable y57)) (fun (x216 : (@Not y56)) => (@Decidable.isFalse y57 (@PySem.instDecidableEqValue.decEq._proof_20 y32 y32 x216))) (fun (x217 : y56) => (@Eq.ndrec.{1, 1} @PySem.Addr y32 (fun (x218 : @PySem.Addr) => (@Decidable (@Eq.{1} @PySem.Value y33 (@PySem.Value.ref x218)))) (@Decidable.isTrue y57 (@PySem.instDecidableEqValue.decEq._proof_19 y32)) y32 x217)) d)))) (@Nat.rec.{1} (fun (x219 : @Nat) => (@PProd.{1, 1} y42 (@Nat.below.{1} y44 x219))) (@PProd.mk.{1, 1} y42 @PUnit.{1} (@List.drop._f.{0} @PySem.Value @Nat.zero @PUnit.unit.{1}) @PUnit.unit.{1}) (fun (x220 : @Nat) => let y221 := (@PProd.{1, 1} y42 (@Nat.below.{1} y44 x220)); (fun (x222 : y221) => (@PProd.mk.{1, 1} y42 y221 (@List.drop._f.{0} @PySem.Value (@Nat.succ x220) x222) x222))) (nat_lit 0))) y41))
noncomputable def dC6 (N : Nat) : Decidable (N + 60 = N + 60) := (.isTrue rfl)
noncomputable def hF6 (N : Nat) (d : Decidable (N + 60 = N + 60)) : Value := let y1 := (fun (x2 : (@Array.{0} @PySem.Value)) => (fun (x3 : @Nat) => (@LT.lt.{0} @Nat @instLTNat x3 (@Array.size.{0} @PySem.Value x2)))); let y4 := (@HAdd.hAdd.{0, 0, 0} @Nat @Nat @Nat (@instHAdd.{0} @Nat @instAddNat) N (nat_lit 60)); let y5 := (@PySem.Value.ref y4); let y6 := (@Array.setIfInBounds.{0} @PySem.Value (@Array.setIfInBounds.{0} @PySem.Value (@Array.setIfInBounds.{0} @PySem.Value (@List.toArray.{0} @PySem.Value (@List.cons.{0} @PySem.Value @PySem.Value.none (@List.cons.{0} @PySem.Value @PySem.Value.none (@List.cons.{0} @PySem.Value @PySem.Value.none (@List.nil.{0} @PySem.Value))))) (@OfNat.ofNat.{0} @Nat (nat_lit 0) (@instOfNatNat (nat_lit 0))) y5) (@OfNat.ofNat.{0} @Nat (nat_lit 1) (@instOfNatNat (nat_lit 1))) y5) (@OfNat.ofNat.{0} @Nat (nat_lit 2) (@instOfNatNat (nat_lit 2))) y5); let y7 := (@Array.size.{0} @PySem.Value y6); let y8 := (@GetElem.getElem.{0, 0, 0} (@Array.{0} @PySem.Value) @Nat @PySem.Value y1 (@Array.instGetElemNatLtSize.{0} @PySem.Value) y6 (@OfNat.ofNat.{0} @Nat (nat_lit 1) (@instOfNatNat (nat_lit 1))) (@Nat.le_of_ble_eq_true (@Nat.succ (@OfNat.ofNat.{0} @Nat (nat_lit 1) (@instOfNatNat (nat_lit 1)))) y7 (@rfl.{1} @Bool @Bool.true))); let y9 := (@Eq.{1} @PySem.Value y8 (@GetElem.getElem.{0, 0, 0} (@Array.{0} @PySem.Value) @Nat @PySem.Value y1 (@Array.instGetElemNatLtSize.{0} @PySem.Value) y6 (@OfNat.ofNat.{0} @Nat (nat_lit 2) (@instOfNatNat (nat_lit 2))) (@Nat.le_of_ble_eq_true (@Nat.succ (@OfNat.ofNat.{0} @Nat (nat_lit 2) (@instOfNatNat (nat_lit 2)))) y7 (@rfl.{1} @Bool @Bool.true)))); let y10 := (@Eq.{1} @PySem.Addr y4 y4); let y11 := (@Eq.{1} @PySem.Value y5 y5); (@Bool.rec.{1} (fun (x12 : @Bool) => @PySem.Value) y8 @PySem.Value.none (@Decidable.rec.{1} y9 (fun (x13 : (@Decidable y9)) => @Bool) (fun (x14 : (@Not y9)) => @Bool.false) (fun (x15 : y9) => @Bool.true) (@Decidable.rec.{1} y10 (fun (x16 : (@Decidable y10)) => (@Decidable y11)) (fun (x17 : (@Not y10)) => (@Decidable.isFalse y11 (@PySem.instDecidableEqValue.decEq._proof_20 y4 y4 x17))) (fun (x18 : y10) => (@Eq.ndrec.{1, 1} @PySem.Addr y4 (fun (x19 : @PySem.Addr) => (@Decidable (@Eq.{1} @PySem.Value y5 (@PySem.Value.ref x19)))) (@Decidable.isTrue y11 (@PySem.instDecidableEqValue.decEq._proof_19 y4)) y4 x18)) d)))
noncomputable def vF6 (N : Nat) (v : Value) : Sem Fin := let y0 := (@Prod.{0, 0} (@Option.{0} @PySem.Value) (@Option.{0} @PySem.Value)); let y1 := (@Prod.{0, 0} @PySem.Value y0); let y2 := (@PySem.Sem y1); let y3 := (fun (x4 : y1) => (@PySem.Sem @PySem.Fin)); let y5 := (fun (x6 : @PySem.Value) => ((fun (x7 : @PySem.Value) => (@PySem.Sem @PySem.Fin)) x6)); let y8 := (@Prod.{0, 0} @String @String); let y9 := (@Monad.toBind.{0, 0} @PySem.Sem @PySem.W.ZFast.zw12456147031677567982); let y10 := ((x11 : @Unit) → (@PySem.Sem @PySem.Fin)); let y12 := (@instHAppendOfAppend.{0} @String @PySem.W.ZFast.zw9309626314029892736); let y13 := (@ToString.toString.{0} @String @instToStringString "descriptor '"); let y14 := ((x15 : @Unit) → y2); let y16 := ((x17 : @Nat) → y2); let y18 := ((x19 : @Nat) → (@PySem.Sem @PySem.Fin)); let y20 := (@List.{0} (@Prod.{0, 0} @PySem.Code @PySem.Pos)); let y21 := (@Prod.{0, 0} @PySem.GenStatus (@Option.{0} y20)); let y22 := (@PySem.Value.ref (@HAdd.hAdd.{0, 0, 0} @Nat @Nat @Nat (@instHAdd.{0} @Nat @instAddNat) N (nat_lit 60))); let y23 := (@Array.setIfInBounds.{0} @PySem.Value (@Array.setIfInBounds.{0} @PySem.Value (@Array.setIfInBounds.{0} @PySem.Value (@List.toArray.{0} @PySem.Value (@List.cons.{0} @PySem.Value @PySem.Value.none (@List.cons.{0} @PySem.Value @PySem.Value.none (@List.cons.{0} @PySem.Value @PySem.Value.none (@List.nil.{0} @PySem.Value))))) (@OfNat.ofNat.{0} @Nat (nat_lit 0) (@instOfNatNat (nat_lit 0))) y22) (@OfNat.ofNat.{0} @Nat (nat_lit 1) (@instOfNatNat (nat_lit 1))) y22) (@OfNat.ofNat.{0} @Nat (nat_lit 2) (@instOfNatNat (nat_lit 2))) y22); (@PySem.Sem.rec.{1} y1 (fun (x24 : y2) => (@PySem.Sem @PySem.Fin)) (fun (x25 : y1) => (@Prod.casesOn.{1, 0, 0} @PySem.Value y0 (fun (x26 : y1) => (y3 x26)) x25 (fun (x27 : @PySem.Value) => (fun (x28 : y0) => (@Prod.casesOn.{1, 0, 0} (@Option.{0} @PySem.Value) (@Option.{0} @PySem.Value) (fun (x29 : y0) => (y3 (@Prod.mk.{0, 0} @PySem.Value y0 x27 x29))) x28 (fun (x30 : (@Option.{0} @PySem.Value)) => (fun (x31 : (@Option.{0} @PySem.Value)) => ((fun (x32 : @PySem.Value) => (fun (x33 : (@Option.{0} @PySem.Value)) => (fun (x34 : (@Option.{0} @PySem.Value)) => (@PySem.Value.rec.{1} (fun (x35 : @PySem.Value) => let y36 := (y5 x35); ((x38 : ((x37 : (@Nat.hasNotBit (nat_lit 512) (@PySem.Value.ctorIdx x35))) → y36)) → y36)) (fun (x40 : ((x39 : (@Nat.hasNotBit (nat_lit 512) (@PySem.Value.ctorIdx @PySem.Value.none))) → (y5 @PySem.Value.none))) => (x40 (@Nat.ne_of_beq_eq_false (@Nat.land (@OfNat.ofNat.{0} @Nat (nat_lit 1) (@instOfNatNat (nat_lit 1))) (@Nat.shiftRight (nat_lit 512) (nat_lit 0))) (@OfNat.ofNat.{0} @Nat (nat_lit 1) (@instOfNatNat (nat_lit 1))) (@Eq.refl.{1} @Bool @Bool.false)))) (fun (x42 : ((x41 : (@Nat.hasNotBit (nat_lit 512) (@PySem.Value.ctorIdx @PySem.Value.ellipsis))) → (y5 @PySem.Value.ellipsis))) => (x42 (@Nat.ne_of_beq_eq_false (@Nat.land (@OfNat.ofNat.{0} @Nat (nat_lit 1) (@instOfNatNat (nat_lit 1))) (@Nat.shiftRight (nat_lit 512) (nat_lit 1))) (@OfNat.ofNat.{0} @Nat (nat_lit 1) (@instOfNatNat (nat_lit 1))) (@Eq.refl.{1} @Bool @Bool.false)))) (fun (x44 : ((x43 : (@Nat.hasNotBit (nat_lit 512) (@PySem.Value.ctorIdx @PySem.Value.notImplemented))) → (y5 @PySem.Value.notImplemented))) => (x44 (@Nat.ne_of_beq_eq_false (@Nat.land (@OfNat.ofNat.{0} @Nat (nat_lit 1) (@instOfNatNat (nat_lit 1))) (@Nat.shiftRight (nat_lit 512) (nat_lit 2))) (@OfNat.ofNat.{0} @Nat (nat_lit 1) (@instOfNatNat (nat_lit 1))) (@Eq.refl.{1} @Bool @Bool.false)))) (fun (x45 : @Bool) => (fun (x47 : ((x46 : (@Nat.hasNotBit (nat_lit 512) (@PySem.Value.ctorIdx (@PySem.Value.bool x45)))) → (y5 (@PySem.Value.bool x45)))) => (x47 (@Nat.ne_of_beq_eq_false (@Nat.land (@OfNat.ofNat.{0} @Nat (nat_lit 1) (@instOfNatNat (nat_lit 1))) (@Nat.shiftRight (nat_lit 512) (nat_lit 3))) (@OfNat.ofNat.{0} @Nat (nat_lit 1) (@instOfNatNat (nat_lit 1))) (@Eq.refl.{1} @Bool @Bool.false))))) (fun (x48 : @Int) => (fun (x49 : @PySem.Tok) => let y50 := (@PySem.Value.int x48 x49); (fun (x52 : ((x51 : (@Nat.hasNotBit (nat_lit 512) (@PySem.Value.ctorIdx y50))) → (y5 y50))) => (x52 (@Nat.ne_of_beq_eq_false (@Nat.land (@OfNat.ofNat.{0} @Nat (nat_lit 1) (@instOfNatNat (nat_lit 1))) (@Nat.shiftRight (nat_lit 512) (nat_lit 4))) (@OfNat.ofNat.{0} @Nat (nat_lit 1) (@instOfNatNat (nat_lit 1))) (@Eq.refl.{1} @Bool @Bool.false)))))) (fun (x53 : @UInt64) => (fun (x54 : @PySem.Tok) => let y55 := (@PySem.Value.float x53 x54); (fun (x57 : ((x56 : (@Nat.hasNotBit (nat_lit 512) (@PySem.Value.ctorIdx y55))) → (y5 y55))) => (x57 (@Nat.ne_of_beq_eq_false (@Nat.land (@OfNat.ofNat.{0} @Nat (nat_lit 1) (@instOfNatNat (nat_lit 1))) (@Nat.shiftRight (nat_lit 512) (nat_lit 5))) (@OfNat.ofNat.{0} @Nat (nat_lit 1) (@instOfNatNat (nat_lit 1))) (@Eq.refl.{1} @Bool @Bool.false)))))) (fun (x58 : @PySem.Str) => (fun (x59 : @PySem.Tok) => let y60 := (@PySem.Value.str x58 x59); (fun (x62 : ((x61 : (@Nat.hasNotBit (nat_lit 512) (@PySem.Value.ctorIdx y60))) → (y5 y60))) => (x62 (@Nat.ne_of_beq_eq_false (@Nat.land (@OfNat.ofNat.{0} @Nat (nat_lit 1) (@instOfNatNat (nat_lit 1))) (@Nat.shiftRight (nat_lit 512) (nat_lit 6))) (@OfNat.ofNat.{0} @Nat (nat_lit 1) (@instOfNatNat (nat_lit 1))) (@Eq.refl.{1} @Bool @Bool.false)))))) (fun (x63 : (@Array.{0} @UInt8)) => (fun (x64 : @PySem.Tok) => let y65 := (@PySem.Value.bytes x63 x64); (fun (x67 : ((x66 : (@Nat.hasNotBit (nat_lit 512) (@PySem.Value.ctorIdx y65))) → (y5 y65))) => (x67 (@Nat.ne_of_beq_eq_false (@Nat.land (@OfNat.ofNat.{0} @Nat (nat_lit 1) (@instOfNatNat (nat_lit 1))) (@Nat.shiftRight (nat_lit 512) (nat_lit 7))) (@OfNat.ofNat.{0} @Nat (nat_lit 1) (@instOfNatNat (nat_lit 1))) (@Eq.refl.{1} @Bool @Bool.false)))))) (fun (x68 : @String) => (fun (x70 : ((x69 : (@Nat.hasNotBit (nat_lit 512) (@PySem.Value.ctorIdx (@PySem.Value.type x68)))) → (y5 (@PySem.Value.type x68)))) => (x70 (@Nat.ne_of_beq_eq_false (@Nat.land (@OfNat.ofNat.{0} @Nat (nat_lit 1) (@instOfNatNat (nat_lit 1))) (@Nat.shiftRight (nat_lit 512) (nat_lit 8))) (@OfNat.ofNat.{0} @Nat (nat_lit 1) (@instOfNatNat (nat_lit 1))) (@Eq.refl.{1} @Bool @Bool.false))))) (fun (x71 : @String) => (fun (x73 : ((x72 : (@Nat.hasNotBit (nat_lit 512) (@PySem.Value.ctorIdx (@PySem.Value.builtin x71)))) → (y5 (@PySem.Value.builtin x71)))) => ((fun (x74 : @String) => ((fun (x75 : @String) => (@Prod.casesOn.{1, 0, 0} @String @String (fun (x76 : y8) => ((fun (x77 : y8) => (@PySem.Sem @PySem.Fin)) x76)) (@PySem.W.ZFast.zw16490671793007371346 x75) (fun (x78 : @String) => (fun (x79 : @String) => ((fun (x80 : @String) => let y81 := (@ToString.toString.{0} @String @instToStringString x80); (fun (x82 : @String) => let y83 := (@HAppend.hAppend.{0, 0, 0} @String @String @String y12 y13 (@ToString.toString.{0} @String @instToStringString x82)); (let x98 : ((x84 : @PySem.Value) → (@PySem.Sem @PySem.Fin)) := (fun (x85 : @PySem.Value) => (@Bind.bind.{0, 0} @PySem.Sem y9 @Bool @PySem.Fin (@PySem.W.ZFast.zw10380811246957099773 x85) (fun (x86 : @Bool) => (let x95 : y10 := (fun (x87 : @Unit) => (@Bind.bind.{0, 0} @PySem.Sem y9 @Bool @PySem.Fin (@PySem.W.ZFast.zw16098473122060591676 x85 (@PySem.Value.type x80)) (fun (x88 : @Bool) => (let x91 : y10 := (fun (x89 : @Unit) => (@Bind.bind.{0, 0} @PySem.Sem y9 @PySem.Value @PySem.Fin (@PySem.W.ZFast.zw15415582192633789933 @PySem.W.SZ.s11030030927630378310x26 (@List.cons.{0} @PySem.Value x32 (@List.cons.{0} @PySem.Value x85 (@List.nil.{0} @PySem.Value)))) (fun (x90 : @PySem.Value) => (@PySem.W.ZFast.zw6905046200447255374 x90)))); (@PySem.W.X.condFn.{1} (@PySem.Sem @PySem.Fin) (@Bool.not x88) (@Bind.bind.{0, 0} @PySem.Sem y9 @Unit @PySem.Fin (@PySem.W.ZFast.zw11987936663869333405 x85) (fun (x92 : @Unit) => (@Bind.bind.{0, 0} @PySem.Sem y9 @String @PySem.Fin (@PySem.W.ZFast.zw4267813433224596687 x85) (fun (x93 : @String) => (@Bind.bind.{0, 0} @PySem.Sem y9 @Unit @PySem.Fin (@PySem.W.ZFast.zw4082907035670056827 @Unit @PySem.W.SZ.s2804747833354056582x9 (@HAppend.hAppend.{0, 0, 0} @String @String @String y12 (@HAppend.hAppend.{0, 0, 0} @String @String @String y12 (@HAppend.hAppend.{0, 0, 0} @String @String @String y12 (@HAppend.hAppend.{0, 0, 0} @String @String @String y12 (@HAppend.hAppend.{0, 0, 0} @String @String @String y12 y83 (@ToString.toString.{0} @String @instToStringString "' requires a subtype of '")) y81) (@ToString.toString.{0} @String @instToStringString "' but received '")) (@ToString.toString.{0} @String @instToStringString x93)) (@ToString.toString.{0} @String @instToStringString "'"))) (fun (x94 : @Unit) => (x91 x94))))))) (x91 @Unit.unit)))))); (@PySem.W.X.condFn.{1} (@PySem.Sem @PySem.Fin) (@Bool.not x86) (@Bind.bind.{0, 0} @PySem.Sem y9 @String @PySem.Fin (@PySem.W.ZFast.zw8349319619548498818 x85) (fun (x96 : @String) => (@Bind.bind.{0, 0} @PySem.Sem y9 @Unit @PySem.Fin (@PySem.W.ZFast.zw4082907035670056827 @Unit @PySem.W.SZ.s2804747833354056582x9 (@HAppend.hAppend.{0, 0, 0} @String @String @String y12 (@HAppend.hAppend.{0, 0, 0} @String @String @String y12 (@HAppend.hAppend.{0, 0, 0} @String @String @String y12 (@HAppend.hAppend.{0, 0, 0} @String @String @String y12 (@HAppend.hAppend.{0, 0, 0} @String @String @String y12 y83 (@ToString.toString.{0} @String @instToStringString "' for type '")) y81) (@ToString.toString.{0} @String @instToStringString "' needs a type, not a '")) (@ToString.toString.{0} @String @instToStringString x96)) (@ToString.toString.{0} @String @instToStringString "' as arg 2"))) (fun (x97 : @Unit) => (x95 x97))))) (x95 @Unit.unit)))))); let y99 := (fun (x100 : @PySem.Value) => (x98 x100)); (@PySem.Builtin.«classmethod_descriptor.__get__».match_1.{1} (fun (x101 : (@Option.{0} @PySem.Value)) => (fun (x102 : (@Option.{0} @PySem.Value)) => (@PySem.Sem @PySem.Fin))) x34 x33 (fun (x103 : @PySem.Value) => (fun (x104 : (@Option.{0} @PySem.Value)) => (@Bind.bind.{0, 0} @PySem.Sem y9 @PySem.Value @PySem.Fin (@Pure.pure.{0, 0} @PySem.Sem (@Applicative.toPure.{0, 0} @PySem.Sem (@Monad.toApplicative.{0, 0} @PySem.Sem @PySem.W.ZFast.zw12456147031677567982)) @PySem.Value x103) y99))) (fun (x105 : @PySem.Value) => (@Bind.bind.{0, 0} @PySem.Sem y9 @PySem.Value @PySem.Fin (@PySem.W.ZFast.zw14684505520029207082 x105) y99)) (fun (x106 : @Unit) => (@Bind.bind.{0, 0} @PySem.Sem y9 @PySem.Value @PySem.Fin (@PySem.unsupported @PySem.Value "internal:classmethod_descriptor.__get__") y99)))))) x78 x79))))) x74)) x71))) (fun (x107 : @PySem.Addr) => (fun (x109 : ((x108 : (@Nat.hasNotBit (nat_lit 512) (@PySem.Value.ctorIdx (@PySem.Value.ref x107)))) → (y5 (@PySem.Value.ref x107)))) => (x109 (@Nat.ne_of_beq_eq_false (@Nat.land (@OfNat.ofNat.{0} @Nat (nat_lit 1) (@instOfNatNat (nat_lit 1))) (@Nat.shiftRight (nat_lit 512) (nat_lit 10))) (@OfNat.ofNat.{0} @Nat (nat_lit 1) (@instOfNatNat (nat_lit 1))) (@Eq.refl.{1} @Bool @Bool.false))))) x32 (fun (x110 : (@Nat.hasNotBit (nat_lit 512) (@PySem.Value.ctorIdx x32))) => ((fun (x111 : @PySem.Value) => (@PySem.unsupported @PySem.Fin "internal:descriptor-without-id")) x32)))))) x27 x30 x31)))))))) (fun (x112 : @PySem.Value) => (@PySem.Sem.raise @PySem.Fin x112)) (fun (x113 : @String) => (@PySem.Sem.unsupported @PySem.Fin x113)) (fun (x114 : @PySem.Ending) => (@PySem.Sem.finish @PySem.Fin x114)) (fun (x115 : @String) => (fun (x116 : y14) => (fun (x117 : y10) => (@PySem.Sem.rule @PySem.Fin x115 x117)))) (fun (x118 : @PySem.Pos) => (fun (x119 : y14) => (fun (x120 : y10) => (@PySem.Sem.at @PySem.Fin x118 x120)))) (fun (x121 : @PySem.Addr) => (fun (x122 : (@Option.{0} @PySem.Value)) => (fun (x124 : ((x123 : @PySem.Obj) → y2)) => (fun (x126 : ((x125 : @PySem.Obj) → (@PySem.Sem @PySem.Fin))) => (@PySem.Sem.load @PySem.Fin x121 x122 x126))))) (fun (x127 : @PySem.Addr) => (fun (x128 : (@Option.{0} @PySem.Value)) => (fun (x130 : ((x129 : @PySem.Obj) → @PySem.Obj)) => (fun (x131 : y14) => (fun (x132 : y10) => (@PySem.Sem.update @PySem.Fin x127 x128 x130 x132)))))) (fun (x133 : @PySem.Obj) => (fun (x135 : ((x134 : @PySem.Addr) → y2)) => (fun (x137 : ((x136 : @PySem.Addr) → (@PySem.Sem @PySem.Fin))) => (@PySem.Sem.alloc @PySem.Fin x133 x137)))) (fun (x138 : @PySem.Addr) => (fun (x140 : ((x139 : (@Option.{0} @PySem.Obj)) → y2)) => (fun (x142 : ((x141 : (@Option.{0} @PySem.Obj)) → (@PySem.Sem @PySem.Fin))) => (@PySem.Sem.loadIfAlive @PySem.Fin x138 x142)))) (fun (x143 : (@List.{0} @PySem.Value)) => (fun (x144 : y14) => (fun (x145 : y10) => (@PySem.Sem.point @PySem.Fin x143 x145)))) (fun (x146 : @PySem.Addr) => (fun (x147 : y14) => (fun (x148 : y10) => (@PySem.Sem.register @PySem.Fin x146 x148)))) (fun (x150 : ((x149 : @PySem.Tok) → y2)) => (fun (x152 : ((x151 : @PySem.Tok) → (@PySem.Sem @PySem.Fin))) => (@PySem.Sem.fresh @PySem.Fin x152))) (fun (x154 : ((x153 : @PySem.Setting) → y2)) => (fun (x156 : ((x155 : @PySem.Setting) → (@PySem.Sem @PySem.Fin))) => (@PySem.Sem.ask @PySem.Fin x156))) (fun (x157 : @PySem.Source) => (fun (x158 : @Nat) => (fun (x159 : y16) => (fun (x160 : y18) => (@PySem.Sem.choose @PySem.Fin x157 x158 x160))))) (fun (x161 : @PySem.OsRequest) => (fun (x162 : (@List.{0} @PySem.Value)) => (fun (x164 : ((x163 : @PySem.OsReply) → y2)) => (fun (x166 : ((x165 : @PySem.OsReply) → (@PySem.Sem @PySem.Fin))) => (@PySem.Sem.os @PySem.Fin x161 x162 x166))))) (fun (x167 : @PySem.Code) => (fun (x168 : (@Option.{0} @PySem.Value)) => (fun (x169 : @Bool) => (fun (x170 : (@List.{0} @PySem.Value)) => (fun (x172 : ((x171 : @PySem.Result) → y2)) => (fun (x174 : ((x173 : @PySem.Result) → (@PySem.Sem @PySem.Fin))) => (@PySem.Sem.call @PySem.Fin x167 x168 x169 x170 x174))))))) (fun (x175 : @Bool) => (fun (x177 : ((x176 : (@Option.{0} @PySem.Value)) → y2)) => (fun (x179 : ((x178 : (@Option.{0} @PySem.Value)) → (@PySem.Sem @PySem.Fin))) => (@PySem.Sem.handled @PySem.Fin x175 x179)))) (fun (x180 : @PySem.Code) => (fun (x181 : y16) => (fun (x182 : y18) => (@PySem.Sem.newGen @PySem.Fin x180 x182)))) (fun (x183 : @Nat) => (fun (x185 : ((x184 : y21) → y2)) => (fun (x187 : ((x186 : y21) → (@PySem.Sem @PySem.Fin))) => (@PySem.Sem.genState @PySem.Fin x183 x187)))) (fun (x188 : @Nat) => (fun (x189 : @PySem.Resume) => (fun (x190 : (@List.{0} @PySem.Value)) => (fun (x192 : ((x191 : @PySem.GenResult) → y2)) => (fun (x194 : ((x193 : @PySem.GenResult) → (@PySem.Sem @PySem.Fin))) => (@PySem.Sem.resume @PySem.Fin x188 x189 x190 x194)))))) (fun (x195 : @PySem.Value) => (fun (x196 : @Bool) => (fun (x197 : (@List.{0} @PySem.Value)) => (fun (x199 : ((x198 : @PySem.Resume) → y2)) => (fun (x201 : ((x200 : @PySem.Resume) → (@PySem.Sem @PySem.Fin))) => (@PySem.Sem.yield @PySem.Fin x195 x196 x197 x201)))))) (fun (x203 : ((x202 : y20) → y2)) => (fun (x205 : ((x204 : y20) → (@PySem.Sem @PySem.Fin))) => (@PySem.Sem.stack @PySem.Fin x205))) (fun (x206 : @PySem.Code) => (fun (x207 : y16) => (fun (x208 : y18) => (@PySem.Sem.fork @PySem.Fin x206 x208)))) (fun (x209 : y16) => (fun (x210 : y18) => (@PySem.Sem.thread @PySem.Fin x210))) (fun (x211 : @PySem.Addr) => (fun (x213 : ((x212 : @PySem.Obj) → (@Option.{0} @PySem.Obj))) => (fun (x214 : @Bool) => (fun (x215 : (@List.{0} @PySem.Value)) => (fun (x217 : ((x216 : @Bool) → y2)) => (fun (x219 : ((x218 : @Bool) → (@PySem.Sem @PySem.Fin))) => (@PySem.Sem.await @PySem.Fin x211 x213 x214 x215 x219))))))) (@PySem.W.ZFast.zw9794431949491438290 (@PySem.Args.mk (@List.cons.{0} @PySem.Value (@PySem.Value.builtin (@HAppend.hAppend.{0, 0, 0} @String @String @String y12 (@HAppend.hAppend.{0, 0, 0} @String @String @String y12 (@ToString.toString.{0} @String @instToStringString @PySem.W.SZ.s2742458400755230247x6) (@ToString.toString.{0} @String @instToStringString ".")) (@ToString.toString.{0} @String @instToStringString (@PySem.W.ZFast.zw16320311567567194475 (@PySem.Str.mk (@Array.mk.{0} @Nat (@List.cons.{0} @Nat (nat_lit 95) (@List.cons.{0} @Nat (nat_lit 95) (@List.cons.{0} @Nat (nat_lit 105) (@List.cons.{0} @Nat (nat_lit 110) (@List.cons.{0} @Nat (nat_lit 105) (@List.cons.{0} @Nat (nat_lit 116) (@List.cons.{0} @Nat (nat_lit 95) (@List.cons.{0} @Nat (nat_lit 115) (@List.cons.{0} @Nat (nat_lit 117) (@List.cons.{0} @Nat (nat_lit 98) (@List.cons.{0} @Nat (nat_lit 99) (@List.cons.{0} @Nat (nat_lit 108) (@List.cons.{0} @Nat (nat_lit 97) (@List.cons.{0} @Nat (nat_lit 115) (@List.cons.{0} @Nat (nat_lit 115) (@List.cons.{0} @Nat (nat_lit 95) (@List.cons.{0} @Nat (nat_lit 95) (@List.nil.{0} @Nat)))))))))))))))))))))))) (@List.cons.{0} @PySem.Value v (@List.cons.{0} @PySem.Value (@GetElem.getElem.{0, 0, 0} (@Array.{0} @PySem.Value) @Nat @PySem.Value (fun (x220 : (@Array.{0} @PySem.Value)) => (fun (x221 : @Nat) => (@LT.lt.{0} @Nat @instLTNat x221 (@Array.size.{0} @PySem.Value x220)))) (@Array.instGetElemNatLtSize.{0} @PySem.Value) y23 (@OfNat.ofNat.{0} @Nat (nat_lit 2) (@instOfNatNat (nat_lit 2))) (@Nat.le_of_ble_eq_true (@Nat.succ (@OfNat.ofNat.{0} @Nat (nat_lit 2) (@instOfNatNat (nat_lit 2)))) (@Array.size.{0} @PySem.Value y23) (@rfl.{1} @Bool @Bool.true))) (@List.nil.{0} @PySem.Value)))) (@List.nil.{0} (@Prod.{0, 0} @PySem.Str @PySem.Value)))))
noncomputable def clO (o : Obj) : ClassData := match o.data with
  | .cls cd => cd
  | _ => default
noncomputable def slO (o : Obj) (i : Nat) : Value := ((o.slots.toList[i]?).join).getD .none
noncomputable def ntO (o : Obj) (i : Nat) : DictEntry := match o.data with
  | .dict es _ => (es.toList[i]?).getD ⟨0, .none, .none⟩
  | _ => ⟨0, .none, .none⟩
noncomputable def ojT (T : BT) (j : Nat) : Obj := (T.get j).getD default
noncomputable def tkO (v : Value) : Tok := match v with
  | .str _ t => t
  | _ => default
noncomputable def enN (o : Obj) : Nat := match o.data with
  | .dict _ n => n
  | _ => 0
noncomputable def fiO (o : Obj) : List Value := match o.data with
  | .fields vs => vs.toList
  | _ => []
noncomputable def fi0 (o : Obj) (i : Nat) : Value := ((fiO o)[i]?).getD .none
theorem at_rep {V : XV} {h : Heap} {T : BT} {m : Nat} {ch : Ch} (O : V.Ok) (D : X.Rep V h T m ch) {l : List Addr} (hl : ∀ a ∈ l, ∃ o, V.h₀.get? a = some o) (j : Nat) {o : Obj} (e : T.get j = some o) : (hideAll h l).get? (V.n₁ + j) = some o :=
  hideAll_get l (D.own j o e).2 fun hm => by
    obtain ⟨o', q⟩ := hl _ hm
    have h1 : V.n₁ + j < V.h₀.objs.size := Heap.lt_size q
    have h2 : V.h₀.objs.size = V.n₁ := O.size
    rw [h2] at h1
    exact absurd h1 (Nat.not_lt.mpr (Nat.le_add_right _ _))
theorem finP {V : XV} {gl : List GenState} {σ : MS} {f : Flow} {P : BT → Prop} (e1 : σ.κ = .base) (e2 : σ.t = .pure (.done f)) (e3 : σ.ch = [(43, (chLook σ.ch 43).getD #[])]) (e4 : P σ.T) (x : ∀ h T m tv, X.Rep V h T m [(43, tv)] → P T → V.R₀ (.ok f) ⟨h, ⟨gl⟩, V.d, V.t₀ + σ.i, V.os⟩) : GoM V gl σ :=
  finM e1 e2 fun h D => x h σ.T σ.m ((chLook σ.ch 43).getD #[]) (by rw [← e3]; exact D) e4
theorem chLook_none {b : Addr} {tv : Array Value} (nb : b ≠ 43) : chLook [(43, tv)] b = none := by
  unfold chLook
  split
  · rename_i q
    exact absurd (Nat.eq_of_beq_eq_true q).symm nb
  · rfl
structure EndP (N : Nat) (lam : Addr) (T : BT) : Prop where
  e0 : T.get 60 = some (clsN (N + 60) (N + 59) (clO (ojT T 60)).qualname (slO (ojT T 60) 0) (slO (ojT T 60) 2) (slO (ojT T 60) 3))
  e1 : T.get 59 = some (nsN (N + 16) (N + 24) (N + 32) (N + 40) (N + 61) (ntO (ojT T 59) 0).hash (tkO (ntO (ojT T 59) 0).key) (ntO (ojT T 59) 0).val (ntO (ojT T 59) 1).hash (tkO (ntO (ojT T 59) 1).key) (ntO (ojT T 59) 1).val (ntO (ojT T 59) 2).hash (tkO (ntO (ojT T 59) 2).key) (ntO (ojT T 59) 2).val (ntO (ojT T 59) 3).hash (tkO (ntO (ojT T 59) 3).key) (ntO (ojT T 59) 4).hash (tkO (ntO (ojT T 59) 4).key) (ntO (ojT T 59) 5).hash (tkO (ntO (ojT T 59) 5).key) (ntO (ojT T 59) 6).hash (tkO (ntO (ojT T 59) 6).key) (ntO (ojT T 59) 7).hash (tkO (ntO (ojT T 59) 7).key) (ntO (ojT T 59) 7).val (ntO (ojT T 59) 8).hash (tkO (ntO (ojT T 59) 8).key) (ntO (ojT T 59) 8).val (ntO (ojT T 59) 9).hash (tkO (ntO (ojT T 59) 9).key) (ntO (ojT T 59) 10).hash (tkO (ntO (ojT T 59) 10).key) (ntO (ojT T 59) 10).val (ntO (ojT T 59) 11).hash (tkO (ntO (ojT T 59) 11).key) (ntO (ojT T 59) 12).hash (tkO (ntO (ojT T 59) 12).key) (enN (ojT T 59)))
  e2 : T.get 61 = some (mdN (N + 60) (tkO (fi0 (ojT T 61) 0)))
  e3 : T.get 1 = some ⟨.type "cell", none, .cell (some (.ref lam)), #[]⟩
  e4 : T.get 16 = some (fnO (initFn (fdO (ojT T 16)).qualname (fdO (ojT T 16)).pyModule (.ref (N + 15))))
  e5 : T.get 15 = some (cdO (fi0 (ojT T 15) 0) (fdO (ojT T 16)).qualname (tkO (fi0 (ojT T 15) 1)) ((fiO (ojT T 15)).drop 2))
  e6 : T.get 24 = some (fnO (cmpFn ⟨⟨[95, 95, 108, 116, 95, 95]⟩⟩ (fdO (ojT T 24)).qualname 29 48 .Lt (N + 1) (fdO (ojT T 24)).pyModule (.ref (N + 23)) (fdO (ojT T 24)).closureTuple))
  e7 : T.get 23 = some (cdO (fi0 (ojT T 23) 0) (fdO (ojT T 24)).qualname (tkO (fi0 (ojT T 23) 1)) ((fiO (ojT T 23)).drop 2))
  e8 : T.get 32 = some (fnO (cmpFn ⟨⟨[95, 95, 103, 116, 95, 95]⟩⟩ (fdO (ojT T 32)).qualname 32 48 .Gt (N + 1) (fdO (ojT T 32)).pyModule (.ref (N + 31)) (fdO (ojT T 32)).closureTuple))
  e9 : T.get 31 = some (cdO (fi0 (ojT T 31) 0) (fdO (ojT T 32)).qualname (tkO (fi0 (ojT T 31) 1)) ((fiO (ojT T 31)).drop 2))
  e10 : T.get 40 = some (fnO (cmpFn ⟨⟨[95, 95, 101, 113, 95, 95]⟩⟩ (fdO (ojT T 40)).qualname 35 49 .Eq (N + 1) (fdO (ojT T 40)).pyModule (.ref (N + 39)) (fdO (ojT T 40)).closureTuple))
  e11 : T.get 39 = some (cdO (fi0 (ojT T 39) 0) (fdO (ojT T 40)).qualname (tkO (fi0 (ojT T 39) 1)) ((fiO (ojT T 39)).drop 2))
theorem z0 {w : World} {h₀ : Heap} {N : Nat} {A : Around} {R : Result → Shared → Prop} {d : Drawn} {t : Nat} {os : OsState} {lam : Addr} {gl : List GenState} (G : Gr (VC w h₀ N A R d t os) (oldC w.params)) (hend : ∀ C h t', KeyRes lam C h₀ h → R (.ok (.ret (.ref C))) ⟨h, ⟨gl⟩, d, t', os⟩) : GoM (VC w h₀ N A R d t os) gl (sC0 w h₀ N A R d t os lam) := by
  refine gor_enter (σ := sC0 w h₀ N A R d t os lam) G (m := 2) (t := (PySem.W.R.bindR entT (eF1_1 w N))) (by kernel_rfl!) (by kernel_rfl!) (.base _) (by kernel_rfl!) (by kernel_rfl!) ?_
  conv => arg 5; whnf
  refine gor_again (by kernel_rfl!) ?_
  conv => arg 3; whnf
  refine run_sound G [⟨10, .no⟩] (by kernel_rfl!) ?_
  refine cutN (m := 3) (t := ?t) (by kernel_rfl!) ?e ?x
  case e => conv => lhs; whnf
  refine gor_thru G [⟨6, .no⟩] (.ref (N + 3)) 4 2 [] (fun T => reb T 4) (by kernel_rfl!) (by kernel_rfl!) (by kernel_rfl!) (by kernel_rfl!) ?_
  conv => arg 5; whnf
  refine gor_thru G [⟨0, .ld 3⟩, ⟨3, .no⟩] (.ref (N + 4)) 5 2 [] (fun T => (reb T 5).set 4 fun _ => { cls := .type "dict", data := .dict #[] }) (by kernel_rfl!) (by kernel_rfl!) (by kernel_rfl!) (by kernel_rfl!) ?_
  refine run_sound G [⟨0, .ld 4⟩, ⟨17, .no⟩] (by kernel_rfl!) ?_
  refine cutN (m := 8) (t := ?t2) (by kernel_rfl!) ?e2 ?x2
  case e2 => conv => lhs; whnf
  refine gor_alloc G.O (by kernel_rfl!) (by kernel_rfl!) ?_
  refine gor_enterR G (t := PySem.W.R.bindR (PySem.W.R.onRaiseR (PySem.W.R.bindR (PySem.W.R.bindR (PySem.W.R.keepR _ (PySem.W.R.keepR _ (PySem.W.R.keepR _ (PySem.W.R.bindR entT _)))) _) _) _) _) (.step _ (.onRaise _ (.step _ (.step _ (.keep _ (.keep _ (.keep _ (.base _)))))))) (by kernel_rfl!) (by kernel_rfl!) ?_
  refine run_sound G [⟨0, .ld 4⟩, ⟨0, .ld 4⟩, ⟨1, .ld 4⟩, ⟨2, .ld 4⟩, ⟨0, .up 4⟩, ⟨1, .ld 4⟩, ⟨2, .ld 4⟩, ⟨0, .up 4⟩, ⟨1, .ld 4⟩, ⟨2, .ld 4⟩, ⟨0, .up 4⟩, ⟨5, .ld 4⟩, ⟨2, .ld 4⟩, ⟨0, .up 4⟩, ⟨7, .ld 4⟩, ⟨2, .ld 4⟩, ⟨0, .up 4⟩, ⟨2, .ld 7⟩, ⟨0, .ld 6⟩, ⟨13, .ld 6⟩, ⟨0, .up 6⟩, ⟨0, .ld 6⟩, ⟨6, .ld 4⟩, ⟨2, .ld 4⟩, ⟨0, .up 4⟩, ⟨3, .ld 7⟩, ⟨0, .ld 6⟩, ⟨14, .ld 6⟩, ⟨0, .up 6⟩, ⟨0, .ld 6⟩, ⟨6, .ld 4⟩, ⟨2, .ld 4⟩, ⟨0, .up 4⟩, ⟨3, .ld 7⟩, ⟨0, .ld 6⟩, ⟨14, .ld 6⟩, ⟨0, .up 6⟩, ⟨0, .ld 6⟩, ⟨6, .ld 4⟩, ⟨2, .ld 4⟩, ⟨0, .up 4⟩, ⟨3, .ld 7⟩, ⟨0, .ld 6⟩, ⟨14, .ld 6⟩, ⟨0, .up 6⟩, ⟨0, .ld 6⟩, ⟨6, .ld 4⟩, ⟨2, .ld 4⟩, ⟨0, .up 4⟩, ⟨3, .ld 7⟩, ⟨0, .ld 6⟩, ⟨14, .ld 6⟩, ⟨0, .up 6⟩, ⟨0, .ld 6⟩, ⟨6, .ld 4⟩, ⟨2, .ld 4⟩, ⟨0, .up 4⟩, ⟨3, .ld 7⟩, ⟨0, .ld 6⟩, ⟨14, .ld 6⟩, ⟨0, .up 6⟩, ⟨0, .ld 6⟩, ⟨6, .ld 4⟩, ⟨2, .ld 4⟩, ⟨0, .up 4⟩, ⟨4, .ld 4⟩, ⟨2, .ld 4⟩, ⟨0, .up 4⟩, ⟨4, .ld 4⟩, ⟨2, .ld 4⟩, ⟨0, .up 4⟩, ⟨4, .ld 2⟩, ⟨0, .ld 4⟩, ⟨0, .ld 2⟩, ⟨0, .ld 4⟩, ⟨0, .ld 4⟩, ⟨1, .ld 9⟩, ⟨3, .ld 9⟩] (by kernel_rfl!) ?_
  with_reducible refine gor_dec (p := N + 58 = N + 9) (d := Nat.decEq (N + 58) (N + 9)) (cF2 N w t) (dC2 N) (m := 59) (by kernel_rfl!) (by kernel_rfl!) ?_
  refine run_sound G [⟨0, .ld 9⟩, ⟨0, .ld 58⟩, ⟨0, .ld 58⟩, ⟨0, .up 58⟩, ⟨0, .ld 58⟩, ⟨1, .ld 58⟩, ⟨1, .ld 59⟩, ⟨0, .ld 59⟩, ⟨0, .ld 59⟩, ⟨1, .up 60⟩, ⟨0, .up 60⟩, ⟨0, .up 60⟩, ⟨0, .ld 59⟩, ⟨0, .up 59⟩, ⟨0, .ld 59⟩, ⟨0, .ld 59⟩, ⟨0, .ld 59⟩, ⟨0, .ld 59⟩, ⟨0, .ld 59⟩] (by kernel_rfl!) ?_
  with_reducible refine gor_dec (p := N + 60 = N + 60) (d := Nat.decEq (N + 60) (N + 60)) (cF3 N w t) (dC3 N) (m := 61) (by kernel_rfl!) (by kernel_rfl!) ?_
  refine run_sound G [⟨0, .ld 60⟩, ⟨0, .up 60⟩, ⟨0, .ld 60⟩, ⟨0, .up 60⟩, ⟨0, .ld 60⟩, ⟨0, .ld 60⟩, ⟨0, .ld 60⟩, ⟨0, .ld 59⟩, ⟨0, .ld 59⟩, ⟨2, .ld 59⟩, ⟨2, .ld 59⟩, ⟨0, .up 59⟩, ⟨0, .ld 60⟩, ⟨0, .up 60⟩, ⟨0, .ld 60⟩, ⟨0, .up 60⟩, ⟨0, .ld 59⟩, ⟨2, .ld 59⟩, ⟨0, .up 59⟩, ⟨0, .ld 59⟩, ⟨0, .ld 59⟩, ⟨0, .ld 59⟩, ⟨0, .ld 59⟩, ⟨0, .ld 9⟩, ⟨0, .ld 16⟩, ⟨0, .ld 24⟩, ⟨0, .ld 32⟩, ⟨0, .ld 40⟩, ⟨0, .ld 48⟩, ⟨0, .ld 56⟩, ⟨0, .ld 57⟩, ⟨0, .ld 61⟩, ⟨2, .ld 60⟩, ⟨4, .ld 62⟩, ⟨0, .ld 62⟩, ⟨1, .ld 62⟩, ⟨1, .ld 60⟩, ⟨0, .ld 60⟩, ⟨0, .ld 60⟩] (by kernel_rfl!) ?_
  with_reducible refine gor_dec (p := N + 60 = N + 60) (d := Nat.decEq (N + 60) (N + 60)) (cF4 N) (dC4 N) (m := 63) (by kernel_rfl!) (by kernel_rfl!) ?_
  refine run_sound G [⟨0, .ld 62⟩, ⟨0, .up 62⟩, ⟨0, .ld 62⟩, ⟨0, .up 62⟩, ⟨0, .ld 62⟩, ⟨0, .up 62⟩, ⟨3, .ld 62⟩, ⟨1, .ld 62⟩, ⟨1, .ld 62⟩, ⟨0, .ld 62⟩, ⟨0, .ld 62⟩, ⟨1, .ld 60⟩] (by kernel_rfl!) ?_
  with_reducible refine gor_dec (p := N + 60 = N + 60) (d := Nat.decEq (N + 60) (N + 60)) (cF5 N t) (dC5 N) (m := 63) (by kernel_rfl!) (by kernel_rfl!) ?_
  refine run_sound G [⟨2, .no⟩] (by kernel_rfl!) ?_
  with_reducible refine gor_val (p := N + 60 = N + 60) (d := Nat.decEq (N + 60) (N + 60)) (vF6 N) (hF6 N) (dC6 N) (v := .none) (m := 63) (by kernel_rfl!) (by kernel_rfl!) (by kernel_rfl!) ?_
  refine run_sound G [⟨0, .ld 60⟩, ⟨0, .ld 60⟩, ⟨4, .ld 63⟩, ⟨0, .ld 60⟩, ⟨0, .ld 60⟩, ⟨0, .ld 60⟩, ⟨0, .ld 60⟩, ⟨3, .ld 60⟩, ⟨0, .ld 60⟩, ⟨1, .ld 60⟩, ⟨7, .ld 0⟩, ⟨0, .up 0⟩, ⟨3, .ld 0⟩] (by kernel_rfl!) ?_
  with_reducible refine finP (P := EndP N lam) (f := .ret (.ref (N + 60))) (by kernel_rfl!) (by kernel_rfl!) ?e3 ?e4 fun h T m tv D P => ?_
  case e3 => kernel_rfl!
  case e4 => exact ⟨by kernel_rfl!, by kernel_rfl!, by kernel_rfl!, by kernel_rfl!, by kernel_rfl!, by kernel_rfl!, by kernel_rfl!, by kernel_rfl!, by kernel_rfl!, by kernel_rfl!, by kernel_rfl!, by kernel_rfl!⟩
  refine hend _ h _ ⟨fun b o nb e => D.keep b o e (chLook_none nb), fun l hl => ?_, ?_⟩
  rotate_left
  · obtain ⟨h1, c, ps, more, h2, h3⟩ := D.ch 43 tv rfl
    exact ⟨c, ps, more, h2, h3 ▸ h1⟩
  exact ⟨N + 59, N + 61, N + 1, N + 16, N + 24, N + 32, N + 40, ⟨⟨_, _, _, _, at_rep G.O D hl 60 P.e0⟩,
    ⟨_, _, _, _, _, _, _, _, _, _, _, _, _, _, _, _, _, _, _, _, _, _, _, _, _, _, _, _, _, _, _, _, _, at_rep G.O D hl 59 P.e1⟩, ⟨_, at_rep G.O D hl 61 P.e2⟩, at_rep G.O D hl 1 P.e3, ⟨_, _, _, _, _, _, at_rep G.O D hl 16 P.e4, at_rep G.O D hl 15 P.e5⟩,
    ⟨_, _, _, _, _, _, _, at_rep G.O D hl 24 P.e6, at_rep G.O D hl 23 P.e7⟩, ⟨_, _, _, _, _, _, _, at_rep G.O D hl 32 P.e8, at_rep G.O D hl 31 P.e9⟩, ⟨_, _, _, _, _, _, _, at_rep G.O D hl 40 P.e10, at_rep G.O D hl 39 P.e11⟩⟩⟩
end Mine
end
section
namespace Mine
open PySem PySem.W PySem.Calls PyProof.Rows PySem.Spec
open PySem.W.X
theorem call_key {w : World} {A : Around} {s : Shared} {lam : Addr} {Q E : Value → Shared → Prop} (K : AI s.heap (K2 w.params)) (room : Room 70 A) (hlim : s.heap.NoLimit)
    (q : ∀ C h' tk, KeyRes lam C s.heap h' → Q (.ref C) { s with heap := h', toks := tk }) : wpAny (model Challenge.rw_op0061_01.prog w) A (call (.ref 48) [.ref lam]) Q E s := by
  obtain ⟨h, ⟨gl⟩, d, t, os⟩ := s
  refine wpAny_call ?_
  refine co_runG rfl (tvC_at K) fun O => ?_
  have G : Gr (VC w h h.objs.size A (fun r s' => match r with | .ok (.ret v) => Q v s' | .ok _ => False | .error e => E e s') d t os) (oldC w.params) :=
    ⟨O, oldC_ok K, room.hd, hlim, by show A.units + 400 < 9900; have := room.un; omega, by show A.depth + 160 < 1000; have := room.dep; omega⟩
  refine run_sound G [⟨4, .ld 1⟩, ⟨0, .up 1⟩] (by kernel_rfl!) ?_
  exact z0 G fun C h' t' kr => q C h' t' kr
end Mine
end
section
namespace Mine
open PySem PySem.W PySem.Calls PyProof.Rows PySem.Spec
section
variable {c : Cx} {k : Nat}
/-- entering a def with cells of its own, at the foot of the stack -/
theorem law_enter (B : Base c) {a : Addr} {o : Obj} {fd : FuncData} {body : List Stmt} {ds : List D} (names locals : List Str) (ρ0 : Rho) (hρ : parR names ds ++ noneR locals = ρ0)
    (ho : c.g.get? a = some o) (hdata : o.data = .func fd) (hcd : c.g.CodeRec fd.code fd.qualname) (hbody : fd.body = .stmts body) (hglob : fd.globals = mainGlobals) (hblt : fd.builtins = builtinsNs) (hclo : fd.closure = [])
    (hbind : ∀ vs : List Value, vs.length = ds.length → bindArgs fd ⟨vs, []⟩ = pure (names.zip vs)) (hnl : names.length = ds.length)
    (hkind : ∀ L : Addr, ∀ x ∈ names, fd.scope.names.lookup x = some .local ∨ (fd.scope.names.lookup x = some .cell ∧ ((cellsFrom (L + 1) fd.scope.names []).lookup x).isSome = true)) (nd : (names ++ locals).Nodup)
    (hco : fd.scope.isCoroutine = false) (hgen : fd.scope.isGenerator = false) (hk : fd.scope.kind = .function)
    {A : Around} {s : Shared} {vs : List Value} {Q E : Value → Shared → Prop} (room : Room (k + 1) A) (ext : Ext c.g s.heap) (hfr : A.frames = some []) (r : Reps c.C s.heap (fun _ => False) vs ds)
    (hb : ∀ (L : Addr) (f : Fx), f = cfD (A.deeper (callEnvC fd L a)) fd L a (fun _ => False) → Ok c f k → ∀ (h₀ : Heap) (tk : Tok), St c f ρ0 h₀ → Fz c f [f.env] h₀ → Ext s.heap h₀ → (∀ b, f.X b → s.heap.get? b = none) → ∀ E', wpAny (model c.prog c.w) f.A (execs body f.env) (fun fl s' => ∃ v, fl = .ret v ∧ Q v s') E' { s with heap := h₀, toks := tk }) :
    wpAny (model c.prog c.w) A (call (.ref a) vs) Q E s := by
  subst hρ
  have hlen : vs.length = ds.length := r.length
  refine wpAny_call (codeAny_call_cells room.depth (ext _ _ ho) hdata (B.nolimit.keeps ext) (hcd.keeps ext) hbody (hbind vs hlen) hclo (fun x hx => hkind _ _ (List.of_mem_zip (a := x.1) (b := x.2) hx).1) (fun s₁ IC => ?_) hco hgen hk)
  obtain ⟨h₀, tk₀, es, hk₀⟩ := IC.done
  subst es
  have hL := fresh_size s.heap
  have hnew : ∀ b, (b = s.heap.objs.size ∨ ∃ n, (callEnvC fd s.heap.objs.size a).cells.lookup n = some b) → s.heap.get? b = none := fun b z => by
    rcases z with z | ⟨n, z⟩
    · rw [z]; exact hL
    · have := IC.above n b (lookup_mem z)
      have this : s.heap.objs.size < b := this
      exact Heap.get?_none_of_le (Nat.le_of_lt this)
  have gnew : ∀ b, (b = s.heap.objs.size ∨ ∃ n, (callEnvC fd s.heap.objs.size a).cells.lookup n = some b) → c.g.get? b = none := fun b z => by
    cases e : c.g.get? b with
    | none => rfl
    | some o' => have := ext _ _ e; rw [hnew b z] at this; cases this
  have ok : Ok c (cfD (A.deeper (callEnvC fd s.heap.objs.size a)) fd s.heap.objs.size a (fun _ => False)) k :=
    { kind := hk, glob := hglob, blt := hblt, mx := fun b e => .inr e, loc := .inl rfl,
      apart := fun x y b e1 e2 => name_of_addr IC.apart (lookup_mem e1) (lookup_mem e2),
      dis := fun b e => e.elim (fun e => e.elim) fun e => gnew b e, room := room.deeper }
  have rr : Reps c.C h₀ (fun b => False ∨ (b = s.heap.objs.size ∨ ∃ n, (callEnvC fd s.heap.objs.size a).cells.lookup n = some b)) vs ds := (reps_new r hnew).ext hk₀
  refine wpAny_mono (hb _ _ rfl ok h₀ tk₀ ?_ ?_ hk₀ (fun b e => e.elim (fun e => e.elim) (hnew b)) _) (fun fl s' hf => ?_) fun _ _ x => x
  · refine ⟨?_, ext.trans hk₀, fun b e => ?_, fun x b e => ?_, fun x y b es fs h1 h2 => ?_, ⟨_, IC.toInCall.ns, fun x en hx hl => ?_⟩, fun x en hx hl => ?_⟩
    · rw [List.map_append, parR_names hnl]
      have e1 : (noneR locals).map (·.1) = locals := by simp only [noneR, List.map_map]; exact List.map_id' locals
      rw [e1]; exact nd
    · rcases e with e | e | ⟨n, e⟩
      · exact e.elim
      · obtain ⟨o, _, _, z, _⟩ := IC.toInCall.ns; exact ⟨o, e ▸ z⟩
      · obtain ⟨o, z, _⟩ := IC.cell n b e; exact ⟨o, z⟩
    · exact ⟨_, IC.cell x b e⟩
    · exfalso
      rcases List.mem_append.mp h1 with h1 | h1
      · obtain ⟨d', v', e', _⟩ := parR_mem r h1; cases e'
      · simp [noneR] at h1
    · rcases List.mem_append.mp hx with h1 | h1
      · obtain ⟨d', v', e', hz, hr⟩ := parR_mem rr h1
        subst e'
        exact ⟨v', bindL_at (zip_nodup _ _ (List.nodup_append.mp nd).1) hz hl, hr⟩
      · simp [noneR] at h1
    · rcases List.mem_append.mp hx with h1 | h1
      · obtain ⟨d', v', e', hz, hr⟩ := parR_mem rr h1
        subst e'
        rcases hkind s.heap.objs.size x (List.of_mem_zip hz).1 with hk' | ⟨hk', hc'⟩
        · exact absurd hk' hl
        · obtain ⟨b, hb'⟩ := Option.isSome_iff_exists.mp hc'
          have cell := IC.cell x b hb'
          rw [bindC_at (zip_nodup _ _ (List.nodup_append.mp nd).1) hz hl] at cell
          exact ⟨b, v', .inl hk', hb', cell, hr⟩
      · simp [noneR] at h1
  · obtain ⟨oL, esL, epL, eL, dL, _⟩ := IC.toInCall.ns
    have noH : (A.deeper (callEnvC fd s.heap.objs.size a)).handled = none := ok.room.hd
    refine ⟨Around.frames_deeper hfr, ⟨?_, ⟨_, oL, rfl, gnew _ (.inl rfl), eL, fun vs q => by rw [dL] at q; cases q⟩, trivial⟩, fun b q => ?_, fun b q m => ?_, fun e he => by rw [noH] at he; cases he⟩
    · show fd.scope.kind ≠ .module
      rw [hk]; decide
    · have q' : b ∈ [callEnvC fd s.heap.objs.size a].filterMap (·.frame) := q
      have q2 : b ∈ [s.heap.objs.size] := q'
      exact .inr (.inl (List.mem_singleton.mp q2))
    · have q' : b ∈ [callEnvC fd s.heap.objs.size a].filterMap (·.frame) := q
      have q2 : b ∈ [s.heap.objs.size] := q'
      exact List.mem_singleton.mp q2
  · obtain ⟨v, rfl, hq⟩ := hf
    exact hq
end
end Mine
end
section
namespace Mine
open PySem PySem.W PySem.Calls PyProof.Rows PySem.Spec
mutual
theorem rep_pl {C C' : Addr} {h h' : Heap} {X X' : Addr → Prop} (k : ∀ a vs, ¬ X a → h.IsList a vs → h'.IsList a vs ∧ ¬ X' a) (kt : ∀ a vs, ¬ X a → IsTup h a vs → IsTup h' a vs ∧ ¬ X' a) {n : Nat} : ∀ {v : Value} {d : D}, Rep C h X v d → d.pl n = true → Rep C' h' X' v d
  | _, _, .none, _ => .none
  | _, _, .bool b, _ => .bool b
  | _, _, .int i t, _ => .int i t
  | _, _, .list hl hx hs, p => by
    cases n with
    | zero => simp [D.pl] at p
    | succ n => exact .list (k _ _ hx hl).1 (k _ _ hx hl).2 (reps_pl k kt (n := n) hs (by simpa [D.pl] using p))
  | _, _, .tuple hl hx hs, p => by
    cases n with
    | zero => simp [D.pl] at p
    | succ n => exact .tuple (kt _ _ hx hl).1 (kt _ _ hx hl).2 (reps_pl k kt (n := n) hs (by simpa [D.pl] using p))
  | _, _, .key ho hx, p => by simp [D.pl] at p
  | _, _, .range ho hx, p => by simp [D.pl] at p
  | _, _, .val v, p => by simp [D.pl] at p
theorem reps_pl {C C' : Addr} {h h' : Heap} {X X' : Addr → Prop} (k : ∀ a vs, ¬ X a → h.IsList a vs → h'.IsList a vs ∧ ¬ X' a) (kt : ∀ a vs, ¬ X a → IsTup h a vs → IsTup h' a vs ∧ ¬ X' a) {n : Nat} : ∀ {vs : List Value} {ds : List D}, Reps C h X vs ds → D.pls n ds = true → Reps C' h' X' vs ds
  | _, _, .nil, _ => .nil
  | _, _, .cons hv hs, p => by
    simp only [D.pls, Bool.and_eq_true] at p
    exact .cons (rep_pl k kt hv p.1) (reps_pl k kt hs p.2)
end
section
variable {c : Cx} {f : Fx} {ρ ρ' : Rho} {k : Nat}
theorem builtins_at (B : Base c) {h : Heap} (x : Ext c.g h) {mg : Str → Option Value} (hg : c.g.Ns mainGlobals mg) : h.BuiltinsAt mg 104 :=
  ⟨_, _, mg_of B.K hg (n := "__builtins__") rfl, by decide, by decide, by decide, x _ _ (B.K _ _ rfl), rfl, rfl, rfl⟩
theorem code106 (B : Base c) {h : Heap} (x : Ext c.g h) : CodeHd h 106 104 :=
  ⟨_, _, _, _, _, _, _, _, _, x _ _ (B.K 106 _ rfl), rfl, rfl, rfl, rfl, rfl, rfl, rfl, rfl, by decide⟩
/-- a lambda -/
theorem ev_lam (B : Base c) (o : OkE c f) {params : Arguments} {body : Expr} {scope : Scope} {pos : Pos} {ps : Array Value} {clos : List (Str × Addr)} (hcode : f.env.code = .ref 106) {s : Shared} {Q E : Value → Shared → Prop} (st : St c f ρ s.heap)
    (hP : s.heap.get? 104 = some (tabObj ps)) (ht : TriplesOk ps.toList) (hnf : codeAmong pos ps.toList = none) (hcl : closureFor scope f.env = pure clos) (hdef : defaultsOf params f.env = ([], []))
    (q : ∀ lam c' ctv pm h' tk, (∀ b ob, b ≠ 104 → s.heap.get? b = some ob → h'.get? b = some ob) → s.heap.get? lam = none → s.heap.get? c' = none → h'.get? lam = some (kla_obj "<lambda>" (f.env.qual ++ "<lambda>") params body scope clos pm c' ctv) → h'.CodeRec (.ref c') (f.env.qual ++ "<lambda>") →
      h'.get? 104 = some (tabObj (ps ++ #[rawInt pos.line, rawInt pos.col, .ref c'])) → lam ≠ 104 → c' ≠ 104 → Q (.ref lam) { s with heap := h', toks := tk }) : wpAny (model c.prog c.w) f.A (eval (.Lambda params body scope pos) f.env) Q E s := by
  obtain ⟨mg, mb, hg, hb, _⟩ := B.top
  refine kla_eval hdef (kla_makeFunction (mg := mg) hcl o.glob (hg.keeps st.ext) hcode (code106 B st.ext) hP ht hnf (by decide) (builtins_at B st.ext hg) fun c' ctv h' tk hx hge hlt hrec htb => ?_)
  have l104 : (104 : Nat) < s.heap.objs.size := Heap.lt_size hP
  refine q h'.objs.size c' ctv _ _ tk (fun b ob n e => Heap.get?_push_of_some _ (hx b ob n e)) (Heap.get?_none_of_le (Nat.le_trans hge (Nat.le_of_lt hlt))) (Heap.get?_none_of_le hge) (Heap.get?_push_size _ rfl) (hrec.keeps fun b ob e => Heap.get?_push_of_some _ e) (Heap.get?_push_of_some _ htb) ?_ ?_
  · exact Nat.ne_of_gt (Nat.lt_trans (Nat.lt_of_lt_of_le l104 hge) hlt)
  · exact Nat.ne_of_gt (Nat.lt_of_lt_of_le l104 hge)
end
end Mine
end
section
namespace Mine
open PySem PySem.W PySem.Calls PyProof.Rows PySem.Spec
section
variable {c : Cx} {f : Fx} {ρ ρ' ρ1 : Rho} {k : Nat} {l : List Env} {J F : Heap → Prop}
noncomputable def LBd (c : Cx) (f : Fx) (l : List Env) (J F : Heap → Prop) (ρ : Rho) (body : List Stmt) : Prop :=
  ∀ (s : Shared) (Q : Flow → Shared → Prop) (E : Value → Shared → Prop), St c f ρ s.heap → Fz c f l s.heap → J s.heap → (∀ h' tk, F h' → Q (.ret (.bool true)) { s with heap := h', toks := tk }) → wpAny (model c.prog c.w) f.A (execs body f.env) Q E s
noncomputable def Stay (f : Fx) (J : Heap → Prop) : Prop := ∀ h h', J h → Slo f.X f.M h h' → J h'
theorem lbd_seq (sj : Stay f J) {st : Stmt} {rest : List Stmt} (h1 : ExW c f l ρ st ρ' .next) (h2 : LBd c f l J F ρ' rest) : LBd c f l J F ρ (st :: rest) := fun s Q E hst z j q =>
  wpAny_execs_cons (h1 s _ E hst z fun fl h1 t1 x1 r1 s1 => by
    cases fl with
    | next => exact h2 _ _ E s1 (z.st x1 s1) (sj _ _ j x1) fun h2 t2 p => q h2 t2 p
    | _ => exact r1.elim)
theorem lbd_stop (sj : Stay f J) (jf : ∀ h, J h → F h) {st : Stmt} {rest : List Stmt} (h1 : ExW c f l ρ st ρ' (.ret (.bool true))) : LBd c f l J F ρ (st :: rest) := fun s Q E hst z j q =>
  wpAny_execs_cons (h1 s _ E hst z fun fl h1 t1 x1 r1 s1 => by
    cases fl with
    | ret v =>
      have r : Rep c.C h1 (fun a => f.X a ∧ ¬ f.M a) v (.bool true) := r1
      cases r
      exact q h1 t1 (jf _ (sj _ _ j x1))
    | _ => exact r1.elim)
/-- one cell less of the frame's own -/
noncomputable def Fx.less (f : Fx) (bc : Addr) : Fx := { f with X := fun b => f.X b ∧ b ≠ bc, M := fun b => f.M b ∧ b ≠ bc }
theorem hide_none {h : Heap} {l : List Addr} {a : Addr} (m : a ∈ l) : (hideAll h l).get? a = none := hideAll_none _ m
/-- after the class: the second context -/
structure Aft (c c1 : Cx) (f : Fx) (bc lam cl : Addr) (lamO : Obj) (qual : Str) (bd : D) (C : Addr) : Prop where
  prog : c1.prog = c.prog
  w : c1.w = c.w
  hC : c1.C = C
  ext : Ext c.g c1.g
  dis : ∀ a, f.X a → a ≠ bc → c1.g.get? a = none
  h43 : c1.g.get? 43 = none
  h104 : c1.g.get? 104 = none
  lamAt : c1.g.get? lam = some lamO
  rec_ : c1.g.CodeRec (.ref cl) qual
  cell : ∃ bv, c1.g.IsCell bc (some bv) ∧ Rep c1.C c1.g (fun _ => False) bv bd
  key : ∃ ns md cell fi fl fg fe, KeyAt lam C c1.g ns md cell fi fl fg fe
theorem Base.up {c1 : Cx} (B : Base c) (e : Ext c.g c1.g) (hw : c1.w = c.w) : Base c1 where
  K := fun a o q => e _ _ (B.K a o (by rw [hw] at q; exact q))
  top := let ⟨mg, mb, hg, hb, hbb⟩ := B.top; ⟨mg, mb, hg.keeps e, hb.keeps e, hbb⟩
  nolimit := B.nolimit.keeps e
theorem funFrames_base {base base' h h' : Heap} : ∀ {l : List Env}, h.FunFrames base l → (∀ b o, FSet l b → h.get? b = some o → (∀ vs, o.data ≠ .fields vs) → base'.get? b = none ∧ ∃ o', h'.get? b = some o' ∧ ∀ vs, o'.data ≠ .fields vs) → h'.FunFrames base' l
  | [], _, _ => trivial
  | env :: rest, ⟨hk, ⟨L, o, hf, hn, ho, hd⟩, hr⟩, k => by
    have hm : FSet (env :: rest) L := by
      show L ∈ (env :: rest).filterMap (·.frame)
      rw [List.filterMap_cons, hf]; exact .head _
    obtain ⟨h0, o', h1, h2⟩ := k L o hm ho hd
    refine ⟨hk, ⟨L, o', hf, h0, h1, h2⟩, funFrames_base hr fun b o hb => k b o ?_⟩
    show b ∈ (env :: rest).filterMap (·.frame)
    rw [List.filterMap_cons, hf]; exact .tail _ hb
theorem lbd_key {w : World} (hp : c.prog = Challenge.rw_op0061_01.prog) (hw : c.w = w) (B : Base c) (o : Ok c f k) (hk : 70 ≤ k) {lX : List Addr} (hlX : ∀ b, f.X b → b ∈ lX) {H0 : Heap} (K0' : AI H0 (K2 w.params)) (hg43 : c.g.get? 43 = none) (hg104 : c.g.get? 104 = none)
    (hH : ∀ b ob, c.g.get? b = some ob → H0.get? b = some ob) (h43 : ∃ ob, H0.get? 43 = some ob) (hX0 : ∀ b, f.X b → H0.get? b = none) (h104 : H0.get? 104 = some (tabObj #[]))
    {px pf cpos pos lpos : Pos} {params : Arguments} {body : Expr} {scope : Scope} {rest : List Stmt} {bc : Addr} {bd : D} (hcode : f.env.code = .ref 106) (hcl : closureFor scope f.env = pure [((⟨⟨[98, 111, 117, 110, 100, 101, 100]⟩⟩ : Str), bc)]) (hdef : defaultsOf params f.env = ([], [])) (hsw : swapsWith (.Call (.Name ((⟨⟨[99, 109, 112, 95, 116, 111, 95, 107, 101, 121]⟩⟩ : Str)) pf) [.Lambda params body scope lpos] [] cpos) (some (.Name ((⟨⟨[107, 101, 121]⟩⟩ : Str)) px)) pos.line f.env = pure false) (hbF : ¬ FSet l bc)
    (hfv : ∀ ρ, Ev c f ρ (.Name ((⟨⟨[99, 109, 112, 95, 116, 111, 95, 107, 101, 121]⟩⟩ : Str)) pf) (.val (.ref 48))) (hbc : f.env.cells.lookup ((⟨⟨[98, 111, 117, 110, 100, 101, 100]⟩⟩ : Str)) = some bc) (hbm : ((⟨⟨[98, 111, 117, 110, 100, 101, 100]⟩⟩ : Str), some (En.imm bd)) ∈ ρ) (hbl : f.env.kindOf ((⟨⟨[98, 111, 117, 110, 100, 101, 100]⟩⟩ : Str)) ≠ some .local) (hbp : bd.pl 9 = true)
    {kc : Addr} (hkk : f.env.kindOf ((⟨⟨[107, 101, 121]⟩⟩ : Str)) = some .cell) (hkc : f.env.cells.lookup ((⟨⟨[107, 101, 121]⟩⟩ : Str)) = some kc) (hkM : f.M kc) (hbM : f.env.locals ≠ bc) (hcells : ∀ x a, f.env.cells.lookup x = some a → f.X a)
    (names : ρ1.map (·.1) = ρ.map (·.1)) (C1 : Addr → Rho → Prop) (hC1 : ∀ C ρ1, C1 C ρ1 → (ρ1.map (·.1)).Nodup ∧ ∀ x en, (x, some en) ∈ ρ1 → (x = (⟨⟨[107, 101, 121]⟩⟩ : Str) ∧ en = .imm (.val (.ref C))) ∨ (x ≠ (⟨⟨[107, 101, 121]⟩⟩ : Str) ∧ x ≠ (⟨⟨[98, 111, 117, 110, 100, 101, 100]⟩⟩ : Str) ∧ ∃ d, en = .imm d ∧ d.pl 9 = true ∧ (x, some en) ∈ ρ))
    (ρ1 : Addr → Rho) (hρ1 : ∀ C, C1 C (ρ1 C))
    (hrest : ∀ c1 lam cl C pm ctv, Aft c c1 f bc lam cl (kla_obj "<lambda>" (f.env.qual ++ "<lambda>") params body scope [((⟨⟨[98, 111, 117, 110, 100, 101, 100]⟩⟩ : Str), bc)] pm cl ctv) (f.env.qual ++ "<lambda>") bd C →
      LBd c1 (f.less bc) l (fun h => (∀ b ob, b ≠ 43 → b ≠ 104 → H0.get? b = some ob → h.get? b = some ob) ∧ (∃ cc ps more, H0.TableAt cc 43 ps ∧ h.get? 43 = some (PySem.W.X.tableObj (ps ++ more))) ∧ h.get? 104 = some (tabObj #[rawInt lpos.line, rawInt lpos.col, .ref cl])) F (ρ1 C) rest)
    : LBd c f l (fun h => ∀ b ob, H0.get? b = some ob → h.get? b = some ob) F ρ (.Assign [.Name ((⟨⟨[107, 101, 121]⟩⟩ : Str)) px] (.Call (.Name ((⟨⟨[99, 109, 112, 95, 116, 111, 95, 107, 101, 121]⟩⟩ : Str)) pf) [.Lambda params body scope lpos] [] cpos) pos :: rest) := by
  intro s Q E st z j q
  obtain ⟨prog, w', C0, g⟩ := c
  dsimp only at hp hw
  subst hp hw
  have nX43 : ¬ f.X 43 := fun x => by obtain ⟨ob, e⟩ := h43; rw [hX0 _ x] at e; cases e
  have nX104 : ¬ f.X 104 := fun x => by rw [hX0 _ x] at h104; cases h104
  have XM := o.mx
  have hbX : f.X bc := hcells _ _ hbc
  have hkX : f.X kc := hcells _ _ hkc
  have kcne : kc ≠ bc := fun e => by
    have := o.apart _ _ _ hkc (e ▸ hbc)
    exact absurd this (by decide)
  refine wpAny_execs_cons (wpAny_Assign_Name (wpAny_Call_NameR (hfv ρ s _ E st fun v h1 t1 x1 r1 => ?_)) hsw)
  cases r1
  have st1 := st.up x1
  refine kp_fn (B.K 48 _ rfl) rfl f.A _ cpos _ _ E (by rw [any_backTo]; rfl) (args_of rfl ?_)
  have e1 : starEach [Expr.Lambda params body scope lpos] f.env = (false, eval (.Lambda params body scope lpos) f.env) :: starEach [] f.env := rfl
  rw [e1]
  refine spliced_cons (ev_lam B o.toOkE hcode st1 (x1 _ _ (j _ _ h104)) (by trivial) rfl hcl hdef fun lam cl ctv pm h2 t2 kk lamNew clNew lamAt recAt tab2 lam104 cl104 => spliced_nil ?_)
  have l43 : ∃ ob, h1.get? 43 = some ob := let ⟨ob, e⟩ := h43; ⟨ob, x1 _ _ (j _ _ e)⟩
  have it1 : IterObj h1 104 := ⟨_, x1 _ _ (j _ _ h104), fun _ _ q => (by cases q), fun q => (by cases q), fun _ q => (by cases q), fun q => (by cases q)⟩
  have st2 := st1.iter o it1 nX104 hg104 kk
  refine ⟨st2.ext, ?_⟩
  have K2' : AI h2 (K2 w'.params) := K0'.keep fun p hp e => kk _ _ (fun q => by
    have := List.mem_filter.mp hp
    rw [q] at this; simp at this) (x1 _ _ (j _ _ e))
  refine call_key (s := { s with heap := h2, toks := t2 }) K2' (o.room.mono hk) (B.nolimit.keeps st2.ext) fun C h3 t3 kr => ?_
  obtain ⟨c0, T0⟩ := tvC_at K0'
  obtain ⟨cc, ps, more, T2, t43⟩ := kr.tab
  have h2_43 : h2.get? 43 = some { cls := .none, data := .fields (tvC w'.params) } := kk _ _ (by decide) (x1 _ _ (j _ _ T0.2))
  have eps : ps = tvC w'.params := by
    have e := T2.2
    rw [h2_43] at e
    injection e with e; injection e with _ _ e; injection e with e; exact e.symm
  subst eps
  have it2 : IterObj h2 43 := ⟨_, h2_43, fun _ _ q => (by cases q), fun q => (by cases q), fun _ q => (by cases q), fun q => (by cases q)⟩
  have st3 := st2.iter o it2 nX43 hg43 kr.keep
  have big : ∀ b ob, b ≠ 43 → b ≠ 104 → s.heap.get? b = some ob → h3.get? b = some ob := fun b ob n1 n2 e => kr.keep _ _ n1 (kk _ _ n2 (x1 _ _ e))
  obtain ⟨v₀, hv₀⟩ := st3.cl _ _ hkc
  refine wpAny_storeName_cell o.kind hkk hkc hv₀ fun h4 hv4 hs4 => ?_
  have xk4 : ∃ ob, h4.get? kc = some ob := let ⟨ob, e, _⟩ := hv4; ⟨ob, e⟩
  classical
  obtain ⟨l1, ml1⟩ : ∃ l1 : List Addr, ∀ a, a ∈ l1 ↔ (a = 43 ∨ a = 104 ∨ (f.X a ∧ a ≠ bc)) := ⟨43 :: 104 :: lX.filter (fun a => decide (f.X a ∧ a ≠ bc)), fun a => by
    simp only [List.mem_cons, List.mem_filter, decide_eq_true_eq]
    exact ⟨fun z => z.imp id fun z => z.imp id fun z => z.2, fun z => z.imp id fun z => z.imp id fun z => ⟨hlX _ z.1, z⟩⟩⟩
  have get1 : ∀ b ob, b ≠ 43 → b ≠ 104 → ¬ (f.X b ∧ b ≠ bc) → h3.get? b = some ob → (hideAll h3 l1).get? b = some ob := fun b ob n1 n2 n3 e => hideAll_get l1 e fun m => ((ml1 b).mp m).elim n1 fun z => z.elim n2 n3
  have lne43 : lam ≠ 43 := fun e => by obtain ⟨ob, q⟩ := l43; rw [e, q] at lamNew; cases lamNew
  have cne43 : cl ≠ 43 := fun e => by obtain ⟨ob, q⟩ := l43; rw [e, q] at clNew; cases clNew
  have nXlam : ¬ f.X lam := fun x => by obtain ⟨ob, q⟩ := st1.xok _ x; rw [lamNew] at q; cases q
  have nXcl : ¬ f.X cl := fun x => by obtain ⟨ob, q⟩ := st1.xok _ x; rw [clNew] at q; cases q
  have bc43 : bc ≠ 43 := fun e => nX43 (e ▸ hbX)
  have bc104 : bc ≠ 104 := fun e => nX104 (e ▸ hbX)
  have list3 : ∀ a vs, h3.IsList a vs → a ≠ 43 ∧ a ≠ 104 := fun a vs il => by
    obtain ⟨ob, e, hc, _⟩ := il
    have g104 : h3.get? 104 = some (tabObj (#[] ++ #[rawInt lpos.line, rawInt lpos.col, .ref cl])) := kr.keep _ _ (by decide) tab2
    refine ⟨fun q => ?_, fun q => ?_⟩
    · rw [q, t43] at e; cases e; cases hc
    · rw [q, g104] at e; cases e; cases hc
  have tup3 : ∀ a vs, IsTup h3 a vs → a ≠ 43 ∧ a ≠ 104 := fun a vs il => by
    obtain ⟨ob, e, hc, _⟩ := il
    have g104 : h3.get? 104 = some (tabObj (#[] ++ #[rawInt lpos.line, rawInt lpos.col, .ref cl])) := kr.keep _ _ (by decide) tab2
    refine ⟨fun q => ?_, fun q => ?_⟩
    · rw [q, t43] at e; cases e; cases hc
    · rw [q, g104] at e; cases e; cases hc
  have aft : Aft ⟨Challenge.rw_op0061_01.prog, w', C0, g⟩ ⟨Challenge.rw_op0061_01.prog, w', C, hideAll h3 l1⟩ f bc lam cl (kla_obj "<lambda>" (f.env.qual ++ "<lambda>") params body scope [((⟨⟨[98, 111, 117, 110, 100, 101, 100]⟩⟩ : Str), bc)] pm cl ctv) (f.env.qual ++ "<lambda>") bd C := by
    refine ⟨rfl, rfl, rfl, fun b ob e => ?_, fun a x n => hide_none ((ml1 a).mpr (.inr (.inr ⟨x, n⟩))), hide_none ((ml1 _).mpr (.inl rfl)), hide_none ((ml1 _).mpr (.inr (.inl rfl))), ?_, ?_, ?_, ?_⟩
    · exact get1 b ob (fun z => by rw [z] at e; exact absurd (hg43.symm.trans e) (by simp)) (fun z => by rw [z] at e; exact absurd (hg104.symm.trans e) (by simp)) (fun z => by have := o.dis _ z.1; exact absurd (this.symm.trans e) (by simp)) (st3.ext _ _ e)
    · exact get1 _ _ lne43 lam104 (fun z => nXlam z.1) (kr.keep _ _ lne43 lamAt)
    · obtain ⟨c₂, oc, vs, t, e2, hoc, hd, hv⟩ := recAt
      cases e2
      exact ⟨_, oc, vs, t, rfl, get1 _ _ cne43 cl104 (fun z => nXcl z.1) (kr.keep _ _ cne43 hoc), hd, hv⟩
    · obtain ⟨a, v, hkd, hlk, hcell, hr⟩ := st3.cs _ _ hbm hbl
      have ea : a = bc := by rw [hbc] at hlk; cases hlk; rfl
      subst ea
      obtain ⟨ob, e, d⟩ := hcell
      refine ⟨v, ⟨ob, get1 _ _ bc43 bc104 (fun z => z.2 rfl) e, d⟩, rep_pl (fun a vs nx il => ⟨?_, fun q => q⟩) (fun a vs nx il => ⟨?_, fun q => q⟩) (show Rep _ h3 f.X v bd from hr) hbp⟩
      · obtain ⟨n1, n2⟩ := list3 a vs il
        exact isList_ext (fun ob e => get1 a ob n1 n2 (fun z => nx z.1) e) il
      · obtain ⟨n1, n2⟩ := tup3 a vs il
        exact isTup_ext (fun ob e => get1 a ob n1 n2 (fun z => nx z.1) e) il
    · refine kr.all l1 fun a m => ?_
      rcases (ml1 a).mp m with rfl | rfl | ⟨x, _⟩
      · exact ⟨_, h2_43⟩
      · exact ⟨_, tab2⟩
      · exact st2.xok a x
  obtain ⟨nd1, ho1⟩ := hC1 C (ρ1 C) (hρ1 C)
  have get4 : ∀ b ob, b ≠ kc → h3.get? b = some ob → h4.get? b = some ob := fun b ob n e => (hs4.2 b n).trans e
  have list4 : ∀ a vs, ¬ f.X a → h3.IsList a vs → h4.IsList a vs ∧ ¬ (f.less bc).X a := fun a vs nx il => ⟨isList_ext (fun ob e => get4 a ob (fun q => nx (q ▸ hkX)) e) il, fun z => nx z.1⟩
  have tup4 : ∀ a vs, ¬ f.X a → IsTup h3 a vs → IsTup h4 a vs ∧ ¬ (f.less bc).X a := fun a vs nx il => ⟨isTup_ext (fun ob e => get4 a ob (fun q => nx (q ▸ hkX)) e) il, fun z => nx z.1⟩
  have key_sub : ∀ {en : En}, ((⟨⟨[107, 101, 121]⟩⟩ : Str), some en) ∈ ρ1 C → en = .imm (.val (.ref C)) := fun {en} h => by
    rcases ho1 _ _ h with ⟨_, e⟩ | ⟨e, _⟩
    · exact e
    · exact absurd rfl e
  have st4 : St ⟨Challenge.rw_op0061_01.prog, w', C, hideAll h3 l1⟩ (f.less bc) (ρ1 C) h4 := by
    refine ⟨nd1, fun b ob e => ?_, fun a z => ?_, fun x a e => ?_, fun x y a ds es h1 _ => ?_, ?_, fun x en hx hl => ?_⟩
    · have e3 := of_hideAll _ e
      refine get4 b ob (fun q => ?_) e3
      have m : b ∈ l1 := (ml1 b).mpr (.inr (.inr ⟨q ▸ hkX, q ▸ kcne⟩))
      have := hideAll_none (h := h3) _ m
      exact absurd (this.symm.trans e) (by simp)
    · obtain ⟨ob, e⟩ := st3.xok a z.1
      by_cases q : a = kc
      · exact q ▸ xk4
      · exact ⟨ob, get4 a ob q e⟩
    · obtain ⟨v, ic⟩ := st3.cl x a e
      by_cases q : a = kc
      · exact ⟨_, q ▸ hv4⟩
      · exact ⟨v, ic.sameBut hs4 q⟩
    · rcases ho1 _ _ h1 with ⟨_, e⟩ | ⟨_, _, d, e, _⟩ <;> cases e
    · obtain ⟨m, hn, r⟩ := st3.ns
      refine ⟨m, hn.sameBut hs4 (ns_ne_cell hn hv₀), fun x en hx hl => ?_⟩
      rcases ho1 _ _ hx with ⟨e, _⟩ | ⟨_, _, d, e, p, hm⟩
      · rw [e] at hl
        have hl' : f.env.kindOf ((⟨⟨[107, 101, 121]⟩⟩ : Str)) = some .local := hl
        rw [hkk] at hl'; cases hl'
      · subst e
        obtain ⟨v, hv, hr⟩ := r x _ hm hl
        exact ⟨v, hv, rep_pl list4 tup4 (show Rep _ h3 f.X v d from hr) p⟩
    · rcases ho1 _ _ hx with ⟨e, e2⟩ | ⟨nk, _, d, e, p, hm⟩
      · subst e e2
        exact ⟨kc, _, .inl hkk, hkc, hv4, .val _⟩
      · subst e
        obtain ⟨a, v, hkd, hlk, hcell, hr⟩ := st3.cs x _ hm hl
        have na : a ≠ kc := fun q => nk (o.apart x _ a hlk (q ▸ hkc))
        exact ⟨a, v, hkd, hlk, hcell.sameBut hs4 na, rep_pl list4 tup4 (show Rep _ h3 f.X v d from hr) p⟩
  have z4 : Fz ⟨Challenge.rw_op0061_01.prog, w', C, hideAll h3 l1⟩ (f.less bc) l h4 := by
    refine ⟨z.fr, funFrames_base z.ff fun b ob hb e d => ?_, fun b hb => ⟨z.fx b hb, fun q => hbF (q ▸ hb)⟩, fun b hb m => z.fm b hb m.1, fun e he m => z.hd e he m.1⟩
    have xb := z.fx b hb
    refine ⟨hide_none ((ml1 b).mpr (.inr (.inr ⟨xb, fun q => hbF (q ▸ hb)⟩))), ?_⟩
    have e3 := big b ob (fun q => nX43 (q ▸ xb)) (fun q => nX104 (q ▸ xb)) e
    by_cases q : b = kc
    · obtain ⟨o4, w4, d4⟩ := hv4
      exact ⟨o4, q ▸ w4, fun vs q => by rw [d4] at q; cases q⟩
    · exact ⟨ob, get4 b ob q e3, d⟩
  have nkc43 : (43 : Nat) ≠ kc := fun e => nX43 (by rw [e]; exact hkX)
  have nkc104 : (104 : Nat) ≠ kc := fun e => nX104 (by rw [e]; exact hkX)
  refine hrest ⟨Challenge.rw_op0061_01.prog, w', C, hideAll h3 l1⟩ lam cl C pm ctv aft { s with heap := h4, toks := t3 } Q E st4 z4 ⟨fun b ob n1 n2 e => get4 b ob (fun q => ?_) (big b ob n1 n2 (j _ _ e)), ⟨c0, _, more, T0, get4 _ _ nkc43 t43⟩, get4 _ _ nkc104 ?_⟩ fun h' tk p => q h' tk p
  · have := hX0 _ hkX
    rw [q, this] at e; cases e
  · have g104 := kr.keep _ _ (by decide) tab2
    rw [g104]
    simp
end
end Mine
end
section
namespace Mine
open PySem PySem.W PySem.Calls PyProof.Rows PySem.Spec
section
variable {c : Cx} {f : Fx} {ρ ρ' ρ1 : Rho} {k : Nat} {l : List Env} {J F : Heap → Prop}
theorem lbd_mul (B : Base c) (o : Ok c f k) {lX : List Addr} (hlX : ∀ b, f.X b → b ∈ lX) {H0 : Heap} (hg43 : c.g.get? 43 = none) (hg104 : c.g.get? 104 = none) (h43 : ∃ ob, H0.get? 43 = some ob) (h104 : ∃ ob, H0.get? 104 = some ob) (hX0 : ∀ b, f.X b → H0.get? b = none)
    {pf cpos pos cp lpos : Pos} {params : Arguments} {body : Expr} {scope : Scope} {lhs r2 : Expr} {bdy rest : List Stmt} {ps : Array Value} {x : Int} {d2 : D} (hcode : f.env.code = .ref 106) (hcl : closureFor scope f.env = pure []) (hdef : defaultsOf params f.env = ([], []))
    (ht : TriplesOk ps.toList) (hnf : codeAmong lpos ps.toList = none) (hfv : ∀ ρ, Ev c f ρ (.Name ((⟨⟨[114, 101, 100, 117, 99, 101]⟩⟩ : Str)) pf) (.val (.ref 57))) (hl : Ev c f ρ lhs (.int x)) (hr : Ev c f ρ r2 d2) (hs2 : isStarred r2 = false) {Jk : Heap → Prop} (hJ : Stay f Jk) (hJ43 : ∀ h, Jk h → ∃ ob, h.get? 43 = some ob) (hJ4 : ∀ h h', Jk h → (∀ b ob, b ≠ 104 → h.get? b = some ob → h'.get? b = some ob) → Jk h')
    (hF : ∀ (g2 : Heap) lam cl pm ctv, (∀ b ob, c.g.get? b = some ob → g2.get? b = some ob) → g2.get? lam = some (kla_obj "<lambda>" (f.env.qual ++ "<lambda>") params body scope [] pm cl ctv) → g2.CodeRec (.ref cl) (f.env.qual ++ "<lambda>") → FnW { c with g := g2 } k (.ref 57) [.val (.ref lam), d2] (.int x))
    (hm : behindInMarks .NotEq (.Call (.Name ((⟨⟨[114, 101, 100, 117, 99, 101]⟩⟩ : Str)) pf) [.Lambda params body scope lpos, r2] [] cpos) = false)
    (hrest : LBd c f l (fun h => Jk h ∧ ∃ more, h.get? 104 = some (tabObj more) ∧ ∃ m2, more = ps ++ m2) F ρ rest) :
    LBd c f l (fun h => Jk h ∧ h.get? 104 = some (tabObj ps)) F ρ (.If (.Compare lhs [.NotEq] [.Call (.Name ((⟨⟨[114, 101, 100, 117, 99, 101]⟩⟩ : Str)) pf) [.Lambda params body scope lpos, r2] [] cpos] cp) bdy [] pos :: rest) := by
  intro s Q E st z j q
  have nX43 : ¬ f.X 43 := fun x => by obtain ⟨ob, e⟩ := h43; rw [hX0 _ x] at e; cases e
  have nX104 : ¬ f.X 104 := fun x => by obtain ⟨ob, e⟩ := h104; rw [hX0 _ x] at e; cases e
  refine wpAny_execs_cons (wpAny_If (wpAny_isTrue_Compare1 (hl s _ _ st fun v0 h0 t0 x0 r0 => ?_) hm))
  have st0 := st.up x0
  refine wpAny_Call_NameR (hfv ρ _ _ _ st0 fun v h1 t1 x1 r1 => ?_)
  cases r1
  have st1 := st0.up x1
  refine kp_fn (B.K 57 _ rfl) rfl f.A _ cpos _ _ _ (by rw [any_backTo]; exact evl_any (by show (true && (!isStarred r2 && true)) = true; rw [hs2]; rfl) _) (args_of rfl ?_)
  have e1 : starEach [Expr.Lambda params body scope lpos, r2] f.env = (false, eval (.Lambda params body scope lpos) f.env) :: starEach [r2] f.env := rfl
  rw [e1]
  have P1 : h1.get? 104 = some (tabObj ps) := x1 _ _ (x0 _ _ j.2)
  refine spliced_cons (ev_lam B o.toOkE hcode st1 P1 ht hnf hcl hdef fun lam cl ctv pm h2 t2 kk lamNew clNew lamAt recAt tab2 lam104 cl104 => ?_)
  have it1 : IterObj h1 104 := ⟨_, P1, fun _ _ q => (by cases q), fun q => (by cases q), fun _ q => (by cases q), fun q => (by cases q)⟩
  have st2 := st1.iter o it1 nX104 hg104 kk
  have hr' : EvL c f ρ [r2] [d2] := evl_cons hr evl_nil hs2
  refine hr' cpos { s with heap := h2, toks := t2 } _ _ st2 fun vs h3 t3 x3 rv => ?_
  have st3 := st2.up x3
  refine ⟨st3.ext, ?_⟩
  cases rv with
  | @cons v2 _ _ _ rv2 rs =>
  cases rs
  classical
  obtain ⟨l1, ml1⟩ : ∃ l1 : List Addr, ∀ a, a ∈ l1 ↔ (a = 43 ∨ a = 104 ∨ f.X a) := ⟨43 :: 104 :: lX.filter (fun a => decide (f.X a)), fun a => by
    simp only [List.mem_cons, List.mem_filter, decide_eq_true_eq]
    exact ⟨fun z => z.imp id fun z => z.imp id fun z => z.2, fun z => z.imp id fun z => z.imp id fun z => ⟨hlX _ z, z⟩⟩⟩
  have get1 : ∀ b ob, b ≠ 43 → b ≠ 104 → ¬ f.X b → h3.get? b = some ob → (hideAll h3 l1).get? b = some ob := fun b ob n1 n2 n3 e => hideAll_get l1 e fun m => ((ml1 b).mp m).elim n1 fun z => z.elim n2 n3
  have l43 : ∃ ob, h1.get? 43 = some ob := let ⟨ob, e⟩ := hJ43 _ j.1; ⟨ob, x1 _ _ (x0 _ _ e)⟩
  have lne43 : lam ≠ 43 := fun e => by obtain ⟨ob, q⟩ := l43; rw [e, q] at lamNew; cases lamNew
  have cne43 : cl ≠ 43 := fun e => by obtain ⟨ob, q⟩ := l43; rw [e, q] at clNew; cases clNew
  have nXlam : ¬ f.X lam := fun x => by obtain ⟨ob, q⟩ := st1.xok _ x; rw [lamNew] at q; cases q
  have nXcl : ¬ f.X cl := fun x => by obtain ⟨ob, q⟩ := st1.xok _ x; rw [clNew] at q; cases q
  have big : ∀ b ob, b ≠ 104 → s.heap.get? b = some ob → h3.get? b = some ob := fun b ob n e => x3 _ _ (kk _ _ n (x1 _ _ (x0 _ _ e)))
  have eg : ∀ b ob, c.g.get? b = some ob → (hideAll h3 l1).get? b = some ob := fun b ob e =>
    get1 b ob (fun z => by rw [z] at e; exact absurd (hg43.symm.trans e) (by simp)) (fun z => by rw [z] at e; exact absurd (hg104.symm.trans e) (by simp)) (fun z => by have := o.dis _ z; exact absurd (this.symm.trans e) (by simp)) (st3.ext _ _ e)
  have FW := hF (hideAll h3 l1) lam cl pm ctv eg (get1 _ _ lne43 lam104 nXlam (x3 _ _ lamAt)) (by
    obtain ⟨c₂, oc, vs, t, e2, hoc, hd, hv⟩ := recAt
    cases e2
    exact ⟨_, oc, vs, t, rfl, get1 _ _ cne43 cl104 nXcl (x3 _ _ hoc), hd, hv⟩)
  have ff3 : h3.FunFrames (hideAll h3 l1) l := funFrames_base z.ff fun b ob hb e d => by
    have xb := z.fx b hb
    exact ⟨hide_none ((ml1 b).mpr (.inr (.inr xb))), ob, big b ob (fun q => nX104 (q ▸ xb)) e, d⟩
  refine FW f.A f.X l { s with heap := h3, toks := t3 } [.ref lam, v2] _ _ o.room (fun b ob e => of_hideAll _ e) (fun a xa => hide_none ((ml1 a).mpr (.inr (.inr xa)))) st3.xok z.fr ff3 z.fx (.cons (.val _) (.cons rv2 .nil)) fun v h4 t4 x4 r4 => ?_
  have st4 := st3.slo o.toOkE x4
  cases r0 with
  | int _ u0 =>
  cases r4 with
  | int _ u4 =>
  refine ne_int (wpAny_truthy_bool ?_)
  rw [show (x != x) = false from by simp]
  refine wpAny_execs_nil ?_
  have j4 : Jk h4 := hJ _ _ (hJ4 _ _ j.1 big) (slo_m x4)
  have p4 : h4.get? 104 = some (tabObj (ps ++ #[rawInt lpos.line, rawInt lpos.col, .ref cl])) := x4.keep _ _ nX104 (x3 _ _ tab2)
  have z4 : Fz c f l h4 := by
    refine ⟨z.fr, funFrames_base z.ff fun b ob hb e d => ?_, z.fx, z.fm, z.hd⟩
    have xb := z.fx b hb
    obtain ⟨sl, e4⟩ := x4.slot b ob xb (fun q => q) (big b ob (fun q => nX104 (q ▸ xb)) e)
    exact ⟨o.dis b xb, _, e4, d⟩
  exact hrest _ Q E st4 z4 ⟨j4, _, p4, _, rfl⟩ fun h' tk p => q h' tk p
end
end Mine
end
section
namespace Mine
open PySem PySem.W PySem.Calls PyProof.Rows PySem.Spec
section
variable {c : Cx} {k : Nat}
theorem fn_median_high (B : Base c) {ds es : List D} {d : D} {n : Nat} (hn : n = 3 ∨ n = 4) (S : Fn c k (.builtin "sorted") [.list ds] (.list es)) (hl : es.length = n) (he : es[n / 2]? = some d) : Fn c (k + 1) (.ref 41) [.list ds] d := by
  refine fn_def B [(⟨⟨[100, 97, 116, 97]⟩⟩ : Str)] [(⟨⟨[110]⟩⟩ : Str)] [] _ rfl (B.K 41 _ rfl) rfl ?hcd rfl rfl rfl ?hbind rfl ?hcell ?hloc ?nd ?hfr ?hcl ?hap ?hb rfl rfl rfl
  case hb =>
    intro A L X hXL ok
    walk_at "m_bd"
    walk_at "m_bd"
    rw [hl]
    rcases hn with rfl | rfl
    · refine bd_seq (ex_if (b := false) (by walk_at "m_tr") exs_nil) ?_
      refine bd_stop (by walk_at "m_st")
    · refine bd_seq (ex_if (b := false) (by walk_at "m_tr") exs_nil) ?_
      refine bd_stop (by walk_at "m_st")
  walk_at "m_fn"
/-- the order of the things -/
structure Ord (lt : Nat → Nat → Bool) (m : Nat) : Prop where
  irr : ∀ a, a < m → lt a a = false
  tot : ∀ a b, a < m → b < m → a ≠ b → lt b a = !lt a b
  tr : ∀ a b c, a < m → b < m → c < m → lt a b = true → lt b c = true → lt a c = true
/-- the comparisons of keys -/
structure Cmps (c : Cx) (k : Nat) (fl fg fe : Addr) (lt : Nat → Nat → Bool) (m : Nat) : Prop where
  wl : Way c "__lt__" fl
  wg : Way c "__gt__" fg
  we : Way c "__eq__" fe
  hl : ∀ a b, a < m → b < m → Fn c k (.ref fl) [.key a, .key b] (.bool (lt a b))
  hg : ∀ a b, a < m → b < m → Fn c k (.ref fg) [.key a, .key b] (.bool (lt b a))
  he : ∀ a b, a < m → b < m → Fn c k (.ref fe) [.key a, .key b] (.bool (a == b))
variable {fl fg fe : Addr} {lt : Nat → Nat → Bool} {m : Nat}
theorem tri {lt : Nat → Nat → Bool} {m : Nat} (O : Ord lt m) {x y z : Nat} (hx : x < m) (hy : y < m) (hz : z < m) (h1 : x ≠ y) (h2 : x ≠ z) (h3 : y ≠ z) : ((lt x y && lt y z) = true → lt x z = true) ∧ ((!lt x y && !lt y z) = true → (!lt x z) = true) := by
  refine ⟨fun e => ?_, fun e => ?_⟩
  · rw [Bool.and_eq_true] at e; exact O.tr x y z hx hy hz e.1 e.2
  · rw [Bool.and_eq_true] at e
    rw [← O.tot x z hx hz h2]
    exact O.tr z y x hz hy hx (by rw [O.tot y z hy hz h3]; exact e.2) (by rw [O.tot x y hx hy h1]; exact e.1)
theorem cmp3_ok (O : Ord lt m) {x y z : Nat} (hx : x < m) (hy : y < m) (hz : z < m) (h1 : x ≠ y) (h2 : x ≠ z) (h3 : y ≠ z) : ∀ i j, i < 3 → j < 3 → lt ([x, y, z].getD i 0) ([x, y, z].getD j 0) = cmp3 (lt x y) (lt x z) (lt y z) i j
  | 0, 0, _, _ => O.irr x hx
  | 0, 1, _, _ => rfl
  | 0, 2, _, _ => rfl
  | 1, 0, _, _ => O.tot x y hx hy h1
  | 1, 1, _, _ => O.irr y hy
  | 1, 2, _, _ => rfl
  | 2, 0, _, _ => O.tot x z hx hz h2
  | 2, 1, _, _ => O.tot y z hy hz h3
  | 2, 2, _, _ => O.irr z hz
  | i + 3, _, h, _ => by omega
  | _, j + 3, _, h => by omega
theorem out_at {is : List Nat} {l : List Nat} {i j : Nat} (h : l[i]? = some j) : ((l.map fun i => is.getD i 0).map D.key)[i]? = some (.key (is.getD j 0)) := by
  rw [List.getElem?_map, List.getElem?_map, h]; rfl
/-- the four medians of a window -/
structure Meds (c : Cx) (k : Nat) (x y z t b w : Nat) : Prop where
  l3 : Fn c k (.ref 34) [.list [.key x, .key y, .key z]] (.key w)
  l4 : Fn c k (.ref 34) [.list [.key x, .key y, .key z, .key t]] (.key w)
  h3 : Fn c k (.ref 41) [.list [.key x, .key y, .key z]] (.key w)
  h4 : Fn c k (.ref 41) [.list [.key b, .key x, .key y, .key z]] (.key w)
theorem meds (B : Base c) (Cs : Cmps c k fl fg fe lt m) (O : Ord lt m) {x y z t b : Nat} (hx : x < m) (hy : y < m) (hz : z < m) (ht : t < m) (hb : b < m) (h1 : x ≠ y) (h2 : x ≠ z) (h3 : y ≠ z) (top : ∀ a ∈ [x, y, z], lt a t = true ∧ a ≠ t) (bot : ∀ a ∈ [x, y, z], lt b a = true ∧ b ≠ a) : Meds c (k + 3) x y z t b (mid3 lt x y z) := by
  have T := tri O hx hy hz h1 h2 h3
  obtain ⟨a1, a2, a3, a4⟩ := srt3 (lt x y) (lt x z) (lt y z) T.1 T.2
  obtain ⟨t1, t2, t3, t4⟩ := srtT (lt x y) (lt x z) (lt y z) T.1 T.2
  obtain ⟨b1, b2, b3, b4⟩ := srtB (lt x y) (lt x z) (lt y z) T.1 T.2
  have c3 := cmp3_ok O hx hy hz h1 h2 h3
  have mem : ∀ i, i < 3 → [x, y, z].getD i 0 ∈ [x, y, z] := fun i hi => match i, hi with
    | 0, _ => by simp
    | 1, _ => by simp
    | 2, _ => by simp
  have ltm : ∀ a ∈ [x, y, z], a < m := fun a ha => by
    simp only [List.mem_cons, List.not_mem_nil, or_false] at ha
    rcases ha with rfl | rfl | rfl <;> assumption
  have S3 := fn_sorted (k := k) (is := [x, y, z]) (cmp := cmp3 (lt x y) (lt x z) (lt y z)) Cs.wl (by simp) (by simp) a1 (fun i j hi hj => by
    rw [← c3 i j hi hj]; exact Cs.hl _ _ (ltm _ (mem i hi)) (ltm _ (mem j hj))) a3
  have ST := fn_sorted (k := k) (is := [x, y, z, t]) (cmp := cmpT (lt x y) (lt x z) (lt y z)) Cs.wl (by simp) (by simp) t1 (fun i j hi hj => by
    have hi : i < 4 := hi
    have hj : j < 4 := hj
    by_cases i3 : i = 3
    · subst i3
      have e : ([x, y, z, t].getD 3 0) = t := rfl
      rw [e]
      by_cases j3 : j = 3
      · subst j3
        have := Cs.hl t t ht ht
        rw [O.irr t ht] at this; exact this
      · have hj3 : j < 3 := by omega
        have e2 : [x, y, z, t].getD j 0 = [x, y, z].getD j 0 := match j, hj3 with
          | 0, _ => rfl
          | 1, _ => rfl
          | 2, _ => rfl
        rw [e2]
        have q := top _ (mem j hj3)
        have := Cs.hl t _ ht (ltm _ (mem j hj3))
        rw [O.tot _ t (ltm _ (mem j hj3)) ht q.2, q.1] at this
        have e3 : cmpT (lt x y) (lt x z) (lt y z) 3 j = false := rfl
        rw [e3]; exact this
    · have hi3 : i < 3 := by omega
      have e1 : [x, y, z, t].getD i 0 = [x, y, z].getD i 0 := match i, hi3 with
        | 0, _ => rfl
        | 1, _ => rfl
        | 2, _ => rfl
      rw [e1]
      by_cases j3 : j = 3
      · subst j3
        have q := top _ (mem i hi3)
        have := Cs.hl _ t (ltm _ (mem i hi3)) ht
        rw [q.1] at this
        have e3 : cmpT (lt x y) (lt x z) (lt y z) i 3 = true := match i, hi3 with
          | 0, _ => rfl
          | 1, _ => rfl
          | 2, _ => rfl
        rw [e3]; exact this
      · have hj3 : j < 3 := by omega
        have e2 : [x, y, z, t].getD j 0 = [x, y, z].getD j 0 := match j, hj3 with
          | 0, _ => rfl
          | 1, _ => rfl
          | 2, _ => rfl
        rw [e2]
        have e3 : cmpT (lt x y) (lt x z) (lt y z) i j = cmp3 (lt x y) (lt x z) (lt y z) i j := match i, j, hi3, hj3 with
          | 0, 0, _, _ => rfl
          | 0, 1, _, _ => rfl
          | 0, 2, _, _ => rfl
          | 1, 0, _, _ => rfl
          | 1, 1, _, _ => rfl
          | 1, 2, _, _ => rfl
          | 2, 0, _, _ => rfl
          | 2, 1, _, _ => rfl
          | 2, 2, _, _ => rfl
        rw [e3, ← c3 i j hi3 hj3]; exact Cs.hl _ _ (ltm _ (mem i hi3)) (ltm _ (mem j hj3))) t3
  have SB := fn_sorted (k := k) (is := [b, x, y, z]) (cmp := cmpB (lt x y) (lt x z) (lt y z)) Cs.wl (by simp) (by simp) b1 (fun i j hi hj => by
    match i, j, hi, hj with
    | 0, 0, _, _ =>
      have := Cs.hl b b hb hb
      rw [O.irr b hb] at this; exact this
    | 0, j + 1, _, hj =>
      have hj3 : j < 3 := by simp only [List.length_cons, List.length_nil] at hj; omega
      have q := bot _ (mem j hj3)
      have := Cs.hl b _ hb (ltm _ (mem j hj3))
      rw [q.1] at this
      exact this
    | i + 1, 0, hi, _ =>
      have hi3 : i < 3 := by simp only [List.length_cons, List.length_nil] at hi; omega
      have q := bot _ (mem i hi3)
      have := Cs.hl _ b (ltm _ (mem i hi3)) hb
      rw [O.tot b _ hb (ltm _ (mem i hi3)) q.2, q.1] at this
      exact this
    | i + 1, j + 1, hi, hj =>
      have hi3 : i < 3 := by simp only [List.length_cons, List.length_nil] at hi; omega
      have hj3 : j < 3 := by simp only [List.length_cons, List.length_nil] at hj; omega
      show Fn c k (.ref fl) [.key ([x, y, z].getD i 0), .key ([x, y, z].getD j 0)] (.bool (cmp3 (lt x y) (lt x z) (lt y z) i j))
      rw [← c3 i j hi3 hj3]; exact Cs.hl _ _ (ltm _ (mem i hi3)) (ltm _ (mem j hj3))) b3
  have mi : midI (lt x y) (lt x z) (lt y z) < 3 := by
    have : ∀ p q r : Bool, midI p q r < 3 := by decide
    exact this _ _ _
  have mT : ∀ i, i < 3 → [x, y, z, t].getD i 0 = [x, y, z].getD i 0 := fun i hi => match i, hi with
    | 0, _ => rfl
    | 1, _ => rfl
    | 2, _ => rfl
  refine ⟨fn_median_low B (.inl rfl) S3 (by simp only [List.length_map]; exact a4) (out_at a2), fn_median_low B (.inr rfl) ST (by simp only [List.length_map]; exact t4) ?_, fn_median_high B (.inl rfl) S3 (by simp only [List.length_map]; exact a4) (out_at a2), fn_median_high B (.inr rfl) SB (by simp only [List.length_map]; exact b4) ?_⟩
  · have := out_at (is := [x, y, z, t]) t2
    rw [mT _ mi] at this; exact this
  · exact out_at (is := [b, x, y, z]) b2
end
end Mine
end
section
namespace Mine
open PySem PySem.W PySem.Calls PyProof.Rows PySem.Spec
section
variable {c : Cx} {k : Nat} {fl fg fe : Addr} {lt : Nat → Nat → Bool} {m : Nat}
theorem cm_keq (Cs : Cmps c k fl fg fe lt m) {f : Fx} (o : Ok c f k) {a b : Nat} (ha : a < m) (hb : b < m) : Cm c f .Eq (.key a) (.key b) (a == b) := cm_key rfl (by simp) Cs.we o (Cs.he a b ha hb)
theorem cm_klt (Cs : Cmps c k fl fg fe lt m) {f : Fx} (o : Ok c f k) {a b : Nat} (ha : a < m) (hb : b < m) : Cm c f .Lt (.key a) (.key b) (lt a b) := cm_key rfl (by simp) Cs.wl o (Cs.hl a b ha hb)
theorem cm_kgt (Cs : Cmps c k fl fg fe lt m) {f : Fx} (o : Ok c f k) {a b : Nat} (ha : a < m) (hb : b < m) : Cm c f .Gt (.key a) (.key b) (lt b a) := cm_key rfl (by simp) Cs.wg o (Cs.hg a b ha hb)
theorem fn_all_are (B : Base c) (Cs : Cmps c k fl fg fe lt m) {ms : List Nat} {t : Nat} (hms : ∀ a ∈ ms, a < m) (ht : t < m) : Fn c (k + 1) (.ref 78) [.list (ms.map D.key), .key t] (.bool (ms.all (· == t))) := by
  refine fn_def B [(⟨⟨[109, 105, 100, 100, 108, 101, 115]⟩⟩ : Str), (⟨⟨[116, 119, 105, 110]⟩⟩ : Str)] [(⟨⟨[109, 105, 100, 100, 108, 101]⟩⟩ : Str)] [] _ rfl (B.K 78 _ rfl) rfl ?hcd rfl rfl rfl ?hbind rfl ?hcell ?hloc ?nd ?hfr ?hcl ?hap ?hb rfl rfl rfl
  case hb =>
    intro A L X hXL ok
    have step : ∀ d ∈ ms.map D.key, ∃ a, d = .key a ∧ a ∈ ms := fun d hd => by
      obtain ⟨a, ha, rfl⟩ := List.mem_map.mp hd
      exact ⟨a, rfl, ha⟩
    have hall : (ms.map D.key).any (fun d => match d with | .key a => !(a == t) | _ => false) = !ms.all (· == t) := by
      rw [List.any_map, List.not_all_eq_any_not]; rfl
    cases e : ms.all (· == t) with
    | true =>
      refine bd_seq (ex_for (d := .list (ms.map D.key)) (es := ms.map D.key) (by walk_at "m_ev") rfl (fo_any0 (k := k) ok (.bool false) _ (hall.trans (by rw [e]; rfl)) (by walk_at "m_stor") fun d hd => ?_) (fun _ => rfl)) (bd_stop (by walk_at "m_st"))
      obtain ⟨a, rfl, ha⟩ := step d hd
      have heq := cm_keq Cs ok (hms a ha) ht
      cases q : a == t with
      | true =>
        rw [q] at heq
        simp only [q, Bool.not_true, Bool.false_eq_true, if_false]
        exact ⟨_, _, by walk_at "m_upd", exs_cons (ex_if (b := false) (tr_not (b := true) (by walk_at "m_tr")) exs_nil) exs_nil, by walk_at "m_le"⟩
      | false =>
        rw [q] at heq
        simp only [q, Bool.not_false, if_true]
        exact ⟨_, _, by walk_at "m_upd", exs_stop (ex_if (b := true) (tr_not (b := false) (by walk_at "m_tr")) (exs_stop (by walk_at "m_st") (by simp))) (by simp), by walk_at "m_le"⟩
    | false =>
      refine bd_stop (ex_for (d := .list (ms.map D.key)) (es := ms.map D.key) (by walk_at "m_ev") rfl (fo_any1 (k := k) ok (.bool false) _ (hall.trans (by rw [e]; rfl)) (by walk_at "m_stor") fun d hd => ?_) (fun _ => rfl))
      obtain ⟨a, rfl, ha⟩ := step d hd
      have heq := cm_keq Cs ok (hms a ha) ht
      cases q : a == t with
      | true =>
        rw [q] at heq
        simp only [q, Bool.not_true, Bool.false_eq_true, if_false]
        exact ⟨_, _, by walk_at "m_upd", exs_cons (ex_if (b := false) (tr_not (b := true) (by walk_at "m_tr")) exs_nil) exs_nil, by walk_at "m_le"⟩
      | false =>
        rw [q] at heq
        simp only [q, Bool.not_false, if_true]
        exact ⟨_, _, by walk_at "m_upd", exs_stop (ex_if (b := true) (tr_not (b := false) (by walk_at "m_tr")) (exs_stop (by walk_at "m_st") (by simp))) (by simp), by walk_at "m_le"⟩
  walk_at "m_fn"
end
end Mine
end
section
namespace Mine
open PySem PySem.W PySem.Calls PyProof.Rows PySem.Spec
noncomputable def swp (lt : Nat → Nat → Bool) (a b c : Nat) : List Nat := if mid3 lt a b c == a then [a, c, b] else if mid3 lt a b c == c then [b, a, c] else [a, b, c]
noncomputable def oth (lt : Nat → Nat → Bool) (line : List Nat) (k : Nat) : List Nat := line.take k ++ swp lt (line.getD k 0) (line.getD (k + 1) 0) (line.getD (k + 2) 0) ++ line.drop (k + 3)
noncomputable def stepK (lt : Nat → Nat → Bool) (line : List Nat) (ls : List (List Nat)) (k : Nat) : List (List Nat) := if ls.contains (oth lt line k) then ls else ls ++ [oth lt line k]
noncomputable def turn (lt : Nat → Nat → Bool) (n : Nat) (line : List Nat) (ls : List (List Nat)) : List (List Nat) := (List.range (n - 2)).foldl (stepK lt line) ls
noncomputable def okL (n : Nat) (line : List Nat) : Bool := line.length == n && line.all (fun a => decide (a < n)) && decide line.Nodup
noncomputable def nxtL (lt : Nat → Nat → Bool) (n : Nat) (s : Nat × List (List Nat)) : Option (Option (Nat × List (List Nat))) := match s.2[s.1]? with
  | none => if decide (s.2.length ≤ 1000) then some none else none
  | some line => if okL n line && decide (s.2.length ≤ 1000) then some (some (s.1 + 1, turn lt n line s.2)) else none
theorem getD_lt {l : List Nat} {i : Nat} (h : i < l.length) : l[i]? = some (l.getD i 0) := by
  rw [List.getElem?_eq_getElem h, getD_of (List.getElem?_eq_getElem h)]
theorem pick3 (l : List Nat) (k : Nat) (h : k + 3 ≤ l.length) : pick (l.map fun a : Nat => D.int a) (some (k : Int)) (some ((k : Int) + 3)) none = [.int (l.getD k 0 : Nat), .int (l.getD (k + 1) 0 : Nat), .int (l.getD (k + 2) 0 : Nat)] := by
  have e : (k : Int) + 3 = ((k + 3 : Nat) : Int) := by omega
  rw [e, pick_part _ _ _ (by omega)]
  have e2 : k + 3 - k = 3 := by omega
  rw [e2, ← List.map_drop, ← List.map_take]
  have e3 : (l.drop k).take 3 = [l.getD k 0, l.getD (k + 1) 0, l.getD (k + 2) 0] := by
    apply List.ext_getElem?
    intro i
    match i with
    | 0 => rw [List.getElem?_take_of_lt (by omega), List.getElem?_drop, getD_lt (by omega)]; rfl
    | 1 => rw [List.getElem?_take_of_lt (by omega), List.getElem?_drop, getD_lt (by omega)]; rfl
    | 2 => rw [List.getElem?_take_of_lt (by omega), List.getElem?_drop, getD_lt (by omega)]; rfl
    | i + 3 =>
      rw [List.getElem?_eq_none (by rw [List.length_take]; omega)]; rfl
  rw [e3]; rfl
theorem okL_at {n : Nat} {line : List Nat} (h : okL n line = true) : line.length = n ∧ (∀ a ∈ line, a < n) ∧ line.Nodup := by
  unfold okL at h
  simp only [Bool.and_eq_true, beq_iff_eq, List.all_eq_true, decide_eq_true_eq] at h
  exact ⟨h.1.1, h.1.2, h.2⟩
theorem okL_ne {n : Nat} {line : List Nat} (h : okL n line = true) {i j : Nat} (hi : i < n) (hj : j < n) (hij : i ≠ j) : line.getD i 0 ≠ line.getD j 0 := by
  obtain ⟨h1, h2, h3⟩ := okL_at h
  intro e
  have a1 := getD_lt (l := line) (i := i) (by omega)
  have a2 := getD_lt (l := line) (i := j) (by omega)
  rw [← e] at a2
  exact hij ((List.getElem?_inj (by omega) h3).mp (a1.trans a2.symm))
section
variable {c : Cx} {k : Nat} {fl fg fe : Addr} {lt : Nat → Nat → Bool} {n : Nat}
noncomputable abbrev linesR (n : Nat) (lines : Option En) (a line kk x y z th mi ot : Option En) : Rho :=
  [((⟨⟨[107, 101, 121, 115]⟩⟩ : Str), some (.imm (.list ((List.range (n + 2)).map D.key)))), ((⟨⟨[116, 119, 105, 110, 115]⟩⟩ : Str), some (.imm (.list ((List.range n).map D.key)))), ((⟨⟨[110]⟩⟩ : Str), some (.imm (.int n))),
   ((⟨⟨[108, 105, 110, 101, 115]⟩⟩ : Str), lines), ((⟨⟨[97, 116]⟩⟩ : Str), a), ((⟨⟨[108, 105, 110, 101]⟩⟩ : Str), line), ((⟨⟨[107]⟩⟩ : Str), kk), ((⟨⟨[97]⟩⟩ : Str), x), ((⟨⟨[98]⟩⟩ : Str), y), ((⟨⟨[99]⟩⟩ : Str), z), ((⟨⟨[116, 104, 114, 101, 101]⟩⟩ : Str), th), ((⟨⟨[109, 105, 100, 100, 108, 101, 115]⟩⟩ : Str), mi), ((⟨⟨[111, 116, 104, 101, 114]⟩⟩ : Str), ot)]
theorem fn_lines (B : Base c) (Cs : Cmps c k fl fg fe lt (n + 2)) (O : Ord lt (n + 2)) (hn : 3 ≤ n) (hn2 : n ≤ 1000) (top : ∀ a, a < n → lt a n = true) (bot : ∀ a, a < n → lt (n + 1) a = true) {fuel i : Nat} {L : List (List Nat)} (hw : runW (nxtL lt n) fuel (0, [List.range n]) = some (i, L)) :
    Fn c (k + 4) (.ref 85) [.list ((List.range (n + 2)).map D.key), .list ((List.range n).map D.key), .int n] (.list (L.map nD)) := by
  refine fn_def B [(⟨⟨[107, 101, 121, 115]⟩⟩ : Str), (⟨⟨[116, 119, 105, 110, 115]⟩⟩ : Str), (⟨⟨[110]⟩⟩ : Str)] [(⟨⟨[108, 105, 110, 101, 115]⟩⟩ : Str), (⟨⟨[97, 116]⟩⟩ : Str), (⟨⟨[108, 105, 110, 101]⟩⟩ : Str), (⟨⟨[107]⟩⟩ : Str), (⟨⟨[97]⟩⟩ : Str), (⟨⟨[98]⟩⟩ : Str), (⟨⟨[99]⟩⟩ : Str), (⟨⟨[116, 104, 114, 101, 101]⟩⟩ : Str), (⟨⟨[109, 105, 100, 100, 108, 101, 115]⟩⟩ : Str), (⟨⟨[111, 116, 104, 101, 114]⟩⟩ : Str)] [] (linesR n none none none none none none none none none none) rfl (B.K 85 _ rfl) rfl ?hcd rfl rfl rfl ?hbind rfl ?hcell ?hloc ?nd ?hfr ?hcl ?hap ?hb rfl rfl rfl
  case hb =>
    intro A L0 X hXL ok
    have hr : Fn c (k + 3) (.type "list") [.range 0 n 1] (nD (List.range n)) := fn_listRange (items_to n hn2) (by simp; omega)
    refine bd_own (ds := [List.range n].map nD) ok (evf_list (by walk_at "m_evl") (by simp)) (fun a => linesR n (some (.own a ([List.range n].map nD))) none none none none none none none none none) (fun a => by walk_at "m_upd") (.inl rfl) rfl fun a ok' => ?_
    clear ok
    refine bd_seq (ρ' := linesR n (some (.own a ([List.range n].map nD))) (some (.imm (.int (0 : Nat)))) none none none none none none none none) (by walk_at "m_st") ?_
    refine bd_seq (ex_while (wh_run (fun s : Nat × List (List Nat) => linesR n (some (.own a (s.2.map nD))) (some (.imm (.int s.1))) none none none none none none none none) (nxtL lt n) ?stop ?step fuel _ _ hw)) (bd_stop (by walk_at "m_st"))
    case stop =>
      rintro ⟨i, ls⟩ h
      have hi : ls.length ≤ i := by
        unfold nxtL at h
        dsimp only at h
        split at h
        · rename_i q; exact List.getElem?_eq_none_iff.mp q
        · split at h <;> cases h
      have hz : ls.length ≤ 1000000 := by
        unfold nxtL at h
        dsimp only at h
        split at h
        · split at h
          · rename_i q; have := of_decide_eq_true q; omega
          · cases h
        · split at h <;> cases h
      have e : decide ((i : Int) < ((ls.map nD).length : Int)) = false := by
        rw [List.length_map]; exact decide_eq_false (by omega)
      exact tr_eq e (by walk_at "m_tr")
    case step =>
      rintro ⟨i, ls⟩ s' h
      unfold nxtL at h
      dsimp only at h
      cases hl : ls[i]? with
      | none =>
        rw [hl] at h
        dsimp only at h
        split at h <;> cases h
      | some line =>
        rw [hl] at h
        dsimp only at h
        split at h
        · rename_i hok
          rw [Bool.and_eq_true, decide_eq_true_eq] at hok
          obtain ⟨hok, hz⟩ := hok
          have h := Option.some.inj (Option.some.inj h)
          subst h
          have hi : i < ls.length := (List.getElem?_eq_some_iff.mp hl).1
          have hz2 : ls.length ≤ 1000000 := by omega
          have e : decide ((i : Int) < ((ls.map nD).length : Int)) = true := by
            rw [List.length_map]; exact decide_eq_true (by omega)
          refine ⟨tr_eq e (by walk_at "m_tr"), ?_⟩
          have hi1 : (ls.map nD)[((i : Int)).toNat]? = some (nD line) := by
            rw [Int.toNat_natCast, List.getElem?_map, hl]; rfl
          obtain ⟨ol, om, od⟩ := okL_at hok
          have e2 : (n : Int) - 2 = ((n - 2 : Nat) : Int) := by omega
          have hit : Items (.range 0 ((n : Int) - 2) 1) ((List.range (n - 2)).map fun j : Nat => D.int j) := by
            rw [e2]; exact items_to (n - 2) (by omega)
          have hturn : ((List.range (n - 2)).map fun j : Nat => D.int j).foldl (fun ls d => match d with | .int k => stepK lt line ls k.toNat | _ => ls) ls = turn lt n line ls := by
            rw [List.foldl_map]; rfl
          have fin : Le (linesR n (some (.own a ((turn lt n line ls).map nD))) (some (.imm (.int ((i : Int) + 1)))) (some (.imm (nD line))) none none none none none none none) (linesR n (some (.own a ((turn lt n line ls).map nD))) (some (.imm (.int ((i + 1 : Nat) : Int)))) none none none none none none none none) := by
            rw [show ((i + 1 : Nat) : Int) = (i : Int) + 1 from by omega]
            walk_at "m_le"
          refine ⟨_, exs_cons (by walk_at "m_st") (exs_cons (by walk_at "m_st") (exs_cons (ex_for (d := .range 0 ((n : Int) - 2) 1) (es := (List.range (n - 2)).map fun j : Nat => D.int j) (by walk_at "m_ev") hit
            (fo_fold ok' (fun ls => linesR n (some (.own a (ls.map nD))) (some (.imm (.int ((i : Int) + 1)))) (some (.imm (nD line))) none none none none none none none) (fun ls d => match d with | .int k => stepK lt line ls k.toNat | _ => ls)
              (fun ls ds => (∀ d ∈ ds, ∃ k : Nat, d = .int k ∧ k + 3 ≤ n) ∧ ls.length + ds.length ≤ 3000) (by walk_at "m_stor") ?turn _ ls ?hI) (fun _ => rfl)) exs_nil)), by rw [hturn]; exact fin⟩
          case hI =>
            refine ⟨fun d hd => ?_, by simp; omega⟩
            obtain ⟨j, hj, rfl⟩ := List.mem_map.mp hd
            exact ⟨j, rfl, by have := List.mem_range.mp hj; omega⟩
          case turn =>
            clear hturn fin hit hi1 e hi hl hz hz2
            intro ls d ds hI
            obtain ⟨hd, hlen⟩ := hI
            obtain ⟨k', rfl, hk⟩ := hd d (.head _)
            have hz : ls.length ≤ 1000000 := by simp at hlen; omega
            have hx : line.getD k' 0 < n := om _ (List.mem_of_getElem? (getD_lt (by omega)))
            have hy : line.getD (k' + 1) 0 < n := om _ (List.mem_of_getElem? (getD_lt (by omega)))
            have hzz : line.getD (k' + 2) 0 < n := om _ (List.mem_of_getElem? (getD_lt (by omega)))
            have n1 := okL_ne hok (i := k') (j := k' + 1) (by omega) (by omega) (by omega)
            have n2 := okL_ne hok (i := k') (j := k' + 2) (by omega) (by omega) (by omega)
            have n3 := okL_ne hok (i := k' + 1) (j := k' + 2) (by omega) (by omega) (by omega)
            have hp := congrArg D.list (pick3 line k' (by omega))
            have ho : oth lt line k' = line.take k' ++ swp lt (line.getD k' 0) (line.getD (k' + 1) 0) (line.getD (k' + 2) 0) ++ line.drop (k' + 3) := rfl
            show ∃ ρ1 ρ2, _ ∧ _ ∧ Le ρ2 (linesR n (some (.own a ((stepK lt line ls k').map nD))) _ _ _ _ _ _ _ _ _) ∧ _
            have hst : stepK lt line ls k' = if ls.contains (oth lt line k') then ls else ls ++ [oth lt line k'] := rfl
            rw [hst]
            generalize oth lt line k' = ot at ho
            generalize line.getD k' 0 = x at hx n1 n2 hp ho
            generalize line.getD (k' + 1) 0 = y at hy n1 n3 hp ho
            generalize line.getD (k' + 2) 0 = z at hzz n2 n3 hp ho
            have M := meds B Cs O (x := x) (y := y) (z := z) (t := n) (b := n + 1) (by omega) (by omega) (by omega) (by omega) (by omega) n1 n2 n3 (fun q hq => by
              simp only [List.mem_cons, List.not_mem_nil, or_false] at hq
              rcases hq with rfl | rfl | rfl <;> exact ⟨top _ (by assumption), by omega⟩) (fun q hq => by
              simp only [List.mem_cons, List.not_mem_nil, or_false] at hq
              rcases hq with rfl | rfl | rfl <;> exact ⟨bot _ (by assumption), by omega⟩)
            have hw : mid3 lt x y z < n := by
              unfold mid3
              generalize midI _ _ _ = q
              match q with
              | 0 => exact hx
              | 1 => exact hy
              | 2 => exact hzz
              | q + 3 => show 0 < n; omega
            have hsw : swp lt x y z = if mid3 lt x y z == x then [x, z, y] else if mid3 lt x y z == z then [y, x, z] else [x, y, z] := rfl
            generalize mid3 lt x y z = w at M hw hsw
            have l3 := M.l3
            have l4 : Fn c (k + 3) (.ref 34) [.list ([.key x, .key y, .key z] ++ [.key n])] (.key w) := M.l4
            have h3 := M.h3
            have h4 : Fn c (k + 3) (.ref 41) [.list ([.key (n + 1)] ++ [.key x, .key y, .key z])] (.key w) := M.h4
            clear M
            have at_ : ∀ q, q < n + 2 → ((List.range (n + 2)).map D.key)[((q : Int)).toNat]? = some (.key q) := fun q hq => by
              rw [Int.toNat_natCast, List.getElem?_map, List.getElem?_range hq]; rfl
            have ax := at_ x (by omega)
            have ay := at_ y (by omega)
            have az := at_ z (by omega)
            have an := at_ n (by omega)
            have an1 : ((List.range (n + 2)).map D.key)[((n : Int) + 1).toNat]? = some (.key (n + 1)) := at_ (n + 1) (by omega)
            have tw : ∀ q, q < n → ((List.range n).map D.key)[((q : Int)).toNat]? = some (.key q) := fun q hq => by
              rw [Int.toNat_natCast, List.getElem?_map, List.getElem?_range hq]; rfl
            have tx := tw x hx
            have tz := tw z hzz
            have hA : ∀ t, t < n → Fn c (k + 3) (.ref 78) [.list [.key w, .key w, .key w, .key w], .key t] (.bool (w == t)) := fun t ht => by
              have q := (fn_all_are B Cs (ms := [w, w, w, w]) (t := t) (fun q hq => by
                simp only [List.mem_cons, List.not_mem_nil, or_false, or_self] at hq
                omega) (by omega)).mono (k := k + 3) (by omega)
              have e : [w, w, w, w].all (· == t) = (w == t) := by simp
              rw [e] at q; exact q
            have hAx := hA x hx
            have hAz := hA z hzz
            obtain ⟨sx, sy, sz, hs, hcase⟩ : ∃ sx sy sz, swp lt x y z = [sx, sy, sz] ∧ ((w == x) = true ∧ sx = x ∧ sy = z ∧ sz = y ∨ (w == x) = false ∧ (w == z) = true ∧ sx = y ∧ sy = x ∧ sz = z ∨ (w == x) = false ∧ (w == z) = false ∧ sx = x ∧ sy = y ∧ sz = z) := by
              rw [hsw]
              cases q1 : w == x with
              | true => exact ⟨x, z, y, rfl, .inl ⟨rfl, rfl, rfl, rfl⟩⟩
              | false =>
                cases q2 : w == z with
                | true => exact ⟨y, x, z, rfl, .inr (.inl ⟨rfl, rfl, rfl, rfl, rfl⟩)⟩
                | false => exact ⟨x, y, z, rfl, .inr (.inr ⟨rfl, rfl, rfl, rfl, rfl⟩)⟩
            rw [hs] at ho
            have hzl : (line.map fun a : Nat => D.int a).length ≤ 1000000 := by rw [List.length_map]; omega
            have hotD : D.list (pick (line.map fun a : Nat => D.int a) none (some (k' : Int)) none ++ [.int sx, .int sy, .int sz] ++ pick (line.map fun a : Nat => D.int a) (some ((k' : Int) + 3)) none none) = nD ot := by
              rw [pick_upto, show (k' : Int) + 3 = ((k' + 3 : Nat) : Int) from by omega, pick_from, ho]
              show D.list _ = D.list _
              rw [List.map_append, List.map_append, List.map_take, List.map_drop]; rfl
            have hin : Cm c _ .NotIn (nD ot) (.list (ls.map nD)) (!ls.contains ot) := cm_eq' (by rw [any_n]) (cm_dnotin ok' (pl_n ot 8) (pls_nn ls 7))
            have hzp : (pick (line.map fun a : Nat => D.int a) none (some (k' : Int)) none).length + [D.int sx, .int sy, .int sz].length ≤ 1000000 := by
              rw [pick_upto, List.length_take]; simp only [List.length_map, List.length_cons, List.length_nil]; omega
            have hzq : (pick (line.map fun a : Nat => D.int a) none (some (k' : Int)) none ++ [D.int sx, .int sy, .int sz]).length + (pick (line.map fun a : Nat => D.int a) (some ((k' : Int) + 3)) none none).length ≤ 1000000 := by
              rw [pick_upto, show (k' : Int) + 3 = ((k' + 3 : Nat) : Int) from by omega, pick_from, List.length_append, List.length_take, List.length_drop]; simp only [List.length_map, List.length_cons, List.length_nil]; omega
            refine ⟨_, linesR n (some (.own a ((if ls.contains ot then ls else ls ++ [ot]).map nD))) (some (.imm (.int ((i : Int) + 1)))) (some (.imm (nD line))) (some (.imm (.int k'))) (some (.imm (.int sx))) (some (.imm (.int sy))) (some (.imm (.int sz))) (some (.imm (.list [.key x, .key y, .key z]))) (some (.imm (.list [.key w, .key w, .key w, .key w]))) (some (.imm (nD ot))), by walk_at "m_upd",
              exs_cons (ex_unpack ok' (ev_eq hp (by walk_at "m_ev")) (.cons puts_name (by walk_at "m_upd") (.inl rfl) (.cons puts_name (by walk_at "m_upd") (.inl rfl) (.cons puts_name (by walk_at "m_upd") (.inl rfl) .nil))) rfl rfl rfl rfl) (exs_cons (by walk_at "m_st") (exs_cons (by walk_at "m_st")
                (exs_cons (ρ1 := linesR n (some (.own a (ls.map nD))) (some (.imm (.int ((i : Int) + 1)))) (some (.imm (nD line))) (some (.imm (.int k'))) (some (.imm (.int sx))) (some (.imm (.int sy))) (some (.imm (.int sz))) (some (.imm (.list [.key x, .key y, .key z]))) (some (.imm (.list [.key w, .key w, .key w, .key w]))) none) ?iff
                (exs_cons (ex_assign ok' (ev_eq hotD (by walk_at "m_ev")) (by walk_at "m_upd") (by walk_at "m_stor") rfl) (exs_cons ?app exs_nil))))), by walk_at "m_le", ?_⟩
            case iff =>
              rcases hcase with ⟨q1, rfl, rfl, rfl⟩ | ⟨q1, q2, rfl, rfl, rfl⟩ | ⟨q1, q2, rfl, rfl, rfl⟩
              · rw [q1] at hAx
                refine ex_if (b := true) (by walk_at "m_tr") (exs_cons (ex_swap (names := [(⟨⟨[98]⟩⟩ : Str), (⟨⟨[99]⟩⟩ : Str)]) (ds := [.int sy, .int sz]) ok' (by walk_at "m_ev") (.cons puts_bind (by walk_at "m_upd") (.inl rfl) (.cons puts_bind (by walk_at "m_upd") (.inl rfl) .nil)) rfl rfl rfl) exs_nil)
              · rw [q1] at hAx
                rw [q2] at hAz
                refine ex_if (b := false) (by walk_at "m_tr") (exs_cons (ex_if (b := true) (by walk_at "m_tr") (exs_cons (ex_swap (names := [(⟨⟨[97]⟩⟩ : Str), (⟨⟨[98]⟩⟩ : Str)]) (ds := [.int sx, .int sy]) ok' (by walk_at "m_ev") (.cons puts_bind (by walk_at "m_upd") (.inl rfl) (.cons puts_bind (by walk_at "m_upd") (.inl rfl) .nil)) rfl rfl rfl) exs_nil)) exs_nil)
              · rw [q1] at hAx
                rw [q2] at hAz
                refine ex_if (b := false) (by walk_at "m_tr") (exs_cons (ex_if (b := false) (by walk_at "m_tr") exs_nil) exs_nil)
            case app =>
              cases q : ls.contains ot with
              | true =>
                rw [q, Bool.not_true] at hin
                exact ex_if (b := false) (by walk_at "m_tr") exs_nil
              | false =>
                rw [q, Bool.not_false] at hin
                have e : (if false = true then ls else ls ++ [ot]).map nD = ls.map nD ++ [nD ot] := by simp
                rw [e]
                exact ex_if (b := true) (by walk_at "m_tr") (exs_cons (by walk_at "m_st") exs_nil)
            · refine ⟨fun d h => hd d (.tail _ h), ?_⟩
              simp only [List.length_cons] at hlen
              have hle : (stepK lt line ls k').length ≤ ls.length + 1 := by
                unfold stepK
                split
                · omega
                · rw [List.length_append]; exact Nat.le_refl _
              show (stepK lt line ls k').length + _ ≤ _
              omega
        · cases h
  walk_at "m_fn"
end
end Mine
end
section
namespace Mine
open PySem PySem.W PySem.Calls PyProof.Rows PySem.Spec
noncomputable def hookC (sizes : List Nat) (i j : Nat) : Nat := sizes.getD i 0 - j + ((sizes.drop (i + 1)).filter fun s => decide (j < s)).length
noncomputable def hooks (sizes : List Nat) : Nat := (List.range sizes.length).foldl (fun p i => (List.range (sizes.getD i 0)).foldl (fun p j => p * hookC sizes i j) p) 1
section
variable {c : Cx} {k : Nat}
noncomputable abbrev hooksR (sizes : List Nat) (p i j : Option En) : Rho := [((⟨⟨[115, 105, 122, 101, 115]⟩⟩ : Str), some (.imm (nD sizes))), ((⟨⟨[112, 114, 111, 100, 117, 99, 116]⟩⟩ : Str), p), ((⟨⟨[105]⟩⟩ : Str), i), ((⟨⟨[106]⟩⟩ : Str), j)]
theorem fn_hooks (B : Base c) {sizes : List Nat} (hl : sizes.length ≤ 1000) (hs : ∀ s ∈ sizes, s ≤ 1000) : Fn c (k + 1) (.ref 97) [nD sizes] (.int (hooks sizes : Nat)) := by
  refine fn_cdef B [(⟨⟨[115, 105, 122, 101, 115]⟩⟩ : Str)] [(⟨⟨[112, 114, 111, 100, 117, 99, 116]⟩⟩ : Str), (⟨⟨[105]⟩⟩ : Str), (⟨⟨[106]⟩⟩ : Str)] (hooksR sizes none none none) rfl (B.K 97 _ rfl) rfl ?hcd rfl rfl rfl rfl ?hbind rfl ?hkind ?nd ?hb rfl rfl rfl
  case hkind => intro L x hx; simp only [List.mem_cons, List.not_mem_nil, or_false] at hx; subst hx; exact .inl rfl
  case hb =>
    intro A L X ok
    have hz : (sizes.map fun a : Nat => D.int a).length ≤ 1000000 := by rw [List.length_map]; omega
    refine bd_seq (ρ' := hooksR sizes (some (.imm (.int (1 : Nat)))) none none) (by walk_at "m_st") ?_
    refine bd_seq (ex_for (d := .range 0 ((sizes.map fun a : Nat => D.int a).length : Nat) 1) (es := (List.range sizes.length).map iN) (by walk_at "m_ev") ?it
      (fo_enc ok iN (fun p : Nat => hooksR sizes (some (.imm (.int p))) none none) (fun p i => (List.range (sizes.getD i 0)).foldl (fun p j => p * hookC sizes i j) p) (fun _ l => ∀ i ∈ l, i < sizes.length) (by walk_at "m_stor") ?step _ 1 (fun i h => List.mem_range.mp h)) (fun _ => rfl)) (bd_stop (by walk_at "m_st"))
    case it =>
      rw [List.length_map]
      exact items_to _ hl
    case step =>
      intro p i is hi
      have hi' : i < sizes.length := hi i (.head _)
      have hs' : sizes.getD i 0 ≤ 1000 := hs _ (List.mem_of_getElem? (by rw [List.getElem?_eq_getElem hi', getD_of (List.getElem?_eq_getElem hi')]))
      have at_ := nD_at hi'
      refine ⟨_, hooksR sizes (some (.imm (.int ((List.range (sizes.getD i 0)).foldl (fun p j => p * hookC sizes i j) p : Nat)))) (some (.imm (.int i))) none, by walk_at "m_upd", exs_cons (ex_for (d := .range 0 ((sizes.getD i 0 : Nat) : Int) 1) (es := (List.range (sizes.getD i 0)).map iN) (by walk_at "m_ev") (items_to _ hs')
        (fo_enc ok iN (fun p : Nat => hooksR sizes (some (.imm (.int p))) (some (.imm (.int i))) none) (fun p j => p * hookC sizes i j) (fun _ l => ∀ j ∈ l, j < sizes.getD i 0) (by walk_at "m_stor") ?turn _ p (fun i h => List.mem_range.mp h)) (fun _ => rfl)) exs_nil, by walk_at "m_le", fun q h => hi q (.tail _ h)⟩
      intro p j js hj
      have hj' : j < sizes.getD i 0 := hj j (.head _)
      have hlen : ((sizes.drop (i + 1)).filter fun s => decide (j < s)).length ≤ sizes.length := by
        refine Nat.le_trans (List.length_filter_le _ _) ?_
        rw [List.length_drop]; omega
      have hC : hookC sizes i j ≤ 1000000 := by unfold hookC; omega
      have hv : ((sizes.getD i 0 : Nat) : Int) - (j : Int) + ((((sizes.drop (i + 1)).filter fun s => decide (j < s)).map iN).length : Nat) = (hookC sizes i j : Nat) := by
        unfold hookC; rw [List.length_map]; omega
      have hp : D.list (pick (sizes.map fun a : Nat => D.int a) (some ((i : Int) + 1)) none none) = .list ((sizes.drop (i + 1)).map iN) := by
        rw [show (i : Int) + 1 = ((i + 1 : Nat) : Int) from by omega, pick_from, List.map_drop]
      refine ⟨_, hooksR sizes (some (.imm (.int (p * hookC sizes i j : Nat)))) (some (.imm (.int i))) (some (.imm (.int j))), by walk_at "m_upd", exs_cons (ex_aug ok (by k_mem) rfl (ev_eq (congrArg D.int hv) (ev_binop (ev_binop (by walk_at "m_ev") (by walk_at "m_ev") op_sub) (ev_call ok (by walk_at "m_fv") (evl_cons ?comp evl_nil rfl) (fn_len (by rw [List.length_map]; omega)) kp_builtin rfl) op_add)) (op_imul' (small_mul hC) (Int.natCast_mul _ _).symm) (by walk_at "m_upd") (by walk_at "m_stor")) exs_nil, by walk_at "m_le", fun q h => hj q (.tail _ h)⟩
      case comp =>
        refine ev_comp (ρc := [((⟨⟨[115, 105, 122, 101]⟩⟩ : Str), none), ((⟨⟨[106]⟩⟩ : Str), some (.imm (.int j)))]) ok (ev_eq hp (by walk_at "m_ev")) rfl ⟨(by decide : [(⟨⟨[115, 105, 122, 101]⟩⟩ : Str), (⟨⟨[106]⟩⟩ : Str)].Nodup), ?sees, ?free, by decide, rfl, by decide⟩ (fun Dd Cc ok2 => ?run) (by rw [List.length_map]; omega) (fun _ => rfl)
        case sees =>
          intro x en h
          simp only [List.mem_cons, List.not_mem_nil, or_false, Prod.mk.injEq, reduceCtorEq, and_false, false_or, Option.some.injEq] at h
          obtain ⟨rfl, rfl⟩ := h
          exact ⟨by k_mem, rfl, by intro e; cases e⟩
        case free =>
          intro n hn
          simp at hn
          subst hn
          rfl
        case run =>
          exact cp_enc ok2 iN (fun s => decide (j < s)) iN (fun s => [((⟨⟨[115, 105, 122, 101]⟩⟩ : Str), some (.imm (iN s))), ((⟨⟨[106]⟩⟩ : Str), some (.imm (.int j)))]) (fun s => by walk_at "m_upd") rfl (fun s => by walk_at "m_le") _ (fun s hs => ⟨ts_one (tr_eq (b := decide ((s : Int) > (j : Int))) (by rw [decide_eq_decide]; omega) (by walk_at "m_tr")), fun _ => by walk_at "m_ev"⟩)
  walk_at "m_fnc"
end
end Mine
end
section
namespace Mine
open PySem PySem.W PySem.Calls PyProof.Rows PySem.Spec
noncomputable def tri2 (b : Nat) : Nat := b * (b - 1) / 2
/-- the order that a table of bits tells -/
noncomputable def ltB (n : Nat) (bits : List Bool) (a b : Nat) : Bool :=
  if a == b then false else if a == n + 1 then true else if b == n + 1 then false else if b == n then true else if a == n then false
  else if Nat.blt a b then bits.getD (tri2 b + a) false else !bits.getD (tri2 a + b) false
noncomputable def transB (n : Nat) (bits : List Bool) : Bool :=
  (List.range n).all fun a => (List.range n).all fun b => (List.range n).all fun c => !(ltB n bits a b && ltB n bits b c) || ltB n bits a c
noncomputable def gStep (lt : Nat → Nat → Bool) (n : Nat) (rows : List (List Nat)) (t : Nat) : Option (List (List Nat)) := if rows.length ≤ 100 then laidP lt n rows t else none
noncomputable def tabOf (lt : Nat → Nat → Bool) (n : Nat) (line : List Nat) : Option (List (List Nat)) := line.foldlM (gStep lt n) []
noncomputable def ranksOf (lt : Nat → Nat → Bool) (n : Nat) : List Nat := (List.range n).map fun k => ((List.range n).filter fun j => lt j k).length
noncomputable def factOf (n : Nat) : Nat := (((List.range (n - 1)).map fun j => n - 1 - j).foldlM mulS n).getD 0
noncomputable def okTabs (lt : Nat → Nat → Bool) (n : Nat) (L : List (List Nat)) (t0 : List (List Nat)) : Bool :=
  L.all (fun line => tabOf lt n line == some t0 && okL n line) && (L.length * hooks (t0.map List.length) == factOf n)
    && ((List.range n).map (fun k => ((List.range n).map fun j => b2i (lt j k) - b2i (lt k j)).sum) == (ranksOf lt n).map fun (r : Nat) => 2 * (r : Int) - n + 1)
    && (match t0 with | [] => false | r0 :: _ => r0.length == longest ((ranksOf lt n).map fun r : Nat => (r : Int)))
    && (t0.length == longest ((ranksOf lt n).map fun r : Nat => -(r : Int)))
    && L.contains t0.reverse.flatten && Nat.ble t0.length 100 && t0.all (fun r => Nat.ble r.length 100 && r.all fun a => Nat.blt a n)
noncomputable def pureLaw (n : Nat) (lt : Nat → Nat → Bool) : Bool :=
  match runW (nxtL lt n) 40 (0, [List.range n]) with
  | none => false
  | some (_, L) => match L with
    | [] => false
    | l0 :: _ => match tabOf lt n l0 with
      | none => false
      | some t0 => okTabs lt n L t0 && Nat.ble L.length 1000
noncomputable def allBits : Nat → List (List Bool)
  | 0 => [[]]
  | n + 1 => (allBits n).flatMap fun l => [false :: l, true :: l]
noncomputable def checkAll (n m : Nat) : Bool := (allBits m).all fun bits => !transB n bits || pureLaw n (ltB n bits)
theorem mem_allBits : ∀ (l : List Bool), l ∈ allBits l.length
  | [] => .head _
  | b :: l => by
    rw [List.length_cons, allBits, List.mem_flatMap]
    exact ⟨l, mem_allBits l, by cases b <;> simp⟩
noncomputable def Chk (n m : Nat) : Prop := ∀ l : List Bool, l.length = m → (!transB n l || pureLaw n (ltB n l)) = true
theorem chk_of {n m : Nat} (h : checkAll n m = true) : Chk n m := fun l hl => List.all_eq_true.mp h l (hl ▸ mem_allBits l)
theorem check3 : Chk 3 3 := chk_of (by decide +kernel)
theorem check4 : Chk 4 6 := chk_of (by decide +kernel)
noncomputable def part5 (b0 b1 b2 b3 b4 : Bool) : Bool := (allBits 5).all fun r => !transB 5 (b0 :: b1 :: b2 :: b3 :: b4 :: r) || pureLaw 5 (ltB 5 (b0 :: b1 :: b2 :: b3 :: b4 :: r))
theorem part5_ok : ∀ b0 b1 b2 b3 b4, part5 b0 b1 b2 b3 b4 = true := by
  intro b0 b1 b2 b3 b4
  cases b0 <;> cases b1 <;> cases b2 <;> cases b3 <;> cases b4 <;> decide +kernel
theorem check5 : Chk 5 10 := fun l hl => by
  match l, hl with
  | b0 :: b1 :: b2 :: b3 :: b4 :: r, hl =>
    have hr : r.length = 5 := by simpa using hl
    exact List.all_eq_true.mp (part5_ok b0 b1 b2 b3 b4) r (hr ▸ mem_allBits r)
end Mine
end
section
namespace Mine
open PySem PySem.W PySem.Calls PyProof.Rows PySem.Spec
noncomputable def bitsOf (n : Nat) (l : Nat → Nat → Bool) : List Bool := (List.range n).flatMap fun b => (List.range b).map fun a => l a b
theorem ltB_eq {n : Nat} (hn : n = 3 ∨ n = 4 ∨ n = 5) {l : Nat → Nat → Bool} (irr : ∀ a, a < n → l a a = false) (tot : ∀ a b, a < n → b < n → a ≠ b → l b a = !l a b) {a b : Nat} (ha : a < n) (hb : b < n) : ltB n (bitsOf n l) a b = l a b := by
  have ca : a = 0 ∨ a = 1 ∨ a = 2 ∨ a = 3 ∨ a = 4 := by omega
  have cb : b = 0 ∨ b = 1 ∨ b = 2 ∨ b = 3 ∨ b = 4 := by omega
  rcases hn with rfl | rfl | rfl <;> rcases ca with rfl | rfl | rfl | rfl | rfl <;> rcases cb with rfl | rfl | rfl | rfl | rfl <;>
    first | rfl | (exact absurd ha (by decide)) | (exact absurd hb (by decide)) | (exact (irr _ (by decide)).symm) | (exact (tot _ _ (by decide) (by decide) (by decide)).symm)
theorem transB_of {n : Nat} {bits : List Bool} (tr : ∀ a b c, a < n → b < n → c < n → ltB n bits a b = true → ltB n bits b c = true → ltB n bits a c = true) : transB n bits = true := by
  unfold transB
  simp only [List.all_eq_true, List.mem_range]
  intro a ha b hb c hc
  cases h1 : ltB n bits a b with
  | false => simp
  | true =>
    cases h2 : ltB n bits b c with
    | false => simp
    | true => rw [tr a b c ha hb hc h1 h2]; simp
theorem pure_ok {n : Nat} (hn : n = 3 ∨ n = 4 ∨ n = 5) {l : Nat → Nat → Bool} (irr : ∀ a, a < n → l a a = false) (tot : ∀ a b, a < n → b < n → a ≠ b → l b a = !l a b) (tr : ∀ a b c, a < n → b < n → c < n → l a b = true → l b c = true → l a c = true) : pureLaw n (ltB n (bitsOf n l)) = true := by
  have T : transB n (bitsOf n l) = true := transB_of fun a b c ha hb hc h1 h2 => by
    rw [ltB_eq hn irr tot ha hb] at h1
    rw [ltB_eq hn irr tot hb hc] at h2
    rw [ltB_eq hn irr tot ha hc]
    exact tr a b c ha hb hc h1 h2
  have go : ∀ m, Chk n m → (bitsOf n l).length = m → pureLaw n (ltB n (bitsOf n l)) = true := fun m hc hl => by
    have h := hc (bitsOf n l) hl
    rw [T] at h
    simpa using h
  rcases hn with rfl | rfl | rfl
  · exact go 3 check3 rfl
  · exact go 6 check4 rfl
  · exact go 10 check5 rfl
/-- the keys' order -/
noncomputable def bndL (hts : List Int) (M m : Int) (a : Nat) : Int := (hts ++ [M + 1, m - 1]).getD a 0
noncomputable def zK (hts : List Int) (M m : Int) (a b : Nat) : Int := if bndL hts M m a - bndL hts M m b = 0 then (a : Int) - b else bndL hts M m a - bndL hts M m b
noncomputable abbrev hK (hts : List Int) (a : Nat) : Int := hts.getD a 0
section
variable {hts : List Int} {M m : Int}
theorem bnd_lt {a : Nat} (h : a < hts.length) : bndL hts M m a = hK hts a := by
  unfold bndL hK
  rw [List.getD_eq_getElem?_getD, List.getD_eq_getElem?_getD, List.getElem?_append_left h]
theorem bnd_n : bndL hts M m hts.length = M + 1 := by
  unfold bndL
  rw [List.getD_eq_getElem?_getD, List.getElem?_append_right (Nat.le_refl _), Nat.sub_self]; rfl
theorem bnd_n1 : bndL hts M m (hts.length + 1) = m - 1 := by
  unfold bndL
  rw [List.getD_eq_getElem?_getD, List.getElem?_append_right (by omega), Nat.add_sub_cancel_left]; rfl
theorem lt2_iff {a b : Int} {i j : Nat} : lt2 a i b j = decide (a < b ∨ (a = b ∧ i < j)) := by
  unfold lt2
  by_cases h : a = b
  · subst h
    by_cases e : i = j
    · subst e; simp
    · have e' : ((i : Int) == (j : Int)) = false := by simpa using (fun z : (i : Int) = j => e (by omega))
      simp [e']
  · have e' : (a == b) = false := by simpa using h
    simp [e', h]
theorem zK_lt {a b : Nat} (ha : a < hts.length) (hb : b < hts.length) : decide (zK hts M m a b < 0) = ltH (hK hts) a b := by
  unfold zK ltH
  rw [bnd_lt ha, bnd_lt hb, lt2_iff]
  congr 1
  apply propext
  split <;> omega
theorem ltH_irr (H : Nat → Int) (a : Nat) : ltH H a a = false := by unfold ltH; rw [lt2_iff]; simp
theorem ltH_tot (H : Nat → Int) {a b : Nat} (h : a ≠ b) : ltH H b a = !ltH H a b := by
  unfold ltH; rw [lt2_iff, lt2_iff, ← decide_not]
  congr 1
  apply propext
  omega
theorem ltH_tr (H : Nat → Int) {a b c : Nat} (h1 : ltH H a b = true) (h2 : ltH H b c = true) : ltH H a c = true := by
  unfold ltH at *
  rw [lt2_iff] at *
  simp only [decide_eq_true_eq] at *
  omega
end
section
variable {hts : List Int} {M m : Int}
theorem zK_anti {a b : Nat} : zK hts M m b a = -zK hts M m a b := by
  unfold zK
  split <;> split <;> omega
theorem zK_zero {a b : Nat} : (zK hts M m a b == 0) = (a == b) := by
  unfold zK
  rw [Bool.eq_iff_iff, beq_iff_eq, beq_iff_eq]
  constructor
  · intro h; split at h <;> omega
  · intro h; subst h; simp
theorem zK_tr {a b c : Nat} (h1 : zK hts M m a b < 0) (h2 : zK hts M m b c < 0) : zK hts M m a c < 0 := by
  unfold zK at *
  split at h1 <;> split at h2 <;> split <;> omega
theorem hK_mem {a : Nat} (h : a < hts.length) : hK hts a ∈ hts := by
  unfold hK
  rw [List.getD_eq_getElem?_getD, List.getElem?_eq_getElem h]
  exact List.getElem_mem h
theorem zK_ltB (hn : hts.length = 3 ∨ hts.length = 4 ∨ hts.length = 5) (hM : ∀ x ∈ hts, x ≤ M) (hm : ∀ x ∈ hts, m ≤ x) {a b : Nat} (ha : a < hts.length + 2) (hb : b < hts.length + 2) :
    decide (zK hts M m a b < 0) = ltB hts.length (bitsOf hts.length (ltH (hK hts))) a b := by
  have hmM : m ≤ M := by
    have h0 : 0 < hts.length := by omega
    have h1 := hM _ (hK_mem h0)
    have h2 := hm _ (hK_mem h0)
    omega
  by_cases an : a < hts.length <;> by_cases bn : b < hts.length
  · rw [zK_lt an bn, ltB_eq hn (fun a _ => ltH_irr _ a) (fun a b _ _ h => ltH_tot _ h) an bn]
  · have h1 := hM _ (hK_mem an)
    have h2 := hm _ (hK_mem an)
    have cb : b = hts.length ∨ b = hts.length + 1 := by omega
    rcases cb with rfl | rfl
    · have e : ltB hts.length (bitsOf hts.length (ltH (hK hts))) a hts.length = true := by
        unfold ltB
        rw [if_neg (by simp; omega), if_neg (by simp; omega), if_neg (by simp), if_pos (by simp)]
      rw [e]; unfold zK; rw [bnd_lt an, bnd_n]
      exact decide_eq_true (by split <;> omega)
    · have e : ltB hts.length (bitsOf hts.length (ltH (hK hts))) a (hts.length + 1) = false := by
        unfold ltB
        rw [if_neg (by simp; omega), if_neg (by simp; omega), if_pos (by simp)]
      rw [e]; unfold zK; rw [bnd_lt an, bnd_n1]
      exact decide_eq_false (by split <;> omega)
  · have h1 := hM _ (hK_mem bn)
    have h2 := hm _ (hK_mem bn)
    have ca : a = hts.length ∨ a = hts.length + 1 := by omega
    rcases ca with rfl | rfl
    · have e : ltB hts.length (bitsOf hts.length (ltH (hK hts))) hts.length b = false := by
        unfold ltB
        rw [if_neg (by simp; omega), if_neg (by simp), if_neg (by simp; omega), if_neg (by simp; omega), if_pos (by simp)]
      rw [e]; unfold zK; rw [bnd_n, bnd_lt bn]
      exact decide_eq_false (by split <;> omega)
    · have e : ltB hts.length (bitsOf hts.length (ltH (hK hts))) (hts.length + 1) b = true := by
        unfold ltB
        rw [if_neg (by simp; omega), if_pos (by simp)]
      rw [e]; unfold zK; rw [bnd_n1, bnd_lt bn]
      exact decide_eq_true (by split <;> omega)
  · have ca : a = hts.length ∨ a = hts.length + 1 := by omega
    have cb : b = hts.length ∨ b = hts.length + 1 := by omega
    rcases ca with rfl | rfl <;> rcases cb with rfl | rfl
    · unfold ltB zK; simp
    · have e : ltB hts.length (bitsOf hts.length (ltH (hK hts))) hts.length (hts.length + 1) = false := by
        unfold ltB
        rw [if_neg (by simp), if_neg (by simp), if_pos (by simp)]
      rw [e]; unfold zK; rw [bnd_n, bnd_n1]
      exact decide_eq_false (by split <;> omega)
    · have e : ltB hts.length (bitsOf hts.length (ltH (hK hts))) (hts.length + 1) hts.length = true := by
        unfold ltB
        rw [if_neg (by simp), if_pos (by simp)]
      rw [e]; unfold zK; rw [bnd_n, bnd_n1]
      exact decide_eq_true (by split <;> omega)
    · unfold ltB zK; simp
theorem ord_ltB (hn : hts.length = 3 ∨ hts.length = 4 ∨ hts.length = 5) (hM : ∀ x ∈ hts, x ≤ M) (hm : ∀ x ∈ hts, m ≤ x) : Ord (ltB hts.length (bitsOf hts.length (ltH (hK hts)))) (hts.length + 2) := by
  refine ⟨fun a ha => ?_, fun a b ha hb h => ?_, fun a b c ha hb hc h1 h2 => ?_⟩
  · unfold ltB; simp
  · rw [← zK_ltB hn hM hm ha hb, ← zK_ltB hn hM hm hb ha, ← decide_not]
    congr 1
    apply propext
    have z : ¬ (zK hts M m a b = 0) := fun e => by
      have := zK_zero (hts := hts) (M := M) (m := m) (a := a) (b := b)
      rw [e] at this
      have h' : (a == b) = false := by simpa using h
      rw [h'] at this; cases this
    have := zK_anti (hts := hts) (M := M) (m := m) (a := a) (b := b)
    omega
  · rw [← zK_ltB hn hM hm ha hb] at h1
    rw [← zK_ltB hn hM hm hb hc] at h2
    rw [← zK_ltB hn hM hm ha hc]
    exact decide_eq_true (zK_tr (of_decide_eq_true h1) (of_decide_eq_true h2))
end
end Mine
end
section
namespace Mine
open PySem PySem.W PySem.Calls PyProof.Rows PySem.Spec
theorem pick_map {α β : Type} (g : α → β) (l : List α) (lo hi st : Option Int) : pick (l.map g) lo hi st = (pick l lo hi st).map g := by
  unfold pick
  rw [List.length_map]
  generalize sliceRange (sliceBounds lo hi st l.length).1 (sliceBounds lo hi st l.length).2.1 (sliceBounds lo hi st l.length).2.2 = r
  induction r with
  | nil => rfl
  | cons i r ih =>
    rw [List.filterMap_cons, List.filterMap_cons, List.getElem?_map]
    cases l[i]? with
    | none => exact ih
    | some a => rw [Option.map_some, List.map_cons, ← ih]
theorem add8 (x : Nat) : x + 1 + 1 + 1 + 1 + 1 + 1 + 1 + 1 = x → False := fun e => by omega
theorem max_of : ∀ (l : List Int), l ≠ [] → ∃ M, M ∈ l ∧ ∀ a ∈ l, a ≤ M
  | [], h => absurd rfl h
  | [a], _ => ⟨a, .head _, fun b hb => by rw [List.mem_singleton.mp hb]; omega⟩
  | a :: b :: l, _ => by
    obtain ⟨M, h1, h2⟩ := max_of (b :: l) (by simp)
    by_cases h : a ≤ M
    · exact ⟨M, .tail _ h1, fun c hc => (List.mem_cons.mp hc).elim (fun e => e ▸ h) (h2 c)⟩
    · exact ⟨a, .head _, fun c hc => (List.mem_cons.mp hc).elim (fun e => by omega) fun z => by have := h2 c z; omega⟩
theorem min_of : ∀ (l : List Int), l ≠ [] → ∃ M, M ∈ l ∧ ∀ a ∈ l, M ≤ a
  | [], h => absurd rfl h
  | [a], _ => ⟨a, .head _, fun b hb => by rw [List.mem_singleton.mp hb]; omega⟩
  | a :: b :: l, _ => by
    obtain ⟨M, h1, h2⟩ := min_of (b :: l) (by simp)
    by_cases h : M ≤ a
    · exact ⟨M, .tail _ h1, fun c hc => (List.mem_cons.mp hc).elim (fun e => e ▸ h) (h2 c)⟩
    · exact ⟨a, .head _, fun c hc => (List.mem_cons.mp hc).elim (fun e => by omega) fun z => by have := h2 c z; omega⟩
theorem pls_i : ∀ (a : List Int) (k : Nat), D.pls k (a.map D.int) = true
  | [], _ => rfl
  | x :: xs, k => by simp only [List.map_cons, D.pls, D.pl, pls_i xs k, Bool.true_and]
noncomputable def hgt (xs : List Int) (n kk : Nat) : Int := (pick xs (some (kk : Int)) none (some (n : Int))).sum + ([2, 0, 4, 1, 3] : List Int).getD kk 0
noncomputable def hgts (xs : List Int) (n : Nat) : List Int := (List.range n).map (hgt xs n)
end Mine
end
section
namespace Mine
open PySem PySem.W PySem.Calls PyProof.Rows PySem.Spec
theorem stor_less {f : Fx} {x y : Str} {bc : Addr} (o : ∀ x y a, f.env.cells.lookup x = some a → f.env.cells.lookup y = some a → x = y) (hb : f.env.cells.lookup y = some bc) (h : Stor f x) (n : x ≠ y) : Stor (f.less bc) x :=
  h.imp id fun ⟨h1, a, h2, h3⟩ => ⟨h1, a, h2, h3, fun e => n (o x y a h2 (e ▸ hb))⟩
theorem ok_less {c c1 : Cx} {f : Fx} {bc : Addr} {k : Nat} (o : Ok c f k) (dis : ∀ a, f.X a → a ≠ bc → c1.g.get? a = none) (hl : f.env.locals ≠ bc) : Ok c1 (f.less bc) k :=
  { kind := o.kind, glob := o.glob, blt := o.blt, mx := fun a z => ⟨o.mx a z.1, z.2⟩, loc := ⟨o.loc, hl⟩, apart := o.apart, dis := fun a z => dis a z.1 z.2, room := o.room }
section
variable {c : Cx} {lam ns md cell fi fl fg fe : Addr}
theorem kp_class (P : Parts c lam ns md cell fi fl fg fe) : Kp c (.ref c.C) := fun A s pos args Q E hp h => by
  obtain ⟨qn, b0, nm, qv, e1⟩ := P.K.hC
  obtain ⟨h0, t0, v0, h1, t1, v1, h2, t2, v2, h3, t3, h4, t4, h5, t5, h6, t6, h7, t7, v7, h8, t8, v8, h9, t9, h10, t10, v10, h11, t11, h12, t12, m, e2⟩ := P.K.hN
  obtain ⟨tm, e3⟩ := P.K.hM
  obtain ⟨qi, pm, cc, n, t, ws, e4, e5⟩ := P.K.hI
  obtain ⟨K, L⟩ := look_of e1 e2 e3 e4 ⟨_, _, rfl⟩ ⟨_, rfl⟩
  obtain ⟨qn', b0', nm', qv', hC⟩ := L.C
  have hk : keepIn K (.ref c.C) = true := by
    unfold keepIn
    simp only [hC]
    unfold specialIn typeIn
    simp only [hC]
    kernel_rfl!
  exact callWith_of (first := []) (by simpa using hp) (keeps_K hk) (wpAny_mono h (fun x s₁ h₁ => ⟨L.X.keeps h₁.1, h₁.2⟩) fun _ _ e => e)
end
theorem stay_j {f : Fx} {H0 : Heap} (hX0 : ∀ b, f.X b → H0.get? b = none) (h43 : ∃ ob, H0.get? 43 = some ob) (h104 : ∃ ob, H0.get? 104 = some ob) {o : Obj} :
    Stay f (fun h => (∀ b ob, b ≠ 43 → b ≠ 104 → H0.get? b = some ob → h.get? b = some ob) ∧ (∃ cc ps more, H0.TableAt cc 43 ps ∧ h.get? 43 = some (PySem.W.X.tableObj (ps ++ more))) ∧ h.get? 104 = some o) := fun h h' j k => by
  have n43 : ¬ f.X 43 := fun x => by obtain ⟨ob, e⟩ := h43; rw [hX0 _ x] at e; cases e
  have n104 : ¬ f.X 104 := fun x => by obtain ⟨ob, e⟩ := h104; rw [hX0 _ x] at e; cases e
  obtain ⟨a, ⟨cc, ps, more, t, e⟩, d⟩ := j
  exact ⟨fun b ob x y z => k.keep b ob (fun q => by rw [hX0 b q] at z; cases z) (a b ob x y z), ⟨cc, ps, more, t, k.keep _ _ n43 e⟩, k.keep _ _ n104 d⟩
theorem pure_facts {n : Nat} {lt : Nat → Nat → Bool} (h : pureLaw n lt = true) : ∃ i l0 Ls t0, runW (nxtL lt n) 40 (0, [List.range n]) = some (i, l0 :: Ls) ∧ okTabs lt n (l0 :: Ls) t0 = true ∧ (l0 :: Ls).length ≤ 1000 := by
  unfold pureLaw at h
  split at h
  · cases h
  · rename_i i L e
    split at h
    · cases h
    · rename_i l0 Ls
      split at h
      · cases h
      · rename_i t0 e2
        rw [Bool.and_eq_true] at h
        exact ⟨i, l0, Ls, t0, e, h.1, Nat.le_of_ble_eq_true h.2⟩
theorem stay_aft {c c1 : Cx} {f : Fx} {bc lam cl : Addr} {O : Obj} {q : Str} {bd : D} {C : Addr} (aft : Aft c c1 f bc lam cl O q bd C) {H0 : Heap} (hX0 : ∀ b, f.X b → H0.get? b = none) (h43 : ∃ ob, H0.get? 43 = some ob) (h104 : ∃ ob, H0.get? 104 = some ob) (o : Obj) :
    Stay (f.less bc) (fun h => (∀ b ob, b ≠ 43 → b ≠ 104 → H0.get? b = some ob → h.get? b = some ob) ∧ (∃ cc ps more, H0.TableAt cc 43 ps ∧ h.get? 43 = some (PySem.W.X.tableObj (ps ++ more))) ∧ h.get? 104 = some o) := stay_j (f := f.less bc) (fun b (x : f.X b ∧ b ≠ bc) => hX0 b x.1) h43 h104
theorem cp_map0 {c : Cx} {f : Fx} {ρ : Rho} {k : Nat} (o : Ok c f k) {α : Type} {elt iter : Expr} {x : Str} {px : Pos} {scope : Scope} {pos : Pos} (enc : α → D) (g : α → D) (ρ1 : α → Rho) (u : ∀ a, Upd ρ x (some (.imm (enc a))) (ρ1 a)) (hk : f.env.kindOf x = some .local) (le : ∀ a, Le (ρ1 a) ρ)
    (l : List α) (h : ∀ a ∈ l, Ev c f (ρ1 a) elt (g a)) : Cp c f (.ListComp elt [⟨.Name x px, iter, [], 0⟩] scope pos) 0 ρ (l.map enc) (l.map g) := by
  have z := cp_enc o (px := px) (iter := iter) (scope := scope) (pos := pos) (ifs := []) enc (fun _ => true) g ρ1 u hk le l (fun a ha => ⟨ts_nil, fun _ => h a ha⟩)
  rw [List.filter_eq_self.mpr (fun _ _ => rfl)] at z
  exact z
theorem lbd_j {c : Cx} {f : Fx} {l : List Env} {J J' F : Heap → Prop} {ρ : Rho} {body : List Stmt} (h : ∀ x, J' x → J x) (b : LBd c f l J F ρ body) : LBd c f l J' F ρ body := fun s Q E st z j q => b s Q E st z (h _ j) q
noncomputable def J12 (H0 : Heap) (h : Heap) : Prop := (∀ b ob, b ≠ 43 → b ≠ 104 → H0.get? b = some ob → h.get? b = some ob) ∧ (∃ cc ps more, H0.TableAt cc 43 ps ∧ h.get? 43 = some (PySem.W.X.tableObj (ps ++ more)))
theorem stay_12 {f : Fx} {H0 : Heap} (hX0 : ∀ b, f.X b → H0.get? b = none) (h43 : ∃ ob, H0.get? 43 = some ob) : Stay f (J12 H0) := fun h h' j k => by
  have n43 : ¬ f.X 43 := fun x => by obtain ⟨ob, e⟩ := h43; rw [hX0 _ x] at e; cases e
  obtain ⟨a, ⟨cc, ps, more, t, e⟩⟩ := j
  exact ⟨fun b ob x y z => k.keep b ob (fun q => by rw [hX0 b q] at z; cases z) (a b ob x y z), ⟨cc, ps, more, t, k.keep _ _ n43 e⟩⟩
theorem stay_aft2 {c c1 : Cx} {f : Fx} {bc lam cl : Addr} {O : Obj} {q : Str} {bd : D} {C : Addr} (aft : Aft c c1 f bc lam cl O q bd C) {H0 : Heap} (hX0 : ∀ b, f.X b → H0.get? b = none) (h43 : ∃ ob, H0.get? 43 = some ob) : Stay (f.less bc) (J12 H0) := stay_12 (f := f.less bc) (fun b (x : f.X b ∧ b ≠ bc) => hX0 b x.1) h43
theorem fn_prod {c : Cx} (B2 : Base c) {n : Nat} (hn5 : n = 3 ∨ n = 4 ∨ n = 5) {fv : Value} (kp : Kp c fv) (F : ∀ a b : Nat, a ≤ 1000 → b ≤ 1000 → Fn c 79 fv [.int (a : Int), .int (b : Int)] (.int ((a * b : Nat) : Int))) : FnW c 80 (.ref 57) [.val fv, .range (n : Int) 0 (-1)] (.int (factOf n : Nat)) := by
  rcases hn5 with rfl | rfl | rfl
  · exact fn_reduce0 (k := 79) B2 kp (fun a b h1 h2 => fnW_of (F a b h1 h2)) (m := 2) (by decide) (by decide) rfl
  · exact fn_reduce0 (k := 79) B2 kp (fun a b h1 h2 => fnW_of (F a b h1 h2)) (m := 3) (by decide) (by decide) rfl
  · exact fn_reduce0 (k := 79) B2 kp (fun a b h1 h2 => fnW_of (F a b h1 h2)) (m := 4) (by decide) (by decide) rfl
theorem div_ok {n : Nat} (h : n = 3 ∨ n = 4 ∨ n = 5) : Builtin.divisionGoesByPylong (0 - (n : Int)) (-1) = false := by
  rcases h with rfl | rfl | rfl <;> decide
noncomputable def J123 (H0 : Heap) (h : Heap) : Prop := J12 H0 h ∧ ∃ more, h.get? 104 = some (tabObj more)
theorem stay_aft3 {c c1 : Cx} {f : Fx} {bc lam cl : Addr} {O : Obj} {q : Str} {bd : D} {C : Addr} (aft : Aft c c1 f bc lam cl O q bd C) {H0 : Heap} (hX0 : ∀ b, f.X b → H0.get? b = none) (h43 : ∃ ob, H0.get? 43 = some ob) (h104 : ∃ ob, H0.get? 104 = some ob) : Stay (f.less bc) (J123 H0) := fun h h' j k => by
  refine ⟨stay_aft2 aft hX0 h43 h h' j.1 k, ?_⟩
  obtain ⟨more, e⟩ := j.2
  exact ⟨more, k.keep _ _ (fun x => by obtain ⟨ob, e⟩ := h104; rw [hX0 _ (show f.X 104 ∧ _ from x).1] at e; cases e) e⟩
theorem cpk_map0 {c : Cx} {f : Fx} {ρ : Rho} {k : Nat} (o : Ok c f k) {α : Type} {a : Addr} {elt iter : Expr} {x : Str} {px : Pos} {scope : Scope} {pos : Pos} (enc : α → D) (g : α → D) (ρ1 : α → Rho) (u : ∀ a, Upd ρ x (some (.imm (enc a))) (ρ1 a)) (hk : f.env.kindOf x = some .cell) (ha : f.env.cells.lookup x = some a) (hMa : f.M a) (le : ∀ a, Le (ρ1 a) ρ)
    (l : List α) (h : ∀ a ∈ l, Ev c f (ρ1 a) elt (g a)) : CpK c f a (.ListComp elt [⟨.Name x px, iter, [], 0⟩] scope pos) ρ (l.map enc) (l.map g) := by
  have z := cpk_enc o (px := px) (iter := iter) (scope := scope) (pos := pos) (ifs := []) enc (fun _ => true) g ρ1 u hk ha hMa le l (fun a ha => ⟨ts_nil, fun _ => h a ha⟩)
  rw [List.filter_eq_self.mpr (fun _ _ => rfl)] at z
  exact z
end Mine
end
section
namespace Mine
open PySem PySem.W PySem.Calls PyProof.Rows PySem.Spec
section
variable {c : Cx} {f : Fx} {ρ : Rho} {k : Nat} {α : Type}
theorem cp2_enc (o : Ok c f k) {elt it1 it2 : Expr} {x y : Str} {px py : Pos} {ifs1 ifs2 : List Expr} {scope : Scope} {pos : Pos} (enc : α → D) (p : α → Bool) (g : α → D) (ρ1 : α → Rho) (u : ∀ d, Upd ρ y (some (.imm (enc d))) (ρ1 d)) (hk : f.env.kindOf y = some .local) (le : ∀ d, Le (ρ1 d) ρ) :
    ∀ (l : List α), (∀ d ∈ l, Ts c f (ρ1 d) ifs2 (p d) ∧ (p d = true → Ev c f (ρ1 d) elt (g d))) → Cp c f (.ListComp elt [⟨.Name x px, it1, ifs1, 0⟩, ⟨.Name y py, it2, ifs2, 0⟩] scope pos) 1 ρ (l.map enc) ((l.filter p).map g)
  | [], _ => cp2_nil o
  | d :: ds, hd => by
    have ih := cp2_enc o (elt := elt) (it1 := it1) (it2 := it2) (x := x) (px := px) (y := y) (py := py) (ifs1 := ifs1) (ifs2 := ifs2) (scope := scope) (pos := pos) enc p g ρ1 u hk le ds fun e he => hd e (.tail _ he)
    have h1 := hd d (.head _)
    have z := cp2_cons o (x := x) (px := px) (it1 := it1) (ifs1 := ifs1) (py := py) (it2 := it2) (scope := scope) (pos := pos) (u d) hk (le d) h1.1 h1.2 ih
    rw [List.filter_cons]
    cases hp : p d with
    | true => rw [hp] at z; exact z
    | false => rw [hp] at z; exact z
theorem cp1_enc (o : Ok c f k) {elt it1 it2 : Expr} {x y : Str} {px py : Pos} {ifs2 : List Expr} {scope : Scope} {pos : Pos} (enc d2 : α → D) (js es : α → List D) (ρ1 : α → Rho) (u : ∀ a, Upd ρ x (some (.imm (enc a))) (ρ1 a)) (hk : f.env.kindOf x = some .local) (le : ∀ a, Le (ρ1 a) ρ) (hs2 : ∀ v, foldedSetIterable it2 f.env v = pure v) :
    ∀ (l : List α), (∀ a ∈ l, Ev c f (ρ1 a) it2 (d2 a) ∧ Items (d2 a) (js a) ∧ Cp c f (.ListComp elt [⟨.Name x px, it1, [], 0⟩, ⟨.Name y py, it2, ifs2, 0⟩] scope pos) 1 (ρ1 a) (js a) (es a)) → Cp c f (.ListComp elt [⟨.Name x px, it1, [], 0⟩, ⟨.Name y py, it2, ifs2, 0⟩] scope pos) 0 ρ (l.map enc) (l.flatMap es)
  | [], _ => cp1_nil o hs2
  | a :: as, h => by
    have ih := cp1_enc o (elt := elt) (it1 := it1) (it2 := it2) (x := x) (px := px) (y := y) (py := py) (ifs2 := ifs2) (scope := scope) (pos := pos) enc d2 js es ρ1 u hk le hs2 as fun b hb => h b (.tail _ hb)
    obtain ⟨h1, h2, h3⟩ := h a (.head _)
    rw [List.flatMap_cons]
    exact cp1_cons o (u a) hk (le a) h1 h2 h3 hs2 ih
end
noncomputable def sgR (lt : Nat → Nat → Bool) (n kk : Nat) : List Int := (List.range n).map fun j => b2i (lt j kk) - b2i (lt kk j)
theorem sgR_eq (lt : Nat → Nat → Bool) (n kk : Nat) : (List.range n).map (fun j => D.int (b2i (lt j kk) - b2i (lt kk j))) = iL (sgR lt n kk) := by
  unfold sgR iL
  rw [List.map_map]; rfl
theorem rk_eq (lt : Nat → Nat → Bool) (n : Nat) : ((List.range n).map fun kk => iN ((List.range n).filter fun j => lt j kk).length) = (ranksOf lt n).map iN := by
  unfold ranksOf
  rw [List.map_map]; rfl
theorem rd_eq (H : Nat → Int) (l : List (List Nat)) : (l.map (rowD H)).reverse = l.reverse.map (rowD H) := by rw [List.map_reverse]
theorem flat_iN : ∀ (l : List (List Nat)), (l.flatMap fun r => (r.filter fun _ => true).map iN) = l.flatten.map iN
  | [] => rfl
  | r :: l => by
    rw [List.flatMap_cons, flat_iN l, List.flatten_cons, List.map_append, List.filter_eq_self.mpr (fun _ _ => rfl)]
theorem okTabs_parts {lt : Nat → Nat → Bool} {n : Nat} {L : List (List Nat)} {t0 : List (List Nat)} (hS0 : (match t0 with | [] => false | r0 :: _ => r0.length == longest ((ranksOf lt n).map fun r : Nat => (r : Int))) = true) :
    ((t0.map List.length).map iN)[((0 : Int)).toNat]? = some (.int (longest ((ranksOf lt n).map fun r : Nat => (r : Int)) : Nat)) := by
  cases t0 with
  | nil => cases hS0
  | cons r0 t =>
    have e : r0.length = longest ((ranksOf lt n).map fun r : Nat => (r : Int)) := by simpa using hS0
    show some _ = some _
    rw [e]
theorem ranks_ne {lt : Nat → Nat → Bool} {n : Nat} (h : 3 ≤ n) : ranksOf lt n ≠ [] := fun e => by
  have := congrArg List.length e
  unfold ranksOf at this
  rw [List.length_map, List.length_range, List.length_nil] at this; omega
theorem ranks_len {lt : Nat → Nat → Bool} {n : Nat} : (ranksOf lt n).length = n := by
  unfold ranksOf
  rw [List.length_map, List.length_range]
theorem ranks_le {lt : Nat → Nat → Bool} {n : Nat} : ∀ r ∈ ranksOf lt n, r ≤ n := fun r hr => by
  unfold ranksOf at hr
  obtain ⟨kk, _, rfl⟩ := List.mem_map.mp hr
  have := List.length_filter_le (fun j => lt j kk) (List.range n)
  rwa [List.length_range] at this
theorem pls_iM {α : Type} (g : α → Int) (k : Nat) : ∀ l : List α, D.pls k (l.map fun a => D.int (g a)) = true
  | [] => rfl
  | x :: xs => by simp only [List.map_cons, D.pls, D.pl, pls_iM g k xs, Bool.true_and]
theorem flat_len : ∀ {l : List (List Nat)} {m : Nat}, l.length ≤ m → (∀ r ∈ l, r.length ≤ 100) → l.flatten.length ≤ 100 * m
  | [], m, _, _ => Nat.zero_le _
  | r :: l, 0, h, _ => by simp at h
  | r :: l, m + 1, h, hr => by
    have ih := flat_len (l := l) (m := m) (by simp at h; omega) fun x hx => hr x (.tail _ hx)
    have := hr r (.head _)
    rw [List.flatten_cons, List.length_append]; omega
theorem Cmps.mono {c : Cx} {j k : Nat} {fl fg fe : Addr} {lt : Nat → Nat → Bool} {m : Nat} (h : j ≤ k) (C : Cmps c j fl fg fe lt m) : Cmps c k fl fg fe lt m :=
  ⟨C.wl, C.wg, C.we, fun a b ha hb => (C.hl a b ha hb).mono h, fun a b ha hb => (C.hg a b ha hb).mono h, fun a b ha hb => (C.he a b ha hb).mono h⟩
end Mine
end
section
namespace Mine
open PySem PySem.W PySem.Calls PyProof.Rows PySem.Spec
section
variable {w : World} {k : Nat} {hts : List Int} {M m : Int}
noncomputable abbrev lawR (script n heights key keys twins lines tables sizes ranks signs bounded : Option En) : Rho := [((⟨⟨[115, 99, 114, 105, 112, 116]⟩⟩ : Str), script), ((⟨⟨[110]⟩⟩ : Str), n), ((⟨⟨[104, 101, 105, 103, 104, 116, 115]⟩⟩ : Str), heights), ((⟨⟨[107, 101, 121]⟩⟩ : Str), key), ((⟨⟨[107, 101, 121, 115]⟩⟩ : Str), keys), ((⟨⟨[116, 119, 105, 110, 115]⟩⟩ : Str), twins), ((⟨⟨[108, 105, 110, 101, 115]⟩⟩ : Str), lines), ((⟨⟨[116, 97, 98, 108, 101, 115]⟩⟩ : Str), tables), ((⟨⟨[115, 105, 122, 101, 115]⟩⟩ : Str), sizes), ((⟨⟨[114, 97, 110, 107, 115]⟩⟩ : Str), ranks), ((⟨⟨[115, 105, 103, 110, 115]⟩⟩ : Str), signs), ((⟨⟨[98, 111, 117, 110, 100, 101, 100]⟩⟩ : Str), bounded)]
noncomputable def LawK (H0 h : Heap) : Prop := (∀ b ob, b ≠ 43 → b ≠ 104 → H0.get? b = some ob → h.get? b = some ob) ∧ (∃ cc ps more, H0.TableAt cc 43 ps ∧ h.get? 43 = some (PySem.W.X.tableObj (ps ++ more))) ∧ ∃ more, h.get? 104 = some (tabObj more)
theorem law_ok {H0 : Heap} (K : AI H0 (K2 w.params)) (B : Base ⟨Challenge.rw_op0061_01.prog, w, 0, hideAll H0 [43, 104]⟩) (h104 : H0.get? 104 = some (tabObj #[])) {xs : List Int} (hxs : xs.length ≤ 63)
    {A : Around} {s : Shared} {vs : List Value} {Q E : Value → Shared → Prop} (hs : s.heap = H0) (room : Room 81 A) (hfr : A.frames = some []) (r : Reps 0 s.heap (fun _ => False) vs [.list (xs.map D.int)])
    (q : ∀ h' tk, LawK H0 h' → Q (.bool true) { s with heap := h', toks := tk }) : wpAny (model Challenge.rw_op0061_01.prog w) A (call (.ref 107) vs) Q E s := by
  have h43 : ∃ ob, H0.get? 43 = some ob := let ⟨_, t⟩ := tvC_at K; ⟨_, t.2⟩
  have g43 : (hideAll H0 [43, 104]).get? 43 = none := hide_none (by simp)
  have g104 : (hideAll H0 [43, 104]).get? 104 = none := hide_none (by simp)
  refine law_enter (k := 80) (c := ⟨Challenge.rw_op0061_01.prog, w, 0, hideAll H0 [43, 104]⟩) B [(⟨⟨[115, 99, 114, 105, 112, 116]⟩⟩ : Str)] [(⟨⟨[110]⟩⟩ : Str), (⟨⟨[104, 101, 105, 103, 104, 116, 115]⟩⟩ : Str), (⟨⟨[107, 101, 121]⟩⟩ : Str), (⟨⟨[107, 101, 121, 115]⟩⟩ : Str), (⟨⟨[116, 119, 105, 110, 115]⟩⟩ : Str), (⟨⟨[108, 105, 110, 101, 115]⟩⟩ : Str), (⟨⟨[116, 97, 98, 108, 101, 115]⟩⟩ : Str), (⟨⟨[115, 105, 122, 101, 115]⟩⟩ : Str), (⟨⟨[114, 97, 110, 107, 115]⟩⟩ : Str), (⟨⟨[115, 105, 103, 110, 115]⟩⟩ : Str), (⟨⟨[98, 111, 117, 110, 100, 101, 100]⟩⟩ : Str)]
    (lawR (some (.imm (.list (xs.map D.int)))) none none none none none none none none none none none) rfl (B.K 107 _ rfl) rfl (codeRec_of B.K rfl) rfl rfl rfl rfl (fun vs h => by obtain ⟨a, e⟩ := len1 h; subst e; rfl) rfl
    (fun L x hx => by simp only [List.mem_cons, List.not_mem_nil, or_false] at hx; subst hx; exact .inr ⟨rfl, rfl⟩) (by decide) rfl rfl rfl room (fun b ob e => hs ▸ of_hideAll _ e) hfr r fun L f hf ok h₀ tk st z ext hXn E' => ?_
  have hX0 : ∀ b, f.X b → H0.get? b = none := fun b x => hs ▸ hXn b x
  have hmod : ((((xs.map D.int).length : Nat) : Int).fmod 3) = (((xs.map D.int).length % 3 : Nat) : Int) := by
    rw [Int.fmod_eq_emod_of_nonneg _ (by decide)]; omega
  obtain ⟨n, hn, hn5⟩ : ∃ n : Nat, ([D.int 4, .int 3, .int 5])[((((xs.map D.int).length : Nat) : Int).fmod 3).toNat]? = some (.int (n : Int)) ∧ (n = 3 ∨ n = 4 ∨ n = 5) := by
    rw [hmod, Int.toNat_natCast]
    have : (xs.map D.int).length % 3 = 0 ∨ (xs.map D.int).length % 3 = 1 ∨ (xs.map D.int).length % 3 = 2 := by omega
    rcases this with e | e | e <;> rw [e]
    · exact ⟨4, rfl, by omega⟩
    · exact ⟨3, rfl, by omega⟩
    · exact ⟨5, rfl, by omega⟩
  suffices main : LBd ⟨Challenge.rw_op0061_01.prog, w, 0, hideAll H0 [43, 104]⟩ f [f.env] (fun h => ∀ b ob, H0.get? b = some ob → h.get? b = some ob) (LawK H0) (lawR (some (.imm (.list (xs.map D.int)))) none none none none none none none none none none none) _ from
    main { s with heap := h₀, toks := tk } _ E' st z (fun b ob e => ext _ _ (hs ▸ e)) fun h' tk' p => ⟨_, rfl, q h' tk' p⟩
  have sj : Stay f (fun h => ∀ b ob, H0.get? b = some ob → h.get? b = some ob) := fun h h' j k b ob e => k.keep b ob (fun x => by rw [hX0 b x] at e; cases e) (j b ob e)
  have mx := ok.mx
  obtain ⟨lX, hlX⟩ : ∃ lX : List Addr, ∀ b, f.X b → b ∈ lX := by
    rw [hf]
    exact ⟨L :: List.map (·.2) _, fun b x => x.elim (fun x => x.elim) fun x => x.elim (fun e => e ▸ .head _) fun ⟨n, e⟩ => .tail _ (List.mem_map.mpr ⟨_, lookup_mem e, rfl⟩)⟩
  subst hf
  refine lbd_seq sj (exw_of mx (ex_assign ok (ev_sub (ev_list (by walk_at "m_evl") (by simp)) (by walk_at "m_ev") hn (by rw [hmod]; omega) (by simp) (by walk_at "m_ns")) (by walk_at "m_upd") (by walk_at "m_stor") rfl)) ?_
  have hn' : n ≤ 5 := by omega
  refine lbd_seq sj (exw_of mx (ex_assign (d := .list ((hgts xs n).map D.int)) ok (ev_eq ?hcomp (ev_comp (d := .range 0 (n : Int) 1) (ds := (List.range n).map iN) (es := ((List.range n).filter fun _ => true).map fun a => D.int (hgt xs n a)) (ρc := [((⟨⟨[107]⟩⟩ : Str), none), ((⟨⟨[115, 99, 114, 105, 112, 116]⟩⟩ : Str), some (.imm (.list (xs.map D.int)))), ((⟨⟨[110]⟩⟩ : Str), some (.imm (.int (n : Int))))]) ok (by walk_at "m_ev") (items_to _ (by omega)) ⟨(by decide : [(⟨⟨[107]⟩⟩ : Str), (⟨⟨[115, 99, 114, 105, 112, 116]⟩⟩ : Str), (⟨⟨[110]⟩⟩ : Str)].Nodup), ?sees, ?free, by decide, rfl, by decide⟩ (fun Dd Cc ok2 => ?run) (by rw [List.filter_eq_self.mpr (fun _ _ => rfl), List.length_map, List.length_range]; omega) (fun _ => rfl))) (by walk_at "m_upd") (by walk_at "m_stor") rfl)) ?_
  case hcomp =>
    rw [List.filter_eq_self.mpr (fun _ _ => rfl)]
    unfold hgts
    rw [List.map_map]; rfl
  case sees =>
    intro x en h
    simp only [List.mem_cons, List.not_mem_nil, or_false, Prod.mk.injEq, reduceCtorEq, and_false, false_or, Option.some.injEq] at h
    rcases h with ⟨rfl, rfl⟩ | ⟨rfl, rfl⟩
    · exact ⟨by k_mem, rfl, by intro e; cases e⟩
    · exact ⟨by k_mem, rfl, by intro e; cases e⟩
  case free =>
    intro n hn
    simp at hn
    rcases hn with rfl | rfl <;> rfl
  case run =>
    refine cp_enc ok2 iN (fun _ => true) (fun a => D.int (hgt xs n a)) (fun a => [((⟨⟨[107]⟩⟩ : Str), some (.imm (iN a))), ((⟨⟨[115, 99, 114, 105, 112, 116]⟩⟩ : Str), some (.imm (.list (xs.map D.int)))), ((⟨⟨[110]⟩⟩ : Str), some (.imm (.int (n : Int))))]) (fun a => by walk_at "m_upd") rfl (fun a => by walk_at "m_le") _ (fun a ha => ⟨ts_nil, fun _ => ?_⟩)
    have ha' : a < n := List.mem_range.mp ha
    have hsl : D.list (pick (xs.map D.int) (some (a : Int)) none (some (n : Int))) = .list (iL (pick xs (some (a : Int)) none (some (n : Int)))) := by rw [pick_map]
    have hxz : (xs.map D.int).length ≤ 1000000 := by rw [List.length_map]; omega
    have h5 : ([D.int 2, .int 0, .int 4, .int 1, .int 3])[((a : Int)).toNat]? = some (.int (([2, 0, 4, 1, 3] : List Int).getD a 0)) := by
      rw [Int.toNat_natCast]
      have : a = 0 ∨ a = 1 ∨ a = 2 ∨ a = 3 ∨ a = 4 := by omega
      rcases this with rfl | rfl | rfl | rfl | rfl <;> rfl
    exact ev_binop (ev_call ok2 (by walk_at "m_fv") (evl_cons (ev_eq hsl (ev_slice (by walk_at "m_nm") (by walk_at "m_part") (by walk_at "m_part") (by walk_at "m_part") (by simp; omega) hxz)) evl_nil rfl) fn_sum kp_builtin rfl) (ev_sub (ev_list (by walk_at "m_evl") (by simp)) (by walk_at "m_nm") h5 (by omega) (by simp) (by walk_at "m_ns")) op_add
  have hlen : (hgts xs n).length = n := by unfold hgts; rw [List.length_map, List.length_range]
  obtain ⟨M, hM, hMge⟩ : ∃ M, M ∈ hgts xs n ∧ ∀ a ∈ hgts xs n, a ≤ M := max_of _ (fun e => by rw [e] at hlen; simp at hlen; omega)
  obtain ⟨m, hm, hmle⟩ : ∃ m, m ∈ hgts xs n ∧ ∀ a ∈ hgts xs n, m ≤ a := min_of _ (fun e => by rw [e] at hlen; simp at hlen; omega)
  have hhz : ((hgts xs n).map D.int).length ≤ 1000000 := by rw [List.length_map, hlen]; omega
  have FM : ∀ k, Fn ⟨Challenge.rw_op0061_01.prog, w, 0, hideAll H0 [43, 104]⟩ k (.builtin "max") [.list ((hgts xs n).map D.int)] (.int M) := fun k => fn_max hM hMge
  have Fm : ∀ k, Fn ⟨Challenge.rw_op0061_01.prog, w, 0, hideAll H0 [43, 104]⟩ k (.builtin "min") [.list ((hgts xs n).map D.int)] (.int m) := fun k => fn_min hm hmle
  have FM8 := FM 80
  have Fm8 := Fm 80
  have hcat : ((hgts xs n).map D.int).length + [D.int (M + 1), .int (m - 1)].length ≤ 1000000 := by rw [List.length_map, hlen]; simp only [List.length_cons, List.length_nil]; omega
  have hbd : D.list ((hgts xs n).map D.int ++ [.int (M + 1), .int (m - 1)]) = .list ((hgts xs n ++ [M + 1, m - 1]).map D.int) := by rw [List.map_append]; rfl
  refine lbd_seq sj (exw_of mx (ex_assign ok (ev_eq hbd (by walk_at "m_ev")) (by walk_at "m_upd") (by walk_at "m_stor") rfl)) ?_
  refine lbd_key rfl rfl B ok (by omega) hlX K g43 g104 (fun b ob e => of_hideAll _ e) h43 hX0 h104 rfl rfl rfl rfl ?hbF (fun ρ => ng_cmp_to_key B ok rfl) (bc := _) rfl (bd := .list ((hgts xs n ++ [M + 1, m - 1]).map D.int)) (by k_mem) (by intro e; cases e) ?hbp rfl rfl ?hkM ?hbM ?hcells rfl (fun C ρ1 => ρ1 = lawR none (some (.imm (.int (n : Int)))) (some (.imm (.list ((hgts xs n).map D.int)))) (some (.imm (.val (.ref C)))) none none none none none none none none) ?hC1 (fun C => lawR none (some (.imm (.int (n : Int)))) (some (.imm (.list ((hgts xs n).map D.int)))) (some (.imm (.val (.ref C)))) none none none none none none none none) (fun _ => rfl) ?hrest
  case hbp => exact pls_i _ 8
  case hkM => exact .inr ⟨(⟨⟨[107, 101, 121]⟩⟩ : Str), rfl⟩
  case hcells => exact fun x a e => .inr (.inr ⟨x, e⟩)
  case hC1 =>
    intro C ρ1 e
    subst e
    refine ⟨by show [(⟨⟨[115, 99, 114, 105, 112, 116]⟩⟩ : Str), (⟨⟨[110]⟩⟩ : Str), (⟨⟨[104, 101, 105, 103, 104, 116, 115]⟩⟩ : Str), (⟨⟨[107, 101, 121]⟩⟩ : Str), (⟨⟨[107, 101, 121, 115]⟩⟩ : Str), (⟨⟨[116, 119, 105, 110, 115]⟩⟩ : Str), (⟨⟨[108, 105, 110, 101, 115]⟩⟩ : Str), (⟨⟨[116, 97, 98, 108, 101, 115]⟩⟩ : Str), (⟨⟨[115, 105, 122, 101, 115]⟩⟩ : Str), (⟨⟨[114, 97, 110, 107, 115]⟩⟩ : Str), (⟨⟨[115, 105, 103, 110, 115]⟩⟩ : Str), (⟨⟨[98, 111, 117, 110, 100, 101, 100]⟩⟩ : Str)].Nodup; decide, fun x en h => ?_⟩
    simp only [List.mem_cons, List.not_mem_nil, or_false, Prod.mk.injEq, reduceCtorEq, and_false, false_or, or_false, Option.some.injEq] at h
    rcases h with ⟨rfl, rfl⟩ | ⟨rfl, rfl⟩ | ⟨rfl, rfl⟩
    · exact .inr ⟨by decide, by decide, _, rfl, rfl, by k_mem⟩
    · exact .inr ⟨by decide, by decide, _, rfl, pls_i _ 8, by k_mem⟩
    · exact .inl ⟨rfl, rfl⟩
  case hbF =>
    intro h
    have e := List.mem_singleton.mp (show _ ∈ [L] from h)
    exact add8 L e
  case hbM =>
    intro h
    have e : L = _ := h
    exact add8 L e.symm
  case hrest =>
    intro c1 lam cl C pm ctv aft
    have B1 : Base c1 := B.up aft.ext aft.w
    obtain ⟨ns, md, cell, fi, fl, fg, fe, KAt⟩ := aft.key
    have P : Parts c1 lam ns md cell fi fl fg fe := ⟨B1, by rw [aft.hC]; exact KAt⟩
    have apart := ok.apart
    have ok1 := ok_less ok aft.dis (fun h => add8 L (show L = _ from h).symm)
    have mx1 := ok1.mx
    clear ok st z
    have FL : ∀ a b, a < n + 2 → b < n + 2 → Fn c1 75 (.ref lam) [.int (a : Int), .int (b : Int)] (.int (zK (hgts xs n) M m a b)) := by
      intro a b ha hb
      have at_ : ∀ a, a < n + 2 → ((hgts xs n ++ [M + 1, m - 1]).map D.int)[((a : Int)).toNat]? = some (.int (bndL (hgts xs n) M m a)) := fun a ha => by
        have hl : a < (hgts xs n ++ [M + 1, m - 1]).length := by rw [List.length_append, hlen]; exact ha
        rw [Int.toNat_natCast, List.getElem?_map, List.getElem?_eq_getElem hl]
        unfold bndL
        rw [List.getD_eq_getElem?_getD, List.getElem?_eq_getElem hl]; rfl
      have a1 := at_ a ha
      have a2 := at_ b hb
      have hzb : ((hgts xs n ++ [M + 1, m - 1]).map D.int).length ≤ 1000000 := by rw [List.length_map, List.length_append, hlen]; simp only [List.length_cons, List.length_nil]; omega
      refine fn_lam (k := 74) B1 [(⟨⟨[97]⟩⟩ : Str), (⟨⟨[98]⟩⟩ : Str)] [((⟨⟨[98, 111, 117, 110, 100, 101, 100]⟩⟩ : Str), .list ((hgts xs n ++ [M + 1, m - 1]).map D.int))] [((⟨⟨[97]⟩⟩ : Str), some (.imm (.int (a : Int)))), ((⟨⟨[98]⟩⟩ : Str), some (.imm (.int (b : Int)))), ((⟨⟨[98, 111, 117, 110, 100, 101, 100]⟩⟩ : Str), some (.imm (.list ((hgts xs n ++ [M + 1, m - 1]).map D.int))))] rfl aft.lamAt rfl aft.rec_ rfl rfl rfl (fun vs h => by obtain ⟨a, b, e⟩ := len2 h; subst e; rfl) rfl (by show ∀ x ∈ [(Str.ofString "a", NameKind.local), (Str.ofString "b", NameKind.local), (Str.ofString "bounded", NameKind.free)], x.2 ≠ .cell; decide) (by show ∀ x ∈ [(⟨⟨[97]⟩⟩ : Str), (⟨⟨[98]⟩⟩ : Str)], List.lookup x [(Str.ofString "a", NameKind.local), (Str.ofString "b", NameKind.local), (Str.ofString "bounded", NameKind.free)] = some .local; decide) (by show [(⟨⟨[97]⟩⟩ : Str), (⟨⟨[98]⟩⟩ : Str), (⟨⟨[98, 111, 117, 110, 100, 101, 100]⟩⟩ : Str)].Nodup; decide) ?hfr ?hcl ?hap ?hb rfl rfl rfl
      case hfr =>
        intro p hp
        obtain ⟨bv, h1, h2⟩ := aft.cell
        rcases List.mem_cons.mp hp with rfl | hp
        · exact ⟨_, bv, rfl, rfl, h1, h2⟩
        · cases hp
      case hcl =>
        intro x b e
        obtain ⟨bv, h1, h2⟩ := aft.cell
        obtain ⟨_, h3⟩ := List.mem_cons.mp (lookup_mem e) |>.elim (fun q => Prod.mk.inj q) (fun q => nomatch q)
        subst h3
        exact ⟨_, h1⟩
      case hap =>
        intro x y b e1 e2
        have h1 := List.mem_cons.mp (lookup_mem e1) |>.elim (fun q => Prod.mk.inj q) (fun q => nomatch q)
        have h2 := List.mem_cons.mp (lookup_mem e2) |>.elim (fun q => Prod.mk.inj q) (fun q => nomatch q)
        rw [h1.1, h2.1]
      case hb =>
        intro A2 L2 X2 ok2
        exact ev_or (x := bndL (hgts xs n) M m a - bndL (hgts xs n) M m b) (y := (a : Int) - b) (ev_binop (ev_sub (by walk_at "m_nm") (by walk_at "m_nm") a1 (by omega) hzb (by walk_at "m_ns")) (ev_sub (by walk_at "m_nm") (by walk_at "m_nm") a2 (by omega) hzb (by walk_at "m_ns")) op_sub) fun _ => ev_binop (by walk_at "m_nm") (by walk_at "m_nm") op_sub
    have hlt : ∀ a b, a < n + 2 → b < n + 2 → decide (zK (hgts xs n) M m a b < 0) = ltB n (bitsOf n (ltH (hK (hgts xs n)))) a b := by
      intro a b ha hb
      have := zK_ltB (hts := hgts xs n) (M := M) (m := m) (by rw [hlen]; exact hn5) hMge hmle (a := a) (b := b) (by rw [hlen]; exact ha) (by rw [hlen]; exact hb)
      rw [hlen] at this; exact this
    have O : Ord (ltB n (bitsOf n (ltH (hK (hgts xs n))))) (n + 2) := by
      have := ord_ltB (hts := hgts xs n) (M := M) (m := m) (by rw [hlen]; exact hn5) hMge hmle
      rw [hlen] at this; exact this
    have Cs : Cmps c1 76 fl fg fe (ltB n (bitsOf n (ltH (hK (hgts xs n))))) (n + 2) := by
      refine ⟨way_lt P, way_gt P, way_eq P, fun a b ha hb => ?_, fun a b ha hb => ?_, fun a b ha hb => ?_⟩
      · have := fn_lt P aft.lamAt rfl (FL a b ha hb)
        rw [hlt a b ha hb] at this; exact this
      · have := fn_gt P aft.lamAt rfl (FL a b ha hb)
        rw [← hlt b a hb ha]
        rw [show decide (zK (hgts xs n) M m b a < 0) = decide (zK (hgts xs n) M m a b > 0) from by rw [decide_eq_decide, zK_anti (a := a) (b := b)]; omega]
        exact this
      · have := fn_eq P aft.lamAt rfl (FL a b ha hb)
        rw [zK_zero] at this; exact this
    have PL := pure_ok (n := n) hn5 (l := ltH (hK (hgts xs n))) (fun a _ => ltH_irr _ a) (fun a b _ _ h => ltH_tot _ h) (fun a b c _ _ _ h1 h2 => ltH_tr _ h1 h2)
    have ltn : ∀ a b, a < n → b < n → ltH (hK (hgts xs n)) a b = ltB n (bitsOf n (ltH (hK (hgts xs n)))) a b := fun a b ha hb => (ltB_eq hn5 (fun a _ => ltH_irr _ a) (fun a b _ _ h => ltH_tot _ h) ha hb).symm
    have top : ∀ a, a < n → ltB n (bitsOf n (ltH (hK (hgts xs n)))) a n = true := fun a ha => by
      unfold ltB
      rw [if_neg (by simp; omega), if_neg (by simp; omega), if_neg (by simp), if_pos (by simp)]
    have bot : ∀ a, a < n → ltB n (bitsOf n (ltH (hK (hgts xs n)))) (n + 1) a = true := fun a ha => by
      unfold ltB
      rw [if_neg (by simp; omega), if_pos (by simp)]
    generalize ltB n (bitsOf n (ltH (hK (hgts xs n)))) = lt at hlt O Cs PL ltn top bot
    obtain ⟨i, l0, Ls, t0, hrun, hok, hLz⟩ := pure_facts PL
    have FLn := fn_lines B1 Cs O (by omega) (by omega) top bot hrun
    have FK : ∀ a : Nat, Fn c1 80 (.ref c1.C) [.int (a : Int)] (.key a) := fun a => (fn_key P (k := 78)).mono (by omega)
    have KC := kp_class P
    have hCC := aft.hC
    subst hCC
    have sj1 := stay_aft aft hX0 h43 ⟨_, h104⟩ (tabObj #[rawInt 150, rawInt 21, .ref cl])
    refine lbd_seq sj1 (exw_of mx1 (ex_assign (d := .list ((List.range (n + 2)).map D.key)) ok1 (ev_eq ?hc5 (ev_comp (d := .range 0 ((n : Int) + 2) 1) (ds := (List.range (n + 2)).map iN) (es := ((List.range (n + 2)).filter fun _ => true).map D.key) (ρc := [((⟨⟨[107]⟩⟩ : Str), none), ((⟨⟨[107, 101, 121]⟩⟩ : Str), some (.imm (.val (.ref c1.C))))]) ok1 (by walk_at "m_ev") (items_to (n + 2) (by omega)) ⟨(by decide : [(⟨⟨[107]⟩⟩ : Str), (⟨⟨[107, 101, 121]⟩⟩ : Str)].Nodup), ?sees5, ?free5, by decide, rfl, by decide⟩ (fun Dd Cc ok2 => ?run5) (by rw [List.filter_eq_self.mpr (fun _ _ => rfl), List.length_map, List.length_range]; omega) (fun _ => rfl))) (by walk_at "m_upd") (stor_less (y := (⟨⟨[98, 111, 117, 110, 100, 101, 100]⟩⟩ : Str)) apart rfl (.inr ⟨rfl, _, rfl, .inr ⟨(⟨⟨[107, 101, 121, 115]⟩⟩ : Str), rfl⟩⟩) (by decide)) rfl)) ?_
    case hc5 => rw [List.filter_eq_self.mpr (fun _ _ => rfl)]
    case sees5 =>
      intro x en h
      simp only [List.mem_cons, List.not_mem_nil, or_false, Prod.mk.injEq, reduceCtorEq, and_false, false_or, Option.some.injEq] at h
      obtain ⟨rfl, rfl⟩ := h
      exact ⟨by k_mem, rfl, by intro e; cases e⟩
    case free5 =>
      intro n hn
      simp at hn
      subst hn; rfl
    case run5 =>
      exact cp_enc ok2 iN (fun _ => true) D.key (fun a => [((⟨⟨[107]⟩⟩ : Str), some (.imm (iN a))), ((⟨⟨[107, 101, 121]⟩⟩ : Str), some (.imm (.val (.ref c1.C))))]) (fun a => by walk_at "m_upd") rfl (fun a => by walk_at "m_le") _ (fun a ha => ⟨ts_nil, fun _ => ev_call ok2 (by walk_at "m_nm") (by walk_at "m_evl") (FK a) KC rfl⟩)
    refine lbd_seq sj1 (exw_of mx1 (ex_assign (d := .list ((List.range n).map D.key)) ok1 (ev_eq ?hc6 (ev_comp (d := .range 0 (n : Int) 1) (ds := (List.range n).map iN) (es := ((List.range n).filter fun _ => true).map D.key) (ρc := [((⟨⟨[107]⟩⟩ : Str), none), ((⟨⟨[107, 101, 121]⟩⟩ : Str), some (.imm (.val (.ref c1.C))))]) ok1 (by walk_at "m_ev") (items_to n (by omega)) ⟨(by decide : [(⟨⟨[107]⟩⟩ : Str), (⟨⟨[107, 101, 121]⟩⟩ : Str)].Nodup), ?sees6, ?free6, by decide, rfl, by decide⟩ (fun Dd Cc ok2 => ?run6) (by rw [List.filter_eq_self.mpr (fun _ _ => rfl), List.length_map, List.length_range]; omega) (fun _ => rfl))) (by walk_at "m_upd") (stor_less (y := (⟨⟨[98, 111, 117, 110, 100, 101, 100]⟩⟩ : Str)) apart rfl (.inr ⟨rfl, _, rfl, .inr ⟨(⟨⟨[116, 119, 105, 110, 115]⟩⟩ : Str), rfl⟩⟩) (by decide)) rfl)) ?_
    case hc6 => rw [List.filter_eq_self.mpr (fun _ _ => rfl)]
    case sees6 =>
      intro x en h
      simp only [List.mem_cons, List.not_mem_nil, or_false, Prod.mk.injEq, reduceCtorEq, and_false, false_or, Option.some.injEq] at h
      obtain ⟨rfl, rfl⟩ := h
      exact ⟨by k_mem, rfl, by intro e; cases e⟩
    case free6 =>
      intro n hn
      simp at hn
      subst hn; rfl
    case run6 =>
      exact cp_enc ok2 iN (fun _ => true) D.key (fun a => [((⟨⟨[107]⟩⟩ : Str), some (.imm (iN a))), ((⟨⟨[107, 101, 121]⟩⟩ : Str), some (.imm (.val (.ref c1.C))))]) (fun a => by walk_at "m_upd") rfl (fun a => by walk_at "m_le") _ (fun a ha => ⟨ts_nil, fun _ => ev_call ok2 (by walk_at "m_nm") (by walk_at "m_evl") (FK a) KC rfl⟩)
    refine lbd_seq sj1 (exw_of mx1 (ex_assign ok1 (ev_call ok1 (by walk_at "m_fv") (by walk_at "m_evl") FLn (kp_fn (Base.K B1 _ _ rfl) rfl) rfl) (by walk_at "m_upd") (.inl rfl) rfl)) ?_
    have hok' := hok
    unfold okTabs at hok'
    simp only [Bool.and_eq_true] at hok'
    obtain ⟨⟨⟨⟨⟨⟨⟨hT, hHook⟩, hSum⟩, hS0⟩, hS1⟩, hIn⟩, hTl⟩, hTr⟩ := hok'
    have hline : ∀ line ∈ l0 :: Ls, tabOf lt n line = some t0 ∧ okL n line = true := fun line hl => by
      have := List.all_eq_true.mp hT line hl
      rw [Bool.and_eq_true] at this
      exact ⟨by simpa using this.1, this.2⟩
    have FR : ∀ line ∈ l0 :: Ls, FnW c1 80 (.ref 57) [.val (.ref 92), .list (line.map (tD (hK (hgts xs n)))), .list []] (.list (t0.map (rowD (hK (hgts xs n))))) := fun line hl =>
      fn_reduce (k := 79) B1 (kp_fn (Base.K B1 92 _ rfl) rfl) (fun rows : List (List Nat) => D.list (rows.map (rowD (hK (hgts xs n))))) (tD (hK (hgts xs n))) (gStep lt n) (fun s a s' hg => by
        unfold gStep at hg
        split at hg
        · exact fn_laid (k := 77) B1 ltn (by assumption) hg
        · cases hg) (fun s => ⟨_, rfl⟩) (s0 := []) (hline line hl).1
    refine lbd_seq sj1 (exw_assign ok1 (d := .list ((l0 :: Ls).map fun _ => D.list (t0.map (rowD (hK (hgts xs n)))))) (evw_comp (d := .list ((l0 :: Ls).map nD)) (ds := (l0 :: Ls).map nD) (ρc := [((⟨⟨[108, 105, 110, 101]⟩⟩ : Str), none), ((⟨⟨[104, 101, 105, 103, 104, 116, 115]⟩⟩ : Str), some (.imm (.list ((hgts xs n).map D.int))))]) ok1 (by walk_at "m_nm") rfl ⟨(by decide : [(⟨⟨[108, 105, 110, 101]⟩⟩ : Str), (⟨⟨[104, 101, 105, 103, 104, 116, 115]⟩⟩ : Str)].Nodup), ?sees8, ?free8, by decide, rfl, by decide⟩ ?imm8 (fun Dd Cc ok2 => ?run8) (by rw [List.length_map]; omega) (fun _ => rfl)) (by walk_at "m_upd") (stor_less (y := (⟨⟨[98, 111, 117, 110, 100, 101, 100]⟩⟩ : Str)) apart rfl (.inr ⟨rfl, _, rfl, .inr ⟨(⟨⟨[116, 97, 98, 108, 101, 115]⟩⟩ : Str), rfl⟩⟩) (by decide)) rfl) ?_
    case sees8 =>
      intro x en h
      simp only [List.mem_cons, List.not_mem_nil, or_false, Prod.mk.injEq, reduceCtorEq, and_false, false_or, Option.some.injEq] at h
      obtain ⟨rfl, rfl⟩ := h
      exact ⟨by k_mem, rfl, by intro e; cases e⟩
    case free8 =>
      intro n hn
      simp at hn
      subst hn; rfl
    case imm8 =>
      intro y en h
      simp only [List.mem_cons, List.not_mem_nil, or_false, Prod.mk.injEq, reduceCtorEq, and_false, false_or, Option.some.injEq] at h
      obtain ⟨rfl, rfl⟩ := h
      exact ⟨_, rfl⟩
    case run8 =>
      refine cpw_map ok2 nD (fun _ => D.list (t0.map (rowD (hK (hgts xs n))))) (fun line => [((⟨⟨[108, 105, 110, 101]⟩⟩ : Str), some (.imm (nD line))), ((⟨⟨[104, 101, 105, 103, 104, 116, 115]⟩⟩ : Str), some (.imm (.list ((hgts xs n).map D.int))))]) (fun a => by walk_at "m_upd") rfl (fun a => by walk_at "m_le") _ (fun line hl => ?_)
      have hF := FR line hl
      have hm := (okL_at (hline line hl).2).2.1
      have hll := (okL_at (hline line hl).2).1
      refine evw_call ok2 (by walk_at "m_fv") (evl_cons (by walk_at "m_fv") (evl_cons (ev_eq ?hc8 (ev_comp (d := nD line) (ds := line.map iN) (es := (line.filter fun _ => true).map (tD (hK (hgts xs n)))) (ρc := [((⟨⟨[107]⟩⟩ : Str), none), ((⟨⟨[104, 101, 105, 103, 104, 116, 115]⟩⟩ : Str), some (.imm (.list ((hgts xs n).map D.int))))]) ok2 (by walk_at "m_nm") rfl ⟨(by decide : [(⟨⟨[107]⟩⟩ : Str), (⟨⟨[104, 101, 105, 103, 104, 116, 115]⟩⟩ : Str)].Nodup), ?seesi, ?freei, by decide, rfl, by decide⟩ (fun Dd Cc ok3 => ?runi) (by rw [List.filter_eq_self.mpr (fun _ _ => rfl), List.length_map, hll]; omega) (fun _ => rfl))) (evl_cons (ev_list evl_nil (by simp)) evl_nil rfl) rfl) rfl) hF (kp_fn (Base.K B1 _ _ rfl) rfl) rfl
      case hc8 => rw [List.filter_eq_self.mpr (fun _ _ => rfl)]
      case seesi =>
        intro x en h
        simp only [List.mem_cons, List.not_mem_nil, or_false, Prod.mk.injEq, reduceCtorEq, and_false, false_or, Option.some.injEq] at h
        obtain ⟨rfl, rfl⟩ := h
        exact ⟨by k_mem, rfl, by intro e; cases e⟩
      case freei =>
        intro n hn
        simp at hn
        subst hn; rfl
      case runi =>
        refine cp_enc ok3 iN (fun _ => true) (tD (hK (hgts xs n))) (fun a => [((⟨⟨[107]⟩⟩ : Str), some (.imm (iN a))), ((⟨⟨[104, 101, 105, 103, 104, 116, 115]⟩⟩ : Str), some (.imm (.list ((hgts xs n).map D.int))))]) (fun a => by walk_at "m_upd") rfl (fun a => by walk_at "m_le") _ (fun a ha => ⟨ts_nil, fun _ => ?_⟩)
        have hat : ((hgts xs n).map D.int)[((a : Int)).toNat]? = some (.int (hK (hgts xs n) a)) := by
          have hl2 : a < (hgts xs n).length := by rw [hlen]; exact hm a ha
          rw [Int.toNat_natCast, List.getElem?_map, List.getElem?_eq_getElem hl2]
          show some _ = some _
          unfold hK
          rw [List.getD_eq_getElem?_getD, List.getElem?_eq_getElem hl2]; rfl
        exact ev_list (evl_cons (ev_sub (by walk_at "m_nm") (by walk_at "m_nm") hat (by omega) hhz (by walk_at "m_ns")) (evl_cons (by walk_at "m_nm") evl_nil rfl) rfl) (by simp)
    have htl : t0.length ≤ 100 := Nat.le_of_ble_eq_true hTl
    have htr : ∀ r ∈ t0, r.length ≤ 100 ∧ ∀ a ∈ r, a < n := fun r hr => by
      have := List.all_eq_true.mp hTr r hr
      rw [Bool.and_eq_true] at this
      exact ⟨Nat.le_of_ble_eq_true this.1, fun a ha => Nat.le_of_ble_eq_true (List.all_eq_true.mp this.2 a ha)⟩
    have ht0 : ((l0 :: Ls).map fun _ => D.list (t0.map (rowD (hK (hgts xs n)))))[((0 : Int)).toNat]? = some (.list (t0.map (rowD (hK (hgts xs n))))) := rfl
    have htz : ((l0 :: Ls).map fun _ => D.list (t0.map (rowD (hK (hgts xs n))))).length ≤ 1000000 := by rw [List.length_map]; omega
    refine lbd_seq sj1 (exw_of mx1 (ex_assign_comp ok1 (d := .list (t0.map (rowD (hK (hgts xs n))))) (ds := t0.map (rowD (hK (hgts xs n)))) (es := t0.map fun r => iN r.length) (ρc := [((⟨⟨[114, 111, 119]⟩⟩ : Str), none)]) (ev_sub (by walk_at "m_nm") ev_int ht0 (by omega) htz (by walk_at "m_ns")) rfl ⟨(by decide : [(⟨⟨[114, 111, 119]⟩⟩ : Str)].Nodup), ?sees9, ?free9, by decide, rfl, by decide⟩ (fun Dd Cc ok2 => ?run9) (by rw [List.length_map]; omega) (fun _ => rfl) (by walk_at "m_upd") rfl rfl)) ?_
    case sees9 =>
      intro x en h
      simp at h
    case free9 =>
      intro n hn
      simp at hn
    case run9 =>
      refine cp_map0 ok2 (rowD (hK (hgts xs n))) (fun r => iN r.length) (fun r => [((⟨⟨[114, 111, 119]⟩⟩ : Str), some (.imm (rowD (hK (hgts xs n)) r)))]) (fun a => by walk_at "m_upd") rfl (fun a => by walk_at "m_le") t0 (fun r hr => ?_)
      have hrl : (r.map (tD (hK (hgts xs n)))).length ≤ 1000000 := by have := (htr r hr).1; rw [List.length_map]; omega
      exact ev_eq (by rw [List.length_map]) (ev_call ok2 (by walk_at "m_fv") (by walk_at "m_evl") (fn_len hrl) kp_builtin rfl)
    have hsz : (t0.map fun r => iN r.length) = (t0.map List.length).map iN := by rw [List.map_map]; rfl
    rw [hsz]
    have FH := fn_hooks (k := 79) B1 (sizes := t0.map List.length) (by rw [List.length_map]; omega) (fun s hs => by obtain ⟨r, hr, rfl⟩ := List.mem_map.mp hs; have := (htr r hr).1; omega)
    have hHk : (l0 :: Ls).length * hooks (t0.map List.length) = factOf n := by simpa using hHook
    have hLlen : ((l0 :: Ls).map nD).length ≤ 1000000 := by rw [List.length_map]; omega
    refine lbd_j (J := fun h => J12 H0 h ∧ h.get? 104 = some (tabObj #[rawInt 150, rawInt 21, .ref cl])) (fun h j => ⟨⟨j.1, j.2.1⟩, j.2.2⟩) ?_
    refine lbd_mul (k := 80) B1 ok1 (lX := lX) (fun b x => hlX b x.1) aft.h43 aft.h104 h43 ⟨_, h104⟩ (fun b x => hX0 b x.1) (x := (factOf n : Nat)) (d2 := .range (n : Int) 0 (-1)) rfl rfl rfl (by trivial) rfl (fun ρ => ng_reduce B1 ok1 rfl) ?lhs ?r2 rfl (stay_aft2 aft hX0 h43) ?hJ43 ?hJ4 ?hF rfl ?rest
    case hJ43 => exact fun h j => let ⟨_, _, _, _, _, e⟩ := j; ⟨_, e⟩
    case hJ4 =>
      intro h h' j k
      obtain ⟨a, cc, ps, more, tt, e⟩ := j
      exact ⟨fun b ob x y z => k _ _ y (a b ob x y z), cc, ps, more, tt, k _ _ (by decide) e⟩
    case lhs =>
      refine ev_eq (congrArg D.int ?_) (ev_binop (ev_call ok1 (by walk_at "m_fv") (by walk_at "m_evl") (fn_len hLlen) kp_builtin rfl) (ev_call ok1 (by walk_at "m_fv") (by walk_at "m_evl") FH (kp_fn (Base.K B1 _ _ rfl) rfl) rfl) (op_mul (small_mulL (by rw [List.length_map]; omega))))
      rw [List.length_map, ← hHk]
      exact (Int.natCast_mul _ _).symm
    case r2 =>
      exact ev_call ok1 (by walk_at "m_fv") (by walk_at "m_evl") (fn_range3 (by decide) (div_ok hn5)) kp_type rfl
    case hF =>
      intro g2 lam2 cl2 pm2 ctv2 eg hl2 hrec2
      have B2 : Base { c1 with g := g2 } := B1.up (c1 := { c1 with g := g2 }) eg rfl
      refine fn_prod B2 hn5 (kp_fn hl2 rfl) fun a b ha hb => ?_
      refine fn_lam (k := 78) B2 [(⟨⟨[97]⟩⟩ : Str), (⟨⟨[98]⟩⟩ : Str)] [] [((⟨⟨[97]⟩⟩ : Str), some (.imm (.int (a : Int)))), ((⟨⟨[98]⟩⟩ : Str), some (.imm (.int (b : Int))))] rfl hl2 rfl hrec2 rfl rfl rfl (fun vs h => by obtain ⟨a, b, e⟩ := len2 h; subst e; rfl) rfl (by show ∀ x ∈ [(Str.ofString "a", NameKind.local), (Str.ofString "b", NameKind.local)], x.2 ≠ .cell; decide) (by show ∀ x ∈ [(⟨⟨[97]⟩⟩ : Str), (⟨⟨[98]⟩⟩ : Str)], List.lookup x [(Str.ofString "a", NameKind.local), (Str.ofString "b", NameKind.local)] = some .local; decide) (by show [(⟨⟨[97]⟩⟩ : Str), (⟨⟨[98]⟩⟩ : Str)].Nodup; decide) (fun p hp => nomatch hp) (fun x b e => by cases e) (fun x y b e => by cases e) ?_ rfl rfl rfl
      intro A2 L2 X2 ok2
      exact ev_eq (congrArg D.int (Int.natCast_mul _ _).symm) (ev_binop (by walk_at "m_nm") (by walk_at "m_nm") (op_mul (small_mul (by omega))))
    case rest =>
      have sj3 := stay_aft3 aft hX0 h43 ⟨_, h104⟩
      refine lbd_j (J := J123 H0) (fun h j => ⟨j.1, let ⟨m, e, _⟩ := j.2; ⟨m, e⟩⟩) ?_
      have plT : (D.list (t0.map (rowD (hK (hgts xs n))))).pl 9 = true := pls_rows _ 6 t0
      refine lbd_seq sj3 (exw_of mx1 (ex_if (b := false) (tr_cmp (op := .NotEq) (d1 := .list ((((l0 :: Ls).filter fun _ => false)).map fun _ => D.list (t0.map (rowD (hK (hgts xs n)))))) (d2 := .list []) (Ev.w (ev_comp (d := .list ((l0 :: Ls).map fun _ => D.list (t0.map (rowD (hK (hgts xs n)))))) (ds := (l0 :: Ls).map fun _ => D.list (t0.map (rowD (hK (hgts xs n))))) (ρc := [((⟨⟨[116, 97, 98, 108, 101]⟩⟩ : Str), none), ((⟨⟨[116, 97, 98, 108, 101, 115]⟩⟩ : Str), some (.imm (.list ((l0 :: Ls).map fun _ => D.list (t0.map (rowD (hK (hgts xs n))))))))]) ok1 (by walk_at "m_nm") rfl ⟨(by decide : [(⟨⟨[116, 97, 98, 108, 101]⟩⟩ : Str), (⟨⟨[116, 97, 98, 108, 101, 115]⟩⟩ : Str)].Nodup), ?sees11, ?free11, by decide, rfl, by decide⟩ (fun Dd Cc ok2 => ?run11) (by rw [List.filter_eq_nil_iff.mpr (fun _ _ => by simp)]; exact Nat.zero_le _) (fun _ => rfl))) (Ev.w (ev_list evl_nil (by simp))) ?cm11 rfl) exs_nil)) ?_
      case sees11 =>
        intro x en h
        simp only [List.mem_cons, List.not_mem_nil, or_false, Prod.mk.injEq, reduceCtorEq, and_false, false_or, Option.some.injEq] at h
        obtain ⟨rfl, rfl⟩ := h
        exact ⟨by k_mem, rfl, by intro e; cases e⟩
      case free11 =>
        intro n hn
        simp at hn
        subst hn; rfl
      case cm11 =>
        rw [List.filter_eq_nil_iff.mpr (fun _ _ => by simp)]
        exact cm_dne ok1 rfl rfl
      case run11 =>
        exact cp_enc ok2 (fun _ => D.list (t0.map (rowD (hK (hgts xs n))))) (fun _ => false) (fun _ => D.list (t0.map (rowD (hK (hgts xs n))))) (fun _ => [((⟨⟨[116, 97, 98, 108, 101]⟩⟩ : Str), some (.imm (D.list (t0.map (rowD (hK (hgts xs n))))))), ((⟨⟨[116, 97, 98, 108, 101, 115]⟩⟩ : Str), some (.imm (.list ((l0 :: Ls).map fun _ => D.list (t0.map (rowD (hK (hgts xs n))))))))]) (fun a => by walk_at "m_upd") rfl (fun a => by walk_at "m_le") _ (fun a ha => ⟨ts_one (tr_eq (by rw [eqv_refl]; rfl) (tr_cmp (Ev.w (by walk_at "m_nm")) (Ev.w (ev_sub (by walk_at "m_nm") ev_int ht0 (by omega) htz (by walk_at "m_ns"))) (cm_dne ok2 plT plT) rfl)), fun e => by cases e⟩)
      have hat : ∀ a, a < n → ((hgts xs n).map D.int)[((a : Int)).toNat]? = some (.int (hK (hgts xs n) a)) := fun a ha => by
        have hl2 : a < (hgts xs n).length := by rw [hlen]; exact ha
        rw [Int.toNat_natCast, List.getElem?_map, List.getElem?_eq_getElem hl2]
        show some _ = some _
        unfold hK
        rw [List.getD_eq_getElem?_getD, List.getElem?_eq_getElem hl2]; rfl
      refine lbd_seq sj3 (exw_of mx1 (ex_assign_compK ok1 (d := .range 0 (n : Int) 1) (ds := (List.range n).map iN) (es := (List.range n).map fun kk => iN ((List.range n).filter fun j => lt j kk).length) (ρc := [((⟨⟨[107]⟩⟩ : Str), none), ((⟨⟨[110]⟩⟩ : Str), some (.imm (.int (n : Int)))), ((⟨⟨[104, 101, 105, 103, 104, 116, 115]⟩⟩ : Str), (some (.imm (.list ((hgts xs n).map D.int)))))]) ⟨fun n acc => rfl, fun h => rfl, rfl⟩ (by walk_at "m_ev") (items_to n (by omega)) ⟨(by decide : [(⟨⟨[107]⟩⟩ : Str), (⟨⟨[110]⟩⟩ : Str), (⟨⟨[104, 101, 105, 103, 104, 116, 115]⟩⟩ : Str)].Nodup), ?sees12, ?free12, rfl, by decide⟩ (fun Dd Cc a ok2 => ?run12) (by rw [List.length_map, List.length_range]; omega) (fun _ => rfl) (by walk_at "m_upd") rfl rfl)) ?_
      case sees12 =>
        intro x en h
        simp only [List.mem_cons, List.not_mem_nil, or_false, Prod.mk.injEq, reduceCtorEq, and_false, false_or, Option.some.injEq] at h
        rcases h with ⟨rfl, rfl⟩ | ⟨rfl, rfl⟩
        · exact ⟨by k_mem, rfl, by intro e; cases e⟩
        · exact ⟨by k_mem, rfl, by intro e; cases e⟩
      case free12 =>
        intro n hn
        simp at hn
        rcases hn with rfl | rfl <;> rfl
      case run12 =>
        refine cpk_map0 ok2 iN (fun kk => iN ((List.range n).filter fun j => lt j kk).length) (fun kk => [((⟨⟨[107]⟩⟩ : Str), some (.imm (iN kk))), ((⟨⟨[110]⟩⟩ : Str), some (.imm (.int (n : Int)))), ((⟨⟨[104, 101, 105, 103, 104, 116, 115]⟩⟩ : Str), (some (.imm (.list ((hgts xs n).map D.int)))))]) (fun a => by walk_at "m_upd") rfl rfl (.inr (.inr rfl)) (fun a => by walk_at "m_le") _ (fun kk hkk => ?_)
        have hk' : kk < n := List.mem_range.mp hkk
        have ek := hat kk hk'
        have hfl : (((List.range n).filter fun j => lt j kk).map iN).length ≤ 1000000 := by
          rw [List.length_map]
          have := List.length_filter_le (fun j => lt j kk) (List.range n)
          rw [List.length_range] at this; omega
        refine ev_eq (by rw [List.length_map]) (ev_call ok2 (by walk_at "m_fv") (evl_cons (ev_comp (d := .range 0 (n : Int) 1) (ds := (List.range n).map iN) (es := ((List.range n).filter fun j => lt j kk).map iN) (ρc := [((⟨⟨[106]⟩⟩ : Str), none), ((⟨⟨[104, 101, 105, 103, 104, 116, 115]⟩⟩ : Str), (some (.imm (.list ((hgts xs n).map D.int))))), ((⟨⟨[107]⟩⟩ : Str), some (.imm (iN kk)))]) ok2 (by walk_at "m_ev") (items_to n (by omega)) ⟨(by decide : [(⟨⟨[106]⟩⟩ : Str), (⟨⟨[104, 101, 105, 103, 104, 116, 115]⟩⟩ : Str), (⟨⟨[107]⟩⟩ : Str)].Nodup), ?seesj, ?freej, by decide, rfl, by decide⟩ (fun Dd Cc ok3 => ?runj) hfl (fun _ => rfl)) evl_nil rfl) (fn_len hfl) kp_builtin rfl)
        case seesj =>
          intro x en h
          simp only [List.mem_cons, List.not_mem_nil, or_false, Prod.mk.injEq, reduceCtorEq, and_false, false_or, Option.some.injEq] at h
          rcases h with ⟨rfl, rfl⟩ | ⟨rfl, rfl⟩
          · exact ⟨by k_mem, rfl, by intro e; cases e⟩
          · exact ⟨by k_mem, rfl, by intro e; cases e⟩
        case freej =>
          intro n hn
          simp at hn
          rcases hn with rfl | rfl <;> rfl
        case runj =>
          refine cp_enc ok3 iN (fun j => lt j kk) iN (fun j => [((⟨⟨[106]⟩⟩ : Str), some (.imm (iN j))), ((⟨⟨[104, 101, 105, 103, 104, 116, 115]⟩⟩ : Str), (some (.imm (.list ((hgts xs n).map D.int))))), ((⟨⟨[107]⟩⟩ : Str), some (.imm (iN kk)))]) (fun a => by walk_at "m_upd") rfl (fun a => by walk_at "m_le") _ (fun j hj => ⟨ts_one (tr_eq (ltn j kk (List.mem_range.mp hj) hk') (tr_cmp (Ev.w (ev_tuple (evl_cons (ev_sub (by walk_at "m_nm") (by walk_at "m_nm") (hat j (List.mem_range.mp hj)) (by omega) hhz (by walk_at "m_ns")) (evl_cons (by walk_at "m_nm") evl_nil rfl) rfl) (by simp))) (Ev.w (ev_tuple (evl_cons (ev_sub (by walk_at "m_nm") (by walk_at "m_nm") ek (by omega) hhz (by walk_at "m_ns")) (evl_cons (by walk_at "m_nm") evl_nil rfl) rfl) (by simp))) (cm_tlt2 ok3) rfl)), fun _ => by walk_at "m_nm"⟩)
      have F3 : ∀ a b, a < n → b < n → Fn c1 80 (.ref 71) [.key a, .key b] (.int (b2i (lt b a) - b2i (lt a b))) := fun a b ha hb =>
        fn_three (k := 79) B1 (fun f o => cm_kgt (Cs.mono (by omega)) o (by omega) (by omega)) (fun f o => cm_klt (Cs.mono (by omega)) o (by omega) (by omega))
      have keyat : ∀ (N a : Nat), a < N → ((List.range N).map D.key)[((a : Int)).toNat]? = some (.key a) := fun N a ha => by
        rw [Int.toNat_natCast, List.getElem?_map, List.getElem?_range ha]; rfl
      have hkz : ((List.range (n + 2)).map D.key).length ≤ 1000000 := by rw [List.length_map, List.length_range]; omega
      have hwz : ((List.range n).map D.key).length ≤ 1000000 := by rw [List.length_map, List.length_range]; omega
      refine lbd_seq sj3 (exw_of mx1 (ex_assign_compK ok1 (d := .range 0 (n : Int) 1) (ds := (List.range n).map iN) (es := (List.range n).map fun kk => D.list (iL (sgR lt n kk))) (ρc := [((⟨⟨[107]⟩⟩ : Str), none), ((⟨⟨[110]⟩⟩ : Str), some (.imm (.int (n : Int)))), ((⟨⟨[107, 101, 121, 115]⟩⟩ : Str), (some (.imm (.list ((List.range (n + 2)).map D.key))))), ((⟨⟨[116, 119, 105, 110, 115]⟩⟩ : Str), (some (.imm (.list ((List.range n).map D.key)))))]) ⟨fun n acc => rfl, fun h => rfl, rfl⟩ (by walk_at "m_ev") (items_to n (by omega)) ⟨(by decide : [(⟨⟨[107]⟩⟩ : Str), (⟨⟨[110]⟩⟩ : Str), (⟨⟨[107, 101, 121, 115]⟩⟩ : Str), (⟨⟨[116, 119, 105, 110, 115]⟩⟩ : Str)].Nodup), ?sees13, ?free13, rfl, by decide⟩ (fun Dd Cc a ok2 => ?run13) (by rw [List.length_map, List.length_range]; omega) (fun _ => rfl) (by walk_at "m_upd") rfl rfl)) ?_
      case sees13 =>
        intro x en h
        simp only [List.mem_cons, List.not_mem_nil, or_false, Prod.mk.injEq, reduceCtorEq, and_false, false_or, Option.some.injEq] at h
        rcases h with ⟨rfl, rfl⟩ | ⟨rfl, rfl⟩ | ⟨rfl, rfl⟩
        · exact ⟨by k_mem, rfl, by intro e; cases e⟩
        · exact ⟨by k_mem, rfl, by intro e; cases e⟩
        · exact ⟨by k_mem, rfl, by intro e; cases e⟩
      case free13 =>
        intro n hn
        simp at hn
        rcases hn with rfl | rfl | rfl <;> rfl
      case run13 =>
        refine cpk_map0 ok2 iN (fun kk => D.list (iL (sgR lt n kk))) (fun kk => [((⟨⟨[107]⟩⟩ : Str), some (.imm (iN kk))), ((⟨⟨[110]⟩⟩ : Str), some (.imm (.int (n : Int)))), ((⟨⟨[107, 101, 121, 115]⟩⟩ : Str), (some (.imm (.list ((List.range (n + 2)).map D.key))))), ((⟨⟨[116, 119, 105, 110, 115]⟩⟩ : Str), (some (.imm (.list ((List.range n).map D.key)))))]) (fun a => by walk_at "m_upd") rfl rfl (.inr (.inr rfl)) (fun a => by walk_at "m_le") _ (fun kk hkk => ?_)
        have hk' : kk < n := List.mem_range.mp hkk
        have ek := keyat (n + 2) kk (by omega)
        refine ev_eq (congrArg D.list (sgR_eq lt n kk)) (ev_comp (d := .range 0 (n : Int) 1) (ds := (List.range n).map iN) (ρc := [((⟨⟨[106]⟩⟩ : Str), none), ((⟨⟨[107, 101, 121, 115]⟩⟩ : Str), (some (.imm (.list ((List.range (n + 2)).map D.key))))), ((⟨⟨[116, 119, 105, 110, 115]⟩⟩ : Str), (some (.imm (.list ((List.range n).map D.key))))), ((⟨⟨[107]⟩⟩ : Str), some (.imm (iN kk)))]) ok2 (by walk_at "m_ev") (items_to n (by omega)) ⟨(by decide : [(⟨⟨[106]⟩⟩ : Str), (⟨⟨[107, 101, 121, 115]⟩⟩ : Str), (⟨⟨[116, 119, 105, 110, 115]⟩⟩ : Str), (⟨⟨[107]⟩⟩ : Str)].Nodup), ?seesl, ?freel, by decide, rfl, by decide⟩ (fun Dd Cc ok3 => ?runl) (by rw [List.length_map, List.length_range]; omega) (fun _ => rfl))
        case seesl =>
          intro x en h
          simp only [List.mem_cons, List.not_mem_nil, or_false, Prod.mk.injEq, reduceCtorEq, and_false, false_or, Option.some.injEq] at h
          rcases h with ⟨rfl, rfl⟩ | ⟨rfl, rfl⟩ | ⟨rfl, rfl⟩
          · exact ⟨by k_mem, rfl, by intro e; cases e⟩
          · exact ⟨by k_mem, rfl, by intro e; cases e⟩
          · exact ⟨by k_mem, rfl, by intro e; cases e⟩
        case freel =>
          intro n hn
          simp at hn
          rcases hn with rfl | rfl | rfl <;> rfl
        case runl =>
          refine cp_map0 ok3 iN (fun j => D.int (b2i (lt j kk) - b2i (lt kk j))) (fun j => [((⟨⟨[106]⟩⟩ : Str), some (.imm (iN j))), ((⟨⟨[107, 101, 121, 115]⟩⟩ : Str), (some (.imm (.list ((List.range (n + 2)).map D.key))))), ((⟨⟨[116, 119, 105, 110, 115]⟩⟩ : Str), (some (.imm (.list ((List.range n).map D.key))))), ((⟨⟨[107]⟩⟩ : Str), some (.imm (iN kk)))]) (fun a => by walk_at "m_upd") rfl (fun a => by walk_at "m_le") _ (fun j hj => ?_)
          have ej := keyat n j (List.mem_range.mp hj)
          exact ev_call ok3 (by walk_at "m_fv") (evl_cons (ev_sub (by walk_at "m_nm") (by walk_at "m_nm") ek (by omega) hkz (by walk_at "m_ns")) (evl_cons (ev_sub (by walk_at "m_nm") (by walk_at "m_nm") ej (by omega) hwz (by walk_at "m_ns")) evl_nil rfl) rfl) (F3 kk j hk' (List.mem_range.mp hj)) (kp_fn (Base.K B1 _ _ rfl) rfl) rfl
      have hSgz : (List.map (fun kk => D.list (iL (sgR lt n kk))) (List.range n)).length ≤ 1000000 := by rw [List.length_map, List.length_range]; omega
      refine lbd_seq sj3 (exw_of mx1 (ex_if (b := false) (tr_cmp (op := .NotEq) (d1 := .list []) (d2 := .list []) (Ev.w (ev_eq ?hc14 (ev_comp (d := .list ((List.range n).map fun kk => D.list (iL (sgR lt n kk)))) (ds := (List.range n).map fun kk => D.list (iL (sgR lt n kk))) (es := (List.range n).flatMap fun kk => ((sgR lt n kk).filter fun _ => false).map D.int) (ρc := [((⟨⟨[116, 111, 108, 100]⟩⟩ : Str), none), ((⟨⟨[115, 105, 103, 110]⟩⟩ : Str), none)]) ok1 (by walk_at "m_nm") rfl ⟨(by decide : [(⟨⟨[116, 111, 108, 100]⟩⟩ : Str), (⟨⟨[115, 105, 103, 110]⟩⟩ : Str)].Nodup), ?sees14, ?free14, by decide, rfl, by decide⟩ (fun Dd Cc ok2 => ?run14) ?hz14 (fun _ => rfl)))) (Ev.w (ev_list evl_nil (by simp))) (cm_dne ok1 rfl rfl) rfl) exs_nil)) ?_
      case hc14 =>
        congr 1
        rw [List.flatMap_eq_nil_iff]
        intro a _
        rw [List.filter_eq_nil_iff.mpr (fun _ _ => by simp), List.map_nil]
      case hz14 =>
        rw [List.flatMap_eq_nil_iff.mpr fun a _ => by rw [List.filter_eq_nil_iff.mpr (fun _ _ => by simp), List.map_nil]]
        exact Nat.zero_le _
      case sees14 =>
        intro x en h
        simp at h
      case free14 =>
        intro n hn
        simp at hn
      case run14 =>
        refine cp1_enc ok2 (fun kk => D.list (iL (sgR lt n kk))) (fun kk => D.list (iL (sgR lt n kk))) (fun kk => iL (sgR lt n kk)) _ (fun kk => [((⟨⟨[116, 111, 108, 100]⟩⟩ : Str), some (.imm (.list (iL (sgR lt n kk))))), ((⟨⟨[115, 105, 103, 110]⟩⟩ : Str), none)]) (fun a => by walk_at "m_upd") rfl (fun a => by walk_at "m_le") (fun _ => rfl) _ (fun kk hkk => ⟨by walk_at "m_nm", rfl, ?_⟩)
        exact cp2_enc ok2 D.int (fun _ => false) D.int (fun z => [((⟨⟨[116, 111, 108, 100]⟩⟩ : Str), some (.imm (.list (iL (sgR lt n kk))))), ((⟨⟨[115, 105, 103, 110]⟩⟩ : Str), some (.imm (.int z)))]) (fun a => by walk_at "m_upd") rfl (fun a => by walk_at "m_le") _ (fun z hz => ⟨ts_one (tr_cmp (Ev.w (ev_call ok2 (by walk_at "m_fv") (by walk_at "m_evl") fn_type kp_type rfl)) (Ev.w (by walk_at "m_fv")) cm_isnot rfl), fun e => by cases e⟩)
      rw [rk_eq]
      have hrz : ((ranksOf lt n).map iN).length ≤ 1000000 := by rw [List.length_map, ranks_len]; omega
      have hsum : ((List.range n).map fun kk => D.int (sgR lt n kk).sum) = (ranksOf lt n).map fun r : Nat => D.int (2 * (r : Int) - n + 1) := by
        have e : (List.range n).map (fun kk => (sgR lt n kk).sum) = (ranksOf lt n).map fun (r : Nat) => 2 * (r : Int) - n + 1 := by simpa [sgR] using hSum
        have e2 := congrArg (List.map D.int) e
        rw [List.map_map, List.map_map] at e2
        exact e2
      refine lbd_seq sj3 (exw_of mx1 (ex_if (b := false) (tr_eq (by rw [eqv_refl]; rfl) (tr_cmp (op := .NotEq) (d1 := .list ((ranksOf lt n).map fun r : Nat => D.int (2 * (r : Int) - n + 1))) (d2 := .list ((ranksOf lt n).map fun r : Nat => D.int (2 * (r : Int) - n + 1))) (Ev.w (ev_eq (congrArg D.list hsum) (ev_comp (d := .list ((List.range n).map fun kk => D.list (iL (sgR lt n kk)))) (ds := (List.range n).map fun kk => D.list (iL (sgR lt n kk))) (es := (List.range n).map fun kk => D.int (sgR lt n kk).sum) (ρc := [((⟨⟨[116, 111, 108, 100]⟩⟩ : Str), none)]) ok1 (by walk_at "m_nm") rfl ⟨(by decide : [(⟨⟨[116, 111, 108, 100]⟩⟩ : Str)].Nodup), ?sees15, ?free15, by decide, rfl, by decide⟩ (fun Dd Cc ok2 => ?run15) (by rw [List.length_map, List.length_range]; omega) (fun _ => rfl)))) (Ev.w (ev_comp (d := .list ((ranksOf lt n).map iN)) (ds := (ranksOf lt n).map iN) (es := (ranksOf lt n).map fun r : Nat => D.int (2 * (r : Int) - n + 1)) (ρc := [((⟨⟨[114, 97, 110, 107]⟩⟩ : Str), none), ((⟨⟨[110]⟩⟩ : Str), some (.imm (.int (n : Int))))]) ok1 (by walk_at "m_nm") rfl ⟨(by decide : [(⟨⟨[114, 97, 110, 107]⟩⟩ : Str), (⟨⟨[110]⟩⟩ : Str)].Nodup), ?sees15b, ?free15b, by decide, rfl, by decide⟩ (fun Dd Cc ok2 => ?run15b) (by rw [List.length_map, ranks_len]; omega) (fun _ => rfl))) (cm_dne ok1 (pls_iM _ 8 _) (pls_iM _ 8 _)) rfl)) exs_nil)) ?_
      case sees15 =>
        intro x en h
        simp at h
      case free15 =>
        intro n hn
        simp at hn
      case run15 =>
        exact cp_map0 ok2 (fun kk => D.list (iL (sgR lt n kk))) (fun kk => D.int (sgR lt n kk).sum) (fun kk => [((⟨⟨[116, 111, 108, 100]⟩⟩ : Str), some (.imm (.list (iL (sgR lt n kk)))))]) (fun a => by walk_at "m_upd") rfl (fun a => by walk_at "m_le") _ (fun kk hkk => ev_call ok2 (by walk_at "m_fv") (by walk_at "m_evl") fn_sum kp_builtin rfl)
      case sees15b =>
        intro x en h
        simp only [List.mem_cons, List.not_mem_nil, or_false, Prod.mk.injEq, reduceCtorEq, and_false, false_or, Option.some.injEq] at h
        obtain ⟨rfl, rfl⟩ := h
        exact ⟨by k_mem, rfl, by intro e; cases e⟩
      case free15b =>
        intro n hn
        simp at hn
        subst hn; rfl
      case run15b =>
        exact cp_map0 ok2 iN (fun r => D.int (2 * (r : Int) - n + 1)) (fun r => [((⟨⟨[114, 97, 110, 107]⟩⟩ : Str), some (.imm (iN r))), ((⟨⟨[110]⟩⟩ : Str), some (.imm (.int (n : Int))))]) (fun a => by walk_at "m_upd") rfl (fun a => by walk_at "m_le") _ (fun r hr => ev_binop (ev_binop (ev_binop ev_int (by walk_at "m_nm") (op_mul (small_mul (by have := ranks_le r hr; omega)))) (by walk_at "m_nm") op_sub) ev_int op_add)
      refine lbd_seq sj3 (exw_of mx1 (ex_if (b := false) (tr_eq (by rw [eqv_refl]; rfl) (tr_cmp (op := .NotEq) (d1 := .list ((ranksOf lt n).map iN)) (d2 := .list ((ranksOf lt n).map iN)) (Ev.w (ev_eq (congrArg D.list (rk_eq lt n)) (ev_compK (d := .range 0 (n : Int) 1) (ds := (List.range n).map iN) (es := (List.range n).map fun kk => iN ((List.range n).filter fun j => lt j kk).length) (ρc := [((⟨⟨[107]⟩⟩ : Str), none), ((⟨⟨[110]⟩⟩ : Str), some (.imm (.int (n : Int)))), ((⟨⟨[107, 101, 121, 115]⟩⟩ : Str), (some (.imm (.list ((List.range (n + 2)).map D.key))))), ((⟨⟨[116, 119, 105, 110, 115]⟩⟩ : Str), (some (.imm (.list ((List.range n).map D.key)))))]) ok1 ⟨fun n acc => rfl, fun h => rfl, rfl⟩ (by walk_at "m_ev") (items_to n (by omega)) ⟨(by decide : [(⟨⟨[107]⟩⟩ : Str), (⟨⟨[110]⟩⟩ : Str), (⟨⟨[107, 101, 121, 115]⟩⟩ : Str), (⟨⟨[116, 119, 105, 110, 115]⟩⟩ : Str)].Nodup), ?sees16, ?free16, rfl, by decide⟩ (fun Dd Cc a ok2 => ?run16) (by rw [List.length_map, List.length_range]; omega) (fun _ => rfl)))) (Ev.w (by walk_at "m_nm")) (cm_dne ok1 (pls_iM _ 8 _) (pls_iM _ 8 _)) rfl)) exs_nil)) ?_
      case sees16 =>
        intro x en h
        simp only [List.mem_cons, List.not_mem_nil, or_false, Prod.mk.injEq, reduceCtorEq, and_false, false_or, Option.some.injEq] at h
        rcases h with ⟨rfl, rfl⟩ | ⟨rfl, rfl⟩ | ⟨rfl, rfl⟩
        · exact ⟨by k_mem, rfl, by intro e; cases e⟩
        · exact ⟨by k_mem, rfl, by intro e; cases e⟩
        · exact ⟨by k_mem, rfl, by intro e; cases e⟩
      case free16 =>
        intro n hn
        simp at hn
        rcases hn with rfl | rfl | rfl <;> rfl
      case run16 =>
        refine cpk_map0 ok2 iN (fun kk => iN ((List.range n).filter fun j => lt j kk).length) (fun kk => [((⟨⟨[107]⟩⟩ : Str), some (.imm (iN kk))), ((⟨⟨[110]⟩⟩ : Str), some (.imm (.int (n : Int)))), ((⟨⟨[107, 101, 121, 115]⟩⟩ : Str), (some (.imm (.list ((List.range (n + 2)).map D.key))))), ((⟨⟨[116, 119, 105, 110, 115]⟩⟩ : Str), (some (.imm (.list ((List.range n).map D.key)))))]) (fun a => by walk_at "m_upd") rfl rfl (.inr (.inr rfl)) (fun a => by walk_at "m_le") _ (fun kk hkk => ?_)
        have hk' : kk < n := List.mem_range.mp hkk
        have ek := keyat n kk hk'
        have hfl : (((List.range n).filter fun j => lt j kk).map iN).length ≤ 1000000 := by
          rw [List.length_map]
          have := List.length_filter_le (fun j => lt j kk) (List.range n)
          rw [List.length_range] at this; omega
        refine ev_eq (by rw [List.length_map]) (ev_call ok2 (by walk_at "m_fv") (evl_cons (ev_comp (d := .range 0 (n : Int) 1) (ds := (List.range n).map iN) (es := ((List.range n).filter fun j => lt j kk).map iN) (ρc := [((⟨⟨[106]⟩⟩ : Str), none), ((⟨⟨[107, 101, 121, 115]⟩⟩ : Str), (some (.imm (.list ((List.range (n + 2)).map D.key))))), ((⟨⟨[116, 119, 105, 110, 115]⟩⟩ : Str), (some (.imm (.list ((List.range n).map D.key))))), ((⟨⟨[107]⟩⟩ : Str), some (.imm (iN kk)))]) ok2 (by walk_at "m_ev") (items_to n (by omega)) ⟨(by decide : [(⟨⟨[106]⟩⟩ : Str), (⟨⟨[107, 101, 121, 115]⟩⟩ : Str), (⟨⟨[116, 119, 105, 110, 115]⟩⟩ : Str), (⟨⟨[107]⟩⟩ : Str)].Nodup), ?seesm, ?freem, by decide, rfl, by decide⟩ (fun Dd Cc ok3 => ?runm) hfl (fun _ => rfl)) evl_nil rfl) (fn_len hfl) kp_builtin rfl)
        case seesm =>
          intro x en h
          simp only [List.mem_cons, List.not_mem_nil, or_false, Prod.mk.injEq, reduceCtorEq, and_false, false_or, Option.some.injEq] at h
          rcases h with ⟨rfl, rfl⟩ | ⟨rfl, rfl⟩ | ⟨rfl, rfl⟩
          · exact ⟨by k_mem, rfl, by intro e; cases e⟩
          · exact ⟨by k_mem, rfl, by intro e; cases e⟩
          · exact ⟨by k_mem, rfl, by intro e; cases e⟩
        case freem =>
          intro n hn
          simp at hn
          rcases hn with rfl | rfl | rfl <;> rfl
        case runm =>
          refine cp_enc ok3 iN (fun j => lt j kk) iN (fun j => [((⟨⟨[106]⟩⟩ : Str), some (.imm (iN j))), ((⟨⟨[107, 101, 121, 115]⟩⟩ : Str), (some (.imm (.list ((List.range (n + 2)).map D.key))))), ((⟨⟨[116, 119, 105, 110, 115]⟩⟩ : Str), (some (.imm (.list ((List.range n).map D.key))))), ((⟨⟨[107]⟩⟩ : Str), some (.imm (iN kk)))]) (fun a => by walk_at "m_upd") rfl (fun a => by walk_at "m_le") _ (fun j hj => ⟨?_, fun _ => by walk_at "m_nm"⟩)
          have hj' := List.mem_range.mp hj
          exact ts_one (tr_cmp (Ev.w (ev_sub (by walk_at "m_nm") (by walk_at "m_nm") (keyat (n + 2) j (by omega)) (by omega) hkz (by walk_at "m_ns"))) (Ev.w (ev_sub (by walk_at "m_nm") (by walk_at "m_nm") ek (by omega) hwz (by walk_at "m_ns"))) (cm_klt (Cs.mono (by omega)) ok3 (by omega) (by omega)) rfl)
      have hne : ranksOf lt n ≠ [] := ranks_ne (by omega)
      have FL1 : Fn c1 80 (.ref 102) [.list ((ranksOf lt n).map iN)] (.int (longest ((ranksOf lt n).map fun r : Nat => (r : Int)) : Nat)) := by
        have := fn_longest (k := 79) B1 (rs := (ranksOf lt n).map fun r : Nat => (r : Int)) (by rw [List.length_map, ranks_len]; omega) (fun e => hne (List.map_eq_nil_iff.mp e))
        rw [List.map_map] at this
        exact this
      have FL2 : Fn c1 80 (.ref 102) [.list ((ranksOf lt n).map fun r : Nat => D.int (-(r : Int)))] (.int (longest ((ranksOf lt n).map fun r : Nat => -(r : Int)) : Nat)) := by
        have := fn_longest (k := 79) B1 (rs := (ranksOf lt n).map fun r : Nat => -(r : Int)) (by rw [List.length_map, ranks_len]; omega) (fun e => hne (List.map_eq_nil_iff.mp e))
        rw [List.map_map] at this
        exact this
      have h00 := okTabs_parts (L := []) hS0
      have hszz : ((t0.map List.length).map iN).length ≤ 1000000 := by rw [List.length_map, List.length_map]; omega
      have hS1' : t0.length = longest ((ranksOf lt n).map fun r : Nat => -(r : Int)) := by simpa using hS1
      refine lbd_seq sj3 (exw_of mx1 (ex_if (b := false) (tr_or2 (x := false) (y := false)
        (tr_eq (by simp) (tr_cmp (op := .NotEq) (Ev.w (ev_sub (by walk_at "m_nm") ev_int h00 (by omega) hszz (by walk_at "m_ns"))) (Ev.w (ev_call ok1 (by walk_at "m_fv") (by walk_at "m_evl") FL1 (kp_fn (Base.K B1 _ _ rfl) rfl) rfl)) cm_ne rfl))
        (fun _ => tr_eq (by simp) (tr_cmp (op := .NotEq) (Ev.w (ev_eq (d' := .int (longest ((ranksOf lt n).map fun r : Nat => -(r : Int)) : Nat)) (by rw [List.length_map, List.length_map, hS1']) (ev_call ok1 (by walk_at "m_fv") (by walk_at "m_evl") (fn_len hszz) kp_builtin rfl))) (Ev.w (ev_call ok1 (by walk_at "m_fv") (evl_cons (ev_comp (d := .list ((ranksOf lt n).map iN)) (ds := (ranksOf lt n).map iN) (es := (ranksOf lt n).map fun r : Nat => D.int (-(r : Int))) (ρc := [((⟨⟨[114, 97, 110, 107]⟩⟩ : Str), none)]) ok1 (by walk_at "m_nm") rfl ⟨(by decide : [(⟨⟨[114, 97, 110, 107]⟩⟩ : Str)].Nodup), ?sees17, ?free17, by decide, rfl, by decide⟩ (fun Dd Cc ok2 => ?run17) (by rw [List.length_map, ranks_len]; omega) (fun _ => rfl)) evl_nil rfl) FL2 (kp_fn (Base.K B1 _ _ rfl) rfl) rfl)) cm_ne rfl))) exs_nil)) ?_
      case sees17 =>
        intro x en h
        simp at h
      case free17 =>
        intro n hn
        simp at hn
      case run17 =>
        exact cp_map0 ok2 iN (fun r => D.int (-(r : Int))) (fun r => [((⟨⟨[114, 97, 110, 107]⟩⟩ : Str), some (.imm (iN r)))]) (fun a => by walk_at "m_upd") rfl (fun a => by walk_at "m_le") _ (fun r hr => ev_neg (by walk_at "m_nm"))
      have hin : ((D.pys ((l0 :: Ls).map nD)).any fun y => PyData.eqv y (nD t0.reverse.flatten).py) = true := by rw [any_n]; exact hIn
      have hrl : ∀ r ∈ t0.reverse, r.length ≤ 100 := fun r hr => (htr r (List.mem_reverse.mp hr)).1
      refine lbd_stop sj3 (fun h j => ⟨j.1.1, j.1.2, j.2⟩) (exw_of mx1 (ex_ret (Ev.w (ev_eq (congrArg D.bool hin) (ev_cmp (op := .In) (Ev.w (ev_eq (congrArg D.list (flat_iN t0.reverse)) (ev_comp (d := .list (t0.reverse.map (rowD (hK (hgts xs n))))) (ds := t0.reverse.map (rowD (hK (hgts xs n)))) (ρc := [((⟨⟨[114, 111, 119]⟩⟩ : Str), none), ((⟨⟨[116, 104, 105, 110, 103]⟩⟩ : Str), none)]) ok1 (ev_eq (congrArg D.list ((pick_rev _).trans (rd_eq _ _))) (ev_slice (ev_sub (by walk_at "m_nm") ev_int ht0 (by omega) htz (by walk_at "m_ns")) evp_none evp_none (evp_some (by walk_at "m_ev")) (by decide) (by rw [List.length_map]; omega))) rfl ⟨(by decide : [(⟨⟨[114, 111, 119]⟩⟩ : Str), (⟨⟨[116, 104, 105, 110, 103]⟩⟩ : Str)].Nodup), ?sees18, ?free18, by decide, rfl, by decide⟩ (fun Dd Cc ok2 => ?run18) ?hz18 (fun _ => rfl)))) (Ev.w (by walk_at "m_nm")) (cm_din ok1 (pl_n _ 8) (pls_nn _ 7)) rfl)))))
      case sees18 =>
        intro x en h
        simp at h
      case free18 =>
        intro n hn
        simp at hn
      case hz18 =>
        rw [flat_iN, List.length_map]
        exact Nat.le_trans (flat_len (m := 100) (by rw [List.length_reverse]; omega) hrl) (by decide)
      case run18 =>
        refine cp1_enc ok2 (rowD (hK (hgts xs n))) (rowD (hK (hgts xs n))) (fun r => r.map (tD (hK (hgts xs n)))) _ (fun r => [((⟨⟨[114, 111, 119]⟩⟩ : Str), some (.imm (rowD (hK (hgts xs n)) r))), ((⟨⟨[116, 104, 105, 110, 103]⟩⟩ : Str), none)]) (fun a => by walk_at "m_upd") rfl (fun a => by walk_at "m_le") (fun _ => rfl) _ (fun r hr => ⟨by walk_at "m_nm", rfl, ?_⟩)
        exact cp2_enc ok2 (tD (hK (hgts xs n))) (fun _ => true) iN (fun t => [((⟨⟨[114, 111, 119]⟩⟩ : Str), some (.imm (rowD (hK (hgts xs n)) r))), ((⟨⟨[116, 104, 105, 110, 103]⟩⟩ : Str), some (.imm (tD (hK (hgts xs n)) t)))]) (fun a => by walk_at "m_upd") rfl (fun a => by walk_at "m_le") _ (fun t ht => ⟨ts_nil, fun _ => ev_sub (by walk_at "m_nm") ev_int rfl (by omega) (by simp) (by walk_at "m_ns")⟩)
end
end Mine
end
section
namespace Mine
open PySem PySem.W PySem.Calls PyProof.Rows PySem.Spec
section
open PySem.W.X
theorem ints_reps {C : Addr} {h : Heap} {X : Addr → Prop} : ∀ {vs : List Value} {ns : List Int}, IntsAre vs ns → Reps C h X vs (ns.map D.int)
  | _, _, .nil => .nil
  | _, _, .cons _ _ r => .cons (.int _ _) (ints_reps r)
theorem ns_hide {h : Heap} {l : List Addr} {a : Addr} {m : Str → Option Value} (n : h.Ns a m) (ha : a ∉ l) : (hideAll h l).Ns a m :=
  let ⟨o, es, ep, e, r⟩ := n; ⟨o, es, ep, hideAll_get _ e ha, r⟩
theorem allIn_keeps {h h' : Heap} (k : ∀ b o, h.get? b = some o → h'.get? b = some o) : ∀ {K : Frag}, AllIn h K → AllIn h' K
  | [], _ => trivial
  | _ :: _, A => ⟨k _ _ A.1, allIn_keeps k A.2⟩
theorem kz_run {w : World} {s : Shared} {mg mb : Str → Option Value} (A : AllIn s.heap (hz.heap_138 w.params)) (hg : s.heap.Ns mainGlobals mg) (hb : s.heap.Ns builtinsNs mb) (hbb : ∀ x : Str, x ≠ "__name__" → mb x = bootBuiltins x) (nl : s.heap.NoLimit)
    {xs : List Int} (hxs : xs.length ≤ 63) {a : Addr} {its : List Value} (hL : s.heap.IsList a its.toArray) (hI : IntsAre its xs) {Q E : Value → Shared → Prop} (q : ∀ h' tk, OldK s.heap h' → Q (.bool true) { s with heap := h', toks := tk }) :
    wpAny (model Challenge.rw_op0061_01.prog w) callerA (call (.ref 107) [.ref a]) Q E s := by
  have AF : AI s.heap (hz.heap_138 w.params) := ⟨A⟩
  have A2 : AI s.heap (K2 w.params) := ⟨by rw [K2_eq]; exact allIn_filter A⟩
  have t104 : s.heap.TableAt 106 104 #[] := table_at (vs := flds (hz.zo_137 w.params)) (AF.get (o := hz.zo_137 w.params) (by kernel_rfl!)) (by kernel_rfl!) (by kernel_rfl!) (AF.get (o := hz.zo_135 w.params) (by kernel_rfl!)) (by kernel_rfl!)
  refine law_ok (H0 := s.heap) A2 ⟨fun b ob e => ?_, ⟨mg, mb, ns_hide hg (by decide), ns_hide hb (by decide), hbb⟩, ?_⟩ t104.2 hxs rfl ⟨rfl, by decide, by decide⟩ rfl (.cons (.list hL (fun z => z) (ints_reps hI)) .nil) fun h' tk lk => q h' tk ?_
  · have z := lookup_filter (g := fun a => a != 43 && a != 104) e
    have z1 := Bool.and_eq_true_iff.mp z.1
    refine hideAll_get _ (AF.get z.2) fun m => ?_
    simp only [List.mem_cons, List.not_mem_nil, or_false] at m
    rcases m with rfl | rfl
    · exact absurd z1.1 (by decide)
    · exact absurd z1.2 (by decide)
  · obtain ⟨mc, h1, h2⟩ := nl
    exact ⟨mc, ns_hide h1 (by decide), h2⟩
  · obtain ⟨k, ⟨cc, ps, more, t43, e43⟩, more4, e104⟩ := lk
    refine ⟨fun b o e => ?_, fun b o e => ?_⟩
    · by_cases h1 : b = 43
      · subst h1
        have e0 : o = { cls := .none, data := .fields ps } := Option.some.inj (e.symm.trans t43.2)
        subst e0
        exact .inr (.inl ⟨t43.isCodeTable, rfl, ps, more, rfl, e43⟩)
      · by_cases h2 : b = 104
        · subst h2
          have e0 : o = { cls := .none, data := .fields #[] } := Option.some.inj (e.symm.trans t104.2)
          subst e0
          exact .inr (.inl ⟨t104.isCodeTable, rfl, #[], more4, rfl, by rw [e104]; simp [tabObj]⟩)
        · exact .inl (k b o h1 h2 e)
    · by_cases h1 : b = 43
      · exact ⟨_, h1 ▸ e43⟩
      · by_cases h2 : b = 104
        · exact ⟨_, h2 ▸ e104⟩
        · exact ⟨o, k b o h1 h2 e⟩
end
end Mine
end
section
namespace Mine
open PySem PySem.W PySem.W.X PyProof.Rows
theorem hd_ok : Challenge.rw_op0061_01.wellSaid = true := by decide +kernel
noncomputable abbrev hdKeys : List Addr := [0, 2, 3, 4, 33, 34, 40, 41, 43, 47, 48, 49, 50, 56, 57, 63, 64, 70, 71, 77, 78, 84, 85, 91, 92, 96, 97, 101, 102, 104, 106, 107]
noncomputable abbrev hdLoose : List Str := [Str.ofString "_initial_missing", Str.ofString "reduce"]
theorem hd_left : LeftO Challenge.rw_op0061_01.row.toRowW.prog viewP hdLoose (fun s => xlAt viewP [] s && recOk (RowW.records Challenge.rw_op0061_01.row.toRowW) s) (obsZ hdKeys) (valZ hz.heap_138 108 333) 1382 := by
  intro w
  kernel_rfl!
end Mine
end
section
open PySem PySem.W PyProof.Rows
set_option maxRecDepth 100000 in
set_option maxHeartbeats 8000000 in
theorem PySem.Challenge.cw_op0061_01_holds : PySem.Challenge.rw_op0061_01.Holds := by
  refine holds_law Mine.hd_ok fun said => ?_
  w_on
  refine holds_openX (q := Mine.viewP) (loose := Mine.hdLoose) (Xt := fun s => xlAt Mine.viewP [] s && recOk (RowW.records PySem.Challenge.rw_op0061_01.row.toRowW) s) (XP := XL Mine.viewP []) (Yf := X.obsZ Mine.hdKeys) (Ya := X.valZ Mine.hz.heap_138 108 333) (N := 1382) Mine.hd_left (fun s e => xl_of s (Bool.and_eq_true_iff.mp e).1) XL.keeps (by rfl) (by rfl) (by rfl) (fun s e => recFacts_of (Bool.and_eq_true_iff.mp e).2) rfl (by first | assumption | decide +kernel) (by decide +kernel) ⟨rfl, rfl, rfl, rfl, rfl, by decide +kernel⟩ ?hw ?hc
  case hw => w_witness2
  k_fill
  intro w s₀ s₁ mg mb G y fa o pm cd doc dV kV ho hd hcd hD hmg hg args vals as L hpre hlay hrd hwl hlo
  have ZF := PySem.W.X.z_facts (K := Mine.hz.heap_138) (fun _ => rfl) y
  refine Ground.open G ?_
  intro T B D TE TW
  clear hD
  wrow_args hpre hlay hrd hwl hlo
  have AF := Mine.allIn_keeps (L.keeps) ZF.1
  have KX : (Mine.hz.heap_138 w.params).In s₁.heap := fun b ob e => Mine.AI.get ⟨AF⟩ e
  have e1 : some (Value.ref fa) = some (.ref 107) := hmg.symm.trans (mg_of KX T.g rfl)
  obtain rfl : fa = 107 := Value.ref.inj (Option.some.inj e1)
  rename IntsAre _ _ => hI
  rename s₁.heap.IsList _ _ => hL
  refine Mine.kz_run AF T.g T.b T.builtins T.nolimit (by omega) hL hI fun h' tk hk => ?_
  refine ⟨.inl ⟨_, _, [], rfl, fun _ => rfl, ReadsW.bool true, ?_, fun _ => ⟨List.nodup_nil, fun _ hm => (nomatch hm)⟩⟩, hk, rfl, by rw [hg]; exact AllBare.empty⟩
  first | rfl | wrow_post
end
