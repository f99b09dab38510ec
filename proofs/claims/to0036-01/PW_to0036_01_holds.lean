import PyProof.Rows.All
import Wide.All
import OpenK.AllK
import Wide.FinOn
import PySem.Challenge.RW_to0036_01
set_option Elab.async false
set_option linter.all false
section
set_option maxRecDepth 100000
set_option maxHeartbeats 0
namespace Mine
noncomputable section
set_option linter.unusedVariables false
open PySem PySem.W PySem.Calls PyProof.Rows
abbrev pw : Program := PySem.Challenge.pw_to0036_01
/-- the i-th statement of the top -/
def stm (i : Nat) : Stmt := (pw.main.body[i]?).getD (.Pass ⟨0, 0, 0, 0⟩)
def ent (P : Params) (x : Str) (k v : Value) : DictEntry := ⟨PyData.keyHash P x, k, v⟩
def fnData (st : Stmt) (pm cdv : Value) : FuncData := match st with
  | .FunctionDef n ps b _ _ _ sc _ _ _ => fnOf n n ps b sc .none .none .none pm none cdv .none
  | _ => default
def fnNone (st : Stmt) : FuncData := match st with
  | .FunctionDef n ps b _ _ _ sc _ _ _ => { name := n, qualname := n, params := ps, body := .stmts b, scope := sc, globals := 0, closure := [], defaults := .none, kwdefaults := .none }
  | _ => default
def lif : Life := {}
def dr : Drawn := {}
def env : Env := { scope := pw.main.scope, locals := mainNs, globals := mainNs, cells := [], code := .ref 13, frame := some 14 }
def cd : Code := .body (behindTheImports pw) env
def fr : List Frame := [topFrame ⟨0, 0, 0, 0⟩]
def o11_a (P : Params) : Obj := ⟨(.type "tuple"), none, (.seq (List.toArray []) 0), List.toArray []⟩
def o12_a (P : Params) : Obj := ⟨.none, none, (.fields (List.toArray [])), List.toArray []⟩
def o13_a (P : Params) : Obj := ⟨(.type "code"), none, (.fields (List.toArray [(.str (Str.ofString "<module>") 182), (.str (Str.ofString "<module>") 183), (.str (Str.ofString "/claim/cut.py") 184), (.int 1 0), (.int 0 0), (.int 0 0), (.int 0 0), (.int 0 0), (.ref 11), (.bool false), (.int 181 0), (.ref 12), .none, .none, .none, .none, (.int 185 0), (.int 1 0), (.str (Str.ofString "/claim/cut.py") 186)])), List.toArray []⟩
def o14_a (P : Params) : Obj := ⟨(.type "frame"), none, .plain, List.toArray [(some (.ref 13)), (some (.ref 3)), (some (.ref 3)), none, (some (.str (Str.ofString "__main__") 164)), none, (some (.ref 0))]⟩
def Ha (P : Params) : Heap := ⟨List.toArray [PySem.W.boot_o_0 P, PySem.W.boot_o_1 P, PySem.W.boot_o_2 P, PySem.W.boot_o_3 P, PySem.W.boot_o_4 P, PySem.W.boot_o_5 P, PySem.W.boot_o_6 P, PySem.W.boot_o_7 P, PySem.W.boot_o_8 P, PySem.W.boot_o_9 P, PySem.W.boot_o_10 P, o11_a P, o12_a P, o13_a P, o14_a P], lif⟩
def Sa (w : World) (os : OsState) : Shared := ⟨Ha w.params, #[], dr, 187, os⟩
def T0 (P : Params) : BT := (.node (PySem.W.boot_o_0 P) (.node (PySem.W.boot_o_1 P) (.node (PySem.W.boot_o_3 P) (.node (PySem.W.boot_o_7 P) .nil .nil) (.node (o11_a P) .nil .nil)) (.node (PySem.W.boot_o_5 P) (.node (PySem.W.boot_o_9 P) .nil .nil) (.node (o13_a P) .nil .nil))) (.node (PySem.W.boot_o_2 P) (.node (PySem.W.boot_o_4 P) (.node (PySem.W.boot_o_8 P) .nil .nil) (.node (o12_a P) .nil .nil)) (.node (PySem.W.boot_o_6 P) (.node (PySem.W.boot_o_10 P) .nil .nil) (.node (o14_a P) .nil .nil))))
def S0 (w : World) (os : OsState) : SharedT := ⟨T0 w.params, 15, lif, #[], dr, 187, os⟩
def o3_1 (P : Params) : Obj := ⟨(.type "dict"), none, (.dict (List.toArray [ent P (Str.ofString "__name__") (.str (Str.ofString "__name__") 165) (.str (Str.ofString "cpy313.stringprep") 187), ent P (Str.ofString "__doc__") (.str (Str.ofString "__doc__") 166) .none, ent P (Str.ofString "__package__") (.str (Str.ofString "__package__") 167) .none, ent P (Str.ofString "__loader__") (.str (Str.ofString "__loader__") 168) (.builtin "__main__.__loader__#opaque"), ent P (Str.ofString "__spec__") (.str (Str.ofString "__spec__") 169) .none, ent P (Str.ofString "__annotations__") (.str (Str.ofString "__annotations__") 170) (.ref 6), ent P (Str.ofString "__builtins__") (.str (Str.ofString "__builtins__") 171) (.ref 4), ent P (Str.ofString "__file__") (.str (Str.ofString "__file__") 173) (.str (Str.ofString "/claim/cut.py") 172), ent P (Str.ofString "__cached__") (.str (Str.ofString "__cached__") 174) .none]) 9), List.toArray []⟩
def T1 (P : Params) : BT := (.node (PySem.W.boot_o_0 P) (.node (PySem.W.boot_o_1 P) (.node (o3_1 P) (.node (PySem.W.boot_o_7 P) .nil .nil) (.node (o11_a P) .nil .nil)) (.node (PySem.W.boot_o_5 P) (.node (PySem.W.boot_o_9 P) .nil .nil) (.node (o13_a P) .nil .nil))) (.node (PySem.W.boot_o_2 P) (.node (PySem.W.boot_o_4 P) (.node (PySem.W.boot_o_8 P) .nil .nil) (.node (o12_a P) .nil .nil)) (.node (PySem.W.boot_o_6 P) (.node (PySem.W.boot_o_10 P) .nil .nil) (.node (o14_a P) .nil .nil))))
def S1 (w : World) (os : OsState) : SharedT := ⟨T1 w.params, 15, lif, #[], dr, 189, os⟩
def g0 : List Stmt := [stm 0]
theorem p0 (w : World) (os : OsState) : segRunT treeTable pw w 11 (some (.ref 6)) 1 10 (S0 w os) (piecesOf g0 env cd ⟨0, 0, 0, 0⟩ fr) = some (.next, S1 w os, cd, ⟨1, 0, 1, 8⟩) := by
  rw [PySem.W.Fast.te10110043849684766642, PySem.W.Fast.te14364793385576792824]; kernel_rfl
def o3_2 (P : Params) : Obj := ⟨(.type "dict"), none, (.dict (List.toArray [ent P (Str.ofString "__name__") (.str (Str.ofString "__name__") 165) (.str (Str.ofString "cpy313.stringprep") 187), ent P (Str.ofString "__doc__") (.str (Str.ofString "__doc__") 166) .none, ent P (Str.ofString "__package__") (.str (Str.ofString "__package__") 167) .none, ent P (Str.ofString "__loader__") (.str (Str.ofString "__loader__") 168) (.builtin "__main__.__loader__#opaque"), ent P (Str.ofString "__spec__") (.str (Str.ofString "__spec__") 169) .none, ent P (Str.ofString "__annotations__") (.str (Str.ofString "__annotations__") 170) (.ref 6), ent P (Str.ofString "__builtins__") (.str (Str.ofString "__builtins__") 171) (.ref 4), ent P (Str.ofString "__file__") (.str (Str.ofString "__file__") 173) (.str (Str.ofString "/claim/cut.py") 172), ent P (Str.ofString "__cached__") (.str (Str.ofString "__cached__") 174) .none, ent P (Str.ofString "b1_set") (.str (Str.ofString "b1_set") 248) (.ref 22)]) 10), List.toArray []⟩
def o15_2 (P : Params) : Obj := ⟨(.type "list"), none, (.seq (List.toArray [(.int 173 189), (.int 847 190), (.int 6150 191), (.int 6155 192), (.int 6156 193), (.int 6157 194), (.int 8203 195), (.int 8204 196), (.int 8205 197), (.int 8288 198), (.int 65279 199)]) 0), List.toArray []⟩
def o16_2 (P : Params) : Obj := ⟨(.type "range"), none, (.fields (List.toArray [(.int 65024 200), (.int 65040 201), (.int 1 202)])), List.toArray []⟩
def o17_2 (P : Params) : Obj := ⟨(.type "list"), none, (.seq (List.toArray [(.int 65024 205), (.int 65025 206), (.int 65026 207), (.int 65027 208), (.int 65028 209), (.int 65029 210), (.int 65030 211), (.int 65031 212), (.int 65032 213), (.int 65033 214), (.int 65034 215), (.int 65035 216), (.int 65036 217), (.int 65037 218), (.int 65038 219), (.int 65039 220)]) 18), List.toArray []⟩
def o18_2 (P : Params) : Obj := ⟨(.type "range_iterator"), none, (.fields (List.toArray [(.int 65040 0), (.int 0 0), (.int 1 0)])), List.toArray []⟩
def o19_2 (P : Params) : Obj := ⟨(.type "tuple"), none, (.seq (List.toArray []) 0), List.toArray []⟩
def o20_2 (P : Params) : Obj := ⟨(.type "StopIteration"), none, (.fields (List.toArray [(.ref 19), .none, .none, .none, (.bool false), .none])), List.toArray []⟩
def o21_2 (P : Params) : Obj := ⟨(.type "list"), none, (.seq (List.toArray [(.int 173 189), (.int 847 190), (.int 6150 191), (.int 6155 192), (.int 6156 193), (.int 6157 194), (.int 8203 195), (.int 8204 196), (.int 8205 197), (.int 8288 198), (.int 65279 199), (.int 65024 205), (.int 65025 206), (.int 65026 207), (.int 65027 208), (.int 65028 209), (.int 65029 210), (.int 65030 211), (.int 65031 212), (.int 65032 213), (.int 65033 214), (.int 65034 215), (.int 65035 216), (.int 65036 217), (.int 65037 218), (.int 65038 219), (.int 65039 220)]) 0), List.toArray []⟩
def o22_2 (P : Params) : Obj := ⟨(.type "set"), none, (.set (List.toArray [(65024, (.int 65024 205)), (65025, (.int 65025 206)), (65026, (.int 65026 207)), (65027, (.int 65027 208)), (65028, (.int 65028 209)), (65029, (.int 65029 210)), (6150, (.int 6150 191)), (65030, (.int 65030 211)), (65031, (.int 65031 212)), (65032, (.int 65032 213)), (65033, (.int 65033 214)), (6155, (.int 6155 192)), (6156, (.int 6156 193)), (6157, (.int 6157 194)), (8203, (.int 8203 195)), (8204, (.int 8204 196)), (8205, (.int 8205 197)), (65034, (.int 65034 215)), (65035, (.int 65035 216)), (65036, (.int 65036 217)), (65037, (.int 65037 218)), (65038, (.int 65038 219)), (65039, (.int 65039 220)), (173, (.int 173 189)), (847, (.int 847 190)), (8288, (.int 8288 198)), (65279, (.int 65279 199))]) 29 ⟨127, List.toArray [0, 1, 2, 3, 4, 5, 6, 7, 8, 9, 10, 11, 12, 13, 14, 15, 16, 17, 18, 19, 20, 21, 22, 45, 79, 96, 127], List.toArray [], 0, !(P.followText "set-order"), 2, true⟩), List.toArray []⟩
def o23_2 (P : Params) : Obj := ⟨(.type "list_iterator"), none, (.fields (List.toArray [.none, (.int 27 0)])), List.toArray []⟩
def o24_2 (P : Params) : Obj := ⟨(.type "tuple"), none, (.seq (List.toArray []) 0), List.toArray []⟩
def o25_2 (P : Params) : Obj := ⟨(.type "StopIteration"), none, (.fields (List.toArray [(.ref 24), .none, .none, .none, (.bool false), .none])), List.toArray []⟩
def T2 (P : Params) : BT := (.node (PySem.W.boot_o_0 P) (.node (PySem.W.boot_o_1 P) (.node (o3_2 P) (.node (PySem.W.boot_o_7 P) (.node (o15_2 P) .nil .nil) (.node (o23_2 P) .nil .nil)) (.node (o11_a P) (.node (o19_2 P) .nil .nil) .nil)) (.node (PySem.W.boot_o_5 P) (.node (PySem.W.boot_o_9 P) (.node (o17_2 P) .nil .nil) (.node (o25_2 P) .nil .nil)) (.node (o13_a P) (.node (o21_2 P) .nil .nil) .nil))) (.node (PySem.W.boot_o_2 P) (.node (PySem.W.boot_o_4 P) (.node (PySem.W.boot_o_8 P) (.node (o16_2 P) .nil .nil) (.node (o24_2 P) .nil .nil)) (.node (o12_a P) (.node (o20_2 P) .nil .nil) .nil)) (.node (PySem.W.boot_o_6 P) (.node (PySem.W.boot_o_10 P) (.node (o18_2 P) .nil .nil) .nil) (.node (o14_a P) (.node (o22_2 P) .nil .nil) .nil))))
def S2 (w : World) (os : OsState) : SharedT := ⟨T2 w.params, 26, lif, #[], dr, 249, os⟩
def g1 : List Stmt := [stm 1]
def W1 (w : World) (os : OsState) : Prop := segRunT treeTable pw w 11 (some (.ref 6)) 1 999 (S1 w os) (piecesOf g1 env cd ⟨1, 0, 1, 8⟩ fr) = some (.next, S2 w os, cd, ⟨2, 0, 2, 6⟩)
theorem p1 (w : World) (os : OsState) : W1 w os := byRow2 "set-order" (P := fun w => W1 w os) (fun w => byRow2 "special-get-raises" (P := fun w => W1 (w.withFollow "set-order" false) os) (fun w => by show segRunT treeTable pw ((w.withFollow "special-get-raises" false).withFollow "set-order" false) 11 (some (.ref 6)) 1 999 (S1 ((w.withFollow "special-get-raises" false).withFollow "set-order" false) os) (piecesOf g1 env cd ⟨1, 0, 1, 8⟩ fr) = some (.next, S2 ((w.withFollow "special-get-raises" false).withFollow "set-order" false) os, cd, ⟨2, 0, 2, 6⟩); rw [PySem.W.Fast.te10110043849684766642, PySem.W.Fast.te14364793385576792824]; kernel_rfl) (fun w => by show segRunT treeTable pw ((w.withFollow "special-get-raises" true).withFollow "set-order" false) 11 (some (.ref 6)) 1 999 (S1 ((w.withFollow "special-get-raises" true).withFollow "set-order" false) os) (piecesOf g1 env cd ⟨1, 0, 1, 8⟩ fr) = some (.next, S2 ((w.withFollow "special-get-raises" true).withFollow "set-order" false) os, cd, ⟨2, 0, 2, 6⟩); rw [PySem.W.Fast.te10110043849684766642, PySem.W.Fast.te14364793385576792824]; kernel_rfl) w) (fun w => byRow2 "special-get-raises" (P := fun w => W1 (w.withFollow "set-order" true) os) (fun w => by show segRunT treeTable pw ((w.withFollow "special-get-raises" false).withFollow "set-order" true) 11 (some (.ref 6)) 1 999 (S1 ((w.withFollow "special-get-raises" false).withFollow "set-order" true) os) (piecesOf g1 env cd ⟨1, 0, 1, 8⟩ fr) = some (.next, S2 ((w.withFollow "special-get-raises" false).withFollow "set-order" true) os, cd, ⟨2, 0, 2, 6⟩); rw [PySem.W.Fast.te10110043849684766642, PySem.W.Fast.te14364793385576792824]; kernel_rfl) (fun w => by show segRunT treeTable pw ((w.withFollow "special-get-raises" true).withFollow "set-order" true) 11 (some (.ref 6)) 1 999 (S1 ((w.withFollow "special-get-raises" true).withFollow "set-order" true) os) (piecesOf g1 env cd ⟨1, 0, 1, 8⟩ fr) = some (.next, S2 ((w.withFollow "special-get-raises" true).withFollow "set-order" true) os, cd, ⟨2, 0, 2, 6⟩); rw [PySem.W.Fast.te10110043849684766642, PySem.W.Fast.te14364793385576792824]; kernel_rfl) w) w
def o3_3 (P : Params) : Obj := ⟨(.type "dict"), none, (.dict (List.toArray [ent P (Str.ofString "__name__") (.str (Str.ofString "__name__") 165) (.str (Str.ofString "cpy313._pylong") 263), ent P (Str.ofString "__doc__") (.str (Str.ofString "__doc__") 166) .none, ent P (Str.ofString "__package__") (.str (Str.ofString "__package__") 167) .none, ent P (Str.ofString "__loader__") (.str (Str.ofString "__loader__") 168) (.builtin "__main__.__loader__#opaque"), ent P (Str.ofString "__spec__") (.str (Str.ofString "__spec__") 169) .none, ent P (Str.ofString "__annotations__") (.str (Str.ofString "__annotations__") 170) (.ref 6), ent P (Str.ofString "__builtins__") (.str (Str.ofString "__builtins__") 171) (.ref 4), ent P (Str.ofString "__file__") (.str (Str.ofString "__file__") 173) (.str (Str.ofString "/claim/cut.py") 172), ent P (Str.ofString "__cached__") (.str (Str.ofString "__cached__") 174) .none, ent P (Str.ofString "b1_set") (.str (Str.ofString "b1_set") 248) (.ref 22), ent P (Str.ofString "in_table_b1") (.str (Str.ofString "in_table_b1") 255) (.ref 32), ent P (Str.ofString "in_table_c11") (.str (Str.ofString "in_table_c11") 262) (.ref 39), ent P (Str.ofString "_DIV_LIMIT") (.str (Str.ofString "_DIV_LIMIT") 266) (.int 4000 265), ent P (Str.ofString "_div2n1n") (.str (Str.ofString "_div2n1n") 283) (.ref 46), ent P (Str.ofString "_div3n2n") (.str (Str.ofString "_div3n2n") 297) (.ref 53), ent P (Str.ofString "_int2digits") (.str (Str.ofString "_int2digits") 308) (.ref 60), ent P (Str.ofString "_digits2int") (.str (Str.ofString "_digits2int") 319) (.ref 67), ent P (Str.ofString "_divmod_pos") (.str (Str.ofString "_divmod_pos") 334) (.ref 74), ent P (Str.ofString "int_divmod") (.str (Str.ofString "int_divmod") 344) (.ref 81)]) 19), List.toArray []⟩
def o12_3 (P : Params) : Obj := ⟨.none, none, (.fields (List.toArray [(.int 3 0), (.int 0 0), (.ref 31), (.int 5 0), (.int 0 0), (.ref 38), (.int 9 0), (.int 0 0), (.ref 45), (.int 25 0), (.int 0 0), (.ref 52), (.int 35 0), (.int 0 0), (.ref 59), (.int 51 0), (.int 0 0), (.ref 66), (.int 60 0), (.int 0 0), (.ref 73), (.int 71 0), (.int 0 0), (.ref 80)])), List.toArray []⟩
def o26_3 (P : Params) : Obj := ⟨(.type "tuple"), none, (.seq (List.toArray []) 0), List.toArray []⟩
def o27_3 (P : Params) : Obj := ⟨.none, none, (.fields (List.toArray [])), List.toArray []⟩
def o28_3 (P : Params) : Obj := ⟨(.type "tuple"), none, (.seq (List.toArray [(.str (Str.ofString "code") 252)]) 0), List.toArray []⟩
def o29_3 (P : Params) : Obj := ⟨(.type "tuple"), none, (.seq (List.toArray []) 0), List.toArray []⟩
def o30_3 (P : Params) : Obj := ⟨.none, none, (.func (fnNone (stm 2))), List.toArray []⟩
def o31_3 (P : Params) : Obj := ⟨(.type "code"), none, (.fields (List.toArray [(.str (Str.ofString "in_table_b1") 249), (.str (Str.ofString "in_table_b1") 250), (.str (Str.ofString "/claim/cut.py") 251), (.int 3 0), (.int 1 0), (.int 0 0), (.int 0 0), (.int 3 0), (.ref 26), (.bool true), (.int 181 0), (.ref 27), .none, (.ref 28), (.ref 29), (.ref 30), (.int 253 0), (.int 3 0), (.str (Str.ofString "/claim/cut.py") 254)])), List.toArray []⟩
def o32_3 (P : Params) : Obj := ⟨(.type "function"), none, (.func (fnData (stm 2) (.str (Str.ofString "cpy313.stringprep") 187) (.ref 31))), List.toArray []⟩
def o33_3 (P : Params) : Obj := ⟨(.type "tuple"), none, (.seq (List.toArray []) 0), List.toArray []⟩
def o34_3 (P : Params) : Obj := ⟨.none, none, (.fields (List.toArray [])), List.toArray []⟩
def o35_3 (P : Params) : Obj := ⟨(.type "tuple"), none, (.seq (List.toArray [(.str (Str.ofString "code") 259)]) 0), List.toArray []⟩
def o36_3 (P : Params) : Obj := ⟨(.type "tuple"), none, (.seq (List.toArray []) 0), List.toArray []⟩
def o37_3 (P : Params) : Obj := ⟨.none, none, (.func (fnNone (stm 3))), List.toArray []⟩
def o38_3 (P : Params) : Obj := ⟨(.type "code"), none, (.fields (List.toArray [(.str (Str.ofString "in_table_c11") 256), (.str (Str.ofString "in_table_c11") 257), (.str (Str.ofString "/claim/cut.py") 258), (.int 5 0), (.int 1 0), (.int 0 0), (.int 0 0), (.int 3 0), (.ref 33), (.bool true), (.int 181 0), (.ref 34), .none, (.ref 35), (.ref 36), (.ref 37), (.int 260 0), (.int 5 0), (.str (Str.ofString "/claim/cut.py") 261)])), List.toArray []⟩
def o39_3 (P : Params) : Obj := ⟨(.type "function"), none, (.func (fnData (stm 3) (.str (Str.ofString "cpy313.stringprep") 187) (.ref 38))), List.toArray []⟩
def o40_3 (P : Params) : Obj := ⟨(.type "tuple"), none, (.seq (List.toArray []) 0), List.toArray []⟩
def o41_3 (P : Params) : Obj := ⟨.none, none, (.fields (List.toArray [])), List.toArray []⟩
def o42_3 (P : Params) : Obj := ⟨(.type "tuple"), none, (.seq (List.toArray [(.str (Str.ofString "a") 270), (.str (Str.ofString "b") 271), (.str (Str.ofString "n") 272), (.str (Str.ofString "pad") 273), (.str (Str.ofString "half_n") 274), (.str (Str.ofString "mask") 275), (.str (Str.ofString "b1") 276), (.str (Str.ofString "b2") 277), (.str (Str.ofString "q1") 278), (.str (Str.ofString "r") 279), (.str (Str.ofString "q2") 280)]) 0), List.toArray []⟩
def o43_3 (P : Params) : Obj := ⟨(.type "tuple"), none, (.seq (List.toArray []) 0), List.toArray []⟩
def o44_3 (P : Params) : Obj := ⟨.none, none, (.func (fnNone (stm 6))), List.toArray []⟩
def o45_3 (P : Params) : Obj := ⟨(.type "code"), none, (.fields (List.toArray [(.str (Str.ofString "_div2n1n") 267), (.str (Str.ofString "_div2n1n") 268), (.str (Str.ofString "/claim/cut.py") 269), (.int 9 0), (.int 3 0), (.int 0 0), (.int 0 0), (.int 3 0), (.ref 40), (.bool true), (.int 181 0), (.ref 41), .none, (.ref 42), (.ref 43), (.ref 44), (.int 281 0), (.int 9 0), (.str (Str.ofString "/claim/cut.py") 282)])), List.toArray []⟩
def o46_3 (P : Params) : Obj := ⟨(.type "function"), none, (.func (fnData (stm 6) (.str (Str.ofString "cpy313._pylong") 263) (.ref 45))), List.toArray []⟩
def o47_3 (P : Params) : Obj := ⟨(.type "tuple"), none, (.seq (List.toArray []) 0), List.toArray []⟩
def o48_3 (P : Params) : Obj := ⟨.none, none, (.fields (List.toArray [])), List.toArray []⟩
def o49_3 (P : Params) : Obj := ⟨(.type "tuple"), none, (.seq (List.toArray [(.str (Str.ofString "a12") 287), (.str (Str.ofString "a3") 288), (.str (Str.ofString "b") 289), (.str (Str.ofString "b1") 290), (.str (Str.ofString "b2") 291), (.str (Str.ofString "n") 292), (.str (Str.ofString "q") 293), (.str (Str.ofString "r") 294)]) 0), List.toArray []⟩
def o50_3 (P : Params) : Obj := ⟨(.type "tuple"), none, (.seq (List.toArray []) 0), List.toArray []⟩
def o51_3 (P : Params) : Obj := ⟨.none, none, (.func (fnNone (stm 7))), List.toArray []⟩
def o52_3 (P : Params) : Obj := ⟨(.type "code"), none, (.fields (List.toArray [(.str (Str.ofString "_div3n2n") 284), (.str (Str.ofString "_div3n2n") 285), (.str (Str.ofString "/claim/cut.py") 286), (.int 25 0), (.int 6 0), (.int 0 0), (.int 0 0), (.int 3 0), (.ref 47), (.bool true), (.int 181 0), (.ref 48), .none, (.ref 49), (.ref 50), (.ref 51), (.int 295 0), (.int 25 0), (.str (Str.ofString "/claim/cut.py") 296)])), List.toArray []⟩
def o53_3 (P : Params) : Obj := ⟨(.type "function"), none, (.func (fnData (stm 7) (.str (Str.ofString "cpy313._pylong") 263) (.ref 52))), List.toArray []⟩
def o54_3 (P : Params) : Obj := ⟨(.type "tuple"), none, (.seq (List.toArray []) 0), List.toArray []⟩
def o55_3 (P : Params) : Obj := ⟨.none, none, (.fields (List.toArray [])), List.toArray []⟩
def o56_3 (P : Params) : Obj := ⟨(.type "tuple"), none, (.seq (List.toArray [(.str (Str.ofString "a") 301), (.str (Str.ofString "n") 302)]) 0), List.toArray []⟩
def o57_3 (P : Params) : Obj := ⟨(.type "tuple"), none, (.seq (List.toArray [(.str (Str.ofString "n") 303), (.str (Str.ofString "a_digits") 304), (.str (Str.ofString "inner") 305)]) 0), List.toArray []⟩
def o58_3 (P : Params) : Obj := ⟨.none, none, (.func (fnNone (stm 8))), List.toArray []⟩
def o59_3 (P : Params) : Obj := ⟨(.type "code"), none, (.fields (List.toArray [(.str (Str.ofString "_int2digits") 298), (.str (Str.ofString "_int2digits") 299), (.str (Str.ofString "/claim/cut.py") 300), (.int 35 0), (.int 2 0), (.int 0 0), (.int 0 0), (.int 3 0), (.ref 54), (.bool true), (.int 181 0), (.ref 55), .none, (.ref 56), (.ref 57), (.ref 58), (.int 306 0), (.int 35 0), (.str (Str.ofString "/claim/cut.py") 307)])), List.toArray []⟩
def o60_3 (P : Params) : Obj := ⟨(.type "function"), none, (.func (fnData (stm 8) (.str (Str.ofString "cpy313._pylong") 263) (.ref 59))), List.toArray []⟩
def o61_3 (P : Params) : Obj := ⟨(.type "tuple"), none, (.seq (List.toArray []) 0), List.toArray []⟩
def o62_3 (P : Params) : Obj := ⟨.none, none, (.fields (List.toArray [])), List.toArray []⟩
def o63_3 (P : Params) : Obj := ⟨(.type "tuple"), none, (.seq (List.toArray [(.str (Str.ofString "digits") 312), (.str (Str.ofString "n") 313)]) 0), List.toArray []⟩
def o64_3 (P : Params) : Obj := ⟨(.type "tuple"), none, (.seq (List.toArray [(.str (Str.ofString "digits") 314), (.str (Str.ofString "n") 315), (.str (Str.ofString "inner") 316)]) 0), List.toArray []⟩
def o65_3 (P : Params) : Obj := ⟨.none, none, (.func (fnNone (stm 9))), List.toArray []⟩
def o66_3 (P : Params) : Obj := ⟨(.type "code"), none, (.fields (List.toArray [(.str (Str.ofString "_digits2int") 309), (.str (Str.ofString "_digits2int") 310), (.str (Str.ofString "/claim/cut.py") 311), (.int 51 0), (.int 2 0), (.int 0 0), (.int 0 0), (.int 3 0), (.ref 61), (.bool true), (.int 181 0), (.ref 62), .none, (.ref 63), (.ref 64), (.ref 65), (.int 317 0), (.int 51 0), (.str (Str.ofString "/claim/cut.py") 318)])), List.toArray []⟩
def o67_3 (P : Params) : Obj := ⟨(.type "function"), none, (.func (fnData (stm 9) (.str (Str.ofString "cpy313._pylong") 263) (.ref 66))), List.toArray []⟩
def o68_3 (P : Params) : Obj := ⟨(.type "tuple"), none, (.seq (List.toArray []) 0), List.toArray []⟩
def o69_3 (P : Params) : Obj := ⟨.none, none, (.fields (List.toArray [])), List.toArray []⟩
def o70_3 (P : Params) : Obj := ⟨(.type "tuple"), none, (.seq (List.toArray [(.str (Str.ofString "a") 323), (.str (Str.ofString "b") 324), (.str (Str.ofString "n") 325), (.str (Str.ofString "a_digits") 326), (.str (Str.ofString "r") 327), (.str (Str.ofString "q_digits") 328), (.str (Str.ofString "a_digit") 329), (.str (Str.ofString "q_digit") 330), (.str (Str.ofString "q") 331)]) 0), List.toArray []⟩
def o71_3 (P : Params) : Obj := ⟨(.type "tuple"), none, (.seq (List.toArray []) 0), List.toArray []⟩
def o72_3 (P : Params) : Obj := ⟨.none, none, (.func (fnNone (stm 10))), List.toArray []⟩
def o73_3 (P : Params) : Obj := ⟨(.type "code"), none, (.fields (List.toArray [(.str (Str.ofString "_divmod_pos") 320), (.str (Str.ofString "_divmod_pos") 321), (.str (Str.ofString "/claim/cut.py") 322), (.int 60 0), (.int 2 0), (.int 0 0), (.int 0 0), (.int 3 0), (.ref 68), (.bool true), (.int 181 0), (.ref 69), .none, (.ref 70), (.ref 71), (.ref 72), (.int 332 0), (.int 60 0), (.str (Str.ofString "/claim/cut.py") 333)])), List.toArray []⟩
def o74_3 (P : Params) : Obj := ⟨(.type "function"), none, (.func (fnData (stm 10) (.str (Str.ofString "cpy313._pylong") 263) (.ref 73))), List.toArray []⟩
def o75_3 (P : Params) : Obj := ⟨(.type "tuple"), none, (.seq (List.toArray []) 0), List.toArray []⟩
def o76_3 (P : Params) : Obj := ⟨.none, none, (.fields (List.toArray [])), List.toArray []⟩
def o77_3 (P : Params) : Obj := ⟨(.type "tuple"), none, (.seq (List.toArray [(.str (Str.ofString "a") 338), (.str (Str.ofString "b") 339), (.str (Str.ofString "q") 340), (.str (Str.ofString "r") 341)]) 0), List.toArray []⟩
def o78_3 (P : Params) : Obj := ⟨(.type "tuple"), none, (.seq (List.toArray []) 0), List.toArray []⟩
def o79_3 (P : Params) : Obj := ⟨.none, none, (.func (fnNone (stm 11))), List.toArray []⟩
def o80_3 (P : Params) : Obj := ⟨(.type "code"), none, (.fields (List.toArray [(.str (Str.ofString "int_divmod") 335), (.str (Str.ofString "int_divmod") 336), (.str (Str.ofString "/claim/cut.py") 337), (.int 71 0), (.int 2 0), (.int 0 0), (.int 0 0), (.int 3 0), (.ref 75), (.bool true), (.int 181 0), (.ref 76), .none, (.ref 77), (.ref 78), (.ref 79), (.int 342 0), (.int 71 0), (.str (Str.ofString "/claim/cut.py") 343)])), List.toArray []⟩
def o81_3 (P : Params) : Obj := ⟨(.type "function"), none, (.func (fnData (stm 11) (.str (Str.ofString "cpy313._pylong") 263) (.ref 80))), List.toArray []⟩
def T3 (P : Params) : BT := (.node (PySem.W.boot_o_0 P) (.node (PySem.W.boot_o_1 P) (.node (o3_3 P) (.node (PySem.W.boot_o_7 P) (.node (o15_2 P) (.node (o31_3 P) (.node (o63_3 P) .nil .nil) .nil) (.node (o47_3 P) (.node (o79_3 P) .nil .nil) .nil)) (.node (o23_2 P) (.node (o39_3 P) (.node (o71_3 P) .nil .nil) .nil) (.node (o55_3 P) .nil .nil))) (.node (o11_a P) (.node (o19_2 P) (.node (o35_3 P) (.node (o67_3 P) .nil .nil) .nil) (.node (o51_3 P) .nil .nil)) (.node (o27_3 P) (.node (o43_3 P) (.node (o75_3 P) .nil .nil) .nil) (.node (o59_3 P) .nil .nil)))) (.node (PySem.W.boot_o_5 P) (.node (PySem.W.boot_o_9 P) (.node (o17_2 P) (.node (o33_3 P) (.node (o65_3 P) .nil .nil) .nil) (.node (o49_3 P) (.node (o81_3 P) .nil .nil) .nil)) (.node (o25_2 P) (.node (o41_3 P) (.node (o73_3 P) .nil .nil) .nil) (.node (o57_3 P) .nil .nil))) (.node (o13_a P) (.node (o21_2 P) (.node (o37_3 P) (.node (o69_3 P) .nil .nil) .nil) (.node (o53_3 P) .nil .nil)) (.node (o29_3 P) (.node (o45_3 P) (.node (o77_3 P) .nil .nil) .nil) (.node (o61_3 P) .nil .nil))))) (.node (PySem.W.boot_o_2 P) (.node (PySem.W.boot_o_4 P) (.node (PySem.W.boot_o_8 P) (.node (o16_2 P) (.node (o32_3 P) (.node (o64_3 P) .nil .nil) .nil) (.node (o48_3 P) (.node (o80_3 P) .nil .nil) .nil)) (.node (o24_2 P) (.node (o40_3 P) (.node (o72_3 P) .nil .nil) .nil) (.node (o56_3 P) .nil .nil))) (.node (o12_3 P) (.node (o20_2 P) (.node (o36_3 P) (.node (o68_3 P) .nil .nil) .nil) (.node (o52_3 P) .nil .nil)) (.node (o28_3 P) (.node (o44_3 P) (.node (o76_3 P) .nil .nil) .nil) (.node (o60_3 P) .nil .nil)))) (.node (PySem.W.boot_o_6 P) (.node (PySem.W.boot_o_10 P) (.node (o18_2 P) (.node (o34_3 P) (.node (o66_3 P) .nil .nil) .nil) (.node (o50_3 P) .nil .nil)) (.node (o26_3 P) (.node (o42_3 P) (.node (o74_3 P) .nil .nil) .nil) (.node (o58_3 P) .nil .nil))) (.node (o14_a P) (.node (o22_2 P) (.node (o38_3 P) (.node (o70_3 P) .nil .nil) .nil) (.node (o54_3 P) .nil .nil)) (.node (o30_3 P) (.node (o46_3 P) (.node (o78_3 P) .nil .nil) .nil) (.node (o62_3 P) .nil .nil))))))
def S3 (w : World) (os : OsState) : SharedT := ⟨T3 w.params, 82, lif, #[], dr, 345, os⟩
def g2 : List Stmt := [stm 2, stm 3, stm 4, stm 5, stm 6, stm 7, stm 8, stm 9, stm 10, stm 11]
theorem p2 (w : World) (os : OsState) : segRunT treeTable pw w 11 (some (.ref 6)) 1 287 (S2 w os) (piecesOf g2 env cd ⟨2, 0, 2, 6⟩ fr) = some (.next, S3 w os, cd, ⟨71, 0, 81, 32⟩) := by
  rw [PySem.W.Fast.te10110043849684766642, PySem.W.Fast.te14364793385576792824]; kernel_rfl
def o3_4 (P : Params) : Obj := ⟨(.type "dict"), none, (.dict (List.toArray (ent P (Str.ofString "__name__") (.str (Str.ofString "__name__") 165) (.str (Str.ofString "cpy313.token") 345) :: ent P (Str.ofString "__doc__") (.str (Str.ofString "__doc__") 166) .none :: ent P (Str.ofString "__package__") (.str (Str.ofString "__package__") 167) .none :: ent P (Str.ofString "__loader__") (.str (Str.ofString "__loader__") 168) (.builtin "__main__.__loader__#opaque") :: ent P (Str.ofString "__spec__") (.str (Str.ofString "__spec__") 169) .none :: ent P (Str.ofString "__annotations__") (.str (Str.ofString "__annotations__") 170) (.ref 6) :: ent P (Str.ofString "__builtins__") (.str (Str.ofString "__builtins__") 171) (.ref 4) :: ent P (Str.ofString "__file__") (.str (Str.ofString "__file__") 173) (.str (Str.ofString "/claim/cut.py") 172) :: ent P (Str.ofString "__cached__") (.str (Str.ofString "__cached__") 174) .none :: ent P (Str.ofString "b1_set") (.str (Str.ofString "b1_set") 248) (.ref 22) :: ent P (Str.ofString "in_table_b1") (.str (Str.ofString "in_table_b1") 255) (.ref 32) :: ent P (Str.ofString "in_table_c11") (.str (Str.ofString "in_table_c11") 262) (.ref 39) :: ent P (Str.ofString "_DIV_LIMIT") (.str (Str.ofString "_DIV_LIMIT") 266) (.int 4000 265) :: ent P (Str.ofString "_div2n1n") (.str (Str.ofString "_div2n1n") 283) (.ref 46) :: ent P (Str.ofString "_div3n2n") (.str (Str.ofString "_div3n2n") 297) (.ref 53) :: ent P (Str.ofString "_int2digits") (.str (Str.ofString "_int2digits") 308) (.ref 60) :: ent P (Str.ofString "_digits2int") (.str (Str.ofString "_digits2int") 319) (.ref 67) :: ent P (Str.ofString "_divmod_pos") (.str (Str.ofString "_divmod_pos") 334) (.ref 74) :: ent P (Str.ofString "int_divmod") (.str (Str.ofString "int_divmod") 344) (.ref 81) :: ent P (Str.ofString "ENDMARKER") (.str (Str.ofString "ENDMARKER") 348) (.int 0 347) :: ent P (Str.ofString "LPAR") (.str (Str.ofString "LPAR") 350) (.int 7 349) :: ent P (Str.ofString "RPAR") (.str (Str.ofString "RPAR") 352) (.int 8 351) :: ent P (Str.ofString "LSQB") (.str (Str.ofString "LSQB") 354) (.int 9 353) :: ent P (Str.ofString "RSQB") (.str (Str.ofString "RSQB") 356) (.int 10 355) :: ent P (Str.ofString "COLON") (.str (Str.ofString "COLON") 358) (.int 11 357) :: ent P (Str.ofString "COMMA") (.str (Str.ofString "COMMA") 360) (.int 12 359) :: ent P (Str.ofString "SEMI") (.str (Str.ofString "SEMI") 362) (.int 13 361) :: ent P (Str.ofString "PLUS") (.str (Str.ofString "PLUS") 364) (.int 14 363) :: ent P (Str.ofString "MINUS") (.str (Str.ofString "MINUS") 366) (.int 15 365) :: ent P (Str.ofString "STAR") (.str (Str.ofString "STAR") 368) (.int 16 367) :: ent P (Str.ofString "SLASH") (.str (Str.ofString "SLASH") 370) (.int 17 369) :: ent P (Str.ofString "VBAR") (.str (Str.ofString "VBAR") 372) (.int 18 371) :: ent P (Str.ofString "AMPER") (.str (Str.ofString "AMPER") 374) (.int 19 373) :: ent P (Str.ofString "LESS") (.str (Str.ofString "LESS") 376) (.int 20 375) :: ent P (Str.ofString "GREATER") (.str (Str.ofString "GREATER") 378) (.int 21 377) :: ent P (Str.ofString "EQUAL") (.str (Str.ofString "EQUAL") 380) (.int 22 379) :: ent P (Str.ofString "DOT") (.str (Str.ofString "DOT") 382) (.int 23 381) :: ent P (Str.ofString "PERCENT") (.str (Str.ofString "PERCENT") 384) (.int 24 383) :: ent P (Str.ofString "LBRACE") (.str (Str.ofString "LBRACE") 386) (.int 25 385) :: ent P (Str.ofString "RBRACE") (.str (Str.ofString "RBRACE") 388) (.int 26 387) :: ent P (Str.ofString "EQEQUAL") (.str (Str.ofString "EQEQUAL") 390) (.int 27 389) :: ent P (Str.ofString "NOTEQUAL") (.str (Str.ofString "NOTEQUAL") 392) (.int 28 391) :: ent P (Str.ofString "LESSEQUAL") (.str (Str.ofString "LESSEQUAL") 394) (.int 29 393) :: [])) 43), List.toArray []⟩
def T4 (P : Params) : BT := (.node (PySem.W.boot_o_0 P) (.node (PySem.W.boot_o_1 P) (.node (o3_4 P) (.node (PySem.W.boot_o_7 P) (.node (o15_2 P) (.node (o31_3 P) (.node (o63_3 P) .nil .nil) .nil) (.node (o47_3 P) (.node (o79_3 P) .nil .nil) .nil)) (.node (o23_2 P) (.node (o39_3 P) (.node (o71_3 P) .nil .nil) .nil) (.node (o55_3 P) .nil .nil))) (.node (o11_a P) (.node (o19_2 P) (.node (o35_3 P) (.node (o67_3 P) .nil .nil) .nil) (.node (o51_3 P) .nil .nil)) (.node (o27_3 P) (.node (o43_3 P) (.node (o75_3 P) .nil .nil) .nil) (.node (o59_3 P) .nil .nil)))) (.node (PySem.W.boot_o_5 P) (.node (PySem.W.boot_o_9 P) (.node (o17_2 P) (.node (o33_3 P) (.node (o65_3 P) .nil .nil) .nil) (.node (o49_3 P) (.node (o81_3 P) .nil .nil) .nil)) (.node (o25_2 P) (.node (o41_3 P) (.node (o73_3 P) .nil .nil) .nil) (.node (o57_3 P) .nil .nil))) (.node (o13_a P) (.node (o21_2 P) (.node (o37_3 P) (.node (o69_3 P) .nil .nil) .nil) (.node (o53_3 P) .nil .nil)) (.node (o29_3 P) (.node (o45_3 P) (.node (o77_3 P) .nil .nil) .nil) (.node (o61_3 P) .nil .nil))))) (.node (PySem.W.boot_o_2 P) (.node (PySem.W.boot_o_4 P) (.node (PySem.W.boot_o_8 P) (.node (o16_2 P) (.node (o32_3 P) (.node (o64_3 P) .nil .nil) .nil) (.node (o48_3 P) (.node (o80_3 P) .nil .nil) .nil)) (.node (o24_2 P) (.node (o40_3 P) (.node (o72_3 P) .nil .nil) .nil) (.node (o56_3 P) .nil .nil))) (.node (o12_3 P) (.node (o20_2 P) (.node (o36_3 P) (.node (o68_3 P) .nil .nil) .nil) (.node (o52_3 P) .nil .nil)) (.node (o28_3 P) (.node (o44_3 P) (.node (o76_3 P) .nil .nil) .nil) (.node (o60_3 P) .nil .nil)))) (.node (PySem.W.boot_o_6 P) (.node (PySem.W.boot_o_10 P) (.node (o18_2 P) (.node (o34_3 P) (.node (o66_3 P) .nil .nil) .nil) (.node (o50_3 P) .nil .nil)) (.node (o26_3 P) (.node (o42_3 P) (.node (o74_3 P) .nil .nil) .nil) (.node (o58_3 P) .nil .nil))) (.node (o14_a P) (.node (o22_2 P) (.node (o38_3 P) (.node (o70_3 P) .nil .nil) .nil) (.node (o54_3 P) .nil .nil)) (.node (o30_3 P) (.node (o46_3 P) (.node (o78_3 P) .nil .nil) .nil) (.node (o62_3 P) .nil .nil))))))
def S4 (w : World) (os : OsState) : SharedT := ⟨T4 w.params, 82, lif, #[], dr, 395, os⟩
def g3 : List Stmt := [stm 12, stm 13, stm 14, stm 15, stm 16, stm 17, stm 18, stm 19, stm 20, stm 21, stm 22, stm 23, stm 24, stm 25, stm 26, stm 27, stm 28, stm 29, stm 30, stm 31, stm 32, stm 33, stm 34, stm 35, stm 36]
theorem p3 (w : World) (os : OsState) : segRunT treeTable pw w 11 (some (.ref 6)) 1 226 (S3 w os) (piecesOf g3 env cd ⟨71, 0, 81, 32⟩ fr) = some (.next, S4 w os, cd, ⟨106, 0, 106, 9⟩) := by
  rw [PySem.W.Fast.te10110043849684766642, PySem.W.Fast.te14364793385576792824]; kernel_rfl
def o3_5 (P : Params) : Obj := ⟨(.type "dict"), none, (.dict (List.toArray (ent P (Str.ofString "__name__") (.str (Str.ofString "__name__") 165) (.str (Str.ofString "cpy313.token") 345) :: ent P (Str.ofString "__doc__") (.str (Str.ofString "__doc__") 166) .none :: ent P (Str.ofString "__package__") (.str (Str.ofString "__package__") 167) .none :: ent P (Str.ofString "__loader__") (.str (Str.ofString "__loader__") 168) (.builtin "__main__.__loader__#opaque") :: ent P (Str.ofString "__spec__") (.str (Str.ofString "__spec__") 169) .none :: ent P (Str.ofString "__annotations__") (.str (Str.ofString "__annotations__") 170) (.ref 6) :: ent P (Str.ofString "__builtins__") (.str (Str.ofString "__builtins__") 171) (.ref 4) :: ent P (Str.ofString "__file__") (.str (Str.ofString "__file__") 173) (.str (Str.ofString "/claim/cut.py") 172) :: ent P (Str.ofString "__cached__") (.str (Str.ofString "__cached__") 174) .none :: ent P (Str.ofString "b1_set") (.str (Str.ofString "b1_set") 248) (.ref 22) :: ent P (Str.ofString "in_table_b1") (.str (Str.ofString "in_table_b1") 255) (.ref 32) :: ent P (Str.ofString "in_table_c11") (.str (Str.ofString "in_table_c11") 262) (.ref 39) :: ent P (Str.ofString "_DIV_LIMIT") (.str (Str.ofString "_DIV_LIMIT") 266) (.int 4000 265) :: ent P (Str.ofString "_div2n1n") (.str (Str.ofString "_div2n1n") 283) (.ref 46) :: ent P (Str.ofString "_div3n2n") (.str (Str.ofString "_div3n2n") 297) (.ref 53) :: ent P (Str.ofString "_int2digits") (.str (Str.ofString "_int2digits") 308) (.ref 60) :: ent P (Str.ofString "_digits2int") (.str (Str.ofString "_digits2int") 319) (.ref 67) :: ent P (Str.ofString "_divmod_pos") (.str (Str.ofString "_divmod_pos") 334) (.ref 74) :: ent P (Str.ofString "int_divmod") (.str (Str.ofString "int_divmod") 344) (.ref 81) :: ent P (Str.ofString "ENDMARKER") (.str (Str.ofString "ENDMARKER") 348) (.int 0 347) :: ent P (Str.ofString "LPAR") (.str (Str.ofString "LPAR") 350) (.int 7 349) :: ent P (Str.ofString "RPAR") (.str (Str.ofString "RPAR") 352) (.int 8 351) :: ent P (Str.ofString "LSQB") (.str (Str.ofString "LSQB") 354) (.int 9 353) :: ent P (Str.ofString "RSQB") (.str (Str.ofString "RSQB") 356) (.int 10 355) :: ent P (Str.ofString "COLON") (.str (Str.ofString "COLON") 358) (.int 11 357) :: ent P (Str.ofString "COMMA") (.str (Str.ofString "COMMA") 360) (.int 12 359) :: ent P (Str.ofString "SEMI") (.str (Str.ofString "SEMI") 362) (.int 13 361) :: ent P (Str.ofString "PLUS") (.str (Str.ofString "PLUS") 364) (.int 14 363) :: ent P (Str.ofString "MINUS") (.str (Str.ofString "MINUS") 366) (.int 15 365) :: ent P (Str.ofString "STAR") (.str (Str.ofString "STAR") 368) (.int 16 367) :: ent P (Str.ofString "SLASH") (.str (Str.ofString "SLASH") 370) (.int 17 369) :: ent P (Str.ofString "VBAR") (.str (Str.ofString "VBAR") 372) (.int 18 371) :: ent P (Str.ofString "AMPER") (.str (Str.ofString "AMPER") 374) (.int 19 373) :: ent P (Str.ofString "LESS") (.str (Str.ofString "LESS") 376) (.int 20 375) :: ent P (Str.ofString "GREATER") (.str (Str.ofString "GREATER") 378) (.int 21 377) :: ent P (Str.ofString "EQUAL") (.str (Str.ofString "EQUAL") 380) (.int 22 379) :: ent P (Str.ofString "DOT") (.str (Str.ofString "DOT") 382) (.int 23 381) :: ent P (Str.ofString "PERCENT") (.str (Str.ofString "PERCENT") 384) (.int 24 383) :: ent P (Str.ofString "LBRACE") (.str (Str.ofString "LBRACE") 386) (.int 25 385) :: ent P (Str.ofString "RBRACE") (.str (Str.ofString "RBRACE") 388) (.int 26 387) :: ent P (Str.ofString "EQEQUAL") (.str (Str.ofString "EQEQUAL") 390) (.int 27 389) :: ent P (Str.ofString "NOTEQUAL") (.str (Str.ofString "NOTEQUAL") 392) (.int 28 391) :: ent P (Str.ofString "LESSEQUAL") (.str (Str.ofString "LESSEQUAL") 394) (.int 29 393) :: ent P (Str.ofString "GREATEREQUAL") (.str (Str.ofString "GREATEREQUAL") 396) (.int 30 395) :: ent P (Str.ofString "TILDE") (.str (Str.ofString "TILDE") 398) (.int 31 397) :: ent P (Str.ofString "CIRCUMFLEX") (.str (Str.ofString "CIRCUMFLEX") 400) (.int 32 399) :: ent P (Str.ofString "LEFTSHIFT") (.str (Str.ofString "LEFTSHIFT") 402) (.int 33 401) :: ent P (Str.ofString "RIGHTSHIFT") (.str (Str.ofString "RIGHTSHIFT") 404) (.int 34 403) :: ent P (Str.ofString "DOUBLESTAR") (.str (Str.ofString "DOUBLESTAR") 406) (.int 35 405) :: ent P (Str.ofString "PLUSEQUAL") (.str (Str.ofString "PLUSEQUAL") 408) (.int 36 407) :: ent P (Str.ofString "MINEQUAL") (.str (Str.ofString "MINEQUAL") 410) (.int 37 409) :: ent P (Str.ofString "STAREQUAL") (.str (Str.ofString "STAREQUAL") 412) (.int 38 411) :: ent P (Str.ofString "SLASHEQUAL") (.str (Str.ofString "SLASHEQUAL") 414) (.int 39 413) :: ent P (Str.ofString "PERCENTEQUAL") (.str (Str.ofString "PERCENTEQUAL") 416) (.int 40 415) :: ent P (Str.ofString "AMPEREQUAL") (.str (Str.ofString "AMPEREQUAL") 418) (.int 41 417) :: ent P (Str.ofString "VBAREQUAL") (.str (Str.ofString "VBAREQUAL") 420) (.int 42 419) :: ent P (Str.ofString "CIRCUMFLEXEQUAL") (.str (Str.ofString "CIRCUMFLEXEQUAL") 422) (.int 43 421) :: ent P (Str.ofString "LEFTSHIFTEQUAL") (.str (Str.ofString "LEFTSHIFTEQUAL") 424) (.int 44 423) :: ent P (Str.ofString "RIGHTSHIFTEQUAL") (.str (Str.ofString "RIGHTSHIFTEQUAL") 426) (.int 45 425) :: ent P (Str.ofString "DOUBLESTAREQUAL") (.str (Str.ofString "DOUBLESTAREQUAL") 428) (.int 46 427) :: ent P (Str.ofString "DOUBLESLASH") (.str (Str.ofString "DOUBLESLASH") 430) (.int 47 429) :: ent P (Str.ofString "DOUBLESLASHEQUAL") (.str (Str.ofString "DOUBLESLASHEQUAL") 432) (.int 48 431) :: ent P (Str.ofString "AT") (.str (Str.ofString "AT") 434) (.int 49 433) :: ent P (Str.ofString "ATEQUAL") (.str (Str.ofString "ATEQUAL") 436) (.int 50 435) :: ent P (Str.ofString "RARROW") (.str (Str.ofString "RARROW") 438) (.int 51 437) :: ent P (Str.ofString "ELLIPSIS") (.str (Str.ofString "ELLIPSIS") 440) (.int 52 439) :: ent P (Str.ofString "COLONEQUAL") (.str (Str.ofString "COLONEQUAL") 442) (.int 53 441) :: ent P (Str.ofString "EXCLAMATION") (.str (Str.ofString "EXCLAMATION") 444) (.int 54 443) :: [])) 68), List.toArray []⟩
def T5 (P : Params) : BT := (.node (PySem.W.boot_o_0 P) (.node (PySem.W.boot_o_1 P) (.node (o3_5 P) (.node (PySem.W.boot_o_7 P) (.node (o15_2 P) (.node (o31_3 P) (.node (o63_3 P) .nil .nil) .nil) (.node (o47_3 P) (.node (o79_3 P) .nil .nil) .nil)) (.node (o23_2 P) (.node (o39_3 P) (.node (o71_3 P) .nil .nil) .nil) (.node (o55_3 P) .nil .nil))) (.node (o11_a P) (.node (o19_2 P) (.node (o35_3 P) (.node (o67_3 P) .nil .nil) .nil) (.node (o51_3 P) .nil .nil)) (.node (o27_3 P) (.node (o43_3 P) (.node (o75_3 P) .nil .nil) .nil) (.node (o59_3 P) .nil .nil)))) (.node (PySem.W.boot_o_5 P) (.node (PySem.W.boot_o_9 P) (.node (o17_2 P) (.node (o33_3 P) (.node (o65_3 P) .nil .nil) .nil) (.node (o49_3 P) (.node (o81_3 P) .nil .nil) .nil)) (.node (o25_2 P) (.node (o41_3 P) (.node (o73_3 P) .nil .nil) .nil) (.node (o57_3 P) .nil .nil))) (.node (o13_a P) (.node (o21_2 P) (.node (o37_3 P) (.node (o69_3 P) .nil .nil) .nil) (.node (o53_3 P) .nil .nil)) (.node (o29_3 P) (.node (o45_3 P) (.node (o77_3 P) .nil .nil) .nil) (.node (o61_3 P) .nil .nil))))) (.node (PySem.W.boot_o_2 P) (.node (PySem.W.boot_o_4 P) (.node (PySem.W.boot_o_8 P) (.node (o16_2 P) (.node (o32_3 P) (.node (o64_3 P) .nil .nil) .nil) (.node (o48_3 P) (.node (o80_3 P) .nil .nil) .nil)) (.node (o24_2 P) (.node (o40_3 P) (.node (o72_3 P) .nil .nil) .nil) (.node (o56_3 P) .nil .nil))) (.node (o12_3 P) (.node (o20_2 P) (.node (o36_3 P) (.node (o68_3 P) .nil .nil) .nil) (.node (o52_3 P) .nil .nil)) (.node (o28_3 P) (.node (o44_3 P) (.node (o76_3 P) .nil .nil) .nil) (.node (o60_3 P) .nil .nil)))) (.node (PySem.W.boot_o_6 P) (.node (PySem.W.boot_o_10 P) (.node (o18_2 P) (.node (o34_3 P) (.node (o66_3 P) .nil .nil) .nil) (.node (o50_3 P) .nil .nil)) (.node (o26_3 P) (.node (o42_3 P) (.node (o74_3 P) .nil .nil) .nil) (.node (o58_3 P) .nil .nil))) (.node (o14_a P) (.node (o22_2 P) (.node (o38_3 P) (.node (o70_3 P) .nil .nil) .nil) (.node (o54_3 P) .nil .nil)) (.node (o30_3 P) (.node (o46_3 P) (.node (o78_3 P) .nil .nil) .nil) (.node (o62_3 P) .nil .nil))))))
def S5 (w : World) (os : OsState) : SharedT := ⟨T5 w.params, 82, lif, #[], dr, 445, os⟩
def g4 : List Stmt := [stm 37, stm 38, stm 39, stm 40, stm 41, stm 42, stm 43, stm 44, stm 45, stm 46, stm 47, stm 48, stm 49, stm 50, stm 51, stm 52, stm 53, stm 54, stm 55, stm 56, stm 57, stm 58, stm 59, stm 60, stm 61]
theorem p4 (w : World) (os : OsState) : segRunT treeTable pw w 11 (some (.ref 6)) 1 226 (S4 w os) (piecesOf g4 env cd ⟨106, 0, 106, 9⟩ fr) = some (.next, S5 w os, cd, ⟨131, 0, 131, 11⟩) := by
  rw [PySem.W.Fast.te10110043849684766642, PySem.W.Fast.te14364793385576792824]; kernel_rfl
def o3_6 (P : Params) : Obj := ⟨(.type "dict"), none, (.dict (List.toArray (ent P (Str.ofString "__name__") (.str (Str.ofString "__name__") 165) (.str (Str.ofString "cpy313.token") 345) :: ent P (Str.ofString "__doc__") (.str (Str.ofString "__doc__") 166) .none :: ent P (Str.ofString "__package__") (.str (Str.ofString "__package__") 167) .none :: ent P (Str.ofString "__loader__") (.str (Str.ofString "__loader__") 168) (.builtin "__main__.__loader__#opaque") :: ent P (Str.ofString "__spec__") (.str (Str.ofString "__spec__") 169) .none :: ent P (Str.ofString "__annotations__") (.str (Str.ofString "__annotations__") 170) (.ref 6) :: ent P (Str.ofString "__builtins__") (.str (Str.ofString "__builtins__") 171) (.ref 4) :: ent P (Str.ofString "__file__") (.str (Str.ofString "__file__") 173) (.str (Str.ofString "/claim/cut.py") 172) :: ent P (Str.ofString "__cached__") (.str (Str.ofString "__cached__") 174) .none :: ent P (Str.ofString "b1_set") (.str (Str.ofString "b1_set") 248) (.ref 22) :: ent P (Str.ofString "in_table_b1") (.str (Str.ofString "in_table_b1") 255) (.ref 32) :: ent P (Str.ofString "in_table_c11") (.str (Str.ofString "in_table_c11") 262) (.ref 39) :: ent P (Str.ofString "_DIV_LIMIT") (.str (Str.ofString "_DIV_LIMIT") 266) (.int 4000 265) :: ent P (Str.ofString "_div2n1n") (.str (Str.ofString "_div2n1n") 283) (.ref 46) :: ent P (Str.ofString "_div3n2n") (.str (Str.ofString "_div3n2n") 297) (.ref 53) :: ent P (Str.ofString "_int2digits") (.str (Str.ofString "_int2digits") 308) (.ref 60) :: ent P (Str.ofString "_digits2int") (.str (Str.ofString "_digits2int") 319) (.ref 67) :: ent P (Str.ofString "_divmod_pos") (.str (Str.ofString "_divmod_pos") 334) (.ref 74) :: ent P (Str.ofString "int_divmod") (.str (Str.ofString "int_divmod") 344) (.ref 81) :: ent P (Str.ofString "ENDMARKER") (.str (Str.ofString "ENDMARKER") 348) (.int 0 347) :: ent P (Str.ofString "LPAR") (.str (Str.ofString "LPAR") 350) (.int 7 349) :: ent P (Str.ofString "RPAR") (.str (Str.ofString "RPAR") 352) (.int 8 351) :: ent P (Str.ofString "LSQB") (.str (Str.ofString "LSQB") 354) (.int 9 353) :: ent P (Str.ofString "RSQB") (.str (Str.ofString "RSQB") 356) (.int 10 355) :: ent P (Str.ofString "COLON") (.str (Str.ofString "COLON") 358) (.int 11 357) :: ent P (Str.ofString "COMMA") (.str (Str.ofString "COMMA") 360) (.int 12 359) :: ent P (Str.ofString "SEMI") (.str (Str.ofString "SEMI") 362) (.int 13 361) :: ent P (Str.ofString "PLUS") (.str (Str.ofString "PLUS") 364) (.int 14 363) :: ent P (Str.ofString "MINUS") (.str (Str.ofString "MINUS") 366) (.int 15 365) :: ent P (Str.ofString "STAR") (.str (Str.ofString "STAR") 368) (.int 16 367) :: ent P (Str.ofString "SLASH") (.str (Str.ofString "SLASH") 370) (.int 17 369) :: ent P (Str.ofString "VBAR") (.str (Str.ofString "VBAR") 372) (.int 18 371) :: ent P (Str.ofString "AMPER") (.str (Str.ofString "AMPER") 374) (.int 19 373) :: ent P (Str.ofString "LESS") (.str (Str.ofString "LESS") 376) (.int 20 375) :: ent P (Str.ofString "GREATER") (.str (Str.ofString "GREATER") 378) (.int 21 377) :: ent P (Str.ofString "EQUAL") (.str (Str.ofString "EQUAL") 380) (.int 22 379) :: ent P (Str.ofString "DOT") (.str (Str.ofString "DOT") 382) (.int 23 381) :: ent P (Str.ofString "PERCENT") (.str (Str.ofString "PERCENT") 384) (.int 24 383) :: ent P (Str.ofString "LBRACE") (.str (Str.ofString "LBRACE") 386) (.int 25 385) :: ent P (Str.ofString "RBRACE") (.str (Str.ofString "RBRACE") 388) (.int 26 387) :: ent P (Str.ofString "EQEQUAL") (.str (Str.ofString "EQEQUAL") 390) (.int 27 389) :: ent P (Str.ofString "NOTEQUAL") (.str (Str.ofString "NOTEQUAL") 392) (.int 28 391) :: ent P (Str.ofString "LESSEQUAL") (.str (Str.ofString "LESSEQUAL") 394) (.int 29 393) :: ent P (Str.ofString "GREATEREQUAL") (.str (Str.ofString "GREATEREQUAL") 396) (.int 30 395) :: ent P (Str.ofString "TILDE") (.str (Str.ofString "TILDE") 398) (.int 31 397) :: ent P (Str.ofString "CIRCUMFLEX") (.str (Str.ofString "CIRCUMFLEX") 400) (.int 32 399) :: ent P (Str.ofString "LEFTSHIFT") (.str (Str.ofString "LEFTSHIFT") 402) (.int 33 401) :: ent P (Str.ofString "RIGHTSHIFT") (.str (Str.ofString "RIGHTSHIFT") 404) (.int 34 403) :: ent P (Str.ofString "DOUBLESTAR") (.str (Str.ofString "DOUBLESTAR") 406) (.int 35 405) :: ent P (Str.ofString "PLUSEQUAL") (.str (Str.ofString "PLUSEQUAL") 408) (.int 36 407) :: ent P (Str.ofString "MINEQUAL") (.str (Str.ofString "MINEQUAL") 410) (.int 37 409) :: ent P (Str.ofString "STAREQUAL") (.str (Str.ofString "STAREQUAL") 412) (.int 38 411) :: ent P (Str.ofString "SLASHEQUAL") (.str (Str.ofString "SLASHEQUAL") 414) (.int 39 413) :: ent P (Str.ofString "PERCENTEQUAL") (.str (Str.ofString "PERCENTEQUAL") 416) (.int 40 415) :: ent P (Str.ofString "AMPEREQUAL") (.str (Str.ofString "AMPEREQUAL") 418) (.int 41 417) :: ent P (Str.ofString "VBAREQUAL") (.str (Str.ofString "VBAREQUAL") 420) (.int 42 419) :: ent P (Str.ofString "CIRCUMFLEXEQUAL") (.str (Str.ofString "CIRCUMFLEXEQUAL") 422) (.int 43 421) :: ent P (Str.ofString "LEFTSHIFTEQUAL") (.str (Str.ofString "LEFTSHIFTEQUAL") 424) (.int 44 423) :: ent P (Str.ofString "RIGHTSHIFTEQUAL") (.str (Str.ofString "RIGHTSHIFTEQUAL") 426) (.int 45 425) :: ent P (Str.ofString "DOUBLESTAREQUAL") (.str (Str.ofString "DOUBLESTAREQUAL") 428) (.int 46 427) :: ent P (Str.ofString "DOUBLESLASH") (.str (Str.ofString "DOUBLESLASH") 430) (.int 47 429) :: ent P (Str.ofString "DOUBLESLASHEQUAL") (.str (Str.ofString "DOUBLESLASHEQUAL") 432) (.int 48 431) :: ent P (Str.ofString "AT") (.str (Str.ofString "AT") 434) (.int 49 433) :: ent P (Str.ofString "ATEQUAL") (.str (Str.ofString "ATEQUAL") 436) (.int 50 435) :: ent P (Str.ofString "RARROW") (.str (Str.ofString "RARROW") 438) (.int 51 437) :: ent P (Str.ofString "ELLIPSIS") (.str (Str.ofString "ELLIPSIS") 440) (.int 52 439) :: ent P (Str.ofString "COLONEQUAL") (.str (Str.ofString "COLONEQUAL") 442) (.int 53 441) :: ent P (Str.ofString "EXCLAMATION") (.str (Str.ofString "EXCLAMATION") 444) (.int 54 443) :: ent P (Str.ofString "EXACT_TOKEN_TYPES") (.str (Str.ofString "EXACT_TOKEN_TYPES") 541) (.ref 82) :: [])) 69), List.toArray []⟩
def o82_6 (P : Params) : Obj := ⟨(.type "dict"), none, (.dict (List.toArray (ent P (Str.ofString "!") (.str (Str.ofString "!") 445) (.int 54 443) :: ent P (Str.ofString "!=") (.str (Str.ofString "!=") 447) (.int 28 391) :: ent P (Str.ofString "%") (.str (Str.ofString "%") 449) (.int 24 383) :: ent P (Str.ofString "%=") (.str (Str.ofString "%=") 451) (.int 40 415) :: ent P (Str.ofString "&") (.str (Str.ofString "&") 453) (.int 19 373) :: ent P (Str.ofString "&=") (.str (Str.ofString "&=") 455) (.int 41 417) :: ent P (Str.ofString "(") (.str (Str.ofString "(") 457) (.int 7 349) :: ent P (Str.ofString ")") (.str (Str.ofString ")") 459) (.int 8 351) :: ent P (Str.ofString "*") (.str (Str.ofString "*") 461) (.int 16 367) :: ent P (Str.ofString "**") (.str (Str.ofString "**") 463) (.int 35 405) :: ent P (Str.ofString "**=") (.str (Str.ofString "**=") 465) (.int 46 427) :: ent P (Str.ofString "*=") (.str (Str.ofString "*=") 467) (.int 38 411) :: ent P (Str.ofString "+") (.str (Str.ofString "+") 469) (.int 14 363) :: ent P (Str.ofString "+=") (.str (Str.ofString "+=") 471) (.int 36 407) :: ent P (Str.ofString ",") (.str (Str.ofString ",") 473) (.int 12 359) :: ent P (Str.ofString "-") (.str (Str.ofString "-") 475) (.int 15 365) :: ent P (Str.ofString "-=") (.str (Str.ofString "-=") 477) (.int 37 409) :: ent P (Str.ofString "->") (.str (Str.ofString "->") 479) (.int 51 437) :: ent P (Str.ofString ".") (.str (Str.ofString ".") 481) (.int 23 381) :: ent P (Str.ofString "...") (.str (Str.ofString "...") 483) (.int 52 439) :: ent P (Str.ofString "/") (.str (Str.ofString "/") 485) (.int 17 369) :: ent P (Str.ofString "//") (.str (Str.ofString "//") 487) (.int 47 429) :: ent P (Str.ofString "//=") (.str (Str.ofString "//=") 489) (.int 48 431) :: ent P (Str.ofString "/=") (.str (Str.ofString "/=") 491) (.int 39 413) :: ent P (Str.ofString ":") (.str (Str.ofString ":") 493) (.int 11 357) :: ent P (Str.ofString ":=") (.str (Str.ofString ":=") 495) (.int 53 441) :: ent P (Str.ofString ";") (.str (Str.ofString ";") 497) (.int 13 361) :: ent P (Str.ofString "<") (.str (Str.ofString "<") 499) (.int 20 375) :: ent P (Str.ofString "<<") (.str (Str.ofString "<<") 501) (.int 33 401) :: ent P (Str.ofString "<<=") (.str (Str.ofString "<<=") 503) (.int 44 423) :: ent P (Str.ofString "<=") (.str (Str.ofString "<=") 505) (.int 29 393) :: ent P (Str.ofString "=") (.str (Str.ofString "=") 507) (.int 22 379) :: ent P (Str.ofString "==") (.str (Str.ofString "==") 509) (.int 27 389) :: ent P (Str.ofString ">") (.str (Str.ofString ">") 511) (.int 21 377) :: ent P (Str.ofString ">=") (.str (Str.ofString ">=") 513) (.int 30 395) :: ent P (Str.ofString ">>") (.str (Str.ofString ">>") 514) (.int 34 403) :: ent P (Str.ofString ">>=") (.str (Str.ofString ">>=") 515) (.int 45 425) :: ent P (Str.ofString "@") (.str (Str.ofString "@") 516) (.int 49 433) :: ent P (Str.ofString "@=") (.str (Str.ofString "@=") 517) (.int 50 435) :: ent P (Str.ofString "[") (.str (Str.ofString "[") 518) (.int 9 353) :: ent P (Str.ofString "]") (.str (Str.ofString "]") 519) (.int 10 355) :: ent P (Str.ofString "^") (.str (Str.ofString "^") 520) (.int 32 399) :: ent P (Str.ofString "^=") (.str (Str.ofString "^=") 521) (.int 43 421) :: ent P (Str.ofString "{") (.str (Str.ofString "{") 522) (.int 25 385) :: ent P (Str.ofString "|") (.str (Str.ofString "|") 523) (.int 18 371) :: ent P (Str.ofString "|=") (.str (Str.ofString "|=") 524) (.int 42 419) :: ent P (Str.ofString "}") (.str (Str.ofString "}") 525) (.int 26 387) :: ent P (Str.ofString "~") (.str (Str.ofString "~") 526) (.int 31 397) :: [])) 48), List.toArray []⟩
def o83_6 (P : Params) : Obj := ⟨(.type "dict"), none, (.dict (List.toArray [ent P (Str.ofString "->") (.str (Str.ofString "->") 479) (.int 51 437), ent P (Str.ofString ".") (.str (Str.ofString ".") 481) (.int 23 381), ent P (Str.ofString "...") (.str (Str.ofString "...") 483) (.int 52 439), ent P (Str.ofString "/") (.str (Str.ofString "/") 485) (.int 17 369), ent P (Str.ofString "//") (.str (Str.ofString "//") 487) (.int 47 429), ent P (Str.ofString "//=") (.str (Str.ofString "//=") 489) (.int 48 431), ent P (Str.ofString "/=") (.str (Str.ofString "/=") 491) (.int 39 413), ent P (Str.ofString ":") (.str (Str.ofString ":") 493) (.int 11 357), ent P (Str.ofString ":=") (.str (Str.ofString ":=") 495) (.int 53 441), ent P (Str.ofString ";") (.str (Str.ofString ";") 497) (.int 13 361), ent P (Str.ofString "<") (.str (Str.ofString "<") 499) (.int 20 375), ent P (Str.ofString "<<") (.str (Str.ofString "<<") 501) (.int 33 401), ent P (Str.ofString "<<=") (.str (Str.ofString "<<=") 503) (.int 44 423), ent P (Str.ofString "<=") (.str (Str.ofString "<=") 505) (.int 29 393), ent P (Str.ofString "=") (.str (Str.ofString "=") 507) (.int 22 379), ent P (Str.ofString "==") (.str (Str.ofString "==") 509) (.int 27 389), ent P (Str.ofString ">") (.str (Str.ofString ">") 511) (.int 21 377)]) 17), List.toArray []⟩
def o84_6 (P : Params) : Obj := ⟨(.type "dict"), none, (.dict (List.toArray [ent P (Str.ofString ">=") (.str (Str.ofString ">=") 513) (.int 30 395), ent P (Str.ofString ">>") (.str (Str.ofString ">>") 514) (.int 34 403), ent P (Str.ofString ">>=") (.str (Str.ofString ">>=") 515) (.int 45 425), ent P (Str.ofString "@") (.str (Str.ofString "@") 516) (.int 49 433), ent P (Str.ofString "@=") (.str (Str.ofString "@=") 517) (.int 50 435), ent P (Str.ofString "[") (.str (Str.ofString "[") 518) (.int 9 353), ent P (Str.ofString "]") (.str (Str.ofString "]") 519) (.int 10 355), ent P (Str.ofString "^") (.str (Str.ofString "^") 520) (.int 32 399), ent P (Str.ofString "^=") (.str (Str.ofString "^=") 521) (.int 43 421), ent P (Str.ofString "{") (.str (Str.ofString "{") 522) (.int 25 385), ent P (Str.ofString "|") (.str (Str.ofString "|") 523) (.int 18 371), ent P (Str.ofString "|=") (.str (Str.ofString "|=") 524) (.int 42 419), ent P (Str.ofString "}") (.str (Str.ofString "}") 525) (.int 26 387), ent P (Str.ofString "~") (.str (Str.ofString "~") 526) (.int 31 397)]) 14), List.toArray []⟩
def T6 (P : Params) : BT := (.node (PySem.W.boot_o_0 P) (.node (PySem.W.boot_o_1 P) (.node (o3_6 P) (.node (PySem.W.boot_o_7 P) (.node (o15_2 P) (.node (o31_3 P) (.node (o63_3 P) .nil .nil) .nil) (.node (o47_3 P) (.node (o79_3 P) .nil .nil) .nil)) (.node (o23_2 P) (.node (o39_3 P) (.node (o71_3 P) .nil .nil) .nil) (.node (o55_3 P) .nil .nil))) (.node (o11_a P) (.node (o19_2 P) (.node (o35_3 P) (.node (o67_3 P) .nil .nil) .nil) (.node (o51_3 P) (.node (o83_6 P) .nil .nil) .nil)) (.node (o27_3 P) (.node (o43_3 P) (.node (o75_3 P) .nil .nil) .nil) (.node (o59_3 P) .nil .nil)))) (.node (PySem.W.boot_o_5 P) (.node (PySem.W.boot_o_9 P) (.node (o17_2 P) (.node (o33_3 P) (.node (o65_3 P) .nil .nil) .nil) (.node (o49_3 P) (.node (o81_3 P) .nil .nil) .nil)) (.node (o25_2 P) (.node (o41_3 P) (.node (o73_3 P) .nil .nil) .nil) (.node (o57_3 P) .nil .nil))) (.node (o13_a P) (.node (o21_2 P) (.node (o37_3 P) (.node (o69_3 P) .nil .nil) .nil) (.node (o53_3 P) .nil .nil)) (.node (o29_3 P) (.node (o45_3 P) (.node (o77_3 P) .nil .nil) .nil) (.node (o61_3 P) .nil .nil))))) (.node (PySem.W.boot_o_2 P) (.node (PySem.W.boot_o_4 P) (.node (PySem.W.boot_o_8 P) (.node (o16_2 P) (.node (o32_3 P) (.node (o64_3 P) .nil .nil) .nil) (.node (o48_3 P) (.node (o80_3 P) .nil .nil) .nil)) (.node (o24_2 P) (.node (o40_3 P) (.node (o72_3 P) .nil .nil) .nil) (.node (o56_3 P) .nil .nil))) (.node (o12_3 P) (.node (o20_2 P) (.node (o36_3 P) (.node (o68_3 P) .nil .nil) .nil) (.node (o52_3 P) (.node (o84_6 P) .nil .nil) .nil)) (.node (o28_3 P) (.node (o44_3 P) (.node (o76_3 P) .nil .nil) .nil) (.node (o60_3 P) .nil .nil)))) (.node (PySem.W.boot_o_6 P) (.node (PySem.W.boot_o_10 P) (.node (o18_2 P) (.node (o34_3 P) (.node (o66_3 P) .nil .nil) .nil) (.node (o50_3 P) (.node (o82_6 P) .nil .nil) .nil)) (.node (o26_3 P) (.node (o42_3 P) (.node (o74_3 P) .nil .nil) .nil) (.node (o58_3 P) .nil .nil))) (.node (o14_a P) (.node (o22_2 P) (.node (o38_3 P) (.node (o70_3 P) .nil .nil) .nil) (.node (o54_3 P) .nil .nil)) (.node (o30_3 P) (.node (o46_3 P) (.node (o78_3 P) .nil .nil) .nil) (.node (o62_3 P) .nil .nil))))))
def S6 (w : World) (os : OsState) : SharedT := ⟨T6 w.params, 85, lif, #[], dr, 542, os⟩
def g5 : List Stmt := [stm 62]
def W5 (w : World) (os : OsState) : Prop := segRunT treeTable pw w 11 (some (.ref 6)) 1 979 (S5 w os) (piecesOf g5 env cd ⟨131, 0, 131, 11⟩ fr) = some (.next, S6 w os, cd, ⟨132, 0, 132, 17⟩)
theorem p5 (w : World) (os : OsState) : W5 w os := byRow2 "special-get-raises" (P := fun w => W5 w os) (fun w => by show segRunT treeTable pw (w.withFollow "special-get-raises" false) 11 (some (.ref 6)) 1 979 (S5 (w.withFollow "special-get-raises" false) os) (piecesOf g5 env cd ⟨131, 0, 131, 11⟩ fr) = some (.next, S6 (w.withFollow "special-get-raises" false) os, cd, ⟨132, 0, 132, 17⟩); rw [PySem.W.Fast.te10110043849684766642, PySem.W.Fast.te14364793385576792824]; kernel_rfl) (fun w => by show segRunT treeTable pw (w.withFollow "special-get-raises" true) 11 (some (.ref 6)) 1 979 (S5 (w.withFollow "special-get-raises" true) os) (piecesOf g5 env cd ⟨131, 0, 131, 11⟩ fr) = some (.next, S6 (w.withFollow "special-get-raises" true) os, cd, ⟨132, 0, 132, 17⟩); rw [PySem.W.Fast.te10110043849684766642, PySem.W.Fast.te14364793385576792824]; kernel_rfl) w
def o3_7 (P : Params) : Obj := ⟨(.type "dict"), none, (.dict (List.toArray (ent P (Str.ofString "__name__") (.str (Str.ofString "__name__") 165) (.str (Str.ofString "law_to0036_01") 563) :: ent P (Str.ofString "__doc__") (.str (Str.ofString "__doc__") 166) .none :: ent P (Str.ofString "__package__") (.str (Str.ofString "__package__") 167) .none :: ent P (Str.ofString "__loader__") (.str (Str.ofString "__loader__") 168) (.builtin "__main__.__loader__#opaque") :: ent P (Str.ofString "__spec__") (.str (Str.ofString "__spec__") 169) .none :: ent P (Str.ofString "__annotations__") (.str (Str.ofString "__annotations__") 170) (.ref 6) :: ent P (Str.ofString "__builtins__") (.str (Str.ofString "__builtins__") 171) (.ref 4) :: ent P (Str.ofString "__file__") (.str (Str.ofString "__file__") 173) (.str (Str.ofString "/claim/cut.py") 172) :: ent P (Str.ofString "__cached__") (.str (Str.ofString "__cached__") 174) .none :: ent P (Str.ofString "b1_set") (.str (Str.ofString "b1_set") 248) (.ref 22) :: ent P (Str.ofString "in_table_b1") (.str (Str.ofString "in_table_b1") 255) (.ref 32) :: ent P (Str.ofString "in_table_c11") (.str (Str.ofString "in_table_c11") 262) (.ref 39) :: ent P (Str.ofString "_DIV_LIMIT") (.str (Str.ofString "_DIV_LIMIT") 266) (.int 4000 265) :: ent P (Str.ofString "_div2n1n") (.str (Str.ofString "_div2n1n") 283) (.ref 46) :: ent P (Str.ofString "_div3n2n") (.str (Str.ofString "_div3n2n") 297) (.ref 53) :: ent P (Str.ofString "_int2digits") (.str (Str.ofString "_int2digits") 308) (.ref 60) :: ent P (Str.ofString "_digits2int") (.str (Str.ofString "_digits2int") 319) (.ref 67) :: ent P (Str.ofString "_divmod_pos") (.str (Str.ofString "_divmod_pos") 334) (.ref 74) :: ent P (Str.ofString "int_divmod") (.str (Str.ofString "int_divmod") 344) (.ref 81) :: ent P (Str.ofString "ENDMARKER") (.str (Str.ofString "ENDMARKER") 348) (.int 0 347) :: ent P (Str.ofString "LPAR") (.str (Str.ofString "LPAR") 350) (.int 7 349) :: ent P (Str.ofString "RPAR") (.str (Str.ofString "RPAR") 352) (.int 8 351) :: ent P (Str.ofString "LSQB") (.str (Str.ofString "LSQB") 354) (.int 9 353) :: ent P (Str.ofString "RSQB") (.str (Str.ofString "RSQB") 356) (.int 10 355) :: ent P (Str.ofString "COLON") (.str (Str.ofString "COLON") 358) (.int 11 357) :: ent P (Str.ofString "COMMA") (.str (Str.ofString "COMMA") 360) (.int 12 359) :: ent P (Str.ofString "SEMI") (.str (Str.ofString "SEMI") 362) (.int 13 361) :: ent P (Str.ofString "PLUS") (.str (Str.ofString "PLUS") 364) (.int 14 363) :: ent P (Str.ofString "MINUS") (.str (Str.ofString "MINUS") 366) (.int 15 365) :: ent P (Str.ofString "STAR") (.str (Str.ofString "STAR") 368) (.int 16 367) :: ent P (Str.ofString "SLASH") (.str (Str.ofString "SLASH") 370) (.int 17 369) :: ent P (Str.ofString "VBAR") (.str (Str.ofString "VBAR") 372) (.int 18 371) :: ent P (Str.ofString "AMPER") (.str (Str.ofString "AMPER") 374) (.int 19 373) :: ent P (Str.ofString "LESS") (.str (Str.ofString "LESS") 376) (.int 20 375) :: ent P (Str.ofString "GREATER") (.str (Str.ofString "GREATER") 378) (.int 21 377) :: ent P (Str.ofString "EQUAL") (.str (Str.ofString "EQUAL") 380) (.int 22 379) :: ent P (Str.ofString "DOT") (.str (Str.ofString "DOT") 382) (.int 23 381) :: ent P (Str.ofString "PERCENT") (.str (Str.ofString "PERCENT") 384) (.int 24 383) :: ent P (Str.ofString "LBRACE") (.str (Str.ofString "LBRACE") 386) (.int 25 385) :: ent P (Str.ofString "RBRACE") (.str (Str.ofString "RBRACE") 388) (.int 26 387) :: ent P (Str.ofString "EQEQUAL") (.str (Str.ofString "EQEQUAL") 390) (.int 27 389) :: ent P (Str.ofString "NOTEQUAL") (.str (Str.ofString "NOTEQUAL") 392) (.int 28 391) :: ent P (Str.ofString "LESSEQUAL") (.str (Str.ofString "LESSEQUAL") 394) (.int 29 393) :: ent P (Str.ofString "GREATEREQUAL") (.str (Str.ofString "GREATEREQUAL") 396) (.int 30 395) :: ent P (Str.ofString "TILDE") (.str (Str.ofString "TILDE") 398) (.int 31 397) :: ent P (Str.ofString "CIRCUMFLEX") (.str (Str.ofString "CIRCUMFLEX") 400) (.int 32 399) :: ent P (Str.ofString "LEFTSHIFT") (.str (Str.ofString "LEFTSHIFT") 402) (.int 33 401) :: ent P (Str.ofString "RIGHTSHIFT") (.str (Str.ofString "RIGHTSHIFT") 404) (.int 34 403) :: ent P (Str.ofString "DOUBLESTAR") (.str (Str.ofString "DOUBLESTAR") 406) (.int 35 405) :: ent P (Str.ofString "PLUSEQUAL") (.str (Str.ofString "PLUSEQUAL") 408) (.int 36 407) :: ent P (Str.ofString "MINEQUAL") (.str (Str.ofString "MINEQUAL") 410) (.int 37 409) :: ent P (Str.ofString "STAREQUAL") (.str (Str.ofString "STAREQUAL") 412) (.int 38 411) :: ent P (Str.ofString "SLASHEQUAL") (.str (Str.ofString "SLASHEQUAL") 414) (.int 39 413) :: ent P (Str.ofString "PERCENTEQUAL") (.str (Str.ofString "PERCENTEQUAL") 416) (.int 40 415) :: ent P (Str.ofString "AMPEREQUAL") (.str (Str.ofString "AMPEREQUAL") 418) (.int 41 417) :: ent P (Str.ofString "VBAREQUAL") (.str (Str.ofString "VBAREQUAL") 420) (.int 42 419) :: ent P (Str.ofString "CIRCUMFLEXEQUAL") (.str (Str.ofString "CIRCUMFLEXEQUAL") 422) (.int 43 421) :: ent P (Str.ofString "LEFTSHIFTEQUAL") (.str (Str.ofString "LEFTSHIFTEQUAL") 424) (.int 44 423) :: ent P (Str.ofString "RIGHTSHIFTEQUAL") (.str (Str.ofString "RIGHTSHIFTEQUAL") 426) (.int 45 425) :: ent P (Str.ofString "DOUBLESTAREQUAL") (.str (Str.ofString "DOUBLESTAREQUAL") 428) (.int 46 427) :: ent P (Str.ofString "DOUBLESLASH") (.str (Str.ofString "DOUBLESLASH") 430) (.int 47 429) :: ent P (Str.ofString "DOUBLESLASHEQUAL") (.str (Str.ofString "DOUBLESLASHEQUAL") 432) (.int 48 431) :: ent P (Str.ofString "AT") (.str (Str.ofString "AT") 434) (.int 49 433) :: ent P (Str.ofString "ATEQUAL") (.str (Str.ofString "ATEQUAL") 436) (.int 50 435) :: ent P (Str.ofString "RARROW") (.str (Str.ofString "RARROW") 438) (.int 51 437) :: ent P (Str.ofString "ELLIPSIS") (.str (Str.ofString "ELLIPSIS") 440) (.int 52 439) :: ent P (Str.ofString "COLONEQUAL") (.str (Str.ofString "COLONEQUAL") 442) (.int 53 441) :: ent P (Str.ofString "EXCLAMATION") (.str (Str.ofString "EXCLAMATION") 444) (.int 54 443) :: ent P (Str.ofString "EXACT_TOKEN_TYPES") (.str (Str.ofString "EXACT_TOKEN_TYPES") 541) (.ref 82) :: ent P (Str.ofString "ISEOF") (.str (Str.ofString "ISEOF") 548) (.ref 91) :: ent P (Str.ofString "_MOVE_COST") (.str (Str.ofString "_MOVE_COST") 552) (.int 2 551) :: ent P (Str.ofString "_CASE_COST") (.str (Str.ofString "_CASE_COST") 554) (.int 1 553) :: ent P (Str.ofString "_substitution_cost") (.str (Str.ofString "_substitution_cost") 562) (.ref 98) :: ent P (Str.ofString "_law_product") (.str (Str.ofString "_law_product") 579) (.ref 105) :: ent P (Str.ofString "_law_ways") (.str (Str.ofString "_law_ways") 585) (.ref 110) :: ent P (Str.ofString "_law_meetings") (.str (Str.ofString "_law_meetings") 599) (.ref 117) :: ent P (Str.ofString "law") (.str (Str.ofString "law") 605) (.ref 122) :: [])) 77), List.toArray []⟩
def o12_7 (P : Params) : Obj := ⟨.none, none, (.fields (List.toArray ((.int 3 0) :: (.int 0 0) :: (.ref 31) :: (.int 5 0) :: (.int 0 0) :: (.ref 38) :: (.int 9 0) :: (.int 0 0) :: (.ref 45) :: (.int 25 0) :: (.int 0 0) :: (.ref 52) :: (.int 35 0) :: (.int 0 0) :: (.ref 59) :: (.int 51 0) :: (.int 0 0) :: (.ref 66) :: (.int 60 0) :: (.int 0 0) :: (.ref 73) :: (.int 71 0) :: (.int 0 0) :: (.ref 80) :: (.int 133 0) :: (.int 0 0) :: (.ref 90) :: (.int 138 0) :: (.int 0 0) :: (.ref 97) :: (.int 145 0) :: (.int 0 0) :: (.ref 104) :: (.int 163 0) :: (.int 0 0) :: (.ref 109) :: (.int 175 0) :: (.int 0 0) :: (.ref 116) :: (.int 190 0) :: (.int 0 0) :: (.ref 121) :: []))), List.toArray []⟩
def o85_7 (P : Params) : Obj := ⟨(.type "tuple"), none, (.seq (List.toArray []) 0), List.toArray []⟩
def o86_7 (P : Params) : Obj := ⟨.none, none, (.fields (List.toArray [])), List.toArray []⟩
def o87_7 (P : Params) : Obj := ⟨(.type "tuple"), none, (.seq (List.toArray [(.str (Str.ofString "x") 545)]) 0), List.toArray []⟩
def o88_7 (P : Params) : Obj := ⟨(.type "tuple"), none, (.seq (List.toArray []) 0), List.toArray []⟩
def o89_7 (P : Params) : Obj := ⟨.none, none, (.func (fnNone (stm 63))), List.toArray []⟩
def o90_7 (P : Params) : Obj := ⟨(.type "code"), none, (.fields (List.toArray [(.str (Str.ofString "ISEOF") 542), (.str (Str.ofString "ISEOF") 543), (.str (Str.ofString "/claim/cut.py") 544), (.int 133 0), (.int 1 0), (.int 0 0), (.int 0 0), (.int 3 0), (.ref 85), (.bool true), (.int 181 0), (.ref 86), .none, (.ref 87), (.ref 88), (.ref 89), (.int 546 0), (.int 133 0), (.str (Str.ofString "/claim/cut.py") 547)])), List.toArray []⟩
def o91_7 (P : Params) : Obj := ⟨(.type "function"), none, (.func (fnData (stm 63) (.str (Str.ofString "cpy313.token") 345) (.ref 90))), List.toArray []⟩
def o92_7 (P : Params) : Obj := ⟨(.type "tuple"), none, (.seq (List.toArray []) 0), List.toArray []⟩
def o93_7 (P : Params) : Obj := ⟨.none, none, (.fields (List.toArray [])), List.toArray []⟩
def o94_7 (P : Params) : Obj := ⟨(.type "tuple"), none, (.seq (List.toArray [(.str (Str.ofString "ch_a") 558), (.str (Str.ofString "ch_b") 559)]) 0), List.toArray []⟩
def o95_7 (P : Params) : Obj := ⟨(.type "tuple"), none, (.seq (List.toArray []) 0), List.toArray []⟩
def o96_7 (P : Params) : Obj := ⟨.none, none, (.func (fnNone (stm 67))), List.toArray []⟩
def o97_7 (P : Params) : Obj := ⟨(.type "code"), none, (.fields (List.toArray [(.str (Str.ofString "_substitution_cost") 555), (.str (Str.ofString "_substitution_cost") 556), (.str (Str.ofString "/claim/cut.py") 557), (.int 138 0), (.int 2 0), (.int 0 0), (.int 0 0), (.int 3 0), (.ref 92), (.bool true), (.int 181 0), (.ref 93), .none, (.ref 94), (.ref 95), (.ref 96), (.int 560 0), (.int 138 0), (.str (Str.ofString "/claim/cut.py") 561)])), List.toArray []⟩
def o98_7 (P : Params) : Obj := ⟨(.type "function"), none, (.func (fnData (stm 67) (.str (Str.ofString "cpy313.traceback") 549) (.ref 97))), List.toArray []⟩
def o99_7 (P : Params) : Obj := ⟨(.type "tuple"), none, (.seq (List.toArray []) 0), List.toArray []⟩
def o100_7 (P : Params) : Obj := ⟨.none, none, (.fields (List.toArray [])), List.toArray []⟩
def o101_7 (P : Params) : Obj := ⟨(.type "tuple"), none, (.seq (List.toArray [(.str (Str.ofString "opens") 568), (.str (Str.ofString "p") 569), (.str (Str.ofString "q") 570), (.str (Str.ofString "told") 571), (.str (Str.ofString "begun") 572), (.str (Str.ofString "depth") 573), (.str (Str.ofString "one") 574), (.str (Str.ofString "part") 575), (.str (Str.ofString "left") 576)]) 0), List.toArray []⟩
def o102_7 (P : Params) : Obj := ⟨(.type "tuple"), none, (.seq (List.toArray []) 0), List.toArray []⟩
def o103_7 (P : Params) : Obj := ⟨.none, none, (.func (fnNone (stm 69))), List.toArray []⟩
def o104_7 (P : Params) : Obj := ⟨(.type "code"), none, (.fields (List.toArray [(.str (Str.ofString "_law_product") 565), (.str (Str.ofString "_law_product") 566), (.str (Str.ofString "/claim/cut.py") 567), (.int 145 0), (.int 1 0), (.int 0 0), (.int 0 0), (.int 3 0), (.ref 99), (.bool true), (.int 181 0), (.ref 100), .none, (.ref 101), (.ref 102), (.ref 103), (.int 577 0), (.int 145 0), (.str (Str.ofString "/claim/cut.py") 578)])), List.toArray []⟩
def o105_7 (P : Params) : Obj := ⟨(.type "function"), none, (.func (fnData (stm 69) (.str (Str.ofString "law_to0036_01") 563) (.ref 104))), List.toArray []⟩
def o106_7 (P : Params) : Obj := ⟨(.type "tuple"), none, (.seq (List.toArray []) 0), List.toArray []⟩
def o107_7 (P : Params) : Obj := ⟨.none, none, (.fields (List.toArray [])), List.toArray []⟩
def o108_7 (P : Params) : Obj := ⟨.none, none, (.func (fnNone (stm 70))), List.toArray []⟩
def o109_7 (P : Params) : Obj := ⟨(.type "code"), none, (.fields (List.toArray [(.str (Str.ofString "_law_ways") 580), (.str (Str.ofString "_law_ways") 581), (.str (Str.ofString "/claim/cut.py") 582), (.int 163 0), (.int 1 0), (.int 0 0), (.int 0 0), (.int 3 0), (.ref 106), (.bool true), (.int 181 0), (.ref 107), .none, .none, .none, (.ref 108), (.int 583 0), (.int 163 0), (.str (Str.ofString "/claim/cut.py") 584)])), List.toArray []⟩
def o110_7 (P : Params) : Obj := ⟨(.type "function"), none, (.func (fnData (stm 70) (.str (Str.ofString "law_to0036_01") 563) (.ref 109))), List.toArray []⟩
def o111_7 (P : Params) : Obj := ⟨(.type "tuple"), none, (.seq (List.toArray []) 0), List.toArray []⟩
def o112_7 (P : Params) : Obj := ⟨.none, none, (.fields (List.toArray [])), List.toArray []⟩
def o113_7 (P : Params) : Obj := ⟨(.type "tuple"), none, (.seq (List.toArray [(.str (Str.ofString "text") 589), (.str (Str.ofString "pairs") 590), (.str (Str.ofString "shut") 591), (.str (Str.ofString "begun") 592), (.str (Str.ofString "crosses") 593), (.str (Str.ofString "nests") 594), (.str (Str.ofString "later") 595), (.str (Str.ofString "sooner") 596)]) 0), List.toArray []⟩
def o114_7 (P : Params) : Obj := ⟨(.type "tuple"), none, (.seq (List.toArray []) 0), List.toArray []⟩
def o115_7 (P : Params) : Obj := ⟨.none, none, (.func (fnNone (stm 71))), List.toArray []⟩
def o116_7 (P : Params) : Obj := ⟨(.type "code"), none, (.fields (List.toArray [(.str (Str.ofString "_law_meetings") 586), (.str (Str.ofString "_law_meetings") 587), (.str (Str.ofString "/claim/cut.py") 588), (.int 175 0), (.int 1 0), (.int 0 0), (.int 0 0), (.int 3 0), (.ref 111), (.bool true), (.int 181 0), (.ref 112), .none, (.ref 113), (.ref 114), (.ref 115), (.int 597 0), (.int 175 0), (.str (Str.ofString "/claim/cut.py") 598)])), List.toArray []⟩
def o117_7 (P : Params) : Obj := ⟨(.type "function"), none, (.func (fnData (stm 71) (.str (Str.ofString "law_to0036_01") 563) (.ref 116))), List.toArray []⟩
def o118_7 (P : Params) : Obj := ⟨(.type "tuple"), none, (.seq (List.toArray []) 0), List.toArray []⟩
def o119_7 (P : Params) : Obj := ⟨.none, none, (.fields (List.toArray [])), List.toArray []⟩
def o120_7 (P : Params) : Obj := ⟨.none, none, (.func (fnNone (stm 72))), List.toArray []⟩
def o121_7 (P : Params) : Obj := ⟨(.type "code"), none, (.fields (List.toArray [(.str (Str.ofString "law") 600), (.str (Str.ofString "law") 601), (.str (Str.ofString "/claim/cut.py") 602), (.int 190 0), (.int 1 0), (.int 0 0), (.int 0 0), (.int 3 0), (.ref 118), (.bool true), (.int 181 0), (.ref 119), .none, .none, .none, (.ref 120), (.int 603 0), (.int 190 0), (.str (Str.ofString "/claim/cut.py") 604)])), List.toArray []⟩
def o122_7 (P : Params) : Obj := ⟨(.type "function"), none, (.func (fnData (stm 72) (.str (Str.ofString "law_to0036_01") 563) (.ref 121))), List.toArray []⟩
def T7 (P : Params) : BT := (.node (PySem.W.boot_o_0 P) (.node (PySem.W.boot_o_1 P) (.node (o3_7 P) (.node (PySem.W.boot_o_7 P) (.node (o15_2 P) (.node (o31_3 P) (.node (o63_3 P) .nil .nil) (.node (o95_7 P) .nil .nil)) (.node (o47_3 P) (.node (o79_3 P) .nil .nil) (.node (o111_7 P) .nil .nil))) (.node (o23_2 P) (.node (o39_3 P) (.node (o71_3 P) .nil .nil) (.node (o103_7 P) .nil .nil)) (.node (o55_3 P) (.node (o87_7 P) .nil .nil) (.node (o119_7 P) .nil .nil)))) (.node (o11_a P) (.node (o19_2 P) (.node (o35_3 P) (.node (o67_3 P) .nil .nil) (.node (o99_7 P) .nil .nil)) (.node (o51_3 P) (.node (o83_6 P) .nil .nil) (.node (o115_7 P) .nil .nil))) (.node (o27_3 P) (.node (o43_3 P) (.node (o75_3 P) .nil .nil) (.node (o107_7 P) .nil .nil)) (.node (o59_3 P) (.node (o91_7 P) .nil .nil) .nil)))) (.node (PySem.W.boot_o_5 P) (.node (PySem.W.boot_o_9 P) (.node (o17_2 P) (.node (o33_3 P) (.node (o65_3 P) .nil .nil) (.node (o97_7 P) .nil .nil)) (.node (o49_3 P) (.node (o81_3 P) .nil .nil) (.node (o113_7 P) .nil .nil))) (.node (o25_2 P) (.node (o41_3 P) (.node (o73_3 P) .nil .nil) (.node (o105_7 P) .nil .nil)) (.node (o57_3 P) (.node (o89_7 P) .nil .nil) (.node (o121_7 P) .nil .nil)))) (.node (o13_a P) (.node (o21_2 P) (.node (o37_3 P) (.node (o69_3 P) .nil .nil) (.node (o101_7 P) .nil .nil)) (.node (o53_3 P) (.node (o85_7 P) .nil .nil) (.node (o117_7 P) .nil .nil))) (.node (o29_3 P) (.node (o45_3 P) (.node (o77_3 P) .nil .nil) (.node (o109_7 P) .nil .nil)) (.node (o61_3 P) (.node (o93_7 P) .nil .nil) .nil))))) (.node (PySem.W.boot_o_2 P) (.node (PySem.W.boot_o_4 P) (.node (PySem.W.boot_o_8 P) (.node (o16_2 P) (.node (o32_3 P) (.node (o64_3 P) .nil .nil) (.node (o96_7 P) .nil .nil)) (.node (o48_3 P) (.node (o80_3 P) .nil .nil) (.node (o112_7 P) .nil .nil))) (.node (o24_2 P) (.node (o40_3 P) (.node (o72_3 P) .nil .nil) (.node (o104_7 P) .nil .nil)) (.node (o56_3 P) (.node (o88_7 P) .nil .nil) (.node (o120_7 P) .nil .nil)))) (.node (o12_7 P) (.node (o20_2 P) (.node (o36_3 P) (.node (o68_3 P) .nil .nil) (.node (o100_7 P) .nil .nil)) (.node (o52_3 P) (.node (o84_6 P) .nil .nil) (.node (o116_7 P) .nil .nil))) (.node (o28_3 P) (.node (o44_3 P) (.node (o76_3 P) .nil .nil) (.node (o108_7 P) .nil .nil)) (.node (o60_3 P) (.node (o92_7 P) .nil .nil) .nil)))) (.node (PySem.W.boot_o_6 P) (.node (PySem.W.boot_o_10 P) (.node (o18_2 P) (.node (o34_3 P) (.node (o66_3 P) .nil .nil) (.node (o98_7 P) .nil .nil)) (.node (o50_3 P) (.node (o82_6 P) .nil .nil) (.node (o114_7 P) .nil .nil))) (.node (o26_3 P) (.node (o42_3 P) (.node (o74_3 P) .nil .nil) (.node (o106_7 P) .nil .nil)) (.node (o58_3 P) (.node (o90_7 P) .nil .nil) (.node (o122_7 P) .nil .nil)))) (.node (o14_a P) (.node (o22_2 P) (.node (o38_3 P) (.node (o70_3 P) .nil .nil) (.node (o102_7 P) .nil .nil)) (.node (o54_3 P) (.node (o86_7 P) .nil .nil) (.node (o118_7 P) .nil .nil))) (.node (o30_3 P) (.node (o46_3 P) (.node (o78_3 P) .nil .nil) (.node (o110_7 P) .nil .nil)) (.node (o62_3 P) (.node (o94_7 P) .nil .nil) .nil))))))
def S7 (w : World) (os : OsState) : SharedT := ⟨T7 w.params, 123, lif, #[], dr, 606, os⟩
def g6 : List Stmt := [stm 63, stm 64, stm 65, stm 66, stm 67, stm 68, stm 69, stm 70, stm 71, stm 72]
theorem p6 (w : World) (os : OsState) : segRunT treeTable pw w 11 (some (.ref 6)) 1 221 (S6 w os) (piecesOf g6 env cd ⟨132, 0, 132, 17⟩ fr) = some (.next, S7 w os, cd, ⟨190, 0, 213, 43⟩) := by
  rw [PySem.W.Fast.te10110043849684766642, PySem.W.Fast.te14364793385576792824]; kernel_rfl
-- fin: 1 toks 606 pos ⟨190, 0, 213, 43⟩; pre 12 ⟨0, 0, 0, 0⟩; block 0 ⟨0, 0, 0, 0⟩; frame ⟨0, 0, 0, 0⟩

def H1 (P : Params) : Heap := ⟨List.toArray (PySem.W.boot_o_0 P :: PySem.W.boot_o_1 P :: PySem.W.boot_o_2 P :: o3_7 P :: PySem.W.boot_o_4 P :: PySem.W.boot_o_5 P :: PySem.W.boot_o_6 P :: PySem.W.boot_o_7 P :: PySem.W.boot_o_8 P :: PySem.W.boot_o_9 P :: PySem.W.boot_o_10 P :: o11_a P :: o12_7 P :: o13_a P :: o14_a P :: o15_2 P :: o16_2 P :: o17_2 P :: o18_2 P :: o19_2 P :: o20_2 P :: o21_2 P :: o22_2 P :: o23_2 P :: o24_2 P :: o25_2 P :: o26_3 P :: o27_3 P :: o28_3 P :: o29_3 P :: o30_3 P :: o31_3 P :: o32_3 P :: o33_3 P :: o34_3 P :: o35_3 P :: o36_3 P :: o37_3 P :: o38_3 P :: o39_3 P :: o40_3 P :: o41_3 P :: o42_3 P :: o43_3 P :: o44_3 P :: o45_3 P :: o46_3 P :: o47_3 P :: o48_3 P :: o49_3 P :: o50_3 P :: o51_3 P :: o52_3 P :: o53_3 P :: o54_3 P :: o55_3 P :: o56_3 P :: o57_3 P :: o58_3 P :: o59_3 P :: o60_3 P :: o61_3 P :: o62_3 P :: o63_3 P :: o64_3 P :: o65_3 P :: o66_3 P :: o67_3 P :: o68_3 P :: o69_3 P :: o70_3 P :: o71_3 P :: o72_3 P :: o73_3 P :: o74_3 P :: o75_3 P :: o76_3 P :: o77_3 P :: o78_3 P :: o79_3 P :: o80_3 P :: o81_3 P :: o82_6 P :: o83_6 P :: o84_6 P :: o85_7 P :: o86_7 P :: o87_7 P :: o88_7 P :: o89_7 P :: o90_7 P :: o91_7 P :: o92_7 P :: o93_7 P :: o94_7 P :: o95_7 P :: o96_7 P :: o97_7 P :: o98_7 P :: o99_7 P :: o100_7 P :: o101_7 P :: o102_7 P :: o103_7 P :: o104_7 P :: o105_7 P :: o106_7 P :: o107_7 P :: o108_7 P :: o109_7 P :: o110_7 P :: o111_7 P :: o112_7 P :: o113_7 P :: o114_7 P :: o115_7 P :: o116_7 P :: o117_7 P :: o118_7 P :: o119_7 P :: o120_7 P :: o121_7 P :: o122_7 P :: []), lif⟩
def Sz (w : World) (os : OsState) : Shared := ⟨boot_heap w.params, Array.mk [], boot_drawn, boot_toks, os⟩
theorem pre (w : World) (os : OsState) : topGo treeTable pw w 11 (some (.ref 6)) 12 (Sz w os) (topStub pw) = some (Sa w os, ⟨denote treeTable cd, cd, ⟨0, 0, 0, 0⟩, fr⟩) := by
  rw [PySem.W.Fast.te15667345088766844465, PySem.W.Fast.te11892475500146522536, PySem.W.Fast.te14364793385576792824]; kernel_rfl
theorem block (w : World) (os : OsState) : segRun treeTable pw w 11 (some (.ref 6)) 1 1 (Sa w os) (blockOf (behindTheImports pw) env cd ⟨0, 0, 0, 0⟩ fr) = some (.next, (S0 w os).abs, cd, ⟨0, 0, 0, 0⟩) := by
  rw [PySem.W.Fast.te14374325043358763698, PySem.W.Fast.te14364793385576792824]; kernel_rfl
theorem fin (w : World) (os : OsState) : topRun treeTable pw w 11 (some (.ref 6)) 2 (S7 w os).abs (restOf [] env cd ⟨190, 0, 213, 43⟩ fr) = some ⟨H1 w.params, #[], dr, 606, os⟩ := by
  rw [PySem.W.Fast.te14082659384304107361, PySem.W.Fast.te14364793385576792824]; kernel_rfl
theorem body_eq : behindTheImports pw = g0 ++ (g1 ++ (g2 ++ (g3 ++ (g4 ++ (g5 ++ (g6 ++ [])))))) := by kernel_rfl
theorem runAll (w : World) (os : OsState) : topRun treeTable pw w 11 (some (.ref 6)) (12 + (1 + (10 + (999 + (287 + (226 + (226 + (979 + (221 + 2))))))))) (Sz w os) (topStub pw) = some ⟨H1 w.params, #[], dr, 606, os⟩ := by
  have c : topRun treeTable pw w 11 (some (.ref 6)) _ (S0 w os).abs (restOf (g0 ++ (g1 ++ (g2 ++ (g3 ++ (g4 ++ (g5 ++ (g6 ++ []))))))) env cd ⟨0, 0, 0, 0⟩ [topFrame ⟨0, 0, 0, 0⟩]) = some ⟨H1 w.params, #[], dr, 606, os⟩ := (piece_app (segRun_of (p0 w os)) (piece_app (segRun_of (p1 w os)) (piece_app (segRun_of (p2 w os)) (piece_app (segRun_of (p3 w os)) (piece_app (segRun_of (p4 w os)) (piece_app (segRun_of (p5 w os)) (piece_app (segRun_of (p6 w os)) (fin w os))))))))
  rw [← body_eq] at c
  exact go_top (pre w os) (piece_block (block w os) c)
theorem opened : ∀ w : World, (fencedOpening treeTable pw w 6008).map (fun s => (s.heap, s.gens, s.drawn, s.toks)) = some (boot_heap w.params, Array.mk [], boot_drawn, boot_toks) :=
  boot_open (p := pw) (N := 6008) (by kernel_rfl) (by kernel_rfl) (fun s => by kernel_rfl)
end
end Mine
end
section
set_option maxRecDepth 100000
set_option maxHeartbeats 0
namespace Mine
noncomputable section
open PySem PySem.W PySem.Calls PyProof.Rows
def q : Program := view pw [72]
def loose : List Str := Str.ofString "b1_set" :: Str.ofString "in_table_b1" :: Str.ofString "in_table_c11" :: Str.ofString "_DIV_LIMIT" :: Str.ofString "_div2n1n" :: Str.ofString "_div3n2n" :: Str.ofString "_int2digits" :: Str.ofString "_digits2int" :: Str.ofString "_divmod_pos" :: Str.ofString "int_divmod" :: Str.ofString "ENDMARKER" :: Str.ofString "LPAR" :: Str.ofString "RPAR" :: Str.ofString "LSQB" :: Str.ofString "RSQB" :: Str.ofString "COLON" :: Str.ofString "COMMA" :: Str.ofString "SEMI" :: Str.ofString "PLUS" :: Str.ofString "MINUS" :: Str.ofString "STAR" :: Str.ofString "SLASH" :: Str.ofString "VBAR" :: Str.ofString "AMPER" :: Str.ofString "LESS" :: Str.ofString "GREATER" :: Str.ofString "EQUAL" :: Str.ofString "DOT" :: Str.ofString "PERCENT" :: Str.ofString "LBRACE" :: Str.ofString "RBRACE" :: Str.ofString "EQEQUAL" :: Str.ofString "NOTEQUAL" :: Str.ofString "LESSEQUAL" :: Str.ofString "GREATEREQUAL" :: Str.ofString "TILDE" :: Str.ofString "CIRCUMFLEX" :: Str.ofString "LEFTSHIFT" :: Str.ofString "RIGHTSHIFT" :: Str.ofString "DOUBLESTAR" :: Str.ofString "PLUSEQUAL" :: Str.ofString "MINEQUAL" :: Str.ofString "STAREQUAL" :: Str.ofString "SLASHEQUAL" :: Str.ofString "PERCENTEQUAL" :: Str.ofString "AMPEREQUAL" :: Str.ofString "VBAREQUAL" :: Str.ofString "CIRCUMFLEXEQUAL" :: Str.ofString "LEFTSHIFTEQUAL" :: Str.ofString "RIGHTSHIFTEQUAL" :: Str.ofString "DOUBLESTAREQUAL" :: Str.ofString "DOUBLESLASH" :: Str.ofString "DOUBLESLASHEQUAL" :: Str.ofString "AT" :: Str.ofString "ATEQUAL" :: Str.ofString "RARROW" :: Str.ofString "ELLIPSIS" :: Str.ofString "COLONEQUAL" :: Str.ofString "EXCLAMATION" :: Str.ofString "EXACT_TOKEN_TYPES" :: Str.ofString "ISEOF" :: Str.ofString "_MOVE_COST" :: Str.ofString "_CASE_COST" :: Str.ofString "_substitution_cost" :: Str.ofString "_law_product" :: Str.ofString "_law_ways" :: Str.ofString "_law_meetings" :: []
def K (P : Params) : Frag := (nat_lit 2, PySem.W.boot_o_2 P) :: (nat_lit 3, o3_7 P) :: (nat_lit 6, PySem.W.boot_o_6 P) :: (nat_lit 22, o22_2 P) :: (nat_lit 26, o26_3 P) :: (nat_lit 28, o28_3 P) :: (nat_lit 29, o29_3 P) :: (nat_lit 31, o31_3 P) :: (nat_lit 32, o32_3 P) :: (nat_lit 33, o33_3 P) :: (nat_lit 35, o35_3 P) :: (nat_lit 36, o36_3 P) :: (nat_lit 38, o38_3 P) :: (nat_lit 39, o39_3 P) :: (nat_lit 40, o40_3 P) :: (nat_lit 42, o42_3 P) :: (nat_lit 43, o43_3 P) :: (nat_lit 45, o45_3 P) :: (nat_lit 46, o46_3 P) :: (nat_lit 47, o47_3 P) :: (nat_lit 49, o49_3 P) :: (nat_lit 50, o50_3 P) :: (nat_lit 52, o52_3 P) :: (nat_lit 53, o53_3 P) :: (nat_lit 54, o54_3 P) :: (nat_lit 56, o56_3 P) :: (nat_lit 57, o57_3 P) :: (nat_lit 59, o59_3 P) :: (nat_lit 60, o60_3 P) :: (nat_lit 61, o61_3 P) :: (nat_lit 63, o63_3 P) :: (nat_lit 64, o64_3 P) :: (nat_lit 66, o66_3 P) :: (nat_lit 67, o67_3 P) :: (nat_lit 68, o68_3 P) :: (nat_lit 70, o70_3 P) :: (nat_lit 71, o71_3 P) :: (nat_lit 73, o73_3 P) :: (nat_lit 74, o74_3 P) :: (nat_lit 75, o75_3 P) :: (nat_lit 77, o77_3 P) :: (nat_lit 78, o78_3 P) :: (nat_lit 80, o80_3 P) :: (nat_lit 81, o81_3 P) :: (nat_lit 82, o82_6 P) :: (nat_lit 85, o85_7 P) :: (nat_lit 87, o87_7 P) :: (nat_lit 88, o88_7 P) :: (nat_lit 90, o90_7 P) :: (nat_lit 91, o91_7 P) :: (nat_lit 92, o92_7 P) :: (nat_lit 94, o94_7 P) :: (nat_lit 95, o95_7 P) :: (nat_lit 97, o97_7 P) :: (nat_lit 98, o98_7 P) :: (nat_lit 99, o99_7 P) :: (nat_lit 101, o101_7 P) :: (nat_lit 102, o102_7 P) :: (nat_lit 104, o104_7 P) :: (nat_lit 105, o105_7 P) :: (nat_lit 106, o106_7 P) :: (nat_lit 109, o109_7 P) :: (nat_lit 110, o110_7 P) :: (nat_lit 111, o111_7 P) :: (nat_lit 113, o113_7 P) :: (nat_lit 114, o114_7 P) :: (nat_lit 116, o116_7 P) :: (nat_lit 117, o117_7 P) :: (nat_lit 118, o118_7 P) :: (nat_lit 121, o121_7 P) :: (nat_lit 122, o122_7 P) :: []
def kas : List Addr := 2 :: 3 :: 6 :: 22 :: 26 :: 28 :: 29 :: 31 :: 32 :: 33 :: 35 :: 36 :: 38 :: 39 :: 40 :: 42 :: 43 :: 45 :: 46 :: 47 :: 49 :: 50 :: 52 :: 53 :: 54 :: 56 :: 57 :: 59 :: 60 :: 61 :: 63 :: 64 :: 66 :: 67 :: 68 :: 70 :: 71 :: 73 :: 74 :: 75 :: 77 :: 78 :: 80 :: 81 :: 82 :: 85 :: 87 :: 88 :: 90 :: 91 :: 92 :: 94 :: 95 :: 97 :: 98 :: 99 :: 101 :: 102 :: 104 :: 105 :: 106 :: 109 :: 110 :: 111 :: 113 :: 114 :: 116 :: 117 :: 118 :: 121 :: 122 :: []
theorem kas_eq (P : Params) : kas = (K P).map (·.1) := by kernel_rfl
def H : Hook := kmHook K kas kas_eq [62, 55]
def Xt (s : Shared) : Bool := xlAt q [] s && recOk [] s
theorem size0 (w : World) : ((boot_heap w.params).isNs mainGlobals && (Array.mk [] : Array GenState).size == 0, (boot_heap w.params).objs.size, (boot_heap w.params).nsMap mainGlobals "__annotations__") = (true, 11, some (.ref 6)) := by kernel_rfl
def mods : List Str := importedModules pw.main.body
def Se (P : Params) (os : OsState) : Shared := ⟨H1 P, #[], dr, 606, os⟩
theorem look0 (w : World) (os : OsState) : (staticsOk (importedModules pw.main.body) (boot_heap w.params) (H1 w.params) && namesBound pw (H1 w.params) && gensDone (Se w.params os) && laidKept (boot_heap w.params) (H1 w.params)) = true := by kernel_rfl
theorem look1 (w : World) (os : OsState) : openSeen q loose (importedModules pw.main.body) Xt true (Se w.params os) = openGood q loose := by
  rw [PySem.W.Fast.te4187177175401517315]; kernel_rfl
theorem look2 (w : World) (os : OsState) : Hook.obs H (Se w.params os) = Hook.val H w := by kernel_rfl
theorem left : LeftO pw q loose Xt (Hook.obs H) (Hook.val H) 6008 :=
  LeftO.of_pieces (m₀ := 11) (ann := some (.ref 6)) opened size0 (fun w os => runAll w os) (by kernel_rfl) fun w => funext fun os => Prod.ext (look0 w os) (Prod.ext (look1 w os) (look2 w os))
end
end Mine
end
section
namespace Mine
open PySem PySem.W PyProof.Rows PySem.Calls
noncomputable section
/-- every name that the top binds -/
def LS : List Str := loose ++ [Str.ofString "law"]
/-- a call of f at vs, from any function's frame: Ret says what comes back and what the ledger is then -/
def Ctr (r : Nat) (w : World) (mean : ExcName → Option Value) (mg mb : Str → Option Value) (f : Addr) (news : List (Addr × Obj)) (vs : List Value) (Ret : Value → List (Addr × Obj) → Prop) : Prop :=
  ∀ (dp un : Nat) (gd : Option (List Code)) (cn : Str) (cs : Scope) (a : Addr) (ccd : Value) (cl : List (Str × Addr)) (outer : List Env) (A₀ : Around) (base h₀ : Heap) (L : Addr) (m : Str → Option Value) (s : Shared) (Q E : Value → Shared → Prop),
    Below A₀ base outer h₀ → Fr h₀ L s.heap m → (K w.params).In h₀ → News h₀ L s.heap news → Top topProg LS mean mg mb h₀ → CodeHd base 59 55 → CodeHd base 66 62 → cs.kind = .function →
    dp + r < recursionLimit → un + 10 * r < cLine →
    (∀ v news' h' tk', Fr h₀ L h' m → News h₀ L h' news' → Ret v news' → Q v { s with heap := h', toks := tk' }) →
      wpAny (model (PySem.Challenge.rw_to0036_01.row.toRowW.prog) w) (ktrTop dp un gd cn cs L a ccd cl outer) (call (.ref f) vs) Q E s
theorem Ctr.use {r : Nat} {w : World} {mean : ExcName → Option Value} {mg mb : Str → Option Value} {f : Addr} {news : List (Addr × Obj)} {vs : List Value} {Ret : Value → List (Addr × Obj) → Prop} (C : Ctr r w mean mg mb f news vs Ret)
    {dp un : Nat} {gd : Option (List Code)} {cn : Str} {cs : Scope} {a : Addr} {ccd : Value} {cl : List (Str × Addr)} {outer : List Env} {A₀ : Around} {base h₀ : Heap} {L : Addr} {m : Str → Option Value} {s : Shared} {Q E : Value → Shared → Prop}
    (B : Below A₀ base outer h₀) (F : Fr h₀ L s.heap m) (X : (K w.params).In h₀) (N : News h₀ L s.heap news) (T : Top topProg LS mean mg mb h₀) (c1 : CodeHd base 59 55) (c2 : CodeHd base 66 62) (hk : cs.kind = .function)
    (hd : dp + r < recursionLimit) (hu : un + 10 * r < cLine)
    (h : ∀ v news' h' tk', Fr h₀ L h' m → News h₀ L h' news' → Ret v news' → Q v { s with heap := h', toks := tk' }) :
    wpAny (model (PySem.Challenge.rw_to0036_01.row.toRowW.prog) w) (ktrTop dp un gd cn cs L a ccd cl outer) (call (.ref f) vs) Q E s :=
  C dp un gd cn cs a ccd cl outer A₀ base h₀ L m s Q E B F X N T c1 c2 hk hd hu h
end
end Mine
end
section
set_option maxRecDepth 100000
namespace Mine
open PySem PySem.W PyProof.Rows PySem.Calls PyProof.V PySem.Spec
section
variable {prog : Program} {w : World} {A : Around} {E : Value → Shared → Prop} {s : Shared} {env : Env} {h₀ : Heap} {x : Str} {body : List Stmt} {Q : Flow → Shared → Prop}
/-- a for over range(b): J i is what holds ahead of turn i, of the frame's map and the ledger -/
theorem forRange {r : Addr} {b : Int} {t₀ u₀ v₀ : Tok} {m₀ : Str → Option Value} {news : List (Addr × Obj)} (J : Nat → (Str → Option Value) → List (Addr × Obj) → Prop)
    (hr : IsRange s.heap r 0 b 1 t₀ u₀ v₀) (hb0 : 0 ≤ b) (hb : b < 2 ^ 62) (F : Fr h₀ env.locals s.heap m₀) (N : News h₀ env.locals s.heap news) (hj : J 0 m₀ news) (hh : A.handled = none)
    (turn : ∀ (i : Nat) t m₁ nx h tk own, i < b.toNat → OwnOff own (nx.map (·.1)) → J i m₁ nx → Fr h₀ env.locals h (fun y => if y = x then some (.int (i : Int) t) else m₁ y) → News h₀ env.locals h (nx ++ own) →
      wpAny (model prog w) A (execs body env) (InvPostG h₀ env.locals (J (i + 1)) own { s with heap := h, toks := tk } Q) E { s with heap := h, toks := tk })
    (done : ∀ m₁ nx h tk, J b.toNat m₁ nx → Fr h₀ env.locals h m₁ → News h₀ env.locals h nx → Q .next { s with heap := h, toks := tk }) :
    wpAny (model prog w) A (pyIter (.ref r)) (fun it s₂ => LoopAtV prog w A h₀ env x body Q E it s₂) E s := by
  refine wpAny_pyIter_range hr (small_one (by omega) (by omega) (by omega) (by omega)) ?_
  have hsz : Builtin.Range.rangeSize 0 b 1 = (b.toNat : Int) := by rw [rangeSize_nat]; simp
  have W : Walks prog w A s.heap.objs.size [s.heap.objs.size] [s.heap.objs.size] b.toNat (fun i v => i < b.toNat ∧ ∃ t, v = .int (0 + i * 1) t)
      (fun i h => IsRangeIter h s.heap.objs.size (0 + (i : Nat) * 1) ((b.toNat : Int) - (i : Nat)) 1) := (Walks.range hh _ 0 1 b.toNat).bound
  refine kdr_loop J W (fun _ h => h) (fun _ h => h) ?_ ?_ ?_ ?_ (by show IsRangeIter _ _ _ _ _; rw [hsz]; simpa using Heap.get?_push_size _ rfl) (F.push _) (fun p hp => ⟨Heap.get?_push_of_some _ (N p hp).1, (N p hp).2⟩) hj ?_ done
  · intro i h hi b hb
    rw [List.mem_singleton.mp hb]
    exact ⟨_, hi⟩
  · intro hm
    exact absurd F.ns.lt ((List.mem_singleton.mp hm) ▸ Nat.lt_irrefl _)
  · intro b hb
    rw [List.mem_singleton.mp hb]
    exact next_is_new F
  · intro p hp hI
    exact absurd (Heap.lt_size (N p hp).1) ((List.mem_singleton.mp hI) ▸ Nat.lt_irrefl _)
  · rintro i v m₁ nx h tk own hi ⟨_, t, rfl⟩ hoff hj' F₁ N₁
    have e1 : (0 : Int) + (i : Int) * 1 = (i : Int) := by omega
    rw [e1] at F₁
    exact turn i t m₁ nx h tk own hi hoff hj' F₁ N₁
/-- a for over a text's signs -/
theorem forStr {xt : Str} {tx : Tok} {m₀ : Str → Option Value} {news : List (Addr × Obj)} (J : Nat → (Str → Option Value) → List (Addr × Obj) → Prop)
    (F : Fr h₀ env.locals s.heap m₀) (N : News h₀ env.locals s.heap news) (hj : J 0 m₀ news) (hh : A.handled = none)
    (turn : ∀ (i c : Nat) t m₁ nx h tk own, xt.cps[i]? = some c → OwnOff own (nx.map (·.1)) → J i m₁ nx → Fr h₀ env.locals h (fun y => if y = x then some (.str ⟨#[c]⟩ t) else m₁ y) → News h₀ env.locals h (nx ++ own) →
      wpAny (model prog w) A (execs body env) (InvPostG h₀ env.locals (J (i + 1)) own { s with heap := h, toks := tk } Q) E { s with heap := h, toks := tk })
    (done : ∀ m₁ nx h tk, J xt.cps.size m₁ nx → Fr h₀ env.locals h m₁ → News h₀ env.locals h nx → Q .next { s with heap := h, toks := tk }) :
    wpAny (model prog w) A (pyIter (.str xt tx)) (fun it s₂ => LoopAtV prog w A h₀ env x body Q E it s₂) E s := by
  have go : ∀ (ty : String) (o : Obj), (s.heap.push o).IsStrIter s.heap.objs.size ty xt tx 0 →
      Walks prog w A s.heap.objs.size [s.heap.objs.size] [s.heap.objs.size] xt.cps.size (SignAt xt) (fun i h => h.IsStrIter s.heap.objs.size ty xt tx i) →
      LoopAtV prog w A h₀ env x body Q E (.ref s.heap.objs.size) { s with heap := s.heap.push o } := by
    intro ty o hst W
    refine kdr_loop J W (fun _ h => h) (fun _ h => h) ?_ ?_ ?_ ?_ hst (F.push _) (fun p hp => ⟨Heap.get?_push_of_some _ (N p hp).1, (N p hp).2⟩) hj ?_ done
    · intro i h hi b hb
      rw [List.mem_singleton.mp hb]
      obtain ⟨o', ho', _⟩ := hi
      exact ⟨_, ho'⟩
    · intro hm
      exact absurd F.ns.lt ((List.mem_singleton.mp hm) ▸ Nat.lt_irrefl _)
    · intro b hb
      rw [List.mem_singleton.mp hb]
      exact next_is_new F
    · intro p hp hI
      exact absurd (Heap.lt_size (N p hp).1) ((List.mem_singleton.mp hI) ▸ Nat.lt_irrefl _)
    · rintro i v m₁ nx h tk own hi ⟨c, u, hc, rfl⟩ hoff hj' F₁ N₁
      exact turn i c u m₁ nx h tk own hc hoff hj' F₁ N₁
  cases ha : xt.cps.all (· < 128)
  · exact wpAny_pyIter_wide ha (go _ _ ⟨_, Heap.get?_push_size _ rfl, rfl, rfl⟩ (Walks.strWide hh _ xt tx))
  · exact wpAny_pyIter_ascii ha (go _ _ ⟨_, Heap.get?_push_size _ rfl, rfl, rfl⟩ (Walks.strAscii hh _ xt tx))
end
/-- m₀ with the names of ps put over it -/
def ov (m₀ : Str → Option Value) : List (Str × Option Value) → Str → Option Value
  | [] => m₀
  | (a, v) :: r => fun z => if z = a then v else ov m₀ r z
end Mine
end
section
set_option maxRecDepth 100000
set_option maxHeartbeats 8000000
namespace Mine
open PySem PySem.W PyProof.Rows PySem.Calls
theorem c_c11 (w : World) (mean : ExcName → Option Value) (mg mb : Str → Option Value) (news : List (Addr × Obj)) (a : Str) (t : Tok) :
    Ctr 5 w mean mg mb 39 news [.str a t] (fun v ns => v = .bool (a == Str.ofString " ") ∧ ns = news) := by
  unfold Ctr
  k_fill
  intros; rename_i hret
  refine wpAny_call ?_
  (k_dflt (refine' code_def ?k1 ?k2 ?k3 ?k4 ?k5 ?kA ?kF ?kK ?k6 ?k7 ?k8 ?k9 ?kB ?_ ?c2 ?c3 ?c4 ?c5; (case kA => exact rfl); (case kF => exact rfl); (case kK => first | exact rfl | assumption); (case k1 => k_asm); (case k2 => k_asm); (case k3 => k_asm); (case k4 => k_asm); (case k5 => k_asm); (case k6 => k_is); (case k7 => k_is); (case k8 => ktr_room); (case k9 => exact BindsTo.of_eq rfl); (case c5 => decide); (case kB => exact locs rfl); (case c2 => exact rfl); (case c3 => exact rfl); (case c4 => exact rfl); k_whole; intro g' L' h' FG' F' N' B' X' T'; (try dsimp only); (try k_lift B'); (try k_fold)))
  k_steps
  all_goals exact hret _ _ _ _ (by assumption) (by assumption) ⟨rfl, rfl⟩
def cost (a b : Str) : Int := if a == b then 0 else if Txt.lower a == Txt.lower b then 1 else 2
theorem c_cost (w : World) (mean : ExcName → Option Value) (mg mb : Str → Option Value) (news : List (Addr × Obj)) (a b : Str) (t u : Tok) (ha : a.length = 1) (hb : b.length = 1) :
    Ctr 5 w mean mg mb 98 news [.str a t, .str b u] (fun v ns => (∃ t, v = .int (cost a b) t) ∧ ns = news) := by
  unfold Ctr
  k_fill
  intros; rename_i hret
  refine wpAny_call ?_
  (k_dflt (refine' code_def ?k1 ?k2 ?k3 ?k4 ?k5 ?kA ?kF ?kK ?k6 ?k7 ?k8 ?k9 ?kB ?_ ?c2 ?c3 ?c4 ?c5; (case kA => exact rfl); (case kF => exact rfl); (case kK => first | exact rfl | assumption); (case k1 => k_asm); (case k2 => k_asm); (case k3 => k_asm); (case k4 => k_asm); (case k5 => k_asm); (case k6 => k_is); (case k7 => k_is); (case k8 => ktr_room); (case k9 => exact BindsTo.of_eq rfl); (case c5 => decide); (case kB => exact locs rfl); (case c2 => exact rfl); (case c3 => exact rfl); (case c4 => exact rfl); k_whole; intro g' L' h' FG' F' N' B' X' T'; (try dsimp only); (try k_lift B'); (try k_fold)))
  k_steps
  all_goals exact hret _ _ _ _ (by assumption) (by assumption) ⟨⟨_, by simp [cost, *]; rfl⟩, rfl⟩
theorem c_iseof (w : World) (mean : ExcName → Option Value) (mg mb : Str → Option Value) (news : List (Addr × Obj)) (a : Int) (t : Tok) :
    Ctr 5 w mean mg mb 91 news [.int a t] (fun v ns => v = .bool (a == 0) ∧ ns = news) := by
  unfold Ctr
  k_fill
  intros; rename_i hret
  refine wpAny_call ?_
  (k_dflt (refine' code_def ?k1 ?k2 ?k3 ?k4 ?k5 ?kA ?kF ?kK ?k6 ?k7 ?k8 ?k9 ?kB ?_ ?c2 ?c3 ?c4 ?c5; (case kA => exact rfl); (case kF => exact rfl); (case kK => first | exact rfl | assumption); (case k1 => k_asm); (case k2 => k_asm); (case k3 => k_asm); (case k4 => k_asm); (case k5 => k_asm); (case k6 => k_is); (case k7 => k_is); (case k8 => ktr_room); (case k9 => exact BindsTo.of_eq rfl); (case c5 => decide); (case kB => exact locs rfl); (case c2 => exact rfl); (case c3 => exact rfl); (case c4 => exact rfl); k_whole; intro g' L' h' FG' F' N' B' X' T'; (try dsimp only); (try k_lift B'); (try k_fold)))
  k_steps
  all_goals exact hret _ _ _ _ (by assumption) (by assumption) ⟨rfl, rfl⟩
end Mine
end
section
set_option maxRecDepth 100000
set_option maxHeartbeats 1000000
namespace Mine
open PySem PySem.W PyProof.Rows PySem.Calls
/-- a fact that the walk is not to see -/
def Hid (P : Prop) : Prop := P
def pr (a : Str) (i j : Nat) : Bool := cost (Txt.item a (i : Int)) (Txt.item a (j : Int)) == 1
def inn (a : Str) (sh k : Nat) : List (Nat × Nat) := ((List.range k).filter (fun i => pr a i sh)).map (fun i => (i, sh))
def outr (a : Str) (k : Nat) : List (Nat × Nat) := (List.range k).flatMap (fun sh => inn a sh sh)
theorem inn_len (a : Str) (sh k : Nat) : (inn a sh k).length ≤ k := by
  unfold inn
  rw [List.length_map]
  exact Nat.le_trans (List.length_filter_le ..) (by rw [List.length_range]; exact Nat.le_refl _)
theorem outr_succ (a : Str) (k : Nat) : outr a (k + 1) = outr a k ++ inn a k k := by
  unfold outr
  rw [List.range_succ, List.flatMap_append]
  simp
theorem outr_len (a : Str) (k : Nat) : (outr a k).length ≤ k * k := by
  induction k with
  | zero => simp [outr]
  | succ k ih =>
    rw [outr_succ, List.length_append]
    have e := inn_len a k k
    have e2 : (k + 1) * (k + 1) = k * k + k + k + 1 := by rw [Nat.add_mul, Nat.mul_add]; omega
    omega
def toD (p : Nat × Nat) : Dat := .tuple [.int (p.1 : Int), .int (p.2 : Int)]
def J1 (m₀ : Str → Option Value) (PL : Addr) (cst : List (Addr × Obj)) (prs : Nat → List (Nat × Nat)) (i : Nat) (m : Str → Option Value) (nx : List (Addr × Obj)) : Prop :=
  ∃ us ub vs n tl, m = ov m₀ [(Str.ofString "shut", us), (Str.ofString "begun", ub)] ∧ nx = (PL, listOf (List.toArray vs) n) :: tl ∧ (∀ p ∈ cst, p ∈ tl) ∧ (∀ p ∈ tl, p.1 ≠ PL) ∧ DatAll tl vs ((prs i).map toD)
def J2 (m₀ : Str → Option Value) (PL : Addr) (tl own : List (Addr × Obj)) (prs : Nat → List (Nat × Nat)) (i : Nat) (m : Str → Option Value) (nx : List (Addr × Obj)) : Prop :=
  ∃ ub vs n add, m = ov m₀ [(Str.ofString "begun", ub)] ∧ nx = (PL, listOf (List.toArray vs) n) :: (add ++ (tl ++ own)) ∧ (∀ p ∈ add ++ (tl ++ own), p.1 ≠ PL) ∧ (∀ p ∈ add, ∀ q ∈ own, p.1 ≠ q.1) ∧ DatAll (add ++ tl) vs ((prs i).map toD)
theorem J1.start {m₀ : Str → Option Value} {PL : Addr} {cst : List (Addr × Obj)} {prs : Nat → List (Nat × Nat)} (h0 : prs 0 = []) (hs : ∀ p ∈ cst, p.1 < PL) : J1 m₀ PL cst prs 0 m₀ ((PL, listOf #[] 0) :: cst) := by
  refine ⟨m₀ (Str.ofString "shut"), m₀ (Str.ofString "begun"), [], 0, cst, ?_, rfl, fun _ h => h, fun p hp => Nat.ne_of_lt (hs p hp), by rw [h0]; exact .nil⟩
  funext z
  simp only [ov]
  split
  · next h => rw [h]
  · split
    · next h => rw [h]
    · rfl
theorem J2.start {m₀ : Str → Option Value} {PL : Addr} {tl own : List (Addr × Obj)} {vs : List Value} {n : Nat} {prs : Nat → List (Nat × Nat)} {ps : List (Nat × Nat)} (hoff : OwnOff own (((PL, listOf (List.toArray vs) n) :: tl).map (·.1))) (htl : ∀ p ∈ tl, p.1 ≠ PL) (hd : DatAll tl vs (ps.map toD)) (h0 : prs 0 = ps) :
    J2 m₀ PL tl own prs 0 m₀ ((PL, listOf (List.toArray vs) n) :: tl ++ own) := by
  refine ⟨m₀ (Str.ofString "begun"), vs, n, [], ?_, rfl, fun p hp => ?_, fun _ h => (nomatch h), by rw [h0]; exact hd⟩
  · funext z
    simp only [ov]
    split
    · next h => rw [h]
    · rfl
  · rcases List.mem_append.mp (show p ∈ tl ++ own from hp) with h | h
    · exact htl p h
    · exact hoff p h PL (.head _)
theorem inn_yes {a : Str} {sh k : Nat} (h : pr a k sh = true) : inn a sh (k + 1) = inn a sh k ++ [(k, sh)] := by
  unfold inn
  rw [List.range_succ, List.filter_append, List.map_append]
  simp [h]
theorem inn_no {a : Str} {sh k : Nat} (h : pr a k sh = false) : inn a sh (k + 1) = inn a sh k := by
  unfold inn
  rw [List.range_succ, List.filter_append, List.map_append]
  simp [h]
theorem ov1 {m₀ : Str → Option Value} {x : Str} {v u : Option Value} : (fun y => if y = x then v else ov m₀ [(x, u)] y) = ov m₀ [(x, v)] := by
  funext y
  simp only [ov]
  split <;> rfl
theorem allLt_mem {d : Addr} {l : List (Addr × Obj)} (h : AllLt d l) : ∀ p ∈ l, p.1 < d := by
  induction l with
  | nil => intro p hp; exact (nomatch hp)
  | cons q l ih =>
    intro p hp
    rcases List.mem_cons.mp hp with rfl | hp
    · exact h.1
    · exact ih h.2 p hp
theorem J2.endNo {h₀ h' : Heap} {L PL : Addr} {m₀ : Str → Option Value} {v u : Option Value} {vs : List Value} {n j : Nat} {add tl own own₂ : List (Addr × Obj)} {prs : Nat → List (Nat × Nat)} {s₁ : Shared} {tk : Nat}
    (F : Fr h₀ L h' (fun y => if y = Str.ofString "begun" then v else ov m₀ [(Str.ofString "begun", u)] y)) (N : News h₀ L h' ((PL, listOf (List.toArray vs) n) :: ((add ++ (tl ++ own)) ++ own₂)))
    (h1 : ∀ p ∈ add ++ (tl ++ own), p.1 ≠ PL) (h2 : ∀ p ∈ add, ∀ q ∈ own, p.1 ≠ q.1) (hoff : OwnOff own₂ (((PL, listOf (List.toArray vs) n) :: (add ++ (tl ++ own))).map (·.1))) (hd : DatAll (add ++ tl) vs ((prs j).map toD)) (he : prs (j + 1) = prs j) :
    InvEndG h₀ L (J2 m₀ PL tl own prs (j + 1)) own₂ s₁ { s₁ with heap := h', toks := tk } := by
  rw [ov1] at F
  exact InvEndG.intro (nx := (PL, listOf (List.toArray vs) n) :: (add ++ (tl ++ own))) F N ⟨v, vs, n, add, rfl, rfl, h1, h2, by rw [he]; exact hd⟩ hoff (fun p hp => (List.mem_append.mpr (.inl hp) : p ∈ (((PL, listOf (List.toArray vs) n) :: (add ++ (tl ++ own))) ++ own₂)))
    fun p hp => (List.mem_append.mpr (.inr hp) : p ∈ (((PL, listOf (List.toArray vs) n) :: (add ++ (tl ++ own))) ++ own₂))
theorem J2.endYes {h₀ h' : Heap} {L PL D : Addr} {m₀ : Str → Option Value} {v u : Option Value} {vs : List Value} {n j i : Nat} {ti tj : Tok} {add tl own own₂ : List (Addr × Obj)} {prs : Nat → List (Nat × Nat)} {s₁ : Shared} {tk : Nat}
    (F : Fr h₀ L h' (fun y => if y = Str.ofString "begun" then v else ov m₀ [(Str.ofString "begun", u)] y))
    (N : News h₀ L h' ((D, { cls := .type "tuple", data := .seq (List.toArray [.int (j : Int) tj, .int (i : Int) ti]) }) :: (PL, listOf ((List.toArray vs).push (.ref D)) (n + 1)) :: ((add ++ (tl ++ own)) ++ own₂)))
    (h1 : ∀ p ∈ add ++ (tl ++ own), p.1 ≠ PL) (h2 : ∀ p ∈ add, ∀ q ∈ own, p.1 ≠ q.1) (hoff : OwnOff own₂ (((PL, listOf (List.toArray vs) n) :: (add ++ (tl ++ own))).map (·.1)))
    (hD : @LT.lt Nat _ PL D ∧ AllLt D ((add ++ (tl ++ own)) ++ own₂)) (hd : DatAll (add ++ tl) vs ((prs j).map toD)) (he : prs (j + 1) = prs j ++ [(j, i)]) :
    InvEndG h₀ L (J2 m₀ PL tl own prs (j + 1)) own₂ s₁ { s₁ with heap := h', toks := tk } := by
  rw [ov1] at F
  have hPD : PL ≠ D := Nat.ne_of_lt hD.1
  have hlt := allLt_mem hD.2
  have e : (List.toArray vs).push (.ref D) = List.toArray (vs ++ [.ref D]) := by simp
  rw [e] at N
  refine InvEndG.intro (nx := (PL, listOf (List.toArray (vs ++ [.ref D])) (n + 1)) :: ((D, { cls := .type "tuple", data := .seq (List.toArray [.int (j : Int) tj, .int (i : Int) ti]) }) :: add ++ (tl ++ own))) F N
    ⟨v, vs ++ [.ref D], n + 1, _ :: add, rfl, rfl, ?_, ?_, ?_⟩ ?_ ?_ ?_
  · intro p hp
    rcases List.mem_cons.mp hp with rfl | hp
    · exact fun q => hPD q.symm
    · exact h1 p hp
  · intro p hp q hq
    rcases List.mem_cons.mp hp with rfl | hp
    · exact fun e => absurd (hlt q (List.mem_append_left _ (List.mem_append_right _ (List.mem_append_right _ hq)))) (by rw [← e]; exact Nat.lt_irrefl _)
    · exact h2 p hp q hq
  · rw [he, List.map_append]
    refine DatAll.append (hd.mono fun p hp => .tail _ hp) (.one (.tuple (.head _) (.cons (.int _ _) (.cons (.int _ _) .nil))))
  · intro p hp b hb
    simp only [List.map_cons, List.mem_cons, List.cons_append] at hb
    rcases hb with rfl | rfl | hb
    · exact hoff p hp _ (.head _)
    · exact Nat.ne_of_lt (hlt p (List.mem_append_right _ hp))
    · exact hoff p hp b (.tail _ hb)
  · intro p hp
    rcases List.mem_cons.mp hp with rfl | hp
    · exact .tail _ (.head _)
    · rcases List.mem_cons.mp hp with rfl | hp
      · exact .head _
      · exact .tail _ (.tail _ (List.mem_append_left _ hp))
  · intro p hp
    exact .tail _ (.tail _ (List.mem_append_right _ hp))
theorem J1.end {h₀ h' : Heap} {L PL : Addr} {m₀ : Str → Option Value} {v us ub ub' : Option Value} {vs : List Value} {n i : Nat} {cst tl own add : List (Addr × Obj)} {prs : Nat → List (Nat × Nat)} {ps : List (Nat × Nat)} {s₁ : Shared} {tk : Nat} {o : Obj}
    (F : Fr h₀ L h' (ov (fun y => if y = Str.ofString "shut" then v else ov m₀ [(Str.ofString "shut", us), (Str.ofString "begun", ub)] y) [(Str.ofString "begun", ub')])) (N : News h₀ L h' ((PL, listOf (List.toArray vs) n) :: (add ++ (tl ++ own))))
    (hc : ∀ p ∈ cst, p ∈ tl) (h1 : ∀ p ∈ add ++ (tl ++ own), p.1 ≠ PL) (h2 : ∀ p ∈ add, ∀ q ∈ own, p.1 ≠ q.1) (hoff : OwnOff own (((PL, o) :: tl).map (·.1))) (hd : DatAll (add ++ tl) vs (ps.map toD)) (he : prs (i + 1) = ps) :
    InvEndG h₀ L (J1 m₀ PL cst prs (i + 1)) own s₁ { s₁ with heap := h', toks := tk } := by
  have em : ov (fun y => if y = Str.ofString "shut" then v else ov m₀ [(Str.ofString "shut", us), (Str.ofString "begun", ub)] y) [(Str.ofString "begun", ub')] = ov m₀ [(Str.ofString "shut", v), (Str.ofString "begun", ub')] := by
    funext y
    simp only [ov]
    have hne : Str.ofString "shut" ≠ Str.ofString "begun" := by decide
    by_cases h1 : y = Str.ofString "shut"
    · simp [h1, hne]
    · by_cases h2 : y = Str.ofString "begun" <;> simp [h1, h2, hne.symm]
  rw [em] at F
  refine InvEndG.intro (nx := (PL, listOf (List.toArray vs) n) :: (add ++ tl)) F N ⟨v, ub', vs, n, _, rfl, rfl, fun p hp => List.mem_append_right _ (hc p hp), fun p hp => ?_, by rw [he]; exact hd⟩ ?_ ?_ ?_
  · rcases List.mem_append.mp hp with hp | hp
    · exact h1 p (List.mem_append_left _ hp)
    · exact h1 p (List.mem_append_right _ (List.mem_append_left _ hp))
  · intro p hp b hb
    simp only [List.map_cons, List.mem_cons, List.map_append, List.mem_append, List.mem_map] at hb
    rcases hb with rfl | ⟨q, hq, rfl⟩ | ⟨q, hq, rfl⟩
    · exact hoff p hp _ (.head _)
    · exact fun e => h2 q hq p hp e.symm
    · exact hoff p hp _ (.tail _ (List.mem_map_of_mem hq))
  · intro p hp
    rcases List.mem_cons.mp hp with rfl | hp
    · exact .head _
    · rcases List.mem_append.mp hp with hp | hp
      · exact .tail _ (List.mem_append_left _ hp)
      · exact .tail _ (List.mem_append_right _ (List.mem_append_left _ hp))
  · intro p hp
    exact .tail _ (List.mem_append_right _ (List.mem_append_right _ hp))
theorem J2.off {PL : Addr} {o : Obj} {tl own : List (Addr × Obj)} (hoff : OwnOff own (((PL, o) :: tl).map (·.1))) (htl : ∀ p ∈ tl, p.1 ≠ PL) : OwnOff (tl ++ own) [PL] := by
  intro p hp b hb
  rw [List.mem_singleton.mp hb]
  rcases List.mem_append.mp hp with h | h
  · exact htl p h
  · exact hoff p h PL (.head _)
end Mine
end
section
set_option maxRecDepth 100000
set_option maxHeartbeats 1000000
namespace Mine
open PySem PySem.W PyProof.Rows PySem.Calls PyProof.V PySem.Spec
def AtI (news : List (Addr × Obj)) (l : Addr) (k : Int) (v : Value) : Prop := ∃ vs n, (l, listOf (List.toArray vs) n) ∈ news ∧ 0 ≤ k ∧ k < 2 ^ 63 ∧ vs[k.toNat]? = some v
def TupI (news : List (Addr × Obj)) (T : Addr) (x y : Value) : Prop := ∃ n, (T, ({ cls := .type "tuple", data := .seq (List.toArray [x, y]) n } : Obj)) ∈ news
theorem AtI.mono {news news' : List (Addr × Obj)} {l : Addr} {k : Int} {v : Value} (h : AtI news l k v) (hs : ∀ p ∈ news, p ∈ news') : AtI news' l k v :=
  let ⟨vs, n, a, r⟩ := h; ⟨vs, n, hs _ a, r⟩
theorem TupI.mono {news news' : List (Addr × Obj)} {T : Addr} {x y : Value} (h : TupI news T x y) (hs : ∀ p ∈ news, p ∈ news') : TupI news' T x y :=
  let ⟨n, a⟩ := h; ⟨n, hs _ a⟩
section
variable {prog : Program} {w : World} {A : Around} {E : Value → Shared → Prop} {s : Shared} {h₀ : Heap} {L l T : Addr} {news : List (Addr × Obj)} {value slice : PySem.Expr} {k : Int} {u : Tok} {v x y : Value} {Q : Value → Shared → Prop}
theorem it_l (N : News h₀ L s.heap news) (h : AtI news l k v) (hQ : Q v s)
    (hs : subscripted slice false (.ref l) (.int k u) = operate [.ref l, .int k u] (getItem (.ref l) (.int k u))) :
    wpAny (model prog w) A (subscriptTail value slice (.ref l) (.int k u)) Q E s := by
  obtain ⟨vs, n, hm, h0, h1, hx⟩ := h
  have hl : s.heap.IsList l (List.toArray vs) := ⟨_, (N _ hm).1, rfl, n, rfl⟩
  exact tail_any hl.typeIs slot_list_getitem.lookup (wpAny_getItem_list hl h0 h1 (by simpa using hx) hQ) hs
theorem it_t0 (N : News h₀ L s.heap news) (h : TupI news T x y) (hQ : Q x s)
    (hs : subscripted slice false (.ref T) (.int 0 u) = operate [.ref T, .int 0 u] (getItem (.ref T) (.int 0 u))) :
    wpAny (model prog w) A (subscriptTail value slice (.ref T) (.int 0 u)) Q E s := by
  obtain ⟨n, hm⟩ := h
  exact item_tupleT (l := [x, y]) (j := 0) ⟨_, (N _ hm).1, rfl, n, rfl⟩ (by decide) (by decide) rfl rfl hQ hs
theorem it_t1 (N : News h₀ L s.heap news) (h : TupI news T x y) (hQ : Q y s)
    (hs : subscripted slice false (.ref T) (.int 1 u) = operate [.ref T, .int 1 u] (getItem (.ref T) (.int 1 u))) :
    wpAny (model prog w) A (subscriptTail value slice (.ref T) (.int 1 u)) Q E s := by
  obtain ⟨n, hm⟩ := h
  exact item_tupleT (l := [x, y]) (j := 1) ⟨_, (N _ hm).1, rfl, n, rfl⟩ (by decide) (by decide) rfl rfl hQ hs
end
theorem lenL {prog : Program} {w : World} {A : Around} {E : Value → Shared → Prop} {s : Shared} {h₀ : Heap} {L l : Addr} {news : List (Addr × Obj)} {vs : List Value} {n k : Nat} {Q : Value → Shared → Prop} (N : News h₀ L s.heap news) (hm : (l, listOf (List.toArray vs) n) ∈ news) (hs : vs.length = k) (hf : k < 2 ^ 62)
    (h : Q (.int (k : Int) (s.toks + 1)) { s with toks := s.toks + 1 + 1 }) : wpAny (model prog w) A (call (.builtin "len") [.ref l]) Q E s := by
  have hl : s.heap.IsList l (List.toArray vs) := ⟨_, (N _ hm).1, rfl, n, rfl⟩
  have e : (List.toArray vs).size = k := by simpa using hs
  refine PyProof.Rows.len_list hl (by rw [e]; omega) ?_
  rw [e]
  exact h
theorem pair_at {news : List (Addr × Obj)} {vs : List Value} {prs : List (Nat × Nat)} {k : Nat} (hd : DatAll news vs (prs.map toD)) (hk : k < prs.length) :
    ∃ T t u, vs[k]? = some (.ref T) ∧ TupI news T (.int ((prs.getD k (0, 0)).1 : Int) t) (.int ((prs.getD k (0, 0)).2 : Int) u) := by
  obtain ⟨v, hv, hi⟩ := hd.get (k := k) (by rw [List.length_map]; exact hk)
  rw [List.getElem_map] at hi
  have e : prs.getD k (0, 0) = prs[k] := by simp [List.getD, hk]
  rw [e]
  unfold toD at hi
  generalize prs[k] = p at hi ⊢
  cases hi with
  | tuple hm hr =>
    cases hr with
    | cons h1 hr =>
      cases hr with
      | cons h2 hr =>
        cases hr
        cases h1
        cases h2
        exact ⟨_, _, _, hv, _, hm⟩
/-- how two pairs stand -/
def cst1 (prs : List (Nat × Nat)) (l s : Nat) : Int × Int :=
  if (prs.getD l (0, 0)).1 < (prs.getD s (0, 0)).1 then (0, 1) else if (prs.getD l (0, 0)).1 < (prs.getD s (0, 0)).2 then (1, 0) else (0, 0)
def cin (prs : List (Nat × Nat)) (l k : Nat) : Int × Int := (List.range k).foldl (fun acc s => (acc.1 + (cst1 prs l s).1, acc.2 + (cst1 prs l s).2)) (0, 0)
def cout (prs : List (Nat × Nat)) (k : Nat) : Int × Int := (List.range k).foldl (fun acc l => (acc.1 + (cin prs l l).1, acc.2 + (cin prs l l).2)) (0, 0)
theorem cin_succ (prs : List (Nat × Nat)) (l k : Nat) : cin prs l (k + 1) = ((cin prs l k).1 + (cst1 prs l k).1, (cin prs l k).2 + (cst1 prs l k).2) := by
  unfold cin
  rw [List.range_succ, List.foldl_append]
  rfl
theorem cout_succ (prs : List (Nat × Nat)) (k : Nat) : cout prs (k + 1) = ((cout prs k).1 + (cin prs k k).1, (cout prs k).2 + (cin prs k k).2) := by
  unfold cout
  rw [List.range_succ, List.foldl_append]
  rfl
def ov4 (m₀ : Str → Option Value) (later sooner : Option Value) (c n : Int) (tc tn : Tok) : Str → Option Value :=
  ov m₀ [(Str.ofString "later", later), (Str.ofString "sooner", sooner), (Str.ofString "crosses", some (.int c tc)), (Str.ofString "nests", some (.int n tn))]
def J3 (m₀ : Str → Option Value) (nx₀ : List (Addr × Obj)) (prs : List (Nat × Nat)) (i : Nat) (m : Str → Option Value) (nx : List (Addr × Obj)) : Prop :=
  ∃ ul us tc tn, m = ov4 m₀ ul us (cout prs i).1 (cout prs i).2 tc tn ∧ nx = nx₀
def J4 (m₀ : Str → Option Value) (ul : Option Value) (nx₀ : List (Addr × Obj)) (prs : List (Nat × Nat)) (l i : Nat) (m : Str → Option Value) (nx : List (Addr × Obj)) : Prop :=
  ∃ us tc tn, m = ov4 m₀ ul us ((cout prs l).1 + (cin prs l i).1) ((cout prs l).2 + (cin prs l i).2) tc tn ∧ nx = nx₀
theorem cin_bound (prs : List (Nat × Nat)) (l k : Nat) : 0 ≤ (cin prs l k).1 ∧ 0 ≤ (cin prs l k).2 ∧ (cin prs l k).1 ≤ k ∧ (cin prs l k).2 ≤ k := by
  induction k with
  | zero => simp [cin]
  | succ k ih =>
    rw [cin_succ]
    have : 0 ≤ (cst1 prs l k).1 ∧ 0 ≤ (cst1 prs l k).2 ∧ (cst1 prs l k).1 ≤ 1 ∧ (cst1 prs l k).2 ≤ 1 := by
      unfold cst1
      split
      · decide
      · split <;> decide
    dsimp only
    omega
theorem cout_bound (prs : List (Nat × Nat)) (k : Nat) : 0 ≤ (cout prs k).1 ∧ 0 ≤ (cout prs k).2 ∧ (cout prs k).1 ≤ (k * k : Nat) ∧ (cout prs k).2 ≤ (k * k : Nat) := by
  induction k with
  | zero => simp [cout]
  | succ k ih =>
    rw [cout_succ]
    have := cin_bound prs k k
    have e2 : (k + 1) * (k + 1) = k * k + k + k + 1 := by rw [Nat.add_mul, Nat.mul_add]; omega
    rw [e2]
    dsimp only
    omega
theorem n_ls : Str.ofString "later" ≠ Str.ofString "sooner" := by decide
theorem n_lc : Str.ofString "later" ≠ Str.ofString "crosses" := by decide
theorem n_ln : Str.ofString "later" ≠ Str.ofString "nests" := by decide
theorem n_sc : Str.ofString "sooner" ≠ Str.ofString "crosses" := by decide
theorem n_sn : Str.ofString "sooner" ≠ Str.ofString "nests" := by decide
theorem n_cn : Str.ofString "crosses" ≠ Str.ofString "nests" := by decide
theorem ov4_later {m₀ : Str → Option Value} {v ul us : Option Value} {c n : Int} {tc tn : Tok} : (fun y => if y = Str.ofString "later" then v else ov4 m₀ ul us c n tc tn y) = ov4 m₀ v us c n tc tn := by
  funext y
  simp only [ov4, ov]
  split <;> rfl
theorem ov4_sooner {m₀ : Str → Option Value} {v ul us : Option Value} {c n : Int} {tc tn : Tok} : (fun y => if y = Str.ofString "sooner" then v else ov4 m₀ ul us c n tc tn y) = ov4 m₀ ul v c n tc tn := by
  funext y
  simp only [ov4, ov]
  by_cases h1 : y = Str.ofString "sooner"
  · simp [h1, n_ls.symm]
  · simp [h1]
theorem ov4_crosses {m₀ : Str → Option Value} {ul us : Option Value} {c c' n : Int} {tc tc' tn : Tok} : (fun y => if y = Str.ofString "crosses" then some (.int c' tc') else ov4 m₀ ul us c n tc tn y) = ov4 m₀ ul us c' n tc' tn := by
  funext y
  simp only [ov4, ov]
  by_cases h1 : y = Str.ofString "crosses"
  · simp [h1, n_lc.symm, n_sc.symm]
  · simp [h1]
theorem ov4_nests {m₀ : Str → Option Value} {ul us : Option Value} {c n n' : Int} {tc tn tn' : Tok} : (fun y => if y = Str.ofString "nests" then some (.int n' tn') else ov4 m₀ ul us c n tc tn y) = ov4 m₀ ul us c n' tc tn' := by
  funext y
  simp only [ov4, ov]
  by_cases h1 : y = Str.ofString "nests"
  · simp [h1, n_ln.symm, n_sn.symm, n_cn.symm]
  · simp [h1]
theorem e_nests {m₀ : Str → Option Value} {v ul us : Option Value} {c n n' : Int} {tc tn tn' : Tok} : (fun y => if y = Str.ofString "nests" then some (.int n' tn') else if y = Str.ofString "sooner" then v else ov4 m₀ ul us c n tc tn y) = ov4 m₀ ul v c n' tc tn' := by
  have e := @ov4_sooner m₀ v ul us c n tc tn
  have e2 : ∀ y, (if y = Str.ofString "sooner" then v else ov4 m₀ ul us c n tc tn y) = ov4 m₀ ul v c n tc tn y := fun y => congrFun e y
  simp only [e2]
  exact ov4_nests
theorem e_crosses {m₀ : Str → Option Value} {v ul us : Option Value} {c c' n : Int} {tc tc' tn : Tok} : (fun y => if y = Str.ofString "crosses" then some (.int c' tc') else if y = Str.ofString "sooner" then v else ov4 m₀ ul us c n tc tn y) = ov4 m₀ ul v c' n tc' tn := by
  have e := @ov4_sooner m₀ v ul us c n tc tn
  have e2 : ∀ y, (if y = Str.ofString "sooner" then v else ov4 m₀ ul us c n tc tn y) = ov4 m₀ ul v c n tc tn y := fun y => congrFun e y
  simp only [e2]
  exact ov4_crosses
theorem ov4_eq {m₀ : Str → Option Value} {ul us : Option Value} {c c' n n' : Int} {tc tn : Tok} (h1 : c = c') (h2 : n = n') : ov4 m₀ ul us c n tc tn = ov4 m₀ ul us c' n' tc tn := by rw [h1, h2]
theorem cst1_nest {prs : List (Nat × Nat)} {l s : Nat} (h : (prs.getD l (0, 0)).1 < (prs.getD s (0, 0)).1) : cst1 prs l s = (0, 1) := by
  unfold cst1
  rw [if_pos h]
theorem cst1_cross {prs : List (Nat × Nat)} {l s : Nat} (h : ¬ (prs.getD l (0, 0)).1 < (prs.getD s (0, 0)).1) (h2 : (prs.getD l (0, 0)).1 < (prs.getD s (0, 0)).2) : cst1 prs l s = (1, 0) := by
  unfold cst1
  rw [if_neg h, if_pos h2]
theorem cst1_no {prs : List (Nat × Nat)} {l s : Nat} (h : ¬ (prs.getD l (0, 0)).1 < (prs.getD s (0, 0)).1) (h2 : ¬ (prs.getD l (0, 0)).1 < (prs.getD s (0, 0)).2) : cst1 prs l s = (0, 0) := by
  unfold cst1
  rw [if_neg h, if_neg h2]
theorem J3.start {m₀ : Str → Option Value} {nx : List (Addr × Obj)} {prs : List (Nat × Nat)} {tc tn : Tok} (hc : m₀ (Str.ofString "crosses") = some (.int 0 tc)) (hn : m₀ (Str.ofString "nests") = some (.int 0 tn)) : J3 m₀ nx prs 0 m₀ nx := by
  refine ⟨m₀ (Str.ofString "later"), m₀ (Str.ofString "sooner"), tc, tn, ?_, rfl⟩
  funext y
  show m₀ y = ov4 m₀ _ _ 0 0 tc tn y
  simp only [ov4, ov]
  repeat' split
  all_goals simp_all
theorem J4.start {m₀ : Str → Option Value} {ul us v : Option Value} {nx : List (Addr × Obj)} {prs : List (Nat × Nat)} {l : Nat} {tc tn : Tok} :
    J4 m₀ v nx prs l 0 (fun y => if y = Str.ofString "later" then v else ov4 m₀ ul us (cout prs l).1 (cout prs l).2 tc tn y) nx := by
  rw [ov4_later]
  exact ⟨us, tc, tn, by simp [cin], rfl⟩
theorem AtI.of {news : List (Addr × Obj)} {l : Addr} {vs : List Value} {n i : Nat} {v : Value} (hm : (l, listOf (List.toArray vs) n) ∈ news) (hx : vs[i]? = some v) (hi : i < 2 ^ 62) : AtI news l (i : Int) v :=
  ⟨vs, n, hm, by omega, by omega, by simpa using hx⟩
theorem AtI.ofN {h₀ h : Heap} {L l : Addr} {vs : List Value} {n i : Nat} {v : Value} {tl own own₂ : List (Addr × Obj)} (_N : News h₀ L h (((l, listOf (List.toArray vs) n) :: tl ++ own) ++ own₂)) (hx : vs[i]? = some v) (hi : i < 2 ^ 62) : AtI (((l, listOf (List.toArray vs) n) :: tl ++ own) ++ own₂) l (i : Int) v :=
  AtI.of (List.mem_append_left _ (List.mem_append_left _ (.head _))) hx hi
theorem TupI.ofN {h₀ h : Heap} {L l T : Addr} {vs : List Value} {n : Nat} {x y : Value} {tl own own₂ : List (Addr × Obj)} (_N : News h₀ L h (((l, listOf (List.toArray vs) n) :: tl ++ own) ++ own₂)) (ht : TupI tl T x y) : TupI (((l, listOf (List.toArray vs) n) :: tl ++ own) ++ own₂) T x y :=
  ht.mono fun p hp => List.mem_append_left _ (List.mem_append_left _ (.tail _ hp))
/-- what _law_meetings gives -/
def meetF (a : Str) : Int := (cout (outr a a.length) (outr a a.length).length).1 + 7 * (cout (outr a a.length) (outr a a.length).length).2
theorem newsSub {h₀ h : Heap} {L : Addr} {a b : List (Addr × Obj)} (N : News h₀ L h a) (hs : ∀ p ∈ b, p ∈ a) : News h₀ L h b := fun p hp => N p (hs p hp)
theorem J4.fin {h₀ h' : Heap} {L : Addr} {m₀ m' : Str → Option Value} {ul : Option Value} {nx own : List (Addr × Obj)} {prs : List (Nat × Nat)} {l i : Nat} {s₁ : Shared} {tk : Nat} (F : Fr h₀ L h' m') (N : News h₀ L h' (nx ++ own)) (hoff : OwnOff own (nx.map (·.1)))
    (he : ∃ us tc tn, m' = ov4 m₀ ul us ((cout prs l).1 + (cin prs l (i + 1)).1) ((cout prs l).2 + (cin prs l (i + 1)).2) tc tn) : InvEndG h₀ L (J4 m₀ ul nx prs l (i + 1)) own s₁ { s₁ with heap := h', toks := tk } := by
  obtain ⟨us, tc, tn, rfl⟩ := he
  exact InvEndG.intro (nx := nx) F N ⟨us, tc, tn, rfl, rfl⟩ hoff (fun p hp => List.mem_append_left _ hp) (fun p hp => List.mem_append_right _ hp)
theorem J3.fin {h₀ h' : Heap} {L : Addr} {m₀ : Str → Option Value} {ul us : Option Value} {nx own : List (Addr × Obj)} {prs : List (Nat × Nat)} {i : Nat} {s₁ : Shared} {tk : Nat} {tc tn : Tok} (F : Fr h₀ L h' (ov4 m₀ ul us ((cout prs i).1 + (cin prs i i).1) ((cout prs i).2 + (cin prs i i).2) tc tn)) (N : News h₀ L h' (nx ++ own)) (hoff : OwnOff own (nx.map (·.1))) :
    InvEndG h₀ L (J3 m₀ nx prs (i + 1)) own s₁ { s₁ with heap := h', toks := tk } :=
  InvEndG.intro (nx := nx) F N ⟨ul, us, tc, tn, by rw [cout_succ], rfl⟩ hoff (fun p hp => List.mem_append_left _ hp) (fun p hp => List.mem_append_right _ hp)

end Mine
end
section
set_option maxRecDepth 100000
set_option maxHeartbeats 4000000
namespace Mine
open PySem PySem.W PyProof.Rows PySem.Calls
local macro_rules | `(tactic| walk_at "subscriptTail") => `(tactic| ((with_reducible show wpAny _ _ (subscriptTail _ _ (Value.ref _) (Value.int _ _)) _ _ _); first
  | (with_unfolding_all refine' it_l ?k1 ?k2 ?_ ?k3; (case k1 => k_asm); (case k2 => with_reducible assumption); (case k3 => with_unfolding_all rfl); k_whole)
  | ((with_reducible show wpAny _ _ (subscriptTail _ _ (Value.ref _) (Value.int 0 _)) _ _ _); with_unfolding_all refine' it_t0 ?k1 ?k2 ?_ ?k3; (case k1 => k_asm); (case k2 => with_reducible assumption); (case k3 => with_unfolding_all rfl); k_whole)
  | ((with_reducible show wpAny _ _ (subscriptTail _ _ (Value.ref _) (Value.int 1 _)) _ _ _); with_unfolding_all refine' it_t1 ?k1 ?k2 ?_ ?k3; (case k1 => k_asm); (case k2 => with_reducible assumption); (case k3 => with_unfolding_all rfl); k_whole)))
theorem c_meet (w : World) (mean : ExcName → Option Value) (mg mb : Str → Option Value) (news : List (Addr × Obj)) (a : Str) (t : Tok) (ha : a.length ≤ 1000) :
    Ctr 10 w mean mg mb 117 news [.str a t] (fun v ns => (∃ t, v = .int (meetF a) t) ∧ ns = news) := by
  unfold Ctr
  k_fill
  intros; rename_i hret
  refine wpAny_call ?_
  (k_dflt (refine' code_def ?k1 ?k2 ?k3 ?k4 ?k5 ?kA ?kF ?kK ?k6 ?k7 ?k8 ?k9 ?kB ?_ ?c2 ?c3 ?c4 ?c5; (case kA => exact rfl); (case kF => exact rfl); (case kK => first | exact rfl | assumption); (case k1 => k_asm); (case k2 => k_asm); (case k3 => k_asm); (case k4 => k_asm); (case k5 => k_asm); (case k6 => k_is); (case k7 => k_is); (case k8 => ktr_room); (case k9 => exact BindsTo.of_eq rfl); (case c5 => decide); (case kB => exact locs rfl); (case c2 => exact rfl); (case c3 => exact rfl); (case c4 => exact rfl); k_whole; intro g' L' h' FG' F' N' B' X' T'; (try dsimp only); (try k_lift B'); (try k_fold)))
  (repeat' ((fail_if_success (first | (with_reducible show wpAny _ _ (exec (Stmt.For _ _ _ _ _) _) _ _ _))); first | (k_unfold; (try dsimp only)) | (k_end; kc_close) | walk1 | (dsimp only; walk1) | (leave1; walk_say "STEP leave1"; (try dsimp only)) | fail "no step"))
  ((rename Fr _ _ _ _ => lF'); (with_unfolding_all refine' For_invVF lF' ?k1 ?k2 ?_; (case k1 => exact rfl); (case k2 => exact rfl); k_whole))
  (repeat' ((fail_if_success (first | (with_reducible show wpAny _ _ (pyIter _) _ _ _))); first | (k_unfold; (try dsimp only)) | (k_end; kc_close) | walk1 | (dsimp only; walk1) | (leave1; walk_say "STEP leave1"; (try dsimp only)) | fail "no step"))
  (rename Fr _ _ _ _ => F'); (rename News _ _ _ _ => N'); (rename IsRange _ _ _ _ _ _ _ _ => R')
  refine forRange (J1 _ _ _ (outr a)) R' (by omega) (by omega) F' N' (J1.start rfl (by assumption)) rfl ?_ ?_
  · rintro i ti m₁ nx h tk own hi hoff ⟨us, ub, vs, n, tl, rfl, rfl, hcst, htl, hd⟩ F N
    (repeat' ((fail_if_success (first | (with_reducible show wpAny _ _ (exec (Stmt.For _ _ _ _ _) _) _ _ _))); first | (k_unfold; (try dsimp only)) | (k_end; kc_close) | walk1 | (dsimp only; walk1) | (leave1; walk_say "STEP leave1"; (try dsimp only)) | fail "no step"))
    ((rename Fr _ _ _ _ => lF'); (with_unfolding_all refine' For_invVF lF' ?k1 ?k2 ?_; (case k1 => exact rfl); (case k2 => exact rfl); k_whole))
    (repeat' ((fail_if_success (first | (with_reducible show wpAny _ _ (pyIter _) _ _ _))); first | (k_unfold; (try dsimp only)) | (k_end; kc_close) | walk1 | (dsimp only; walk1) | (leave1; walk_say "STEP leave1"; (try dsimp only)) | fail "no step"))
    (rename Fr _ _ _ _ => F'); (rename News _ _ _ _ => N'); (rename IsRange _ _ _ _ _ _ _ _ => R')
    refine forRange (J2 _ _ tl own (fun k => outr a i ++ inn a i k)) R' (by omega) (by omega) F' N' (J2.start hoff htl hd (by simp [inn])) rfl ?_ ?_
    · rintro j tj m₂ nx₂ h₂ tk₂ own₂ hj hoff₂ ⟨ub₂, vs₂, n₂, add, rfl, rfl, h1, h2, hd₂⟩ F₂ N₂
      have hoff3 := J2.off hoff₂ h1
      replace N₂ : News g' _ h₂ ((_, listOf (List.toArray vs₂) n₂) :: ((add ++ (tl ++ own)) ++ own₂)) := N₂
      have hlen : vs₂.length ≤ 2000000 := by
        rw [hd₂.length, List.length_map, List.length_append]
        have e1 := outr_len a i
        have e2 := inn_len a i j
        have e3 : i * i ≤ 1000 * 1000 := Nat.mul_le_mul (by omega) (by omega)
        omega
      have hja : (j : Int) < a.length := by omega
      (repeat' ((fail_if_success (first | (with_reducible show wpAny _ _ (call (Value.ref _) _) _ _ _) | (with_reducible show wpAny _ _ (exec (Stmt.For _ _ _ _ _) _) _ _ _))); first | (k_unfold; (try dsimp only)) | (k_end; kc_close) | walk1 | (dsimp only; walk1) | (leave1; walk_say "STEP leave1"; (try dsimp only)) | fail "no step"))
      (k_dflt (refine' Ctr.use (c_cost w mean mg mb _ _ _ _ _ (by omega) (by omega)) ?k1 ?k2 ?k3 ?k4 ?k5 ?k6 ?k7 ?k8 ?k9 ?k10 ?kR; (case k1 => k_asm); (case k2 => k_asm); (case k3 => k_asm); (case k4 => k_asm); (case k5 => k_asm); (case k6 => assumption); (case k7 => assumption); (case k8 => first | exact rfl | assumption); (case k9 => ktr_room); (case k10 => ktr_units)))
      case kR =>
        intro v ns h3 tk3 F3 N3 hr
        obtain ⟨⟨tc, rfl⟩, rfl⟩ := hr
        clear F₂ N₂
        (repeat' ((fail_if_success (first | (with_reducible show wpAny _ _ (call (Value.ref _) _) _ _ _) | (with_reducible show wpAny _ _ (exec (Stmt.For _ _ _ _ _) _) _ _ _) | (with_reducible show wpAny _ _ (pyIter _) _ _ _) | (with_reducible show wpAny _ _ (exec (Stmt.While _ _ _ _) _) _ _ _) | (with_reducible show wpAny _ _ (eval (PySem.Expr.ListComp _ _ _ _) _) _ _ _) | (with_reducible show wpAny _ _ (exec (Stmt.FunctionDef _ _ _ _ _ _ _ _ _ _) _) _ _ _))); first | (k_unfold; (try dsimp only)) | (k_end; kc_close) | walk1 | (dsimp only; walk1) | (leave1; walk_say "STEP leave1"; (try dsimp only)) | fail "no step"))
        · exact J2.endYes (by assumption) (by assumption) h1 h2 hoff₂ (by assumption) hd₂ (by rw [inn_yes (by simp [pr, *])]; simp)
        · exact J2.endNo (by assumption) (by assumption) h1 h2 hoff₂ hd₂ (by rw [inn_no (by simp [pr, *])])
    · rintro m₂ nx₂ h₂ tk₂ ⟨ub₂, vs₂, n₂, add, rfl, rfl, h1, h2, hd₂⟩ F₂ N₂
      dsimp only
      k_steps
      exact J1.end F₂ N₂ hcst h1 h2 hoff hd₂ (outr_succ a i)
  · rintro m₁ nx h tk ⟨us, ub, vs, n, tl, rfl, rfl, hcst, htl, hd⟩ F N
    dsimp only
    (repeat' ((fail_if_success (first | (with_reducible show wpAny _ _ (exec (Stmt.For _ _ _ _ _) _) _ _ _))); first | (k_unfold; (try dsimp only)) | (k_end; kc_close) | walk1 | (dsimp only; walk1) | (leave1; walk_say "STEP leave1"; (try dsimp only)) | fail "no step"))
    ((rename Fr _ _ _ _ => lF'); (with_unfolding_all refine' For_invVF lF' ?k1 ?k2 ?_; (case k1 => exact rfl); (case k2 => exact rfl); k_whole))
    (repeat' ((fail_if_success (first | (with_reducible show wpAny _ _ (pyIter _) _ _ _))); first | (k_unfold; (try dsimp only)) | (k_end; kc_close) | walk1 | (dsimp only; walk1) | (leave1; walk_say "STEP leave1"; (try dsimp only)) | fail "no step"))
    have hvl : vs.length = (outr a (a.length : Int).toNat).length := by rw [hd.length, List.length_map]
    generalize hprs : outr a (a.length : Int).toNat = prs at hd hvl
    have hpl : prs.length ≤ 1000000 := by
      rw [← hprs]
      have e1 := outr_len a (a.length : Int).toNat
      have e3 : (a.length : Int).toNat * (a.length : Int).toNat ≤ 1000 * 1000 := Nat.mul_le_mul (by omega) (by omega)
      omega
    (rename News _ _ _ _ => N')
    refine lenL N' (.head _) hvl (by omega) ?_
    (repeat' ((fail_if_success (first | (with_reducible show wpAny _ _ (pyIter _) _ _ _))); first | (k_unfold; (try dsimp only)) | (k_end; kc_close) | walk1 | (dsimp only; walk1) | (leave1; walk_say "STEP leave1"; (try dsimp only)) | fail "no step"))
    (rename Fr _ _ _ _ => F'); (rename News _ _ _ _ => N'); (rename IsRange _ _ _ _ _ _ _ _ => R')
    refine forRange (J3 _ _ prs) R' (by omega) (by omega) F' N' (J3.start rfl rfl) rfl ?_ ?_
    · rintro i ti m₁ nx h tk own hi hoff ⟨ul, us, tc, tn, rfl, rfl⟩ F N
      (repeat' ((fail_if_success (first | (with_reducible show wpAny _ _ (exec (Stmt.For _ _ _ _ _) _) _ _ _))); first | (k_unfold; (try dsimp only)) | (k_end; kc_close) | walk1 | (dsimp only; walk1) | (leave1; walk_say "STEP leave1"; (try dsimp only)) | fail "no step"))
      ((rename Fr _ _ _ _ => lF'); (with_unfolding_all refine' For_invVF lF' ?k1 ?k2 ?_; (case k1 => exact rfl); (case k2 => exact rfl); k_whole))
      (repeat' ((fail_if_success (first | (with_reducible show wpAny _ _ (pyIter _) _ _ _))); first | (k_unfold; (try dsimp only)) | (k_end; kc_close) | walk1 | (dsimp only; walk1) | (leave1; walk_say "STEP leave1"; (try dsimp only)) | fail "no step"))
      (rename Fr _ _ _ _ => F'); (rename News _ _ _ _ => N'); (rename IsRange _ _ _ _ _ _ _ _ => R')
      refine forRange (J4 _ _ _ prs i) R' (by omega) (by omega) F' N' J4.start rfl ?_ ?_
      · rintro j tj m₂ nx₂ h₂ tk₂ own₂ hj hoff₂ ⟨us₂, tc₂, tn₂, rfl, rfl⟩ F₂ N₂
        obtain ⟨T1, t1, u1, hx1, hT1⟩ := pair_at hd (k := i) (by omega)
        obtain ⟨T2, t2, u2, hx2, hT2⟩ := pair_at hd (k := j) (by omega)
        have hb1 := cout_bound prs i
        have hb2 := cin_bound prs i j
        have hA1 := AtI.ofN N₂ hx1 (by omega)
        have hA2 := AtI.ofN N₂ hx2 (by omega)
        replace hT1 := TupI.ofN N₂ hT1
        replace hT2 := TupI.ofN N₂ hT2
        (repeat' ((fail_if_success (first | (with_reducible show wpAny _ _ (call (Value.ref _) _) _ _ _) | (with_reducible show wpAny _ _ (exec (Stmt.For _ _ _ _ _) _) _ _ _) | (with_reducible show wpAny _ _ (pyIter _) _ _ _) | (with_reducible show wpAny _ _ (exec (Stmt.While _ _ _ _) _) _ _ _) | (with_reducible show wpAny _ _ (eval (PySem.Expr.ListComp _ _ _ _) _) _ _ _) | (with_reducible show wpAny _ _ (exec (Stmt.FunctionDef _ _ _ _ _ _ _ _ _ _) _) _ _ _))); first | (k_unfold; (try dsimp only)) | (k_end; kc_close) | walk1 | (dsimp only; walk1) | (leave1; walk_say "STEP leave1"; (try dsimp only)) | fail "no step"))
        · exact J4.fin (by assumption) (by assumption) hoff₂ ⟨_, _, _, e_nests.trans (ov4_eq (by rw [cin_succ, cst1_nest (by omega)]; simp) (by rw [cin_succ, cst1_nest (by omega)]; dsimp only; omega))⟩
        · exact J4.fin (by assumption) (by assumption) hoff₂ ⟨_, _, _, e_crosses.trans (ov4_eq (by rw [cin_succ, cst1_cross (by omega) (by omega)]; dsimp only; omega) (by rw [cin_succ, cst1_cross (by omega) (by omega)]; simp))⟩
        · exact J4.fin (by assumption) (by assumption) hoff₂ ⟨_, _, _, ov4_sooner.trans (ov4_eq (by rw [cin_succ, cst1_no (by omega) (by omega)]; simp) (by rw [cin_succ, cst1_no (by omega) (by omega)]; simp))⟩
      · rintro m₂ nx₂ h₂ tk₂ ⟨us₂, tc₂, tn₂, rfl, rfl⟩ F₂ N₂
        dsimp only
        k_steps
        exact J3.fin F₂ N₂ hoff
    · rintro m₁ nx h tk ⟨ul, us, tc, tn, rfl, rfl⟩ F N
      have hb1 := cout_bound prs (prs.length : Int).toNat
      dsimp only
      k_steps
      exact hret _ news _ _ (by assumption) (newsSub (by assumption) fun p hp => .tail _ (hcst p hp)) ⟨⟨_, by unfold meetF; rw [← hprs]; rfl⟩, rfl⟩
end Mine
end
section
set_option maxRecDepth 100000
set_option maxHeartbeats 8000000
namespace Mine
open PySem PySem.W PyProof.Rows PySem.Calls
def xo (x y : Nat) : Nat := (x ||| y) - (x &&& y)
theorem and_le_or (x y : Nat) : x &&& y ≤ x ||| y := Nat.le_trans Nat.and_le_left Nat.left_le_or
theorem xo_eq (x y : Nat) : Builtin.bitXor (x : Int) (y : Int) = (xo x y : Int) := by
  have h := and_le_or x y
  have e1 : decide ((0 : Int) ≤ (x : Int)) = true := by simp
  have e2 : decide ((0 : Int) ≤ (y : Int)) = true := by simp
  have e3 : ∀ z : Nat, decide ((0 : Int) ≤ Builtin.bitNot (z : Int)) = false := by intro z; simp [Builtin.bitNot]; omega
  have e4 : ∀ z : Int, Builtin.bitNot (Builtin.bitNot z) = z := by intro z; simp only [Builtin.bitNot]; omega
  unfold Builtin.bitXor Builtin.bitOr
  have f1 : Builtin.bitAnd (x : Int) (y : Int) = ((x &&& y : Nat) : Int) := by unfold Builtin.bitAnd; rw [e1, e2]; simp
  have f2 : Builtin.bitAnd (Builtin.bitNot (x : Int)) (Builtin.bitNot (y : Int)) = Builtin.bitNot ((x ||| y : Nat) : Int) := by unfold Builtin.bitAnd; rw [e3, e3, e4, e4]; simp
  rw [f1, f2, e4, xo]
  omega
theorem xo_lt {x y b : Nat} (hx : x < 2 ^ b) (hy : y < 2 ^ b) : xo x y < 2 ^ b := Nat.lt_of_le_of_lt (Nat.sub_le ..) (Nat.or_lt_two_pow hx hy)
theorem low_lt {x k b : Nat} (hx : x < 2 ^ b) : xo x (x / 2 ^ k * 2 ^ k) < 2 ^ b := xo_lt hx (Nat.lt_of_le_of_lt (Nat.div_mul_le_self ..) hx)
theorem up_lt {x k b : Nat} (hx : x < 2 ^ b) : x / 2 ^ k < 2 ^ b := Nat.lt_of_le_of_lt (Nat.div_le_self ..) hx
section
variable {prog : Program} {w : World} {A : Around} {E : Value → Shared → Prop} {s : Shared} {h₀ : Heap} {L : Addr} {m : Str → Option Value} {news : List (Addr × Obj)}
theorem foldl_one (v : Value) : ∀ (k : Nat) (acc : Array Value), List.foldl (fun x1 x2 => x1 ++ x2) acc (List.replicate k #[v]) = acc ++ (List.replicate k v).toArray
  | 0, acc => by simp
  | k + 1, acc => by
    rw [List.replicate_succ, List.foldl_cons, foldl_one v k, List.replicate_succ]
    apply Array.ext'
    simp
theorem mulL {l : Addr} {v : Value} {n k : Nat} {x : Int} {u : Tok} {Q : Value → Shared → Prop} (F : Fr h₀ L s.heap m) (N : News h₀ L s.heap news) (hm : (l, listOf #[v] n) ∈ news) (hx : x = (k : Int)) (h1 : k ≤ 1000)
    (h : ∀ l' h', Fr h₀ L h' m → News h₀ L h' ((l', listOf (List.toArray (List.replicate k v)) 0) :: news) → (∀ p ∈ news, p.1 < l') → Q (.ref l') { s with heap := h' }) :
    wpAny (model prog w) A (binaryOp .Mult (.ref l) (.int x u)) Q E s := by
  subst hx
  refine mul_list F N (N _ hm).1 (by omega) (by omega) (by simp; omega) fun h' F' N' => ?_
  refine h _ h' F' ?_ fun p hp => Heap.lt_size (N p hp).1
  have e := foldl_one v k #[]
  simp only [List.isEmpty_toArray, List.isEmpty_cons, Bool.false_eq_true, if_false, Int.toNat_natCast, e] at N'
  simpa [W.listOf] using N'
theorem truthyL {l : Addr} {vs : List Value} {n : Nat} {Q : Bool → Shared → Prop} (N : News h₀ L s.heap news) (hm : (l, listOf (List.toArray vs) n) ∈ news) (hs : 0 < vs.length) (hf : vs.length < 2 ^ 62)
    (h : Q true { s with toks := s.toks + 1 + 1 }) : wpAny (model prog w) A (truthy (.ref l)) Q E s := by
  have hl : s.heap.IsList l (List.toArray vs) := ⟨_, (N _ hm).1, rfl, n, rfl⟩
  have e : (List.toArray vs).size = vs.length := by simp
  refine PySem.wpAny_truthy_list hl (by rw [e]; omega) ?_
  have e2 : (!(List.toArray vs).isEmpty) = true := by
    cases vs with
    | nil => simp at hs
    | cons a b => rfl
  rw [e2]
  exact h
theorem setL_some : ∀ {vs : List Value} {k : Nat} {v : Value}, k < vs.length → ki_setL vs k v = some (vs.set k v)
  | [], _, _, h => absurd h (Nat.not_lt_zero _)
  | _ :: _, 0, _, _ => rfl
  | x :: r, k + 1, v, h => by
    unfold ki_setL
    rw [setL_some (vs := r) (Nat.lt_of_succ_lt_succ h), List.set_cons_succ]
theorem shrN {x k : Nat} {X K : Int} {t u : Tok} {Q : Value → Shared → Prop} (hX : X = (x : Int)) (hK : K = (k : Int)) (h : Q (.int ((x / 2 ^ k : Nat) : Int) s.toks) { s with toks := s.toks + 1 }) : wpAny (model prog w) A (binaryOp .RShift (.int X t) (.int K u)) Q E s := by
  subst hX hK
  refine rshift_int (by omega) ?_
  rw [Int.fdiv_eq_ediv_of_nonneg _ (by exact Int.le_of_lt (Int.pow_pos (by decide)))]
  have e : (x : Int) / 2 ^ (k : Int).toNat = ((x / 2 ^ k : Nat) : Int) := by simp
  rw [e]
  exact h
theorem bits_lt {x : Nat} (b : Nat) (h : x < 2 ^ b) : Builtin.Int.intBits (x : Int) ≤ b := by
  unfold Builtin.Int.intBits
  split
  · omega
  · next h0 =>
    have h1 : x ≠ 0 := by intro q; subst q; simp at h0
    have := (Nat.log2_lt h1).mpr h
    simp at this ⊢
    omega
theorem shlN {x k : Nat} {X K : Int} {t u : Tok} {Q : Value → Shared → Prop} (hX : X = (x : Int)) (hK : K = (k : Int)) (hx : x < 2 ^ 1000) (hk : k ≤ 100000) (h : Q (.int ((x * 2 ^ k : Nat) : Int) s.toks) { s with toks := s.toks + 1 }) : wpAny (model prog w) A (binaryOp .LShift (.int X t) (.int K u)) Q E s := by
  subst hX hK
  have hb := bits_lt 1000 hx
  refine lshift_int (by omega) (by omega) ?_
  have e : (x : Int) * 2 ^ (k : Int).toNat = ((x * 2 ^ k : Nat) : Int) := by simp
  rw [e]
  exact h
theorem xorN {x y : Nat} {X Y : Int} {t u : Tok} {Q : Value → Shared → Prop} (hX : X = (x : Int)) (hY : Y = (y : Int)) (h : Q (.int ((xo x y : Nat) : Int) s.toks) { s with toks := s.toks + 1 }) : wpAny (model prog w) A (binaryOp .BitXor (.int X t) (.int Y u)) Q E s := by
  subst hX hY
  refine xor_int ?_
  rw [xo_eq]
  exact h
theorem setLN {l : Addr} {vs : List Value} {n k : Nat} {K : Int} {v : Value} {rest : List (Addr × Obj)} {u : Tok} {Q : Unit → Shared → Prop} (F : Fr h₀ L s.heap m) (N : News h₀ L s.heap ((l, listOf (List.toArray vs) n) :: rest)) (ho : ∀ p ∈ rest, p.1 ≠ l) (hK : K = (k : Int)) (hk : k < vs.length) (hl : vs.length ≤ 1000)
    (h : ∀ h', Fr h₀ L h' m → News h₀ L h' ((l, listOf (List.toArray (vs.set k v)) n) :: rest) → Q () { s with heap := h' }) : wpAny (model prog w) A (setItem (.ref l) (.int K u) v) Q E s := by
  subst hK
  exact ki_set F N (by omega) (by omega) (by simpa using setL_some hk) (Upd.head ho) h
end
theorem IntsAre.set : ∀ {vs : List Value} {ns : List Int} (_ : IntsAre vs ns) (k : Nat) (x : Int) (t : Tok), IntsAre (vs.set k (.int x t)) (ns.set k x)
  | _, _, .nil, _, _, _ => .nil
  | _, _, .cons n t h, 0, x, u => .cons x u h
  | _, _, .cons n t h, k + 1, x, u => .cons n t (IntsAre.set h k x u)
theorem intsAre_rep (t : Tok) : ∀ k : Nat, IntsAre (List.replicate k (Value.int 0 t)) (List.replicate k 0)
  | 0 => .nil
  | k + 1 => .cons 0 t (intsAre_rep t k)
theorem IntsAre.len {vs : List Value} {ns : List Int} (h : IntsAre vs ns) : vs.length = ns.length := by
  induction h with
  | nil => rfl
  | cons n t h ih => simp [ih]
/-- _int2digits's inner -/
def inF (n : Nat) : Nat → Nat → Nat → Nat → List Int → List Int
  | 0, x, lo, _, zs => zs.set lo (x : Int)
  | d + 1, x, lo, hi, zs => if lo + 1 = hi then zs.set lo (x : Int) else
      inF n d (x / 2 ^ (((lo + hi) / 2 - lo) * n)) ((lo + hi) / 2) hi (inF n d (xo x (x / 2 ^ (((lo + hi) / 2 - lo) * n) * 2 ^ (((lo + hi) / 2 - lo) * n))) lo ((lo + hi) / 2) zs)
theorem allLt_lt {d : Addr} : ∀ {l : List (Addr × Obj)}, AllLt d l → ∀ p ∈ l, p.1 < d
  | [], _, _, h => nomatch h
  | _ :: r, ⟨h1, h2⟩, p, h => by
    rcases List.mem_cons.mp h with rfl | h
    · exact h1
    · exact allLt_lt h2 p h
theorem allLt_ne {d b : Addr} {l : List (Addr × Obj)} (h : AllLt d l) (hb : @LE.le Nat _ d b) : ∀ p ∈ l, p.1 ≠ b := fun p hp => Nat.ne_of_lt (Nat.lt_of_lt_of_le (allLt_lt h p hp) hb)
/-- the statement within the def at place i of the top, at place j of its body -/
def inner (i j : Nat) : Stmt := match stm i with
  | .FunctionDef _ _ b _ _ _ _ _ _ _ => (b[j]?).getD (.Pass ⟨0, 0, 0, 0⟩)
  | _ => .Pass ⟨0, 0, 0, 0⟩
/-- a def made in a call -/
def fnObj (st : Stmt) (qual : Str) (cl : List (Str × Addr)) (doc pm : Value) (c : Addr) (ct : Value) : Obj := match st with
  | .FunctionDef n ps b _ _ _ sc _ _ _ => fnMade n qual ps b sc cl doc pm c ct
  | _ => { cls := .none, data := .fields #[] }
end Mine
end
section
set_option maxRecDepth 100000
set_option maxHeartbeats 8000000
namespace Mine
open PySem PySem.W PyProof.Rows PySem.Calls
/-- the ledger of _int2digits's inner -/
def led1 (f c' aI aD aN : Addr) (oc oI oD oN : Obj) (qual : Str) (doc pm ct : Value) (rest : List (Addr × Obj)) : List (Addr × Obj) :=
  (f, fnObj (inner 8 1) qual [(Str.ofString "n", aN), (Str.ofString "inner", aI), (Str.ofString "a_digits", aD)] doc pm c' ct) :: (c', oc) :: (aI, oI) :: (aD, oD) :: (aN, oN) :: rest
theorem led1_off {f c' aI aD aN l : Addr} {oc oI oD oN : Obj} {qual : Str} {doc pm ct : Value} {rest : List (Addr × Obj)} (hoff : ∀ p ∈ rest, p.1 < l) (hne : aI < l ∧ aD < l ∧ aN < l ∧ l ≠ c' ∧ l ≠ f) : ∀ p ∈ led1 f c' aI aD aN oc oI oD oN qual doc pm ct rest, p.1 ≠ l := by
  obtain ⟨h1, h2, h3, h4, h5⟩ := hne
  intro p hp
  rcases List.mem_cons.mp hp with rfl | hp
  · exact Ne.symm h5
  rcases List.mem_cons.mp hp with rfl | hp
  · exact Ne.symm h4
  rcases List.mem_cons.mp hp with rfl | hp
  · exact Nat.ne_of_lt h1
  rcases List.mem_cons.mp hp with rfl | hp
  · exact Nat.ne_of_lt h2
  rcases List.mem_cons.mp hp with rfl | hp
  · exact Nat.ne_of_lt h3
  exact Nat.ne_of_lt (hoff p hp)
theorem inF_len (n : Nat) : ∀ (d x lo hi : Nat) (zs : List Int), (inF n d x lo hi zs).length = zs.length
  | 0, x, lo, hi, zs => List.length_set
  | d + 1, x, lo, hi, zs => by
    unfold inF
    split
    · exact List.length_set
    · rw [inF_len n d, inF_len n d]
theorem c_in1_5 (w : World) (mean : ExcName → Option Value) (mg mb : Str → Option Value) (tn : Tok) (f c' l aI aD aN : Addr) (oc oI oD oN : Obj) (vs : Array Value) (qual : Str) (tq : Tok) (doc pm ct : Value) (rest : List (Addr × Obj))
   (hoI : oI.data = .cell (some (.ref f))) (hoD : oD.data = .cell (some (.ref l))) (hoN : oN.data = .cell (some (.int 5 tn))) (hd : oc.data = .fields vs) (hv : vs[1]? = some (.str qual tq)) (hoff : ∀ p ∈ rest, p.1 < l) (hne : aI < l ∧ aD < l ∧ aN < l ∧ l ≠ c' ∧ l ≠ f) (nn : Nat) :
   ∀ (d : Nat) (X LO HI : Int) (x lo hi : Nat) (t u v : Tok) (ds : List Value) (zs : List Int), IntsAre ds zs → X = x → LO = lo → HI = hi → lo < hi → hi ≤ ds.length → hi ≤ lo + 2 ^ d → ds.length ≤ 64 → x < 2 ^ 1000 → 
   Ctr (d + 3) w mean mg mb f ((l, listOf (List.toArray ds) nn) :: led1 f c' aI aD aN oc oI oD oN qual doc pm ct rest)
     [.int X t, .int LO u, .int HI v] (fun v ns => v = .none ∧ ∃ ds', ns = (l, listOf (List.toArray ds') nn) :: led1 f c' aI aD aN oc oI oD oN qual doc pm ct rest ∧ IntsAre ds' (inF 5 d x lo hi zs)) := by
  have hro := led1_off (oc := oc) (oI := oI) (oD := oD) (oN := oN) (qual := qual) (doc := doc) (pm := pm) (ct := ct) hoff hne
  intro d
  induction d with
  | zero =>
    intro X LO HI x lo hi t u v ds zs hI h0 h1 h2 h3 h4 h5 h6 h7
    have h5' : hi = lo + 1 := by omega
    clear h5
    subst h5' h0 h1 h2
    unfold Ctr
    k_fill
    intros; rename_i hret
    refine wpAny_call ?_
    (k_dflt (refine' code_nest ?k1 ?k2 ?k3 ?k4 ?k5 ?kA ?kF ?kK ?k6 ?k7 ?k8 ?k9 ?kB ?_ ?c2 ?c3 ?c4 ?c5; (case kA => exact rfl); (case kF => exact rfl); (case kK => first | exact rfl | assumption); (case k1 => k_asm); (case k2 => k_asm); (case k3 => k_asm); (case k4 => k_asm); (case k5 => k_asm); (case k6 => k_mem); (case k7 => exact codeRec_news (by k_asm) (by k_mem) (by assumption) (by assumption)); (case k8 => ktr_room); (case k9 => exact BindsTo.of_eq rfl); (case c5 => decide); (case kB => exact locs rfl); (case c2 => exact rfl); (case c3 => exact rfl); (case c4 => exact rfl); k_whole; intro g' L' h' FG' F' N' B' X' T'; (try dsimp only); (try k_lift B'); (try k_fold)))
    (repeat' ((fail_if_success (first | (with_reducible show wpAny _ _ (call (Value.ref _) _) _ _ _) | (with_reducible show wpAny _ _ (setItem (Value.ref _) (Value.int _ _) _) _ _ _) | (with_reducible show wpAny _ _ (call (Value.builtin _) [Value.ref _]) _ _ _) | (with_reducible show wpAny _ _ (binaryOp Operator.RShift (Value.int _ _) (Value.int _ _)) _ _ _) | (with_reducible show wpAny _ _ (binaryOp Operator.LShift (Value.int _ _) (Value.int _ _)) _ _ _) | (with_reducible show wpAny _ _ (binaryOp Operator.BitXor (Value.int _ _) (Value.int _ _)) _ _ _))); first | (k_unfold; (try dsimp only)) | (k_end; kc_close) | walk1 | (dsimp only; walk1) | (leave1; walk_say "STEP leave1"; (try dsimp only)) | fail "no step"))
    · (rename Fr _ _ _ _ => F'); (rename News _ _ _ _ => N')
      refine setLN F' N' hro rfl (by omega) (by omega) ?_
      intro h9 F9 N9
      clear F' N'
      k_steps
      exact hret _ _ _ _ (by assumption) (by assumption) ⟨rfl, _, rfl, IntsAre.set hI _ _ _⟩
    all_goals (exfalso; omega)
  | succ d ih =>
    intro X LO HI x lo hi t u v ds zs hI h0 h1 h2 h3 h4 h5 h6 h7
    have h5' : hi ≤ lo + 2 ^ d * 2 := by omega
    clear h5
    subst h0 h1 h2
    unfold Ctr
    k_fill
    intros; rename_i hret
    refine wpAny_call ?_
    (k_dflt (refine' code_nest ?k1 ?k2 ?k3 ?k4 ?k5 ?kA ?kF ?kK ?k6 ?k7 ?k8 ?k9 ?kB ?_ ?c2 ?c3 ?c4 ?c5; (case kA => exact rfl); (case kF => exact rfl); (case kK => first | exact rfl | assumption); (case k1 => k_asm); (case k2 => k_asm); (case k3 => k_asm); (case k4 => k_asm); (case k5 => k_asm); (case k6 => k_mem); (case k7 => exact codeRec_news (by k_asm) (by k_mem) (by assumption) (by assumption)); (case k8 => ktr_room); (case k9 => exact BindsTo.of_eq rfl); (case c5 => decide); (case kB => exact locs rfl); (case c2 => exact rfl); (case c3 => exact rfl); (case c4 => exact rfl); k_whole; intro g' L' h' FG' F' N' B' X' T'; (try dsimp only); (try k_lift B'); (try k_fold)))
    (repeat' ((fail_if_success (first | (with_reducible show wpAny _ _ (call (Value.ref _) _) _ _ _) | (with_reducible show wpAny _ _ (setItem (Value.ref _) (Value.int _ _) _) _ _ _) | (with_reducible show wpAny _ _ (call (Value.builtin _) [Value.ref _]) _ _ _) | (with_reducible show wpAny _ _ (binaryOp Operator.RShift (Value.int _ _) (Value.int _ _)) _ _ _) | (with_reducible show wpAny _ _ (binaryOp Operator.LShift (Value.int _ _) (Value.int _ _)) _ _ _) | (with_reducible show wpAny _ _ (binaryOp Operator.BitXor (Value.int _ _) (Value.int _ _)) _ _ _))); first | (k_unfold; (try dsimp only)) | (k_end; kc_close) | walk1 | (dsimp only; walk1) | (leave1; walk_say "STEP leave1"; (try dsimp only)) | fail "no step"))
    · (rename Fr _ _ _ _ => F'); (rename News _ _ _ _ => N')
      refine setLN F' N' hro rfl (by omega) (by omega) ?_
      intro h9 F9 N9
      clear F' N'
      k_steps
      have hq : lo + 1 = hi := by omega
      exact hret _ _ _ _ (by assumption) (by assumption) ⟨rfl, _, rfl, by unfold inF; rw [if_pos hq]; exact IntsAre.set hI _ _ _⟩
    · have hq : ¬ lo + 1 = hi := by omega
      refine shrN (x := lo + hi) (k := 1) (by omega) rfl ?_
      (repeat' ((fail_if_success (first | (with_reducible show wpAny _ _ (call (Value.ref _) _) _ _ _) | (with_reducible show wpAny _ _ (setItem (Value.ref _) (Value.int _ _) _) _ _ _) | (with_reducible show wpAny _ _ (call (Value.builtin _) [Value.ref _]) _ _ _) | (with_reducible show wpAny _ _ (binaryOp Operator.RShift (Value.int _ _) (Value.int _ _)) _ _ _) | (with_reducible show wpAny _ _ (binaryOp Operator.LShift (Value.int _ _) (Value.int _ _)) _ _ _) | (with_reducible show wpAny _ _ (binaryOp Operator.BitXor (Value.int _ _) (Value.int _ _)) _ _ _))); first | (k_unfold; (try dsimp only)) | (k_end; kc_close) | walk1 | (dsimp only; walk1) | (leave1; walk_say "STEP leave1"; (try dsimp only)) | fail "no step"))
      refine shrN (x := x) (k := ((lo + hi) / 2 - lo) * 5) rfl (by omega) ?_
      (repeat' ((fail_if_success (first | (with_reducible show wpAny _ _ (call (Value.ref _) _) _ _ _) | (with_reducible show wpAny _ _ (setItem (Value.ref _) (Value.int _ _) _) _ _ _) | (with_reducible show wpAny _ _ (call (Value.builtin _) [Value.ref _]) _ _ _) | (with_reducible show wpAny _ _ (binaryOp Operator.RShift (Value.int _ _) (Value.int _ _)) _ _ _) | (with_reducible show wpAny _ _ (binaryOp Operator.LShift (Value.int _ _) (Value.int _ _)) _ _ _) | (with_reducible show wpAny _ _ (binaryOp Operator.BitXor (Value.int _ _) (Value.int _ _)) _ _ _))); first | (k_unfold; (try dsimp only)) | (k_end; kc_close) | walk1 | (dsimp only; walk1) | (leave1; walk_say "STEP leave1"; (try dsimp only)) | fail "no step"))
      have hup := up_lt (k := ((lo + hi) / 2 - lo) * 5) h7
      have hlow := low_lt (k := ((lo + hi) / 2 - lo) * 5) h7
      refine shlN (x := x / 2 ^ (((lo + hi) / 2 - lo) * 5)) (k := ((lo + hi) / 2 - lo) * 5) rfl (by omega) hup (by omega) ?_
      (repeat' ((fail_if_success (first | (with_reducible show wpAny _ _ (call (Value.ref _) _) _ _ _) | (with_reducible show wpAny _ _ (setItem (Value.ref _) (Value.int _ _) _) _ _ _) | (with_reducible show wpAny _ _ (call (Value.builtin _) [Value.ref _]) _ _ _) | (with_reducible show wpAny _ _ (binaryOp Operator.RShift (Value.int _ _) (Value.int _ _)) _ _ _) | (with_reducible show wpAny _ _ (binaryOp Operator.LShift (Value.int _ _) (Value.int _ _)) _ _ _) | (with_reducible show wpAny _ _ (binaryOp Operator.BitXor (Value.int _ _) (Value.int _ _)) _ _ _))); first | (k_unfold; (try dsimp only)) | (k_end; kc_close) | walk1 | (dsimp only; walk1) | (leave1; walk_say "STEP leave1"; (try dsimp only)) | fail "no step"))
      refine xorN rfl rfl ?_
      (repeat' ((fail_if_success (first | (with_reducible show wpAny _ _ (call (Value.ref _) _) _ _ _) | (with_reducible show wpAny _ _ (setItem (Value.ref _) (Value.int _ _) _) _ _ _) | (with_reducible show wpAny _ _ (call (Value.builtin _) [Value.ref _]) _ _ _) | (with_reducible show wpAny _ _ (binaryOp Operator.RShift (Value.int _ _) (Value.int _ _)) _ _ _) | (with_reducible show wpAny _ _ (binaryOp Operator.LShift (Value.int _ _) (Value.int _ _)) _ _ _) | (with_reducible show wpAny _ _ (binaryOp Operator.BitXor (Value.int _ _) (Value.int _ _)) _ _ _))); first | (k_unfold; (try dsimp only)) | (k_end; kc_close) | walk1 | (dsimp only; walk1) | (leave1; walk_say "STEP leave1"; (try dsimp only)) | fail "no step"))
      generalize hlw : xo x (x / 2 ^ (((lo + hi) / 2 - lo) * 5) * 2 ^ (((lo + hi) / 2 - lo) * 5)) = low at *
      generalize hupw : x / 2 ^ (((lo + hi) / 2 - lo) * 5) = up at *
      (rename Fr _ _ _ _ => Fo); (rename News _ _ _ _ => No)
      (k_dflt (refine' Ctr.use (ih _ _ _ low lo ((lo + hi) / 2) _ _ _ _ _ hI rfl rfl (by omega) (by omega) (by omega) (by omega) h6 hlow) ?k1 ?k2 ?k3 ?k4 ?k5 ?k6 ?k7 ?k8 ?k9 ?k10 ?kR; (case k1 => k_asm); (case k2 => k_asm); (case k3 => k_asm); (case k4 => k_asm); (case k5 => k_asm); (case k6 => assumption); (case k7 => assumption); (case k8 => first | exact rfl | assumption); (case k9 => ktr_room); (case k10 => ktr_units)))
      case kR =>
        intro v3 ns3 h3 tk3 F3 N3 hr
        obtain ⟨rfl, ds3, rfl, hI3⟩ := hr
        have hl3 : ds3.length = ds.length := by rw [IntsAre.len hI3, inF_len, IntsAre.len hI]
        clear Fo No
        (repeat' ((fail_if_success (first | (with_reducible show wpAny _ _ (call (Value.ref _) _) _ _ _) | (with_reducible show wpAny _ _ (exec (Stmt.For _ _ _ _ _) _) _ _ _))); first | (k_unfold; (try dsimp only)) | (k_end; kc_close) | walk1 | (dsimp only; walk1) | (leave1; walk_say "STEP leave1"; (try dsimp only)) | fail "no step"))
        (k_dflt (refine' Ctr.use (ih _ _ _ up ((lo + hi) / 2) hi _ _ _ _ _ hI3 rfl (by omega) rfl (by omega) (by omega) (by omega) (by omega) hup) ?k1 ?k2 ?k3 ?k4 ?k5 ?k6 ?k7 ?k8 ?k9 ?k10 ?kR; (case k1 => k_asm); (case k2 => k_asm); (case k3 => k_asm); (case k4 => k_asm); (case k5 => k_asm); (case k6 => assumption); (case k7 => assumption); (case k8 => first | exact rfl | assumption); (case k9 => ktr_room); (case k10 => ktr_units)))
        case kR =>
          intro v4 ns4 h4 tk4 F4 N4 hr
          obtain ⟨rfl, ds4, rfl, hI4⟩ := hr
          clear F3 N3
          k_steps
          exact hret _ _ _ _ (by assumption) (by assumption) ⟨rfl, _, rfl, by unfold inF; rw [if_neg hq, hupw, hlw]; exact hI4⟩
theorem c_in1_35 (w : World) (mean : ExcName → Option Value) (mg mb : Str → Option Value) (tn : Tok) (f c' l aI aD aN : Addr) (oc oI oD oN : Obj) (vs : Array Value) (qual : Str) (tq : Tok) (doc pm ct : Value) (rest : List (Addr × Obj))
   (hoI : oI.data = .cell (some (.ref f))) (hoD : oD.data = .cell (some (.ref l))) (hoN : oN.data = .cell (some (.int 35 tn))) (hd : oc.data = .fields vs) (hv : vs[1]? = some (.str qual tq)) (hoff : ∀ p ∈ rest, p.1 < l) (hne : aI < l ∧ aD < l ∧ aN < l ∧ l ≠ c' ∧ l ≠ f) (nn : Nat) :
   ∀ (d : Nat) (X LO HI : Int) (x lo hi : Nat) (t u v : Tok) (ds : List Value) (zs : List Int), IntsAre ds zs → X = x → LO = lo → HI = hi → lo < hi → hi ≤ ds.length → hi ≤ lo + 2 ^ d → ds.length ≤ 64 → x < 2 ^ 1000 → 
   Ctr (d + 3) w mean mg mb f ((l, listOf (List.toArray ds) nn) :: led1 f c' aI aD aN oc oI oD oN qual doc pm ct rest)
     [.int X t, .int LO u, .int HI v] (fun v ns => v = .none ∧ ∃ ds', ns = (l, listOf (List.toArray ds') nn) :: led1 f c' aI aD aN oc oI oD oN qual doc pm ct rest ∧ IntsAre ds' (inF 35 d x lo hi zs)) := by
  have hro := led1_off (oc := oc) (oI := oI) (oD := oD) (oN := oN) (qual := qual) (doc := doc) (pm := pm) (ct := ct) hoff hne
  intro d
  induction d with
  | zero =>
    intro X LO HI x lo hi t u v ds zs hI h0 h1 h2 h3 h4 h5 h6 h7
    have h5' : hi = lo + 1 := by omega
    clear h5
    subst h5' h0 h1 h2
    unfold Ctr
    k_fill
    intros; rename_i hret
    refine wpAny_call ?_
    (k_dflt (refine' code_nest ?k1 ?k2 ?k3 ?k4 ?k5 ?kA ?kF ?kK ?k6 ?k7 ?k8 ?k9 ?kB ?_ ?c2 ?c3 ?c4 ?c5; (case kA => exact rfl); (case kF => exact rfl); (case kK => first | exact rfl | assumption); (case k1 => k_asm); (case k2 => k_asm); (case k3 => k_asm); (case k4 => k_asm); (case k5 => k_asm); (case k6 => k_mem); (case k7 => exact codeRec_news (by k_asm) (by k_mem) (by assumption) (by assumption)); (case k8 => ktr_room); (case k9 => exact BindsTo.of_eq rfl); (case c5 => decide); (case kB => exact locs rfl); (case c2 => exact rfl); (case c3 => exact rfl); (case c4 => exact rfl); k_whole; intro g' L' h' FG' F' N' B' X' T'; (try dsimp only); (try k_lift B'); (try k_fold)))
    (repeat' ((fail_if_success (first | (with_reducible show wpAny _ _ (call (Value.ref _) _) _ _ _) | (with_reducible show wpAny _ _ (setItem (Value.ref _) (Value.int _ _) _) _ _ _) | (with_reducible show wpAny _ _ (call (Value.builtin _) [Value.ref _]) _ _ _) | (with_reducible show wpAny _ _ (binaryOp Operator.RShift (Value.int _ _) (Value.int _ _)) _ _ _) | (with_reducible show wpAny _ _ (binaryOp Operator.LShift (Value.int _ _) (Value.int _ _)) _ _ _) | (with_reducible show wpAny _ _ (binaryOp Operator.BitXor (Value.int _ _) (Value.int _ _)) _ _ _))); first | (k_unfold; (try dsimp only)) | (k_end; kc_close) | walk1 | (dsimp only; walk1) | (leave1; walk_say "STEP leave1"; (try dsimp only)) | fail "no step"))
    · (rename Fr _ _ _ _ => F'); (rename News _ _ _ _ => N')
      refine setLN F' N' hro rfl (by omega) (by omega) ?_
      intro h9 F9 N9
      clear F' N'
      k_steps
      exact hret _ _ _ _ (by assumption) (by assumption) ⟨rfl, _, rfl, IntsAre.set hI _ _ _⟩
    all_goals (exfalso; omega)
  | succ d ih =>
    intro X LO HI x lo hi t u v ds zs hI h0 h1 h2 h3 h4 h5 h6 h7
    have h5' : hi ≤ lo + 2 ^ d * 2 := by omega
    clear h5
    subst h0 h1 h2
    unfold Ctr
    k_fill
    intros; rename_i hret
    refine wpAny_call ?_
    (k_dflt (refine' code_nest ?k1 ?k2 ?k3 ?k4 ?k5 ?kA ?kF ?kK ?k6 ?k7 ?k8 ?k9 ?kB ?_ ?c2 ?c3 ?c4 ?c5; (case kA => exact rfl); (case kF => exact rfl); (case kK => first | exact rfl | assumption); (case k1 => k_asm); (case k2 => k_asm); (case k3 => k_asm); (case k4 => k_asm); (case k5 => k_asm); (case k6 => k_mem); (case k7 => exact codeRec_news (by k_asm) (by k_mem) (by assumption) (by assumption)); (case k8 => ktr_room); (case k9 => exact BindsTo.of_eq rfl); (case c5 => decide); (case kB => exact locs rfl); (case c2 => exact rfl); (case c3 => exact rfl); (case c4 => exact rfl); k_whole; intro g' L' h' FG' F' N' B' X' T'; (try dsimp only); (try k_lift B'); (try k_fold)))
    (repeat' ((fail_if_success (first | (with_reducible show wpAny _ _ (call (Value.ref _) _) _ _ _) | (with_reducible show wpAny _ _ (setItem (Value.ref _) (Value.int _ _) _) _ _ _) | (with_reducible show wpAny _ _ (call (Value.builtin _) [Value.ref _]) _ _ _) | (with_reducible show wpAny _ _ (binaryOp Operator.RShift (Value.int _ _) (Value.int _ _)) _ _ _) | (with_reducible show wpAny _ _ (binaryOp Operator.LShift (Value.int _ _) (Value.int _ _)) _ _ _) | (with_reducible show wpAny _ _ (binaryOp Operator.BitXor (Value.int _ _) (Value.int _ _)) _ _ _))); first | (k_unfold; (try dsimp only)) | (k_end; kc_close) | walk1 | (dsimp only; walk1) | (leave1; walk_say "STEP leave1"; (try dsimp only)) | fail "no step"))
    · (rename Fr _ _ _ _ => F'); (rename News _ _ _ _ => N')
      refine setLN F' N' hro rfl (by omega) (by omega) ?_
      intro h9 F9 N9
      clear F' N'
      k_steps
      have hq : lo + 1 = hi := by omega
      exact hret _ _ _ _ (by assumption) (by assumption) ⟨rfl, _, rfl, by unfold inF; rw [if_pos hq]; exact IntsAre.set hI _ _ _⟩
    · have hq : ¬ lo + 1 = hi := by omega
      refine shrN (x := lo + hi) (k := 1) (by omega) rfl ?_
      (repeat' ((fail_if_success (first | (with_reducible show wpAny _ _ (call (Value.ref _) _) _ _ _) | (with_reducible show wpAny _ _ (setItem (Value.ref _) (Value.int _ _) _) _ _ _) | (with_reducible show wpAny _ _ (call (Value.builtin _) [Value.ref _]) _ _ _) | (with_reducible show wpAny _ _ (binaryOp Operator.RShift (Value.int _ _) (Value.int _ _)) _ _ _) | (with_reducible show wpAny _ _ (binaryOp Operator.LShift (Value.int _ _) (Value.int _ _)) _ _ _) | (with_reducible show wpAny _ _ (binaryOp Operator.BitXor (Value.int _ _) (Value.int _ _)) _ _ _))); first | (k_unfold; (try dsimp only)) | (k_end; kc_close) | walk1 | (dsimp only; walk1) | (leave1; walk_say "STEP leave1"; (try dsimp only)) | fail "no step"))
      refine shrN (x := x) (k := ((lo + hi) / 2 - lo) * 35) rfl (by omega) ?_
      (repeat' ((fail_if_success (first | (with_reducible show wpAny _ _ (call (Value.ref _) _) _ _ _) | (with_reducible show wpAny _ _ (setItem (Value.ref _) (Value.int _ _) _) _ _ _) | (with_reducible show wpAny _ _ (call (Value.builtin _) [Value.ref _]) _ _ _) | (with_reducible show wpAny _ _ (binaryOp Operator.RShift (Value.int _ _) (Value.int _ _)) _ _ _) | (with_reducible show wpAny _ _ (binaryOp Operator.LShift (Value.int _ _) (Value.int _ _)) _ _ _) | (with_reducible show wpAny _ _ (binaryOp Operator.BitXor (Value.int _ _) (Value.int _ _)) _ _ _))); first | (k_unfold; (try dsimp only)) | (k_end; kc_close) | walk1 | (dsimp only; walk1) | (leave1; walk_say "STEP leave1"; (try dsimp only)) | fail "no step"))
      have hup := up_lt (k := ((lo + hi) / 2 - lo) * 35) h7
      have hlow := low_lt (k := ((lo + hi) / 2 - lo) * 35) h7
      refine shlN (x := x / 2 ^ (((lo + hi) / 2 - lo) * 35)) (k := ((lo + hi) / 2 - lo) * 35) rfl (by omega) hup (by omega) ?_
      (repeat' ((fail_if_success (first | (with_reducible show wpAny _ _ (call (Value.ref _) _) _ _ _) | (with_reducible show wpAny _ _ (setItem (Value.ref _) (Value.int _ _) _) _ _ _) | (with_reducible show wpAny _ _ (call (Value.builtin _) [Value.ref _]) _ _ _) | (with_reducible show wpAny _ _ (binaryOp Operator.RShift (Value.int _ _) (Value.int _ _)) _ _ _) | (with_reducible show wpAny _ _ (binaryOp Operator.LShift (Value.int _ _) (Value.int _ _)) _ _ _) | (with_reducible show wpAny _ _ (binaryOp Operator.BitXor (Value.int _ _) (Value.int _ _)) _ _ _))); first | (k_unfold; (try dsimp only)) | (k_end; kc_close) | walk1 | (dsimp only; walk1) | (leave1; walk_say "STEP leave1"; (try dsimp only)) | fail "no step"))
      refine xorN rfl rfl ?_
      (repeat' ((fail_if_success (first | (with_reducible show wpAny _ _ (call (Value.ref _) _) _ _ _) | (with_reducible show wpAny _ _ (setItem (Value.ref _) (Value.int _ _) _) _ _ _) | (with_reducible show wpAny _ _ (call (Value.builtin _) [Value.ref _]) _ _ _) | (with_reducible show wpAny _ _ (binaryOp Operator.RShift (Value.int _ _) (Value.int _ _)) _ _ _) | (with_reducible show wpAny _ _ (binaryOp Operator.LShift (Value.int _ _) (Value.int _ _)) _ _ _) | (with_reducible show wpAny _ _ (binaryOp Operator.BitXor (Value.int _ _) (Value.int _ _)) _ _ _))); first | (k_unfold; (try dsimp only)) | (k_end; kc_close) | walk1 | (dsimp only; walk1) | (leave1; walk_say "STEP leave1"; (try dsimp only)) | fail "no step"))
      generalize hlw : xo x (x / 2 ^ (((lo + hi) / 2 - lo) * 35) * 2 ^ (((lo + hi) / 2 - lo) * 35)) = low at *
      generalize hupw : x / 2 ^ (((lo + hi) / 2 - lo) * 35) = up at *
      (rename Fr _ _ _ _ => Fo); (rename News _ _ _ _ => No)
      (k_dflt (refine' Ctr.use (ih _ _ _ low lo ((lo + hi) / 2) _ _ _ _ _ hI rfl rfl (by omega) (by omega) (by omega) (by omega) h6 hlow) ?k1 ?k2 ?k3 ?k4 ?k5 ?k6 ?k7 ?k8 ?k9 ?k10 ?kR; (case k1 => k_asm); (case k2 => k_asm); (case k3 => k_asm); (case k4 => k_asm); (case k5 => k_asm); (case k6 => assumption); (case k7 => assumption); (case k8 => first | exact rfl | assumption); (case k9 => ktr_room); (case k10 => ktr_units)))
      case kR =>
        intro v3 ns3 h3 tk3 F3 N3 hr
        obtain ⟨rfl, ds3, rfl, hI3⟩ := hr
        have hl3 : ds3.length = ds.length := by rw [IntsAre.len hI3, inF_len, IntsAre.len hI]
        clear Fo No
        (repeat' ((fail_if_success (first | (with_reducible show wpAny _ _ (call (Value.ref _) _) _ _ _) | (with_reducible show wpAny _ _ (exec (Stmt.For _ _ _ _ _) _) _ _ _))); first | (k_unfold; (try dsimp only)) | (k_end; kc_close) | walk1 | (dsimp only; walk1) | (leave1; walk_say "STEP leave1"; (try dsimp only)) | fail "no step"))
        (k_dflt (refine' Ctr.use (ih _ _ _ up ((lo + hi) / 2) hi _ _ _ _ _ hI3 rfl (by omega) rfl (by omega) (by omega) (by omega) (by omega) hup) ?k1 ?k2 ?k3 ?k4 ?k5 ?k6 ?k7 ?k8 ?k9 ?k10 ?kR; (case k1 => k_asm); (case k2 => k_asm); (case k3 => k_asm); (case k4 => k_asm); (case k5 => k_asm); (case k6 => assumption); (case k7 => assumption); (case k8 => first | exact rfl | assumption); (case k9 => ktr_room); (case k10 => ktr_units)))
        case kR =>
          intro v4 ns4 h4 tk4 F4 N4 hr
          obtain ⟨rfl, ds4, rfl, hI4⟩ := hr
          clear F3 N3
          k_steps
          exact hret _ _ _ _ (by assumption) (by assumption) ⟨rfl, _, rfl, by unfold inF; rw [if_neg hq, hupw, hlw]; exact hI4⟩
end Mine
end
section
set_option maxRecDepth 100000
set_option maxHeartbeats 8000000
namespace Mine
open PySem PySem.W PyProof.Rows PySem.Calls

section
variable {h₀ h : Heap} {L : Addr} {f c l aI aD aN : Addr} {F oc X oI oD oN oP : Obj} {e : Addr × Obj} {P : Addr} {rest : List (Addr × Obj)}
theorem reordF (N : News h₀ L h ((f, F) :: (c, oc) :: (l, X) :: e :: (aI, oI) :: (aD, oD) :: (aN, oN) :: (P, oP) :: rest)) :
    News h₀ L h ((l, X) :: (f, F) :: (c, oc) :: (aI, oI) :: (aD, oD) :: (aN, oN) :: ((P, oP) :: rest)) := fun p hp => N p (by
  simp only [List.mem_cons] at hp ⊢
  rcases hp with h | h | h | h | h | h | h | h <;> simp [h])
theorem reordG (N : News h₀ L h ((f, F) :: (l, X) :: e :: (aI, oI) :: (aD, oD) :: (aN, oN) :: (c, oc) :: (P, oP) :: rest)) :
    News h₀ L h ((l, X) :: (f, F) :: (c, oc) :: (aI, oI) :: (aD, oD) :: (aN, oN) :: ((P, oP) :: rest)) := fun p hp => N p (by
  simp only [List.mem_cons] at hp ⊢
  rcases hp with h | h | h | h | h | h | h | h <;> simp [h])
theorem finF {y a b d : Addr × Obj} (N : News h₀ L h ((l, X) :: y :: (c, oc) :: a :: b :: d :: (P, oP) :: rest)) : News h₀ L h ((l, X) :: (c, oc) :: (P, oP) :: rest) := fun p hp => N p (by
  simp only [List.mem_cons] at hp ⊢
  rcases hp with h | h | h | h <;> simp [h])
end
/-- what a table of inner's code keeps -/
def Rec (oc : Obj) (qual : Str) : Prop := ∃ vs t, oc.data = .fields vs ∧ vs[1]? = some (.str qual t)
def q1 : Str := Str.ofString "_int2digits.<locals>.inner"
def tab1 (c : Addr) : Obj := tabObj #[rawInt 38, rawInt 4, .ref c]

theorem in1_use_5 {w : World} {mean : ExcName → Option Value} {mg mb : Str → Option Value} {tn : Tok} {f c' l aI aD aN : Addr} {oc oI oD oN : Obj} {vs : Array Value} {qual : Str} {tq : Tok} {doc pm ct : Value} {rest : List (Addr × Obj)} {nn d : Nat} {X LO HI : Int} {x lo hi : Nat} {t u v : Tok} {ds : List Value} {zs : List Int}
    {dp un : Nat} {gd : Option (List Code)} {cn : Str} {cs : Scope} {a : Addr} {ccd : Value} {cl : List (Str × Addr)} {outer : List Env} {A₀ : Around} {base h₀ : Heap} {L : Addr} {m : Str → Option Value} {s : Shared} {Q E : Value → Shared → Prop}
    (N : News h₀ L s.heap ((l, listOf (List.toArray ds) nn) :: (f, fnObj (inner 8 1) qual [(Str.ofString "n", aN), (Str.ofString "inner", aI), (Str.ofString "a_digits", aD)] doc pm c' ct) :: (c', oc) :: (aI, oI) :: (aD, oD) :: (aN, oN) :: rest))
    (hoI : oI.data = .cell (some (.ref f))) (hoD : oD.data = .cell (some (.ref l))) (hoN : oN.data = .cell (some (.int 5 tn))) (hd : oc.data = .fields vs) (hv : vs[1]? = some (.str qual tq)) (hoff : ∀ p ∈ rest, p.1 < l) (hne : aI < l ∧ aD < l ∧ aN < l ∧ l ≠ c' ∧ l ≠ f)
    (hI : IntsAre ds zs) (g1 : X = x) (g2 : LO = lo) (g3 : HI = hi) (g4 : lo < hi) (g5 : hi ≤ ds.length) (g6 : hi ≤ lo + 2 ^ d) (g7 : ds.length ≤ 64) (g8 : x < 2 ^ 1000)
    (B : Below A₀ base outer h₀) (F : Fr h₀ L s.heap m) (X₀ : (K w.params).In h₀) (T : Top topProg LS mean mg mb h₀) (c1 : CodeHd base 59 55) (c2 : CodeHd base 66 62) (hk : cs.kind = .function)
    (hd : dp + (d + 3) < recursionLimit) (hu : un + 10 * (d + 3) < cLine)
    (h : ∀ ds' h' tk', Fr h₀ L h' m → News h₀ L h' ((l, listOf (List.toArray ds') nn) :: (f, fnObj (inner 8 1) qual [(Str.ofString "n", aN), (Str.ofString "inner", aI), (Str.ofString "a_digits", aD)] doc pm c' ct) :: (c', oc) :: (aI, oI) :: (aD, oD) :: (aN, oN) :: rest) → IntsAre ds' (inF 5 d x lo hi zs) → Q .none { s with heap := h', toks := tk' }) :
    wpAny (model (PySem.Challenge.rw_to0036_01.row.toRowW.prog) w) (ktrTop dp un gd cn cs L a ccd cl outer) (call (.ref f) [.int X t, .int LO u, .int HI v]) Q E s :=
  Ctr.use (c_in1_5 w mean mg mb tn f c' l aI aD aN oc oI oD oN vs qual tq doc pm ct rest hoI hoD hoN (by assumption) hv hoff hne nn d X LO HI x lo hi t u v ds zs hI g1 g2 g3 g4 g5 g6 g7 g8) B F X₀ N T c1 c2 hk hd hu
    fun v ns h' tk' F' N' hr => by
      obtain ⟨rfl, ds', rfl, hI'⟩ := hr
      exact h ds' h' tk' F' N' hI'

theorem in1_use_35 {w : World} {mean : ExcName → Option Value} {mg mb : Str → Option Value} {tn : Tok} {f c' l aI aD aN : Addr} {oc oI oD oN : Obj} {vs : Array Value} {qual : Str} {tq : Tok} {doc pm ct : Value} {rest : List (Addr × Obj)} {nn d : Nat} {X LO HI : Int} {x lo hi : Nat} {t u v : Tok} {ds : List Value} {zs : List Int}
    {dp un : Nat} {gd : Option (List Code)} {cn : Str} {cs : Scope} {a : Addr} {ccd : Value} {cl : List (Str × Addr)} {outer : List Env} {A₀ : Around} {base h₀ : Heap} {L : Addr} {m : Str → Option Value} {s : Shared} {Q E : Value → Shared → Prop}
    (N : News h₀ L s.heap ((l, listOf (List.toArray ds) nn) :: (f, fnObj (inner 8 1) qual [(Str.ofString "n", aN), (Str.ofString "inner", aI), (Str.ofString "a_digits", aD)] doc pm c' ct) :: (c', oc) :: (aI, oI) :: (aD, oD) :: (aN, oN) :: rest))
    (hoI : oI.data = .cell (some (.ref f))) (hoD : oD.data = .cell (some (.ref l))) (hoN : oN.data = .cell (some (.int 35 tn))) (hd : oc.data = .fields vs) (hv : vs[1]? = some (.str qual tq)) (hoff : ∀ p ∈ rest, p.1 < l) (hne : aI < l ∧ aD < l ∧ aN < l ∧ l ≠ c' ∧ l ≠ f)
    (hI : IntsAre ds zs) (g1 : X = x) (g2 : LO = lo) (g3 : HI = hi) (g4 : lo < hi) (g5 : hi ≤ ds.length) (g6 : hi ≤ lo + 2 ^ d) (g7 : ds.length ≤ 64) (g8 : x < 2 ^ 1000)
    (B : Below A₀ base outer h₀) (F : Fr h₀ L s.heap m) (X₀ : (K w.params).In h₀) (T : Top topProg LS mean mg mb h₀) (c1 : CodeHd base 59 55) (c2 : CodeHd base 66 62) (hk : cs.kind = .function)
    (hd : dp + (d + 3) < recursionLimit) (hu : un + 10 * (d + 3) < cLine)
    (h : ∀ ds' h' tk', Fr h₀ L h' m → News h₀ L h' ((l, listOf (List.toArray ds') nn) :: (f, fnObj (inner 8 1) qual [(Str.ofString "n", aN), (Str.ofString "inner", aI), (Str.ofString "a_digits", aD)] doc pm c' ct) :: (c', oc) :: (aI, oI) :: (aD, oD) :: (aN, oN) :: rest) → IntsAre ds' (inF 35 d x lo hi zs) → Q .none { s with heap := h', toks := tk' }) :
    wpAny (model (PySem.Challenge.rw_to0036_01.row.toRowW.prog) w) (ktrTop dp un gd cn cs L a ccd cl outer) (call (.ref f) [.int X t, .int LO u, .int HI v]) Q E s :=
  Ctr.use (c_in1_35 w mean mg mb tn f c' l aI aD aN oc oI oD oN vs qual tq doc pm ct rest hoI hoD hoN (by assumption) hv hoff hne nn d X LO HI x lo hi t u v ds zs hI g1 g2 g3 g4 g5 g6 g7 g8) B F X₀ N T c1 c2 hk hd hu
    fun v ns h' tk' F' N' hr => by
      obtain ⟨rfl, ds', rfl, hI'⟩ := hr
      exact h ds' h' tk' F' N' hI'
end Mine
end
section
set_option maxRecDepth 100000
set_option maxHeartbeats 8000000
namespace Mine
open PySem PySem.W PyProof.Rows PySem.Calls

local macro_rules | `(tactic| walk_at "binaryOp Mult ref int") => `(tactic| ((with_reducible show wpAny _ _ (binaryOp Operator.Mult (Value.ref _) (Value.int _ _)) _ _ _); (with_unfolding_all refine' mulL ?k1 ?k2 ?k3 ?k4 ?k5 ?k6); (case k1 => k_asm); (case k2 => k_asm); (case k3 => k_mem); (case k4 => assumption); (case k5 => omega); intro l' h' F' N' l1; (try k_lt l1)))
local macro_rules | `(tactic| k_all) => `(tactic| exact allLt_ne (by assumption) (by omega))

theorem c_i2d_f5 (w : World) (mean : ExcName → Option Value) (mg mb : Str → Option Value) (x k d : Nat) (X : Int) (t u : Tok) (rest : List (Addr × Obj)) (hX : X = x) (hx : x < 2 ^ 1000) (hx0 : x ≠ 0) (hk : ((Builtin.Int.intBits X : Int) + 5 - 1).fdiv 5 = (k : Int)) (hk2 : k ≤ 64) (hk0 : 0 < k) (hd : k ≤ 2 ^ d) (hd6 : d ≤ 6) (hoff : OwnOff rest [55]) :
   Ctr 15 w mean mg mb 60 ((55, tabObj #[]) :: rest) [.int X t, .int 5 u] (fun v ns => ∃ l ds nn c oc, v = .ref l ∧ ns = (l, listOf (List.toArray ds) nn) :: (c, oc) :: (55, tab1 c) :: rest ∧ IntsAre ds (inF 5 d x 0 k (List.replicate k 0)) ∧ Rec oc q1 ∧ 55 < l ∧ (∀ p ∈ rest, p.1 < l) ∧ l < c) := by
  unfold Ctr
  k_fill
  intros; rename_i hret
  refine wpAny_call ?_
  (k_dflt (refine' code_defC ?k1 ?k2 ?k3 ?k4 ?k5 ?kA ?kF ?kK ?k6 ?k7 ?k8 ?k9 ?kB ?kD ?_ ?c2 ?c3 ?c4; (case kA => exact rfl); (case kF => exact rfl); (case kK => first | exact rfl | assumption); (case k1 => k_asm); (case k2 => k_asm); (case k3 => k_asm); (case k4 => k_asm); (case k5 => k_asm); (case k6 => k_is); (case k7 => k_is); (case k8 => ktr_room); (case k9 => exact BindsTo.of_eq rfl); (case kB => exact rfl); (case kD => decide +kernel); (case c2 => exact rfl); (case c3 => exact rfl); (case c4 => exact rfl); k_whole; intro g' L' h' tk' cells' FG' F' N' Y' B' X' T' l1; (try k_lt l1); k_cells Y'; (try simp only [List.cons_append, List.nil_append] at N'); (try dsimp only); (try k_lift B'); (try k_fold)))
  obtain ⟨l1a, l1b⟩ := l1
  (repeat' ((fail_if_success (first | (with_reducible show wpAny _ _ (call (Value.ref _) _) _ _ _) | (with_reducible show wpAny _ _ (setItem (Value.ref _) (Value.int _ _) _) _ _ _) | (with_reducible show wpAny _ _ (call (Value.builtin _) [Value.ref _]) _ _ _) | (with_reducible show wpAny _ _ (binaryOp Operator.RShift (Value.int _ _) (Value.int _ _)) _ _ _) | (with_reducible show wpAny _ _ (binaryOp Operator.LShift (Value.int _ _) (Value.int _ _)) _ _ _) | (with_reducible show wpAny _ _ (binaryOp Operator.BitXor (Value.int _ _) (Value.int _ _)) _ _ _))); first | (k_unfold; (try dsimp only)) | (k_end; kc_close) | walk1 | (dsimp only; walk1) | (leave1; walk_say "STEP leave1"; (try dsimp only)) | fail "no step"))
  · (rename News _ _ _ _ => N')
    refine lenL N' (by k_mem) List.length_replicate (by omega) ?_
    (repeat' ((fail_if_success (first | (with_reducible show wpAny _ _ (call (Value.ref _) _) _ _ _) | (with_reducible show wpAny _ _ (exec (Stmt.For _ _ _ _ _) _) _ _ _))); first | (k_unfold; (try dsimp only)) | (k_end; kc_close) | walk1 | (dsimp only; walk1) | (leave1; walk_say "STEP leave1"; (try dsimp only)) | fail "no step"))
    (rename Fr _ _ _ _ => Fo); (rename News _ _ _ _ => No)
    (k_dflt (refine' in1_use_5 (d := d) (reordF No) ?k1 ?k2 ?k3 ?k4 ?k5 ?k6 ?k7 (intsAre_rep _ k) hX rfl rfl hk0 ?k8 ?k10 ?k9 hx ?k11 Fo ?k12 ?k13 ?k14 ?k15 ?k16 ?k17 ?k18 ?kR; (case k11 => k_asm); (case k12 => k_asm); (case k13 => k_asm); (case k14 => k_asm); (case k15 => k_asm); (case k16 => first | exact rfl | assumption); (case k17 => ktr_room); (case k18 => ktr_units); (case k1 => assumption); (case k2 => assumption); (case k3 => assumption); (case k4 => assumption); (case k5 => assumption)))
    case k6 => exact List.forall_mem_cons.mpr ⟨ltN (by (try dsimp only); omega), fun p hp => Nat.lt_of_lt_of_le (allLt_lt l1b p hp) (Nat.le_of_lt (ltN (by omega)))⟩
    case k7 => exact ⟨ltN (by omega), ltN (by omega), ltN (by omega), neN (by omega), neN (by omega)⟩
    case k8 => rw [List.length_replicate]; omega
    case k9 => rw [List.length_replicate]; omega
    case k10 => omega
    case kR =>
      intro ds' h3 tk3 F3 N3 hI3
      clear Fo No
      k_steps
      (rename Fr _ _ _ _ => Fe); (rename News _ _ _ _ => Ne)
      exact hret _ _ _ _ Fe (finF Ne) ⟨_, _, _, _, _, rfl, rfl, hI3, ⟨_, _, by assumption, by assumption⟩, ltN (by omega), fun p hp => Nat.lt_of_lt_of_le (allLt_lt l1b p hp) (Nat.le_of_lt (ltN (by omega))), ltN (by omega)⟩
  · exfalso; omega

theorem c_i2d_g5 (w : World) (mean : ExcName → Option Value) (mg mb : Str → Option Value) (x k d : Nat) (X : Int) (t u : Tok) (rest : List (Addr × Obj)) (c₀ : Addr) (oc₀ : Obj) (hrec : Rec oc₀ q1) (hX : X = x) (hx : x < 2 ^ 1000) (hx0 : x ≠ 0) (hk : ((Builtin.Int.intBits X : Int) + 5 - 1).fdiv 5 = (k : Int)) (hk2 : k ≤ 64) (hk0 : 0 < k) (hd : k ≤ 2 ^ d) (hd6 : d ≤ 6) :
   Ctr 15 w mean mg mb 60 ((c₀, oc₀) :: (55, tab1 c₀) :: rest) [.int X t, .int 5 u] (fun v ns => ∃ l ds nn, v = .ref l ∧ ns = (l, listOf (List.toArray ds) nn) :: (c₀, oc₀) :: (55, tab1 c₀) :: rest ∧ IntsAre ds (inF 5 d x 0 k (List.replicate k 0)) ∧ 55 < l ∧ c₀ < l ∧ (∀ p ∈ rest, p.1 < l)) := by
  unfold Ctr
  k_fill
  intros; rename_i hret
  refine wpAny_call ?_
  (k_dflt (refine' code_defC ?k1 ?k2 ?k3 ?k4 ?k5 ?kA ?kF ?kK ?k6 ?k7 ?k8 ?k9 ?kB ?kD ?_ ?c2 ?c3 ?c4; (case kA => exact rfl); (case kF => exact rfl); (case kK => first | exact rfl | assumption); (case k1 => k_asm); (case k2 => k_asm); (case k3 => k_asm); (case k4 => k_asm); (case k5 => k_asm); (case k6 => k_is); (case k7 => k_is); (case k8 => ktr_room); (case k9 => exact BindsTo.of_eq rfl); (case kB => exact rfl); (case kD => decide +kernel); (case c2 => exact rfl); (case c3 => exact rfl); (case c4 => exact rfl); k_whole; intro g' L' h' tk' cells' FG' F' N' Y' B' X' T' l1; (try k_lt l1); k_cells Y'; (try simp only [List.cons_append, List.nil_append] at N'); (try dsimp only); (try k_lift B'); (try k_fold)))
  obtain ⟨l1a, l1c, l1b⟩ := l1
  obtain ⟨vs₀, tq₀, hrec1, hrec2⟩ := hrec
  unfold q1 at hrec2
  (repeat' ((fail_if_success (first | (with_reducible show wpAny _ _ (call (Value.ref _) _) _ _ _) | (with_reducible show wpAny _ _ (setItem (Value.ref _) (Value.int _ _) _) _ _ _) | (with_reducible show wpAny _ _ (call (Value.builtin _) [Value.ref _]) _ _ _) | (with_reducible show wpAny _ _ (binaryOp Operator.RShift (Value.int _ _) (Value.int _ _)) _ _ _) | (with_reducible show wpAny _ _ (binaryOp Operator.LShift (Value.int _ _) (Value.int _ _)) _ _ _) | (with_reducible show wpAny _ _ (binaryOp Operator.BitXor (Value.int _ _) (Value.int _ _)) _ _ _))); first | (k_unfold; (try dsimp only)) | (k_end; kc_close) | walk1 | (dsimp only; walk1) | (leave1; walk_say "STEP leave1"; (try dsimp only)) | fail "no step"))
  · (rename News _ _ _ _ => N')
    refine lenL N' (by k_mem) List.length_replicate (by omega) ?_
    (repeat' ((fail_if_success (first | (with_reducible show wpAny _ _ (call (Value.ref _) _) _ _ _) | (with_reducible show wpAny _ _ (exec (Stmt.For _ _ _ _ _) _) _ _ _))); first | (k_unfold; (try dsimp only)) | (k_end; kc_close) | walk1 | (dsimp only; walk1) | (leave1; walk_say "STEP leave1"; (try dsimp only)) | fail "no step"))
    (rename Fr _ _ _ _ => Fo); (rename News _ _ _ _ => No)
    (k_dflt (refine' in1_use_5 (d := d) (reordG No) ?k1 ?k2 ?k3 ?k4 ?k5 ?k6 ?k7 (intsAre_rep _ k) hX rfl rfl hk0 ?k8 ?k10 ?k9 hx ?k11 Fo ?k12 ?k13 ?k14 ?k15 ?k16 ?k17 ?k18 ?kR; (case k11 => k_asm); (case k12 => k_asm); (case k13 => k_asm); (case k14 => k_asm); (case k15 => k_asm); (case k16 => first | exact rfl | assumption); (case k17 => ktr_room); (case k18 => ktr_units); (case k1 => assumption); (case k2 => assumption); (case k3 => assumption); (case k4 => assumption); (case k5 => assumption)))
    case k6 => exact List.forall_mem_cons.mpr ⟨ltN (by (try dsimp only); omega), fun p hp => Nat.lt_of_lt_of_le (allLt_lt l1b p hp) (Nat.le_of_lt (ltN (by omega)))⟩
    case k7 => exact ⟨ltN (by omega), ltN (by omega), ltN (by omega), neN (by omega), neN (by omega)⟩
    case k8 => rw [List.length_replicate]; omega
    case k9 => rw [List.length_replicate]; omega
    case k10 => omega
    case kR =>
      intro ds' h3 tk3 F3 N3 hI3
      clear Fo No
      k_steps
      (rename Fr _ _ _ _ => Fe); (rename News _ _ _ _ => Ne)
      exact hret _ _ _ _ Fe (finF Ne) ⟨_, _, _, rfl, rfl, hI3, ltN (by omega), ltN (by omega), fun p hp => Nat.lt_of_lt_of_le (allLt_lt l1b p hp) (Nat.le_of_lt (ltN (by omega)))⟩
  · exfalso; omega

theorem c_i2d_f35 (w : World) (mean : ExcName → Option Value) (mg mb : Str → Option Value) (x k d : Nat) (X : Int) (t u : Tok) (rest : List (Addr × Obj)) (hX : X = x) (hx : x < 2 ^ 1000) (hx0 : x ≠ 0) (hk : ((Builtin.Int.intBits X : Int) + 35 - 1).fdiv 35 = (k : Int)) (hk2 : k ≤ 64) (hk0 : 0 < k) (hd : k ≤ 2 ^ d) (hd6 : d ≤ 6) (hoff : OwnOff rest [55]) :
   Ctr 15 w mean mg mb 60 ((55, tabObj #[]) :: rest) [.int X t, .int 35 u] (fun v ns => ∃ l ds nn c oc, v = .ref l ∧ ns = (l, listOf (List.toArray ds) nn) :: (c, oc) :: (55, tab1 c) :: rest ∧ IntsAre ds (inF 35 d x 0 k (List.replicate k 0)) ∧ Rec oc q1 ∧ 55 < l ∧ (∀ p ∈ rest, p.1 < l) ∧ l < c) := by
  unfold Ctr
  k_fill
  intros; rename_i hret
  refine wpAny_call ?_
  (k_dflt (refine' code_defC ?k1 ?k2 ?k3 ?k4 ?k5 ?kA ?kF ?kK ?k6 ?k7 ?k8 ?k9 ?kB ?kD ?_ ?c2 ?c3 ?c4; (case kA => exact rfl); (case kF => exact rfl); (case kK => first | exact rfl | assumption); (case k1 => k_asm); (case k2 => k_asm); (case k3 => k_asm); (case k4 => k_asm); (case k5 => k_asm); (case k6 => k_is); (case k7 => k_is); (case k8 => ktr_room); (case k9 => exact BindsTo.of_eq rfl); (case kB => exact rfl); (case kD => decide +kernel); (case c2 => exact rfl); (case c3 => exact rfl); (case c4 => exact rfl); k_whole; intro g' L' h' tk' cells' FG' F' N' Y' B' X' T' l1; (try k_lt l1); k_cells Y'; (try simp only [List.cons_append, List.nil_append] at N'); (try dsimp only); (try k_lift B'); (try k_fold)))
  obtain ⟨l1a, l1b⟩ := l1
  (repeat' ((fail_if_success (first | (with_reducible show wpAny _ _ (call (Value.ref _) _) _ _ _) | (with_reducible show wpAny _ _ (setItem (Value.ref _) (Value.int _ _) _) _ _ _) | (with_reducible show wpAny _ _ (call (Value.builtin _) [Value.ref _]) _ _ _) | (with_reducible show wpAny _ _ (binaryOp Operator.RShift (Value.int _ _) (Value.int _ _)) _ _ _) | (with_reducible show wpAny _ _ (binaryOp Operator.LShift (Value.int _ _) (Value.int _ _)) _ _ _) | (with_reducible show wpAny _ _ (binaryOp Operator.BitXor (Value.int _ _) (Value.int _ _)) _ _ _))); first | (k_unfold; (try dsimp only)) | (k_end; kc_close) | walk1 | (dsimp only; walk1) | (leave1; walk_say "STEP leave1"; (try dsimp only)) | fail "no step"))
  · (rename News _ _ _ _ => N')
    refine lenL N' (by k_mem) List.length_replicate (by omega) ?_
    (repeat' ((fail_if_success (first | (with_reducible show wpAny _ _ (call (Value.ref _) _) _ _ _) | (with_reducible show wpAny _ _ (exec (Stmt.For _ _ _ _ _) _) _ _ _))); first | (k_unfold; (try dsimp only)) | (k_end; kc_close) | walk1 | (dsimp only; walk1) | (leave1; walk_say "STEP leave1"; (try dsimp only)) | fail "no step"))
    (rename Fr _ _ _ _ => Fo); (rename News _ _ _ _ => No)
    (k_dflt (refine' in1_use_35 (d := d) (reordF No) ?k1 ?k2 ?k3 ?k4 ?k5 ?k6 ?k7 (intsAre_rep _ k) hX rfl rfl hk0 ?k8 ?k10 ?k9 hx ?k11 Fo ?k12 ?k13 ?k14 ?k15 ?k16 ?k17 ?k18 ?kR; (case k11 => k_asm); (case k12 => k_asm); (case k13 => k_asm); (case k14 => k_asm); (case k15 => k_asm); (case k16 => first | exact rfl | assumption); (case k17 => ktr_room); (case k18 => ktr_units); (case k1 => assumption); (case k2 => assumption); (case k3 => assumption); (case k4 => assumption); (case k5 => assumption)))
    case k6 => exact List.forall_mem_cons.mpr ⟨ltN (by (try dsimp only); omega), fun p hp => Nat.lt_of_lt_of_le (allLt_lt l1b p hp) (Nat.le_of_lt (ltN (by omega)))⟩
    case k7 => exact ⟨ltN (by omega), ltN (by omega), ltN (by omega), neN (by omega), neN (by omega)⟩
    case k8 => rw [List.length_replicate]; omega
    case k9 => rw [List.length_replicate]; omega
    case k10 => omega
    case kR =>
      intro ds' h3 tk3 F3 N3 hI3
      clear Fo No
      k_steps
      (rename Fr _ _ _ _ => Fe); (rename News _ _ _ _ => Ne)
      exact hret _ _ _ _ Fe (finF Ne) ⟨_, _, _, _, _, rfl, rfl, hI3, ⟨_, _, by assumption, by assumption⟩, ltN (by omega), fun p hp => Nat.lt_of_lt_of_le (allLt_lt l1b p hp) (Nat.le_of_lt (ltN (by omega))), ltN (by omega)⟩
  · exfalso; omega

theorem c_i2d_g35 (w : World) (mean : ExcName → Option Value) (mg mb : Str → Option Value) (x k d : Nat) (X : Int) (t u : Tok) (rest : List (Addr × Obj)) (c₀ : Addr) (oc₀ : Obj) (hrec : Rec oc₀ q1) (hX : X = x) (hx : x < 2 ^ 1000) (hx0 : x ≠ 0) (hk : ((Builtin.Int.intBits X : Int) + 35 - 1).fdiv 35 = (k : Int)) (hk2 : k ≤ 64) (hk0 : 0 < k) (hd : k ≤ 2 ^ d) (hd6 : d ≤ 6) :
   Ctr 15 w mean mg mb 60 ((c₀, oc₀) :: (55, tab1 c₀) :: rest) [.int X t, .int 35 u] (fun v ns => ∃ l ds nn, v = .ref l ∧ ns = (l, listOf (List.toArray ds) nn) :: (c₀, oc₀) :: (55, tab1 c₀) :: rest ∧ IntsAre ds (inF 35 d x 0 k (List.replicate k 0)) ∧ 55 < l ∧ c₀ < l ∧ (∀ p ∈ rest, p.1 < l)) := by
  unfold Ctr
  k_fill
  intros; rename_i hret
  refine wpAny_call ?_
  (k_dflt (refine' code_defC ?k1 ?k2 ?k3 ?k4 ?k5 ?kA ?kF ?kK ?k6 ?k7 ?k8 ?k9 ?kB ?kD ?_ ?c2 ?c3 ?c4; (case kA => exact rfl); (case kF => exact rfl); (case kK => first | exact rfl | assumption); (case k1 => k_asm); (case k2 => k_asm); (case k3 => k_asm); (case k4 => k_asm); (case k5 => k_asm); (case k6 => k_is); (case k7 => k_is); (case k8 => ktr_room); (case k9 => exact BindsTo.of_eq rfl); (case kB => exact rfl); (case kD => decide +kernel); (case c2 => exact rfl); (case c3 => exact rfl); (case c4 => exact rfl); k_whole; intro g' L' h' tk' cells' FG' F' N' Y' B' X' T' l1; (try k_lt l1); k_cells Y'; (try simp only [List.cons_append, List.nil_append] at N'); (try dsimp only); (try k_lift B'); (try k_fold)))
  obtain ⟨l1a, l1c, l1b⟩ := l1
  obtain ⟨vs₀, tq₀, hrec1, hrec2⟩ := hrec
  unfold q1 at hrec2
  (repeat' ((fail_if_success (first | (with_reducible show wpAny _ _ (call (Value.ref _) _) _ _ _) | (with_reducible show wpAny _ _ (setItem (Value.ref _) (Value.int _ _) _) _ _ _) | (with_reducible show wpAny _ _ (call (Value.builtin _) [Value.ref _]) _ _ _) | (with_reducible show wpAny _ _ (binaryOp Operator.RShift (Value.int _ _) (Value.int _ _)) _ _ _) | (with_reducible show wpAny _ _ (binaryOp Operator.LShift (Value.int _ _) (Value.int _ _)) _ _ _) | (with_reducible show wpAny _ _ (binaryOp Operator.BitXor (Value.int _ _) (Value.int _ _)) _ _ _))); first | (k_unfold; (try dsimp only)) | (k_end; kc_close) | walk1 | (dsimp only; walk1) | (leave1; walk_say "STEP leave1"; (try dsimp only)) | fail "no step"))
  · (rename News _ _ _ _ => N')
    refine lenL N' (by k_mem) List.length_replicate (by omega) ?_
    (repeat' ((fail_if_success (first | (with_reducible show wpAny _ _ (call (Value.ref _) _) _ _ _) | (with_reducible show wpAny _ _ (exec (Stmt.For _ _ _ _ _) _) _ _ _))); first | (k_unfold; (try dsimp only)) | (k_end; kc_close) | walk1 | (dsimp only; walk1) | (leave1; walk_say "STEP leave1"; (try dsimp only)) | fail "no step"))
    (rename Fr _ _ _ _ => Fo); (rename News _ _ _ _ => No)
    (k_dflt (refine' in1_use_35 (d := d) (reordG No) ?k1 ?k2 ?k3 ?k4 ?k5 ?k6 ?k7 (intsAre_rep _ k) hX rfl rfl hk0 ?k8 ?k10 ?k9 hx ?k11 Fo ?k12 ?k13 ?k14 ?k15 ?k16 ?k17 ?k18 ?kR; (case k11 => k_asm); (case k12 => k_asm); (case k13 => k_asm); (case k14 => k_asm); (case k15 => k_asm); (case k16 => first | exact rfl | assumption); (case k17 => ktr_room); (case k18 => ktr_units); (case k1 => assumption); (case k2 => assumption); (case k3 => assumption); (case k4 => assumption); (case k5 => assumption)))
    case k6 => exact List.forall_mem_cons.mpr ⟨ltN (by (try dsimp only); omega), fun p hp => Nat.lt_of_lt_of_le (allLt_lt l1b p hp) (Nat.le_of_lt (ltN (by omega)))⟩
    case k7 => exact ⟨ltN (by omega), ltN (by omega), ltN (by omega), neN (by omega), neN (by omega)⟩
    case k8 => rw [List.length_replicate]; omega
    case k9 => rw [List.length_replicate]; omega
    case k10 => omega
    case kR =>
      intro ds' h3 tk3 F3 N3 hI3
      clear Fo No
      k_steps
      (rename Fr _ _ _ _ => Fe); (rename News _ _ _ _ => Ne)
      exact hret _ _ _ _ Fe (finF Ne) ⟨_, _, _, rfl, rfl, hI3, ltN (by omega), ltN (by omega), fun p hp => Nat.lt_of_lt_of_le (allLt_lt l1b p hp) (Nat.le_of_lt (ltN (by omega)))⟩
  · exfalso; omega
end Mine
end
section
set_option maxRecDepth 100000
set_option maxHeartbeats 8000000
namespace Mine
open PySem PySem.W PyProof.Rows PySem.Calls
/-- _digits2int's inner -/
def d2F (n : Nat) (zs : List Nat) : Nat → Nat → Nat → Nat
  | 0, lo, _ => zs.getD lo 0
  | d + 1, lo, hi => if lo + 1 = hi then zs.getD lo 0 else d2F n zs d ((lo + hi) / 2) hi * 2 ^ (((lo + hi) / 2 - lo) * n) + d2F n zs d lo ((lo + hi) / 2)
theorem d2F_succ (n : Nat) (zs : List Nat) (d lo hi : Nat) (h : ¬ lo + 1 = hi) : d2F n zs (d + 1) lo hi = d2F n zs d ((lo + hi) / 2) hi * 2 ^ (((lo + hi) / 2 - lo) * n) + d2F n zs d lo ((lo + hi) / 2) := by
  conv => lhs; unfold d2F
  rw [if_neg h]
theorem d2F_lt {zs : List Nat} (hz : ∀ z ∈ zs, z < 2 ^ 36) : ∀ (d lo hi : Nat), lo < hi → hi ≤ lo + 2 ^ d → d2F 35 zs d lo hi < 2 ^ (36 * (hi - lo)) := by
  have h0 : ∀ lo hi : Nat, lo < hi → zs.getD lo 0 < 2 ^ (36 * (hi - lo)) := by
    intro lo hi h
    have e : zs.getD lo 0 < 2 ^ 36 := by
      rw [List.getD_eq_getElem?_getD]
      cases q : zs[lo]? with
      | none => simp
      | some z => exact hz z (List.mem_of_getElem? q)
    exact Nat.lt_of_lt_of_le e (Nat.pow_le_pow_right (by omega) (by omega))
  intro d
  induction d with
  | zero => intro lo hi h1 h2; exact h0 lo hi h1
  | succ d ih =>
    intro lo hi h1 h2
    unfold d2F
    split
    · exact h0 lo hi h1
    · next h3 =>
      have h2' : hi ≤ lo + 2 ^ d * 2 := by rw [← Nat.pow_succ]; exact h2
      generalize hm : (lo + hi) / 2 = mid
      have i1 := ih mid hi (by omega) (by omega)
      have i2 := ih lo mid (by omega) (by omega)
      generalize d2F 35 zs d mid hi = A at *
      generalize d2F 35 zs d lo mid = B at *
      have e1 : 36 * (hi - lo) = 36 * (hi - mid) + 36 * (mid - lo) := by omega
      rw [e1, Nat.pow_add]
      have e2 : 2 ^ ((mid - lo) * 35) ≤ 2 ^ (36 * (mid - lo)) := Nat.pow_le_pow_right (by omega) (by omega)
      generalize 2 ^ ((mid - lo) * 35) = p at *
      generalize 2 ^ (36 * (mid - lo)) = q at *
      generalize 2 ^ (36 * (hi - mid)) = r at *
      have e3 : A * p ≤ A * q := Nat.mul_le_mul_left A e2
      have e4 : (A + 1) * q ≤ r * q := Nat.mul_le_mul_right q i1
      have e5 : (A + 1) * q = A * q + q := by rw [Nat.add_mul, Nat.one_mul]
      omega
/-- the ledger of _digits2int's inner -/
def led2 (f c' aI aN aG : Addr) (oc oI oN oG : Obj) (qual : Str) (doc pm ct : Value) (rest : List (Addr × Obj)) : List (Addr × Obj) :=
  (f, fnObj (inner 9 0) qual [(Str.ofString "n", aN), (Str.ofString "inner", aI), (Str.ofString "digits", aG)] doc pm c' ct) :: (c', oc) :: (aI, oI) :: (aN, oN) :: (aG, oG) :: rest
theorem AtI.mem {news : List (Addr × Obj)} {l : Addr} {ds : List Value} {zs : List Nat} {nn lo : Nat} (hm : (l, listOf (List.toArray ds) nn) ∈ news) (hI : IntsAre ds (zs.map Int.ofNat)) (hl : lo < ds.length) (h6 : ds.length ≤ 1000) : ∃ t, AtI news l (lo : Int) (.int (zs.getD lo 0 : Nat) t) := by
  obtain ⟨v, hv⟩ : ∃ v, ds[lo]? = some v := ⟨ds[lo], List.getElem?_eq_getElem hl⟩
  obtain ⟨t, rfl⟩ := IntsAre.int_at hI lo v hv
  refine ⟨t, ds, nn, hm, by omega, by omega, ?_⟩
  have e : (zs.map Int.ofNat).getD lo 0 = ((zs.getD lo 0 : Nat) : Int) := by
    simp only [List.getD_eq_getElem?_getD, List.getElem?_map]
    cases zs[lo]? <;> rfl
  rw [← e]
  exact hv
end Mine
end
section
set_option maxRecDepth 100000
set_option maxHeartbeats 8000000
namespace Mine
open PySem PySem.W PyProof.Rows PySem.Calls
local macro_rules | `(tactic| k_all) => `(tactic| exact allLt_ne (by assumption) (by omega))
local macro_rules | `(tactic| walk_at "subscriptTail") => `(tactic| ((with_reducible show wpAny _ _ (subscriptTail _ _ (Value.ref _) (Value.int _ _)) _ _ _); (with_unfolding_all refine' it_l ?k1 ?k2 ?_ ?k3; (case k1 => k_asm); (case k2 => with_reducible assumption); (case k3 => with_unfolding_all rfl); k_whole)))

theorem c_in2 (w : World) (mean : ExcName → Option Value) (mg mb : Str → Option Value) (tn : Tok) (f c' l aI aN aG : Addr) (oc oI oN oG : Obj) (vs : Array Value) (qual : Str) (tq : Tok) (doc pm ct : Value) (rest : List (Addr × Obj)) (ds : List Value) (zs : List Nat) (nn : Nat)
   (hoI : oI.data = .cell (some (.ref f))) (hoG : oG.data = .cell (some (.ref l))) (hoN : oN.data = .cell (some (.int 35 tn))) (hd : oc.data = .fields vs) (hv : vs[1]? = some (.str qual tq)) (hm : (l, listOf (List.toArray ds) nn) ∈ rest) (hI : IntsAre ds (zs.map Int.ofNat)) (hz : ∀ z ∈ zs, z < 2 ^ 36) (h6 : ds.length ≤ 16) :
   ∀ (d : Nat) (LO HI : Int) (lo hi : Nat) (u v : Tok), LO = lo → HI = hi → lo < hi → hi ≤ ds.length → hi ≤ lo + 2 ^ d → 
   Ctr (d + 3) w mean mg mb f (led2 f c' aI aN aG oc oI oN oG qual doc pm ct rest)
     [.int LO u, .int HI v] (fun v ns => (∃ t, v = .int (d2F 35 zs d lo hi : Nat) t) ∧ ns = led2 f c' aI aN aG oc oI oN oG qual doc pm ct rest) := by
  have hmL : (l, listOf (List.toArray ds) nn) ∈ led2 f c' aI aN aG oc oI oN oG qual doc pm ct rest := .tail _ (.tail _ (.tail _ (.tail _ (.tail _ hm))))
  intro d
  induction d with
  | zero =>
    intro LO HI lo hi u v h1 h2 h3 h4 h5
    have h5' : hi = lo + 1 := by omega
    clear h5
    subst h5' h1 h2
    obtain ⟨tA, hA⟩ := AtI.mem hmL hI (lo := lo) (by omega) (by omega)
    unfold Ctr
    k_fill
    intros; rename_i hret
    refine wpAny_call ?_
    (k_dflt (refine' code_nest ?k1 ?k2 ?k3 ?k4 ?k5 ?kA ?kF ?kK ?k6 ?k7 ?k8 ?k9 ?kB ?_ ?c2 ?c3 ?c4 ?c5; (case kA => exact rfl); (case kF => exact rfl); (case kK => first | exact rfl | assumption); (case k1 => k_asm); (case k2 => k_asm); (case k3 => k_asm); (case k4 => k_asm); (case k5 => k_asm); (case k6 => k_mem); (case k7 => exact codeRec_news (by k_asm) (by k_mem) (by assumption) (by assumption)); (case k8 => ktr_room); (case k9 => exact BindsTo.of_eq rfl); (case c5 => decide); (case kB => exact locs rfl); (case c2 => exact rfl); (case c3 => exact rfl); (case c4 => exact rfl); k_whole; intro g' L' h' FG' F' N' B' X' T'; (try dsimp only); (try k_lift B'); (try k_fold)))
    (repeat' ((fail_if_success (first | (with_reducible show wpAny _ _ (call (Value.ref _) _) _ _ _) | (with_reducible show wpAny _ _ (setItem (Value.ref _) (Value.int _ _) _) _ _ _) | (with_reducible show wpAny _ _ (call (Value.builtin _) [Value.ref _]) _ _ _) | (with_reducible show wpAny _ _ (binaryOp Operator.RShift (Value.int _ _) (Value.int _ _)) _ _ _) | (with_reducible show wpAny _ _ (binaryOp Operator.LShift (Value.int _ _) (Value.int _ _)) _ _ _) | (with_reducible show wpAny _ _ (binaryOp Operator.BitXor (Value.int _ _) (Value.int _ _)) _ _ _))); first | (k_unfold; (try dsimp only)) | (k_end; kc_close) | walk1 | (dsimp only; walk1) | (leave1; walk_say "STEP leave1"; (try dsimp only)) | fail "no step"))
    · exact hret _ _ _ _ (by assumption) (by assumption) ⟨⟨_, rfl⟩, rfl⟩
    all_goals (exfalso; omega)
  | succ d ih =>
    intro LO HI lo hi u v h1 h2 h3 h4 h5
    have h5' : hi ≤ lo + 2 ^ d * 2 := by omega
    clear h5
    subst h1 h2
    obtain ⟨tA, hA⟩ := AtI.mem hmL hI (lo := lo) (by omega) (by omega)
    unfold Ctr
    k_fill
    intros; rename_i hret
    refine wpAny_call ?_
    (k_dflt (refine' code_nest ?k1 ?k2 ?k3 ?k4 ?k5 ?kA ?kF ?kK ?k6 ?k7 ?k8 ?k9 ?kB ?_ ?c2 ?c3 ?c4 ?c5; (case kA => exact rfl); (case kF => exact rfl); (case kK => first | exact rfl | assumption); (case k1 => k_asm); (case k2 => k_asm); (case k3 => k_asm); (case k4 => k_asm); (case k5 => k_asm); (case k6 => k_mem); (case k7 => exact codeRec_news (by k_asm) (by k_mem) (by assumption) (by assumption)); (case k8 => ktr_room); (case k9 => exact BindsTo.of_eq rfl); (case c5 => decide); (case kB => exact locs rfl); (case c2 => exact rfl); (case c3 => exact rfl); (case c4 => exact rfl); k_whole; intro g' L' h' FG' F' N' B' X' T'; (try dsimp only); (try k_lift B'); (try k_fold)))
    (repeat' ((fail_if_success (first | (with_reducible show wpAny _ _ (call (Value.ref _) _) _ _ _) | (with_reducible show wpAny _ _ (setItem (Value.ref _) (Value.int _ _) _) _ _ _) | (with_reducible show wpAny _ _ (call (Value.builtin _) [Value.ref _]) _ _ _) | (with_reducible show wpAny _ _ (binaryOp Operator.RShift (Value.int _ _) (Value.int _ _)) _ _ _) | (with_reducible show wpAny _ _ (binaryOp Operator.LShift (Value.int _ _) (Value.int _ _)) _ _ _) | (with_reducible show wpAny _ _ (binaryOp Operator.BitXor (Value.int _ _) (Value.int _ _)) _ _ _))); first | (k_unfold; (try dsimp only)) | (k_end; kc_close) | walk1 | (dsimp only; walk1) | (leave1; walk_say "STEP leave1"; (try dsimp only)) | fail "no step"))
    · have hq : lo + 1 = hi := by omega
      exact hret _ _ _ _ (by assumption) (by assumption) ⟨⟨_, by unfold d2F; rw [if_pos hq]⟩, rfl⟩
    · have hq : ¬ lo + 1 = hi := by omega
      refine shrN (x := lo + hi) (k := 1) (by omega) rfl ?_
      (repeat' ((fail_if_success (first | (with_reducible show wpAny _ _ (call (Value.ref _) _) _ _ _) | (with_reducible show wpAny _ _ (setItem (Value.ref _) (Value.int _ _) _) _ _ _) | (with_reducible show wpAny _ _ (call (Value.builtin _) [Value.ref _]) _ _ _) | (with_reducible show wpAny _ _ (binaryOp Operator.RShift (Value.int _ _) (Value.int _ _)) _ _ _) | (with_reducible show wpAny _ _ (binaryOp Operator.LShift (Value.int _ _) (Value.int _ _)) _ _ _) | (with_reducible show wpAny _ _ (binaryOp Operator.BitXor (Value.int _ _) (Value.int _ _)) _ _ _))); first | (k_unfold; (try dsimp only)) | (k_end; kc_close) | walk1 | (dsimp only; walk1) | (leave1; walk_say "STEP leave1"; (try dsimp only)) | fail "no step"))
      have hb := d2F_lt hz d ((lo + hi) / 2) hi (by omega) (by omega)
      have hb2 : d2F 35 zs d ((lo + hi) / 2) hi < 2 ^ 1000 := Nat.lt_of_lt_of_le hb (Nat.pow_le_pow_right (by omega) (by omega))
      clear hb
      (rename Fr _ _ _ _ => Fo); (rename News _ _ _ _ => No)
      (k_dflt (refine' Ctr.use (ih _ _ ((lo + hi) / 2) hi _ _ (by omega) rfl (by omega) (by omega) (by omega)) ?k1 ?k2 ?k3 ?k4 ?k5 ?k6 ?k7 ?k8 ?k9 ?k10 ?kR; (case k1 => k_asm); (case k2 => k_asm); (case k3 => k_asm); (case k4 => k_asm); (case k5 => k_asm); (case k6 => assumption); (case k7 => assumption); (case k8 => first | exact rfl | assumption); (case k9 => ktr_room); (case k10 => ktr_units)))
      case kR =>
        intro v3 ns3 h3 tk3 F3 N3 hr
        obtain ⟨⟨t3, rfl⟩, rfl⟩ := hr
        clear Fo No
        (repeat' ((fail_if_success (first | (with_reducible show wpAny _ _ (call (Value.ref _) _) _ _ _) | (with_reducible show wpAny _ _ (setItem (Value.ref _) (Value.int _ _) _) _ _ _) | (with_reducible show wpAny _ _ (call (Value.builtin _) [Value.ref _]) _ _ _) | (with_reducible show wpAny _ _ (binaryOp Operator.RShift (Value.int _ _) (Value.int _ _)) _ _ _) | (with_reducible show wpAny _ _ (binaryOp Operator.LShift (Value.int _ _) (Value.int _ _)) _ _ _) | (with_reducible show wpAny _ _ (binaryOp Operator.BitXor (Value.int _ _) (Value.int _ _)) _ _ _))); first | (k_unfold; (try dsimp only)) | (k_end; kc_close) | walk1 | (dsimp only; walk1) | (leave1; walk_say "STEP leave1"; (try dsimp only)) | fail "no step"))
        refine shlN (x := d2F 35 zs d ((lo + hi) / 2) hi) (k := ((lo + hi) / 2 - lo) * 35) rfl (by omega) hb2 (by omega) ?_
        (repeat' ((fail_if_success (first | (with_reducible show wpAny _ _ (call (Value.ref _) _) _ _ _) | (with_reducible show wpAny _ _ (setItem (Value.ref _) (Value.int _ _) _) _ _ _) | (with_reducible show wpAny _ _ (call (Value.builtin _) [Value.ref _]) _ _ _) | (with_reducible show wpAny _ _ (binaryOp Operator.RShift (Value.int _ _) (Value.int _ _)) _ _ _) | (with_reducible show wpAny _ _ (binaryOp Operator.LShift (Value.int _ _) (Value.int _ _)) _ _ _) | (with_reducible show wpAny _ _ (binaryOp Operator.BitXor (Value.int _ _) (Value.int _ _)) _ _ _))); first | (k_unfold; (try dsimp only)) | (k_end; kc_close) | walk1 | (dsimp only; walk1) | (leave1; walk_say "STEP leave1"; (try dsimp only)) | fail "no step"))
        (k_dflt (refine' Ctr.use (ih _ _ lo ((lo + hi) / 2) _ _ rfl (by omega) (by omega) (by omega) (by omega)) ?k1 ?k2 ?k3 ?k4 ?k5 ?k6 ?k7 ?k8 ?k9 ?k10 ?kR; (case k1 => k_asm); (case k2 => k_asm); (case k3 => k_asm); (case k4 => k_asm); (case k5 => k_asm); (case k6 => assumption); (case k7 => assumption); (case k8 => first | exact rfl | assumption); (case k9 => ktr_room); (case k10 => ktr_units)))
        case kR =>
          intro v4 ns4 h4 tk4 F4 N4 hr
          obtain ⟨⟨t4, rfl⟩, rfl⟩ := hr
          clear F3 N3
          k_steps
          exact hret _ _ _ _ (by assumption) (by assumption) ⟨⟨_, by rw [d2F_succ _ _ _ _ _ hq]; push_cast; rfl⟩, rfl⟩
theorem c_div2 (w : World) (mean : ExcName → Option Value) (mg mb : Str → Option Value) (a b : Nat) (A B : Int) (t u v : Tok) (news : List (Addr × Obj)) (hA : A = a) (hB : B = b) (hI : a < 2 ^ 1000) (hb : 0 < b) (hb3 : b < 2 ^ 1000) :
   Ctr 5 w mean mg mb 46 news [.int A t, .int B u, .int 35 v] (fun v ns => ∃ T t1 t2, v = .ref T ∧ ns = (T, { cls := .type "tuple", data := .seq (List.toArray [.int ((a / b : Nat) : Int) t1, .int ((a % b : Nat) : Int) t2]) 0 }) :: news ∧ ∀ p ∈ news, p.1 < T) := by
  subst hA hB
  unfold Ctr
  k_fill
  intros; rename_i hret
  refine wpAny_call ?_
  (k_dflt (refine' code_def ?k1 ?k2 ?k3 ?k4 ?k5 ?kA ?kF ?kK ?k6 ?k7 ?k8 ?k9 ?kB ?_ ?c2 ?c3 ?c4 ?c5; (case kA => exact rfl); (case kF => exact rfl); (case kK => first | exact rfl | assumption); (case k1 => k_asm); (case k2 => k_asm); (case k3 => k_asm); (case k4 => k_asm); (case k5 => k_asm); (case k6 => k_is); (case k7 => k_is); (case k8 => ktr_room); (case k9 => exact BindsTo.of_eq rfl); (case c5 => decide); (case kB => exact locs rfl); (case c2 => exact rfl); (case c3 => exact rfl); (case c4 => exact rfl); k_whole; intro g' L' h' FG' F' N' B' X' T'; (try dsimp only); (try k_lift B'); (try k_fold)))
  have hlog : (b : Int).natAbs.log2 < 9000 := Nat.lt_of_lt_of_le ((Nat.log2_lt (n := (b : Int).natAbs) (by omega)).mpr (show (b : Int).natAbs < 2 ^ 1000 by omega)) (by decide)
  have hb1 := bits_lt 1000 hI
  (repeat' ((fail_if_success (first | (with_reducible show wpAny _ _ (call (Value.ref _) _) _ _ _) | (with_reducible show wpAny _ _ (call (Value.builtin _) [_, _]) _ _ _))); first | (k_unfold; (try dsimp only)) | (k_end; kc_close) | walk1 | (dsimp only; walk1) | (leave1; walk_say "STEP leave1"; (try dsimp only)) | fail "no step"))
  (rename Fr _ _ _ _ => Fo); (rename News _ _ _ _ => No)
  refine' divmod_N ?kF ?kN ?hz ?hQ ?hp
  case kF => exact Fo
  case kN => exact No
  case hz => omega
  case hp => exact Or.inl (PyProof.noPylong_of_log2 hlog)
  intro h9 F9 N9
  have hT := fun p (hp : p ∈ news) => Heap.lt_size (No p hp).1
  clear Fo No
  k_steps
  exact hret _ _ _ _ (by assumption) (by assumption) ⟨_, _, _, rfl, by rw [Int.fdiv_eq_ediv_of_nonneg _ (by omega), Int.fmod_eq_emod_of_nonneg _ (by omega)]; rfl, hT⟩
end Mine
end
section
set_option maxRecDepth 100000
set_option maxHeartbeats 8000000
namespace Mine
open PySem PySem.W PyProof.Rows PySem.Calls
section
variable {h₀ h : Heap} {L : Addr} {f c : Addr} {F oc oP : Obj} {P : Addr} {x y z : Addr × Obj} {rest : List (Addr × Obj)}
theorem reordH (N : News h₀ L h ((f, F) :: x :: y :: z :: (c, oc) :: (P, oP) :: rest)) : News h₀ L h ((f, F) :: (c, oc) :: x :: y :: z :: ((P, oP) :: rest)) := fun p hp => N p (by
  simp only [List.mem_cons] at hp ⊢
  rcases hp with h | h | h | h | h | h | h <;> simp [h])
theorem finD (N : News h₀ L h ((f, F) :: (c, oc) :: x :: y :: z :: (P, oP) :: rest)) : News h₀ L h ((c, oc) :: (P, oP) :: rest) := fun p hp => N p (by
  simp only [List.mem_cons] at hp ⊢
  rcases hp with h | h | h <;> simp [h])
end
def q2 : Str := Str.ofString "_digits2int.<locals>.inner"
def tab2 (c : Addr) : Obj := tabObj #[rawInt 53, rawInt 4, .ref c]
theorem in2_use {w : World} {mean : ExcName → Option Value} {mg mb : Str → Option Value} {tn : Tok} {f c' l aI aN aG : Addr} {oc oI oN oG : Obj} {vs : Array Value} {qual : Str} {tq : Tok} {doc pm ct : Value} {rest : List (Addr × Obj)} {nn d : Nat} {LO HI : Int} {lo hi : Nat} {u v : Tok} {ds : List Value} {zs : List Nat}
    {dp un : Nat} {gd : Option (List Code)} {cn : Str} {cs : Scope} {a : Addr} {ccd : Value} {cl : List (Str × Addr)} {outer : List Env} {A₀ : Around} {base h₀ : Heap} {L : Addr} {m : Str → Option Value} {s : Shared} {Q E : Value → Shared → Prop}
    (N : News h₀ L s.heap ((f, fnObj (inner 9 0) qual [(Str.ofString "n", aN), (Str.ofString "inner", aI), (Str.ofString "digits", aG)] doc pm c' ct) :: (c', oc) :: (aI, oI) :: (aN, oN) :: (aG, oG) :: rest))
    (hoI : oI.data = .cell (some (.ref f))) (hoG : oG.data = .cell (some (.ref l))) (hoN : oN.data = .cell (some (.int 35 tn))) (hd : oc.data = .fields vs) (hv : vs[1]? = some (.str qual tq)) (hm : (l, listOf (List.toArray ds) nn) ∈ rest)
    (hI : IntsAre ds (zs.map Int.ofNat)) (hz : ∀ z ∈ zs, z < 2 ^ 36) (h6 : ds.length ≤ 16) (g2 : LO = lo) (g3 : HI = hi) (g4 : lo < hi) (g5 : hi ≤ ds.length) (g6 : hi ≤ lo + 2 ^ d)
    (B : Below A₀ base outer h₀) (F : Fr h₀ L s.heap m) (X₀ : (K w.params).In h₀) (T : Top topProg LS mean mg mb h₀) (c1 : CodeHd base 59 55) (c2 : CodeHd base 66 62) (hk : cs.kind = .function)
    (hd : dp + (d + 3) < recursionLimit) (hu : un + 10 * (d + 3) < cLine)
    (h : ∀ h' tk' t, Fr h₀ L h' m → News h₀ L h' ((f, fnObj (inner 9 0) qual [(Str.ofString "n", aN), (Str.ofString "inner", aI), (Str.ofString "digits", aG)] doc pm c' ct) :: (c', oc) :: (aI, oI) :: (aN, oN) :: (aG, oG) :: rest) → Q (.int (d2F 35 zs d lo hi : Nat) t) { s with heap := h', toks := tk' }) :
    wpAny (model (PySem.Challenge.rw_to0036_01.row.toRowW.prog) w) (ktrTop dp un gd cn cs L a ccd cl outer) (call (.ref f) [.int LO u, .int HI v]) Q E s :=
  Ctr.use (c_in2 w mean mg mb tn f c' l aI aN aG oc oI oN oG vs qual tq doc pm ct rest ds zs nn hoI hoG hoN (by assumption) hv hm hI hz h6 d LO HI lo hi u v g2 g3 g4 g5 g6) B F X₀ N T c1 c2 hk hd hu
    fun v ns h' tk' F' N' hr => by
      obtain ⟨⟨t, rfl⟩, rfl⟩ := hr
      exact h h' tk' t F' N'
end Mine
end
section
set_option maxRecDepth 100000
set_option maxHeartbeats 8000000
namespace Mine
open PySem PySem.W PyProof.Rows PySem.Calls
local macro_rules | `(tactic| k_all) => `(tactic| exact allLt_ne (by assumption) (by omega))

theorem c_d2i_f (w : World) (mean : ExcName → Option Value) (mg mb : Str → Option Value) (DL nn k d : Nat) (ds : List Value) (zs : List Nat) (t u : Tok) (rest : List (Addr × Obj)) (hI : IntsAre ds (zs.map Int.ofNat)) (hz : ∀ z ∈ zs, z < 2 ^ 36) (hoff : OwnOff rest [62]) (hne : DL ≠ 62) (hl : 0 < ds.length) (hl2 : ds.length ≤ 16) (hd : ds.length ≤ 2 ^ d) (hd6 : d ≤ 6) :
   Ctr 15 w mean mg mb 67 ((62, tabObj #[]) :: (DL, listOf (List.toArray ds) nn) :: rest) [.ref DL, .int 35 u] (fun v ns => (∃ t, v = .int (d2F 35 zs d 0 ds.length : Nat) t) ∧ ∃ c oc, ns = (c, oc) :: (62, tab2 c) :: (DL, listOf (List.toArray ds) nn) :: rest ∧ Rec oc q2 ∧ 62 < c ∧ DL < c ∧ ∀ p ∈ rest, p.1 < c) := by
  unfold Ctr
  k_fill
  intros; rename_i hret
  refine wpAny_call ?_
  (k_dflt (refine' code_defC ?k1 ?k2 ?k3 ?k4 ?k5 ?kA ?kF ?kK ?k6 ?k7 ?k8 ?k9 ?kB ?kD ?_ ?c2 ?c3 ?c4; (case kA => exact rfl); (case kF => exact rfl); (case kK => first | exact rfl | assumption); (case k1 => k_asm); (case k2 => k_asm); (case k3 => k_asm); (case k4 => k_asm); (case k5 => k_asm); (case k6 => k_is); (case k7 => k_is); (case k8 => ktr_room); (case k9 => exact BindsTo.of_eq rfl); (case kB => exact rfl); (case kD => decide +kernel); (case c2 => exact rfl); (case c3 => exact rfl); (case c4 => exact rfl); k_whole; intro g' L' h' tk' cells' FG' F' N' Y' B' X' T' l1; (try k_lt l1); k_cells Y'; (try simp only [List.cons_append, List.nil_append] at N'); (try dsimp only); (try k_lift B'); (try k_fold)))
  obtain ⟨l1a, l1c, l1b⟩ := l1
  (repeat' ((fail_if_success (first | (with_reducible show wpAny _ _ (truthy (Value.ref _)) _ _ _) | (with_reducible show wpAny _ _ (call (Value.ref _) _) _ _ _))); first | (k_unfold; (try dsimp only)) | (k_end; kc_close) | walk1 | (dsimp only; walk1) | (leave1; walk_say "STEP leave1"; (try dsimp only)) | fail "no step"))
  (rename News _ _ _ _ => N')
  refine truthyL N' (by k_mem) hl (by omega) ?_
  (repeat' ((fail_if_success (first | (with_reducible show wpAny _ _ (call (Value.ref _) _) _ _ _) | (with_reducible show wpAny _ _ (setItem (Value.ref _) (Value.int _ _) _) _ _ _) | (with_reducible show wpAny _ _ (call (Value.builtin _) [Value.ref _]) _ _ _) | (with_reducible show wpAny _ _ (binaryOp Operator.RShift (Value.int _ _) (Value.int _ _)) _ _ _) | (with_reducible show wpAny _ _ (binaryOp Operator.LShift (Value.int _ _) (Value.int _ _)) _ _ _) | (with_reducible show wpAny _ _ (binaryOp Operator.BitXor (Value.int _ _) (Value.int _ _)) _ _ _))); first | (k_unfold; (try dsimp only)) | (k_end; kc_close) | walk1 | (dsimp only; walk1) | (leave1; walk_say "STEP leave1"; (try dsimp only)) | fail "no step"))
  (rename News _ _ _ _ => N')
  refine lenL N' (by k_mem) rfl (by omega) ?_
  (repeat' ((fail_if_success (first | (with_reducible show wpAny _ _ (call (Value.ref _) _) _ _ _) | (with_reducible show wpAny _ _ (exec (Stmt.For _ _ _ _ _) _) _ _ _))); first | (k_unfold; (try dsimp only)) | (k_end; kc_close) | walk1 | (dsimp only; walk1) | (leave1; walk_say "STEP leave1"; (try dsimp only)) | fail "no step"))
  (rename Fr _ _ _ _ => Fo); (rename News _ _ _ _ => No)
  (k_dflt (refine' in2_use (d := d) (l := DL) (ds := ds) (zs := zs) (nn := nn) No ?k1 ?k2 ?k3 ?k4 ?k5 ?k6 hI hz hl2 rfl rfl hl (Nat.le_refl _) ?k10 ?k11 Fo ?k12 ?k13 ?k14 ?k15 ?k16 ?k17 ?k18 ?kR; (case k11 => k_asm); (case k12 => k_asm); (case k13 => k_asm); (case k14 => k_asm); (case k15 => k_asm); (case k16 => first | exact rfl | assumption); (case k17 => ktr_room); (case k18 => ktr_units); (case k1 => assumption); (case k2 => assumption); (case k3 => assumption); (case k4 => assumption); (case k5 => assumption); (case k6 => k_mem)))
  case k10 => omega
  case kR =>
    intro h3 tk3 t3 F3 N3
    clear Fo No
    k_steps
    (rename Fr _ _ _ _ => Fe); (rename News _ _ _ _ => Ne)
    exact hret _ _ _ _ Fe (finD Ne) ⟨⟨_, rfl⟩, _, _, rfl, ⟨_, _, by assumption, by assumption⟩, ltN (by omega), ltN (by omega), fun p hp => Nat.lt_of_lt_of_le (allLt_lt l1b p hp) (Nat.le_of_lt (ltN (by omega)))⟩

theorem c_d2i_g (w : World) (mean : ExcName → Option Value) (mg mb : Str → Option Value) (DL nn k d : Nat) (ds : List Value) (zs : List Nat) (t u : Tok) (rest : List (Addr × Obj)) (c₀ : Addr) (oc₀ : Obj) (hrec : Rec oc₀ q2) (hI : IntsAre ds (zs.map Int.ofNat)) (hz : ∀ z ∈ zs, z < 2 ^ 36) (hoff : OwnOff rest [62]) (hne : DL ≠ 62) (hl : 0 < ds.length) (hl2 : ds.length ≤ 16) (hd : ds.length ≤ 2 ^ d) (hd6 : d ≤ 6) :
   Ctr 15 w mean mg mb 67 ((c₀, oc₀) :: (62, tab2 c₀) :: (DL, listOf (List.toArray ds) nn) :: rest) [.ref DL, .int 35 u] (fun v ns => (∃ t, v = .int (d2F 35 zs d 0 ds.length : Nat) t) ∧ ns = ((c₀, oc₀) :: (62, tab2 c₀) :: (DL, listOf (List.toArray ds) nn) :: rest)) := by
  unfold Ctr
  k_fill
  intros; rename_i hret
  refine wpAny_call ?_
  (k_dflt (refine' code_defC ?k1 ?k2 ?k3 ?k4 ?k5 ?kA ?kF ?kK ?k6 ?k7 ?k8 ?k9 ?kB ?kD ?_ ?c2 ?c3 ?c4; (case kA => exact rfl); (case kF => exact rfl); (case kK => first | exact rfl | assumption); (case k1 => k_asm); (case k2 => k_asm); (case k3 => k_asm); (case k4 => k_asm); (case k5 => k_asm); (case k6 => k_is); (case k7 => k_is); (case k8 => ktr_room); (case k9 => exact BindsTo.of_eq rfl); (case kB => exact rfl); (case kD => decide +kernel); (case c2 => exact rfl); (case c3 => exact rfl); (case c4 => exact rfl); k_whole; intro g' L' h' tk' cells' FG' F' N' Y' B' X' T' l1; (try k_lt l1); k_cells Y'; (try simp only [List.cons_append, List.nil_append] at N'); (try dsimp only); (try k_lift B'); (try k_fold)))
  obtain ⟨l1d, l1a, l1c, l1b⟩ := l1
  obtain ⟨vs₀, tq₀, hrec1, hrec2⟩ := hrec
  unfold q2 at hrec2
  (repeat' ((fail_if_success (first | (with_reducible show wpAny _ _ (truthy (Value.ref _)) _ _ _) | (with_reducible show wpAny _ _ (call (Value.ref _) _) _ _ _))); first | (k_unfold; (try dsimp only)) | (k_end; kc_close) | walk1 | (dsimp only; walk1) | (leave1; walk_say "STEP leave1"; (try dsimp only)) | fail "no step"))
  (rename News _ _ _ _ => N')
  refine truthyL N' (by k_mem) hl (by omega) ?_
  (repeat' ((fail_if_success (first | (with_reducible show wpAny _ _ (call (Value.ref _) _) _ _ _) | (with_reducible show wpAny _ _ (setItem (Value.ref _) (Value.int _ _) _) _ _ _) | (with_reducible show wpAny _ _ (call (Value.builtin _) [Value.ref _]) _ _ _) | (with_reducible show wpAny _ _ (binaryOp Operator.RShift (Value.int _ _) (Value.int _ _)) _ _ _) | (with_reducible show wpAny _ _ (binaryOp Operator.LShift (Value.int _ _) (Value.int _ _)) _ _ _) | (with_reducible show wpAny _ _ (binaryOp Operator.BitXor (Value.int _ _) (Value.int _ _)) _ _ _))); first | (k_unfold; (try dsimp only)) | (k_end; kc_close) | walk1 | (dsimp only; walk1) | (leave1; walk_say "STEP leave1"; (try dsimp only)) | fail "no step"))
  (rename News _ _ _ _ => N')
  refine lenL N' (by k_mem) rfl (by omega) ?_
  (repeat' ((fail_if_success (first | (with_reducible show wpAny _ _ (call (Value.ref _) _) _ _ _) | (with_reducible show wpAny _ _ (exec (Stmt.For _ _ _ _ _) _) _ _ _))); first | (k_unfold; (try dsimp only)) | (k_end; kc_close) | walk1 | (dsimp only; walk1) | (leave1; walk_say "STEP leave1"; (try dsimp only)) | fail "no step"))
  (rename Fr _ _ _ _ => Fo); (rename News _ _ _ _ => No)
  (k_dflt (refine' in2_use (d := d) (l := DL) (ds := ds) (zs := zs) (nn := nn) (reordH No) ?k1 ?k2 ?k3 ?k4 ?k5 ?k6 hI hz hl2 rfl rfl hl (Nat.le_refl _) ?k10 ?k11 Fo ?k12 ?k13 ?k14 ?k15 ?k16 ?k17 ?k18 ?kR; (case k11 => k_asm); (case k12 => k_asm); (case k13 => k_asm); (case k14 => k_asm); (case k15 => k_asm); (case k16 => first | exact rfl | assumption); (case k17 => ktr_room); (case k18 => ktr_units); (case k1 => assumption); (case k2 => assumption); (case k3 => assumption); (case k4 => assumption); (case k5 => assumption); (case k6 => k_mem)))
  case k10 => omega
  case kR =>
    intro h3 tk3 t3 F3 N3
    clear Fo No
    k_steps
    (rename Fr _ _ _ _ => Fe); (rename News _ _ _ _ => Ne)
    exact hret _ _ _ _ Fe (finD Ne) ⟨⟨_, rfl⟩, rfl⟩
end Mine
end
section
set_option maxRecDepth 100000
namespace Mine
open PySem PySem.W PyProof.Rows PySem.Calls PyProof.V PySem.Spec
section
variable {prog : Program} {w : World} {A : Around} {E : Value → Shared → Prop} {s : Shared} {env : Env} {h₀ : Heap} {x : Str} {body : List Stmt} {Q : Flow → Shared → Prop}
/-- a for over reversed(xs), xs a list of numbers in the ledger: J zs is what holds while zs is yet to come -/
theorem forRev {I ax : Addr} {nn : Nat} {vs : List Value} {zs : List Nat} {m₀ : Str → Option Value} {news : List (Addr × Obj)} (J : List Nat → (Str → Option Value) → List (Addr × Obj) → Prop)
    (hh : A.handled = none) (F : Fr h₀ env.locals s.heap m₀) (N : News h₀ env.locals s.heap ((I, revObj ax ((vs.length : Int) - 1)) :: news)) (hof : ∀ p ∈ news, p.1 ≠ I) (hm : (ax, listOf (List.toArray vs) nn) ∈ news) (hI : IntsAre vs.reverse (zs.map Int.ofNat)) (hj : J zs m₀ news)
    (turn : ∀ z zr t m₁ nx it h tk, J (z :: zr) m₁ nx → (∀ p ∈ nx, p.1 ≠ I) → (ax, listOf (List.toArray vs) nn) ∈ nx → Fr h₀ env.locals h (fun y => if y = x then some (.int (z : Nat) t) else m₁ y) → News h₀ env.locals h ((I, it) :: nx) →
      wpAny (model prog w) A (execs body env) (UnrPost h₀ env.locals { s with heap := h, toks := tk } I it (fun m' n' => (ax, listOf (List.toArray vs) nn) ∈ n' ∧ J zr m' n') Q) E { s with heap := h, toks := tk })
    (done : ∀ m₁ nx h tk, J [] m₁ nx → Fr h₀ env.locals h m₁ → News h₀ env.locals h nx → Q .next { s with heap := h, toks := tk }) :
    wpAny (model prog w) A (pyIter (.ref I)) (fun it s₂ => LoopAtV prog w A h₀ env x body Q E it s₂) E s := by
  have key : ∀ (vr : List Value) (zs : List Nat), IntsAre vr (zs.map Int.ofNat) → ∀ m nx, (ax, listOf (List.toArray vs) nn) ∈ nx → (∀ p ∈ nx, p.1 ≠ I) → J zs m nx → RevRest prog w A E h₀ env x body Q s I (ax, listOf (List.toArray vs) nn) vr m nx := by
    intro vr
    induction vr with
    | nil =>
      intro zs h m nx _ _ hj
      have e : zs = [] := by
        cases zs with
        | nil => rfl
        | cons _ _ => cases h
      subst e
      exact RevRest.zero fun h tk F N => done m nx h tk hj F N
    | cons v r ih =>
      intro zs h m nx hmem hoff hj
      cases zs with
      | nil => cases h
      | cons z zr =>
        cases h with
        | cons _ t h =>
          refine RevRest.succ fun it h1 tk _ F N => ?_
          refine wpAny_mono (turn z zr t m nx it h1 tk hj hoff hmem F N) (fun f s₂ p => ?_) fun _ _ e => e
          have fin : UnrEnd h₀ env.locals { s with heap := h1, toks := tk } I it (fun m' n' => (ax, listOf (List.toArray vs) nn) ∈ n' ∧ J zr m' n') s₂ →
              UnrEnd h₀ env.locals { s with heap := h1, toks := tk } I it (fun m' n' => (ax, listOf (List.toArray vs) nn) ∈ n' ∧ RevRest prog w A E h₀ env x body Q s I (ax, listOf (List.toArray vs) nn) r m' n') s₂ := by
            rintro ⟨h', tk', m', news', e, F', N', ho, hmm, hJ⟩
            exact ⟨h', tk', m', news', e, F', N', ho, hmm, ih zr h m' news' hmm ho hJ⟩
          cases f with
          | ret v => exact p
          | brk => exact p
          | next => exact fin p
          | cont => exact fin p
  have hoi : ∀ (it : Obj) (l : List (Addr × Obj)), (∀ p ∈ l, p.1 ≠ I) → OffI I it l := by
    intro it l
    induction l with
    | nil => intro _; exact trivial
    | cons p r ih => intro h; exact ⟨.inl (h p (.head _)), ih fun q hq => h q (.tail _ hq)⟩
  exact iter_revUnr hh F N (hoi _ _ hof) hm rfl rfl (key _ zs hI m₀ news hm hof hj)
end
end Mine
end
section
set_option maxRecDepth 100000
set_option maxHeartbeats 8000000
namespace Mine
open PySem PySem.W PyProof.Rows PySem.Calls
/-- _divmod_pos's loop -/
def divF (b : Nat) : List Nat → Nat → List Nat → List Nat × Nat
  | [], R, qs => (qs, R)
  | z :: zr, R, qs => divF b zr ((R * 2 ^ 35 + z) % b) (qs ++ [(R * 2 ^ 35 + z) / b])
theorem ne5 {D : Addr} {a b c d : Addr × Obj} {rest : List (Addr × Obj)} (h1 : a.1 < D) (h2 : b.1 < D) (h3 : c.1 < D) (h4 : d.1 < D) (h5 : AllLt D rest) : ∀ p ∈ a :: b :: c :: d :: rest, p.1 ≠ D := by
  intro p hp
  rcases List.mem_cons.mp hp with rfl | hp
  · exact Nat.ne_of_lt h1
  rcases List.mem_cons.mp hp with rfl | hp
  · exact Nat.ne_of_lt h2
  rcases List.mem_cons.mp hp with rfl | hp
  · exact Nat.ne_of_lt h3
  rcases List.mem_cons.mp hp with rfl | hp
  · exact Nat.ne_of_lt h4
  exact Nat.ne_of_lt (allLt_lt h5 p hp)
theorem revL {prog : Program} {w : World} {A : Around} {E : Value → Shared → Prop} {s : Shared} {h₀ : Heap} {L D : Addr} {m : Str → Option Value} {rest : List (Addr × Obj)} {vs : List Value} {n : Nat} {Q : Value → Shared → Prop} (F : Fr h₀ L s.heap m) (N : News h₀ L s.heap ((D, listOf (List.toArray vs) n) :: rest)) (ho : ∀ p ∈ rest, p.1 ≠ D) (hz : vs.length ≤ 1000)
    (h : ∀ h', Fr h₀ L h' m → News h₀ L h' ((D, listOf (List.toArray vs.reverse) n) :: rest) → Q .none { s with heap := h' }) : wpAny (model prog w) A (call (.builtin "list.reverse") [.ref D]) Q E s :=
  kl_reverse F N (by simp) (Upd.head ho) (by simp [sizeLine]; omega) h
theorem reordQ {h₀ h : Heap} {L : Addr} {a b c d e : Addr × Obj} {rest : List (Addr × Obj)} (N : News h₀ L h (a :: b :: c :: d :: e :: rest)) : News h₀ L h (e :: a :: b :: c :: d :: rest) := fun p hp => N p (by
  simp only [List.mem_cons] at hp ⊢
  rcases hp with h | h | h | h | h | h <;> simp [h])
theorem finQ {h₀ h : Heap} {L : Addr} {a b c d e f g : Addr × Obj} {rest : List (Addr × Obj)} (N : News h₀ L h (a :: b :: c :: d :: e :: f :: g :: rest)) : News h₀ L h (a :: b :: c :: f :: g :: rest) := fun p hp => N p (by
  simp only [List.mem_cons] at hp ⊢
  rcases hp with h | h | h | h | h | h <;> simp [h])
def JD (m₀ : Str → Option Value) (PL : Addr) (cst : List (Addr × Obj)) (b k : Nat) (res : List Nat × Nat) (zs : List Nat) (m : Str → Option Value) (nx : List (Addr × Obj)) : Prop :=
  ∃ R tr ua uq qs qvs n, m = ov m₀ [(Str.ofString "r", some (.int (R : Nat) tr)), (Str.ofString "q_digit", uq), (Str.ofString "a_digit", ua)] ∧ nx = (PL, listOf (List.toArray qvs) n) :: cst ∧ IntsAre qvs (qs.map Int.ofNat) ∧ R < b ∧ (∀ z ∈ zs, z < 2 ^ 35) ∧ divF b zs R qs = res ∧ qs.length + zs.length = k
theorem ovq {m₀ : Str → Option Value} {r q a r' q' a' : Option Value} : (fun y => if y = Str.ofString "r" then r' else if y = Str.ofString "q_digit" then q' else if y = Str.ofString "a_digit" then a' else ov m₀ [(Str.ofString "r", r), (Str.ofString "q_digit", q), (Str.ofString "a_digit", a)] y) = ov m₀ [(Str.ofString "r", r'), (Str.ofString "q_digit", q'), (Str.ofString "a_digit", a')] := by
  funext y
  simp only [ov]
  by_cases h1 : y = Str.ofString "r"
  · simp only [if_pos h1]
  · by_cases h2 : y = Str.ofString "q_digit"
    · simp only [if_neg h1, if_pos h2]
    · by_cases h3 : y = Str.ofString "a_digit"
      · simp only [if_neg h1, if_neg h2, if_pos h3]
      · simp only [if_neg h1, if_neg h2, if_neg h3]
theorem ovself {m : Str → Option Value} {a : Str} {v : Option Value} (h : m a = v) (z : Str) : (if z = a then v else m z) = m z := by
  split
  · next e => rw [e, h]
  · rfl
theorem JD.start {m₀ : Str → Option Value} {PL : Addr} {cst : List (Addr × Obj)} {b k : Nat} {zs : List Nat} {tr : Tok} (hr : m₀ (Str.ofString "r") = some (.int ((0 : Nat) : Int) tr)) (hb : 0 < b) (hz : ∀ z ∈ zs, z < 2 ^ 35) (hk : zs.length = k) :
    JD m₀ PL cst b k (divF b zs 0 []) zs m₀ ((PL, listOf #[] 0) :: cst) := by
  refine ⟨0, tr, m₀ (Str.ofString "a_digit"), m₀ (Str.ofString "q_digit"), [], [], 0, ?_, rfl, .nil, hb, hz, rfl, by simpa using hk⟩
  funext z
  simp only [ov]
  rw [ovself rfl, ovself rfl, ovself hr]
theorem JD.fin {h₀ h' : Heap} {L : Addr} {s : Shared} {m₀ m' : Str → Option Value} {PL I T ax : Addr} {tp it lo : Obj} {cst : List (Addr × Obj)} {b k R n tk : Nat} {res : List Nat × Nat} {z : Nat} {zr qs : List Nat} {qvs : List Value} {t1 t2 : Tok} {ua uq : Option Value}
    (F : Fr h₀ L h' m') (N : News h₀ L h' ((T, tp) :: (I, it) :: (PL, listOf ((List.toArray qvs).push (.int (((R * 2 ^ 35 + z) / b : Nat) : Int) t1)) (n + 1)) :: cst)) (hm : m' = ov m₀ [(Str.ofString "r", some (.int (((R * 2 ^ 35 + z) % b : Nat) : Int) t2)), (Str.ofString "q_digit", uq), (Str.ofString "a_digit", ua)])
    (hb : 0 < b) (hq : IntsAre qvs (qs.map Int.ofNat)) (hzz : ∀ y ∈ z :: zr, y < 2 ^ 35) (hdf : divF b (z :: zr) R qs = res) (hln : qs.length + (zr.length + 1) = k) (hmem : (ax, lo) ∈ cst) (hoff : ∀ p ∈ cst, p.1 ≠ I) (hPI : PL ≠ I) :
    UnrEnd h₀ L s I it (fun m' n' => (ax, lo) ∈ n' ∧ JD m₀ PL cst b k res zr m' n') { s with heap := h', toks := tk } := by
  subst hm
  refine UnrEnd.intro F N ((PL, listOf ((List.toArray qvs).push (.int (((R * 2 ^ 35 + z) / b : Nat) : Int) t1)) (n + 1)) :: cst) (fun p hp => .tail _ hp) ?_ ⟨.tail _ hmem, ?_⟩
  · intro p hp
    rcases List.mem_cons.mp hp with rfl | hp
    · exact hPI
    · exact hoff p hp
  refine ⟨(R * 2 ^ 35 + z) % b, t2, ua, uq, qs ++ [(R * 2 ^ 35 + z) / b], qvs ++ [.int (((R * 2 ^ 35 + z) / b : Nat) : Int) t1], n + 1, rfl, ?_, ?_, Nat.mod_lt _ hb, fun y hy => hzz y (.tail _ hy), hdf, ?_⟩
  · rw [List.push_toArray]
  · rw [List.map_append]
    exact IntsAre.append hq (.cons _ _ .nil)
  · rw [List.length_append, List.length_singleton]; omega

local macro_rules | `(tactic| k_all) => `(tactic| exact allLt_ne (by assumption) (by omega))
theorem c_dmp_f (w : World) (mean : ExcName → Option Value) (mg mb : Str → Option Value) (x k d : Nat) (A B : Int) (t u : Tok) (rest : List (Addr × Obj)) (zs : List Nat) (hA : A = x) (hx : x < 2 ^ 1000) (hx0 : x ≠ 0) (hB : B = (34359738336 : Nat)) (hk : ((Builtin.Int.intBits A : Int) + 35 - 1).fdiv 35 = (k : Int)) (hk2 : k ≤ 16) (hk0 : 0 < k) (hd : k ≤ 2 ^ d) (hd6 : d ≤ 6) (hoff : OwnOff rest [55]) (hoffB : OwnOff rest [62]) (hqz : ∀ z ∈ (divF 34359738336 zs 0 []).1, z < 2 ^ 36) (hbit : ((Builtin.Int.intBits B : Nat) : Int) = 35) (hzs : inF 35 d x 0 k (List.replicate k 0) = (zs.map Int.ofNat).reverse) (hz : ∀ z ∈ zs, z < 2 ^ 35) :
   Ctr 30 w mean mg mb 74 ((55, tabObj #[]) :: (62, tabObj #[]) :: rest) [.int A t, .int B u] (fun v ns => ∃ T t1 t2 c oc c2 oc2, v = .ref T ∧ ns = (T, { cls := .type "tuple", data := .seq (List.toArray [.int (d2F 35 (divF 34359738336 zs 0 []).1.reverse d 0 k : Nat) t1, .int ((divF 34359738336 zs 0 []).2 : Nat) t2]) 0 }) :: (c2, oc2) :: (62, tab2 c2) :: (c, oc) :: (55, tab1 c) :: rest ∧ Rec oc q1 ∧ Rec oc2 q2 ∧ (∀ p ∈ rest, p.1 < c ∧ p.1 < c2 ∧ p.1 < T) ∧ 62 < c ∧ c < c2 ∧ c2 < T) := by
  have hoff2 : OwnOff ((62, tabObj #[]) :: rest) [55] := fun p hp b hb => by
    rcases List.mem_cons.mp hp with rfl | hp
    · rw [List.mem_singleton.mp hb]; decide
    · exact hoff p hp b hb
  have C := fun u => c_i2d_f35 w mean mg mb x k d A t u ((62, tabObj #[]) :: rest) hA hx hx0 hk (by omega) hk0 hd hd6 hoff2
  rw [← hbit] at C
  have C2 := fun (a : Nat) (A : Int) t u v news (h1 : A = a) (h2 : a < 2 ^ 1000) => c_div2 w mean mg mb a 34359738336 A B t u v news h1 hB h2 (by omega) (by omega)
  rw [← hbit] at C2
  unfold Ctr
  k_fill
  intros; rename_i hret
  refine wpAny_call ?_
  (k_dflt (refine' code_def ?k1 ?k2 ?k3 ?k4 ?k5 ?kA ?kF ?kK ?k6 ?k7 ?k8 ?k9 ?kB ?_ ?c2 ?c3 ?c4 ?c5; (case kA => exact rfl); (case kF => exact rfl); (case kK => first | exact rfl | assumption); (case k1 => k_asm); (case k2 => k_asm); (case k3 => k_asm); (case k4 => k_asm); (case k5 => k_asm); (case k6 => k_is); (case k7 => k_is); (case k8 => ktr_room); (case k9 => exact BindsTo.of_eq rfl); (case c5 => decide); (case kB => exact locs rfl); (case c2 => exact rfl); (case c3 => exact rfl); (case c4 => exact rfl); k_whole; intro g' L' h' FG' F' N' B' X' T'; (try dsimp only); (try k_lift B'); (try k_fold)))
  (repeat' ((fail_if_success (first | (with_reducible show wpAny _ _ (call (Value.ref _) _) _ _ _) | (with_reducible show wpAny _ _ (exec (Stmt.For _ _ _ _ _) _) _ _ _))); first | (k_unfold; (try dsimp only)) | (k_end; kc_close) | walk1 | (dsimp only; walk1) | (leave1; walk_say "STEP leave1"; (try dsimp only)) | fail "no step"))
  (rename Fr _ _ _ _ => Fo); (rename News _ _ _ _ => No)
  (k_dflt (refine' Ctr.use (C _) ?k1 ?k2 ?k3 ?k4 ?k5 ?k6 ?k7 ?k8 ?k9 ?k10 ?kR; (case k1 => k_asm); (case k2 => k_asm); (case k3 => k_asm); (case k4 => k_asm); (case k5 => k_asm); (case k6 => assumption); (case k7 => assumption); (case k8 => first | exact rfl | assumption); (case k9 => ktr_room); (case k10 => ktr_units)))
  case kR =>
    intro v3 ns3 h3 tk3 F3 N3 hr
    obtain ⟨l, ds, nn, c, oc, rfl, rfl, hI, hrec, hl1, hl2, hl3⟩ := hr
    clear Fo No
    have hdl : ds.length = k := by rw [IntsAre.len hI, inF_len, List.length_replicate]
    have hzl : zs.length = k := by
      have e := congrArg List.length hzs
      rw [inF_len, List.length_replicate] at e
      simpa using e.symm
    rw [hzs] at hI
    have hI2 : IntsAre ds.reverse (zs.map Int.ofNat) := by simpa using IntsAre.reverse hI
    (repeat' ((fail_if_success (first | (with_reducible show wpAny _ _ (exec (Stmt.For _ _ _ _ _) _) _ _ _))); first | (k_unfold; (try dsimp only)) | (k_end; kc_close) | walk1 | (dsimp only; walk1) | (leave1; walk_say "STEP leave1"; (try dsimp only)) | fail "no step"))
    ((rename Fr _ _ _ _ => lF'); (with_unfolding_all refine' For_invVF lF' ?k1 ?k2 ?_; (case k1 => exact rfl); (case k2 => exact rfl); k_whole))
    (repeat' ((fail_if_success (first | (with_reducible show wpAny _ _ (pyIter _) _ _ _))); first | (k_unfold; (try dsimp only)) | (k_end; kc_close) | walk1 | (dsimp only; walk1) | (leave1; walk_say "STEP leave1"; (try dsimp only)) | fail "no step"))
    (rename (_ ∧ _ ∧ _ ∧ _ ∧ AllLt _ _) => hx'); obtain ⟨hx1, hx2, hx3, hx4, hx5⟩ := hx'
    (rename (_ ∧ _ ∧ _ ∧ _ ∧ _ ∧ AllLt _ _) => hy'); obtain ⟨hy1, hy2, hy3, hy4, hy5, hy6⟩ := hy'
    (rename Fr _ _ _ _ => Fo); (rename News _ _ _ _ => No)
    refine forRev (JD _ _ _ 34359738336 k (divF 34359738336 zs 0 [])) rfl Fo No ?_ (by k_mem) hI2 (JD.start (by rfl) (by omega) hz hzl) ?_ ?_
    · intro p hp
      rcases List.mem_cons.mp hp with rfl | hp
      · exact neN (by dsimp only; omega)
      rcases List.mem_cons.mp hp with rfl | hp
      · exact neN (by dsimp only; omega)
      rcases List.mem_cons.mp hp with rfl | hp
      · exact neN (by dsimp only; omega)
      rcases List.mem_cons.mp hp with rfl | hp
      · exact neN (by dsimp only; omega)
      rcases List.mem_cons.mp hp with rfl | hp
      · exact neN (by dsimp only; omega)
      exact Nat.ne_of_lt (allLt_lt hy6 p hp)
    · rintro z zr tz m₁ nx it h tk ⟨R, tr, ua, uq, qs, qvs, n, rfl, rfl, hq, hR, hzz, hdf, hln⟩ hoffI hmem F N
      have hzb := hzz z (.head _)
      have hql := IntsAre.len hq
      rw [List.length_map] at hql
      rw [List.length_cons] at hln
      have hqb : qvs.length ≤ 16 := by omega
      clear Fo No hy6
      (repeat' ((fail_if_success (first | (with_reducible show wpAny _ _ (call (Value.ref _) _) _ _ _) | (with_reducible show wpAny _ _ (setItem (Value.ref _) (Value.int _ _) _) _ _ _) | (with_reducible show wpAny _ _ (call (Value.builtin _) [Value.ref _]) _ _ _) | (with_reducible show wpAny _ _ (binaryOp Operator.RShift (Value.int _ _) (Value.int _ _)) _ _ _) | (with_reducible show wpAny _ _ (binaryOp Operator.LShift (Value.int _ _) (Value.int _ _)) _ _ _) | (with_reducible show wpAny _ _ (binaryOp Operator.BitXor (Value.int _ _) (Value.int _ _)) _ _ _))); first | (k_unfold; (try dsimp only)) | (k_end; kc_close) | walk1 | (dsimp only; walk1) | (leave1; walk_say "STEP leave1"; (try dsimp only)) | fail "no step"))
      refine shlN (x := R) (k := 35) rfl hbit (by omega) (by omega) ?_
      (repeat' ((fail_if_success (first | (with_reducible show wpAny _ _ (call (Value.ref _) _) _ _ _) | (with_reducible show wpAny _ _ (setItem (Value.ref _) (Value.int _ _) _) _ _ _) | (with_reducible show wpAny _ _ (call (Value.builtin _) [Value.ref _]) _ _ _) | (with_reducible show wpAny _ _ (binaryOp Operator.RShift (Value.int _ _) (Value.int _ _)) _ _ _) | (with_reducible show wpAny _ _ (binaryOp Operator.LShift (Value.int _ _) (Value.int _ _)) _ _ _) | (with_reducible show wpAny _ _ (binaryOp Operator.BitXor (Value.int _ _) (Value.int _ _)) _ _ _))); first | (k_unfold; (try dsimp only)) | (k_end; kc_close) | walk1 | (dsimp only; walk1) | (leave1; walk_say "STEP leave1"; (try dsimp only)) | fail "no step"))
      (rename Fr _ _ _ _ => Fo); (rename News _ _ _ _ => No)
      (k_dflt (refine' Ctr.use (C2 (R * 2 ^ 35 + z) _ _ _ _ _ (by omega) (by omega)) ?k1 ?k2 ?k3 ?k4 ?k5 ?k6 ?k7 ?k8 ?k9 ?k10 ?kR; (case k1 => k_asm); (case k2 => k_asm); (case k3 => k_asm); (case k4 => k_asm); (case k5 => k_asm); (case k6 => assumption); (case k7 => assumption); (case k8 => first | exact rfl | assumption); (case k9 => ktr_room); (case k10 => ktr_units)))
      case kR =>
        intro v4 ns4 h4 tk4 F4 N4 hr
        obtain ⟨T, t1, t2, rfl, rfl, hT⟩ := hr
        clear Fo No
        have hT1 := hT _ (.head _)
        have hT2 := hT _ (.tail _ (.head _))
        dsimp only at hT1 hT2
        (repeat' ((fail_if_success (first | (with_reducible show wpAny _ _ (call (Value.ref _) _) _ _ _) | (with_reducible show wpAny _ _ (call (Value.builtin _) [_, _]) _ _ _))); first | (k_unfold; (try dsimp only)) | (k_end; kc_close) | walk1 | (dsimp only; walk1) | (leave1; walk_say "STEP leave1"; (try dsimp only)) | fail "no step"))
        (rename Fr _ _ _ _ => Fo); (rename News _ _ _ _ => No)
        (k_dflt (refine' append_K ?F ?N ?U ?_ ?z; (case F => exact Fo); (case N => exact No); (case U => (refine' Upd.tail ?u1 (Upd.tail ?u2 (Upd.head ?u3)); (case u1 => exact Nat.ne_of_gt hT2); (case u2 => exact Ne.symm (hoffI _ (.head _))); (case u3 => exact ne5 hx1 hx2 hx3 hx4 hx5)))))
        case z => (simp only [List.size_toArray]; rw [sizeLine_eq]; omega)
        intro h9 F9 N9
        clear Fo No
        (repeat' ((fail_if_success (first | (with_reducible show wpAny _ _ (call (Value.ref _) _) _ _ _) | (with_reducible show wpAny _ _ (exec (Stmt.For _ _ _ _ _) _) _ _ _))); first | (k_unfold; (try dsimp only)) | (k_end; kc_close) | walk1 | (dsimp only; walk1) | (leave1; walk_say "STEP leave1"; (try dsimp only)) | fail "no step"))
        (rename Fr _ _ _ _ => Fe); (rename News _ _ _ _ => Ne)
        exact JD.fin Fe Ne ovq (by omega) hq hzz hdf hln (by k_mem) (fun p hp => hoffI p (.tail _ hp)) (hoffI _ (.head _))
    · rintro m₁ nx h tk ⟨R, tr, ua, uq, qs, qvs, n, rfl, rfl, hq, hR, hzz, hdf, hln⟩ F N
      dsimp only
      clear Fo No
      have hql := IntsAre.len hq
      rw [List.length_map] at hql
      rw [List.length_nil] at hln
      (repeat' ((fail_if_success (first | (with_reducible show wpAny _ _ (call (Value.ref _) _) _ _ _) | (with_reducible show wpAny _ _ (setItem (Value.ref _) (Value.int _ _) _) _ _ _) | (with_reducible show wpAny _ _ (call (Value.builtin _) [Value.ref _]) _ _ _) | (with_reducible show wpAny _ _ (binaryOp Operator.RShift (Value.int _ _) (Value.int _ _)) _ _ _) | (with_reducible show wpAny _ _ (binaryOp Operator.LShift (Value.int _ _) (Value.int _ _)) _ _ _) | (with_reducible show wpAny _ _ (binaryOp Operator.BitXor (Value.int _ _) (Value.int _ _)) _ _ _))); first | (k_unfold; (try dsimp only)) | (k_end; kc_close) | walk1 | (dsimp only; walk1) | (leave1; walk_say "STEP leave1"; (try dsimp only)) | fail "no step"))
      (rename Fr _ _ _ _ => Fo); (rename News _ _ _ _ => No)
      refine revL Fo No (ne5 hx1 hx2 hx3 hx4 hx5) (by omega) ?_
      intro h9 F9 N9
      clear Fo No
      (repeat' ((fail_if_success (first | (with_reducible show wpAny _ _ (call (Value.ref _) _) _ _ _) | (with_reducible show wpAny _ _ (exec (Stmt.For _ _ _ _ _) _) _ _ _))); first | (k_unfold; (try dsimp only)) | (k_end; kc_close) | walk1 | (dsimp only; walk1) | (leave1; walk_say "STEP leave1"; (try dsimp only)) | fail "no step"))
      replace hdf : (qs, R) = divF 34359738336 zs 0 [] := hdf
      have hR2 : R = (divF 34359738336 zs 0 []).2 := by rw [← hdf]
      have hq2 : qs = (divF 34359738336 zs 0 []).1 := by rw [← hdf]
      have hdr : qvs.reverse.length = k := by rw [List.length_reverse]; omega
      have hIr : IntsAre qvs.reverse (qs.reverse.map Int.ofNat) := by rw [List.map_reverse]; exact IntsAre.reverse hq
      have h62l : 62 < l := hl2 _ (.head _)
      have hoffC : OwnOff ((l, listOf (List.toArray ds) nn) :: (c, oc) :: (55, tab1 c) :: rest) [62] := by
        intro p hp b hb
        rw [List.mem_singleton.mp hb]
        rcases List.mem_cons.mp hp with rfl | hp
        · exact Nat.ne_of_gt h62l
        rcases List.mem_cons.mp hp with rfl | hp
        · exact Nat.ne_of_gt (Nat.lt_trans h62l hl3)
        rcases List.mem_cons.mp hp with rfl | hp
        · exact (by decide : (55 : Nat) ≠ 62)
        exact hoffB p hp 62 (.head _)
      (rename Fr _ _ _ _ => Fo); (rename News _ _ _ _ => No)
      have No2 := reordQ No
      have C3 := fun u => c_d2i_f w mean mg mb _ n k d qvs.reverse qs.reverse 0 u ((l, listOf (List.toArray ds) nn) :: (c, oc) :: (55, tab1 c) :: rest) hIr (by intro z hz'; exact hqz z (by rw [← hq2]; exact List.mem_reverse.mp hz')) hoffC (Nat.ne_of_gt hx4) (by omega) (by omega) (by omega) hd6
      rw [← hbit] at C3
      (k_dflt (refine' Ctr.use (C3 _) ?k1 ?k2 ?k3 ?k4 ?k5 ?k6 ?k7 ?k8 ?k9 ?k10 ?kR; (case k1 => k_asm); (case k2 => k_asm); (case k3 => k_asm); (case k4 => k_asm); (case k5 => k_asm); (case k6 => assumption); (case k7 => assumption); (case k8 => first | exact rfl | assumption); (case k9 => ktr_room); (case k10 => ktr_units)))
      case kR =>
        intro v5 ns5 h5 tk5 F5 N5 hr
        obtain ⟨⟨t5, rfl⟩, c2, oc2, rfl, hrec2, hc1, hc2, hc3⟩ := hr
        clear Fo No No2
        k_steps
        (rename Fr _ _ _ _ => Fe); (rename News _ _ _ _ => Ne)
        subst hR2 hq2
        rw [hdr] at *
        (rename (_ ∧ _ ∧ _ ∧ _ ∧ _ ∧ _ ∧ AllLt _ _) => hz'); obtain ⟨hz1, hz2, hz3, hz4, hz5, hz6, hz7⟩ := hz'
        exact hret _ _ _ _ Fe (finQ Ne) ⟨_, _, _, _, _, _, _, rfl, rfl, hrec, hrec2, fun p hp => ⟨Nat.lt_trans (hl2 p (.tail _ hp)) hl3, hc3 p (.tail _ (.tail _ (.tail _ hp))), Nat.lt_trans (hc3 p (.tail _ (.tail _ (.tail _ hp)))) hz1⟩, Nat.lt_trans h62l hl3, hc3 _ (.tail _ (.head _)), hz1⟩
end Mine
end
section
set_option maxRecDepth 100000
set_option maxHeartbeats 8000000
namespace Mine
open PySem PySem.W PyProof.Rows PySem.Calls
theorem ne6 {D : Addr} {a b c d e : Addr × Obj} {rest : List (Addr × Obj)} (h1 : a.1 < D) (h2 : b.1 < D) (h3 : c.1 < D) (h4 : d.1 < D) (h6 : e.1 < D) (h5 : AllLt D rest) : ∀ p ∈ a :: b :: c :: d :: e :: rest, p.1 ≠ D :=
  ne5 h1 h2 h3 h4 (rest := e :: rest) ⟨h6, h5⟩
theorem reordS {h₀ h : Heap} {L : Addr} {a b c d : Addr × Obj} {rest : List (Addr × Obj)} (N : News h₀ L h (a :: b :: c :: d :: rest)) : News h₀ L h (c :: d :: a :: b :: rest) := fun p hp => N p (by
  simp only [List.mem_cons] at hp ⊢
  rcases hp with h | h | h | h | h <;> simp [h])
theorem reordT {h₀ h : Heap} {L : Addr} {a b c d e f : Addr × Obj} {rest : List (Addr × Obj)} (N : News h₀ L h (a :: b :: c :: d :: e :: f :: rest)) : News h₀ L h (e :: f :: a :: b :: c :: d :: rest) := fun p hp => N p (by
  simp only [List.mem_cons] at hp ⊢
  rcases hp with h | h | h | h | h | h | h <;> simp [h])

local macro_rules | `(tactic| k_all) => `(tactic| exact allLt_ne (by assumption) (by omega))
theorem c_dmp_g (w : World) (mean : ExcName → Option Value) (mg mb : Str → Option Value) (x k d : Nat) (A B : Int) (t u : Tok) (rest : List (Addr × Obj)) (c₀ e₀ : Addr) (oc₀ oe₀ : Obj) (hrec₀ : Rec oc₀ q1) (hrece : Rec oe₀ q2) (h62c : 62 < c₀) (zs : List Nat) (hA : A = x) (hx : x < 2 ^ 1000) (hx0 : x ≠ 0) (hB : B = (34359738336 : Nat)) (hk : ((Builtin.Int.intBits A : Int) + 35 - 1).fdiv 35 = (k : Int)) (hk2 : k ≤ 16) (hk0 : 0 < k) (hd : k ≤ 2 ^ d) (hd6 : d ≤ 6) (hoff : OwnOff rest [55]) (hoffB : OwnOff rest [62]) (hqz : ∀ z ∈ (divF 34359738336 zs 0 []).1, z < 2 ^ 36) (hbit : ((Builtin.Int.intBits B : Nat) : Int) = 35) (hzs : inF 35 d x 0 k (List.replicate k 0) = (zs.map Int.ofNat).reverse) (hz : ∀ z ∈ zs, z < 2 ^ 35) :
   Ctr 30 w mean mg mb 74 ((e₀, oe₀) :: (62, tab2 e₀) :: (c₀, oc₀) :: (55, tab1 c₀) :: rest) [.int A t, .int B u] (fun v ns => ∃ T t1 t2, v = .ref T ∧ ns = (T, { cls := .type "tuple", data := .seq (List.toArray [.int (d2F 35 (divF 34359738336 zs 0 []).1.reverse d 0 k : Nat) t1, .int ((divF 34359738336 zs 0 []).2 : Nat) t2]) 0 }) :: (e₀, oe₀) :: (62, tab2 e₀) :: (c₀, oc₀) :: (55, tab1 c₀) :: rest ∧ (∀ p ∈ rest, p.1 < T) ∧ e₀ < T ∧ c₀ < T) := by
  have C := fun u => c_i2d_g35 w mean mg mb x k d A t u ((e₀, oe₀) :: (62, tab2 e₀) :: rest) c₀ oc₀ hrec₀ hA hx hx0 hk (by omega) hk0 hd hd6
  rw [← hbit] at C
  have C2 := fun (a : Nat) (A : Int) t u v news (h1 : A = a) (h2 : a < 2 ^ 1000) => c_div2 w mean mg mb a 34359738336 A B t u v news h1 hB h2 (by omega) (by omega)
  rw [← hbit] at C2
  unfold Ctr
  k_fill
  intros; rename_i hret
  refine wpAny_call ?_
  (k_dflt (refine' code_def ?k1 ?k2 ?k3 ?k4 ?k5 ?kA ?kF ?kK ?k6 ?k7 ?k8 ?k9 ?kB ?_ ?c2 ?c3 ?c4 ?c5; (case kA => exact rfl); (case kF => exact rfl); (case kK => first | exact rfl | assumption); (case k1 => k_asm); (case k2 => k_asm); (case k3 => k_asm); (case k4 => k_asm); (case k5 => k_asm); (case k6 => k_is); (case k7 => k_is); (case k8 => ktr_room); (case k9 => exact BindsTo.of_eq rfl); (case c5 => decide); (case kB => exact locs rfl); (case c2 => exact rfl); (case c3 => exact rfl); (case c4 => exact rfl); k_whole; intro g' L' h' FG' F' N' B' X' T'; (try dsimp only); (try k_lift B'); (try k_fold)))
  (repeat' ((fail_if_success (first | (with_reducible show wpAny _ _ (call (Value.ref _) _) _ _ _) | (with_reducible show wpAny _ _ (exec (Stmt.For _ _ _ _ _) _) _ _ _))); first | (k_unfold; (try dsimp only)) | (k_end; kc_close) | walk1 | (dsimp only; walk1) | (leave1; walk_say "STEP leave1"; (try dsimp only)) | fail "no step"))
  (rename Fr _ _ _ _ => Fo); (rename News _ _ _ _ => No)
  have No2 := reordS No
  (k_dflt (refine' Ctr.use (C _) ?k1 ?k2 ?k3 ?k4 ?k5 ?k6 ?k7 ?k8 ?k9 ?k10 ?kR; (case k1 => k_asm); (case k2 => k_asm); (case k3 => k_asm); (case k4 => k_asm); (case k5 => k_asm); (case k6 => assumption); (case k7 => assumption); (case k8 => first | exact rfl | assumption); (case k9 => ktr_room); (case k10 => ktr_units)))
  case kR =>
    intro v3 ns3 h3 tk3 F3 N3 hr
    obtain ⟨l, ds, nn, rfl, rfl, hI, hl1, hl3, hl2⟩ := hr
    clear Fo No No2
    have hdl : ds.length = k := by rw [IntsAre.len hI, inF_len, List.length_replicate]
    have hzl : zs.length = k := by
      have e := congrArg List.length hzs
      rw [inF_len, List.length_replicate] at e
      simpa using e.symm
    rw [hzs] at hI
    have hI2 : IntsAre ds.reverse (zs.map Int.ofNat) := by simpa using IntsAre.reverse hI
    (repeat' ((fail_if_success (first | (with_reducible show wpAny _ _ (exec (Stmt.For _ _ _ _ _) _) _ _ _))); first | (k_unfold; (try dsimp only)) | (k_end; kc_close) | walk1 | (dsimp only; walk1) | (leave1; walk_say "STEP leave1"; (try dsimp only)) | fail "no step"))
    ((rename Fr _ _ _ _ => lF'); (with_unfolding_all refine' For_invVF lF' ?k1 ?k2 ?_; (case k1 => exact rfl); (case k2 => exact rfl); k_whole))
    (repeat' ((fail_if_success (first | (with_reducible show wpAny _ _ (pyIter _) _ _ _))); first | (k_unfold; (try dsimp only)) | (k_end; kc_close) | walk1 | (dsimp only; walk1) | (leave1; walk_say "STEP leave1"; (try dsimp only)) | fail "no step"))
    (rename (_ ∧ _ ∧ _ ∧ _ ∧ _ ∧ AllLt _ _) => hx'); obtain ⟨hx1, hx2, hx3, hx6, hx4, hx5⟩ := hx'
    (rename (_ ∧ _ ∧ _ ∧ _ ∧ _ ∧ _ ∧ AllLt _ _) => hy'); obtain ⟨hy1, hy2, hy3, hy4, hy7, hy5, hy6⟩ := hy'
    (rename Fr _ _ _ _ => Fo); (rename News _ _ _ _ => No)
    refine forRev (JD _ _ _ 34359738336 k (divF 34359738336 zs 0 [])) rfl Fo No ?_ (by k_mem) hI2 (JD.start (by rfl) (by omega) hz hzl) ?_ ?_
    · intro p hp
      rcases List.mem_cons.mp hp with rfl | hp
      · exact neN (by dsimp only; omega)
      rcases List.mem_cons.mp hp with rfl | hp
      · exact neN (by dsimp only; omega)
      rcases List.mem_cons.mp hp with rfl | hp
      · exact neN (by dsimp only; omega)
      rcases List.mem_cons.mp hp with rfl | hp
      · exact neN (by dsimp only; omega)
      rcases List.mem_cons.mp hp with rfl | hp
      · exact neN (by dsimp only; omega)
      rcases List.mem_cons.mp hp with rfl | hp
      · exact neN (by dsimp only; omega)
      exact Nat.ne_of_lt (allLt_lt hy6 p hp)
    · rintro z zr tz m₁ nx it h tk ⟨R, tr, ua, uq, qs, qvs, n, rfl, rfl, hq, hR, hzz, hdf, hln⟩ hoffI hmem F N
      have hzb := hzz z (.head _)
      have hql := IntsAre.len hq
      rw [List.length_map] at hql
      rw [List.length_cons] at hln
      have hqb : qvs.length ≤ 16 := by omega
      clear Fo No hy6
      (repeat' ((fail_if_success (first | (with_reducible show wpAny _ _ (call (Value.ref _) _) _ _ _) | (with_reducible show wpAny _ _ (setItem (Value.ref _) (Value.int _ _) _) _ _ _) | (with_reducible show wpAny _ _ (call (Value.builtin _) [Value.ref _]) _ _ _) | (with_reducible show wpAny _ _ (binaryOp Operator.RShift (Value.int _ _) (Value.int _ _)) _ _ _) | (with_reducible show wpAny _ _ (binaryOp Operator.LShift (Value.int _ _) (Value.int _ _)) _ _ _) | (with_reducible show wpAny _ _ (binaryOp Operator.BitXor (Value.int _ _) (Value.int _ _)) _ _ _))); first | (k_unfold; (try dsimp only)) | (k_end; kc_close) | walk1 | (dsimp only; walk1) | (leave1; walk_say "STEP leave1"; (try dsimp only)) | fail "no step"))
      refine shlN (x := R) (k := 35) rfl hbit (by omega) (by omega) ?_
      (repeat' ((fail_if_success (first | (with_reducible show wpAny _ _ (call (Value.ref _) _) _ _ _) | (with_reducible show wpAny _ _ (setItem (Value.ref _) (Value.int _ _) _) _ _ _) | (with_reducible show wpAny _ _ (call (Value.builtin _) [Value.ref _]) _ _ _) | (with_reducible show wpAny _ _ (binaryOp Operator.RShift (Value.int _ _) (Value.int _ _)) _ _ _) | (with_reducible show wpAny _ _ (binaryOp Operator.LShift (Value.int _ _) (Value.int _ _)) _ _ _) | (with_reducible show wpAny _ _ (binaryOp Operator.BitXor (Value.int _ _) (Value.int _ _)) _ _ _))); first | (k_unfold; (try dsimp only)) | (k_end; kc_close) | walk1 | (dsimp only; walk1) | (leave1; walk_say "STEP leave1"; (try dsimp only)) | fail "no step"))
      (rename Fr _ _ _ _ => Fo); (rename News _ _ _ _ => No)
      (k_dflt (refine' Ctr.use (C2 (R * 2 ^ 35 + z) _ _ _ _ _ (by omega) (by omega)) ?k1 ?k2 ?k3 ?k4 ?k5 ?k6 ?k7 ?k8 ?k9 ?k10 ?kR; (case k1 => k_asm); (case k2 => k_asm); (case k3 => k_asm); (case k4 => k_asm); (case k5 => k_asm); (case k6 => assumption); (case k7 => assumption); (case k8 => first | exact rfl | assumption); (case k9 => ktr_room); (case k10 => ktr_units)))
      case kR =>
        intro v4 ns4 h4 tk4 F4 N4 hr
        obtain ⟨T, t1, t2, rfl, rfl, hT⟩ := hr
        clear Fo No
        have hT1 := hT _ (.head _)
        have hT2 := hT _ (.tail _ (.head _))
        dsimp only at hT1 hT2
        (repeat' ((fail_if_success (first | (with_reducible show wpAny _ _ (call (Value.ref _) _) _ _ _) | (with_reducible show wpAny _ _ (call (Value.builtin _) [_, _]) _ _ _))); first | (k_unfold; (try dsimp only)) | (k_end; kc_close) | walk1 | (dsimp only; walk1) | (leave1; walk_say "STEP leave1"; (try dsimp only)) | fail "no step"))
        (rename Fr _ _ _ _ => Fo); (rename News _ _ _ _ => No)
        (k_dflt (refine' append_K ?F ?N ?U ?_ ?z; (case F => exact Fo); (case N => exact No); (case U => (refine' Upd.tail ?u1 (Upd.tail ?u2 (Upd.head ?u3)); (case u1 => exact Nat.ne_of_gt hT2); (case u2 => exact Ne.symm (hoffI _ (.head _))); (case u3 => exact ne6 hx1 hx2 hx3 hx6 hx4 hx5)))))
        case z => (simp only [List.size_toArray]; rw [sizeLine_eq]; omega)
        intro h9 F9 N9
        clear Fo No
        (repeat' ((fail_if_success (first | (with_reducible show wpAny _ _ (call (Value.ref _) _) _ _ _) | (with_reducible show wpAny _ _ (exec (Stmt.For _ _ _ _ _) _) _ _ _))); first | (k_unfold; (try dsimp only)) | (k_end; kc_close) | walk1 | (dsimp only; walk1) | (leave1; walk_say "STEP leave1"; (try dsimp only)) | fail "no step"))
        (rename Fr _ _ _ _ => Fe); (rename News _ _ _ _ => Ne)
        exact JD.fin Fe Ne ovq (by omega) hq hzz hdf hln (by k_mem) (fun p hp => hoffI p (.tail _ hp)) (hoffI _ (.head _))
    · rintro m₁ nx h tk ⟨R, tr, ua, uq, qs, qvs, n, rfl, rfl, hq, hR, hzz, hdf, hln⟩ F N
      dsimp only
      clear Fo No
      have hql := IntsAre.len hq
      rw [List.length_map] at hql
      rw [List.length_nil] at hln
      (repeat' ((fail_if_success (first | (with_reducible show wpAny _ _ (call (Value.ref _) _) _ _ _) | (with_reducible show wpAny _ _ (setItem (Value.ref _) (Value.int _ _) _) _ _ _) | (with_reducible show wpAny _ _ (call (Value.builtin _) [Value.ref _]) _ _ _) | (with_reducible show wpAny _ _ (binaryOp Operator.RShift (Value.int _ _) (Value.int _ _)) _ _ _) | (with_reducible show wpAny _ _ (binaryOp Operator.LShift (Value.int _ _) (Value.int _ _)) _ _ _) | (with_reducible show wpAny _ _ (binaryOp Operator.BitXor (Value.int _ _) (Value.int _ _)) _ _ _))); first | (k_unfold; (try dsimp only)) | (k_end; kc_close) | walk1 | (dsimp only; walk1) | (leave1; walk_say "STEP leave1"; (try dsimp only)) | fail "no step"))
      (rename Fr _ _ _ _ => Fo); (rename News _ _ _ _ => No)
      refine revL Fo No (ne6 hx1 hx2 hx3 hx6 hx4 hx5) (by omega) ?_
      intro h9 F9 N9
      clear Fo No
      (repeat' ((fail_if_success (first | (with_reducible show wpAny _ _ (call (Value.ref _) _) _ _ _) | (with_reducible show wpAny _ _ (exec (Stmt.For _ _ _ _ _) _) _ _ _))); first | (k_unfold; (try dsimp only)) | (k_end; kc_close) | walk1 | (dsimp only; walk1) | (leave1; walk_say "STEP leave1"; (try dsimp only)) | fail "no step"))
      replace hdf : (qs, R) = divF 34359738336 zs 0 [] := hdf
      have hR2 : R = (divF 34359738336 zs 0 []).2 := by rw [← hdf]
      have hq2 : qs = (divF 34359738336 zs 0 []).1 := by rw [← hdf]
      have hdr : qvs.reverse.length = k := by rw [List.length_reverse]; omega
      have hIr : IntsAre qvs.reverse (qs.reverse.map Int.ofNat) := by rw [List.map_reverse]; exact IntsAre.reverse hq
      have h62l : 62 < l := hl2 _ (.tail _ (.head _))
      have hoffC : OwnOff ((l, listOf (List.toArray ds) nn) :: (c₀, oc₀) :: (55, tab1 c₀) :: rest) [62] := by
        intro p hp b hb
        rw [List.mem_singleton.mp hb]
        rcases List.mem_cons.mp hp with rfl | hp
        · exact Nat.ne_of_gt h62l
        rcases List.mem_cons.mp hp with rfl | hp
        · exact Nat.ne_of_gt h62c
        rcases List.mem_cons.mp hp with rfl | hp
        · exact (by decide : (55 : Nat) ≠ 62)
        exact hoffB p hp 62 (.head _)
      (rename Fr _ _ _ _ => Fo); (rename News _ _ _ _ => No)
      have No2 := reordT No
      have C3 := fun u => c_d2i_g w mean mg mb _ n k d qvs.reverse qs.reverse 0 u ((l, listOf (List.toArray ds) nn) :: (c₀, oc₀) :: (55, tab1 c₀) :: rest) e₀ oe₀ hrece hIr (by intro z hz'; exact hqz z (by rw [← hq2]; exact List.mem_reverse.mp hz')) hoffC (Nat.ne_of_gt hx4) (by omega) (by omega) (by omega) hd6
      rw [← hbit] at C3
      (k_dflt (refine' Ctr.use (C3 _) ?k1 ?k2 ?k3 ?k4 ?k5 ?k6 ?k7 ?k8 ?k9 ?k10 ?kR; (case k1 => k_asm); (case k2 => k_asm); (case k3 => k_asm); (case k4 => k_asm); (case k5 => k_asm); (case k6 => assumption); (case k7 => assumption); (case k8 => first | exact rfl | assumption); (case k9 => ktr_room); (case k10 => ktr_units)))
      case kR =>
        intro v5 ns5 h5 tk5 F5 N5 hr
        obtain ⟨⟨t5, rfl⟩, rfl⟩ := hr
        clear Fo No No2
        k_steps
        (rename Fr _ _ _ _ => Fe); (rename News _ _ _ _ => Ne)
        subst hR2 hq2
        rw [hdr] at *
        (rename (_ ∧ _ ∧ _ ∧ _ ∧ _ ∧ _ ∧ AllLt _ _) => hz'); obtain ⟨hz1, hz2, hz3, hz4, hz5, hz6, hz7⟩ := hz'
        exact hret _ _ _ _ Fe (finQ Ne) ⟨_, _, _, rfl, rfl, fun p hp => allLt_lt hz7 p hp, hz1, hz5⟩
end Mine
end
section
set_option maxRecDepth 100000
set_option maxHeartbeats 8000000
namespace Mine
open PySem PySem.W PyProof.Rows PySem.Calls
theorem c_idm (w : World) (mean : ExcName → Option Value) (mg mb : Str → Option Value) (A B : Int) (t u : Tok) (news : List (Addr × Obj)) (Ret : Value → List (Addr × Obj) → Prop) (hA : 0 ≤ A) (hB : 0 < B) (C : Ctr 30 w mean mg mb 74 news [.int A t, .int B u] Ret) :
   Ctr 40 w mean mg mb 81 news [.int A t, .int B u] Ret := by
  unfold Ctr
  k_fill
  intros; rename_i hret
  refine wpAny_call ?_
  (k_dflt (refine' code_def ?k1 ?k2 ?k3 ?k4 ?k5 ?kA ?kF ?kK ?k6 ?k7 ?k8 ?k9 ?kB ?_ ?c2 ?c3 ?c4 ?c5; (case kA => exact rfl); (case kF => exact rfl); (case kK => first | exact rfl | assumption); (case k1 => k_asm); (case k2 => k_asm); (case k3 => k_asm); (case k4 => k_asm); (case k5 => k_asm); (case k6 => k_is); (case k7 => k_is); (case k8 => ktr_room); (case k9 => exact BindsTo.of_eq rfl); (case c5 => decide); (case kB => exact locs rfl); (case c2 => exact rfl); (case c3 => exact rfl); (case c4 => exact rfl); k_whole; intro g' L' h' FG' F' N' B' X' T'; (try dsimp only); (try k_lift B'); (try k_fold)))
  (repeat' ((fail_if_success (first | (with_reducible show wpAny _ _ (call (Value.ref _) _) _ _ _) | (with_reducible show wpAny _ _ (exec (Stmt.For _ _ _ _ _) _) _ _ _))); first | (k_unfold; (try dsimp only)) | (k_end; kc_close) | walk1 | (dsimp only; walk1) | (leave1; walk_say "STEP leave1"; (try dsimp only)) | fail "no step"))
  all_goals (try (exfalso; omega))
  (rename Fr _ _ _ _ => Fo); (rename News _ _ _ _ => No)
  (k_dflt (refine' Ctr.use (C) ?k1 ?k2 ?k3 ?k4 ?k5 ?k6 ?k7 ?k8 ?k9 ?k10 ?kR; (case k1 => k_asm); (case k2 => k_asm); (case k3 => k_asm); (case k4 => k_asm); (case k5 => k_asm); (case k6 => assumption); (case k7 => assumption); (case k8 => first | exact rfl | assumption); (case k9 => ktr_room); (case k10 => ktr_units)))
  case kR =>
    intro v3 ns3 h3 tk3 F3 N3 hr
    clear Fo No
    k_steps
    exact hret _ _ _ _ (by assumption) (by assumption) hr
end Mine
end
section
set_option maxRecDepth 100000
set_option maxHeartbeats 4000000
namespace Mine
open PySem PySem.W PyProof.Rows PySem.Calls
/-- the dividend at depth h -/
def xh (h : Nat) : Nat := 34359738368 ^ h - 32 ^ h
def zsh (h : Nat) : List Nat := ((inF 35 2 (xh h) 0 h (List.replicate h 0)).reverse).map Int.toNat
def partF (h : Nat) : Nat := d2F 35 (divF 34359738336 (zsh h) 0 []).1.reverse 2 0 h
theorem h_facts : ∀ h, 1 ≤ h → h ≤ 4 → xh h < 2 ^ 200 ∧ xh h ≠ 0 ∧ ((Builtin.Int.intBits (xh h : Nat) : Int) + 35 - 1).fdiv 35 = (h : Int) ∧ inF 35 2 (xh h) 0 h (List.replicate h 0) = ((zsh h).map Int.ofNat).reverse ∧ (∀ z ∈ zsh h, z < 2 ^ 35) ∧ (∀ z ∈ (divF 34359738336 (zsh h) 0 []).1, z < 2 ^ 36) ∧ (divF 34359738336 (zsh h) 0 []).2 = 0 ∧ h ≤ 2 ^ 2 ∧ partF h < 2 ^ 150 := by
  intro h h1 h4
  have h5 : h = 1 ∨ h = 2 ∨ h = 3 ∨ h = 4 := by omega
  rcases h5 with rfl | rfl | rfl | rfl <;> decide +kernel
theorem b_bits : ((Builtin.Int.intBits ((34359738336 : Nat) : Int) : Nat) : Int) = 35 := by decide +kernel
def tupP (h : Nat) (t1 t2 : Tok) : Obj := { cls := .type "tuple", data := .seq (List.toArray [.int ((partF h : Nat) : Int) t1, .int 0 t2]) 0 }
theorem c_idm_f (w : World) (mean : ExcName → Option Value) (mg mb : Str → Option Value) (h : Nat) (A B : Int) (t u : Tok) (rest : List (Addr × Obj)) (h1 : 1 ≤ h) (h4 : h ≤ 4) (hA : A = (xh h : Nat)) (hB : B = (34359738336 : Nat)) (hoff : OwnOff rest [55]) (hoffB : OwnOff rest [62]) :
    Ctr 40 w mean mg mb 81 ((55, tabObj #[]) :: (62, tabObj #[]) :: rest) [.int A t, .int B u] (fun v ns => ∃ T t1 t2 c oc c2 oc2, v = .ref T ∧ ns = (T, tupP h t1 t2) :: (c2, oc2) :: (62, tab2 c2) :: (c, oc) :: (55, tab1 c) :: rest ∧ Rec oc q1 ∧ Rec oc2 q2 ∧ (∀ p ∈ rest, p.1 < c ∧ p.1 < c2 ∧ p.1 < T) ∧ 62 < c ∧ c < c2 ∧ c2 < T) := by
  obtain ⟨f1, f2, f3, f4, f5, f6, f7, f8, f9⟩ := h_facts h h1 h4
  have C := c_dmp_f w mean mg mb (xh h) h 2 A B t u rest (zsh h) hA (Nat.lt_of_lt_of_le f1 (Nat.pow_le_pow_right (by omega) (by omega))) f2 hB (by rw [hA]; exact f3) (by omega) (by omega) f8 (by omega) hoff hoffB f6 (by rw [hB]; exact b_bits) f4 f5
  rw [f7] at C
  refine c_idm w mean mg mb A B t u _ _ (by omega) (by omega) ?_
  exact C
theorem c_idm_g (w : World) (mean : ExcName → Option Value) (mg mb : Str → Option Value) (h : Nat) (A B : Int) (t u : Tok) (rest : List (Addr × Obj)) (c₀ e₀ : Addr) (oc₀ oe₀ : Obj) (hrec₀ : Rec oc₀ q1) (hrece : Rec oe₀ q2) (h62c : 62 < c₀) (h1 : 1 ≤ h) (h4 : h ≤ 4) (hA : A = (xh h : Nat)) (hB : B = (34359738336 : Nat)) (hoff : OwnOff rest [55]) (hoffB : OwnOff rest [62]) :
    Ctr 40 w mean mg mb 81 ((e₀, oe₀) :: (62, tab2 e₀) :: (c₀, oc₀) :: (55, tab1 c₀) :: rest) [.int A t, .int B u] (fun v ns => ∃ T t1 t2, v = .ref T ∧ ns = (T, tupP h t1 t2) :: (e₀, oe₀) :: (62, tab2 e₀) :: (c₀, oc₀) :: (55, tab1 c₀) :: rest ∧ (∀ p ∈ rest, p.1 < T) ∧ e₀ < T ∧ c₀ < T) := by
  obtain ⟨f1, f2, f3, f4, f5, f6, f7, f8, f9⟩ := h_facts h h1 h4
  have C := c_dmp_g w mean mg mb (xh h) h 2 A B t u rest c₀ e₀ oc₀ oe₀ hrec₀ hrece h62c (zsh h) hA (Nat.lt_of_lt_of_le f1 (Nat.pow_le_pow_right (by omega) (by omega))) f2 hB (by rw [hA]; exact f3) (by omega) (by omega) f8 (by omega) hoff hoffB f6 (by rw [hB]; exact b_bits) f4 f5
  rw [f7] at C
  refine c_idm w mean mg mb A B t u _ _ (by omega) (by omega) ?_
  exact C
end Mine
end
section
set_option maxRecDepth 100000
set_option maxHeartbeats 8000000
namespace Mine
open PySem PySem.W PyProof.Rows PySem.Calls
theorem ovA {m₀ : Str → Option Value} {a b d o p l b' d' o' : Option Value} : (fun y => if y = Str.ofString "depth" then d' else if y = Str.ofString "begun" then b' else if y = Str.ofString "one" then o' else ov m₀ [(Str.ofString "told", a), (Str.ofString "begun", b), (Str.ofString "depth", d), (Str.ofString "one", o), (Str.ofString "part", p), (Str.ofString "left", l)] y)
    = ov m₀ [(Str.ofString "told", a), (Str.ofString "begun", b'), (Str.ofString "depth", d'), (Str.ofString "one", o'), (Str.ofString "part", p), (Str.ofString "left", l)] := by
  funext y
  by_cases h1 : y = Str.ofString "depth"
  · subst h1; rfl
  by_cases h2 : y = Str.ofString "begun"
  · subst h2; rfl
  by_cases h3 : y = Str.ofString "one"
  · subst h3; rfl
  simp only [ov, if_neg h1, if_neg h2, if_neg h3]
theorem ovB {m₀ : Str → Option Value} {a b d o p l o' : Option Value} : (fun y => if y = Str.ofString "one" then o' else ov m₀ [(Str.ofString "told", a), (Str.ofString "begun", b), (Str.ofString "depth", d), (Str.ofString "one", o), (Str.ofString "part", p), (Str.ofString "left", l)] y)
    = ov m₀ [(Str.ofString "told", a), (Str.ofString "begun", b), (Str.ofString "depth", d), (Str.ofString "one", o'), (Str.ofString "part", p), (Str.ofString "left", l)] := by
  funext y
  by_cases h3 : y = Str.ofString "one"
  · subst h3; rfl
  simp only [ov, if_neg h3]
theorem ovC {m₀ : Str → Option Value} {a b d o p l a' d' o' p' l' : Option Value} : (fun y => if y = Str.ofString "depth" then d' else if y = Str.ofString "told" then a' else if y = Str.ofString "left" then l' else if y = Str.ofString "part" then p' else if y = Str.ofString "one" then o' else ov m₀ [(Str.ofString "told", a), (Str.ofString "begun", b), (Str.ofString "depth", d), (Str.ofString "one", o), (Str.ofString "part", p), (Str.ofString "left", l)] y)
    = ov m₀ [(Str.ofString "told", a'), (Str.ofString "begun", b), (Str.ofString "depth", d'), (Str.ofString "one", o'), (Str.ofString "part", p'), (Str.ofString "left", l')] := by
  funext y
  by_cases h1 : y = Str.ofString "depth"
  · subst h1; rfl
  by_cases h2 : y = Str.ofString "told"
  · subst h2; rfl
  by_cases h3 : y = Str.ofString "left"
  · subst h3; rfl
  by_cases h4 : y = Str.ofString "part"
  · subst h4; rfl
  by_cases h5 : y = Str.ofString "one"
  · subst h5; rfl
  simp only [ov, if_neg h1, if_neg h2, if_neg h3, if_neg h4, if_neg h5]
theorem xh_int (h : Nat) : (34359738368 : Int) ^ h - 32 ^ h = ((xh h : Nat) : Int) := by
  have e : 32 ^ h ≤ 34359738368 ^ h := Nat.pow_le_pow_left (by omega) h
  unfold xh
  rw [Int.ofNat_sub e]
  simp
theorem mulN_ok {x y : Nat} {b c : Nat} (hx : x < 2 ^ b) (hy : y < 2 ^ c) (h : b + c ≤ 100000) : IntMulOk (x : Int) (y : Int) := by
  have h1 := bits_lt b hx
  have h2 := bits_lt c hy
  unfold IntMulOk
  simp [Builtin.Int.intTooBig, bitsLine]
  omega
end Mine
end
section
set_option maxRecDepth 100000
set_option maxHeartbeats 8000000
namespace Mine
open PySem PySem.W PyProof.Rows PySem.Calls
/-- _law_product's turn: told, begun, depth -/
def stepP (s : Nat × Nat × Nat) (one : Bool) : Nat × Nat × Nat :=
  if one then (if s.2.1 < 4 then (s.1, s.2.1 + 1, s.2.2 + 1) else s) else if s.2.2 = 0 then s else (s.1 * partF s.2.2, s.2.1, s.2.2 - 1)
def foldP (bs : List Bool) : Nat × Nat × Nat := bs.foldl stepP (1, 0, 0)
def TabL (nx cst : List (Addr × Obj)) : Prop := nx = (55, tabObj #[]) :: (62, tabObj #[]) :: cst ∨ ∃ c oc c2 oc2, nx = (c2, oc2) :: (62, tab2 c2) :: (c, oc) :: (55, tab1 c) :: cst ∧ Rec oc q1 ∧ Rec oc2 q2 ∧ 62 < c
def JP (m₀ : Str → Option Value) (cst : List (Addr × Obj)) (bs : List Bool) (i : Nat) (m : Str → Option Value) (nx : List (Addr × Obj)) : Prop :=
  ∃ told begun depth t1 t2 t3 u1 u2 u3, m = ov m₀ [(Str.ofString "told", some (.int (told : Nat) t1)), (Str.ofString "begun", some (.int (begun : Nat) t2)), (Str.ofString "depth", some (.int (depth : Nat) t3)), (Str.ofString "one", u1), (Str.ofString "part", u2), (Str.ofString "left", u3)] ∧ TabL nx cst ∧ foldP (bs.take i) = (told, begun, depth) ∧ depth ≤ begun ∧ begun ≤ 4 ∧ told < 2 ^ (1 + 150 * i)
theorem offP {l : Addr} {o : Obj} {rest own : List (Addr × Obj)} (a : Addr) (hl : @LT.lt Nat _ a l) (hr : OwnOff rest [a]) (ho : ∀ p ∈ own, p.1 ≠ a) : OwnOff (((l, o) :: rest) ++ own) [a] := by
  intro p hp b hb
  rw [List.mem_singleton.mp hb]
  rcases List.mem_append.mp hp with hp | hp
  · rcases List.mem_cons.mp hp with rfl | hp
    · exact Nat.ne_of_gt hl
    · exact hr p hp a (.head _)
  · exact ho p hp
theorem ownFin {own rest : List (Addr × Obj)} {c c2 T l : Addr} {x y z z2 o oc oc2 : Obj} (hoff : OwnOff own (((55, x) :: (62, y) :: (l, o) :: rest).map (·.1))) (hlt : ∀ p ∈ ((l, o) :: rest) ++ own, p.1 < c ∧ p.1 < c2 ∧ p.1 < T) : OwnOff own (((c2, oc2) :: (62, z) :: (c, oc) :: (55, z2) :: (l, o) :: rest).map (·.1)) := by
  intro p hp b hb
  have h := hlt p (List.mem_append_right _ hp)
  simp only [List.map_cons, List.mem_cons] at hb
  rcases hb with rfl | rfl | rfl | rfl | hb
  · exact Nat.ne_of_lt h.2.1
  · exact hoff p hp 62 (by simp)
  · exact Nat.ne_of_lt h.1
  · exact hoff p hp 55 (by simp)
  · exact hoff p hp b (by simp only [List.map_cons, List.mem_cons]; exact .inr (.inr hb))
theorem JP.start {m₀ : Str → Option Value} {cst : List (Addr × Obj)} {bs : List Bool} {t1 t2 t3 : Tok} (h1 : m₀ (Str.ofString "told") = some (.int ((1 : Nat) : Int) t1)) (h2 : m₀ (Str.ofString "begun") = some (.int ((0 : Nat) : Int) t2)) (h3 : m₀ (Str.ofString "depth") = some (.int ((0 : Nat) : Int) t3)) :
    JP m₀ cst bs 0 m₀ ((55, tabObj #[]) :: (62, tabObj #[]) :: cst) := by
  refine ⟨1, 0, 0, t1, t2, t3, m₀ (Str.ofString "one"), m₀ (Str.ofString "part"), m₀ (Str.ofString "left"), ?_, .inl rfl, rfl, by omega, by omega, by simp⟩
  funext z
  simp only [ov]
  rw [ovself rfl, ovself rfl, ovself rfl, ovself h3, ovself h2, ovself h1]
theorem c_prod (w : World) (mean : ExcName → Option Value) (mg mb : Str → Option Value) (l n : Nat) (bs : List Bool) (rest : List (Addr × Obj)) (hbl : bs.length ≤ 12) (hl : 62 < l) (ho5 : OwnOff rest [55]) (ho6 : OwnOff rest [62]) :
   Ctr 50 w mean mg mb 105 ((55, tabObj #[]) :: (62, tabObj #[]) :: (l, listOf (List.toArray (bs.map Value.bool)) n) :: rest) [.ref l] (fun v ns => (∃ t, v = .int ((foldP bs).1 : Nat) t) ∧ TabL ns ((l, listOf (List.toArray (bs.map Value.bool)) n) :: rest)) := by
  unfold Ctr
  k_fill
  intros; rename_i hret
  refine wpAny_call ?_
  (k_dflt (refine' code_def ?k1 ?k2 ?k3 ?k4 ?k5 ?kA ?kF ?kK ?k6 ?k7 ?k8 ?k9 ?kB ?_ ?c2 ?c3 ?c4 ?c5; (case kA => exact rfl); (case kF => exact rfl); (case kK => first | exact rfl | assumption); (case k1 => k_asm); (case k2 => k_asm); (case k3 => k_asm); (case k4 => k_asm); (case k5 => k_asm); (case k6 => k_is); (case k7 => k_is); (case k8 => ktr_room); (case k9 => exact BindsTo.of_eq rfl); (case c5 => decide); (case kB => exact locs rfl); (case c2 => exact rfl); (case c3 => exact rfl); (case c4 => exact rfl); k_whole; intro g' L' h' FG' F' N' B' X' T'; (try dsimp only); (try k_lift B'); (try k_fold)))
  (repeat' ((fail_if_success (first | (with_reducible show wpAny _ _ (exec (Stmt.For _ _ _ _ _) _) _ _ _))); first | (k_unfold; (try dsimp only)) | (k_end; kc_close) | walk1 | (dsimp only; walk1) | (leave1; walk_say "STEP leave1"; (try dsimp only)) | fail "no step"))
  ((rename Fr _ _ _ _ => lF'); (with_unfolding_all refine' For_invVF lF' ?k1 ?k2 ?_; (case k1 => exact rfl); (case k2 => exact rfl); k_whole))
  (repeat' ((fail_if_success (first | (with_reducible show wpAny _ _ (pyIter _) _ _ _))); first | (k_unfold; (try dsimp only)) | (k_end; kc_close) | walk1 | (dsimp only; walk1) | (leave1; walk_say "STEP leave1"; (try dsimp only)) | fail "no step"))
  (rename Fr _ _ _ _ => Fo); (rename News _ _ _ _ => No)
  refine kdl_iter (JP _ ((l, listOf (List.toArray (bs.map Value.bool)) n) :: rest) bs) rfl (by k_mem) Fo No (JP.start (by rfl) (by rfl) (by rfl)) ?_ ?_
  · rintro i v m₁ nx h tk own hv hoff hmem ⟨told, begun, depth, t1, t2, t3, u1, u2, u3, rfl, hT, hf, hd1, hd2, hd3⟩ F N
    obtain ⟨one, rfl⟩ : ∃ b : Bool, v = .bool b := by
      rw [List.getElem?_map] at hv
      cases q : bs[i]? with
      | none => rw [q] at hv; cases hv
      | some b => rw [q] at hv; exact ⟨b, (Option.some.inj hv).symm⟩
    clear Fo No
    have hfs : foldP (bs.take (i + 1)) = stepP (told, begun, depth) one := by
      have hb : bs[i]? = some one := by
        rw [List.getElem?_map] at hv
        cases q : bs[i]? with
        | none => rw [q] at hv; cases hv
        | some b => rw [q] at hv; cases hv; rfl
      rw [List.take_succ, hb, foldP, List.foldl_append]
      show stepP (foldP (bs.take i)) one = _
      rw [hf]
    have hup : told < 2 ^ (1 + 150 * (i + 1)) := Nat.lt_of_lt_of_le hd3 (Nat.pow_le_pow_right (by omega) (by omega))
    have hi : i < 12 := by
      have e := (List.getElem?_eq_some_iff.mp hv).1
      rw [List.length_map] at e
      omega
    (repeat' ((fail_if_success (first | (with_reducible show wpAny _ _ (call (Value.ref _) _) _ _ _) | (with_reducible show wpAny _ _ (exec (Stmt.For _ _ _ _ _) _) _ _ _))); first | (k_unfold; (try dsimp only)) | (k_end; kc_close) | walk1 | (dsimp only; walk1) | (leave1; walk_say "STEP leave1"; (try dsimp only)) | fail "no step"))
    · (rename Fr _ _ _ _ => Fe); (rename News _ _ _ _ => Ne)
      exact InvEndG.intro Fe Ne ⟨hmem, told, begun + 1, depth + 1, _, _, _, _, _, _, ovA, hT, (by rw [hfs]; unfold stepP; rw [if_pos (by assumption), if_pos (show begun < 4 by omega)]), (by omega), (by omega), hup⟩ hoff (fun p hp => List.mem_append_left _ hp) (fun p hp => List.mem_append_right _ hp)
    · (rename Fr _ _ _ _ => Fe); (rename News _ _ _ _ => Ne)
      exact InvEndG.intro Fe Ne ⟨hmem, _, _, _, _, _, _, _, _, _, ovB, hT, (by rw [hfs]; unfold stepP; rw [if_pos (by assumption), if_neg (show ¬ begun < 4 by omega)]), hd1, hd2, hup⟩ hoff (fun p hp => List.mem_append_left _ hp) (fun p hp => List.mem_append_right _ hp)
    · (rename Fr _ _ _ _ => Fo); (rename News _ _ _ _ => No)
      (k_dflt (refine' Ctr.use (c_iseof w mean mg mb _ _ _) ?k1 ?k2 ?k3 ?k4 ?k5 ?k6 ?k7 ?k8 ?k9 ?k10 ?kR; (case k1 => k_asm); (case k2 => k_asm); (case k3 => k_asm); (case k4 => k_asm); (case k5 => k_asm); (case k6 => assumption); (case k7 => assumption); (case k8 => first | exact rfl | assumption); (case k9 => ktr_room); (case k10 => ktr_units)))
      case kR =>
        intro v3 ns3 h3 tk3 F3 N3 hr
        obtain ⟨rfl, rfl⟩ := hr
        clear Fo No
        (repeat' ((fail_if_success (first | (with_reducible show wpAny _ _ (call (Value.ref _) _) _ _ _) | (with_reducible show wpAny _ _ (exec (Stmt.For _ _ _ _ _) _) _ _ _))); first | (k_unfold; (try dsimp only)) | (k_end; kc_close) | walk1 | (dsimp only; walk1) | (leave1; walk_say "STEP leave1"; (try dsimp only)) | fail "no step"))
        · (rename Fr _ _ _ _ => Fe); (rename News _ _ _ _ => Ne)
          exact InvEndG.intro Fe Ne ⟨hmem, told, begun, depth, _, _, _, _, _, _, ovB, hT, (by rw [hfs]; unfold stepP; simp_all), hd1, hd2, hup⟩ hoff (fun p hp => List.mem_append_left _ hp) (fun p hp => List.mem_append_right _ hp)
        have hd0 : depth ≠ 0 := by intro q; subst q; simp_all
        have hA : (32 ^ Int.toNat 7) ^ ((depth : Nat) : Int).toNat - 32 ^ ((depth : Nat) : Int).toNat = ((xh depth : Nat) : Int) := by
          rw [← xh_int]
          simp
        have hP := (h_facts depth (by omega) (by omega)).2.2.2.2.2.2.2.2
        have hmul : IntMulOk (told : Int) (partF depth : Nat) := mulN_ok hd3 hP (by omega)
        have hup2 : told * partF depth < 2 ^ (1 + 150 * (i + 1)) := by
          rw [show 1 + 150 * (i + 1) = (1 + 150 * i) + 150 by omega, Nat.pow_add]
          exact Nat.mul_lt_mul'' hd3 hP
        have hoff5 : OwnOff (((l, listOf (List.toArray (bs.map Value.bool)) n) :: rest) ++ own) [55] := offP 55 (by omega) ho5 (fun p hp => by rcases hT with rfl | ⟨c, oc, c2, oc2, rfl, _⟩ <;> exact hoff p hp 55 (by simp))
        have hoff6 : OwnOff (((l, listOf (List.toArray (bs.map Value.bool)) n) :: rest) ++ own) [62] := offP 62 (by omega) ho6 (fun p hp => by rcases hT with rfl | ⟨c, oc, c2, oc2, rfl, _⟩ <;> exact hoff p hp 62 (by simp))
        rcases hT with rfl | ⟨c, oc, c2, oc2, rfl, hr1, hr2, h62⟩
        · (rename Fr _ _ _ _ => Fo); (rename News _ _ _ _ => No)
          (k_dflt (refine' Ctr.use (c_idm_f w mean mg mb depth _ _ _ _ (((l, listOf (List.toArray (bs.map Value.bool)) n) :: rest) ++ own) (by omega) (by omega) hA (by decide +kernel) hoff5 hoff6) ?k1 ?k2 ?k3 ?k4 ?k5 ?k6 ?k7 ?k8 ?k9 ?k10 ?kR; (case k1 => k_asm); (case k2 => k_asm); (case k3 => k_asm); (case k4 => k_asm); (case k5 => k_asm); (case k6 => assumption); (case k7 => assumption); (case k8 => first | exact rfl | assumption); (case k9 => ktr_room); (case k10 => ktr_units)))
          case kR =>
            intro v4 ns4 h4 tk4 F4 N4 hr
            obtain ⟨T, ta, tb, c, oc, c2, oc2, rfl, rfl, hr1, hr2, hlt, hc1, hc2, hc3⟩ := hr
            clear Fo No
            unfold tupP at N4
            (repeat' ((fail_if_success (first | (with_reducible show wpAny _ _ (inplaceOp Operator.Mult (Value.int _ _) (Value.int _ _)) _ _ _) | (with_reducible show wpAny _ _ (call (Value.ref _) _) _ _ _))); first | (k_unfold; (try dsimp only)) | (k_end; kc_close) | walk1 | (dsimp only; walk1) | (leave1; walk_say "STEP leave1"; (try dsimp only)) | fail "no step"))
            refine imul_int ?_ hmul
            (repeat' ((fail_if_success (first | (with_reducible show wpAny _ _ (call (Value.ref _) _) _ _ _) | (with_reducible show wpAny _ _ (exec (Stmt.For _ _ _ _ _) _) _ _ _))); first | (k_unfold; (try dsimp only)) | (k_end; kc_close) | walk1 | (dsimp only; walk1) | (leave1; walk_say "STEP leave1"; (try dsimp only)) | fail "no step"))
            (rename Fr _ _ _ _ => Fe); (rename News _ _ _ _ => Ne)
            have ed : ((depth : Nat) : Int) - 1 = ((depth - 1 : Nat) : Int) := by omega
            rw [ed] at Fe
            refine InvEndG.intro (nx := (c2, oc2) :: (62, tab2 c2) :: (c, oc) :: (55, tab1 c) :: (l, listOf (List.toArray (bs.map Value.bool)) n) :: rest) Fe Ne ⟨?_, told * partF depth, begun, depth - 1, _, _, _, _, _, _, ovC, .inr ⟨c, oc, c2, oc2, rfl, hr1, hr2, hc1⟩, (by rw [hfs, (by assumption : one = false)]; unfold stepP; rw [if_neg Bool.false_ne_true, if_neg hd0]), (by omega), hd2, hup2⟩ (ownFin hoff hlt) (fun p hp => ?_) (fun p hp => ?_)
            · exact .tail _ (.tail _ (.tail _ (.tail _ (.head _))))
            · simp only [List.mem_cons, List.mem_append] at hp ⊢
              rcases hp with h | h | h | h | h | h <;> simp [h]
            · exact .tail _ (.tail _ (.tail _ (.tail _ (.tail _ (List.mem_append_right _ hp)))))
        · (rename Fr _ _ _ _ => Fo); (rename News _ _ _ _ => No)
          (k_dflt (refine' Ctr.use (c_idm_g w mean mg mb depth _ _ _ _ (((l, listOf (List.toArray (bs.map Value.bool)) n) :: rest) ++ own) c c2 oc oc2 hr1 hr2 h62 (by omega) (by omega) hA (by decide +kernel) hoff5 hoff6) ?k1 ?k2 ?k3 ?k4 ?k5 ?k6 ?k7 ?k8 ?k9 ?k10 ?kR; (case k1 => k_asm); (case k2 => k_asm); (case k3 => k_asm); (case k4 => k_asm); (case k5 => k_asm); (case k6 => assumption); (case k7 => assumption); (case k8 => first | exact rfl | assumption); (case k9 => ktr_room); (case k10 => ktr_units)))
          case kR =>
            intro v4 ns4 h4 tk4 F4 N4 hr
            obtain ⟨T, ta, tb, rfl, rfl, hlt, hc1, hc2⟩ := hr
            clear Fo No
            unfold tupP at N4
            (repeat' ((fail_if_success (first | (with_reducible show wpAny _ _ (inplaceOp Operator.Mult (Value.int _ _) (Value.int _ _)) _ _ _) | (with_reducible show wpAny _ _ (call (Value.ref _) _) _ _ _))); first | (k_unfold; (try dsimp only)) | (k_end; kc_close) | walk1 | (dsimp only; walk1) | (leave1; walk_say "STEP leave1"; (try dsimp only)) | fail "no step"))
            refine imul_int ?_ hmul
            (repeat' ((fail_if_success (first | (with_reducible show wpAny _ _ (call (Value.ref _) _) _ _ _) | (with_reducible show wpAny _ _ (exec (Stmt.For _ _ _ _ _) _) _ _ _))); first | (k_unfold; (try dsimp only)) | (k_end; kc_close) | walk1 | (dsimp only; walk1) | (leave1; walk_say "STEP leave1"; (try dsimp only)) | fail "no step"))
            (rename Fr _ _ _ _ => Fe); (rename News _ _ _ _ => Ne)
            have ed : ((depth : Nat) : Int) - 1 = ((depth - 1 : Nat) : Int) := by omega
            rw [ed] at Fe
            refine InvEndG.intro (nx := (c2, oc2) :: (62, tab2 c2) :: (c, oc) :: (55, tab1 c) :: (l, listOf (List.toArray (bs.map Value.bool)) n) :: rest) Fe Ne ⟨?_, told * partF depth, begun, depth - 1, _, _, _, _, _, _, ovC, .inr ⟨c, oc, c2, oc2, rfl, hr1, hr2, h62⟩, (by rw [hfs, (by assumption : one = false)]; unfold stepP; rw [if_neg Bool.false_ne_true, if_neg hd0]), (by omega), hd2, hup2⟩ hoff (fun p hp => ?_) (fun p hp => ?_)
            · exact .tail _ (.tail _ (.tail _ (.tail _ (.head _))))
            · simp only [List.mem_cons, List.mem_append] at hp ⊢
              rcases hp with h | h | h | h | h | h <;> simp [h]
            · exact .tail _ (.tail _ (.tail _ (.tail _ (.tail _ (List.mem_append_right _ hp)))))
  · rintro m₁ nx h tk ⟨told, begun, depth, t1, t2, t3, u1, u2, u3, rfl, hT, hf, hd1, hd2, hd3⟩ F N
    clear Fo No
    k_steps
    (rename Fr _ _ _ _ => Fe); (rename News _ _ _ _ => Ne)
    rw [List.length_map, List.take_length] at hf
    exact hret _ _ _ _ Fe Ne ⟨⟨_, by rw [hf]⟩, hT⟩
end Mine
end
section
set_option maxRecDepth 100000
set_option maxHeartbeats 4000000
namespace Mine
open PySem PySem.W PyProof.Rows PySem.Calls PySem.Spec
def bL : List (Int × Tok) := [(65024, 205), (65025, 206), (65026, 207), (65027, 208), (65028, 209), (65029, 210), (6150, 191), (65030, 211), (65031, 212), (65032, 213), (65033, 214), (6155, 192), (6156, 193), (6157, 194), (8203, 195), (8204, 196), (8205, 197), (65034, 215), (65035, 216), (65036, 217), (65037, 218), (65038, 219), (65039, 220), (173, 189), (847, 190), (8288, 198), (65279, 199)]
theorem setFact {prog : Program} {w : World} {h : Heap} (hg : h.get? 22 = some (o22_2 w.params)) : h.SetOf (PySem.intKind prog w) 22 (fun k => bL.any (fun p => p.1 == k)) 27 := by
  refine ⟨_, (bL.map fun p => (p.1, Value.int p.1 p.2)).toArray, 29, _, hg, ?_, rfl, ?_, ?_, by decide, rfl, rfl⟩
  · exact ⟨rfl, rfl, rfl⟩
  · intro x hx
    change x ∈ bL.map (fun p => (p.1, Value.int p.1 p.2)) at hx
    obtain ⟨p, hp, rfl⟩ := List.mem_map.mp hx
    exact ⟨⟨p.1, by simp [PySem.intKind, Value.isInt], (by decide +kernel : ∀ p ∈ bL, p.1 = hashInt p.1) p hp⟩, rfl⟩
  · intro k
    rw [List.any_eq_true]
    constructor
    · rintro ⟨p, hp, e⟩
      exact ⟨(p.1, Value.int p.1 p.2), List.mem_map.mpr ⟨p, hp, rfl⟩, e⟩
    · rintro ⟨e, he, hk⟩
      change e ∈ bL.map (fun p => (p.1, Value.int p.1 p.2)) at he
      obtain ⟨p, hp, rfl⟩ := List.mem_map.mp he
      exact ⟨p, hp, hk⟩
theorem c_b1 (w : World) (mean : ExcName → Option Value) (mg mb : Str → Option Value) (news : List (Addr × Obj)) (c : Nat) (t : Tok) :
   Ctr 5 w mean mg mb 32 news [.str ⟨#[c]⟩ t] (fun v ns => v = .bool (bL.any (fun p => p.1 == (c : Int))) ∧ ns = news) := by
  unfold Ctr
  k_fill
  intros; rename_i hret
  refine wpAny_call ?_
  (k_dflt (refine' code_def ?k1 ?k2 ?k3 ?k4 ?k5 ?kA ?kF ?kK ?k6 ?k7 ?k8 ?k9 ?kB ?_ ?c2 ?c3 ?c4 ?c5; (case kA => exact rfl); (case kF => exact rfl); (case kK => first | exact rfl | assumption); (case k1 => k_asm); (case k2 => k_asm); (case k3 => k_asm); (case k4 => k_asm); (case k5 => k_asm); (case k6 => k_is); (case k7 => k_is); (case k8 => ktr_room); (case k9 => exact BindsTo.of_eq rfl); (case c5 => decide); (case kB => exact locs rfl); (case c2 => exact rfl); (case c3 => exact rfl); (case c4 => exact rfl); k_whole; intro g' L' h' FG' F' N' B' X' T'; (try dsimp only); (try k_lift B'); (try k_fold)))
  (repeat' ((fail_if_success (first | (with_reducible show wpAny _ _ (compareOp CmpOp.In _ _) _ _ _))); first | (k_unfold; (try dsimp only)) | (k_end; kc_close) | walk1 | (dsimp only; walk1) | (leave1; walk_say "STEP leave1"; (try dsimp only)) | fail "no step"))
  (rename Fr _ _ _ _ => Fo); (rename Frag.In _ _ => Xo)
  refine wpAny_inSet_of (knd := PySem.intKind _ _) (k := (c : Int)) (n := 27) (S := fun k => bL.any (fun p => p.1 == k)) (by simp [PySem.intKind, Value.isInt]) rfl (setFact (Fo.keep _ _ (Xo 22 _ (by kernel_rfl)))) ?_
  k_steps
  all_goals exact hret _ _ _ _ (by assumption) (by assumption) ⟨rfl, rfl⟩
end Mine
end
section
set_option maxRecDepth 100000
set_option maxHeartbeats 4000000
namespace Mine
open PySem PySem.W PyProof.Rows PySem.Calls PySem.Spec
open PyProof.Rows.LCg
section
variable {prog : Program} {w : World} {A : Around} {E : Value → Shared → Prop} {s : Shared} {env : Env}
theorem compTurn_two (elt t1 i1 t2 i2 : PySem.Expr) (scope : Scope) (pos : Pos) (it acc : Value) (env : Env) :
    compTurn (.ListComp elt [⟨t1, i1, [], 0⟩, ⟨t2, i2, [], 0⟩] scope pos) 0 it acc env = (standAt i1.pos >>= fun _ => pyNext it >>= fun r => match r with
      | none => pure (.done .next)
      | some v => letOwnedTupleGo t1 it v >>= fun _ => assign t1 env v >>= fun _ =>
        eval i2 env >>= fun x => standAt i2.pos >>= fun _ => foldedSetIterable i2 env x >>= fun x => holding [x] (pyIter x) >>= fun j =>
        runOwn (.compStart (.ListComp elt [⟨t1, i1, [], 0⟩, ⟨t2, i2, [], 0⟩] scope pos) 1 j acc env) env >>= fun _ =>
          again (.compLoop (.ListComp elt [⟨t1, i1, [], 0⟩, ⟨t2, i2, [], 0⟩] scope pos) 0 it acc env)) := by rfl
theorem compTurn_in (elt t1 i1 t2 i2 : PySem.Expr) (scope : Scope) (pos : Pos) (it acc : Value) (env : Env) :
    compTurn (.ListComp elt [⟨t1, i1, [], 0⟩, ⟨t2, i2, [], 0⟩] scope pos) 1 it acc env = (standAt i2.pos >>= fun _ => pyNext it >>= fun r => match r with
      | none => pure (.done .next)
      | some v => letOwnedTupleGo t2 it v >>= fun _ => assign t2 env v >>= fun _ =>
        (eval elt env >>= fun x => call (.builtin "list.append") [acc, x] >>= fun _ => pure ()) >>= fun _ =>
          again (.compLoop (.ListComp elt [⟨t1, i1, [], 0⟩, ⟨t2, i2, [], 0⟩] scope pos) 1 it acc env)) := by rfl
/-- the inner block's loop -/
theorem comp_in {elt t1 i1 i2 : PySem.Expr} {y : Str} {py : Pos} {scope : Scope} {pos : Pos} {it acc : Value} {R : Result → Shared → Prop} (I : Nat → Shared → Prop)
    (turn : ∀ n s, I n s → ∀ EE : Value → Shared → Prop, wpAny (model prog w) A (pyNext it) (fun r s₁ => match r with
      | none => R (.ok .next) s₁
      | some v => wpAny (model prog w) A (assign (.Name y py) env v) (fun _ s₂ => wpAny (model prog w) A (eval elt env) (fun x s₃ =>
          wpAny (model prog w) A (call (.builtin "list.append") [acc, x]) (fun _ s₄ => ∃ m, m < n ∧ I m s₄) EE s₃) EE s₂) EE s₁) EE s)
    (n : Nat) (h : I n s) : codeAny (model prog w) A (.compLoop (.ListComp elt [⟨t1, i1, [], 0⟩, ⟨.Name y py, i2, [], 0⟩] scope pos) 1 it acc env) R s := by
  refine codeAny_loop rfl I (fun n s hI => ?_) n h
  show wpAny _ A ((compTurn (.ListComp elt [⟨t1, i1, [], 0⟩, ⟨.Name y py, i2, [], 0⟩] scope pos) 1 it acc env).onRaise (fun x => do noteFrame x env; theTreesLotGoes x)) _ _ s
  refine wpAny_noted ?_
  rw [compTurn_in]
  refine wpAny_bind (wpAny_standAt (wpAny_bind (wpAny_mono (turn n s hI _) (fun r s₁ h₁ => ?_) fun _ _ h' => h')))
  cases r with
  | none => exact wpAny_pure h₁
  | some v =>
    refine wpAny_bind (wpAny_of_eq (show letOwnedTupleGo (.Name y py) it v = pure () from rfl) ?_)
    exact wpAny_bind (wpAny_mono h₁ (fun _ s₂ h₂ => wpAny_bind (wpAny_bind (wpAny_mono h₂ (fun x s₃ h₃ => wpAny_bind (wpAny_mono h₃
      (fun _ s₄ h₄ => wpAny_pure (wpAny_pure ⟨rfl, h₄⟩)) fun _ _ h' => h')) fun _ _ h' => h'))) fun _ _ h' => h')
/-- the outer block's loop -/
theorem comp_out {elt i1 i2 : PySem.Expr} {elts : List PySem.Expr} {x1} {tp : Pos} {t2 : PySem.Expr} {scope : Scope} {pos : Pos} {it acc : Value} {R : Result → Shared → Prop} (I : Nat → Shared → Prop) (hs : ∀ x, foldedSetIterable i2 env x = pure x)
    (turn : ∀ n s, I n s → ∀ EE : Value → Shared → Prop, wpAny (model prog w) A (pyNext it) (fun r s₁ => match r with
      | none => R (.ok .next) s₁
      | some v => wpAny (model prog w) A (letOwnedTupleGo (.Tuple elts x1 tp) it v) (fun _ s₁' => wpAny (model prog w) A (assign (.Tuple elts x1 tp) env v) (fun _ s₂ => wpAny (model prog w) A (eval i2 env) (fun x s₃ =>
          wpAny (model prog w) A (pyIter x) (fun j s₄ => codeAny (model prog w) A (.compStart (.ListComp elt [⟨.Tuple elts x1 tp, i1, [], 0⟩, ⟨t2, i2, [], 0⟩] scope pos) 1 j acc env)
            (fun r s₅ => r = .ok .next ∧ ∃ m, m < n ∧ I m s₅) s₄) EE s₃) EE s₂) EE s₁') EE s₁) EE s)
    (n : Nat) (h : I n s) : codeAny (model prog w) A (.compLoop (.ListComp elt [⟨.Tuple elts x1 tp, i1, [], 0⟩, ⟨t2, i2, [], 0⟩] scope pos) 0 it acc env) R s := by
  refine codeAny_loop rfl I (fun n s hI => ?_) n h
  show wpAny _ A ((compTurn (.ListComp elt [⟨.Tuple elts x1 tp, i1, [], 0⟩, ⟨t2, i2, [], 0⟩] scope pos) 0 it acc env).onRaise (fun x => do noteFrame x env; theTreesLotGoes x)) _ _ s
  refine wpAny_noted ?_
  rw [compTurn_two]
  refine wpAny_bind (wpAny_standAt (wpAny_bind (wpAny_mono (turn n s hI _) (fun r s₁ h₁ => ?_) fun _ _ h' => h')))
  cases r with
  | none => exact wpAny_pure h₁
  | some v =>
    refine wpAny_bind (wpAny_mono h₁ (fun _ s₁' h₁' => ?_) fun _ _ h' => h')
    refine wpAny_bind (wpAny_mono h₁' (fun _ s₂ h₂ => ?_) fun _ _ h' => h')
    refine wpAny_bind (wpAny_mono h₂ (fun x s₃ h₃ => ?_) fun _ _ h' => h')
    refine wpAny_bind (wpAny_standAt (wpAny_bind (wpAny_of_eq (hs x) ?_)))
    refine wpAny_bind (wpAny_holding (wpAny_mono h₃ (fun j s₄ h₄ => ?_) fun _ _ h' => h'))
    refine wpAny_bind (wpAny_runOwn (codeAny_mono h₄ fun r s₅ h₅ => ?_))
    obtain ⟨rfl, h₅⟩ := h₅
    exact wpAny_pure ⟨rfl, h₅⟩
theorem comp_start1 {elt t1 i1 t2 i2 : PySem.Expr} {scope : Scope} {pos : Pos} {it acc : Value} {R : Result → Shared → Prop}
    (h0 : codeAny (model prog w) A (.compLoop (.ListComp elt [⟨t1, i1, [], 0⟩, ⟨t2, i2, [], 0⟩] scope pos) 1 it acc env) R s)
    (h : ∀ EE : Value → Shared → Prop, wpAny (model prog w) A (pyIter it) (fun it' s' => codeAny (model prog w) A (.compLoop (.ListComp elt [⟨t1, i1, [], 0⟩, ⟨t2, i2, [], 0⟩] scope pos) 1 it' acc env) R s') EE s) :
    codeAny (model prog w) A (.compStart (.ListComp elt [⟨t1, i1, [], 0⟩, ⟨t2, i2, [], 0⟩] scope pos) 1 it acc env) R s := by
  refine codeAny_of_tree ?_
  show wpAny _ _ ((compStart (.ListComp elt [⟨t1, i1, [], 0⟩, ⟨t2, i2, [], 0⟩] scope pos) 1 it acc env).onRaise (fun x => do noteFrame x env; standAt theWindowsPlace)) _ _ s
  refine wpAny_notedAt ?_
  unfold compStart
  show wpAny _ _ (ask >>= _) _ _ s
  refine wpAny_bind (wpAny_askSetting (wpAny_ite ?_))
  split
  · first
      | exact wpAny_bind (wpAny_pure (wpAny_pure (And.intro rfl h0)))
      | exact wpAny_pure (And.intro rfl h0)
  · first
      | exact wpAny_bind (wpAny_rule (wpAny_bind (wpAny_standAt (wpAny_bind (wpAny_mono (h _) (fun it' s' h' => wpAny_pure (And.intro rfl h')) fun _ _ x => x)))))
      | (refine wpAny_bind (wpAny_rule ?_); show wpAny _ _ (standAt i2.pos >>= _) _ _ s; exact wpAny_bind (wpAny_standAt (wpAny_bind (wpAny_mono (h _) (fun it' s' h' => wpAny_pure (And.intro rfl h')) fun _ _ x => x))))
end
end Mine
end
section
set_option maxRecDepth 100000
set_option maxHeartbeats 4000000
namespace Mine
open PySem PySem.W PyProof.Rows PySem.Calls PySem.Spec
open PyProof.Rows.LCg
def Off4 (I I₂ C D : Addr) (l : List (Addr × Obj)) : Prop := ∀ p ∈ l, p.1 ≠ I ∧ p.1 ≠ I₂ ∧ p.1 ≠ C ∧ p.1 ≠ D
/-- how an element's evaluation ends -/
def End4 (h₀ : Heap) (L : Addr) (m : Str → Option Value) (s₁ : Shared) (I : Addr) (oI : Obj) (I₂ : Addr) (oJ : Obj) (C : Addr) (oC : Obj) (D : Addr) (oD : Obj) (rest : Value → List (Addr × Obj) → Prop) (y : Value) (s₂ : Shared) : Prop :=
  ∃ h' tk news', s₂ = { s₁ with heap := h', toks := tk } ∧ Fr h₀ L h' m ∧ News h₀ L h' ((I, oI) :: (I₂, oJ) :: (C, oC) :: (D, oD) :: news') ∧ Off4 I I₂ C D news' ∧ rest y news'
section
variable {prog : Program} {w : World} {A : Around} {E : Value → Shared → Prop} {s : Shared} {env : Env} {h₀ : Heap} {L : Addr} {m : Str → Option Value}
theorem strNext (hh : A.handled = none) (f : Str) (tf : Tok) {Q : Value → Shared → Prop}
    (hQ : ∀ (ty : String) (o : Obj), (s.heap.push o).IsStrIter s.heap.objs.size ty f tf 0 →
      (∀ (s' : Shared) (j c : Nat) (R : Option Value → Shared → Prop) (E' : Value → Shared → Prop), s'.heap.IsStrIter s.heap.objs.size ty f tf j → f.cps[j]? = some c →
        (∀ h', h'.IsStrIter s.heap.objs.size ty f tf (j + 1) → Heap.SameBut s.heap.objs.size s'.heap h' → R (some (.str ⟨#[c]⟩ s'.toks)) { s' with heap := h', toks := s'.toks + 1 }) → wpAny (model prog w) A (pyNext (.ref s.heap.objs.size)) R E' s') →
      Walks prog w A s.heap.objs.size [s.heap.objs.size] [s.heap.objs.size] f.cps.size (SignAt f) (fun i h => h.IsStrIter s.heap.objs.size ty f tf i) →
      Q (.ref s.heap.objs.size) { s with heap := s.heap.push o }) : wpAny (model prog w) A (pyIter (.str f tf)) Q E s := by
  cases ha : f.cps.all (· < 128)
  · exact wpAny_pyIter_wide ha (hQ _ _ ⟨_, Heap.get?_push_size _ rfl, rfl, rfl⟩ (fun s' j c R E' hi hc hR => wpAny_pyNext_wide_item hi hc hR) (Walks.strWide hh _ f tf))
  · exact wpAny_pyIter_ascii ha (hQ _ _ ⟨_, Heap.get?_push_size _ rfl, rfl, rfl⟩ (fun s' j c R E' hi hc hR => wpAny_pyNext_ascii_item hi hc hR) (Walks.strAscii hh _ f tf))

/-- [elt for x, x₂ in ax for y in x₂]: J i j ys nx is what holds ahead of the j-th sign of the i-th pair -/
theorem block2 {elt i1 : PySem.Expr} {x x₂ y : Str} {px px₂ py pz tp : Pos} {tk₀} {scope : Scope} {cl : List (Str × Addr)} {pos : Pos} {s₂ : Shared} {I ax : Addr} {vs : List Value} {nn : Nat} {ws : List (Str × Str)} {news : List (Addr × Obj)}
    (J : Nat → Nat → List Value → List (Addr × Obj) → Prop) {RR : Value → Addr → Result → Shared → Prop}
    (hws : vs.length = ws.length)
    (hJ : ∀ i j ys nx, J i j ys nx → ys.length ≤ sizeLine ∧ (ax, listOf (List.toArray vs) nn) ∈ nx ∧ ∀ (k : Nat) (p : Str × Str), ws[k]? = some p → ∃ (T : Addr) (n : Nat) (t u : Tok), vs[k]? = some (Value.ref T) ∧ (T, ({ cls := .type "tuple", data := .seq (List.toArray [Value.str p.1 t, Value.str p.2 u]) n } : Obj)) ∈ nx)
    (hnext : ∀ i p ys nx, ws[i]? = some p → J i p.2.cps.size ys nx → J (i + 1) 0 ys nx)
    (hcell : ∀ y ∈ scope.names, y.2 ≠ .cell) (hkind : scope.kind = .function) (hx : scope.names.lookup x = some .local) (hx₂ : scope.names.lookup x₂ = some .local) (hy : scope.names.lookup y = some .local) (hxx : x ≠ x₂) (hxy : x ≠ y) (hxy₂ : x₂ ≠ y) (hdb : (x₂ == ("__debug__" : Str)) = false)
    (hh : A.handled = none) (hit : s₂.heap.IsListIter I ax 0)
    (F : Fr h₀ L s₂.heap m) (N : News h₀ L s₂.heap news) (hIL : L ≠ I) (hI₀ : h₀.get? I = none) (off : ∀ p ∈ news, p.1 ≠ I) (hj0 : J 0 0 [] news) (htk : 0 ≤ s₂.toks)
    (turn : ∀ i j p c tt tf u ys nx I oI I₂ oJ C oC D m₂ h tk (E' : Value → Shared → Prop), ws[i]? = some p → p.2.cps[j]? = some c → J i j ys nx → NsObj oC m₂ → m₂ x = some (.str p.1 tt) → m₂ x₂ = some (.str p.2 tf) → m₂ y = some (.str ⟨#[c]⟩ u) → 1 ≤ u → u < tk →
      Fr h₀ L h m → News h₀ L h ((I, oI) :: (I₂, oJ) :: (C, oC) :: (D, lst ys) :: nx) → Off4 I I₂ C D nx →
      wpAny (model prog w) A (eval elt (compEnvC scope cl C env)) (End4 h₀ L m { s₂ with heap := h, toks := tk } I oI I₂ oJ C oC D (lst ys) (fun v nx' => J i (j + 1) (ys ++ [v]) nx')) E' { s₂ with heap := h, toks := tk })
    (hRR : ∀ D C h tk m' ys nx, Fr h₀ L h m → News h₀ L h ((D, lst ys) :: nx) → Off1 D nx → h.Ns C m' → h₀.get? C = none → h₀.get? D = none → C ≠ L → D ≠ L → C ≠ D → (∀ p ∈ nx, p.1 ≠ C) → J ws.length 0 ys nx → RR (.ref D) C (.ok .next) { s₂ with heap := h, toks := tk }) :
    wpAny (model prog w) A (newList []) (fun acc s₃ => wpAny (model prog w) A (newFunctionEnv scope env.globals cl [] env.qual none .none (some env)) (fun cenv s₄ =>
      codeAny (model prog w) A (.compStart (.ListComp elt [⟨.Tuple [.Name x px, .Name x₂ px₂] tk₀ tp, i1, [], 0⟩, ⟨.Name y py, .Name x₂ pz, [], 0⟩] scope pos) 0 (.ref I) acc { cenv with scope := relabel scope env }) (RR acc cenv.locals) s₄) E s₃) E s₂ := by
  refine wpAny_newObj_type (wpAny_newFunctionEnv hcell (by intro y hy; simp at hy) (fun h₁ hns₁ hsb₁ => ?_) hkind)
  dsimp only at hns₁ hsb₁ ⊢
  generalize hH2 : s₂.heap.push { cls := .type "list", dict := none, data := .seq ([] : List Value).toArray } = H2 at hns₁ hsb₁ ⊢
  have hC : H2.objs.size = s₂.heap.objs.size + 1 := by rw [← hH2, Heap.size_push]
  have hDC : s₂.heap.objs.size ≠ H2.objs.size := by rw [hC]; exact Nat.ne_of_lt (Nat.lt_succ_self _)
  have below : ∀ b, b < s₂.heap.objs.size → b ≠ H2.objs.size ∧ b ≠ s₂.heap.objs.size := fun b hb => ⟨by rw [hC]; exact Nat.ne_of_lt (Nat.lt_succ_of_lt hb), Nat.ne_of_lt hb⟩
  have hIlt : I < s₂.heap.objs.size := by obtain ⟨o, ho, _⟩ := hit; exact Heap.lt_size ho
  have old : ∀ b o, s₂.heap.get? b = some o → h₁.get? b = some o := fun b o e => hsb₁.extBut b o (below b (Heap.lt_size e)).1 (Heap.get?_push_of_some _ (hH2 ▸ Heap.get?_push_of_some _ e))
  have hacc : h₁.get? s₂.heap.objs.size = some (lst []) := hsb₁.extBut _ _ hDC (Heap.get?_push_of_some _ (hH2 ▸ Heap.get?_push_size _ rfl))
  have fresh : ∀ a, s₂.heap.objs.size ≤ a → s₂.heap.get? a = none := fun a ha => by
    cases e : s₂.heap.get? a with
    | none => rfl
    | some o' => exact absurd (Heap.lt_size e) (Nat.not_lt.mpr ha)
  have fresh₀ : ∀ a, s₂.heap.objs.size ≤ a → h₀.get? a = none := fun a ha => by
    cases e : h₀.get? a with
    | none => rfl
    | some o' => have := F.keep a o' e; rw [fresh a ha] at this; cases this
  have hD₀ : h₀.get? s₂.heap.objs.size = none := fresh₀ _ (Nat.le_refl _)
  have hC₀ : h₀.get? H2.objs.size = none := fresh₀ _ (by rw [hC]; exact Nat.le_succ _)
  have hLlt : L < s₂.heap.objs.size := F.ns.lt
  have hDL : s₂.heap.objs.size ≠ L := Ne.symm (below L hLlt).2
  have hCL : H2.objs.size ≠ L := Ne.symm (below L hLlt).1
  have hCI : I ≠ H2.objs.size := (below I hIlt).1
  have hDI : I ≠ s₂.heap.objs.size := (below I hIlt).2
  generalize hDD : s₂.heap.objs.size = D at *
  generalize hCC : H2.objs.size = C at *
  have hK : (compEnvC scope cl C env).locals = C := rfl
  have loop : ∀ s₃ : Shared, s₃ = { s₂ with heap := h₁, toks := s₂.toks + ([] : List (Str × Value)).length } →
      codeAny (model prog w) A (.compLoop (.ListComp elt [⟨.Tuple [.Name x px, .Name x₂ px₂] tk₀ tp, i1, [], 0⟩, ⟨.Name y py, .Name x₂ pz, [], 0⟩] scope pos) 0 (.ref I) (.ref D) (compEnvC scope cl C env))
        (RR (.ref D) C) s₃ := by
    rintro s₃ rfl
    refine comp_out
      (fun k s' => ∃ h' tk i ys m' nx, s' = { s₂ with heap := h', toks := tk } ∧ i ≤ ws.length ∧ k = ws.length + 1 - i ∧ h'.IsListIter I ax i ∧ Fr h₀ L h' m ∧ h'.Ns C m' ∧ News h₀ L h' ((D, lst ys) :: nx) ∧
        (∀ p ∈ nx, p.1 ≠ I ∧ p.1 ≠ C ∧ p.1 ≠ D) ∧ 0 ≤ tk ∧ J i 0 ys nx) (fun _ => rfl) ?_ (ws.length + 1)
      ⟨h₁, _, 0, [], _, news, rfl, Nat.zero_le _, rfl, hit.at fun o e => old _ o e, F.keeps old, hns₁, fun p hp => ?_, fun p hp => ⟨off p hp, (below _ (Nat.lt_of_lt_of_eq (Heap.lt_size (N p hp).1) hDD)).1, (below _ (Nat.lt_of_lt_of_eq (Heap.lt_size (N p hp).1) hDD)).2⟩, Nat.le_trans htk (Nat.le_add_right _ _), hj0⟩
    · rintro k s' ⟨h', tk, i, ys, m', nx, rfl, hi, rfl, hit', F', hn', N', off', htk', hJ'⟩ EE
      obtain ⟨hlen, hax, htup⟩ := hJ _ _ _ _ hJ'
      have hls : h'.IsList ax (List.toArray vs) := ⟨_, (N' _ (List.mem_cons_of_mem _ hax)).1, rfl, nn, rfl⟩
      have haxI : ax ≠ I := (off' _ hax).1
      by_cases hlt : i < ws.length
      · obtain ⟨p, hp⟩ : ∃ p, ws[i]? = some p := ⟨ws[i], List.getElem?_eq_getElem hlt⟩
        obtain ⟨T, nT, tt, tf, hvT, hmT⟩ := htup i p hp
        refine wpAny_pyNext_list_item hit' hls (x := .ref T) (by simpa using hvT) fun h₂ hit₂ hs₂ => ?_
        have hk₂ : ∀ b o, b ∉ [I] → h'.get? b = some o → h₂.get? b = some o := fun b o hb e => hs₂.extBut b o (fun q => hb (by simp [q])) e
        have N₂ : News h₀ L h₂ ((D, lst ys) :: nx) := news_but N' hk₂ fun p hp => by
          rcases List.mem_cons.mp hp with rfl | hp
          · exact Ne.symm hDI
          · exact (off' p hp).1
        have ht : IsTup h₂ T (List.toArray [Value.str p.1 tt, Value.str p.2 tf]) := ⟨_, (N₂ _ (List.mem_cons_of_mem _ hmT)).1, rfl, nT, rfl⟩
        refine wpAny_letOwnedTupleGo_listiter hit₂ ?_
        refine assign_Tuple_tuple hh ht rfl rfl fun h₅ he => ?_
        have he' : ∀ b o, h₂.get? b = some o → h₅.get? b = some o := fun b o e => he b o (Nat.ne_of_lt (Heap.lt_size e)) e
        refine assignInOrder_cons (wpAny_assign_Name (wpAny_storeName_local (lookup_relabel_local hx) ((hn'.at' fun o e => hk₂ _ o (by simpa using Ne.symm hCI) e).at' fun o e => he' _ o e) (fun h₆ hn₆ hs₆ => ?_) (by simp [compEnvC, relabel, hkind])))
        refine assignInOrder_cons (wpAny_assign_Name (wpAny_storeName_local (lookup_relabel_local hx₂) hn₆ (fun h₃ hn₃ hs₃ => ?_) (by simp [compEnvC, relabel, hkind])))
        refine assignInOrder_nil ?_
        have old3 : ∀ b o, b ≠ C → h₂.get? b = some o → h₃.get? b = some o := fun b o hb e => hs₃.extBut b o hb (hs₆.extBut b o hb (he' b o e))
        have F₃ : Fr h₀ L h₃ m := (((fr_but F' hk₂ hIL hI₀).keeps he').change hs₆ hCL hC₀).change hs₃ hCL hC₀
        have hit₃ : h₃.IsListIter I ax (i + 1) := hit₂.at fun o e => old3 _ o hCI e
        have N₃ : News h₀ L h₃ ((D, lst ys) :: nx) := fun q hq => by
          have z := N₂ q hq
          refine ⟨old3 _ _ ?_ z.1, z.2⟩
          rcases List.mem_cons.mp hq with rfl | hq
          · exact hDC
          · exact (off' q hq).2.1
        refine wpAny_Name (wpAny_loadName_local (m := _) (by simp [compEnvC, relabel, hkind]) (lookup_relabel_local hx₂) hn₃ (v := .str p.2 tf) (by simp) ?_) hdb
        refine strNext hh p.2 tf fun ty oJ₀ hst₀ hnx W => ?_
        dsimp only at hst₀ hnx W ⊢
        have hI₂L : L ≠ h₃.objs.size := Nat.ne_of_lt F₃.ns.lt
        have hI₂₀ : h₀.get? h₃.objs.size = none := next_is_new F₃
        have up : ∀ b o, h₃.get? b = some o → (h₃.push oJ₀).get? b = some o := fun b o e => Heap.get?_push_of_some _ e
        have hII₂ : I ≠ h₃.objs.size := by obtain ⟨o, ho, _⟩ := hit₃; exact Nat.ne_of_lt (Heap.lt_size ho)
        have hCI₂ : C ≠ h₃.objs.size := Nat.ne_of_lt hn₃.lt
        have hDI₂ : D ≠ h₃.objs.size := Nat.ne_of_lt (Heap.lt_size (N₃ _ List.mem_cons_self).1)
        have hoff₂ : ∀ q ∈ nx, q.1 ≠ h₃.objs.size := fun q hq => Nat.ne_of_lt (Heap.lt_size (N₃ q (List.mem_cons_of_mem _ hq)).1)
        generalize hI₂ : h₃.objs.size = I₂ at *
        have inner : codeAny (model prog w) A (.compLoop (.ListComp elt [⟨.Tuple [.Name x px, .Name x₂ px₂] tk₀ tp, i1, [], 0⟩, ⟨.Name y py, .Name x₂ pz, [], 0⟩] scope pos) 1 (.ref I₂) (.ref D) (compEnvC scope cl C env))
            (fun r s₅ => r = .ok .next ∧ ∃ m₀, m₀ < ws.length + 1 - i ∧ ∃ h' tk i ys m' nx, s₅ = { s₂ with heap := h', toks := tk } ∧ i ≤ ws.length ∧ m₀ = ws.length + 1 - i ∧ h'.IsListIter I ax i ∧ Fr h₀ L h' m ∧ h'.Ns C m' ∧ News h₀ L h' ((D, lst ys) :: nx) ∧
              (∀ p ∈ nx, p.1 ≠ I ∧ p.1 ≠ C ∧ p.1 ≠ D) ∧ 0 ≤ tk ∧ J i 0 ys nx) { s₂ with heap := h₃.push oJ₀, toks := tk + 1 + 1 } := by
          refine comp_in
            (fun k s' => ∃ h' tk j ys m' nx, s' = { s₂ with heap := h', toks := tk } ∧ j ≤ p.2.cps.size ∧ k = p.2.cps.size + 1 - j ∧ h'.IsListIter I ax (i + 1) ∧ h'.IsStrIter I₂ ty p.2 tf j ∧ Fr h₀ L h' m ∧ h'.Ns C m' ∧ m' x = some (.str p.1 tt) ∧ m' x₂ = some (.str p.2 tf) ∧
              News h₀ L h' ((D, lst ys) :: nx) ∧ Off4 I I₂ C D nx ∧ 1 ≤ tk ∧ J i j ys nx) ?_ (p.2.cps.size + 1)
            ⟨_, _, 0, ys, _, nx, rfl, Nat.zero_le _, rfl, hit₃.at fun o e => up _ o e, hst₀, F₃.keeps up, hn₃.at' fun o e => up _ o e, by simp [hxx], by simp, N₃.grown up, fun q hq => ⟨(off' q hq).1, hoff₂ q hq, (off' q hq).2⟩, by omega, hJ'⟩
          rintro k s' ⟨h', tk, j, ys, m', nx, rfl, hj, rfl, hit', hst', F', hn', hmx, hmx₂, N', off', htk', hJ'⟩ EE
          by_cases hjl : j < p.2.cps.size
          · obtain ⟨c, hc⟩ : ∃ c, p.2.cps[j]? = some c := ⟨p.2.cps[j], Array.getElem?_eq_getElem hjl⟩
            refine hnx _ j c _ _ hst' hc fun h₇ hst₇ hs₇ => ?_
            dsimp only at hst₇ hs₇ ⊢
            have hk₇ : ∀ b o, b ∉ [I₂] → h'.get? b = some o → h₇.get? b = some o := fun b o hb e => hs₇.extBut b o (fun q => hb (by simp [q])) e
            have N₇ : News h₀ L h₇ ((D, lst ys) :: nx) := news_but N' hk₇ fun q hq => by
              rcases List.mem_cons.mp hq with rfl | hq
              · exact hDI₂
              · exact (off' q hq).2.1
            refine wpAny_assign_Name (wpAny_storeName_local (lookup_relabel_local hy) (hn'.at' fun o e => hk₇ _ o (by simpa using hCI₂) e) (fun h₈ hn₈ hs₈ => ?_) (by simp [compEnvC, relabel, hkind]))
            have hit₈ : h₈.IsListIter I ax (i + 1) := hit'.at fun o e => hs₈.extBut _ o hCI (hk₇ _ o (by simpa using hII₂) e)
            have hst₈ : h₈.IsStrIter I₂ ty p.2 tf (j + 1) := hst₇.extBut hs₈.extBut (Ne.symm hCI₂)
            obtain ⟨oI, heI, hoI⟩ := hit₈
            obtain ⟨oJ, heJ, hoJ⟩ := hst₈
            obtain ⟨oC, heC, hoC⟩ := ns_obj hn₈
            have F₈ : Fr h₀ L h₈ m := (fr_but F' hk₇ hI₂L hI₂₀).change hs₈ hCL hC₀
            have N₈ : News h₀ L h₈ ((I, oI) :: (I₂, oJ) :: (C, oC) :: (D, lst ys) :: nx) := fun q hq => by
              rcases List.mem_cons.mp hq with rfl | hq
              · exact ⟨heI, Ne.symm hIL, hI₀⟩
              · rcases List.mem_cons.mp hq with rfl | hq
                · exact ⟨heJ, Ne.symm hI₂L, hI₂₀⟩
                · rcases List.mem_cons.mp hq with rfl | hq
                  · exact ⟨heC, hCL, hC₀⟩
                  · have z := N₇ q hq
                    refine ⟨hs₈.extBut _ _ ?_ z.1, z.2⟩
                    rcases List.mem_cons.mp hq with rfl | hq
                    · exact hDC
                    · exact (off' q hq).2.2.1
            refine wpAny_with_toks (n := tk + 1) (Nat.le_succ _) ?_
            refine wpAny_mono (turn i j p c tt tf tk ys nx I oI I₂ oJ C oC D _ h₈ _ _ hp hc hJ' hoC (by simp [hxy, hmx]) (by simp [hxy₂, hmx₂]) (by simp) htk' (Nat.lt_succ_of_lt (Nat.lt_succ_self _)) F₈ N₈ off') (fun v s₄ h₄ hle => ?_) (fun _ _ e _ => e)
            obtain ⟨h₄, tk₄, nx₄, rfl, F₄, N₄, off₄, hJ₄⟩ := h₄
            have zI := (N₄ (I, oI) List.mem_cons_self).1
            have zJ := (N₄ (I₂, oJ) (List.mem_cons_of_mem _ List.mem_cons_self)).1
            have zC := (N₄ (C, oC) (List.mem_cons_of_mem _ (List.mem_cons_of_mem _ List.mem_cons_self))).1
            have zD := (N₄ (D, lst ys) (List.mem_cons_of_mem _ (List.mem_cons_of_mem _ (List.mem_cons_of_mem _ List.mem_cons_self)))).1
            have N₄' : News h₀ L h₄ nx₄ := fun p hp => N₄ p (List.mem_cons_of_mem _ (List.mem_cons_of_mem _ (List.mem_cons_of_mem _ (List.mem_cons_of_mem _ hp))))
            have hl₄ : ys.length ≤ sizeLine := Nat.le_trans (by simp) (hJ _ _ _ _ hJ₄).1
            refine append_at (hsz := by show ys.toArray.size ≤ sizeLine; rw [List.size_toArray]; exact hl₄) zD fun h₅ hs₅ hD₅ => ?_
            refine ⟨p.2.cps.size + 1 - (j + 1), by omega, h₅, tk₄, j + 1, ys ++ [v], _, nx₄, rfl, hjl, rfl, ⟨oI, hs₅.extBut _ _ hDI zI, hoI⟩, ⟨oJ, hs₅.extBut _ _ (Ne.symm hDI₂) zJ, hoJ⟩, F₄.change hs₅ hDL hD₀,
              (hoC.ns zC).sameBut hs₅ (Ne.symm hDC), (by simp [hxy, hmx]), (by simp [hxy₂, hmx₂]), fun q hq => ?_, off₄, Nat.le_trans (by omega) hle, hJ₄⟩
            rcases List.mem_cons.mp hq with rfl | hq
            · exact ⟨hD₅.trans (congrArg some (lst_snoc ys v)), hDL, hD₀⟩
            · exact ⟨hs₅.extBut _ _ (off₄ q hq).2.2.2 (N₄' q hq).1, (N₄' q hq).2⟩
          · obtain rfl : j = p.2.cps.size := Nat.le_antisymm hj (Nat.not_lt.mp hjl)
            refine wpAny_with_toks (n := tk) (Nat.le_refl _) ?_
            refine W.done _ _ _ hst' fun h₉ tk₉ hk₉ hle => ?_
            refine ⟨rfl, ws.length + 1 - (i + 1), by omega, h₉, tk₉, i + 1, ys, m', nx, rfl, hlt, rfl, hit'.at fun o e => hk₉ _ o (by simpa using hII₂) e, fr_but F' hk₉ hI₂L hI₂₀, hn'.at' fun o e => hk₉ _ o (by simpa using hCI₂) e, news_but N' hk₉ fun q hq => ?_, fun q hq => ⟨(off' q hq).1, (off' q hq).2.2⟩, Nat.zero_le _, hnext _ _ _ _ hp hJ'⟩
            rcases List.mem_cons.mp hq with rfl | hq
            · exact hDI₂
            · exact (off' q hq).2.1
        exact comp_start1 inner fun EE => W.self 0 _ _ _ hst₀ inner
      · obtain rfl : i = ws.length := Nat.le_antisymm hi (Nat.not_lt.mp hlt)
        refine wpAny_pyNext_list_end hh hit' hls (by simp [hws]) fun h₂ he₂ => ?_
        have hk₂ : ∀ b o, b ∉ [I] → h'.get? b = some o → h₂.get? b = some o := fun b o hb e => he₂ b o (fun q => hb (by simp [q])) e
        exact hRR _ _ h₂ tk _ ys nx (fr_but F' hk₂ hIL hI₀) (news_but N' hk₂ fun p hp => by
          rcases List.mem_cons.mp hp with rfl | hp
          · exact Ne.symm hDI
          · exact (off' p hp).1) (Off3.of off').one (hn'.at' fun o e => hk₂ _ o (by simpa using Ne.symm hCI) e) hC₀ hD₀ hCL hDL (Ne.symm hDC) (fun p hp => (off' p hp).2.1) hJ'
    · rcases List.mem_cons.mp hp with rfl | hp
      · exact ⟨hacc, hDL, hD₀⟩
      · exact ⟨old _ _ (N p hp).1, (N p hp).2⟩
  have hst₁ : h₁.IsListIter I ax 0 := hit.at fun o e => old _ o e
  exact codeAny_compStart_list (loop _ rfl) (wpAny_pyIter_listiter hst₁ (loop _ rfl))
end
end Mine
end
section
set_option maxRecDepth 100000
set_option maxHeartbeats 4000000
namespace Mine
open PySem PySem.W PyProof.Rows PySem.Calls PySem.Spec
open PyProof.Rows.LCg PyProof.Rows.LCp
def End3 (h₀ : Heap) (L : Addr) (m : Str → Option Value) (s₁ : Shared) (I : Addr) (oI : Obj) (C : Addr) (oC : Obj) (D : Addr) (oD : Obj) (rest : Value → List (Addr × Obj) → Prop) (y : Value) (s₂ : Shared) : Prop :=
  ∃ h' tk news', s₂ = { s₁ with heap := h', toks := tk } ∧ Fr h₀ L h' m ∧ News h₀ L h' ((I, oI) :: (C, oC) :: (D, oD) :: news') ∧ Off3 I C D news' ∧ rest y news'
section
variable {prog : Program} {w : World} {A : Around} {E : Value → Shared → Prop} {s : Shared} {env : Env} {h₀ : Heap} {L : Addr} {m : Str → Option Value}
/-- an invariant of a one-clause comprehension over pairs -/
structure J1C (prog : Program) (w : World) (A : Around) (h₀ : Heap) (L : Addr) (m : Str → Option Value) (env : Env) (elt : PySem.Expr) (x x₂ : Str) (scope : Scope) (cl : List (Str × Addr)) (s : Shared) (ax : Addr) (vs : List Value) (nn : Nat) (ws : List (Str × Str)) (J : Nat → List Value → List (Addr × Obj) → Prop) : Prop where
  lens : vs.length = ws.length
  has : ∀ i ys nx, J i ys nx → (ax, listOf (List.toArray vs) nn) ∈ nx ∧ ∀ (k : Nat) (p : Str × Str), ws[k]? = some p → ∃ (T : Addr) (n : Nat) (t u : Tok), vs[k]? = some (Value.ref T) ∧ (T, ({ cls := .type "tuple", data := .seq (List.toArray [Value.str p.1 t, Value.str p.2 u]) n } : Obj)) ∈ nx
  turn : ∀ i p tt tf ys nx I oI C oC D m₂ h tk (E' : Value → Shared → Prop), ws[i]? = some p → J i ys nx → NsObj oC m₂ → m₂ x = some (.str p.1 tt) → m₂ x₂ = some (.str p.2 tf) →
      Fr h₀ L h m → News h₀ L h ((I, oI) :: (C, oC) :: (D, lst ys) :: nx) → Off3 I C D nx →
      wpAny (model prog w) A (eval elt (compEnvC scope cl C env)) (End3 h₀ L m { s with heap := h, toks := tk } I oI C oC D (lst ys) (fun v nx' => J (i + 1) (ys ++ [v]) nx')) E' { s with heap := h, toks := tk }
theorem restP_all {elt : PySem.Expr} {x x₂ : Str} {scope : Scope} {cl : List (Str × Addr)} {s : Shared} {ax : Addr} {vs : List Value} {nn : Nat} {ws : List (Str × Str)} {J : Nat → List Value → List (Addr × Obj) → Prop} {Fin : List Value → List (Addr × Obj) → Prop} (H : J1C prog w A h₀ L m env elt x x₂ scope cl s ax vs nn ws J) (g : Heap)
    (hfin : ∀ ys nx, J ws.length ys nx → Fin ys nx) : ∀ (k i : Nat) ys nx, i + k = ws.length → J i ys nx →
      CompRestP prog w A h₀ L m env elt x x₂ scope cl { s with heap := g } (SrcAt h₀ ax (List.toArray vs)) (fun i v => (List.toArray vs)[i]? = some v) Fin k i ys nx := by
  intro k
  induction k with
  | zero =>
    intro i ys nx hi hj
    rw [Nat.add_zero] at hi
    subst hi
    exact CompRestP.zero (hfin _ _ hj)
  | succ k ih =>
    intro i ys nx hi hj
    refine CompRestP.succ fun v hv => ?_
    have hlt : i < ws.length := by omega
    obtain ⟨p, hp⟩ : ∃ p, ws[i]? = some p := ⟨ws[i], List.getElem?_eq_getElem hlt⟩
    obtain ⟨hax, ht⟩ := H.has _ _ _ hj
    obtain ⟨T, n, t, u, hT, hm⟩ := ht i p hp
    have ev : v = .ref T := by
      have hv' : vs[i]? = some v := by simpa using hv
      rw [hT] at hv'
      exact (Option.some.inj hv').symm
    subst ev
    refine ⟨T, _, _, _, n, rfl, hm, rfl, rfl, ?_⟩
    intro I oI C oC D m₂ h tk E' hC h1 h2 F N off ne
    refine wpAny_mono (H.turn i p t u ys nx I oI C oC D m₂ h tk E' hp hj hC h1 h2 F N off) (fun y s₂ he => ?_) fun _ _ e => e
    obtain ⟨h', tk', nx', rfl, F', N', off', hj'⟩ := he
    exact ⟨h', tk', nx', rfl, F', N', off', .inr ⟨_, (H.has _ _ _ hj').1, rfl, nn, rfl⟩, ih (i + 1) _ _ (by omega) hj'⟩
theorem Assign_comp1 {elt : PySem.Expr} {x x₂ y z : Str} {px px₂ tp py pz : Pos} {tk₀} {scope : Scope} {cl : List (Str × Addr)} {pos spos : Pos} {Q : Flow → Shared → Prop} {ax : Addr} {vs : List Value} {nn : Nat} {ws : List (Str × Str)} {news : List (Addr × Obj)}
    (J : Nat → List Value → List (Addr × Obj) → Prop) (F : Fr h₀ L s.heap m) (N : News h₀ L s.heap news) (hLe : env.locals = L)
    (hsw : swapsWith (.ListComp elt [⟨.Tuple [.Name x px, .Name x₂ px₂] tk₀ tp, .Name z pz, [], 0⟩] scope pos) (some (.Name y py)) spos.line env = pure true)
    (hclos : closureFor scope env = pure cl) (hcell : ∀ z ∈ scope.names, z.2 ≠ .cell) (hkind : scope.kind = .function)
    (hnames : ∀ z ∈ scope.names, z.2 = .local → scope.names.lookup z.1 = some .local) (hx : scope.names.lookup x = some .local) (hx₂ : scope.names.lookup x₂ = some .local) (hxx : x ≠ x₂)
    (hy : env.kindOf y = some .local) (hp : (env.scope.kind == .class || (env.scope.kind == .module && env.locals != env.globals)) = false)
    (hzk : env.scope.kind = .function) (hz : env.kindOf z = some .local) (hzd : (z == ("__debug__" : Str)) = false) (hmz : m z = some (.ref ax)) (hh : A.handled = none) (hm : (ax, listOf (List.toArray vs) nn) ∈ news) (hsz : vs.length ≤ sizeLine)
    (H : J1C prog w A h₀ L m env elt x x₂ scope cl s ax vs nn ws J) (hj0 : J 0 [] news)
    (done : ∀ D h tk ys nx, J ws.length ys nx → Fr h₀ L h (fun z => if z = y then some (.ref D) else m z) → News h₀ L h ((D, lst ys) :: nx) → Off1 D nx → Q .next { s with heap := h, toks := tk }) :
    wpAny (model prog w) A (exec (.Assign [.Name y py] (.ListComp elt [⟨.Tuple [.Name x px, .Name x₂ px₂] tk₀ tp, .Name z pz, [], 0⟩] scope pos) spos) env) Q E s := by
  have hn : s.heap.Ns env.locals m := hLe ▸ F.ns
  refine LCp.Assign_ListComp_P F hLe hsw hclos hcell hkind hnames hx hx₂ hxx hy hp (wpAny_Name (wpAny_loadName_local hzk hz hn hmz ?_) hzd)
  have hl : (List.toArray vs).size = ws.length := by rw [List.size_toArray]; exact H.lens
  refine LCp.SrcLP.ledger hh F N hm (by rw [List.size_toArray]; exact hsz) fun g => ?_
  rw [hl]
  exact restP_all H g (fun ys nx hj D h tk F' N' o' => done D h tk ys nx hj F' N' o') ws.length 0 [] news (Nat.zero_add _) hj0
theorem Eval_comp1 {elt : PySem.Expr} {x x₂ z : Str} {px px₂ tp pz : Pos} {tk₀} {scope : Scope} {cl : List (Str × Addr)} {pos : Pos} {Q : Value → Shared → Prop} {ax : Addr} {vs : List Value} {nn : Nat} {ws : List (Str × Str)} {news : List (Addr × Obj)}
    (J : Nat → List Value → List (Addr × Obj) → Prop) (F : Fr h₀ L s.heap m) (N : News h₀ L s.heap news) (hLe : env.locals = L)
    (hclos : closureFor scope env = pure cl) (hcell : ∀ z ∈ scope.names, z.2 ≠ .cell) (hkind : scope.kind = .function)
    (hnames : ∀ z ∈ scope.names, z.2 = .local → scope.names.lookup z.1 = some .local) (hx : scope.names.lookup x = some .local) (hx₂ : scope.names.lookup x₂ = some .local) (hxx : x ≠ x₂)
    (hzk : env.scope.kind = .function) (hz : env.kindOf z = some .local) (hzd : (z == ("__debug__" : Str)) = false) (hmz : m z = some (.ref ax)) (hh : A.handled = none) (hm : (ax, listOf (List.toArray vs) nn) ∈ news) (hsz : vs.length ≤ sizeLine)
    (H : J1C prog w A h₀ L m env elt x x₂ scope cl s ax vs nn ws J) (hj0 : J 0 [] news)
    (done : ∀ D h tk ys nx, J ws.length ys nx → Fr h₀ L h m → News h₀ L h ((D, lst ys) :: nx) → Off1 D nx → Q (.ref D) { s with heap := h, toks := tk }) :
    wpAny (model prog w) A (eval (.ListComp elt [⟨.Tuple [.Name x px, .Name x₂ px₂] tk₀ tp, .Name z pz, [], 0⟩] scope pos) env) Q E s := by
  have hn : s.heap.Ns env.locals m := hLe ▸ F.ns
  refine LCp.ListComp_P F hclos hcell hkind hnames hx hx₂ hxx (wpAny_Name (wpAny_loadName_local hzk hz hn hmz ?_) hzd)
  have hl : (List.toArray vs).size = ws.length := by rw [List.size_toArray]; exact H.lens
  refine LCp.SrcLP.ledger hh F N hm (by rw [List.size_toArray]; exact hsz) fun g => ?_
  rw [hl]
  exact restP_all H g (fun ys nx hj D h tk F' N' o' => done D h tk ys nx hj F' N' o') ws.length 0 [] news (Nat.zero_add _) hj0
theorem Assign_comp2 {elt : PySem.Expr} {x x₂ x₃ y z : Str} {px px₂ px₃ tp py pz pq : Pos} {tk₀} {scope : Scope} {cl : List (Str × Addr)} {pos spos : Pos} {Q : Flow → Shared → Prop} {ax : Addr} {vs : List Value} {nn : Nat} {ws : List (Str × Str)} {news : List (Addr × Obj)}
    (J : Nat → Nat → List Value → List (Addr × Obj) → Prop) (F : Fr h₀ L s.heap m) (N : News h₀ L s.heap news) (hLe : env.locals = L)
    (hsw : swapsWith (.ListComp elt [⟨.Tuple [.Name x px, .Name x₂ px₂] tk₀ tp, .Name z pz, [], 0⟩, ⟨.Name x₃ px₃, .Name x₂ pq, [], 0⟩] scope pos) (some (.Name y py)) spos.line env = pure true)
    (hclos : closureFor scope env = pure cl) (hcell : ∀ z ∈ scope.names, z.2 ≠ .cell) (hkind : scope.kind = .function)
    (hnames : ∀ z ∈ scope.names, z.2 = .local → scope.names.lookup z.1 = some .local) (hx : scope.names.lookup x = some .local) (hx₂ : scope.names.lookup x₂ = some .local) (hx₃ : scope.names.lookup x₃ = some .local) (hxx : x ≠ x₂) (hxy : x ≠ x₃) (hxy₂ : x₂ ≠ x₃)
    (hdb : (x₂ == ("__debug__" : Str)) = false)
    (hy : env.kindOf y = some .local) (hp : (env.scope.kind == .class || (env.scope.kind == .module && env.locals != env.globals)) = false)
    (hzk : env.scope.kind = .function) (hz : env.kindOf z = some .local) (hzd : (z == ("__debug__" : Str)) = false) (hmz : m z = some (.ref ax)) (hh : A.handled = none)
    (hws : vs.length = ws.length)
    (hJ : ∀ i j ys nx, J i j ys nx → ys.length ≤ sizeLine ∧ (ax, listOf (List.toArray vs) nn) ∈ nx ∧ ∀ (k : Nat) (p : Str × Str), ws[k]? = some p → ∃ (T : Addr) (n : Nat) (t u : Tok), vs[k]? = some (Value.ref T) ∧ (T, ({ cls := .type "tuple", data := .seq (List.toArray [Value.str p.1 t, Value.str p.2 u]) n } : Obj)) ∈ nx)
    (hnext : ∀ i p ys nx, ws[i]? = some p → J i p.2.cps.size ys nx → J (i + 1) 0 ys nx) (hj0 : J 0 0 [] news) (htk : 0 ≤ s.toks)
    (turn : ∀ i j p c tt tf u ys nx I oI I₂ oJ C oC D m₂ h tk (E' : Value → Shared → Prop), ws[i]? = some p → p.2.cps[j]? = some c → J i j ys nx → NsObj oC m₂ → m₂ x = some (.str p.1 tt) → m₂ x₂ = some (.str p.2 tf) → m₂ x₃ = some (.str ⟨#[c]⟩ u) → 1 ≤ u → u < tk →
      Fr h₀ L h m → News h₀ L h ((I, oI) :: (I₂, oJ) :: (C, oC) :: (D, lst ys) :: nx) → Off4 I I₂ C D nx →
      wpAny (model prog w) A (eval elt (compEnvC scope cl C env)) (End4 h₀ L m { s with heap := h, toks := tk } I oI I₂ oJ C oC D (lst ys) (fun v nx' => J i (j + 1) (ys ++ [v]) nx')) E' { s with heap := h, toks := tk })
    (done : ∀ D h tk ys nx, J ws.length 0 ys nx → Fr h₀ L h (fun z => if z = y then some (.ref D) else m z) → News h₀ L h ((D, lst ys) :: nx) → Off1 D nx → Q .next { s with heap := h, toks := tk }) :
    wpAny (model prog w) A (exec (.Assign [.Name y py] (.ListComp elt [⟨.Tuple [.Name x px, .Name x₂ px₂] tk₀ tp, .Name z pz, [], 0⟩, ⟨.Name x₃ px₃, .Name x₂ pq, [], 0⟩] scope pos) spos) env) Q E s := by
  subst hLe
  rw [exec_Assign_Name_used _ _ _ _ hsw]
  refine wpAny_bind (wpAny_standAt (wpAny_bind ?_))
  show wpAny _ A (do let _ ← comprehension (.ListComp elt [⟨.Tuple [.Name x px, .Name x₂ px₂] tk₀ tp, .Name z pz, [], 0⟩, ⟨.Name x₃ px₃, .Name x₂ pq, [], 0⟩] scope pos) scope env _ (newList []) false (eval (.Name z pz) env) (some (assign (.Name y py) env))) _ _ s
  refine wpAny_bind (wpAny_mono (wpAny_comprehension_free (use := some (assign (.Name y py) env)) (Q := fun _ s' => Q .next s') rfl (fun _ => rfl) hclos hkind hnames
    (wpAny_Name (wpAny_loadName_local hzk hz F.ns hmz ?_) hzd)) (fun _ s' hq => wpAny_pure (wpAny_pure hq)) fun _ _ e => e)
  have hax := (hJ _ _ _ _ hj0).2.1
  have hl : s.heap.IsList ax (List.toArray vs) := ⟨_, (N _ hax).1, rfl, nn, rfl⟩
  have hlt : ax < s.heap.objs.size := by obtain ⟨_, e, _⟩ := hl; exact Heap.lt_size e
  refine wpAny_pyIter_list hl ?_
  have up : ∀ b o, s.heap.get? b = some o → (s.heap.push { cls := .type "list_iterator", data := .fields #[.ref ax, .int 0 0] }).get? b = some o := fun b o e => Heap.get?_push_of_some _ e
  refine block2 J hws hJ hnext hcell hkind hx hx₂ hx₃ hxx hxy hxy₂ hdb hh ⟨_, Heap.get?_push_size _ rfl, rfl, rfl⟩ (F.keeps up) (N.grown up) (Nat.ne_of_lt F.ns.lt) (next_is_new F) (fun p hp => Nat.ne_of_lt (Heap.lt_size (N p hp).1)) hj0 htk turn ?_
  intro D C h' tk m' ys nx F' N' o1 hn hC₀ hD₀ hCL hDL hCD offC fin
  show wpAny _ A (assign (.Name y py) env (.ref D)) _ _ _
  refine wpAny_assign_Name (wpAny_storeName_local hy F'.ns (fun h₂ hn₂ hs₂ => ?_) hp)
  have hL₀ : h₀.get? env.locals = none := Heap.get?_none_of_le F'.above
  have F₂ : Fr h₀ env.locals h₂ (fun z => if z = y then some (.ref D) else m z) := ⟨hn₂, fun b o e => hs₂.extBut b o (fun q => by rw [q, hL₀] at e; cases e) (F'.keep b o e), F'.above⟩
  refine ⟨m', hn.sameBut hs₂ hCL, fun h'' hs'' => done D h'' _ ys nx fin (F₂.change hs'' hCL hC₀) (fun p hp => ?_) o1⟩
  have z : h₂.get? p.1 = some p.2 := hs₂.extBut _ _ (N' p hp).2.1 (N' p hp).1
  refine ⟨hs''.extBut _ _ ?_ z, (N' p hp).2⟩
  rcases List.mem_cons.mp hp with rfl | hp
  · exact Ne.symm hCD
  · exact offC p hp
end
end Mine
end
section
set_option maxRecDepth 100000
set_option maxHeartbeats 4000000
namespace Mine
open PySem PySem.W PyProof.Rows PySem.Calls PySem.Spec
open PyProof.Rows.LCg PyProof.Rows.LCp
abbrev Wy := List Nat × List Nat
def SN (l : List Nat) : Str := ⟨l.toArray⟩
def toP (p : Wy) : Str × Str := (SN p.1, SN p.2)
def toW (p : Wy) : Dat := .tuple [.str (SN p.1), .str (SN p.2)]
def takeW (p : Wy) (c : Nat) : Wy := (p.1 ++ [c - 32], p.2.filter (· != c))
/-- _law_ways's turn -/
def stepW (s : List Wy × Nat) (one : Bool) : List Wy × Nat :=
  if one then (if s.2 < 4 then (s.1.map fun p => (p.1 ++ [97 + s.2], p.2 ++ [97 + s.2]), s.2 + 1) else s)
  else match s.1 with
    | [] => s
    | p :: r => if p.2 = [] then s else ((p :: r).flatMap fun p => p.2.map (takeW p), s.2)
def foldW (bs : List Bool) : List Wy × Nat := bs.foldl stepW ([([], [])], 0)
def subW : Nat → List (List Nat)
  | 0 => [[]]
  | k + 1 => subW k ++ (subW k).map (· ++ [97 + k])
def okW (s : List Wy × Nat) : Bool := !s.1.isEmpty && decide (s.1.length ≤ 24) && decide (s.2 ≤ 4) && s.1.all fun p => decide (p.1.length ≤ 12) && (subW s.2).contains p.2
theorem SN_app (l r : List Nat) : SN l ++ SN r = SN (l ++ r) := by
  show (⟨l.toArray ++ r.toArray⟩ : Str) = _
  unfold SN
  congr 1
  simp
theorem SN_len (l : List Nat) : (SN l).length = l.length := by simp [SN, Str.length]
theorem sub_all : ∀ k ≤ 4, ∀ f ∈ subW k, f.length ≤ 4 ∧ ∀ c ∈ f, 97 ≤ c ∧ c ≤ 100 ∧ Txt.upper (SN [c]) = SN [c - 32] ∧ Txt.replace (SN f) (SN [c]) (SN []) = SN (f.filter (· != c)) := by decide +kernel
end Mine
namespace Mine
open PySem PySem.W PyProof.Rows PySem.Calls PySem.Spec
open PyProof.Rows.LCg PyProof.Rows.LCp
theorem storeCell {M : Model} {A : Around} {E : Value → Shared → Prop} {s : Shared} {h₀ : Heap} {L lc : Addr} {m : Str → Option Value} {env : Env} {x : Str} {v : Value} {oc : Obj} {cv : Option Value} {rest : List (Addr × Obj)} {Q : Unit → Shared → Prop} (F : Fr h₀ L s.heap m) (N : News h₀ L s.heap ((lc, oc) :: rest)) (ho : ∀ p ∈ rest, p.1 ≠ lc) (hd : oc.data = .cell cv)
    (hk : env.scope.kind = .function) (hx : env.kindOf x = some .cell) (hc : env.cells.lookup x = some lc) (h : ∀ h' oc', oc'.data = .cell (some v) → Fr h₀ L h' m → News h₀ L h' ((lc, oc') :: rest) → Q () { s with heap := h' }) : wpAny M A (storeName env x v) Q E s := by
  have hmem := N (lc, oc) (.head _)
  refine wpAny_storeName_cell hk hx hc ⟨oc, hmem.1, hd⟩ fun h' hv hs => ?_
  obtain ⟨oc', ho', hd'⟩ := hv
  refine h h' oc' hd' (F.change hs hmem.2.1 hmem.2.2) fun p hp => ?_
  rcases List.mem_cons.mp hp with rfl | hp
  · exact ⟨ho', hmem.2⟩
  · have z := N p (.tail _ hp)
    exact ⟨hs.extBut _ _ (ho p hp) z.1, z.2⟩
theorem wayAt {tl : List (Addr × Obj)} {vs : List Value} {ws : List Wy} (hd : DatAll tl vs (ws.map toW)) {k : Nat} {p : Wy} (hp : ws[k]? = some p) :
    ∃ (T : Addr) (n : Nat) (t u : Tok), vs[k]? = some (Value.ref T) ∧ (T, ({ cls := .type "tuple", data := .seq (List.toArray [Value.str (SN p.1) t, Value.str (SN p.2) u]) n } : Obj)) ∈ tl := by
  obtain ⟨hk, rfl⟩ := List.getElem?_eq_some_iff.mp hp
  obtain ⟨v, hv, hi⟩ := hd.get (k := k) (by rw [List.length_map]; exact hk)
  rw [List.getElem_map] at hi
  unfold toW at hi
  generalize ws[k] = p at hi ⊢
  cases hi with
  | tuple hm hr =>
    cases hr with
    | cons h1 hr =>
      cases hr with
      | cons h2 hr =>
        cases hr
        cases h1
        cases h2
        exact ⟨_, _, _, _, hv, hm⟩
def JC (cst : List (Addr × Obj)) (outs : Nat → List Wy) (i : Nat) (ys : List Value) (nx : List (Addr × Obj)) : Prop :=
  ∃ add, nx = add ++ cst ∧ DatAll add ys ((outs i).map toW) ∧ ∀ p ∈ add, ∀ q ∈ cst, @LT.lt Nat _ q.1 p.1
theorem JC.start {cst : List (Addr × Obj)} {outs : Nat → List Wy} (h : outs 0 = []) : JC cst outs 0 [] cst := ⟨[], rfl, by rw [h]; exact .nil, fun p hp => nomatch hp⟩
theorem JC.has {cst : List (Addr × Obj)} {outs : Nat → List Wy} {D : Addr} {vs : List Value} {nn : Nat} {ws : List Wy} {tl : List (Addr × Obj)} (hm : (D, listOf (List.toArray vs) nn) ∈ cst) (ht : ∀ p ∈ tl, p ∈ cst) (hd : DatAll tl vs (ws.map toW)) :
    ∀ i ys nx, JC cst outs i ys nx → (D, listOf (List.toArray vs) nn) ∈ nx ∧ ∀ (k : Nat) (p : Str × Str), (ws.map toP)[k]? = some p → ∃ (T : Addr) (n : Nat) (t u : Tok), vs[k]? = some (Value.ref T) ∧ (T, ({ cls := .type "tuple", data := .seq (List.toArray [Value.str p.1 t, Value.str p.2 u]) n } : Obj)) ∈ nx := by
  rintro i ys nx ⟨add, rfl, _, _⟩
  refine ⟨List.mem_append_right _ hm, fun k p hp => ?_⟩
  rw [List.getElem?_map] at hp
  cases q : ws[k]? with
  | none => rw [q] at hp; cases hp
  | some r =>
    rw [q] at hp
    cases hp
    obtain ⟨T, n, t, u, h1, h2⟩ := wayAt hd q
    exact ⟨T, n, t, u, h1, List.mem_append_right _ (ht _ h2)⟩
theorem lens {tl : List (Addr × Obj)} {vs : List Value} {ws : List Wy} (hd : DatAll tl vs (ws.map toW)) : vs.length = (ws.map toP).length := by
  rw [hd.length, List.length_map, List.length_map]
theorem ovW {m₀ : Str → Option Value} {a b o o' : Option Value} : (fun y => if y = Str.ofString "one" then o' else ov m₀ [(Str.ofString "ways", a), (Str.ofString "used", b), (Str.ofString "one", o)] y)
    = ov m₀ [(Str.ofString "ways", a), (Str.ofString "used", b), (Str.ofString "one", o')] := by
  funext y
  by_cases h3 : y = Str.ofString "one"
  · subst h3; rfl
  simp only [ov, if_neg h3]
theorem ovW1 {m₀ : Str → Option Value} {a b o a' o' : Option Value} : (fun y => if y = Str.ofString "ways" then a' else if y = Str.ofString "one" then o' else ov m₀ [(Str.ofString "ways", a), (Str.ofString "used", b), (Str.ofString "one", o)] y)
    = ov m₀ [(Str.ofString "ways", a'), (Str.ofString "used", b), (Str.ofString "one", o')] := by
  funext y
  by_cases h1 : y = Str.ofString "ways"
  · subst h1; rfl
  by_cases h3 : y = Str.ofString "one"
  · subst h3; rfl
  simp only [ov, if_neg h1, if_neg h3]
theorem ovW2 {m₀ : Str → Option Value} {a b o a' b' o' : Option Value} : (fun y => if y = Str.ofString "used" then b' else if y = Str.ofString "ways" then a' else if y = Str.ofString "one" then o' else ov m₀ [(Str.ofString "ways", a), (Str.ofString "used", b), (Str.ofString "one", o)] y)
    = ov m₀ [(Str.ofString "ways", a'), (Str.ofString "used", b'), (Str.ofString "one", o')] := by
  funext y
  by_cases h1 : y = Str.ofString "used"
  · subst h1; rfl
  by_cases h2 : y = Str.ofString "ways"
  · subst h2; rfl
  by_cases h3 : y = Str.ofString "one"
  · subst h3; rfl
  simp only [ov, if_neg h1, if_neg h2, if_neg h3]
theorem okW_nonempty {ws : List Wy} {u : Nat} (h : okW (ws, u) = true) : ∃ p r, ws = p :: r := by
  cases ws with
  | nil => simp [okW] at h
  | cons p r => exact ⟨p, r, rfl⟩
theorem okW_len {ws : List Wy} {u : Nat} (h : okW (ws, u) = true) : ws.length ≤ 24 := by
  simp only [okW, Bool.and_eq_true, decide_eq_true_eq] at h
  exact h.1.1.2
theorem okW_used {ws : List Wy} {u : Nat} (h : okW (ws, u) = true) : u ≤ 4 := by
  simp only [okW, Bool.and_eq_true, decide_eq_true_eq] at h
  exact h.1.2
theorem okW_all {ws : List Wy} {u : Nat} (h : okW (ws, u) = true) {k : Nat} {p : Wy} (hp : ws[k]? = some p) : p.1.length ≤ 12 ∧ p.2 ∈ subW u := by
  simp only [okW, Bool.and_eq_true, List.all_eq_true, decide_eq_true_eq] at h
  obtain ⟨hk, rfl⟩ := List.getElem?_eq_some_iff.mp hp
  have := h.2 _ (List.getElem_mem hk)
  exact ⟨this.1, by simpa using this.2⟩
theorem abcd : ∀ k < 4, Txt.item (Str.ofString "abcd") ((k : Nat) : Int) = SN [97 + k] := by decide +kernel
end Mine
namespace Mine
open PySem PySem.W PyProof.Rows PySem.Calls PySem.Spec
open PyProof.Rows.LCg PyProof.Rows.LCp
abbrev tupS (x y : Str) (t u : Tok) : Obj := { cls := .type "tuple", data := .seq (List.toArray [Value.str x t, Value.str y u]) }
theorem JC.put {cst : List (Addr × Obj)} {outs : Nat → List Wy} {i : Nat} {ys : List Value} {add : List (Addr × Obj)} {T : Addr} {r : Wy} {t u : Tok} {pre : List (Addr × Obj)} (hda : DatAll add ys ((outs i).map toW)) (hlt : ∀ p ∈ add, ∀ q ∈ cst, @LT.lt Nat _ q.1 p.1)
    (ho : outs (i + 1) = outs i ++ [r]) (lt : ∀ p ∈ pre ++ (add ++ cst), p.1 < T) : JC cst outs (i + 1) (ys ++ [.ref T]) ((T, tupS (SN r.1) (SN r.2) t u) :: (add ++ cst)) := by
  refine ⟨(T, tupS (SN r.1) (SN r.2) t u) :: add, rfl, ?_, ?_⟩
  · rw [ho, List.map_append]
    refine DatAll.append (hda.mono fun p hp => .tail _ hp) (.one ?_)
    exact .tuple (.head _) (.cons (.str _ _) (.cons (.str _ _) .nil))
  · intro p hp q hq
    rcases List.mem_cons.mp hp with rfl | hp
    · exact lt q (List.mem_append_right _ (List.mem_append_right _ hq))
    · exact hlt p hp q hq
theorem End3.put {h₀ : Heap} {L : Addr} {m : Str → Option Value} {s₁ : Shared} {I C D : Addr} {oI oC oD : Obj} {cst : List (Addr × Obj)} {outs : Nat → List Wy} {i : Nat} {ys : List Value} {add : List (Addr × Obj)} {T : Addr} {r : Wy} {t u : Tok} {h' : Heap} {tk : Nat}
    (F : Fr h₀ L h' m) (N : News h₀ L h' ((T, tupS (SN r.1) (SN r.2) t u) :: (I, oI) :: (C, oC) :: (D, oD) :: (add ++ cst))) (lt : ∀ p ∈ (I, oI) :: (C, oC) :: (D, oD) :: (add ++ cst), p.1 < T) (off : Off3 I C D (add ++ cst))
    (hda : DatAll add ys ((outs i).map toW)) (hlt : ∀ p ∈ add, ∀ q ∈ cst, @LT.lt Nat _ q.1 p.1) (ho : outs (i + 1) = outs i ++ [r]) :
    End3 h₀ L m s₁ I oI C oC D oD (fun v nx' => JC cst outs (i + 1) (ys ++ [v]) nx') (.ref T) { s₁ with heap := h', toks := tk } := by
  refine ⟨h', tk, (T, tupS (SN r.1) (SN r.2) t u) :: (add ++ cst), rfl, F, fun p hp => N p ?_, ⟨⟨?_, ?_, ?_⟩, off⟩, JC.put (pre := [(I, oI), (C, oC), (D, oD)]) hda hlt ho lt⟩
  · simp only [List.mem_cons] at hp ⊢
    rcases hp with h | h | h | h | h <;> simp [h]
  · exact Nat.ne_of_gt (lt (I, oI) (.head _))
  · exact Nat.ne_of_gt (lt (C, oC) (.tail _ (.head _)))
  · exact Nat.ne_of_gt (lt (D, oD) (.tail _ (.tail _ (.head _))))
/-- the second comprehension's invariant -/
def JD2 (cst : List (Addr × Obj)) (outs : Nat → Nat → List Wy) (n : Nat) (i j : Nat) (ys : List Value) (nx : List (Addr × Obj)) : Prop :=
  ys.length ≤ 5 * i + j ∧ j ≤ 4 ∧ i ≤ n ∧ ∃ add, nx = add ++ cst ∧ DatAll add ys ((outs i j).map toW) ∧ ∀ p ∈ add, ∀ q ∈ cst, @LT.lt Nat _ q.1 p.1
theorem JD2.start {cst : List (Addr × Obj)} {outs : Nat → Nat → List Wy} {n : Nat} (h : outs 0 0 = []) : JD2 cst outs n 0 0 [] cst := ⟨Nat.zero_le _, Nat.zero_le _, Nat.zero_le _, [], rfl, by rw [h]; exact .nil, fun p hp => nomatch hp⟩
theorem JD2.has {cst : List (Addr × Obj)} {outs : Nat → Nat → List Wy} {D : Addr} {vs : List Value} {nn : Nat} {ws : List Wy} {tl : List (Addr × Obj)} (hm : (D, listOf (List.toArray vs) nn) ∈ cst) (ht : ∀ p ∈ tl, p ∈ cst) (hd : DatAll tl vs (ws.map toW)) :
    ∀ i j ys nx, JD2 cst outs 24 i j ys nx → ys.length ≤ sizeLine ∧ (D, listOf (List.toArray vs) nn) ∈ nx ∧ ∀ (k : Nat) (p : Str × Str), (ws.map toP)[k]? = some p → ∃ (T : Addr) (n : Nat) (t u : Tok), vs[k]? = some (Value.ref T) ∧ (T, ({ cls := .type "tuple", data := .seq (List.toArray [Value.str p.1 t, Value.str p.2 u]) n } : Obj)) ∈ nx := by
  rintro i j ys nx ⟨h1, h2, h3, add, rfl, h4, h5⟩
  exact ⟨Nat.le_trans (by omega : ys.length ≤ 1000) (by rw [sizeLine_eq]; omega), JC.has hm ht hd i ys _ (outs := fun i => outs i j) ⟨add, rfl, h4, h5⟩⟩
theorem End4.put {h₀ : Heap} {L : Addr} {m : Str → Option Value} {s₁ : Shared} {I I₂ C D : Addr} {oI oJ oC oD : Obj} {cst : List (Addr × Obj)} {outs : Nat → Nat → List Wy} {n i j : Nat} {ys : List Value} {add : List (Addr × Obj)} {T : Addr} {r : Wy} {t u : Tok} {h' : Heap} {tk : Nat}
    (F : Fr h₀ L h' m) (N : News h₀ L h' ((T, tupS (SN r.1) (SN r.2) t u) :: (I, oI) :: (I₂, oJ) :: (C, oC) :: (D, oD) :: (add ++ cst))) (lt : ∀ p ∈ (I, oI) :: (I₂, oJ) :: (C, oC) :: (D, oD) :: (add ++ cst), p.1 < T) (off : Off4 I I₂ C D (add ++ cst))
    (hda : DatAll add ys ((outs i j).map toW)) (hlt : ∀ p ∈ add, ∀ q ∈ cst, @LT.lt Nat _ q.1 p.1) (ho : outs i (j + 1) = outs i j ++ [r]) (h1 : ys.length ≤ 5 * i + j) (h2 : j + 1 ≤ 4) (h3 : i ≤ n) :
    End4 h₀ L m s₁ I oI I₂ oJ C oC D oD (fun v nx' => JD2 cst outs n i (j + 1) (ys ++ [v]) nx') (.ref T) { s₁ with heap := h', toks := tk } := by
  obtain ⟨add', e, hd', hl'⟩ := JC.put (outs := fun j => outs i j) (pre := [(I, oI), (I₂, oJ), (C, oC), (D, oD)]) (t := t) (u := u) hda hlt ho lt
  refine ⟨h', tk, (T, tupS (SN r.1) (SN r.2) t u) :: (add ++ cst), rfl, F, fun p hp => N p ?_, ?_, ⟨by rw [List.length_append, List.length_singleton]; omega, h2, h3, add', e, hd', hl'⟩⟩
  · simp only [List.mem_cons] at hp ⊢
    rcases hp with h | h | h | h | h | h <;> simp [h]
  · intro p hp
    rcases List.mem_cons.mp hp with rfl | hp
    · exact ⟨Nat.ne_of_gt (lt (I, oI) (.head _)), Nat.ne_of_gt (lt (I₂, oJ) (.tail _ (.head _))), Nat.ne_of_gt (lt (C, oC) (.tail _ (.tail _ (.head _)))), Nat.ne_of_gt (lt (D, oD) (.tail _ (.tail _ (.tail _ (.head _)))))⟩
    · exact off p hp
/-- what lies ahead of the j-th sign of the i-th way -/
def outs2 (ws : List Wy) (i j : Nat) : List Wy := ((ws.take i).flatMap fun p => p.2.map (takeW p)) ++ (match ws[i]? with | some p => (p.2.take j).map (takeW p) | none => [])
theorem outs2_zero (ws : List Wy) : outs2 ws 0 0 = [] := by
  unfold outs2
  cases ws <;> rfl
theorem outs2_end (ws : List Wy) : outs2 ws ws.length 0 = ws.flatMap fun p => p.2.map (takeW p) := by
  unfold outs2
  rw [List.take_length, List.getElem?_eq_none (Nat.le_refl _)]
  simp
theorem outs2_next {ws : List Wy} {i : Nat} {p : Wy} (h : ws[i]? = some p) : outs2 ws (i + 1) 0 = outs2 ws i p.2.length := by
  unfold outs2
  rw [h, List.take_add_one, h]
  cases ws[i + 1]? <;> simp
theorem outs2_succ {ws : List Wy} {i j : Nat} {p : Wy} {c : Nat} (h : ws[i]? = some p) (hc : p.2[j]? = some c) : outs2 ws i (j + 1) = outs2 ws i j ++ [takeW p c] := by
  unfold outs2
  rw [h]
  dsimp only
  rw [List.take_add_one, hc]
  simp
theorem take_map_succ {ws : List Wy} {i : Nat} {q : Wy} (g : Wy → Wy) (h : ws[i]? = some q) : (ws.take (i + 1)).map g = (ws.take i).map g ++ [g q] := by
  rw [List.take_add_one, h]
  simp
/-- a comprehension's end: the new ledger of the turn -/
theorem offW {own add tl : List (Addr × Obj)} {lc D D₂ : Addr} {oc oc' o o₂ : Obj} (hoff : OwnOff own (((lc, oc) :: (D, o) :: tl).map (·.1))) (hlt : ∀ p ∈ add, ∀ q ∈ (lc, oc') :: (D, o) :: (tl ++ own), @LT.lt Nat _ q.1 p.1) (h1 : Off1 D₂ (add ++ (lc, oc') :: (D, o) :: (tl ++ own))) :
    OwnOff own (((lc, oc') :: (D₂, o₂) :: (add ++ (D, o) :: tl)).map (·.1)) := by
  have hm : ∀ {l : List (Addr × Obj)}, Off1 D₂ l → ∀ p ∈ l, p.1 ≠ D₂ := by
    intro l
    induction l with
    | nil => intro _ p hp; cases hp
    | cons a l ih =>
      intro x p hp
      rcases List.mem_cons.mp hp with rfl | hp
      · exact x.1
      · exact ih x.2 p hp
  intro p hp b hb
  simp only [List.map_cons, List.map_append, List.mem_cons, List.mem_append] at hb
  rcases hb with rfl | rfl | hb | rfl | hb
  · exact hoff p hp b (by simp)
  · exact hm h1 p (List.mem_append_right _ (.tail _ (.tail _ (List.mem_append_right _ hp))))
  · obtain ⟨q, hq, rfl⟩ := List.mem_map.mp hb
    exact Nat.ne_of_lt (hlt q hq p (.tail _ (.tail _ (List.mem_append_right _ hp))))
  · exact hoff p hp b (by simp)
  · exact hoff p hp b (by simp only [List.map_cons, List.mem_cons]; exact .inr (.inr hb))
theorem lcW {own add tl : List (Addr × Obj)} {lc D D₂ : Addr} {oc' o o₂ : Obj} (hlc : ∀ p ∈ (D, o) :: tl, p.1 ≠ lc) (hlt : ∀ p ∈ add, ∀ q ∈ (lc, oc') :: (D, o) :: (tl ++ own), @LT.lt Nat _ q.1 p.1) (h1 : Off1 D₂ (add ++ (lc, oc') :: (D, o) :: (tl ++ own))) :
    ∀ p ∈ (D₂, o₂) :: (add ++ (D, o) :: tl), p.1 ≠ lc := by
  have hm : ∀ {l : List (Addr × Obj)}, Off1 D₂ l → ∀ p ∈ l, p.1 ≠ D₂ := by
    intro l
    induction l with
    | nil => intro _ p hp; cases hp
    | cons a l ih =>
      intro x p hp
      rcases List.mem_cons.mp hp with rfl | hp
      · exact x.1
      · exact ih x.2 p hp
  intro p hp
  rcases List.mem_cons.mp hp with rfl | hp
  · exact Ne.symm (hm h1 (lc, oc') (List.mem_append_right _ (.head _)))
  rcases List.mem_append.mp hp with hp | hp
  · exact Nat.ne_of_gt (hlt p hp (lc, oc') (.head _))
  · exact hlc p hp
end Mine
end
section
set_option maxRecDepth 100000
set_option maxHeartbeats 400000
namespace Mine
open PySem PySem.W PyProof.Rows PySem.Calls PySem.Spec
open PyProof.Rows.LCg PyProof.Rows.LCp
theorem SN_size (l : List Nat) : (SN l).cps.size = l.length := by simp [SN]
theorem atP {ws : List Wy} {i : Nat} {p : Str × Str} (h : (ws.map toP)[i]? = some p) : ∃ q, ws[i]? = some q ∧ p = toP q := by
  rw [List.getElem?_map] at h
  cases q : ws[i]? with
  | none => rw [q] at h; cases h
  | some r => rw [q] at h; cases h; exact ⟨r, rfl, rfl⟩
theorem JD2.next {cst : List (Addr × Obj)} {ws : List Wy} {used : Nat} (hw : okW (ws, used) = true) : ∀ i (p : Str × Str) ys nx, (ws.map toP)[i]? = some p → JD2 cst (outs2 ws) 24 i p.2.cps.size ys nx → JD2 cst (outs2 ws) 24 (i + 1) 0 ys nx := by
  rintro i p ys nx hp ⟨h1, h2, h3, add, rfl, h4, h5⟩
  obtain ⟨q, hq, rfl⟩ := atP hp
  have e : (toP q).2.cps.size = q.2.length := SN_size q.2
  rw [e] at h1 h2 h4
  have hlt := (List.getElem?_eq_some_iff.mp hq).1
  have hl := okW_len hw
  exact ⟨by omega, Nat.zero_le _, by omega, add, rfl, by rw [outs2_next hq]; exact h4, h5⟩
theorem signAt {q : Wy} {j c : Nat} (h : (toP q).2.cps[j]? = some c) : q.2[j]? = some c := by
  simpa [toP, SN] using h
theorem freeNe {l : List Nat} (h : (SN l != Str.ofString "") = true) : l ≠ [] := by
  rintro rfl
  exact absurd h (by decide +kernel)
theorem freeEq {l : List Nat} (h : (SN l != Str.ofString "") = false) : l = [] := by
  have e : SN l = Str.ofString "" := by
    have := (bne_eq_false_iff_eq (a := SN l) (b := Str.ofString "")).mp h
    exact this
  have e2 := congrArg Str.length e
  rw [SN_len] at e2
  exact List.eq_nil_of_length_eq_zero e2
def JT (cst : List (Addr × Obj)) (ws : List Wy) (i : Nat) (ys : List Value) (nx : List (Addr × Obj)) : Prop := nx = cst ∧ DatAll [] ys ((ws.take i).map fun p => Dat.str (SN p.1))
theorem JT.start {cst : List (Addr × Obj)} {ws : List Wy} : JT cst ws 0 [] cst := ⟨rfl, .nil⟩
theorem JT.has {cst : List (Addr × Obj)} {D : Addr} {vs : List Value} {nn : Nat} {ws : List Wy} {tl : List (Addr × Obj)} (hm : (D, listOf (List.toArray vs) nn) ∈ cst) (ht : ∀ p ∈ tl, p ∈ cst) (hd : DatAll tl vs (ws.map toW)) :
    ∀ i ys nx, JT cst ws i ys nx → (D, listOf (List.toArray vs) nn) ∈ nx ∧ ∀ (k : Nat) (p : Str × Str), (ws.map toP)[k]? = some p → ∃ (T : Addr) (n : Nat) (t u : Tok), vs[k]? = some (Value.ref T) ∧ (T, ({ cls := .type "tuple", data := .seq (List.toArray [Value.str p.1 t, Value.str p.2 u]) n } : Obj)) ∈ nx := by
  rintro i ys nx ⟨rfl, _⟩
  exact JC.has hm ht hd 0 [] _ (outs := fun _ => []) (JC.start rfl)
theorem JT.put {cst : List (Addr × Obj)} {ws : List Wy} {i : Nat} {ys : List Value} {q : Wy} {t : Tok} (hq : ws[i]? = some q) (h : DatAll [] ys ((ws.take i).map fun p => Dat.str (SN p.1))) : JT cst ws (i + 1) (ys ++ [.str (SN q.1) t]) cst := by
  refine ⟨rfl, ?_⟩
  rw [List.take_add_one, hq, Option.toList_some, List.map_append]
  exact h.append (.one (.str _ _))
theorem off1_mem {D : Addr} {l : List (Addr × Obj)} (h : Off1 D l) : ∀ p ∈ l, p.1 ≠ D := by
  induction l with
  | nil => intro p hp; cases hp
  | cons a l ih =>
    intro p hp
    rcases List.mem_cons.mp hp with rfl | hp
    · exact h.1
    · exact ih h.2 p hp
theorem eS : Str.ofString "" = SN [] := by decide +kernel
theorem neS (l : List Nat) : ((SN l).cps.toList != (Str.ofString "").cps.toList) = !l.isEmpty := by
  rw [eS]
  cases l with
  | nil => rfl
  | cons a r => simp [SN]
theorem beqS (c : Nat) : (SN [c] == Str.ofString "") = false := by
  rw [eS]
  refine beq_eq_false_iff_ne.mpr fun h => ?_
  have := congrArg Str.length h
  rw [SN_len, SN_len] at this
  simp at this
end Mine
end
section
set_option maxRecDepth 100000
set_option maxHeartbeats 4000000
namespace Mine
open PySem PySem.W PyProof.Rows PySem.Calls
open PyProof.Rows.LCg PyProof.Rows.LCp
local macro_rules | `(tactic| walk_at "subscriptTail") => `(tactic| ((with_reducible show wpAny _ _ (subscriptTail _ _ (Value.ref _) (Value.int _ _)) _ _ _); first
  | (with_unfolding_all refine' it_l ?k1 ?k2 ?_ ?k3; (case k1 => k_asm); (case k2 => with_reducible assumption); (case k3 => with_unfolding_all rfl); k_whole)
  | ((with_reducible show wpAny _ _ (subscriptTail _ _ (Value.ref _) (Value.int 1 _)) _ _ _); with_unfolding_all refine' it_t1 ?k1 ?k2 ?_ ?k3; (case k1 => k_asm); (case k2 => with_reducible assumption); (case k3 => with_unfolding_all rfl); k_whole)))
def JW (m₀ : Str → Option Value) (lc : Addr) (cst : List (Addr × Obj)) (bs : List Bool) (i : Nat) (m : Str → Option Value) (nx : List (Addr × Obj)) : Prop :=
  ∃ (D : Addr) (vs : List Value) (nn : Nat) (oc : Obj) (cv : Option Value) (tl : List (Addr × Obj)) (ws : List Wy) (used : Nat) (tu : Tok) (u1 : Option Value),
    m = ov m₀ [(Str.ofString "ways", some (.ref D)), (Str.ofString "used", some (.int (used : Nat) tu)), (Str.ofString "one", u1)] ∧ nx = (lc, oc) :: (D, listOf (List.toArray vs) nn) :: tl ∧ (∀ p ∈ cst, p ∈ tl) ∧ (∀ p ∈ (D, listOf (List.toArray vs) nn) :: tl, p.1 ≠ lc) ∧
    oc.data = .cell cv ∧ DatAll tl vs (ws.map toW) ∧ foldW (bs.take i) = (ws, used)
theorem JW.start {m₀ : Str → Option Value} {lc D T : Addr} {oc : Obj} {cst : List (Addr × Obj)} {bs : List Bool} {t u v : Tok} {n : Nat} {cv : Option Value} (h1 : m₀ (Str.ofString "ways") = some (.ref D)) (h2 : m₀ (Str.ofString "used") = some (.int ((0 : Nat) : Int) t))
    (ho : oc.data = .cell cv) (hlc : ∀ p ∈ (D, listOf #[.ref T] 0) :: (T, ({ cls := .type "tuple", data := .seq (List.toArray [Value.str (Str.ofString "") u, Value.str (Str.ofString "") v]) n } : Obj)) :: cst, p.1 ≠ lc) :
    JW m₀ lc cst bs 0 m₀ ((lc, oc) :: (D, listOf #[.ref T] 0) :: (T, ({ cls := .type "tuple", data := .seq (List.toArray [Value.str (Str.ofString "") u, Value.str (Str.ofString "") v]) n } : Obj)) :: cst) := by
  refine ⟨D, [.ref T], 0, oc, cv, _, [([], [])], 0, t, m₀ (Str.ofString "one"), ?_, rfl, fun p hp => .tail _ hp, hlc, ho, ?_, rfl⟩
  · funext z
    simp only [ov]
    rw [ovself rfl, ovself h2, ovself h1]
  · exact .cons (.tuple (n := n) (.head _) (.cons (.str _ _) (.cons (.str _ _) .nil))) .nil
theorem reordW {h₀ h : Heap} {L : Addr} {a b c : Addr × Obj} {r : List (Addr × Obj)} (N : News h₀ L h (a :: b :: c :: r)) : News h₀ L h (c :: a :: b :: r) := fun p hp => N p (by
  simp only [List.mem_cons] at hp ⊢
  rcases hp with h | h | h | h <;> simp [h])
theorem c_ways (w : World) (mean : ExcName → Option Value) (mg mb : Str → Option Value) (l n : Nat) (bs : List Bool) (rest : List (Addr × Obj)) (hbl : bs.length ≤ 12) (hok : ∀ i ≤ 12, okW (foldW (bs.take i)) = true) :
   Ctr 20 w mean mg mb 110 ((l, listOf (List.toArray (bs.map Value.bool)) n) :: rest) [.ref l] (fun v ns => ∃ D ys nn, v = .ref D ∧ ns = (D, listOf (List.toArray ys) nn) :: (l, listOf (List.toArray (bs.map Value.bool)) n) :: rest ∧ DatAll [] ys ((foldW bs).1.map fun p => Dat.str (SN p.1)) ∧ ∀ p ∈ (l, listOf (List.toArray (bs.map Value.bool)) n) :: rest, p.1 ≠ D) := by
  unfold Ctr
  k_fill
  intros; rename_i hret
  refine wpAny_call ?_
  (k_dflt (refine' code_defC ?k1 ?k2 ?k3 ?k4 ?k5 ?kA ?kF ?kK ?k6 ?k7 ?k8 ?k9 ?kB ?kD ?_ ?c2 ?c3 ?c4; (case kA => exact rfl); (case kF => exact rfl); (case kK => first | exact rfl | assumption); (case k1 => k_asm); (case k2 => k_asm); (case k3 => k_asm); (case k4 => k_asm); (case k5 => k_asm); (case k6 => k_is); (case k7 => k_is); (case k8 => ktr_room); (case k9 => exact BindsTo.of_eq rfl); (case kB => exact rfl); (case kD => decide +kernel); (case c2 => exact rfl); (case c3 => exact rfl); (case c4 => exact rfl); k_whole; intro g' L' h' tk' cells' FG' F' N' Y' B' X' T' l1; (try k_lt l1); k_cells Y'; (try simp only [List.cons_append, List.nil_append] at N'); (try dsimp only); (try k_lift B'); (try k_fold)))
  obtain ⟨l1a, l1b⟩ := l1
  (repeat' ((fail_if_success (first | (with_reducible show wpAny _ _ (exec (Stmt.For _ _ _ _ _) _) _ _ _))); first | (k_unfold; (try dsimp only)) | (k_end; kc_close) | walk1 | (dsimp only; walk1) | (leave1; walk_say "STEP leave1"; (try dsimp only)) | fail "no step"))
  ((rename Fr _ _ _ _ => lF'); (with_unfolding_all refine' For_invVF lF' ?k1 ?k2 ?_; (case k1 => exact rfl); (case k2 => exact rfl); k_whole))
  (repeat' ((fail_if_success (first | (with_reducible show wpAny _ _ (pyIter _) _ _ _))); first | (k_unfold; (try dsimp only)) | (k_end; kc_close) | walk1 | (dsimp only; walk1) | (leave1; walk_say "STEP leave1"; (try dsimp only)) | fail "no step"))
  rename (_ ∧ _ ∧ _ ∧ AllLt _ rest) => l3
  obtain ⟨l3a, l3b, l3c, l3d⟩ := l3
  rename (_ ∧ _ ∧ AllLt _ rest) => l2
  obtain ⟨l2a, l2b, l2c⟩ := l2
  (rename Fr _ _ _ _ => Fo); (rename News _ _ _ _ => No)
  refine kdl_iter (JW _ (L' + 1) ((l, listOf (List.toArray (bs.map Value.bool)) n) :: rest) bs) rfl (by k_mem) Fo (reordW No) (JW.start (by rfl) (by rfl) (by assumption) ?_) ?_ ?_
  · intro p hp
    rcases List.mem_cons.mp hp with rfl | hp
    · exact Nat.ne_of_gt (by assumption)
    rcases List.mem_cons.mp hp with rfl | hp
    · exact Nat.ne_of_gt (by assumption)
    rcases List.mem_cons.mp hp with rfl | hp
    · exact Nat.ne_of_lt (Nat.lt_succ_of_lt (by assumption))
    · exact allLt_ne l1b (Nat.le_succ _) p hp
  · rintro i v m₁ nx h tk own hv hoff hmem ⟨D, vs, nn, oc, cv, tl, ws, used, tu, u1, rfl, rfl, hcst, hlc, hoc, hd, hf⟩ F N
    obtain ⟨one, rfl⟩ : ∃ b : Bool, v = .bool b := by
      rw [List.getElem?_map] at hv
      cases q : bs[i]? with
      | none => rw [q] at hv; cases hv
      | some b => rw [q] at hv; exact ⟨b, (Option.some.inj hv).symm⟩
    clear Fo No
    have hfs : foldW (bs.take (i + 1)) = stepW (ws, used) one := by
      have hb : bs[i]? = some one := by
        rw [List.getElem?_map] at hv
        cases q : bs[i]? with
        | none => rw [q] at hv; cases hv
        | some b => rw [q] at hv; cases hv; rfl
      rw [List.take_succ, hb, foldW, List.foldl_append]
      show stepW (foldW (bs.take i)) one = _
      rw [hf]
    have hi : i < 12 := by
      have e := (List.getElem?_eq_some_iff.mp hv).1
      rw [List.length_map] at e
      omega
    have hw := hok i (by omega)
    rw [hf] at hw
    have hT := hcst
    cases one
    · obtain ⟨p0, r0, rfl⟩ := okW_nonempty hw
      obtain ⟨T0, n0, t0, u0, hv0, hT0⟩ := wayAt hd (k := 0) (p := p0) rfl
      have hA1 : AtI ((L' + 1, oc) :: (D, listOf (List.toArray vs) nn) :: tl ++ own) D 0 (.ref T0) := ⟨vs, nn, .tail _ (.head _), by decide, by decide, hv0⟩
      have hB1 : TupI ((L' + 1, oc) :: (D, listOf (List.toArray vs) nn) :: tl ++ own) T0 (.str (SN p0.1) t0) (.str (SN p0.2) u0) := ⟨n0, .tail _ (.tail _ (List.mem_append_left _ hT0))⟩
      (repeat' ((fail_if_success (first | (with_reducible show wpAny _ _ (compareOp CmpOp.NotEq (Value.str _ _) (Value.str _ _)) _ _ _))); first | (k_unfold; (try dsimp only)) | (k_end; kc_close) | walk1 | (dsimp only; walk1) | (leave1; walk_say "STEP leave1"; (try dsimp only)) | fail "no step"))
      refine P.ne_str ?_
      rw [neS]
      cases hfe : p0.2.isEmpty
      · rw [Bool.not_false]
        (repeat' ((fail_if_success (first | (with_reducible show wpAny _ _ (exec (Stmt.Assign [_] (PySem.Expr.ListComp _ _ _ _) _) _) _ _ _) | (with_reducible show wpAny _ _ (eval (PySem.Expr.ListComp _ _ _ _) _) _ _ _))); first | (k_unfold; (try dsimp only)) | (k_end; kc_close) | walk1 | (dsimp only; walk1) | (leave1; walk_say "STEP leave1"; (try dsimp only)) | fail "no step"))
        (rename Fr _ _ _ _ => Fo); (rename News _ _ _ _ => No)
        replace No : News g' L' _ ((L' + 1, oc) :: (D, listOf (List.toArray vs) nn) :: (tl ++ own)) := No
        have hne : p0.2 ≠ [] := by
          intro e; rw [e] at hfe; cases hfe
        refine Assign_comp2 (ws := (p0 :: r0).map toP) (vs := vs) (ax := D) (nn := nn) (JD2 ((L' + 1, oc) :: (D, listOf (List.toArray vs) nn) :: (tl ++ own)) (outs2 (p0 :: r0)) 24) Fo No rfl (by with_unfolding_all rfl) (by with_unfolding_all rfl) (by decide) (by rfl) (by decide) (by rfl) (by rfl) (by rfl) (by decide) (by decide) (by decide) (by decide) (by rfl) (by rfl) (by rfl) (by rfl) (by decide) (by rfl) (by rfl) (lens hd) (JD2.has (tl := tl) (.tail _ (.head _)) (fun p hp => .tail _ (.tail _ (List.mem_append_left _ hp))) hd) (JD2.next hw) (JD2.start (outs2_zero _)) (Nat.zero_le _) ?_ ?_
        · rintro i' j p c tt tf u ys nx I oI I₂ oJ C oC D₂ m₂ h5 tk5 E' hp hc0 ⟨hy1, hy2, hy3, add, rfl, hda, hlt⟩ hC h1 h2 h3 hu1 hu2 F5 N5 off
          clear Fo No
          obtain ⟨q, hq, rfl⟩ := atP hp
          replace hc0 := signAt hc0
          obtain ⟨hq1, hq2⟩ := okW_all hw hq
          obtain ⟨hs1, hs2⟩ := sub_all _ (okW_used hw) _ hq2
          obtain ⟨hc1, hc2, hup, hrp⟩ := hs2 c (List.mem_of_getElem? hc0)
          have hj := (List.getElem?_eq_some_iff.mp hc0).1
          replace h1 : m₂ (Str.ofString "text") = some (.str (SN q.1) tt) := h1
          replace h2 : m₂ (Str.ofString "free") = some (.str (SN q.2) tf) := h2
          replace h3 : m₂ (Str.ofString "letter") = some (.str (SN [c]) u) := h3
          (repeat' ((fail_if_success (first | (with_reducible show wpAny _ _ (binaryOp Operator.Add (Value.str _ _) (Value.str _ _)) _ _ _) | (with_reducible show End3 _ _ _ _ _ _ _ _ _ _ _ _ _) | (with_reducible show End4 _ _ _ _ _ _ _ _ _ _ _ _ _ _ _) | (with_reducible show wpAny _ _ (newTuple _) _ _ _) | (with_reducible show wpAny _ _ (call (Value.builtin "str.replace") _) _ _ _) | (with_reducible show wpAny _ _ (call (Value.builtin "str.upper") _) _ _ _))); first | (k_unfold; (try dsimp only)) | (k_end; kc_close) | walk1 | (dsimp only; walk1) | (leave1; walk_say "STEP leave1"; (try dsimp only)) | fail "no step"))
          refine SC.upper (by rw [hup, SN_len]; rfl) ?_
          rw [hup]
          (repeat' ((fail_if_success (first | (with_reducible show wpAny _ _ (binaryOp Operator.Add (Value.str _ _) (Value.str _ _)) _ _ _) | (with_reducible show End3 _ _ _ _ _ _ _ _ _ _ _ _ _) | (with_reducible show End4 _ _ _ _ _ _ _ _ _ _ _ _ _ _ _) | (with_reducible show wpAny _ _ (newTuple _) _ _ _) | (with_reducible show wpAny _ _ (call (Value.builtin "str.replace") _) _ _ _) | (with_reducible show wpAny _ _ (call (Value.builtin "str.upper") _) _ _ _))); first | (k_unfold; (try dsimp only)) | (k_end; kc_close) | walk1 | (dsimp only; walk1) | (leave1; walk_say "STEP leave1"; (try dsimp only)) | fail "no step"))
          refine wpAny_with_toks (n := u + 1) (Nat.le_succ_of_le (Nat.succ_le_of_lt hu2)) (SBL.add (fun t1 k1 hk1 hk2 => ?_) (by rw [SN_len, SN_len, sizeLine_eq]; simp; omega))
          replace hk2 : u + 1 ≤ k1 := hk2
          rw [SN_app]
          (repeat' ((fail_if_success (first | (with_reducible show wpAny _ _ (binaryOp Operator.Add (Value.str _ _) (Value.str _ _)) _ _ _) | (with_reducible show End3 _ _ _ _ _ _ _ _ _ _ _ _ _) | (with_reducible show End4 _ _ _ _ _ _ _ _ _ _ _ _ _ _ _) | (with_reducible show wpAny _ _ (newTuple _) _ _ _) | (with_reducible show wpAny _ _ (call (Value.builtin "str.replace") _) _ _ _) | (with_reducible show wpAny _ _ (call (Value.builtin "str.upper") _) _ _ _))); first | (k_unfold; (try dsimp only)) | (k_end; kc_close) | walk1 | (dsimp only; walk1) | (leave1; walk_say "STEP leave1"; (try dsimp only)) | fail "no step"))
          refine SC.replace (Nat.ne_of_gt hu1) (Nat.ne_of_gt (Nat.lt_of_lt_of_le (Nat.succ_pos u) hk2)) (Nat.ne_of_lt hk2) (beqS c) (by rw [eS, SN_len, SN_len]; simp; omega) ?_
          intro t2 k2
          rw [eS, hrp]
          (repeat' ((fail_if_success (first | (with_reducible show wpAny _ _ (binaryOp Operator.Add (Value.str _ _) (Value.str _ _)) _ _ _) | (with_reducible show End3 _ _ _ _ _ _ _ _ _ _ _ _ _) | (with_reducible show End4 _ _ _ _ _ _ _ _ _ _ _ _ _ _ _) | (with_reducible show wpAny _ _ (newTuple _) _ _ _) | (with_reducible show wpAny _ _ (call (Value.builtin "str.replace") _) _ _ _) | (with_reducible show wpAny _ _ (call (Value.builtin "str.upper") _) _ _ _))); first | (k_unfold; (try dsimp only)) | (k_end; kc_close) | walk1 | (dsimp only; walk1) | (leave1; walk_say "STEP leave1"; (try dsimp only)) | fail "no step"))
          refine kup_newTuple F5 N5 (fun T h6 F6 N6 hlt6 => ?_) (by rw [sizeLine_eq]; show 2 ≤ _; omega)
          exact End4.put (r := takeW q c) F6 N6 hlt6 off hda hlt (outs2_succ hq hc0) hy1 (by omega) hy3
        · rintro D₂ h5 tk5 ys nx ⟨_, _, _, add, rfl, hda, hlt⟩ F5 N5 off
          clear Fo No
          (repeat' ((fail_if_success (first | (with_reducible show wpAny _ _ (exec (Stmt.Assign [_] (PySem.Expr.ListComp _ _ _ _) _) _) _ _ _) | (with_reducible show wpAny _ _ (eval (PySem.Expr.ListComp _ _ _ _) _) _ _ _))); first | (k_unfold; (try dsimp only)) | (k_end; kc_close) | walk1 | (dsimp only; walk1) | (leave1; walk_say "STEP leave1"; (try dsimp only)) | fail "no step"))
          (rename Fr _ _ _ _ => Fe); (rename News _ _ _ _ => Ne)
          rw [List.length_map, outs2_end] at hda
          refine InvEndG.intro (nx := (L' + 1, oc) :: (D₂, listOf (List.toArray ys) ys.length) :: (add ++ (D, listOf (List.toArray vs) nn) :: tl)) Fe Ne ⟨?_, D₂, ys, ys.length, oc, _, add ++ (D, listOf (List.toArray vs) nn) :: tl, _, used, _, _, ovW1, rfl, fun p hp => List.mem_append_right _ (.tail _ (hcst p hp)), lcW hlc hlt off, hoc, hda.mono fun p hp => List.mem_append_left _ hp, ?_⟩ (offW hoff hlt off) (fun p hp => ?_) (fun p hp => ?_)
          · exact .tail _ (.tail _ (List.mem_append_right _ (.tail _ (hcst _ (.head _)))))
          · rw [hfs]; unfold stepW; rw [if_neg Bool.false_ne_true]; exact if_neg hne
          · simp only [List.mem_cons, List.mem_append] at hp ⊢
            rcases hp with h | h | h | h | h <;> simp [h]
          · simp [hp]
      · rw [Bool.not_true]
        (repeat' ((fail_if_success (first | (with_reducible show wpAny _ _ (exec (Stmt.Assign [_] (PySem.Expr.ListComp _ _ _ _) _) _) _ _ _) | (with_reducible show wpAny _ _ (eval (PySem.Expr.ListComp _ _ _ _) _) _ _ _))); first | (k_unfold; (try dsimp only)) | (k_end; kc_close) | walk1 | (dsimp only; walk1) | (leave1; walk_say "STEP leave1"; (try dsimp only)) | fail "no step"))
        (rename Fr _ _ _ _ => Fe); (rename News _ _ _ _ => Ne)
        have hne : p0.2 = [] := by
          simpa using hfe
        exact InvEndG.intro Fe Ne ⟨hmem, D, vs, nn, oc, cv, tl, p0 :: r0, used, _, _, ovW, rfl, hcst, hlc, hoc, hd, (by rw [hfs]; unfold stepW; rw [if_neg Bool.false_ne_true]; exact if_pos hne)⟩ hoff (fun p hp => List.mem_append_left _ hp) (fun p hp => List.mem_append_right _ hp)
    · (repeat' ((fail_if_success (first | (with_reducible show wpAny _ _ (exec (Stmt.Assign [_] (PySem.Expr.ListComp _ _ _ _) _) _) _ _ _) | (with_reducible show wpAny _ _ (eval (PySem.Expr.ListComp _ _ _ _) _) _ _ _))); first | (k_unfold; (try dsimp only)) | (k_end; kc_close) | walk1 | (dsimp only; walk1) | (leave1; walk_say "STEP leave1"; (try dsimp only)) | fail "no step"))
      · rw [abcd used (by omega)]
        (rename Fr _ _ _ _ => Fo); (rename News _ _ _ _ => No)
        refine storeCell (lc := L' + 1) (oc := oc) (rest := ((D, listOf (List.toArray vs) nn) :: tl) ++ own) Fo No ?_ hoc rfl rfl rfl ?_
        · intro p hp
          rcases List.mem_append.mp hp with hp | hp
          · exact hlc p hp
          · exact hoff p hp _ (by simp)
        intro h4 oc' hoc' F4 N4
        clear Fo No
        (repeat' ((fail_if_success (first | (with_reducible show wpAny _ _ (exec (Stmt.Assign [_] (PySem.Expr.ListComp _ _ _ _) _) _) _ _ _) | (with_reducible show wpAny _ _ (eval (PySem.Expr.ListComp _ _ _ _) _) _ _ _))); first | (k_unfold; (try dsimp only)) | (k_end; kc_close) | walk1 | (dsimp only; walk1) | (leave1; walk_say "STEP leave1"; (try dsimp only)) | fail "no step"))
        (rename Fr _ _ _ _ => Fo); (rename News _ _ _ _ => No)
        refine Assign_comp1 (ws := ws.map toP) (vs := vs) (ax := D) (nn := nn) (JC ((L' + 1, oc') :: (D, listOf (List.toArray vs) nn) :: (tl ++ own)) (fun i => (ws.take i).map fun p => (p.1 ++ [97 + used], p.2 ++ [97 + used]))) Fo No rfl (by with_unfolding_all rfl) (by with_unfolding_all rfl) (by decide) (by rfl) (by decide) (by rfl) (by rfl) (by decide) (by rfl) (by rfl) (by rfl) (by rfl) (by decide) (by rfl) (by rfl) (.tail _ (.head _)) ?_ ⟨lens hd, JC.has (tl := tl) (.tail _ (.head _)) (fun p hp => .tail _ (.tail _ (List.mem_append_left _ hp))) hd, ?_⟩ (JC.start rfl) ?_
        · have := hd.length; have := okW_len hw; rw [sizeLine_eq]; simp at *; omega
        · rintro i p tt tf ys nx I oI C oC D₂ m₂ h5 tk5 E' hp ⟨add, rfl, hda, hlt⟩ hC h1 h2 F5 N5 off
          clear Fo No
          obtain ⟨q, hq, rfl⟩ := atP hp
          obtain ⟨hq1, hq2⟩ := okW_all hw hq
          replace h1 : m₂ (Str.ofString "text") = some (.str (SN q.1) tt) := h1
          replace h2 : m₂ (Str.ofString "free") = some (.str (SN q.2) tf) := h2
          have hc : (L' + 1, oc') ∈ (I, oI) :: (C, oC) :: (D₂, lst ys) :: (add ++ (L' + 1, oc') :: (D, listOf (List.toArray vs) nn) :: (tl ++ own)) := .tail _ (.tail _ (.tail _ (List.mem_append_right _ (.head _))))
          (repeat' ((fail_if_success (first | (with_reducible show wpAny _ _ (eval (PySem.Expr.Name (Str.ofString "letter") _) (compEnvC _ _ _ _)) _ _ _) | (with_reducible show wpAny _ _ (binaryOp Operator.Add (Value.str _ _) (Value.str _ _)) _ _ _) | (with_reducible show End3 _ _ _ _ _ _ _ _ _ _ _ _ _) | (with_reducible show End4 _ _ _ _ _ _ _ _ _ _ _ _ _ _ _) | (with_reducible show wpAny _ _ (newTuple _) _ _ _) | (with_reducible show wpAny _ _ (call (Value.builtin "str.replace") _) _ _ _))); first | (k_unfold; (try dsimp only)) | (k_end; kc_close) | walk1 | (dsimp only; walk1) | (leave1; walk_say "STEP leave1"; (try dsimp only)) | fail "no step"))
          refine lcf_cell (c := L' + 1) (o := oc') N5 rfl hc hoc' ?_ rfl rfl
          refine SBL.add (fun t1 k1 => ?_) (by rw [SN_len, SN_len, sizeLine_eq]; simp; omega)
          (repeat' ((fail_if_success (first | (with_reducible show wpAny _ _ (eval (PySem.Expr.Name (Str.ofString "letter") _) (compEnvC _ _ _ _)) _ _ _) | (with_reducible show wpAny _ _ (binaryOp Operator.Add (Value.str _ _) (Value.str _ _)) _ _ _) | (with_reducible show End3 _ _ _ _ _ _ _ _ _ _ _ _ _) | (with_reducible show End4 _ _ _ _ _ _ _ _ _ _ _ _ _ _ _) | (with_reducible show wpAny _ _ (newTuple _) _ _ _) | (with_reducible show wpAny _ _ (call (Value.builtin "str.replace") _) _ _ _))); first | (k_unfold; (try dsimp only)) | (k_end; kc_close) | walk1 | (dsimp only; walk1) | (leave1; walk_say "STEP leave1"; (try dsimp only)) | fail "no step"))
          refine lcf_cell (c := L' + 1) (o := oc') N5 rfl hc hoc' ?_ rfl rfl
          refine SBL.add (fun t2 k2 => ?_) (by have := (sub_all _ (okW_used hw) _ hq2).1; rw [SN_len, SN_len, sizeLine_eq]; simp; omega)
          rw [SN_app, SN_app]
          (repeat' ((fail_if_success (first | (with_reducible show wpAny _ _ (eval (PySem.Expr.Name (Str.ofString "letter") _) (compEnvC _ _ _ _)) _ _ _) | (with_reducible show wpAny _ _ (binaryOp Operator.Add (Value.str _ _) (Value.str _ _)) _ _ _) | (with_reducible show End3 _ _ _ _ _ _ _ _ _ _ _ _ _) | (with_reducible show End4 _ _ _ _ _ _ _ _ _ _ _ _ _ _ _) | (with_reducible show wpAny _ _ (newTuple _) _ _ _) | (with_reducible show wpAny _ _ (call (Value.builtin "str.replace") _) _ _ _))); first | (k_unfold; (try dsimp only)) | (k_end; kc_close) | walk1 | (dsimp only; walk1) | (leave1; walk_say "STEP leave1"; (try dsimp only)) | fail "no step"))
          refine kup_newTuple F5 N5 (fun T h6 F6 N6 hlt6 => ?_) (by rw [sizeLine_eq]; show 2 ≤ _; omega)
          exact End3.put (r := (q.1 ++ [97 + used], q.2 ++ [97 + used])) F6 N6 hlt6 off hda hlt (take_map_succ _ hq)
        · rintro D₂ h5 tk5 ys nx ⟨add, rfl, hda, hlt⟩ F5 N5 off
          clear Fo No
          (repeat' ((fail_if_success (first | (with_reducible show wpAny _ _ (exec (Stmt.Assign [_] (PySem.Expr.ListComp _ _ _ _) _) _) _ _ _) | (with_reducible show wpAny _ _ (eval (PySem.Expr.ListComp _ _ _ _) _) _ _ _))); first | (k_unfold; (try dsimp only)) | (k_end; kc_close) | walk1 | (dsimp only; walk1) | (leave1; walk_say "STEP leave1"; (try dsimp only)) | fail "no step"))
          (rename Fr _ _ _ _ => Fe); (rename News _ _ _ _ => Ne)
          dsimp only at hda
          rw [List.length_map, List.take_length] at hda
          refine InvEndG.intro (nx := (L' + 1, oc') :: (D₂, listOf (List.toArray ys) ys.length) :: (add ++ (D, listOf (List.toArray vs) nn) :: tl)) Fe Ne ⟨?_, D₂, ys, ys.length, oc', _, add ++ (D, listOf (List.toArray vs) nn) :: tl, _, used + 1, _, _, ovW2, rfl, fun p hp => List.mem_append_right _ (.tail _ (hcst p hp)), lcW hlc hlt off, hoc', hda.mono fun p hp => List.mem_append_left _ hp, ?_⟩ (offW hoff hlt off) (fun p hp => ?_) (fun p hp => ?_)
          · exact .tail _ (.tail _ (List.mem_append_right _ (.tail _ (hcst _ (.head _)))))
          · rw [hfs]; unfold stepW; rw [if_pos rfl, if_pos (show used < 4 by omega)]
          · simp only [List.mem_cons, List.mem_append] at hp ⊢
            rcases hp with h | h | h | h | h <;> simp [h]
          · simp [hp]
      · (rename Fr _ _ _ _ => Fe); (rename News _ _ _ _ => Ne)
        exact InvEndG.intro Fe Ne ⟨hmem, D, vs, nn, oc, cv, tl, ws, used, _, _, ovW, rfl, hcst, hlc, hoc, hd, (by rw [hfs]; unfold stepW; rw [if_pos rfl, if_neg (show ¬ used < 4 by omega)])⟩ hoff (fun p hp => List.mem_append_left _ hp) (fun p hp => List.mem_append_right _ hp)
  · rintro m₁ nx h tk ⟨D, vs, nn, oc, cv, tl, ws, used, tu, u1, rfl, rfl, hcst, hlc, hoc, hd, hf⟩ F N
    clear Fo No
    rw [List.length_map, List.take_length] at hf
    have hw := hok 12 (by omega)
    rw [List.take_of_length_le hbl, hf] at hw
    (repeat' ((fail_if_success (first | (with_reducible show wpAny _ _ (exec (Stmt.Assign [_] (PySem.Expr.ListComp _ _ _ _) _) _) _ _ _) | (with_reducible show wpAny _ _ (eval (PySem.Expr.ListComp _ _ _ _) _) _ _ _))); first | (k_unfold; (try dsimp only)) | (k_end; kc_close) | walk1 | (dsimp only; walk1) | (leave1; walk_say "STEP leave1"; (try dsimp only)) | fail "no step"))
    (rename Fr _ _ _ _ => Fo); (rename News _ _ _ _ => No)
    refine Eval_comp1 (ws := ws.map toP) (vs := vs) (ax := D) (nn := nn) (JT ((L' + 1, oc) :: (D, listOf (List.toArray vs) nn) :: tl) ws) Fo No rfl (by with_unfolding_all rfl) (by decide) (by rfl) (by decide) (by rfl) (by rfl) (by decide) (by rfl) (by rfl) (by decide) (by rfl) (by rfl) (.tail _ (.head _)) ?_ ⟨lens hd, JT.has (tl := tl) (.tail _ (.head _)) (fun p hp => .tail _ (.tail _ hp)) hd, ?_⟩ JT.start ?_
    · have := hd.length; have := okW_len hw; rw [sizeLine_eq]; simp at *; omega
    · rintro i p tt tf ys nx I oI C oC D₂ m₂ h5 tk5 E' hp ⟨rfl, hda⟩ hC h1 h2 F5 N5 off
      clear Fo No
      obtain ⟨q, hq, rfl⟩ := atP hp
      replace h1 : m₂ (Str.ofString "text") = some (.str (SN q.1) tt) := h1
      replace h2 : m₂ (Str.ofString "free") = some (.str (SN q.2) tf) := h2
      (repeat' ((fail_if_success (first | (with_reducible show wpAny _ _ (binaryOp Operator.Add (Value.str _ _) (Value.str _ _)) _ _ _) | (with_reducible show End3 _ _ _ _ _ _ _ _ _ _ _ _ _) | (with_reducible show End4 _ _ _ _ _ _ _ _ _ _ _ _ _ _ _) | (with_reducible show wpAny _ _ (newTuple _) _ _ _) | (with_reducible show wpAny _ _ (call (Value.builtin "str.replace") _) _ _ _) | (with_reducible show wpAny _ _ (call (Value.builtin "str.upper") _) _ _ _))); first | (k_unfold; (try dsimp only)) | (k_end; kc_close) | walk1 | (dsimp only; walk1) | (leave1; walk_say "STEP leave1"; (try dsimp only)) | fail "no step"))
      exact ⟨_, _, _, rfl, F5, N5, off, JT.put hq hda⟩
    · rintro D₂ h5 tk5 ys nx ⟨rfl, hda⟩ F5 N5 off
      clear Fo No
      rw [List.length_map, List.take_length] at hda
      k_steps
      refine hret _ ((D₂, listOf (List.toArray ys) ys.length) :: (l, listOf (List.toArray (bs.map Value.bool)) n) :: rest) _ _ (by assumption) (newsSub (by assumption) fun p hp => ?_) ⟨D₂, ys, ys.length, rfl, rfl, by rw [hf]; exact hda, fun p hp => off1_mem off p (.tail _ (.tail _ (hcst p hp)))⟩
      rcases List.mem_cons.mp hp with rfl | hp
      · exact .head _
      · exact .tail _ (.tail _ (.tail _ (hcst p hp)))
end Mine
end
section
set_option maxRecDepth 100000
set_option maxHeartbeats 4000000
namespace Mine
open PySem PySem.W PyProof.Rows PySem.Calls PySem.Spec
open PyProof.Rows.LCg PySem.SeqAt
section
variable {prog : Program} {w : World} {A : Around} {E : Value → Shared → Prop} {s : Shared} {env : Env} {h₀ : Heap} {L : Addr} {m : Str → Option Value}
structure J0C (prog : Program) (w : World) (A : Around) (h₀ : Heap) (L : Addr) (m : Str → Option Value) (env : Env) (elt : PySem.Expr) (x : Str) (scope : Scope) (cl : List (Str × Addr)) (s : Shared) (ax : Addr) (vs : List Value) (nn : Nat) (J : Nat → List Value → List (Addr × Obj) → Prop) : Prop where
  has : ∀ i ys nx, J i ys nx → (ax, listOf (List.toArray vs) nn) ∈ nx
  turn : ∀ i v ys nx I oI C oC D m₂ h tk (E' : Value → Shared → Prop), vs[i]? = some v → J i ys nx → NsObj oC m₂ → m₂ x = some v →
      Fr h₀ L h m → News h₀ L h ((I, oI) :: (C, oC) :: (D, lst ys) :: nx) → Off3 I C D nx →
      wpAny (model prog w) A (eval elt (compEnvC scope cl C env)) (End3 h₀ L m { s with heap := h, toks := tk } I oI C oC D (lst ys) (fun v nx' => J (i + 1) (ys ++ [v]) nx')) E' { s with heap := h, toks := tk }
theorem rest0_all {elt : PySem.Expr} {x : Str} {scope : Scope} {cl : List (Str × Addr)} {s : Shared} {ax : Addr} {vs : List Value} {nn : Nat} {J : Nat → List Value → List (Addr × Obj) → Prop} {Fin : List Value → List (Addr × Obj) → Prop} (H : J0C prog w A h₀ L m env elt x scope cl s ax vs nn J) (g : Heap)
    (hfin : ∀ ys nx, J vs.length ys nx → Fin ys nx) : ∀ (k i : Nat) ys nx, i + k = vs.length → J i ys nx →
      CompRest prog w A h₀ L m env elt x scope cl { s with heap := g } (SrcAt h₀ ax (List.toArray vs)) (fun i v => (List.toArray vs)[i]? = some v) Fin k i ys nx := by
  intro k
  induction k with
  | zero =>
    intro i ys nx hi hj
    rw [Nat.add_zero] at hi
    subst hi
    exact CompRest.zero (hfin _ _ hj)
  | succ k ih =>
    intro i ys nx hi hj
    refine CompRest.succ ?_
    intro v I oI C oC D m₂ h tk E' hv hC h1 F N off ne
    have hv' : vs[i]? = some v := by simpa using hv
    refine wpAny_mono (H.turn i v ys nx I oI C oC D m₂ h tk E' hv' hj hC h1 F N off) (fun y s₂ he => ?_) fun _ _ e => e
    obtain ⟨h', tk', nx', rfl, F', N', off', hj'⟩ := he
    exact ⟨h', tk', nx', rfl, F', N', off', .inr ⟨_, H.has _ _ _ hj', rfl, nn, rfl⟩, ih (i + 1) _ _ (by omega) hj'⟩
theorem Eval_comp0 {elt : PySem.Expr} {x z : Str} {px pz : Pos} {scope : Scope} {cl : List (Str × Addr)} {pos : Pos} {Q : Value → Shared → Prop} {ax : Addr} {vs : List Value} {nn : Nat} {news : List (Addr × Obj)}
    (J : Nat → List Value → List (Addr × Obj) → Prop) (F : Fr h₀ L s.heap m) (N : News h₀ L s.heap news) (hLe : env.locals = L)
    (hclos : closureFor scope env = pure cl) (hcell : ∀ z ∈ scope.names, z.2 ≠ .cell) (hkind : scope.kind = .function)
    (hnames : ∀ z ∈ scope.names, z.2 = .local → scope.names.lookup z.1 = some .local) (hx : scope.names.lookup x = some .local)
    (hzk : env.scope.kind = .function) (hz : env.kindOf z = some .local) (hzd : (z == ("__debug__" : Str)) = false) (hmz : m z = some (.ref ax)) (hh : A.handled = none) (hm : (ax, listOf (List.toArray vs) nn) ∈ news) (hsz : vs.length ≤ sizeLine)
    (H : J0C prog w A h₀ L m env elt x scope cl s ax vs nn J) (hj0 : J 0 [] news)
    (done : ∀ D h tk ys nx, J vs.length ys nx → Fr h₀ L h m → News h₀ L h ((D, lst ys) :: nx) → Off1 D nx → Q (.ref D) { s with heap := h, toks := tk }) :
    wpAny (model prog w) A (eval (.ListComp elt [⟨.Name x px, .Name z pz, [], 0⟩] scope pos) env) Q E s := by
  have hn : s.heap.Ns env.locals m := hLe ▸ F.ns
  refine LCg.ListComp_U F hclos hcell hkind hnames hx (wpAny_Name (wpAny_loadName_local hzk hz hn hmz ?_) hzd)
  have hl : (List.toArray vs).size = vs.length := List.size_toArray
  refine LCg.CompSrc.ledger hh F N hm (by rw [List.size_toArray]; exact hsz) fun g => ?_
  rw [hl]
  exact rest0_all H g (fun ys nx hj D h tk F' N' o' => done D h tk ys nx hj F' N' o') vs.length 0 [] news (Nat.zero_add _) hj0
theorem readsB {h : Heap} : ∀ bs : List Bool, ReadsAll h (bs.map Value.bool) (bs.map PyData.bool) []
  | [] => .nil
  | b :: r => by
    have := ReadsAll.cons (Reads.bool (h := h) b) (readsB (h := h) r)
    simpa using this
theorem layB : ∀ bs : List Bool, PyData.canLayAll0 (bs.map PyData.bool) = true
  | [] => by simp [PyData.canLayAll0]
  | n :: r => by simp [PyData.canLayAll0, PyData.canLay0, layB r]
theorem depB : ∀ bs : List Bool, PyData.depthAll (bs.map PyData.bool) ≤ 1
  | [] => by simp [PyData.depthAll]
  | n :: r => by
    have := depB r
    simp only [List.map_cons, PyData.depthAll, PyData.depth]
    omega
theorem shapedB (bs : List Bool) : shaped (.list (bs.map PyData.bool)) = true := by
  have h1 := depB bs
  have h2 : PyData.depth (.list (bs.map PyData.bool)) ≤ 64 := by simp only [PyData.depth]; omega
  show (PyData.canLay0 (.list (bs.map PyData.bool)) && decide (PyData.depth (.list (bs.map PyData.bool)) ≤ 64)) = true
  rw [Bool.and_eq_true]
  exact ⟨by simp only [PyData.canLay0]; exact layB bs, decide_eq_true h2⟩
theorem noMixB : ∀ bs : List Bool, noMixAll (bs.map PyData.bool) (bs.map PyData.bool) = true
  | [] => by simp [noMixAll]
  | _ :: r => by simp [noMixAll, noMix, noMixB r]
theorem sameB : ∀ bs : List Bool, PySem.Spec.sameAll (bs.map PyData.bool) (bs.map PyData.bool) = true
  | [] => by simp [PySem.Spec.sameAll]
  | n :: r => by simp [PySem.Spec.sameAll, PySem.Spec.same, sameB r]
theorem ne_boolsK {a b : Addr} {bs : List Bool} {k k' : Nat} {news : List (Addr × Obj)} {Q : Value → Shared → Prop} (N : News h₀ L s.heap news) (ha : (a, listOf (List.toArray (bs.map Value.bool)) k) ∈ news) (hb : (b, listOf (List.toArray (bs.map Value.bool)) k') ∈ news) (hu : A.units + 64 < cLine)
    (h : Q (.bool false) s) : wpAny (model prog w) A (compareOp .NotEq (.ref a) (.ref b)) Q E s := by
  refine ne_dataH_same (Reads.list (N _ ha).1 rfl rfl (by simpa using readsB bs)) (Reads.list (N _ hb).1 rfl rfl (by simpa using readsB bs)) (shapedB bs) (shapedB bs) hu (by simp only [noMix]; exact noMixB bs) ?_
  simp only [PySem.Spec.same]
  rw [sameB]
  exact h
end
end Mine
end
section
set_option maxRecDepth 100000
set_option maxHeartbeats 4000000
namespace Mine
open PySem PySem.W PyProof.Rows PySem.Calls PySem.Spec
section
variable {prog : Program} {w : World} {A : Around} {E : Value → Shared → Prop} {s : Shared} {h₀ : Heap} {L : Addr} {m : Str → Option Value}
theorem fillI : fillsInplaceSlot (.type "list") "add" (Operator.Add == .Add) = pure false := by
  unfold fillsInplaceSlot
  show (typeLookup (.type "list") (dunderI "add") >>= fun fi => (pure (fi.isSome && !isSeqSlot fi) : Sem Bool)) = pure false
  rw [PySem.F.slot_list_iadd.lookup]
  show (pure (true && !isSeqSlotId "list.__iadd__") : Sem Bool) = pure false
  rw [show isSeqSlotId "list.__iadd__" = true by decide +kernel]
  rfl
theorem seqI : seqSlot? (.type "list") (dunderI "add") = pure (some (.builtin "list.__iadd__")) := PySem.seqSlot_of PySem.F.slot_list_iadd.lookup (by decide +kernel)
theorem iaddL {a b : Addr} {xs ys : List Value} {n n' : Nat} {rest : List (Addr × Obj)} {Q : Value → Shared → Prop} (F : Fr h₀ L s.heap m) (N : News h₀ L s.heap ((a, listOf (List.toArray xs) n) :: rest)) (ho : ∀ p ∈ rest, p.1 ≠ a) (hb : (b, listOf (List.toArray ys) n') ∈ rest)
    (hx : xs.length ≤ 1000) (hy : ys.length ≤ 1000) (hy0 : 0 < ys.length) (h : ∀ h', Fr h₀ L h' m → News h₀ L h' ((a, listOf (List.toArray (xs ++ ys)) (n + 1)) :: rest) → Q (.ref a) { s with heap := h' }) :
    wpAny (model prog w) A (inplaceOp .Add (.ref a) (.ref b)) Q E s := by
  have za := N _ (.head _)
  have zb := N _ (.tail _ hb)
  have ta : s.TypeIs (.ref a) "list" := ⟨_, za.1, rfl⟩
  have tb : s.TypeIs (.ref b) "list" := ⟨_, zb.1, rfl⟩
  unfold inplaceOp
  refine wpAny_holding ?_
  refine wpAny_bind (wpAny_typeOf ta (wpAny_bind (wpAny_of_eq fillI ?_)))
  show wpAny (model prog w) A (if false = true then _ else _) Q E s
  rw [if_neg Bool.false_ne_true]
  refine wpAny_bind (PySem.wpAny_binaryOp1_none (nm := "add") ta tb PySem.noFill_list_add ?_)
  refine wpAny_bind (wpAny_of_eq seqI ?_)
  refine wpAny_bind (wpAny_rule ?_)
  have hs1 : (List.toArray xs).size = xs.length := List.size_toArray
  have hs2 : (List.toArray ys).size = ys.length := List.size_toArray
  have hbig : Builtin.List.listTooLong (xs.length + ys.length) = false := by
    unfold Builtin.List.listTooLong
    rw [decide_eq_false_iff_not]
    try rw [sizeLine_eq]
    omega
  refine call_meets PySem.F.slot_list_iadd ta PySem.F.entry_list_iadd (PySem.F.args_list_iadd_2 _ _) (PySem.AutoSeq1.list___iadd___list_list_0 a (List.toArray xs) n b (List.toArray ys) n' ?_ ?_ ?_) ⟨za.1, zb.1, ?_⟩
  · rw [hs1, hs2, hbig]; simp
  · rw [hs1, sizeLine_eq]; omega
  · rw [hs1, hs2, sizeLine_eq]; omega
  · exact h _ (F.change (Heap.SameBut.update ..) za.2.1 za.2.2) (kl_turn (pre := []) _ N (fun p hp => nomatch hp) ho (by simp) (by simp; intro e; rw [e] at hy0; exact Nat.lt_irrefl _ hy0))
end
end Mine
end
section
open PySem PySem.W PyProof.Rows PySem.Calls
set_option maxRecDepth 100000
set_option maxHeartbeats 8000000
namespace Mine
def lawS : Stmt := stm 72
/-- what a stage of the law's body (from statement k on) is shown under -/
def StageG (k : Nat) (Hyp : (Str → Option Value) → List (Addr × Obj) → Prop) : Prop := match lawS with
  | .FunctionDef _ _ b _ _ _ sc _ _ _ => ∀ (w : World) (mean : ExcName → Option Value) (mg mb : Str → Option Value) (base : Heap) (L fa : Addr) (cd : Value) (m : Str → Option Value) (news : List (Addr × Obj)) (s : Shared) (Q : Flow → Shared → Prop) (E : Value → Shared → Prop),
      Below callerA base [] base → (K w.params).In base → Top topProg LS mean mg mb base → CodeHd base 59 55 → CodeHd base 66 62 → Fr base L s.heap m → News base L s.heap news → Hyp m news →
      (∀ h' tk' m' ns ps ps', Fr base L h' m' → News base L h' ns → (62, tabObj ps) ∈ ns → (55, tabObj ps') ∈ ns → Q (.ret (.bool true)) { s with heap := h', toks := tk' }) →
      wpAny (model (PySem.Challenge.rw_to0036_01.row.toRowW.prog) w) (callerA.deeper (envOf (Str.ofString "law") sc L fa cd)) (execs (b.drop k) (envOf (Str.ofString "law") sc L fa cd)) Q (fun e s' => wpAny (model (PySem.Challenge.rw_to0036_01.row.toRowW.prog) w) (callerA.deeper (envOf (Str.ofString "law") sc L fa cd)) (leaving (envOf (Str.ofString "law") sc L fa cd) e) (fun _ s'' => E e s'') (fun e' s'' => E e' s'') s') s
  | _ => True
theorem ovOne {m : Str → Option Value} {a : Str} {v : Option Value} (h : m a = v) : m = ov m [(a, v)] := by
  funext z
  simp only [ov]
  rw [ovself h]
def preL (k : Nat) : List Nat := ([[], [173], [32], [8205, 8288]][k]?).getD []
def sgL (c : Nat) : Nat := if c % 3 < 2 then ([40, 91, 123][c / 3 % 3]?).getD 0 else ([41, 93, 125][c / 3 % 3]?).getD 0
def typL (xs : List Nat) : List Nat := xs.flatMap fun c => preL (c / 9 % 4) ++ [sgL c]
def H2 (m : Str → Option Value) (news : List (Addr × Obj)) : Prop := ∃ (CL : Addr) (vs : List Value) (n : Nat) (xs : List Nat), m (Str.ofString "cells") = some (.ref CL) ∧ news = [(CL, listOf (List.toArray vs) n), (62, tabObj #[]), (55, tabObj #[])] ∧ IntsAre vs (xs.map Int.ofNat) ∧ xs.length = 6 ∧ @LT.lt Nat _ 62 CL
def H3 (m : Str → Option Value) (news : List (Addr × Obj)) : Prop := ∃ (CL : Addr) (vs : List Value) (n : Nat) (xs : List Nat) (t : Tok), m (Str.ofString "cells") = some (.ref CL) ∧ m (Str.ofString "typed") = some (.str (SN (typL xs)) t) ∧ news = [(CL, listOf (List.toArray vs) n), (62, tabObj #[]), (55, tabObj #[])] ∧ IntsAre vs (xs.map Int.ofNat) ∧ xs.length = 6 ∧ @LT.lt Nat _ 62 CL
def opsL (xs : List Nat) : List Bool := xs.map fun c => decide (c % 3 < 2)
def H4 (m : Str → Option Value) (news : List (Addr × Obj)) : Prop := ∃ (CL OL : Addr) (vs : List Value) (n k : Nat) (xs : List Nat), m (Str.ofString "cells") = some (.ref CL) ∧ m (Str.ofString "opens") = some (.ref OL) ∧
  news = [(OL, listOf (List.toArray ((opsL xs).map Value.bool)) k), (CL, listOf (List.toArray vs) n), (62, tabObj #[]), (55, tabObj #[])] ∧ IntsAre vs (xs.map Int.ofNat) ∧ xs.length = 6 ∧ CL ≠ OL ∧ @LT.lt Nat _ 62 CL ∧ @LT.lt Nat _ 62 OL
def opensOf (b6 : List Bool) : List Bool := b6 ++ List.replicate 6 false
def H5 (m : Str → Option Value) (news : List (Addr × Obj)) : Prop := ∃ (OL : Addr) (k : Nat) (t : Tok) (b6 : List Bool), b6.length = 6 ∧ m (Str.ofString "opens") = some (.ref OL) ∧ m (Str.ofString "product") = some (.int ((foldP (opensOf b6)).1 : Nat) t) ∧ @LT.lt Nat _ 62 OL ∧
  TabL news [(OL, listOf (List.toArray ((opensOf b6).map Value.bool)) k)]
def histF (ws : List Wy) : List Int := ws.foldl (fun h p => h.set (meetF (SN p.1)).toNat ((h[(meetF (SN p.1)).toNat]?).getD 0 + 1)) (List.replicate 49 0)
def H6 (m : Str → Option Value) (news : List (Addr × Obj)) : Prop := ∃ (FL : Addr) (vs : List Value) (k : Nat) (t : Tok) (b6 : List Bool) (tabs : List (Addr × Obj)), b6.length = 6 ∧ m (Str.ofString "found") = some (.ref FL) ∧ m (Str.ofString "product") = some (.int ((foldP (opensOf b6)).1 : Nat) t) ∧ @LT.lt Nat _ 62 FL ∧
  news = (FL, listOf (List.toArray vs) k) :: tabs ∧ TabL tabs [] ∧ (∀ p ∈ tabs, p.1 ≠ FL) ∧ IntsAre vs (histF (foldW (opensOf b6)).1)
def all6 : List (List Bool) := (List.range 64).map fun n => [n.testBit 0, n.testBit 1, n.testBit 2, n.testBit 3, n.testBit 4, n.testBit 5]
theorem intAt {vs : List Value} {xs : List Nat} (h : IntsAre vs (xs.map Int.ofNat)) {i : Nat} {v : Value} (hv : vs[i]? = some v) : ∃ c, xs[i]? = some c ∧ ∃ t, v = .int (c : Nat) t := by
  induction vs generalizing xs i with
  | nil => cases hv
  | cons a vs ih =>
    cases xs with
    | nil => cases h
    | cons x xs =>
      cases h with
      | cons n t h =>
        cases i with
        | zero => cases hv; exact ⟨x, rfl, t, rfl⟩
        | succ i => exact ih h hv
theorem fdm (c a b : Nat) (ha : 0 < a) : ((c : Int).fdiv a).fmod b = ((c / a % b : Nat) : Int) := by
  rw [Int.fdiv_eq_ediv_of_nonneg _ (by omega), Int.fmod_eq_emod_of_nonneg _ (by omega)]
  rfl
theorem fm (c b : Nat) : (c : Int).fmod b = ((c % b : Nat) : Int) := by
  rw [Int.fmod_eq_emod_of_nonneg _ (by omega)]
  rfl
theorem it_tup {prog : Program} {w : World} {A : Around} {E : Value → Shared → Prop} {s : Shared} {h₀ : Heap} {L T : Addr} {news : List (Addr × Obj)} {value slice : PySem.Expr} {k n : Nat} {K : Int} {u : Tok} {v : Value} {vs : List Value} {Q : Value → Shared → Prop}
    (N : News h₀ L s.heap news) (hm : (T, ({ cls := .type "tuple", data := .seq (List.toArray vs) n } : Obj)) ∈ news) (hK : K = (k : Int)) (hk : k < 1000) (hv : vs[k]? = some v) (hQ : Q v s)
    (hs : subscripted slice false (.ref T) (.int K u) = operate [.ref T, .int K u] (getItem (.ref T) (.int K u))) :
    wpAny (model prog w) A (subscriptTail value slice (.ref T) (.int K u)) Q E s := by
  subst hK
  have hl := (List.getElem?_eq_some_iff.mp hv).1
  refine item_tupleT (l := vs) (j := k) ⟨_, (N _ hm).1, rfl, n, rfl⟩ (by omega) (by omega) ?_ hv hQ hs
  have e : ¬ ((k : Int) < 0) := by omega
  simp [seqIndex?, e]
  omega
theorem preL_len : ∀ k < 4, (preL k).length ≤ 2 := by decide
theorem typL_len (xs : List Nat) : (typL xs).length ≤ 3 * xs.length := by
  induction xs with
  | nil => exact Nat.le_refl _
  | cons c r ih =>
    have h := preL_len (c / 9 % 4) (Nat.mod_lt _ (by omega))
    show ((preL (c / 9 % 4) ++ [sgL c]) ++ typL r).length ≤ _
    rw [List.length_append, List.length_append, List.length_cons, List.length_cons, List.length_nil]
    omega
theorem ovTwo {m : Str → Option Value} {a b : Str} {v w : Option Value} (h : m a = v) (h2 : m b = w) : m = ov m [(a, v), (b, w)] := by
  funext z
  simp only [ov]
  rw [ovself h2, ovself h]
theorem mem6 {b6 : List Bool} (h : b6.length = 6) : b6 ∈ all6 := by
  match b6, h with
  | [a, b, c, d, e, f], _ => revert a b c d e f; decide +kernel
theorem intsAt {vs : List Value} {ns : List Int} (h : IntsAre vs ns) {k : Nat} (hk : k < ns.length) : ∃ t, vs[k]? = some (.int ((ns[k]?).getD 0) t) := by
  induction vs generalizing ns k with
  | nil => cases h; exact absurd hk (Nat.not_lt_zero _)
  | cons v vs ih =>
    cases h with
    | cons n t h =>
      cases k with
      | zero => exact ⟨t, rfl⟩
      | succ k => simpa using ih h (Nat.lt_of_succ_lt_succ hk)
end Mine
end
section
open PySem PySem.W PyProof.Rows PySem.Calls
set_option maxRecDepth 100000
set_option maxHeartbeats 8000000
namespace Mine
def L8 : List Nat := [65, 66, 67, 68, 97, 98, 99, 100]
theorem costL : ∀ x ∈ L8, ∀ y ∈ L8, (cost (SN [x]) (SN [y]) == 1) = (x + 32 == y || y + 32 == x) := by decide +kernel
def prN (l : List Nat) (i j : Nat) : Bool := l.getD i 0 + 32 == l.getD j 0 || l.getD j 0 + 32 == l.getD i 0
def outN (l : List Nat) (k : Nat) : List (Nat × Nat) := (List.range k).flatMap fun sh => ((List.range sh).filter fun i => prN l i sh).map fun i => (i, sh)
def meetN (l : List Nat) : Int := (cout (outN l l.length) (outN l l.length).length).1 + 7 * (cout (outN l l.length) (outN l l.length).length).2
theorem itemSN {l : List Nat} {i x : Nat} (h : l[i]? = some x) : Txt.item (SN l) (i : Int) = SN [x] := PyProof.Rows.item_meets (by omega) (by simpa [SN] using h)
theorem pr_eq {l : List Nat} (hl : ∀ x ∈ l, x ∈ L8) {i j : Nat} (hi : i < l.length) (hj : j < l.length) : pr (SN l) i j = prN l i j := by
  have ei := List.getElem?_eq_getElem hi
  have ej := List.getElem?_eq_getElem hj
  unfold pr prN
  rw [itemSN ei, itemSN ej, costL _ (hl _ (List.getElem_mem hi)) _ (hl _ (List.getElem_mem hj))]
  simp [List.getD, hi, hj]
theorem out_eq {l : List Nat} (hl : ∀ x ∈ l, x ∈ L8) {k : Nat} (hk : k ≤ l.length) : outr (SN l) k = outN l k := by
  unfold outr outN
  induction k with
  | zero => rfl
  | succ k ih =>
    rw [List.range_succ, List.flatMap_append, List.flatMap_append, ih (by omega)]
    congr 1
    simp only [List.flatMap_cons, List.flatMap_nil, List.append_nil]
    unfold inn
    congr 1
    refine List.filter_congr fun i hi => pr_eq hl ?_ (by omega)
    have := List.mem_range.mp hi
    omega
theorem meet_eq {l : List Nat} (hl : ∀ x ∈ l, x ∈ L8) : meetF (SN l) = meetN l := by
  unfold meetF meetN
  rw [SN_len, out_eq hl (Nat.le_refl _)]
theorem okAll : ∀ b6 ∈ all6, ∀ i < 13, okW (foldW ((opensOf b6).take i)) = true := by decide +kernel
theorem meetAll : ∀ b6 ∈ all6, ∀ p ∈ (foldW (opensOf b6)).1, (∀ x ∈ p.1, x ∈ L8) ∧ 0 ≤ meetN p.1 ∧ meetN p.1 < 49 := by decide +kernel
theorem hist_len (ws : List Wy) : (histF ws).length = 49 := by
  have h : ∀ (ws : List Wy) (h : List Int), (ws.foldl (fun h p => h.set (meetF (SN p.1)).toNat ((h[(meetF (SN p.1)).toNat]?).getD 0 + 1)) h).length = h.length := by
    intro ws
    induction ws with
    | nil => intro h; rfl
    | cons p r ih => intro h; rw [List.foldl_cons, ih, List.length_set]
  rw [histF, h, List.length_replicate]
end Mine
end
section
set_option maxRecDepth 100000
set_option maxHeartbeats 8000000
namespace Mine
open PySem PySem.W PyProof.Rows PySem.Calls
def histN (ws : List Wy) : List Int := ws.foldl (fun h p => h.set (meetN p.1).toNat ((h[(meetN p.1).toNat]?).getD 0 + 1)) (List.replicate 49 0)
theorem hist_eq {ws : List Wy} (h : ∀ p ∈ ws, ∀ x ∈ p.1, x ∈ L8) : histF ws = histN ws := by
  have g : ∀ (ws : List Wy) (z : List Int), (∀ p ∈ ws, ∀ x ∈ p.1, x ∈ L8) → ws.foldl (fun h p => h.set (meetF (SN p.1)).toNat ((h[(meetF (SN p.1)).toNat]?).getD 0 + 1)) z = ws.foldl (fun h p => h.set (meetN p.1).toNat ((h[(meetN p.1).toNat]?).getD 0 + 1)) z := by
    intro ws
    induction ws with
    | nil => intro z _; rw [List.foldl_nil, List.foldl_nil]
    | cons p r ih =>
      intro z hz
      rw [List.foldl_cons, List.foldl_cons, meet_eq (hz p (.head _))]
      exact ih _ fun q hq => hz q (.tail _ hq)
  unfold histF histN
  exact g ws _ h
def trimR (l : List Int) : List Int := (l.reverse.dropWhile (· == 0)).reverse
theorem trim_snoc (l : List Int) (z : Int) : trimR (l ++ [z]) = if z = 0 then trimR l else l ++ [z] := by
  unfold trimR
  rw [List.reverse_append, List.reverse_cons, List.reverse_nil, List.nil_append, List.singleton_append, List.dropWhile_cons]
  by_cases h : z = 0
  · rw [if_pos (by simpa using h), if_pos h]
  · rw [if_neg (by simpa using h), if_neg h]
    simp
def kOf (x : Nat) : Nat := (Builtin.Int.intBits (x : Int) + 4) / 5
def tabX0 : List Nat := [1, 1, 1, 34359738400, 1, 1, 34359738400, 40564819282861204644177570201600, 1, 1, 1, 1180591622916434560000, 34359738400, 34359738400, 40564819282861204644177570201600, 1645504561918692671888874229137558972624288701045781162885120000]
def tabX1 : List Nat := [1, 1, 1, 34359738400, 1, 1, 1180591622916434560000, 47890485785863498222573957982482708011622678816358400, 34359738400, 34359738400, 34359738400, 1393796578802386595082806395274611261440000, 40564819282861204644177570201600, 40564819282861204644177570201600, 1645504561918692671888874229137558972624288701045781162885120000, 1645504561918692671888874229137558972624288701045781162885120000]
def tabX2 : List Nat := [1, 1, 1, 34359738400, 1, 1, 34359738400, 1393796578802386595082806395274611261440000, 1, 1, 1, 40564819320640136542319104000000, 1180591622916434560000, 1180591622916434560000, 47890485785863498222573957982482708011622678816358400, 1645504561918692671888874229137558972624288701045781162885120000]
def tabX3 : List Nat := [34359738400, 34359738400, 34359738400, 1180591622916434560000, 34359738400, 34359738400, 1393796578802386595082806395274611261440000, 47890485785863498222573957982482708011622678816358400, 40564819282861204644177570201600, 40564819282861204644177570201600, 40564819282861204644177570201600, 1393796578802386595082806395274611261440000, 1645504561918692671888874229137558972624288701045781162885120000, 40564819282861204644177570201600, 1645504561918692671888874229137558972624288701045781162885120000, 1645504561918692671888874229137558972624288701045781162885120000]
def tabX : List Nat := tabX0 ++ tabX1 ++ tabX2 ++ tabX3
def tabH0 : List (List Int) := [[1], [1], [1], [0, 1, 0, 0, 0, 0, 0, 1], [1], [1], [0, 1, 0, 0, 0, 0, 0, 1], [0, 0, 0, 1, 0, 0, 0, 0, 0, 2, 0, 0, 0, 0, 0, 2, 0, 0, 0, 0, 0, 1], [1], [1], [1], [0, 0, 1, 0, 0, 0, 0, 0, 2, 0, 0, 0, 0, 0, 1], [0, 1, 0, 0, 0, 0, 0, 1], [0, 1, 0, 0, 0, 0, 0, 1], [0, 0, 0, 1, 0, 0, 0, 0, 0, 2, 0, 0, 0, 0, 0, 2, 0, 0, 0, 0, 0, 1], [0, 0, 0, 0, 0, 0, 1, 0, 0, 0, 0, 0, 3, 0, 0, 0, 0, 0, 5, 0, 0, 0, 0, 0, 6, 0, 0, 0, 0, 0, 5, 0, 0, 0, 0, 0, 3, 0, 0, 0, 0, 0, 1]]
def tabH1 : List (List Int) := [[1], [1], [1], [0, 1, 0, 0, 0, 0, 0, 1], [1], [1], [0, 0, 1, 0, 0, 0, 0, 0, 2, 0, 0, 0, 0, 0, 1], [0, 0, 0, 0, 0, 1, 0, 0, 0, 0, 0, 3, 0, 0, 0, 0, 0, 5, 0, 0, 0, 0, 0, 5, 0, 0, 0, 0, 0, 3, 0, 0, 0, 0, 0, 1], [0, 1, 0, 0, 0, 0, 0, 1], [0, 1, 0, 0, 0, 0, 0, 1], [0, 1, 0, 0, 0, 0, 0, 1], [0, 0, 0, 0, 1, 0, 0, 0, 0, 0, 3, 0, 0, 0, 0, 0, 4, 0, 0, 0, 0, 0, 3, 0, 0, 0, 0, 0, 1], [0, 0, 0, 1, 0, 0, 0, 0, 0, 2, 0, 0, 0, 0, 0, 2, 0, 0, 0, 0, 0, 1], [0, 0, 0, 1, 0, 0, 0, 0, 0, 2, 0, 0, 0, 0, 0, 2, 0, 0, 0, 0, 0, 1], [0, 0, 0, 0, 0, 0, 1, 0, 0, 0, 0, 0, 3, 0, 0, 0, 0, 0, 5, 0, 0, 0, 0, 0, 6, 0, 0, 0, 0, 0, 5, 0, 0, 0, 0, 0, 3, 0, 0, 0, 0, 0, 1], [0, 0, 0, 0, 0, 0, 1, 0, 0, 0, 0, 0, 3, 0, 0, 0, 0, 0, 5, 0, 0, 0, 0, 0, 6, 0, 0, 0, 0, 0, 5, 0, 0, 0, 0, 0, 3, 0, 0, 0, 0, 0, 1]]
def tabH2 : List (List Int) := [[1], [1], [1], [0, 1, 0, 0, 0, 0, 0, 1], [1], [1], [0, 1, 0, 0, 0, 0, 0, 1], [0, 0, 0, 0, 1, 0, 0, 0, 0, 0, 3, 0, 0, 0, 0, 0, 4, 0, 0, 0, 0, 0, 3, 0, 0, 0, 0, 0, 1], [1], [1], [1], [0, 0, 0, 1, 0, 0, 0, 0, 0, 3, 0, 0, 0, 0, 0, 3, 0, 0, 0, 0, 0, 1], [0, 0, 1, 0, 0, 0, 0, 0, 2, 0, 0, 0, 0, 0, 1], [0, 0, 1, 0, 0, 0, 0, 0, 2, 0, 0, 0, 0, 0, 1], [0, 0, 0, 0, 0, 1, 0, 0, 0, 0, 0, 3, 0, 0, 0, 0, 0, 5, 0, 0, 0, 0, 0, 5, 0, 0, 0, 0, 0, 3, 0, 0, 0, 0, 0, 1], [0, 0, 0, 0, 0, 0, 1, 0, 0, 0, 0, 0, 3, 0, 0, 0, 0, 0, 5, 0, 0, 0, 0, 0, 6, 0, 0, 0, 0, 0, 5, 0, 0, 0, 0, 0, 3, 0, 0, 0, 0, 0, 1]]
def tabH3 : List (List Int) := [[0, 1, 0, 0, 0, 0, 0, 1], [0, 1, 0, 0, 0, 0, 0, 1], [0, 1, 0, 0, 0, 0, 0, 1], [0, 0, 1, 0, 0, 0, 0, 0, 2, 0, 0, 0, 0, 0, 1], [0, 1, 0, 0, 0, 0, 0, 1], [0, 1, 0, 0, 0, 0, 0, 1], [0, 0, 0, 0, 1, 0, 0, 0, 0, 0, 3, 0, 0, 0, 0, 0, 4, 0, 0, 0, 0, 0, 3, 0, 0, 0, 0, 0, 1], [0, 0, 0, 0, 0, 1, 0, 0, 0, 0, 0, 3, 0, 0, 0, 0, 0, 5, 0, 0, 0, 0, 0, 5, 0, 0, 0, 0, 0, 3, 0, 0, 0, 0, 0, 1], [0, 0, 0, 1, 0, 0, 0, 0, 0, 2, 0, 0, 0, 0, 0, 2, 0, 0, 0, 0, 0, 1], [0, 0, 0, 1, 0, 0, 0, 0, 0, 2, 0, 0, 0, 0, 0, 2, 0, 0, 0, 0, 0, 1], [0, 0, 0, 1, 0, 0, 0, 0, 0, 2, 0, 0, 0, 0, 0, 2, 0, 0, 0, 0, 0, 1], [0, 0, 0, 0, 1, 0, 0, 0, 0, 0, 3, 0, 0, 0, 0, 0, 4, 0, 0, 0, 0, 0, 3, 0, 0, 0, 0, 0, 1], [0, 0, 0, 0, 0, 0, 1, 0, 0, 0, 0, 0, 3, 0, 0, 0, 0, 0, 5, 0, 0, 0, 0, 0, 6, 0, 0, 0, 0, 0, 5, 0, 0, 0, 0, 0, 3, 0, 0, 0, 0, 0, 1], [0, 0, 0, 1, 0, 0, 0, 0, 0, 2, 0, 0, 0, 0, 0, 2, 0, 0, 0, 0, 0, 1], [0, 0, 0, 0, 0, 0, 1, 0, 0, 0, 0, 0, 3, 0, 0, 0, 0, 0, 5, 0, 0, 0, 0, 0, 6, 0, 0, 0, 0, 0, 5, 0, 0, 0, 0, 0, 3, 0, 0, 0, 0, 0, 1], [0, 0, 0, 0, 0, 0, 1, 0, 0, 0, 0, 0, 3, 0, 0, 0, 0, 0, 5, 0, 0, 0, 0, 0, 6, 0, 0, 0, 0, 0, 5, 0, 0, 0, 0, 0, 3, 0, 0, 0, 0, 0, 1]]
def tabH : List (List Int) := tabH0 ++ tabH1 ++ tabH2 ++ tabH3

theorem fX : (all6.map fun b => (foldP (opensOf b)).1) = tabX := by decide +kernel
theorem fH : (all6.map fun b => trimR (histN (foldW (opensOf b)).1)) = tabH := by decide +kernel
theorem fI : (tabX.zip tabH).all (fun p => decide (p.1 < 2 ^ 1000) && p.1 != 0 && decide (kOf p.1 ≤ 64) && decide (0 < kOf p.1) && (inF 5 6 p.1 0 (kOf p.1) (List.replicate (kOf p.1) 0) == p.2) && p.2.length != 0) = true := by decide +kernel
/-- the law in plain Lean -/
theorem plain : ∀ b6 ∈ all6, (foldP (opensOf b6)).1 < 2 ^ 1000 ∧ (foldP (opensOf b6)).1 ≠ 0 ∧ kOf (foldP (opensOf b6)).1 ≤ 64 ∧ 0 < kOf (foldP (opensOf b6)).1 ∧
    inF 5 6 (foldP (opensOf b6)).1 0 (kOf (foldP (opensOf b6)).1) (List.replicate (kOf (foldP (opensOf b6)).1) 0) = trimR (histN (foldW (opensOf b6)).1) ∧ (trimR (histN (foldW (opensOf b6)).1)).length ≠ 0 := by
  intro b6 hb
  obtain ⟨i, hi⟩ := List.getElem?_of_mem hb
  have hx : tabX[i]? = some (foldP (opensOf b6)).1 := by rw [← fX, List.getElem?_map, hi]; rfl
  have hh : tabH[i]? = some (trimR (histN (foldW (opensOf b6)).1)) := by rw [← fH, List.getElem?_map, hi]; rfl
  have hz : (tabX.zip tabH)[i]? = some ((foldP (opensOf b6)).1, trimR (histN (foldW (opensOf b6)).1)) := by rw [List.getElem?_zip_eq_some]; exact ⟨hx, hh⟩
  have h := List.all_eq_true.mp fI _ (List.mem_of_getElem? hz)
  simp only [Bool.and_eq_true, decide_eq_true_eq, bne_iff_ne, beq_iff_eq] at h
  obtain ⟨⟨⟨⟨⟨h1, h2⟩, h3⟩, h4⟩, h5⟩, h6⟩ := h
  exact ⟨h1, h2, h3, h4, h5, h6⟩
theorem prodPos : ∀ b6 ∈ all6, 1 ≤ (foldP (opensOf b6)).1 := fun b6 hb => Nat.pos_of_ne_zero (plain b6 hb).2.1
end Mine
end
section
open PySem PySem.W PyProof.Rows PySem.Calls
set_option maxRecDepth 100000
set_option maxHeartbeats 8000000
namespace Mine
def WPost (J : Nat → Shared → Prop) (n : Nat) (f : Flow) (s' : Shared) : Prop := f = .next ∧ ∃ n', n' < n ∧ J n' s'
theorem whileG {prog : Program} {w : World} {A : Around} {E : Value → Shared → Prop} {env : Env} {test : PySem.Expr} {body orelse : List Stmt} {Q : Flow → Shared → Prop} {pos : Pos} (hE : PassesOwn (model prog w) A env E) (J : Nat → Shared → Prop)
    (turn : ∀ n s, J n s → wpAny (model prog w) A (isTrue test env (eval test env)) (fun b s₂ => WhlIf b (wpAny (model prog w) A (execs body env) (WPost J n) E s₂) (wpAny (model prog w) A (execs orelse env) Q E s₂)) E s)
    (n : Nat) (s : Shared) (h : J n s) : wpAny (model prog w) A (exec (.While test body orelse pos) env) Q E s := by
  refine whl_start 0 ?_
  induction n using Nat.strongRecOn generalizing s with
  | ind n ih =>
    have : WhlRest prog w A E env test body orelse Q (0 + 1) s := by
      refine whl_turn hE (wpAny_mono (turn n s h) (fun b s₂ h₂ => ?_) fun _ _ e => e)
      unfold WhlIf at h₂ ⊢
      split
      · rename_i hb
        rw [if_pos hb] at h₂
        refine wpAny_mono h₂ (fun f s₃ h₃ => ?_) fun _ _ e => e
        obtain ⟨rfl, n', hn, hj⟩ := h₃
        exact ih n' hn s₃ hj
      · rename_i hb
        rw [if_neg hb] at h₂
        exact h₂
    exact this
theorem intsSnoc : ∀ {zs : List Int} {vs : List Value} {z : Int}, IntsAre vs (zs ++ [z]) → ∃ us t, vs = us ++ [.int z t] ∧ IntsAre us zs := by
  intro zs
  induction zs with
  | nil =>
    intro vs z h
    cases h with
    | cons n t h => cases h; exact ⟨[], t, rfl, .nil⟩
  | cons a r ih =>
    intro vs z h
    cases h with
    | cons n t h =>
      obtain ⟨us, t', rfl, h'⟩ := ih h
      exact ⟨_ :: us, t', rfl, .cons _ _ h'⟩
theorem kl_last_snoc (us : List Value) (y : Value) : kl_last (List.toArray (us ++ [y])).toList = some (us, y) := by
  show kl_last (us ++ [y]) = some (us, y)
  induction us with
  | nil => rfl
  | cons a r ih => rw [List.cons_append, kl_last, ih]
theorem it_last {prog : Program} {w : World} {A : Around} {E : Value → Shared → Prop} {s : Shared} {h₀ : Heap} {L l : Addr} {news : List (Addr × Obj)} {value slice : PySem.Expr} {n : Nat} {u : Tok} {v : Value} {us : List Value} {Q : Value → Shared → Prop}
    (N : News h₀ L s.heap news) (hm : (l, listOf (List.toArray (us ++ [v])) n) ∈ news) (hl : us.length < 1000) (hQ : Q v s)
    (hs : subscripted slice false (.ref l) (.int (-1) u) = operate [.ref l, .int (-1) u] (getItem (.ref l) (.int (-1) u))) :
    wpAny (model prog w) A (subscriptTail value slice (.ref l) (.int (-1) u)) Q E s := by
  have hL : s.heap.IsList l (List.toArray (us ++ [v])) := ⟨_, (N _ hm).1, rfl, n, rfl⟩
  have hsz : (List.toArray (us ++ [v])).size = us.length + 1 := by rw [List.size_toArray, List.length_append]; rfl
  refine tail_any hL.typeIs slot_list_getitem.lookup (PySem.wpAny_getItem_list_neg hL (by omega) (by rw [hsz]; omega) (by omega) ?_ hQ) hs
  rw [hsz]
  have e : (-1 + ((us.length + 1 : Nat) : Int)).toNat = us.length := by omega
  rw [e]
  simp
def J6 (base : Heap) (L : Addr) (m : Str → Option Value) (s : Shared) (FL : Addr) (tabs : List (Addr × Obj)) (target : List Int) (n : Nat) (s' : Shared) : Prop :=
  ∃ vs ns k h tk, s' = { s with heap := h, toks := tk } ∧ IntsAre vs ns ∧ ns.length = n ∧ n ≤ 49 ∧ trimR ns = target ∧ Fr base L h m ∧ News base L h ((FL, listOf (List.toArray vs) k) :: tabs)
theorem ordA {h₀ h : Heap} {L : Addr} {a b c : Addr × Obj} (N : News h₀ L h [a, b, c]) : News h₀ L h (b :: c :: a :: []) := fun p hp => N p (by
  simp only [List.mem_cons] at hp ⊢
  rcases hp with h | h | h | h <;> simp_all)
theorem ordB {h₀ h : Heap} {L : Addr} {a b c d e : Addr × Obj} (N : News h₀ L h [a, b, c, d, e]) : News h₀ L h (d :: e :: a :: b :: c :: []) := fun p hp => N p (by
  simp only [List.mem_cons] at hp ⊢
  rcases hp with h | h | h | h | h | h <;> simp_all)
theorem l6 : StageG 12 H6 := by
  conv => whnf
  k_fill
  intro w mean mg mb base L fa cd m news s Q E B X T c1 c2 F N hy hq
  obtain ⟨FL, vs, k, t, b6, tabs, h6, hm, hm2, h62, rfl, hT, hFL, hI⟩ := hy
  conv in List.drop _ _ => whnf
  rw [ovTwo hm hm2] at F
  (repeat' ((fail_if_success (first | (with_reducible show wpAny _ _ (exec (Stmt.While _ _ _ _) _) _ _ _))); first | (k_unfold; (try dsimp only)) | (k_end; kc_close) | walk1 | (dsimp only; walk1) | (leave1; walk_say "STEP leave1"; (try dsimp only)) | fail "no step"))
  have hb6 := mem6 h6
  obtain ⟨p1, p2, p3, p4, p5, p6⟩ := plain b6 hb6
  refine whileG ?hE (J6 base L _ s FL tabs (trimR (histN (foldW (opensOf b6)).1))) ?_ 49 s ⟨vs, _, k, s.heap, s.toks, rfl, hI, hist_len _, by omega, ?_, F, N⟩
  case hE => passes_own
  · rintro n s' ⟨vs, ns, k, h, tk, rfl, hI, hn, h49, htr, F, N⟩
    have hne : ns ≠ [] := by
      rintro rfl
      rw [← htr] at p6
      exact p6 rfl
    obtain ⟨zs, z, rfl⟩ : ∃ zs z, ns = zs ++ [z] := ⟨ns.dropLast, ns.getLast hne, (List.dropLast_concat_getLast hne).symm⟩
    obtain ⟨us, tz, rfl, hI'⟩ := intsSnoc hI
    rw [List.length_append, List.length_singleton] at hn
    have hul := IntsAre.len hI'
    (repeat' ((fail_if_success (first | (with_reducible show WhlIf _ _ _) | (with_reducible show wpAny _ _ (subscriptTail _ _ _ _) _ _ _) | (with_reducible show wpAny _ _ (call (Value.builtin "list.pop") _) _ _ _) | (with_reducible show wpAny _ _ (call (Value.ref _) _) _ _ _) | (with_reducible show wpAny _ _ (compareOp CmpOp.Eq (Value.ref _) (Value.ref _)) _ _ _))); first | (k_unfold; (try dsimp only)) | (k_end; kc_close) | walk1 | (dsimp only; walk1) | (leave1; walk_say "STEP leave1"; (try dsimp only)) | fail "no step"))
    (rename News _ _ _ _ => N')
    refine it_last N' (.head _) (by omega) ?_ (by with_unfolding_all rfl)
    (repeat' ((fail_if_success (first | (with_reducible show WhlIf _ _ _) | (with_reducible show wpAny _ _ (subscriptTail _ _ _ _) _ _ _) | (with_reducible show wpAny _ _ (call (Value.builtin "list.pop") _) _ _ _) | (with_reducible show wpAny _ _ (call (Value.ref _) _) _ _ _) | (with_reducible show wpAny _ _ (compareOp CmpOp.Eq (Value.ref _) (Value.ref _)) _ _ _))); first | (k_unfold; (try dsimp only)) | (k_end; kc_close) | walk1 | (dsimp only; walk1) | (leave1; walk_say "STEP leave1"; (try dsimp only)) | fail "no step"))
    rw [trim_snoc] at htr
    by_cases hz : z = 0
    · refine WhlIf.yes (by simp [hz]) ?_
      rw [if_pos hz] at htr
      (repeat' ((fail_if_success (first | (with_reducible show WhlIf _ _ _) | (with_reducible show wpAny _ _ (subscriptTail _ _ _ _) _ _ _) | (with_reducible show wpAny _ _ (call (Value.builtin "list.pop") _) _ _ _) | (with_reducible show wpAny _ _ (call (Value.ref _) _) _ _ _) | (with_reducible show wpAny _ _ (compareOp CmpOp.Eq (Value.ref _) (Value.ref _)) _ _ _))); first | (k_unfold; (try dsimp only)) | (k_end; kc_close) | walk1 | (dsimp only; walk1) | (leave1; walk_say "STEP leave1"; (try dsimp only)) | fail "no step"))
      (rename Fr _ _ _ _ => Fo); (rename News _ _ _ _ => No)
      refine kl_pop Fo No (kl_last_snoc us _) (Upd.head hFL) (by rw [sizeLine_eq]; simp; omega) fun h' F' N'' => ?_
      clear Fo No
      k_steps
      (rename Fr _ _ _ _ => Fe); (rename News _ _ _ _ => Ne)
      exact ⟨rfl, zs.length, by omega, us, zs, k + 1, _, _, rfl, hI', rfl, by omega, htr, Fe, Ne⟩
    · refine WhlIf.no (by simp [hz]) ?_
      rw [if_neg hz] at htr
      (repeat' ((fail_if_success (first | (with_reducible show WhlIf _ _ _) | (with_reducible show wpAny _ _ (subscriptTail _ _ _ _) _ _ _) | (with_reducible show wpAny _ _ (call (Value.builtin "list.pop") _) _ _ _) | (with_reducible show wpAny _ _ (call (Value.ref _) _) _ _ _) | (with_reducible show wpAny _ _ (compareOp CmpOp.Eq (Value.ref _) (Value.ref _)) _ _ _))); first | (k_unfold; (try dsimp only)) | (k_end; kc_close) | walk1 | (dsimp only; walk1) | (leave1; walk_say "STEP leave1"; (try dsimp only)) | fail "no step"))
      have hkk : ((Builtin.Int.intBits (((foldP (opensOf b6)).1 : Nat) : Int) : Int) + 5 - 1).fdiv 5 = (kOf (foldP (opensOf b6)).1 : Int) := by
        rw [Int.fdiv_eq_ediv_of_nonneg _ (by decide)]
        unfold kOf
        omega
      have hk64 : kOf (foldP (opensOf b6)).1 ≤ 2 ^ 6 := p3
      (rename Fr _ _ _ _ => Fo); (rename News _ _ _ _ => No)
      rcases hT with rfl | ⟨c, oc, c2, oc2, rfl, hr1, hr2, h62c⟩
      · have N2 := ordA No
        clear No
        have hoff5 : OwnOff ((62, tabObj #[]) :: (FL, listOf (List.toArray (us ++ [Value.int z tz])) k) :: []) [55] := by
          intro p hp b hb
          rw [List.mem_singleton.mp hb]
          simp only [List.mem_cons, List.not_mem_nil, or_false] at hp
          rcases hp with rfl | rfl
          · decide
          · exact Nat.ne_of_gt (Nat.lt_trans (by decide) h62)
        (k_dflt (refine' Ctr.use (c_i2d_f5 w mean mg mb (foldP (opensOf b6)).1 (kOf (foldP (opensOf b6)).1) 6 _ _ _ _ rfl p1 p2 hkk p3 p4 hk64 (by omega) hoff5) ?k1 ?k2 ?k3 ?k4 ?k5 ?k6 ?k7 ?k8 ?k9 ?k10 ?kR; (case k1 => k_asm); (case k2 => k_asm); (case k3 => k_asm); (case k4 => k_asm); (case k5 => k_asm); (case k6 => assumption); (case k7 => assumption); (case k8 => first | exact rfl | assumption); (case k9 => ktr_room); (case k10 => ktr_units)))
        case kR =>
          intro v ns3 hB tkB FB NB hr
          obtain ⟨l, ds, nn, c, oc, rfl, rfl, hId, _, hl1, hl2, hl3⟩ := hr
          clear Fo N2
          (repeat' ((fail_if_success (first | (with_reducible show WhlIf _ _ _) | (with_reducible show wpAny _ _ (subscriptTail _ _ _ _) _ _ _) | (with_reducible show wpAny _ _ (call (Value.builtin "list.pop") _) _ _ _) | (with_reducible show wpAny _ _ (call (Value.ref _) _) _ _ _) | (with_reducible show wpAny _ _ (compareOp CmpOp.Eq (Value.ref _) (Value.ref _)) _ _ _))); first | (k_unfold; (try dsimp only)) | (k_end; kc_close) | walk1 | (dsimp only; walk1) | (leave1; walk_say "STEP leave1"; (try dsimp only)) | fail "no step"))
          rw [p5] at hId
          refine eq_intsK (⟨_, (NB _ (.head _)).1, rfl, nn, rfl⟩ : Heap.IsList _ l (List.toArray ds)) hId (⟨_, (NB (FL, _) (.tail _ (.tail _ (.tail _ (.tail _ (.head _)))))).1, rfl, k, rfl⟩ : Heap.IsList _ FL (List.toArray (us ++ [Value.int z tz]))) hI (by show callerA.units + 3 + 64 < cLine; decide) ?_
          rw [decide_eq_true htr.symm]
          k_steps
          exact hq _ _ _ _ _ _ FB NB (.tail _ (.tail _ (.tail _ (.head _)))) (.tail _ (.tail _ (.head _)))
      · have N2 := ordB No
        clear No
        (k_dflt (refine' Ctr.use (c_i2d_g5 w mean mg mb (foldP (opensOf b6)).1 (kOf (foldP (opensOf b6)).1) 6 _ _ _ _ c oc hr1 rfl p1 p2 hkk p3 p4 hk64 (by omega)) ?k1 ?k2 ?k3 ?k4 ?k5 ?k6 ?k7 ?k8 ?k9 ?k10 ?kR; (case k1 => k_asm); (case k2 => k_asm); (case k3 => k_asm); (case k4 => k_asm); (case k5 => k_asm); (case k6 => assumption); (case k7 => assumption); (case k8 => first | exact rfl | assumption); (case k9 => ktr_room); (case k10 => ktr_units)))
        case kR =>
          intro v ns3 hB tkB FB NB hr
          obtain ⟨l, ds, nn, rfl, rfl, hId, hl1, hl2, hl3⟩ := hr
          clear Fo N2
          (repeat' ((fail_if_success (first | (with_reducible show WhlIf _ _ _) | (with_reducible show wpAny _ _ (subscriptTail _ _ _ _) _ _ _) | (with_reducible show wpAny _ _ (call (Value.builtin "list.pop") _) _ _ _) | (with_reducible show wpAny _ _ (call (Value.ref _) _) _ _ _) | (with_reducible show wpAny _ _ (compareOp CmpOp.Eq (Value.ref _) (Value.ref _)) _ _ _))); first | (k_unfold; (try dsimp only)) | (k_end; kc_close) | walk1 | (dsimp only; walk1) | (leave1; walk_say "STEP leave1"; (try dsimp only)) | fail "no step"))
          rw [p5] at hId
          refine eq_intsK (⟨_, (NB _ (.head _)).1, rfl, nn, rfl⟩ : Heap.IsList _ l (List.toArray ds)) hId (⟨_, (NB (FL, _) (.tail _ (.tail _ (.tail _ (.head _))))).1, rfl, k, rfl⟩ : Heap.IsList _ FL (List.toArray (us ++ [Value.int z tz]))) hI (by show callerA.units + 3 + 64 < cLine; decide) ?_
          rw [decide_eq_true htr.symm]
          k_steps
          exact hq _ _ _ _ _ _ FB NB (.tail _ (.tail _ (.tail _ (.tail _ (.tail _ (.head _)))))) (.tail _ (.tail _ (.head _)))
  · rw [hist_eq]
    exact fun p hp => (meetAll b6 hb6 p hp).1
end Mine
end
section
open PySem PySem.W PyProof.Rows PySem.Calls
set_option maxRecDepth 100000
set_option maxHeartbeats 8000000
namespace Mine
theorem tabSplit {ns cst : List (Addr × Obj)} (h : TabL ns cst) : ∃ tabs, TabL tabs [] ∧ (∀ p ∈ tabs, p ∈ ns) ∧ ∀ p ∈ cst, p ∈ ns := by
  rcases h with rfl | ⟨c, oc, c2, oc2, rfl, h1, h2, h3⟩
  · exact ⟨_, .inl rfl, fun p hp => by simp only [List.mem_cons] at hp ⊢; rcases hp with h | h | h <;> simp_all, fun p hp => .tail _ (.tail _ hp)⟩
  · exact ⟨_, .inr ⟨c, oc, c2, oc2, rfl, h1, h2, h3⟩, fun p hp => by simp only [List.mem_cons] at hp ⊢; rcases hp with h | h | h | h | h <;> simp_all, fun p hp => .tail _ (.tail _ (.tail _ (.tail _ hp)))⟩
theorem reord5 {h₀ h : Heap} {L : Addr} {a b c : Addr × Obj} {r : List (Addr × Obj)} (N : News h₀ L h (a :: b :: c :: r)) : News h₀ L h (c :: a :: r) := fun p hp => N p (by
  simp only [List.mem_cons] at hp ⊢
  rcases hp with h | h | h <;> simp [h])
theorem hist_succ {ws : List Wy} {i : Nat} {p : Wy} (h : ws[i]? = some p) : histF (ws.take (i + 1)) = (histF (ws.take i)).set (meetF (SN p.1)).toNat (((histF (ws.take i))[(meetF (SN p.1)).toNat]?).getD 0 + 1) := by
  rw [List.take_add_one, h, histF, List.foldl_append]
  rfl
theorem textAt {ys : List Value} {ws : List Wy} (hd : DatAll [] ys (ws.map fun p => Dat.str (SN p.1))) {k : Nat} {v : Value} (hv : ys[k]? = some v) : ∃ p t, ws[k]? = some p ∧ v = .str (SN p.1) t := by
  have hk : k < ws.length := by
    have h1 := hd.length
    have h2 := (List.getElem?_eq_some_iff.mp hv).1
    rw [List.length_map] at h1
    omega
  obtain ⟨v', hv', hi⟩ := hd.get (k := k) (by rw [List.length_map]; exact hk)
  rw [hv] at hv'
  cases hv'
  rw [List.getElem_map] at hi
  refine ⟨ws[k], ?_⟩
  cases hi with
  | str x t => exact ⟨t, List.getElem?_eq_getElem hk, rfl⟩
theorem sub6 {h₀ h : Heap} {L : Addr} {a b : Addr × Obj} {r : List (Addr × Obj)} (N : News h₀ L h (a :: b :: r)) : News h₀ L h (a :: r) := fun p hp => N p (by
  simp only [List.mem_cons] at hp ⊢
  rcases hp with h | h <;> simp [h])
theorem meetLen : ∀ b6 ∈ all6, ∀ p ∈ (foldW (opensOf b6)).1, p.1.length ≤ 12 := by
  intro b6 hb p hp
  have h := okAll b6 hb 12 (by omega)
  have hl : b6.length = 6 := (by decide +kernel : ∀ b ∈ all6, b.length = 6) b6 hb
  rw [List.take_of_length_le (by rw [opensOf, List.length_append, List.length_replicate]; omega)] at h
  obtain ⟨k, hk⟩ := List.getElem?_of_mem hp
  exact (okW_all (ws := (foldW (opensOf b6)).1) (u := (foldW (opensOf b6)).2) h hk).1
def J5 (m₀ : Str → Option Value) (FL : Addr) (cst : List (Addr × Obj)) (ws : List Wy) (i : Nat) (m : Str → Option Value) (nx : List (Addr × Obj)) : Prop :=
  ∃ u vs k, m = ov m₀ [(Str.ofString "text", u)] ∧ nx = (FL, listOf (List.toArray vs) k) :: cst ∧ IntsAre vs (histF (ws.take i))
theorem ovX {m₀ : Str → Option Value} {u u' : Option Value} : (fun y => if y = Str.ofString "text" then u' else ov m₀ [(Str.ofString "text", u)] y) = ov m₀ [(Str.ofString "text", u')] := by
  funext y
  by_cases h1 : y = Str.ofString "text"
  · subst h1; rfl
  simp only [ov, if_neg h1]
theorem J5.fin {base h' : Heap} {L FL D : Addr} {m₀ m' : Str → Option Value} {own tabs : List (Addr × Obj)} {vs ys : List Value} {k' nn : Nat} {ws : List Wy} {i : Nat} {p : Wy} {t : Tok} {u : Option Value} {s₁ : Shared} {tk : Nat}
    (F : Fr base L h' m') (N : News base L h' ((FL, listOf (List.toArray (vs.set (meetF (SN p.1)).toNat (.int (((histF (ws.take i))[(meetF (SN p.1)).toNat]?).getD 0 + 1) t))) k') :: (D, listOf (List.toArray ys) nn) :: (tabs ++ own)))
    (hp : ws[i]? = some p) (hI : IntsAre vs (histF (ws.take i))) (hm : m' = ov m₀ [(Str.ofString "text", u)]) (hoff : OwnOff own (((FL, listOf (List.toArray vs) k') :: (D, listOf (List.toArray ys) nn) :: tabs).map (·.1))) :
    InvEndG base L (fun m' nx => (D, listOf (List.toArray ys) nn) ∈ nx ∧ J5 m₀ FL ((D, listOf (List.toArray ys) nn) :: tabs) ws (i + 1) m' nx) own s₁ { s₁ with heap := h', toks := tk } := by
  refine InvEndG.intro (nx := (FL, listOf (List.toArray (vs.set (meetF (SN p.1)).toNat (.int (((histF (ws.take i))[(meetF (SN p.1)).toNat]?).getD 0 + 1) t))) k') :: (D, listOf (List.toArray ys) nn) :: tabs) F N ⟨.tail _ (.head _), u, _, k', hm, rfl, ?_⟩ hoff (fun q hq => ?_) (fun q hq => ?_)
  · rw [hist_succ hp]
    exact IntsAre.set hI _ _ _
  · rcases List.mem_cons.mp hq with rfl | hq
    · exact .head _
    rcases List.mem_cons.mp hq with rfl | hq
    · exact .tail _ (.head _)
    · exact .tail _ (.tail _ (List.mem_append_left _ hq))
  · exact .tail _ (.tail _ (List.mem_append_right _ hq))
theorem l5 (l6 : StageG 12 H6) : StageG 10 H5 := by
  conv => whnf
  k_fill
  intro w mean mg mb base L fa cd m news s Q E B X T c1 c2 F N hy hq
  obtain ⟨OL, k, t, b6, h6, hm, hm2, h62, hT⟩ := hy
  obtain ⟨tabs, hT, hs1, hs2⟩ := tabSplit hT
  have N0 : News base L s.heap ((OL, listOf (List.toArray ((opensOf b6).map Value.bool)) k) :: tabs) := fun p hp => N p (by
    rcases List.mem_cons.mp hp with rfl | hp
    · exact hs2 _ (.head _)
    · exact hs1 p hp)
  conv in List.drop _ _ => whnf
  rw [ovTwo hm hm2] at F
  clear N
  (repeat' ((fail_if_success (first | (with_reducible show wpAny _ _ (compareOp CmpOp.NotEq (Value.ref _) (Value.ref _)) _ _ _) | (with_reducible show wpAny _ _ (compareOp CmpOp.Eq (Value.ref _) (Value.ref _)) _ _ _) | (with_reducible show wpAny _ _ (inplaceOp Operator.Add (Value.ref _) (Value.ref _)) _ _ _) | (with_reducible show wpAny _ _ (binaryOp Operator.Mult (Value.ref _) (Value.int _ _)) _ _ _) | (with_reducible show wpAny _ _ (call (Value.ref _) _) _ _ _))); first | (k_unfold; (try dsimp only)) | (k_end; kc_close) | walk1 | (dsimp only; walk1) | (leave1; walk_say "STEP leave1"; (try dsimp only)) | fail "no step"))
  (rename Fr _ _ _ _ => Fo); (rename News _ _ _ _ => No)
  refine mulL (k := 49) Fo No (.head _) rfl (by omega) fun FL hA F6 N6 lt6 => ?_
  clear Fo No
  have N7 := reord5 N6
  clear N6
  (repeat' ((fail_if_success (first | (with_reducible show wpAny _ _ (exec (Stmt.For _ _ _ _ _) _) _ _ _))); first | (k_unfold; (try dsimp only)) | (k_end; kc_close) | walk1 | (dsimp only; walk1) | (leave1; walk_say "STEP leave1"; (try dsimp only)) | fail "no step"))
  ((rename Fr _ _ _ _ => lF'); (with_unfolding_all refine' For_invVF lF' ?k1 ?k2 ?_; (case k1 => exact rfl); (case k2 => exact rfl); k_whole))
  (repeat' ((fail_if_success (first | (with_reducible show wpAny _ _ (call (Value.ref _) _) _ _ _) | (with_reducible show wpAny _ _ (exec (Stmt.For _ _ _ _ _) _) _ _ _))); first | (k_unfold; (try dsimp only)) | (k_end; kc_close) | walk1 | (dsimp only; walk1) | (leave1; walk_say "STEP leave1"; (try dsimp only)) | fail "no step"))
  (rename Fr _ _ _ _ => Fo); (rename News _ _ _ _ => No)
  have hb6 := mem6 h6
  rename (_ ∧ AllLt _ tabs) => l1
  (k_dflt (refine' Ctr.use (c_ways w mean mg mb OL k (opensOf b6) ((FL, listOf (List.toArray (List.replicate 49 (Value.int 0 _))) 0) :: tabs) (by rw [opensOf, List.length_append, List.length_replicate, h6]; decide) (fun i hi => okAll b6 hb6 i (by omega))) ?k1 ?k2 ?k3 ?k4 ?k5 ?k6 ?k7 ?k8 ?k9 ?k10 ?kR; (case k1 => k_asm); (case k2 => k_asm); (case k3 => k_asm); (case k4 => k_asm); (case k5 => k_asm); (case k6 => assumption); (case k7 => assumption); (case k8 => first | exact rfl | assumption); (case k9 => ktr_room); (case k10 => ktr_units)))
  case kR =>
    intro v ns h9 tk9 F9 N9 hr
    obtain ⟨D, ys, nn, rfl, rfl, hd, hoD⟩ := hr
    clear Fo No
    have hFL : ∀ p ∈ tabs, p.1 ≠ FL := fun p hp => Nat.ne_of_lt (lt6 p (.tail _ (.tail _ hp)))
    have hDF : D ≠ FL := Ne.symm (hoD (FL, _) (.tail _ (.head _)))
    have hOF : OL ≠ FL := Nat.ne_of_lt (lt6 (OL, _) (.tail _ (.head _)))
    have N10 := reord5 N9
    clear N9
    (repeat' ((fail_if_success (first | (with_reducible show wpAny _ _ (pyIter _) _ _ _))); first | (k_unfold; (try dsimp only)) | (k_end; kc_close) | walk1 | (dsimp only; walk1) | (leave1; walk_say "STEP leave1"; (try dsimp only)) | fail "no step"))
    (rename Fr _ _ _ _ => Fo); (rename News _ _ _ _ => No)
    refine kdl_iter (J5 _ FL ((D, listOf (List.toArray ys) nn) :: tabs) (foldW (opensOf b6)).1) rfl (.tail _ (.head _)) Fo No ⟨_, _, 0, ovOne rfl, rfl, intsAre_rep _ 49⟩ ?_ ?_
    · rintro i v m₁ nx h tk own hv hoff hmem ⟨u, vs, k', rfl, rfl, hI⟩ F N
      clear Fo No
      obtain ⟨p, tp, hp, rfl⟩ := textAt hd hv
      obtain ⟨hL8, hm0, hm1⟩ := meetAll b6 hb6 p (List.mem_of_getElem? hp)
      rw [← meet_eq hL8] at hm0 hm1
      have hlen := hist_len ((foldW (opensOf b6)).1.take i)
      have hvl := IntsAre.len hI
      have hkl : (meetF (SN p.1)).toNat < 49 := by omega
      have hke : meetF (SN p.1) = ((meetF (SN p.1)).toNat : Int) := by omega
      obtain ⟨tz, hz⟩ := intsAt hI (k := (meetF (SN p.1)).toNat) (by omega)
      (repeat' ((fail_if_success (first | (with_reducible show wpAny _ _ (call (Value.ref _) _) _ _ _) | (with_reducible show wpAny _ _ (exec (Stmt.For _ _ _ _ _) _) _ _ _))); first | (k_unfold; (try dsimp only)) | (k_end; kc_close) | walk1 | (dsimp only; walk1) | (leave1; walk_say "STEP leave1"; (try dsimp only)) | fail "no step"))
      (rename Fr _ _ _ _ => Fo); (rename News _ _ _ _ => No)
      (k_dflt (refine' Ctr.use (c_meet w mean mg mb _ (SN p.1) _ ?hal) ?k1 ?k2 ?k3 ?k4 ?k5 ?k6 ?k7 ?k8 ?k9 ?k10 ?kR; (case k1 => k_asm); (case k2 => k_asm); (case k3 => k_asm); (case k4 => k_asm); (case k5 => k_asm); (case k6 => assumption); (case k7 => assumption); (case k8 => first | exact rfl | assumption); (case k9 => ktr_room); (case k10 => ktr_units)))
      case kR =>
        intro v2 ns2 hB tkB FB NB hr
        obtain ⟨⟨tm, rfl⟩, rfl⟩ := hr
        clear Fo No
        replace NB : News base L hB ((FL, listOf (List.toArray vs) k') :: ((D, listOf (List.toArray ys) nn) :: (tabs ++ own))) := NB
        refine PySem.wpAny_getItem_list (⟨_, (NB _ (.head _)).1, rfl, k', rfl⟩ : Heap.IsList _ FL (List.toArray vs)) hm0 (by omega) (by simpa using hz) ?_
        (repeat' ((fail_if_success (first | (with_reducible show wpAny _ _ (setItem (Value.ref _) (Value.int _ _) _) _ _ _) | (with_reducible show wpAny _ _ (call (Value.ref _) _) _ _ _))); first | (k_unfold; (try dsimp only)) | (k_end; kc_close) | walk1 | (dsimp only; walk1) | (leave1; walk_say "STEP leave1"; (try dsimp only)) | fail "no step"))
        have hoff3 : ∀ q ∈ (D, listOf (List.toArray ys) nn) :: (tabs ++ own), q.1 ≠ FL := by
          intro q hq
          rcases List.mem_cons.mp hq with rfl | hq
          · exact hDF
          rcases List.mem_append.mp hq with hq | hq
          · exact hFL q hq
          · exact hoff q hq FL (by simp)
        (rename Fr _ _ _ _ => Fo); (rename News _ _ _ _ => No)
        refine setLN Fo No hoff3 hke (by omega) (by omega) ?_
        intro hC FC NC
        clear Fo No
        (repeat' ((fail_if_success (first | (with_reducible show wpAny _ _ (setItem (Value.ref _) (Value.int _ _) _) _ _ _) | (with_reducible show wpAny _ _ (call (Value.ref _) _) _ _ _))); first | (k_unfold; (try dsimp only)) | (k_end; kc_close) | walk1 | (dsimp only; walk1) | (leave1; walk_say "STEP leave1"; (try dsimp only)) | fail "no step"))
        (rename Fr _ _ _ _ => Fe); (rename News _ _ _ _ => Ne)
        exact J5.fin Fe Ne hp hI ovX hoff
      case hal => rw [SN_len]; have := meetLen b6 hb6 p (List.mem_of_getElem? hp); omega
    · rintro m₁ nx h tk ⟨u, vs, k', rfl, rfl, hI⟩ F N
      clear Fo No
      have hyl := hd.length
      rw [List.length_map] at hyl
      rw [show (foldW (opensOf b6)).1.take ys.length = (foldW (opensOf b6)).1 from List.take_of_length_le (by omega)] at hI
      have N11 := sub6 N
      clear N
      dsimp only
      refine l6 w mean mg mb base L fa cd _ _ _ Q E B X T c1 c2 F N11 ⟨FL, vs, k', t, b6, tabs, h6, rfl, rfl, ?_, rfl, hT, hFL, hI⟩ ?_
      · exact Nat.lt_trans h62 (lt6 (OL, _) (.tail _ (.head _)))
      · intro h' tk' m' ns ps ps' F' N' a b
        exact hq h' tk' m' ns ps ps' F' N' a b
end Mine
end
section
open PySem PySem.W PyProof.Rows PySem.Calls
set_option maxRecDepth 100000
set_option maxHeartbeats 8000000
namespace Mine
theorem opsL_succ {xs : List Nat} {i c : Nat} (h : xs[i]? = some c) : (opsL (xs.take i)).map Value.bool ++ [Value.bool (decide ((c : Int).fmod 3 < 2))] = (opsL (xs.take (i + 1))).map Value.bool := by
  have e3 : (c : Int).fmod 3 = ((c % 3 : Nat) : Int) := fm c 3
  rw [List.take_add_one, h, e3]
  simp [opsL]
  omega
def JB (cst : List (Addr × Obj)) (xs : List Nat) (i : Nat) (ys : List Value) (nx : List (Addr × Obj)) : Prop := nx = cst ∧ ys = (opsL (xs.take i)).map Value.bool
theorem l4 (l5 : StageG 10 H5) : StageG 6 H4 := by
  conv => whnf
  k_fill
  intro w mean mg mb base L fa cd m news s Q E B X T c1 c2 F N hy hq
  obtain ⟨CL, OL, vs, n, k, xs, hm, hm2, rfl, hI, h6, hne, h62, h62'⟩ := hy
  conv in List.drop _ _ => whnf
  rw [ovTwo hm hm2] at F
  (repeat' ((fail_if_success (first | (with_reducible show wpAny _ _ (eval (PySem.Expr.ListComp _ _ _ _) _) _ _ _))); first | (k_unfold; (try dsimp only)) | (k_end; kc_close) | walk1 | (dsimp only; walk1) | (leave1; walk_say "STEP leave1"; (try dsimp only)) | fail "no step"))
  (rename Fr _ _ _ _ => Fo); (rename News _ _ _ _ => No)
  have hlen : vs.length = 6 := by have := IntsAre.len hI; rw [List.length_map] at this; omega
  refine Eval_comp0 (vs := vs) (ax := CL) (nn := n) (JB ((OL, listOf (List.toArray ((opsL xs).map Value.bool)) k) :: (CL, listOf (List.toArray vs) n) :: (62, tabObj #[]) :: (55, tabObj #[]) :: []) xs) Fo No rfl (by with_unfolding_all rfl) (by decide) (by rfl) (by decide) (by rfl) (by rfl) (by rfl) (by decide) (by rfl) (by rfl) (.tail _ (.head _)) (by rw [sizeLine_eq]; omega) ⟨fun i ys nx hj => by rw [hj.1]; exact .tail _ (.head _), ?_⟩ ⟨rfl, rfl⟩ ?_
  · rintro i v ys nx I oI C oC D m₂ h tk E' hv ⟨rfl, rfl⟩ hC h1 F5 N5 off
    clear Fo No
    obtain ⟨c, hc, tc, rfl⟩ := intAt hI hv
    have e4 : (c : Int).fmod 3 = ((c % 3 : Nat) : Int) := fm c 3
    (repeat' ((fail_if_success (first | (with_reducible show wpAny _ _ (binaryOp Operator.Add (Value.str _ _) (Value.str _ _)) _ _ _) | (with_reducible show End3 _ _ _ _ _ _ _ _ _ _ _ _ _) | (with_reducible show End4 _ _ _ _ _ _ _ _ _ _ _ _ _ _ _) | (with_reducible show wpAny _ _ (newTuple _) _ _ _) | (with_reducible show wpAny _ _ (call (Value.builtin "str.replace") _) _ _ _) | (with_reducible show wpAny _ _ (call (Value.builtin "str.upper") _) _ _ _))); first | (k_unfold; (try dsimp only)) | (k_end; kc_close) | walk1 | (dsimp only; walk1) | (leave1; walk_say "STEP leave1"; (try dsimp only)) | fail "no step"))
    exact ⟨_, _, _, rfl, F5, N5, off, rfl, opsL_succ hc⟩
  · rintro D h tk ys nx ⟨rfl, rfl⟩ F5 N5 off
    clear Fo No
    rw [show (xs.take vs.length) = xs from List.take_of_length_le (by omega)] at N5
    (repeat' ((fail_if_success (first | (with_reducible show wpAny _ _ (compareOp CmpOp.NotEq (Value.ref _) (Value.ref _)) _ _ _) | (with_reducible show wpAny _ _ (compareOp CmpOp.Eq (Value.ref _) (Value.ref _)) _ _ _) | (with_reducible show wpAny _ _ (inplaceOp Operator.Add (Value.ref _) (Value.ref _)) _ _ _) | (with_reducible show wpAny _ _ (binaryOp Operator.Mult (Value.ref _) (Value.int _ _)) _ _ _) | (with_reducible show wpAny _ _ (call (Value.ref _) _) _ _ _))); first | (k_unfold; (try dsimp only)) | (k_end; kc_close) | walk1 | (dsimp only; walk1) | (leave1; walk_say "STEP leave1"; (try dsimp only)) | fail "no step"))
    refine ne_boolsK (bs := opsL xs) N5 (.tail _ (.head _)) (.head _) ?_ ?_
    · show callerA.units + 3 + 64 < cLine
      decide
    (repeat' ((fail_if_success (first | (with_reducible show wpAny _ _ (compareOp CmpOp.NotEq (Value.ref _) (Value.ref _)) _ _ _) | (with_reducible show wpAny _ _ (compareOp CmpOp.Eq (Value.ref _) (Value.ref _)) _ _ _) | (with_reducible show wpAny _ _ (inplaceOp Operator.Add (Value.ref _) (Value.ref _)) _ _ _) | (with_reducible show wpAny _ _ (binaryOp Operator.Mult (Value.ref _) (Value.int _ _)) _ _ _) | (with_reducible show wpAny _ _ (call (Value.ref _) _) _ _ _))); first | (k_unfold; (try dsimp only)) | (k_end; kc_close) | walk1 | (dsimp only; walk1) | (leave1; walk_say "STEP leave1"; (try dsimp only)) | fail "no step"))
    (rename Fr _ _ _ _ => Fo); (rename News _ _ _ _ => No)
    refine mulL (k := 6) Fo No (.head _) rfl (by omega) fun l2 hA F6 N6 lt6 => ?_
    clear Fo No
    (repeat' ((fail_if_success (first | (with_reducible show wpAny _ _ (compareOp CmpOp.NotEq (Value.ref _) (Value.ref _)) _ _ _) | (with_reducible show wpAny _ _ (compareOp CmpOp.Eq (Value.ref _) (Value.ref _)) _ _ _) | (with_reducible show wpAny _ _ (inplaceOp Operator.Add (Value.ref _) (Value.ref _)) _ _ _) | (with_reducible show wpAny _ _ (binaryOp Operator.Mult (Value.ref _) (Value.int _ _)) _ _ _) | (with_reducible show wpAny _ _ (call (Value.ref _) _) _ _ _))); first | (k_unfold; (try dsimp only)) | (k_end; kc_close) | walk1 | (dsimp only; walk1) | (leave1; walk_say "STEP leave1"; (try dsimp only)) | fail "no step"))
    have N7 : News base L hA ((OL, listOf (List.toArray ((opsL xs).map Value.bool)) k) :: (l2, listOf (List.toArray (List.replicate 6 (Value.bool false))) 0) :: (62, tabObj #[]) :: (55, tabObj #[]) :: []) := fun p hp => N6 p (by
      simp only [List.mem_cons] at hp ⊢
      rcases hp with h | h | h | h | h <;> simp [h])
    have hOL : @LT.lt Nat _ OL l2 := lt6 (OL, _) (.tail _ (.tail _ (.head _)))
    refine iaddL F6 N7 ?_ (.head _) (by rw [List.length_map, opsL, List.length_map]; omega) (by decide) (by decide) fun h7 F8 N8 => ?_
    · intro p hp
      simp only [List.mem_cons, List.not_mem_nil, or_false] at hp
      rcases hp with rfl | rfl | rfl
      · exact Nat.ne_of_gt hOL
      · exact Nat.ne_of_lt h62'
      · exact Nat.ne_of_lt (Nat.lt_trans (by decide) h62')
    clear F6 N6 N7
    rw [show (opsL xs).map Value.bool ++ List.replicate 6 (Value.bool false) = (opensOf (opsL xs)).map Value.bool by simp [opensOf]] at N8
    have N9 : News base L h7 ((55, tabObj #[]) :: (62, tabObj #[]) :: (OL, listOf (List.toArray ((opensOf (opsL xs)).map Value.bool)) (k + 1)) :: []) := fun p hp => N8 p (by
      simp only [List.mem_cons] at hp ⊢
      rcases hp with h | h | h | h <;> simp [h])
    clear N8
    have h6' : (opsL xs).length = 6 := by rw [opsL, List.length_map]; exact h6
    have hpos := prodPos _ (mem6 h6')
    (repeat' ((fail_if_success (first | (with_reducible show wpAny _ _ (compareOp CmpOp.NotEq (Value.ref _) (Value.ref _)) _ _ _) | (with_reducible show wpAny _ _ (compareOp CmpOp.Eq (Value.ref _) (Value.ref _)) _ _ _) | (with_reducible show wpAny _ _ (inplaceOp Operator.Add (Value.ref _) (Value.ref _)) _ _ _) | (with_reducible show wpAny _ _ (binaryOp Operator.Mult (Value.ref _) (Value.int _ _)) _ _ _) | (with_reducible show wpAny _ _ (call (Value.ref _) _) _ _ _))); first | (k_unfold; (try dsimp only)) | (k_end; kc_close) | walk1 | (dsimp only; walk1) | (leave1; walk_say "STEP leave1"; (try dsimp only)) | fail "no step"))
    (rename Fr _ _ _ _ => Fo); (rename News _ _ _ _ => No)
    (k_dflt (refine' Ctr.use (c_prod w mean mg mb OL (k + 1) (opensOf (opsL xs)) [] (by rw [opensOf, List.length_append, List.length_replicate, h6']; decide) h62' (fun p hp => nomatch hp) (fun p hp => nomatch hp)) ?k1 ?k2 ?k3 ?k4 ?k5 ?k6 ?k7 ?k8 ?k9 ?k10 ?kR; (case k1 => k_asm); (case k2 => k_asm); (case k3 => k_asm); (case k4 => k_asm); (case k5 => k_asm); (case k6 => assumption); (case k7 => assumption); (case k8 => first | exact rfl | assumption); (case k9 => ktr_room); (case k10 => ktr_units)))
    case kR =>
      intro v ns h9 tk9 F9 N9 hr
      obtain ⟨⟨tp, rfl⟩, hT⟩ := hr
      clear Fo No
      (repeat' ((fail_if_success (first | (with_reducible show wpAny _ _ (execs (Stmt.Assign [PySem.Expr.Name (Str.ofString "found") _] _ _ :: _) _) _ _ _))); first | (k_unfold; (try dsimp only)) | (k_end; kc_close) | walk1 | (dsimp only; walk1) | (leave1; walk_say "STEP leave1"; (try dsimp only)) | fail "no step"))
      · (rename Fr _ _ _ _ => Fe); (rename News _ _ _ _ => Ne)
        dsimp only
        refine l5 w mean mg mb base L fa cd _ _ _ Q E B X T c1 c2 Fe Ne ⟨OL, k + 1, tp, opsL xs, h6', rfl, rfl, h62', hT⟩ ?_
        intro h' tk' m' ns ps ps' F' N' a b
        exact hq h' tk' m' ns ps ps' F' N' a b
end Mine
end
section
open PySem PySem.W PyProof.Rows PySem.Calls
set_option maxRecDepth 100000
set_option maxHeartbeats 8000000
namespace Mine
def badS (c : Nat) : Bool := bL.any (fun p => p.1 == (c : Int)) || c == 32
def opF (cs : List Nat) : List Bool := cs.filterMap fun c => if badS c then none else some (c == 40 || c == 91 || c == 123)
def S10 : List Nat := [173, 32, 8205, 8288, 40, 91, 123, 41, 93, 125]
theorem typL_mem (xs : List Nat) : ∀ c ∈ typL xs, c ∈ S10 := by
  intro c hc
  obtain ⟨x, _, hx⟩ := List.mem_flatMap.mp hc
  have hp : ∀ k < 4, ∀ c ∈ preL k, c ∈ S10 := by decide
  have hs : ∀ a < 3, ([40, 91, 123][a]?).getD 0 ∈ S10 ∧ ([41, 93, 125][a]?).getD 0 ∈ S10 := by decide
  rcases List.mem_append.mp hx with h | h
  · exact hp _ (Nat.mod_lt _ (by omega)) _ h
  · rw [List.mem_singleton.mp h, sgL]
    split
    · exact (hs _ (Nat.mod_lt _ (by omega))).1
    · exact (hs _ (Nat.mod_lt _ (by omega))).2
theorem opF_succ {cs : List Nat} {i c : Nat} (h : cs[i]? = some c) : opF (cs.take (i + 1)) = opF (cs.take i) ++ (if badS c then [] else [c == 40 || c == 91 || c == 123]) := by
  rw [List.take_add_one, h, opF, List.filterMap_append]
  congr 1
  simp only [Option.toList_some, List.filterMap_cons, List.filterMap_nil]
  cases badS c <;> rfl
theorem opF_typ (xs : List Nat) : opF (typL xs) = opsL xs := by
  have key : ∀ a < 4, ∀ b < 2, ∀ k < 3, opF (preL a ++ [if b = 0 then ([40, 91, 123][k]?).getD 0 else ([41, 93, 125][k]?).getD 0]) = [decide (b = 0)] := by decide +kernel
  induction xs with
  | nil => rfl
  | cons x r ih =>
    have e : typL (x :: r) = (preL (x / 9 % 4) ++ [sgL x]) ++ typL r := rfl
    rw [e, opF, List.filterMap_append]
    show opF _ ++ opF _ = _
    rw [ih]
    show _ = decide (x % 3 < 2) :: opsL r
    have h1 := Nat.mod_lt (x / 9) (show 4 > 0 by omega)
    have h2 := Nat.mod_lt (x / 3) (show 3 > 0 by omega)
    by_cases h : x % 3 < 2
    · have := key _ h1 0 (by omega) _ h2
      rw [sgL, if_pos h, decide_eq_true h]
      simp only [if_true, decide_true] at this
      rw [this]
      rfl
    · have := key _ h1 1 (by omega) _ h2
      rw [sgL, if_neg h, decide_eq_false h]
      simp only [Nat.one_ne_zero, if_false, decide_false] at this
      rw [this]
      rfl
theorem isBlank : ∀ c ∈ S10, ((⟨#[c]⟩ : Str) == Str.ofString " ") = (c == 32) := by decide +kernel
theorem six : ∀ c ∈ S10, bL.any (fun p => p.1 == (c : Int)) = false → (c == 32) = false → c = 40 ∨ c = 91 ∨ c = 123 ∨ c = 41 ∨ c = 93 ∨ c = 125 := by decide +kernel
theorem ovS {m₀ : Str → Option Value} {u u' : Option Value} : (fun y => if y = Str.ofString "sign" then u' else ov m₀ [(Str.ofString "sign", u)] y) = ov m₀ [(Str.ofString "sign", u')] := by
  funext y
  by_cases h1 : y = Str.ofString "sign"
  · subst h1; rfl
  simp only [ov, if_neg h1]
theorem off3 {own cst : List (Addr × Obj)} {OL : Addr} {o : Obj} (hc : ∀ p ∈ cst, p.1 ≠ OL) (hoff : OwnOff own (((OL, o) :: cst).map (·.1))) : OwnOff (cst ++ own) [OL] := by
  intro p hp b hb
  rw [List.mem_singleton.mp hb]
  rcases List.mem_append.mp hp with hp | hp
  · exact hc p hp
  · exact hoff p hp OL (by simp)
theorem opF_len {xs : List Nat} {i : Nat} (h : xs.length = 6) : ((opF ((typL xs).take i)).map Value.bool).length ≤ 1000 := by
  rw [List.length_map]
  have h1 : (opF ((typL xs).take i)).length ≤ ((typL xs).take i).length := List.length_filterMap_le _ _
  have h2 : ((typL xs).take i).length ≤ (typL xs).length := by rw [List.length_take]; omega
  have h3 := typL_len xs
  omega
def J3L (m₀ : Str → Option Value) (OL : Addr) (cst : List (Addr × Obj)) (cs : List Nat) (i : Nat) (m : Str → Option Value) (nx : List (Addr × Obj)) : Prop :=
  ∃ u n, m = ov m₀ [(Str.ofString "sign", u)] ∧ nx = (OL, listOf (List.toArray ((opF (cs.take i)).map Value.bool)) n) :: cst
theorem l3 (l4 : StageG 6 H4) : StageG 4 H3 := by
  conv => whnf
  k_fill
  intro w mean mg mb base L fa cd m news s Q E B X T c1 c2 F N hy hq
  obtain ⟨CL, vs, n, xs, t, hm, hm2, rfl, hI, h6, h62⟩ := hy
  conv in List.drop _ _ => whnf
  rw [ovOne hm2] at F
  (repeat' ((fail_if_success (first | (with_reducible show wpAny _ _ (exec (Stmt.For _ _ _ _ _) _) _ _ _))); first | (k_unfold; (try dsimp only)) | (k_end; kc_close) | walk1 | (dsimp only; walk1) | (leave1; walk_say "STEP leave1"; (try dsimp only)) | fail "no step"))
  ((rename Fr _ _ _ _ => lF'); (with_unfolding_all refine' For_invVF lF' ?k1 ?k2 ?_; (case k1 => exact rfl); (case k2 => exact rfl); k_whole))
  (repeat' ((fail_if_success (first | (with_reducible show wpAny _ _ (pyIter _) _ _ _))); first | (k_unfold; (try dsimp only)) | (k_end; kc_close) | walk1 | (dsimp only; walk1) | (leave1; walk_say "STEP leave1"; (try dsimp only)) | fail "no step"))
  (rename Fr _ _ _ _ => Fo); (rename News _ _ _ _ => No)
  rename (CL < _ ∧ _ ∧ _) => l1
  rename_i OL _ _
  have hcst : ∀ p ∈ ((CL, listOf (List.toArray vs) n) :: (62, tabObj #[]) :: (55, tabObj #[]) :: []), p.1 ≠ OL := by
    intro p hp
    simp only [List.mem_cons, List.not_mem_nil, or_false] at hp
    rcases hp with rfl | rfl | rfl
    · exact Nat.ne_of_lt l1.1
    · exact Nat.ne_of_lt l1.2.1
    · exact Nat.ne_of_lt l1.2.2
  generalize hcs : ((CL, listOf (List.toArray vs) n) :: (62, tabObj #[]) :: (55, tabObj #[]) :: []) = cst at No hcst
  refine forStr (J3L _ _ _ (typL xs)) Fo No ⟨_, 0, (ovOne rfl), rfl⟩ rfl ?_ ?_
  · rintro i c tc m₁ nx h tk own hc hoff ⟨u, n', rfl, rfl⟩ F N
    clear Fo No
    replace hc : (typL xs)[i]? = some c := by simpa [SN] using hc
    have hS := typL_mem xs c (List.mem_of_getElem? hc)
    (repeat' ((fail_if_success (first | (with_reducible show wpAny _ _ (call (Value.ref _) _) _ _ _) | (with_reducible show wpAny _ _ (exec (Stmt.For _ _ _ _ _) _) _ _ _))); first | (k_unfold; (try dsimp only)) | (k_end; kc_close) | walk1 | (dsimp only; walk1) | (leave1; walk_say "STEP leave1"; (try dsimp only)) | fail "no step"))
    (k_dflt (refine' Ctr.use (c_b1 w mean mg mb _ c _) ?k1 ?k2 ?k3 ?k4 ?k5 ?k6 ?k7 ?k8 ?k9 ?k10 ?kR; (case k1 => k_asm); (case k2 => k_asm); (case k3 => k_asm); (case k4 => k_asm); (case k5 => k_asm); (case k6 => assumption); (case k7 => assumption); (case k8 => first | exact rfl | assumption); (case k9 => ktr_room); (case k10 => ktr_units)))
    case kR =>
      intro v ns h3 tk3 F3 N3 hr
      obtain ⟨rfl, rfl⟩ := hr
      cases hb : bL.any (fun p => p.1 == (c : Int))
      · (repeat' ((fail_if_success (first | (with_reducible show wpAny _ _ (call (Value.ref _) _) _ _ _) | (with_reducible show wpAny _ _ (exec (Stmt.For _ _ _ _ _) _) _ _ _))); first | (k_unfold; (try dsimp only)) | (k_end; kc_close) | walk1 | (dsimp only; walk1) | (leave1; walk_say "STEP leave1"; (try dsimp only)) | fail "no step"))
        (rename Fr _ _ _ _ => Fo); (rename News _ _ _ _ => No)
        (k_dflt (refine' Ctr.use (c_c11 w mean mg mb _ _ _) ?k1 ?k2 ?k3 ?k4 ?k5 ?k6 ?k7 ?k8 ?k9 ?k10 ?kR; (case k1 => k_asm); (case k2 => k_asm); (case k3 => k_asm); (case k4 => k_asm); (case k5 => k_asm); (case k6 => assumption); (case k7 => assumption); (case k8 => first | exact rfl | assumption); (case k9 => ktr_room); (case k10 => ktr_units)))
        case kR =>
          intro v ns h4 tk4 F4 N4 hr
          obtain ⟨rfl, rfl⟩ := hr
          clear Fo No
          rw [isBlank c hS]
          cases hcc : (c == 32)
          · (repeat' ((fail_if_success (first | (with_reducible show wpAny _ _ (call (Value.builtin "dict.get") _) _ _ _) | (with_reducible show wpAny _ _ (exec (Stmt.For _ _ _ _ _) _) _ _ _) | (with_reducible show wpAny _ _ (call (Value.ref _) _) _ _ _))); first | (k_unfold; (try dsimp only)) | (k_end; kc_close) | walk1 | (dsimp only; walk1) | (leave1; walk_say "STEP leave1"; (try dsimp only)) | fail "no step"))
            walk1
            rename (PyProof.V.Flat _ _) => hv'
            generalize hd : (Option.getD _ _ : PyData) = d at hv'
            obtain ⟨z, rfl, hz⟩ : ∃ z : Int, d = PyData.int z ∧ (z.fmod 2 == 1) = (c == 40 || c == 91 || c == 123) := by
              rcases six c hS hb hcc with rfl | rfl | rfl | rfl | rfl | rfl
              · exact ⟨7, hd.symm.trans (by kernel_rfl), rfl⟩
              · exact ⟨9, hd.symm.trans (by kernel_rfl), rfl⟩
              · exact ⟨25, hd.symm.trans (by kernel_rfl), rfl⟩
              · exact ⟨8, hd.symm.trans (by kernel_rfl), rfl⟩
              · exact ⟨10, hd.symm.trans (by kernel_rfl), rfl⟩
              · exact ⟨26, hd.symm.trans (by kernel_rfl), rfl⟩
            clear hd
            cases hv' base
            replace N4 : News base L h4 ((OL, listOf (List.toArray ((opF ((typL xs).take i)).map Value.bool)) n') :: (cst ++ own)) := N4
            have hoff3 := off3 hcst hoff
            have hlo : ((opF ((typL xs).take i)).map Value.bool).length ≤ 1000 := opF_len h6
            (repeat' ((fail_if_success (first | (with_reducible show wpAny _ _ (call (Value.ref _) _) _ _ _) | (with_reducible show wpAny _ _ (exec (Stmt.For _ _ _ _ _) _) _ _ _))); first | (k_unfold; (try dsimp only)) | (k_end; kc_close) | walk1 | (dsimp only; walk1) | (leave1; walk_say "STEP leave1"; (try dsimp only)) | fail "no step"))
            (rename Fr _ _ _ _ => Fe); (rename News _ _ _ _ => Ne)
            refine InvEndG.intro (nx := (OL, listOf ((List.toArray ((opF ((typL xs).take i)).map Value.bool)).push (.bool (z.fmod 2 == 1))) (n' + 1)) :: cst) Fe Ne ⟨_, n' + 1, ovS, ?_⟩ hoff (fun p hp => ?_) (fun p hp => ?_)
            · rw [opF_succ hc, badS, hb, hcc, hz]; simp
            · rcases List.mem_cons.mp hp with rfl | hp
              · exact .head _
              · exact .tail _ (List.mem_append_left _ hp)
            · exact .tail _ (List.mem_append_right _ hp)
          · (repeat' ((fail_if_success (first | (with_reducible show wpAny _ _ (call (Value.ref _) _) _ _ _) | (with_reducible show wpAny _ _ (exec (Stmt.For _ _ _ _ _) _) _ _ _))); first | (k_unfold; (try dsimp only)) | (k_end; kc_close) | walk1 | (dsimp only; walk1) | (leave1; walk_say "STEP leave1"; (try dsimp only)) | fail "no step"))
            (rename Fr _ _ _ _ => Fe); (rename News _ _ _ _ => Ne)
            exact InvEndG.intro Fe Ne ⟨_, n', ovS, by rw [opF_succ hc, badS, hb, hcc]; simp⟩ hoff (fun p hp => List.mem_append_left _ hp) (fun p hp => List.mem_append_right _ hp)
      · (repeat' ((fail_if_success (first | (with_reducible show wpAny _ _ (call (Value.ref _) _) _ _ _) | (with_reducible show wpAny _ _ (exec (Stmt.For _ _ _ _ _) _) _ _ _))); first | (k_unfold; (try dsimp only)) | (k_end; kc_close) | walk1 | (dsimp only; walk1) | (leave1; walk_say "STEP leave1"; (try dsimp only)) | fail "no step"))
        (rename Fr _ _ _ _ => Fe); (rename News _ _ _ _ => Ne)
        exact InvEndG.intro Fe Ne ⟨_, n', ovS, by rw [opF_succ hc, badS, hb]; simp⟩ hoff (fun p hp => List.mem_append_left _ hp) (fun p hp => List.mem_append_right _ hp)
  · rintro m₁ nx h tk ⟨u, n', rfl, rfl⟩ F N
    clear Fo No
    have e : (typL xs).take (SN (typL xs)).cps.size = typL xs := List.take_of_length_le (by rw [SN_size]; exact Nat.le_refl _)
    rw [e, opF_typ] at N
    subst hcs
    dsimp only
    refine l4 w mean mg mb base L fa cd _ _ _ Q E B X T c1 c2 F N ⟨CL, OL, vs, n, n', xs, hm, rfl, rfl, hI, h6, Nat.ne_of_lt l1.1, h62, l1.2.1⟩ ?_
    intro h' tk' m' ns ps ps' F' N' a b
    exact hq h' tk' m' ns ps ps' F' N' a b
end Mine
end
section
open PySem PySem.W PyProof.Rows PySem.Calls
set_option maxRecDepth 100000
set_option maxHeartbeats 8000000
namespace Mine
def J2L (m₀ : Str → Option Value) (CL : Addr) (vs : List Value) (n : Nat) (xs : List Nat) (i : Nat) (m : Str → Option Value) (nx : List (Addr × Obj)) : Prop :=
  ∃ t u, m = ov m₀ [(Str.ofString "cells", some (.ref CL)), (Str.ofString "typed", some (.str (SN (typL (xs.take i))) t)), (Str.ofString "cell", u)] ∧ nx = [(CL, listOf (List.toArray vs) n), (62, tabObj #[]), (55, tabObj #[])]
theorem tup4 {x0 x1 x2 x3 : Str} (h0 : x0 = SN []) (h1 : x1 = SN [173]) (h2 : x2 = SN [32]) (h3 : x3 = SN [8205, 8288]) {a b c d : Tok} (k : Nat) (hk : k < 4) : ∃ t, [Value.str x0 a, Value.str x1 b, Value.str x2 c, Value.str x3 d][k]? = some (.str (SN (preL k)) t) := by
  subst h0 h1 h2 h3
  match k, hk with
  | 0, _ => exact ⟨a, rfl⟩
  | 1, _ => exact ⟨b, rfl⟩
  | 2, _ => exact ⟨c, rfl⟩
  | 3, _ => exact ⟨d, rfl⟩
theorem typL_succ {xs : List Nat} {i c : Nat} (h : xs[i]? = some c) : typL (xs.take (i + 1)) = typL (xs.take i) ++ preL (c / 9 % 4) ++ [sgL c] := by
  rw [List.take_add_one, h]
  simp [typL]
theorem iaddE {prog : Program} {w : World} {A : Around} {E : Value → Shared → Prop} {s : Shared} {x y z : Str} {t u : Tok} {Q : Value → Shared → Prop} (e : x ++ y = z) (hs : x.length + y.length ≤ sizeLine) (h : ∀ t' k, Q (.str z t') { s with toks := k }) :
    wpAny (model prog w) A (inplaceOp .Add (.str x t) (.str y u)) Q E s := by
  subst e
  exact SBL.iadd (fun t' k _ => h t' k) hs
theorem it_strE {prog : Program} {w : World} {A : Around} {E : Value → Shared → Prop} {s : Shared} {value slice : PySem.Expr} {x y : Str} {K : Int} {k : Nat} {t u : Tok} {Q : Value → Shared → Prop} (hK : K = (k : Int)) (hr : PySem.fitsSsize (k : Int) = true) (hin : (Txt.charAt x (k : Int)).isSome = true) (hy : Txt.item x (k : Int) = y)
    (hQ : Q (.str y s.toks) { s with toks := s.toks + 1 }) (hs : subscripted slice false (.str x t) (.int K u) = operate [.str x t, .int K u] (getItem (.str x t) (.int K u))) :
    wpAny (model prog w) A (subscriptTail value slice (.str x t) (.int K u)) Q E s := by
  subst hK hy
  exact tail_any (typeIs_str s x t) PySem.F.slot_str_getitem.lookup (SB.getItem hr hin hQ) hs
theorem sgC : ∀ k < 3, PySem.fitsSsize ((k : Nat) : Int) = true ∧ (Txt.charAt (Str.ofString "([{") ((k : Nat) : Int)).isSome = true ∧ (Txt.charAt (Str.ofString ")]}") ((k : Nat) : Int)).isSome = true := by decide +kernel
theorem sgA : ∀ k < 3, Txt.item (Str.ofString "([{") ((k : Nat) : Int) = SN [([40, 91, 123][k]?).getD 0] := by decide +kernel
theorem sgB : ∀ k < 3, Txt.item (Str.ofString ")]}") ((k : Nat) : Int) = SN [([41, 93, 125][k]?).getD 0] := by decide +kernel
theorem ovT {m₀ : Str → Option Value} {a b o x o' : Option Value} {X Y : Str} {t : Tok} (h : X = Y) : (fun y => if y = Str.ofString "typed" then some (.str X t) else if y = Str.ofString "typed" then x else if y = Str.ofString "cell" then o' else ov m₀ [(Str.ofString "cells", a), (Str.ofString "typed", b), (Str.ofString "cell", o)] y)
    = ov m₀ [(Str.ofString "cells", a), (Str.ofString "typed", some (.str Y t)), (Str.ofString "cell", o')] := by
  subst h
  funext y
  by_cases h1 : y = Str.ofString "typed"
  · subst h1; rfl
  by_cases h2 : y = Str.ofString "cell"
  · subst h2; rfl
  simp only [ov, if_neg h1, if_neg h2]
theorem J2L_0 {m : Str → Option Value} {a b : Option Value} (h : m (Str.ofString "cells") = a) : (fun y => if y = Str.ofString "typed" then b else ov m [(Str.ofString "cells", a)] y) = ov m [(Str.ofString "cells", a), (Str.ofString "typed", b), (Str.ofString "cell", m (Str.ofString "cell"))] := by
  funext y
  by_cases h1 : y = Str.ofString "typed"
  · subst h1; rfl
  by_cases h2 : y = Str.ofString "cells"
  · subst h2; rfl
  by_cases h3 : y = Str.ofString "cell"
  · subst h3; rfl
  simp only [ov, if_neg h1, if_neg h2, if_neg h3]
theorem l2 (l3 : StageG 4 H3) : StageG 2 H2 := by
  conv => whnf
  k_fill
  intro w mean mg mb base L fa cd m news s Q E B X T c1 c2 F N hy hq
  obtain ⟨CL, vs, n, xs, hm, rfl, hI, h6, h62⟩ := hy
  conv in List.drop _ _ => whnf
  rw [ovOne hm] at F
  (repeat' ((fail_if_success (first | (with_reducible show wpAny _ _ (exec (Stmt.For _ _ _ _ _) _) _ _ _))); first | (k_unfold; (try dsimp only)) | (k_end; kc_close) | walk1 | (dsimp only; walk1) | (leave1; walk_say "STEP leave1"; (try dsimp only)) | fail "no step"))
  ((rename Fr _ _ _ _ => lF'); (with_unfolding_all refine' For_invVF lF' ?k1 ?k2 ?_; (case k1 => exact rfl); (case k2 => exact rfl); k_whole))
  (repeat' ((fail_if_success (first | (with_reducible show wpAny _ _ (pyIter _) _ _ _))); first | (k_unfold; (try dsimp only)) | (k_end; kc_close) | walk1 | (dsimp only; walk1) | (leave1; walk_say "STEP leave1"; (try dsimp only)) | fail "no step"))
  (rename Fr _ _ _ _ => Fo); (rename News _ _ _ _ => No)
  refine kdl_iter (J2L m CL vs n xs) rfl (.head _) Fo No ⟨_, m (Str.ofString "cell"), J2L_0 hm, rfl⟩ ?_ ?_
  · rintro i v m₁ nx h tk own hv hoff hmem ⟨t, u, rfl, rfl⟩ F N
    clear Fo No
    obtain ⟨c, hc, tc, rfl⟩ := intAt hI hv
    have e3 : ((c : Int).fdiv 3).fmod 3 = ((c / 3 % 3 : Nat) : Int) := fdm c 3 3 (by omega)
    have e4 : (c : Int).fmod 3 = ((c % 3 : Nat) : Int) := fm c 3
    have hk4 : c / 9 % 4 < 4 := Nat.mod_lt _ (by omega)
    have hk3 : c / 3 % 3 < 3 := Nat.mod_lt _ (by omega)
    have hbl := typL_len (xs.take i)
    have hbl2 : (xs.take i).length ≤ 6 := by rw [List.length_take]; omega
    have hpl := preL_len _ hk4
    (repeat' ((fail_if_success (first | (with_reducible show wpAny _ _ (subscriptTail _ _ _ _) _ _ _) | (with_reducible show wpAny _ _ (inplaceOp Operator.Add _ _) _ _ _) | (with_reducible show wpAny _ _ (exec (Stmt.For _ _ _ _ _) _) _ _ _) | (with_reducible show wpAny _ _ (call (Value.ref _) _) _ _ _))); first | (k_unfold; (try dsimp only)) | (k_end; kc_close) | walk1 | (dsimp only; walk1) | (leave1; walk_say "STEP leave1"; (try dsimp only)) | fail "no step"))
    obtain ⟨t4, h4⟩ := tup4 (x0 := Str.ofString "") (x1 := Str.ofString "\xad") (x2 := Str.ofString " ") (x3 := Str.ofString "\u200d\u2060") (by decide +kernel) (by decide +kernel) (by decide +kernel) (by decide +kernel) (c / 9 % 4) hk4
    (rename News _ _ _ _ => No)
    refine it_tup (k := c / 9 % 4) No (.head _) (fdm c 9 4 (by omega)) (by omega) h4 ?_ (by with_unfolding_all rfl)
    refine iaddE (SN_app _ _) (by rw [SN_len, SN_len, sizeLine_eq]; omega) (fun t5 k5 => ?_)
    (repeat' ((fail_if_success (first | (with_reducible show wpAny _ _ (subscriptTail _ _ _ _) _ _ _) | (with_reducible show wpAny _ _ (inplaceOp Operator.Add _ _) _ _ _) | (with_reducible show wpAny _ _ (exec (Stmt.For _ _ _ _ _) _) _ _ _) | (with_reducible show wpAny _ _ (call (Value.ref _) _) _ _ _))); first | (k_unfold; (try dsimp only)) | (k_end; kc_close) | walk1 | (dsimp only; walk1) | (leave1; walk_say "STEP leave1"; (try dsimp only)) | fail "no step"))
    · have h3 : c % 3 < 2 := by rename (_ < 2) => hc2; rw [e4] at hc2; omega
      refine it_strE e3 (sgC _ hk3).1 (sgC _ hk3).2.1 (sgA _ hk3) ?_ (by with_unfolding_all rfl)
      (repeat' ((fail_if_success (first | (with_reducible show wpAny _ _ (inplaceOp Operator.Add _ _) _ _ _) | (with_reducible show wpAny _ _ (exec (Stmt.For _ _ _ _ _) _) _ _ _) | (with_reducible show wpAny _ _ (call (Value.ref _) _) _ _ _))); first | (k_unfold; (try dsimp only)) | (k_end; kc_close) | walk1 | (dsimp only; walk1) | (leave1; walk_say "STEP leave1"; (try dsimp only)) | fail "no step"))
      refine iaddE (SN_app _ _) (by rw [SN_len, SN_len, sizeLine_eq, List.length_append]; simp; omega) (fun t6 k6 => ?_)
      (repeat' ((fail_if_success (first | (with_reducible show wpAny _ _ (subscriptTail _ _ _ _) _ _ _) | (with_reducible show wpAny _ _ (inplaceOp Operator.Add _ _) _ _ _) | (with_reducible show wpAny _ _ (exec (Stmt.For _ _ _ _ _) _) _ _ _) | (with_reducible show wpAny _ _ (call (Value.ref _) _) _ _ _))); first | (k_unfold; (try dsimp only)) | (k_end; kc_close) | walk1 | (dsimp only; walk1) | (leave1; walk_say "STEP leave1"; (try dsimp only)) | fail "no step"))
      (rename Fr _ _ _ _ => Fe); (rename News _ _ _ _ => Ne)
      refine InvEndG.intro Fe Ne ⟨.head _, _, _, ovT (by rw [typL_succ hc, sgL, if_pos h3]), rfl⟩ hoff (fun p hp => ?_) (fun p hp => ?_)
      · exact .tail _ (List.mem_append_left _ hp)
      · exact .tail _ (List.mem_append_right _ hp)
    · have h3 : ¬ c % 3 < 2 := by rename (¬ _ < 2) => hc2; rw [e4] at hc2; omega
      refine it_strE e3 (sgC _ hk3).1 (sgC _ hk3).2.2 (sgB _ hk3) ?_ (by with_unfolding_all rfl)
      (repeat' ((fail_if_success (first | (with_reducible show wpAny _ _ (inplaceOp Operator.Add _ _) _ _ _) | (with_reducible show wpAny _ _ (exec (Stmt.For _ _ _ _ _) _) _ _ _) | (with_reducible show wpAny _ _ (call (Value.ref _) _) _ _ _))); first | (k_unfold; (try dsimp only)) | (k_end; kc_close) | walk1 | (dsimp only; walk1) | (leave1; walk_say "STEP leave1"; (try dsimp only)) | fail "no step"))
      refine iaddE (SN_app _ _) (by rw [SN_len, SN_len, sizeLine_eq, List.length_append]; simp; omega) (fun t6 k6 => ?_)
      (repeat' ((fail_if_success (first | (with_reducible show wpAny _ _ (subscriptTail _ _ _ _) _ _ _) | (with_reducible show wpAny _ _ (inplaceOp Operator.Add _ _) _ _ _) | (with_reducible show wpAny _ _ (exec (Stmt.For _ _ _ _ _) _) _ _ _) | (with_reducible show wpAny _ _ (call (Value.ref _) _) _ _ _))); first | (k_unfold; (try dsimp only)) | (k_end; kc_close) | walk1 | (dsimp only; walk1) | (leave1; walk_say "STEP leave1"; (try dsimp only)) | fail "no step"))
      (rename Fr _ _ _ _ => Fe); (rename News _ _ _ _ => Ne)
      refine InvEndG.intro Fe Ne ⟨.head _, _, _, ovT (by rw [typL_succ hc, sgL, if_neg h3]), rfl⟩ hoff (fun p hp => ?_) (fun p hp => ?_)
      · exact .tail _ (List.mem_append_left _ hp)
      · exact .tail _ (List.mem_append_right _ hp)
  · rintro m₁ nx h tk ⟨t, u, rfl, rfl⟩ F N
    clear Fo No
    have e : xs.take vs.length = xs := List.take_of_length_le (by have := IntsAre.len hI; rw [List.length_map] at this; omega)
    rw [e] at F
    dsimp only
    refine l3 w mean mg mb base L fa cd _ _ _ Q E B X T c1 c2 F N ⟨CL, vs, n, xs, t, rfl, rfl, rfl, hI, h6, h62⟩ ?_
    intro h' tk' m' ns ps ps' F' N' a b
    exact hq h' tk' m' ns ps ps' F' N' a b
end Mine
end
section
open PySem PySem.W PyProof.Rows PySem.Calls
set_option maxRecDepth 100000
set_option maxHeartbeats 8000000
namespace Mine
def StageZ : Prop := match lawS with
  | .FunctionDef _ _ b _ _ _ sc _ _ _ => ∀ (w : World) (mean : ExcName → Option Value) (mg mb : Str → Option Value) (base : Heap) (L fa : Addr) (cd : Value) (m : Str → Option Value) (s : Shared) (Q : Flow → Shared → Prop) (E : Value → Shared → Prop) (SL : Addr) (zs : List Value) (ns : List Int),
      Below callerA base [] base → (K w.params).In base → Top topProg LS mean mg mb base → CodeHd base 59 55 → CodeHd base 66 62 → Fr base L s.heap m → News base L s.heap ((62, tabObj #[]) :: (55, tabObj #[]) :: []) →
      m (Str.ofString "script") = some (.ref SL) → base.IsList SL (List.toArray zs) → IntsAre zs ns → ns.length ≤ 63 →
      (∀ h' tk' m' ns ps ps', Fr base L h' m' → News base L h' ns → (62, tabObj ps) ∈ ns → (55, tabObj ps') ∈ ns → Q (.ret (.bool true)) { s with heap := h', toks := tk' }) →
      wpAny (model (PySem.Challenge.rw_to0036_01.row.toRowW.prog) w) (callerA.deeper (envOf (Str.ofString "law") sc L fa cd)) (execs b (envOf (Str.ofString "law") sc L fa cd)) Q (fun e s' => wpAny (model (PySem.Challenge.rw_to0036_01.row.toRowW.prog) w) (callerA.deeper (envOf (Str.ofString "law") sc L fa cd)) (leaving (envOf (Str.ofString "law") sc L fa cd) e) (fun _ s'' => E e s'') (fun e' s'' => E e' s'') s') s
  | _ => True
def J0L (m₀ : Str → Option Value) (CL : Addr) (i : Nat) (m : Str → Option Value) (nx : List (Addr × Obj)) : Prop :=
  ∃ (u : Option Value) (vs : List Value) (n : Nat) (xs : List Nat), m = ov m₀ [(Str.ofString "place", u)] ∧ nx = (CL, listOf (List.toArray vs) n) :: (62, tabObj #[]) :: (55, tabObj #[]) :: [] ∧ IntsAre vs (xs.map Int.ofNat) ∧ xs.length = 6
theorem natAt {vs : List Value} {xs : List Nat} (h : IntsAre vs (xs.map Int.ofNat)) {i c : Nat} (hc : xs[i]? = some c) : ∃ t, vs[i]? = some (.int (c : Nat) t) := by
  induction vs generalizing xs i with
  | nil =>
    cases xs with
    | nil => cases hc
    | cons x xs => cases h
  | cons a vs ih =>
    cases xs with
    | nil => cases h
    | cons x xs =>
      cases h with
      | cons n t h =>
        cases i with
        | zero => cases hc; exact ⟨t, rfl⟩
        | succ i => exact ih h hc
theorem offZ {own : List (Addr × Obj)} {CL : Addr} {o : Obj} (l1 : @LT.lt Nat _ 62 CL ∧ @LT.lt Nat _ 55 CL) (hoff : OwnOff own (((CL, o) :: (62, tabObj #[]) :: (55, tabObj #[]) :: []).map (·.1))) : OwnOff ((62, tabObj #[]) :: (55, tabObj #[]) :: own) [CL] := by
  intro p hp b hb
  rw [List.mem_singleton.mp hb]
  rcases List.mem_cons.mp hp with rfl | hp
  · exact Nat.ne_of_lt l1.1
  rcases List.mem_cons.mp hp with rfl | hp
  · exact Nat.ne_of_lt l1.2
  · exact hoff p hp CL (by simp)
theorem isListKeep {h h' : Heap} {l : Addr} {xs : Array Value} (hl : h.IsList l xs) (k : ∀ b o, h.get? b = some o → h'.get? b = some o) : h'.IsList l xs := by
  obtain ⟨o, ho, r⟩ := hl
  exact ⟨o, k _ _ ho, r⟩
theorem ovP {m₀ : Str → Option Value} {u u' : Option Value} : (fun y => if y = Str.ofString "place" then u' else ov m₀ [(Str.ofString "place", u)] y) = ov m₀ [(Str.ofString "place", u')] := by
  funext y
  by_cases h1 : y = Str.ofString "place"
  · subst h1; rfl
  simp only [ov, if_neg h1]
theorem fm_nat (z : Int) : z.fmod 1000000 = ((z.fmod 1000000).toNat : Int) := by
  have : 0 ≤ z.fmod 1000000 := Int.fmod_nonneg_of_pos _ (by decide)
  omega
theorem J0L.fin {base h' : Heap} {L CL : Addr} {m₀ m' : Str → Option Value} {own : List (Addr × Obj)} {vs : List Value} {n i x : Nat} {xs : List Nat} {y : Int} {t : Tok} {u : Option Value} {s₁ : Shared} {tk : Nat}
    (F : Fr base L h' m') (N : News base L h' ((CL, listOf (List.toArray (vs.set (i % 6) (.int ((x : Nat) + y) t))) n) :: (62, tabObj #[]) :: (55, tabObj #[]) :: own)) (_hx : xs[i % 6]? = some x) (hI : IntsAre vs (xs.map Int.ofNat)) (h6 : xs.length = 6)
    (hm : m' = ov m₀ [(Str.ofString "place", u)]) (hoff : OwnOff own (((CL, listOf (List.toArray vs) n) :: (62, tabObj #[]) :: (55, tabObj #[]) :: []).map (·.1))) (hy : y = (y.toNat : Int)) :
    InvEndG base L (J0L m₀ CL (i + 1)) own s₁ { s₁ with heap := h', toks := tk } := by
  refine InvEndG.intro (nx := (CL, listOf (List.toArray (vs.set (i % 6) (.int ((x : Nat) + y) t))) n) :: (62, tabObj #[]) :: (55, tabObj #[]) :: []) F N ⟨u, _, n, xs.set (i % 6) (x + y.toNat), hm, rfl, ?_, by rw [List.length_set]; exact h6⟩ hoff (fun q hq => ?_) (fun q hq => ?_)
  · rw [List.map_set]
    have e : Int.ofNat (x + y.toNat) = (x : Int) + y := by
      show ((x + y.toNat : Nat) : Int) = _
      omega
    rw [e]
    exact IntsAre.set hI _ _ _
  · simp only [List.mem_cons, List.not_mem_nil, or_false] at hq ⊢
    rcases hq with h | h | h <;> simp [h]
  · exact .tail _ (.tail _ (.tail _ hq))
theorem l0 (l2 : StageG 2 H2) : StageZ := by
  conv => whnf
  k_fill
  intro w mean mg mb base L fa cd m s Q E SL zs ns B X T c1 c2 F N hm hL hI h63 hq
  rw [ovOne hm] at F
  have hzl : zs.length = ns.length := IntsAre.len hI
  (repeat' ((fail_if_success (first | (with_reducible show wpAny _ _ (exec (Stmt.For _ _ _ _ _) _) _ _ _))); first | (k_unfold; (try dsimp only)) | (k_end; kc_close) | walk1 | (dsimp only; walk1) | (leave1; walk_say "STEP leave1"; (try dsimp only)) | fail "no step"))
  ((rename Fr _ _ _ _ => lF'); (with_unfolding_all refine' For_invVF lF' ?k1 ?k2 ?_; (case k1 => exact rfl); (case k2 => exact rfl); k_whole))
  (repeat' ((fail_if_success (first | (with_reducible show wpAny _ _ (pyIter _) _ _ _))); first | (k_unfold; (try dsimp only)) | (k_end; kc_close) | walk1 | (dsimp only; walk1) | (leave1; walk_say "STEP leave1"; (try dsimp only)) | fail "no step"))
  (rename Fr _ _ _ _ => Fo); (rename News _ _ _ _ => No); (rename IsRange _ _ _ _ _ _ _ _ => R')
  rename (62 < _ ∧ 55 < _) => l1
  rename_i CL' _ _ _ _ _ _ _ _ _ _ _ _
  generalize hb : (if (ns.length : Int) < 12 then (ns.length : Int) else 12) = b at R'
  have hb0 : 0 ≤ b := by rw [← hb]; split <;> omega
  have hb1 : b ≤ ns.length := by rw [← hb]; split <;> omega
  refine forRange (J0L _ _) R' hb0 (by omega) Fo No ⟨_, _, 0, [0, 21, 17, 28, 20, 6], ovOne rfl, rfl, .cons _ _ (.cons _ _ (.cons _ _ (.cons _ _ (.cons _ _ (.cons _ _ .nil))))), rfl⟩ rfl ?_ ?_
  · rintro i ti m₁ nx h tk own hi hoff ⟨u, vs, n, xs, rfl, rfl, hI', h6⟩ F N
    clear Fo No R'
    have hvl : vs.length = 6 := by have := IntsAre.len hI'; rw [List.length_map] at this; omega
    have e6 : (i : Int).fmod 6 = ((i % 6 : Nat) : Int) := fm i 6
    have hi6 : i % 6 < 6 := Nat.mod_lt _ (by omega)
    obtain ⟨x, hx⟩ : ∃ x, xs[i % 6]? = some x := ⟨_, List.getElem?_eq_getElem (by omega)⟩
    obtain ⟨tx, hvx⟩ := natAt hI' hx
    obtain ⟨tz, hz⟩ := intsAt hI (k := i) (by omega)
    generalize (ns[i]?).getD 0 = z at hz
    have hOw : OwnOff ((62, tabObj #[]) :: (55, tabObj #[]) :: own) [CL'] := offZ l1 hoff
    replace N : News base L h ((CL', listOf (List.toArray vs) n) :: ((62, tabObj #[]) :: (55, tabObj #[]) :: own)) := N
    (repeat' ((fail_if_success (first | (with_reducible show wpAny _ _ (getItem (Value.ref _) (Value.int _ _)) _ _ _) | (with_reducible show wpAny _ _ (subscriptTail _ _ _ _) _ _ _) | (with_reducible show wpAny _ _ (setItem (Value.ref _) (Value.int _ _) _) _ _ _))); first | (k_unfold; (try dsimp only)) | (k_end; kc_close) | walk1 | (dsimp only; walk1) | (leave1; walk_say "STEP leave1"; (try dsimp only)) | fail "no step"))
    rw [e6]
    refine PySem.wpAny_getItem_list (⟨_, (N _ (.head _)).1, rfl, n, rfl⟩ : Heap.IsList _ CL' (List.toArray vs)) (by omega) (by omega) (by rw [Int.toNat_natCast]; simpa using hvx) ?_
    (repeat' ((fail_if_success (first | (with_reducible show wpAny _ _ (getItem (Value.ref _) (Value.int _ _)) _ _ _) | (with_reducible show wpAny _ _ (subscriptTail _ _ _ _) _ _ _) | (with_reducible show wpAny _ _ (setItem (Value.ref _) (Value.int _ _) _) _ _ _))); first | (k_unfold; (try dsimp only)) | (k_end; kc_close) | walk1 | (dsimp only; walk1) | (leave1; walk_say "STEP leave1"; (try dsimp only)) | fail "no step"))
    have hLs : Heap.IsList _ SL (List.toArray zs) := isListKeep hL F.keep
    refine tail_any hLs.typeIs slot_list_getitem.lookup (PySem.wpAny_getItem_list hLs (by omega) (by omega) (by simpa using hz) ?_) (by with_unfolding_all rfl)
    clear hLs
    (repeat' ((fail_if_success (first | (with_reducible show wpAny _ _ (getItem (Value.ref _) (Value.int _ _)) _ _ _) | (with_reducible show wpAny _ _ (subscriptTail _ _ _ _) _ _ _) | (with_reducible show wpAny _ _ (setItem (Value.ref _) (Value.int _ _) _) _ _ _))); first | (k_unfold; (try dsimp only)) | (k_end; kc_close) | walk1 | (dsimp only; walk1) | (leave1; walk_say "STEP leave1"; (try dsimp only)) | fail "no step"))
    refine setLN F N (fun p hp => hOw p hp CL' (.head _)) rfl (by omega) (by omega) ?_
    intro hC FC NC
    clear F N
    (repeat' ((fail_if_success (first | (with_reducible show wpAny _ _ (setItem (Value.ref _) (Value.int _ _) _) _ _ _) | (with_reducible show wpAny _ _ (call (Value.ref _) _) _ _ _))); first | (k_unfold; (try dsimp only)) | (k_end; kc_close) | walk1 | (dsimp only; walk1) | (leave1; walk_say "STEP leave1"; (try dsimp only)) | fail "no step"))
    (rename Fr _ _ _ _ => Fe); (rename News _ _ _ _ => Ne)
    exact J0L.fin Fe Ne hx hI' h6 ovP hoff (fm_nat z)
  · rintro m₁ nx h tk ⟨u, vs, n, xs, rfl, rfl, hI', h6⟩ F N
    clear Fo No R'
    dsimp only
    refine l2 w mean mg mb base L fa cd _ _ _ Q E B X T c1 c2 F N ⟨_, vs, n, xs, rfl, rfl, hI', h6, l1.1⟩ ?_
    intro h' tk' m' ns ps ps' F' N' a b
    exact hq h' tk' m' ns ps ps' F' N' a b
end Mine
end
open PySem PySem.W PyProof.Rows PySem.Calls
set_option maxRecDepth 100000
set_option maxHeartbeats 8000000
theorem Mine.topConv {l : List Str} {mean : ExcName → Option Value} {mg mb : Str → Option Value} {h : Heap} (e : l = Mine.LS) (T : Top topProg l mean mg mb h) : Top topProg Mine.LS mean mg mb h := e ▸ T
theorem Mine.goodEnd {s₀ s₁ : Shared} {h' : Heap} {tk' : Nat} {ns : List Int} {base : Heap} {L : Addr} {m' : Str → Option Value} (F' : Fr base L h' m') (hg : s₁.gens = #[]) : GoodW PySem.Challenge.rw_to0036_01.row.claim (classAt s₀.heap) (ExcName.means s₀.heap) [ofPy (PyData.list (List.map PyData.int ns))] { heap := base, gens := s₁.gens, drawn := s₁.drawn, toks := s₁.toks, os := s₁.os }
   (Except.ok (Flow.ret (Value.bool true))) { heap := h', gens := s₁.gens, drawn := s₁.drawn, toks := tk', os := s₁.os } := by
  refine ⟨.inl ⟨_, .bool true, [], rfl, fun _ => rfl, ?_, ?_, ?_⟩, F'.keep, rfl, hg⟩
  · exact ReadsW.bool true
  · kc_post
  · exact fun _ => ⟨List.nodup_nil, fun a h => nomatch h⟩
theorem PySem.Challenge.cw_to0036_01_holds : PySem.Challenge.rw_to0036_01.Holds := by
  o_law
  refine holds_open (q := Mine.q) (loose := Mine.loose) (Xt := Mine.Xt) (XP := XL Mine.q []) (Yf := Hook.obs Mine.H) (Ya := Hook.val Mine.H) (YP := Hook.says (kmHook Mine.K Mine.kas Mine.kas_eq [62, 55])) (N := 6008) Mine.left (Hook.of Mine.H) (Hook.keeps Mine.H) (fun s e => xl_of s (Bool.and_eq_true_iff.mp e).1) XL.keeps (by rfl) (by rfl) (by rfl) (fun s e => recFacts_of (Bool.and_eq_true_iff.mp e).2) (by rfl) (by assumption) (by decide +kernel) ⟨rfl, rfl, rfl, rfl, rfl, by decide +kernel⟩ ?hw ?hc
  case hw => w_witness2
  case hc =>
    k_fill
    intro w s₀ s₁ mg mb G Y fa o pm cd doc dV kV ho hd hcd hD hmg hg args vals as hpre hlay hrd hwl hlo
    have KX := km_in_of Y
    km_tabs Y
    have X := (Ground.X G).1
    have V := (Ground.X G).2
    refine Ground.open G ?_
    intro T B D TE TW
    try (refine guard_noD D (by decide +kernel) ?_; clear D)
    km_lay T hmg ho hd cd
    clear hmg
    wrow_args hpre hlay hrd hwl hlo
    all_goals (
      first | refine callC_kw (enter_call ?_) | refine enter_call ?_
      w_top on
      kn_posts
      w_call any ho hd hcd hD T F
      clear hd
      kn_ghosts F T
      k_drop
      skip)
    (all_goals try k_fold)
    all_goals (rename (Top topProg _ _ _ _ _) => TT)
    all_goals (rename (Below callerA _ _ _) => BB)
    all_goals (rename (Frag.In _ _) => XX)
    all_goals (rename (CodeHd _ (66, 62).1 (66, 62).2) => cc2)
    all_goals (rename (CodeHd _ (59, 55).1 (59, 55).2) => cc1)
    all_goals (rename (IntsAre _ _) => hInts)
    all_goals (rename (News _ _ _ _) => NN)
    all_goals (rename (Fr _ _ _ _) => FF)
    refine Mine.l0 (Mine.l2 (Mine.l3 (Mine.l4 (Mine.l5 Mine.l6)))) w _ mg mb _ _ _ _ _ _ _ _ _ _ _ BB XX (Mine.topConv (by kernel_rfl) TT) cc1 cc2 FF NN rfl lifted hInts (by omega) ?_
    intro h' tk' m' ns ps ps' F' N' a b
    exact ⟨Mine.goodEnd F' hg, ⟨_, (N' _ a).1⟩, ⟨_, (N' _ b).1⟩, trivial⟩
