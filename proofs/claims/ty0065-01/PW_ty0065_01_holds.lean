import PyProof.Rows.All
import Wide.All
import OpenK.AllK
import Wide.FinOn
import PySem.Challenge.RW_ty0065_01
set_option Elab.async false
set_option compiler.extract_closed false
namespace Mine

section
open PySem PySem.W PySem.Spec PySem.Calls PyProof.Rows
set_option maxRecDepth 100000
set_option maxHeartbeats 8000000
section
noncomputable abbrev pw : Program := PySem.Challenge.pw_ty0065_01
noncomputable def defRaw (i : Nat) : Arguments × List Stmt × Scope := match pw.main.body[i]? with
  | some (.FunctionDef _ a b _ _ _ s _ _ _) => (a, b, s)
  | _ => default
@[reducible] noncomputable def d1 : { x : Arguments × List Stmt × Scope // defRaw 1 = x } := ⟨_, by conv => { lhs; whnf }⟩
@[reducible] noncomputable def d2 : { x : Arguments × List Stmt × Scope // defRaw 2 = x } := ⟨_, by conv => { lhs; whnf }⟩
@[reducible] noncomputable def d4 : { x : Arguments × List Stmt × Scope // defRaw 4 = x } := ⟨_, by conv => { lhs; whnf }⟩
@[reducible] noncomputable def d5 : { x : Arguments × List Stmt × Scope // defRaw 5 = x } := ⟨_, by conv => { lhs; whnf }⟩
@[reducible] noncomputable def d8 : { x : Arguments × List Stmt × Scope // defRaw 8 = x } := ⟨_, by conv => { lhs; whnf }⟩
@[reducible] noncomputable def d10 : { x : Arguments × List Stmt × Scope // defRaw 10 = x } := ⟨_, by conv => { lhs; whnf }⟩
@[reducible] noncomputable def d15 : { x : Arguments × List Stmt × Scope // defRaw 15 = x } := ⟨_, by conv => { lhs; whnf }⟩
@[reducible] noncomputable def d16 : { x : Arguments × List Stmt × Scope // defRaw 16 = x } := ⟨_, by conv => { lhs; whnf }⟩
@[reducible] noncomputable def d18 : { x : Arguments × List Stmt × Scope // defRaw 18 = x } := ⟨_, by conv => { lhs; whnf }⟩
@[reducible] noncomputable def d19 : { x : Arguments × List Stmt × Scope // defRaw 19 = x } := ⟨_, by conv => { lhs; whnf }⟩
@[reducible] noncomputable def d20 : { x : Arguments × List Stmt × Scope // defRaw 20 = x } := ⟨_, by conv => { lhs; whnf }⟩
@[reducible] noncomputable def d21 : { x : Arguments × List Stmt × Scope // defRaw 21 = x } := ⟨_, by conv => { lhs; whnf }⟩
/-- the rows of b3_exceptions, out of the text itself -/
noncomputable def rowsOf : List (Option Expr) → List Expr → List (Int × Str)
  | some (.Constant (.int k) _ _) :: ks, .Constant (.str v) _ _ :: vs => (k, v) :: rowsOf ks vs
  | _, _ => []
noncomputable def b3l : List (Int × Str) := match (pw.main.body[9]? : Option Stmt) with
  | some (.Assign _ (.Dict ks vs _) _) => rowsOf ks vs
  | _ => []
noncomputable def b3e (d : Nat) : Nat → List (Int × Str) → List DictEntry
  | _, [] => []
  | t, (k, v) :: r => ⟨k, .int k t, .str v (t + 1)⟩ :: b3e d (t + d) r
noncomputable def b3es : List DictEntry := b3e 3 321 (b3l.take 646) ++ b3e 2 2259 (b3l.drop 646)
@[reducible] noncomputable def dictO (es : List DictEntry) (n : Nat) : Obj := ⟨.type "dict", none, .dict es.toArray n, #[]⟩
noncomputable def ob_3 (P : Params) : Obj := ⟨(.type "dict"), none, .dict (List.toArray [⟨PyData.keyHash P (Str.ofString "__name__"), (.str (Str.ofString "__name__") 165), (.str (Str.ofString "law_ty0065_01") 2316)⟩, ⟨PyData.keyHash P (Str.ofString "__doc__"), (.str (Str.ofString "__doc__") 166), .none⟩, ⟨PyData.keyHash P (Str.ofString "__package__"), (.str (Str.ofString "__package__") 167), .none⟩, ⟨PyData.keyHash P (Str.ofString "__loader__"), (.str (Str.ofString "__loader__") 168), (.builtin "__main__.__loader__#opaque")⟩, ⟨PyData.keyHash P (Str.ofString "__spec__"), (.str (Str.ofString "__spec__") 169), .none⟩, ⟨PyData.keyHash P (Str.ofString "__annotations__"), (.str (Str.ofString "__annotations__") 170), (.ref 6)⟩, ⟨PyData.keyHash P (Str.ofString "__builtins__"), (.str (Str.ofString "__builtins__") 171), (.ref 4)⟩, ⟨PyData.keyHash P (Str.ofString "__file__"), (.str (Str.ofString "__file__") 173), (.str (Str.ofString "/claim/cut.py") 172)⟩, ⟨PyData.keyHash P (Str.ofString "__cached__"), (.str (Str.ofString "__cached__") 174), .none⟩, ⟨PyData.keyHash P (Str.ofString "bisect_right"), (.str (Str.ofString "bisect_right") 202), (.ref 23)⟩, ⟨PyData.keyHash P (Str.ofString "bisect_left"), (.str (Str.ofString "bisect_left") 216), (.ref 32)⟩, ⟨PyData.keyHash P (Str.ofString "rgb_to_hls"), (.str (Str.ofString "rgb_to_hls") 237), (.ref 39)⟩, ⟨PyData.keyHash P (Str.ofString "hsv_to_rgb"), (.str (Str.ofString "hsv_to_rgb") 251), (.ref 46)⟩, ⟨PyData.keyHash P (Str.ofString "b1_set"), (.str (Str.ofString "b1_set") 313), (.ref 54)⟩, ⟨PyData.keyHash P (Str.ofString "in_table_b1"), (.str (Str.ofString "in_table_b1") 320), (.ref 64)⟩, ⟨PyData.keyHash P (Str.ofString "b3_exceptions"), (.str (Str.ofString "b3_exceptions") 2271), (.ref 65)⟩, ⟨PyData.keyHash P (Str.ofString "map_table_b3"), (.str (Str.ofString "map_table_b3") 2279), (.ref 110)⟩, ⟨PyData.keyHash P (Str.ofString "_MAX_STRING_SIZE"), (.str (Str.ofString "_MAX_STRING_SIZE") 2283), (.int 40 2282)⟩, ⟨PyData.keyHash P (Str.ofString "_MOVE_COST"), (.str (Str.ofString "_MOVE_COST") 2285), (.int 2 2284)⟩, ⟨PyData.keyHash P (Str.ofString "_CASE_COST"), (.str (Str.ofString "_CASE_COST") 2287), (.int 1 2286)⟩, ⟨PyData.keyHash P (Str.ofString "_substitution_cost"), (.str (Str.ofString "_substitution_cost") 2295), (.ref 117)⟩, ⟨PyData.keyHash P (Str.ofString "_levenshtein_distance"), (.str (Str.ofString "_levenshtein_distance") 2315), (.ref 124)⟩, ⟨PyData.keyHash P (Str.ofString "_law_typed_and_meant"), (.str (Str.ofString "_law_typed_and_meant") 2335), (.ref 131)⟩, ⟨PyData.keyHash P (Str.ofString "_law_odd_less_even"), (.str (Str.ofString "_law_odd_less_even") 2341), (.ref 136)⟩, ⟨PyData.keyHash P (Str.ofString "_law_rings"), (.str (Str.ofString "_law_rings") 2347), (.ref 141)⟩, ⟨PyData.keyHash P (Str.ofString "law"), (.str (Str.ofString "law") 2353), (.ref 146)⟩]) 26, #[]⟩
noncomputable def ob_11 (_ : Params) : Obj := ⟨(.type "tuple"), none, .seq (List.toArray []) 0, #[]⟩
noncomputable def ob_12 (_ : Params) : Obj := ⟨.none, none, .fields (List.toArray [(.int 2 0), (.int 0 0), (.ref 22), (.int 22 0), (.int 0 0), (.ref 31), (.int 43 0), (.int 0 0), (.ref 38), (.int 66 0), (.int 0 0), (.ref 45), (.int 89 0), (.int 0 0), (.ref 63), (.int 92 0), (.int 0 0), (.ref 109), (.int 101 0), (.int 0 0), (.ref 116), (.int 107 0), (.int 0 0), (.ref 123), (.int 146 0), (.int 0 0), (.ref 130), (.int 171 0), (.int 0 0), (.ref 135), (.int 177 0), (.int 0 0), (.ref 140), (.int 189 0), (.int 0 0), (.ref 145)]), #[]⟩
noncomputable def ob_13 (_ : Params) : Obj := ⟨(.type "code"), none, .fields (List.toArray [(.str (Str.ofString "<module>") 182), (.str (Str.ofString "<module>") 183), (.str (Str.ofString "/claim/cut.py") 184), (.int 1 0), (.int 0 0), (.int 0 0), (.int 0 0), (.int 0 0), (.ref 11), (.bool false), (.int 181 0), (.ref 12), .none, .none, .none, .none, (.int 185 0), (.int 1 0), (.str (Str.ofString "/claim/cut.py") 186)]), #[]⟩
noncomputable def ob_14 (_ : Params) : Obj := ⟨(.type "frame"), none, .plain, (List.toArray [(some (.ref 13)), (some (.ref 3)), (some (.ref 3)), none, (some (.str (Str.ofString "__main__") 164)), none, (some (.ref 0))])⟩
noncomputable def ob_15 (_ : Params) : Obj := ⟨(.type "tuple"), none, .seq (List.toArray [(.int 0 189), .none]) 0, #[]⟩
noncomputable def ob_16 (P : Params) : Obj := ⟨(.type "dict"), none, .dict (List.toArray [⟨PyData.keyHash P (Str.ofString "key"), (.str (Str.ofString "key") 190), .none⟩]) 1, #[]⟩
noncomputable def ob_17 (_ : Params) : Obj := ⟨(.type "tuple"), none, .seq (List.toArray []) 0, #[]⟩
noncomputable def ob_18 (_ : Params) : Obj := ⟨.none, none, .fields (List.toArray []), #[]⟩
noncomputable def ob_19 (_ : Params) : Obj := ⟨(.type "tuple"), none, .seq (List.toArray [(.str (Str.ofString "a") 194), (.str (Str.ofString "x") 195), (.str (Str.ofString "lo") 196), (.str (Str.ofString "hi") 197), (.str (Str.ofString "key") 198), (.str (Str.ofString "mid") 199)]) 0, #[]⟩
noncomputable def ob_20 (_ : Params) : Obj := ⟨(.type "tuple"), none, .seq (List.toArray []) 0, #[]⟩
noncomputable def ob_21 (_ : Params) : Obj := ⟨.none, none, .func { name := Str.ofString "bisect_right", qualname := Str.ofString "bisect_right", params := d1.1.1, body := .stmts d1.1.2.1, scope := d1.1.2.2, globals := 0, closure := [], defaults := .none, kwdefaults := .none, doc := .none, pyModule := .none, annotations := none, code := .none, closureTuple := .none, builtins := 0 }, #[]⟩
noncomputable def ob_22 (_ : Params) : Obj := ⟨(.type "code"), none, .fields (List.toArray [(.str (Str.ofString "bisect_right") 191), (.str (Str.ofString "bisect_right") 192), (.str (Str.ofString "/claim/cut.py") 193), (.int 2 0), (.int 4 0), (.int 0 0), (.int 1 0), (.int 3 0), (.ref 17), (.bool true), (.int 181 0), (.ref 18), .none, (.ref 19), (.ref 20), (.ref 21), (.int 200 0), (.int 2 0), (.str (Str.ofString "/claim/cut.py") 201)]), #[]⟩
noncomputable def ob_23 (_ : Params) : Obj := ⟨(.type "function"), none, .func { name := Str.ofString "bisect_right", qualname := Str.ofString "bisect_right", params := d1.1.1, body := .stmts d1.1.2.1, scope := d1.1.2.2, globals := 3, closure := [], defaults := (.ref 15), kwdefaults := (.ref 16), doc := .none, pyModule := (.str (Str.ofString "cpy313.bisect") 187), annotations := none, code := (.ref 22), closureTuple := .none, builtins := 0 }, #[]⟩
noncomputable def ob_24 (_ : Params) : Obj := ⟨(.type "tuple"), none, .seq (List.toArray [(.int 0 203), .none]) 0, #[]⟩
noncomputable def ob_25 (P : Params) : Obj := ⟨(.type "dict"), none, .dict (List.toArray [⟨PyData.keyHash P (Str.ofString "key"), (.str (Str.ofString "key") 204), .none⟩]) 1, #[]⟩
noncomputable def ob_26 (_ : Params) : Obj := ⟨(.type "tuple"), none, .seq (List.toArray []) 0, #[]⟩
noncomputable def ob_27 (_ : Params) : Obj := ⟨.none, none, .fields (List.toArray []), #[]⟩
noncomputable def ob_28 (_ : Params) : Obj := ⟨(.type "tuple"), none, .seq (List.toArray [(.str (Str.ofString "a") 208), (.str (Str.ofString "x") 209), (.str (Str.ofString "lo") 210), (.str (Str.ofString "hi") 211), (.str (Str.ofString "key") 212), (.str (Str.ofString "mid") 213)]) 0, #[]⟩
noncomputable def ob_29 (_ : Params) : Obj := ⟨(.type "tuple"), none, .seq (List.toArray []) 0, #[]⟩
noncomputable def ob_30 (_ : Params) : Obj := ⟨.none, none, .func { name := Str.ofString "bisect_left", qualname := Str.ofString "bisect_left", params := d2.1.1, body := .stmts d2.1.2.1, scope := d2.1.2.2, globals := 0, closure := [], defaults := .none, kwdefaults := .none, doc := .none, pyModule := .none, annotations := none, code := .none, closureTuple := .none, builtins := 0 }, #[]⟩
noncomputable def ob_31 (_ : Params) : Obj := ⟨(.type "code"), none, .fields (List.toArray [(.str (Str.ofString "bisect_left") 205), (.str (Str.ofString "bisect_left") 206), (.str (Str.ofString "/claim/cut.py") 207), (.int 22 0), (.int 4 0), (.int 0 0), (.int 1 0), (.int 3 0), (.ref 26), (.bool true), (.int 181 0), (.ref 27), .none, (.ref 28), (.ref 29), (.ref 30), (.int 214 0), (.int 22 0), (.str (Str.ofString "/claim/cut.py") 215)]), #[]⟩
noncomputable def ob_32 (_ : Params) : Obj := ⟨(.type "function"), none, .func { name := Str.ofString "bisect_left", qualname := Str.ofString "bisect_left", params := d2.1.1, body := .stmts d2.1.2.1, scope := d2.1.2.2, globals := 3, closure := [], defaults := (.ref 24), kwdefaults := (.ref 25), doc := .none, pyModule := (.str (Str.ofString "cpy313.bisect") 187), annotations := none, code := (.ref 31), closureTuple := .none, builtins := 0 }, #[]⟩
noncomputable def ob_33 (_ : Params) : Obj := ⟨(.type "tuple"), none, .seq (List.toArray []) 0, #[]⟩
noncomputable def ob_34 (_ : Params) : Obj := ⟨.none, none, .fields (List.toArray []), #[]⟩
noncomputable def ob_35 (_ : Params) : Obj := ⟨(.type "tuple"), none, .seq (List.toArray [(.str (Str.ofString "r") 222), (.str (Str.ofString "g") 223), (.str (Str.ofString "b") 224), (.str (Str.ofString "maxc") 225), (.str (Str.ofString "minc") 226), (.str (Str.ofString "sumc") 227), (.str (Str.ofString "rangec") 228), (.str (Str.ofString "l") 229), (.str (Str.ofString "s") 230), (.str (Str.ofString "rc") 231), (.str (Str.ofString "gc") 232), (.str (Str.ofString "bc") 233), (.str (Str.ofString "h") 234)]) 0, #[]⟩
noncomputable def ob_36 (_ : Params) : Obj := ⟨(.type "tuple"), none, .seq (List.toArray []) 0, #[]⟩
noncomputable def ob_37 (_ : Params) : Obj := ⟨.none, none, .func { name := Str.ofString "rgb_to_hls", qualname := Str.ofString "rgb_to_hls", params := d4.1.1, body := .stmts d4.1.2.1, scope := d4.1.2.2, globals := 0, closure := [], defaults := .none, kwdefaults := .none, doc := .none, pyModule := .none, annotations := none, code := .none, closureTuple := .none, builtins := 0 }, #[]⟩
noncomputable def ob_38 (_ : Params) : Obj := ⟨(.type "code"), none, .fields (List.toArray [(.str (Str.ofString "rgb_to_hls") 219), (.str (Str.ofString "rgb_to_hls") 220), (.str (Str.ofString "/claim/cut.py") 221), (.int 43 0), (.int 3 0), (.int 0 0), (.int 0 0), (.int 3 0), (.ref 33), (.bool true), (.int 181 0), (.ref 34), .none, (.ref 35), (.ref 36), (.ref 37), (.int 235 0), (.int 43 0), (.str (Str.ofString "/claim/cut.py") 236)]), #[]⟩
noncomputable def ob_39 (_ : Params) : Obj := ⟨(.type "function"), none, .func { name := Str.ofString "rgb_to_hls", qualname := Str.ofString "rgb_to_hls", params := d4.1.1, body := .stmts d4.1.2.1, scope := d4.1.2.2, globals := 3, closure := [], defaults := .none, kwdefaults := .none, doc := .none, pyModule := (.str (Str.ofString "cpy313.colorsys") 217), annotations := none, code := (.ref 38), closureTuple := .none, builtins := 0 }, #[]⟩
noncomputable def ob_40 (_ : Params) : Obj := ⟨(.type "tuple"), none, .seq (List.toArray []) 0, #[]⟩
noncomputable def ob_41 (_ : Params) : Obj := ⟨.none, none, .fields (List.toArray []), #[]⟩
noncomputable def ob_42 (_ : Params) : Obj := ⟨(.type "tuple"), none, .seq (List.toArray [(.str (Str.ofString "h") 241), (.str (Str.ofString "s") 242), (.str (Str.ofString "v") 243), (.str (Str.ofString "i") 244), (.str (Str.ofString "f") 245), (.str (Str.ofString "p") 246), (.str (Str.ofString "q") 247), (.str (Str.ofString "t") 248)]) 0, #[]⟩
noncomputable def ob_43 (_ : Params) : Obj := ⟨(.type "tuple"), none, .seq (List.toArray []) 0, #[]⟩
noncomputable def ob_44 (_ : Params) : Obj := ⟨.none, none, .func { name := Str.ofString "hsv_to_rgb", qualname := Str.ofString "hsv_to_rgb", params := d5.1.1, body := .stmts d5.1.2.1, scope := d5.1.2.2, globals := 0, closure := [], defaults := .none, kwdefaults := .none, doc := .none, pyModule := .none, annotations := none, code := .none, closureTuple := .none, builtins := 0 }, #[]⟩
noncomputable def ob_45 (_ : Params) : Obj := ⟨(.type "code"), none, .fields (List.toArray [(.str (Str.ofString "hsv_to_rgb") 238), (.str (Str.ofString "hsv_to_rgb") 239), (.str (Str.ofString "/claim/cut.py") 240), (.int 66 0), (.int 3 0), (.int 0 0), (.int 0 0), (.int 3 0), (.ref 40), (.bool true), (.int 181 0), (.ref 41), .none, (.ref 42), (.ref 43), (.ref 44), (.int 249 0), (.int 66 0), (.str (Str.ofString "/claim/cut.py") 250)]), #[]⟩
noncomputable def ob_46 (_ : Params) : Obj := ⟨(.type "function"), none, .func { name := Str.ofString "hsv_to_rgb", qualname := Str.ofString "hsv_to_rgb", params := d5.1.1, body := .stmts d5.1.2.1, scope := d5.1.2.2, globals := 3, closure := [], defaults := .none, kwdefaults := .none, doc := .none, pyModule := (.str (Str.ofString "cpy313.colorsys") 217), annotations := none, code := (.ref 45), closureTuple := .none, builtins := 0 }, #[]⟩
noncomputable def ob_47 (_ : Params) : Obj := ⟨(.type "list"), none, .seq (List.toArray [(.int 173 254), (.int 847 255), (.int 6150 256), (.int 6155 257), (.int 6156 258), (.int 6157 259), (.int 8203 260), (.int 8204 261), (.int 8205 262), (.int 8288 263), (.int 65279 264)]) 0, #[]⟩
noncomputable def ob_48 (_ : Params) : Obj := ⟨(.type "range"), none, .fields (List.toArray [(.int 65024 265), (.int 65040 266), (.int 1 267)]), #[]⟩
noncomputable def ob_49 (_ : Params) : Obj := ⟨(.type "list"), none, .seq (List.toArray [(.int 65024 270), (.int 65025 271), (.int 65026 272), (.int 65027 273), (.int 65028 274), (.int 65029 275), (.int 65030 276), (.int 65031 277), (.int 65032 278), (.int 65033 279), (.int 65034 280), (.int 65035 281), (.int 65036 282), (.int 65037 283), (.int 65038 284), (.int 65039 285)]) 18, #[]⟩
noncomputable def ob_50 (_ : Params) : Obj := ⟨(.type "range_iterator"), none, .fields (List.toArray [(.int 65040 0), (.int 0 0), (.int 1 0)]), #[]⟩
noncomputable def ob_51 (_ : Params) : Obj := ⟨(.type "tuple"), none, .seq (List.toArray []) 0, #[]⟩
noncomputable def ob_52 (_ : Params) : Obj := ⟨(.type "StopIteration"), none, .fields (List.toArray [(.ref 51), .none, .none, .none, (.bool false), .none]), #[]⟩
noncomputable def ob_53 (_ : Params) : Obj := ⟨(.type "list"), none, .seq (List.toArray [(.int 173 254), (.int 847 255), (.int 6150 256), (.int 6155 257), (.int 6156 258), (.int 6157 259), (.int 8203 260), (.int 8204 261), (.int 8205 262), (.int 8288 263), (.int 65279 264), (.int 65024 270), (.int 65025 271), (.int 65026 272), (.int 65027 273), (.int 65028 274), (.int 65029 275), (.int 65030 276), (.int 65031 277), (.int 65032 278), (.int 65033 279), (.int 65034 280), (.int 65035 281), (.int 65036 282), (.int 65037 283), (.int 65038 284), (.int 65039 285)]) 0, #[]⟩
noncomputable def ob_54 (P : Params) : Obj := ⟨(.type "set"), none, .set (List.toArray [(65024, (.int 65024 270)), (65025, (.int 65025 271)), (65026, (.int 65026 272)), (65027, (.int 65027 273)), (65028, (.int 65028 274)), (65029, (.int 65029 275)), (6150, (.int 6150 256)), (65030, (.int 65030 276)), (65031, (.int 65031 277)), (65032, (.int 65032 278)), (65033, (.int 65033 279)), (6155, (.int 6155 257)), (6156, (.int 6156 258)), (6157, (.int 6157 259)), (8203, (.int 8203 260)), (8204, (.int 8204 261)), (8205, (.int 8205 262)), (65034, (.int 65034 280)), (65035, (.int 65035 281)), (65036, (.int 65036 282)), (65037, (.int 65037 283)), (65038, (.int 65038 284)), (65039, (.int 65039 285)), (173, (.int 173 254)), (847, (.int 847 255)), (8288, (.int 8288 263)), (65279, (.int 65279 264))]) 29 ⟨127, (List.toArray [0, 1, 2, 3, 4, 5, 6, 7, 8, 9, 10, 11, 12, 13, 14, 15, 16, 17, 18, 19, 20, 21, 22, 45, 79, 96, 127]), (List.toArray []), 0, !(P.followText "set-order"), 2, true⟩, #[]⟩
noncomputable def ob_55 (_ : Params) : Obj := ⟨(.type "list_iterator"), none, .fields (List.toArray [.none, (.int 27 0)]), #[]⟩
noncomputable def ob_56 (_ : Params) : Obj := ⟨(.type "tuple"), none, .seq (List.toArray []) 0, #[]⟩
noncomputable def ob_57 (_ : Params) : Obj := ⟨(.type "StopIteration"), none, .fields (List.toArray [(.ref 56), .none, .none, .none, (.bool false), .none]), #[]⟩
noncomputable def ob_58 (_ : Params) : Obj := ⟨(.type "tuple"), none, .seq (List.toArray []) 0, #[]⟩
noncomputable def ob_59 (_ : Params) : Obj := ⟨.none, none, .fields (List.toArray []), #[]⟩
noncomputable def ob_60 (_ : Params) : Obj := ⟨(.type "tuple"), none, .seq (List.toArray [(.str (Str.ofString "code") 317)]) 0, #[]⟩
noncomputable def ob_61 (_ : Params) : Obj := ⟨(.type "tuple"), none, .seq (List.toArray []) 0, #[]⟩
noncomputable def ob_62 (_ : Params) : Obj := ⟨.none, none, .func { name := Str.ofString "in_table_b1", qualname := Str.ofString "in_table_b1", params := d8.1.1, body := .stmts d8.1.2.1, scope := d8.1.2.2, globals := 0, closure := [], defaults := .none, kwdefaults := .none, doc := .none, pyModule := .none, annotations := none, code := .none, closureTuple := .none, builtins := 0 }, #[]⟩
noncomputable def ob_63 (_ : Params) : Obj := ⟨(.type "code"), none, .fields (List.toArray [(.str (Str.ofString "in_table_b1") 314), (.str (Str.ofString "in_table_b1") 315), (.str (Str.ofString "/claim/cut.py") 316), (.int 89 0), (.int 1 0), (.int 0 0), (.int 0 0), (.int 3 0), (.ref 58), (.bool true), (.int 181 0), (.ref 59), .none, (.ref 60), (.ref 61), (.ref 62), (.int 318 0), (.int 89 0), (.str (Str.ofString "/claim/cut.py") 319)]), #[]⟩
noncomputable def ob_64 (_ : Params) : Obj := ⟨(.type "function"), none, .func { name := Str.ofString "in_table_b1", qualname := Str.ofString "in_table_b1", params := d8.1.1, body := .stmts d8.1.2.1, scope := d8.1.2.2, globals := 3, closure := [], defaults := .none, kwdefaults := .none, doc := .none, pyModule := (.str (Str.ofString "cpy313.stringprep") 252), annotations := none, code := (.ref 63), closureTuple := .none, builtins := 0 }, #[]⟩
noncomputable def ob_104 (_ : Params) : Obj := ⟨(.type "tuple"), none, .seq (List.toArray []) 0, #[]⟩
noncomputable def ob_105 (_ : Params) : Obj := ⟨.none, none, .fields (List.toArray []), #[]⟩
noncomputable def ob_106 (_ : Params) : Obj := ⟨(.type "tuple"), none, .seq (List.toArray [(.str (Str.ofString "code") 2275), (.str (Str.ofString "r") 2276)]) 0, #[]⟩
noncomputable def ob_107 (_ : Params) : Obj := ⟨(.type "tuple"), none, .seq (List.toArray []) 0, #[]⟩
noncomputable def ob_108 (_ : Params) : Obj := ⟨.none, none, .func { name := Str.ofString "map_table_b3", qualname := Str.ofString "map_table_b3", params := d10.1.1, body := .stmts d10.1.2.1, scope := d10.1.2.2, globals := 0, closure := [], defaults := .none, kwdefaults := .none, doc := .none, pyModule := .none, annotations := none, code := .none, closureTuple := .none, builtins := 0 }, #[]⟩
noncomputable def ob_109 (_ : Params) : Obj := ⟨(.type "code"), none, .fields (List.toArray [(.str (Str.ofString "map_table_b3") 2272), (.str (Str.ofString "map_table_b3") 2273), (.str (Str.ofString "/claim/cut.py") 2274), (.int 92 0), (.int 1 0), (.int 0 0), (.int 0 0), (.int 3 0), (.ref 104), (.bool true), (.int 181 0), (.ref 105), .none, (.ref 106), (.ref 107), (.ref 108), (.int 2277 0), (.int 92 0), (.str (Str.ofString "/claim/cut.py") 2278)]), #[]⟩
noncomputable def ob_110 (_ : Params) : Obj := ⟨(.type "function"), none, .func { name := Str.ofString "map_table_b3", qualname := Str.ofString "map_table_b3", params := d10.1.1, body := .stmts d10.1.2.1, scope := d10.1.2.2, globals := 3, closure := [], defaults := .none, kwdefaults := .none, doc := .none, pyModule := (.str (Str.ofString "cpy313.stringprep") 252), annotations := none, code := (.ref 109), closureTuple := .none, builtins := 0 }, #[]⟩
noncomputable def ob_111 (_ : Params) : Obj := ⟨(.type "tuple"), none, .seq (List.toArray []) 0, #[]⟩
noncomputable def ob_112 (_ : Params) : Obj := ⟨.none, none, .fields (List.toArray []), #[]⟩
noncomputable def ob_113 (_ : Params) : Obj := ⟨(.type "tuple"), none, .seq (List.toArray [(.str (Str.ofString "ch_a") 2291), (.str (Str.ofString "ch_b") 2292)]) 0, #[]⟩
noncomputable def ob_114 (_ : Params) : Obj := ⟨(.type "tuple"), none, .seq (List.toArray []) 0, #[]⟩
noncomputable def ob_115 (_ : Params) : Obj := ⟨.none, none, .func { name := Str.ofString "_substitution_cost", qualname := Str.ofString "_substitution_cost", params := d15.1.1, body := .stmts d15.1.2.1, scope := d15.1.2.2, globals := 0, closure := [], defaults := .none, kwdefaults := .none, doc := .none, pyModule := .none, annotations := none, code := .none, closureTuple := .none, builtins := 0 }, #[]⟩
noncomputable def ob_116 (_ : Params) : Obj := ⟨(.type "code"), none, .fields (List.toArray [(.str (Str.ofString "_substitution_cost") 2288), (.str (Str.ofString "_substitution_cost") 2289), (.str (Str.ofString "/claim/cut.py") 2290), (.int 101 0), (.int 2 0), (.int 0 0), (.int 0 0), (.int 3 0), (.ref 111), (.bool true), (.int 181 0), (.ref 112), .none, (.ref 113), (.ref 114), (.ref 115), (.int 2293 0), (.int 101 0), (.str (Str.ofString "/claim/cut.py") 2294)]), #[]⟩
noncomputable def ob_117 (_ : Params) : Obj := ⟨(.type "function"), none, .func { name := Str.ofString "_substitution_cost", qualname := Str.ofString "_substitution_cost", params := d15.1.1, body := .stmts d15.1.2.1, scope := d15.1.2.2, globals := 3, closure := [], defaults := .none, kwdefaults := .none, doc := .none, pyModule := (.str (Str.ofString "cpy313.traceback") 2280), annotations := none, code := (.ref 116), closureTuple := .none, builtins := 0 }, #[]⟩
noncomputable def ob_118 (_ : Params) : Obj := ⟨(.type "tuple"), none, .seq (List.toArray []) 0, #[]⟩
noncomputable def ob_119 (_ : Params) : Obj := ⟨.none, none, .fields (List.toArray []), #[]⟩
noncomputable def ob_120 (_ : Params) : Obj := ⟨(.type "tuple"), none, .seq (List.toArray [(.str (Str.ofString "a") 2299), (.str (Str.ofString "b") 2300), (.str (Str.ofString "max_cost") 2301), (.str (Str.ofString "pre") 2302), (.str (Str.ofString "post") 2303), (.str (Str.ofString "row") 2304), (.str (Str.ofString "result") 2305), (.str (Str.ofString "bindex") 2306), (.str (Str.ofString "bchar") 2307), (.str (Str.ofString "distance") 2308), (.str (Str.ofString "minimum") 2309), (.str (Str.ofString "index") 2310), (.str (Str.ofString "substitute") 2311), (.str (Str.ofString "insert_delete") 2312)]) 0, #[]⟩
noncomputable def ob_121 (_ : Params) : Obj := ⟨(.type "tuple"), none, .seq (List.toArray []) 0, #[]⟩
noncomputable def ob_122 (_ : Params) : Obj := ⟨.none, none, .func { name := Str.ofString "_levenshtein_distance", qualname := Str.ofString "_levenshtein_distance", params := d16.1.1, body := .stmts d16.1.2.1, scope := d16.1.2.2, globals := 0, closure := [], defaults := .none, kwdefaults := .none, doc := .none, pyModule := .none, annotations := none, code := .none, closureTuple := .none, builtins := 0 }, #[]⟩
noncomputable def ob_123 (_ : Params) : Obj := ⟨(.type "code"), none, .fields (List.toArray [(.str (Str.ofString "_levenshtein_distance") 2296), (.str (Str.ofString "_levenshtein_distance") 2297), (.str (Str.ofString "/claim/cut.py") 2298), (.int 107 0), (.int 3 0), (.int 0 0), (.int 0 0), (.int 3 0), (.ref 118), (.bool true), (.int 181 0), (.ref 119), .none, (.ref 120), (.ref 121), (.ref 122), (.int 2313 0), (.int 107 0), (.str (Str.ofString "/claim/cut.py") 2314)]), #[]⟩
noncomputable def ob_124 (_ : Params) : Obj := ⟨(.type "function"), none, .func { name := Str.ofString "_levenshtein_distance", qualname := Str.ofString "_levenshtein_distance", params := d16.1.1, body := .stmts d16.1.2.1, scope := d16.1.2.2, globals := 3, closure := [], defaults := .none, kwdefaults := .none, doc := .none, pyModule := (.str (Str.ofString "cpy313.traceback") 2280), annotations := none, code := (.ref 123), closureTuple := .none, builtins := 0 }, #[]⟩
noncomputable def ob_125 (_ : Params) : Obj := ⟨(.type "tuple"), none, .seq (List.toArray []) 0, #[]⟩
noncomputable def ob_126 (_ : Params) : Obj := ⟨.none, none, .fields (List.toArray []), #[]⟩
noncomputable def ob_127 (_ : Params) : Obj := ⟨(.type "tuple"), none, .seq (List.toArray [(.str (Str.ofString "numbers") 2321), (.str (Str.ofString "greats") 2322), (.str (Str.ofString "squares") 2323), (.str (Str.ofString "hidden") 2324), (.str (Str.ofString "typed") 2325), (.str (Str.ofString "meant") 2326), (.str (Str.ofString "x") 2327), (.str (Str.ofString "which") 2328), (.str (Str.ofString "letter") 2329), (.str (Str.ofString "script_form") 2330), (.str (Str.ofString "code") 2331), (.str (Str.ofString "letters") 2332)]) 0, #[]⟩
noncomputable def ob_128 (_ : Params) : Obj := ⟨(.type "tuple"), none, .seq (List.toArray []) 0, #[]⟩
noncomputable def ob_129 (_ : Params) : Obj := ⟨.none, none, .func { name := Str.ofString "_law_typed_and_meant", qualname := Str.ofString "_law_typed_and_meant", params := d18.1.1, body := .stmts d18.1.2.1, scope := d18.1.2.2, globals := 0, closure := [], defaults := .none, kwdefaults := .none, doc := .none, pyModule := .none, annotations := none, code := .none, closureTuple := .none, builtins := 0 }, #[]⟩
noncomputable def ob_130 (_ : Params) : Obj := ⟨(.type "code"), none, .fields (List.toArray [(.str (Str.ofString "_law_typed_and_meant") 2318), (.str (Str.ofString "_law_typed_and_meant") 2319), (.str (Str.ofString "/claim/cut.py") 2320), (.int 146 0), (.int 1 0), (.int 0 0), (.int 0 0), (.int 3 0), (.ref 125), (.bool true), (.int 181 0), (.ref 126), .none, (.ref 127), (.ref 128), (.ref 129), (.int 2333 0), (.int 146 0), (.str (Str.ofString "/claim/cut.py") 2334)]), #[]⟩
noncomputable def ob_131 (_ : Params) : Obj := ⟨(.type "function"), none, .func { name := Str.ofString "_law_typed_and_meant", qualname := Str.ofString "_law_typed_and_meant", params := d18.1.1, body := .stmts d18.1.2.1, scope := d18.1.2.2, globals := 3, closure := [], defaults := .none, kwdefaults := .none, doc := .none, pyModule := (.str (Str.ofString "law_ty0065_01") 2316), annotations := none, code := (.ref 130), closureTuple := .none, builtins := 0 }, #[]⟩
noncomputable def ob_132 (_ : Params) : Obj := ⟨(.type "tuple"), none, .seq (List.toArray []) 0, #[]⟩
noncomputable def ob_133 (_ : Params) : Obj := ⟨.none, none, .fields (List.toArray []), #[]⟩
noncomputable def ob_134 (_ : Params) : Obj := ⟨.none, none, .func { name := Str.ofString "_law_odd_less_even", qualname := Str.ofString "_law_odd_less_even", params := d19.1.1, body := .stmts d19.1.2.1, scope := d19.1.2.2, globals := 0, closure := [], defaults := .none, kwdefaults := .none, doc := .none, pyModule := .none, annotations := none, code := .none, closureTuple := .none, builtins := 0 }, #[]⟩
noncomputable def ob_135 (_ : Params) : Obj := ⟨(.type "code"), none, .fields (List.toArray [(.str (Str.ofString "_law_odd_less_even") 2336), (.str (Str.ofString "_law_odd_less_even") 2337), (.str (Str.ofString "/claim/cut.py") 2338), (.int 171 0), (.int 2 0), (.int 0 0), (.int 0 0), (.int 3 0), (.ref 132), (.bool true), (.int 181 0), (.ref 133), .none, .none, .none, (.ref 134), (.int 2339 0), (.int 171 0), (.str (Str.ofString "/claim/cut.py") 2340)]), #[]⟩
noncomputable def ob_136 (_ : Params) : Obj := ⟨(.type "function"), none, .func { name := Str.ofString "_law_odd_less_even", qualname := Str.ofString "_law_odd_less_even", params := d19.1.1, body := .stmts d19.1.2.1, scope := d19.1.2.2, globals := 3, closure := [], defaults := .none, kwdefaults := .none, doc := .none, pyModule := (.str (Str.ofString "law_ty0065_01") 2316), annotations := none, code := (.ref 135), closureTuple := .none, builtins := 0 }, #[]⟩
noncomputable def ob_137 (_ : Params) : Obj := ⟨(.type "tuple"), none, .seq (List.toArray []) 0, #[]⟩
noncomputable def ob_138 (_ : Params) : Obj := ⟨.none, none, .fields (List.toArray []), #[]⟩
noncomputable def ob_139 (_ : Params) : Obj := ⟨.none, none, .func { name := Str.ofString "_law_rings", qualname := Str.ofString "_law_rings", params := d20.1.1, body := .stmts d20.1.2.1, scope := d20.1.2.2, globals := 0, closure := [], defaults := .none, kwdefaults := .none, doc := .none, pyModule := .none, annotations := none, code := .none, closureTuple := .none, builtins := 0 }, #[]⟩
noncomputable def ob_140 (_ : Params) : Obj := ⟨(.type "code"), none, .fields (List.toArray [(.str (Str.ofString "_law_rings") 2342), (.str (Str.ofString "_law_rings") 2343), (.str (Str.ofString "/claim/cut.py") 2344), (.int 177 0), (.int 1 0), (.int 0 0), (.int 0 0), (.int 3 0), (.ref 137), (.bool true), (.int 181 0), (.ref 138), .none, .none, .none, (.ref 139), (.int 2345 0), (.int 177 0), (.str (Str.ofString "/claim/cut.py") 2346)]), #[]⟩
noncomputable def ob_141 (_ : Params) : Obj := ⟨(.type "function"), none, .func { name := Str.ofString "_law_rings", qualname := Str.ofString "_law_rings", params := d20.1.1, body := .stmts d20.1.2.1, scope := d20.1.2.2, globals := 3, closure := [], defaults := .none, kwdefaults := .none, doc := .none, pyModule := (.str (Str.ofString "law_ty0065_01") 2316), annotations := none, code := (.ref 140), closureTuple := .none, builtins := 0 }, #[]⟩
noncomputable def ob_142 (_ : Params) : Obj := ⟨(.type "tuple"), none, .seq (List.toArray []) 0, #[]⟩
noncomputable def ob_143 (_ : Params) : Obj := ⟨.none, none, .fields (List.toArray []), #[]⟩
noncomputable def ob_144 (_ : Params) : Obj := ⟨.none, none, .func { name := Str.ofString "law", qualname := Str.ofString "law", params := d21.1.1, body := .stmts d21.1.2.1, scope := d21.1.2.2, globals := 0, closure := [], defaults := .none, kwdefaults := .none, doc := .none, pyModule := .none, annotations := none, code := .none, closureTuple := .none, builtins := 0 }, #[]⟩
noncomputable def ob_145 (_ : Params) : Obj := ⟨(.type "code"), none, .fields (List.toArray [(.str (Str.ofString "law") 2348), (.str (Str.ofString "law") 2349), (.str (Str.ofString "/claim/cut.py") 2350), (.int 189 0), (.int 1 0), (.int 0 0), (.int 0 0), (.int 3 0), (.ref 142), (.bool true), (.int 181 0), (.ref 143), .none, .none, .none, (.ref 144), (.int 2351 0), (.int 189 0), (.str (Str.ofString "/claim/cut.py") 2352)]), #[]⟩
noncomputable def ob_146 (_ : Params) : Obj := ⟨(.type "function"), none, .func { name := Str.ofString "law", qualname := Str.ofString "law", params := d21.1.1, body := .stmts d21.1.2.1, scope := d21.1.2.2, globals := 3, closure := [], defaults := .none, kwdefaults := .none, doc := .none, pyModule := (.str (Str.ofString "law_ty0065_01") 2316), annotations := none, code := (.ref 145), closureTuple := .none, builtins := 0 }, #[]⟩
noncomputable def ob_65 (_ : Params) : Obj := dictO b3es 650
/-- the written part of the heap behind the top -/
noncomputable def KK : Params → Frag := fun P => (nat_lit 2, boot_o_2 P) :: (nat_lit 3, ob_3 P) :: (nat_lit 15, ob_15 P) :: (nat_lit 16, ob_16 P) :: (nat_lit 22, ob_22 P) :: (nat_lit 23, ob_23 P) :: (nat_lit 24, ob_24 P) :: (nat_lit 25, ob_25 P) :: (nat_lit 31, ob_31 P) :: (nat_lit 32, ob_32 P) :: (nat_lit 38, ob_38 P) :: (nat_lit 39, ob_39 P) :: (nat_lit 45, ob_45 P) :: (nat_lit 46, ob_46 P) :: (nat_lit 54, ob_54 P) :: (nat_lit 63, ob_63 P) :: (nat_lit 64, ob_64 P) :: (nat_lit 65, ob_65 P) :: (nat_lit 109, ob_109 P) :: (nat_lit 110, ob_110 P) :: (nat_lit 116, ob_116 P) :: (nat_lit 117, ob_117 P) :: (nat_lit 123, ob_123 P) :: (nat_lit 124, ob_124 P) :: (nat_lit 130, ob_130 P) :: (nat_lit 131, ob_131 P) :: (nat_lit 135, ob_135 P) :: (nat_lit 136, ob_136 P) :: (nat_lit 140, ob_140 P) :: (nat_lit 141, ob_141 P) :: (nat_lit 145, ob_145 P) :: (nat_lit 146, ob_146 P) :: []
noncomputable def KKa : List Addr := [2, 3, 15, 16, 22, 23, 24, 25, 31, 32, 38, 39, 45, 46, 54, 63, 64, 65, 109, 110, 116, 117, 123, 124, 130, 131, 135, 136, 140, 141, 145, 146]
theorem KKa_eq (P : Params) : KKa = (KK P).map (·.1) := rfl
end
end

section
open PySem PySem.W PySem.Spec PySem.Calls PyProof.Rows
set_option maxRecDepth 100000
set_option maxHeartbeats 8000000
/-- a contract: the call of the def at f with vs, from any frame of the text's, comes back as Ret says -/
noncomputable def Callee (w : World) (f : Addr) (vs : List Value) (news : List (Addr × Obj)) (deep : Nat) (Ret : Heap → Addr → (Str → Option Value) → Shared → (Value → Shared → Prop) → Prop) : Prop :=
  ∀ (p : Program) (loose : List Str) (mean : ExcName → Option Value) (mg mb : Str → Option Value) (dp un : Nat) (gd : Option (List Code)) (cn : Str) (cs : Scope) (a : Addr) (ccd : Value) (cl : List (Str × Addr)) (outer : List Env) (A₀ : Around) (base h₀ : Heap) (L : Addr) (m : Str → Option Value) (s : Shared) (Q E : Value → Shared → Prop),
    Below A₀ base outer h₀ → Fr h₀ L s.heap m → (KK w.params).In h₀ → News h₀ L s.heap news → Top p loose mean mg mb h₀ → cs.kind = .function → dp + deep < recursionLimit → un + 8 * deep < cLine → Ret h₀ L m s Q →
    wpAny (model PySem.Challenge.rw_ty0065_01.prog w) (ktrTop dp un gd cn cs L a ccd cl outer) (call (.ref f) vs) Q E s
/-- a value comes back, the ledger stays, and every object that stood -/
noncomputable abbrev RetV (news : List (Addr × Obj)) (R : Tok → Value) : Heap → Addr → (Str → Option Value) → Shared → (Value → Shared → Prop) → Prop :=
  fun h₀ L m s Q => ∀ (t : Tok) (h' : Heap) (tk' : Nat), Fr h₀ L h' m → News h₀ L h' news → InElt s.heap h' → Q (R t) { s with heap := h', toks := tk' }
end

section
open PySem PySem.W PySem.Spec PySem.Calls PyProof.Rows
set_option maxRecDepth 100000
set_option maxHeartbeats 8000000
section
variable {prog : Program} {w : World} {A : Around} {E : Value → Shared → Prop} {s : Shared} {Q : Value → Shared → Prop} {h₀ h : Heap} {L : Addr} {m : Str → Option Value} {news : List (Addr × Obj)}

/-! the set b1_set -/
noncomputable def b1l : List Int := [173, 847, 6150, 6155, 6156, 6157, 8203, 8204, 8205, 8288, 65279] ++ (List.range 16).map fun (i : Nat) => Int.ofNat (65024 + i)
noncomputable def entsOf54 : List (Int × Value) := match (ob_54 (P := ⟨fun _ => 0, fun _ => 0, id, fun _ => 0, fun _ _ => 0, fun _ => false, fun _ => 0, .refcount, .text, fun _ => 0, fun _ => none, fun _ => false, fun _ _ _ => true, fun _ _ _ => false, true, fun _ => false, fun _ => none, fun _ => none, fun _ _ _ => 0, fun _ _ => none, fun _ => none, fun _ => (0, false, "UTC"), fun _ => none, id, fun _ => false⟩)).data with
  | .set es _ _ => es.toList
  | _ => []
theorem set54_elems : entsOf54.all (fun e => match e.2 with | .int k _ => decide (e.1 = hashInt k) | _ => false) = true := by decide +kernel
theorem set54_mem : ((entsOf54.map fun e => match e.2 with | .int k _ => k | _ => 0).isPerm b1l) = true := by decide +kernel
theorem set54 (X : (KK w.params).In h) : h.SetOf (intKind prog w) 54 (fun k => b1l.contains k) 27 := by
  refine ⟨ob_54 w.params, entsOf54.toArray, _, _, X 54 _ rfl, ⟨rfl, rfl, rfl⟩, rfl, ?_, ?_, by decide +kernel, by rfl, by decide +kernel⟩
  · intro e he
    have h1 := List.all_eq_true.mp set54_elems e (by simpa using he)
    revert h1
    obtain ⟨a, v⟩ := e
    cases v with
    | int k t => intro h1; exact ⟨⟨k, by simp [intKind, Value.isInt], of_decide_eq_true h1⟩, rfl⟩
    | _ => intro h1; cases h1
  · intro k
    have hp := List.isPerm_iff.mp set54_mem
    rw [List.contains_iff_mem, ← hp.mem_iff, List.mem_map]
    constructor
    · rintro ⟨e, he, rfl⟩
      refine ⟨e, by simpa using he, ?_⟩
      have h1 := List.all_eq_true.mp set54_elems e he
      obtain ⟨a, v⟩ := e
      cases v <;> first | (cases h1; done) | simp [intKind, Value.isInt]
    · rintro ⟨e, he, hk⟩
      refine ⟨e, by simpa using he, ?_⟩
      obtain ⟨a, v⟩ := e
      obtain ⟨t, rfl⟩ := Value.isInt_shape hk
      rfl
theorem in54 {c : Int} {t : Tok} (F : Fr h₀ L s.heap m) (X : (KK w.params).In h₀) (hq : Q (.bool (b1l.contains c)) { s with toks := s.toks + 1 }) :
    wpAny (model prog w) A (compareOp .In (.int c t) (.ref 54)) Q E s :=
  wpAny_inSet_of (intKind_is prog w c t) rfl (set54 (X.keeps F.keep)) hq

/-! the dict b3_exceptions -/
noncomputable def b3f (k : Int) : Option Value := (b3es.find? fun e => Value.isInt k e.key).map (·.val)
theorem b3e_keys (d : Nat) : ∀ (l : List (Int × Str)) (t : Nat), (l.all fun x => decide (hashInt x.1 = x.1)) = true → ∀ e ∈ b3e d t l, ∃ k, Value.isInt k e.key = true ∧ e.hash = hashInt k
  | [], _, _, e, he => by cases he
  | (k, v) :: r, t, hl, e, he => by
    rw [List.all_cons, Bool.and_eq_true] at hl
    rcases List.mem_cons.mp he with rfl | he
    · exact ⟨k, by simp [Value.isInt], (of_decide_eq_true hl.1).symm⟩
    · exact b3e_keys d r _ hl.2 e he
theorem b3l_hash : (b3l.all fun x => decide (hashInt x.1 = x.1)) = true := by decide +kernel
theorem b3es_keys : ∀ e ∈ b3es, ∃ k, Value.isInt k e.key = true ∧ e.hash = hashInt k := by
  intro e he
  unfold b3es at he
  have hs := b3l_hash
  rw [← List.take_append_drop 646 b3l, List.all_append, Bool.and_eq_true] at hs
  rcases List.mem_append.mp he with he | he
  · exact b3e_keys 3 _ _ hs.1 e he
  · exact b3e_keys 2 _ _ hs.2 e he
theorem dict65 (X : (KK w.params).In h) : h.MapOf (intKind prog w) 65 b3f := by
  refine ⟨ob_65 w.params, b3es.toArray, 650, X 65 _ rfl, ⟨rfl, rfl, rfl⟩, rfl, fun e he => ?_, fun k => ?_⟩
  · exact b3es_keys e (by simpa using he)
  · unfold findBy b3f; rw [List.find?_toArray]; rfl
theorem get65M {pl : Sem Bool} {Q : Value × List Value → Shared → Prop} (F : Fr h₀ L s.heap m) (X : (KK w.params).In h₀) (hq : Q (.builtin "dict.get", [.ref 65]) s) :
    wpAny (model prog w) A (getMethod (.ref 65) "get" pl) Q E s :=
  have hm := dict65 (prog := prog) (X.keeps F.keep)
  getMethod_builtin hm.typeIs PySem.F.plainAttrs_dict PySem.F.slot_dict_get PySem.F.type_dict_get hm.noDict hq
theorem get65 {c : Int} {t : Tok} (F : Fr h₀ L s.heap m) (X : (KK w.params).In h₀) (hq : Q ((b3f c).getD .none) { s with toks := s.toks + 1 }) :
    wpAny (model prog w) A (call (.builtin "dict.get") [.ref 65, .int c t]) Q E s :=
  have hm := dict65 (prog := prog) (X.keeps F.keep)
  call_meetsIn PySem.F.slot_dict_get hm.typeIs PySem.F.entry_dict_get (PySem.F.args_dict_get_2 _ _) (meets_dict_get (intKind prog w) 65 (intKind_is prog w c t) (by decide)) ⟨_, hm, hq⟩

/-! max and min of three floats -/
noncomputable def fls (l : List (UInt64 × Tok)) : Array Value := (l.map fun x => Value.float x.1 x.2).toArray
noncomputable def flAt (l : List (UInt64 × Tok)) (i : Nat) : UInt64 := (l[i]?.map (·.1)).getD 0
theorem fls_at {l : List (UInt64 × Tok)} {i : Nat} {v : Value} (e : (fls l)[i]? = some v) : ∃ t, v = .float (flAt l i) t := by
  unfold fls at e
  rw [List.getElem?_toArray, List.getElem?_map] at e
  unfold flAt
  cases hx : l[i]? with
  | none => rw [hx] at e; cases e
  | some x => rw [hx] at e; cases e; exact ⟨x.2, rfl⟩
theorem fl_gt {P : Nat → Value → Prop} (val : Nat → UInt64) (hval : ∀ i v, P i v → ∃ t, v = .float (val i) t) : CmpOf prog w A .Gt P (fun i j => Float64.cmp (val i) (val j) == some .gt) := fun i j vi vj s Q E hi hj hq => by
  obtain ⟨t, rfl⟩ := hval i vi hi
  obtain ⟨u, rfl⟩ := hval j vj hj
  exact AutoFloatOps.gt_0 hq
theorem fl_lt {P : Nat → Value → Prop} (val : Nat → UInt64) (hval : ∀ i v, P i v → ∃ t, v = .float (val i) t) : CmpOf prog w A .Lt P (fun i j => Float64.cmp (val i) (val j) == some .lt) := fun i j vi vj s Q E hi hj hq => by
  obtain ⟨t, rfl⟩ := hval i vi hi
  obtain ⟨u, rfl⟩ := hval j vj hj
  exact AutoFloatOps.lt_0 hq
noncomputable def flMax (a b : UInt64) : UInt64 := if Float64.cmp b a == some .gt then b else a
noncomputable def flMin (a b : UInt64) : UInt64 := if Float64.cmp b a == some .lt then b else a
theorem best3 (f : UInt64 → UInt64 → Bool) (a b c : UInt64) (t u x : Tok) : flAt [(a, t), (b, u), (c, x)] (argBest (fun i j => f (flAt [(a, t), (b, u), (c, x)] i) (flAt [(a, t), (b, u), (c, x)] j)) 2) =
    (fun p q => if f q p then q else p) ((fun p q => if f q p then q else p) a b) c := by
  cases h1 : f b a <;> cases h2 : f c a <;> cases h3 : f c b <;> simp [argBest, flAt, h1, h2, h3]
theorem max3f {a b c : UInt64} {t u x : Tok} (hh : A.handled = none) (F : Fr h₀ L s.heap m) (N : News h₀ L s.heap news)
    (hq : ∀ t' h' tk, Fr h₀ L h' m → News h₀ L h' news → Q (.float (flMax (flMax a b) c) t') { s with heap := h', toks := tk }) :
    wpAny (model prog w) A (call (.builtin "max") [.float a t, .float b u, .float c x]) Q E s := by
  have hT : (s.heap.push { cls := .type "tuple", data := .seq #[.float a t, .float b u, .float c x] }).IsTuple s.heap.objs.size (fls [(a, t), (b, u), (c, x)]) := ⟨_, Heap.get?_push_size _ rfl, rfl, 0, rfl⟩
  refine call_max_three (wpAny_pyIter_tuple hT ?_)
  have hsz : (s.heap.push { cls := .type "tuple", data := .seq #[.float a t, .float b u, .float c x] }).objs.size = s.heap.objs.size + 1 := Heap.size_push ..
  refine ⟨_, [_, s.heap.objs.size], [_], _, _, _, _, rfl, Walks.tuple (A := A.in1) hh _ s.heap.objs.size (by rw [hsz]; exact Nat.ne_of_lt (Nat.lt_succ_self _)) (fls [(a, t), (b, u), (c, x)]),
    ⟨⟨_, Heap.get?_push_size _ rfl, rfl, rfl⟩, hT.push _⟩, fun d hd => ?_, by simp [fls], fl_gt (flAt [(a, t), (b, u), (c, x)]) (fun _ _ => fls_at), fun v h' tk hP hk => ?_⟩
  · show d < ((s.heap.push _).push _).objs.size
    rw [Heap.size_push, hsz]
    rcases List.mem_cons.mp hd with rfl | hd
    · rw [hsz]; exact Nat.lt_succ_self _
    · rcases List.mem_cons.mp hd with rfl | hd
      · exact Nat.lt_succ_of_lt (Nat.lt_succ_self _)
      · cases hd
  · have hold : ∀ d o, s.heap.get? d = some o → h'.get? d = some o := fun d o e => by
      refine hk d o (fun hm => ?_) (Heap.get?_push_of_some _ (Heap.get?_push_of_some _ e))
      rcases List.mem_cons.mp hm with e1 | hm
      · have := Heap.lt_size e; rw [e1, hsz] at this; exact Nat.lt_irrefl _ (Nat.lt_of_succ_lt this)
      · cases hm
    obtain ⟨t', rfl⟩ := fls_at hP
    have e := best3 (fun p q => Float64.cmp p q == some .gt) a b c t u x
    have hsz2 : (fls [(a, t), (b, u), (c, x)]).size - 1 = 2 := by simp [fls]
    rw [hsz2, e]
    exact hq t' h' tk (F.grownK hold) (N.grown hold)
theorem min3f {a b c : UInt64} {t u x : Tok} (hh : A.handled = none) (F : Fr h₀ L s.heap m) (N : News h₀ L s.heap news)
    (hq : ∀ t' h' tk, Fr h₀ L h' m → News h₀ L h' news → Q (.float (flMin (flMin a b) c) t') { s with heap := h', toks := tk }) :
    wpAny (model prog w) A (call (.builtin "min") [.float a t, .float b u, .float c x]) Q E s := by
  have hT : (s.heap.push { cls := .type "tuple", data := .seq #[.float a t, .float b u, .float c x] }).IsTuple s.heap.objs.size (fls [(a, t), (b, u), (c, x)]) := ⟨_, Heap.get?_push_size _ rfl, rfl, 0, rfl⟩
  refine call_min_three (wpAny_pyIter_tuple hT ?_)
  have hsz : (s.heap.push { cls := .type "tuple", data := .seq #[.float a t, .float b u, .float c x] }).objs.size = s.heap.objs.size + 1 := Heap.size_push ..
  refine ⟨_, [_, s.heap.objs.size], [_], _, _, _, _, rfl, Walks.tuple (A := A.in1) hh _ s.heap.objs.size (by rw [hsz]; exact Nat.ne_of_lt (Nat.lt_succ_self _)) (fls [(a, t), (b, u), (c, x)]),
    ⟨⟨_, Heap.get?_push_size _ rfl, rfl, rfl⟩, hT.push _⟩, fun d hd => ?_, by simp [fls], fl_lt (flAt [(a, t), (b, u), (c, x)]) (fun _ _ => fls_at), fun v h' tk hP hk => ?_⟩
  · show d < ((s.heap.push _).push _).objs.size
    rw [Heap.size_push, hsz]
    rcases List.mem_cons.mp hd with rfl | hd
    · rw [hsz]; exact Nat.lt_succ_self _
    · rcases List.mem_cons.mp hd with rfl | hd
      · exact Nat.lt_succ_of_lt (Nat.lt_succ_self _)
      · cases hd
  · have hold : ∀ d o, s.heap.get? d = some o → h'.get? d = some o := fun d o e => by
      refine hk d o (fun hm => ?_) (Heap.get?_push_of_some _ (Heap.get?_push_of_some _ e))
      rcases List.mem_cons.mp hm with e1 | hm
      · have := Heap.lt_size e; rw [e1, hsz] at this; exact Nat.lt_irrefl _ (Nat.lt_of_succ_lt this)
      · cases hm
    obtain ⟨t', rfl⟩ := fls_at hP
    have e := best3 (fun p q => Float64.cmp p q == some .lt) a b c t u x
    have hsz2 : (fls [(a, t), (b, u), (c, x)]).size - 1 = 2 := by simp [fls]
    rw [hsz2, e]
    exact hq t' h' tk (F.grownK hold) (N.grown hold)
end
/-! what the two colour functions reckon, where they don't raise -/
noncomputable abbrev hsvX (h : UInt64) : UInt64 := Float64.mul h 4618441417868443648
noncomputable abbrev hsvI (h : UInt64) : Int := Flt.toInt Float64.truncOf (hsvX h)
noncomputable def hsvOk (h s : UInt64) : Bool := !(Float64.cmp s 0 == some .eq) && Float64.isFinite (hsvX h) && !Float64.isNaN (hsvX h) && !Float64.isInf (hsvX h) && decide ((hsvI h).natAbs < 1000)
noncomputable def hsvT {α : Type} (i : Int) (v p q t : α) : α × α × α :=
  if i.fmod 6 = 0 then (v, t, p) else if i.fmod 6 = 1 then (q, v, p) else if i.fmod 6 = 2 then (p, v, t) else if i.fmod 6 = 3 then (p, q, v) else if i.fmod 6 = 4 then (t, p, v) else (v, p, q)
theorem hsvT_0 {α : Type} {i : Int} {v p q t : α} (h : i.fmod 6 = 0) : hsvT i v p q t = (v, t, p) := by simp [hsvT, h]
theorem hsvT_1 {α : Type} {i : Int} {v p q t : α} (h : i.fmod 6 = 1) : hsvT i v p q t = (q, v, p) := by simp [hsvT, h]
theorem hsvT_2 {α : Type} {i : Int} {v p q t : α} (h : i.fmod 6 = 2) : hsvT i v p q t = (p, v, t) := by simp [hsvT, h]
theorem hsvT_3 {α : Type} {i : Int} {v p q t : α} (h : i.fmod 6 = 3) : hsvT i v p q t = (p, q, v) := by simp [hsvT, h]
theorem hsvT_4 {α : Type} {i : Int} {v p q t : α} (h : i.fmod 6 = 4) : hsvT i v p q t = (t, p, v) := by simp [hsvT, h]
theorem hsvT_5 {α : Type} {i : Int} {v p q t : α} (h : i.fmod 6 = 5) : hsvT i v p q t = (v, p, q) := by simp [hsvT, h]
theorem fmod6 (i : Int) (h0 : i.fmod 6 ≠ 0) (h1 : i.fmod 6 ≠ 1) (h2 : i.fmod 6 ≠ 2) (h3 : i.fmod 6 ≠ 3) (h4 : i.fmod 6 ≠ 4) (h5 : i.fmod 6 ≠ 5) : False := by
  rw [Int.fmod_eq_emod_of_nonneg _ (by decide)] at *; omega
noncomputable def hsvR (h s v : UInt64) : UInt64 × UInt64 × UInt64 :=
  hsvT (hsvI h) v (Float64.mul v (Float64.sub 4607182418800017408 s))
    (Float64.mul v (Float64.sub 4607182418800017408 (Float64.mul s (Float64.sub (hsvX h) (Float64.ofInt (hsvI h))))))
    (Float64.mul v (Float64.sub 4607182418800017408 (Float64.mul s (Float64.sub 4607182418800017408 (Float64.sub (hsvX h) (Float64.ofInt (hsvI h)))))))
noncomputable abbrev hlsMx (r g b : UInt64) : UInt64 := flMax (flMax r g) b
noncomputable abbrev hlsMn (r g b : UInt64) : UInt64 := flMin (flMin r g) b
noncomputable abbrev hlsL (r g b : UInt64) : UInt64 := Float64.div (Float64.add (hlsMx r g b) (hlsMn r g b)) 4611686018427387904
noncomputable def hlsOk (r g b : UInt64) : Bool :=
  !(Float64.cmp (hlsMn r g b) (hlsMx r g b) == some .eq) && !Float64.isZero (Float64.add (hlsMx r g b) (hlsMn r g b)) && !Float64.isZero (Float64.sub (Float64.sub 4611686018427387904 (hlsMx r g b)) (hlsMn r g b)) && !Float64.isZero (Float64.sub (hlsMx r g b) (hlsMn r g b))
noncomputable abbrev hlsC (r g b x : UInt64) : UInt64 := Float64.div (Float64.sub (hlsMx r g b) x) (Float64.sub (hlsMx r g b) (hlsMn r g b))
noncomputable abbrev hlsEnd (h : UInt64) : UInt64 := (Float64.divmod (Float64.div h 4618441417868443648) 4607182418800017408).snd
noncomputable def hlsH (r g b : UInt64) : UInt64 :=
  if (Float64.cmp r (hlsMx r g b) == some Ordering.eq) = true then hlsEnd (Float64.sub (hlsC r g b b) (hlsC r g b g))
  else if (Float64.cmp g (hlsMx r g b) == some Ordering.eq) = true then hlsEnd (Float64.sub (Float64.add 4611686018427387904 (hlsC r g b r)) (hlsC r g b b))
  else hlsEnd (Float64.sub (Float64.add 4616189618054758400 (hlsC r g b g)) (hlsC r g b r))
theorem hlsH_1 {r g b : UInt64} (h : (Float64.cmp r (hlsMx r g b) == some Ordering.eq) = true) : hlsH r g b = hlsEnd (Float64.sub (hlsC r g b b) (hlsC r g b g)) := by unfold hlsH; rw [if_pos h]
theorem hlsH_2 {r g b : UInt64} (h : (Float64.cmp r (hlsMx r g b) == some Ordering.eq) = false) (k : (Float64.cmp g (hlsMx r g b) == some Ordering.eq) = true) : hlsH r g b = hlsEnd (Float64.sub (Float64.add 4611686018427387904 (hlsC r g b r)) (hlsC r g b b)) := by
  unfold hlsH; rw [if_neg (by rw [h]; decide), if_pos k]
theorem hlsH_3 {r g b : UInt64} (h : (Float64.cmp r (hlsMx r g b) == some Ordering.eq) = false) (k : (Float64.cmp g (hlsMx r g b) == some Ordering.eq) = false) : hlsH r g b = hlsEnd (Float64.sub (Float64.add 4616189618054758400 (hlsC r g b g)) (hlsC r g b r)) := by
  unfold hlsH; rw [if_neg (by rw [h]; decide), if_neg (by rw [k]; decide)]
/-- what changing one sign into another costs -/
noncomputable def subR (c d : Nat) : Int := if ((⟨#[c]⟩ : Str) == ⟨#[d]⟩) = true then 0 else if (Txt.lower ⟨#[c]⟩ == Txt.lower ⟨#[d]⟩) = true then 1 else 2
theorem subR_0 {c d : Nat} (h : ((⟨#[c]⟩ : Str) == ⟨#[d]⟩) = true) : 0 = subR c d := by unfold subR; rw [if_pos h]
theorem subR_1 {c d : Nat} (h : ((⟨#[c]⟩ : Str) == ⟨#[d]⟩) = false) (k : (Txt.lower ⟨#[c]⟩ == Txt.lower ⟨#[d]⟩) = true) : 1 = subR c d := by unfold subR; rw [if_neg (by rw [h]; decide), if_pos k]
theorem subR_2 {c d : Nat} (h : ((⟨#[c]⟩ : Str) == ⟨#[d]⟩) = false) (k : (Txt.lower ⟨#[c]⟩ == Txt.lower ⟨#[d]⟩) = false) : 2 = subR c d := by unfold subR; rw [if_neg (by rw [h]; decide), if_neg (by rw [k]; decide)]
theorem retI {h₀ h' : Heap} {L : Addr} {m : Str → Option Value} {news : List (Addr × Obj)} {s : Shared} {Q : Value → Shared → Prop} {x y : Int} {t : Tok} {tk' : Nat}
    (hret : ∀ (t : Tok) (h' : Heap) (tk' : Nat), Fr h₀ L h' m → News h₀ L h' news → InElt s.heap h' → Q (.int x t) { s with heap := h', toks := tk' }) (e : y = x) (F : Fr h₀ L h' m) (N : News h₀ L h' news) (K : InElt s.heap h') : Q (.int y t) { s with heap := h', toks := tk' } := by
  subst e; exact hret t h' tk' F N K
/-- a tuple of three floats comes back -/
noncomputable abbrev RetF3 (news : List (Addr × Obj)) (x y z : UInt64) : Heap → Addr → (Str → Option Value) → Shared → (Value → Shared → Prop) → Prop :=
  fun h₀ L m s Q => ∀ (D : Addr) (t1 t2 t3 : Tok) (h' : Heap) (tk' : Nat), Fr h₀ L h' m → News h₀ L h' ((D, ({ cls := .type "tuple", data := .seq #[.float x t1, .float y t2, .float z t3] } : Obj)) :: news) → (∀ p ∈ news, p.1 < D) → InElt s.heap h' → Q (.ref D) { s with heap := h', toks := tk' }
end

section
open PySem PySem.W PySem.Spec PySem.Calls PyProof.Rows
theorem ifSame {a z : Str} {v r b : Option Value} (h : z ≠ a) (k : b = r) : (if z = a then v else b) = r := by rw [if_neg h]; exact k
theorem ifSameR {a z : Str} {v r b : Option Value} (h : z ≠ a) (k : b = r) : b = (if z = a then v else r) := by rw [if_neg h]; exact k
theorem neSt {stored : List Str} {z a : Str} (h : stored.contains z = false) (ha : stored.contains a = true) : z ≠ a := by rintro rfl; rw [h] at ha; cases ha
theorem kstSame {ps : List (Str × Value)} {m : Str → Option Value} {z : Str} {r : Option Value} (h : ∀ p ∈ ps, z ≠ p.1) (k : m z = r) : kstB m ps z = r := by
  rw [← k]
  induction ps with
  | nil => rfl
  | cons p ps ih =>
    show (if z = p.1 then _ else kstB m ps z) = _
    rw [if_neg (h p List.mem_cons_self)]
    exact ih fun q hq => h q (List.mem_cons_of_mem _ hq)
theorem stSame {stored : List Str} {z : Str} {u m : Option Value} (h : stored.contains z = false) : (if stored.contains z = true then u else m) = m := by rw [if_neg (by rw [h]; exact Bool.false_ne_true)]
theorem stOff {outer inner : List Str} {z : Str} {u b r : Option Value} (h : outer.contains z = false) (ha : (inner.all fun a => outer.contains a) = true) (k : b = r) : (if inner.contains z = true then u else b) = r := by
  rw [if_neg]; exact k
  intro hc
  have := List.all_eq_true.mp ha z (List.contains_iff_mem.mp hc)
  rw [h] at this; cases this
theorem notIn {z : Str} {l : List (Str × Value)} {a : Str} (h : ∀ p ∈ l, z ≠ p.1) (ha : (l.any fun p => p.1 == a) = true) : z ≠ a := by
  obtain ⟨p, hp, e⟩ := List.any_eq_true.mp ha
  rw [← eq_of_beq e]
  exact h p hp
theorem kstOff {l ps : List (Str × Value)} {m : Str → Option Value} {z : Str} {r : Option Value} (h : ∀ p ∈ l, z ≠ p.1) (ha : (ps.all fun q => l.any fun p => p.1 == q.1) = true) (k : m z = r) : kstB m ps z = r :=
  kstSame (fun q hq => notIn h (List.all_eq_true.mp ha q hq)) k
end

section
open PySem PySem.W PySem.Spec PySem.Calls PyProof.Rows
set_option maxRecDepth 100000
set_option maxHeartbeats 8000000
/-- a goal that the walk leaves alone -/
noncomputable def Stop (P : Prop) : Prop := P
theorem stopHere {P : Prop} (h : Stop P) : P := h
theorem Stop.on {P : Prop} (h : P) : Stop P := h

/-! a def's defaults read off the written part -/
theorem binds_peek {K : Frag} {s : Shared} {fd : FuncData} {args : Args} {binds : List (Str × Value)} (X : K.In s.heap) (h : ∀ S : Setting, peek K S (bindArgs fd args) = some binds) : BindsTo s fd args binds :=
  fun _ _ _ _ hq Γ p _ => wp_of_peek X hq _ (h _)

/-! lists of floats -/
inductive FlsAre : List Value → List UInt64 → Prop
  | nil : FlsAre [] []
  | cons {vs : List Value} {xs : List UInt64} (x : UInt64) (t : Tok) : FlsAre vs xs → FlsAre (.float x t :: vs) (x :: xs)
theorem FlsAre.length {vs : List Value} {xs : List UInt64} (h : FlsAre vs xs) : vs.length = xs.length := by
  induction h with
  | nil => rfl
  | cons x t _ ih => simp [ih]
theorem FlsAre.get {vs : List Value} {xs : List UInt64} (h : FlsAre vs xs) : ∀ i, i < xs.length → ∃ t, vs[i]? = some (.float (xs.getD i 0) t) := by
  induction h with
  | nil => intro i hi; exact absurd hi (Nat.not_lt_zero _)
  | cons x t _ ih =>
    intro i hi
    cases i with
    | zero => exact ⟨t, rfl⟩
    | succ i => simpa using ih i (Nat.lt_of_succ_lt_succ hi)

section
variable {prog : Program} {w : World} {A : Around} {E : Value → Shared → Prop} {s : Shared} {Q : Value → Shared → Prop} {h₀ : Heap} {L l : Addr} {m : Str → Option Value} {news : List (Addr × Obj)}
theorem newsList {h : Heap} {vs : List Value} {n : Nat} (N : News h₀ L h news) (hm : (l, listOf vs.toArray n) ∈ news) : h.IsList l vs.toArray := ⟨_, N.get hm, rfl, n, rfl⟩
theorem flItem {value slice : Expr} {vs : List Value} {xs : List UInt64} {n : Nat} {k : Int} {u : Tok} (N : News h₀ L s.heap news) (hm : (l, listOf vs.toArray n) ∈ news) (hv : FlsAre vs xs) (h0 : 0 ≤ k) (h1 : k.toNat < xs.length) (h2 : xs.length < 2 ^ 62)
    (h : ∀ t, Q (.float (xs.getD k.toNat 0) t) s) (hs : subscripted slice false (.ref l) (.int k u) = operate [.ref l, .int k u] (getItem (.ref l) (.int k u)) := by with_unfolding_all rfl) :
    wpAny (model prog w) A (subscriptTail value slice (.ref l) (.int k u)) Q E s := by
  obtain ⟨t, ht⟩ := hv.get k.toNat h1
  have hl : s.heap.IsList l vs.toArray := newsList N hm
  exact tail_any hl.typeIs slot_list_getitem.lookup (wpAny_getItem_list hl h0 (by omega) (by simpa using ht) (h t)) hs
end

section
variable {prog : Program} {w : World} {A : Around} {E : Value → Shared → Prop} {s : Shared} {env : Env} {h₀ : Heap} {x : Str} {body : List Stmt} {Q : Flow → Shared → Prop}
/-- how a turn of a for loop ends -/
noncomputable def FEnd {σ : Type} (h₀ : Heap) (L : Addr) (x : Str) (Led : σ → List (Addr × Obj)) (ps : σ → List (Str × Value)) (stored : List Str) (m₀ : Str → Option Value) (P : σ → Prop) (own : List (Addr × Obj)) (s s₂ : Shared) : Prop :=
  ∃ (c' : σ) (h' : Heap) (tk : Nat) (m' : Str → Option Value) (news' : List (Addr × Obj)), s₂ = { s with heap := h', toks := tk } ∧ Fr h₀ L h' m' ∧ News h₀ L h' news' ∧ (∀ p ∈ Led c', p ∈ news') ∧ (∀ p ∈ own, p ∈ news') ∧ OwnOff own ((Led c').map (·.1)) ∧
    (∀ p ∈ ps c', m' p.1 = some p.2) ∧ (∀ z, z ≠ x → (∀ p ∈ ps c', z ≠ p.1) → stored.contains z = false → m' z = m₀ z) ∧ P c'
noncomputable def FPost {σ : Type} (h₀ : Heap) (L : Addr) (x : Str) (Led : σ → List (Addr × Obj)) (ps : σ → List (Str × Value)) (stored : List Str) (m₀ : Str → Option Value) (P : σ → Prop) (own : List (Addr × Obj)) (s : Shared) (Q : Flow → Shared → Prop) (f : Flow) (s₂ : Shared) : Prop :=
  match f with
  | .ret v => Q (.ret v) s₂
  | .brk => Q .next s₂
  | _ => FEnd h₀ L x Led ps stored m₀ P own s s₂
theorem forRange {σ : Type} {r : Addr} {a₀ b₀ : Int} {t₀ u₀ v₀ : Tok} {n : Nat} {m₀ : Str → Option Value} (Led : σ → List (Addr × Obj)) (ps : σ → List (Str × Value)) (stored : List Str) (P : Nat → σ → Prop) (c₀ : σ)
    (hh : A.handled = none) (hr : IsRange s.heap r a₀ b₀ 1 t₀ u₀ v₀) (hsmall : Builtin.Range.small a₀ b₀ 1 = true) (hsz : Builtin.Range.rangeSize a₀ b₀ 1 = (n : Int)) (F : Fr h₀ env.locals s.heap m₀) (N : News h₀ env.locals s.heap (Led c₀)) (hk : ∀ p ∈ ps c₀, m₀ p.1 = some p.2) (hp : P 0 c₀)
    (turn : ∀ (c : σ) (i : Nat) (k : Int) t (u : Str → Option Value) h tk own, k = a₀ + (i : Int) → i < n → OwnOff own ((Led c).map (·.1)) → P i c →
      Fr h₀ env.locals h (fun y => if y = x then some (.int k t) else kstB (fun z => if stored.contains z then u z else m₀ z) (ps c) y) → News h₀ env.locals h (Led c ++ own) →
      wpAny (model prog w) A (execs body env) (FPost h₀ env.locals x Led ps stored m₀ (P (i + 1)) own s Q) E { s with heap := h, toks := tk })
    (done : ∀ (c : σ) (u : Str → Option Value) h tk, P n c → Fr h₀ env.locals h (fun y => if y = x then u y else kstB (fun z => if stored.contains z then u z else m₀ z) (ps c) y) → News h₀ env.locals h (Led c) → Q .next { s with heap := h, toks := tk }) :
    wpAny (model prog w) A (pyIter (.ref r)) (fun it s₂ => LoopAtV prog w A h₀ env x body Q E it s₂) E s := by
  refine wpAny_pyIter_range hr hsmall ?_
  have W : Walks prog w A s.heap.objs.size [s.heap.objs.size] [s.heap.objs.size] n (fun i v => i < n ∧ ∃ t, v = .int (a₀ + i * 1) t)
      (fun i h => IsRangeIter h s.heap.objs.size (a₀ + (i : Nat) * 1) ((n : Int) - (i : Nat)) 1) := (Walks.range hh _ a₀ 1 n).bound
  refine kdr_loop (fun i m nx => ∃ c : σ, nx = Led c ∧ P i c ∧ (∀ p ∈ ps c, m p.1 = some p.2) ∧ (∀ z, z ≠ x → (∀ p ∈ ps c, z ≠ p.1) → stored.contains z = false → m z = m₀ z)) W (fun _ h => h) (fun _ h => h) ?_ ?_ ?_ ?_
    (by show IsRangeIter _ _ _ _ _; rw [hsz]; simpa using Heap.get?_push_size _ rfl) (F.push _) (fun p hp => ⟨Heap.get?_push_of_some _ (N p hp).1, (N p hp).2⟩) ⟨c₀, rfl, hp, hk, fun _ _ _ _ => rfl⟩ ?_ ?_
  · intro i h hi b hb
    rw [List.mem_singleton.mp hb]
    exact ⟨_, hi⟩
  · intro hm
    exact absurd F.ns.lt ((List.mem_singleton.mp hm) ▸ Nat.lt_irrefl _)
  · intro b hb
    rw [List.mem_singleton.mp hb]
    exact next_is_new F
  · intro p hp hI
    exact absurd (Heap.lt_size (N p hp).1) ((List.mem_singleton.mp hI) ▸ Nat.lt_irrefl _)
  · rintro i v m₁ nx h tk own hi ⟨_, t, rfl⟩ hoff ⟨c, rfl, hp', h1, h2⟩ F₁ N₁
    refine wpAny_mono (turn c i _ t m₁ h tk own (by omega) hi hoff hp' (kst_fr h1 h2 F₁) N₁) (fun f s₂ p => ?_) fun _ _ x => x
    have up : FEnd h₀ env.locals x Led ps stored m₀ (P (i + 1)) own s s₂ →
        InvEndG h₀ env.locals (fun m nx => ∃ c : σ, nx = Led c ∧ P (i + 1) c ∧ (∀ p ∈ ps c, m p.1 = some p.2) ∧ (∀ z, z ≠ x → (∀ p ∈ ps c, z ≠ p.1) → stored.contains z = false → m z = m₀ z)) own { s with heap := h, toks := tk } s₂ := by
      rintro ⟨c', h', tk', m', news', rfl, F', N', hn, ho, ha, hk', hr', hp''⟩
      exact ⟨h', tk', m', news', Led c', rfl, F', N', hn, ho, ha, c', rfl, hp'', hk', hr'⟩
    cases f with
    | ret v => exact p
    | brk => exact p
    | next => exact up p
    | cont => exact up p
  · rintro m₁ nx h tk ⟨c, rfl, hp', h1, h2⟩ F₁ N₁
    exact done c m₁ h tk hp' (kst_frOut h1 h2 F₁) N₁
end
end

section
open PySem PySem.W PySem.Spec PySem.Calls PyProof.Rows
set_option maxRecDepth 100000
set_option maxHeartbeats 8000000
/-- an equation that the number tactics do not see -/
structure Is {α : Type} (a b : α) : Prop where
  eq : a = b
theorem newsTop {h₀ h : Heap} {L : Addr} {p : Addr × Obj} {K news : List (Addr × Obj)} (N : News h₀ L h (p :: K)) (hs : ∀ q ∈ news, q ∈ K) : News h₀ L h (p :: news) := fun q hq => N q (by rcases List.mem_cons.mp hq with rfl | hq; exact List.mem_cons_self; exact List.mem_cons_of_mem _ (hs q hq))
theorem newsSub {h₀ h : Heap} {L : Addr} {K news : List (Addr × Obj)} (N : News h₀ L h K) (hs : ∀ q ∈ news, q ∈ K) : News h₀ L h news := fun q hq => N q (hs q hq)
theorem allLt_on {d : Addr} : ∀ {l : List (Addr × Obj)}, AllLt d l → ∀ p ∈ l, p.1 < d
  | [], _, p, hp => absurd hp List.not_mem_nil
  | q :: l, h, p, hp => (List.mem_cons.mp hp).elim (fun e => e ▸ h.1) (allLt_on h.2 p)
theorem getD_mem {α : Type} {xs : List α} {i : Nat} {d : α} (h : i < xs.length) : xs.getD i d ∈ xs := by
  rw [List.getD_eq_getElem?_getD, List.getElem?_eq_getElem h]; exact List.getElem_mem h
/-- one turn of a for loop is over -/
theorem fNext {σ : Type} {h₀ : Heap} {L : Addr} {x : Str} {Led : σ → List (Addr × Obj)} {ps : σ → List (Str × Value)} {stored : List Str} {m₀ m' : Str → Option Value} {P : σ → Prop} {own news' : List (Addr × Obj)} {s : Shared} {Q : Flow → Shared → Prop} {h' : Heap} {tk : Nat} (c' : σ)
    (F : Fr h₀ L h' m') (N : News h₀ L h' news') (hn : ∀ p ∈ Led c', p ∈ news') (ho : ∀ p ∈ own, p ∈ news') (ha : OwnOff own ((Led c').map (·.1)))
    (hk : ∀ p ∈ ps c', m' p.1 = some p.2) (hr : ∀ z, z ≠ x → (∀ p ∈ ps c', z ≠ p.1) → stored.contains z = false → m' z = m₀ z) (hp : P c') :
    FPost h₀ L x Led ps stored m₀ P own s Q .next { s with heap := h', toks := tk } := ⟨c', h', tk, m', news', rfl, F, N, hn, ho, ha, hk, hr, hp⟩
section
variable {prog : Program} {w : World} {A : Around} {E : Value → Shared → Prop} {s : Shared} {Q : Value → Shared → Prop} {h₀ : Heap} {L l : Addr} {m : Str → Option Value} {news : List (Addr × Obj)}
/-- list of a range -/
theorem listRange {r : Addr} {a b c : Int} {t u v : Tok} {n : Nat} (hh : A.handled = none) (F : Fr h₀ L s.heap m) (N : News h₀ L s.heap news)
    (hr : IsRange s.heap r a b c t u v) (hsmall : Builtin.Range.small a b c = true) (hn : Builtin.Range.rangeSize a b c = (n : Int)) (hlen : n ≤ 2 ^ 24)
    (hQ : ∀ h' tk (ys : List Value) (q : Nat), Fr h₀ L h' m → News h₀ L h' ((s.heap.objs.size, listOf ys.toArray q) :: news) → InElt s.heap h' → IntsAre ys (rangeInts a c n) → (∀ p ∈ news, p.1 ≠ s.heap.objs.size) → Q (.ref s.heap.objs.size) { s with heap := h', toks := tk }) :
    wpAny (model prog w) A (call (.type "list") [.ref r]) Q E s := by
  refine list_rangeD hh F N hr hsmall hn hlen fun h' tk ys F' N' hk hD hl hp hc => ?_
  obtain ⟨q, hq⟩ := hp.1
  refine hQ h' tk ys q F' (fun p hp' => ?_) hk (IntsAre.ofCarried hc) hp.2
  rcases List.mem_cons.mp hp' with rfl | hp'
  · exact ⟨hq, (Nat.ne_of_lt F.ns.lt).symm, hD⟩
  · exact N' p hp'
theorem addLists {a b : Addr} {vs ws : List Value} {x y : Nat} (F : Fr h₀ L s.heap m) (N : News h₀ L s.heap news) (ha : (a, listOf vs.toArray x) ∈ news) (hb : (b, listOf ws.toArray y) ∈ news)
    (h : ∀ h', Fr h₀ L h' m → News h₀ L h' ((s.heap.objs.size, listOf (vs ++ ws).toArray 0) :: news) → Q (.ref s.heap.objs.size) { s with heap := h' })
    (hsz : vs.length + ws.length ≤ sizeLine) :
    wpAny (model prog w) A (binaryOp .Add (.ref a) (.ref b)) Q E s :=
  add_lists F N (newsList N ha) (newsList N hb) h hsz
theorem strItem {value slice : Expr} {x : Str} {k : Int} {t u : Tok} (h0 : 0 ≤ k) (h1 : k < x.length) (h2 : x.length < 2 ^ 62)
    (h : ∀ t' tk c, Is c (x.cps.getD k.toNat 0) → Q (.str ⟨#[c]⟩ t') { s with toks := tk })
    (hs : subscripted slice false (.str x t) (.int k u) = operate [.str x t, .int k u] (getItem (.str x t) (.int k u)) := by with_unfolding_all rfl)
    (ht : ∀ r, letTemporaryGo value (.str x t) r = pure () := by intro _; with_unfolding_all rfl) :
    wpAny (model prog w) A (subscriptTail value slice (.str x t) (.int k u)) Q E s := by
  refine item_str (fitsSsize_of (N := 9223372036854775808) (by omega) (by omega) (Int.le_refl _)) (by omega) (by omega) (fun e => ?_) hs ht
  have : Txt.item x k = ⟨#[x.cps.getD k.toNat 0]⟩ := by
    show (⟨#[((seqIndex? k x.length).bind (x.cps[·]?)).getD 0]⟩ : Str) = _
    rw [seqIndex_of h0 h1]
    have hk : k.toNat < x.cps.size := by have : x.length = x.cps.size := rfl; omega
    simp [Array.getD, hk]
  rw [this]; exact h _ _ _ ⟨rfl⟩
theorem intItem {value slice : Expr} {vs : List Value} {xs : List Int} {n : Nat} {k : Int} {u : Tok} (N : News h₀ L s.heap news) (hm : (l, listOf vs.toArray n) ∈ news) (hv : IntsAre vs xs) (h0 : 0 ≤ k) (h1 : k.toNat < xs.length) (h2 : xs.length < 2 ^ 62)
    {lo hi : Int} (hb : ∀ x ∈ xs, lo ≤ x ∧ x ≤ hi) (h : ∀ t c, Is c (xs.getD k.toNat 0) → lo ≤ c → c ≤ hi → Q (.int c t) s) (hs : subscripted slice false (.ref l) (.int k u) = operate [.ref l, .int k u] (getItem (.ref l) (.int k u)) := by with_unfolding_all rfl) :
    wpAny (model prog w) A (subscriptTail value slice (.ref l) (.int k u)) Q E s := by
  obtain ⟨t, ht⟩ := hv.get k.toNat (xs.getD k.toNat 0) (by rw [List.getD_eq_getElem?_getD, List.getElem?_eq_getElem h1]; rfl)
  have hl : s.heap.IsList l vs.toArray := newsList N hm
  exact tail_any hl.typeIs slot_list_getitem.lookup (wpAny_getItem_list hl h0 (by omega) (by simpa using ht) (h t _ ⟨rfl⟩ (hb _ (getD_mem h1)).1 (hb _ (getD_mem h1)).2)) hs
inductive PairsIn (news : List (Addr × Obj)) : List Value → List (Int × Str) → Prop
  | nil : PairsIn news [] []
  | cons {vs : List Value} {xs : List (Int × Str)} (a : Addr) (t u : Tok) (c : Int) (y : Str) : (a, ({ cls := .type "tuple", data := .seq #[.int c t, .str y u] } : Obj)) ∈ news → PairsIn news vs xs → PairsIn news (.ref a :: vs) ((c, y) :: xs)
theorem PairsIn.length {vs : List Value} {xs : List (Int × Str)} (h : PairsIn news vs xs) : vs.length = xs.length := by
  induction h with
  | nil => rfl
  | cons _ _ _ _ _ _ _ ih => simp [ih]
theorem PairsIn.get {vs : List Value} {xs : List (Int × Str)} (h : PairsIn news vs xs) : ∀ i, i < xs.length → ∃ a t u, vs[i]? = some (.ref a) ∧ (a, ({ cls := .type "tuple", data := .seq #[.int (xs.getD i (0, Str.empty)).1 t, .str (xs.getD i (0, Str.empty)).2 u] } : Obj)) ∈ news := by
  induction h with
  | nil => intro i hi; exact absurd hi (Nat.not_lt_zero _)
  | cons a t u c y hm _ ih =>
    intro i hi
    cases i with
    | zero => exact ⟨a, t, u, rfl, hm⟩
    | succ i => simpa using ih i (Nat.lt_of_succ_lt_succ hi)
theorem pairItem {value slice : Expr} {vs : List Value} {xs : List (Int × Str)} {n : Nat} {k : Int} {u : Tok} (N : News h₀ L s.heap news) (hm : (l, listOf vs.toArray n) ∈ news) (hv : PairsIn news vs xs) (h0 : 0 ≤ k) (h1 : k.toNat < xs.length) (h2 : xs.length < 2 ^ 62)
    {lo hi : Int} {len : Nat} (hb : ∀ x ∈ xs, (lo ≤ x.1 ∧ x.1 ≤ hi) ∧ x.2.length ≤ len) (h : ∀ a t u c y, Is c (xs.getD k.toNat (0, Str.empty)).1 → Is y (xs.getD k.toNat (0, Str.empty)).2 → (a, ({ cls := .type "tuple", data := .seq #[.int c t, .str y u] } : Obj)) ∈ news → lo ≤ c → c ≤ hi → y.length ≤ len → Q (.ref a) s)
    (hs : subscripted slice false (.ref l) (.int k u) = operate [.ref l, .int k u] (getItem (.ref l) (.int k u)) := by with_unfolding_all rfl) :
    wpAny (model prog w) A (subscriptTail value slice (.ref l) (.int k u)) Q E s := by
  obtain ⟨a, t, u', ht, hm'⟩ := hv.get k.toNat h1
  have hl : s.heap.IsList l vs.toArray := newsList N hm
  have b := hb _ (getD_mem (d := (0, Str.empty)) h1)
  exact tail_any hl.typeIs slot_list_getitem.lookup (wpAny_getItem_list hl h0 (by omega) (by simpa using ht) (h a t u' _ _ ⟨rfl⟩ ⟨rfl⟩ hm' b.1.1 b.1.2 b.2)) hs
theorem setHead {D : Addr} {vs : List Value} {ns : List Int} {R : List (Addr × Obj)} {n : Nat} {k x : Int} {t u : Tok} {Q : Unit → Shared → Prop} (F : Fr h₀ L s.heap m) (N : News h₀ L s.heap ((D, listOf vs.toArray n) :: R)) (hR : ∀ p ∈ R, p.1 ≠ D) (hi : IntsAre vs ns) (h0 : 0 ≤ k) (h1 : k < ns.length) (h2 : ns.length < 2 ^ 60)
    (h : ∀ h', Fr h₀ L h' m → News h₀ L h' ((D, listOf (vs.set k.toNat (.int x u)).toArray n) :: R) → IntsAre (vs.set k.toNat (.int x u)) (ns.set k.toNat x) → Q () { s with heap := h' }) :
    wpAny (model prog w) A (setItem (.ref D) (.int k t) (.int x u)) Q E s :=
  ksa_set F N (.head hR) hi h0 h1 (by omega) fun h' F' N' hi' _ _ => h h' F' N' hi'
theorem offD {D : Addr} {news own own' : List (Addr × Obj)} {l l' : List Addr} (h0 : ∀ p ∈ news, p.1 ≠ D) (h1 : OwnOff own (D :: l)) (h2 : OwnOff own' (D :: l')) : ∀ p ∈ (news ++ own) ++ own', p.1 ≠ D := by
  intro p hp
  rcases List.mem_append.mp hp with hp | hp
  · rcases List.mem_append.mp hp with hp | hp
    · exact h0 p hp
    · exact h1 p hp D List.mem_cons_self
  · exact h2 p hp D List.mem_cons_self
theorem strSnoc {x : Str} {a : List Nat} {c d : Nat} (h : x = ⟨a.toArray⟩) (e : c = d) : x ++ (⟨#[c]⟩ : Str) = ⟨(a ++ [d]).toArray⟩ := by
  subst h e
  show (⟨a.toArray ++ #[c]⟩ : Str) = _
  simp
theorem strCat {x y : Str} {a : List Nat} (h : x = ⟨a.toArray⟩) : x ++ y = ⟨(a ++ y.cps.toList).toArray⟩ := by
  subst h
  show (⟨a.toArray ++ y.cps⟩ : Str) = _
  simp
theorem strLen (x y : Str) : (x ++ y).length = x.length + y.length := by
  show (x.cps ++ y.cps).size = _
  rw [Array.size_append]; rfl
theorem takeSnoc {α : Type} {xs : List α} {i : Nat} (hi : i < xs.length) {x : α} (h : xs[i]'hi = x) : xs.take (i + 1) = xs.take i ++ [x] := by
  rw [List.take_add_one, List.getElem?_eq_getElem hi, h]; rfl
end
section
variable {prog : Program} {w : World} {A : Around} {E : Value → Shared → Prop} {s : Shared} {env : Env} {h₀ : Heap} {x : Str} {body : List Stmt} {Q : Flow → Shared → Prop}
theorem forList {σ : Type} {l : Addr} {vs : List Value} {nn : Nat} {m₀ : Str → Option Value} (Led : σ → List (Addr × Obj)) (ps : σ → List (Str × Value)) (stored : List Str) (P : Nat → σ → Prop) (c₀ : σ)
    (hh : A.handled = none) (hl : ∀ c, (l, listOf vs.toArray nn) ∈ Led c) (F : Fr h₀ env.locals s.heap m₀) (N : News h₀ env.locals s.heap (Led c₀)) (hk : ∀ p ∈ ps c₀, m₀ p.1 = some p.2) (hp : P 0 c₀)
    (turn : ∀ (c : σ) (i : Nat) (v : Value) (u : Str → Option Value) h tk own, vs[i]? = some v → OwnOff own ((Led c).map (·.1)) → P i c →
      Fr h₀ env.locals h (fun y => if y = x then some v else kstB (fun z => if stored.contains z then u z else m₀ z) (ps c) y) → News h₀ env.locals h (Led c ++ own) →
      wpAny (model prog w) A (execs body env) (FPost h₀ env.locals x Led ps stored m₀ (P (i + 1)) own s Q) E { s with heap := h, toks := tk })
    (done : ∀ (c : σ) (u : Str → Option Value) h tk, P vs.length c → Fr h₀ env.locals h (fun y => if y = x then u y else kstB (fun z => if stored.contains z then u z else m₀ z) (ps c) y) → News h₀ env.locals h (Led c) → Q .next { s with heap := h, toks := tk }) :
    wpAny (model prog w) A (pyIter (.ref l)) (fun it s₂ => LoopAtV prog w A h₀ env x body Q E it s₂) E s := by
  refine kdl_iter (news := Led c₀) (fun i m nx => ∃ c : σ, nx = Led c ∧ P i c ∧ (∀ p ∈ ps c, m p.1 = some p.2) ∧ (∀ z, z ≠ x → (∀ p ∈ ps c, z ≠ p.1) → stored.contains z = false → m z = m₀ z)) hh (hl c₀) F N ⟨c₀, rfl, hp, hk, fun _ _ _ _ => rfl⟩ ?_ ?_
  · rintro i v m₁ nx h tk own hv hoff _ ⟨c, rfl, hp', h1, h2⟩ F₁ N₁
    refine wpAny_mono (turn c i v m₁ h tk own hv hoff hp' (kst_fr h1 h2 F₁) N₁) (fun f s₂ p => ?_) fun _ _ x => x
    have up : FEnd h₀ env.locals x Led ps stored m₀ (P (i + 1)) own s s₂ →
        InvEndG h₀ env.locals (fun m nx => (l, listOf vs.toArray nn) ∈ nx ∧ ∃ c : σ, nx = Led c ∧ P (i + 1) c ∧ (∀ p ∈ ps c, m p.1 = some p.2) ∧ (∀ z, z ≠ x → (∀ p ∈ ps c, z ≠ p.1) → stored.contains z = false → m z = m₀ z)) own { s with heap := h, toks := tk } s₂ := by
      rintro ⟨c', h', tk', m', news', rfl, F', N', hn, ho, ha, hk', hr', hp''⟩
      exact ⟨h', tk', m', news', Led c', rfl, F', N', hn, ho, ha, hl c', c', rfl, hp'', hk', hr'⟩
    cases f with
    | ret v => exact p
    | brk => exact p
    | next => exact up p
    | cont => exact up p
  · rintro m₁ nx h tk ⟨c, rfl, hp', h1, h2⟩ F₁ N₁
    exact done c m₁ h tk hp' (kst_frOut h1 h2 F₁) N₁
end
end

section
open PySem PySem.W PySem.Spec PySem.Calls PyProof.Rows
set_option maxRecDepth 100000
set_option maxHeartbeats 2000000
section
variable {prog : Program} {w : World} {A : Around} {E : Value → Shared → Prop} {s : Shared} {Q : Value → Shared → Prop} {h₀ : Heap} {L l : Addr} {m : Str → Option Value} {news : List (Addr × Obj)} {value slice : PySem.Expr} {la : List Nat} {t : Tok}
theorem sliceFrom {k : Int} {u : Tok} (F : Fr h₀ L s.heap m) (N : News h₀ L s.heap news) (h0 : 0 ≤ k) (h1 : k ≤ la.length) (hz : la.length ≤ 64)
    (h : ∀ h' t' tk, Fr h₀ L h' m → News h₀ L h' news → Q (.str ⟨(la.drop k.toNat).toArray⟩ t') { s with heap := h', toks := tk })
    (hs : subscripted slice false (.str ⟨la.toArray⟩ t) (.ref s.heap.objs.size) = operate [.ref s.heap.objs.size, .str ⟨la.toArray⟩ t] (getItem (.str ⟨la.toArray⟩ t) (.ref s.heap.objs.size)) := by with_unfolding_all rfl)
    (ht : ∀ r, letTemporaryGo value (.str ⟨la.toArray⟩ t) r = pure () := by intro _; with_unfolding_all rfl) :
    wpAny (model prog w) A (subscriptTail value slice (.str ⟨la.toArray⟩ t) (.ref s.heap.objs.size)) Q E { s with heap := s.heap.push { cls := .type "slice", data := .fields #[.int k u, .none, .none] } } := by
  have e : Txt.slice ⟨la.toArray⟩ (some k) none = ⟨(la.drop k.toNat).toArray⟩ := by
    have := StrLaws.sliceText_from (x := ⟨la.toArray⟩) (i := k) ⟨h0, by simpa using h1⟩
    refine Eq.trans this ?_
    have e1 : ((la.length : Int) - k).toNat = la.length - k.toNat := by omega
    simp only [e1]
    rw [List.take_of_length_le (by simp)]
  refine slice_strN_sn_len F N (fun h' t' tk F' N' _ => ?_) hs ht (Nat.le_trans hz (by decide))
  rw [e]; exact h h' t' tk F' N'
theorem sliceTo {k : Int} {u : Tok} (F : Fr h₀ L s.heap m) (N : News h₀ L s.heap news) (h0 : k < 0) (h1 : -(la.length : Int) ≤ k) (hz : la.length ≤ 64)
    (h : ∀ h' t' tk, Fr h₀ L h' m → News h₀ L h' news → Q (.str ⟨(la.take (la.length + k).toNat).toArray⟩ t') { s with heap := h', toks := tk })
    (hs : subscripted slice false (.str ⟨la.toArray⟩ t) (.ref s.heap.objs.size) = operate [.ref s.heap.objs.size, .str ⟨la.toArray⟩ t] (getItem (.str ⟨la.toArray⟩ t) (.ref s.heap.objs.size)) := by with_unfolding_all rfl)
    (ht : ∀ r, letTemporaryGo value (.str ⟨la.toArray⟩ t) r = pure () := by intro _; with_unfolding_all rfl) :
    wpAny (model prog w) A (subscriptTail value slice (.str ⟨la.toArray⟩ t) (.ref s.heap.objs.size)) Q E { s with heap := s.heap.push { cls := .type "slice", data := .fields #[.none, .int k u, .none] } } := by
  have e : Txt.slice ⟨la.toArray⟩ none (some k) = ⟨(la.take (la.length + k).toNat).toArray⟩ := by
    have h9 : Str.length ⟨la.toArray⟩ = la.length := by simp [Str.length]
    have := StrLaws.sliceText_to_neg (x := ⟨la.toArray⟩) (j := k) h0 (by rw [h9]; exact h1)
    refine Eq.trans this ?_
    rw [h9, Int.add_comm]; simp
  refine slice_strN_ns_len F N (fun h' t' tk F' N' _ => ?_) hs ht (Nat.le_trans hz (by decide))
  rw [e]; exact h h' t' tk F' N'
theorem sliceAll (F : Fr h₀ L s.heap m) (N : News h₀ L s.heap news) (hz : la.length ≤ 64)
    (h : ∀ h' t' tk, Fr h₀ L h' m → News h₀ L h' news → Q (.str ⟨la.toArray⟩ t') { s with heap := h', toks := tk })
    (hs : subscripted slice false (.str ⟨la.toArray⟩ t) (.ref s.heap.objs.size) = operate [.ref s.heap.objs.size, .str ⟨la.toArray⟩ t] (getItem (.str ⟨la.toArray⟩ t) (.ref s.heap.objs.size)) := by with_unfolding_all rfl)
    (ht : ∀ r, letTemporaryGo value (.str ⟨la.toArray⟩ t) r = pure () := by intro _; with_unfolding_all rfl) :
    wpAny (model prog w) A (subscriptTail value slice (.str ⟨la.toArray⟩ t) (.ref s.heap.objs.size)) Q E { s with heap := s.heap.push { cls := .type "slice", data := .fields #[.none, .none, .none] } } := by
  have e : Txt.slice ⟨la.toArray⟩ none none = ⟨la.toArray⟩ := by
    unfold Txt.slice
    rw [if_pos]
    rw [StrLaws.sliceIdx_none_lo, StrLaws.sliceIdx_none_hi, show (0 : Int) = ((0 : Nat) : Int) from rfl, StrLaws.strSliceIndices_plain (a := 0) (Nat.zero_le _) (Nat.le_refl _)]
    simp
  refine slice_strN_nn_len F N (fun h' t' tk F' N' _ => ?_) hs ht (Nat.le_trans hz (by decide))
  rw [e]; exact h h' t' tk F' N'
/-- what "post or None" is -/
noncomputable def OrNone (v : Value) (k : Nat) : Prop := (v = .none ∧ k = 0) ∨ ∃ u, v = .int (-(k : Int)) u ∧ 0 < k
inductive SliceW (la : List Nat) : Value → Value → List Nat → Prop
  | fr {k : Int} {u : Tok} (h0 : 0 ≤ k) (h1 : k ≤ la.length) : SliceW la (.int k u) .none (la.drop k.toNat)
  | to {k : Int} {u : Tok} (h0 : k < 0) (h1 : -(la.length : Int) ≤ k) : SliceW la .none (.int k u) (la.take (la.length + k).toNat)
  | all : SliceW la .none .none la
  | toOr {k : Nat} {v : Value} (h : OrNone v k) (h0 : k ≤ la.length) : SliceW la .none v (la.take (la.length - k))
theorem sliceW {x y : Value} {out : List Nat} (F : Fr h₀ L s.heap m) (N : News h₀ L s.heap news) (S : SliceW la x y out) (hz : la.length ≤ 64)
    (h : ∀ h' t' tk, Fr h₀ L h' m → News h₀ L h' news → Q (.str ⟨out.toArray⟩ t') { s with heap := h', toks := tk })
    (hs : subscripted slice false (.str ⟨la.toArray⟩ t) (.ref s.heap.objs.size) = operate [.ref s.heap.objs.size, .str ⟨la.toArray⟩ t] (getItem (.str ⟨la.toArray⟩ t) (.ref s.heap.objs.size)))
    (ht : ∀ r, letTemporaryGo value (.str ⟨la.toArray⟩ t) r = pure ()) :
    wpAny (model prog w) A (subscriptTail value slice (.str ⟨la.toArray⟩ t) (.ref s.heap.objs.size)) Q E { s with heap := s.heap.push { cls := .type "slice", data := .fields #[x, y, .none] } } := by
  cases S with
  | fr h0 h1 => exact sliceFrom F N h0 h1 hz h hs ht
  | to h0 h1 => exact sliceTo F N h0 h1 hz h hs ht
  | all => exact sliceAll F N hz h hs ht
  | @toOr k v ho h0 =>
    rcases ho with ⟨rfl, rfl⟩ | ⟨u, rfl, hk⟩
    · rw [Nat.sub_zero, List.take_length] at h
      exact sliceAll F N hz h hs ht
    · refine sliceTo F N (by omega) (by omega) hz (fun h' t' tk F' N' => ?_) hs ht
      rw [show ((la.length : Int) + -(k : Int)).toNat = la.length - k by omega]
      exact h h' t' tk F' N'
theorem postOr {env : Env} {e : Expr} {q z : Pos} {r k : Nat} {u : Tok} (hn : ∀ (Q' : Value → Shared → Prop), Q' (.int (-(k : Int)) u) s → wpAny (model prog w) A (eval e env) Q' E s) (h : ∀ v, OrNone v k → Q v s) :
    wpAny (model prog w) A (eval (Expr.BoolOp .Or [e, Expr.Constant Const.none r q] z) env) Q E s := by
  refine BoolOp_or (hn _ (truthy_int ?_))
  rcases Nat.eq_zero_or_pos k with k0 | k0
  · rw [if_neg (by subst k0; decide)]
    exact BoolOp_one (Constant_none (h _ (.inl ⟨rfl, k0⟩)))
  · rw [if_pos (by simp; omega)]
    exact h _ (.inr ⟨u, rfl, k0⟩)
theorem strItemL {k : Int} {u : Tok} (h0 : 0 ≤ k) (h1 : k < la.length) (hz : la.length ≤ 64)
    (h : ∀ t' tk c, Is c (la.getD k.toNat 0) → Q (.str ⟨#[c]⟩ t') { s with toks := tk })
    (hs : subscripted slice false (.str ⟨la.toArray⟩ t) (.int k u) = operate [.str ⟨la.toArray⟩ t, .int k u] (getItem (.str ⟨la.toArray⟩ t) (.int k u)) := by with_unfolding_all rfl)
    (ht : ∀ r, letTemporaryGo value (.str ⟨la.toArray⟩ t) r = pure () := by intro _; with_unfolding_all rfl) :
    wpAny (model prog w) A (subscriptTail value slice (.str ⟨la.toArray⟩ t) (.int k u)) Q E s := by
  have e : (⟨la.toArray⟩ : Str).length = la.length := by simp [Str.length]
  refine strItem h0 (by rw [e]; exact h1) (by rw [e]; omega) (fun t' tk c hc => h t' tk c ?_) hs ht
  have h9 : k.toNat < la.length := by omega
  refine ⟨?_⟩
  rw [hc.eq]; show _ = _
  simp [Array.getD, List.getD_eq_getElem?_getD, h9]
theorem strItemN {k : Int} {u : Tok} (h0 : k < 0) (h1 : -(la.length : Int) ≤ k) (hz : la.length ≤ 64)
    (h : ∀ t' tk c, Is c (la.getD (la.length + k).toNat 0) → Q (.str ⟨#[c]⟩ t') { s with toks := tk })
    (hs : subscripted slice false (.str ⟨la.toArray⟩ t) (.int k u) = operate [.str ⟨la.toArray⟩ t, .int k u] (getItem (.str ⟨la.toArray⟩ t) (.int k u)) := by with_unfolding_all rfl)
    (ht : ∀ r, letTemporaryGo value (.str ⟨la.toArray⟩ t) r = pure () := by intro _; with_unfolding_all rfl) :
    wpAny (model prog w) A (subscriptTail value slice (.str ⟨la.toArray⟩ t) (.int k u)) Q E s := by
  have e : (⟨la.toArray⟩ : Str).length = la.length := by simp [Str.length]
  refine item_str (fitsSsize_of (N := 9223372036854775808) (by omega) (by omega) (Int.le_refl _)) (by rw [e]; omega) (by omega) (fun _ => ?_) hs ht
  have : Txt.item ⟨la.toArray⟩ k = ⟨#[la.getD (la.length + k).toNat 0]⟩ := by
    show (⟨#[((seqIndex? k (⟨la.toArray⟩ : Str).length).bind ((⟨la.toArray⟩ : Str).cps[·]?)).getD 0]⟩ : Str) = _
    rw [e, StrLaws.seqIndex_neg h0 h1, Int.add_comm]
    simp [List.getD_eq_getElem?_getD]
  rw [this]; exact h _ _ _ ⟨rfl⟩
theorem truthyL {Q : Bool → Shared → Prop} (hz : la.length ≤ 64) (h1 : ∀ tk, la.length ≠ 0 → Q true { s with toks := tk }) (h0 : ∀ tk, la.length = 0 → Q false { s with toks := tk }) :
    wpAny (model prog w) A (truthy (.str ⟨la.toArray⟩ t)) Q E s := by
  have e : (⟨la.toArray⟩ : Str).length = la.length := by simp [Str.length]
  refine P.truthy_str (by rw [e]; omega) ?_
  by_cases c : la.length = 0
  · have : (((⟨la.toArray⟩ : Str).length : Int) != 0) = false := by rw [e, c]; rfl
    rw [this]; exact h0 _ c
  · have : (((⟨la.toArray⟩ : Str).length : Int) != 0) = true := by rw [e]; simpa using c
    rw [this]; exact h1 _ c
theorem lenL (hz : la.length ≤ 64) {Q : Value → Shared → Prop} (h : ∀ t' tk, Q (.int la.length t') { s with toks := tk }) : wpAny (model prog w) A (call (.builtin "len") [.str ⟨la.toArray⟩ t]) Q E s := by
  have e : (⟨la.toArray⟩ : Str).length = la.length := by simp [Str.length]
  refine P.len_str (by rw [e]; omega) ?_
  rw [e]; exact h _ _
theorem oneEq {c d : Nat} (h : ((⟨#[c]⟩ : Str) == ⟨#[d]⟩) = true) : c = d := by
  have : (⟨#[c]⟩ : Str) = ⟨#[d]⟩ := eq_of_beq h
  simpa using this
theorem oneNe {c d : Nat} (h : ((⟨#[c]⟩ : Str) == ⟨#[d]⟩) = false) : c ≠ d := by
  intro e; subst e; simp at h
theorem txtEq {a b : List Nat} (h : ((⟨a.toArray⟩ : Str) == ⟨b.toArray⟩) = true) : a = b := by
  have : (⟨a.toArray⟩ : Str) = ⟨b.toArray⟩ := eq_of_beq h
  simpa using this
theorem txtNe {a b : List Nat} (h : ((⟨a.toArray⟩ : Str) == ⟨b.toArray⟩) = false) : a ≠ b := by
  intro e; subst e; simp at h
end
section
variable {prog : Program} {w : World} {A : Around} {E : Value → Shared → Prop} {Q : Flow → Shared → Prop} {s : Shared} {env : Env} {h₀ : Heap} {L : Addr}
/-- a stretch of the code ends: what it leaves -/
noncomputable def WDone {σ : Type} (h₀ : Heap) (L : Addr) (s : Shared) (Led : σ → List (Addr × Obj)) (ps : σ → List (Str × Value)) (stored : List Str) (m₀ : Str → Option Value) (D : σ → Prop) (s₂ : Shared) : Prop :=
  ∃ (c' : σ) (h' : Heap) (tk : Nat) (m' : Str → Option Value) (news' : List (Addr × Obj)), s₂ = { s with heap := h', toks := tk } ∧ Fr h₀ L h' m' ∧ News h₀ L h' news' ∧ (∀ p ∈ Led c', p ∈ news') ∧
    (∀ p ∈ ps c', m' p.1 = some p.2) ∧ (∀ z, (∀ p ∈ ps c', z ≠ p.1) → stored.contains z = false → m' z = m₀ z) ∧ D c'
theorem wDone {σ : Type} {s : Shared} {Led : σ → List (Addr × Obj)} {ps : σ → List (Str × Value)} {stored : List Str} {m₀ m' : Str → Option Value} {D : σ → Prop} {h' : Heap} {tk : Nat} {news' : List (Addr × Obj)} (c' : σ)
    (F : Fr h₀ L h' m') (N : News h₀ L h' news') (hn : ∀ p ∈ Led c', p ∈ news') (hk : ∀ p ∈ ps c', m' p.1 = some p.2) (hr : ∀ z, (∀ p ∈ ps c', z ≠ p.1) → stored.contains z = false → m' z = m₀ z) (hd : D c') :
    WDone h₀ L s Led ps stored m₀ D { s with heap := h', toks := tk } := ⟨c', h', tk, m', news', rfl, F, N, hn, hk, hr, hd⟩
theorem WDone.use {σ : Type} {s s₂ : Shared} {Led : σ → List (Addr × Obj)} {ps : σ → List (Str × Value)} {stored : List Str} {m₀ : Str → Option Value} {D : σ → Prop} (h : WDone h₀ L s Led ps stored m₀ D s₂) {R : Shared → Prop}
    (done : ∀ (c : σ) (u : Str → Option Value) h tk, D c → Fr h₀ L h (kstB (fun z => if stored.contains z then u z else m₀ z) (ps c)) → News h₀ L h (Led c) → R { s with heap := h, toks := tk }) : R s₂ := by
  obtain ⟨c', h', tk, m', news', rfl, F, N, hn, hk, hr, hd⟩ := h
  exact done c' m' h' tk hd (ksw_fr hk hr F) (fun p hp => N p (hn p hp))
/-- a statement whose branches meet again -/
theorem mergeAt {σ : Type} {prg : Sem Flow} {m₀ : Str → Option Value} (Led : σ → List (Addr × Obj)) (ps : σ → List (Str × Value)) (stored : List Str) (D : σ → Prop)
    (_F : Fr h₀ L s.heap m₀) (h : wpAny (model prog w) A prg (fun f s₂ => f = .next ∧ WDone h₀ L s Led ps stored m₀ D s₂) E s)
    (done : ∀ (c : σ) (u : Str → Option Value) h tk, D c → Fr h₀ L h (kstB (fun z => if stored.contains z then u z else m₀ z) (ps c)) → News h₀ L h (Led c) → Q .next { s with heap := h, toks := tk }) :
    wpAny (model prog w) A prg Q E s :=
  wpAny_mono h (fun _ _ p => by obtain ⟨rfl, p⟩ := p; exact p.use done) fun _ _ x => x
theorem whileR {σ : Type} {test : Expr} {body : List Stmt} {pos : Pos} {m₀ : Str → Option Value} (Led : σ → List (Addr × Obj)) (ps : σ → List (Str × Value)) (stored : List Str) (P : σ → Prop) (μ : σ → Nat) (D : σ → Prop) (c₀ : σ)
    (F : Fr h₀ L s.heap m₀) (N : News h₀ L s.heap (Led c₀)) (hk : ∀ p ∈ ps c₀, m₀ p.1 = some p.2) (hp : P c₀)
    (turn : ∀ (c : σ) (u : Str → Option Value) h tk, P c → Fr h₀ L h (kstB (fun z => if stored.contains z then u z else m₀ z) (ps c)) → News h₀ L h (Led c) →
      wpAny (model prog w) A (isTrue test env (eval test env)) (fun b s₂ =>
        if b = true then wpAny (model prog w) A (execs body env) (KswPost h₀ L s Led ps (fun _ => True) stored m₀ P μ Q c) E s₂ else WDone h₀ L s Led ps stored m₀ D s₂) E { s with heap := h, toks := tk })
    (done : ∀ (c : σ) (u : Str → Option Value) h tk, D c → Fr h₀ L h (kstB (fun z => if stored.contains z then u z else m₀ z) (ps c)) → News h₀ L h (Led c) → Q .next { s with heap := h, toks := tk })
    (hE : PassesOwn (model prog w) A env E := by passes_own) :
    wpAny (model prog w) A (exec (.While test body [] pos) env) Q E s := by
  refine wpAny_mono (Q := fun f s₂ => (f = .next ∧ WDone h₀ L s Led ps stored m₀ D s₂) ∨ Q f s₂) ?_ (fun f s₂ p => ?_) fun _ _ x => x
  · refine ksw_while Led ps (fun _ => True) stored P μ c₀ F N trivial hk hp (fun c u h tk _ hc F' N' => ?_) hE
    refine wpAny_mono (turn c u h tk hc F' N') (fun b s₂ p => ?_) fun _ _ x => x
    cases b with
    | false => simp only [Bool.false_eq_true, if_false] at p ⊢; exact .inl ⟨trivial, p⟩
    | true =>
      simp only [if_true] at p ⊢
      refine wpAny_mono p (fun f s₃ q => ?_) fun _ _ x => x
      cases f with
      | ret v => exact .inr q
      | brk => exact .inr q
      | next => exact q
      | cont => exact q
  · rcases p with ⟨rfl, p⟩ | p
    · exact p.use done
    · exact p
end
end

section
open PySem PySem.W PySem.Spec PySem.Calls PyProof.Rows PyProof.Rows.LCg PyProof.Rows.LCt PyProof.Rows.LCp
set_option maxRecDepth 100000
set_option maxHeartbeats 2000000
noncomputable abbrev Turn (h₀ : Heap) (L : Addr) (m : Str → Option Value) (s : Shared) (S : List (Addr × Obj) → Prop) (Inv : Nat → List Value → List (Addr × Obj) → Prop) (n : Nat) (P : Nat → Value → Prop) (B : (Str → Option Value) → Value → Prop)
    (G : Addr → (Value → Shared → Prop) → (Value → Shared → Prop) → (Value → Shared → Prop) → Shared → Prop) : Prop :=
  ∀ i ys news v I oI C oC D m₂ h tk (E' : Value → Shared → Prop), i < n → Inv i ys news → P i v → NsObj oC m₂ → B m₂ v → Fr h₀ L h m → News h₀ L h ((I, oI) :: (C, oC) :: (D, lst ys) :: news) → Off3 I C D news → ((@Ne Nat I C) ∧ (@Ne Nat I D) ∧ (@Ne Nat C D)) →
    G C (CompEnd h₀ L m { s with heap := h, toks := tk } I oI C oC D (lst ys) S (fun y news' => Inv (i + 1) (ys ++ [y]) news')) (CompEnd h₀ L m { s with heap := h, toks := tk } I oI C oC D (lst ys) S (fun _ news' => Inv (i + 1) ys news')) E' { s with heap := h, toks := tk }
section
variable {prog : Program} {w : World} {A : Around} {E : Value → Shared → Prop} {s : Shared} {h₀ : Heap} {L : Addr} {m : Str → Option Value} {env : Env} {elt ct : PySem.Expr} {x x₂ : Str} {scope : Scope} {cl : List (Str × Addr)} {S : List (Addr × Obj) → Prop} {P : Nat → Value → Prop} {Fin : List Value → List (Addr × Obj) → Prop} {n : Nat}
theorem CompEnd.imp {I C D : Addr} {s₁ : Shared} {oI oC oD : Obj} {r r' : Value → List (Addr × Obj) → Prop} {y y' : Value} {s₂ : Shared} (h : CompEnd h₀ L m s₁ I oI C oC D oD S r y s₂) (k : ∀ nx, r y nx → r' y' nx) : CompEnd h₀ L m s₁ I oI C oC D oD S r' y' s₂ :=
  let ⟨a, b, c, d, e, f, g, i, j⟩ := h; ⟨a, b, c, d, e, f, g, i, k _ j⟩
/-- a comprehension by an invariant -/
theorem restU (Inv : Nat → List Value → List (Addr × Obj) → Prop)
    (turn : Turn h₀ L m s S Inv n P (fun m₂ v => m₂ x = some v) (fun C Q _ E' s => wpAny (model prog w) A (eval elt (compEnvC scope cl C env)) Q E' s))
    (fin : ∀ ys news, Inv n ys news → Fin ys news) {news : List (Addr × Obj)} (h0 : Inv 0 [] news) : CompRest prog w A h₀ L m env elt x scope cl s S P Fin n 0 [] news := by
  have go : ∀ k i ys news, i + k = n → Inv i ys news → CompRest prog w A h₀ L m env elt x scope cl s S P Fin k i ys news := by
    intro k
    induction k with
    | zero => intro i ys news e hi; obtain rfl : i = n := e; exact fin _ _ hi
    | succ k ih =>
      intro i ys news e hi v I oI C oC D m₂ h tk E' hP hC hx F N off ne
      exact wpAny_mono (turn i ys news v I oI C oC D m₂ h tk E' (by omega) hi hP hC hx F N off ne) (fun y s₂ q => CompEnd.imp q fun nx hi' => ih _ _ _ (by omega) hi') fun _ _ e => e
  exact go n 0 [] news (by omega) h0
theorem restT (Inv : Nat → List Value → List (Addr × Obj) → Prop)
    (turn : Turn h₀ L m s S Inv n P (fun m₂ v => m₂ x = some v) (fun C Q Q' E' s => wpAny (model prog w) A (isTrue ct (compEnvC scope cl C env) (eval ct (compEnvC scope cl C env))) (fun ok s' => if ok = true then wpAny (model prog w) A (eval elt (compEnvC scope cl C env)) Q E' s' else Q' .none s') E' s))
    (fin : ∀ ys news, Inv n ys news → Fin ys news) {news : List (Addr × Obj)} (h0 : Inv 0 [] news) : CompRestT prog w A h₀ L m env ct elt x scope cl s S P Fin n 0 [] news := by
  have go : ∀ k i ys news, i + k = n → Inv i ys news → CompRestT prog w A h₀ L m env ct elt x scope cl s S P Fin k i ys news := by
    intro k
    induction k with
    | zero => intro i ys news e hi; obtain rfl : i = n := e; exact fin _ _ hi
    | succ k ih =>
      intro i ys news e hi v I oI C oC D m₂ h tk E' hP hC hx F N off ne
      refine wpAny_mono (turn i ys news v I oI C oC D m₂ h tk E' (by omega) hi hP hC hx F N off ne) (fun ok s₂ q => ?_) fun _ _ e => e
      cases ok with
      | true => exact wpAny_mono q (fun y s₃ q => CompEnd.imp q fun nx hi' => ih _ _ _ (by omega) hi') fun _ _ e => e
      | false =>
        simp only [Bool.false_eq_true, if_false] at q ⊢
        exact CompEnd.imp q fun nx hi' => ih _ _ _ (by omega) hi'
  exact go n 0 [] news (by omega) h0
/-- an item that is a pair of the ledger -/
noncomputable def PairAt (news : List (Addr × Obj)) (v v₁ v₂ : Value) : Prop := ∃ t nt, v = .ref t ∧ (t, ({ cls := .type "tuple", data := .seq #[v₁, v₂] nt } : Obj)) ∈ news
theorem restP (Inv : Nat → List Value → List (Addr × Obj) → Prop) (f g : Nat → Value)
    (at' : ∀ i ys news v, i < n → Inv i ys news → P i v → PairAt news v (f i) (g i))
    (turn : ∀ i ys news I oI C oC D m₂ h tk (E' : Value → Shared → Prop), i < n → Inv i ys news → NsObj oC m₂ → m₂ x = some (f i) → m₂ x₂ = some (g i) → Fr h₀ L h m → News h₀ L h ((I, oI) :: (C, oC) :: (D, lst ys) :: news) → Off3 I C D news → ((@Ne Nat I C) ∧ (@Ne Nat I D) ∧ (@Ne Nat C D)) →
      wpAny (model prog w) A (eval elt (compEnvC scope cl C env)) (CompEnd h₀ L m { s with heap := h, toks := tk } I oI C oC D (lst ys) S (fun y news' => Inv (i + 1) (ys ++ [y]) news')) E' { s with heap := h, toks := tk })
    (fin : ∀ ys news, Inv n ys news → Fin ys news) {news : List (Addr × Obj)} (h0 : Inv 0 [] news) : CompRestP prog w A h₀ L m env elt x x₂ scope cl s S P Fin n 0 [] news := by
  have go : ∀ k i ys news, i + k = n → Inv i ys news → CompRestP prog w A h₀ L m env elt x x₂ scope cl s S P Fin k i ys news := by
    intro k
    induction k with
    | zero => intro i ys news e hi; obtain rfl : i = n := e; exact fin _ _ hi
    | succ k ih =>
      intro i ys news e hi v hP
      obtain ⟨t, nt, rfl, hm⟩ := at' i ys news v (by omega) hi hP
      refine ⟨t, _, f i, g i, nt, rfl, hm, rfl, rfl, ?_⟩
      intro I oI C oC D m₂ h tk E' hC hx hx' F N off ne
      exact wpAny_mono (turn i ys news I oI C oC D m₂ h tk E' (by omega) hi hC hx hx' F N off ne) (fun y s₂ q => CompEnd.imp q fun nx hi' => ih _ _ _ (by omega) hi') fun _ _ e => e
  exact go n 0 [] news (by omega) h0
end
section
variable {prog : Program} {w : World} {A : Around} {E : Value → Shared → Prop} {s : Shared} {Q : Value → Shared → Prop} {h₀ : Heap} {L l : Addr} {m : Str → Option Value} {news : List (Addr × Obj)}
/-- a cell is given a value; the ledger is given anew -/
theorem storeCell {a c : Addr} {cn : Str} {cs : Scope} {ccd : Value} {cl : List (Str × Addr)} {x : Str} {v : Value} {v₀ : Option Value} {o : Obj} {Q : Unit → Shared → Prop} (rest : List (Addr × Obj)) (F : Fr h₀ L s.heap m) (N : News h₀ L s.heap news) (hc : cl.lookup x = some c) (hm : (c, o) ∈ news) (hd : o.data = .cell v₀)
    (hs : ∀ p ∈ rest, p ∈ news) (ho : ∀ p ∈ rest, p.1 ≠ c)
    (h : ∀ h' o', Fr h₀ L h' m → News h₀ L h' ((c, o') :: rest) → o'.data = .cell (some v) → Q () { s with heap := h' })
    (hk : cs.kind = .function := by rfl) (hx : (envX cn cs L a ccd cl).kindOf x = some .cell := by rfl) : wpAny (model prog w) A (storeName (envX cn cs L a ccd cl) x v) Q E s :=
  storeX_C (news := (c, o) :: rest) F (fun p hp => by
    rcases List.mem_cons.mp hp with rfl | hp
    · exact N _ hm
    · exact N _ (hs p hp)) hc (.head ho) hd h hk hx
theorem sumL {vs : List Value} {ns : List Int} {n : Nat} (hh : A.handled = none) (F : Fr h₀ L s.heap m) (N : News h₀ L s.heap news) (hm : (l, listOf vs.toArray n) ∈ news) (hi : IntsAre vs ns)
    (h : ∀ h' tk t', Fr h₀ L h' m → News h₀ L h' news → Q (.int ns.sum t') { s with heap := h', toks := tk }) : wpAny (model prog w) A (call (.builtin "sum") [.ref l]) Q E s :=
  LSm.sum_ints F N hh (newsList N hm) hi h
/-- the least of a list of numbers -/
theorem minL {vs : List Value} {ns : List Int} {n : Nat} (hh : A.handled = none) (F : Fr h₀ L s.heap m) (N : News h₀ L s.heap news) (hm : (l, listOf vs.toArray n) ∈ news) (hi : IntsAre vs ns) (hne : 0 < ns.length)
    (h : ∀ h' tk t' k, Fr h₀ L h' m → News h₀ L h' news → k ∈ ns → (∀ a ∈ ns, k ≤ a) → Q (.int k t') { s with heap := h', toks := tk }) : wpAny (model prog w) A (call (.builtin "min") [.ref l]) Q E s := by
  obtain ⟨xs, hx⟩ := hi.allInts.items
  have hl' : s.heap.IsList l (intItems xs) := hx ▸ newsList N hm
  have e1 : ns = xs.toList.map (·.1) := by
    rw [← nums_intItems, ← hx]
    exact (show numsOf vs.toArray.toList = ns from hi.numsOf).symm
  have hsz : 0 < xs.size := by rw [e1] at hne; simpa using hne
  refine min_intList hh hl' hsz fun v h' tk hv hk => ?_
  obtain ⟨t, rfl⟩ := intItems_at hv
  obtain ⟨h1, h2⟩ := argBest_lt (numAt xs) (xs.size - 1)
  refine h h' tk t _ (F.keeps hk) (N.grown hk) ?_ fun a ha => ?_
  · rw [e1, numAt_eq]; exact PySem.getD_mem (by rw [List.length_map, Array.length_toList]; omega)
  · rw [e1] at ha
    obtain ⟨j, hj, rfl⟩ := mem_getD ha
    rw [List.length_map, Array.length_toList] at hj
    rw [← numAt_eq]; exact h2 j (by omega)
end
section
variable {prog : Program} {w : World} {A : Around} {E : Value → Shared → Prop} {s : Shared} {h₀ : Heap} {L : Addr} {m : Str → Option Value} {env : Env}
/-- where a comprehension over a text begins -/
noncomputable def SrcS (prog : Program) (w : World) (A : Around) (h₀ : Heap) (L : Addr) (m : Str → Option Value) (env : Env) (ct elt : PySem.Expr) (x : Str) (scope : Scope) (cl : List (Str × Addr)) (Fin : Shared → List Value → List (Addr × Obj) → Prop) (xv : Value) (s₁ : Shared) : Prop :=
  ∃ y t news, xv = .str y t ∧ A.handled = none ∧ Fr h₀ L s₁.heap m ∧ News h₀ L s₁.heap news ∧ y.cps.size ≤ sizeLine ∧
    ∀ g, CompRestT prog w A h₀ L m env ct elt x scope cl { s₁ with heap := g } (fun _ => True) (SignAt y) (Fin { s₁ with heap := g }) y.cps.size 0 [] news
theorem str_st {I : Addr} {c : String} {y : Str} {t : Tok} : ∀ i (h h' : Heap) (o : Obj) (nw : List (Addr × Obj)), h.IsStrIter I c y t i → h.get? I = some o → h'.get? I = some o → (∀ b o, h₀.get? b = some o → h'.get? b = some o) → News h₀ L h' nw → True → h'.IsStrIter I c y t i :=
  fun i h h' o nw st e e' _ _ _ => by obtain ⟨o', q, r⟩ := st; rw [e] at q; cases q; exact ⟨o, e', r⟩
theorem compStr {ct elt iter : PySem.Expr} {x : Str} {px : Pos} {scope : Scope} {cl : List (Str × Addr)} {pos : Pos} {Q : Value → Shared → Prop} (F₀ : Fr h₀ L s.heap m)
    (hclos : closureFor scope env = pure cl) (hcell : ∀ y ∈ scope.names, y.2 ≠ .cell) (hkind : scope.kind = .function)
    (hnames : ∀ y ∈ scope.names, y.2 = .local → scope.names.lookup y.1 = some .local) (hx : scope.names.lookup x = some .local)
    (h : wpAny (model prog w) A (eval iter env) (SrcS prog w A h₀ L m env ct elt x scope cl (fun s₂ => FinE h₀ L m s₂ Q)) E s)
    (hs : ∀ x, foldedSetIterable iter env x = pure x := by intro _; rfl) :
    wpAny (model prog w) A (eval (.ListComp elt [⟨.Name x px, iter, [ct], 0⟩] scope pos) env) Q E s := by
  rw [eval_ListComp]
  refine wpAny_comprehension_free (use := none) rfl hs hclos hkind hnames (wpAny_mono h (fun xv s₁ h₁ => ?_) fun _ _ e => e)
  obtain ⟨y, t, news, rfl, hh, F, N, hsz, R⟩ := h₁
  have last : ∀ {o : Obj}, ∀ D C h tk m' ys news', Fr h₀ L h m → News h₀ L h ((D, lst ys) :: news') → Off1 D news' → h.Ns C m' → h₀.get? C = none → h₀.get? D = none → C ≠ L → D ≠ L → C ≠ D → (∀ p ∈ news', p.1 ≠ C) → FinE h₀ L m { s₁ with heap := s₁.heap.push o } Q ys news' →
      ∃ m', h.Ns C m' ∧ ∀ h'', Heap.SameBut C h h'' → Q (.ref D) { s₁ with heap := h'', toks := tk } := by
    intro o D C h tk m' ys news' F' N' o1 hn hC₀ hD₀ hCL hDL hCD offC fin
    refine ⟨m', hn, fun h'' hs'' => fin D h'' tk (F'.change hs'' hCL hC₀) (fun p hp => ?_) o1⟩
    refine ⟨hs''.extBut _ _ ?_ (N' p hp).1, (N' p hp).2⟩
    rcases List.mem_cons.mp hp with rfl | hp
    · exact Ne.symm hCD
    · exact offC p hp
  have up : ∀ o b o', s₁.heap.get? b = some o' → (s₁.heap.push o).get? b = some o' := fun o b o' e => Heap.get?_push_of_some _ e
  have lt1 : ∀ o : Obj, ∀ b ∈ [s₁.heap.objs.size], b < (s₁.heap.push o).objs.size := fun o b hb => by
    rw [List.mem_singleton.mp hb, Heap.size_push]; exact Nat.lt_succ_self _
  cases ha : y.cps.all (· < 128)
  · refine wpAny_pyIter_wide ha ?_
    exact block_T (Walks.strWide hh _ y t) hsz (fun i h st => by obtain ⟨o, e, _⟩ := st; exact ⟨o, e⟩) str_st hcell hkind hx ⟨_, Heap.get?_push_size _ rfl, rfl, rfl⟩ (lt1 _)
      (F.keeps (up _)) (N.grown (up _)) (Nat.ne_of_lt F.ns.lt) (next_is_new F) (fun p hp => Nat.ne_of_lt (Heap.lt_size (N p hp).1)) trivial (R _) last
  · refine wpAny_pyIter_ascii ha ?_
    exact block_T (Walks.strAscii hh _ y t) hsz (fun i h st => by obtain ⟨o, e, _⟩ := st; exact ⟨o, e⟩) str_st hcell hkind hx ⟨_, Heap.get?_push_size _ rfl, rfl, rfl⟩ (lt1 _)
      (F.keeps (up _)) (N.grown (up _)) (Nat.ne_of_lt F.ns.lt) (next_is_new F) (fun p hp => Nat.ne_of_lt (Heap.lt_size (N p hp).1)) trivial (R _) last
end
section
variable {prog : Program} {w : World} {A : Around} {E : Value → Shared → Prop} {s : Shared} {h₀ : Heap} {L : Addr} {m : Str → Option Value} {env : Env}
/-- what a comprehension over a list of pairs, with one test, does in a turn -/
noncomputable abbrev TurnPT (prog : Program) (w : World) (A : Around) (h₀ : Heap) (L : Addr) (m : Str → Option Value) (env : Env) (ct elt : PySem.Expr) (x x₂ : Str) (scope : Scope) (cl : List (Str × Addr)) (s : Shared) (S : List (Addr × Obj) → Prop) (Inv : Nat → List Value → List (Addr × Obj) → Prop) (n : Nat) (f g : Nat → Value) : Prop :=
  ∀ i ys news I oI C oC D m₂ h tk (E' : Value → Shared → Prop), i < n → Inv i ys news → NsObj oC m₂ → m₂ x = some (f i) → m₂ x₂ = some (g i) → Fr h₀ L h m → News h₀ L h ((I, oI) :: (C, oC) :: (D, lst ys) :: news) → Off3 I C D news → ((@Ne Nat I C) ∧ (@Ne Nat I D) ∧ (@Ne Nat C D)) →
    wpAny (model prog w) A (isTrue ct (compEnvC scope cl C env) (eval ct (compEnvC scope cl C env))) (fun ok s' => if ok = true then
      wpAny (model prog w) A (eval elt (compEnvC scope cl C env)) (CompEnd h₀ L m { s with heap := h, toks := tk } I oI C oC D (lst ys) S (fun y news' => Inv (i + 1) (ys ++ [y]) news')) E' s'
      else CompEnd h₀ L m { s with heap := h, toks := tk } I oI C oC D (lst ys) S (fun _ news' => Inv (i + 1) ys news') Value.none s') E' { s with heap := h, toks := tk }
theorem blockPT {elt iter ct : PySem.Expr} {x x₂ : Str} {px px₂ tp : Pos} {tk₀} {scope : Scope} {cl : List (Str × Addr)} {pos : Pos} {s₂ : Shared} {I ax : Addr} {its : Array Value} {news : List (Addr × Obj)}
    {Fin : List Value → List (Addr × Obj) → Prop} {RR : Value → Addr → Result → Shared → Prop} {Inv : Nat → List Value → List (Addr × Obj) → Prop} {f g : Nat → Value}
    (hh : A.handled = none) (hsz : its.size ≤ sizeLine) (hne : ax ≠ I)
    (hcell : ∀ y ∈ scope.names, y.2 ≠ .cell) (hkind : scope.kind = .function) (hx : scope.names.lookup x = some .local) (hx₂ : scope.names.lookup x₂ = some .local) (hxx : x ≠ x₂)
    (hit : s₂.heap.IsListIter I ax 0) (hlt : I < s₂.heap.objs.size) (hal : ax < s₂.heap.objs.size)
    (F : Fr h₀ L s₂.heap m) (N : News h₀ L s₂.heap news) (hIL : L ≠ I) (hI₀ : h₀.get? I = none) (off : ∀ p ∈ news, p.1 ≠ I) (hS : SrcAt h₀ ax its news) (h0 : Inv 0 [] news)
    (hp : ∀ i ys news v, i < its.size → Inv i ys news → its[i]? = some v → PairAt news v (f i) (g i))
    (turn : TurnPT prog w A h₀ L m env ct elt x x₂ scope cl s₂ (SrcAt h₀ ax its) Inv its.size f g) (fin : ∀ ys news, Inv its.size ys news → Fin ys news)
    (hRR : ∀ D C h tk m' ys news', Fr h₀ L h m → News h₀ L h ((D, lst ys) :: news') → Off1 D news' → h.Ns C m' → h₀.get? C = none → h₀.get? D = none → C ≠ L → D ≠ L → C ≠ D → (∀ p ∈ news', p.1 ≠ C) → Fin ys news' → RR (.ref D) C (.ok .next) { s₂ with heap := h, toks := tk }) :
    wpAny (model prog w) A (newList []) (fun acc s₃ => wpAny (model prog w) A (newFunctionEnv scope env.globals cl [] env.qual none .none (some env)) (fun cenv s₄ =>
      codeAny (model prog w) A (.compStart (.ListComp elt [⟨.Tuple [.Name x px, .Name x₂ px₂] tk₀ tp, iter, [ct], 0⟩] scope pos) 0 (.ref I) acc { cenv with scope := relabel scope env }) (RR acc cenv.locals) s₄) E s₃) E s₂ := by
  refine wpAny_newObj_type (wpAny_newFunctionEnv hcell (by intro y hy; simp at hy) (fun h₁ hns₁ hsb₁ => ?_) hkind)
  dsimp only at hns₁ hsb₁ ⊢
  generalize hH2 : s₂.heap.push { cls := .type "list", dict := none, data := .seq ([] : List Value).toArray } = H2 at hns₁ hsb₁ ⊢
  generalize hDd : s₂.heap.objs.size = D at *
  have hC : H2.objs.size = D + 1 := by rw [← hH2, Heap.size_push, hDd]
  have below : ∀ b : Nat, b < D → b ≠ H2.objs.size ∧ b ≠ D := fun b hb => ⟨by rw [hC]; exact Nat.ne_of_lt (Nat.lt_succ_of_lt hb), Nat.ne_of_lt hb⟩
  have hDC : D ≠ H2.objs.size := by rw [hC]; exact Nat.ne_of_lt (Nat.lt_succ_self _)
  have old : ∀ b o, s₂.heap.get? b = some o → h₁.get? b = some o := fun b o e => hsb₁.extBut b o (below b (hDd ▸ Heap.lt_size e)).1 (Heap.get?_push_of_some _ (hH2 ▸ Heap.get?_push_of_some _ e))
  have e0 : h₁.get? D = some (lst []) := hsb₁.extBut _ _ hDC (Heap.get?_push_of_some _ (by rw [← hH2, ← hDd]; exact Heap.get?_push_size _ rfl))
  have fresh : ∀ a : Nat, D ≤ a → h₀.get? a = none := fun a ha => by
    cases e : h₀.get? a with
    | none => rfl
    | some o' => exact absurd (Nat.lt_of_lt_of_le (hDd ▸ Heap.lt_size (F.keep a o' e)) ha) (Nat.lt_irrefl _)
  have hD₀ := fresh D (Nat.le_refl _)
  have hC₀ := fresh H2.objs.size (by rw [hC]; exact Nat.le_succ _)
  have hLlt : L < D := hDd ▸ F.ns.lt
  have nlt : ∀ p ∈ news, p.1 < D := fun p hp => hDd ▸ Heap.lt_size (N p hp).1
  generalize hCc : H2.objs.size = C at *
  have hCL : C ≠ L := Ne.symm (below L hLlt).1
  have hDL : D ≠ L := Ne.symm (below L hLlt).2
  have hIC : I ≠ C := (below I hlt).1
  have hID : I ≠ D := (below I hlt).2
  have hCD : C ≠ D := Ne.symm hDC
  have W := Walks.list (prog := prog) (w := w) hh I ax hne its
  have loop : ∀ s₃ : Shared, s₃ = { s₂ with heap := h₁, toks := s₂.toks + ([] : List (Str × Value)).length } →
      codeAny (model prog w) A (.compLoop (.ListComp elt [⟨.Tuple [.Name x px, .Name x₂ px₂] tk₀ tp, iter, [ct], 0⟩] scope pos) 0 (.ref I) (.ref D) (compEnvC scope cl C env)) (RR (.ref D) C) s₃ := by
    rintro s₃ rfl
    refine kct_loop
      (fun k s' => ∃ h' tk i ys m' news', s' = { s₂ with heap := h', toks := tk } ∧ (i ≤ its.size ∧ k = its.size + 1 - i ∧ ys.length ≤ i) ∧ h'.IsListIter I ax i ∧ Fr h₀ L h' m ∧ h'.Ns C m' ∧ News h₀ L h' ((D, lst ys) :: news') ∧
        Off3 I C D news' ∧ SrcAt h₀ ax its news' ∧ Inv i ys news') ?_ (its.size + 1)
      ⟨h₁, _, 0, [], _, news, rfl, ⟨Nat.zero_le _, rfl, Nat.le_refl _⟩, hit.at fun o e => old _ o e, F.keeps old, hns₁, fun p hp => ?_, Off3.of fun p hp => ⟨off p hp, (below _ (nlt p hp)).1, (below _ (nlt p hp)).2⟩, hS, h0⟩
    · rintro k s' ⟨h', tk, i, ys, m', news', rfl, ⟨hi, rfl, hyl⟩, hit', F', hn', N', off', hS', hI'⟩
      have hal' : h'.IsList ax its := hS'.list F'.keep fun p hp => N' p (List.mem_cons_of_mem _ hp)
      have off3 := off'.mem
      by_cases hlt' : i < its.size
      · refine W.item i _ _ _ hlt' ⟨hit', hal'⟩ fun v h₂ tk₂ hPv hst₂ hk₂ => ?_
        obtain ⟨t, nt, rfl, hmt⟩ := hp i ys news' v hlt' hI' hPv
        have N₂ : News h₀ L h₂ ((D, lst ys) :: news') := news_but N' hk₂ fun p hp => by
          rcases List.mem_cons.mp hp with rfl | hp
          · exact Ne.symm hID
          · exact (off3 p hp).1
        have ht : IsTup h₂ t #[f i, g i] := ⟨_, (N₂ _ (List.mem_cons_of_mem _ hmt)).1, rfl, nt, rfl⟩
        refine wpAny_letOwnedTupleGo_listiter hst₂.1 ?_
        refine assign_Tuple_tuple hh ht rfl rfl fun h₅ he => ?_
        have he' : ∀ b o, h₂.get? b = some o → h₅.get? b = some o := fun b o e => he b o (Nat.ne_of_lt (Heap.lt_size e)) e
        have nC : h₅.Ns C m' := (hn'.at' fun o e => hk₂ _ o (by simpa using Ne.symm hIC) e).at' fun o e => he' _ o e
        refine assignInOrder_cons (wpAny_assign_Name (wpAny_storeName_local (lookup_relabel_local hx) nC (fun h₆ hn₆ hs₆ => ?_) (by simp [compEnvC, relabel, hkind])))
        refine assignInOrder_cons (wpAny_assign_Name (wpAny_storeName_local (lookup_relabel_local hx₂) hn₆ (fun h₃ hn₃ hs₃ => ?_) (by simp [compEnvC, relabel, hkind])))
        refine assignInOrder_nil ?_
        have old3 : ∀ b o, b ≠ C → h₂.get? b = some o → h₃.get? b = some o := fun b o hb e => hs₃.extBut b o hb (hs₆.extBut b o hb (he' b o e))
        have it3 : h₃.IsListIter I ax (i + 1) := hst₂.1.at fun o e => old3 _ o hIC e
        obtain ⟨oI, heI, hoI⟩ : ∃ oI, h₃.get? I = some oI ∧ ∀ h : Heap, h.get? I = some oI → h.IsListIter I ax (i + 1) := by
          obtain ⟨oI, e, r⟩ := it3; exact ⟨oI, e, fun h e' => ⟨oI, e', r⟩⟩
        obtain ⟨oC, heC, hoC⟩ := ns_obj hn₃
        have F₃ : Fr h₀ L h₃ m := (((fr_but F' hk₂ hIL hI₀).keeps he').change hs₆ hCL hC₀).change hs₃ hCL hC₀
        have N₃ : News h₀ L h₃ ((I, oI) :: (C, oC) :: (D, lst ys) :: news') := fun p hp => by
          rcases List.mem_cons.mp hp with rfl | hp
          · exact ⟨heI, Ne.symm hIL, hI₀⟩
          rcases List.mem_cons.mp hp with rfl | hp
          · exact ⟨heC, hCL, hC₀⟩
          refine ⟨old3 _ _ ?_ (N₂ p hp).1, (N₂ p hp).2⟩
          rcases List.mem_cons.mp hp with rfl | hp
          · exact Ne.symm hCD
          · exact (off3 p hp).2.1
        have next : ∀ (ys' : List Value) (h₄ : Heap) (tk₄ : Nat) (news₄ : List (Addr × Obj)), ys'.length ≤ i + 1 → Fr h₀ L h₄ m → News h₀ L h₄ ((I, oI) :: (C, oC) :: (D, lst ys') :: news₄) → Off3 I C D news₄ → SrcAt h₀ ax its news₄ → Inv (i + 1) ys' news₄ →
            ∃ q, q < its.size + 1 - i ∧ ∃ h' tk i ys m' news', ({ s₂ with heap := h₄, toks := tk₄ } : Shared) = { s₂ with heap := h', toks := tk } ∧ (i ≤ its.size ∧ q = its.size + 1 - i ∧ ys.length ≤ i) ∧ h'.IsListIter I ax i ∧ Fr h₀ L h' m ∧ h'.Ns C m' ∧ News h₀ L h' ((D, lst ys) :: news') ∧
              Off3 I C D news' ∧ SrcAt h₀ ax its news' ∧ Inv i ys news' := fun ys' h₄ tk₄ news₄ hl F₄ N₄ o₄ S₄ I₄ =>
          ⟨its.size + 1 - (i + 1), by omega, h₄, tk₄, i + 1, ys', _, news₄, rfl, ⟨hlt', rfl, hl⟩, hoI _ (N₄ (I, oI) List.mem_cons_self).1, F₄, hoC.ns (N₄ (C, oC) (List.mem_cons_of_mem _ List.mem_cons_self)).1, fun p hp => N₄ p (List.mem_cons_of_mem _ (List.mem_cons_of_mem _ hp)), o₄, S₄, I₄⟩
        refine wpAny_mono (turn i ys news' I oI C oC D _ h₃ _ _ hlt' hI' hoC (by simp [hxx]) (by simp) F₃ N₃ off' ⟨hIC, hID, hCD⟩) (fun ok s₄ q => ?_) fun _ _ e => e
        cases ok with
        | false =>
          simp only [Bool.false_eq_true, if_false] at q ⊢
          obtain ⟨h₄, tk₄, news₄, rfl, F₄, N₄, off₄, hS₄, I₄⟩ := q
          exact next ys h₄ tk₄ news₄ (Nat.le_succ_of_le hyl) F₄ N₄ off₄ hS₄ I₄
        | true =>
          simp only [if_true] at q ⊢
          refine wpAny_mono q (fun y s₅ q => ?_) fun _ _ e => e
          obtain ⟨h₄, tk₄, news₄, rfl, F₄, N₄, off₄, hS₄, I₄⟩ := q
          have zD := (N₄ (D, lst ys) (List.mem_cons_of_mem _ (List.mem_cons_of_mem _ List.mem_cons_self))).1
          refine append_at (hsz := by show ys.toArray.size ≤ sizeLine; rw [List.size_toArray]; omega) zD fun h₆ hs₆ hD₆ => ?_
          have off4 := off₄.mem
          refine next (ys ++ [y]) h₆ _ news₄ (by rw [List.length_append, List.length_singleton]; omega) (F₄.change hs₆ hDL hD₀) (fun p hp => ?_) off₄ hS₄ I₄
          rcases List.mem_cons.mp hp with rfl | hp
          · exact ⟨hs₆.extBut _ _ hID (N₄ _ List.mem_cons_self).1, Ne.symm hIL, hI₀⟩
          rcases List.mem_cons.mp hp with rfl | hp
          · exact ⟨hs₆.extBut _ _ hCD (N₄ _ (List.mem_cons_of_mem _ List.mem_cons_self)).1, hCL, hC₀⟩
          rcases List.mem_cons.mp hp with rfl | hp
          · exact ⟨hD₆.trans (congrArg some (lst_snoc ys y)), hDL, hD₀⟩
          · have z := N₄ p (List.mem_cons_of_mem _ (List.mem_cons_of_mem _ (List.mem_cons_of_mem _ hp)))
            exact ⟨hs₆.extBut _ _ (off4 p hp).2.2 z.1, z.2⟩
      · obtain rfl : i = its.size := Nat.le_antisymm hi (Nat.not_lt.mp hlt')
        refine W.done _ _ _ ⟨hit', hal'⟩ fun h₂ tk₂ hk₂ => ?_
        exact hRR _ _ h₂ tk₂ _ ys news' (fr_but F' hk₂ hIL hI₀) (news_but N' hk₂ fun p hp => by
          rcases List.mem_cons.mp hp with rfl | hp
          · exact Ne.symm hID
          · exact (off3 p hp).1) off'.one (hn'.at' fun o e => hk₂ _ o (by simpa using Ne.symm hIC) e) hC₀ hD₀ hCL hDL hCD (fun p hp => (off3 p hp).2.1) (fin _ _ hI')
    · rcases List.mem_cons.mp hp with rfl | hp
      · exact ⟨e0, hDL, hD₀⟩
      · exact ⟨old _ _ (N p hp).1, (N p hp).2⟩
  have hl₁ : h₁.IsList ax its := hS.list (F.keeps old).keep fun p hp => ⟨old _ _ (N p hp).1, (N p hp).2⟩
  exact codeAny_compStart_list (loop _ rfl) (W.self 0 _ _ _ ⟨hit.at fun o e => old _ o e, hl₁⟩ (loop _ rfl))
noncomputable def SrcPT (prog : Program) (w : World) (A : Around) (h₀ : Heap) (L : Addr) (m : Str → Option Value) (env : Env) (ct elt : PySem.Expr) (x x₂ : Str) (scope : Scope) (cl : List (Str × Addr)) (Fin : Shared → List Value → List (Addr × Obj) → Prop) (xv : Value) (s₁ : Shared) : Prop :=
  ∃ ax vs nn news Inv f g, xv = .ref ax ∧ A.handled = none ∧ Fr h₀ L s₁.heap m ∧ News h₀ L s₁.heap news ∧ (ax, listOf (List.toArray vs) nn) ∈ news ∧ vs.length ≤ sizeLine ∧ Inv 0 [] news ∧
    (∀ i ys news v, i < vs.length → Inv i ys news → vs[i]? = some v → PairAt news v (f i) (g i)) ∧
    ∀ h, TurnPT prog w A h₀ L m env ct elt x x₂ scope cl { s₁ with heap := h } (SrcAt h₀ ax vs.toArray) Inv vs.length f g ∧ ∀ ys news, Inv vs.length ys news → Fin { s₁ with heap := h } ys news
theorem compPT {elt iter ct : PySem.Expr} {x x₂ : Str} {px px₂ tp : Pos} {tk} {scope : Scope} {cl : List (Str × Addr)} {pos : Pos} {Q : Value → Shared → Prop} (_F₀ : Fr h₀ L s.heap m)
    (hclos : closureFor scope env = pure cl) (hcell : ∀ y ∈ scope.names, y.2 ≠ .cell) (hkind : scope.kind = .function)
    (hnames : ∀ y ∈ scope.names, y.2 = .local → scope.names.lookup y.1 = some .local) (hx : scope.names.lookup x = some .local) (hx₂ : scope.names.lookup x₂ = some .local) (hxx : x ≠ x₂)
    (h : wpAny (model prog w) A (eval iter env) (SrcPT prog w A h₀ L m env ct elt x x₂ scope cl (fun s₂ => FinE h₀ L m s₂ Q)) E s)
    (hs : ∀ x, foldedSetIterable iter env x = pure x := by intro _; rfl) :
    wpAny (model prog w) A (eval (.ListComp elt [⟨.Tuple [.Name x px, .Name x₂ px₂] tk tp, iter, [ct], 0⟩] scope pos) env) Q E s := by
  rw [eval_ListComp]
  refine wpAny_comprehension_free (use := none) rfl hs hclos hkind hnames (wpAny_mono h (fun xv s₁ h₁ => ?_) fun _ _ e => e)
  obtain ⟨ax, vs, nn, news, Inv, f, g, rfl, hh, F, N, hm, hsz, hI, hp, R⟩ := h₁
  have hl := newsList N hm
  have hlt : ax < s₁.heap.objs.size := Heap.lt_size (N _ hm).1
  refine wpAny_pyIter_list hl ?_
  have up : ∀ b o, s₁.heap.get? b = some o → (s₁.heap.push { cls := .type "list_iterator", data := .fields #[.ref ax, .int 0 0] }).get? b = some o := fun b o e => Heap.get?_push_of_some _ e
  refine blockPT (its := vs.toArray) (Inv := Inv) (f := f) (g := g) (ax := ax) hh (by simpa using hsz) (Nat.ne_of_lt hlt) hcell hkind hx hx₂ hxx ⟨_, Heap.get?_push_size _ rfl, rfl, rfl⟩ (by rw [Heap.size_push]; exact Nat.lt_succ_self _) (by rw [Heap.size_push]; exact Nat.lt_succ_of_lt hlt)
    (F.keeps up) (N.grown up) (Nat.ne_of_lt F.ns.lt) (next_is_new F) (fun p hp => Nat.ne_of_lt (Heap.lt_size (N p hp).1)) (.inr ⟨_, hm, rfl, _, rfl⟩) hI (by simpa using hp) (by simpa using (R _).1) (by simpa using (R (s₁.heap.push { cls := .type "list_iterator", data := .fields #[.ref ax, .int 0 0] })).2) ?_
  intro D C h tk m' ys news' F' N' o1 hn hC₀ hD₀ hCL hDL hCD offC fin
  refine ⟨m', hn, fun h'' hs'' => fin D h'' tk (F'.change hs'' hCL hC₀) (fun p hp => ?_) o1⟩
  refine ⟨hs''.extBut _ _ ?_ (N' p hp).1, (N' p hp).2⟩
  rcases List.mem_cons.mp hp with rfl | hp
  · exact Ne.symm hCD
  · exact offC p hp
end
section
variable {prog : Program} {w : World} {A : Around} {E : Value → Shared → Prop} {s : Shared} {env : Env} {h₀ : Heap} {target : PySem.Expr} {body : List Stmt} {Q : Flow → Shared → Prop}
/-- how a turn ends, of a for loop with a target of its own -/
noncomputable def TEnd {σ : Type} (h₀ : Heap) (L : Addr) (Led : σ → List (Addr × Obj)) (ps : σ → List (Str × Value)) (stored : List Str) (m₀ : Str → Option Value) (P : σ → Prop) (own : List (Addr × Obj)) (s : Shared) (f : Flow) (s₂ : Shared) : Prop :=
  f = .next ∧ ∃ (c' : σ) (h' : Heap) (tk : Nat) (m' : Str → Option Value) (news' : List (Addr × Obj)), s₂ = { s with heap := h', toks := tk } ∧ Fr h₀ L h' m' ∧ News h₀ L h' news' ∧ (∀ p ∈ Led c', p ∈ news') ∧ (∀ p ∈ own, p ∈ news') ∧ OwnOff own ((Led c').map (·.1)) ∧
    (∀ p ∈ ps c', m' p.1 = some p.2) ∧ (∀ z, (∀ p ∈ ps c', z ≠ p.1) → stored.contains z = false → m' z = m₀ z) ∧ P c'
theorem tNext {σ : Type} {h₀ : Heap} {L : Addr} {Led : σ → List (Addr × Obj)} {ps : σ → List (Str × Value)} {stored : List Str} {m₀ m' : Str → Option Value} {P : σ → Prop} {own news' : List (Addr × Obj)} {s : Shared} {h' : Heap} {tk : Nat} (c' : σ)
    (F : Fr h₀ L h' m') (N : News h₀ L h' news') (hn : ∀ p ∈ Led c', p ∈ news') (ho : ∀ p ∈ own, p ∈ news') (ha : OwnOff own ((Led c').map (·.1)))
    (hk : ∀ p ∈ ps c', m' p.1 = some p.2) (hr : ∀ z, (∀ p ∈ ps c', z ≠ p.1) → stored.contains z = false → m' z = m₀ z) (hp : P c') :
    TEnd h₀ L Led ps stored m₀ P own s .next { s with heap := h', toks := tk } := ⟨rfl, c', h', tk, m', news', rfl, F, N, hn, ho, ha, hk, hr, hp⟩
theorem forRangeT {σ : Type} {r : Addr} {a₀ b₀ : Int} {t₀ u₀ v₀ : Tok} {n : Nat} {m₀ : Str → Option Value} (Led : σ → List (Addr × Obj)) (ps : σ → List (Str × Value)) (stored : List Str) (P : Nat → σ → Prop) (c₀ : σ)
    (hh : A.handled = none) (hr : IsRange s.heap r a₀ b₀ 1 t₀ u₀ v₀) (hsmall : Builtin.Range.small a₀ b₀ 1 = true) (hsz : Builtin.Range.rangeSize a₀ b₀ 1 = (n : Int)) (F : Fr h₀ env.locals s.heap m₀) (N : News h₀ env.locals s.heap (Led c₀)) (hk : ∀ p ∈ ps c₀, m₀ p.1 = some p.2) (hp : P 0 c₀)
    (hgo : ∀ it v, letOwnedTupleGo target it v = pure ())
    (turn : ∀ (c : σ) (i : Nat) (k : Int) t (u : Str → Option Value) s₁ own, k = a₀ + (i : Int) → i < n → OwnOff own ((Led c).map (·.1)) → P i c →
      Fr h₀ env.locals s₁.heap (kstB (fun z => if stored.contains z then u z else m₀ z) (ps c)) → News h₀ env.locals s₁.heap (Led c ++ own) →
      wpAny (model prog w) A (assign target env (.int k t)) (fun _ s₃ => wpAny (model prog w) A (execs body env) (TEnd h₀ env.locals Led ps stored m₀ (P (i + 1)) own s₁) E s₃) E s₁)
    (done : ∀ (c : σ) (u : Str → Option Value) h tk, P n c → Fr h₀ env.locals h (kstB (fun z => if stored.contains z then u z else m₀ z) (ps c)) → News h₀ env.locals h (Led c) → Q .next { s with heap := h, toks := tk }) :
    wpAny (model prog w) A (pyIter (.ref r)) (fun it s₂ => LoopAtT prog w A h₀ env target body Q E it s₂) E s := by
  refine wpAny_pyIter_range hr hsmall ?_
  have W : Walks prog w A s.heap.objs.size [s.heap.objs.size] [s.heap.objs.size] n (fun i v => i < n ∧ ∃ t, v = .int (a₀ + i * 1) t)
      (fun i h => IsRangeIter h s.heap.objs.size (a₀ + (i : Nat) * 1) ((n : Int) - (i : Nat)) 1) := (Walks.range hh _ a₀ 1 n).bound
  refine ⟨_, _, _, n, _, _, m₀, Led c₀, fun i m nx => ∃ c : σ, nx = Led c ∧ P i c ∧ (∀ p ∈ ps c, m p.1 = some p.2) ∧ (∀ z, (∀ p ∈ ps c, z ≠ p.1) → stored.contains z = false → m z = m₀ z), rfl, W, ?_, ?_, ?_,
    (by show IsRangeIter _ _ _ _ _; rw [hsz]; simpa using Heap.get?_push_size _ rfl), F.push _, (fun p hp => ⟨Heap.get?_push_of_some _ (N p hp).1, (N p hp).2⟩), (fun i s' v Q' _ q => wpAny_of_eq (hgo _ _) q), ⟨c₀, rfl, hp, hk, fun _ _ _ => rfl⟩, ?_, ?_⟩
  · intro hm
    exact absurd F.ns.lt ((List.mem_singleton.mp hm) ▸ Nat.lt_irrefl _)
  · intro b hb
    rw [List.mem_singleton.mp hb]
    exact next_is_new F
  · intro p hp hI
    exact absurd (Heap.lt_size (N p hp).1) ((List.mem_singleton.mp hI) ▸ Nat.lt_irrefl _)
  · rintro i v m₁ nx s₁ own hi ⟨_, t, rfl⟩ ⟨c, rfl, hp', h1, h2⟩ hoff hown hget hmem hst F₁ N₁
    have hsep : OwnOff own ((Led c).map (·.1)) := by
      intro p hp b hb e
      obtain ⟨q, hq, rfl⟩ := List.mem_map.mp hb
      exact hoff q hq (e ▸ hown p hp)
    have N₂ : News h₀ env.locals s₁.heap (Led c ++ own) := fun p hp => N₁ p ((List.mem_append.mp hp).elim (fun h => List.mem_append.mpr (.inr h)) fun h => List.mem_append.mpr (.inl h))
    refine wpAny_mono (turn c i _ t m₁ s₁ own (by omega) hi hsep hp' (ksw_fr h1 h2 F₁) N₂) (fun _ s₃ q => wpAny_mono q (fun f s₂ q => ?_) fun _ _ e => e) fun _ _ e => e
    obtain ⟨rfl, c', h', tk, m', news', rfl, F', N', hn, ho, ha, hk', hr', hp''⟩ := q
    refine ⟨rfl, h', tk, m', Led c', rfl, F', fun p hp => N' p ((List.mem_append.mp hp).elim (ho p) (hn p)), fun p hp hq => ?_, c', rfl, hp'', hk', hr'⟩
    have hq' := List.mem_singleton.mp hq
    obtain ⟨o, e⟩ : ∃ o, s₁.heap.get? s.heap.objs.size = some o := ⟨_, hst⟩
    exact ha _ (hmem _ (List.mem_singleton.mpr rfl) (next_is_new F) o e) p.1 (List.mem_map.mpr ⟨p, hp, rfl⟩) hq'.symm
  · rintro h' tk m' nx F' N' _ ⟨c, rfl, hp', h1, h2⟩
    exact done c m' h' tk hp' (ksw_fr h1 h2 F') N'
end
/-- a value comes back and the ledger stays -/
noncomputable abbrev RetN (news : List (Addr × Obj)) (R : Tok → Value) : Heap → Addr → (Str → Option Value) → Shared → (Value → Shared → Prop) → Prop :=
  fun h₀ L m s Q => ∀ (t : Tok) (h' : Heap) (tk' : Nat), Fr h₀ L h' m → News h₀ L h' news → Q (R t) { s with heap := h', toks := tk' }
theorem lenList {prog : Program} {w : World} {A : Around} {E : Value → Shared → Prop} {s : Shared} {Q : Value → Shared → Prop} {h₀ : Heap} {L l : Addr} {news : List (Addr × Obj)} {vs : List Value} {n : Nat} (N : News h₀ L s.heap news) (hm : (l, listOf vs.toArray n) ∈ news) (hz : vs.length < 2 ^ 62)
    (h : ∀ t' tk, Q (.int vs.length t') { s with toks := tk }) : wpAny (model prog w) A (call (.builtin "len") [.ref l]) Q E s :=
  Calls.call_len_list (newsList N hm) (by simp only [List.size_toArray]; omega) (by simp only [List.size_toArray]; exact h _ _)
theorem addListsA {prog : Program} {w : World} {A : Around} {E : Value → Shared → Prop} {s : Shared} {Q : Value → Shared → Prop} {h₀ : Heap} {L : Addr} {m : Str → Option Value} {news : List (Addr × Obj)} {a b : Addr} {vs ws : List Value} {x y : Nat} (F : Fr h₀ L s.heap m) (N : News h₀ L s.heap news) (ha : (a, listOf vs.toArray x) ∈ news) (hb : (b, listOf ws.toArray y) ∈ news)
    (h : ∀ D h', Fr h₀ L h' m → News h₀ L h' ((D, listOf (vs ++ ws).toArray 0) :: news) → AllLt D news → Q (.ref D) { s with heap := h' })
    (hsz : vs.length + ws.length ≤ sizeLine) : wpAny (model prog w) A (binaryOp .Add (.ref a) (.ref b)) Q E s :=
  addLists F N ha hb (fun h' F' N' => h _ h' F' N' (allLt_of fun p hp => Heap.lt_size (N p hp).1)) hsz
inductive RowsIn (news : List (Addr × Obj)) : List Value → List (List Int) → Prop
  | nil : RowsIn news [] []
  | cons {vs : List Value} {xs : List (List Int)} (a : Addr) (n : Nat) (us : List Value) (ns : List Int) : (a, listOf us.toArray n) ∈ news → IntsAre us ns → RowsIn news vs xs → RowsIn news (.ref a :: vs) (ns :: xs)
theorem RowsIn.length {news : List (Addr × Obj)} {vs : List Value} {xs : List (List Int)} (h : RowsIn news vs xs) : vs.length = xs.length := by
  induction h with
  | nil => rfl
  | cons _ _ _ _ _ _ _ ih => simp [ih]
theorem RowsIn.get {news : List (Addr × Obj)} {vs : List Value} {xs : List (List Int)} (h : RowsIn news vs xs) : ∀ i, i < xs.length → ∃ a n us, vs[i]? = some (.ref a) ∧ (a, listOf us.toArray n) ∈ news ∧ IntsAre us (xs.getD i []) := by
  induction h with
  | nil => intro i hi; exact absurd hi (Nat.not_lt_zero _)
  | cons a n us ns hm hi _ ih =>
    intro i hi'
    cases i with
    | zero => exact ⟨a, n, us, rfl, hm, hi⟩
    | succ i => simpa using ih i (Nat.lt_of_succ_lt_succ hi')
theorem RowsIn.mono {news news' : List (Addr × Obj)} {vs : List Value} {xs : List (List Int)} (h : RowsIn news vs xs) (k : ∀ p ∈ news, p ∈ news') : RowsIn news' vs xs := by
  induction h with
  | nil => exact .nil
  | cons a n us ns hm hi _ ih => exact .cons a n us ns (k _ hm) hi ih
section
variable {prog : Program} {w : World} {A : Around} {E : Value → Shared → Prop} {s : Shared} {Q : Value → Shared → Prop} {h₀ : Heap} {L l : Addr} {m : Str → Option Value} {news : List (Addr × Obj)}
theorem rowItem {value slice : PySem.Expr} {news' : List (Addr × Obj)} {vs : List Value} {xs : List (List Int)} {n : Nat} {k : Int} {u : Tok} (N : News h₀ L s.heap news) (hm : (l, listOf vs.toArray n) ∈ news) (hv : RowsIn news' vs xs) (h0 : 0 ≤ k) (h1 : k.toNat < xs.length) (h2 : xs.length < 2 ^ 62)
    (h : ∀ a n us, (a, listOf us.toArray n) ∈ news' → IntsAre us (xs.getD k.toNat []) → Q (.ref a) s)
    (hs : subscripted slice false (.ref l) (.int k u) = operate [.ref l, .int k u] (getItem (.ref l) (.int k u)) := by with_unfolding_all rfl) :
    wpAny (model prog w) A (subscriptTail value slice (.ref l) (.int k u)) Q E s := by
  obtain ⟨a, n, us, ht, hm', hi⟩ := hv.get k.toNat h1
  have hl : s.heap.IsList l vs.toArray := newsList N hm
  exact tail_any hl.typeIs slot_list_getitem.lookup (wpAny_getItem_list hl h0 (by omega) (by simpa using ht) (h a n us hm' hi)) hs
end
theorem intItem0 {prog : Program} {w : World} {A : Around} {E : Value → Shared → Prop} {s : Shared} {Q : Value → Shared → Prop} {h₀ : Heap} {L l : Addr} {news : List (Addr × Obj)} {value slice : PySem.Expr} {vs : List Value} {xs : List Int} {n : Nat} {k : Int} {u : Tok} (N : News h₀ L s.heap news) (hm : (l, listOf vs.toArray n) ∈ news) (hv : IntsAre vs xs) (h0 : 0 ≤ k) (h1 : k.toNat < xs.length) (h2 : xs.length < 2 ^ 62)
    (h : ∀ t c, Is c (xs.getD k.toNat 0) → Q (.int c t) s) (hs : subscripted slice false (.ref l) (.int k u) = operate [.ref l, .int k u] (getItem (.ref l) (.int k u)) := by with_unfolding_all rfl) :
    wpAny (model prog w) A (subscriptTail value slice (.ref l) (.int k u)) Q E s := by
  obtain ⟨t, ht⟩ := hv.get k.toNat (xs.getD k.toNat 0) (by rw [List.getD_eq_getElem?_getD, List.getElem?_eq_getElem h1]; rfl)
  have hl : s.heap.IsList l vs.toArray := newsList N hm
  exact tail_any hl.typeIs slot_list_getitem.lookup (wpAny_getItem_list hl h0 (by omega) (by simpa using ht) (h t _ ⟨rfl⟩)) hs
end

section
open PySem PySem.W PySem.Spec PySem.Calls PyProof.Rows PyProof.Rows.LCg PyProof.Rows.LCt PyProof.Rows.LCp
local macro_rules | `(tactic| walk_at "compareOp In int ref") => `(tactic| (k_here; (with_reducible show wpAny _ _ (compareOp CmpOp.In (Value.int _ _) (Value.ref 54)) _ _ _); refine in54 (by k_asm) (by k_asm) ?_))
local macro_rules | `(tactic| walk_at "getMethod ref") => `(tactic| (k_here; (with_reducible show wpAny _ _ (getMethod (Value.ref 65) _ _) _ _ _); refine get65M (by k_asm) (by k_asm) ?_))
local macro_rules | `(tactic| walk_at "call builtin:dict.get") => `(tactic| (k_here; (with_reducible show wpAny _ _ (call (Value.builtin "dict.get") [Value.ref 65, Value.int _ _]) _ _ _); refine get65 (by k_asm) (by k_asm) ?_))
local macro_rules | `(tactic| walk_at "call builtin:max") => `(tactic| (k_here; (with_reducible show wpAny _ _ (call (Value.builtin "max") [Value.float _ _, Value.float _ _, Value.float _ _]) _ _ _); (refine max3f rfl (by k_asm) (by k_asm) ?_); intro _ _ _ _ _; (try k_sweep)))
local macro_rules | `(tactic| walk_at "call builtin:min") => `(tactic| (k_here; (with_reducible show wpAny _ _ (call (Value.builtin "min") [Value.float _ _, Value.float _ _, Value.float _ _]) _ _ _); (refine min3f rfl (by k_asm) (by k_asm) ?_); intro _ _ _ _ _; (try k_sweep)))
local macro_rules | `(tactic| walk_at "call builtin:str.lower") => `(tactic| (k_here; (with_reducible show wpAny _ _ (call (Value.builtin "str.lower") [Value.str _ _]) _ _ _); (refine SCL.lower (by first | assumption | exact Nat.le_of_ble_eq_true rfl) ?_); intro _))
local macro_rules | `(tactic| walk_at "enter") => `(tactic| (refine' code_defG ?k1 ?k2 ?k3 ?k4 ?k5 ?kA ?kF ?kK ?k6 ?k7 ?k8 ?k9 ?kB ?_ ?c2 ?c3 ?c4 ?c5; (case kA => exact rfl); (case kF => exact rfl); (case kK => assumption); (case k1 => k_asm); (case k2 => k_asm); (case k3 => k_asm); (case k4 => k_asm); (case k5 => k_asm); (case k6 => k_is); (case k7 => k_is); (case k8 => ktr_room); (case k9 => first | exact BindsTo.of_eq rfl | assumption); (case c5 => decide); (case kB => exact locs rfl); (case c2 => exact rfl); (case c3 => exact rfl); (case c4 => exact rfl); k_whole; intro g' L' h' FG' F' N' B' X' T' kG'; (try dsimp only); (try k_lift B'); (try k_fold)))
local macro_rules | `(tactic| walk_at "kept") => `(tactic| first | exact elt_after (InElt.start _) (by assumption) (by assumption) (by assumption) (by assumption) (fun _ h => h) | exact elt_after (InElt.start _) (by assumption) (by assumption) (by assumption) (by assumption) (fun _ h => List.mem_cons_of_mem _ h) | exact elt_after (InElt.start _) (by assumption) (by assumption) (by assumption) (by assumption) (fun _ h => by (repeat (first | assumption | refine List.mem_cons_of_mem _ ?_))))
local macro_rules | `(tactic| walk_at "fr same") => `(tactic| (intro z h2 h3; (try dsimp only); repeat' (first | with_reducible exact rfl | exact stSame h3 | refine stOff h3 rfl ?_ | refine ifSame (by first | exact notIn h2 rfl | exact neSt h3 rfl) ?_ | refine kstOff h2 rfl ?_ | refine ifSameR (by first | exact notIn h2 rfl | exact neSt h3 rfl) ?_ | exact rfl)))
local macro_rules | `(tactic| walk_at "fr vals") => `(tactic| (repeat' (first | exact List.forall_mem_nil _ | refine List.forall_mem_cons.mpr ⟨?_, ?_⟩ | rfl)))
local macro_rules | `(tactic| walk_at "exec While Compare cons nil") => `(tactic| (k_here; refine stopHere ?_))
local macro_rules | `(tactic| walk_at "exec While BoolOp cons nil") => `(tactic| (k_here; refine stopHere ?_))
local macro_rules | `(tactic| walk_at "mem") => `(tactic| first | assumption | exact List.mem_cons_self | exact List.mem_cons_of_mem _ (by walk_at "mem") | exact List.mem_append.mpr (.inl (by walk_at "mem")))
local macro_rules | `(tactic| walk_at "num") => `(tactic| first | omega | (simp only [Int.fdiv_eq_ediv_of_nonneg, Int.fmod_eq_emod_of_nonneg, Int.reduceLE] at *; omega))
local macro_rules | `(tactic| walk_at "exec For Name Name cons nil") => `(tactic| (k_here; (rename Fr _ _ _ _ => lF'); (with_unfolding_all refine' For_invVF lF' ?k1 ?k2 ?_; (case k1 => exact rfl); (case k2 => exact rfl); k_whole)))
local macro_rules | `(tactic| walk_at "exec For Name Call cons nil") => `(tactic| (k_here; (rename Fr _ _ _ _ => lF'); (with_unfolding_all refine' For_invVF lF' ?k1 ?k2 ?_; (case k1 => exact rfl); (case k2 => exact rfl); k_whole)))
local macro_rules | `(tactic| walk_at "pyIter ref") => `(tactic| (k_here; refine stopHere ?_))
local macro_rules | `(tactic| walk_at "for same") => `(tactic| (intro z h0 h2 h3; (try dsimp only); repeat' (first | with_reducible exact rfl | exact stSame h3 | refine stOff h3 rfl ?_ | refine ifSame (by first | exact h0 | exact notIn h2 rfl | exact neSt h3 rfl) ?_ | refine kstOff h2 rfl ?_ | refine ifSameR (by first | exact h0 | exact notIn h2 rfl | exact neSt h3 rfl) ?_ | exact rfl)))
local macro_rules | `(tactic| walk_at "KswEnd") => `(tactic| (refine stopHere ?_))

section
open PySem PySem.W PySem.Spec PySem.Calls PyProof.Rows
set_option maxRecDepth 100000
set_option maxHeartbeats 8000000
theorem sub_c (w : World) (news : List (Addr × Obj)) {c d : Nat} {t u : Tok} :
    Callee w 117 [.str ⟨#[c]⟩ t, .str ⟨#[d]⟩ u] news 1 (RetV news fun t => .int (subR c d) t) := by
  unfold Callee
  k_fill
  intro p loose mean mg mb dp un gd cn cs a ccd cl outer A₀ base h₀ L m s Q E B F X N T hk hd hu hret
  refine wpAny_call ?_
  w_strict (k_dflt (walk_at "enter"))
  w_strict k_steps
  all_goals first
    | exact retI hret (subR_0 (by assumption)) (by assumption) (by assumption) (by walk_at "kept")
    | exact retI hret (subR_1 (by assumption) (by assumption)) (by assumption) (by assumption) (by walk_at "kept")
    | exact retI hret (subR_2 (by assumption) (by assumption)) (by assumption) (by assumption) (by walk_at "kept")
    | trace_state
end

section
open PySem PySem.W PySem.Spec PySem.Calls PyProof.Rows
set_option maxRecDepth 100000
set_option maxHeartbeats 2000000
structure StopMark : Prop where
/-- how many signs two texts begin with alike -/
noncomputable def preF (la lb : List Nat) : Nat → Nat → Nat
  | 0, k => k
  | f + 1, k => if k < la.length ∧ k < lb.length ∧ la.getD k 0 = lb.getD k 0 then preF la lb f (k + 1) else k
theorem preF_stop {la lb : List Nat} {f k : Nat} (h : ¬ (k < la.length ∧ k < lb.length ∧ la.getD k 0 = lb.getD k 0)) : preF la lb f k = k := by
  cases f with
  | zero => rfl
  | succ f => unfold preF; rw [if_neg h]
theorem preF_step {la lb : List Nat} {k : Nat} (h : k < la.length ∧ k < lb.length ∧ la.getD k 0 = lb.getD k 0) : preF la lb (la.length - k) k = preF la lb (la.length - (k + 1)) (k + 1) := by
  obtain ⟨f, hf⟩ : ∃ f, la.length - k = f + 1 := ⟨la.length - k - 1, by omega⟩
  rw [hf, show la.length - (k + 1) = f by omega]
  conv => { lhs; unfold preF }
  rw [if_pos h]
/-- how many signs two texts end with alike -/
noncomputable def postF (la lb : List Nat) : Nat → Nat → Nat
  | 0, k => k
  | f + 1, k => if k < la.length ∧ k < lb.length ∧ la.getD (la.length - k - 1) 0 = lb.getD (lb.length - k - 1) 0 then postF la lb f (k + 1) else k
theorem postF_stop {la lb : List Nat} {f k : Nat} (h : ¬ (k < la.length ∧ k < lb.length ∧ la.getD (la.length - k - 1) 0 = lb.getD (lb.length - k - 1) 0)) : postF la lb f k = k := by
  cases f with
  | zero => rfl
  | succ f => unfold postF; rw [if_neg h]
theorem postF_step {la lb : List Nat} {k : Nat} (h : k < la.length ∧ k < lb.length ∧ la.getD (la.length - k - 1) 0 = lb.getD (lb.length - k - 1) 0) : postF la lb (la.length - k) k = postF la lb (la.length - (k + 1)) (k + 1) := by
  obtain ⟨f, hf⟩ : ∃ f, la.length - k = f + 1 := ⟨la.length - k - 1, by omega⟩
  rw [hf, show la.length - (k + 1) = f by omega]
  conv => { lhs; unfold postF }
  rw [if_pos h]
noncomputable def stepR (d r sc q : Int) : Int := if d + sc < (if q < r then q else r) + 2 then d + sc else (if q < r then q else r) + 2
noncomputable def inn (a : List Nat) (ch : Nat) (base : Int) (row : List Int) : Nat → List Int × Int × Int × Int
  | 0 => (row, base, base, 9223372036854775807)
  | i + 1 =>
    let st := inn a ch base row i
    let r := stepR st.2.1 st.2.2.1 (subR ch (a.getD i 0)) (st.1.getD i 0)
    (st.1.set i r, st.1.getD i 0, r, if r < st.2.2.2 then r else st.2.2.2)
theorem innA {a : List Nat} {ch c e ch0 : Nat} {base d r mn : Int} {row row' : List Int} {i : Nat} (h : inn a ch base row i = (row', d, r, mn)) (hc : Is c (a.getD (0 + (i : Int)).toNat 0)) (he : Is e ch0) (hch : ch0 = ch)
    (hlt : stepR d r (subR e c) (row'.getD (0 + (i : Int)).toNat 0) < mn) :
    inn a ch base row (i + 1) = (row'.set (0 + (i : Int)).toNat (stepR d r (subR e c) (row'.getD (0 + (i : Int)).toNat 0)), row'.getD (0 + (i : Int)).toNat 0, stepR d r (subR e c) (row'.getD (0 + (i : Int)).toNat 0), stepR d r (subR e c) (row'.getD (0 + (i : Int)).toNat 0)) := by
  have e1 := hc.eq; have e2 := he.eq
  simp only [Int.zero_add, Int.toNat_natCast] at *
  subst e1 e2 hch
  unfold inn; rw [h]; dsimp only; rw [if_pos hlt]
theorem innB {a : List Nat} {ch c e ch0 : Nat} {base d r mn : Int} {row row' : List Int} {i : Nat} (h : inn a ch base row i = (row', d, r, mn)) (hc : Is c (a.getD (0 + (i : Int)).toNat 0)) (he : Is e ch0) (hch : ch0 = ch)
    (hlt : ¬ stepR d r (subR e c) (row'.getD (0 + (i : Int)).toNat 0) < mn) :
    inn a ch base row (i + 1) = (row'.set (0 + (i : Int)).toNat (stepR d r (subR e c) (row'.getD (0 + (i : Int)).toNat 0)), row'.getD (0 + (i : Int)).toNat 0, stepR d r (subR e c) (row'.getD (0 + (i : Int)).toNat 0), mn) := by
  have e1 := hc.eq; have e2 := he.eq
  simp only [Int.zero_add, Int.toNat_natCast] at *
  subst e1 e2 hch
  unfold inn; rw [h]; dsimp only; rw [if_neg hlt]
noncomputable def levOut (a b : List Nat) : Nat → Nat → List Int → Int → Int
  | 0, _, _, r => r
  | f + 1, j, row, _ =>
    let st := inn a (b.getD j 0) (j * 2) row a.length
    if st.2.2.2 > 3 then 4 else levOut a b f (j + 1) st.1 st.2.2.1
theorem levOutA {a b : List Nat} {f j : Nat} {row row' : List Int} {res d r mn R : Int} (hR : levOut a b f j row res = R) (hj : j < b.length) (hf : f = b.length - j) (hin : inn a (b.getD j 0) ((j : Int) * 2) row a.length = (row', d, r, mn)) (hm : mn > 3) : R = 4 := by
  subst hR
  obtain ⟨g, rfl⟩ : ∃ g, f = g + 1 := ⟨f - 1, by omega⟩
  unfold levOut; rw [hin]; dsimp only; rw [if_pos hm]
theorem levOutB {a b : List Nat} {f j : Nat} {row row' : List Int} {res d r mn R : Int} (hR : levOut a b f j row res = R) (hj : j < b.length) (hf : f = b.length - j) (hin : inn a (b.getD j 0) ((j : Int) * 2) row a.length = (row', d, r, mn)) (hm : ¬ mn > 3) : levOut a b (b.length - (j + 1)) (j + 1) row' r = R := by
  subst hR
  obtain ⟨g, rfl⟩ : ∃ g, f = g + 1 := ⟨f - 1, by omega⟩
  rw [show b.length - (j + 1) = g by omega]
  conv => { rhs; unfold levOut }
  rw [hin]; dsimp only; rw [if_neg hm]
noncomputable def lev3 (a b : List Nat) : Int := if ((b.length : Int) - a.length) * 2 > 3 then 4 else levOut a b b.length 0 (rangeInts 2 2 a.length) 0
noncomputable def lev2 (a b : List Nat) : Int := if a.length = 0 ∨ b.length = 0 then 2 * ((a.length : Int) + b.length) else if b.length < a.length then lev3 b a else lev3 a b
noncomputable def lev1 (a b : List Nat) : Int := lev2 (a.take (a.length - postF a b a.length 0)) (b.take (b.length - postF a b a.length 0))
noncomputable def lev (a b : List Nat) : Int := if a = b then 0 else lev1 (a.drop (preF a b a.length 0)) (b.drop (preF a b a.length 0))
theorem rangeTwo {n : Nat} (h : n ≤ 4) : Builtin.Range.small 2 (2 * ((n : Int) + 1)) 2 = true ∧ Builtin.Range.rangeSize 2 (2 * ((n : Int) + 1)) 2 = (n : Int) := by
  have : n = 0 ∨ n = 1 ∨ n = 2 ∨ n = 3 ∨ n = 4 := by omega
  rcases this with rfl | rfl | rfl | rfl | rfl <;> exact ⟨by decide, by decide⟩

local macro_rules | `(tactic| walk_at "subscriptTail Name Slice str ref") => `(tactic| (k_here; (k_dflt ((with_reducible refine' (sliceW (s := ⟨_, _, _, _, _⟩) ?k1 ?k2 ?k3 ?k5 ?_ ?hs ?ht :)); (case k1 => k_asm); (case k2 => k_asm); (case k3 => with_reducible first | exact SliceW.all | exact SliceW.fr (by omega) (by omega) | exact SliceW.to (by omega) (by omega) | exact SliceW.toOr (by assumption) (by omega)); (case k5 => omega); (case hs => with_unfolding_all rfl); (case ht => intro _; with_unfolding_all rfl))); intro _ _ _ _ _))
local macro_rules | `(tactic| walk_at "subscriptTail") => `(tactic| (k_here; (with_reducible show wpAny _ _ (subscriptTail _ _ (Value.str _ _) (Value.int _ _)) _ _ _); k_dflt (first | (with_reducible refine' (strItemL ?k1 ?k2 ?k3 ?_ ?hs ?ht :); (case k1 => omega); (case k2 => omega); (case k3 => omega); (case hs => with_unfolding_all rfl); (case ht => intro _; with_unfolding_all rfl)) | (with_reducible refine' (strItemN ?k1 ?k2 ?k3 ?_ ?hs ?ht :); (case k1 => omega); (case k2 => omega); (case k3 => omega); (case hs => with_unfolding_all rfl); (case ht => intro _; with_unfolding_all rfl))); intro _ _ _ _))
local macro_rules | `(tactic| walk_at "subscriptTail Name Name str int") => `(tactic| (k_here; k_dflt (with_reducible refine' (strItemL ?k1 ?k2 ?k3 ?_ ?hs ?ht :); (case k1 => omega); (case k2 => omega); (case k3 => omega); (case hs => with_unfolding_all rfl); (case ht => intro _; with_unfolding_all rfl)); intro _ _ _ _))
local macro_rules | `(tactic| walk_at "subscriptTail Name BinOp str int") => `(tactic| (k_here; k_dflt (with_reducible refine' (strItemN ?k1 ?k2 ?k3 ?_ ?hs ?ht :); (case k1 => omega); (case k2 => omega); (case k3 => omega); (case hs => with_unfolding_all rfl); (case ht => intro _; with_unfolding_all rfl)); intro _ _ _ _))
local macro_rules | `(tactic| walk_at "exec Assign") => `(tactic| (k_here; (with_reducible show wpAny _ _ (exec (Stmt.Assign _ (Expr.Subscript _ (Expr.Slice none _ _ _) _) _) _) _ _ _); (have sm' : StopMark := by with_reducible assumption); refine stopHere ?_))
local macro_rules | `(tactic| walk_at "exec If") => `(tactic| (k_here; (with_reducible show wpAny _ _ (exec (Stmt.If _ [Stmt.Assign [Expr.Tuple _ _ _] _ _] _ _) _) _ _ _); (have sm' : StopMark := by with_reducible assumption); refine stopHere ?_))
local macro_rules | `(tactic| walk_at "call type:list") => `(tactic| (k_here; (with_reducible show wpAny _ _ (call (Value.type _) [Value.ref _]) _ _ _); (k_dflt (refine' listRange rfl ?k1 ?k2 ?k3 ?k4 ?k5 ?k6 ?_; (case k1 => k_asm); (case k2 => k_asm); (case k3 => assumption); (case k5 => exact (rangeTwo (by assumption)).2); (case k4 => exact (rangeTwo (by assumption)).1); (case k6 => omega))); intro _ _ _ _ _ _ _ _ _; (try k_sweep)))
local macro_rules | `(tactic| walk_at "call ref") => `(tactic| (k_here; (with_reducible show wpAny _ _ (call (Value.ref 117) [Value.str _ _, Value.str _ _]) _ _ _); k_dflt ((have hCb := @sub_c); (unfold Callee at hCb); (refine' hCb _ _ _ _ _ _ _ _ _ _ _ _ _ _ _ _ _ _ _ _ _ _ _ _ ?k1 ?k2 ?k3 ?k4 ?k5 ?kK ?kd ?ku ?_; (case k1 => k_asm); (case k2 => k_asm); (case k3 => k_asm); (case k4 => k_asm); (case k5 => k_asm); (case kK => first | exact rfl | assumption); (case kd => ktr_room); (case ku => ktr_room)); clear hCb); intro _ _ _ _ _ _; (try k_sweep)))
local macro_rules | `(tactic| walk_at "setItem ref int") => `(tactic| (k_here; k_dflt (refine' setHead ?k1 ?k2 ?k3 ?k4 ?k5 ?k6 ?k7 ?_; (case k1 => k_asm); (case k2 => assumption); (case k3 => exact offD (by assumption) (by assumption) (by assumption)); (case k4 => assumption); (case k5 => omega); (case k6 => omega); (case k7 => omega)); intro _ _ _ _; (try k_sweep)))
theorem takeNeO {l : List Nat} {k : Nat} (h : (l.take (l.length - k)).length ≠ 0) : k < l.length := by rw [List.length_take] at h; omega
theorem takeZO {l : List Nat} {k : Nat} (h : (l.take (l.length - k)).length = 0) : l.length ≤ k := by rw [List.length_take] at h; omega
theorem negIdx {n k : Nat} : ((n : Int) + (-(k : Int) - 1)).toNat = n - k - 1 := by omega
theorem toNatLt {a b : Int} (h : a < b) (h0 : 0 < b) : a.toNat < b.toNat := by omega
theorem dropNe {l : List Nat} {k : Nat} (h : (l.drop (k : Int).toNat).length ≠ 0) : k < l.length := by rw [List.length_drop] at h; omega
theorem dropZ {l : List Nat} {k : Nat} (h : (l.drop (k : Int).toNat).length = 0) : l.length ≤ k := by rw [List.length_drop] at h; omega
local macro_rules | `(tactic| walk_at "truthy str") => `(tactic| (k_here; k_dflt (with_reducible refine' (truthyL ?k1 ?_ ?_ :); (case k1 => (try simp only [List.length_drop, List.length_take]); omega)); all_goals (intro _ hL; try (with_reducible first | replace hL := dropNe hL | replace hL := dropZ hL | replace hL := takeNeO hL | replace hL := takeZO hL))))
local macro_rules | `(tactic| walk_at "call builtin:len") => `(tactic| (k_here; (with_reducible show wpAny _ _ (call (Value.builtin "len") [Value.str _ _]) _ _ _); k_dflt (with_reducible refine' (lenL ?k1 ?_ :); (case k1 => omega)); intro _ _))
theorem ineT {k : Int} (h : k ≠ 0) {P R : Prop} (p : P) : if (k != 0) = true then P else R := by rw [if_pos (by simpa using h)]; exact p
theorem ineF {k : Int} (h : k = 0) {P R : Prop} (r : R) : if (k != 0) = true then P else R := by rw [if_neg (by simp [h])]; exact r
theorem isEqP {la lb : List Nat} {i j : Nat} {k : Nat} {c d : Nat} (h1 : Is c (la.getD i 0)) (h2 : Is d (lb.getD j 0)) (h : c = d) (e1 : i = la.length - k - 1) (e2 : j = lb.length - k - 1) : la.getD (la.length - k - 1) 0 = lb.getD (lb.length - k - 1) 0 := by
  subst e1 e2; rw [← h1.eq, ← h2.eq, h]
theorem isNeP {la lb : List Nat} {i j : Nat} {k : Nat} {c d : Nat} (h1 : Is c (la.getD i 0)) (h2 : Is d (lb.getD j 0)) (h : c ≠ d) (e1 : i = la.length - k - 1) (e2 : j = lb.length - k - 1) (a : la.getD (la.length - k - 1) 0 = lb.getD (lb.length - k - 1) 0) : False := by
  subst e1 e2; rw [← h1.eq, ← h2.eq] at a; exact h a
local macro_rules | `(tactic| walk_at "ite") => `(tactic| (k_here; first | (with_reducible refine ineT (by omega) ?_) | (with_reducible refine ineF (by omega) ?_)))
theorem isEq {la lb : List Nat} {i : Nat} {k : Nat} {c d : Nat} (h1 : Is c (la.getD i 0)) (h2 : Is d (lb.getD i 0)) (h : c = d) (e : i = k) : la.getD k 0 = lb.getD k 0 := by
  subst e; rw [← h1.eq, ← h2.eq, h]
theorem isNe {la lb : List Nat} {i : Nat} {k : Nat} {c d : Nat} (h1 : Is c (la.getD i 0)) (h2 : Is d (lb.getD i 0)) (h : c ≠ d) (e : i = k) (a : la.getD k 0 = lb.getD k 0) : False := by
  subst e; rw [← h1.eq, ← h2.eq] at a; exact h a
local macro_rules | `(tactic| walk_at "eval BoolOp") => `(tactic| (k_here; (with_reducible show wpAny _ _ (eval (Expr.BoolOp BoolOp.Or [Expr.Name _ _, Expr.Constant Const.none _ _] _) _) _ _ _); (with_reducible refine' postOr ?hn ?_); (case hn => (intro Q' hQ; walk1; exact hQ)); intro _ _))
theorem lev_c (w : World) (news : List (Addr × Obj)) (la lb : List Nat) (t u v : Tok) (h1 : la.length ≤ 4) (h2 : lb.length ≤ 4) :
  Callee w 124 [.str ⟨la.toArray⟩ t, .str ⟨lb.toArray⟩ u, .int 3 v] news 2 (RetV news fun t => .int (lev la lb) t) := by
  unfold Callee
  k_fill
  intro p loose mean mg mb dp un gd cn cs a ccd cl outer A₀ base h₀ L m s Q E B F X N T hk hd hu hret
  refine wpAny_call ?_
  w_strict (k_dflt (walk_at "enter"))
  w_strict k_steps
  · have e : lev la lb = 0 := by unfold lev; rw [if_pos (txtEq (by assumption))]
    exact retI hret e.symm (by assumption) (by assumption) (by walk_at "kept")
  unfold Stop
  refine' whileR (σ := Int × Tok) (fun _ => news) (fun c => [(Str.ofString "pre", .int c.1 c.2)]) []
    (fun c => ∃ k : Nat, c.1 = k ∧ k ≤ la.length ∧ k ≤ lb.length ∧ preF la lb (la.length - k) k = preF la lb la.length 0) (fun c => (la.length - c.1).toNat) (fun c => c.1 = preF la lb la.length 0 ∧ preF la lb la.length 0 ≤ la.length ∧ preF la lb la.length 0 ≤ lb.length) (0, ?th) ?k1 ?k2 ?k3 ?k4 ?k5 ?kd ?k6
  case k1 => assumption
  case k2 => assumption
  case k6 => passes_own
  case k3 => walk_at "fr vals"
  case k4 => exact ⟨0, rfl, Nat.zero_le _, Nat.zero_le _, rfl⟩
  case k5 =>
    rintro ⟨lo', tl⟩ u h tk ⟨k, h0, hka, hkb, hke⟩ F2 N2
    dsimp only at h0 
    subst h0
    (try k_fold)
    dsimp only at F2
    w_strict k_steps
    · unfold Stop
      have c := oneEq (by assumption)
      have e := preF_step (la := la) (lb := lb) (k := k) ⟨by omega, by omega, isEq (by assumption) (by assumption) c (Int.toNat_natCast k)⟩
      refine' ksw_end (_, _) ?q1 ?q2 ?q3 trivial ?q6 ?q7 ?q8 ?q9
      case q1 => assumption
      case q2 => assumption
      case q3 => exact fun _ h => h
      case q6 => walk_at "fr vals"
      case q7 => walk_at "fr same"
      case q8 => exact ⟨k + 1, rfl, by omega, by omega, by rw [← hke, e]⟩
      case q9 => exact toNatLt (by dsimp only; omega) (by dsimp only; omega)
    all_goals
      refine' wDone (_, _) ?q1 ?q2 ?q3 ?q6 ?q7 ?q8
      case q1 => assumption
      case q2 => assumption
      case q3 => exact fun _ h => h
      case q6 => walk_at "fr vals"
      case q7 => walk_at "fr same"
      case q8 =>
        have e : preF la lb la.length 0 = k := by
          rw [← hke]
          refine preF_stop ?_
          first
            | (rintro ⟨a1, a2, a3⟩; omega)
            | (rintro ⟨a1, a2, a3⟩; exact isNe (by assumption) (by assumption) (oneNe (by assumption)) (Int.toNat_natCast k) a3)
        rw [e]; exact ⟨rfl, hka, hkb⟩
  case kd =>
    rintro ⟨lo', tl⟩ u h tk ⟨h0, hpa, hpb⟩ F2 N2
    dsimp only at h0 F2
    subst h0
    generalize hpre : preF la lb la.length 0 = pr at *
    (try k_fold)
    w_strict k_steps
    generalize ha1 : List.drop (Int.toNat (pr : Int)) la = a1 at *
    generalize hb1 : List.drop (Int.toNat (pr : Int)) lb = b1 at *
    have la1 : a1.length ≤ 4 := by rw [← ha1, List.length_drop]; omega
    have lb1 : b1.length ≤ 4 := by rw [← hb1, List.length_drop]; omega
    unfold Stop
    refine' whileR (σ := Int × Tok) (fun _ => news) (fun c => [(Str.ofString "post", .int c.1 c.2)]) []
      (fun c => ∃ k : Nat, c.1 = -(k : Int) ∧ k ≤ a1.length ∧ k ≤ b1.length ∧ postF a1 b1 (a1.length - k) k = postF a1 b1 a1.length 0) (fun c => (a1.length + c.1).toNat) (fun c => c.1 = -(postF a1 b1 a1.length 0 : Int) ∧ postF a1 b1 a1.length 0 ≤ a1.length ∧ postF a1 b1 a1.length 0 ≤ b1.length) (0, ?th2) ?k1 ?k2 ?k3 ?k4 ?k5 ?kd ?k6
    case k1 => assumption
    case k2 => assumption
    case k6 => passes_own
    case k3 => walk_at "fr vals"
    case k4 => exact ⟨0, rfl, Nat.zero_le _, Nat.zero_le _, rfl⟩
    case k5 =>
      rintro ⟨lo', tl⟩ u h tk ⟨k, h0, hka, hkb, hke⟩ F2 N2
      dsimp only at h0 
      subst h0
      (try k_fold)
      dsimp only at F2
      w_strict k_steps
      · unfold Stop
        have c := oneEq (by assumption)
        have e := postF_step (la := a1) (lb := b1) (k := k) ⟨by omega, by omega, isEqP (by assumption) (by assumption) c negIdx negIdx⟩
        refine' ksw_end (_, _) ?q1 ?q2 ?q3 trivial ?q6 ?q7 ?q8 ?q9
        case q1 => assumption
        case q2 => assumption
        case q3 => exact fun _ h => h
        case q6 => walk_at "fr vals"
        case q7 => walk_at "fr same"
        case q8 => exact ⟨k + 1, by dsimp only; omega, by omega, by omega, by rw [← hke, e]⟩
        case q9 => exact toNatLt (by dsimp only; omega) (by dsimp only; omega)
      all_goals
        refine' wDone (_, _) ?q1 ?q2 ?q3 ?q6 ?q7 ?q8
        case q1 => assumption
        case q2 => assumption
        case q3 => exact fun _ h => h
        case q6 => walk_at "fr vals"
        case q7 => walk_at "fr same"
        case q8 =>
          have e : postF a1 b1 a1.length 0 = k := by
            rw [← hke]
            refine postF_stop ?_
            first
              | (rintro ⟨a1, a2, a3⟩; omega)
              | (rintro ⟨a1, a2, a3⟩; exact isNeP (by assumption) (by assumption) (oneNe (by assumption)) negIdx negIdx a3)
          rw [e]; exact ⟨rfl, hka, hkb⟩
    case kd =>
      rintro ⟨lo', tl⟩ u h tk ⟨h0, hpa, hpb⟩ F2 N2
      dsimp only at h0 F2
      subst h0
      generalize hpost : postF a1 b1 a1.length 0 = po at *
      (try k_fold)
      have sm : StopMark := ⟨⟩
      w_strict k_steps
      unfold Stop
      refine' mergeAt (σ := Tok) (fun _ => news) (fun c => [(Str.ofString "a", .str ⟨(a1.take (a1.length - po)).toArray⟩ c)]) [] (fun _ => True) (by assumption) ?_ ?_
      ·
        (repeat (rename StopMark => q; clear q))
        w_strict k_steps
        refine' wDone _ (by assumption) (by assumption) (fun _ h => h) ?_ ?_ trivial
        rotate_left
        · walk_at "fr vals"
        · walk_at "fr same"
      ·
        rintro ta u h tk _ F3 N3
        (try k_fold)
        w_strict k_steps
        unfold Stop
        refine' mergeAt (σ := Tok) (fun _ => news) (fun c => [(Str.ofString "b", .str ⟨(b1.take (b1.length - po)).toArray⟩ c)]) [] (fun _ => True) (by assumption) ?_ ?_
        ·
          (repeat (rename StopMark => q; clear q))
          w_strict k_steps
          refine' wDone _ (by assumption) (by assumption) (fun _ h => h) ?_ ?_ trivial
          rotate_left
          · walk_at "fr vals"
          · walk_at "fr same"
        ·
          rintro tb u h tk _ F4 N4
          (try k_fold)
          generalize ha2 : List.take (a1.length - po) a1 = a2 at *
          generalize hb2 : List.take (b1.length - po) b1 = b2 at *
          have la2 : a2.length ≤ 4 := by rw [← ha2, List.length_take]; omega
          have lb2 : b2.length ≤ 4 := by rw [← hb2, List.length_take]; omega
          have hlev : lev la lb = lev2 a2 b2 := by
            rw [Int.toNat_natCast] at ha1 hb1
            unfold lev
            rw [if_neg (txtNe (by assumption)), hpre, ha1, hb1]
            unfold lev1
            rw [hpost, ha2, hb2]
          w_strict k_steps
          · unfold Stop
            refine' mergeAt (σ := Tok × Tok) (fun _ => news) (fun c => [(Str.ofString "a", .str ⟨(if b2.length < a2.length then b2 else a2).toArray⟩ c.1), (Str.ofString "b", .str ⟨(if b2.length < a2.length then a2 else b2).toArray⟩ c.2)]) [] (fun _ => True) (by assumption) ?_ ?_
            ·
              (repeat (rename StopMark => q; clear q))
              by_cases lt : b2.length < a2.length
              · rw [if_pos lt, if_pos lt]
                w_strict k_steps
                refine' wDone (_, _) (by assumption) (by assumption) (fun _ h => by (repeat (first | assumption | refine List.mem_cons_of_mem _ ?_))) ?_ ?_ trivial
                rotate_left
                rotate_left
                · walk_at "fr vals"
                · walk_at "fr same"
              · rw [if_neg lt, if_neg lt]
                w_strict k_steps
                refine' wDone (_, _) (by assumption) (by assumption) (fun _ h => h) ?_ ?_ trivial
                rotate_left
                rotate_left
                · walk_at "fr vals"
                · walk_at "fr same"
            ·
              rintro ⟨tc, td⟩ u h tk _ F5 N5
              dsimp only at F5
              have hl2 : lev2 a2 b2 = lev3 (if b2.length < a2.length then b2 else a2) (if b2.length < a2.length then a2 else b2) := by
                unfold lev2
                rw [if_neg (by omega)]
                split <;> rfl
              have la3 : (if b2.length < a2.length then b2 else a2).length ≤ 4 ∧ (if b2.length < a2.length then a2 else b2).length ≤ 4 ∧ (if b2.length < a2.length then b2 else a2).length ≤ (if b2.length < a2.length then a2 else b2).length := by
                split <;> omega
              obtain ⟨la3, lb3, lab⟩ := la3
              generalize ha3 : (if b2.length < a2.length then b2 else a2) = a3 at *
              generalize hb3 : (if b2.length < a2.length then a2 else b2) = b3 at *
              (repeat (rename StopMark => q; clear q))
              (try k_fold)
              w_strict k_steps
              · refine retI hret ?_ (by assumption) (by assumption) (by walk_at "kept")
                rw [hlev, hl2, lev3, if_pos (by assumption)]
                rfl
              · have hout : lev la lb = levOut a3 b3 b3.length 0 (rangeInts 2 2 a3.length) 0 := by rw [hlev, hl2, lev3, if_neg (by assumption)]
                unfold Stop
                refine' forRange (n := b3.length) (σ := List Value × List Int × Int × Tok) (fun c => (?oD, listOf c.1.toArray ?oQ) :: news) (fun c => [(Str.ofString "result", .int c.2.2.1 c.2.2.2)]) [Str.ofString "bchar", Str.ofString "distance", Str.ofString "minimum", Str.ofString "index", Str.ofString "substitute", Str.ofString "insert_delete"]
                  (fun i c => IntsAre c.1 c.2.1 ∧ c.2.1.length = a3.length ∧ levOut a3 b3 (b3.length - i) i c.2.1 c.2.2.1 = lev la lb) (?oV, rangeInts 2 2 a3.length, 0, ?oT) rfl ?p1 ?p2 ?p3 ?p4 ?p5 ?p6 ?p7 ?p8 ?p9
                case p1 => assumption
                case p2 => exact small_one (by omega) (by omega) (by omega) (by omega)
                case p3 => rw [rangeSize_nat]; simp
                case p4 => assumption
                case p5 => assumption
                case p6 => walk_at "fr vals"
                case p7 => exact ⟨by assumption, rangeInts_length .., hout.symm⟩
                case p8 =>
                  rintro ⟨vs, row, res, tr⟩ i k tk' u h tk own hk0 hi' hoff ⟨hv, hlen, hR⟩ F6 N6
                  dsimp only at F6 N6 hv hlen hR hoff
                  subst hk0
                  (try k_fold)
                  w_strict k_steps
                  unfold Stop
                  refine' forRange (n := a3.length) (σ := List Value × List Int × Int × Tok × Int × Tok × Int × Tok) (fun c => (?iD, listOf c.1.toArray ?iQ) :: ?iK) (fun c => [(Str.ofString "distance", .int c.2.2.1 c.2.2.2.1), (Str.ofString "result", .int c.2.2.2.2.1 c.2.2.2.2.2.1), (Str.ofString "minimum", .int c.2.2.2.2.2.2.1 c.2.2.2.2.2.2.2)]) [Str.ofString "substitute", Str.ofString "insert_delete"]
                    (fun j c => IntsAre c.1 c.2.1 ∧ c.2.1.length = a3.length ∧ inn a3 (b3.getD i 0) (i * 2) row j = (c.2.1, c.2.2.1, c.2.2.2.2.1, c.2.2.2.2.2.2.1)) (?iV, row, (i : Int) * 2, ?iT1, (i : Int) * 2, ?iT2, 9223372036854775807, ?iT3) rfl ?ip1 ?ip2 ?ip3 ?ip4 ?ip5 ?ip6 ?ip7 ?ip8 ?ip9
                  case ip1 => assumption
                  case ip2 => exact small_one (by omega) (by omega) (by omega) (by omega)
                  case ip3 => rw [rangeSize_nat]; simp
                  case ip4 => assumption
                  case ip5 => assumption
                  case ip6 => simp only [Int.zero_add]; walk_at "fr vals"
                  case ip7 => exact ⟨by assumption, hlen, rfl⟩
                  case ip8 =>
                    rintro ⟨vs', row', d, td, r, tr', mn, tm⟩ j k tk' u h tk own' hk0 hj' hoff' ⟨hv', hlen', hin⟩ F7 N7
                    dsimp only at F7 N7 hv' hlen' hin hoff'
                    subst hk0
                    (try k_fold)
                    w_strict k_steps
                    all_goals
                      refine fNext (_, row'.set (0 + (j : Int)).toNat (stepR d r _ (row'.getD (0 + (j : Int)).toNat 0)), _, _, _, _, _, _) (by assumption) (by assumption) (fun p hp => List.mem_append.mpr (.inl hp)) (fun p hp => List.mem_append.mpr (.inr hp)) (by assumption) (by walk_at "fr vals") (by walk_at "for same") ⟨by assumption, ?_, ?_⟩
                      · simpa using hlen'
                      · first
                          | exact innA hin (by assumption) (by assumption) (by rw [Int.zero_add, Int.toNat_natCast]) (by assumption)
                          | exact innB hin (by assumption) (by assumption) (by rw [Int.zero_add, Int.toNat_natCast]) (by assumption)
                  case ip9 =>
                    rintro ⟨vs', row', d, td, r, tr', mn, tm⟩ u h tk ⟨hv', hlen', hin⟩ F7 N7
                    dsimp only at F7 N7 hv' hlen' hin
                    (try k_fold)
                    w_strict k_steps
                    · dsimp (config := { zetaDelta := true }) only [FPost]
                      w_strict k_steps
                      refine retI hret (levOutA hR hi' rfl hin (by assumption)).symm (by assumption) (newsSub (by assumption) fun _ h => List.mem_cons_of_mem _ (List.mem_append.mpr (.inl h))) ?_
                      exact elt_after (InElt.start _) (by assumption) (by assumption) (by assumption) (by assumption) (fun _ h => List.mem_cons_of_mem _ (List.mem_append.mpr (.inl h)))
                    · refine fNext (_, row', _, _) (by assumption) (by assumption) (fun p hp => List.mem_append.mpr (.inl hp)) (fun p hp => List.mem_append.mpr (.inr hp)) (by assumption) (by walk_at "fr vals") (by walk_at "for same") ⟨by assumption, hlen', ?_⟩
                      exact levOutB hR hi' rfl hin (by assumption)
                case p9 =>
                  rintro ⟨vs, row, res, tr⟩ u h tk ⟨hv, hlen, hR⟩ F6 N6
                  dsimp only at F6 N6 hv hlen hR
                  rw [Nat.sub_self] at hR
                  (try k_fold)
                  w_strict k_steps
                  exact retI hret hR (by assumption) (newsSub (by assumption) fun _ h => List.mem_cons_of_mem _ h) (by walk_at "kept")
          all_goals
            have e : lev la lb = 2 * ((a2.length : Int) + b2.length) := by
              rw [hlev]
              unfold lev2
              rw [if_pos (by omega)]
            exact retI hret e.symm (by assumption) (by assumption) (by walk_at "kept")
end

section
open PySem PySem.W PySem.Spec PySem.Calls PyProof.Rows
set_option maxRecDepth 100000
set_option maxHeartbeats 8000000
theorem hsv_c (w : World) (news : List (Addr × Obj)) {fh fs fv x y z : UInt64} {t1 t2 t3 : Tok} (ok : hsvOk fh fs = true) (hx : hsvR fh fs fv = (x, y, z)) :
    Callee w 46 [.float fh t1, .float fs t2, .float fv t3] news 1 (RetF3 news x y z) := by
  simp only [hsvOk, Bool.and_eq_true, Bool.not_eq_true', decide_eq_true_eq] at ok
  obtain ⟨⟨⟨⟨o1, o2⟩, o3⟩, o4⟩, o5⟩ := ok
  unfold hsvR at hx
  unfold Callee
  k_fill
  intro p loose mean mg mb dp un gd cn cs a ccd cl outer A₀ base h₀ L m s Q E B F X N T hk hd hu hret
  refine wpAny_call ?_
  w_strict (k_dflt (walk_at "enter"))
  w_strict k_steps
  all_goals first
    | (exfalso; have q : (Float64.cmp fs 0 == some Ordering.eq) = true := by assumption
       rw [o1] at q; cases q)
    | (have e := (hsvT_0 (by assumption)).symm.trans hx; cases e; exact hret _ _ _ _ _ _ (by assumption) (by assumption) (by assumption) (by walk_at "kept"))
    | (have e := (hsvT_1 (by assumption)).symm.trans hx; cases e; exact hret _ _ _ _ _ _ (by assumption) (by assumption) (by assumption) (by walk_at "kept"))
    | (have e := (hsvT_2 (by assumption)).symm.trans hx; cases e; exact hret _ _ _ _ _ _ (by assumption) (by assumption) (by assumption) (by walk_at "kept"))
    | (have e := (hsvT_3 (by assumption)).symm.trans hx; cases e; exact hret _ _ _ _ _ _ (by assumption) (by assumption) (by assumption) (by walk_at "kept"))
    | (have e := (hsvT_4 (by assumption)).symm.trans hx; cases e; exact hret _ _ _ _ _ _ (by assumption) (by assumption) (by assumption) (by walk_at "kept"))
    | (have e := (hsvT_5 (by assumption)).symm.trans hx; cases e; exact hret _ _ _ _ _ _ (by assumption) (by assumption) (by assumption) (by walk_at "kept"))
    | (exfalso; exact fmod6 (hsvI fh) (by assumption) (by assumption) (by assumption) (by assumption) (by assumption) (by assumption))
    | (exfalso; have q : Float64.isNaN (hsvX fh) = true := by assumption
       rw [o3] at q; cases q)
    | (exfalso; have q : Float64.isInf (hsvX fh) = true := by assumption
       rw [o4] at q; cases q)
    | (exfalso; have q : 2 ^ 1024 - 2 ^ 970 ≤ (hsvI fh).natAbs := by assumption
       exact absurd q (Nat.not_le.mpr (Nat.lt_of_lt_of_le o5 (Nat.le_of_ble_eq_true rfl))))
    | trace_state
end

section
open PySem PySem.W PySem.Spec PySem.Calls PyProof.Rows
set_option maxRecDepth 100000
set_option maxHeartbeats 8000000
/-- a tuple of three floats comes back, the third whatever it is, the first's token a real one -/
noncomputable abbrev RetF3N (news : List (Addr × Obj)) (x y : UInt64) : Heap → Addr → (Str → Option Value) → Shared → (Value → Shared → Prop) → Prop :=
  fun h₀ L m s Q => ∀ (z : UInt64) (D : Addr) (t1 t2 t3 : Tok) (h' : Heap) (tk' : Nat), Fr h₀ L h' m → News h₀ L h' ((D, ({ cls := .type "tuple", data := .seq #[.float x t1, .float y t2, .float z t3] } : Obj)) :: news) → (∀ p ∈ news, p.1 < D) → InElt s.heap h' → t1 ≠ 0 → Q (.ref D) { s with heap := h', toks := tk' }
theorem divF {prog : Program} {w : World} {A : Around} {E : Value → Shared → Prop} {s : Shared} {a b : UInt64} {t u : Tok} {Q : Value → Shared → Prop} (hA : A.handled = none) (hz : Float64.isZero b = false) (h : Q (.float (Float64.div a b) s.toks) { s with toks := s.toks + 1 }) : wpAny (model prog w) A (binaryOp .Div (.float a t) (.float b u)) Q E s :=
  truediv_float_or hA (fun e => by rw [hz] at e; cases e) (fun _ => h)
local macro_rules | `(tactic| walk_at "binaryOp Div float float") => `(tactic| (k_here; (with_reducible refine' (divF ?d1 ?d2 ?_ :)); k_dflt ((case d1 => exact rfl); (case d2 => first | assumption | decide +kernel)); (try dsimp only)))
theorem hls_c (w : World) (news : List (Addr × Obj)) {fr fg fb x y : UInt64} {t1 t2 t3 : Tok} (ok : hlsOk fr fg fb = true) (hx : hlsH fr fg fb = x) (hy : hlsL fr fg fb = y) :
    Callee w 39 [.float fr t1, .float fg t2, .float fb t3] news 1 (RetF3N news x y) := by
  simp only [hlsOk, Bool.and_eq_true, Bool.not_eq_true', decide_eq_true_eq] at ok
  obtain ⟨⟨⟨o1, o2⟩, o3⟩, o4⟩ := ok
  subst hx hy
  unfold Callee
  k_fill
  intro p loose mean mg mb dp un gd cn cs a ccd cl outer A₀ base h₀ L m s Q E B F X N T hk hd hu hret
  refine wpAny_call ?_
  w_strict (k_dflt (walk_at "enter"))
  w_strict k_steps
  all_goals first
    | (exfalso; have q : (Float64.cmp (hlsMn fr fg fb) (hlsMx fr fg fb) == some Ordering.eq) = true := by assumption
       rw [o1] at q; cases q)
    | (exfalso; have q : Float64.isZero (Float64.add (hlsMx fr fg fb) (hlsMn fr fg fb)) = true := by assumption
       rw [o2] at q; cases q)
    | (exfalso; have q : Float64.isZero (Float64.sub (Float64.sub 4611686018427387904 (hlsMx fr fg fb)) (hlsMn fr fg fb)) = true := by assumption
       rw [o3] at q; cases q)
    | (exfalso; have q : Float64.isZero (Float64.sub (hlsMx fr fg fb) (hlsMn fr fg fb)) = true := by assumption
       rw [o4] at q; cases q)
    | (rw [hlsH_1 (by assumption)] at hret; exact hret _ _ _ _ _ _ _ (by assumption) (by assumption) (by assumption) (by walk_at "kept") (by exact Nat.succ_ne_zero _))
    | (rw [hlsH_2 (by assumption) (by assumption)] at hret; exact hret _ _ _ _ _ _ _ (by assumption) (by assumption) (by assumption) (by walk_at "kept") (by exact Nat.succ_ne_zero _))
    | (rw [hlsH_3 (by assumption) (by assumption)] at hret; exact hret _ _ _ _ _ _ _ (by assumption) (by assumption) (by assumption) (by walk_at "kept") (by exact Nat.succ_ne_zero _))
    | trace_state
end

section
local macro_rules | `(tactic| walk_at "zz0") => `(tactic| skip)
open PySem PySem.W PySem.Spec PySem.Calls PyProof.Rows
set_option maxRecDepth 100000
set_option maxHeartbeats 8000000
theorem in_c (w : World) (news : List (Addr × Obj)) {c : Nat} {t : Tok} :
    Callee w 64 [.str ⟨#[c]⟩ t] news 1 (RetV news fun _ => .bool (b1l.contains c)) := by
  unfold Callee
  k_fill
  intro p loose mean mg mb dp un gd cn cs a ccd cl outer A₀ base h₀ L m s Q E B F X N T hk hd hu hret
  refine wpAny_call ?_
  w_strict (k_dflt (walk_at "enter"))
  w_strict k_steps
  exact hret 0 _ _ (by assumption) (by assumption) (by walk_at "kept")
local macro_rules | `(tactic| walk_at "call builtin:dict.get") => `(tactic| (k_here; (with_reducible show wpAny _ _ (call (Value.builtin "dict.get") [Value.ref 65, Value.int _ _]) _ _ _); refine get65 (by k_asm) (by k_asm) ?_; (first | rw [show b3f _ = none from by assumption] | rw [show b3f _ = some (Value.str _ _) from by assumption]); dsimp only [Option.getD_none, Option.getD_some]))
theorem map_none_c (w : World) (news : List (Addr × Obj)) {c : Nat} {t : Tok} (hb : b3f c = none) :
    Callee w 110 [.str ⟨#[c]⟩ t] news 1 (RetV news fun t => .str (Txt.lower ⟨#[c]⟩) t) := by
  unfold Callee
  k_fill
  intro p loose mean mg mb dp un gd cn cs a ccd cl outer A₀ base h₀ L m s Q E B F X N T hk hd hu hret
  refine wpAny_call ?_
  w_strict (k_dflt (walk_at "enter"))
  w_strict k_steps
  all_goals first | exact hret _ _ _ (by assumption) (by assumption) (by walk_at "kept") | trace_state
theorem map_some_c (w : World) (news : List (Addr × Obj)) {c : Nat} {t u : Tok} {y : Str} (hb : b3f c = some (.str y u)) :
    Callee w 110 [.str ⟨#[c]⟩ t] news 1 (RetV news fun t => .str y t) := by
  unfold Callee
  k_fill
  intro p loose mean mg mb dp un gd cn cs a ccd cl outer A₀ base h₀ L m s Q E B F X N T hk hd hu hret
  refine wpAny_call ?_
  w_strict (k_dflt (walk_at "enter"))
  w_strict k_steps
  all_goals first | exact hret _ _ _ (by assumption) (by assumption) (by walk_at "kept") | trace_state
end

section
local macro_rules | `(tactic| walk_at "zz0") => `(tactic| skip)
open PySem PySem.W PySem.Spec PySem.Calls PyProof.Rows
set_option maxRecDepth 100000
set_option maxHeartbeats 8000000
/-- bisection over the places lo .. hi: f is fuel, b the turn to the left -/
noncomputable def bis (b : Nat → Bool) : Nat → Nat → Nat → Nat
  | 0, lo, _ => lo
  | f + 1, lo, hi => if lo < hi then (if b ((lo + hi) / 2) then bis b f lo ((lo + hi) / 2) else bis b f ((lo + hi) / 2 + 1) hi) else lo
theorem bis_fuel (b : Nat → Bool) : ∀ (f g lo hi : Nat), hi - lo ≤ f → hi - lo ≤ g → bis b f lo hi = bis b g lo hi
  | 0, 0, _, _, _, _ => rfl
  | 0, g + 1, lo, hi, h, _ => by unfold bis; rw [if_neg (by omega)]
  | f + 1, 0, lo, hi, _, h => by unfold bis; rw [if_neg (by omega)]
  | f + 1, g + 1, lo, hi, h1, h2 => by
    unfold bis
    by_cases h : lo < hi
    · rw [if_pos h, if_pos h, bis_fuel b f g lo _ (by omega) (by omega), bis_fuel b f g _ hi (by omega) (by omega)]
    · rw [if_neg h, if_neg h]
theorem mid_lo {lo hi : Nat} (h : lo < hi) : lo ≤ (lo + hi) / 2 := by omega
theorem mid_hi {lo hi : Nat} (h : lo < hi) : (lo + hi) / 2 < hi := by omega
theorem bis_left {b : Nat → Bool} {lo hi : Nat} (h : lo < hi) (hb : b ((lo + hi) / 2) = true) : bis b (hi - lo) lo hi = bis b ((lo + hi) / 2 - lo) lo ((lo + hi) / 2) := by
  have m := mid_hi h
  generalize hm : (lo + hi) / 2 = md at *
  rw [show hi - lo = (hi - lo - 1) + 1 by omega]
  conv => { lhs; unfold bis }
  rw [if_pos h, hm, if_pos hb]
  exact bis_fuel _ _ _ _ _ (by omega) (Nat.le_refl _)
theorem bis_right {b : Nat → Bool} {lo hi : Nat} (h : lo < hi) (hb : b ((lo + hi) / 2) = false) : bis b (hi - lo) lo hi = bis b (hi - ((lo + hi) / 2 + 1)) ((lo + hi) / 2 + 1) hi := by
  have m := mid_lo h
  generalize hm : (lo + hi) / 2 = md at *
  rw [show hi - lo = (hi - lo - 1) + 1 by omega]
  conv => { lhs; unfold bis }
  rw [if_pos h, hm, if_neg (by rw [hb]; decide)]
  exact bis_fuel _ _ _ _ _ (by omega) (Nat.le_refl _)
theorem bis_done {b : Nat → Bool} {lo hi : Nat} (h : ¬ lo < hi) : bis b (hi - lo) lo hi = lo := by rw [show hi - lo = 0 by omega]; rfl
theorem mid_dn {lo hi : Nat} (h : lo < hi) : ((((lo + hi) / 2 : Nat) : Int) - lo).toNat < ((hi : Int) - lo).toNat := by
  have m := mid_hi h
  generalize (lo + hi) / 2 = md at *
  omega
theorem mid_up {lo hi : Nat} (h : lo < hi) : ((hi : Int) - ((((lo + hi) / 2 : Nat) : Int) + 1)).toNat < ((hi : Int) - lo).toNat := by
  have m := mid_lo h
  generalize (lo + hi) / 2 = md at *
  omega
noncomputable def bisR (xs : List UInt64) (x : UInt64) : Nat := bis (fun i => Float64.cmp x (xs.getD i 0) == some .lt) xs.length 0 xs.length
noncomputable def bisL (xs : List UInt64) (x : UInt64) : Nat := bis (fun i => !(Float64.cmp (xs.getD i 0) x == some .lt)) xs.length 0 xs.length
local macro_rules | `(tactic| walk_at "call builtin:len") => `(tactic| (k_here; (with_reducible show wpAny _ _ (call (Value.builtin "len") [Value.ref _]) _ _ _); k_dflt (refine' kst_len ?k1 ?k2 ?k3 ?k4 ?_; (case k1 => k_asm); (case k2 => assumption); (case k3 => exact FlsAre.length (by assumption)); (case k4 => omega))))
local macro_rules | `(tactic| walk_at "subscriptTail") => `(tactic| (k_here; (with_reducible show wpAny _ _ (subscriptTail _ _ (Value.ref _) (Value.int _ _)) _ _ _); k_dflt (refine' flItem (xs := _) ?k1 ?k2 ?k3 ?k4 ?k5 ?k6 ?_; (case k1 => k_asm); (case k2 => assumption); (case k3 => assumption); (case k4 => first | omega | (rw [Int.fdiv_eq_ediv_of_nonneg _ (by decide)]; omega)); (case k5 => first | omega | (rw [Int.fdiv_eq_ediv_of_nonneg _ (by decide)]; omega)); (case k6 => omega)); intro _))
theorem midB {lo hi : Nat} : ((lo : Int) + (hi : Int)).fdiv 2 = (((lo + hi) / 2 : Nat) : Int) := by rw [Int.fdiv_eq_ediv_of_nonneg _ (by decide)]; omega
theorem midA {lo hi : Nat} : (((lo : Int) + (hi : Int)).fdiv 2).toNat = (lo + hi) / 2 := by rw [midB, Int.toNat_natCast]
theorem bisR_c (w : World) (news : List (Addr × Obj)) {l : Addr} {vs : List Value} {xs : List UInt64} {n : Nat} {fx : UInt64} {t : Tok} (hm : (l, listOf vs.toArray n) ∈ news) (hv : FlsAre vs xs) (hf : xs.length < 2 ^ 20) :
    Callee w 23 [.ref l, .float fx t] news 1 (RetV news fun t => .int (bisR xs fx) t) := by
  unfold Callee
  k_fill
  intro p loose mean mg mb dp un gd cn cs a ccd cl outer A₀ base h₀ L m s Q E B F X N T hk hd hu hret
  refine wpAny_call ?_
  have hb : BindsTo s (fnOf (Str.ofString "bisect_right") (Str.ofString "bisect_right") d1.1.1 d1.1.2.1 d1.1.2.2 (.ref 15) (.ref 16) .none (.str (Str.ofString "cpy313.bisect") 187) none (.ref 22) .none) ⟨[.ref l, .float fx t], []⟩
      [(Str.ofString "a", .ref l), (Str.ofString "x", .float fx t), (Str.ofString "lo", .int 0 189), (Str.ofString "hi", .none), (Str.ofString "key", .none)] :=
    binds_peek (X.keeps F.keep) fun S => by kernel_rfl
  w_strict (k_dflt (walk_at "enter"))
  w_strict k_steps
  unfold Stop
  refine' ksw_while (σ := Int × Tok × Int × Tok) (fun _ => news) (fun c => [(Str.ofString "lo", .int c.1 c.2.1), (Str.ofString "hi", .int c.2.2.1 c.2.2.2)]) (fun _ => True) [Str.ofString "mid"]
    (fun c => ∃ a b : Nat, c.1 = a ∧ c.2.2.1 = b ∧ a ≤ b ∧ b ≤ xs.length ∧ bis (fun i => Float64.cmp fx (xs.getD i 0) == some .lt) (b - a) a b = bisR xs fx) (fun c => (c.2.2.1 - c.1).toNat) (0, 189, xs.length, ?th) ?k1 ?k2 trivial ?k3 ?k4 ?k5 ?k6
  case k1 => assumption
  case k2 => assumption
  case k6 => passes_own
  case k3 => walk_at "fr vals"
  case k4 => exact ⟨0, xs.length, rfl, rfl, Nat.zero_le _, Nat.le_refl _, rfl⟩
  case k5 =>
    rintro ⟨lo', tl, hi', th⟩ u h tk _ ⟨lo, hi, h0, h00, h1, h2, h3⟩ F2 N2
    dsimp only at h0 h00
    subst h0 h00
    (try k_fold)
    w_strict k_steps
    all_goals have e : (((lo : Int) + (hi : Int)).fdiv 2).toNat = (lo + hi) / 2 := midA
    all_goals have e2 : ((lo : Int) + (hi : Int)).fdiv 2 = (((lo + hi) / 2 : Nat) : Int) := midB
    · unfold Stop
      have c : (Float64.cmp fx (xs.getD (((lo : Int) + (hi : Int)).fdiv 2).toNat 0) == some .lt) = true := by assumption
      have lh : lo < hi := by omega
      rw [e] at c
      refine' ksw_end (lo, tl, ((lo : Int) + (hi : Int)).fdiv 2, ?tm) (by assumption) (by assumption) (fun _ h => h) trivial ?hk ?hr ?hp ?hm
      case hk => walk_at "fr vals"
      case hr => walk_at "fr same"
      case hp =>
        exact ⟨lo, (lo + hi) / 2, rfl, e2, mid_lo lh, Nat.le_trans (Nat.le_of_lt (mid_hi lh)) h2, (bis_left lh c).symm.trans h3⟩
      case hm => dsimp only; rw [e2]; exact mid_dn lh
    · unfold Stop
      have c : (Float64.cmp fx (xs.getD (((lo : Int) + (hi : Int)).fdiv 2).toNat 0) == some .lt) = false := by assumption
      have lh : lo < hi := by omega
      rw [e] at c
      refine' ksw_end (((lo : Int) + (hi : Int)).fdiv 2 + 1, ?tm2, hi, th) (by assumption) (by assumption) (fun _ h => h) trivial ?hk ?hr ?hp ?hm
      case hk => walk_at "fr vals"
      case hr => walk_at "fr same"
      case hp =>
        exact ⟨(lo + hi) / 2 + 1, hi, by dsimp only; rw [e2]; rfl, rfl, mid_hi lh, h2, (bis_right lh (c)).symm.trans h3⟩
      case hm => dsimp only; rw [e2]; exact mid_up lh
    · have lh : ¬ lo < hi := by omega
      have e : bisR xs fx = lo := by
        rw [← h3, bis_done lh]
      rw [e] at hret
      exact hret _ _ _ (by assumption) (by assumption) (by walk_at "kept")
theorem bisL_c (w : World) (news : List (Addr × Obj)) {l : Addr} {vs : List Value} {xs : List UInt64} {n : Nat} {fx : UInt64} {t : Tok} (hm : (l, listOf vs.toArray n) ∈ news) (hv : FlsAre vs xs) (hf : xs.length < 2 ^ 20) :
    Callee w 32 [.ref l, .float fx t] news 1 (RetV news fun t => .int (bisL xs fx) t) := by
  unfold Callee
  k_fill
  intro p loose mean mg mb dp un gd cn cs a ccd cl outer A₀ base h₀ L m s Q E B F X N T hk hd hu hret
  refine wpAny_call ?_
  have hb : BindsTo s (fnOf (Str.ofString "bisect_left") (Str.ofString "bisect_left") d2.1.1 d2.1.2.1 d2.1.2.2 (.ref 24) (.ref 25) .none (.str (Str.ofString "cpy313.bisect") 187) none (.ref 31) .none) ⟨[.ref l, .float fx t], []⟩
      [(Str.ofString "a", .ref l), (Str.ofString "x", .float fx t), (Str.ofString "lo", .int 0 203), (Str.ofString "hi", .none), (Str.ofString "key", .none)] :=
    binds_peek (X.keeps F.keep) fun S => by kernel_rfl
  w_strict (k_dflt (walk_at "enter"))
  w_strict k_steps
  unfold Stop
  refine' ksw_while (σ := Int × Tok × Int × Tok) (fun _ => news) (fun c => [(Str.ofString "lo", .int c.1 c.2.1), (Str.ofString "hi", .int c.2.2.1 c.2.2.2)]) (fun _ => True) [Str.ofString "mid"]
    (fun c => ∃ a b : Nat, c.1 = a ∧ c.2.2.1 = b ∧ a ≤ b ∧ b ≤ xs.length ∧ bis (fun i => !(Float64.cmp (xs.getD i 0) fx == some .lt)) (b - a) a b = bisL xs fx) (fun c => (c.2.2.1 - c.1).toNat) (0, 203, xs.length, ?th) ?k1 ?k2 trivial ?k3 ?k4 ?k5 ?k6
  case k1 => assumption
  case k2 => assumption
  case k6 => passes_own
  case k3 => walk_at "fr vals"
  case k4 => exact ⟨0, xs.length, rfl, rfl, Nat.zero_le _, Nat.le_refl _, rfl⟩
  case k5 =>
    rintro ⟨lo', tl, hi', th⟩ u h tk _ ⟨lo, hi, h0, h00, h1, h2, h3⟩ F2 N2
    dsimp only at h0 h00
    subst h0 h00
    (try k_fold)
    w_strict k_steps
    all_goals have e : (((lo : Int) + (hi : Int)).fdiv 2).toNat = (lo + hi) / 2 := midA
    all_goals have e2 : ((lo : Int) + (hi : Int)).fdiv 2 = (((lo + hi) / 2 : Nat) : Int) := midB
    · unfold Stop
      have c : (Float64.cmp (xs.getD (((lo : Int) + (hi : Int)).fdiv 2).toNat 0) fx == some .lt) = true := by assumption
      have lh : lo < hi := by omega
      rw [e] at c
      refine' ksw_end (((lo : Int) + (hi : Int)).fdiv 2 + 1, ?tm2, hi, th) (by assumption) (by assumption) (fun _ h => h) trivial ?hk ?hr ?hp ?hm
      case hk => walk_at "fr vals"
      case hr => walk_at "fr same"
      case hp =>
        exact ⟨(lo + hi) / 2 + 1, hi, by dsimp only; rw [e2]; rfl, rfl, mid_hi lh, h2, (bis_right lh (by rw [c]; rfl)).symm.trans h3⟩
      case hm => dsimp only; rw [e2]; exact mid_up lh
    · unfold Stop
      have c : (Float64.cmp (xs.getD (((lo : Int) + (hi : Int)).fdiv 2).toNat 0) fx == some .lt) = false := by assumption
      have lh : lo < hi := by omega
      rw [e] at c
      refine' ksw_end (lo, tl, ((lo : Int) + (hi : Int)).fdiv 2, ?tm) (by assumption) (by assumption) (fun _ h => h) trivial ?hk ?hr ?hp ?hm
      case hk => walk_at "fr vals"
      case hr => walk_at "fr same"
      case hp =>
        exact ⟨lo, (lo + hi) / 2, rfl, e2, mid_lo lh, Nat.le_trans (Nat.le_of_lt (mid_hi lh)) h2, (bis_left lh (by rw [c]; rfl)).symm.trans h3⟩
      case hm => dsimp only; rw [e2]; exact mid_dn lh
    · have lh : ¬ lo < hi := by omega
      have e : bisL xs fx = lo := by
        rw [← h3, bis_done lh]
      rw [e] at hret
      exact hret _ _ _ (by assumption) (by assumption) (by walk_at "kept")
end

section
open PySem PySem.W PySem.Spec PySem.Calls PyProof.Rows
set_option maxRecDepth 100000
set_option maxHeartbeats 2000000
noncomputable def letOf (x : Int) : Nat := (Str.ofString "abcdhkmp").cps.getD ((x.fdiv 4).fmod 8).toNat 0
noncomputable def greatsL : List Int := [119808, 119860, 119912, 120016, 120172, 120224, 120276, 120328, 120380, 120432]
noncomputable def squaresL : List (Int × Str) := [(13169, Str.ofString "hpa"), (13184, Str.ofString "pa"), (13187, Str.ofString "ma"), (13188, Str.ofString "ka"), (13189, Str.ofString "kb"), (13190, Str.ofString "mb"), (13226, Str.ofString "kpa"), (13227, Str.ofString "mpa"), (13256, Str.ofString "db"), (13259, Str.ofString "hp"), (13261, Str.ofString "kk"), (13262, Str.ofString "km"), (13271, Str.ofString "ph")]
noncomputable def hiddenL : List Int := [173, 847, 6150, 6155, 6156, 6157, 8203, 8204, 8205, 8288, 65279] ++ rangeInts 65024 1 16
/-- the sign that a number types -/
noncomputable def signOf (x : Int) : Nat :=
  if x.fmod 4 < 2 then
    if ((x.fdiv 4).fdiv 8).fmod 12 = 0 then letOf x
    else if ((x.fdiv 4).fdiv 8).fmod 12 = 1 then ((letOf x : Int) - 32).toNat
    else (greatsL.getD (((x.fdiv 4).fdiv 8).fmod 12 - 2).toNat 0 + (letOf x : Int) - 97).toNat
  else if x.fmod 4 = 2 then (squaresL.getD ((x.fdiv 4).fmod 13).toNat (0, Str.empty)).1.toNat
  else (hiddenL.getD ((x.fdiv 4).fmod 27).toNat 0).toNat
/-- the letters that a number means -/
noncomputable def meanOf (x : Int) : List Nat :=
  if x.fmod 4 < 2 then [letOf x] else if x.fmod 4 = 2 then (squaresL.getD ((x.fdiv 4).fmod 13).toNat (0, Str.empty)).2.cps.toList else []
theorem letOf_bound (x : Int) : 97 ≤ letOf x ∧ letOf x ≤ 112 := by
  unfold letOf
  have h1 : 0 ≤ (x.fdiv 4).fmod 8 ∧ (x.fdiv 4).fmod 8 < 8 := by rw [Int.fmod_eq_emod_of_nonneg _ (by decide)]; omega
  have h : ((x.fdiv 4).fmod 8).toNat < 8 := by omega
  have := (by decide +kernel : ∀ k : Fin 8, 97 ≤ (Str.ofString "abcdhkmp").cps.getD k.1 0 ∧ (Str.ofString "abcdhkmp").cps.getD k.1 0 ≤ 112) ⟨_, h⟩
  exact this
theorem modB {a : Int} {n : Int} (h : 0 < n) : 0 ≤ a.fmod n ∧ a.fmod n < n := by
  rw [Int.fmod_eq_emod_of_nonneg _ (Int.le_of_lt h)]
  exact ⟨Int.emod_nonneg _ (by omega), Int.emod_lt_of_pos _ h⟩
theorem sf2a {k : Int} (h0 : 0 ≤ k) (h1 : k ≠ 0) (h2 : k ≠ 1) : 0 ≤ k - 2 := by omega
theorem sf2b {k : Int} (h0 : 0 ≤ k) (h3 : k < 12) (h1 : k ≠ 0) (h2 : k ≠ 1) : (k - 2).toNat < 10 := by omega
theorem toNatLt13 {k : Int} (h0 : 0 ≤ k) (h1 : k < 13) : k.toNat < 13 := by omega
theorem toNatLt27 {k : Int} (h0 : 0 ≤ k) (h1 : k < 27) : k.toNat < hiddenL.length := by
  rw [show hiddenL.length = 27 by decide]; omega
theorem chrA0 {c : Nat} (h : 97 ≤ c ∧ c ≤ 112) : 0 ≤ (c : Int) - 32 := by omega
theorem chrA1 {c : Nat} (h : 97 ≤ c ∧ c ≤ 112) : (c : Int) - 32 ≤ 1114111 := by omega
theorem chrB0 {c : Nat} {g : Int} (h : 97 ≤ c ∧ c ≤ 112) (h0 : 0 ≤ g) : 0 ≤ g + (c : Int) - 97 := by omega
theorem chrB1 {c : Nat} {g : Int} (h : 97 ≤ c ∧ c ≤ 112) (h0 : g ≤ 130000) : g + (c : Int) - 97 ≤ 1114111 := by omega
theorem chrC1 {g : Int} (h0 : g ≤ 130000) : g ≤ 1114111 := by omega
theorem letOf_at {x : Int} {c : Nat} (h : Is c ((Str.ofString "abcdhkmp").cps.getD ((x.fdiv 4).fmod 8).toNat 0)) : 97 ≤ c ∧ c ≤ 112 := by
  rw [h.eq]; exact letOf_bound x
theorem Is.let {x : Int} {c : Nat} (h : Is c ((Str.ofString "abcdhkmp").cps.getD ((x.fdiv 4).fmod 8).toNat 0)) : letOf x = c := h.eq.symm
theorem signOf_0 {x : Int} {c : Nat} (hc : Is c ((Str.ofString "abcdhkmp").cps.getD ((x.fdiv 4).fmod 8).toNat 0)) (h1 : x.fmod 4 < 2) (h2 : ((x.fdiv 4).fdiv 8).fmod 12 = 0) : c = signOf x := by
  unfold signOf; rw [hc.let, if_pos h1, if_pos h2]
theorem signOf_1 {x : Int} {c : Nat} (hc : Is c ((Str.ofString "abcdhkmp").cps.getD ((x.fdiv 4).fmod 8).toNat 0)) (h1 : x.fmod 4 < 2) (h2 : ((x.fdiv 4).fdiv 8).fmod 12 = 1) : ((c : Int) - 32).toNat = signOf x := by
  unfold signOf; rw [hc.let, if_pos h1, if_neg (by rw [h2]; decide), if_pos h2]
theorem signOf_2 {x g : Int} {c : Nat} (hc : Is c ((Str.ofString "abcdhkmp").cps.getD ((x.fdiv 4).fmod 8).toNat 0)) (hg : Is g (greatsL.getD (((x.fdiv 4).fdiv 8).fmod 12 - 2).toNat 0)) (h1 : x.fmod 4 < 2) (h2 : ((x.fdiv 4).fdiv 8).fmod 12 ≠ 0) (h3 : ((x.fdiv 4).fdiv 8).fmod 12 ≠ 1) : (g + (c : Int) - 97).toNat = signOf x := by
  unfold signOf; rw [hc.let, if_pos h1, if_neg h2, if_neg h3, hg.eq]
theorem signOf_3 {x g : Int} (hg : Is g (squaresL.getD ((x.fdiv 4).fmod 13).toNat (0, Str.empty)).1) (h1 : ¬ x.fmod 4 < 2) (h2 : x.fmod 4 = 2) : g.toNat = signOf x := by
  unfold signOf; rw [if_neg h1, if_pos h2, hg.eq]
theorem signOf_4 {x g : Int} (hg : Is g (hiddenL.getD ((x.fdiv 4).fmod 27).toNat 0)) (h1 : ¬ x.fmod 4 < 2) (h2 : x.fmod 4 ≠ 2) : g.toNat = signOf x := by
  unfold signOf; rw [if_neg h1, if_neg h2, hg.eq]
theorem meanOf_0 {x : Int} {c : Nat} {a : List Nat} {me : Str} (hc : Is c ((Str.ofString "abcdhkmp").cps.getD ((x.fdiv 4).fmod 8).toNat 0)) (h1 : x.fmod 4 < 2) (hm : me = ⟨a.toArray⟩) : me ++ (⟨#[c]⟩ : Str) = ⟨(a ++ List.flatMap meanOf [x]).toArray⟩ := by
  rw [List.flatMap_singleton]; unfold meanOf; rw [hc.let, if_pos h1]; exact strSnoc hm rfl
theorem meanOf_3 {x : Int} {y : Str} {a : List Nat} {me : Str} (hy : Is y (squaresL.getD ((x.fdiv 4).fmod 13).toNat (0, Str.empty)).2) (h1 : ¬ x.fmod 4 < 2) (h2 : x.fmod 4 = 2) (hm : me = ⟨a.toArray⟩) : me ++ y = ⟨(a ++ List.flatMap meanOf [x]).toArray⟩ := by
  rw [List.flatMap_singleton]; unfold meanOf; rw [if_neg h1, if_pos h2, ← hy.eq]; exact strCat hm
theorem meanOf_4 {x : Int} {a : List Nat} {me : Str} (h1 : ¬ x.fmod 4 < 2) (h2 : x.fmod 4 ≠ 2) (hm : me = ⟨a.toArray⟩) : me = ⟨(a ++ List.flatMap meanOf [x]).toArray⟩ := by
  rw [List.flatMap_singleton]; unfold meanOf; rw [if_neg h1, if_neg h2, List.append_nil]; exact hm
theorem len3 {me y : Str} {i : Nat} (h : me.length ≤ 3 * i) (hy : y.length ≤ 3) : (me ++ y).length ≤ 3 * (i + 1) := by rw [strLen]; omega
/-- the tuple of two texts comes back -/
noncomputable abbrev RetS2 (news : List (Addr × Obj)) (x y : Str) : Heap → Addr → (Str → Option Value) → Shared → (Value → Shared → Prop) → Prop :=
  fun h₀ L m s Q => ∀ (D : Addr) (t1 t2 : Tok) (h' : Heap) (tk' : Nat), Fr h₀ L h' m → News h₀ L h' ((D, ({ cls := .type "tuple", data := .seq #[.str x t1, .str y t2] } : Obj)) :: news) → (∀ p ∈ news, p.1 < D) → InElt s.heap h' → Q (.ref D) { s with heap := h', toks := tk' }
inductive IntE : List Expr → List Int → Prop
  | nil : IntE [] []
  | cons {c : Int} {ja : Nat} {pa : Pos} {es : List Expr} {xs : List Int} : IntE es xs → IntE (Expr.Constant (.int c) ja pa :: es) (c :: xs)
theorem intsD {M : Model} {A : Around} {E : Value → Shared → Prop} {env : Env} {pos : Pos} {es : List Expr} {xs : List Int} (hes : IntE es xs) : ∀ {s : Shared} {Q : List Value → Shared → Prop}, (∀ vs tk, IntsAre vs xs → Q vs { s with toks := tk }) → wpAny M A (spliced (backTo pos (starEach es env))) Q E s := by
  induction hes with
  | nil => intro s Q h; exact spliced_none (h [] s.toks .nil)
  | cons _ ih => intro s Q h; exact spliced_more (wpAny_Constant_int (ih fun vs tk hv => h (_ :: vs) tk (.cons _ _ hv)))
theorem listInts {M : Model} {A : Around} {E : Value → Shared → Prop} {env : Env} {pos : Pos} {es : List Expr} {xs : List Int} {s : Shared} {Q : Value → Shared → Prop} {h₀ : Heap} {L : Addr} {m : Str → Option Value} {news : List (Addr × Obj)} (hes : IntE es xs) (F : Fr h₀ L s.heap m) (N : News h₀ L s.heap news) (hz : xs.length ≤ sizeLine)
    (h : ∀ vs D h' tk, Fr h₀ L h' m → News h₀ L h' ((D, listOf vs.toArray 0) :: news) → AllLt D news → IntsAre vs xs → Q (.ref D) { s with heap := h', toks := tk }) : wpAny M A (eval (Expr.List es pos) env) Q E s :=
  List_ (intsD hes fun vs tk hv => newList_N F N (fun h' F' N' => h vs _ h' tk F' N' (allLt_of fun p hp => Heap.lt_size (N p hp).1) hv) (by rw [hv.length]; exact hz))
inductive PairE : List Expr → List (Int × Str) → Prop
  | nil : PairE [] []
  | cons {c : Int} {y : Str} {ja jb jc : Nat} {pa pb pc : Pos} {es : List Expr} {xs : List (Int × Str)} : PairE es xs → PairE (Expr.Tuple [Expr.Constant (.int c) ja pa, Expr.Constant (.str y) jb pb] jc pc :: es) ((c, y) :: xs)
theorem PairsIn.sub {K K' : List (Addr × Obj)} {vs : List Value} {xs : List (Int × Str)} (h : PairsIn K vs xs) (hs : ∀ q ∈ K, q ∈ K') : PairsIn K' vs xs := by
  induction h with
  | nil => exact .nil
  | cons a t u c y hm _ ih => exact .cons a t u c y (hs _ hm) ih
theorem pairsD {M : Model} {A : Around} {E : Value → Shared → Prop} {env : Env} {pos : Pos} {es : List Expr} {xs : List (Int × Str)} {h₀ : Heap} {L : Addr} {m : Str → Option Value} (hes : PairE es xs) : ∀ {news : List (Addr × Obj)} {s : Shared} {Q : List Value → Shared → Prop}, Fr h₀ L s.heap m → News h₀ L s.heap news → (∀ vs more h' tk, Fr h₀ L h' m → News h₀ L h' (more ++ news) → PairsIn (more ++ news) vs xs → Q vs { s with heap := h', toks := tk }) → wpAny M A (spliced (backTo pos (starEach es env))) Q E s := by
  induction hes with
  | nil => intro news s Q F N h; exact spliced_none (h [] [] s.heap s.toks F N .nil)
  | cons _ ih =>
    intro news s Q F N h
    refine spliced_more (Tuple_ (spliced_more (wpAny_Constant_int (spliced_more (wpAny_Constant_str (spliced_none ?_))))))
    refine newTuple_N F N (fun h1 F1 N1 => ih F1 N1 fun vs more h2 tk F2 N2 P2 => ?_) (by show 2 ≤ sizeLine; decide)
    have e : ∀ (x : Addr × Obj), more ++ x :: news = (more ++ [x]) ++ news := fun x => by rw [List.append_assoc]; rfl
    rw [e] at N2 P2
    exact h _ _ h2 tk F2 N2 (.cons _ _ _ _ _ (List.mem_append.mpr (.inl (List.mem_append.mpr (.inr List.mem_cons_self)))) P2)
theorem listPairs {M : Model} {A : Around} {E : Value → Shared → Prop} {env : Env} {pos : Pos} {es : List Expr} {xs : List (Int × Str)} {s : Shared} {Q : Value → Shared → Prop} {h₀ : Heap} {L : Addr} {m : Str → Option Value} {news : List (Addr × Obj)} (hes : PairE es xs) (F : Fr h₀ L s.heap m) (N : News h₀ L s.heap news) (hz : xs.length ≤ sizeLine)
    (h : ∀ vs more D h' tk, Fr h₀ L h' m → News h₀ L h' ((D, listOf vs.toArray 0) :: (more ++ news)) → AllLt D news → PairsIn (more ++ news) vs xs → Q (.ref D) { s with heap := h', toks := tk }) : wpAny M A (eval (Expr.List es pos) env) Q E s :=
  List_ (pairsD hes F N fun vs more h1 tk F1 N1 P1 => newList_N F1 N1 (fun h' F' N' => h vs more _ h' tk F' N' (allLt_of fun p hp => Heap.lt_size (N1 p (List.mem_append.mpr (.inr hp))).1) P1) (by rw [P1.length]; exact hz))

local macro_rules | `(tactic| walk_at "call type:list") => `(tactic| (k_here; (with_reducible show wpAny _ _ (call (Value.type _) [Value.ref _]) _ _ _); (k_dflt (refine' listRange (n := 16) rfl ?k1 ?k2 ?k3 ?k4 ?k5 ?k6 ?_; (case k1 => k_asm); (case k2 => k_asm); (case k3 => assumption); (case k4 => exact rfl); (case k5 => exact rfl); (case k6 => decide))); intro _ _ _ _ _ _ _ _ _; (try k_sweep)))
local macro_rules | `(tactic| walk_at "subscriptTail") => `(tactic| (k_here; (with_reducible show wpAny _ _ (subscriptTail _ _ (Value.str _ _) (Value.int _ _)) _ _ _); k_dflt (refine' strItem ?k1 ?k2 ?k3 ?_; (case k1 => assumption); (case k2 => show _ < (8 : Int); assumption); (case k3 => decide)); intro _ _ c hc; have hc97 := letOf_at hc))
local macro_rules | `(tactic| walk_at "subscriptTail Name BinOp ref int") => `(tactic| (k_here; (with_reducible show wpAny _ _ (subscriptTail (Expr.Name (Str.ofString "greats") _) _ (Value.ref _) (Value.int _ _)) _ _ _); k_dflt (refine' intItem (xs := greatsL) (lo := 0) (hi := 130000) ?k1 ?k2 ?k3 ?k4 ?k5 ?k6 ?k7 ?_; (case k1 => k_asm); (case k2 => walk_at "mem"); (case k3 => assumption); (case k4 => exact sf2a (by assumption) (by assumption) (by assumption)); (case k5 => exact sf2b (by assumption) (by assumption) (by assumption) (by assumption)); (case k6 => decide); (case k7 => decide)); intro _ _ _ _ _))
local macro_rules | `(tactic| walk_at "subscriptTail Name BinOp ref int") => `(tactic| (k_here; (with_reducible show wpAny _ _ (subscriptTail (Expr.Name (Str.ofString "hidden") _) _ (Value.ref _) (Value.int _ _)) _ _ _); k_dflt (refine' intItem (xs := hiddenL) (lo := 0) (hi := 130000) ?k1 ?k2 ?k3 ?k4 ?k5 ?k6 ?k7 ?_; (case k1 => k_asm); (case k2 => walk_at "mem"); (case k3 => assumption); (case k4 => assumption); (case k5 => exact toNatLt27 (by assumption) (by assumption)); (case k6 => decide); (case k7 => decide)); intro _ _ _ _ _))
local macro_rules | `(tactic| walk_at "subscriptTail Name BinOp ref int") => `(tactic| (k_here; (with_reducible show wpAny _ _ (subscriptTail (Expr.Name (Str.ofString "squares") _) _ (Value.ref _) (Value.int _ _)) _ _ _); k_dflt (refine' pairItem (xs := squaresL) (lo := 0) (hi := 130000) (len := 3) ?k1 ?k2 ?k3 ?k4 ?k5 ?k6 ?k7 ?_; (case k1 => k_asm); (case k2 => walk_at "mem"); (case k3 => (rename PairsIn _ _ squaresL => hPairs; exact PairsIn.sub hPairs (by intro p hp; (repeat (first | with_reducible assumption | refine List.mem_cons_of_mem _ ?_ | refine List.mem_append.mpr (.inl ?_)))))); (case k4 => assumption); (case k5 => exact toNatLt13 (by assumption) (by assumption)); (case k6 => decide); (case k7 => decide +kernel)); intro _ _ _ _ _ _ _ _ _ _ _))
local macro_rules | `(tactic| walk_at "unpackItems ref") => `(tactic| (k_here; k_dflt (refine' unpackItemsN_ ?k1 ?k2 ?k3 ?k4 ?k5 ?_; (case k1 => k_asm); (case k2 => k_asm); (case k3 => exact News.isTup (by k_asm) (by assumption)); (case k4 => exact rfl); (case k5 => exact rfl); k_whole); intro h' F' N'; (try k_sweep)))
local macro_rules | `(tactic| walk_at "chr0") => `(tactic| first | assumption | exact chrA0 (by assumption) | exact chrB0 (by assumption) (by assumption))
local macro_rules | `(tactic| walk_at "chr1") => `(tactic| first | exact chrC1 (by assumption) | exact chrA1 (by assumption) | exact chrB1 (by assumption) (by assumption))
local macro_rules | `(tactic| walk_at "call builtin:ord") => `(tactic| (k_here; refine P.ord_of_char ?_))
local macro_rules | `(tactic| walk_at "call builtin:chr") => `(tactic| (k_here; refine chr_of_range (by omega) (by omega) ?_))
local macro_rules | `(tactic| walk_at "eval List") => `(tactic| (k_here; (with_reducible show wpAny _ _ (eval (Expr.List (Expr.Constant (Const.int _) _ _ :: _) _) _) _ _ _); (with_reducible refine' listInts ?e ?F ?N ?z ?_); k_dflt ((case e => (repeat constructor)); (case F => k_asm); (case N => k_asm); (case z => decide)); intro _ _ _ _ _ _ l1 _; (try k_lt l1); (try k_sweep)))
local macro_rules | `(tactic| walk_at "eval List") => `(tactic| (k_here; (with_reducible show wpAny _ _ (eval (Expr.List (Expr.Tuple _ _ _ :: _) _) _) _ _ _); (with_reducible refine' listPairs (xs := squaresL) ?e ?F ?N ?z ?_); k_dflt ((case e => (repeat constructor)); (case F => k_asm); (case N => k_asm); (case z => decide)); intro _ _ _ _ _ _ _ l1 _; (try k_lt l1); (try k_sweep)))
local macro_rules | `(tactic| walk_at "mem") => `(tactic| first | with_reducible assumption | exact List.mem_cons_self | exact List.mem_cons_of_mem _ (by walk_at "mem") | exact List.mem_append.mpr (.inl (by walk_at "mem")) | exact List.mem_append.mpr (.inr (by walk_at "mem")))
theorem typ_c (w : World) (news : List (Addr × Obj)) (l : Addr) (vs : List Value) (ns : List Int) (n : Nat) (hm : (l, listOf vs.toArray n) ∈ news) (hi : IntsAre vs ns) (h5 : ns.length = 5) (hb : ∀ x ∈ ns, 0 ≤ x ∧ x < 1000000) :
  Callee w 131 [.ref l] news 1 (RetS2 news ⟨(ns.map signOf).toArray⟩ ⟨(ns.flatMap meanOf).toArray⟩) := by
  unfold Callee
  k_fill
  intro p loose mean mg mb dp un gd cn cs a ccd cl outer A₀ base h₀ L m s Q E B F X N T hk hd hu hret
  refine wpAny_call ?_
  w_strict (k_dflt (walk_at "enter"))
  w_strict k_steps
  unfold Stop
  refine' forList (σ := Str × Tok × Str × Tok) (fun _ => _) (fun c => [(Str.ofString "typed", .str c.1 c.2.1), (Str.ofString "meant", .str c.2.2.1 c.2.2.2)]) [Str.ofString "which", Str.ofString "letter", Str.ofString "script_form", Str.ofString "code", Str.ofString "letters"]
    (fun i c => (c.1 = ⟨((ns.take i).map signOf).toArray⟩ ∧ c.1.length ≤ i) ∧ (c.2.2.1 = ⟨((ns.take i).flatMap meanOf).toArray⟩ ∧ c.2.2.1.length ≤ 3 * i)) (Str.ofString "", _, Str.ofString "", _) rfl ?k1 ?k2 ?k3 ?k4 ?k5 ?k6 ?k7
  case k2 => assumption
  case k3 => assumption
  case k1 => intro _; walk_at "mem"
  case k4 => walk_at "fr vals"
  case k5 => exact ⟨⟨rfl, Nat.le_refl _⟩, rfl, Nat.le_refl _⟩
  case k6 =>
    rintro ⟨ty, t1, me, t2⟩ i v u h tk own hv hoff ⟨⟨ht1, hl1⟩, hm1, hl2⟩ F2 N2
    (try k_fold)
    have hi' : i < ns.length := by rw [← hi.length]; exact (List.getElem?_eq_some_iff.mp hv).1
    obtain ⟨t', hx⟩ := hi.get i (ns[i]'hi') (List.getElem?_eq_getElem hi')
    have ev : v = .int (ns[i]'hi') t' := by rw [hx] at hv; exact (Option.some.inj hv).symm
    subst ev
    obtain ⟨b0, b1⟩ := hb _ (List.getElem_mem hi')
    generalize hx' : ns[i]'hi' = x at *
    obtain ⟨f1a, f1b⟩ : 0 ≤ (x.fdiv 4).fmod 8 ∧ (x.fdiv 4).fmod 8 < 8 := modB (by decide)
    obtain ⟨f2a, f2b⟩ : 0 ≤ ((x.fdiv 4).fdiv 8).fmod 12 ∧ ((x.fdiv 4).fdiv 8).fmod 12 < 12 := modB (by decide)
    obtain ⟨f3a, f3b⟩ : 0 ≤ (x.fdiv 4).fmod 13 ∧ (x.fdiv 4).fmod 13 < 13 := modB (by decide)
    obtain ⟨f4a, f4b⟩ : 0 ≤ (x.fdiv 4).fmod 27 ∧ (x.fdiv 4).fmod 27 < 27 := modB (by decide)
    w_strict k_steps
    all_goals first
      | (refine' fNext (_, _, _, _) ?q1 ?q2 ?q3 ?q4 ?q5 ?q6 ?q7 ?q8
         case q1 => assumption
         case q2 => assumption
         case q3 => intro p hp; exact List.mem_append.mpr (.inl hp)
         case q4 => intro p hp; exact List.mem_append.mpr (.inr hp)
         case q5 => assumption
         case q6 => walk_at "fr vals"
         case q7 => walk_at "for same"
         case q8 =>
           dsimp only at ht1 hm1 hl1 hl2 ⊢
           rw [takeSnoc hi' hx', List.map_append, List.flatMap_append]
           refine ⟨⟨?_, ?_⟩, ?_, ?_⟩
           · refine strSnoc ht1 ?_
             first
               | exact signOf_0 (by assumption) (by assumption) (by assumption)
               | exact signOf_1 (by assumption) (by assumption) (by assumption)
               | exact signOf_2 (by assumption) (by assumption) (by assumption) (by assumption) (by assumption)
               | exact signOf_3 (by assumption) (by assumption) (by assumption)
               | exact signOf_4 (by assumption) (by assumption) (by assumption)
           · rw [strLen]; exact Nat.add_le_add hl1 (Nat.le_refl _)
           · first
               | exact meanOf_0 (by assumption) (by assumption) hm1
               | exact meanOf_3 (by assumption) (by assumption) (by assumption) hm1
               | exact meanOf_4 (by assumption) (by assumption) hm1
           · first
               | exact len3 hl2 (by first | assumption | exact Nat.le_of_ble_eq_true rfl)
               | exact Nat.le_trans hl2 (Nat.mul_le_mul_left _ (Nat.le_succ _)))
      | trace_state
  case k7 =>
    rintro ⟨ty, t1, me, t2⟩ u h tk ⟨⟨ht1, hl1⟩, hm1, hl2⟩ F2 N2
    rw [hi.length, List.take_length] at ht1 hm1
    (try k_fold)
    w_strict k_steps
    subst ht1 hm1
    refine' hret ?rD ?r1 ?r2 ?r3 ?r4 ?r5 ?r6 ?r7 ?r8
    case r5 => assumption
    case r6 => exact newsTop (by assumption) (by intro p hp; (repeat (first | assumption | refine List.mem_cons_of_mem _ ?_ | refine List.mem_append.mpr (.inr ?_))))
    case r7 => exact fun p hp => allLt_on (And.right (And.right (And.right (And.right (by assumption))))) p (List.mem_append.mpr (.inr (List.mem_cons_of_mem _ hp)))
    case r8 => exact elt_after (InElt.start _) (by assumption) (by assumption) (by assumption) (by assumption) (fun _ h => by (repeat (first | assumption | refine List.mem_cons_of_mem _ ?_ | refine List.mem_append.mpr (.inr ?_))))
end

section
open PySem PySem.W PySem.Spec PySem.Calls PyProof.Rows PyProof.Rows.LCg PyProof.Rows.LCt PyProof.Rows.LCp
local macro_rules | `(tactic| walk_at "mem") => `(tactic| first | assumption | exact List.mem_cons_self | exact List.mem_cons_of_mem _ (by walk_at "mem") | exact List.mem_append.mpr (.inl (by walk_at "mem")) | exact List.mem_append.mpr (.inr (by walk_at "mem")))
local macro_rules | `(tactic| walk_at "sub") => `(tactic| (repeat' (first | exact List.forall_mem_nil _ | refine List.forall_mem_cons.mpr ⟨by walk_at "mem", ?_⟩ | refine List.forall_mem_append.mpr ⟨?_, ?_⟩ | (intro p hp; walk_at "mem"))))
local macro_rules | `(tactic| walk_at "call builtin:len") => `(tactic| (k_here; (with_reducible show wpAny _ _ (call (Value.builtin "len") [Value.ref _]) _ _ _); (refine lenList (by k_asm) (by walk_at "mem") (by omega) ?_); intro _ _))
local macro_rules | `(tactic| walk_at "call builtin:sum") => `(tactic| (k_here; (with_reducible show wpAny _ _ (call (Value.builtin "sum") [Value.ref _]) _ _ _); (refine sumL rfl (by k_asm) (by k_asm) (by walk_at "mem") (by assumption) ?_); intro _ _ _ _ _; (try k_sweep)))
local macro_rules | `(tactic| walk_at "eval ListComp") => `(tactic| (k_here; (with_reducible show wpAny _ _ (eval (Expr.ListComp _ [⟨Expr.Tuple _ _ _, _, [_], _⟩] _ _) _) _ _ _); k_dflt (refine compPT (_F₀ := by k_asm) (by with_unfolding_all rfl) (by decide) (by rfl) (by decide) (by rfl) (by rfl) (by decide) ?_)))
local macro_rules | `(tactic| walk_at "CompSrc") => `(tactic| (k_here; refine stopHere ?_))
local macro_rules | `(tactic| walk_at "CompSrcT") => `(tactic| (k_here; refine stopHere ?_))
local macro_rules | `(tactic| walk_at "SrcLP") => `(tactic| (k_here; refine stopHere ?_))
local macro_rules | `(tactic| walk_at "SrcPT") => `(tactic| (k_here; refine stopHere ?_))
local macro_rules | `(tactic| walk_at "SrcS") => `(tactic| (k_here; refine stopHere ?_))
local macro_rules | `(tactic| walk_at "CompEnd") => `(tactic| (refine stopHere ?_))
local macro_rules | `(tactic| walk_at "TEnd") => `(tactic| (refine stopHere ?_))
local macro_rules | `(tactic| walk_at "FinE") => `(tactic| (refine stopHere ?_))
local macro_rules | `(tactic| walk_at "eval Name") => `(tactic| (k_here; (with_reducible show wpAny _ _ (eval (Expr.Name _ _) (compEnvC _ _ _ _)) _ _ _); k_dflt (first | refine LCgL.ld_own (by k_asm) (by walk_at "mem") (by with_reducible assumption) (by with_reducible assumption) ?_ | refine LCgL.ld_global (by k_asm) (by k_asm) (by k_asm) (by k_is) ?_ | (refine' lcf_cell ?N ?c ?m ?d ?_ ?a ?b; (case a => exact rfl); (case b => exact rfl); (case N => k_asm); (case c => rfl); (case m => walk_at "mem"); (case d => k_asm); k_whole) | (refine' lcf_free ?N ?c ?m ?d ?_ ?a ?b; (case a => exact rfl); (case b => exact rfl); (case N => k_asm); (case c => rfl); (case m => walk_at "mem"); (case d => k_asm); k_whole))))
local macro_rules | `(tactic| walk_at "eval Name") => `(tactic| (k_here; k_dflt ( (refine' nameX_C ?N ?c ?m ?d ?_ ?a ?b; (case a => exact rfl); (case b => exact rfl); (case N => k_asm); (case c => rfl); (case m => walk_at "mem"); (case d => k_asm); k_whole))))

section
open PySem PySem.W PySem.Spec PySem.Calls PyProof.Rows PyProof.Rows.LCg PyProof.Rows.LCt PyProof.Rows.LCp
set_option maxRecDepth 100000
set_option maxHeartbeats 2000000
/-- the spots before one that are in reach, as powers of two -/
noncomputable def nearL (row : List Int) (reach : Int) : Nat → List Int
  | 0 => []
  | i + 1 => if row.getD i 0 ≤ reach then nearL row reach i ++ [2 ^ i] else nearL row reach i
noncomputable def stepL (near one : Int) (xs : List (Int × Int)) : List (Int × Int) := (xs.filter fun p => Builtin.bitAnd p.1 near == p.1).map fun p => (p.1 + one, -p.2)
noncomputable def signedL (fs : List (List Int)) (reach : Int) : Nat → List (Int × Int)
  | 0 => [(0, -1)]
  | i + 1 => signedL fs reach i ++ stepL (nearL (fs.getD i []) reach i).sum (2 ^ i) (signedL fs reach i)
noncomputable def oddF (fs : List (List Int)) (reach : Int) : Int := ((signedL fs reach fs.length).map (·.2)).sum + 1
theorem nearA {ys : List Value} {fs : List (List Int)} {i j a b : Nat} {reach c : Int} {t : Tok} (hy : IntsAre ys (nearL (fs.getD i []) reach j)) (hc : Is c ((fs.getD a []).getD b 0)) (h : c ≤ reach) (e1 : a = i) (e2 : b = j) : IntsAre (ys ++ [.int (2 ^ b) t]) (nearL (fs.getD i []) reach (j + 1)) := by
  subst e1 e2
  have := hc.eq; subst this
  unfold nearL; rw [if_pos h]
  exact hy.append (.cons _ _ .nil)
theorem nearB {ys : List Value} {fs : List (List Int)} {i j a b : Nat} {reach c : Int} (hy : IntsAre ys (nearL (fs.getD i []) reach j)) (hc : Is c ((fs.getD a []).getD b 0)) (h : ¬ c ≤ reach) (e1 : a = i) (e2 : b = j) : IntsAre ys (nearL (fs.getD i []) reach (j + 1)) := by
  subst e1 e2
  have := hc.eq; subst this
  unfold nearL; rw [if_neg h]
  exact hy
theorem stepT {near one mny sgn : Int} {xs : List (Int × Int)} {j : Nat} (hj : j < xs.length) (h : xs.getD j (0, 0) = (mny, sgn)) (hb : Builtin.bitAnd mny near = mny) : stepL near one (xs.take (j + 1)) = stepL near one (xs.take j) ++ [(mny + one, -sgn)] := by
  have e : xs[j] = (mny, sgn) := by rw [← h, List.getD_eq_getElem?_getD, List.getElem?_eq_getElem hj]; rfl
  unfold stepL
  rw [takeSnoc hj e, List.filter_append, List.map_append]
  simp [hb]
theorem stepF {near one mny sgn : Int} {xs : List (Int × Int)} {j : Nat} (hj : j < xs.length) (h : xs.getD j (0, 0) = (mny, sgn)) (hb : Builtin.bitAnd mny near ≠ mny) : stepL near one (xs.take (j + 1)) = stepL near one (xs.take j) := by
  have e : xs[j] = (mny, sgn) := by rw [← h, List.getD_eq_getElem?_getD, List.getElem?_eq_getElem hj]; rfl
  unfold stepL
  rw [takeSnoc hj e, List.filter_append, List.map_append]
  simp [hb]
inductive Tups (tl : List (Addr × Obj)) : List Value → List (Int × Int) → Prop
  | nil : Tups tl [] []
  | cons {vs : List Value} {xs : List (Int × Int)} (a : Addr) (n : Nat) (t u : Tok) (c y : Int) : (a, ({ cls := .type "tuple", data := .seq #[.int c t, .int y u] n } : Obj)) ∈ tl → Tups tl vs xs → Tups tl (.ref a :: vs) ((c, y) :: xs)
theorem Tups.length {tl : List (Addr × Obj)} {vs : List Value} {xs : List (Int × Int)} (h : Tups tl vs xs) : vs.length = xs.length := by
  induction h with
  | nil => rfl
  | cons _ _ _ _ _ _ _ _ ih => simp [ih]
theorem Tups.mono {tl tl' : List (Addr × Obj)} {vs : List Value} {xs : List (Int × Int)} (h : Tups tl vs xs) (k : ∀ p ∈ tl, p ∈ tl') : Tups tl' vs xs := by
  induction h with
  | nil => exact .nil
  | cons a n t u c y hm _ ih => exact .cons a n t u c y (k _ hm) ih
theorem Tups.append {tl : List (Addr × Obj)} {vs ws : List Value} {xs ys : List (Int × Int)} (h : Tups tl vs xs) (h' : Tups tl ws ys) : Tups tl (vs ++ ws) (xs ++ ys) := by
  induction h with
  | nil => exact h'
  | cons a n t u c y hm _ ih => exact .cons a n t u c y hm ih
theorem Tups.fns {tl : List (Addr × Obj)} {vs : List Value} {xs : List (Int × Int)} (h : Tups tl vs xs) : ∃ ft fu : Nat → Tok, ∀ i, i < xs.length → PairAt tl (vs.getD i .none) (.int (xs.getD i (0, 0)).1 (ft i)) (.int (xs.getD i (0, 0)).2 (fu i)) := by
  induction h with
  | nil => exact ⟨fun _ => 0, fun _ => 0, fun i hi => absurd hi (Nat.not_lt_zero _)⟩
  | cons a n t u c y hm _ ih =>
    obtain ⟨ft, fu, ih⟩ := ih
    refine ⟨fun i => match i with | 0 => t | i + 1 => ft i, fun i => match i with | 0 => u | i + 1 => fu i, fun i hi => ?_⟩
    cases i with
    | zero => exact ⟨a, n, rfl, hm⟩
    | succ i => simpa using ih i (Nat.lt_of_succ_lt_succ hi)
theorem signedL_len (fs : List (List Int)) (reach : Int) : ∀ i, (signedL fs reach i).length ≤ 2 ^ i
  | 0 => Nat.le_refl _
  | i + 1 => by
    have h := signedL_len fs reach i
    have h2 : (stepL (nearL (fs.getD i []) reach i).sum (2 ^ i) (signedL fs reach i)).length ≤ (signedL fs reach i).length := by
      unfold stepL; rw [List.length_map]; exact List.length_filter_le ..
    unfold signedL
    rw [List.length_append, Nat.pow_succ]; omega
local macro_rules | `(tactic| walk_at "exec For Name Call cons nil") => `(tactic| (k_here; (rename Fr _ _ _ _ => lF'); (with_unfolding_all refine' For_invTF lF' ?_ ?k2; (case k2 => intro _; rfl); k_whole)))
local macro_rules | `(tactic| walk_at "binaryOp Add ref ref") => `(tactic| (k_here; k_dflt (refine' addListsA ?k1 ?k2 ?k3 ?k4 ?_ ?k5; (case k1 => k_asm); (case k2 => k_asm); (case k3 => walk_at "mem"); (case k4 => walk_at "mem"); (case k5 => assumption)); intro _ _ _ _ _; (try k_sweep)))
local macro_rules | `(tactic| walk_at "subscriptTail Name Name ref int") => `(tactic| (k_here; (with_reducible show wpAny _ _ (subscriptTail (Expr.Name (Str.ofString "_") _) _ _ _) _ _ _); k_dflt (refine' intItem0 ?k1 ?k2 ?k3 ?k4 ?k5 ?k6 ?_; (case k1 => k_asm); (case k2 => walk_at "mem"); (case k3 => assumption); (case k4 => omega); (case k5 => omega); (case k6 => omega)); intro _ _ _))
local macro_rules | `(tactic| walk_at "subscriptTail Name Name ref int") => `(tactic| (k_here; (with_reducible show wpAny _ _ (subscriptTail (Expr.Name (Str.ofString "far") _) _ _ _) _ _ _); k_dflt (refine' rowItem ?k1 ?k2 ?k3 ?k4 ?k5 ?k6 ?_; (case k1 => k_asm); (case k2 => walk_at "mem"); (case k3 => assumption); (case k4 => omega); (case k5 => omega); (case k6 => omega)); intro _ _ _ _ _))
theorem odd_c (w : World) (news : List (Addr × Obj)) (lf : Addr) (rows : List Value) (nn : Nat) (fs : List (List Int)) (reach : Int) (t : Tok) (hm : (lf, listOf rows.toArray nn) ∈ news) (hr : RowsIn news rows fs) (h8 : fs.length ≤ 8) (hl : ∀ i, i < fs.length → (fs.getD i []).length = i) :
  Callee w 136 [.ref lf, .int reach t] news 1 (RetN news fun t => .int (oddF fs reach) t) := by
  unfold Callee
  k_fill
  intro p loose mean mg mb dp un gd cn cs a ccd cl outer A₀ base h₀ L m s Q E B F X N T hk hd hu hret
  refine wpAny_call ?_
  have hlen := hr.length
  k_dflt (refine' code_defC ?ek1 ?ek2 ?ek3 ?ek4 ?ek5 ?ekA ?ekF ?ekK ?ek6 ?ek7 ?ek8 ?ek9 ?ekB ?ekD ?_ ?ec2 ?ec3 ?ec4)
  case ekA => exact rfl
  case ekF => exact rfl
  case ekK => assumption
  case ek1 => k_asm
  case ek2 => k_asm
  case ek3 => k_asm
  case ek4 => k_asm
  case ek5 => k_asm
  case ek6 => k_is
  case ek7 => k_is
  case ek8 => ktr_room
  case ek9 => first | exact BindsTo.of_eq rfl | assumption
  case ekB => exact rfl
  case ekD => decide +kernel
  case ec2 => exact rfl
  case ec3 => exact rfl
  case ec4 => exact rfl
  intro g' L' h' tk' cells' FG' F' N' Y' B' X' T' l1
  (try dsimp only)
  (try k_lift B')
  (try k_fold)
  obtain ⟨oN, oO, oR, oF, hE', dN, dO, dR, dF⟩ := CellsAre.four Y'
  subst hE'
  clear Y'
  replace dN : oN.data = .cell none := dN
  replace dO : oO.data = .cell none := dO
  replace dR : oR.data = .cell (some (.int reach t)) := dR
  replace dF : oF.data = .cell (some (.ref lf)) := dF
  simp only [List.cons_append, List.nil_append] at N'
  w_strict k_steps
  unfold Stop
  refine' forRangeT (n := fs.length) (σ := Obj × Obj × Addr × List Value × Nat × List (Addr × Obj)) (fun c => (L' + 1 + 1 + 1 + 1, c.1) :: (L' + 1 + 1 + 1, c.2.1) :: (L' + 1 + 1, oR) :: (L' + 1, oF) :: (c.2.2.1, listOf c.2.2.2.1.toArray c.2.2.2.2.1) :: (c.2.2.2.2.2 ++ news)) (fun c => [(Str.ofString "signed", .ref c.2.2.1)]) []
    (fun i c => ((∃ v, c.1.data = .cell v) ∧ ∃ v, c.2.1.data = .cell v) ∧ Tups c.2.2.2.2.2 c.2.2.2.1 (signedL fs reach i) ∧ @LT.lt Nat _ (L' + 1 + 1 + 1 + 1) c.2.2.1 ∧ ∀ p ∈ c.2.2.2.2.2, @LT.lt Nat _ (L' + 1 + 1 + 1 + 1) p.1) (oN, oO, ?oL, [.ref ?oA], ?oQ, [(?oA, { cls := .type "tuple", data := .seq #[.int 0 ?oT, .int (-1) ?oU] ?oM })]) rfl ?p1 ?p2 ?p3 ?p4 ?p5 ?p6 ?p7 ?p8 ?p9 ?p10
  case p1 => assumption
  case p2 => exact small_one (by omega) (by omega) (by omega) (by omega)
  case p3 => rw [rangeSize_nat, hlen]; simp
  case p4 => assumption
  case p6 => walk_at "fr vals"
  case p5 =>
    refine newsSub (by assumption) ?_
    dsimp only [List.cons_append, List.nil_append]
    walk_at "sub"
  case p7 => exact ⟨⟨⟨_, dN⟩, _, dO⟩, .cons _ _ _ _ _ _ (List.mem_singleton.mpr rfl) .nil, by dsimp only; omega, by intro p hp; rw [List.mem_singleton.mp hp]; dsimp only; omega⟩
  case p8 => intro _ _; rfl
  case p10 =>
    rintro ⟨oN', oO', l, vs, q, tl⟩ u h3 tk3 ⟨⟨⟨vN, dN'⟩, vO, dO'⟩, htl, hla, hta⟩ F2 N2
    (try dsimp only at F2 N2 dN' dO' htl hla hta)
    (try k_fold)
    w_strict k_steps
    unfold Stop
    obtain ⟨ft, fu, hfx⟩ := htl.fns
    refine SrcLP.ledger (its := vs.toArray) rfl (by assumption) (by assumption) (by walk_at "mem") ?sz2 fun gg => ?_
    case sz2 =>
      rw [List.size_toArray, htl.length]
      exact Nat.le_trans (signedL_len ..) (Nat.le_trans (Nat.pow_le_pow_right (by decide) h8) (by decide))
    rw [List.size_toArray]
    refine restP (Inv := fun j ys nx => nx = (L' + 1 + 1 + 1 + 1, oN') :: (L' + 1 + 1 + 1, oO') :: (L' + 1 + 1, oR) :: (L' + 1, oF) :: (l, listOf vs.toArray q) :: (tl ++ news) ∧ IntsAre ys (((signedL fs reach fs.length).take j).map (·.2)))
      (fun j => .int ((signedL fs reach fs.length).getD j (0, 0)).1 (ft j)) (fun j => .int ((signedL fs reach fs.length).getD j (0, 0)).2 (fu j)) ?att2 ?turn2 ?fin2 ⟨rfl, .nil⟩
    case att2 =>
      rintro j ys nx v hj ⟨rfl, _⟩ hv
      have h9 := hfx j (by rw [← htl.length]; exact hj)
      rw [List.getD_eq_getElem?_getD, show vs[j]? = some v by simpa using hv] at h9
      obtain ⟨t9, n9, e9, m9⟩ := h9
      exact ⟨t9, n9, e9, by walk_at "mem"⟩
    case turn2 =>
      rintro j ys nx I oI C oC D m₂ h tk E' hj ⟨rfl, hys⟩ hC hx hy F6 N6 off ne
      have hj' : j < (signedL fs reach fs.length).length := by rw [← htl.length]; exact hj
      (try dsimp only at hx hy)
      w_strict k_steps
      unfold Stop
      refine CompEnd.intro (by assumption) (by assumption) _ (fun p hp => hp) off (.inr ⟨_, by walk_at "mem", rfl, _, rfl⟩) ⟨rfl, ?_⟩
      rw [takeSnoc hj' (x := (signedL fs reach fs.length).getD j (0, 0)) (by rw [List.getD_eq_getElem?_getD, List.getElem?_eq_getElem hj']; rfl), List.map_append]
      exact hys.append (.cons _ _ .nil)
    case fin2 =>
      rintro ys nx ⟨rfl, hys⟩
      rw [htl.length, List.take_length] at hys
      unfold FinE
      intro D h5 tk5 F6 N6 o1
      w_strict k_steps
      exact hret _ _ _ (by assumption) (newsSub (by assumption) (by walk_at "sub"))
  case p9 =>
    rintro ⟨oN', oO', l, vs, q, tl⟩ i k tk' u s₁ own hk0 hi' hoff ⟨⟨⟨vN, dN'⟩, vO, dO'⟩, htl, hla, hta⟩ F2 N2
    dsimp only at F2 N2 dN' dO' htl hla hta hoff
    subst hk0
    (try k_fold)
    have l1' : ∀ p ∈ news, @LT.lt Nat _ p.1 L' := l1
    refine wpAny_assign_Name (storeCell ((L' + 1 + 1 + 1 + 1, oN') :: (L' + 1 + 1, oR) :: (L' + 1, oF) :: (l, listOf vs.toArray q) :: (tl ++ (news ++ own))) (by assumption) (by assumption) rfl (by walk_at "mem") dO' (by walk_at "sub") ?hoo ?_)
    case hoo =>
      intro p hp
      simp only [List.mem_cons, List.mem_append] at hp
      rcases hp with rfl | rfl | rfl | rfl | hp | hp | hp
      · k_ne
      · k_ne
      · k_ne
      · k_ne
      · have := hta p hp; k_ne
      · have := l1' p hp; k_ne
      · exact hoff p hp _ (by simp)
    intro h2 oO2 F3 N3 dO2
    have hli : (fs.getD (0 + (i : Int)).toNat []).length = i := by simpa using hl i hi'
    w_strict k_steps
    unfold Stop
    refine' CompSrcT.range (n := i) rfl ?cF ?cN (by assumption) ?cs1 ?cs2 ?cs3 ?_
    case cF => assumption
    case cN => assumption
    case cs1 => exact small_one (by omega) (by omega) (by omega) (by omega)
    case cs2 => rw [rangeSize_nat]; simp
    case cs3 => exact Nat.le_trans (Nat.le_of_lt (Nat.lt_of_lt_of_le hi' h8)) (by decide)
    intro gg
    refine restT (Inv := fun j ys nx => nx = (L' + 1 + 1 + 1, oO2) :: (L' + 1 + 1 + 1 + 1, oN') :: (L' + 1 + 1, oR) :: (L' + 1, oF) :: (l, listOf vs.toArray q) :: (tl ++ (news ++ own)) ∧ IntsAre ys (nearL (fs.getD i []) reach j)) ?ct ?cf ⟨rfl, .nil⟩
    case ct =>
      rintro j ys nx v I oI C oC D m₂ h tk E' hj ⟨rfl, hys⟩ ⟨tv, rfl⟩ hC hx F4 N4 off ne
      w_strict k_steps
      · unfold Stop
        refine CompEnd.intro (by assumption) (by assumption) _ (fun p hp => hp) (by assumption) trivial ⟨rfl, ?_⟩
        exact nearA hys (by assumption) (by assumption) (by omega) (by omega)
      · unfold Stop
        refine CompEnd.intro (by assumption) (by assumption) _ (fun p hp => hp) (by assumption) trivial ⟨rfl, ?_⟩
        exact nearB hys (by assumption) (by assumption) (by omega) (by omega)
    case cf =>
      rintro ys nx ⟨rfl, hys⟩
      unfold FinE
      intro D h3 tk3 F4 N4 o1
      w_strict k_steps
      refine' storeCell ((L' + 1 + 1 + 1, oO2) :: (L' + 1 + 1, oR) :: (L' + 1, oF) :: (l, listOf vs.toArray q) :: (tl ++ (news ++ own))) ?sF ?sN rfl ?sm dN' ?ss ?sh ?_
      case sF => assumption
      case sN => assumption
      case sm => walk_at "mem"
      case ss => walk_at "sub"
      case sh =>
        intro p hp
        simp only [List.mem_cons, List.mem_append] at hp
        rcases hp with rfl | rfl | rfl | rfl | hp | hp | hp
        · k_ne
        · k_ne
        · k_ne
        · k_ne
        · have := hta p hp; k_ne
        · have := l1' p hp; k_ne
        · exact hoff p hp _ (by simp)
      intro h4 oN2 F5 N5 dN2
      clear o1 hys
      generalize hnear : (nearL (fs.getD i []) reach i).sum = near at *
      w_strict k_steps
      unfold Stop
      obtain ⟨ft, fu, hfx⟩ := htl.fns
      refine ⟨l, vs, q, _, fun j ys nx => ∃ tl', nx = tl' ++ ((L' + 1 + 1 + 1 + 1, oN2) :: (L' + 1 + 1 + 1, oO2) :: (L' + 1 + 1, oR) :: (L' + 1, oF) :: (l, listOf vs.toArray q) :: (tl ++ (news ++ own))) ∧ Tups tl' ys (stepL near (2 ^ i) ((signedL fs reach i).take j)) ∧ (∀ p ∈ tl', @LT.lt Nat _ (L' + 1 + 1 + 1 + 1) p.1) ∧ ∀ p ∈ tl', ∀ q ∈ own, q.1 ≠ p.1,
        fun j => .int ((signedL fs reach i).getD j (0, 0)).1 (ft j), fun j => .int ((signedL fs reach i).getD j (0, 0)).2 (fu j), rfl, rfl, by assumption, by assumption, by walk_at "mem", ?sz, ⟨[], (List.nil_append _).symm, .nil, by simp, by simp⟩, ?att, fun gg => ⟨?turn, ?fin⟩⟩
      case sz =>
        rw [htl.length]
        exact Nat.le_trans (signedL_len ..) (Nat.le_trans (Nat.pow_le_pow_right (by decide) (by omega : i ≤ 8)) (by decide))
      case att =>
        rintro j ys nx v hj ⟨tl', rfl, _⟩ hv
        have h9 := hfx j (by rw [← htl.length]; exact hj)
        rw [List.getD_eq_getElem?_getD, hv] at h9
        obtain ⟨t9, n9, e9, m9⟩ := h9
        exact ⟨t9, n9, e9, by walk_at "mem"⟩
      case turn =>
        rintro j ys nx I oI C oC D m₂ h tk E' hj ⟨tl', rfl, hty, hta', hto⟩ hC hx hy F6 N6 off ne
        dsimp only at hx hy
        obtain ⟨mny, sgn, hpj⟩ : ∃ a b, (signedL fs reach i).getD j (0, 0) = (a, b) := ⟨_, _, rfl⟩
        rw [hpj] at hx hy
        dsimp only at hx hy
        w_strict k_steps
        · unfold Stop
          rename_i hbit Dx hpx Fx Nx l1x
          simp only [show ((0 : Int) + (i : Int)).toNat = i by omega] at Nx
          have hall := allLt_on l1x.2.2.2
          refine' CompEnd.intro Fx Nx ((Dx, ?xo) :: (tl' ++ ((L' + 1 + 1 + 1 + 1, oN2) :: (L' + 1 + 1 + 1, oO2) :: (L' + 1 + 1, oR) :: (L' + 1, oF) :: (l, listOf vs.toArray q) :: (tl ++ (news ++ own))))) ?y1 ⟨⟨Nat.ne_of_gt l1x.1, Nat.ne_of_gt l1x.2.1, Nat.ne_of_gt l1x.2.2.1⟩, off⟩ (.inr ⟨_, by walk_at "mem", rfl, _, rfl⟩) ⟨(Dx, ?xo) :: tl', rfl, ?y4, ?y5, ?y6⟩
          case y1 => walk_at "sub"
          case y4 =>
            rw [stepT (by rw [← htl.length]; exact hj) hpj hbit]
            exact (hty.mono fun _ h => List.mem_cons_of_mem _ h).append (.cons _ _ _ _ _ _ List.mem_cons_self .nil)
          case y5 =>
            intro p hp
            rcases List.mem_cons.mp hp with rfl | hp
            · exact hall (L' + 1 + 1 + 1 + 1, oN2) (by walk_at "mem")
            · exact hta' p hp
          case y6 =>
            intro p hp q hq
            rcases List.mem_cons.mp hp with rfl | hp
            · exact Nat.ne_of_lt (hall q (by walk_at "mem"))
            · exact hto p hp q hq
        · unfold Stop
          refine CompEnd.intro (by assumption) (by assumption) _ (fun p hp => hp) off (.inr ⟨_, by walk_at "mem", rfl, _, rfl⟩) ⟨tl', rfl, ?_, hta', hto⟩
          rw [stepF (by rw [← htl.length]; exact hj) hpj (by assumption)]
          exact hty
      case fin =>
        rintro ys nx ⟨tl', rfl, hty, hta', hto⟩
        rw [htl.length, List.take_length] at hty
        unfold FinE
        intro D h5 tk5 F6 N6 o1
        have hsz : vs.length + ys.length ≤ sizeLine := by
          have z1 := signedL_len fs reach i
          have z2 : 2 ^ i ≤ 2 ^ 8 := Nat.pow_le_pow_right (by decide) (by omega)
          have z3 : ys.length ≤ vs.length := by rw [hty.length, htl.length]; unfold stepL; rw [List.length_map]; exact List.length_filter_le ..
          rw [htl.length] at z3 ⊢
          exact Nat.le_trans (by omega : _ ≤ 512) (by decide)
        w_strict k_steps
        unfold Stop
        rename_i Dx hq l1x hpx Fx Nx
        (try dsimp only at Fx Nx l1x)
        have hall := allLt_on l1x
        refine tNext (oN2, oO2, Dx, vs ++ ys, 0, tl' ++ tl) (by assumption) (by assumption) ?e1 ?e2 ?e3 ?e7 ?e8 ⟨⟨⟨_, dN2⟩, _, dO2⟩, ?e4, ?e5, ?e6⟩
        case e1 => walk_at "sub"
        case e2 => walk_at "sub"
        case e7 => walk_at "fr vals"
        case e8 => walk_at "fr same"
        case e3 =>
          intro p hp b hb e
          have h0 := hoff p hp
          simp only [List.map_cons, List.map_append, List.mem_cons, List.mem_append, List.mem_map] at hb h0
          rcases hb with rfl | rfl | rfl | rfl | rfl | (⟨r, hr', rfl⟩ | hb) | hb
          · exact h0 _ (by simp) e
          · exact h0 _ (by simp) e
          · exact h0 _ (by simp) e
          · exact h0 _ (by simp) e
          · exact Nat.ne_of_lt (hall p (by walk_at "mem")) e
          · exact hto r hr' p hp e
          · exact h0 b (by simp only [hb, or_true, true_or]) e
          · exact h0 b (by simp only [hb, or_true, true_or]) e
        case e4 =>
          have e9 : signedL fs reach (i + 1) = signedL fs reach i ++ stepL near (2 ^ i) (signedL fs reach i) := by
            rw [← hnear]; rfl
          dsimp only
          rw [e9]
          exact (htl.mono fun p hp => List.mem_append.mpr (.inr hp)).append (hty.mono fun p hp => List.mem_append.mpr (.inl hp))
        case e5 => exact hall (L' + 1 + 1 + 1 + 1, oN2) (by walk_at "mem")
        case e6 =>
          intro p hp
          rcases List.mem_append.mp hp with hp | hp
          · exact hta' p hp
          · exact hta p hp
end

section
open PySem PySem.W PySem.Spec PySem.Calls PyProof.Rows PyProof.Rows.LCg PyProof.Rows.LCt PyProof.Rows.LCp
set_option maxRecDepth 100000
set_option maxHeartbeats 2000000
structure Hid (p : Prop) : Prop where
  h : p
/-- the last of a way -/
noncomputable def lastI (ws : List Int) : Int := ws.getD (ws.length - 1) 0
noncomputable def nextW (ls : List Int) (w : Int) : Int := ls.getD (w.fmod ls.length).toNat 0 + w.fdiv ls.length * ls.length
noncomputable def wayGo (ls : List Int) (first : Int) : Nat → List Int → List Int
  | 0, ws => ws
  | f + 1, ws => if (lastI ws).fmod ls.length ≠ first ∧ ws.length < ls.length then wayGo ls first f (ws ++ [nextW ls (lastI ws)]) else ws
noncomputable def ringOne (ls : List Int) (first : Nat) : Bool :=
  let ws := wayGo ls first (ls.length - 1) [ls.getD first 0]
  decide ((lastI ws).fmod ls.length = first) && decide ((ws.length : Int) = 2 * (lastI ws).fdiv ls.length + 1) && (ws.map fun x => x.fmod ls.length).all fun x => decide ((first : Int) ≤ x)
noncomputable def ringsF (ls : List Int) : Nat → Int
  | 0 => 0
  | i + 1 => if ringOne ls i = true then ringsF ls i + 1 else ringsF ls i
theorem wayGo_stop {ls : List Int} {first : Int} {f : Nat} {ws : List Int} (h : ¬ ((lastI ws).fmod ls.length ≠ first ∧ ws.length < ls.length)) : wayGo ls first f ws = ws := by
  cases f with
  | zero => rfl
  | succ f => unfold wayGo; rw [if_neg h]
theorem wayGo_step {ls : List Int} {first : Int} {ws : List Int} (h1 : (lastI ws).fmod ls.length ≠ first) (h2 : ws.length < ls.length) : wayGo ls first (ls.length - ws.length) ws = wayGo ls first (ls.length - (ws.length + 1)) (ws ++ [nextW ls (lastI ws)]) := by
  obtain ⟨f, hf⟩ : ∃ f, ls.length - ws.length = f + 1 := ⟨ls.length - ws.length - 1, by omega⟩
  rw [hf, show ls.length - (ws.length + 1) = f by omega]
  conv => { lhs; unfold wayGo }
  rw [if_pos ⟨h1, h2⟩]
theorem nextA {ls zs : List Int} {ws : List Value} {c : Int} {t : Tok} (hw : IntsAre ws zs) (hc : Is c (ls.getD ((lastI zs).fmod ls.length).toNat 0)) : IntsAre (ws ++ [.int (c + (lastI zs).fdiv ls.length * ls.length) t]) (zs ++ [nextW ls (lastI zs)]) := by
  have := hc.eq; subst this
  exact hw.append (.cons _ _ .nil)
theorem firstA {ls : List Int} {i k : Nat} {c : Int} {t : Tok} (hc : Is c (ls.getD k 0)) (e : k = i) : IntsAre [.int c t] [ls.getD i 0] := by
  have := hc.eq; subst this e
  exact .cons _ _ .nil
theorem ring_eq {ls zs : List Int} {i : Nat} (hg : zs = wayGo ls i (ls.length - 1) [ls.getD i 0]) : ringOne ls i = (decide ((lastI zs).fmod ls.length = i) && decide ((zs.length : Int) = 2 * (lastI zs).fdiv ls.length + 1) && (zs.map fun x => x.fmod ls.length).all fun x => decide ((i : Int) ≤ x)) := by subst hg; rfl
theorem ringT {ls zs : List Int} {i n : Nat} {k r : Int} (hg : zs = wayGo ls i (ls.length - 1) [ls.getD i 0]) (hr : r = ringsF ls i) (h1 : (lastI zs).fmod ls.length = i) (hn : n = zs.length) (h2 : (n : Int) = 2 * (lastI zs).fdiv ls.length + 1) (h4 : ∀ a ∈ zs.map fun x => x.fmod ls.length, k ≤ a) (hk : k = i) : r + 1 = ringsF ls (i + 1) := by
  subst hn hk
  unfold ringsF
  rw [if_pos, hr]
  rw [ring_eq hg, decide_eq_true h1, decide_eq_true h2, Bool.true_and, Bool.true_and, List.all_eq_true]
  exact fun x hx => decide_eq_true (h4 x hx)
theorem ringF {ls : List Int} {i : Nat} {r : Int} (hr : r = ringsF ls i) (h : ringOne ls i = false) : r = ringsF ls (i + 1) := by
  unfold ringsF
  rw [if_neg (by rw [h]; exact Bool.false_ne_true), hr]
theorem ringF1 {ls zs : List Int} {i : Nat} {r : Int} (hg : zs = wayGo ls i (ls.length - 1) [ls.getD i 0]) (hr : r = ringsF ls i) (h1 : (lastI zs).fmod ls.length ≠ i) : r = ringsF ls (i + 1) :=
  ringF hr (by rw [ring_eq hg, decide_eq_false h1]; rfl)
theorem ringF2 {ls zs : List Int} {i n : Nat} {r : Int} (hg : zs = wayGo ls i (ls.length - 1) [ls.getD i 0]) (hr : r = ringsF ls i) (hn : n = zs.length) (h2 : (n : Int) ≠ 2 * (lastI zs).fdiv ls.length + 1) : r = ringsF ls (i + 1) :=
  ringF hr (by subst hn; rw [ring_eq hg, decide_eq_false h2, Bool.and_false]; rfl)
theorem ringF3 {ls zs : List Int} {i : Nat} {k r : Int} (hg : zs = wayGo ls i (ls.length - 1) [ls.getD i 0]) (hr : r = ringsF ls i) (hl : lastI zs ∈ zs) (h1 : (lastI zs).fmod ls.length = i) (h3 : k ∈ zs.map fun x => x.fmod ls.length) (h4 : ∀ a ∈ zs.map fun x => x.fmod ls.length, k ≤ a) (hk : k ≠ i) : r = ringsF ls (i + 1) := by
  refine ringF hr ?_
  rw [ring_eq hg, Bool.and_eq_false_iff]
  refine .inr ?_
  rw [List.all_eq_false]
  refine ⟨k, h3, ?_⟩
  have := h4 _ (List.mem_map.mpr ⟨_, hl, rfl⟩)
  simp only [decide_eq_true_eq]
  omega
section
variable {prog : Program} {w : World} {A : Around} {E : Value → Shared → Prop} {s : Shared} {Q : Value → Shared → Prop} {h₀ : Heap} {L l : Addr} {m : Str → Option Value} {news : List (Addr × Obj)}
theorem intLast {value slice : PySem.Expr} {vs : List Value} {xs : List Int} {n : Nat} {u : Tok} (N : News h₀ L s.heap news) (hm : (l, listOf vs.toArray n) ∈ news) (hv : IntsAre vs xs) (h1 : 0 < xs.length)
    (h : ∀ t, Q (.int (lastI xs) t) s) (hs : subscripted slice false (.ref l) (.int (-1) u) = operate [.ref l, .int (-1) u] (getItem (.ref l) (.int (-1) u)) := by with_unfolding_all rfl) :
    wpAny (model prog w) A (subscriptTail value slice (.ref l) (.int (-1) u)) Q E s := by
  obtain ⟨t, ht⟩ := hv.get (xs.length - 1) (xs.getD (xs.length - 1) 0) (by rw [List.getD_eq_getElem?_getD, List.getElem?_eq_getElem (by omega)]; rfl)
  have hl : s.heap.IsList l vs.toArray := newsList N hm
  have hlen := hv.length
  refine tail_any hl.typeIs slot_list_getitem.lookup (wpAny_getItem_list_neg hl (by omega) (by simp only [List.size_toArray]; omega) (by decide) (x := .int (lastI xs) t) ?_ (h t)) hs
  simp only [List.size_toArray, List.getElem?_toArray]
  rw [show ((-1 : Int) + (vs.length : Int)).toNat = xs.length - 1 by omega]
  exact ht
theorem appendM {pl : Sem Bool} {vs : List Value} {n : Nat} {Q : Value × List Value → Shared → Prop} (N : News h₀ L s.heap news) (hm : (l, listOf vs.toArray n) ∈ news) (h : Q (.builtin "list.append", [.ref l]) s) :
    wpAny (model prog w) A (getMethod (.ref l) "append" pl) Q E s :=
  getMethod_builtin ⟨_, (N _ hm).1, rfl⟩ PySem.F.plainAttrs_list slot_list_append type_list_append (fun a e => by cases e; exact ⟨_, (N _ hm).1, rfl⟩) h
theorem appendHead {x : Value} {vs : List Value} {n : Nat} {rest : List (Addr × Obj)} (F : Fr h₀ L s.heap m) (N : News h₀ L s.heap ((l, listOf vs.toArray n) :: rest)) (ho : ∀ p ∈ rest, p.1 ≠ l) (hsz : vs.length ≤ sizeLine)
    (h : ∀ h', Fr h₀ L h' m → News h₀ L h' ((l, listOf (vs ++ [x]).toArray (n + 1)) :: rest) → Q .none { s with heap := h' }) : wpAny (model prog w) A (call (.builtin "list.append") [.ref l, x]) Q E s := by
  have z := N _ List.mem_cons_self
  refine append_at (hsz := by simpa using hsz) z.1 fun h' hs ho' => h h' (F.change hs z.2.1 z.2.2) fun p hp => ?_
  rcases List.mem_cons.mp hp with rfl | hp
  · refine ⟨?_, z.2⟩
    rw [ho', List.push_toArray]
  · exact ⟨hs.extBut _ _ (ho p hp) (N p (List.mem_cons_of_mem _ hp)).1, (N p (List.mem_cons_of_mem _ hp)).2⟩
end
local macro_rules | `(tactic| walk_at "binaryOp Add ref ref") => `(tactic| (k_here; k_dflt (refine' addListsA ?k1 ?k2 ?k3 ?k4 ?_ ?k5; (case k1 => k_asm); (case k2 => k_asm); (case k3 => walk_at "mem"); (case k4 => walk_at "mem"); (case k5 => assumption)); intro _ _ _ _ _; (try k_sweep)))
local macro_rules | `(tactic| walk_at "subscriptTail Name Name ref int") => `(tactic| (k_here; (with_reducible show wpAny _ _ (subscriptTail (Expr.Name (Str.ofString "_") _) _ _ _) _ _ _); k_dflt (refine' intItem0 ?k1 ?k2 ?k3 ?k4 ?k5 ?k6 ?_; (case k1 => k_asm); (case k2 => walk_at "mem"); (case k3 => assumption); (case k4 => omega); (case k5 => omega); (case k6 => omega)); intro _ _ _))
local macro_rules | `(tactic| walk_at "subscriptTail Name Name ref int") => `(tactic| (k_here; (with_reducible show wpAny _ _ (subscriptTail (Expr.Name (Str.ofString "far") _) _ _ _) _ _ _); k_dflt (refine' rowItem ?k1 ?k2 ?k3 ?k4 ?k5 ?k6 ?_; (case k1 => k_asm); (case k2 => walk_at "mem"); (case k3 => assumption); (case k4 => omega); (case k5 => omega); (case k6 => omega)); intro _ _ _ _ _))
local macro_rules | `(tactic| walk_at "binaryOp FloorDiv int int") => `(tactic| (k_here; (refine floordiv_int (by omega) ?_ (Or.inl (PyProof.noPylong_of_log2 (by assumption))))))
local macro_rules | `(tactic| walk_at "call builtin:len") => `(tactic| (k_here; (with_reducible show wpAny _ _ (call (Value.builtin "len") [Value.ref _]) _ _ _); (refine lenList (by k_asm) (by walk_at "mem") (by first | omega | assumption) ?_); intro _ _))
local macro_rules | `(tactic| walk_at "subscriptTail Name Name ref int") => `(tactic| (k_here; (with_reducible show wpAny _ _ (subscriptTail (Expr.Name (Str.ofString "leaps") _) _ _ _) _ _ _); k_dflt (refine' intItem0 ?k1 ?k2 ?k3 ?k4 ?k5 ?k6 ?_; (case k1 => k_asm); (case k2 => walk_at "mem"); (case k3 => assumption); (case k4 => omega); (case k5 => omega); (case k6 => omega)); intro _ _ _))
local macro_rules | `(tactic| walk_at "subscriptTail Name BinOp ref int") => `(tactic| (k_here; (with_reducible show wpAny _ _ (subscriptTail (Expr.Name (Str.ofString "leaps") _) _ _ _) _ _ _); k_dflt (refine' intItem0 ?k1 ?k2 ?k3 ?k4 ?k5 ?k6 ?_; (case k1 => k_asm); (case k2 => walk_at "mem"); (case k3 => assumption); (case k4 => assumption); (case k5 => assumption); (case k6 => omega)); intro _ _ _))
local macro_rules | `(tactic| walk_at "subscriptTail Name UnaryOp ref int") => `(tactic| (k_here; k_dflt (refine' intLast ?k1 ?k2 ?k3 ?k4 ?_; (case k1 => k_asm); (case k2 => walk_at "mem"); (case k3 => assumption); (case k4 => omega)); intro _))
local macro_rules | `(tactic| walk_at "subscriptTail Name Constant ref int") => `(tactic| (k_here; k_dflt (refine' intLast ?k1 ?k2 ?k3 ?k4 ?_; (case k1 => k_asm); (case k2 => walk_at "mem"); (case k3 => assumption); (case k4 => omega)); intro _))
local macro_rules | `(tactic| walk_at "getMethod ref") => `(tactic| (k_here; (with_reducible show wpAny _ _ (getMethod (Value.ref _) _ _) _ _ _); k_dflt (refine appendM (by k_asm) (by walk_at "mem") ?_)))
local macro_rules | `(tactic| walk_at "call builtin:list.append") => `(tactic| (k_here; k_dflt (refine' appendHead ?k1 ?k2 ?k3 ?k4 ?_; (case k1 => k_asm); (case k2 => k_asm); (case k3 => assumption); (case k4 => assumption)); intro _ _ _; (try k_sweep)))
local macro_rules | `(tactic| walk_at "call builtin:min") => `(tactic| (k_here; (with_reducible show wpAny _ _ (call (Value.builtin "min") [Value.ref _]) _ _ _); (refine minL rfl (by k_asm) (by k_asm) (by walk_at "mem") (by assumption) (by assumption) ?_); intro _ _ _ _ _ _ _ _; (try k_sweep)))
theorem rings_c (w : World) (news : List (Addr × Obj)) (lf : Addr) (vs : List Value) (nn : Nat) (ls : List Int) (hm : (lf, listOf vs.toArray nn) ∈ news) (hi : IntsAre vs ls) (h8 : ls.length ≤ 8) :
  Callee w 141 [.ref lf] news 1 (RetN news fun t => .int (ringsF ls ls.length) t) := by
  unfold Callee
  k_fill
  intro p loose mean mg mb dp un gd cn cs a ccd cl outer A₀ base h₀ L m s Q E B F X N T hk hd hu hret
  refine wpAny_call ?_
  have hlen := hi.length
  have h62 : ls.length < 2 ^ 62 := Nat.lt_of_le_of_lt h8 (by decide)
  have h24 : ls.length ≤ sizeLine := Nat.le_trans h8 (by decide)
  have hpy : (ls.length : Int).natAbs.log2 < 9000 := (by decide +kernel : ∀ k : Fin 9, ((k.1 : Nat) : Int).natAbs.log2 < 9000) ⟨ls.length, by omega⟩
  clear h8
  k_dflt (refine' code_defC ?ek1 ?ek2 ?ek3 ?ek4 ?ek5 ?ekA ?ekF ?ekK ?ek6 ?ek7 ?ek8 ?ek9 ?ekB ?ekD ?_ ?ec2 ?ec3 ?ec4)
  case ekA => exact rfl
  case ekF => exact rfl
  case ekK => assumption
  case ek1 => k_asm
  case ek2 => k_asm
  case ek3 => k_asm
  case ek4 => k_asm
  case ek5 => k_asm
  case ek6 => k_is
  case ek7 => k_is
  case ek8 => ktr_room
  case ek9 => first | exact BindsTo.of_eq rfl | assumption
  case ekB => exact rfl
  case ekD => decide +kernel
  case ec2 => exact rfl
  case ec3 => exact rfl
  case ec4 => exact rfl
  intro g' L' h' tk' cells' FG' F' N' Y' B' X' T' l1
  (try dsimp only)
  (try k_lift B')
  (try k_fold)
  obtain ⟨oS, hE', dS⟩ := CellsAre.one Y'
  subst hE'
  clear Y'
  replace dS : oS.data = .cell none := dS
  simp only [List.cons_append, List.nil_append] at N'
  have l1' : ∀ p ∈ news, @LT.lt Nat _ p.1 L' := l1
  w_strict k_steps
  refine' storeCell news ?sF ?sN rfl List.mem_cons_self dS ?ss ?sh ?_
  case sF => assumption
  case sN => assumption
  case ss => exact fun p hp => List.mem_cons_of_mem _ hp
  case sh => intro p hp; have := l1' p hp; k_ne
  intro h2 oS2 F2 N2 dS2
  rw [hlen] at dS2
  w_strict k_steps
  unfold Stop
  refine' forRange (n := ls.length) (σ := Int × Tok) (fun c => (L' + 1, oS2) :: news) (fun c => [(Str.ofString "rings", .int c.1 c.2)]) [Str.ofString "way", Str.ofString "turns"]
    (fun i c => c.1 = ringsF ls i) (0, ?oT) rfl ?p1 ?p2 ?p3 ?p4 ?p5 ?p6 ?p7 ?p8 ?p9
  case p1 => assumption
  case p2 => exact small_one (by omega) (by omega) (by omega) (by omega)
  case p3 => first | (rw [rangeSize_nat]; simp; done) | (rw [rangeSize_nat, hlen]; simp)
  case p4 => assumption
  case p5 => assumption
  case p6 => walk_at "fr vals"
  case p7 => rfl
  case p9 =>
    rintro ⟨r, tr'⟩ u h3 tk3 hr F4 N4
    (try dsimp only at F4 N4 hr)
    (try k_fold)
    w_strict k_steps
    subst hr
    exact hret _ _ _ (by assumption) (newsSub (by assumption) (by walk_at "sub"))
  case p8 =>
    rintro ⟨r, tr'⟩ i k tk3 u h3 tk4 own hk0 hi' hoff hr F4 N4
    (try dsimp only at F4 N4 hr hoff)
    subst hk0
    (try k_fold)
    simp only [Int.zero_add] at F4
    have hm1 : ∀ x : Int, 0 ≤ x.fmod ls.length ∧ (x.fmod ls.length).toNat < ls.length := fun x => by
      have := Int.fmod_nonneg_of_pos x (show (0 : Int) < ls.length by omega)
      have := Int.fmod_lt_of_pos x (show (0 : Int) < ls.length by omega)
      omega
    w_strict k_steps
    unfold Stop
    rename_i lw h9w F9w N9w hpw l1w Fw Nw

    have hofw : ∀ p ∈ (L' + 1, oS2) :: (news ++ own), p.1 ≠ _ := fun p hp => Nat.ne_of_lt (hpw p hp)
    refine' whileR (σ := List Value × List Int × Nat) (fun c => (?lw, listOf c.1.toArray c.2.2) :: ((L' + 1, oS2) :: (news ++ own))) (fun _ => []) []
      (fun c => IntsAre c.1 c.2.1 ∧ (0 < c.2.1.length ∧ c.2.1.length ≤ ls.length) ∧ wayGo ls i (ls.length - c.2.1.length) c.2.1 = wayGo ls i (ls.length - 1) [ls.getD i 0]) (fun c => ls.length - c.2.1.length)
      (fun c => IntsAre c.1 c.2.1 ∧ 0 < c.2.1.length ∧ c.2.1.length ≤ ls.length ∧ c.2.1 = wayGo ls i (ls.length - 1) [ls.getD i 0]) ([?iv], [ls.getD i 0], ?qq) ?w1 ?w2 ?w3 ?w4 ?w5 ?w6 ?w7
    case w1 => assumption
    case w2 => assumption
    case w3 => exact List.forall_mem_nil _
    case w4 => exact ⟨firstA (by assumption) (by simp), ⟨Nat.zero_lt_one, by show 1 ≤ _; omega⟩, rfl⟩
    case w7 => passes_own
    case w5 =>
      rintro ⟨ws, zs, q⟩ u2 h5 tk5 ⟨hwi, ⟨hz1, hz2⟩, hgo⟩ F5 N5
      (try dsimp only at F5 N5 hwi hz1 hz2 hgo)
      (try k_fold)
      obtain ⟨hm2, hm3⟩ := hm1 (lastI zs)
      have hwl := hwi.length
      have hzs : ws.length ≤ sizeLine := by omega
      have hzt : ws.length < 2 ^ 62 := by omega
      w_strict k_steps
      · unfold Stop
        refine ksw_end (_, zs ++ [nextW ls (lastI zs)], _) (by assumption) (by assumption) (fun _ h => h) (by exact trivial) (by exact List.forall_mem_nil _) (by walk_at "fr same")
          ⟨nextA hwi (by assumption), ⟨by simp, by dsimp only; rw [List.length_append, List.length_singleton]; omega⟩, by dsimp only; rw [List.length_append, List.length_singleton, ← wayGo_step (by assumption) (by omega)]; exact hgo⟩ (by dsimp only; rw [List.length_append, List.length_singleton]; omega)
      all_goals
        exact wDone (_, _, _) (by assumption) (by assumption) (fun _ h => h) (by exact List.forall_mem_nil _) (by walk_at "fr same") ⟨hwi, hz1, hz2, by rw [← hgo]; exact (wayGo_stop (by rintro ⟨b1, b2⟩; have b3 : zs.length < ls.length := b2; first | (exact b1 (by assumption)) | omega)).symm⟩
    case w6 =>
      rintro ⟨ws, zs, q⟩ u2 h5 tk5 ⟨hwi, hz1, hz2, hgo⟩ F5 N5
      (try dsimp only at F5 N5 hwi hz1 hz2 hgo)
      (try k_fold)
      have hwl := hwi.length
      have hzs : ws.length ≤ sizeLine := by omega
      have hzt : ws.length < 2 ^ 62 := by omega
      w_strict k_steps
      · unfold Stop
        have hmem : lastI zs ∈ zs := getD_mem (by omega)
        refine CompSrc.ledger (its := ws.toArray) rfl (by assumption) (by assumption) (by walk_at "mem") (by simpa using hzs) fun gg => ?_
        rw [List.size_toArray]
        refine restU (Inv := fun j ys nx => nx = (lw, listOf ws.toArray q) :: (L' + 1, oS2) :: (news ++ own) ∧ IntsAre ys ((zs.take j).map fun x => x.fmod ls.length)) ?mt ?mf ⟨rfl, .nil⟩
        case mt =>
          rintro j ys nx v I oI C oC D m₂ h tk E' hj ⟨rfl, hys⟩ hv hC hx F6 N6 off ne
          have hj' : j < zs.length := by omega
          obtain ⟨t9, ht9⟩ := hwi.get j (zs.getD j 0) (by rw [List.getD_eq_getElem?_getD, List.getElem?_eq_getElem hj']; rfl)
          have ev : v = .int (zs.getD j 0) t9 := Option.some.inj ((show ws[j]? = some v by simpa using hv).symm.trans ht9)
          subst ev
          w_strict k_steps
          unfold Stop
          refine CompEnd.intro (by assumption) (by assumption) _ (fun p hp => hp) off (.inr ⟨_, by walk_at "mem", rfl, _, rfl⟩) ⟨rfl, ?_⟩
          rw [takeSnoc hj' (x := zs.getD j 0) (by rw [List.getD_eq_getElem?_getD, List.getElem?_eq_getElem hj']; rfl), List.map_append]
          exact hys.append (.cons _ _ .nil)
        case mf =>
          rintro ys nx ⟨rfl, hys⟩
          rw [hwl, List.take_length] at hys
          have hne : 0 < (zs.map fun x => x.fmod ls.length).length := by rw [List.length_map]; exact hz1
          unfold FinE
          intro D h6 tk6 F6 N6 o1
          w_strict k_steps
          · refine fNext (_, _) (by assumption) (by assumption) (by walk_at "sub") (by walk_at "sub") hoff (by walk_at "fr vals") (by walk_at "for same") ?_
            exact ringT hgo hr (by assumption) hwl (by assumption) (by assumption) (by assumption)
          · refine fNext (_, _) (by assumption) (by assumption) (by walk_at "sub") (by walk_at "sub") hoff (by walk_at "fr vals") (by walk_at "for same") ?_
            exact ringF3 hgo hr hmem (by assumption) (by assumption) (by assumption) (by assumption)
      all_goals
        refine fNext (_, _) (by assumption) (by assumption) (by walk_at "sub") (by walk_at "sub") hoff (by walk_at "fr vals") (by walk_at "for same") ?_
        first
          | exact ringF1 hgo hr (by assumption)
          | exact ringF2 hgo hr hwl (by assumption)
end

section
open PySem PySem.W PySem.Spec PySem.Calls PyProof.Rows
set_option maxRecDepth 100000
set_option maxHeartbeats 2000000
noncomputable def fq (n d : Nat) : UInt64 := Float64.ofFrac false n d
noncomputable def hueB (p : Nat) : UInt64 := fq (2 * p + 1) 16
/-- whether the j-th letter of the word of the spot p is great -/
noncomputable def greatB (p j : Nat) : Bool := match p with
  | 0 => decide (j < 2) | 1 => decide (j < 1) | 2 => false | 3 => decide (3 ≤ j) | 4 => decide (2 ≤ j) | 5 => decide (1 ≤ j) | 6 => true | _ => decide (j < 3)
noncomputable def lightB (p a b c : Nat) : UInt64 := let x := hsvR (Float64.add (hueB p) (Float64.ofInt c)) (fq (1 + a) 4) (fq (1 + b) 4); hlsL x.1 x.2.1 x.2.2
noncomputable def paintOk (p a b c : Nat) : Bool :=
  let x := hsvR (Float64.add (hueB p) (Float64.ofInt c)) (fq (1 + a) 4) (fq (1 + b) 4)
  hsvOk (Float64.add (hueB p) (Float64.ofInt c)) (fq (1 + a) 4) && hlsOk x.1 x.2.1 x.2.2 && hlsH x.1 x.2.1 x.2.2 == hueB p &&
  (List.range 4).all fun j => hsvOk (Float64.add (hueB p) (fq j 8)) (fq (1 + a) 4) && ((Float64.cmp (hsvR (Float64.add (hueB p) (fq j 8)) (fq (1 + a) 4) (fq (1 + b) 4)).1 (lightB p a b c) == some .gt) == greatB p j)
theorem all_eight {f : Nat → Bool} (h0 : f 0 = true) (h1 : f 1 = true) (h2 : f 2 = true) (h3 : f 3 = true) (h4 : f 4 = true) (h5 : f 5 = true) (h6 : f 6 = true) (h7 : f 7 = true) : ((List.range 8).all f) = true := by
  show (f 0 && (f 1 && (f 2 && (f 3 && (f 4 && (f 5 && (f 6 && (f 7 && true)))))))) = true
  rw [h0, h1, h2, h3, h4, h5, h6, h7]; rfl
noncomputable def hsvF (h : UInt64) : UInt64 := Float64.sub (hsvX h) (Float64.ofInt (hsvI h))
noncomputable def sameHue (h h' : UInt64) : Bool := decide ((hsvI h).fmod 6 = (hsvI h').fmod 6) && (hsvF h == hsvF h')
theorem same_hsv {h h' s v : UInt64} (e : sameHue h h' = true) : hsvR h s v = hsvR h' s v := by
  obtain ⟨e1, e2⟩ := Bool.and_eq_true_iff.mp e
  have e1 := of_decide_eq_true e1
  have e2 : hsvF h = hsvF h' := eq_of_beq e2
  have hT : ∀ (p q t : UInt64), hsvT (hsvI h) v p q t = hsvT (hsvI h') v p q t := by intro p q t; unfold hsvT; rw [e1]
  unfold hsvF at e2
  unfold hsvR
  rw [hT, e2]
theorem all_at {f : Nat → Bool} {n k : Nat} (h : ((List.range n).all f) = true) (hk : k < n) : f k = true := List.all_eq_true.mp h k (List.mem_range.mpr hk)
theorem turn_ok : ((List.range 8).all fun p => (List.range 3).all fun c => sameHue (Float64.add (hueB p) (Float64.ofInt c)) (hueB p)) = true := by decide +kernel
theorem step_ok : ((List.range 8).all fun p => (List.range 4).all fun j => sameHue (Float64.add (hueB p) (fq j 8)) (hueB ((p + j) % 8))) = true := by decide +kernel
theorem turn_hsv : ((List.range 8).all fun p => (List.range 4).all fun a => (List.range 3).all fun c => hsvOk (Float64.add (hueB p) (Float64.ofInt c)) (fq (1 + a) 4)) = true := by decide +kernel
theorem step_hsv : ((List.range 8).all fun p => (List.range 4).all fun a => (List.range 4).all fun j => hsvOk (Float64.add (hueB p) (fq j 8)) (fq (1 + a) 4)) = true := by decide +kernel
noncomputable def redsL (a b : Nat) : List UInt64 := (List.range 8).map fun q => (hsvR (hueB q) (fq (1 + a) 4) (fq (1 + b) 4)).1
noncomputable def spotOk (a b p : Nat) : Bool :=
  let x := hsvR (hueB p) (fq (1 + a) 4) (fq (1 + b) 4)
  hlsOk x.1 x.2.1 x.2.2 && hlsH x.1 x.2.1 x.2.2 == hueB p &&
  (List.range 4).all fun j => (Float64.cmp ((redsL a b).getD ((p + j) % 8) 0) (hlsL x.1 x.2.1 x.2.2) == some .gt) == greatB p j
theorem spot_00 : ((List.range 8).all fun p => spotOk 0 0 p) = true := by decide +kernel
theorem spot_01 : ((List.range 8).all fun p => spotOk 0 1 p) = true := by decide +kernel
theorem spot_02 : ((List.range 8).all fun p => spotOk 0 2 p) = true := by decide +kernel
theorem spot_03 : ((List.range 8).all fun p => spotOk 0 3 p) = true := by decide +kernel
theorem spot_10 : ((List.range 8).all fun p => spotOk 1 0 p) = true := by decide +kernel
theorem spot_11 : ((List.range 8).all fun p => spotOk 1 1 p) = true := by decide +kernel
theorem spot_12 : ((List.range 8).all fun p => spotOk 1 2 p) = true := by decide +kernel
theorem spot_13 : ((List.range 8).all fun p => spotOk 1 3 p) = true := by decide +kernel
theorem spot_20 : ((List.range 8).all fun p => spotOk 2 0 p) = true := by decide +kernel
theorem spot_21 : ((List.range 8).all fun p => spotOk 2 1 p) = true := by decide +kernel
theorem spot_22 : ((List.range 8).all fun p => spotOk 2 2 p) = true := by decide +kernel
theorem spot_23 : ((List.range 8).all fun p => spotOk 2 3 p) = true := by decide +kernel
theorem spot_30 : ((List.range 8).all fun p => spotOk 3 0 p) = true := by decide +kernel
theorem spot_31 : ((List.range 8).all fun p => spotOk 3 1 p) = true := by decide +kernel
theorem spot_32 : ((List.range 8).all fun p => spotOk 3 2 p) = true := by decide +kernel
theorem spot_33 : ((List.range 8).all fun p => spotOk 3 3 p) = true := by decide +kernel
theorem spot_all {a b p : Nat} (ha : a < 4) (hb : b < 4) (hp : p < 8) : spotOk a b p = true := by
  match a, b, ha, hb with
  | 0, 0, _, _ => exact all_at spot_00 hp
  | 0, 1, _, _ => exact all_at spot_01 hp
  | 0, 2, _, _ => exact all_at spot_02 hp
  | 0, 3, _, _ => exact all_at spot_03 hp
  | 1, 0, _, _ => exact all_at spot_10 hp
  | 1, 1, _, _ => exact all_at spot_11 hp
  | 1, 2, _, _ => exact all_at spot_12 hp
  | 1, 3, _, _ => exact all_at spot_13 hp
  | 2, 0, _, _ => exact all_at spot_20 hp
  | 2, 1, _, _ => exact all_at spot_21 hp
  | 2, 2, _, _ => exact all_at spot_22 hp
  | 2, 3, _, _ => exact all_at spot_23 hp
  | 3, 0, _, _ => exact all_at spot_30 hp
  | 3, 1, _, _ => exact all_at spot_31 hp
  | 3, 2, _, _ => exact all_at spot_32 hp
  | 3, 3, _, _ => exact all_at spot_33 hp
theorem redsL_get {a b q : Nat} (hq : q < 8) : (redsL a b).getD q 0 = (hsvR (hueB q) (fq (1 + a) 4) (fq (1 + b) 4)).1 := by
  unfold redsL
  rw [List.getD_eq_getElem?_getD, List.getElem?_map, List.getElem?_range hq, Option.map_some, Option.getD_some]
theorem paint_one {p a b c : Nat} (hp : p < 8) (ha : a < 4) (hb : b < 4) (hc : c < 3) : paintOk p a b c = true := by
  have h1 := all_at (all_at turn_ok hp) hc
  have h3 := all_at (all_at (all_at turn_hsv hp) ha) hc
  have h5 := spot_all ha hb hp
  unfold spotOk at h5
  dsimp only at h5
  obtain ⟨h6, h7⟩ := Bool.and_eq_true_iff.mp h5
  obtain ⟨h8, h9⟩ := Bool.and_eq_true_iff.mp h6
  unfold paintOk
  dsimp only
  rw [same_hsv h1]
  refine Bool.and_eq_true_iff.mpr ⟨Bool.and_eq_true_iff.mpr ⟨Bool.and_eq_true_iff.mpr ⟨h3, h8⟩, h9⟩, ?_⟩
  refine List.all_eq_true.mpr fun j hj => ?_
  have hj := List.mem_range.mp hj
  refine Bool.and_eq_true_iff.mpr ⟨all_at (all_at (all_at step_hsv hp) ha) hj, ?_⟩
  have h2 := all_at (all_at step_ok hp) hj
  have h10 := all_at h7 hj
  rw [redsL_get (Nat.mod_lt _ (by decide))] at h10
  rw [same_hsv h2]
  unfold lightB
  dsimp only
  rw [same_hsv h1]
  exact h10
theorem paint_all : ((List.range 8).all fun p => (List.range 4).all fun a => (List.range 4).all fun b => (List.range 3).all fun c => paintOk p a b c) = true :=
  List.all_eq_true.mpr fun _ hp => List.all_eq_true.mpr fun _ ha => List.all_eq_true.mpr fun _ hb => List.all_eq_true.mpr fun _ hc => paint_one (List.mem_range.mp hp) (List.mem_range.mp ha) (List.mem_range.mp hb) (List.mem_range.mp hc)
end

section
open PySem PySem.W PySem.Spec PySem.Calls PyProof.Rows
set_option maxRecDepth 100000
set_option maxHeartbeats 2000000
noncomputable def psM (n : Nat) : List Nat := (List.range 8).filter fun p => n.testBit p
noncomputable def wordB (p : Nat) : List Nat := (List.range 4).map fun j => if greatB p j then 65 + j else 97 + j
noncomputable def dist (p q : Nat) : Int := if (p : Int) - q < 8 - ((p : Int) - q) then (p : Int) - q else 8 - ((p : Int) - q)
noncomputable def farL (ps : List Nat) : List (List Int) := (List.range ps.length).map fun i => (List.range i).map fun j => dist (ps.getD i 0) (ps.getD j 0)
noncomputable def lapL (ps : List Nat) : List UInt64 := ps.map hueB ++ (ps.map hueB).map fun x => Float64.add x (Float64.ofInt 1)
noncomputable def leapsL (ps : List Nat) (r : Nat) : List Int := (ps.map hueB).map fun x => (bisR (lapL ps) (Float64.add x (fq r 8)) : Int) - 1
noncomputable def putOk (n p : Nat) : Bool :=
  let ps := psM n
  let at' := bisL (ps.map hueB) (hueB p)
  if n.testBit p then decide (at' < ps.length) && (Float64.cmp ((ps.map hueB).getD at' 0) (hueB p) == some .eq)
  else decide (at' ≤ ps.length) && (decide (at' = ps.length) || !(Float64.cmp ((ps.map hueB).getD at' 0) (hueB p) == some .eq)) && (ps.take at' ++ p :: ps.drop at' == psM (n ||| 2 ^ p))
noncomputable def endOk (n r : Nat) : Bool := oddF (farL (psM n)) r == ringsF (leapsL (psM n) r) (psM n).length
theorem all_lots {f : Nat → Bool} (h : ((List.range 8).all fun k => (List.range 32).all fun i => f (32 * k + i)) = true) : ((List.range 256).all f) = true := by
  refine List.all_eq_true.mpr fun n hn => ?_
  have hn := List.mem_range.mp hn
  have h1 := List.all_eq_true.mp h (n / 32) (List.mem_range.mpr (by omega))
  have h2 := List.all_eq_true.mp h1 (n % 32) (List.mem_range.mpr (by omega))
  rwa [show 32 * (n / 32) + n % 32 = n by omega] at h2
theorem put_0 : ((List.range 32).all fun i => (List.range 8).all fun p => putOk (32 * 0 + i) p) = true := by decide +kernel
theorem put_1 : ((List.range 32).all fun i => (List.range 8).all fun p => putOk (32 * 1 + i) p) = true := by decide +kernel
theorem put_2 : ((List.range 32).all fun i => (List.range 8).all fun p => putOk (32 * 2 + i) p) = true := by decide +kernel
theorem put_3 : ((List.range 32).all fun i => (List.range 8).all fun p => putOk (32 * 3 + i) p) = true := by decide +kernel
theorem put_4 : ((List.range 32).all fun i => (List.range 8).all fun p => putOk (32 * 4 + i) p) = true := by decide +kernel
theorem put_5 : ((List.range 32).all fun i => (List.range 8).all fun p => putOk (32 * 5 + i) p) = true := by decide +kernel
theorem put_6 : ((List.range 32).all fun i => (List.range 8).all fun p => putOk (32 * 6 + i) p) = true := by decide +kernel
theorem put_7 : ((List.range 32).all fun i => (List.range 8).all fun p => putOk (32 * 7 + i) p) = true := by decide +kernel
theorem put_all : ((List.range 256).all fun n => (List.range 8).all fun p => putOk n p) = true := all_lots (all_eight put_0 put_1 put_2 put_3 put_4 put_5 put_6 put_7)
theorem end_0 : ((List.range 32).all fun i => endOk (32 * 0 + i) 1 && endOk (32 * 0 + i) 2 && endOk (32 * 0 + i) 3) = true := by decide +kernel
theorem end_1 : ((List.range 32).all fun i => endOk (32 * 1 + i) 1 && endOk (32 * 1 + i) 2 && endOk (32 * 1 + i) 3) = true := by decide +kernel
theorem end_2 : ((List.range 32).all fun i => endOk (32 * 2 + i) 1 && endOk (32 * 2 + i) 2 && endOk (32 * 2 + i) 3) = true := by decide +kernel
theorem end_3 : ((List.range 32).all fun i => endOk (32 * 3 + i) 1 && endOk (32 * 3 + i) 2 && endOk (32 * 3 + i) 3) = true := by decide +kernel
theorem end_4 : ((List.range 32).all fun i => endOk (32 * 4 + i) 1 && endOk (32 * 4 + i) 2 && endOk (32 * 4 + i) 3) = true := by decide +kernel
theorem end_5 : ((List.range 32).all fun i => endOk (32 * 5 + i) 1 && endOk (32 * 5 + i) 2 && endOk (32 * 5 + i) 3) = true := by decide +kernel
theorem end_6 : ((List.range 32).all fun i => endOk (32 * 6 + i) 1 && endOk (32 * 6 + i) 2 && endOk (32 * 6 + i) 3) = true := by decide +kernel
theorem end_7 : ((List.range 32).all fun i => endOk (32 * 7 + i) 1 && endOk (32 * 7 + i) 2 && endOk (32 * 7 + i) 3) = true := by decide +kernel
theorem end_all : ((List.range 256).all fun n => endOk n 1 && endOk n 2 && endOk n 3) = true := all_lots (all_eight end_0 end_1 end_2 end_3 end_4 end_5 end_6 end_7)
theorem lev_all : ((List.range 8).all fun p => (List.range p).all fun q => lev (wordB p) (wordB q) == dist p q && Flt.toInt Float64.truncOf (Float64.mul (Float64.ofInt 8) (Float64.sub (hueB p) (hueB q))) == (p : Int) - q) = true := by decide +kernel
end

section
open PySem PySem.W PySem.Spec PySem.Calls PyProof.Rows PyProof.Rows.LCg PyProof.Rows.LCt PyProof.Rows.LCp
set_option maxRecDepth 100000
set_option maxHeartbeats 2000000
section
variable {prog : Program} {w : World} {A : Around} {E : Value → Shared → Prop} {s : Shared} {Q : Value → Shared → Prop} {h₀ : Heap} {L l : Addr} {m : Str → Option Value} {news : List (Addr × Obj)} {value slice : PySem.Expr} {vs : List Value} {ns : List Int}
theorem sliceIntsTo {k : Nat} {u : Tok} (F : Fr h₀ L s.heap m) (N : News h₀ L s.heap news) (hl : s.heap.IsList l vs.toArray) (hi : IntsAre vs ns) (hz : vs.length ≤ sizeLine)
    (h : ∀ D ws h', Fr h₀ L h' m → News h₀ L h' ((D, listOf (List.toArray ws) 0) :: news) → (∀ p ∈ news, p.1 < D) → IntsAre ws (ns.take k) → Q (.ref D) { s with heap := h' })
    (hs : subscripted slice false (.ref l) (.ref s.heap.objs.size) = operate [.ref s.heap.objs.size, .ref l] (getItem (.ref l) (.ref s.heap.objs.size)) := by with_unfolding_all rfl) (ht : ∀ r, letTemporaryGo value (.ref l) r = pure () := by intro _; with_unfolding_all rfl) :
    wpAny (model prog w) A (subscriptTail value slice (.ref l) (.ref s.heap.objs.size)) Q E { s with heap := s.heap.push { cls := .type "slice", data := .fields #[.none, .int (k : Int) u, .none] } } :=
  kmk_slice_ints (ms := ns.take k) (c := (ns.take k).length) F N hl .none (.int _ _) hi (by rw [slicePick_upto']; exact hi.take k) rfl (fun D ws h' F' N' l1 hw _ _ => h D ws h' F' N' l1 hw) hs ht (by simpa using hz)
theorem sliceIntsFrom {k : Nat} {u : Tok} (F : Fr h₀ L s.heap m) (N : News h₀ L s.heap news) (hl : s.heap.IsList l vs.toArray) (hi : IntsAre vs ns) (hz : vs.length ≤ sizeLine)
    (h : ∀ D ws h', Fr h₀ L h' m → News h₀ L h' ((D, listOf (List.toArray ws) 0) :: news) → (∀ p ∈ news, p.1 < D) → IntsAre ws (ns.drop k) → Q (.ref D) { s with heap := h' })
    (hs : subscripted slice false (.ref l) (.ref s.heap.objs.size) = operate [.ref s.heap.objs.size, .ref l] (getItem (.ref l) (.ref s.heap.objs.size)) := by with_unfolding_all rfl) (ht : ∀ r, letTemporaryGo value (.ref l) r = pure () := by intro _; with_unfolding_all rfl) :
    wpAny (model prog w) A (subscriptTail value slice (.ref l) (.ref s.heap.objs.size)) Q E { s with heap := s.heap.push { cls := .type "slice", data := .fields #[.int (k : Int) u, .none, .none] } } :=
  kmk_slice_ints (ms := ns.drop k) (c := (ns.drop k).length) F N hl (.int _ _) .none hi (by rw [slicePick_from']; exact hi.drop k) rfl (fun D ws h' F' N' l1 hw _ _ => h D ws h' F' N' l1 hw) hs ht (by simpa using hz)
end
end

section
open PySem PySem.W PySem.Spec PySem.Calls PyProof.Rows
set_option maxRecDepth 100000
set_option maxHeartbeats 2000000
/-- what a sign is folded to -/
noncomputable def mapT (c : Nat) : Str := match b3f c with
  | some (.str y _) => y
  | _ => Txt.lower ⟨#[c]⟩
noncomputable def pieceS (c : Nat) : List Str := if b1l.contains (c : Int) then [] else [mapT c]
noncomputable def pieceN (c : Nat) : List Nat := if b1l.contains (c : Int) then [] else (mapT c).cps.toList
theorem joinT (ys : List Str) : Txt.join ⟨#[]⟩ ys = ⟨(ys.flatMap (·.cps.toList)).toArray⟩ := by
  rw [eq_of_beq (join_plain_closes ⟨#[]⟩ ys)]
  induction ys with
  | nil => rfl
  | cons y r ih =>
    rw [join_nil_cons, ih]
    show (⟨y.cps ++ _⟩ : Str) = _
    simp
theorem pieces (cs : List Nat) : (cs.flatMap pieceS).flatMap (·.cps.toList) = cs.flatMap pieceN := by
  induction cs with
  | nil => rfl
  | cons c r ih =>
    rw [List.flatMap_cons, List.flatMap_append, ih, List.flatMap_cons]
    congr 1
    unfold pieceS pieceN
    split <;> simp
theorem b3all : (b3es.all fun e => match e.val with | .str _ _ => true | _ => false) = true := by decide +kernel
theorem b3f_str {k : Int} {v : Value} (h : b3f k = some v) : ∃ y u, v = .str y u := by
  unfold b3f at h
  cases hf : b3es.find? fun e => Value.isInt k e.key with
  | none => rw [hf] at h; cases h
  | some e =>
    rw [hf] at h
    have he := List.mem_of_find?_eq_some hf
    have h2 := List.all_eq_true.mp b3all e he
    obtain rfl : e.val = v := by simpa using h
    revert h2
    cases e.val with
    | str y u => exact fun _ => ⟨y, u, rfl⟩
    | _ => intro h2; cases h2
noncomputable def signAt (k f : Nat) : Nat := let c := (Str.ofString "abcdhkmp").cps.getD k 0
  if f = 0 then c else if f = 1 then ((c : Int) - 32).toNat else (greatsL.getD (f - 2) 0 + (c : Int) - 97).toNat
theorem told_1 : ((List.range 8).all fun k => (List.range 12).all fun f => pieceN (signAt k f) == [(Str.ofString "abcdhkmp").cps.getD k 0]) = true := by decide +kernel
theorem told_2 : ((List.range 13).all fun k => pieceN (squaresL.getD k (0, Str.empty)).1.toNat == (squaresL.getD k (0, Str.empty)).2.cps.toList) = true := by decide +kernel
theorem told_3 : ((List.range 27).all fun k => pieceN (hiddenL.getD k 0).toNat == []) = true := by decide +kernel
theorem all_range {n : Nat} {f : Nat → Bool} (h : (List.range n).all f = true) {k : Nat} (hk : k < n) : f k = true := List.all_eq_true.mp h k (List.mem_range.mpr hk)
/-- what a sign is prepared to is what it means -/
theorem piece_sign (x : Int) : pieceN (signOf x) = meanOf x := by
  obtain ⟨a0, a1⟩ : 0 ≤ x.fmod 4 ∧ x.fmod 4 < 4 := modB (by decide)
  obtain ⟨k0, k1⟩ : 0 ≤ (x.fdiv 4).fmod 8 ∧ (x.fdiv 4).fmod 8 < 8 := modB (by decide)
  obtain ⟨f0, f1⟩ : 0 ≤ ((x.fdiv 4).fdiv 8).fmod 12 ∧ ((x.fdiv 4).fdiv 8).fmod 12 < 12 := modB (by decide)
  obtain ⟨q0, q1⟩ : 0 ≤ (x.fdiv 4).fmod 13 ∧ (x.fdiv 4).fmod 13 < 13 := modB (by decide)
  obtain ⟨d0, d1⟩ : 0 ≤ (x.fdiv 4).fmod 27 ∧ (x.fdiv 4).fmod 27 < 27 := modB (by decide)
  unfold meanOf
  by_cases h2 : x.fmod 4 < 2
  · rw [if_pos h2]
    have h := eq_of_beq (all_range (all_range told_1 (by omega : ((x.fdiv 4).fmod 8).toNat < 8)) (by omega : (((x.fdiv 4).fdiv 8).fmod 12).toNat < 12))
    have e : signOf x = signAt ((x.fdiv 4).fmod 8).toNat (((x.fdiv 4).fdiv 8).fmod 12).toNat := by
      unfold signOf signAt letOf
      rw [if_pos h2]
      dsimp only
      generalize ((x.fdiv 4).fdiv 8).fmod 12 = f at *
      by_cases g0 : f = 0
      · have z0 : f.toNat = 0 := by omega
        rw [if_pos g0, if_pos z0]
      · have z0 : ¬ f.toNat = 0 := by omega
        rw [if_neg g0, if_neg z0]
        by_cases g1 : f = 1
        · have z1 : f.toNat = 1 := by omega
          rw [if_pos g1, if_pos z1]
        · have z1 : ¬ f.toNat = 1 := by omega
          rw [if_neg g1, if_neg z1, show (f - 2).toNat = f.toNat - 2 by omega]
    rw [e, h]; rfl
  · rw [if_neg h2]
    by_cases h3 : x.fmod 4 = 2
    · rw [if_pos h3]
      have h := eq_of_beq (all_range told_2 (by omega : ((x.fdiv 4).fmod 13).toNat < 13))
      rw [show signOf x = (squaresL.getD ((x.fdiv 4).fmod 13).toNat (0, Str.empty)).1.toNat by unfold signOf; rw [if_neg h2, if_pos h3], h]
    · rw [if_neg h3]
      have h := eq_of_beq (all_range told_3 (by omega : ((x.fdiv 4).fmod 27).toNat < 27))
      rw [show signOf x = (hiddenL.getD ((x.fdiv 4).fmod 27).toNat 0).toNat by unfold signOf; rw [if_neg h2, if_neg h3], h]
theorem told_is (ns : List Int) : (ns.map signOf).flatMap pieceN = ns.flatMap meanOf := by
  induction ns with
  | nil => rfl
  | cons x r ih => rw [List.map_cons, List.flatMap_cons, ih, List.flatMap_cons, piece_sign]
noncomputable def letN (c : Nat) : Bool := (Str.ofString "abcdhkmp").cps.toList.contains c
theorem mean_1 : ((List.range 8).all fun k => letN ((Str.ofString "abcdhkmp").cps.getD k 0)) = true := by decide +kernel
theorem mean_2 : ((List.range 13).all fun k => decide ((squaresL.getD k (0, Str.empty)).2.cps.toList.length ≤ 3) && (squaresL.getD k (0, Str.empty)).2.cps.toList.all letN) = true := by decide +kernel
theorem mean_ok (x : Int) : (meanOf x).length ≤ 3 ∧ ∀ c ∈ meanOf x, letN c = true := by
  obtain ⟨k0, k1⟩ : 0 ≤ (x.fdiv 4).fmod 8 ∧ (x.fdiv 4).fmod 8 < 8 := modB (by decide)
  obtain ⟨q0, q1⟩ : 0 ≤ (x.fdiv 4).fmod 13 ∧ (x.fdiv 4).fmod 13 < 13 := modB (by decide)
  unfold meanOf
  split
  · refine ⟨by simp, fun c hc => ?_⟩
    rw [List.mem_singleton.mp hc]
    exact all_range mean_1 (by omega : ((x.fdiv 4).fmod 8).toNat < 8)
  · split
    · have h := all_range mean_2 (by omega : ((x.fdiv 4).fmod 13).toNat < 13)
      rw [Bool.and_eq_true] at h
      exact ⟨of_decide_eq_true h.1, fun c hc => List.all_eq_true.mp h.2 c hc⟩
    · exact ⟨by simp, by simp⟩
theorem means_ok (ns : List Int) : (ns.flatMap meanOf).length ≤ 3 * ns.length ∧ ∀ c ∈ ns.flatMap meanOf, letN c = true := by
  refine ⟨?_, fun c hc => ?_⟩
  · induction ns with
    | nil => simp
    | cons x r ih => rw [List.flatMap_cons, List.length_append, List.length_cons]; have := (mean_ok x).1; omega
  · obtain ⟨x, _, h⟩ := List.mem_flatMap.mp hc
    exact (mean_ok x).2 c h
end

section
open PySem PySem.W PySem.Spec PySem.Calls PyProof.Rows PyProof.Rows.LCg PyProof.Rows.LCt PyProof.Rows.LCp PySem.Builtin.Str
set_option maxRecDepth 100000
set_option maxHeartbeats 2000000
structure DivIs (a b : Int) (x : UInt64) : Prop where
  nz : b ≠ 0
  fin : ¬ Float64.isInf (Float64.ofFrac (decide (a < 0) != decide (b < 0)) a.natAbs b.natAbs) = true
  eq : Float64.ofFrac (decide (a < 0) != decide (b < 0)) a.natAbs b.natAbs = x
theorem fq_fin : ((List.range 17).all fun n => !(Float64.isInf (fq n 4)) && !(Float64.isInf (fq n 8)) && !(Float64.isInf (fq n 16))) = true := by decide +kernel
theorem divIs_nat {a b : Int} {n d : Nat} (ha : a = n) (hb : b = d) (hn : n < 17) (hd : d = 4 ∨ d = 8 ∨ d = 16) : DivIs a b (fq n d) := by
  subst ha hb
  have h := all_range fq_fin hn
  simp only [Bool.and_eq_true, Bool.not_eq_true'] at h
  have e : Float64.ofFrac (decide ((n : Int) < 0) != decide ((d : Int) < 0)) (n : Int).natAbs (d : Int).natAbs = fq n d := by
    rw [decide_eq_false (by omega), decide_eq_false (by omega)]; rfl
  refine ⟨by omega, ?_, e⟩
  rw [e]
  rcases hd with rfl | rfl | rfl
  · rw [h.1.1]; exact Bool.false_ne_true
  · rw [h.1.2]; exact Bool.false_ne_true
  · rw [h.2]; exact Bool.false_ne_true
structure AddIs (x : UInt64) (n : Int) (y : UInt64) : Prop where
  fin : ¬ Float64.isInf (Float64.ofInt n) = true
  eq : Float64.add x (Float64.ofInt n) = y
theorem oi_fin : ((List.range 4).all fun n => !(Float64.isInf (Float64.ofInt (n : Int)))) = true := by decide +kernel
theorem addIs_nat {x : UInt64} {k : Int} {n : Nat} (hk : k = n) (hn : n < 4) : AddIs x k (Float64.add x (Float64.ofInt n)) := by
  subst hk
  have h := all_range oi_fin hn
  rw [Bool.not_eq_true'] at h
  exact ⟨by rw [h]; exact Bool.false_ne_true, rfl⟩
structure PlaceIs (c p : Nat) : Prop where
  lt : p < 8
  occ : occurrences (Str.ofString "abcdhkmp") ⟨#[c]⟩ 0 (Str.ofString "abcdhkmp").length 1 = [p]
  at_ : (Str.ofString "abcdhkmp").cps.getD p 0 = c
theorem place_all : ((List.range 8).all fun p => occurrences (Str.ofString "abcdhkmp") ⟨#[(Str.ofString "abcdhkmp").cps.getD p 0]⟩ 0 (Str.ofString "abcdhkmp").length 1 == [p]) = true := by decide +kernel
theorem place_of {c : Nat} (h : letN c = true) : ∃ p, PlaceIs c p := by
  have hc : c ∈ (Str.ofString "abcdhkmp").cps.toList := List.contains_iff_mem.mp h
  obtain ⟨p, hp, e⟩ := List.getElem_of_mem hc
  have hp8 : p < 8 := hp
  have e2 : (Str.ofString "abcdhkmp").cps.getD p 0 = c := by
    have hp' : p < (Str.ofString "abcdhkmp").cps.size := hp8
    rw [← e]; simp [Array.getD, hp']
  exact ⟨p, hp8, by rw [← e2]; exact eq_of_beq (all_range place_all hp8), e2⟩
noncomputable def wordS (p : Nat) : Str := ⟨(wordB p).toArray⟩
noncomputable def maskOf (l : List Nat) : Nat := l.foldl (fun n c => n ||| 2 ^ (((Str.ofString "abcdhkmp").cps.toList.idxOf c))) 0
theorem paint_ex (mood : Int) (k : Int) {p : Nat} (hp : p < 8) : ∃ S V H r g bl lt, DivIs (1 + (mood + k).fmod 4) 4 S ∧ DivIs (1 + (mood.fdiv 4 + k).fmod 4) 4 V ∧ DivIs (2 * (p : Int) + 1) 16 (hueB p) ∧ AddIs (hueB p) ((mood.fdiv 16 + k).fmod 3) H ∧
    hsvOk H S = true ∧ hsvR H S V = (r, g, bl) ∧ hlsOk r g bl = true ∧ hlsH r g bl = hueB p ∧ hlsL r g bl = lt ∧
    ∀ j, j < 4 → ∃ x y z, hsvOk (Float64.add (hueB p) (fq j 8)) S = true ∧ hsvR (Float64.add (hueB p) (fq j 8)) S V = (x, y, z) ∧ (Float64.cmp x lt == some .gt) = greatB p j := by
  obtain ⟨a0, a1⟩ : 0 ≤ (mood + k).fmod 4 ∧ (mood + k).fmod 4 < 4 := modB (by decide)
  obtain ⟨b0, b1⟩ : 0 ≤ (mood.fdiv 4 + k).fmod 4 ∧ (mood.fdiv 4 + k).fmod 4 < 4 := modB (by decide)
  obtain ⟨c0, c1⟩ : 0 ≤ (mood.fdiv 16 + k).fmod 3 ∧ (mood.fdiv 16 + k).fmod 3 < 3 := modB (by decide)
  obtain ⟨a, ha⟩ : ∃ a : Nat, (mood + k).fmod 4 = a := ⟨_, (Int.toNat_of_nonneg a0).symm⟩
  obtain ⟨b, hb⟩ : ∃ b : Nat, (mood.fdiv 4 + k).fmod 4 = b := ⟨_, (Int.toNat_of_nonneg b0).symm⟩
  obtain ⟨c, hc⟩ : ∃ c : Nat, (mood.fdiv 16 + k).fmod 3 = c := ⟨_, (Int.toNat_of_nonneg c0).symm⟩
  rw [ha] at a1 ⊢; rw [hb] at b1 ⊢; rw [hc] at c1 ⊢
  have h := all_range (all_range (all_range (all_range paint_all hp) (by omega : a < 4)) (by omega : b < 4)) (by omega : c < 3)
  unfold paintOk at h
  simp only [Bool.and_eq_true] at h
  obtain ⟨⟨⟨h1, h2⟩, h3⟩, h4⟩ := h
  rcases e : hsvR (Float64.add (hueB p) (Float64.ofInt c)) (fq (1 + a) 4) (fq (1 + b) 4) with ⟨r, g, bl⟩
  rw [e] at h2 h3
  refine ⟨fq (1 + a) 4, fq (1 + b) 4, _, r, g, bl, _, divIs_nat (by omega) rfl (by omega) (.inl rfl), divIs_nat (by omega) rfl (by omega) (.inl rfl), divIs_nat (by omega) rfl (by omega) (.inr (.inr rfl)), addIs_nat rfl (by omega), h1, e, h2, eq_of_beq h3, rfl, fun j hj => ?_⟩
  have h5 := all_range h4 hj
  rw [Bool.and_eq_true] at h5
  rcases e2 : hsvR (Float64.add (hueB p) (fq j 8)) (fq (1 + a) 4) (fq (1 + b) 4) with ⟨x, y, z⟩
  refine ⟨x, y, z, h5.1, rfl, ?_⟩
  have h6 := eq_of_beq h5.2
  rw [e2] at h6
  unfold lightB at h6
  rw [e] at h6
  exact h6
theorem idx_all : ((List.range 8).all fun p => (Str.ofString "abcdhkmp").cps.toList.idxOf ((Str.ofString "abcdhkmp").cps.getD p 0) == p) = true := by decide +kernel
theorem idx_of {c p : Nat} (h : PlaceIs c p) : (Str.ofString "abcdhkmp").cps.toList.idxOf c = p := by
  have := eq_of_beq (all_range idx_all h.lt)
  rw [h.at_] at this; exact this
theorem mask_go : ∀ (l : List Nat) (n : Nat), n < 2 ^ 8 → (∀ c ∈ l, letN c = true) → l.foldl (fun n c => n ||| 2 ^ (((Str.ofString "abcdhkmp").cps.toList.idxOf c))) n < 2 ^ 8
  | [], n, hn, _ => hn
  | c :: r, n, hn, hl => by
    obtain ⟨p, hp⟩ := place_of (hl c List.mem_cons_self)
    rw [List.foldl_cons, idx_of hp]
    exact mask_go r _ (Nat.or_lt_two_pow hn (Nat.pow_lt_pow_right (by decide) hp.lt)) fun d hd => hl d (List.mem_cons_of_mem _ hd)
theorem mask_lt {l : List Nat} (h : ∀ c ∈ l, letN c = true) : maskOf l < 256 := mask_go l 0 (by decide) h
theorem mask_step {tl : List Nat} {i c p : Nat} (hi : i < tl.length) (hc : tl.getD i 0 = c) (hp : PlaceIs c p) : maskOf (tl.take (i + 1)) = maskOf (tl.take i) ||| 2 ^ p := by
  have e : tl[i] = c := by rw [← hc, List.getD_eq_getElem?_getD, List.getElem?_eq_getElem hi]; rfl
  unfold maskOf
  rw [takeSnoc hi e, List.foldl_append, List.foldl_cons, List.foldl_nil, idx_of hp]
theorem or_all : ((List.range 256).all fun n => (List.range 8).all fun p => !(n.testBit p) || n ||| 2 ^ p == n) = true := by decide +kernel
theorem or_same {n p : Nat} (hn : n < 256) (hp : p < 8) (h : n.testBit p = true) : n ||| 2 ^ p = n := by
  have := all_range (all_range or_all hn) hp
  rw [h] at this
  exact eq_of_beq this
theorem put_in {n p : Nat} (hn : n < 256) (hp : p < 8) (h : n.testBit p = true) : bisL ((psM n).map hueB) (hueB p) < (psM n).length ∧ (Float64.cmp (((psM n).map hueB).getD (bisL ((psM n).map hueB) (hueB p)) 0) (hueB p) == some .eq) = true := by
  have := all_range (all_range put_all hn) hp
  unfold putOk at this
  rw [if_pos h, Bool.and_eq_true] at this
  exact ⟨of_decide_eq_true this.1, this.2⟩
theorem put_out {n p : Nat} (hn : n < 256) (hp : p < 8) (h : ¬ n.testBit p = true) : bisL ((psM n).map hueB) (hueB p) ≤ (psM n).length ∧ (bisL ((psM n).map hueB) (hueB p) = (psM n).length ∨ (Float64.cmp (((psM n).map hueB).getD (bisL ((psM n).map hueB) (hueB p)) 0) (hueB p) == some .eq) = false) ∧
    (psM n).take (bisL ((psM n).map hueB) (hueB p)) ++ p :: (psM n).drop (bisL ((psM n).map hueB) (hueB p)) = psM (n ||| 2 ^ p) := by
  have := all_range (all_range put_all hn) hp
  unfold putOk at this
  rw [if_neg h] at this
  simp only [Bool.and_eq_true, Bool.or_eq_true, Bool.not_eq_true', decide_eq_true_eq] at this
  exact ⟨this.1.1, this.1.2, eq_of_beq this.2⟩
theorem psM_len (n : Nat) : (psM n).length ≤ 8 := Nat.le_trans (List.length_filter_le ..) (by simp)
theorem neEq {α : Type} [BEq α] {a b : α} (h2 : (a == b) = true) (h1 : (a != b) = true) : False := by simp [bne, h2] at h1
theorem FlsAre.append {vs ws : List Value} {xs ys : List UInt64} (h : FlsAre vs xs) (h' : FlsAre ws ys) : FlsAre (vs ++ ws) (xs ++ ys) := by
  induction h with
  | nil => exact h'
  | cons x t _ ih => exact .cons x t ih
theorem FlsAre.take {vs : List Value} {xs : List UInt64} (h : FlsAre vs xs) : ∀ k, FlsAre (vs.take k) (xs.take k) := by
  induction h with
  | nil => intro k; simp only [List.take_nil]; exact .nil
  | cons x t _ ih => intro k; cases k with
    | zero => exact .nil
    | succ k => exact .cons x t (ih k)
theorem FlsAre.drop {vs : List Value} {xs : List UInt64} (h : FlsAre vs xs) : ∀ k, FlsAre (vs.drop k) (xs.drop k) := by
  induction h with
  | nil => intro k; simp only [List.drop_nil]; exact .nil
  | cons x t h ih => intro k; cases k with
    | zero => exact .cons x t h
    | succ k => exact ih k
theorem flsIns {vs : List Value} {ps ps' : List Nat} {p k : Nat} {t : Tok} (h : FlsAre vs (ps.map hueB)) (e : ps.take k ++ p :: ps.drop k = ps') : FlsAre (vs.take k ++ .float (hueB p) t :: vs.drop k) (ps'.map hueB) := by
  rw [← e, List.map_append, List.map_cons, List.map_take, List.map_drop]
  exact (h.take k).append (.cons _ _ (h.drop k))
theorem sApp {vs ws : List Value} {xs ys : List Str} (h : StrsAre vs xs) (h' : StrsAre ws ys) : StrsAre (vs ++ ws) (xs ++ ys) := by
  induction h with
  | nil => exact h'
  | cons x t _ ih => exact .cons x t ih
theorem sTake {vs : List Value} {xs : List Str} (h : StrsAre vs xs) : ∀ k, StrsAre (vs.take k) (xs.take k) := by
  induction h with
  | nil => intro k; simp only [List.take_nil]; exact .nil
  | cons x t _ ih => intro k; cases k with
    | zero => exact .nil
    | succ k => exact .cons x t (ih k)
theorem sDrop {vs : List Value} {xs : List Str} (h : StrsAre vs xs) : ∀ k, StrsAre (vs.drop k) (xs.drop k) := by
  induction h with
  | nil => intro k; simp only [List.drop_nil]; exact .nil
  | cons x t h ih => intro k; cases k with
    | zero => exact .cons x t h
    | succ k => exact ih k
theorem sLen {vs : List Value} {xs : List Str} (h : StrsAre vs xs) : vs.length = xs.length := by
  induction h with
  | nil => rfl
  | cons x t _ ih => simp [ih]
theorem strsIns {vs : List Value} {ps ps' : List Nat} {p k : Nat} {t : Tok} (h : StrsAre vs (ps.map wordS)) (e : ps.take k ++ p :: ps.drop k = ps') : StrsAre (vs.take k ++ .str (wordS p) t :: vs.drop k) (ps'.map wordS) := by
  rw [← e, List.map_append, List.map_cons, List.map_take, List.map_drop]
  exact sApp (sTake h k) (.cons _ _ (sDrop h k))
theorem word_all : ((List.range 8).all fun p => (List.range 4).all fun j => (wordB p).take (j + 1) == (wordB p).take j ++ [if greatB p j then (Str.ofString "ABCD").cps.getD j 0 else (Str.ofString "abcd").cps.getD j 0]) = true := by decide +kernel
theorem wordT {p j c : Nat} (hp : p < 8) (hj : j < 4) (hg : greatB p j = true) (hc : Is c ((Str.ofString "ABCD").cps.getD (0 + (j : Int)).toNat 0)) : (wordB p).take j ++ [c] = (wordB p).take (j + 1) := by
  have h := eq_of_beq (all_range (all_range word_all hp) hj)
  rw [show (0 + (j : Int)).toNat = j by omega] at hc
  rw [h, if_pos hg, hc.eq]
theorem wordF {p j c : Nat} (hp : p < 8) (hj : j < 4) (hg : greatB p j = false) (hc : Is c ((Str.ofString "abcd").cps.getD (0 + (j : Int)).toNat 0)) : (wordB p).take j ++ [c] = (wordB p).take (j + 1) := by
  have h := eq_of_beq (all_range (all_range word_all hp) hj)
  rw [show (0 + (j : Int)).toNat = j by omega] at hc
  rw [h, if_neg (by rw [hg]; exact Bool.false_ne_true), hc.eq]
/-- every float of a list bears a real token -/
noncomputable def NzF (vs : List Value) : Prop := ∀ x t, Value.float x t ∈ vs → t ≠ 0
theorem nzNil : NzF [] := fun _ _ h => (nomatch h)
theorem nzSnoc {vs : List Value} {x : UInt64} {t : Tok} (h : NzF vs) (ht : t ≠ 0) : NzF (vs ++ [.float x t]) := fun y u hm => by
  rcases List.mem_append.mp hm with hm | hm
  · exact h y u hm
  · rw [List.mem_singleton] at hm; cases hm; exact ht
theorem nzIns {vs : List Value} {x : UInt64} {t : Tok} {k : Nat} (h : NzF vs) (ht : t ≠ 0) : NzF (vs.take k ++ .float x t :: vs.drop k) := fun y u hm => by
  rcases List.mem_append.mp hm with hm | hm
  · exact h y u (List.mem_of_mem_take hm)
  · rcases List.mem_cons.mp hm with hm | hm
    · cases hm; exact ht
    · exact h y u (List.mem_of_mem_drop hm)
section
variable {prog : Program} {w : World} {A : Around} {E : Value → Shared → Prop} {s : Shared} {Q : Value → Shared → Prop} {h₀ : Heap} {L l : Addr} {m : Str → Option Value} {news : List (Addr × Obj)}
theorem div_is {a b : Int} {x : UInt64} {t u : Tok} (hA : A.handled = none) (h : DivIs a b x) (hQ : ∀ t' tk, Q (.float x t') { s with toks := tk }) : wpAny (model prog w) A (binaryOp .Div (.int a t) (.int b u)) Q E s :=
  Flt.div_ii hA (fun e => absurd e h.nz) (fun _ hi => absurd hi h.fin) (fun _ _ => h.eq ▸ hQ _ _)
theorem add_is {x y : UInt64} {n : Int} {t u : Tok} (hA : A.handled = none) (h : AddIs x n y) (hQ : ∀ t' tk, Q (.float y t') { s with toks := tk }) : wpAny (model prog w) A (binaryOp .Add (.float x t) (.int n u)) Q E s :=
  add_fi_or hA (fun hi => absurd hi h.fin) (fun _ => h.eq ▸ hQ _ _)
theorem indexL {c p : Nat} {t u : Tok} (h : PlaceIs c p) (hQ : ∀ t' tk, Q (.int p t') { s with toks := tk }) : wpAny (model prog w) A (call (.builtin "str.index") [.str (Str.ofString "abcdhkmp") t, .str ⟨#[c]⟩ u]) Q E s :=
  SC.index h.occ (hQ _ _)
theorem toldAt {value slice : PySem.Expr} {la : List Nat} {t u : Tok} {k : Int} {c : Nat} (hc : la.getD k.toNat 0 = c) (h0 : 0 ≤ k) (h1 : k < la.length) (hz : la.length ≤ 64)
    (h : ∀ t' tk, Q (.str ⟨#[c]⟩ t') { s with toks := tk })
    (hs : subscripted slice false (.str ⟨la.toArray⟩ t) (.int k u) = operate [.str ⟨la.toArray⟩ t, .int k u] (getItem (.str ⟨la.toArray⟩ t) (.int k u)) := by with_unfolding_all rfl)
    (ht : ∀ r, letTemporaryGo value (.str ⟨la.toArray⟩ t) r = pure () := by intro _; with_unfolding_all rfl) :
    wpAny (model prog w) A (subscriptTail value slice (.str ⟨la.toArray⟩ t) (.int k u)) Q E s :=
  strItemL h0 h1 hz (fun t' tk d hd => by rw [hd.eq, hc]; exact h t' tk) hs ht
theorem hueAt {value slice : PySem.Expr} {vs : List Value} {xs : List UInt64} {n : Nat} {k : Int} {u : Tok} {x : UInt64} (hx : xs.getD k.toNat 0 = x) (N : News h₀ L s.heap news) (hm : (l, listOf vs.toArray n) ∈ news) (hv : FlsAre vs xs) (h0 : 0 ≤ k) (h1 : k.toNat < xs.length) (h2 : xs.length < 2 ^ 62)
    (h : ∀ t, Q (.float x t) s) (hs : subscripted slice false (.ref l) (.int k u) = operate [.ref l, .int k u] (getItem (.ref l) (.int k u)) := by with_unfolding_all rfl) :
    wpAny (model prog w) A (subscriptTail value slice (.ref l) (.int k u)) Q E s := flItem N hm hv h0 h1 h2 (hx ▸ h) hs
theorem insertM {pl : Sem Bool} {vs : List Value} {n : Nat} {Q : Value × List Value → Shared → Prop} (N : News h₀ L s.heap news) (hm : (l, listOf vs.toArray n) ∈ news) (h : Q (.builtin "list.insert", [.ref l]) s) :
    wpAny (model prog w) A (getMethod (.ref l) "insert" pl) Q E s :=
  getMethod_builtin ⟨_, (N _ hm).1, rfl⟩ PySem.F.plainAttrs_list PySem.F.slot_list_insert PySem.F.type_list_insert (fun a e => by cases e; exact ⟨_, (N _ hm).1, rfl⟩) h
/-- an insertion; the ledger is given anew -/
theorem insertL {x : Value} {k : Nat} {u : Tok} {vs : List Value} {n : Nat} (rest : List (Addr × Obj)) (F : Fr h₀ L s.heap m) (N : News h₀ L s.heap news) (hm : (l, listOf vs.toArray n) ∈ news) (hs : ∀ p ∈ rest, p ∈ news) (ho : ∀ p ∈ rest, p.1 ≠ l) (hk : k ≤ vs.length) (hz : vs.length ≤ 64)
    (h : ∀ h', Fr h₀ L h' m → News h₀ L h' ((l, listOf (vs.take k ++ x :: vs.drop k).toArray (n + 1)) :: rest) → Q .none { s with heap := h' }) : wpAny (model prog w) A (call (.builtin "list.insert") [.ref l, .int (k : Int) u, x]) Q E s := by
  refine kl_insert (l := vs.take k ++ x :: vs.drop k) (news := (l, listOf vs.toArray n) :: rest) F (fun p hp => ?_) ?_ ?_ (.head ho) (by exact Nat.le_trans hz (by decide)) h
  · rcases List.mem_cons.mp hp with rfl | hp
    · exact N _ hm
    · exact N _ (hs p hp)
  · simp [Builtin.List.listFitsIndex]; omega
  · unfold kl_ins
    rw [if_neg (by omega), Int.toNat_natCast, Nat.min_eq_left hk]
end
end

section
open PySem PySem.W PySem.Spec PySem.Calls PyProof.Rows PyProof.Rows.LCg PyProof.Rows.LCt PyProof.Rows.LCp PySem.Builtin.Str
set_option maxRecDepth 100000
set_option maxHeartbeats 2000000
theorem subOne {tl : List Nat} {d i : Nat} (hi : i < tl.length) : subAt ⟨tl.toArray⟩ ⟨#[d]⟩ i = (tl[i] == d) := by
  unfold subAt
  have : (tl.toArray).extract i (i + (⟨#[d]⟩ : Str).length) = #[tl[i]] := by
    show (tl.toArray).extract i (i + 1) = _
    apply Array.ext'
    simp [List.take_one, List.head?_drop, hi]
  rw [this]
  simp
theorem containsOne (tl : List Nat) (d : Nat) : Txt.contains ⟨tl.toArray⟩ ⟨#[d]⟩ = tl.contains d := by
  unfold Txt.contains
  rcases StrLaws.occ_head ⟨tl.toArray⟩ ⟨#[d]⟩ 1 (Nat.le_refl 1) with ⟨h, hn⟩ | ⟨i, r, h, ⟨h1, h2⟩, _⟩
  · rw [h]
    symm
    show tl.contains d = false
    rw [← Bool.not_eq_true, List.contains_iff_mem]
    intro hm
    obtain ⟨i, hi, e⟩ := List.getElem_of_mem hm
    refine hn i ⟨?_, ?_⟩
    · show i + 1 ≤ tl.toArray.size
      simp; omega
    · rw [subOne hi, e]; simp
  · rw [h]
    symm
    have hi : i < tl.length := by
      have : i + 1 ≤ tl.toArray.size := h1
      simp at this; omega
    rw [subOne hi] at h2
    show tl.contains d = true
    rw [List.contains_iff_mem, ← eq_of_beq h2]
    exact List.getElem_mem hi
theorem fold_bit (j : Nat) : ∀ (l : List Nat) (n : Nat), (l.foldl (fun n c => n ||| 2 ^ (((Str.ofString "abcdhkmp").cps.toList.idxOf c))) n).testBit j = (n.testBit j || l.any fun c => (Str.ofString "abcdhkmp").cps.toList.idxOf c == j)
  | [], n => by simp
  | c :: l, n => by
    rw [List.foldl_cons, fold_bit j l, Nat.testBit_or, Nat.testBit_two_pow, List.any_cons, Bool.or_assoc]
    congr 1
theorem mask_bit {tl : List Nat} {j d : Nat} (hj : j < 8) (hd : (Str.ofString "abcdhkmp").cps.getD j 0 = d) (ht : ∀ c ∈ tl, letN c = true) : (maskOf tl).testBit j = tl.contains d := by
  unfold maskOf
  rw [fold_bit, Nat.zero_testBit, Bool.false_or]
  have key : ∀ c, letN c = true → ((Str.ofString "abcdhkmp").cps.toList.idxOf c == j) = (c == d) := by
    intro c hc
    obtain ⟨p, hp⟩ := place_of hc
    rw [idx_of hp]
    by_cases e : p = j
    · subst e
      rw [hp.at_] at hd
      rw [hd, beq_self_eq_true, beq_self_eq_true]
    · have : c ≠ d := by
        rintro rfl
        have h9 := eq_of_beq (all_range idx_all hj)
        rw [hd, idx_of hp] at h9
        exact e h9
      rw [beq_false_of_ne e, beq_false_of_ne this]
  rw [List.contains_eq_any_beq]
  rw [Bool.eq_iff_iff, List.any_eq_true, List.any_eq_true]
  constructor
  · rintro ⟨c, hc, h⟩
    rw [key c (ht c hc)] at h
    exact ⟨c, hc, beq_iff_eq.mpr (eq_of_beq h).symm⟩
  · rintro ⟨c, hc, h⟩
    refine ⟨c, hc, ?_⟩
    rw [key c (ht c hc)]
    exact beq_iff_eq.mpr (eq_of_beq h).symm
section
variable {prog : Program} {w : World} {A : Around} {E : Value → Shared → Prop} {s : Shared} {Q : Value → Shared → Prop} {h₀ : Heap} {L l : Addr} {m : Str → Option Value} {news : List (Addr × Obj)}
theorem inTold {tl : List Nat} {j d : Nat} {k : Int} {t u : Tok} {b : Bool} (hd : Is d ((Str.ofString "abcdhkmp").cps.getD k.toNat 0)) (hk : k = (j : Int)) (hj : j < 8) (ht : ∀ c ∈ tl, letN c = true) (hb : (maskOf tl).testBit j = b)
    (h : Q (.bool b) s) : wpAny (model prog w) A (compareOp .In (.str ⟨#[d]⟩ u) (.str ⟨tl.toArray⟩ t)) Q E s := by
  refine SB.contains ?_
  rw [containsOne, ← mask_bit hj (by rw [hd.eq, hk]; simp) ht, hb]
  exact h
/-- two floats with real tokens and the same bits, no nan, are equal items -/
theorem eqFl {x : UInt64} {t u : Tok} (h1 : t ≠ 0) (h2 : u ≠ 0) (hx : (Float64.cmp x x == some .eq) = true) (hN : Float64.isNaN x = false) (hs : s.heap.Ns cStatics (fun _ => none)) : SeqAt.EqAt A s (.float x t) (.float x u) true := by
  intro prog w E Q hq
  unfold eqBool
  refine wpAny_holding ?_
  by_cases hab : (Value.float x t == Value.float x u) = true
  · rw [if_pos hab]
    exact wpAny_bind (wpAny_rule (wpAny_pure hq))
  · rw [if_neg hab]
    have htu : ¬ ((t == u) = true) := by
      intro e
      apply hab
      rw [eq_of_beq e]; simp
    dsimp only
    have fin : wpAny (model prog w) A (richCompare .Eq (.float x t) (.float x u) >>= fun r => truthOfDropped r) Q E s := by
      refine wpAny_bind (AutoFloatOps.eq_0 (Q := fun v s' => wpAny (model prog w) A (truthOfDropped v) Q E s') ?_)
      rw [hx]
      exact wpAny_truthy_bool hq
    refine wpAny_bind ?_
    show wpAny _ _ (isSame.created (x == x && !Float64.isNaN x) t u) _ _ _
    unfold isSame.created
    have h0 : ¬ ((t == 0 || u == 0) = true) := by simp [h1, h2]
    rw [if_neg h0, if_neg htu, hN]
    dsimp only
    rw [if_neg (by simp)]
    have tell : ∀ (v : Tok) (R : Bool → Shared → Prop), R false s → wpAny (model prog w) A (sharingNotTold v) R E s := fun v R hr => by
      unfold sharingNotTold
      exact wpAny_bind (wpAny_nsGet hs (wpAny_pure hr))
    refine wpAny_bind (tell t _ ?_)
    rw [if_neg Bool.false_ne_true]
    refine wpAny_bind (tell u _ ?_)
    rw [if_neg Bool.false_ne_true]
    refine wpAny_bind (wpAny_rule (wpAny_bind (wpAny_askSetting (wpAny_pure ?_))))
    split
    · exact wpAny_pure hq
    · exact fin
end
end

section
open PySem PySem.W PySem.Spec PySem.Calls PyProof.Rows PyProof.Rows.LCg PyProof.Rows.LCt PyProof.Rows.LCp PySem.Builtin.Str
set_option maxRecDepth 100000
set_option maxHeartbeats 2000000
theorem hue_all : ((List.range 8).all fun p => (Float64.cmp (hueB p) (hueB p) == some .eq) && !(Float64.isNaN (hueB p))) = true := by decide +kernel
theorem psM_lt (n : Nat) : ∀ p ∈ psM n, p < 8 := fun p hp => by
  unfold psM at hp
  exact List.mem_range.mp (List.mem_filter.mp hp).1
theorem statNs {P : Params} {h₀ h : Heap} {L : Addr} {m : Str → Option Value} (F : Fr h₀ L h m) (X : (KK P).In h₀) : h.Ns cStatics (fun _ => none) :=
  ⟨_, #[], 0, F.keep _ _ (X 2 _ rfl), rfl, fun _ he => by simp at he, fun _ => rfl⟩
theorem FlsAre.nthF {vs : List Value} {xs : List UInt64} (h : FlsAre vs xs) {j : Nat} (hj : j < vs.length) : ∃ t, vs[j] = .float (xs.getD j 0) t := by
  obtain ⟨t, ht⟩ := h.get j (by rw [← h.length]; exact hj)
  rw [List.getElem?_eq_getElem hj] at ht
  exact ⟨t, Option.some.inj ht⟩
section
variable {prog : Program} {w : World} {A : Around} {E : Value → Shared → Prop} {s : Shared} {Q : Value → Shared → Prop} {h₀ : Heap} {L l : Addr} {m : Str → Option Value} {news : List (Addr × Obj)}
theorem neHues {D : Addr} {hv ys : List Value} {ps : List Nat} {q q' : Nat} (N : News h₀ L s.heap news) (hm1 : (l, listOf hv.toArray q) ∈ news) (hm2 : (D, listOf ys.toArray q') ∈ news) (h1 : FlsAre hv (ps.map hueB)) (h2 : FlsAre ys (ps.map hueB)) (n1 : NzF hv) (n2 : NzF ys)
    (hps : ∀ p ∈ ps, p < 8) (hs : s.heap.Ns cStatics (fun _ => none)) (hu : A.units < cLine) (h : Q (.bool false) s) : wpAny (model prog w) A (compareOp .NotEq (.ref l) (.ref D)) Q E s := by
  show wpAny _ A (richCompare .NotEq _ _) Q E s
  refine SeqAt.RcNeAt.lists (e := fun _ => true) (newsList N hm1) (newsList N hm2) (by simp [h1.length, h2.length]) hu ?_ prog w E Q ?_
  · intro j j1 j2
    have k1 : j < hv.length := by simpa using j1
    have k2 : j < ys.length := by simpa using j2
    obtain ⟨t, ht⟩ := h1.nthF k1
    obtain ⟨u, hu'⟩ := h2.nthF k2
    have kp : j < ps.length := by rw [h1.length, List.length_map] at k1; exact k1
    have hx : (ps.map hueB).getD j 0 = hueB ps[j] := by
      rw [List.getD_eq_getElem?_getD, List.getElem?_map, List.getElem?_eq_getElem kp]; rfl
    have hp := all_range hue_all (hps _ (List.getElem_mem kp))
    rw [Bool.and_eq_true, Bool.not_eq_true'] at hp
    have g1 : hv.toArray[j] = .float (hueB ps[j]) t := by rw [← hx, ← ht]; simp
    have g2 : ys.toArray[j] = .float (hueB ps[j]) u := by rw [← hx, ← hu']; simp
    rw [g1, g2]
    refine eqFl (n1 (hueB ps[j]) t ?_) (n2 (hueB ps[j]) u ?_) hp.1 hp.2 hs
    · rw [← hx, ← ht]; exact List.getElem_mem k1
    · rw [← hx, ← hu']; exact List.getElem_mem k2
  · have : (List.range hv.toArray.size).all (fun _ => true) = true := by rw [List.all_eq_true]; intro _ _; rfl
    rw [this]; exact h
theorem wordItem {value slice : PySem.Expr} {vs : List Value} {ps : List Nat} {n p : Nat} {k : Int} {u : Tok} (hp : ps.getD k.toNat 0 = p) (N : News h₀ L s.heap news) (hm : (l, listOf vs.toArray n) ∈ news) (hv : StrsAre vs (ps.map wordS)) (h0 : 0 ≤ k) (h1 : k.toNat < ps.length) (h2 : ps.length ≤ 8)
    (h : ∀ t, Q (.str (wordS p) t) s) (hs : subscripted slice false (.ref l) (.int k u) = operate [.ref l, .int k u] (getItem (.ref l) (.int k u)) := by with_unfolding_all rfl) :
    wpAny (model prog w) A (subscriptTail value slice (.ref l) (.int k u)) Q E s := by
  have key : ∀ {vs : List Value} {xs : List Str}, StrsAre vs xs → ∀ i, i < xs.length → ∃ t, vs[i]? = some (.str (xs.getD i Str.empty) t) := by
    intro vs xs h
    induction h with
    | nil => intro i hi; exact absurd hi (Nat.not_lt_zero _)
    | cons x t _ ih =>
      intro i hi
      cases i with
      | zero => exact ⟨t, rfl⟩
      | succ i => simpa using ih i (Nat.lt_of_succ_lt_succ hi)
  obtain ⟨t, ht⟩ := key hv k.toNat (by rw [List.length_map]; exact h1)
  have hl : s.heap.IsList l vs.toArray := newsList N hm
  have e : (ps.map wordS).getD k.toNat Str.empty = wordS p := by
    rw [List.getD_eq_getElem?_getD, List.getElem?_map, ← hp, List.getD_eq_getElem?_getD, List.getElem?_eq_getElem h1]; rfl
  rw [e] at ht
  exact tail_any hl.typeIs slot_list_getitem.lookup (wpAny_getItem_list hl h0 (by omega) (by simpa using ht) (h t)) hs
theorem appendL {x : Value} {vs : List Value} {n : Nat} (rest : List (Addr × Obj)) (F : Fr h₀ L s.heap m) (N : News h₀ L s.heap news) (hm : (l, listOf vs.toArray n) ∈ news) (hs : ∀ p ∈ rest, p ∈ news) (ho : ∀ p ∈ rest, p.1 ≠ l) (hz : vs.length ≤ 64)
    (h : ∀ h', Fr h₀ L h' m → News h₀ L h' ((l, listOf (vs ++ [x]).toArray (n + 1)) :: rest) → Q .none { s with heap := h' }) : wpAny (model prog w) A (call (.builtin "list.append") [.ref l, x]) Q E s :=
  appendHead F (fun p hp => by
    rcases List.mem_cons.mp hp with rfl | hp
    · exact N _ hm
    · exact N _ (hs p hp)) ho (Nat.le_trans hz (by decide)) h
end
/-- the hues of the first j spots -/
noncomputable def psJ (n j : Nat) : List Nat := (List.range j).filter fun p => n.testBit p
theorem psJ_T {n j : Nat} (h : n.testBit j = true) : psJ n (j + 1) = psJ n j ++ [j] := by
  unfold psJ; rw [List.range_succ, List.filter_append]; simp [h]
theorem psJ_F {n j : Nat} (h : n.testBit j = false) : psJ n (j + 1) = psJ n j := by
  unfold psJ; rw [List.range_succ, List.filter_append]; simp [h]
theorem hueSnoc {ys : List Value} {n j : Nat} {t : Tok} (hy : FlsAre ys ((psJ n j).map hueB)) (h : n.testBit j = true) : FlsAre (ys ++ [.float (hueB j) t]) ((psJ n (j + 1)).map hueB) := by
  rw [psJ_T h, List.map_append]
  exact hy.append (.cons _ _ .nil)
theorem psM_inc (n : Nat) : (psM n).Pairwise (· < ·) := by
  unfold psM
  exact List.Pairwise.filter _ List.pairwise_lt_range
theorem ps_get {n i : Nat} (hi : i < (psM n).length) : ∃ p, p < 8 ∧ (psM n).getD i 0 = p ∧ ((psM n).map hueB).getD i 0 = hueB p := by
  refine ⟨(psM n)[i], psM_lt n _ (List.getElem_mem hi), by rw [List.getD_eq_getElem?_getD, List.getElem?_eq_getElem hi]; rfl, ?_⟩
  rw [List.getD_eq_getElem?_getD, List.getElem?_map, List.getElem?_eq_getElem hi]; rfl
theorem ps_lt {n i j : Nat} (hi : i < (psM n).length) (hj : j < i) : (psM n).getD j 0 < (psM n).getD i 0 := by
  have := List.pairwise_iff_getElem.mp (psM_inc n) j i (Nat.lt_trans hj hi) hi hj
  rw [List.getD_eq_getElem?_getD, List.getD_eq_getElem?_getD, List.getElem?_eq_getElem hi, List.getElem?_eq_getElem (Nat.lt_trans hj hi)]
  exact this
theorem lev_dist {p q : Nat} (hp : p < 8) (hq : q < p) : lev (wordB p) (wordB q) = dist p q ∧ Flt.toInt Float64.truncOf (Float64.mul (Float64.ofInt 8) (Float64.sub (hueB p) (hueB q))) = (p : Int) - q := by
  have h := all_range (all_range lev_all hp) hq
  rw [Bool.and_eq_true] at h
  exact ⟨eq_of_beq h.1, eq_of_beq h.2⟩
/-- the row of distances, so far as it is made -/
noncomputable def rowJ (n i j : Nat) : List Int := (List.range j).map fun k => dist ((psM n).getD i 0) ((psM n).getD k 0)
theorem rowJ_snoc {ys : List Value} {n i j : Nat} {c : Int} {t : Tok} (hy : IntsAre ys (rowJ n i j)) (h : c = dist ((psM n).getD i 0) ((psM n).getD j 0)) : IntsAre (ys ++ [.int c t]) (rowJ n i (j + 1)) := by
  unfold rowJ
  rw [List.range_succ, List.map_append]
  subst h
  exact hy.append (.cons _ _ .nil)
theorem farL_take {n i : Nat} (hi : i < (psM n).length) : (farL (psM n)).take (i + 1) = (farL (psM n)).take i ++ [rowJ n i i] := by
  unfold farL
  rw [← List.map_take, ← List.map_take, List.take_range, List.take_range, Nat.min_eq_left (by omega), Nat.min_eq_left (by omega), List.range_succ, List.map_append]
  rfl
theorem farL_get {n i : Nat} (hi : i < (psM n).length) : (farL (psM n)).getD i [] = rowJ n i i := by
  unfold farL
  rw [List.getD_eq_getElem?_getD, List.getElem?_map, List.getElem?_range hi]; rfl
theorem farL_len (n : Nat) : (farL (psM n)).length = (psM n).length := by unfold farL; simp
theorem rowJ_len (n i j : Nat) : (rowJ n i j).length = j := by unfold rowJ; simp
theorem rowJ_get {n i j : Nat} (k : Nat) (hk : k < j) : (rowJ n i j).getD k 0 = dist ((psM n).getD i 0) ((psM n).getD k 0) := by
  unfold rowJ
  rw [List.getD_eq_getElem?_getD, List.getElem?_map, List.getElem?_range hk]; rfl
theorem RowsIn.snoc {news : List (Addr × Obj)} {vs : List Value} {xs : List (List Int)} {a : Addr} {n : Nat} {us : List Value} {ns : List Int} (h : RowsIn news vs xs) (hm : (a, listOf us.toArray n) ∈ news) (hi : IntsAre us ns) : RowsIn news (vs ++ [.ref a]) (xs ++ [ns]) := by
  induction h with
  | nil => exact .cons a n us ns hm hi .nil
  | cons b k ws ms hb hw _ ih => exact .cons b k ws ms hb hw ih
section
variable {prog : Program} {w : World} {A : Around} {E : Value → Shared → Prop} {s : Shared} {Q : Value → Shared → Prop} {h₀ : Heap} {L l : Addr} {news : List (Addr × Obj)}
theorem rowItem9 {value slice : PySem.Expr} {news' : List (Addr × Obj)} {vs : List Value} {xs : List (List Int)} {n : Nat} {k : Int} {u : Tok} (N : News h₀ L s.heap news) (hm : (l, listOf vs.toArray n) ∈ news) (hv : RowsIn news' vs xs) (h0 : 0 ≤ k) (h1 : k.toNat < xs.length) (h2 : xs.length < 2 ^ 62) (hsub : ∀ p ∈ news', p ∈ news)
    (h : ∀ a n us, (a, listOf us.toArray n) ∈ news → IntsAre us (xs.getD k.toNat []) → Q (.ref a) s)
    (hs : subscripted slice false (.ref l) (.int k u) = operate [.ref l, .int k u] (getItem (.ref l) (.int k u)) := by with_unfolding_all rfl) :
    wpAny (model prog w) A (subscriptTail value slice (.ref l) (.int k u)) Q E s :=
  rowItem N hm hv h0 h1 h2 (fun a n us hm' hi => h a n us (hsub _ hm') hi) hs
end
theorem gap_all : ((List.range 8).all fun p => (List.range p).all fun q => !(Float64.isNaN (Float64.mul (Float64.ofInt 8) (Float64.sub (hueB p) (hueB q)))) && !(Float64.isInf (Float64.mul (Float64.ofInt 8) (Float64.sub (hueB p) (hueB q))))) = true := by decide +kernel
theorem gap_fin {p q : Nat} (hp : p < 8) (hq : q < p) : Float64.isNaN (Float64.mul (Float64.ofInt 8) (Float64.sub (hueB p) (hueB q))) = false ∧ Float64.isInf (Float64.mul (Float64.ofInt 8) (Float64.sub (hueB p) (hueB q))) = false := by
  have h := all_range (all_range gap_all hp) hq
  rw [Bool.and_eq_true, Bool.not_eq_true', Bool.not_eq_true'] at h
  exact h
noncomputable def OffF (L lf a : Addr) : Prop := a ≠ lf ∧ a ≠ L + 1 + 1 + 1 ∧ a ≠ L + 1 + 1 + 1 + 1 ∧ a ≠ L + 1 + 1 + 1 + 1 + 1
theorem off1_all {D : Addr} : ∀ {l : List (Addr × Obj)}, Off1 D l → ∀ p ∈ l, p.1 ≠ D
  | [], _, p, hp => (nomatch hp)
  | q :: l, h, p, hp => by
    rcases List.mem_cons.mp hp with rfl | hp
    · exact h.1
    · exact off1_all h.2 p hp
theorem gap_end {p q : Nat} (hp : p < 8) (hq : q < p) : dist p q = if 8 - Flt.toInt Float64.truncOf (Float64.mul (Float64.ofInt 8) (Float64.sub (hueB p) (hueB q))) < Flt.toInt Float64.truncOf (Float64.mul (Float64.ofInt 8) (Float64.sub (hueB p) (hueB q))) then 8 - Flt.toInt Float64.truncOf (Float64.mul (Float64.ofInt 8) (Float64.sub (hueB p) (hueB q))) else Flt.toInt Float64.truncOf (Float64.mul (Float64.ofInt 8) (Float64.sub (hueB p) (hueB q))) := by
  rw [(lev_dist hp hq).2]
  unfold dist
  split <;> split <;> omega
theorem end_eq {n i : Nat} (hn : n < 256) (hi : i < 3) : oddF (farL (psM n)) (1 + (i : Int)) = ringsF (leapsL (psM n) (i + 1)) (psM n).length := by
  have h := all_range end_all hn
  simp only [Bool.and_eq_true] at h
  obtain ⟨⟨h1, h2⟩, h3⟩ := h
  rcases (by omega : i = 0 ∨ i = 1 ∨ i = 2) with rfl | rfl | rfl
  · exact eq_of_beq h1
  · exact eq_of_beq h2
  · exact eq_of_beq h3
end

section
open PySem PySem.W PySem.Spec PySem.Calls PyProof.Rows
set_option maxRecDepth 100000
set_option maxHeartbeats 2000000
/-- a tree of the module's own, run by the machine in c steps -/
noncomputable def Steps (p : Program) (w : World) (n₀ : Nat) (ann : Option Value) {α : Type} (m : Sem α) (s : Shared) (q : Pos) (c : Nat) (a : α) (s' : Shared) (q' : Pos) : Prop :=
  ∀ (K : α → Sem Fin) (H : Value → Sem Fin) (gd : Bool → Bool) (lv : List Value → List Value) (code : Code) (f : Frame) (B : List Frame) (N : Nat) (r : Shared),
    topRun treeTable p w n₀ ann N s' ⟨K a, code, q', f :: B⟩ = some r → topRun treeTable p w n₀ ann (c + N) s ⟨m.wrap K H gd lv, code, q, f :: B⟩ = some r
section
variable {p : Program} {w : World} {n₀ : Nat} {ann : Option Value} {α β : Type} {s s₁ s₂ : Shared} {q q₁ q₂ : Pos}
theorem go1 {s s' r : Shared} {t t' : Thread} {N : Nat} (h1 : through t = false) (h2 : stepOk n₀ ann t = true) (h3 : step (denote treeTable) p w s t = .go s' t') (h : topRun treeTable p w n₀ ann N s' t' = some r) :
    topRun treeTable p w n₀ ann (1 + N) s t = some r := by
  rw [Nat.add_comm]; unfold topRun; rw [h1, h2, h3]; exact h
theorem Steps.pure (a : α) : Steps p w n₀ ann (Sem.pure a) s q 0 a s q := fun _ _ _ _ _ _ _ _ _ h => by rw [Nat.zero_add]; exact h
theorem Steps.pure' (a : α) : Steps p w n₀ ann (Pure.pure a) s q 0 a s q := Steps.pure a
theorem Steps.bind {m : Sem α} {f : α → Sem β} {c d : Nat} {a : α} {b : β} (h1 : Steps p w n₀ ann m s q c a s₁ q₁) (h2 : Steps p w n₀ ann (f a) s₁ q₁ d b s₂ q₂) : Steps p w n₀ ann (m >>= f) s q (c + d) b s₂ q₂ :=
  fun K H gd lv code fr B N r h => by
    rw [Sem.bind_eq_wrap', Sem.wrap_wrap, Nat.add_assoc]
    exact h1 _ _ _ _ code fr B (d + N) r (h2 K H gd lv code fr B N r h)
theorem Steps.keep {m : Sem α} {vs : List Value} {c : Nat} {a : α} (h1 : Steps p w n₀ ann m s q c a s₁ q₁) : Steps p w n₀ ann (m.keep vs) s q c a s₁ q₁ :=
  fun K H gd lv code fr B N r h => by
    rw [Sem.keep_eq_wrap, Sem.wrap_wrap]
    exact h1 _ _ _ _ code fr B N r h
theorem Steps.hold {m : Sem α} {vs : List Value} {c : Nat} {a : α} (h1 : Steps p w n₀ ann m s q c a s₁ q₁) : Steps p w n₀ ann (holding vs m) s q c a s₁ q₁ := by
  unfold holding
  split
  · exact h1
  · exact h1.keep
theorem Steps.onRaise {m : Sem α} {k : Value → Sem Unit} {c : Nat} {a : α} (h1 : Steps p w n₀ ann m s q c a s₁ q₁) : Steps p w n₀ ann (m.onRaise k) s q c a s₁ q₁ :=
  fun K H gd lv code fr B N r h => by
    rw [Sem.onRaise_eq_wrap, Sem.wrap_wrap]
    exact h1 _ _ _ _ code fr B N r h
theorem Steps.rule {t : String} : Steps p w n₀ ann (PySem.rule t) s q 1 () s q := fun K H gd lv code fr B N r h => by
  obtain ⟨hp, g, d, tk, os⟩ := s
  exact go1 rfl rfl rfl h
theorem Steps.at {x : Pos} : Steps p w n₀ ann (standAt x) s q 1 () s x := fun K H gd lv code fr B N r h => by
  obtain ⟨hp, g, d, tk, os⟩ := s
  exact go1 rfl rfl rfl h
theorem Steps.fresh : Steps p w n₀ ann PySem.fresh s q 1 s.toks { s with toks := s.toks + 1 } q := fun K H gd lv code fr B N r h => by
  obtain ⟨hp, g, d, tk, os⟩ := s
  exact go1 rfl rfl rfl h
theorem Steps.load {a : Addr} {part : Option Value} {o : Obj} (ho : s.heap.get? a = some o) : Steps p w n₀ ann (loadPart a part) s q 1 o s q := fun K H gd lv code fr B N r h => by
  obtain ⟨hp, g, d, tk, os⟩ := s
  refine go1 rfl rfl ?_ h
  show step _ _ _ ⟨hp, g, d, tk, os⟩ ⟨.load a part _, _, _, _⟩ = _
  simp only [step]
  rw [show hp.get? a = some o from ho]
  rfl
theorem Steps.upd {a : Addr} {part : Option Value} {f : Obj → Obj} (ho : (s.heap.get? a).isSome = true) (ha : Nat.ble n₀ a = true) : Steps p w n₀ ann (updatePart a part f) s q 1 () { s with heap := s.heap.update a f } q := fun K H gd lv code fr B N r h => by
  obtain ⟨hp, g, d, tk, os⟩ := s
  refine go1 rfl ?_ ?_ h
  · show (true && (Nat.ble n₀ a || a == mainNs || a == cStatics || ann == some (.ref a))) = true
    rw [ha]; rfl
  · show step _ _ _ ⟨hp, g, d, tk, os⟩ ⟨.update a part f _, _, _, _⟩ = _
    simp only [step]
    rw [if_pos ho]
    rfl
theorem Steps.alloc {o : Obj} : Steps p w n₀ ann (PySem.alloc o) s q 1 s.heap.objs.size { s with heap := s.heap.push o } q := fun K H gd lv code fr B N r h => by
  obtain ⟨hp, g, d, tk, os⟩ := s
  exact go1 rfl rfl rfl h
theorem Steps.mkInt {i : Int} : Steps p w n₀ ann (PySem.mkInt i) s q (1 + 0) (.int i s.toks) { s with toks := s.toks + 1 } q := Steps.fresh.bind (.pure _)
theorem Steps.mkText {x : Str} : Steps p w n₀ ann (PySem.mkText x) s q (1 + 0) (.str x s.toks) { s with toks := s.toks + 1 } q := Steps.fresh.bind (.pure _)
theorem Steps.count {m : Sem α} {c d : Nat} {a : α} (h : Steps p w n₀ ann m s q c a s₁ q₁) (e : c = d) : Steps p w n₀ ann m s q d a s₁ q₁ := e ▸ h
end
end

section
open PySem PySem.W PySem.Spec PySem.Calls PyProof.Rows
set_option maxRecDepth 100000
set_option maxHeartbeats 2000000
section
variable {p : Program} {n₀ : Nat} {ann : Option Value}
/-- how the hash of an int runs: five steps to the end of its own reading -/
noncomputable def HashGo (p : Program) (n₀ : Nat) (ann : Option Value) (w : World) : Prop := ∀ (k : Int) (t : Tok) (hp : Heap) (g : Array GenState) (d : Drawn) (tk : Nat) (os : OsState) (q : Pos) (K : Int → Sem Fin) (H : Value → Sem Fin) (gd : Bool → Bool) (lv : List Value → List Value) (code : Code) (f : Frame) (B : List Frame),
  topGo treeTable p w n₀ ann 5 ⟨hp, g, d, tk, os⟩ ⟨(pyHash (.int k t)).wrap K H gd lv, code, q, f :: B⟩ = some (⟨hp, g, d, tk + 1, os⟩, ⟨(pyHashByItsType.reduced (rawHash k)).wrap K H gd lv, code, q, f :: B⟩)
theorem hashGo (w : World) : HashGo p n₀ ann w := byRow2 "special-get-raises" (P := HashGo p n₀ ann)
  (fun w k t hp g d tk os q K H gd lv code f B => by kernel_rfl)
  (fun w k t hp g d tk os q K H gd lv code f B => by kernel_rfl) w
end
end

section
open PySem PySem.W PySem.Spec PySem.Calls PyProof.Rows
set_option maxRecDepth 100000
set_option maxHeartbeats 2000000
section
variable {p : Program} {w : World} {n₀ : Nat} {ann : Option Value} {s : Shared} {q : Pos}
theorem reducedEq (k : Int) : pyHashByItsType.reduced (rawHash k) = Sem.pure (hashInt k) := by
  have hr := rawHash_range k
  unfold pyHashByItsType.reduced
  rw [if_pos (by rw [decide_eq_true hr.1, decide_eq_true hr.2]; rfl)]
  rfl
theorem Steps.hash {k : Int} {t : Tok} : Steps p w n₀ ann (pyHash (.int k t)) s q 5 (hashInt k) { s with toks := s.toks + 1 } q := fun K H gd lv code f B N r h => by
  obtain ⟨hp, g, d, tk, os⟩ := s
  refine go_top (hashGo w k t hp g d tk os q K H gd lv code f B) ?_
  rw [reducedEq]
  exact h
theorem places_nil {es : Array DictEntry} {h : Int} (hn : ∀ e ∈ es.toList, e.hash ≠ h) : placesWithHash es.size (fun i => es[i]?.map (·.hash)) h = [] := by
  unfold placesWithHash
  rw [List.filter_eq_nil_iff]
  intro i hi
  rw [List.mem_range] at hi
  dsimp only
  rw [Array.getElem?_eq_getElem hi]
  have := hn es[i] (Array.getElem_mem_toList hi)
  simpa using this
theorem Steps.entries {a : Addr} {part : Option Value} {es : List DictEntry} {n : Nat} (ho : s.heap.get? a = some (dictO es n)) : Steps p w n₀ ann (dictEntries a part) s q 1 es.toArray s q := by
  unfold dictEntries
  exact (Steps.load ho).bind (d := 0) (.pure _)
theorem Steps.epoch {a : Addr} {part : Option Value} {es : List DictEntry} {n : Nat} (ho : s.heap.get? a = some (dictO es n)) : Steps p w n₀ ann (dictEpoch a part) s q 1 n s q := by
  unfold dictEpoch
  exact (Steps.load ho).bind (d := 0) (.pure _)
theorem Steps.find {a : Addr} {es : List DictEntry} {n : Nat} {k h : Int} {t : Tok} (ho : s.heap.get? a = some (dictO es n)) (hn : ∀ e ∈ es, e.hash ≠ h) : Steps p w n₀ ann (dictFind a (.int k t) h) s q 1 none s q := by
  unfold dictFind
  refine Steps.hold ?_
  refine ((Steps.entries ho).bind (d := 0) ?_)
  dsimp only
  rw [places_nil (by simpa using hn)]
  exact Steps.pure _
theorem Steps.putKey {a : Addr} {part : Option Value} {es : List DictEntry} {n : Nat} {e : DictEntry} {hp' : Heap} (ho : s.heap.get? a = some (dictO es n)) (ha : Nat.ble n₀ a = true) (hz : es.length + 1 ≤ 2 ^ 20)
    (hu : s.heap.update a (Obj.mapDictKeys fun x => x.push e) = hp') (hg : hp'.get? a = some (dictO (es ++ [e]) (n + 1))) : Steps p w n₀ ann (updateDictKeys a (fun x => x.push e) part) s q 3 () { s with heap := hp' } q := by
  unfold updateDictKeys
  refine (Steps.load ho).bind (d := 2) ?_
  dsimp only
  refine (Steps.upd (by rw [ho]; rfl) ha).bind (d := 1) ?_
  subst hu
  unfold lookBehind
  refine (Steps.load hg).bind (d := 0) ?_
  have hl : (es ++ [e]).toArray.size ≤ sizeLine + 1 := by
    rw [List.size_toArray, List.length_append]; exact Nat.le_trans hz (by decide)
  have hp : (dictO (es ++ [e]) (n + 1)).data.pastItsLine = none := by
    show (if (es ++ [e]).toArray.size > sizeLine + 1 then some "dict:memory" else none) = none
    rw [if_neg (by omega)]
  rw [hp]
  exact Steps.pure _
end
end

section
open PySem PySem.W PySem.Spec PySem.Calls PyProof.Rows
set_option maxRecDepth 100000
set_option maxHeartbeats 2000000
/-- a heap with one place marked -/
noncomputable def HS (L : Life) (pre : List Obj) (m : Obj) (suf : List Obj) : Heap := ⟨(pre ++ m :: suf).toArray, L⟩
section
variable {L : Life} {pre suf : List Obj} {m : Obj}
theorem HS_get {es : List DictEntry} {n : Nat} : (HS L pre (dictO es n) suf).get? pre.length = some (dictO es n) := by
  unfold HS Heap.get?
  simp
theorem modAt {f : Obj → Obj} : ∀ pre : List Obj, (pre ++ m :: suf).modify pre.length f = pre ++ f m :: suf
  | [] => rfl
  | x :: pre => by
    rw [List.cons_append, List.length_cons, List.modify_succ_cons, modAt pre]; rfl
theorem HS_upd {f : Obj → Obj} : (HS L pre m suf).update pre.length f = HS L pre (f m) suf := by
  unfold HS Heap.update
  simp [modAt]
theorem HS_push {o : Obj} : (HS L pre m suf).push o = HS L pre m (suf ++ [o]) := by
  unfold HS Heap.push
  simp
theorem HS_size : (HS L pre m suf).objs.size = pre.length + 1 + suf.length := by
  unfold HS
  simp; omega
theorem HS_last {o : Obj} : HS L pre m (suf ++ [o]) = HS L (pre ++ m :: suf) o [] := by
  unfold HS
  simp
end
section
variable {p : Program} {w : World} {n₀ : Nat} {ann : Option Value} {s : Shared} {q : Pos}
theorem forLoop {α : Type} {body : α → PUnit → Sem (ForInStep PUnit)} {c : Nat} : ∀ (l : List α) (st : Nat → Shared), (∀ j (hj : j < l.length), Steps p w n₀ ann (body l[j] PUnit.unit) (st j) q c (.yield PUnit.unit) (st (j + 1)) q) →
    Steps p w n₀ ann (forIn l PUnit.unit body) (st 0) q (c * l.length) PUnit.unit (st l.length) q
  | [], st, _ => by
    rw [List.forIn_nil]
    exact Steps.pure _
  | x :: l, st, h => by
    rw [List.forIn_cons]
    refine Steps.count ((h 0 (Nat.zero_lt_succ _)).bind (forLoop l (fun j => st (j + 1)) fun j hj => h (j + 1) (Nat.succ_lt_succ hj))) ?_
    rw [List.length_cons, Nat.mul_succ, Nat.add_comm]
theorem Steps.set1 {L : Life} {pre suf : List Obj} {es : List DictEntry} {n : Nat} {k : Int} {t : Tok} {v : Value} {g : Array GenState} {d : Drawn} {tk : Nat} {os : OsState} (ha : Nat.ble n₀ pre.length = true) (hz : es.length + 1 ≤ 2 ^ 20) (hn : ∀ e ∈ es, e.hash ≠ hashInt k) :
    Steps p w n₀ ann (dictSet pre.length (.int k t) v) ⟨HS L pre (dictO es n) suf, g, d, tk, os⟩ q 10 () ⟨HS L pre (dictO (es ++ [⟨hashInt k, .int k t, v⟩]) (n + 1)) suf, g, d, tk + 1, os⟩ q := by
  unfold dictSet
  refine Steps.hold (Steps.hash.bind (d := 5) ?_)
  unfold dictSetHashed
  refine Steps.hold ((Steps.find (s := ⟨_, _, _, _, _⟩) HS_get hn).bind (d := 4) ?_)
  dsimp only
  refine Steps.rule.bind (d := 3) ?_
  refine Steps.putKey (s := ⟨_, _, _, _, _⟩) (hp' := HS L pre (dictO (es ++ [⟨hashInt k, .int k t, v⟩]) (n + 1)) suf) HS_get ha hz ?_ HS_get
  exact HS_upd.trans (by simp [Obj.mapDictKeys, dictO])
theorem b3e_app (d : Nat) : ∀ (l l' : List (Int × Str)) (t : Nat), b3e d t (l ++ l') = b3e d t l ++ b3e d (t + d * l.length) l'
  | [], l', t => by simp [b3e]
  | (k, v) :: l, l', t => by
    rw [List.cons_append, b3e, b3e_app d l l' (t + d), b3e, List.cons_append, List.length_cons, Nat.mul_succ, Nat.add_assoc, Nat.add_comm d]
theorem b3e_len (d : Nat) : ∀ (l : List (Int × Str)) (t : Nat), (b3e d t l).length = l.length
  | [], _ => rfl
  | (_, _) :: l, t => by rw [b3e, List.length_cons, b3e_len d l, List.length_cons]
theorem b3e_mem (d : Nat) : ∀ (l : List (Int × Str)) (t : Nat), ∀ e ∈ b3e d t l, e.hash ∈ l.map (·.1) ∧ ∃ k u, e.key = .int k u
  | [], _, e, h => by simp [b3e] at h
  | (k, v) :: l, t, e, h => by
    rw [b3e] at h
    rcases List.mem_cons.mp h with rfl | h
    · exact ⟨by simp, _, _, rfl⟩
    · obtain ⟨h1, h2⟩ := b3e_mem d l _ e h
      exact ⟨by rw [List.map_cons]; exact List.mem_cons_of_mem _ h1, h2⟩
/-- a row of the display -/
noncomputable def rowT (P : Pos) (x : Int × Str) : Sem Value × Sem Value := (mkInt x.1, do let y ← mkText x.2; standAt P; pure y)
theorem Steps.sub17 {L : Life} {pre : List Obj} {g : Array GenState} {d : Drawn} {tk : Nat} {os : OsState} {l : List (Int × Str)} (ha : Nat.ble n₀ pre.length = true) (hl : l.length = 17) (hh : ∀ x ∈ l, hashInt x.1 = x.1) (hn : (l.map (·.1)).Nodup) {lf : Life} :
    Steps p w n₀ ann (subDict (l.map (rowT q))) ⟨⟨pre.toArray, L⟩, g, d, tk, os⟩ q (1 + (1 + (13 * 17))) pre.length ⟨HS L pre (dictO (b3e 3 tk l) 17) [], g, d, tk + 3 * 17, os⟩ q := by
  unfold subDict
  refine Steps.alloc.bind (d := 1 + (13 * 17)) ?_
  have e0 : (Heap.push ⟨pre.toArray, L⟩ { cls := .type "dict", data := .dict #[] } : Heap) = HS L pre (dictO [] 0) [] := by
    unfold HS Heap.push
    simp [dictO]
  dsimp only
  rw [e0, show (Heap.objs ⟨pre.toArray, L⟩).size = pre.length from rfl]
  refine Steps.bind (c := 1 + 13 * 17) (d := 0) (a := ()) (s₁ := ⟨HS L pre (dictO (b3e 3 tk l) 17) [], g, d, tk + 3 * 17, os⟩) (q₁ := q) (Steps.hold ?_) (.pure' _)
  rw [if_neg (by rw [List.length_map, hl]; decide)]
  refine Steps.rule.bind ?_
  have el : (l.map (rowT q)).length = 17 := by rw [List.length_map, hl]
  have ez : l.take 17 = l := by rw [← hl, List.take_length]
  have key : Steps p w n₀ ann (forIn (l.map (rowT q)) PUnit.unit fun x (_ : PUnit) => (do
      let kv ← x.1
      let vv ← holding [kv] x.2
      holding [kv, vv] (dictSet pre.length kv vv)
      Pure.pure (ForInStep.yield PUnit.unit) : Sem (ForInStep PUnit))) _ q _ _ _ q := forLoop (c := 13) (l.map (rowT q)) (fun j => ⟨HS L pre (dictO (b3e 3 tk (l.take j)) j) [], g, d, tk + 3 * j, os⟩) ?_
  · rw [el] at key
    rw [ez] at key
    exact key.bind (d := 0) (.pure' _)
  · intro j hj
    have hj' : j < l.length := by rwa [List.length_map] at hj
    have ex : (l.map (rowT q))[j] = rowT q l[j] := List.getElem_map ..
    rw [ex]
    obtain ⟨⟨k, v⟩, hx⟩ : ∃ x, l[j] = x := ⟨_, rfl⟩
    rw [hx]
    have hk : hashInt k = k := hh (k, v) (hx ▸ List.getElem_mem hj')
    have et : l.take (j + 1) = l.take j ++ [(k, v)] := by rw [List.take_add_one, List.getElem?_eq_getElem hj', hx]; rfl
    have e9 : b3e 3 tk (l.take (j + 1)) = b3e 3 tk (l.take j) ++ [⟨hashInt k, .int k (tk + 3 * j), .str v (tk + 3 * j + 1)⟩] := by
      rw [et, b3e_app, hk, List.length_take_of_le (Nat.le_of_lt hj')]; rfl
    rw [e9]
    refine Steps.mkInt.bind (d := 12) (Steps.bind (d := 10) (Steps.hold (Steps.mkText.bind (d := 1) (Steps.at.bind (d := 0) (.pure' _)))) (Steps.bind (c := 10) (d := 0) (Steps.hold (Steps.set1 ha ?_ ?_)) (.pure' _)))
    · rw [b3e_len, List.length_take]; exact Nat.le_trans (by omega : _ ≤ 18) (by decide)
    · intro e he
      have h1 := (b3e_mem 3 _ _ e he).1
      rw [hk]
      rintro rfl
      have h2 : (l.take (j + 1)).map (·.1) = (l.take j).map (·.1) ++ [e.hash] := by rw [et, List.map_append]; rfl
      have h3 : ((l.take (j + 1)).map (·.1)).Nodup := by rw [List.map_take]; exact hn.sublist (List.take_sublist ..)
      rw [h2] at h3
      exact (List.nodup_append.mp h3).2.2 _ h1 _ (List.mem_singleton.mpr rfl) rfl
end
end

section
open PySem PySem.W PySem.Spec PySem.Calls PyProof.Rows
set_option maxRecDepth 100000
set_option maxHeartbeats 2000000
section
variable {p : Program} {w : World} {n₀ : Nat} {ann : Option Value} {q : Pos} {L : Life} {g : Array GenState} {d : Drawn} {os : OsState}
noncomputable def kvs : Nat → List (Int × Str) → List (Value × Value)
  | _, [] => []
  | t, (k, v) :: r => (.int k t, .str v (t + 1)) :: kvs (t + 2) r
theorem kvs_len : ∀ (l : List (Int × Str)) (t : Nat), (kvs t l).length = l.length
  | [], _ => rfl
  | (_, _) :: l, t => by rw [kvs, List.length_cons, kvs_len l, List.length_cons]
theorem kvs_at : ∀ (l : List (Int × Str)) (t j : Nat) (hj : j < l.length) (hj' : j < (kvs t l).length), (kvs t l)[j] = (.int l[j].1 (t + 2 * j), .str l[j].2 (t + 2 * j + 1))
  | (k, v) :: l, t, 0, _, _ => rfl
  | (k, v) :: l, t, j + 1, hj, hj' => by
    have := kvs_at l (t + 2) j (Nat.lt_of_succ_lt_succ hj) (by rw [kvs_len]; exact Nat.lt_of_succ_lt_succ hj)
    rw [show t + 2 + 2 * j = t + 2 * (j + 1) by omega] at this
    exact this
theorem Steps.pairs {hp : Heap} : ∀ (l : List (Int × Str)) (tk : Nat), Steps p w n₀ ann (evalPairs (l.map (rowT q))) ⟨hp, g, d, tk, os⟩ q (3 * l.length) (kvs tk l) ⟨hp, g, d, tk + 2 * l.length, os⟩ q
  | [], tk => Steps.pure' _
  | (k, v) :: l, tk => by
    rw [List.map_cons, rowT, evalPairs, List.length_cons, Nat.mul_succ, Nat.mul_succ]
    have h := Steps.pairs (hp := hp) l (tk + 2)
    rw [show tk + 2 + 2 * l.length = tk + (2 * l.length + 2) by omega] at h
    refine Steps.count (Steps.mkInt.bind (d := 2 + (3 * l.length + 0)) (Steps.bind (d := 3 * l.length + 0) (Steps.hold (Steps.mkText.bind (d := 1) (Steps.at.bind (d := 0) (.pure' _)))) (Steps.bind (d := 0) (Steps.hold h) (.pure' _)))) (by omega)
theorem Steps.subFew {pre : List Obj} {tk : Nat} {l : List (Int × Str)} (ha : Nat.ble n₀ pre.length = true) (hl : l.length ≤ 15) (hh : ∀ x ∈ l, hashInt x.1 = x.1) (hn : (l.map (·.1)).Nodup) :
    Steps p w n₀ ann (subDict (l.map (rowT q))) ⟨⟨pre.toArray, L⟩, g, d, tk, os⟩ q (1 + (3 * l.length + 10 * l.length)) pre.length ⟨HS L pre (dictO (b3e 2 tk l) l.length) [], g, d, tk + 3 * l.length, os⟩ q := by
  unfold subDict
  refine Steps.alloc.bind (d := 3 * l.length + 10 * l.length) ?_
  have e0 : (Heap.push ⟨pre.toArray, L⟩ { cls := .type "dict", data := .dict #[] } : Heap) = HS L pre (dictO [] 0) [] := by
    unfold HS Heap.push
    simp [dictO]
  dsimp only
  rw [e0, show (Heap.objs ⟨pre.toArray, L⟩).size = pre.length from rfl]
  refine Steps.bind (c := 3 * l.length + 10 * l.length) (d := 0) (a := ()) (s₁ := ⟨HS L pre (dictO (b3e 2 tk l) l.length) [], g, d, tk + 3 * l.length, os⟩) (q₁ := q) (Steps.hold ?_) (.pure' _)
  rw [if_pos (by rw [List.length_map]; exact hl)]
  refine (Steps.pairs l tk).bind (Steps.hold ?_)
  have el : (kvs tk l).length = l.length := kvs_len ..
  have key : Steps p w n₀ ann (forIn (kvs tk l) PUnit.unit fun x (_ : PUnit) => (do
      dictSet pre.length x.1 x.2
      Pure.pure (ForInStep.yield PUnit.unit) : Sem (ForInStep PUnit))) _ q _ _ _ q := forLoop (c := 10) (kvs tk l) (fun j => ⟨HS L pre (dictO (b3e 2 tk (l.take j)) j) [], g, d, tk + 2 * l.length + j, os⟩) ?_
  · rw [el, List.take_length] at key
    rw [show tk + 2 * l.length + l.length = tk + 3 * l.length by omega] at key
    exact key.bind (d := 0) (.pure' _)
  · intro j hj
    have hj' : j < l.length := by rwa [el] at hj
    rw [kvs_at l tk j hj' hj]
    obtain ⟨⟨k, v⟩, hx⟩ : ∃ x, l[j] = x := ⟨_, rfl⟩
    rw [hx]
    have hk : hashInt k = k := hh (k, v) (hx ▸ List.getElem_mem hj')
    have et : l.take (j + 1) = l.take j ++ [(k, v)] := by rw [List.take_add_one, List.getElem?_eq_getElem hj', hx]; rfl
    have e9 : b3e 2 tk (l.take (j + 1)) = b3e 2 tk (l.take j) ++ [⟨hashInt k, .int k (tk + 2 * j), .str v (tk + 2 * j + 1)⟩] := by
      rw [et, b3e_app, hk, List.length_take_of_le (Nat.le_of_lt hj')]; rfl
    rw [e9]
    refine Steps.bind (c := 10) (d := 0) (Steps.set1 ha ?_ ?_) (.pure' _)
    · rw [b3e_len, List.length_take]; exact Nat.le_trans (by omega : _ ≤ 16) (by decide)
    · intro e he
      have h1 := (b3e_mem 2 _ _ e he).1
      rw [hk]
      rintro rfl
      have h2 : (l.take (j + 1)).map (·.1) = (l.take j).map (·.1) ++ [e.hash] := by rw [et, List.map_append]; rfl
      have h3 : ((l.take (j + 1)).map (·.1)).Nodup := by rw [List.map_take]; exact hn.sublist (List.take_sublist ..)
      rw [h2] at h3
      exact (List.nodup_append.mp h3).2.2 _ h1 _ (List.mem_singleton.mpr rfl) rfl
theorem forLoop' {α : Type} {body : α → PUnit → Sem (ForInStep PUnit)} {c N : Nat} {s s' : Shared} (l : List α) (st : Nat → Shared) (e0 : st 0 = s) (e1 : st l.length = s') (eN : c * l.length = N)
    (h : ∀ j (hj : j < l.length), Steps p w n₀ ann (body l[j] PUnit.unit) (st j) q c (.yield PUnit.unit) (st (j + 1)) q) : Steps p w n₀ ann (forIn l PUnit.unit body) s q N PUnit.unit s' q := by
  subst e0 e1 eN
  exact forLoop l st h
theorem isSubDict : isSubtype (.type "dict") (.type "dict") = Sem.pure true := by kernel_rfl
theorem iterDict : typeLookup (.type "dict") "__iter__" = Sem.pure (some (.builtin "dict.__iter__")) := by kernel_rfl
theorem Steps.merge {pre suf : List Obj} {es es' : List DictEntry} {n n' tk : Nat} (ha : Nat.ble n₀ pre.length = true) (hpre : 2 ≤ pre.length) (hne : es ≠ []) (hz : es.length + es'.length ≤ 2 ^ 19) (hk : ∀ e ∈ es', ∃ k u, e.key = .int k u) (hn : ((es ++ es').map (·.hash)).Nodup) :
    Steps p w n₀ ann (mergeMapping pre.length (.ref (pre.length + 1 + suf.length)) false) ⟨HS L pre (dictO es n) (suf ++ [dictO es' n']), g, d, tk, os⟩ q (5 + 6 * es'.length) () ⟨HS L pre (dictO (es ++ es') (n + es'.length)) (suf ++ [dictO es' n']), g, d, tk, os⟩ q := by
  have hsub : ∀ m, (HS L pre m (suf ++ [dictO es' n'])).get? (pre.length + 1 + suf.length) = some (dictO es' n') := by
    intro m
    rw [HS_last, show pre.length + 1 + suf.length = (pre ++ m :: suf).length by simp; omega]
    exact HS_get
  have hT : ∀ s : Shared, s.heap.get? (pre.length + 1 + suf.length) = some (dictO es' n') → Steps p w n₀ ann (typeOf (.ref (pre.length + 1 + suf.length))) s q 1 (.type "dict") s q := fun s hs => (Steps.load hs).bind (d := 0) (.pure' _)
  have hI : Steps p w n₀ ann (isInstance (.ref (pre.length + 1 + suf.length)) (.type "dict")) ⟨HS L pre (dictO es n) (suf ++ [dictO es' n']), g, d, tk, os⟩ q 1 true _ q :=
    (hT _ (hsub _)).bind (d := 0) (by rw [isSubDict]; exact .pure _)
  have hS : Steps p w n₀ ann (specialOf (.ref (pre.length + 1 + suf.length)) "__iter__") ⟨HS L pre (dictO es n) (suf ++ [dictO es' n']), g, d, tk, os⟩ q 1 (some (.builtin "dict.__iter__")) _ q :=
    (hT _ (hsub _)).bind (d := 0) (by rw [iterDict]; exact .pure _)
  have hb : (some (Value.builtin "dict.__iter__") == some (Value.builtin "dict.__iter__")) = true := by decide
  have hm : ¬ ((pre.length + 1 + suf.length == sysModules) = true) := by
    intro h
    have : pre.length + 1 + suf.length = 1 := eq_of_beq h
    omega
  have he : ¬ (es.toArray.isEmpty = true) := by
    simpa using hne
  unfold mergeMapping
  refine Steps.count (hI.bind (d := 4 + 6 * es'.length) ?_) (by omega)
  dsimp only
  rw [if_pos rfl]
  refine Steps.count (hS.bind (d := 0 + (3 + 6 * es'.length)) ((Steps.pure' _).bind (c := 0) (d := 3 + 6 * es'.length) ?_)) (by omega)
  rw [hb]
  dsimp only
  rw [if_neg hm]
  refine Steps.count ((Steps.entries HS_get).bind (d := 2 + 6 * es'.length) ?_) (by omega)
  rw [if_neg he]
  refine Steps.count ((Steps.entries (hsub _)).bind (d := 1 + 6 * es'.length) ((Steps.epoch (hsub _)).bind (d := 6 * es'.length) ?_)) (by omega)
  rw [List.size_toArray]
  have el : (List.range es'.length).length = es'.length := List.length_range
  refine Steps.bind (c := 6 * es'.length) (d := 0) (a := PUnit.unit) (s₁ := ⟨HS L pre (dictO (es ++ es') (n + es'.length)) (suf ++ [dictO es' n']), g, d, tk, os⟩) (q₁ := q) ?_ (.pure' _)
  refine forLoop' (c := 6) (List.range es'.length) (fun j => ⟨HS L pre (dictO (es ++ es'.take j) (n + j)) (suf ++ [dictO es' n']), g, d, tk, os⟩) (by simp) (by rw [el, List.take_length]) (by rw [el]) ?_
  · intro j hj
    rw [List.getElem_range]
    rw [el] at hj
    obtain ⟨e, hx⟩ : ∃ e, es'[j] = e := ⟨_, rfl⟩
    obtain ⟨k, u, hku⟩ := hk e (hx ▸ List.getElem_mem hj)
    have et : es ++ es'.take (j + 1) = es ++ es'.take j ++ [⟨e.hash, .int k u, e.val⟩] := by
      rw [List.take_add_one, List.getElem?_eq_getElem hj, hx, List.append_assoc, ← hku]; rfl
    have hj9 : es'.toArray[j]? = some e := by rw [List.getElem?_toArray, List.getElem?_eq_getElem hj, hx]
    rw [et]
    refine Steps.bind (c := 1) (d := 5) (Steps.entries (s := ⟨_, _, _, _, _⟩) (hsub _)) ?_
    rw [hj9]
    dsimp only
    rw [if_neg Bool.false_ne_true]
    refine Steps.bind (c := 4) (d := 1) (a := ()) (s₁ := ⟨HS L pre (dictO (es ++ es'.take j ++ [⟨e.hash, .int k u, e.val⟩]) (n + j + 1)) (suf ++ [dictO es' n']), g, d, tk, os⟩) (q₁ := q) (Steps.hold ?_) ?_
    · rw [hku]
      unfold dictPut
      refine Steps.bind (c := 1) (d := 3) (Steps.find (s := ⟨_, _, _, _, _⟩) HS_get ?_) ?_
      · intro e2 he2
        have h2 : ((es ++ es'.take j ++ [e]).map (·.hash)).Nodup := by
          have : (es ++ es'.take j ++ [e]).Sublist (es ++ es') := by
            rw [List.append_assoc, show es'.take j ++ [e] = es'.take (j + 1) by rw [List.take_add_one, List.getElem?_eq_getElem hj, hx]; rfl]
            exact (List.Sublist.refl es).append (List.take_sublist ..)
          exact hn.sublist (this.map _)
        rw [List.map_append] at h2
        exact (List.nodup_append.mp h2).2.2 _ (List.mem_map_of_mem he2) _ (List.mem_singleton.mpr rfl)
      · refine Steps.putKey (s := ⟨_, _, _, _, _⟩) (hp' := HS L pre (dictO (es ++ es'.take j ++ [⟨e.hash, .int k u, e.val⟩]) (n + j + 1)) (suf ++ [dictO es' n'])) HS_get ha ?_ ?_ HS_get
        · rw [List.length_append, List.length_take]; omega
        · exact HS_upd.trans (by simp [Obj.mapDictKeys, dictO])
    · refine Steps.bind (c := 1) (d := 0) (Steps.epoch (s := ⟨_, _, _, _, _⟩) (hsub _)) ?_
      rw [if_neg (by simp)]
      exact .pure' _
end
end

section
open PySem PySem.W PySem.Spec PySem.Calls PyProof.Rows
set_option maxRecDepth 100000
set_option maxHeartbeats 2000000
noncomputable abbrev SV2 := Sem Value × Sem Value
section
variable {p : Program} {w : World} {n₀ : Nat} {ann : Option Value} {q : Pos} {L : Life} {g : Array GenState} {d : Drawn} {os : OsState}
noncomputable def rowI (P : Pos) (x : Int × Str) : Option (Sem Value) × Sem Value := (some (rowT P x).1, (rowT P x).2)
noncomputable def subsOf : Nat → List (List (Int × Str)) → List Obj
  | _, [] => []
  | t, c :: r => dictO (b3e 3 t c) 17 :: subsOf (t + 51) r
theorem b3e_hash (d : Nat) : ∀ (l : List (Int × Str)) (t : Nat), (b3e d t l).map (·.hash) = l.map (·.1)
  | [], _ => rfl
  | (k, v) :: l, t => by rw [b3e, List.map_cons, b3e_hash d l, List.map_cons]
section
variable {f : Option (Sem Value) × Sem Value → Option Addr × List SV2 → Sem (ForInStep (Option Addr × List SV2))} {flush : List SV2 → Option Addr → Sem (Option Addr)}
theorem gather (hf1 : ∀ x main run, run.length + 1 < 17 → f (rowI q x) (main, run) = Pure.pure (.yield (main, run ++ [rowT q x]))) {main : Option Addr} {rest : List (Option (Sem Value) × Sem Value)} :
    ∀ (l : List (Int × Str)) (run : List SV2), run.length + l.length < 17 → forIn (l.map (rowI q) ++ rest) (main, run) f = forIn rest (main, run ++ l.map (rowT q)) f
  | [], run, _ => by simp
  | x :: l, run, h => by
    rw [List.length_cons] at h
    rw [List.map_cons, List.cons_append, List.forIn_cons, hf1 x main run (by omega), pure_bind]
    dsimp only
    rw [gather hf1 l (run ++ [rowT q x]) (by simp; omega)]
    simp
theorem chunk (hf1 : ∀ x main run, run.length + 1 < 17 → f (rowI q x) (main, run) = Pure.pure (.yield (main, run ++ [rowT q x])))
    (hf2 : ∀ x main run, run.length + 1 = 17 → f (rowI q x) (main, run) = (flush (run ++ [rowT q x]) main >>= fun m => Pure.pure (.yield (m, [])))) {main : Option Addr} {rest : List (Option (Sem Value) × Sem Value)} {l : List (Int × Str)} (hl : l.length = 17) :
    forIn (l.map (rowI q) ++ rest) (main, ([] : List SV2)) f = (flush (l.map (rowT q)) main >>= fun m => forIn rest (m, ([] : List SV2)) f) := by
  obtain ⟨l', x, rfl⟩ : ∃ l' x, l = l' ++ [x] := ⟨l.dropLast, l.getLast (by rintro rfl; cases hl), (List.dropLast_concat_getLast _).symm⟩
  rw [List.length_append, List.length_singleton] at hl
  rw [List.map_append, List.append_assoc, gather hf1 l' [] (by simp; omega), List.nil_append]
  show forIn (rowI q x :: rest) _ f = _
  rw [List.forIn_cons, hf2 x main (l'.map (rowT q)) (by simpa using hl), bind_assoc, List.map_append]
  rfl
theorem Steps.runs {pre : List Obj} {tk : Nat} (ha : Nat.ble n₀ pre.length = true) (hpre : 2 ≤ pre.length) (hf1 : ∀ x main run, run.length + 1 < 17 → f (rowI q x) (main, run) = Pure.pure (.yield (main, run ++ [rowT q x])))
    (hf2 : ∀ x main run, run.length + 1 = 17 → f (rowI q x) (main, run) = (flush (run ++ [rowT q x]) main >>= fun m => Pure.pure (.yield (m, []))))
    (hS : ∀ l D, l ≠ [] → ∃ k : Addr → Value → Sem Unit, flush l (some D) = (holding [.ref D] (subDict l) >>= fun sub => (holding [.ref D, .ref sub] (mergeMapping D (.ref sub) false)).onRaise (k sub) >>= fun _ => Pure.pure (some D)))
    {rest : List (Option (Sem Value) × Sem Value)} {c : Nat} {r : Option Addr × List SV2} {s' : Shared} :
    ∀ (Ls : List (List (Int × Str))) (done : List (Int × Str)) (suf : List Obj), done ≠ [] → (∀ c ∈ Ls, c.length = 17) → (∀ x ∈ Ls.flatten, hashInt x.1 = x.1) → ((done ++ Ls.flatten).map (·.1)).Nodup → (done ++ Ls.flatten).length ≤ 2 ^ 19 →
      Steps p w n₀ ann (forIn rest (some pre.length, ([] : List SV2)) f) ⟨HS L pre (dictO (b3e 3 tk (done ++ Ls.flatten)) (done ++ Ls.flatten).length) (suf ++ subsOf (tk + 3 * done.length) Ls), g, d, tk + 3 * (done ++ Ls.flatten).length, os⟩ q c r s' q →
      Steps p w n₀ ann (forIn (Ls.flatten.map (rowI q) ++ rest) (some pre.length, ([] : List SV2)) f) ⟨HS L pre (dictO (b3e 3 tk done) done.length) suf, g, d, tk + 3 * done.length, os⟩ q (330 * Ls.length + c) r s' q
  | [], done, suf, _, _, _, _, _, h => by
    simp only [List.flatten_nil, List.append_nil, subsOf, List.map_nil, List.nil_append, List.length_nil, Nat.mul_zero, Nat.zero_add] at h ⊢
    exact h
  | l :: Ls, done, suf, hd, h17, hh, hn, hz, h => by
    have hl : l.length = 17 := h17 l List.mem_cons_self
    have hlne : l.map (rowT q) ≠ [] := by intro e; rw [List.map_eq_nil_iff] at e; rw [e] at hl; cases hl
    rw [List.flatten_cons, List.map_append, List.append_assoc, chunk hf1 hf2 hl]
    rw [List.flatten_cons, ← List.append_assoc] at hn hz h
    obtain ⟨k, hk⟩ := hS (l.map (rowT q)) pre.length hlne
    rw [hk]
    have e1 : (done ++ l).length = done.length + 17 := by rw [List.length_append, hl]
    have e3 : tk + 3 * (done ++ l).length = tk + 3 * done.length + 3 * 17 := by rw [e1]; omega
    have ih := Steps.runs (pre := pre) (tk := tk) ha hpre hf1 hf2 hS (rest := rest) (c := c) (r := r) (s' := s') Ls (done ++ l) (suf ++ [dictO (b3e 3 (tk + 3 * done.length) l) 17]) (by simp [hd]) (fun c hc => h17 c (List.mem_cons_of_mem _ hc)) (fun x hx => hh x (by rw [List.flatten_cons]; exact List.mem_append.mpr (.inr hx))) hn hz
      (by
        rw [List.append_assoc suf]
        rw [e3]
        exact h)
    rw [e3, e1] at ih
    have hnl : (l.map (·.1)).Nodup := by
      rw [List.map_append, List.map_append] at hn
      exact (List.nodup_append.mp (List.nodup_append.mp hn).1).2.1
    have hn2 : ((b3e 3 tk done ++ b3e 3 (tk + 3 * done.length) l).map (·.hash)).Nodup := by
      rw [List.map_append, b3e_hash, b3e_hash, ← List.map_append]
      rw [List.map_append] at hn
      exact (List.nodup_append.mp hn).1
    have hz2 : (b3e 3 tk done).length + (b3e 3 (tk + 3 * done.length) l).length ≤ 2 ^ 19 := by
      rw [b3e_len, b3e_len]
      rw [List.length_append, List.length_append] at hz
      omega
    have hsub := Steps.sub17 (p := p) (w := w) (n₀ := n₀) (ann := ann) (q := q) (L := L) (pre := pre ++ dictO (b3e 3 tk done) done.length :: suf) (g := g) (d := d) (tk := tk + 3 * done.length) (os := os) (l := l)
      (by rw [List.length_append]; exact Nat.ble_eq.mpr (Nat.le_trans (Nat.ble_eq.mp ha) (Nat.le_add_right _ _))) hl (fun x hx => hh x (by rw [List.flatten_cons]; exact List.mem_append.mpr (.inl hx))) hnl (lf := L)
    rw [← HS_last] at hsub
    have el : (pre ++ dictO (b3e 3 tk done) done.length :: suf).length = pre.length + 1 + suf.length := by simp; omega
    rw [el] at hsub
    have hm := Steps.merge (p := p) (w := w) (n₀ := n₀) (ann := ann) (q := q) (L := L) (g := g) (d := d) (os := os) (pre := pre) (suf := suf) (es := b3e 3 tk done) (es' := b3e 3 (tk + 3 * done.length) l) (n := done.length) (n' := 17) (tk := tk + 3 * done.length + 3 * 17) ha hpre
      (by intro e; apply hd; have := b3e_len 3 done tk; rw [e] at this; exact List.eq_nil_of_length_eq_zero this.symm) hz2 (fun e he => (b3e_mem 3 _ _ e he).2) hn2
    rw [b3e_len, hl, ← b3e_app] at hm
    have h0 : Steps p w n₀ ann (holding [.ref pre.length] (subDict (l.map (rowT q)))) ⟨HS L pre (dictO (b3e 3 tk done) done.length) suf, g, d, tk + 3 * done.length, os⟩ q 223 (pre.length + 1 + suf.length) ⟨HS L pre (dictO (b3e 3 tk done) done.length) (suf ++ [dictO (b3e 3 (tk + 3 * done.length) l) 17]), g, d, tk + 3 * done.length + 3 * 17, os⟩ q := Steps.hold hsub
    refine Steps.count (Steps.bind (c := 330) (d := 330 * Ls.length + c) (Steps.bind (c := 223) (d := 107) h0 (Steps.bind (c := 107) (d := 0) (Steps.onRaise (Steps.hold hm)) (.pure' _))) ih) ?_
    rw [List.length_cons]; omega
end
end
end

section
open PySem PySem.W PySem.Spec PySem.Calls PyProof.Rows
set_option maxRecDepth 100000
set_option maxHeartbeats 2000000
section
variable {p : Program} {w : World} {n₀ : Nat} {ann : Option Value} {q : Pos} {L : Life} {g : Array GenState} {d : Drawn} {os : OsState}
noncomputable def flushG (k : Addr → Addr → Value → Sem Unit) (l : List SV2) : Option Addr → Sem (Option Addr)
  | none => subDict l >>= fun a => Pure.pure (some a)
  | some D => holding [.ref D] (subDict l) >>= fun sub => (holding [.ref D, .ref sub] (mergeMapping D (.ref sub) false)).onRaise (k D sub) >>= fun _ => Pure.pure (some D)
section
variable {k : Addr → Addr → Value → Sem Unit} {f : Option (Sem Value) × Sem Value → Option Addr × List SV2 → Sem (ForInStep (Option Addr × List SV2))} {fin : Option Addr × List SV2 → Sem Value}
theorem Steps.dispG {pre : List Obj} {tk : Nat} {c0 few : List (Int × Str)} {Ls : List (List (Int × Str))} (hf1 : ∀ x main run, run.length + 1 < 17 → f (rowI q x) (main, run) = Pure.pure (.yield (main, run ++ [rowT q x])))
    (hf2 : ∀ x main run, run.length + 1 = 17 → f (rowI q x) (main, run) = (flushG k (run ++ [rowT q x]) main >>= fun m => Pure.pure (.yield (m, []))))
    (hfin : ∀ D l, l ≠ [] → fin (some D, l) = (flushG k l (some D) >>= fun m => match m with | some d => Pure.pure (.ref d) | none => newDict))
    (ha : Nat.ble n₀ pre.length = true) (hpre : 2 ≤ pre.length) (h0 : c0.length = 17) (h17 : ∀ c ∈ Ls, c.length = 17) (hw0 : few ≠ []) (hw : few.length ≤ 15) (hh : ∀ x ∈ c0 ++ Ls.flatten ++ few, hashInt x.1 = x.1)
    (hn : ((c0 ++ Ls.flatten ++ few).map (·.1)).Nodup) (hz : (c0 ++ Ls.flatten ++ few).length ≤ 2 ^ 19) :
    Steps p w n₀ ann (forIn ((c0 ++ Ls.flatten ++ few).map (rowI q)) ((none : Option Addr), ([] : List SV2)) f >>= fin) ⟨⟨pre.toArray, L⟩, g, d, tk, os⟩ q ((223 + (330 * Ls.length + 0)) + ((1 + (3 * few.length + 10 * few.length)) + (5 + 6 * few.length))) (.ref pre.length)
      ⟨HS L pre (dictO (b3e 3 tk (c0 ++ Ls.flatten) ++ b3e 2 (tk + 3 * (c0 ++ Ls.flatten).length) few) ((c0 ++ Ls.flatten).length + few.length)) (subsOf (tk + 51) Ls ++ [dictO (b3e 2 (tk + 3 * (c0 ++ Ls.flatten).length) few) few.length]), g, d, tk + 3 * (c0 ++ Ls.flatten).length + 3 * few.length, os⟩ q := by
  have hn1 : ((c0 ++ Ls.flatten).map (·.1)).Nodup := by rw [List.map_append] at hn; exact (List.nodup_append.mp hn).1
  have hn0 : (c0.map (·.1)).Nodup := by rw [List.map_append] at hn1; exact (List.nodup_append.mp hn1).1
  have hnf : (few.map (·.1)).Nodup := by rw [List.map_append] at hn; exact (List.nodup_append.mp hn).2.1
  have hz1 : (c0 ++ Ls.flatten).length ≤ 2 ^ 19 := by rw [List.length_append] at hz; omega
  refine Steps.bind (c := 223 + (330 * Ls.length + 0)) (d := (1 + (3 * few.length + 10 * few.length)) + (5 + 6 * few.length)) (a := (some pre.length, few.map (rowT q)))
    (s₁ := ⟨HS L pre (dictO (b3e 3 tk (c0 ++ Ls.flatten)) (c0 ++ Ls.flatten).length) (subsOf (tk + 51) Ls), g, d, tk + 3 * (c0 ++ Ls.flatten).length, os⟩) (q₁ := q) ?_ ?_
  · rw [List.append_assoc, List.map_append, chunk hf1 hf2 h0]
    have hsub := Steps.sub17 (p := p) (w := w) (n₀ := n₀) (ann := ann) (q := q) (L := L) (pre := pre) (g := g) (d := d) (tk := tk) (os := os) (l := c0) ha h0 (fun x hx => hh x (List.mem_append.mpr (.inl (List.mem_append.mpr (.inl hx))))) hn0 (lf := L)
    refine Steps.bind (c := 223) (a := some pre.length) (Steps.bind (c := 223) (d := 0) hsub (.pure' _)) ?_
    rw [List.map_append]
    have h9 := Steps.runs (p := p) (w := w) (n₀ := n₀) (ann := ann) (q := q) (L := L) (g := g) (d := d) (os := os) (pre := pre) (tk := tk) ha hpre hf1 hf2 (fun l D _ => ⟨k D, rfl⟩) (rest := few.map (rowI q)) (c := 0) (r := (some pre.length, few.map (rowT q)))
      (s' := ⟨HS L pre (dictO (b3e 3 tk (c0 ++ Ls.flatten)) (c0 ++ Ls.flatten).length) (subsOf (tk + 51) Ls), g, d, tk + 3 * (c0 ++ Ls.flatten).length, os⟩) Ls c0 [] (by rintro rfl; cases h0) h17 (fun x hx => hh x (List.mem_append.mpr (.inl (List.mem_append.mpr (.inr hx))))) hn1 hz1
      (by
        rw [h0]
        have e := gather (f := f) (q := q) hf1 (main := some pre.length) (rest := []) few [] (by simp; omega)
        rw [List.append_nil, List.nil_append, List.forIn_nil] at e
        rw [e]
        exact .pure' _)
    rw [h0] at h9
    exact h9
  · rw [hfin _ _ (by intro e; rw [List.map_eq_nil_iff] at e; exact hw0 e)]
    have hsub := Steps.subFew (p := p) (w := w) (n₀ := n₀) (ann := ann) (q := q) (L := L) (pre := pre ++ dictO (b3e 3 tk (c0 ++ Ls.flatten)) (c0 ++ Ls.flatten).length :: subsOf (tk + 51) Ls) (g := g) (d := d) (tk := tk + 3 * (c0 ++ Ls.flatten).length) (os := os) (l := few)
      (by rw [List.length_append]; exact Nat.ble_eq.mpr (Nat.le_trans (Nat.ble_eq.mp ha) (Nat.le_add_right _ _))) hw (fun x hx => hh x (List.mem_append.mpr (.inr hx))) hnf
    rw [← HS_last] at hsub
    have el : (pre ++ dictO (b3e 3 tk (c0 ++ Ls.flatten)) (c0 ++ Ls.flatten).length :: subsOf (tk + 51) Ls).length = pre.length + 1 + (subsOf (tk + 51) Ls).length := by simp; omega
    rw [el] at hsub
    have hm := Steps.merge (p := p) (w := w) (n₀ := n₀) (ann := ann) (q := q) (L := L) (g := g) (d := d) (os := os) (pre := pre) (suf := subsOf (tk + 51) Ls) (es := b3e 3 tk (c0 ++ Ls.flatten)) (es' := b3e 2 (tk + 3 * (c0 ++ Ls.flatten).length) few) (n := (c0 ++ Ls.flatten).length) (n' := few.length) (tk := tk + 3 * (c0 ++ Ls.flatten).length + 3 * few.length) ha hpre
      (by intro e; have := b3e_len 3 (c0 ++ Ls.flatten) tk; rw [e, List.length_append, h0] at this; simp at this; omega) (by rw [b3e_len, b3e_len]; rwa [List.length_append] at hz) (fun e he => (b3e_mem 2 _ _ e he).2)
      (by rw [List.map_append, b3e_hash, b3e_hash, ← List.map_append]; exact hn)
    rw [b3e_len] at hm
    exact Steps.bind (d := 0) (a := some pre.length) (Steps.bind (Steps.hold hsub) (Steps.bind (d := 0) (Steps.onRaise (Steps.hold hm)) (.pure' _))) (.pure' _)
theorem Steps.display {pre : List Obj} {tk : Nat} {c0 few : List (Int × Str)} {Ls : List (List (Int × Str))}
    (ha : Nat.ble n₀ pre.length = true) (hpre : 2 ≤ pre.length) (h0 : c0.length = 17) (h17 : ∀ c ∈ Ls, c.length = 17) (hw0 : few ≠ []) (hw : few.length ≤ 15) (hh : ∀ x ∈ c0 ++ Ls.flatten ++ few, hashInt x.1 = x.1)
    (hn : ((c0 ++ Ls.flatten ++ few).map (·.1)).Nodup) (hz : (c0 ++ Ls.flatten ++ few).length ≤ 2 ^ 19) :
    Steps p w n₀ ann (dictDisplay ((c0 ++ Ls.flatten ++ few).map (rowI q))) ⟨⟨pre.toArray, L⟩, g, d, tk, os⟩ q ((223 + (330 * Ls.length + 0)) + ((1 + (3 * few.length + 10 * few.length)) + (5 + 6 * few.length))) (.ref pre.length)
      ⟨HS L pre (dictO (b3e 3 tk (c0 ++ Ls.flatten) ++ b3e 2 (tk + 3 * (c0 ++ Ls.flatten).length) few) ((c0 ++ Ls.flatten).length + few.length)) (subsOf (tk + 51) Ls ++ [dictO (b3e 2 (tk + 3 * (c0 ++ Ls.flatten).length) few) few.length]), g, d, tk + 3 * (c0 ++ Ls.flatten).length + 3 * few.length, os⟩ q := by
  unfold dictDisplay
  dsimp only
  refine Steps.dispG (k := fun D _ x => do let _ ← holding [.ref D, x] (runValue (.builtin "proto.let_go" {}))) ?_ ?_ ?_ ha hpre h0 h17 hw0 hw hh hn hz
  · intro x main run hr
    have hne : ((run ++ [rowT q x]).length == 17) = false := by simp; omega
    unfold rowI
    dsimp only
    rw [show ((rowT q x).1, (rowT q x).2) = rowT q x from rfl, hne]
    rfl
  · intro x main run hr
    have hne : ((run ++ [rowT q x]).length == 17) = true := by simp; omega
    have hne2 : (run ++ [rowT q x]).isEmpty = false := by simp
    unfold rowI
    dsimp only
    rw [show ((rowT q x).1, (rowT q x).2) = rowT q x from rfl, hne, hne2]
    cases main <;> rfl
  · intro D l hl
    have hne2 : l.isEmpty = false := by simpa using hl
    dsimp only
    rw [hne2]
    rfl
end
end
end

section
open PySem PySem.W PySem.Spec PySem.Calls PyProof.Rows
set_option maxRecDepth 100000
set_option maxHeartbeats 8000000
section
noncomputable def stAt (i : Nat) : Stmt := match pw.main.body[i]? with
  | some s => s
  | none => default
noncomputable def tEnv : Env := { scope := pw.main.scope, locals := mainNs, globals := mainNs, cells := [], code := .ref 13, frame := some 14 }
noncomputable def tCode : Code := .body (behindTheImports pw) tEnv
noncomputable abbrev tB : List Frame := [topFrame default]
noncomputable abbrev tLife : Life := {}
noncomputable def subsAll : List Obj := subsOf 372 ((List.range 37).map fun j => (b3l.drop (17 * (j + 1))).take 17) ++ [dictO (b3e 2 2259 (b3l.drop 646)) 4]
noncomputable def sub_ (j : Nat) : Obj := subsAll.getD j default
noncomputable def o3_block (P : Params) : Obj := ⟨(.type "dict"), none, .dict (List.toArray [⟨PyData.keyHash P (Str.ofString "__name__"), (.str (Str.ofString "__name__") 165), (.str (Str.ofString "__main__") 164)⟩, ⟨PyData.keyHash P (Str.ofString "__doc__"), (.str (Str.ofString "__doc__") 166), .none⟩, ⟨PyData.keyHash P (Str.ofString "__package__"), (.str (Str.ofString "__package__") 167), .none⟩, ⟨PyData.keyHash P (Str.ofString "__loader__"), (.str (Str.ofString "__loader__") 168), (.builtin "__main__.__loader__#opaque")⟩, ⟨PyData.keyHash P (Str.ofString "__spec__"), (.str (Str.ofString "__spec__") 169), .none⟩, ⟨PyData.keyHash P (Str.ofString "__annotations__"), (.str (Str.ofString "__annotations__") 170), (.ref 6)⟩, ⟨PyData.keyHash P (Str.ofString "__builtins__"), (.str (Str.ofString "__builtins__") 171), (.ref 4)⟩, ⟨PyData.keyHash P (Str.ofString "__file__"), (.str (Str.ofString "__file__") 173), (.str (Str.ofString "/claim/cut.py") 172)⟩, ⟨PyData.keyHash P (Str.ofString "__cached__"), (.str (Str.ofString "__cached__") 174), .none⟩]) 9, #[]⟩
noncomputable def o12_block (_ : Params) : Obj := ⟨.none, none, .fields (List.toArray []), #[]⟩
noncomputable def o3_p6 (P : Params) : Obj := ⟨(.type "dict"), none, .dict (List.toArray [⟨PyData.keyHash P (Str.ofString "__name__"), (.str (Str.ofString "__name__") 165), (.str (Str.ofString "cpy313.stringprep") 252)⟩, ⟨PyData.keyHash P (Str.ofString "__doc__"), (.str (Str.ofString "__doc__") 166), .none⟩, ⟨PyData.keyHash P (Str.ofString "__package__"), (.str (Str.ofString "__package__") 167), .none⟩, ⟨PyData.keyHash P (Str.ofString "__loader__"), (.str (Str.ofString "__loader__") 168), (.builtin "__main__.__loader__#opaque")⟩, ⟨PyData.keyHash P (Str.ofString "__spec__"), (.str (Str.ofString "__spec__") 169), .none⟩, ⟨PyData.keyHash P (Str.ofString "__annotations__"), (.str (Str.ofString "__annotations__") 170), (.ref 6)⟩, ⟨PyData.keyHash P (Str.ofString "__builtins__"), (.str (Str.ofString "__builtins__") 171), (.ref 4)⟩, ⟨PyData.keyHash P (Str.ofString "__file__"), (.str (Str.ofString "__file__") 173), (.str (Str.ofString "/claim/cut.py") 172)⟩, ⟨PyData.keyHash P (Str.ofString "__cached__"), (.str (Str.ofString "__cached__") 174), .none⟩, ⟨PyData.keyHash P (Str.ofString "bisect_right"), (.str (Str.ofString "bisect_right") 202), (.ref 23)⟩, ⟨PyData.keyHash P (Str.ofString "bisect_left"), (.str (Str.ofString "bisect_left") 216), (.ref 32)⟩, ⟨PyData.keyHash P (Str.ofString "rgb_to_hls"), (.str (Str.ofString "rgb_to_hls") 237), (.ref 39)⟩, ⟨PyData.keyHash P (Str.ofString "hsv_to_rgb"), (.str (Str.ofString "hsv_to_rgb") 251), (.ref 46)⟩]) 13, #[]⟩
noncomputable def o12_p6 (_ : Params) : Obj := ⟨.none, none, .fields (List.toArray [(.int 2 0), (.int 0 0), (.ref 22), (.int 22 0), (.int 0 0), (.ref 31), (.int 43 0), (.int 0 0), (.ref 38), (.int 66 0), (.int 0 0), (.ref 45)]), #[]⟩
noncomputable def o3_p7 (P : Params) : Obj := ⟨(.type "dict"), none, .dict (List.toArray [⟨PyData.keyHash P (Str.ofString "__name__"), (.str (Str.ofString "__name__") 165), (.str (Str.ofString "cpy313.stringprep") 252)⟩, ⟨PyData.keyHash P (Str.ofString "__doc__"), (.str (Str.ofString "__doc__") 166), .none⟩, ⟨PyData.keyHash P (Str.ofString "__package__"), (.str (Str.ofString "__package__") 167), .none⟩, ⟨PyData.keyHash P (Str.ofString "__loader__"), (.str (Str.ofString "__loader__") 168), (.builtin "__main__.__loader__#opaque")⟩, ⟨PyData.keyHash P (Str.ofString "__spec__"), (.str (Str.ofString "__spec__") 169), .none⟩, ⟨PyData.keyHash P (Str.ofString "__annotations__"), (.str (Str.ofString "__annotations__") 170), (.ref 6)⟩, ⟨PyData.keyHash P (Str.ofString "__builtins__"), (.str (Str.ofString "__builtins__") 171), (.ref 4)⟩, ⟨PyData.keyHash P (Str.ofString "__file__"), (.str (Str.ofString "__file__") 173), (.str (Str.ofString "/claim/cut.py") 172)⟩, ⟨PyData.keyHash P (Str.ofString "__cached__"), (.str (Str.ofString "__cached__") 174), .none⟩, ⟨PyData.keyHash P (Str.ofString "bisect_right"), (.str (Str.ofString "bisect_right") 202), (.ref 23)⟩, ⟨PyData.keyHash P (Str.ofString "bisect_left"), (.str (Str.ofString "bisect_left") 216), (.ref 32)⟩, ⟨PyData.keyHash P (Str.ofString "rgb_to_hls"), (.str (Str.ofString "rgb_to_hls") 237), (.ref 39)⟩, ⟨PyData.keyHash P (Str.ofString "hsv_to_rgb"), (.str (Str.ofString "hsv_to_rgb") 251), (.ref 46)⟩, ⟨PyData.keyHash P (Str.ofString "b1_set"), (.str (Str.ofString "b1_set") 313), (.ref 54)⟩]) 14, #[]⟩
noncomputable def o12_p7 (_ : Params) : Obj := ⟨.none, none, .fields (List.toArray [(.int 2 0), (.int 0 0), (.ref 22), (.int 22 0), (.int 0 0), (.ref 31), (.int 43 0), (.int 0 0), (.ref 38), (.int 66 0), (.int 0 0), (.ref 45)]), #[]⟩
noncomputable def o3_p8 (P : Params) : Obj := ⟨(.type "dict"), none, .dict (List.toArray [⟨PyData.keyHash P (Str.ofString "__name__"), (.str (Str.ofString "__name__") 165), (.str (Str.ofString "cpy313.stringprep") 252)⟩, ⟨PyData.keyHash P (Str.ofString "__doc__"), (.str (Str.ofString "__doc__") 166), .none⟩, ⟨PyData.keyHash P (Str.ofString "__package__"), (.str (Str.ofString "__package__") 167), .none⟩, ⟨PyData.keyHash P (Str.ofString "__loader__"), (.str (Str.ofString "__loader__") 168), (.builtin "__main__.__loader__#opaque")⟩, ⟨PyData.keyHash P (Str.ofString "__spec__"), (.str (Str.ofString "__spec__") 169), .none⟩, ⟨PyData.keyHash P (Str.ofString "__annotations__"), (.str (Str.ofString "__annotations__") 170), (.ref 6)⟩, ⟨PyData.keyHash P (Str.ofString "__builtins__"), (.str (Str.ofString "__builtins__") 171), (.ref 4)⟩, ⟨PyData.keyHash P (Str.ofString "__file__"), (.str (Str.ofString "__file__") 173), (.str (Str.ofString "/claim/cut.py") 172)⟩, ⟨PyData.keyHash P (Str.ofString "__cached__"), (.str (Str.ofString "__cached__") 174), .none⟩, ⟨PyData.keyHash P (Str.ofString "bisect_right"), (.str (Str.ofString "bisect_right") 202), (.ref 23)⟩, ⟨PyData.keyHash P (Str.ofString "bisect_left"), (.str (Str.ofString "bisect_left") 216), (.ref 32)⟩, ⟨PyData.keyHash P (Str.ofString "rgb_to_hls"), (.str (Str.ofString "rgb_to_hls") 237), (.ref 39)⟩, ⟨PyData.keyHash P (Str.ofString "hsv_to_rgb"), (.str (Str.ofString "hsv_to_rgb") 251), (.ref 46)⟩, ⟨PyData.keyHash P (Str.ofString "b1_set"), (.str (Str.ofString "b1_set") 313), (.ref 54)⟩, ⟨PyData.keyHash P (Str.ofString "in_table_b1"), (.str (Str.ofString "in_table_b1") 320), (.ref 64)⟩]) 15, #[]⟩
noncomputable def o12_p8 (_ : Params) : Obj := ⟨.none, none, .fields (List.toArray [(.int 2 0), (.int 0 0), (.ref 22), (.int 22 0), (.int 0 0), (.ref 31), (.int 43 0), (.int 0 0), (.ref 38), (.int 66 0), (.int 0 0), (.ref 45), (.int 89 0), (.int 0 0), (.ref 63)]), #[]⟩
noncomputable def o3_p9 (P : Params) : Obj := ⟨(.type "dict"), none, .dict (List.toArray [⟨PyData.keyHash P (Str.ofString "__name__"), (.str (Str.ofString "__name__") 165), (.str (Str.ofString "cpy313.stringprep") 252)⟩, ⟨PyData.keyHash P (Str.ofString "__doc__"), (.str (Str.ofString "__doc__") 166), .none⟩, ⟨PyData.keyHash P (Str.ofString "__package__"), (.str (Str.ofString "__package__") 167), .none⟩, ⟨PyData.keyHash P (Str.ofString "__loader__"), (.str (Str.ofString "__loader__") 168), (.builtin "__main__.__loader__#opaque")⟩, ⟨PyData.keyHash P (Str.ofString "__spec__"), (.str (Str.ofString "__spec__") 169), .none⟩, ⟨PyData.keyHash P (Str.ofString "__annotations__"), (.str (Str.ofString "__annotations__") 170), (.ref 6)⟩, ⟨PyData.keyHash P (Str.ofString "__builtins__"), (.str (Str.ofString "__builtins__") 171), (.ref 4)⟩, ⟨PyData.keyHash P (Str.ofString "__file__"), (.str (Str.ofString "__file__") 173), (.str (Str.ofString "/claim/cut.py") 172)⟩, ⟨PyData.keyHash P (Str.ofString "__cached__"), (.str (Str.ofString "__cached__") 174), .none⟩, ⟨PyData.keyHash P (Str.ofString "bisect_right"), (.str (Str.ofString "bisect_right") 202), (.ref 23)⟩, ⟨PyData.keyHash P (Str.ofString "bisect_left"), (.str (Str.ofString "bisect_left") 216), (.ref 32)⟩, ⟨PyData.keyHash P (Str.ofString "rgb_to_hls"), (.str (Str.ofString "rgb_to_hls") 237), (.ref 39)⟩, ⟨PyData.keyHash P (Str.ofString "hsv_to_rgb"), (.str (Str.ofString "hsv_to_rgb") 251), (.ref 46)⟩, ⟨PyData.keyHash P (Str.ofString "b1_set"), (.str (Str.ofString "b1_set") 313), (.ref 54)⟩, ⟨PyData.keyHash P (Str.ofString "in_table_b1"), (.str (Str.ofString "in_table_b1") 320), (.ref 64)⟩, ⟨PyData.keyHash P (Str.ofString "b3_exceptions"), (.str (Str.ofString "b3_exceptions") 2271), (.ref 65)⟩]) 16, #[]⟩
noncomputable def o12_p9 (_ : Params) : Obj := ⟨.none, none, .fields (List.toArray [(.int 2 0), (.int 0 0), (.ref 22), (.int 22 0), (.int 0 0), (.ref 31), (.int 43 0), (.int 0 0), (.ref 38), (.int 66 0), (.int 0 0), (.ref 45), (.int 89 0), (.int 0 0), (.ref 63)]), #[]⟩
noncomputable def T_block (P : Params) : BT := (.node (boot_o_0 P) (.node (boot_o_1 P) (.node (o3_block P) (.node (boot_o_7 P) .nil .nil) (.node (ob_11 P) .nil .nil)) (.node (boot_o_5 P) (.node (boot_o_9 P) .nil .nil) (.node (ob_13 P) .nil .nil))) (.node (boot_o_2 P) (.node (boot_o_4 P) (.node (boot_o_8 P) .nil .nil) (.node (o12_block P) .nil .nil)) (.node (boot_o_6 P) (.node (boot_o_10 P) .nil .nil) (.node (ob_14 P) .nil .nil))))
noncomputable def S_block (w : World) (os : OsState) : SharedT := ⟨T_block w.params, 15, tLife, #[], {}, 187, os⟩
noncomputable abbrev q_block : Pos := ⟨0, 0, 0, 0⟩
noncomputable def T_p6 (P : Params) : BT := (.node (boot_o_0 P) (.node (boot_o_1 P) (.node (o3_p6 P) (.node (boot_o_7 P) (.node (ob_15 P) (.node (ob_31 P) .nil .nil) .nil) (.node (ob_23 P) (.node (ob_39 P) .nil .nil) .nil)) (.node (ob_11 P) (.node (ob_19 P) (.node (ob_35 P) .nil .nil) .nil) (.node (ob_27 P) (.node (ob_43 P) .nil .nil) .nil))) (.node (boot_o_5 P) (.node (boot_o_9 P) (.node (ob_17 P) (.node (ob_33 P) .nil .nil) .nil) (.node (ob_25 P) (.node (ob_41 P) .nil .nil) .nil)) (.node (ob_13 P) (.node (ob_21 P) (.node (ob_37 P) .nil .nil) .nil) (.node (ob_29 P) (.node (ob_45 P) .nil .nil) .nil)))) (.node (boot_o_2 P) (.node (boot_o_4 P) (.node (boot_o_8 P) (.node (ob_16 P) (.node (ob_32 P) .nil .nil) .nil) (.node (ob_24 P) (.node (ob_40 P) .nil .nil) .nil)) (.node (o12_p6 P) (.node (ob_20 P) (.node (ob_36 P) .nil .nil) .nil) (.node (ob_28 P) (.node (ob_44 P) .nil .nil) .nil))) (.node (boot_o_6 P) (.node (boot_o_10 P) (.node (ob_18 P) (.node (ob_34 P) .nil .nil) .nil) (.node (ob_26 P) (.node (ob_42 P) .nil .nil) .nil)) (.node (ob_14 P) (.node (ob_22 P) (.node (ob_38 P) .nil .nil) .nil) (.node (ob_30 P) (.node (ob_46 P) .nil .nil) .nil)))))
noncomputable def S_p6 (w : World) (os : OsState) : SharedT := ⟨T_p6 w.params, 47, tLife, #[], {}, 254, os⟩
noncomputable abbrev q_p6 : Pos := ⟨87, 0, 87, 8⟩
noncomputable def T_p7 (P : Params) : BT := (.node (boot_o_0 P) (.node (boot_o_1 P) (.node (o3_p7 P) (.node (boot_o_7 P) (.node (ob_15 P) (.node (ob_31 P) .nil .nil) (.node (ob_47 P) .nil .nil)) (.node (ob_23 P) (.node (ob_39 P) .nil .nil) (.node (ob_55 P) .nil .nil))) (.node (ob_11 P) (.node (ob_19 P) (.node (ob_35 P) .nil .nil) (.node (ob_51 P) .nil .nil)) (.node (ob_27 P) (.node (ob_43 P) .nil .nil) .nil))) (.node (boot_o_5 P) (.node (boot_o_9 P) (.node (ob_17 P) (.node (ob_33 P) .nil .nil) (.node (ob_49 P) .nil .nil)) (.node (ob_25 P) (.node (ob_41 P) .nil .nil) (.node (ob_57 P) .nil .nil))) (.node (ob_13 P) (.node (ob_21 P) (.node (ob_37 P) .nil .nil) (.node (ob_53 P) .nil .nil)) (.node (ob_29 P) (.node (ob_45 P) .nil .nil) .nil)))) (.node (boot_o_2 P) (.node (boot_o_4 P) (.node (boot_o_8 P) (.node (ob_16 P) (.node (ob_32 P) .nil .nil) (.node (ob_48 P) .nil .nil)) (.node (ob_24 P) (.node (ob_40 P) .nil .nil) (.node (ob_56 P) .nil .nil))) (.node (o12_p7 P) (.node (ob_20 P) (.node (ob_36 P) .nil .nil) (.node (ob_52 P) .nil .nil)) (.node (ob_28 P) (.node (ob_44 P) .nil .nil) .nil))) (.node (boot_o_6 P) (.node (boot_o_10 P) (.node (ob_18 P) (.node (ob_34 P) .nil .nil) (.node (ob_50 P) .nil .nil)) (.node (ob_26 P) (.node (ob_42 P) .nil .nil) .nil)) (.node (ob_14 P) (.node (ob_22 P) (.node (ob_38 P) .nil .nil) (.node (ob_54 P) .nil .nil)) (.node (ob_30 P) (.node (ob_46 P) .nil .nil) .nil)))))
noncomputable def S_p7 (w : World) (os : OsState) : SharedT := ⟨T_p7 w.params, 58, tLife, #[], {}, 314, os⟩
noncomputable abbrev q_p7 : Pos := ⟨88, 0, 88, 6⟩
noncomputable def T_p8 (P : Params) : BT := (.node (boot_o_0 P) (.node (boot_o_1 P) (.node (o3_p8 P) (.node (boot_o_7 P) (.node (ob_15 P) (.node (ob_31 P) (.node (ob_63 P) .nil .nil) .nil) (.node (ob_47 P) .nil .nil)) (.node (ob_23 P) (.node (ob_39 P) .nil .nil) (.node (ob_55 P) .nil .nil))) (.node (ob_11 P) (.node (ob_19 P) (.node (ob_35 P) .nil .nil) (.node (ob_51 P) .nil .nil)) (.node (ob_27 P) (.node (ob_43 P) .nil .nil) (.node (ob_59 P) .nil .nil)))) (.node (boot_o_5 P) (.node (boot_o_9 P) (.node (ob_17 P) (.node (ob_33 P) .nil .nil) (.node (ob_49 P) .nil .nil)) (.node (ob_25 P) (.node (ob_41 P) .nil .nil) (.node (ob_57 P) .nil .nil))) (.node (ob_13 P) (.node (ob_21 P) (.node (ob_37 P) .nil .nil) (.node (ob_53 P) .nil .nil)) (.node (ob_29 P) (.node (ob_45 P) .nil .nil) (.node (ob_61 P) .nil .nil))))) (.node (boot_o_2 P) (.node (boot_o_4 P) (.node (boot_o_8 P) (.node (ob_16 P) (.node (ob_32 P) (.node (ob_64 P) .nil .nil) .nil) (.node (ob_48 P) .nil .nil)) (.node (ob_24 P) (.node (ob_40 P) .nil .nil) (.node (ob_56 P) .nil .nil))) (.node (o12_p8 P) (.node (ob_20 P) (.node (ob_36 P) .nil .nil) (.node (ob_52 P) .nil .nil)) (.node (ob_28 P) (.node (ob_44 P) .nil .nil) (.node (ob_60 P) .nil .nil)))) (.node (boot_o_6 P) (.node (boot_o_10 P) (.node (ob_18 P) (.node (ob_34 P) .nil .nil) (.node (ob_50 P) .nil .nil)) (.node (ob_26 P) (.node (ob_42 P) .nil .nil) (.node (ob_58 P) .nil .nil))) (.node (ob_14 P) (.node (ob_22 P) (.node (ob_38 P) .nil .nil) (.node (ob_54 P) .nil .nil)) (.node (ob_30 P) (.node (ob_46 P) .nil .nil) (.node (ob_62 P) .nil .nil))))))
noncomputable def S_p8 (w : World) (os : OsState) : SharedT := ⟨T_p8 w.params, 65, tLife, #[], {}, 321, os⟩
noncomputable abbrev q_p8 : Pos := ⟨89, 0, 90, 30⟩
noncomputable def T_p9 (P : Params) : BT := (.node (boot_o_0 P) (.node (boot_o_1 P) (.node (o3_p9 P) (.node (boot_o_7 P) (.node (ob_15 P) (.node (ob_31 P) (.node (ob_63 P) .nil .nil) (.node (sub_ 29) .nil .nil)) (.node (ob_47 P) (.node (sub_ 13) .nil .nil) .nil)) (.node (ob_23 P) (.node (ob_39 P) (.node (sub_ 5) .nil .nil) (.node (sub_ 37) .nil .nil)) (.node (ob_55 P) (.node (sub_ 21) .nil .nil) .nil))) (.node (ob_11 P) (.node (ob_19 P) (.node (ob_35 P) (.node (sub_ 1) .nil .nil) (.node (sub_ 33) .nil .nil)) (.node (ob_51 P) (.node (sub_ 17) .nil .nil) .nil)) (.node (ob_27 P) (.node (ob_43 P) (.node (sub_ 9) .nil .nil) .nil) (.node (ob_59 P) (.node (sub_ 25) .nil .nil) .nil)))) (.node (boot_o_5 P) (.node (boot_o_9 P) (.node (ob_17 P) (.node (ob_33 P) (.node (ob_65 P) .nil .nil) (.node (sub_ 31) .nil .nil)) (.node (ob_49 P) (.node (sub_ 15) .nil .nil) .nil)) (.node (ob_25 P) (.node (ob_41 P) (.node (sub_ 7) .nil .nil) .nil) (.node (ob_57 P) (.node (sub_ 23) .nil .nil) .nil))) (.node (ob_13 P) (.node (ob_21 P) (.node (ob_37 P) (.node (sub_ 3) .nil .nil) (.node (sub_ 35) .nil .nil)) (.node (ob_53 P) (.node (sub_ 19) .nil .nil) .nil)) (.node (ob_29 P) (.node (ob_45 P) (.node (sub_ 11) .nil .nil) .nil) (.node (ob_61 P) (.node (sub_ 27) .nil .nil) .nil))))) (.node (boot_o_2 P) (.node (boot_o_4 P) (.node (boot_o_8 P) (.node (ob_16 P) (.node (ob_32 P) (.node (ob_64 P) .nil .nil) (.node (sub_ 30) .nil .nil)) (.node (ob_48 P) (.node (sub_ 14) .nil .nil) .nil)) (.node (ob_24 P) (.node (ob_40 P) (.node (sub_ 6) .nil .nil) .nil) (.node (ob_56 P) (.node (sub_ 22) .nil .nil) .nil))) (.node (o12_p9 P) (.node (ob_20 P) (.node (ob_36 P) (.node (sub_ 2) .nil .nil) (.node (sub_ 34) .nil .nil)) (.node (ob_52 P) (.node (sub_ 18) .nil .nil) .nil)) (.node (ob_28 P) (.node (ob_44 P) (.node (sub_ 10) .nil .nil) .nil) (.node (ob_60 P) (.node (sub_ 26) .nil .nil) .nil)))) (.node (boot_o_6 P) (.node (boot_o_10 P) (.node (ob_18 P) (.node (ob_34 P) (.node (sub_ 0) .nil .nil) (.node (sub_ 32) .nil .nil)) (.node (ob_50 P) (.node (sub_ 16) .nil .nil) .nil)) (.node (ob_26 P) (.node (ob_42 P) (.node (sub_ 8) .nil .nil) .nil) (.node (ob_58 P) (.node (sub_ 24) .nil .nil) .nil))) (.node (ob_14 P) (.node (ob_22 P) (.node (ob_38 P) (.node (sub_ 4) .nil .nil) (.node (sub_ 36) .nil .nil)) (.node (ob_54 P) (.node (sub_ 20) .nil .nil) .nil)) (.node (ob_30 P) (.node (ob_46 P) (.node (sub_ 12) .nil .nil) .nil) (.node (ob_62 P) (.node (sub_ 28) .nil .nil) .nil))))))
noncomputable def S_p9 (w : World) (os : OsState) : SharedT := ⟨T_p9 w.params, 104, tLife, #[], {}, 2272, os⟩
noncomputable abbrev q_p9 : Pos := ⟨91, 0, 91, 13⟩
noncomputable def T_p21 (P : Params) : BT := (.node (boot_o_0 P) (.node (boot_o_1 P) (.node (ob_3 P) (.node (boot_o_7 P) (.node (ob_15 P) (.node (ob_31 P) (.node (ob_63 P) (.node (ob_127 P) .nil .nil) .nil) (.node (sub_ 29) .nil .nil)) (.node (ob_47 P) (.node (sub_ 13) (.node (ob_143 P) .nil .nil) .nil) (.node (ob_111 P) .nil .nil))) (.node (ob_23 P) (.node (ob_39 P) (.node (sub_ 5) (.node (ob_135 P) .nil .nil) .nil) (.node (sub_ 37) .nil .nil)) (.node (ob_55 P) (.node (sub_ 21) .nil .nil) (.node (ob_119 P) .nil .nil)))) (.node (ob_11 P) (.node (ob_19 P) (.node (ob_35 P) (.node (sub_ 1) (.node (ob_131 P) .nil .nil) .nil) (.node (sub_ 33) .nil .nil)) (.node (ob_51 P) (.node (sub_ 17) .nil .nil) (.node (ob_115 P) .nil .nil))) (.node (ob_27 P) (.node (ob_43 P) (.node (sub_ 9) (.node (ob_139 P) .nil .nil) .nil) (.node (ob_107 P) .nil .nil)) (.node (ob_59 P) (.node (sub_ 25) .nil .nil) (.node (ob_123 P) .nil .nil))))) (.node (boot_o_5 P) (.node (boot_o_9 P) (.node (ob_17 P) (.node (ob_33 P) (.node (ob_65 P) (.node (ob_129 P) .nil .nil) .nil) (.node (sub_ 31) .nil .nil)) (.node (ob_49 P) (.node (sub_ 15) (.node (ob_145 P) .nil .nil) .nil) (.node (ob_113 P) .nil .nil))) (.node (ob_25 P) (.node (ob_41 P) (.node (sub_ 7) (.node (ob_137 P) .nil .nil) .nil) (.node (ob_105 P) .nil .nil)) (.node (ob_57 P) (.node (sub_ 23) .nil .nil) (.node (ob_121 P) .nil .nil)))) (.node (ob_13 P) (.node (ob_21 P) (.node (ob_37 P) (.node (sub_ 3) (.node (ob_133 P) .nil .nil) .nil) (.node (sub_ 35) .nil .nil)) (.node (ob_53 P) (.node (sub_ 19) .nil .nil) (.node (ob_117 P) .nil .nil))) (.node (ob_29 P) (.node (ob_45 P) (.node (sub_ 11) (.node (ob_141 P) .nil .nil) .nil) (.node (ob_109 P) .nil .nil)) (.node (ob_61 P) (.node (sub_ 27) .nil .nil) (.node (ob_125 P) .nil .nil)))))) (.node (boot_o_2 P) (.node (boot_o_4 P) (.node (boot_o_8 P) (.node (ob_16 P) (.node (ob_32 P) (.node (ob_64 P) (.node (ob_128 P) .nil .nil) .nil) (.node (sub_ 30) .nil .nil)) (.node (ob_48 P) (.node (sub_ 14) (.node (ob_144 P) .nil .nil) .nil) (.node (ob_112 P) .nil .nil))) (.node (ob_24 P) (.node (ob_40 P) (.node (sub_ 6) (.node (ob_136 P) .nil .nil) .nil) (.node (ob_104 P) .nil .nil)) (.node (ob_56 P) (.node (sub_ 22) .nil .nil) (.node (ob_120 P) .nil .nil)))) (.node (ob_12 P) (.node (ob_20 P) (.node (ob_36 P) (.node (sub_ 2) (.node (ob_132 P) .nil .nil) .nil) (.node (sub_ 34) .nil .nil)) (.node (ob_52 P) (.node (sub_ 18) .nil .nil) (.node (ob_116 P) .nil .nil))) (.node (ob_28 P) (.node (ob_44 P) (.node (sub_ 10) (.node (ob_140 P) .nil .nil) .nil) (.node (ob_108 P) .nil .nil)) (.node (ob_60 P) (.node (sub_ 26) .nil .nil) (.node (ob_124 P) .nil .nil))))) (.node (boot_o_6 P) (.node (boot_o_10 P) (.node (ob_18 P) (.node (ob_34 P) (.node (sub_ 0) (.node (ob_130 P) .nil .nil) .nil) (.node (sub_ 32) .nil .nil)) (.node (ob_50 P) (.node (sub_ 16) (.node (ob_146 P) .nil .nil) .nil) (.node (ob_114 P) .nil .nil))) (.node (ob_26 P) (.node (ob_42 P) (.node (sub_ 8) (.node (ob_138 P) .nil .nil) .nil) (.node (ob_106 P) .nil .nil)) (.node (ob_58 P) (.node (sub_ 24) .nil .nil) (.node (ob_122 P) .nil .nil)))) (.node (ob_14 P) (.node (ob_22 P) (.node (ob_38 P) (.node (sub_ 4) (.node (ob_134 P) .nil .nil) .nil) (.node (sub_ 36) .nil .nil)) (.node (ob_54 P) (.node (sub_ 20) .nil .nil) (.node (ob_118 P) .nil .nil))) (.node (ob_30 P) (.node (ob_46 P) (.node (sub_ 12) (.node (ob_142 P) .nil .nil) .nil) (.node (ob_110 P) .nil .nil)) (.node (ob_62 P) (.node (sub_ 28) .nil .nil) (.node (ob_126 P) .nil .nil)))))))
noncomputable def S_p21 (w : World) (os : OsState) : SharedT := ⟨T_p21 w.params, 147, tLife, #[], {}, 2354, os⟩
noncomputable abbrev q_p21 : Pos := ⟨189, 0, 228, 15⟩
noncomputable def T_d (P : Params) : BT := (.node (boot_o_0 P) (.node (boot_o_1 P) (.node (o3_p8 P) (.node (boot_o_7 P) (.node (ob_15 P) (.node (ob_31 P) (.node (ob_63 P) .nil .nil) (.node (sub_ 29) .nil .nil)) (.node (ob_47 P) (.node (sub_ 13) .nil .nil) .nil)) (.node (ob_23 P) (.node (ob_39 P) (.node (sub_ 5) .nil .nil) (.node (sub_ 37) .nil .nil)) (.node (ob_55 P) (.node (sub_ 21) .nil .nil) .nil))) (.node (ob_11 P) (.node (ob_19 P) (.node (ob_35 P) (.node (sub_ 1) .nil .nil) (.node (sub_ 33) .nil .nil)) (.node (ob_51 P) (.node (sub_ 17) .nil .nil) .nil)) (.node (ob_27 P) (.node (ob_43 P) (.node (sub_ 9) .nil .nil) .nil) (.node (ob_59 P) (.node (sub_ 25) .nil .nil) .nil)))) (.node (boot_o_5 P) (.node (boot_o_9 P) (.node (ob_17 P) (.node (ob_33 P) (.node (ob_65 P) .nil .nil) (.node (sub_ 31) .nil .nil)) (.node (ob_49 P) (.node (sub_ 15) .nil .nil) .nil)) (.node (ob_25 P) (.node (ob_41 P) (.node (sub_ 7) .nil .nil) .nil) (.node (ob_57 P) (.node (sub_ 23) .nil .nil) .nil))) (.node (ob_13 P) (.node (ob_21 P) (.node (ob_37 P) (.node (sub_ 3) .nil .nil) (.node (sub_ 35) .nil .nil)) (.node (ob_53 P) (.node (sub_ 19) .nil .nil) .nil)) (.node (ob_29 P) (.node (ob_45 P) (.node (sub_ 11) .nil .nil) .nil) (.node (ob_61 P) (.node (sub_ 27) .nil .nil) .nil))))) (.node (boot_o_2 P) (.node (boot_o_4 P) (.node (boot_o_8 P) (.node (ob_16 P) (.node (ob_32 P) (.node (ob_64 P) .nil .nil) (.node (sub_ 30) .nil .nil)) (.node (ob_48 P) (.node (sub_ 14) .nil .nil) .nil)) (.node (ob_24 P) (.node (ob_40 P) (.node (sub_ 6) .nil .nil) .nil) (.node (ob_56 P) (.node (sub_ 22) .nil .nil) .nil))) (.node (o12_p8 P) (.node (ob_20 P) (.node (ob_36 P) (.node (sub_ 2) .nil .nil) (.node (sub_ 34) .nil .nil)) (.node (ob_52 P) (.node (sub_ 18) .nil .nil) .nil)) (.node (ob_28 P) (.node (ob_44 P) (.node (sub_ 10) .nil .nil) .nil) (.node (ob_60 P) (.node (sub_ 26) .nil .nil) .nil)))) (.node (boot_o_6 P) (.node (boot_o_10 P) (.node (ob_18 P) (.node (ob_34 P) (.node (sub_ 0) .nil .nil) (.node (sub_ 32) .nil .nil)) (.node (ob_50 P) (.node (sub_ 16) .nil .nil) .nil)) (.node (ob_26 P) (.node (ob_42 P) (.node (sub_ 8) .nil .nil) .nil) (.node (ob_58 P) (.node (sub_ 24) .nil .nil) .nil))) (.node (ob_14 P) (.node (ob_22 P) (.node (ob_38 P) (.node (sub_ 4) .nil .nil) (.node (sub_ 36) .nil .nil)) (.node (ob_54 P) (.node (sub_ 20) .nil .nil) .nil)) (.node (ob_30 P) (.node (ob_46 P) (.node (sub_ 12) .nil .nil) .nil) (.node (ob_62 P) (.node (sub_ 28) .nil .nil) .nil))))))
noncomputable def S_d (w : World) (os : OsState) : SharedT := ⟨T_d w.params, 104, tLife, #[], {}, 2271, os⟩
noncomputable abbrev q_d : Pos := ⟨91, 0, 91, 13⟩
noncomputable def pc_a_P (w : World) : Prop := ∀ os : OsState, segRunT treeTable pw w 11 (some (.ref 6)) 1 187 (S_block w os) (piecesOf [stAt 0, stAt 1, stAt 2, stAt 3, stAt 4, stAt 5, stAt 6] tEnv tCode q_block tB) = some (.next, S_p6 w os, tCode, q_p6)
theorem pc_a_t (w : World) : pc_a_P w := fun os => by kernel_rfl
theorem pc_a (w : World) (os : OsState) : segRun treeTable pw w 11 (some (.ref 6)) 1 187 (S_block w os).abs (piecesOf [stAt 0, stAt 1, stAt 2, stAt 3, stAt 4, stAt 5, stAt 6] tEnv tCode q_block tB) = some (.next, (S_p6 w os).abs, tCode, q_p6) :=
  segRun_of (pc_a_t w os)
noncomputable def pc_b_P (w : World) : Prop := ∀ os : OsState, segRunT treeTable pw w 11 (some (.ref 6)) 1 999 (S_p6 w os) (piecesOf [stAt 7] tEnv tCode q_p6 tB) = some (.next, S_p7 w os, tCode, q_p7)
theorem tw_run {n : Nat} {w : World} {s : SharedT} {l : List Stmt} {q : Pos} {r : Option (Flow × SharedT × Code × Pos)} (h : PySem.W.Fast.tw10110043849684766642 PySem.W.Fast.tw14364793385576792824 pw w 11 (some (.ref 6)) 1 n s ⟨(PySem.W.Fast.tw12563942051412417395 l tEnv).wrap doneF deadEnd id id, tCode, q, tB⟩ = r) : segRunT treeTable pw w 11 (some (.ref 6)) 1 n s (piecesOf l tEnv tCode q tB) = r := by
  rw [PySem.W.Fast.te10110043849684766642, PySem.W.Fast.te14364793385576792824]
  unfold piecesOf
  rw [PySem.W.Fast.te12563942051412417395]
  exact h
theorem pc_b_wf (w : World) : pc_b_P (w.withFollow "special-get-raises" false) := fun os => tw_run (by kernel_rfl)
theorem pc_b_wt (w : World) : pc_b_P (w.withFollow "special-get-raises" true) := fun os => tw_run (by kernel_rfl)
theorem pc_b_t (w : World) : pc_b_P w := byRow2 "special-get-raises" (P := fun w => pc_b_P w) pc_b_wf pc_b_wt w
theorem pc_b (w : World) (os : OsState) : segRun treeTable pw w 11 (some (.ref 6)) 1 999 (S_p6 w os).abs (piecesOf [stAt 7] tEnv tCode q_p6 tB) = some (.next, (S_p7 w os).abs, tCode, q_p7) :=
  segRun_of (pc_b_t w os)
noncomputable def pc_c_P (w : World) : Prop := ∀ os : OsState, segRunT treeTable pw w 11 (some (.ref 6)) 1 30 (S_p7 w os) (piecesOf [stAt 8] tEnv tCode q_p7 tB) = some (.next, S_p8 w os, tCode, q_p8)
theorem pc_c_t (w : World) : pc_c_P w := fun os => by kernel_rfl
theorem pc_c (w : World) (os : OsState) : segRun treeTable pw w 11 (some (.ref 6)) 1 30 (S_p7 w os).abs (piecesOf [stAt 8] tEnv tCode q_p7 tB) = some (.next, (S_p8 w os).abs, tCode, q_p8) :=
  segRun_of (pc_c_t w os)
noncomputable def pc_e_P (w : World) : Prop := ∀ os : OsState, segRunT treeTable pw w 11 (some (.ref 6)) 1 266 (S_p9 w os) (piecesOf [stAt 10, stAt 11, stAt 12, stAt 13, stAt 14, stAt 15, stAt 16, stAt 17, stAt 18, stAt 19, stAt 20, stAt 21] tEnv tCode q_p9 tB) = some (.next, S_p21 w os, tCode, q_p21)
theorem pc_e_t (w : World) : pc_e_P w := fun os => by kernel_rfl
theorem pc_e (w : World) (os : OsState) : segRun treeTable pw w 11 (some (.ref 6)) 1 266 (S_p9 w os).abs (piecesOf [stAt 10, stAt 11, stAt 12, stAt 13, stAt 14, stAt 15, stAt 16, stAt 17, stAt 18, stAt 19, stAt 20, stAt 21] tEnv tCode q_p9 tB) = some (.next, (S_p21 w os).abs, tCode, q_p21) :=
  segRun_of (pc_e_t w os)
end
end

section
open PySem PySem.W PySem.Spec PySem.Calls PyProof.Rows
set_option maxRecDepth 100000
set_option maxHeartbeats 2000000
noncomputable def incr : Int → List Int → Bool
  | _, [] => true
  | a, b :: r => decide (a < b) && incr b r
theorem incr_lt : ∀ {l : List Int} {a : Int}, incr a l = true → ∀ x ∈ l, a < x
  | [], _, _, x, hx => (nomatch hx)
  | b :: r, a, h, x, hx => by
    unfold incr at h
    rw [Bool.and_eq_true, decide_eq_true_eq] at h
    rcases List.mem_cons.mp hx with rfl | hx
    · exact h.1
    · exact Int.lt_trans h.1 (incr_lt h.2 x hx)
theorem incr_nodup : ∀ {l : List Int} {a : Int}, incr a l = true → l.Nodup
  | [], _, _ => List.nodup_nil
  | b :: r, a, h => by
    unfold incr at h
    rw [Bool.and_eq_true] at h
    exact List.nodup_cons.mpr ⟨fun hm => Int.lt_irrefl _ (incr_lt h.2 b hm), incr_nodup h.2⟩
theorem zipRows {env : Env} {pos : Pos} : ∀ (ks : List (Option Expr)) (vs : List Expr), (rowsOf ks vs).length = ks.length → ks.length = vs.length →
    (evalEachOpt ks env).zip ((evalEach vs env).map fun v => do let x ← v; standAt pos; pure x) = (rowsOf ks vs).map (rowI pos)
  | [], vs, _, _ => by cases vs <;> rfl
  | k :: ks, [], _, h => by cases h
  | k :: ks, v :: vs, h1, h2 => by
    have h2' : ks.length = vs.length := Nat.succ.inj h2
    unfold rowsOf at h1 ⊢
    split at h1
    · rename_i e1 e2
      cases e1; cases e2
      have := zipRows (env := env) (pos := pos) ks vs (Nat.succ.inj h1) h2'
      show _ :: _ = _
      rw [List.map_cons, ← this]
      rfl
    · cases h1
section
noncomputable def b3ks : List (Option Expr) := match stAt 9 with
  | .Assign _ (.Dict ks _ _) _ => ks
  | _ => []
noncomputable def b3vs : List Expr := match stAt 9 with
  | .Assign _ (.Dict _ vs _) _ => vs
  | _ => []
noncomputable def b3pos : Pos := match stAt 9 with
  | .Assign _ (.Dict _ _ p) _ => p
  | _ => default
noncomputable def b3ts : List Expr := match stAt 9 with
  | .Assign ts _ _ => ts
  | _ => []
noncomputable def b3at : Pos := match stAt 9 with
  | .Assign _ _ p => p
  | _ => default
theorem st9 : stAt 9 = .Assign b3ts (.Dict b3ks b3vs b3pos) b3at := by kernel_rfl
theorem b3l_eq : b3l = rowsOf b3ks b3vs := by kernel_rfl
theorem b3n : ((rowsOf b3ks b3vs).length, b3ks.length, b3vs.length) = (650, 650, 650) := by kernel_rfl
noncomputable def chunks : List (List (Int × Str)) := (List.range 37).map fun j => (b3l.drop (17 * (j + 1))).take 17
theorem b3_take : b3l.take 17 ++ chunks.flatten = b3l.take 646 := by decide +kernel
theorem b3_split : b3l.take 17 ++ chunks.flatten ++ b3l.drop 646 = b3l := by rw [b3_take, List.take_append_drop]
theorem b3_len : ((b3l.take 646).length, (b3l.drop 646).length, b3l.length, (b3l.take 17).length, chunks.all (fun c => c.length == 17), chunks.length) = (646, 4, 650, 17, true, 37) := by decide +kernel
theorem b3_inc : incr 0 (b3l.map (·.1)) = true := by decide +kernel
theorem b3_hash : (b3l.all fun x => decide (hashInt x.1 = x.1)) = true := by decide +kernel
theorem swaps9 : swapsWithSole b3ts (.Dict b3ks b3vs b3pos) b3at.line tEnv = Sem.pure false := by kernel_rfl
theorem stores9 : swappedStores b3ts (.Dict b3ks b3vs b3pos) tEnv = Sem.pure none := by kernel_rfl
end
end

section
open PySem PySem.W PySem.Spec PySem.Calls PyProof.Rows
set_option maxRecDepth 100000
set_option maxHeartbeats 2000000
section
variable {tb : String → Option Builtin} {p : Program} {w : World} {n₀ : Nat} {ann : Option Value} {q : Pos}
theorem piece_tree {n N : Nat} {s s' r : Shared} {x : Sem Flow} {K' : Flow → Sem Fin} {H' : Value → Sem Fin} {c c' : Code} {pos p' : Pos} (h : segRun tb p w n₀ ann 1 n s ⟨x.wrap doneF deadEnd id id, c, pos, [topFrame q]⟩ = some (.next, s', c', p'))
    (k : topRun tb p w n₀ ann N s' ⟨K' .next, c', p', [topFrame q]⟩ = some r) : topRun tb p w n₀ ann (n + N) s ⟨x.wrap K' H' id id, c, pos, [topFrame q]⟩ = some r := by
  obtain ⟨a, ha, hN⟩ := seg_top (res := id) (K' := K') (H' := H') (B := [topFrame q]) rfl n s ⟨x.wrap doneF deadEnd id id, c, pos, [topFrame q]⟩ ⟨x.wrap K' H' id id, c, pos, [topFrame q]⟩ _ _ _ _ ⟨rfl, rfl, .inl ⟨rfl, rfl, _, rfl, rfl⟩⟩ h
  obtain rfl : a = .next := ha
  exact hN N r k
theorem Steps.then {α β : Type} {m : Sem α} {f : α → Sem β} {c N : Nat} {a : α} {s s₁ r : Shared} {q q₁ : Pos} {K : β → Sem Fin} {H : Value → Sem Fin} {gd : Bool → Bool} {lv : List Value → List Value} {code : Code} {fr : Frame} {B : List Frame}
    (h1 : Steps p w n₀ ann m s q c a s₁ q₁) (k : topRun treeTable p w n₀ ann N s₁ ⟨(f a).wrap K H gd lv, code, q₁, fr :: B⟩ = some r) : topRun treeTable p w n₀ ann (c + N) s ⟨(m >>= f).wrap K H gd lv, code, q, fr :: B⟩ = some r := by
  rw [Sem.bind_eq_wrap', Sem.wrap_wrap]
  exact h1 _ _ _ _ code fr B N r k
end
section
theorem heap9 (w : World) : HS tLife ((T_p8 w.params).list 65) (dictO b3es 650) subsAll = absHeap (T_d w.params) 104 tLife := by
  unfold HS absHeap
  have : (T_p8 w.params).list 65 ++ dictO b3es 650 :: subsAll = (T_d w.params).list 104 := by kernel_rfl
  rw [this]
theorem disp9 (w : World) (os : OsState) : Steps pw w 11 (some (.ref 6)) (eval (.Dict b3ks b3vs b3pos) tEnv) (S_p8 w os).abs b3at (1 + 12515) (.ref 65) (S_d w os).abs b3pos := by
  have hl : ((T_p8 w.params).list 65).length = 65 := by simp [BT.list]
  have hb := b3n
  simp only [Prod.mk.injEq] at hb
  have hb2 := b3_len
  simp only [Prod.mk.injEq] at hb2
  obtain ⟨n1, n2, n3, n4, n5, n6⟩ := hb2
  rw [arm_eval_Dict, zipRows b3ks b3vs (hb.1.trans hb.2.1.symm) (hb.2.1.trans hb.2.2.symm), ← b3l_eq]
  refine Steps.at.bind ?_
  have h := Steps.display (p := pw) (w := w) (n₀ := 11) (ann := some (.ref 6)) (q := b3pos) (L := tLife) (g := #[]) (d := {}) (os := os) (pre := (T_p8 w.params).list 65) (tk := 321) (c0 := b3l.take 17) (few := b3l.drop 646) (Ls := chunks)
    (by rw [hl]; rfl) (by rw [hl]; decide) n4 (fun c hc => eq_of_beq (List.all_eq_true.mp n5 c hc)) (by intro e; rw [e] at n2; cases n2) (by rw [n2]; decide)
    (by rw [b3_split]; exact fun x hx => of_decide_eq_true (List.all_eq_true.mp b3_hash x hx)) (by rw [b3_split]; exact incr_nodup b3_inc) (by rw [b3_split, n3]; decide)
  rw [b3_split, b3_take, n1, n2, n6, hl] at h
  have e1 : (b3e 3 321 (b3l.take 646) ++ b3e 2 (321 + 3 * 646) (b3l.drop 646)) = b3es := rfl
  have e2 : subsOf (321 + 51) chunks ++ [dictO (b3e 2 (321 + 3 * 646) (b3l.drop 646)) 4] = subsAll := rfl
  rw [e1, e2] at h
  have e3 := heap9 w
  rw [show (646 + 4) = 650 from rfl] at h
  rw [e3] at h
  exact h
theorem tail9 (w : World) (os : OsState) : segRun treeTable pw w 11 (some (.ref 6)) 1 12 (S_d w os).abs ⟨(assignStores tEnv (.ref 65) none ((assignEach b3ts tEnv).map (·.2))).wrap doneF deadEnd id id, tCode, b3pos, tB⟩ = some (.next, (S_p9 w os).abs, tCode, q_p9) := segRun_of (by kernel_rfl)
theorem st9_run (w : World) (os : OsState) {N : Nat} {r : Shared} {rest : List Stmt} (k : topRun treeTable pw w 11 (some (.ref 6)) N (S_p9 w os).abs (restOf rest tEnv tCode q_p9 tB) = some r) :
    topRun treeTable pw w 11 (some (.ref 6)) (1 + (0 + ((1 + 12515) + (0 + (12 + N))))) (S_p8 w os).abs (restOf ([stAt 9] ++ rest) tEnv tCode q_p8 tB) = some r := by
  unfold restOf
  rw [List.singleton_append, execs_cons_wrap, st9, arm_exec_Assign]
  refine Steps.at.then ?_
  rw [swaps9]
  refine (Steps.pure false).then ?_
  rw [if_neg Bool.false_ne_true]
  refine (disp9 w os).then ?_
  rw [stores9]
  refine (Steps.pure none).then ?_
  exact piece_tree (tail9 w os) k
theorem body_eq : behindTheImports pw = [stAt 0, stAt 1, stAt 2, stAt 3, stAt 4, stAt 5, stAt 6] ++ ([stAt 7] ++ ([stAt 8] ++ ([stAt 9] ++ ([stAt 10, stAt 11, stAt 12, stAt 13, stAt 14, stAt 15, stAt 16, stAt 17, stAt 18, stAt 19, stAt 20, stAt 21] ++ [])))) := by kernel_rfl
theorem fin_run (w : World) (os : OsState) : topRun treeTable pw w 11 (some (.ref 6)) 4 (S_p21 w os).abs ⟨doneF .next, tCode, q_p21, tB⟩ = some (S_p21 w os).abs := by kernel_rfl
theorem block_run (w : World) (os : OsState) : segRun treeTable pw w 11 (some (.ref 6)) 1 1 (S_block w os).abs (blockOf (behindTheImports pw) tEnv tCode default tB) = some (.next, (S_block w os).abs, tCode, q_block) := by kernel_rfl
theorem pre_run (w : World) (os : OsState) : topGo treeTable pw w 11 (some (.ref 6)) 12 ⟨boot_heap w.params, #[], boot_drawn, boot_toks, os⟩ (topStub pw) = some ((S_block w os).abs, ⟨denote treeTable tCode, tCode, default, tB⟩) := by kernel_rfl
end
end

section
open PySem PySem.W PySem.Spec PySem.Calls PyProof.Rows
set_option maxRecDepth 100000
set_option maxHeartbeats 2000000
theorem topRun_mono' {tb : String → Option Builtin} {p : Program} {w : World} {n₀ : Nat} {ann : Option Value} {n N : Nat} {s r : Shared} {t : Thread} (le : n ≤ N) (h : topRun tb p w n₀ ann n s t = some r) : topRun tb p w n₀ ann N s t = some r := by
  have := topRun_mono (N - n) _ _ _ _ h
  rwa [show n + (N - n) = N by omega] at this
section
theorem run_all (w : World) (os : OsState) : topRun treeTable pw w 11 (some (.ref 6)) 14100 ⟨boot_heap w.params, #[], boot_drawn, boot_toks, os⟩ (topStub pw) = some (S_p21 w os).abs := by
  have h := piece_app (pc_a w os) (piece_app (pc_b w os) (piece_app (pc_c w os) (st9_run w os (piece_app (pc_e w os) (piece_nil (fin_run w os))))))
  rw [← body_eq] at h
  exact topRun_mono' (by decide) (go_top (pre_run w os) (piece_block (block_run w os) h))
end
end

section
open PySem PySem.W PySem.Spec PySem.Calls PyProof.Rows
set_option maxRecDepth 100000
set_option maxHeartbeats 2000000
theorem left_gen {p q : Program} {loose : List Str} {Xt : Shared → Bool} {α : Type} {Yf : Shared → α} {Ya : World → α} {N M : Nat} {H₀ H₁ : Params → Heap} {d₀ d₁ : Drawn} {k₀ k₁ m₀ : Nat} {ann : Option Value}
    (open_ : ∀ w : World, (fencedOpening treeTable p w N).map (fun s => (s.heap, s.gens, s.drawn, s.toks)) = some (H₀ w.params, #[], d₀, k₀))
    (size : ∀ w : World, ((H₀ w.params).isNs mainGlobals && (#[] : Array GenState).size == 0, (H₀ w.params).objs.size, (H₀ w.params).nsMap mainGlobals "__annotations__") = (true, m₀, ann))
    (run : ∀ (w : World) (os : OsState), topRun treeTable p w m₀ ann M ⟨H₀ w.params, #[], d₀, k₀, os⟩ (topStub p) = some ⟨H₁ w.params, #[], d₁, k₁, os⟩) (le : Nat.ble M N = true)
    (l1 : ∀ (w : World) (os : OsState), (staticsOk (importedModules p.main.body) (H₀ w.params) (H₁ w.params) && namesBound p (H₁ w.params) && gensDone ⟨H₁ w.params, #[], d₁, k₁, os⟩ && laidKept (H₀ w.params) (H₁ w.params)) = true)
    (la : ∀ (w : World) (os : OsState), seen ((recsOf q).map (·.name)) (ownsOf q) [] ⟨H₁ w.params, #[], d₁, k₁, os⟩ = expectedOf q) (lb : ∀ (w : World) (_ : OsState), (H₁ w.params).bltView = bltViewBooted)
    (lc : ∀ (w : World) (_ : OsState), (H₁ w.params).keysOk (looseW q loose) ((recsOf q).map (·.name)) ((litsOf q).map (·.1)) ((clssOf q (looseW q loose)).map (·.name)) = true) (ld : ∀ (w : World) (_ : OsState), (H₁ w.params).accountedOkI (importedModules p.main.body) = true)
    (lle : ∀ (w : World) (_ : OsState), ((H₁ w.params).isNs mainGlobals, (H₁ w.params).isNs builtinsNs, tablesOk q (H₁ w.params)) = (true, true, true)) (lf : ∀ (w : World) (os : OsState), Xt ⟨H₁ w.params, #[], d₁, k₁, os⟩ = true)
    (lg : ∀ (w : World) (os : OsState), tabsOk q ⟨H₁ w.params, #[], d₁, k₁, os⟩ = true) (lh : ∀ (w : World) (os : OsState), pinSeenD q (drecsOf q) ⟨H₁ w.params, #[], d₁, k₁, os⟩ = pinGoodD (drecsOf q))
    (li : ∀ (w : World) (os : OsState), plainSeenE q (looseW q loose) ⟨H₁ w.params, #[], d₁, k₁, os⟩ = plainGoodE q (looseW q loose)) (lj : ∀ (w : World) (os : OsState), plainSeenD q loose ⟨H₁ w.params, #[], d₁, k₁, os⟩ = plainGoodD q loose)
    (lk : ∀ (w : World) (os : OsState), wideSeen q ⟨H₁ w.params, #[], d₁, k₁, os⟩ = wideGood q) (ll : ∀ (w : World) (os : OsState), clsSeenW q loose ⟨H₁ w.params, #[], d₁, k₁, os⟩ = clsGoodW q loose)
    (l3 : ∀ (w : World) (os : OsState), Yf ⟨H₁ w.params, #[], d₁, k₁, os⟩ = Ya w) : LeftO p q loose Xt Yf Ya N true := by
  refine LeftO.of_pieces (H₀ := H₀) (H₁ := H₁) open_ size run le fun w => funext fun os => ?_
  have e := lle w os
  simp only [Prod.mk.injEq] at e
  refine looks_pair (l1 w os) (looks_pair ?_ (l3 w os))
  unfold openSeen openGood
  refine looks_pair (la w os) (looks_pair (lb w os) (looks_pair ?_ (looks_pair (lg w os) (looks_pair (lh w os) (looks_pair (li w os) (looks_pair (lj w os) (looks_pair (lk w os) (ll w os))))))))
  dsimp only
  rw [lc w os, ld w os, e.1, e.2.1, e.2.2, lf w os]
  rfl
section
noncomputable def FL (P : Params) : List Obj := [boot_o_0 P, boot_o_1 P, boot_o_2 P, ob_3 P, boot_o_4 P, boot_o_5 P, boot_o_6 P] ++ ([boot_o_7 P, boot_o_8 P, boot_o_9 P, boot_o_10 P, ob_11 P, ob_12 P, ob_13 P] ++ ([ob_14 P, ob_15 P, ob_16 P, ob_17 P, ob_18 P, ob_19 P, ob_20 P] ++ ([ob_21 P, ob_22 P, ob_23 P, ob_24 P, ob_25 P, ob_26 P, ob_27 P] ++ ([ob_28 P, ob_29 P, ob_30 P, ob_31 P, ob_32 P, ob_33 P, ob_34 P] ++ ([ob_35 P, ob_36 P, ob_37 P, ob_38 P, ob_39 P, ob_40 P, ob_41 P] ++ ([ob_42 P, ob_43 P, ob_44 P, ob_45 P, ob_46 P, ob_47 P, ob_48 P] ++ ([ob_49 P, ob_50 P, ob_51 P, ob_52 P, ob_53 P, ob_54 P, ob_55 P] ++ ([ob_56 P, ob_57 P, ob_58 P, ob_59 P, ob_60 P, ob_61 P, ob_62 P] ++ ([ob_63 P, ob_64 P, ob_65 P, sub_ 0, sub_ 1, sub_ 2, sub_ 3] ++ ([sub_ 4, sub_ 5, sub_ 6, sub_ 7, sub_ 8, sub_ 9, sub_ 10] ++ ([sub_ 11, sub_ 12, sub_ 13, sub_ 14, sub_ 15, sub_ 16, sub_ 17] ++ ([sub_ 18, sub_ 19, sub_ 20, sub_ 21, sub_ 22, sub_ 23, sub_ 24] ++ ([sub_ 25, sub_ 26, sub_ 27, sub_ 28, sub_ 29, sub_ 30, sub_ 31] ++ ([sub_ 32, sub_ 33, sub_ 34, sub_ 35, sub_ 36, sub_ 37, ob_104 P] ++ ([ob_105 P, ob_106 P, ob_107 P, ob_108 P, ob_109 P, ob_110 P, ob_111 P] ++ ([ob_112 P, ob_113 P, ob_114 P, ob_115 P, ob_116 P, ob_117 P, ob_118 P] ++ ([ob_119 P, ob_120 P, ob_121 P, ob_122 P, ob_123 P, ob_124 P, ob_125 P] ++ ([ob_126 P, ob_127 P, ob_128 P, ob_129 P, ob_130 P, ob_131 P, ob_132 P] ++ ([ob_133 P, ob_134 P, ob_135 P, ob_136 P, ob_137 P, ob_138 P, ob_139 P] ++ ([ob_140 P, ob_141 P, ob_142 P, ob_143 P, ob_144 P, ob_145 P, ob_146 P]))))))))))))))))))))
noncomputable def HF (P : Params) : Heap := ⟨(FL P).toArray, tLife⟩
theorem fin_list (P : Params) : (T_p21 P).list 147 = FL P := by kernel_rfl
theorem run_fin (w : World) (os : OsState) : topRun treeTable pw w 11 (some (.ref 6)) 14100 ⟨boot_heap w.params, #[], boot_drawn, boot_toks, os⟩ (topStub pw) = some ⟨HF w.params, #[], {}, 2354, os⟩ := by
  rw [run_all]
  show some (⟨⟨((T_p21 w.params).list 147).toArray, tLife⟩, #[], {}, 2354, os⟩ : Shared) = _
  rw [fin_list]
  rfl
noncomputable def vw : Program := { pw with main := { pw.main with body := match pw.main.body with
  | [_, _, _, _, a4, a5, _, _, a8, _, a10, _, a12, a13, a14, a15, a16, _, a18, a19, a20, a21] => [a4, a5, a8, a10, a12, a13, a14, a15, a16, a18, a19, a20, a21]
  | _ => [] } }
noncomputable def LXn : List Str := [Str.ofString "bisect_right", Str.ofString "bisect_left", Str.ofString "b1_set", Str.ofString "b3_exceptions"]
noncomputable def HH : Hook := kHook KK KKa (fun P => KKa_eq P)
theorem open_pw : ∀ w : World, (fencedOpening treeTable pw w 15000).map (fun s => (s.heap, s.gens, s.drawn, s.toks)) = some (boot_heap w.params, #[], boot_drawn, boot_toks) :=
  boot_open (by kernel_rfl) (by kernel_rfl) (fun s => by kernel_rfl)
theorem size_pw (w : World) : ((boot_heap w.params).isNs mainGlobals && (#[] : Array GenState).size == 0, (boot_heap w.params).objs.size, (boot_heap w.params).nsMap mainGlobals "__annotations__") = (true, 11, some (.ref 6)) := by kernel_rfl
theorem look1 (w : World) (os : OsState) : (staticsOk (importedModules pw.main.body) (boot_heap w.params) (HF w.params) && namesBound pw (HF w.params) && gensDone ⟨HF w.params, #[], {}, 2354, os⟩ && laidKept (boot_heap w.params) (HF w.params)) = true := by kernel_rfl
theorem look3 (w : World) (os : OsState) : HH.obs ⟨HF w.params, #[], {}, 2354, os⟩ = HH.val w := by kernel_rfl
noncomputable abbrev rR := (PySem.Challenge.rw_ty0065_01.row).toRowW
noncomputable abbrev SF (w : World) (os : OsState) : Shared := ⟨HF w.params, #[], {}, 2354, os⟩
theorem look_a (w : World) (os : OsState) : seen ((recsOf vw).map (·.name)) (ownsOf vw) [] { SF w os with gens := #[] } = expectedOf vw := by kernel_rfl
theorem look_b (w : World) (os : OsState) : (SF w os).heap.bltView = bltViewBooted := by kernel_rfl
theorem look_c (w : World) (os : OsState) : (SF w os).heap.keysOk (looseW vw LXn) ((recsOf vw).map (·.name)) ((litsOf vw).map (·.1)) ((clssOf vw (looseW vw LXn)).map (·.name)) = true := by kernel_rfl
theorem look_d (w : World) (os : OsState) : (SF w os).heap.accountedOkI (importedModules pw.main.body) = true := by kernel_rfl
theorem look_e (w : World) (os : OsState) : ((SF w os).heap.isNs mainGlobals, (SF w os).heap.isNs builtinsNs, tablesOk vw (SF w os).heap) = (true, true, true) := by kernel_rfl
theorem look_f (w : World) (os : OsState) : (xlAt vw [] (SF w os) && recOk (RowW.records rR) (SF w os)) = true := by kernel_rfl
theorem look_g (w : World) (os : OsState) : tabsOk vw (SF w os) = true := by kernel_rfl
theorem look_h (w : World) (os : OsState) : pinSeenD vw (drecsOf vw) (SF w os) = pinGoodD (drecsOf vw) := by kernel_rfl
theorem look_i (w : World) (os : OsState) : plainSeenE vw (looseW vw LXn) (SF w os) = plainGoodE vw (looseW vw LXn) := by kernel_rfl
theorem look_j (w : World) (os : OsState) : plainSeenD vw LXn (SF w os) = plainGoodD vw LXn := by kernel_rfl
theorem look_k (w : World) (os : OsState) : wideSeen vw (SF w os) = wideGood vw := by kernel_rfl
theorem look_l (w : World) (os : OsState) : clsSeenW vw LXn (SF w os) = clsGoodW vw LXn := by kernel_rfl
theorem left_pw : LeftO pw vw LXn (fun s => xlAt vw [] s && recOk (RowW.records rR) s) HH.obs HH.val 15000 true :=
  left_gen open_pw size_pw run_fin (by rfl) look1 look_a look_b look_c look_d look_e look_f look_g look_h look_i look_j look_k look_l look3
end
end

section
open PySem PySem.W PySem.Spec PySem.Calls PyProof.Rows
set_option maxRecDepth 100000
set_option maxHeartbeats 8000000
theorem said_names : namesResolve PySem.Challenge.rw_ty0065_01.row.prog = true := by kernel_rfl
theorem said_road : noRoadLSs
    { strict := !(importedModules PySem.Challenge.rw_ty0065_01.row.prog.main.body).all cThrough.contains, foot := none,
      bare := List.filter (readsOut PySem.Challenge.rw_ty0065_01.row.prog PySem.Challenge.rw_ty0065_01.row.prog.main.body) [Str.ofString "vars", Str.ofString "dir", Str.ofString "locals"] }
    PySem.Challenge.rw_ty0065_01.row.prog.main.body = true := by kernel_rfl
theorem said_part : PySem.Challenge.rw_ty0065_01.row.partSaid = true := by
  unfold OpenRow.partSaid looksOpen
  repeat' (with_reducible refine look_both ?_ ?_)
  all_goals first | with_reducible exact said_names | with_reducible exact said_road | kernel_rfl
theorem said_row : PySem.Challenge.rw_ty0065_01.row.wellSaid = true := by
  unfold OpenRow.wellSaid
  exact look_both (look_both said_part (by kernel_rfl)) (by kernel_rfl)
theorem said_law : PySem.Challenge.rw_ty0065_01.wellSaid = true := by
  unfold OpenLaw.wellSaid
  repeat' (with_reducible refine look_both ?_ ?_)
  · exact said_row
  all_goals kernel_rfl
theorem prom_ok : (PySem.Challenge.rw_ty0065_01.row).promised := by w_witness2
theorem tops_ok : (chainsOk vw && opensWell (PySem.Challenge.rw_ty0065_01.row).prog && (frees (PySem.Challenge.rw_ty0065_01.row).toRowW && (PySem.Challenge.rw_ty0065_01.row).within.isEmpty)) = true := by decide +kernel
end

section
open PySem PySem.W PySem.Spec PySem.Calls PyProof.Rows PyProof.Rows.LCg PyProof.Rows.LCt PyProof.Rows.LCp
theorem callU {w : World} {f : Addr} {vs : List Value} {news : List (Addr × Obj)} {deep : Nat} {Ret : Heap → Addr → (Str → Option Value) → Shared → (Value → Shared → Prop) → Prop} (hC : Callee w f vs news deep Ret)
    {p : Program} {loose : List Str} {mean : ExcName → Option Value} {mg mb : Str → Option Value} {fa : Addr} {ccd : Value} {h₀ : Heap} {L : Addr} {m : Str → Option Value} {s : Shared} {Q E : Value → Shared → Prop}
    (B : Below callerA h₀ [] h₀) (F : Fr h₀ L s.heap m) (X : (KK w.params).In h₀) (N : News h₀ L s.heap news) (T : Top p loose mean mg mb h₀) (h3 : deep ≤ 3) (hr : Ret h₀ L m s Q) :
    wpAny (model PySem.Challenge.rw_ty0065_01.prog w) (callerA.deeper (envOfC (Str.ofString "law") d21.1.2.2 L fa ccd)) (call (.ref f) vs) Q E s :=
  hC p loose mean mg mb _ _ _ _ _ fa ccd _ [] callerA h₀ h₀ L m s Q E B F X N T rfl (by show _ + deep < recursionLimit; exact Nat.lt_of_le_of_lt (Nat.add_le_add_left h3 _) (by decide)) (by show _ + 8 * deep < cLine; exact Nat.lt_of_le_of_lt (Nat.add_le_add_left (Nat.mul_le_mul_left 8 h3) _) (by decide)) hr
theorem div_is9 {prog : Program} {w : World} {A : Around} {E : Value → Shared → Prop} {s : Shared} {Q : Value → Shared → Prop} {a b : Int} {x : UInt64} {t u : Tok} (hA : A.handled = none) (h : DivIs a b x) (hQ : ∀ t' tk, t' = s.toks → Q (.float x t') { s with toks := tk }) : wpAny (model prog w) A (binaryOp .Div (.int a t) (.int b u)) Q E s :=
  Flt.div_ii hA (fun e => absurd e h.nz) (fun _ hi => absurd hi h.fin) (fun _ _ => h.eq ▸ hQ _ _ rfl)
local macro_rules | `(tactic| walk_at "exec For Name Call cons nil") => `(tactic| (k_here; (first | (with_reducible show wpAny _ _ (exec (Stmt.For (Expr.Name (Str.ofString "one") _) _ _ _ _) _) _ _ _) | (with_reducible show wpAny _ _ (exec (Stmt.For (Expr.Name (Str.ofString "reach") _) _ _ _ _) _) _ _ _)); (rename Fr _ _ _ _ => lF'); (with_unfolding_all refine' For_invTF lF' ?_ ?k2; (case k2 => intro _; rfl); k_whole)))
local macro_rules | `(tactic| walk_at "binaryOp Add ref ref") => `(tactic| (k_here; k_dflt (refine' addListsA ?k1 ?k2 ?k3 ?k4 ?_ ?k5; (case k1 => k_asm); (case k2 => k_asm); (case k3 => walk_at "mem"); (case k4 => walk_at "mem"); (case k5 => first | assumption | exact addSz (by assumption) (by assumption) (by simp; omega) (by simp; omega))); intro _ _ _ _ _; (try k_sweep)))
local macro_rules | `(tactic| passes_own) => `(tactic| assumption)
local macro_rules | `(tactic| walk_at "call ref") => `(tactic| (k_here; (with_reducible show wpAny _ _ (call (Value.ref _) _) _ _ _); refine stopHere ?_))
local macro_rules | `(tactic| walk_at "eval ListComp") => `(tactic| (k_here; (with_reducible show wpAny _ _ (eval (Expr.ListComp _ [⟨Expr.Name _ _, Expr.Name (Str.ofString "typed") _, [_], _⟩] _ _) _) _ _ _); k_dflt (refine compStr (F₀ := by k_asm) (by with_unfolding_all rfl) (by decide) (by rfl) (by decide) (by rfl) ?_)))

section
open PySem PySem.W PySem.Spec PySem.Calls PyProof.Rows PyProof.Rows.LCg PyProof.Rows.LCt PyProof.Rows.LCp
local macro_rules | `(tactic| walk_at "subscriptTail Name Constant ref int") => `(tactic| (k_here; k_dflt (refine' item_tupleT ?t ?a ?b ?c ?d ?_; (case t => exact News.isTup (by k_asm) (by walk_at "mem")); (case a => decide); (case b => decide); (case c => rfl); (case d => rfl); k_whole)))
local macro_rules | `(tactic| walk_at "subscriptTail") => `(tactic| (k_here; (with_reducible show wpAny _ _ (subscriptTail (Expr.Constant _ _ _) _ (Value.str _ _) (Value.int _ _)) _ _ _); k_dflt (refine' strItem ?k1 ?k2 ?k3 ?_; (case k1 => omega); (case k2 => show _ < (8 : Int); omega); (case k3 => decide)); intro _ _ _ _))
local macro_rules | `(tactic| walk_at "subscriptTail Name Name ref int") => `(tactic| (k_here; (with_reducible show wpAny _ _ (subscriptTail (Expr.Name (Str.ofString "words") _) _ _ _) _ _ _); k_dflt (refine' wordItem ?k0 ?k1 ?k2 ?k3 ?k4 ?k5 ?k6 ?_; (case k0 => assumption); (case k1 => k_asm); (case k2 => walk_at "mem"); (case k3 => assumption); (case k4 => omega); (case k5 => omega); (case k6 => assumption)); intro _))
local macro_rules | `(tactic| walk_at "subscriptTail Name Name ref int") => `(tactic| (k_here; (with_reducible show wpAny _ _ (subscriptTail (Expr.Name (Str.ofString "hues") _) _ _ _) _ _ _); k_dflt (refine' hueAt ?k0 ?k1 ?k2 ?k3 ?k4 ?k5 ?k6 ?_; (case k0 => assumption); (case k1 => k_asm); (case k2 => walk_at "mem"); (case k3 => assumption); (case k4 => omega); (case k5 => omega); (case k6 => omega)); intro _))
local macro_rules | `(tactic| walk_at "binaryOp Add float int") => `(tactic| (k_here; (refine add_is rfl (by assumption) ?_); intro _ _))
local macro_rules | `(tactic| walk_at "compareOp NotEq ref ref") => `(tactic| (k_here; refine stopHere ?_))
local macro_rules | `(tactic| walk_at "compareOp In str str") => `(tactic| (k_here; (refine SB.contains ?_); rw [containsOne]))
local macro_rules | `(tactic| walk_at "binaryOp Div int int") => `(tactic| (k_here; k_dflt (refine div_is9 rfl (by assumption) ?_); intro _ _ _))
local macro_rules | `(tactic| walk_at "getMethod ref") => `(tactic| (k_here; (with_reducible show wpAny _ _ (getMethod (Value.ref _) _ _) _ _ _); k_dflt (refine appendM (by k_asm) (by walk_at "mem") ?_)))
local macro_rules | `(tactic| walk_at "call builtin:list.append") => `(tactic| (k_here; refine stopHere ?_))

section
open PySem PySem.W PySem.Spec PySem.Calls PyProof.Rows PyProof.Rows.LCg PyProof.Rows.LCt PyProof.Rows.LCp
set_option maxRecDepth 100000
set_option maxHeartbeats 2000000
theorem lawG (w : World) {p : Program} {loose : List Str} {mean : ExcName → Option Value} {mg mb : Str → Option Value} {fa : Addr} {ccd : Value} {h₀ : Heap} {L : Addr} {m₀ : Str → Option Value} {s : Shared} {Qf : Flow → Shared → Prop} {E : Value → Shared → Prop} {oM oW oO oP oR : Obj}
  (B : Below callerA h₀ [] h₀) (X : (KK w.params).In h₀) (T : Top p loose mean mg mb h₀) (hE : PassesOwn (model PySem.Challenge.rw_ty0065_01.prog w) (callerA.deeper (envOfC (Str.ofString "law") d21.1.2.2 L fa ccd)) (envOfC (Str.ofString "law") d21.1.2.2 L fa ccd) E) (hret : ∀ h' tk' m', Fr h₀ L h' m' → Qf (.ret (.bool true)) { s with heap := h', toks := tk' })
  {lh lw lf la : Addr} {hv wv lv rows : List Value} {qh qw qf ql n : Nat} {fl : List (Addr × Obj)} (F : Fr h₀ L s.heap (kstB m₀ [(Str.ofString "hues", .ref lh), (Str.ofString "far", .ref lf)]))
  (N : News h₀ L s.heap ((L + 1 + 1 + 1 + 1, oP) :: (la, listOf lv.toArray ql) :: (L + 1 + 1 + 1 + 1 + 1, oR) :: (L + 1 + 1 + 1, oO) :: (L + 1 + 1, oW) :: (L + 1, oM) :: (lf, listOf rows.toArray qf) :: (lh, listOf hv.toArray qh) :: (lw, listOf wv.toArray qw) :: fl))
  (dP : oP.data = .cell (some (.ref la))) (dR : oR.data = .cell none)
  (hh : FlsAre hv ((psM n).map hueB)) (hl : FlsAre lv (lapL (psM n))) (hn256 : n < 256) (hr : RowsIn fl rows (farL (psM n))) (hfl : ∀ p ∈ fl, OffF L lf p.1) (g1 : @LT.lt Nat _ (L + 1 + 1 + 1 + 1 + 1) lh) (g2 : @LT.lt Nat _ lh lw) (g3 : @LT.lt Nat _ lw lf) (g4 : @LT.lt Nat _ lf la) : wpAny (model PySem.Challenge.rw_ty0065_01.prog w) (callerA.deeper (envOfC (Str.ofString "law") d21.1.2.2 L fa ccd)) (execs (d21.1.2.1.drop 14) (envOfC (Str.ofString "law") d21.1.2.2 L fa ccd)) Qf E s := by
  revert X
  k_fill
  intro X
  (try k_fold)
  have hxl : (List.map hueB (psM n)).length = (psM n).length := List.length_map ..
  have hpl := psM_len n
  have hvl : hv.length = (psM n).length := by rw [hh.length, hxl]
  w_strict k_steps
  unfold Stop
  have hlapl : (lapL (psM n)).length ≤ 16 := by unfold lapL; simp; omega
  refine' forRangeT (n := 3) (σ := Obj) (fun c => (L + 1 + 1 + 1 + 1 + 1, c) :: (L + 1 + 1 + 1 + 1, oP) :: (la, listOf lv.toArray ql) :: (L + 1 + 1 + 1, oO) :: (L + 1 + 1, oW) :: (L + 1, oM) :: (lf, listOf rows.toArray qf) :: (lh, listOf hv.toArray qh) :: (lw, listOf wv.toArray qw) :: fl) (fun _ => []) [Str.ofString "leaps"] (fun _ c => ∃ v, c.data = .cell v) oR rfl ?p1 ?p2 ?p3 ?p4 ?p5 ?p6 ?p7 ?p8 ?p9 ?p10
  case p1 => assumption
  case p2 => exact small_one (by omega) (by omega) (by omega) (by omega)
  case p3 => rfl
  case p4 => assumption
  case p6 => exact List.forall_mem_nil _
  case p5 => exact newsSub (by assumption) (by walk_at "sub")
  case p7 => exact ⟨_, dR⟩
  case p8 => intro _ _; rfl
  case p10 =>
    rintro oR' u h5 tk5 ⟨vR, dR'⟩ F5 N5
    (try dsimp only at F5 N5)
    (try k_fold)
    w_strict k_steps
    exact hret _ _ _ (by assumption)
  case p9 =>
    rintro oR' i k tk' u s₁ own hk0 hi' hoff ⟨vR, dR'⟩ F5 N5
    (try dsimp only at F5 N5 hoff)
    subst hk0
    (try k_fold)
    refine wpAny_assign_Name (storeCell ((L + 1 + 1 + 1 + 1, oP) :: (la, listOf lv.toArray ql) :: (L + 1 + 1 + 1, oO) :: (L + 1 + 1, oW) :: (L + 1, oM) :: (lf, listOf rows.toArray qf) :: (lh, listOf hv.toArray qh) :: (lw, listOf wv.toArray qw) :: (fl ++ own)) (by assumption) (by assumption) rfl (by walk_at "mem") dR' (by walk_at "sub") ?hoo ?_)
    case hoo =>
      intro p hp
      simp only [List.mem_cons, List.mem_append] at hp
      rcases hp with rfl | rfl | rfl | rfl | rfl | rfl | rfl | rfl | hp | hp
      · k_ne
      · k_ne
      · k_ne
      · k_ne
      · k_ne
      · k_ne
      · k_ne
      · k_ne
      · exact (hfl p hp).2.2.2
      · exact hoff p hp _ (by simp)
    intro h6 oR2 F6 N6 dR2
    have dR8 : DivIs (1 + (i : Int)) 8 (fq (i + 1) 8) := divIs_nat (n := i + 1) (by omega) rfl (by omega) (.inr (.inl rfl))
    have hend := end_eq hn256 hi'
    w_strict k_steps
    unfold Stop
    refine CompSrc.ledger (its := hv.toArray) rfl (by assumption) (by assumption) (by walk_at "mem") (by rw [List.size_toArray, hvl]; exact Nat.le_trans hpl (by decide)) fun gg => ?_
    rw [List.size_toArray]
    refine restU (Inv := fun j ys nx => nx = (L + 1 + 1 + 1 + 1 + 1, oR2) :: (L + 1 + 1 + 1 + 1, oP) :: (la, listOf lv.toArray ql) :: (L + 1 + 1 + 1, oO) :: (L + 1 + 1, oW) :: (L + 1, oM) :: (lf, listOf rows.toArray qf) :: (lh, listOf hv.toArray qh) :: (lw, listOf wv.toArray qw) :: (fl ++ own) ∧ IntsAre ys (((psM n).take j).map fun p => (bisR (lapL (psM n)) (Float64.add (hueB p) (fq (i + 1) 8)) : Int) - 1)) ?ct ?cf ⟨rfl, .nil⟩
    case ct =>
      rintro j ys nx v I oI C oC D m₂ h tk E' hj ⟨rfl, hys⟩ hv9 hC hx F4 N4 off ne
      have hjp : j < (psM n).length := by omega
      obtain ⟨pp, hp8, hpg, hph⟩ := ps_get hjp
      obtain ⟨t9, ht9⟩ := hh.nthF hj
      have ev : v = .float (hueB pp) t9 := by
        have e1 : hv[j]? = some v := by simpa using hv9
        rw [List.getElem?_eq_getElem hj, ht9, hph] at e1
        exact (Option.some.inj e1).symm
      subst ev
      w_strict k_steps
      unfold Stop
      refine' callU (bisR_c w _ ?bm hl (Nat.lt_of_le_of_lt hlapl (by decide))) B ?bF X ?bN T (by decide) ?_
      case bF => assumption
      case bN => assumption
      case bm => walk_at "mem"
      intro t6 h9 tk9 F8 N8 k8
      w_strict k_steps
      unfold Stop
      refine CompEnd.intro (by assumption) (by assumption) _ (fun p hp => hp) off (.inr ⟨_, by walk_at "mem", rfl, _, rfl⟩) ⟨rfl, ?_⟩
      have e2 : (psM n).take (j + 1) = (psM n).take j ++ [pp] := takeSnoc hjp (by rw [← hpg, List.getD_eq_getElem?_getD, List.getElem?_eq_getElem hjp]; rfl)
      rw [e2, List.map_append]
      exact hys.append (.cons _ _ .nil)
    case cf =>
      rintro ys nx ⟨rfl, hys⟩
      rw [hvl, List.take_length] at hys
      unfold FinA
      intro D h3 tk3 F4 N4 o1
      have hys9 : IntsAre ys (leapsL (psM n) (i + 1)) := by unfold leapsL; rw [List.map_map]; exact hys
      have hll : (leapsL (psM n) (i + 1)).length = (psM n).length := by unfold leapsL; simp
      w_strict k_steps
      unfold Stop
      refine' callU (odd_c w _ lf rows qf (farL (psM n)) (1 + (i : Int)) _ ?cm (hr.mono ?cs) (by rw [farL_len]; exact hpl) (fun i hi => by rw [farL_len] at hi; rw [farL_get hi, rowJ_len])) B ?cF X ?cN T (by decide) ?_
      case cF => assumption
      case cN => assumption
      case cm => walk_at "mem"
      case cs => walk_at "sub"
      intro t6 h9 tk9 F8 N8
      w_strict k_steps
      unfold Stop
      refine' callU (rings_c w _ D ys _ (leapsL (psM n) (i + 1)) ?em hys9 (by rw [hll]; exact hpl)) B ?eF X ?eN T (by decide) ?_
      case eF => assumption
      case eN => assumption
      case em => walk_at "mem"
      intro t7 h10 tk10 F9 N9
      rw [hll]
      w_strict k_steps
      · exact absurd hend (by assumption)
      · refine tNext oR2 (by assumption) (by assumption) ?e1 ?e2 ?e3 ?e7 ?e8 ⟨_, dR2⟩
        case e1 => walk_at "sub"
        case e2 => walk_at "sub"
        case e3 => exact hoff
        case e7 => exact List.forall_mem_nil _
        case e8 => walk_at "fr same"
end

section
open PySem PySem.W PySem.Spec PySem.Calls PyProof.Rows PyProof.Rows.LCg PyProof.Rows.LCt PyProof.Rows.LCp
set_option maxRecDepth 100000
set_option maxHeartbeats 2000000
local macro_rules | `(tactic| walk_at "execs cons") => `(tactic| (k_here; (with_reducible show wpAny _ _ (execs (Stmt.For (Expr.Name (Str.ofString "reach") _) _ _ _ _ :: _) _) _ _ _); refine stopHere ?_))
local macro_rules | `(tactic| walk_at "binaryOp Add ref ref") => `(tactic| (k_here; refine stopHere ?_))
theorem lawE (w : World) {p : Program} {loose : List Str} {mean : ExcName → Option Value} {mg mb : Str → Option Value} {fa : Addr} {ccd : Value} {h₀ : Heap} {L : Addr} {m₀ : Str → Option Value} {s : Shared} {Qf : Flow → Shared → Prop} {E : Value → Shared → Prop} {oM oW oO oP oR : Obj}
  (B : Below callerA h₀ [] h₀) (X : (KK w.params).In h₀) (T : Top p loose mean mg mb h₀) (hE : PassesOwn (model PySem.Challenge.rw_ty0065_01.prog w) (callerA.deeper (envOfC (Str.ofString "law") d21.1.2.2 L fa ccd)) (envOfC (Str.ofString "law") d21.1.2.2 L fa ccd) E) (hret : ∀ h' tk' m', Fr h₀ L h' m' → Qf (.ret (.bool true)) { s with heap := h', toks := tk' })
  {lh lw lf : Addr} {hv wv rows : List Value} {qh qw qf n : Nat} {vO : Option Value} {fl : List (Addr × Obj)} (F : Fr h₀ L s.heap (kstB m₀ [(Str.ofString "hues", .ref lh), (Str.ofString "far", .ref lf)]))
  (N : News h₀ L s.heap ((L + 1 + 1 + 1, oO) :: (lf, listOf rows.toArray qf) :: (L + 1 + 1 + 1 + 1 + 1, oR) :: (L + 1 + 1 + 1 + 1, oP) :: (L + 1 + 1, oW) :: (L + 1, oM) :: (lh, listOf hv.toArray qh) :: (lw, listOf wv.toArray qw) :: fl))
  (dO : oO.data = .cell vO) (dP : oP.data = .cell none) (dR : oR.data = .cell none)
  (hh : FlsAre hv ((psM n).map hueB)) (hn256 : n < 256) (hr : RowsIn fl rows (farL (psM n))) (hfl : ∀ p ∈ fl, OffF L lf p.1) (g1 : @LT.lt Nat _ (L + 1 + 1 + 1 + 1 + 1) lh) (g2 : @LT.lt Nat _ lh lw) (g3 : @LT.lt Nat _ lw lf) : wpAny (model PySem.Challenge.rw_ty0065_01.prog w) (callerA.deeper (envOfC (Str.ofString "law") d21.1.2.2 L fa ccd)) (execs (d21.1.2.1.drop 13) (envOfC (Str.ofString "law") d21.1.2.2 L fa ccd)) Qf E s := by
  revert X
  k_fill
  intro X
  (try k_fold)
  have hxl : (List.map hueB (psM n)).length = (psM n).length := List.length_map ..
  have hpl := psM_len n
  have hvl : hv.length = (psM n).length := by rw [hh.length, hxl]
  w_strict k_steps
  unfold Stop
  refine CompSrc.ledger (its := hv.toArray) rfl F N (by walk_at "mem") (by rw [List.size_toArray, hvl]; exact Nat.le_trans hpl (by decide)) fun gg => ?_
  rw [List.size_toArray]
  refine restU (Inv := fun j ys nx => nx = (L + 1 + 1 + 1, oO) :: (lf, listOf rows.toArray qf) :: (L + 1 + 1 + 1 + 1 + 1, oR) :: (L + 1 + 1 + 1 + 1, oP) :: (L + 1 + 1, oW) :: (L + 1, oM) :: (lh, listOf hv.toArray qh) :: (lw, listOf wv.toArray qw) :: fl ∧ FlsAre ys (((psM n).take j).map fun p => Float64.add (hueB p) (Float64.ofInt 1))) ?ct ?cf ⟨rfl, .nil⟩
  case ct =>
    rintro j ys nx v I oI C oC D m₂ h tk E' hj ⟨rfl, hys⟩ hv9 hC hx F4 N4 off ne
    have hjp : j < (psM n).length := by omega
    obtain ⟨pp, hp8, hpg, hph⟩ := ps_get hjp
    obtain ⟨t9, ht9⟩ := hh.nthF hj
    have ev : v = .float (hueB pp) t9 := by
      have e1 : hv[j]? = some v := by simpa using hv9
      rw [List.getElem?_eq_getElem hj, ht9, hph] at e1
      exact (Option.some.inj e1).symm
    subst ev
    have aH : AddIs (hueB pp) 1 (Float64.add (hueB pp) (Float64.ofInt 1)) := addIs_nat (n := 1) rfl (by decide)
    w_strict k_steps
    unfold Stop
    refine CompEnd.intro (by assumption) (by assumption) _ (fun p hp => hp) off (.inr ⟨_, by walk_at "mem", rfl, _, rfl⟩) ⟨rfl, ?_⟩
    have e2 : (psM n).take (j + 1) = (psM n).take j ++ [pp] := takeSnoc hjp (by rw [← hpg, List.getD_eq_getElem?_getD, List.getElem?_eq_getElem hjp]; rfl)
    rw [e2, List.map_append]
    exact hys.append (.cons _ _ .nil)
  case cf =>
    rintro ys nx ⟨rfl, hys⟩
    rw [hvl, List.take_length] at hys
    unfold FinE
    intro D h3 tk3 F4 N4 o1
    have hyl : ys.length = (psM n).length := by rw [hys.length, List.length_map]
    w_strict k_steps
    unfold Stop
    refine addListsA (vs := hv) (ws := ys) (by assumption) (by assumption) (by walk_at "mem") (by walk_at "mem") ?_ (Nat.le_trans (by omega : _ ≤ 16) (by decide))
    intro D3 h5 F5 N5 l5
    have hall := allLt_on l5
    w_strict k_steps
    refine' storeCell ((D3, listOf (hv ++ ys).toArray 0) :: (L + 1 + 1 + 1 + 1 + 1, oR) :: (L + 1 + 1 + 1, oO) :: (L + 1 + 1, oW) :: (L + 1, oM) :: (lf, listOf rows.toArray qf) :: (lh, listOf hv.toArray qh) :: (lw, listOf wv.toArray qw) :: fl) ?sF ?sN rfl ?sm dP ?ss ?sh ?_
    case sF => assumption
    case sN => assumption
    case sm => walk_at "mem"
    case ss => walk_at "sub"
    case sh =>
      intro p hp
      simp only [List.mem_cons] at hp
      rcases hp with rfl | rfl | rfl | rfl | rfl | rfl | rfl | rfl | hp
      · exact Nat.ne_of_gt (hall (L + 1 + 1 + 1 + 1, oP) (by walk_at "mem"))
      · k_ne
      · k_ne
      · k_ne
      · k_ne
      · k_ne
      · k_ne
      · k_ne
      · exact (hfl p hp).2.2.1
    intro h6 oP2 F6 N6 dP2
    w_strict k_steps
    unfold Stop
    have F9 := ksw_fr (ps := [(Str.ofString "hues", Value.ref lh), (Str.ofString "far", Value.ref lf)]) (stored := []) (by walk_at "fr vals") (fun _ _ _ => rfl) F6
    have hl9 : FlsAre (hv ++ ys) (lapL (psM n)) := by
      unfold lapL
      refine hh.append ?_
      rw [List.map_map]
      exact hys
    exact lawG w B X T hE hret F9 N6 dP2 dR hh hl9 hn256 hr hfl g1 g2 g3 (hall (lf, listOf rows.toArray qf) (by walk_at "mem"))
end

section
open PySem PySem.W PySem.Spec PySem.Calls PyProof.Rows PyProof.Rows.LCg PyProof.Rows.LCt PyProof.Rows.LCp
set_option maxRecDepth 100000
set_option maxHeartbeats 2000000
local macro_rules | `(tactic| walk_at "execs cons") => `(tactic| (k_here; (with_reducible show wpAny _ _ (execs (Stmt.Assign [Expr.Name (Str.ofString "lap") _] _ _ :: _) _) _ _ _); refine stopHere ?_))
local macro_rules | `(tactic| walk_at "subscriptTail Name Name ref int") => `(tactic| (k_here; (with_reducible show wpAny _ _ (subscriptTail (Expr.Name (Str.ofString "_") _) _ _ _) _ _ _); k_dflt (refine' intItem0 ?k1 ?k2 ?k3 ?k4 ?k5 ?k6 ?_; (case k1 => k_asm); (case k2 => walk_at "mem"); (case k3 => assumption); (case k4 => omega); (case k5 => omega); (case k6 => omega)); intro _ _ _))
local macro_rules | `(tactic| walk_at "subscriptTail Name Name ref int") => `(tactic| (k_here; (with_reducible show wpAny _ _ (subscriptTail (Expr.Name (Str.ofString "far") _) _ _ _) _ _ _); k_dflt (refine' rowItem9 ?k1 ?k2 ?k3 ?k4 ?k5 ?k6 ?k7 ?_; (case k7 => assumption); (case k1 => k_asm); (case k2 => walk_at "mem"); (case k3 => assumption); (case k4 => omega); (case k5 => omega); (case k6 => omega)); intro _ _ _ _ _))
theorem lawD (w : World) {p : Program} {loose : List Str} {mean : ExcName → Option Value} {mg mb : Str → Option Value} {fa : Addr} {ccd : Value} {h₀ : Heap} {L : Addr} {m₀ : Str → Option Value} {s : Shared} {Qf : Flow → Shared → Prop} {E : Value → Shared → Prop} {oM oW oO oP oR : Obj}
  (B : Below callerA h₀ [] h₀) (X : (KK w.params).In h₀) (T : Top p loose mean mg mb h₀) (hE : PassesOwn (model PySem.Challenge.rw_ty0065_01.prog w) (callerA.deeper (envOfC (Str.ofString "law") d21.1.2.2 L fa ccd)) (envOfC (Str.ofString "law") d21.1.2.2 L fa ccd) E) (hret : ∀ h' tk' m', Fr h₀ L h' m' → Qf (.ret (.bool true)) { s with heap := h', toks := tk' })
  {lh lw lf : Addr} {hv wv : List Value} {qh qw n : Nat} (F : Fr h₀ L s.heap (kstB m₀ [(Str.ofString "hues", .ref lh), (Str.ofString "far", .ref lf)]))
  (N : News h₀ L s.heap ((lf, listOf (List.toArray []) 0) :: (L + 1 + 1 + 1 + 1 + 1, oR) :: (L + 1 + 1 + 1 + 1, oP) :: (L + 1 + 1 + 1, oO) :: (L + 1 + 1, oW) :: (L + 1, oM) :: (lh, listOf hv.toArray qh) :: (lw, listOf wv.toArray qw) :: []))
  (dW : oW.data = .cell (some (.ref lw))) (dO : oO.data = .cell none) (dP : oP.data = .cell none) (dR : oR.data = .cell none)
  (hh : FlsAre hv ((psM n).map hueB)) (hw : StrsAre wv ((psM n).map wordS)) (hn256 : n < 256) (g1 : @LT.lt Nat _ (L + 1 + 1 + 1 + 1 + 1) lh) (g2 : @LT.lt Nat _ lh lw) (g3 : @LT.lt Nat _ lw lf) : wpAny (model PySem.Challenge.rw_ty0065_01.prog w) (callerA.deeper (envOfC (Str.ofString "law") d21.1.2.2 L fa ccd)) (execs (d21.1.2.1.drop 12) (envOfC (Str.ofString "law") d21.1.2.2 L fa ccd)) Qf E s := by
  revert X
  k_fill
  intro X
  (try k_fold)
  have hxl : (List.map hueB (psM n)).length = (psM n).length := List.length_map ..
  have hpl := psM_len n
  have hvl : hv.length = (psM n).length := by rw [hh.length, hxl]
  have hwl : wv.length = (psM n).length := (sLen hw).trans (List.length_map ..)
  w_strict k_steps
  unfold Stop
  refine' forRangeT (n := (psM n).length) (σ := Obj × List Value × Nat × List (Addr × Obj)) (fun c => (L + 1 + 1 + 1, c.1) :: (lf, listOf c.2.1.toArray c.2.2.1) :: (L + 1 + 1 + 1 + 1 + 1, oR) :: (L + 1 + 1 + 1 + 1, oP) :: (L + 1 + 1, oW) :: (L + 1, oM) :: (lh, listOf hv.toArray qh) :: (lw, listOf wv.toArray qw) :: (c.2.2.2 ++ [])) (fun _ => []) [Str.ofString "other", Str.ofString "gap"]
    (fun i c => (∃ v, c.1.data = .cell v) ∧ RowsIn c.2.2.2 c.2.1 ((farL (psM n)).take i) ∧ ∀ p ∈ c.2.2.2, OffF L lf p.1) (oO, [], 0, []) rfl ?p1 ?p2 ?p3 ?p4 ?p5 ?p6 ?p7 ?p8 ?p9 ?p10
  case p1 => assumption
  case p2 => exact small_one (by omega) (by omega) (by omega) (by omega)
  case p3 => rw [rangeSize_nat, hvl]; simp
  case p4 => assumption
  case p6 => exact List.forall_mem_nil _
  case p5 =>
    refine newsSub (by assumption) ?_
    dsimp only [List.nil_append]
    walk_at "sub"
  case p7 => exact ⟨⟨_, dO⟩, .nil, by simp⟩
  case p8 => intro _ _; rfl
  case p10 =>
    rintro ⟨oO', rows, q, fl⟩ u h5 tk5 ⟨⟨vO, dO'⟩, hrw, hfl⟩ F5 N5
    (try dsimp only at F5 N5 dO' hrw hfl)
    (try k_fold)
    rw [← farL_len, List.take_length] at hrw
    w_strict k_steps
    unfold Stop
    have F9 := ksw_fr (ps := [(Str.ofString "hues", Value.ref lh), (Str.ofString "far", Value.ref lf)]) (stored := []) (by walk_at "fr vals") (fun _ _ _ => rfl) F5
    rw [List.append_nil] at N5
    exact lawE w B X T hE hret F9 N5 dO' dP dR hh hn256 hrw hfl g1 g2 g3
  case p9 =>
    rintro ⟨oO', rows, q, fl⟩ i k tk' u s₁ own hk0 hi' hoff ⟨⟨vO, dO'⟩, hrw, hfl⟩ F5 N5
    dsimp only at F5 N5 dO' hrw hfl hoff
    subst hk0
    (try k_fold)
    rw [List.append_nil] at N5
    obtain ⟨pA, hpA, hgA, hhA⟩ := ps_get hi'
    have e0i : (0 + (i : Int)).toNat = i := by omega
    refine wpAny_assign_Name (storeCell ((lf, listOf rows.toArray q) :: (L + 1 + 1 + 1 + 1 + 1, oR) :: (L + 1 + 1 + 1 + 1, oP) :: (L + 1 + 1, oW) :: (L + 1, oM) :: (lh, listOf hv.toArray qh) :: (lw, listOf wv.toArray qw) :: (fl ++ own)) (by assumption) (by assumption) rfl (by walk_at "mem") dO' (by walk_at "sub") ?hoo ?_)
    case hoo =>
      intro p hp
      simp only [List.mem_cons, List.mem_append] at hp
      rcases hp with rfl | rfl | rfl | rfl | rfl | rfl | rfl | hp | hp
      · k_ne
      · k_ne
      · k_ne
      · k_ne
      · k_ne
      · k_ne
      · k_ne
      · exact (hfl p hp).2.1
      · exact hoff p hp _ (by simp)
    intro h6 oO2 F6 N6 dO2
    have hrl : rows.length = i := by rw [hrw.length, List.length_take, farL_len]; omega
    w_strict k_steps
    unfold Stop
    refine' CompSrc.range (n := i) rfl ?dF ?dN (by assumption) ?ds1 ?ds2 ?ds3 ?_
    case dF => assumption
    case dN => assumption
    case ds1 => exact small_one (by omega) (by omega) (by omega) (by omega)
    case ds2 => rw [show (0 : Int) + (i : Int) = (i : Int) by omega, rangeSize_nat]; simp
    case ds3 => exact Nat.le_trans (by omega : i ≤ 8) (by decide)
    intro gg2
    refine restU (Inv := fun j ys nx => nx = (L + 1 + 1 + 1, oO2) :: (lf, listOf rows.toArray q) :: (L + 1 + 1 + 1 + 1 + 1, oR) :: (L + 1 + 1 + 1 + 1, oP) :: (L + 1 + 1, oW) :: (L + 1, oM) :: (lh, listOf hv.toArray qh) :: (lw, listOf wv.toArray qw) :: (fl ++ own) ∧ IntsAre ys (rowJ n i j)) ?dt ?df ⟨rfl, .nil⟩
    case dt =>
      rintro j ys nx v I oI C oC D2 m₂ h tk E' hj ⟨rfl, hyr⟩ ⟨tv, rfl⟩ hC hx F7 N7 off ne
      obtain ⟨pB, hpB, hgB, hhB⟩ := ps_get (Nat.lt_trans hj hi')
      have hBA : pB < pA := by rw [← hgB, ← hgA]; exact ps_lt hi' hj
      have e0j : (0 + (j : Int)).toNat = j := by omega
      have wA : (psM n).getD (0 + (i : Int)).toNat 0 = pA := by rw [e0i]; exact hgA
      have wB : (psM n).getD (0 + (j : Int)).toNat 0 = pB := by rw [e0j]; exact hgB
      w_strict k_steps
      unfold Stop
      refine callU (lev_c w _ (wordB pA) (wordB pB) _ _ _ (by simp [wordB]) (by simp [wordB])) B (by assumption) X (by assumption) T (by decide) ?_
      intro t6 h9 tk9 F8 N8 k8
      w_strict k_steps
      unfold Stop
      refine CompEnd.intro (by assumption) (by assumption) _ (fun p hp => hp) off trivial ⟨rfl, ?_⟩
      exact rowJ_snoc hyr (by rw [hgA, hgB]; exact (lev_dist hpA hBA).1)
    case df =>
      rintro yr nx ⟨rfl, hyr⟩
      unfold FinE
      intro D2 h9 tk9 F8 N8 o2
      w_strict k_steps
      unfold Stop
      refine appendL ((D2, lst yr) :: (L + 1 + 1 + 1, oO2) :: (L + 1 + 1 + 1 + 1 + 1, oR) :: (L + 1 + 1 + 1 + 1, oP) :: (L + 1 + 1, oW) :: (L + 1, oM) :: (lh, listOf hv.toArray qh) :: (lw, listOf wv.toArray qw) :: (fl ++ own)) (by assumption) (by assumption) (by walk_at "mem") (by walk_at "sub") ?hap (by omega) ?_
      case hap =>
        intro p hp
        simp only [List.mem_cons, List.mem_append] at hp
        rcases hp with rfl | rfl | rfl | rfl | rfl | rfl | rfl | rfl | hp | hp
        · exact Ne.symm o2.2.1
        · k_ne
        · k_ne
        · k_ne
        · k_ne
        · k_ne
        · k_ne
        · k_ne
        · exact (hfl p hp).1
        · exact hoff p hp _ (by simp)
      intro h10 F10 N10
      have hrow : ((farL (psM n)).take (i + 1)).getD (0 + (i : Int)).toNat [] = rowJ n i i := by
        rw [e0i, List.getD_eq_getElem?_getD, List.getElem?_take_of_lt (Nat.lt_succ_self i), ← List.getD_eq_getElem?_getD, farL_get hi']
      have hrowl : (((farL (psM n)).take (i + 1)).getD (0 + (i : Int)).toNat []).length = i := by rw [hrow, rowJ_len]
      have hfll : ((farL (psM n)).take (i + 1)).length = i + 1 := by rw [List.length_take, farL_len]; omega
      have hrw2 : RowsIn ((D2, lst yr) :: fl) (rows ++ [Value.ref D2]) ((farL (psM n)).take (i + 1)) := by
        rw [farL_take hi']
        exact (hrw.mono fun p hp => List.mem_cons_of_mem _ hp).snoc (us := yr) (show (D2, listOf yr.toArray yr.length) ∈ (D2, lst yr) :: fl from List.mem_cons.mpr (.inl rfl)) hyr
      have hxA : ((psM n).map hueB).getD (0 + (i : Int)).toNat 0 = hueB pA := by rw [e0i]; exact hhA
      w_strict k_steps
      unfold Stop
      refine forRange (n := i) (σ := Unit) (fun _ => (lf, listOf (rows ++ [Value.ref D2]).toArray (q + 1)) :: (D2, lst yr) :: (L + 1 + 1 + 1, oO2) :: (L + 1 + 1 + 1 + 1 + 1, oR) :: (L + 1 + 1 + 1 + 1, oP) :: (L + 1 + 1, oW) :: (L + 1, oM) :: (lh, listOf hv.toArray qh) :: (lw, listOf wv.toArray qw) :: (fl ++ own)) (fun _ => []) [Str.ofString "gap"] (fun _ _ => True) () rfl (by assumption) (by exact small_one (by omega) (by omega) (by omega) (by omega)) (by rw [show (0 : Int) + (i : Int) = (i : Int) by omega, rangeSize_nat]; simp) (by assumption) (newsSub (by assumption) (by walk_at "sub")) (by exact List.forall_mem_nil _) trivial ?_ ?_
      · rintro ⟨⟩ j k tk2 u2 h11 tk3 own2 hk0 hj hoff2 - F11 N11
        (try dsimp only at F11 N11)
        simp only [List.cons_append, List.append_assoc] at N11
        have hsub9 : ∀ p ∈ (D2, lst yr) :: fl, p ∈ (lf, listOf (rows ++ [Value.ref D2]).toArray (q + 1)) :: (D2, lst yr) :: (L + 1 + 1 + 1, oO2) :: (L + 1 + 1 + 1 + 1 + 1, oR) :: (L + 1 + 1 + 1 + 1, oP) :: (L + 1 + 1, oW) :: (L + 1, oM) :: (lh, listOf hv.toArray qh) :: (lw, listOf wv.toArray qw) :: (fl ++ (own ++ own2)) := by
          intro p hp
          rcases List.mem_cons.mp hp with rfl | hp
          · walk_at "mem"
          · walk_at "mem"
        subst hk0
        (try k_fold)
        obtain ⟨pB, hpB, hgB, hhB⟩ := ps_get (Nat.lt_trans hj hi')
        have hBA : pB < pA := by rw [← hgB, ← hgA]; exact ps_lt hi' hj
        have e0j : (0 + (j : Int)).toNat = j := by omega
        have hxB : ((psM n).map hueB).getD (0 + (j : Int)).toNat 0 = hueB pB := by rw [e0j]; exact hhB
        have hgap := (lev_dist hpA hBA).2
        have hfin := gap_fin hpA hBA
        have hend : (((farL (psM n)).take (i + 1)).getD (0 + (i : Int)).toNat []).getD (0 + (j : Int)).toNat 0 = if 8 - Flt.toInt Float64.truncOf (Float64.mul (Float64.ofInt 8) (Float64.sub (hueB pA) (hueB pB))) < Flt.toInt Float64.truncOf (Float64.mul (Float64.ofInt 8) (Float64.sub (hueB pA) (hueB pB))) then 8 - Flt.toInt Float64.truncOf (Float64.mul (Float64.ofInt 8) (Float64.sub (hueB pA) (hueB pB))) else Flt.toInt Float64.truncOf (Float64.mul (Float64.ofInt 8) (Float64.sub (hueB pA) (hueB pB))) := by
          rw [hrow, e0j, rowJ_get j hj, hgA, hgB]
          exact gap_end hpA hBA
        w_strict k_steps
        · exact absurd hend (by assumption)
        · exact fNext () (by assumption) (by assumption) (by walk_at "sub") (by walk_at "sub") hoff2 (by exact List.forall_mem_nil _) (by walk_at "for same") trivial
      · rintro ⟨⟩ u2 h11 tk3 - F11 N11
        (try dsimp only at F11 N11)
        (try k_fold)
        w_strict k_steps
        refine tNext (oO2, rows ++ [Value.ref D2], q + 1, (D2, lst yr) :: fl) (by assumption) (by assumption) ?e1 ?e2 ?e3 ?e7 ?e8 ⟨⟨_, dO2⟩, hrw2, ?e6⟩
        case e1 => walk_at "sub"
        case e2 => walk_at "sub"
        case e7 => exact List.forall_mem_nil _
        case e8 => walk_at "fr same"
        case e3 =>
          intro p hp b hb
          have h0 := hoff p hp
          have hD : p.1 ≠ D2 := off1_all o2 p (by walk_at "mem")
          simp only [List.map_cons, List.map_append, List.map_nil, List.mem_cons, List.mem_append, List.append_nil] at hb h0
          rcases hb with rfl | rfl | rfl | rfl | rfl | rfl | rfl | rfl | rfl | hb
          · exact h0 _ (by simp)
          · exact h0 _ (by simp)
          · exact h0 _ (by simp)
          · exact h0 _ (by simp)
          · exact h0 _ (by simp)
          · exact h0 _ (by simp)
          · exact h0 _ (by simp)
          · exact h0 _ (by simp)
          · exact hD
          · exact h0 b (by simp only [hb, or_true])
        case e6 =>
          intro p hp
          rcases List.mem_cons.mp hp with rfl | hp
          · exact ⟨Ne.symm o2.2.1, Ne.symm o2.1, Ne.symm o2.2.2.2.1, Ne.symm o2.2.2.1⟩
          · exact hfl p hp
end

section
open PySem PySem.W PySem.Spec PySem.Calls PyProof.Rows PyProof.Rows.LCg PyProof.Rows.LCt PyProof.Rows.LCp
set_option maxRecDepth 100000
set_option maxHeartbeats 2000000
local macro_rules | `(tactic| walk_at "execs cons") => `(tactic| (k_here; (with_reducible show wpAny _ _ (execs (Stmt.For (Expr.Name (Str.ofString "one") _) _ _ _ _ :: _) _) _ _ _); refine stopHere ?_))
theorem lawC (w : World) {p : Program} {loose : List Str} {mean : ExcName → Option Value} {mg mb : Str → Option Value} {fa : Addr} {ccd : Value} {h₀ : Heap} {L : Addr} {m₀ : Str → Option Value} {s : Shared} {Qf : Flow → Shared → Prop} {E : Value → Shared → Prop} {oM oW oO oP oR : Obj}
  (B : Below callerA h₀ [] h₀) (X : (KK w.params).In h₀) (T : Top p loose mean mg mb h₀) (hE : PassesOwn (model PySem.Challenge.rw_ty0065_01.prog w) (callerA.deeper (envOfC (Str.ofString "law") d21.1.2.2 L fa ccd)) (envOfC (Str.ofString "law") d21.1.2.2 L fa ccd) E) (hret : ∀ h' tk' m', Fr h₀ L h' m' → Qf (.ret (.bool true)) { s with heap := h', toks := tk' })
  {lh lw : Addr} {hv wv : List Value} {qh qw n : Nat} {tl : List Nat} {t2 : Tok} (F : Fr h₀ L s.heap (kstB m₀ [(Str.ofString "hues", .ref lh)]))
  (N : News h₀ L s.heap ((L + 1 + 1 + 1 + 1 + 1, oR) :: (L + 1 + 1 + 1 + 1, oP) :: (L + 1 + 1 + 1, oO) :: (L + 1 + 1, oW) :: (L + 1, oM) :: (lh, listOf hv.toArray qh) :: (lw, listOf wv.toArray qw) :: []))
  (dM : oM.data = .cell (some (.str ⟨tl.toArray⟩ t2))) (dW : oW.data = .cell (some (.ref lw))) (dO : oO.data = .cell none) (dP : oP.data = .cell none) (dR : oR.data = .cell none)
  (hh : FlsAre hv ((psM n).map hueB)) (hnz : NzF hv) (hw : StrsAre wv ((psM n).map wordS)) (hn : n = maskOf tl) (h15 : tl.length ≤ 15) (ht : ∀ c ∈ tl, letN c = true) (g1 : @LT.lt Nat _ (L + 1 + 1 + 1 + 1 + 1) lh) (g2 : @LT.lt Nat _ lh lw) : wpAny (model PySem.Challenge.rw_ty0065_01.prog w) (callerA.deeper (envOfC (Str.ofString "law") d21.1.2.2 L fa ccd)) (execs (d21.1.2.1.drop 10) (envOfC (Str.ofString "law") d21.1.2.2 L fa ccd)) Qf E s := by
  revert X
  k_fill
  intro X
  (try k_fold)
  have hxl : (List.map hueB (psM n)).length = (psM n).length := List.length_map ..
  have hpl := psM_len n
  have hvl : hv.length = (psM n).length := by rw [hh.length, hxl]
  have hwl : wv.length = (psM n).length := (sLen hw).trans (List.length_map ..)
  have hn256 : n < 256 := by rw [hn]; exact mask_lt ht
  w_strict k_steps
  unfold Stop
  refine' CompSrcT.range (n := 8) rfl ?cF ?cN (by assumption) ?cs1 ?cs2 ?cs3 ?_
  case cF => assumption
  case cN => assumption
  case cs1 => exact small_one (by omega) (by omega) (by omega) (by omega)
  case cs2 => rfl
  case cs3 => decide
  intro gg
  refine restT (Inv := fun j ys nx => nx = (L + 1 + 1 + 1 + 1 + 1, oR) :: (L + 1 + 1 + 1 + 1, oP) :: (L + 1 + 1 + 1, oO) :: (L + 1 + 1, oW) :: (L + 1, oM) :: (lh, listOf hv.toArray qh) :: (lw, listOf wv.toArray qw) :: [] ∧ FlsAre ys ((psJ n j).map hueB) ∧ NzF ys) ?ct ?cf ⟨rfl, .nil, nzNil⟩
  case ct =>
    rintro j ys nx v I oI C oC D m₂ h tk E' hj ⟨rfl, hys, hny⟩ ⟨tv, rfl⟩ hC hx F4 N4 off ne
    have dJ : DivIs (2 * (0 + (j : Int)) + 1) 16 (hueB j) := divIs_nat (n := 2 * j + 1) (by omega) rfl (by omega) (.inr (.inr rfl))
    have hbt : ∀ d, Is d ((Str.ofString "abcdhkmp").cps.getD (0 + (j : Int)).toNat 0) → tl.contains d = n.testBit j := by
      intro d hd
      rw [hn, mask_bit (d := d) hj (by rw [hd.eq]; congr 1; omega) ht]
    w_strict k_steps
    · unfold Stop
      rename_i tj1 tj2 cc hcc hct tj3 tj4 hnz9
      refine CompEnd.intro (by assumption) (by assumption) _ (fun p hp => hp) off trivial ⟨rfl, hueSnoc hys ((hbt cc hcc).symm.trans hct), nzSnoc hny (by rw [hnz9]; exact Nat.succ_ne_zero _)⟩
    · unfold Stop
      rename_i tj1 tj2 cc hcc hct
      refine CompEnd.intro (by assumption) (by assumption) _ (fun p hp => hp) off trivial ⟨rfl, ?_, hny⟩
      rw [psJ_F ((hbt cc hcc).symm.trans hct)]
      exact hys
  case cf =>
    rintro ys nx ⟨rfl, hys, hny⟩
    unfold FinE
    intro D h3 tk3 F4 N4 o1
    w_strict k_steps
    unfold Stop
    refine neHues (by assumption) (by walk_at "mem") (by walk_at "mem") hh hys hnz hny (psM_lt n) (statNs (by assumption) X) (by exact (show callerA.units + 3 < cLine by decide)) ?_
    w_strict k_steps
    unfold Stop
    rename_i lf hq1 l1f hq2 Ff Nf
    have F9 := ksw_fr (ps := [(Str.ofString "hues", Value.ref lh), (Str.ofString "far", Value.ref lf)]) (stored := []) (by walk_at "fr vals") (fun _ _ _ => rfl) Ff
    have N9 := newsSub (news := (lf, listOf (List.toArray []) 0) :: (L + 1 + 1 + 1 + 1 + 1, oR) :: (L + 1 + 1 + 1 + 1, oP) :: (L + 1 + 1 + 1, oO) :: (L + 1 + 1, oW) :: (L + 1, oM) :: (lh, listOf hv.toArray qh) :: (lw, listOf wv.toArray qw) :: []) Nf (by walk_at "sub")
    exact lawD w B X T hE hret F9 N9 dW dO dP dR hh hw hn256 g1 g2 (by omega)
end

end

section
local macro_rules | `(tactic| walk_at "zz0") => `(tactic| skip)
open PySem PySem.W PySem.Spec PySem.Calls PyProof.Rows PyProof.Rows.LCg PyProof.Rows.LCt PyProof.Rows.LCp
set_option maxRecDepth 100000
set_option maxHeartbeats 2000000
local macro_rules | `(tactic| walk_at "subscriptTail Name Constant ref int") => `(tactic| (k_here; k_dflt (refine' item_tupleT ?t ?a ?b ?c ?d ?_; (case t => exact News.isTup (by k_asm) (by walk_at "mem")); (case a => decide); (case b => decide); (case c => rfl); (case d => rfl); k_whole)))
local macro_rules | `(tactic| walk_at "getMethod ref") => `(tactic| (k_here; (with_reducible show wpAny _ _ (getMethod (Value.ref _) _ _) _ _ _); k_dflt (refine insertM (by k_asm) (by walk_at "mem") ?_)))
local macro_rules | `(tactic| walk_at "call builtin:list.insert") => `(tactic| (k_here; refine stopHere ?_))
local macro_rules | `(tactic| walk_at "subscriptTail") => `(tactic| (k_here; (with_reducible show wpAny _ _ (subscriptTail (Expr.Constant _ _ _) _ (Value.str _ _) (Value.int _ _)) _ _ _); k_dflt (refine' strItem ?k1 ?k2 ?k3 ?_; (case k1 => omega); (case k2 => show _ < (4 : Int); omega); (case k3 => decide)); intro _ _ _ _))
local macro_rules | `(tactic| walk_at "subscriptTail Name Name ref int") => `(tactic| (k_here; (with_reducible show wpAny _ _ (subscriptTail (Expr.Name (Str.ofString "hues") _) _ _ _) _ _ _); k_dflt (refine' hueAt ?k0 ?k1 ?k2 ?k3 ?k4 ?k5 ?k6 ?_; (case k0 => assumption); (case k1 => k_asm); (case k2 => walk_at "mem"); (case k3 => assumption); (case k4 => omega); (case k5 => omega); (case k6 => omega)); intro _))
local macro_rules | `(tactic| walk_at "binaryOp Div int int") => `(tactic| (k_here; k_dflt (refine div_is rfl (by assumption) ?_); intro _ _))
local macro_rules | `(tactic| walk_at "binaryOp Add float int") => `(tactic| (k_here; (refine add_is rfl (by assumption) ?_); intro _ _))
local macro_rules | `(tactic| walk_at "call builtin:str.index") => `(tactic| (k_here; (refine indexL (by assumption) ?_); intro _ _))
local macro_rules | `(tactic| walk_at "subscriptTail Name Name str int") => `(tactic| (k_here; (with_reducible show wpAny _ _ (subscriptTail (Expr.Name (Str.ofString "told") _) _ _ _) _ _ _); k_dflt (refine' toldAt ?k0 ?k1 ?k2 ?k3 ?_; (case k0 => assumption); (case k1 => omega); (case k2 => omega); (case k3 => omega)); intro _ _))
local macro_rules | `(tactic| walk_at "call builtin:len") => `(tactic| (k_here; (with_reducible show wpAny _ _ (call (Value.builtin "len") [Value.str _ _]) _ _ _); k_dflt (refine' lenL ?k1 ?_; (case k1 => omega)); intro _ _))
local macro_rules | `(tactic| walk_at "execs cons") => `(tactic| (k_here; (with_reducible show wpAny _ _ (execs (Stmt.If (Expr.Compare (Expr.Name (Str.ofString "hues") _) _ _ _) _ _ _ :: _) _) _ _ _); refine stopHere ?_))
theorem lawB (w : World) {p : Program} {loose : List Str} {mean : ExcName → Option Value} {mg mb : Str → Option Value} {fa : Addr} {ccd : Value} {h₀ : Heap} {L : Addr} {m₀ : Str → Option Value} {s : Shared} {Qf : Flow → Shared → Prop} {E : Value → Shared → Prop} {oM oW oO oP oR : Obj}
  (B : Below callerA h₀ [] h₀) (X : (KK w.params).In h₀) (T : Top p loose mean mg mb h₀) (hE : PassesOwn (model PySem.Challenge.rw_ty0065_01.prog w) (callerA.deeper (envOfC (Str.ofString "law") d21.1.2.2 L fa ccd)) (envOfC (Str.ofString "law") d21.1.2.2 L fa ccd) E) (hret : ∀ h' tk' m', Fr h₀ L h' m' → Qf (.ret (.bool true)) { s with heap := h', toks := tk' })
  {ln : Addr} {vs : List Value} {ns : List Int} {q : Nat} {tl : List Nat} {t1 t2 : Tok} (F : Fr h₀ L s.heap (kstB m₀ [(Str.ofString "numbers", .ref ln), (Str.ofString "told", .str ⟨tl.toArray⟩ t1)]))
  (N : News h₀ L s.heap ((L + 1 + 1 + 1 + 1 + 1, oR) :: (L + 1 + 1 + 1 + 1, oP) :: (L + 1 + 1 + 1, oO) :: (L + 1 + 1, oW) :: (L + 1, oM) :: (ln, listOf vs.toArray q) :: []))
  (dM : oM.data = .cell (some (.str ⟨tl.toArray⟩ t2))) (dW : oW.data = .cell none) (dO : oO.data = .cell none) (dP : oP.data = .cell none) (dR : oR.data = .cell none)
  (hi : IntsAre vs ns) (h15 : tl.length ≤ 15) (ht : ∀ c ∈ tl, letN c = true) : wpAny (model PySem.Challenge.rw_ty0065_01.prog w) (callerA.deeper (envOfC (Str.ofString "law") d21.1.2.2 L fa ccd)) (execs (d21.1.2.1.drop 6) (envOfC (Str.ofString "law") d21.1.2.2 L fa ccd)) Qf E s := by
  revert X
  k_fill
  intro X
  (try k_fold)
  w_strict k_steps
  rename_i lh hqa l1a hqb lw hqc Fw Nw l1w
  generalize ns.sum = mood at *
  refine' storeCell ((lw, listOf (List.toArray []) 0) :: (lh, listOf (List.toArray []) 0) :: (L + 1 + 1 + 1 + 1 + 1, oR) :: (L + 1 + 1 + 1 + 1, oP) :: (L + 1 + 1 + 1, oO) :: (L + 1, oM) :: []) ?sF ?sN rfl ?sm dW ?ss ?sh ?_
  case sF => assumption
  case sN => assumption
  case sm => walk_at "mem"
  case ss => walk_at "sub"
  case sh =>
    intro p hp
    simp only [List.mem_cons, List.not_mem_nil, or_false] at hp
    rcases hp with rfl | rfl | rfl | rfl | rfl | rfl
    · k_ne
    · k_ne
    · k_ne
    · k_ne
    · k_ne
    · k_ne
  intro h6 oW2 F6 N6 dW2
  w_strict k_steps
  unfold Stop
  refine' forRange (n := tl.length) (σ := List Value × Nat × List Value × Nat × Nat) (fun c => (lh, listOf c.1.toArray c.2.1) :: (lw, listOf c.2.2.1.toArray c.2.2.2.1) :: (L + 1 + 1, oW2) :: (L + 1 + 1 + 1 + 1 + 1, oR) :: (L + 1 + 1 + 1 + 1, oP) :: (L + 1 + 1 + 1, oO) :: (L + 1, oM) :: []) (fun _ => []) [Str.ofString "place", Str.ofString "share", Str.ofString "value", Str.ofString "red", Str.ofString "green", Str.ofString "blue", Str.ofString "hue", Str.ofString "light", Str.ofString "rest", Str.ofString "at", Str.ofString "word", Str.ofString "j", Str.ofString "parts"]
    (fun i c => ((FlsAre c.1 ((psM c.2.2.2.2).map hueB) ∧ NzF c.1) ∧ StrsAre c.2.2.1 ((psM c.2.2.2.2).map wordS)) ∧ c.2.2.2.2 = maskOf (tl.take i)) ([], 0, [], 0, 0) rfl ?p1 ?p2 ?p3 ?p4 ?p5 ?p6 ?p7 ?p8 ?p9
  case p1 => assumption
  case p2 => exact small_one (by omega) (by omega) (by omega) (by omega)
  case p3 => rw [rangeSize_nat]; simp
  case p4 => assumption
  case p5 => exact newsSub (by assumption) (by walk_at "sub")
  case p6 => exact List.forall_mem_nil _
  case p7 => exact ⟨⟨⟨.nil, nzNil⟩, .nil⟩, rfl⟩
  case p9 =>
    rintro ⟨hv, qh, wv, qw, n⟩ u h tk ⟨⟨⟨hhv, hnz⟩, hwv⟩, hn⟩ F7 N7
    rw [List.take_length] at hn
    (try dsimp only at F7 N7 hhv hwv hn)
    (try k_fold)
    w_strict k_steps
    unfold Stop
    have F9 := ksw_fr (ps := [(Str.ofString "hues", Value.ref lh)]) (stored := []) (by walk_at "fr vals") (fun _ _ _ => rfl) F7
    have N9 := newsSub (news := (L + 1 + 1 + 1 + 1 + 1, oR) :: (L + 1 + 1 + 1 + 1, oP) :: (L + 1 + 1 + 1, oO) :: (L + 1 + 1, oW2) :: (L + 1, oM) :: (lh, listOf hv.toArray qh) :: (lw, listOf wv.toArray qw) :: []) N7 (by walk_at "sub")
    exact lawC w B X T hE hret F9 N9 dM dW2 dO dP dR hhv hnz hwv hn h15 ht (by omega) (by omega)
  case p8 =>
    rintro ⟨hv, qh, wv, qw, n⟩ i k tk' u h tk own hk0 hi' hoff ⟨⟨⟨hhv, hnz⟩, hwv⟩, hn⟩ F7 N7
    (try dsimp only at F7 N7 hhv hwv hn hoff)
    subst hk0
    (try k_fold)
    obtain ⟨p, hp⟩ := place_of (ht _ (getD_mem (d := 0) hi'))
    have hc : tl.getD (0 + (i : Int)).toNat 0 = tl.getD i 0 := by congr 1; omega
    have hc9 : tl.getD i 0 ∈ tl := getD_mem hi'
    obtain ⟨c, hc0⟩ : ∃ c, tl.getD i 0 = c := ⟨_, rfl⟩
    rw [hc0] at hc hp hc9
    obtain ⟨S, V, H, r, g, bl, lt, dS, dV, dH, aH, ok1, e1, ok2, e2, e3, hj⟩ := paint_ex mood (0 + (i : Int)) hp.lt
    have hn256 : n < 256 := by rw [hn]; exact mask_lt fun c hc => ht c (List.mem_of_mem_take hc)
    have hxl : (List.map hueB (psM n)).length = (psM n).length := List.length_map ..
    have hpl := psM_len n
    have hvl : hv.length = (psM n).length := by rw [hhv.length, hxl]
    w_strict k_steps
    unfold Stop
    refine callU (hsv_c w _ ok1 e1) B (by assumption) X (by assumption) T (by decide) ?_
    intro D1 ta tb tc h8 tk8 F8 N8 l8 k8
    w_strict k_steps
    unfold Stop
    refine callU (hls_c w _ ok2 e2 e3) B (by assumption) X (by assumption) T (by decide) ?_
    intro z D2 ta tb tc h9 tk9 F9 N9 l9 k9 hta
    w_strict k_steps
    unfold Stop
    refine' callU (bisL_c w _ ?bm hhv ?bz) B ?bF X ?bN T (by decide) ?_
    case bF => assumption
    case bN => assumption
    case bm => walk_at "mem"
    case bz => omega
    intro t10 h10 tk10 F10 N10 k10
    clear k8 k9 k10
    obtain ⟨x, hx0⟩ : ∃ x, ((psM n).map hueB).getD ((bisL ((psM n).map hueB) (hueB p) : Int)).toNat 0 = x := ⟨_, rfl⟩
    by_cases hbit : n.testBit p = true
    · obtain ⟨hq1, hq2⟩ := put_in hn256 hp.lt hbit
      rw [Int.toNat_natCast] at hx0
      rw [hx0] at hq2
      rw [show bisL ((psM n).map hueB) (hueB p) = ((bisL ((psM n).map hueB) (hueB p) : Nat) : Int).toNat from (Int.toNat_natCast _).symm] at hx0
      generalize bisL ((psM n).map hueB) (hueB p) = atp at *
      w_strict k_steps
      · exfalso; omega
      · exact (neEq hq2 (by assumption)).elim
      · refine fNext (hv, qh, wv, qw, n) (by assumption) (by assumption) (by walk_at "sub") (by walk_at "sub") hoff (by exact List.forall_mem_nil _) (by walk_at "for same") ⟨⟨⟨hhv, hnz⟩, hwv⟩, ?_⟩
        dsimp only
        rw [mask_step hi' hc0 hp, ← hn, or_same hn256 hp.lt hbit]
    · obtain ⟨hq1, hq2, hq3⟩ := put_out hn256 hp.lt hbit
      rw [Int.toNat_natCast] at hx0
      rw [hx0] at hq2
      rw [show bisL ((psM n).map hueB) (hueB p) = ((bisL ((psM n).map hueB) (hueB p) : Nat) : Int).toNat from (Int.toNat_natCast _).symm] at hx0
      generalize bisL ((psM n).map hueB) (hueB p) = atp at *
      w_strict k_steps
      all_goals first
        | (exfalso; rename_i hne; rcases hq2 with hq2 | hq2; omega; rw [bne, hq2] at hne; cases hne; done)
        | skip
      all_goals
        unfold Stop
        refine forRange (n := 4) (σ := Str × Tok) (fun _ => (lh, listOf hv.toArray qh) :: (lw, listOf wv.toArray qw) :: ((L + 1 + 1, oW2) :: (L + 1 + 1 + 1 + 1 + 1, oR) :: (L + 1 + 1 + 1 + 1, oP) :: (L + 1 + 1 + 1, oO) :: (L + 1, oM) :: own)) (fun c => [(Str.ofString "word", .str c.1 c.2)]) [Str.ofString "parts"] (fun j c => c.1 = ⟨((wordB p).take j).toArray⟩) (Str.ofString "", _) rfl (by assumption) (by exact small_one (by omega) (by omega) (by omega) (by omega)) (by rfl) (by assumption) (newsSub (by assumption) (by walk_at "sub")) (by walk_at "fr vals") rfl ?_ ?_
        · rintro ⟨wd, tw⟩ j k tk2 u2 h2 tk3 own2 hk0 hj4 hoff2 hwd F11 N11
          (try dsimp only at F11 N11 hwd)
          subst hk0
          (try k_fold)
          obtain ⟨x', y', z', ok3, e4, e5⟩ := hj j hj4
          have dJ : DivIs (0 + (j : Int)) 8 (fq j 8) := divIs_nat (by omega) rfl (by omega) (.inr (.inl rfl))
          have hwl : wd.length ≤ 4 := by rw [hwd]; show ((wordB p).take j).toArray.size ≤ 4; rw [List.size_toArray, List.length_take]; omega
          w_strict k_steps
          unfold Stop
          refine callU (hsv_c w _ ok3 e4) B (by assumption) X (by assumption) T (by decide) ?_
          intro D3 ta3 tb3 tc3 h12 tk12 F12 N12 l12 k12
          w_strict k_steps
          · rename Is _ _ => hcc
            rename ((Float64.cmp _ _ == _) = true) => hg
            refine fNext (_, _) (by assumption) (by assumption) (by walk_at "sub") (by walk_at "sub") hoff2 (by walk_at "fr vals") (by walk_at "for same") ?_
            exact (strSnoc hwd rfl).trans (by rw [wordT hp.lt hj4 (e5.symm.trans hg) hcc])
          · rename Is _ _ => hcc
            rename ((Float64.cmp _ _ == _) = false) => hg
            refine fNext (_, _) (by assumption) (by assumption) (by walk_at "sub") (by walk_at "sub") hoff2 (by walk_at "fr vals") (by walk_at "for same") ?_
            exact (strSnoc hwd rfl).trans (by rw [wordF hp.lt hj4 (e5.symm.trans hg) hcc])
        · rintro ⟨wd, tw⟩ u2 h2 tk3 hwd F11 N11
          (try dsimp only at F11 N11 hwd)
          (try k_fold)
          have hwS : wd = wordS p := hwd.trans (by unfold wordS; rw [List.take_of_length_le (by simp [wordB])])
          clear hwd
          subst hwS
          have hwvl : wv.length = (psM n).length := (sLen hwv).trans (List.length_map ..)
          w_strict k_steps
          unfold Stop
          refine insertL ((lw, listOf wv.toArray qw) :: (L + 1 + 1, oW2) :: (L + 1 + 1 + 1 + 1 + 1, oR) :: (L + 1 + 1 + 1 + 1, oP) :: (L + 1 + 1 + 1, oO) :: (L + 1, oM) :: own) (by assumption) (by assumption) (by walk_at "mem") (by walk_at "sub") ?_ (by omega) (by omega) ?_
          · intro p hp
            simp only [List.mem_cons] at hp
            rcases hp with rfl | rfl | rfl | rfl | rfl | rfl | hp
            · k_ne
            · k_ne
            · k_ne
            · k_ne
            · k_ne
            · k_ne
            · exact hoff p hp _ (by simp)
          intro h13 F13 N13
          w_strict k_steps
          unfold Stop
          refine insertL ((lh, listOf (hv.take atp ++ .float (hueB p) ta :: hv.drop atp).toArray (qh + 1)) :: (L + 1 + 1, oW2) :: (L + 1 + 1 + 1 + 1 + 1, oR) :: (L + 1 + 1 + 1 + 1, oP) :: (L + 1 + 1 + 1, oO) :: (L + 1, oM) :: own) (by assumption) (by assumption) (by walk_at "mem") (by walk_at "sub") ?_ (by omega) (by omega) ?_
          · intro p hp
            simp only [List.mem_cons] at hp
            rcases hp with rfl | rfl | rfl | rfl | rfl | rfl | hp
            · k_ne
            · k_ne
            · k_ne
            · k_ne
            · k_ne
            · k_ne
            · exact hoff p hp _ (by simp)
          intro h14 F14 N14
          w_strict k_steps
          refine fNext (hv.take atp ++ .float (hueB p) ta :: hv.drop atp, qh + 1, wv.take atp ++ .str (wordS p) tw :: wv.drop atp, qw + 1, n ||| 2 ^ p) (by assumption) (by assumption) (by walk_at "sub") (by walk_at "sub") hoff (by exact List.forall_mem_nil _) (by walk_at "for same") ⟨⟨⟨flsIns hhv hq3, nzIns hnz hta⟩, strsIns hwv hq3⟩, ?_⟩
          dsimp only
          rw [mask_step hi' hc0 hp, ← hn]
end

section
open PySem PySem.W PySem.Spec PySem.Calls PyProof.Rows PyProof.Rows.LCg PyProof.Rows.LCt PyProof.Rows.LCp
set_option maxRecDepth 100000
set_option maxHeartbeats 2000000
local macro_rules | `(tactic| walk_at "call builtin:str.join") => `(tactic| (k_here; (with_reducible show wpAny _ _ (call (Value.builtin _) [Value.str _ _, Value.ref _]) _ _ _); (refine joinL (by k_asm) (by walk_at "mem") (by assumption) (by assumption) (by assumption) ?_); intro _ _))
local macro_rules | `(tactic| walk_at "execs cons") => `(tactic| (k_here; (with_reducible show wpAny _ _ (execs (Stmt.Assign [Expr.Name (Str.ofString "mood") _] _ _ :: _) _) _ _ _); refine stopHere ?_))
theorem strsSnoc {vs : List Value} {ys : List Str} {y : Str} {t : Tok} (h : StrsAre vs ys) : StrsAre (vs ++ [.str y t]) (ys ++ [y]) := by
  induction h with
  | nil => exact .cons _ _ .nil
  | cons y t _ ih => exact .cons _ _ ih
theorem sumLen (ys : List Str) : (ys.map (·.length)).sum = (ys.flatMap (·.cps.toList)).length := by
  induction ys with
  | nil => rfl
  | cons y r ih => rw [List.map_cons, List.sum_cons, ih, List.flatMap_cons, List.length_append, Array.length_toList]; rfl
theorem joinL {prog : Program} {w : World} {A : Around} {E : Value → Shared → Prop} {s : Shared} {Q : Value → Shared → Prop} {h₀ : Heap} {L l : Addr} {news : List (Addr × Obj)} {x z : Str} {t : Tok} {vs : List Value} {ys : List Str} {n : Nat} (N : News h₀ L s.heap news) (hm : (l, listOf vs.toArray n) ∈ news) (hi : StrsAre vs ys)
    (hz : (ys.map (·.length)).sum + ys.length * x.length ≤ 16777216) (he : Txt.join x ys = z) (h : ∀ t' k, Q (.str z t') { s with toks := k }) : wpAny (model prog w) A (call (.builtin "str.join") [.str x t, .ref l]) Q E s :=
  join_list (newsList N hm) hi hz (he ▸ h)
theorem addSz {vs ws : List Value} {a b : List Int} (h1 : IntsAre vs a) (h2 : IntsAre ws b) (ha : a.length ≤ 64) (hb : b.length ≤ 64) : vs.length + ws.length ≤ sizeLine := by
  rw [h1.length, h2.length]; exact Nat.le_trans (Nat.add_le_add ha hb) (by decide)
local macro_rules | `(tactic| walk_at "subscriptTail Name Slice ref ref") => `(tactic| (k_here; k_dflt (first | (refine' sliceIntsTo (s := ⟨_, _, _, _, _⟩) (k := 5) ?k1 ?k2 ?k3 ?k4 ?k5 ?_; (case k1 => k_asm); (case k2 => k_asm); (case k3 => exact Heap.IsList.at (by assumption) fun o e => Fr.keep (by k_asm) _ _ e); (case k4 => assumption); (case k5 => assumption)) | (refine' sliceIntsFrom (s := ⟨_, _, _, _, _⟩) ?k1 ?k2 ?k3 ?k4 ?k5 ?_; (case k1 => k_asm); (case k2 => k_asm); (case k3 => exact newsList (by k_asm) (by walk_at "mem")); (case k4 => first | assumption | repeat constructor); (case k5 => first | assumption | decide))); intro _ _ _ _ _ _ _; (try k_sweep)))
theorem lawA (w : World) {p : Program} {loose : List Str} {mean : ExcName → Option Value} {mg mb : Str → Option Value} {fa : Addr} {ccd : Value} {h₀ : Heap} {L : Addr} {m₀ : Str → Option Value} {s : Shared} {Qf : Flow → Shared → Prop} {E : Value → Shared → Prop} {oM oW oO oP oR : Obj}
  (B : Below callerA h₀ [] h₀) (X : (KK w.params).In h₀) (T : Top p loose mean mg mb h₀) (hE : PassesOwn (model PySem.Challenge.rw_ty0065_01.prog w) (callerA.deeper (envOfC (Str.ofString "law") d21.1.2.2 L fa ccd)) (envOfC (Str.ofString "law") d21.1.2.2 L fa ccd) E) (hret : ∀ h' tk' m', Fr h₀ L h' m' → Qf (.ret (.bool true)) { s with heap := h', toks := tk' })
  {ls : Addr} {vs : List Value} {ks : List Int} (F : Fr h₀ L s.heap (kstB m₀ [(Str.ofString "script", .ref ls)]))
  (N : News h₀ L s.heap ((L + 1 + 1 + 1 + 1 + 1, oR) :: (L + 1 + 1 + 1 + 1, oP) :: (L + 1 + 1 + 1, oO) :: (L + 1 + 1, oW) :: (L + 1, oM) :: []))
  (dM : oM.data = .cell none) (dW : oW.data = .cell none) (dO : oO.data = .cell none) (dP : oP.data = .cell none) (dR : oR.data = .cell none)
  (hl : h₀.IsList ls vs.toArray) (hi : IntsAre vs ks) (h63 : ks.length ≤ 63) : wpAny (model PySem.Challenge.rw_ty0065_01.prog w) (callerA.deeper (envOfC (Str.ofString "law") d21.1.2.2 L fa ccd)) (execs (d21.1.2.1.drop 0) (envOfC (Str.ofString "law") d21.1.2.2 L fa ccd)) Qf E s := by
  revert X
  k_fill
  intro X
  (try k_fold)
  have hvl := hi.length
  have hvz : vs.length ≤ sizeLine := Nat.le_trans (by omega : _ ≤ 63) (by decide)
  have hls : s.heap.IsList ls vs.toArray := hl.at fun o e => F.keep _ _ e
  w_strict k_steps
  unfold Stop
  rename_i lf lhp hf1 l1a D5 ws5 h5 F5 N5 hI5 hC5 hL5 l1b
  obtain ⟨fv, hfv, N6⟩ : ∃ fv, IntsAre fv [14, 22, 80, 27, 33] ∧ News h₀ L h5 ((D5, listOf ws5.toArray 0) :: (lf, listOf (List.toArray fv) 0) :: (L + 1 + 1 + 1 + 1 + 1, oR) :: (L + 1 + 1 + 1 + 1, oP) :: (L + 1 + 1 + 1, oO) :: (L + 1 + 1, oW) :: (L + 1, oM) :: []) := ⟨_, by (repeat constructor), N5⟩
  have hw5 := hI5.length
  have hfl := hfv.length
  have hfz : fv.length ≤ sizeLine := by rw [hfl]; decide
  have h5l : (ks.take 5).length ≤ 5 := by rw [List.length_take]; omega
  clear N5 hC5 hL5
  refine CompSrc.ledger (its := ws5.toArray) rfl F5 N6 (by walk_at "mem") (by rw [List.size_toArray, hw5]; exact Nat.le_trans h5l (by decide)) fun gg => ?_
  rw [List.size_toArray]
  refine restU (Inv := fun j ys nx => nx = (D5, listOf ws5.toArray 0) :: (lf, listOf (List.toArray fv) 0) :: (L + 1 + 1 + 1 + 1 + 1, oR) :: (L + 1 + 1 + 1 + 1, oP) :: (L + 1 + 1 + 1, oO) :: (L + 1 + 1, oW) :: (L + 1, oM) :: [] ∧ IntsAre ys (((ks.take 5).take j).map fun x => x.fmod 1000000)) ?c5t ?c5f ⟨rfl, .nil⟩
  case c5t =>
    rintro j ys nx v I oI C oC D m₂ h tk E' hj ⟨rfl, hys⟩ hv hC hx F6 N7 off ne
    have hj' : j < (ks.take 5).length := by rw [← hw5]; exact hj
    obtain ⟨t9, ht9⟩ := hI5.get j ((ks.take 5).getD j 0) (by rw [List.getD_eq_getElem?_getD, List.getElem?_eq_getElem hj']; rfl)
    have ev : v = .int ((ks.take 5).getD j 0) t9 := Option.some.inj ((show ws5[j]? = some v by simpa using hv).symm.trans ht9)
    subst ev
    w_strict k_steps
    unfold Stop
    refine CompEnd.intro (by assumption) (by assumption) _ (fun p hp => hp) off (.inr ⟨_, by walk_at "mem", rfl, _, rfl⟩) ⟨rfl, ?_⟩
    rw [takeSnoc hj' (x := (ks.take 5).getD j 0) (by rw [List.getD_eq_getElem?_getD, List.getElem?_eq_getElem hj']; rfl), List.map_append]
    exact hys.append (.cons _ _ .nil)
  case c5f =>
    rintro ys nx ⟨rfl, hys⟩
    rw [hw5, List.take_length] at hys
    have hyl := hys.length
    unfold FinA
    intro D6 h6 tk6 F7 N7 o1
    w_strict k_steps
    unfold Stop
    rename_i Dn wsn hq1 hIn l1n hq2 Fn Nn
    generalize hns : (List.map (fun x => x.fmod 1000000) (List.take 5 ks) ++ List.drop (List.map (fun x => x.fmod 1000000) (List.take 5 ks)).length [14, 22, 80, 27, 33]) = ns at hIn
    have hnl : ns.length = 5 := by
      rw [← hns, List.length_append, List.length_drop, List.length_map]
      simp only [List.length_cons, List.length_nil]
      omega
    have hnb : ∀ x ∈ ns, 0 ≤ x ∧ x < 1000000 := by
      intro x hx
      rw [← hns] at hx
      rcases List.mem_append.mp hx with hx | hx
      · obtain ⟨y, _, rfl⟩ := List.mem_map.mp hx
        exact modB (by decide)
      · have := List.mem_of_mem_drop hx
        simp only [List.mem_cons, List.not_mem_nil, or_false] at this
        omega
    refine callU (typ_c w _ Dn wsn ns 0 (by walk_at "mem") hIn hnl hnb) B Fn X Nn T (by decide) ?_
    intro Dt t1 t2 h9 tk9 F9 N9 l9 k9
    w_strict k_steps
    refine' storeCell ((L + 1 + 1 + 1 + 1 + 1, oR) :: (L + 1 + 1 + 1 + 1, oP) :: (L + 1 + 1 + 1, oO) :: (L + 1 + 1, oW) :: (Dn, listOf wsn.toArray 0) :: []) ?sF ?sN rfl ?sm dM ?ss ?sh ?_
    case sF => assumption
    case sN => assumption
    case sm => walk_at "mem"
    case ss => walk_at "sub"
    case sh =>
      intro p hp
      simp only [List.mem_cons, List.not_mem_nil, or_false] at hp
      rcases hp with rfl | rfl | rfl | rfl | rfl
      · k_ne
      · k_ne
      · k_ne
      · k_ne
      · k_ne
    intro h10 oM2 F10 N10 dM2
    w_strict k_steps
    unfold Stop
    refine ⟨_, _, _, rfl, rfl, by assumption, by assumption, by simp only [List.size_toArray, List.length_map, hnl]; decide, fun gg => ?_⟩
    refine restT (Inv := fun j ys nx => nx = (L + 1, oM2) :: (L + 1 + 1 + 1 + 1 + 1, oR) :: (L + 1 + 1 + 1 + 1, oP) :: (L + 1 + 1 + 1, oO) :: (L + 1 + 1, oW) :: (Dn, listOf wsn.toArray 0) :: [] ∧ StrsAre ys (((ns.map signOf).take j).flatMap pieceS)) ?c6t ?c6f ⟨rfl, .nil⟩
    case c6t =>
      rintro j ys nx v I oI C oC D m₂ h tk E' hj ⟨rfl, hys⟩ ⟨c, u, hc, rfl⟩ hC hx F6 N7 off ne
      have hj' : j < (ns.map signOf).length := by simpa using hj
      have hc' : (ns.map signOf)[j] = c := by
        have : (ns.map signOf)[j]? = some c := by simpa using hc
        rw [List.getElem?_eq_getElem hj'] at this
        exact Option.some.inj this
      w_strict k_steps
      unfold Stop
      refine callU (in_c w _) B (by assumption) X (by assumption) T (by decide) ?_
      intro t6 h6 tk6 F8 N8 k8
      w_strict k_steps
      · unfold Stop
        refine CompEnd.intro (by assumption) N8 _ (fun p hp => hp) off trivial ⟨rfl, ?_⟩
        rw [takeSnoc hj' hc', List.flatMap_append, List.flatMap_singleton, show pieceS c = [] by unfold pieceS; rw [if_pos (by assumption)], List.append_nil]
        exact hys
      · unfold Stop
        have hp : pieceS c = [mapT c] := by unfold pieceS; rw [if_neg (by rename_i hh; rw [hh]; exact Bool.false_ne_true)]
        rcases hb : b3f c with _ | v
        · refine callU (map_none_c w _ hb) B (by assumption) X (by assumption) T (by decide) ?_
          intro t7 h7 tk7 F9 N9 k9
          w_strict k_steps
          unfold Stop
          refine CompEnd.intro (by assumption) N9 _ (fun p hp => hp) off trivial ⟨rfl, ?_⟩
          rw [takeSnoc hj' hc', List.flatMap_append, List.flatMap_singleton, hp, show mapT c = Txt.lower ⟨#[c]⟩ by unfold mapT; rw [hb]]
          exact strsSnoc hys
        · obtain ⟨y, u9, rfl⟩ := b3f_str hb
          refine callU (map_some_c w _ hb) B (by assumption) X (by assumption) T (by decide) ?_
          intro t7 h7 tk7 F9 N9 k9
          w_strict k_steps
          unfold Stop
          refine CompEnd.intro (by assumption) N9 _ (fun p hp => hp) off trivial ⟨rfl, ?_⟩
          rw [takeSnoc hj' hc', List.flatMap_append, List.flatMap_singleton, hp, show mapT c = y by unfold mapT; rw [hb]]
          exact strsSnoc hys
    case c6f =>
      rintro ys nx ⟨rfl, hys⟩
      rw [show List.take (⟨(ns.map signOf).toArray⟩ : Str).cps.size (ns.map signOf) = ns.map signOf from List.take_of_length_le (by simp)] at hys
      have hjn : Txt.join (Str.ofString "") ((ns.map signOf).flatMap pieceS) = ⟨(ns.flatMap meanOf).toArray⟩ := by
        show Txt.join ⟨#[]⟩ _ = _
        rw [joinT, pieces, told_is]
      have hjz : (((ns.map signOf).flatMap pieceS).map (·.length)).sum + ((ns.map signOf).flatMap pieceS).length * (Str.ofString "").length ≤ 16777216 := by
        rw [sumLen, pieces, told_is]
        have := (means_ok ns).1
        have e : (Str.ofString "").length = 0 := rfl
        rw [e]; omega
      generalize (ns.map signOf).flatMap pieceS = pcs at *
      unfold FinE
      intro D h11 tk11 F11 N11 o11
      w_strict k_steps
      refine joinL (by k_asm) (by walk_at "mem") hys hjz hjn ?_
      intro t12 k12
      w_strict k_steps
      · rename_i hx9
        simp at hx9
      · unfold Stop
        have hmo := means_ok ns
        refine' lawB w B X T hE hret (ksw_fr (stored := []) ?hk9 (fun _ _ _ => rfl) (by assumption)) (newsSub (by assumption) ?hs9) dM2 dW dO dP dR hIn (by have := hmo.1; omega) hmo.2
        case hk9 => walk_at "fr vals"
        case hs9 => walk_at "sub"
end

section
open PySem PySem.W PySem.Spec PySem.Calls PyProof.Rows PyProof.Rows.LCg PyProof.Rows.LCt PyProof.Rows.LCp
set_option maxRecDepth 100000
set_option maxHeartbeats 2000000
noncomputable def lawPos : Pos := match (pw.main.body[21]? : Option Stmt) with
  | some (.FunctionDef _ _ _ _ _ _ _ _ _ p) => p
  | _ => default
noncomputable abbrev lawRec : DefRec := ⟨Str.ofString "law", d21.1.1, d21.1.2.1, d21.1.2.2, lawPos⟩
theorem defV : defOf vw (PySem.Challenge.rw_ty0065_01.row).toRowW.name = some (lawRec, []) := by kernel_rfl
local macro_rules | `(tactic| k_qdec) => `(tactic| decide +kernel)
set_option maxHeartbeats 8000000 in
theorem law_walk : WalkO vw LXn (XL vw []) (Hook.says HH) (PySem.Challenge.rw_ty0065_01.row).toRowW lawRec [] (fun f vs => PySem.call f vs) := by
  k_go0
  rename Top _ _ _ _ _ _ => T
  rename Fr _ _ _ _ => F0
  rename News _ _ _ _ => N0
  rename Below _ _ _ _ => K0
  rename Frag.In _ _ => KX
  rename IntsAre _ _ => hI
  rename Heap.IsList _ _ _ => hL
  have F9 := ksw_fr (ps := [(Str.ofString "script", Value.ref _)]) (stored := []) (by walk_at "fr vals") (fun _ _ _ => rfl) F0
  refine' lawA _ K0 KX T (by passes_own) ?hret F9 N0 ?d1 ?d2 ?d3 ?d4 ?d5 hL hI ?h63
  case d1 => assumption
  case d2 => assumption
  case d3 => assumption
  case d4 => assumption
  case d5 => assumption
  case h63 => omega
  case hret =>
    intro h' tk' m' F'
    w_strict k_steps
end

end
end
end
end Mine

open PySem PySem.W PySem.Spec PySem.Calls PyProof.Rows
set_option maxRecDepth 100000 in
set_option maxHeartbeats 8000000 in
theorem PySem.Challenge.cw_ty0065_01_holds : PySem.Challenge.rw_ty0065_01.Holds := by
  refine holds_law Mine.said_law fun said => ?_
  exact holds_open (q := Mine.vw) (loose := Mine.LXn) (Xt := fun s => xlAt Mine.vw [] s && recOk (RowW.records Mine.rR) s) (XP := XL Mine.vw []) (Yf := Mine.HH.obs) (Ya := Mine.HH.val) (YP := Mine.HH.says) (N := 15000) Mine.left_pw (Hook.of Mine.HH) (Hook.keeps Mine.HH)
    (fun s e => xl_of s (Bool.and_eq_true_iff.mp e).1) XL.keeps Mine.defV (by rfl) (by rfl) (fun s e => recFacts_of (Bool.and_eq_true_iff.mp e).2) (by rfl) said Mine.tops_ok ⟨rfl, rfl, rfl, rfl, rfl, by decide +kernel⟩ Mine.prom_ok Mine.law_walk
