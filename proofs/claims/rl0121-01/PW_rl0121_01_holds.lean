import PyProof.Rows.All
import Wide.All
import OpenK.AllK
import Wide.FinOn
import Lean
import PySem.Challenge.RW_rl0121_01
set_option Elab.async false
set_option compiler.extract_closed false
local macro_rules | `(tactic| omega) => `(tactic| lia)
section
set_option Elab.async false
set_option maxRecDepth 100000
noncomputable section
namespace Mine
open PySem PySem.W PyProof.Rows PySem.Calls
noncomputable abbrev pw : Program := PySem.Challenge.pw_rl0121_01
noncomputable def nsEnt (P : Params) (x : Str) (t : Tok) (v : Value) : DictEntry := ⟨PyData.keyHash P x, .str x t, v⟩
noncomputable def fnAt (i : Nat) (pm code : Value) (g : Addr) : FuncData := match pw.main.body[i]? with
  | some (.FunctionDef n a bd _ _ _ sc _ _ _) => { name := n, qualname := n, params := a, body := .stmts bd, scope := sc, globals := g, closure := [], defaults := .none, kwdefaults := .none, pyModule := pm, code := code }
  | _ => default
noncomputable def constPair : Option Expr → Expr → Int × Str
  | some (.Constant (.int k) _ _), .Constant (.str s) _ _ => (k, s)
  | _, _ => (0, Str.empty)
noncomputable def pairsOf : List (Option Expr) → List Expr → List (Int × Str)
  | k :: ks, v :: vs => constPair k v :: pairsOf ks vs
  | _, _ => []
noncomputable def b3pairs : List (Int × Str) := match (pw.main.body[14]? : Option Stmt) with
  | some (.Assign _ (.Dict ks vs _) _) => pairsOf ks vs
  | _ => []
noncomputable def ents (d : Nat) : Nat → List (Int × Str) → List DictEntry
  | _, [] => []
  | t, (k, s) :: r => ⟨k, .int k t, .str s (t + 1)⟩ :: ents d (t + d) r
noncomputable def subObj (i : Nat) : Obj := ⟨.type "dict", none, .dict (ents 3 (339 + 51 * i) ((b3pairs.drop (17 * i)).take 17)).toArray 17, #[]⟩
noncomputable def lastObj : Obj := ⟨.type "dict", none, .dict (ents 2 2277 (b3pairs.drop 646)).toArray 4, #[]⟩
noncomputable def b3Obj : Obj := ⟨.type "dict", none, .dict (ents 3 339 (b3pairs.take 646) ++ ents 2 2277 (b3pairs.drop 646)).toArray 650, #[]⟩
noncomputable def o11a (_P : Params) : Obj := ⟨(.type "tuple"), none, (.seq (Array.mk []) 0), #[]⟩
noncomputable def o12a (_P : Params) : Obj := ⟨.none, none, (.fields (Array.mk [])), #[]⟩
noncomputable def o13a (_P : Params) : Obj := ⟨(.type "code"), none, (.fields (Array.mk [(.str (Str.ofString "<module>") 182), (.str (Str.ofString "<module>") 183), (.str (Str.ofString "/claim/cut.py") 184), (.int 1 0), (.int 0 0), (.int 0 0), (.int 0 0), (.int 0 0), (.ref 11), (.bool false), (.int 181 0), (.ref 12), .none, .none, .none, .none, (.int 185 0), (.int 1 0), (.str (Str.ofString "/claim/cut.py") 186)])), #[]⟩
noncomputable def o14a (_P : Params) : Obj := ⟨(.type "frame"), none, .plain, #[some (.ref 13), some (.ref 3), some (.ref 3), none, some (.str (Str.ofString "__main__") 164), none, some (.ref 0)]⟩
noncomputable def tree_a (P : Params) : BT := (.node (boot_o_0 P) (.node (boot_o_1 P) (.node (boot_o_3 P) (.node (boot_o_7 P) .nil .nil) (.node (o11a P) .nil .nil)) (.node (boot_o_5 P) (.node (boot_o_9 P) .nil .nil) (.node (o13a P) .nil .nil))) (.node (boot_o_2 P) (.node (boot_o_4 P) (.node (boot_o_8 P) .nil .nil) (.node (o12a P) .nil .nil)) (.node (boot_o_6 P) (.node (boot_o_10 P) .nil .nil) (.node (o14a P) .nil .nil))))
noncomputable def o3b (P : Params) : Obj := ⟨(.type "dict"), none, (.dict (Array.mk [nsEnt P (Str.ofString "__name__") 165 (.str (Str.ofString "cpy313.stringprep") 270),
    nsEnt P (Str.ofString "__doc__") 166 .none,
    nsEnt P (Str.ofString "__package__") 167 .none,
    nsEnt P (Str.ofString "__loader__") 168 (.builtin "__main__.__loader__#opaque"),
    nsEnt P (Str.ofString "__spec__") 169 .none,
    nsEnt P (Str.ofString "__annotations__") 170 (.ref 6),
    nsEnt P (Str.ofString "__builtins__") 171 (.ref 4),
    nsEnt P (Str.ofString "__file__") 173 (.str (Str.ofString "/claim/cut.py") 172),
    nsEnt P (Str.ofString "__cached__") 174 .none,
    nsEnt P (Str.ofString "ONE_THIRD") 192 (.float 4599676419421066581 191),
    nsEnt P (Str.ofString "ONE_SIXTH") 196 (.float 4595172819793696085 195),
    nsEnt P (Str.ofString "TWO_THIRD") 200 (.float 4604180019048437077 199),
    nsEnt P (Str.ofString "rgb_to_hls") 219 (.ref 21),
    nsEnt P (Str.ofString "hls_to_rgb") 230 (.ref 28),
    nsEnt P (Str.ofString "_v") 239 (.ref 35),
    nsEnt P (Str.ofString "hsv_to_rgb") 253 (.ref 42),
    nsEnt P (Str.ofString "ELLIPSIS_MARKER") 257 (.str (Str.ofString "...") 256),
    nsEnt P (Str.ofString "_ellipsis_match") 269 (.ref 49)]) 18), #[]⟩
noncomputable def o12b (_P : Params) : Obj := ⟨.none, none, (.fields (Array.mk [(.int 5 0), (.int 0 0), (.ref 20), (.int 28 0), (.int 0 0), (.ref 27), (.int 37 0), (.int 0 0), (.ref 34), (.int 46 0), (.int 0 0), (.ref 41), (.int 69 0), (.int 0 0), (.ref 48)])), #[]⟩
noncomputable def o15b (_P : Params) : Obj := ⟨(.type "tuple"), none, (.seq (Array.mk []) 0), #[]⟩
noncomputable def o16b (_P : Params) : Obj := ⟨.none, none, (.fields (Array.mk [])), #[]⟩
noncomputable def o17b (_P : Params) : Obj := ⟨(.type "tuple"), none, (.seq (Array.mk [(.str (Str.ofString "r") 204), (.str (Str.ofString "g") 205), (.str (Str.ofString "b") 206), (.str (Str.ofString "maxc") 207), (.str (Str.ofString "minc") 208), (.str (Str.ofString "sumc") 209), (.str (Str.ofString "rangec") 210), (.str (Str.ofString "l") 211), (.str (Str.ofString "s") 212), (.str (Str.ofString "rc") 213), (.str (Str.ofString "gc") 214), (.str (Str.ofString "bc") 215), (.str (Str.ofString "h") 216)]) 0), #[]⟩
noncomputable def o18b (_P : Params) : Obj := ⟨(.type "tuple"), none, (.seq (Array.mk []) 0), #[]⟩
noncomputable def o19b (_P : Params) : Obj := ⟨.none, none, (.func (fnAt 4 .none .none 0)), #[]⟩
noncomputable def o20b (_P : Params) : Obj := ⟨(.type "code"), none, (.fields (Array.mk [(.str (Str.ofString "rgb_to_hls") 201), (.str (Str.ofString "rgb_to_hls") 202), (.str (Str.ofString "/claim/cut.py") 203), (.int 5 0), (.int 3 0), (.int 0 0), (.int 0 0), (.int 3 0), (.ref 15), (.bool true), (.int 181 0), (.ref 16), .none, (.ref 17), (.ref 18), (.ref 19), (.int 217 0), (.int 5 0), (.str (Str.ofString "/claim/cut.py") 218)])), #[]⟩
noncomputable def o21b (_P : Params) : Obj := ⟨(.type "function"), none, (.func (fnAt 4 (.str (Str.ofString "cpy313.colorsys") 187) (.ref 20) 3)), #[]⟩
noncomputable def o22b (_P : Params) : Obj := ⟨(.type "tuple"), none, (.seq (Array.mk []) 0), #[]⟩
noncomputable def o23b (_P : Params) : Obj := ⟨.none, none, (.fields (Array.mk [])), #[]⟩
noncomputable def o24b (_P : Params) : Obj := ⟨(.type "tuple"), none, (.seq (Array.mk [(.str (Str.ofString "h") 223), (.str (Str.ofString "l") 224), (.str (Str.ofString "s") 225), (.str (Str.ofString "m2") 226), (.str (Str.ofString "m1") 227)]) 0), #[]⟩
noncomputable def o25b (_P : Params) : Obj := ⟨(.type "tuple"), none, (.seq (Array.mk []) 0), #[]⟩
noncomputable def o26b (_P : Params) : Obj := ⟨.none, none, (.func (fnAt 5 .none .none 0)), #[]⟩
noncomputable def o27b (_P : Params) : Obj := ⟨(.type "code"), none, (.fields (Array.mk [(.str (Str.ofString "hls_to_rgb") 220), (.str (Str.ofString "hls_to_rgb") 221), (.str (Str.ofString "/claim/cut.py") 222), (.int 28 0), (.int 3 0), (.int 0 0), (.int 0 0), (.int 3 0), (.ref 22), (.bool true), (.int 181 0), (.ref 23), .none, (.ref 24), (.ref 25), (.ref 26), (.int 228 0), (.int 28 0), (.str (Str.ofString "/claim/cut.py") 229)])), #[]⟩
noncomputable def o28b (_P : Params) : Obj := ⟨(.type "function"), none, (.func (fnAt 5 (.str (Str.ofString "cpy313.colorsys") 187) (.ref 27) 3)), #[]⟩
noncomputable def o29b (_P : Params) : Obj := ⟨(.type "tuple"), none, (.seq (Array.mk []) 0), #[]⟩
noncomputable def o30b (_P : Params) : Obj := ⟨.none, none, (.fields (Array.mk [])), #[]⟩
noncomputable def o31b (_P : Params) : Obj := ⟨(.type "tuple"), none, (.seq (Array.mk [(.str (Str.ofString "m1") 234), (.str (Str.ofString "m2") 235), (.str (Str.ofString "hue") 236)]) 0), #[]⟩
noncomputable def o32b (_P : Params) : Obj := ⟨(.type "tuple"), none, (.seq (Array.mk []) 0), #[]⟩
noncomputable def o33b (_P : Params) : Obj := ⟨.none, none, (.func (fnAt 6 .none .none 0)), #[]⟩
noncomputable def o34b (_P : Params) : Obj := ⟨(.type "code"), none, (.fields (Array.mk [(.str (Str.ofString "_v") 231), (.str (Str.ofString "_v") 232), (.str (Str.ofString "/claim/cut.py") 233), (.int 37 0), (.int 3 0), (.int 0 0), (.int 0 0), (.int 3 0), (.ref 29), (.bool true), (.int 181 0), (.ref 30), .none, (.ref 31), (.ref 32), (.ref 33), (.int 237 0), (.int 37 0), (.str (Str.ofString "/claim/cut.py") 238)])), #[]⟩
noncomputable def o35b (_P : Params) : Obj := ⟨(.type "function"), none, (.func (fnAt 6 (.str (Str.ofString "cpy313.colorsys") 187) (.ref 34) 3)), #[]⟩
noncomputable def o36b (_P : Params) : Obj := ⟨(.type "tuple"), none, (.seq (Array.mk []) 0), #[]⟩
noncomputable def o37b (_P : Params) : Obj := ⟨.none, none, (.fields (Array.mk [])), #[]⟩
noncomputable def o38b (_P : Params) : Obj := ⟨(.type "tuple"), none, (.seq (Array.mk [(.str (Str.ofString "h") 243), (.str (Str.ofString "s") 244), (.str (Str.ofString "v") 245), (.str (Str.ofString "i") 246), (.str (Str.ofString "f") 247), (.str (Str.ofString "p") 248), (.str (Str.ofString "q") 249), (.str (Str.ofString "t") 250)]) 0), #[]⟩
noncomputable def o39b (_P : Params) : Obj := ⟨(.type "tuple"), none, (.seq (Array.mk []) 0), #[]⟩
noncomputable def o40b (_P : Params) : Obj := ⟨.none, none, (.func (fnAt 7 .none .none 0)), #[]⟩
noncomputable def o41b (_P : Params) : Obj := ⟨(.type "code"), none, (.fields (Array.mk [(.str (Str.ofString "hsv_to_rgb") 240), (.str (Str.ofString "hsv_to_rgb") 241), (.str (Str.ofString "/claim/cut.py") 242), (.int 46 0), (.int 3 0), (.int 0 0), (.int 0 0), (.int 3 0), (.ref 36), (.bool true), (.int 181 0), (.ref 37), .none, (.ref 38), (.ref 39), (.ref 40), (.int 251 0), (.int 46 0), (.str (Str.ofString "/claim/cut.py") 252)])), #[]⟩
noncomputable def o42b (_P : Params) : Obj := ⟨(.type "function"), none, (.func (fnAt 7 (.str (Str.ofString "cpy313.colorsys") 187) (.ref 41) 3)), #[]⟩
noncomputable def o43b (_P : Params) : Obj := ⟨(.type "tuple"), none, (.seq (Array.mk []) 0), #[]⟩
noncomputable def o44b (_P : Params) : Obj := ⟨.none, none, (.fields (Array.mk [])), #[]⟩
noncomputable def o45b (_P : Params) : Obj := ⟨(.type "tuple"), none, (.seq (Array.mk [(.str (Str.ofString "want") 261), (.str (Str.ofString "got") 262), (.str (Str.ofString "ws") 263), (.str (Str.ofString "startpos") 264), (.str (Str.ofString "endpos") 265), (.str (Str.ofString "w") 266)]) 0), #[]⟩
noncomputable def o46b (_P : Params) : Obj := ⟨(.type "tuple"), none, (.seq (Array.mk []) 0), #[]⟩
noncomputable def o47b (_P : Params) : Obj := ⟨.none, none, (.func (fnAt 10 .none .none 0)), #[]⟩
noncomputable def o48b (_P : Params) : Obj := ⟨(.type "code"), none, (.fields (Array.mk [(.str (Str.ofString "_ellipsis_match") 258), (.str (Str.ofString "_ellipsis_match") 259), (.str (Str.ofString "/claim/cut.py") 260), (.int 69 0), (.int 2 0), (.int 0 0), (.int 0 0), (.int 3 0), (.ref 43), (.bool true), (.int 181 0), (.ref 44), .none, (.ref 45), (.ref 46), (.ref 47), (.int 267 0), (.int 69 0), (.str (Str.ofString "/claim/cut.py") 268)])), #[]⟩
noncomputable def o49b (_P : Params) : Obj := ⟨(.type "function"), none, (.func (fnAt 10 (.str (Str.ofString "cpy313.doctest") 254) (.ref 48) 3)), #[]⟩
noncomputable def tree_b (P : Params) : BT := (.node (boot_o_0 P) (.node (boot_o_1 P) (.node (o3b P) (.node (boot_o_7 P) (.node (o15b P) (.node (o31b P) .nil .nil) (.node (o47b P) .nil .nil)) (.node (o23b P) (.node (o39b P) .nil .nil) .nil)) (.node (o11a P) (.node (o19b P) (.node (o35b P) .nil .nil) .nil) (.node (o27b P) (.node (o43b P) .nil .nil) .nil))) (.node (boot_o_5 P) (.node (boot_o_9 P) (.node (o17b P) (.node (o33b P) .nil .nil) (.node (o49b P) .nil .nil)) (.node (o25b P) (.node (o41b P) .nil .nil) .nil)) (.node (o13a P) (.node (o21b P) (.node (o37b P) .nil .nil) .nil) (.node (o29b P) (.node (o45b P) .nil .nil) .nil)))) (.node (boot_o_2 P) (.node (boot_o_4 P) (.node (boot_o_8 P) (.node (o16b P) (.node (o32b P) .nil .nil) (.node (o48b P) .nil .nil)) (.node (o24b P) (.node (o40b P) .nil .nil) .nil)) (.node (o12b P) (.node (o20b P) (.node (o36b P) .nil .nil) .nil) (.node (o28b P) (.node (o44b P) .nil .nil) .nil))) (.node (boot_o_6 P) (.node (boot_o_10 P) (.node (o18b P) (.node (o34b P) .nil .nil) .nil) (.node (o26b P) (.node (o42b P) .nil .nil) .nil)) (.node (o14a P) (.node (o22b P) (.node (o38b P) .nil .nil) .nil) (.node (o30b P) (.node (o46b P) .nil .nil) .nil)))))
noncomputable def o3c (P : Params) : Obj := ⟨(.type "dict"), none, (.dict (Array.mk [nsEnt P (Str.ofString "__name__") 165 (.str (Str.ofString "cpy313.stringprep") 270),
    nsEnt P (Str.ofString "__doc__") 166 .none,
    nsEnt P (Str.ofString "__package__") 167 .none,
    nsEnt P (Str.ofString "__loader__") 168 (.builtin "__main__.__loader__#opaque"),
    nsEnt P (Str.ofString "__spec__") 169 .none,
    nsEnt P (Str.ofString "__annotations__") 170 (.ref 6),
    nsEnt P (Str.ofString "__builtins__") 171 (.ref 4),
    nsEnt P (Str.ofString "__file__") 173 (.str (Str.ofString "/claim/cut.py") 172),
    nsEnt P (Str.ofString "__cached__") 174 .none,
    nsEnt P (Str.ofString "ONE_THIRD") 192 (.float 4599676419421066581 191),
    nsEnt P (Str.ofString "ONE_SIXTH") 196 (.float 4595172819793696085 195),
    nsEnt P (Str.ofString "TWO_THIRD") 200 (.float 4604180019048437077 199),
    nsEnt P (Str.ofString "rgb_to_hls") 219 (.ref 21),
    nsEnt P (Str.ofString "hls_to_rgb") 230 (.ref 28),
    nsEnt P (Str.ofString "_v") 239 (.ref 35),
    nsEnt P (Str.ofString "hsv_to_rgb") 253 (.ref 42),
    nsEnt P (Str.ofString "ELLIPSIS_MARKER") 257 (.str (Str.ofString "...") 256),
    nsEnt P (Str.ofString "_ellipsis_match") 269 (.ref 49),
    nsEnt P (Str.ofString "b1_set") 331 (.ref 57)]) 19), #[]⟩
noncomputable def o50c (_P : Params) : Obj := ⟨(.type "list"), none, (.seq (Array.mk [(.int 173 272), (.int 847 273), (.int 6150 274), (.int 6155 275), (.int 6156 276), (.int 6157 277), (.int 8203 278), (.int 8204 279), (.int 8205 280), (.int 8288 281), (.int 65279 282)]) 0), #[]⟩
noncomputable def o51c (_P : Params) : Obj := ⟨(.type "range"), none, (.fields (Array.mk [(.int 65024 283), (.int 65040 284), (.int 1 285)])), #[]⟩
noncomputable def o52c (_P : Params) : Obj := ⟨(.type "list"), none, (.seq (Array.mk [(.int 65024 288), (.int 65025 289), (.int 65026 290), (.int 65027 291), (.int 65028 292), (.int 65029 293), (.int 65030 294), (.int 65031 295), (.int 65032 296), (.int 65033 297), (.int 65034 298), (.int 65035 299), (.int 65036 300), (.int 65037 301), (.int 65038 302), (.int 65039 303)]) 18), #[]⟩
noncomputable def o53c (_P : Params) : Obj := ⟨(.type "range_iterator"), none, (.fields (Array.mk [(.int 65040 0), (.int 0 0), (.int 1 0)])), #[]⟩
noncomputable def o54c (_P : Params) : Obj := ⟨(.type "tuple"), none, (.seq (Array.mk []) 0), #[]⟩
noncomputable def o55c (_P : Params) : Obj := ⟨(.type "StopIteration"), none, (.fields (Array.mk [(.ref 54), .none, .none, .none, (.bool false), .none])), #[]⟩
noncomputable def o56c (_P : Params) : Obj := ⟨(.type "list"), none, (.seq (Array.mk [(.int 173 272), (.int 847 273), (.int 6150 274), (.int 6155 275), (.int 6156 276), (.int 6157 277), (.int 8203 278), (.int 8204 279), (.int 8205 280), (.int 8288 281), (.int 65279 282), (.int 65024 288), (.int 65025 289), (.int 65026 290), (.int 65027 291), (.int 65028 292), (.int 65029 293), (.int 65030 294), (.int 65031 295), (.int 65032 296), (.int 65033 297), (.int 65034 298), (.int 65035 299), (.int 65036 300), (.int 65037 301), (.int 65038 302), (.int 65039 303)]) 0), #[]⟩
noncomputable def o57c (P : Params) : Obj := ⟨(.type "set"), none, (.set (Array.mk [(65024, (.int 65024 288)), (65025, (.int 65025 289)), (65026, (.int 65026 290)), (65027, (.int 65027 291)), (65028, (.int 65028 292)), (65029, (.int 65029 293)), (6150, (.int 6150 274)), (65030, (.int 65030 294)), (65031, (.int 65031 295)), (65032, (.int 65032 296)), (65033, (.int 65033 297)), (6155, (.int 6155 275)), (6156, (.int 6156 276)), (6157, (.int 6157 277)), (8203, (.int 8203 278)), (8204, (.int 8204 279)), (8205, (.int 8205 280)), (65034, (.int 65034 298)), (65035, (.int 65035 299)), (65036, (.int 65036 300)), (65037, (.int 65037 301)), (65038, (.int 65038 302)), (65039, (.int 65039 303)), (173, (.int 173 272)), (847, (.int 847 273)), (8288, (.int 8288 281)), (65279, (.int 65279 282))]) 29 { mask := 127, place := Array.mk [0, 1, 2, 3, 4, 5, 6, 7, 8, 9, 10, 11, 12, 13, 14, 15, 16, 17, 18, 19, 20, 21, 22, 45, 79, 96, 127], dummies := Array.mk [], finger := 0, led := !P.followText "set-order", moves := 2, plain := true }), #[]⟩
noncomputable def o58c (_P : Params) : Obj := ⟨(.type "list_iterator"), none, (.fields (Array.mk [.none, (.int 27 0)])), #[]⟩
noncomputable def o59c (_P : Params) : Obj := ⟨(.type "tuple"), none, (.seq (Array.mk []) 0), #[]⟩
noncomputable def o60c (_P : Params) : Obj := ⟨(.type "StopIteration"), none, (.fields (Array.mk [(.ref 59), .none, .none, .none, (.bool false), .none])), #[]⟩
noncomputable def tree_c (P : Params) : BT := (.node (boot_o_0 P) (.node (boot_o_1 P) (.node (o3c P) (.node (boot_o_7 P) (.node (o15b P) (.node (o31b P) .nil .nil) (.node (o47b P) .nil .nil)) (.node (o23b P) (.node (o39b P) .nil .nil) (.node (o55c P) .nil .nil))) (.node (o11a P) (.node (o19b P) (.node (o35b P) .nil .nil) (.node (o51c P) .nil .nil)) (.node (o27b P) (.node (o43b P) .nil .nil) (.node (o59c P) .nil .nil)))) (.node (boot_o_5 P) (.node (boot_o_9 P) (.node (o17b P) (.node (o33b P) .nil .nil) (.node (o49b P) .nil .nil)) (.node (o25b P) (.node (o41b P) .nil .nil) (.node (o57c P) .nil .nil))) (.node (o13a P) (.node (o21b P) (.node (o37b P) .nil .nil) (.node (o53c P) .nil .nil)) (.node (o29b P) (.node (o45b P) .nil .nil) .nil)))) (.node (boot_o_2 P) (.node (boot_o_4 P) (.node (boot_o_8 P) (.node (o16b P) (.node (o32b P) .nil .nil) (.node (o48b P) .nil .nil)) (.node (o24b P) (.node (o40b P) .nil .nil) (.node (o56c P) .nil .nil))) (.node (o12b P) (.node (o20b P) (.node (o36b P) .nil .nil) (.node (o52c P) .nil .nil)) (.node (o28b P) (.node (o44b P) .nil .nil) (.node (o60c P) .nil .nil)))) (.node (boot_o_6 P) (.node (boot_o_10 P) (.node (o18b P) (.node (o34b P) .nil .nil) (.node (o50c P) .nil .nil)) (.node (o26b P) (.node (o42b P) .nil .nil) (.node (o58c P) .nil .nil))) (.node (o14a P) (.node (o22b P) (.node (o38b P) .nil .nil) (.node (o54c P) .nil .nil)) (.node (o30b P) (.node (o46b P) .nil .nil) .nil)))))
noncomputable def o3d (P : Params) : Obj := ⟨(.type "dict"), none, (.dict (Array.mk [nsEnt P (Str.ofString "__name__") 165 (.str (Str.ofString "cpy313.stringprep") 270),
    nsEnt P (Str.ofString "__doc__") 166 .none,
    nsEnt P (Str.ofString "__package__") 167 .none,
    nsEnt P (Str.ofString "__loader__") 168 (.builtin "__main__.__loader__#opaque"),
    nsEnt P (Str.ofString "__spec__") 169 .none,
    nsEnt P (Str.ofString "__annotations__") 170 (.ref 6),
    nsEnt P (Str.ofString "__builtins__") 171 (.ref 4),
    nsEnt P (Str.ofString "__file__") 173 (.str (Str.ofString "/claim/cut.py") 172),
    nsEnt P (Str.ofString "__cached__") 174 .none,
    nsEnt P (Str.ofString "ONE_THIRD") 192 (.float 4599676419421066581 191),
    nsEnt P (Str.ofString "ONE_SIXTH") 196 (.float 4595172819793696085 195),
    nsEnt P (Str.ofString "TWO_THIRD") 200 (.float 4604180019048437077 199),
    nsEnt P (Str.ofString "rgb_to_hls") 219 (.ref 21),
    nsEnt P (Str.ofString "hls_to_rgb") 230 (.ref 28),
    nsEnt P (Str.ofString "_v") 239 (.ref 35),
    nsEnt P (Str.ofString "hsv_to_rgb") 253 (.ref 42),
    nsEnt P (Str.ofString "ELLIPSIS_MARKER") 257 (.str (Str.ofString "...") 256),
    nsEnt P (Str.ofString "_ellipsis_match") 269 (.ref 49),
    nsEnt P (Str.ofString "b1_set") 331 (.ref 57),
    nsEnt P (Str.ofString "in_table_b1") 338 (.ref 67)]) 20), #[]⟩
noncomputable def o12d (_P : Params) : Obj := ⟨.none, none, (.fields (Array.mk [(.int 5 0), (.int 0 0), (.ref 20), (.int 28 0), (.int 0 0), (.ref 27), (.int 37 0), (.int 0 0), (.ref 34), (.int 46 0), (.int 0 0), (.ref 41), (.int 69 0), (.int 0 0), (.ref 48), (.int 99 0), (.int 0 0), (.ref 66)])), #[]⟩
noncomputable def o61d (_P : Params) : Obj := ⟨(.type "tuple"), none, (.seq (Array.mk []) 0), #[]⟩
noncomputable def o62d (_P : Params) : Obj := ⟨.none, none, (.fields (Array.mk [])), #[]⟩
noncomputable def o63d (_P : Params) : Obj := ⟨(.type "tuple"), none, (.seq (Array.mk [(.str (Str.ofString "code") 335)]) 0), #[]⟩
noncomputable def o64d (_P : Params) : Obj := ⟨(.type "tuple"), none, (.seq (Array.mk []) 0), #[]⟩
noncomputable def o65d (_P : Params) : Obj := ⟨.none, none, (.func (fnAt 13 .none .none 0)), #[]⟩
noncomputable def o66d (_P : Params) : Obj := ⟨(.type "code"), none, (.fields (Array.mk [(.str (Str.ofString "in_table_b1") 332), (.str (Str.ofString "in_table_b1") 333), (.str (Str.ofString "/claim/cut.py") 334), (.int 99 0), (.int 1 0), (.int 0 0), (.int 0 0), (.int 3 0), (.ref 61), (.bool true), (.int 181 0), (.ref 62), .none, (.ref 63), (.ref 64), (.ref 65), (.int 336 0), (.int 99 0), (.str (Str.ofString "/claim/cut.py") 337)])), #[]⟩
noncomputable def o67d (_P : Params) : Obj := ⟨(.type "function"), none, (.func (fnAt 13 (.str (Str.ofString "cpy313.stringprep") 270) (.ref 66) 3)), #[]⟩
noncomputable def tree_d (P : Params) : BT := (.node (boot_o_0 P) (.node (boot_o_1 P) (.node (o3d P) (.node (boot_o_7 P) (.node (o15b P) (.node (o31b P) (.node (o63d P) .nil .nil) .nil) (.node (o47b P) .nil .nil)) (.node (o23b P) (.node (o39b P) .nil .nil) (.node (o55c P) .nil .nil))) (.node (o11a P) (.node (o19b P) (.node (o35b P) (.node (o67d P) .nil .nil) .nil) (.node (o51c P) .nil .nil)) (.node (o27b P) (.node (o43b P) .nil .nil) (.node (o59c P) .nil .nil)))) (.node (boot_o_5 P) (.node (boot_o_9 P) (.node (o17b P) (.node (o33b P) (.node (o65d P) .nil .nil) .nil) (.node (o49b P) .nil .nil)) (.node (o25b P) (.node (o41b P) .nil .nil) (.node (o57c P) .nil .nil))) (.node (o13a P) (.node (o21b P) (.node (o37b P) .nil .nil) (.node (o53c P) .nil .nil)) (.node (o29b P) (.node (o45b P) .nil .nil) (.node (o61d P) .nil .nil))))) (.node (boot_o_2 P) (.node (boot_o_4 P) (.node (boot_o_8 P) (.node (o16b P) (.node (o32b P) (.node (o64d P) .nil .nil) .nil) (.node (o48b P) .nil .nil)) (.node (o24b P) (.node (o40b P) .nil .nil) (.node (o56c P) .nil .nil))) (.node (o12d P) (.node (o20b P) (.node (o36b P) .nil .nil) (.node (o52c P) .nil .nil)) (.node (o28b P) (.node (o44b P) .nil .nil) (.node (o60c P) .nil .nil)))) (.node (boot_o_6 P) (.node (boot_o_10 P) (.node (o18b P) (.node (o34b P) (.node (o66d P) .nil .nil) .nil) (.node (o50c P) .nil .nil)) (.node (o26b P) (.node (o42b P) .nil .nil) (.node (o58c P) .nil .nil))) (.node (o14a P) (.node (o22b P) (.node (o38b P) .nil .nil) (.node (o54c P) .nil .nil)) (.node (o30b P) (.node (o46b P) .nil .nil) (.node (o62d P) .nil .nil))))))
noncomputable def o3e (P : Params) : Obj := ⟨(.type "dict"), none, (.dict (Array.mk [nsEnt P (Str.ofString "__name__") 165 (.str (Str.ofString "cpy313.stringprep") 270),
    nsEnt P (Str.ofString "__doc__") 166 .none,
    nsEnt P (Str.ofString "__package__") 167 .none,
    nsEnt P (Str.ofString "__loader__") 168 (.builtin "__main__.__loader__#opaque"),
    nsEnt P (Str.ofString "__spec__") 169 .none,
    nsEnt P (Str.ofString "__annotations__") 170 (.ref 6),
    nsEnt P (Str.ofString "__builtins__") 171 (.ref 4),
    nsEnt P (Str.ofString "__file__") 173 (.str (Str.ofString "/claim/cut.py") 172),
    nsEnt P (Str.ofString "__cached__") 174 .none,
    nsEnt P (Str.ofString "ONE_THIRD") 192 (.float 4599676419421066581 191),
    nsEnt P (Str.ofString "ONE_SIXTH") 196 (.float 4595172819793696085 195),
    nsEnt P (Str.ofString "TWO_THIRD") 200 (.float 4604180019048437077 199),
    nsEnt P (Str.ofString "rgb_to_hls") 219 (.ref 21),
    nsEnt P (Str.ofString "hls_to_rgb") 230 (.ref 28),
    nsEnt P (Str.ofString "_v") 239 (.ref 35),
    nsEnt P (Str.ofString "hsv_to_rgb") 253 (.ref 42),
    nsEnt P (Str.ofString "ELLIPSIS_MARKER") 257 (.str (Str.ofString "...") 256),
    nsEnt P (Str.ofString "_ellipsis_match") 269 (.ref 49),
    nsEnt P (Str.ofString "b1_set") 331 (.ref 57),
    nsEnt P (Str.ofString "in_table_b1") 338 (.ref 67),
    nsEnt P (Str.ofString "b3_exceptions") 2289 (.ref 68)]) 21), #[]⟩
noncomputable def o68e (_P : Params) : Obj := b3Obj
noncomputable def o69e (_P : Params) : Obj := subObj 1
noncomputable def o70e (_P : Params) : Obj := subObj 2
noncomputable def o71e (_P : Params) : Obj := subObj 3
noncomputable def o72e (_P : Params) : Obj := subObj 4
noncomputable def o73e (_P : Params) : Obj := subObj 5
noncomputable def o74e (_P : Params) : Obj := subObj 6
noncomputable def o75e (_P : Params) : Obj := subObj 7
noncomputable def o76e (_P : Params) : Obj := subObj 8
noncomputable def o77e (_P : Params) : Obj := subObj 9
noncomputable def o78e (_P : Params) : Obj := subObj 10
noncomputable def o79e (_P : Params) : Obj := subObj 11
noncomputable def o80e (_P : Params) : Obj := subObj 12
noncomputable def o81e (_P : Params) : Obj := subObj 13
noncomputable def o82e (_P : Params) : Obj := subObj 14
noncomputable def o83e (_P : Params) : Obj := subObj 15
noncomputable def o84e (_P : Params) : Obj := subObj 16
noncomputable def o85e (_P : Params) : Obj := subObj 17
noncomputable def o86e (_P : Params) : Obj := subObj 18
noncomputable def o87e (_P : Params) : Obj := subObj 19
noncomputable def o88e (_P : Params) : Obj := subObj 20
noncomputable def o89e (_P : Params) : Obj := subObj 21
noncomputable def o90e (_P : Params) : Obj := subObj 22
noncomputable def o91e (_P : Params) : Obj := subObj 23
noncomputable def o92e (_P : Params) : Obj := subObj 24
noncomputable def o93e (_P : Params) : Obj := subObj 25
noncomputable def o94e (_P : Params) : Obj := subObj 26
noncomputable def o95e (_P : Params) : Obj := subObj 27
noncomputable def o96e (_P : Params) : Obj := subObj 28
noncomputable def o97e (_P : Params) : Obj := subObj 29
noncomputable def o98e (_P : Params) : Obj := subObj 30
noncomputable def o99e (_P : Params) : Obj := subObj 31
noncomputable def o100e (_P : Params) : Obj := subObj 32
noncomputable def o101e (_P : Params) : Obj := subObj 33
noncomputable def o102e (_P : Params) : Obj := subObj 34
noncomputable def o103e (_P : Params) : Obj := subObj 35
noncomputable def o104e (_P : Params) : Obj := subObj 36
noncomputable def o105e (_P : Params) : Obj := subObj 37
noncomputable def o106e (_P : Params) : Obj := lastObj
noncomputable def tree_e (P : Params) : BT := (.node (boot_o_0 P) (.node (boot_o_1 P) (.node (o3e P) (.node (boot_o_7 P) (.node (o15b P) (.node (o31b P) (.node (o63d P) .nil .nil) (.node (o95e P) .nil .nil)) (.node (o47b P) (.node (o79e P) .nil .nil) .nil)) (.node (o23b P) (.node (o39b P) (.node (o71e P) .nil .nil) (.node (o103e P) .nil .nil)) (.node (o55c P) (.node (o87e P) .nil .nil) .nil))) (.node (o11a P) (.node (o19b P) (.node (o35b P) (.node (o67d P) .nil .nil) (.node (o99e P) .nil .nil)) (.node (o51c P) (.node (o83e P) .nil .nil) .nil)) (.node (o27b P) (.node (o43b P) (.node (o75e P) .nil .nil) .nil) (.node (o59c P) (.node (o91e P) .nil .nil) .nil)))) (.node (boot_o_5 P) (.node (boot_o_9 P) (.node (o17b P) (.node (o33b P) (.node (o65d P) .nil .nil) (.node (o97e P) .nil .nil)) (.node (o49b P) (.node (o81e P) .nil .nil) .nil)) (.node (o25b P) (.node (o41b P) (.node (o73e P) .nil .nil) (.node (o105e P) .nil .nil)) (.node (o57c P) (.node (o89e P) .nil .nil) .nil))) (.node (o13a P) (.node (o21b P) (.node (o37b P) (.node (o69e P) .nil .nil) (.node (o101e P) .nil .nil)) (.node (o53c P) (.node (o85e P) .nil .nil) .nil)) (.node (o29b P) (.node (o45b P) (.node (o77e P) .nil .nil) .nil) (.node (o61d P) (.node (o93e P) .nil .nil) .nil))))) (.node (boot_o_2 P) (.node (boot_o_4 P) (.node (boot_o_8 P) (.node (o16b P) (.node (o32b P) (.node (o64d P) .nil .nil) (.node (o96e P) .nil .nil)) (.node (o48b P) (.node (o80e P) .nil .nil) .nil)) (.node (o24b P) (.node (o40b P) (.node (o72e P) .nil .nil) (.node (o104e P) .nil .nil)) (.node (o56c P) (.node (o88e P) .nil .nil) .nil))) (.node (o12d P) (.node (o20b P) (.node (o36b P) (.node (o68e P) .nil .nil) (.node (o100e P) .nil .nil)) (.node (o52c P) (.node (o84e P) .nil .nil) .nil)) (.node (o28b P) (.node (o44b P) (.node (o76e P) .nil .nil) .nil) (.node (o60c P) (.node (o92e P) .nil .nil) .nil)))) (.node (boot_o_6 P) (.node (boot_o_10 P) (.node (o18b P) (.node (o34b P) (.node (o66d P) .nil .nil) (.node (o98e P) .nil .nil)) (.node (o50c P) (.node (o82e P) .nil .nil) .nil)) (.node (o26b P) (.node (o42b P) (.node (o74e P) .nil .nil) (.node (o106e P) .nil .nil)) (.node (o58c P) (.node (o90e P) .nil .nil) .nil))) (.node (o14a P) (.node (o22b P) (.node (o38b P) (.node (o70e P) .nil .nil) (.node (o102e P) .nil .nil)) (.node (o54c P) (.node (o86e P) .nil .nil) .nil)) (.node (o30b P) (.node (o46b P) (.node (o78e P) .nil .nil) .nil) (.node (o62d P) (.node (o94e P) .nil .nil) .nil))))))
noncomputable def o3f (P : Params) : Obj := ⟨(.type "dict"), none, (.dict (Array.mk [nsEnt P (Str.ofString "__name__") 165 (.str (Str.ofString "law_rl0121_01") 2298),
    nsEnt P (Str.ofString "__doc__") 166 .none,
    nsEnt P (Str.ofString "__package__") 167 .none,
    nsEnt P (Str.ofString "__loader__") 168 (.builtin "__main__.__loader__#opaque"),
    nsEnt P (Str.ofString "__spec__") 169 .none,
    nsEnt P (Str.ofString "__annotations__") 170 (.ref 6),
    nsEnt P (Str.ofString "__builtins__") 171 (.ref 4),
    nsEnt P (Str.ofString "__file__") 173 (.str (Str.ofString "/claim/cut.py") 172),
    nsEnt P (Str.ofString "__cached__") 174 .none,
    nsEnt P (Str.ofString "ONE_THIRD") 192 (.float 4599676419421066581 191),
    nsEnt P (Str.ofString "ONE_SIXTH") 196 (.float 4595172819793696085 195),
    nsEnt P (Str.ofString "TWO_THIRD") 200 (.float 4604180019048437077 199),
    nsEnt P (Str.ofString "rgb_to_hls") 219 (.ref 21),
    nsEnt P (Str.ofString "hls_to_rgb") 230 (.ref 28),
    nsEnt P (Str.ofString "_v") 239 (.ref 35),
    nsEnt P (Str.ofString "hsv_to_rgb") 253 (.ref 42),
    nsEnt P (Str.ofString "ELLIPSIS_MARKER") 257 (.str (Str.ofString "...") 256),
    nsEnt P (Str.ofString "_ellipsis_match") 269 (.ref 49),
    nsEnt P (Str.ofString "b1_set") 331 (.ref 57),
    nsEnt P (Str.ofString "in_table_b1") 338 (.ref 67),
    nsEnt P (Str.ofString "b3_exceptions") 2289 (.ref 68),
    nsEnt P (Str.ofString "map_table_b3") 2297 (.ref 113),
    nsEnt P (Str.ofString "_law_sign") 2309 (.ref 120),
    nsEnt P (Str.ofString "_law_letters") 2315 (.ref 125),
    nsEnt P (Str.ofString "_law_spot") 2321 (.ref 130),
    nsEnt P (Str.ofString "_law_walk") 2339 (.ref 137),
    nsEnt P (Str.ofString "_law_found") 2351 (.ref 144),
    nsEnt P (Str.ofString "_law_triples") 2362 (.ref 151),
    nsEnt P (Str.ofString "_law_row") 2375 (.ref 158),
    nsEnt P (Str.ofString "_law_negative") 2389 (.ref 165),
    nsEnt P (Str.ofString "law") 2395 (.ref 170)]) 31), #[]⟩
noncomputable def o12f (_P : Params) : Obj := ⟨.none, none, (.fields (Array.mk [(.int 5 0), (.int 0 0), (.ref 20), (.int 28 0), (.int 0 0), (.ref 27), (.int 37 0), (.int 0 0), (.ref 34), (.int 46 0), (.int 0 0), (.ref 41), (.int 69 0), (.int 0 0), (.ref 48), (.int 99 0), (.int 0 0), (.ref 66), (.int 102 0), (.int 0 0), (.ref 112), (.int 108 0), (.int 0 0), (.ref 119), (.int 120 0), (.int 0 0), (.ref 124), (.int 131 0), (.int 0 0), (.ref 129), (.int 150 0), (.int 0 0), (.ref 136), (.int 172 0), (.int 0 0), (.ref 143), (.int 180 0), (.int 0 0), (.ref 150), (.int 199 0), (.int 0 0), (.ref 157), (.int 213 0), (.int 0 0), (.ref 164), (.int 217 0), (.int 0 0), (.ref 169)])), #[]⟩
noncomputable def o107f (_P : Params) : Obj := ⟨(.type "tuple"), none, (.seq (Array.mk []) 0), #[]⟩
noncomputable def o108f (_P : Params) : Obj := ⟨.none, none, (.fields (Array.mk [])), #[]⟩
noncomputable def o109f (_P : Params) : Obj := ⟨(.type "tuple"), none, (.seq (Array.mk [(.str (Str.ofString "code") 2293), (.str (Str.ofString "r") 2294)]) 0), #[]⟩
noncomputable def o110f (_P : Params) : Obj := ⟨(.type "tuple"), none, (.seq (Array.mk []) 0), #[]⟩
noncomputable def o111f (_P : Params) : Obj := ⟨.none, none, (.func (fnAt 15 .none .none 0)), #[]⟩
noncomputable def o112f (_P : Params) : Obj := ⟨(.type "code"), none, (.fields (Array.mk [(.str (Str.ofString "map_table_b3") 2290), (.str (Str.ofString "map_table_b3") 2291), (.str (Str.ofString "/claim/cut.py") 2292), (.int 102 0), (.int 1 0), (.int 0 0), (.int 0 0), (.int 3 0), (.ref 107), (.bool true), (.int 181 0), (.ref 108), .none, (.ref 109), (.ref 110), (.ref 111), (.int 2295 0), (.int 102 0), (.str (Str.ofString "/claim/cut.py") 2296)])), #[]⟩
noncomputable def o113f (_P : Params) : Obj := ⟨(.type "function"), none, (.func (fnAt 15 (.str (Str.ofString "cpy313.stringprep") 270) (.ref 112) 3)), #[]⟩
noncomputable def o114f (_P : Params) : Obj := ⟨(.type "tuple"), none, (.seq (Array.mk []) 0), #[]⟩
noncomputable def o115f (_P : Params) : Obj := ⟨.none, none, (.fields (Array.mk [])), #[]⟩
noncomputable def o116f (_P : Params) : Obj := ⟨(.type "tuple"), none, (.seq (Array.mk [(.str (Str.ofString "kind") 2303), (.str (Str.ofString "form") 2304), (.str (Str.ofString "letter") 2305), (.str (Str.ofString "first") 2306)]) 0), #[]⟩
noncomputable def o117f (_P : Params) : Obj := ⟨(.type "tuple"), none, (.seq (Array.mk []) 0), #[]⟩
noncomputable def o118f (_P : Params) : Obj := ⟨.none, none, (.func (fnAt 17 .none .none 0)), #[]⟩
noncomputable def o119f (_P : Params) : Obj := ⟨(.type "code"), none, (.fields (Array.mk [(.str (Str.ofString "_law_sign") 2300), (.str (Str.ofString "_law_sign") 2301), (.str (Str.ofString "/claim/cut.py") 2302), (.int 108 0), (.int 2 0), (.int 0 0), (.int 0 0), (.int 3 0), (.ref 114), (.bool true), (.int 181 0), (.ref 115), .none, (.ref 116), (.ref 117), (.ref 118), (.int 2307 0), (.int 108 0), (.str (Str.ofString "/claim/cut.py") 2308)])), #[]⟩
noncomputable def o120f (_P : Params) : Obj := ⟨(.type "function"), none, (.func (fnAt 17 (.str (Str.ofString "law_rl0121_01") 2298) (.ref 119) 3)), #[]⟩
noncomputable def o121f (_P : Params) : Obj := ⟨(.type "tuple"), none, (.seq (Array.mk []) 0), #[]⟩
noncomputable def o122f (_P : Params) : Obj := ⟨.none, none, (.fields (Array.mk [])), #[]⟩
noncomputable def o123f (_P : Params) : Obj := ⟨.none, none, (.func (fnAt 18 .none .none 0)), #[]⟩
noncomputable def o124f (_P : Params) : Obj := ⟨(.type "code"), none, (.fields (Array.mk [(.str (Str.ofString "_law_letters") 2310), (.str (Str.ofString "_law_letters") 2311), (.str (Str.ofString "/claim/cut.py") 2312), (.int 120 0), (.int 2 0), (.int 0 0), (.int 0 0), (.int 3 0), (.ref 121), (.bool true), (.int 181 0), (.ref 122), .none, .none, .none, (.ref 123), (.int 2313 0), (.int 120 0), (.str (Str.ofString "/claim/cut.py") 2314)])), #[]⟩
noncomputable def o125f (_P : Params) : Obj := ⟨(.type "function"), none, (.func (fnAt 18 (.str (Str.ofString "law_rl0121_01") 2298) (.ref 124) 3)), #[]⟩
noncomputable def o126f (_P : Params) : Obj := ⟨(.type "tuple"), none, (.seq (Array.mk []) 0), #[]⟩
noncomputable def o127f (_P : Params) : Obj := ⟨.none, none, (.fields (Array.mk [])), #[]⟩
noncomputable def o128f (_P : Params) : Obj := ⟨.none, none, (.func (fnAt 19 .none .none 0)), #[]⟩
noncomputable def o129f (_P : Params) : Obj := ⟨(.type "code"), none, (.fields (Array.mk [(.str (Str.ofString "_law_spot") 2316), (.str (Str.ofString "_law_spot") 2317), (.str (Str.ofString "/claim/cut.py") 2318), (.int 131 0), (.int 1 0), (.int 0 0), (.int 0 0), (.int 3 0), (.ref 126), (.bool true), (.int 181 0), (.ref 127), .none, .none, .none, (.ref 128), (.int 2319 0), (.int 131 0), (.str (Str.ofString "/claim/cut.py") 2320)])), #[]⟩
noncomputable def o130f (_P : Params) : Obj := ⟨(.type "function"), none, (.func (fnAt 19 (.str (Str.ofString "law_rl0121_01") 2298) (.ref 129) 3)), #[]⟩
noncomputable def o131f (_P : Params) : Obj := ⟨(.type "tuple"), none, (.seq (Array.mk []) 0), #[]⟩
noncomputable def o132f (_P : Params) : Obj := ⟨.none, none, (.fields (Array.mk [])), #[]⟩
noncomputable def o133f (_P : Params) : Obj := ⟨(.type "tuple"), none, (.seq (Array.mk [(.str (Str.ofString "pieces") 2325), (.str (Str.ofString "low") 2326), (.str (Str.ofString "middle") 2327), (.str (Str.ofString "high") 2328), (.str (Str.ofString "free") 2329), (.str (Str.ofString "pairs") 2330), (.str (Str.ofString "triples") 2331), (.str (Str.ofString "size") 2332), (.str (Str.ofString "row") 2333), (.str (Str.ofString "piece") 2334), (.str (Str.ofString "letter") 2335), (.str (Str.ofString "red") 2336)]) 0), #[]⟩
noncomputable def o134f (_P : Params) : Obj := ⟨(.type "tuple"), none, (.seq (Array.mk []) 0), #[]⟩
noncomputable def o135f (_P : Params) : Obj := ⟨.none, none, (.func (fnAt 20 .none .none 0)), #[]⟩
noncomputable def o136f (_P : Params) : Obj := ⟨(.type "code"), none, (.fields (Array.mk [(.str (Str.ofString "_law_walk") 2322), (.str (Str.ofString "_law_walk") 2323), (.str (Str.ofString "/claim/cut.py") 2324), (.int 150 0), (.int 1 0), (.int 0 0), (.int 0 0), (.int 3 0), (.ref 131), (.bool true), (.int 181 0), (.ref 132), .none, (.ref 133), (.ref 134), (.ref 135), (.int 2337 0), (.int 150 0), (.str (Str.ofString "/claim/cut.py") 2338)])), #[]⟩
noncomputable def o137f (_P : Params) : Obj := ⟨(.type "function"), none, (.func (fnAt 20 (.str (Str.ofString "law_rl0121_01") 2298) (.ref 136) 3)), #[]⟩
noncomputable def o138f (_P : Params) : Obj := ⟨(.type "tuple"), none, (.seq (Array.mk []) 0), #[]⟩
noncomputable def o139f (_P : Params) : Obj := ⟨.none, none, (.fields (Array.mk [])), #[]⟩
noncomputable def o140f (_P : Params) : Obj := ⟨(.type "tuple"), none, (.seq (Array.mk [(.str (Str.ofString "text") 2343), (.str (Str.ofString "size") 2344), (.str (Str.ofString "i") 2345), (.str (Str.ofString "j") 2346), (.str (Str.ofString "letters") 2347), (.str (Str.ofString "told") 2348)]) 0), #[]⟩
noncomputable def o141f (_P : Params) : Obj := ⟨(.type "tuple"), none, (.seq (Array.mk []) 0), #[]⟩
noncomputable def o142f (_P : Params) : Obj := ⟨.none, none, (.func (fnAt 21 .none .none 0)), #[]⟩
noncomputable def o143f (_P : Params) : Obj := ⟨(.type "code"), none, (.fields (Array.mk [(.str (Str.ofString "_law_found") 2340), (.str (Str.ofString "_law_found") 2341), (.str (Str.ofString "/claim/cut.py") 2342), (.int 172 0), (.int 2 0), (.int 0 0), (.int 0 0), (.int 3 0), (.ref 138), (.bool true), (.int 181 0), (.ref 139), .none, (.ref 140), (.ref 141), (.ref 142), (.int 2349 0), (.int 172 0), (.str (Str.ofString "/claim/cut.py") 2350)])), #[]⟩
noncomputable def o144f (_P : Params) : Obj := ⟨(.type "function"), none, (.func (fnAt 21 (.str (Str.ofString "law_rl0121_01") 2298) (.ref 143) 3)), #[]⟩
noncomputable def o145f (_P : Params) : Obj := ⟨(.type "tuple"), none, (.seq (Array.mk []) 0), #[]⟩
noncomputable def o146f (_P : Params) : Obj := ⟨.none, none, (.fields (Array.mk [])), #[]⟩
noncomputable def o147f (_P : Params) : Obj := ⟨(.type "tuple"), none, (.seq (Array.mk [(.str (Str.ofString "text") 2355), (.str (Str.ofString "count") 2356), (.str (Str.ofString "first") 2357), (.str (Str.ofString "second") 2358), (.str (Str.ofString "third") 2359)]) 0), #[]⟩
noncomputable def o148f (_P : Params) : Obj := ⟨(.type "tuple"), none, (.seq (Array.mk []) 0), #[]⟩
noncomputable def o149f (_P : Params) : Obj := ⟨.none, none, (.func (fnAt 22 .none .none 0)), #[]⟩
noncomputable def o150f (_P : Params) : Obj := ⟨(.type "code"), none, (.fields (Array.mk [(.str (Str.ofString "_law_triples") 2352), (.str (Str.ofString "_law_triples") 2353), (.str (Str.ofString "/claim/cut.py") 2354), (.int 180 0), (.int 1 0), (.int 0 0), (.int 0 0), (.int 3 0), (.ref 145), (.bool true), (.int 181 0), (.ref 146), .none, (.ref 147), (.ref 148), (.ref 149), (.int 2360 0), (.int 180 0), (.str (Str.ofString "/claim/cut.py") 2361)])), #[]⟩
noncomputable def o151f (_P : Params) : Obj := ⟨(.type "function"), none, (.func (fnAt 22 (.str (Str.ofString "law_rl0121_01") 2298) (.ref 150) 3)), #[]⟩
noncomputable def o152f (_P : Params) : Obj := ⟨(.type "tuple"), none, (.seq (Array.mk []) 0), #[]⟩
noncomputable def o153f (_P : Params) : Obj := ⟨.none, none, (.fields (Array.mk [])), #[]⟩
noncomputable def o154f (_P : Params) : Obj := ⟨(.type "tuple"), none, (.seq (Array.mk [(.str (Str.ofString "pieces") 2366), (.str (Str.ofString "ahead") 2367), (.str (Str.ofString "row") 2368), (.str (Str.ofString "text") 2369), (.str (Str.ofString "piece") 2370), (.str (Str.ofString "red") 2371), (.str (Str.ofString "blue") 2372)]) 0), #[]⟩
noncomputable def o155f (_P : Params) : Obj := ⟨(.type "tuple"), none, (.seq (Array.mk []) 0), #[]⟩
noncomputable def o156f (_P : Params) : Obj := ⟨.none, none, (.func (fnAt 23 .none .none 0)), #[]⟩
noncomputable def o157f (_P : Params) : Obj := ⟨(.type "code"), none, (.fields (Array.mk [(.str (Str.ofString "_law_row") 2363), (.str (Str.ofString "_law_row") 2364), (.str (Str.ofString "/claim/cut.py") 2365), (.int 199 0), (.int 2 0), (.int 0 0), (.int 0 0), (.int 3 0), (.ref 152), (.bool true), (.int 181 0), (.ref 153), .none, (.ref 154), (.ref 155), (.ref 156), (.int 2373 0), (.int 199 0), (.str (Str.ofString "/claim/cut.py") 2374)])), #[]⟩
noncomputable def o158f (_P : Params) : Obj := ⟨(.type "function"), none, (.func (fnAt 23 (.str (Str.ofString "law_rl0121_01") 2298) (.ref 157) 3)), #[]⟩
noncomputable def o159f (_P : Params) : Obj := ⟨(.type "tuple"), none, (.seq (Array.mk []) 0), #[]⟩
noncomputable def o160f (_P : Params) : Obj := ⟨.none, none, (.fields (Array.mk [])), #[]⟩
noncomputable def o161f (_P : Params) : Obj := ⟨(.type "tuple"), none, (.seq (Array.mk [(.str (Str.ofString "paint") 2379), (.str (Str.ofString "count") 2380), (.str (Str.ofString "turn") 2381), (.str (Str.ofString "light") 2382), (.str (Str.ofString "depth") 2383), (.str (Str.ofString "red") 2384), (.str (Str.ofString "green") 2385), (.str (Str.ofString "blue") 2386)]) 0), #[]⟩
noncomputable def o162f (_P : Params) : Obj := ⟨(.type "tuple"), none, (.seq (Array.mk []) 0), #[]⟩
noncomputable def o163f (_P : Params) : Obj := ⟨.none, none, (.func (fnAt 24 .none .none 0)), #[]⟩
noncomputable def o164f (_P : Params) : Obj := ⟨(.type "code"), none, (.fields (Array.mk [(.str (Str.ofString "_law_negative") 2376), (.str (Str.ofString "_law_negative") 2377), (.str (Str.ofString "/claim/cut.py") 2378), (.int 213 0), (.int 2 0), (.int 0 0), (.int 0 0), (.int 3 0), (.ref 159), (.bool true), (.int 181 0), (.ref 160), .none, (.ref 161), (.ref 162), (.ref 163), (.int 2387 0), (.int 213 0), (.str (Str.ofString "/claim/cut.py") 2388)])), #[]⟩
noncomputable def o165f (_P : Params) : Obj := ⟨(.type "function"), none, (.func (fnAt 24 (.str (Str.ofString "law_rl0121_01") 2298) (.ref 164) 3)), #[]⟩
noncomputable def o166f (_P : Params) : Obj := ⟨(.type "tuple"), none, (.seq (Array.mk []) 0), #[]⟩
noncomputable def o167f (_P : Params) : Obj := ⟨.none, none, (.fields (Array.mk [])), #[]⟩
noncomputable def o168f (_P : Params) : Obj := ⟨.none, none, (.func (fnAt 25 .none .none 0)), #[]⟩
noncomputable def o169f (_P : Params) : Obj := ⟨(.type "code"), none, (.fields (Array.mk [(.str (Str.ofString "law") 2390), (.str (Str.ofString "law") 2391), (.str (Str.ofString "/claim/cut.py") 2392), (.int 217 0), (.int 1 0), (.int 0 0), (.int 0 0), (.int 3 0), (.ref 166), (.bool true), (.int 181 0), (.ref 167), .none, .none, .none, (.ref 168), (.int 2393 0), (.int 217 0), (.str (Str.ofString "/claim/cut.py") 2394)])), #[]⟩
noncomputable def o170f (_P : Params) : Obj := ⟨(.type "function"), none, (.func (fnAt 25 (.str (Str.ofString "law_rl0121_01") 2298) (.ref 169) 3)), #[]⟩
noncomputable def tree_f (P : Params) : BT := (.node (boot_o_0 P) (.node (boot_o_1 P) (.node (o3f P) (.node (boot_o_7 P) (.node (o15b P) (.node (o31b P) (.node (o63d P) (.node (o127f P) .nil .nil) .nil) (.node (o95e P) (.node (o159f P) .nil .nil) .nil)) (.node (o47b P) (.node (o79e P) (.node (o143f P) .nil .nil) .nil) (.node (o111f P) .nil .nil))) (.node (o23b P) (.node (o39b P) (.node (o71e P) (.node (o135f P) .nil .nil) .nil) (.node (o103e P) (.node (o167f P) .nil .nil) .nil)) (.node (o55c P) (.node (o87e P) (.node (o151f P) .nil .nil) .nil) (.node (o119f P) .nil .nil)))) (.node (o11a P) (.node (o19b P) (.node (o35b P) (.node (o67d P) (.node (o131f P) .nil .nil) .nil) (.node (o99e P) (.node (o163f P) .nil .nil) .nil)) (.node (o51c P) (.node (o83e P) (.node (o147f P) .nil .nil) .nil) (.node (o115f P) .nil .nil))) (.node (o27b P) (.node (o43b P) (.node (o75e P) (.node (o139f P) .nil .nil) .nil) (.node (o107f P) .nil .nil)) (.node (o59c P) (.node (o91e P) (.node (o155f P) .nil .nil) .nil) (.node (o123f P) .nil .nil))))) (.node (boot_o_5 P) (.node (boot_o_9 P) (.node (o17b P) (.node (o33b P) (.node (o65d P) (.node (o129f P) .nil .nil) .nil) (.node (o97e P) (.node (o161f P) .nil .nil) .nil)) (.node (o49b P) (.node (o81e P) (.node (o145f P) .nil .nil) .nil) (.node (o113f P) .nil .nil))) (.node (o25b P) (.node (o41b P) (.node (o73e P) (.node (o137f P) .nil .nil) .nil) (.node (o105e P) (.node (o169f P) .nil .nil) .nil)) (.node (o57c P) (.node (o89e P) (.node (o153f P) .nil .nil) .nil) (.node (o121f P) .nil .nil)))) (.node (o13a P) (.node (o21b P) (.node (o37b P) (.node (o69e P) (.node (o133f P) .nil .nil) .nil) (.node (o101e P) (.node (o165f P) .nil .nil) .nil)) (.node (o53c P) (.node (o85e P) (.node (o149f P) .nil .nil) .nil) (.node (o117f P) .nil .nil))) (.node (o29b P) (.node (o45b P) (.node (o77e P) (.node (o141f P) .nil .nil) .nil) (.node (o109f P) .nil .nil)) (.node (o61d P) (.node (o93e P) (.node (o157f P) .nil .nil) .nil) (.node (o125f P) .nil .nil)))))) (.node (boot_o_2 P) (.node (boot_o_4 P) (.node (boot_o_8 P) (.node (o16b P) (.node (o32b P) (.node (o64d P) (.node (o128f P) .nil .nil) .nil) (.node (o96e P) (.node (o160f P) .nil .nil) .nil)) (.node (o48b P) (.node (o80e P) (.node (o144f P) .nil .nil) .nil) (.node (o112f P) .nil .nil))) (.node (o24b P) (.node (o40b P) (.node (o72e P) (.node (o136f P) .nil .nil) .nil) (.node (o104e P) (.node (o168f P) .nil .nil) .nil)) (.node (o56c P) (.node (o88e P) (.node (o152f P) .nil .nil) .nil) (.node (o120f P) .nil .nil)))) (.node (o12f P) (.node (o20b P) (.node (o36b P) (.node (o68e P) (.node (o132f P) .nil .nil) .nil) (.node (o100e P) (.node (o164f P) .nil .nil) .nil)) (.node (o52c P) (.node (o84e P) (.node (o148f P) .nil .nil) .nil) (.node (o116f P) .nil .nil))) (.node (o28b P) (.node (o44b P) (.node (o76e P) (.node (o140f P) .nil .nil) .nil) (.node (o108f P) .nil .nil)) (.node (o60c P) (.node (o92e P) (.node (o156f P) .nil .nil) .nil) (.node (o124f P) .nil .nil))))) (.node (boot_o_6 P) (.node (boot_o_10 P) (.node (o18b P) (.node (o34b P) (.node (o66d P) (.node (o130f P) .nil .nil) .nil) (.node (o98e P) (.node (o162f P) .nil .nil) .nil)) (.node (o50c P) (.node (o82e P) (.node (o146f P) .nil .nil) .nil) (.node (o114f P) .nil .nil))) (.node (o26b P) (.node (o42b P) (.node (o74e P) (.node (o138f P) .nil .nil) .nil) (.node (o106e P) (.node (o170f P) .nil .nil) .nil)) (.node (o58c P) (.node (o90e P) (.node (o154f P) .nil .nil) .nil) (.node (o122f P) .nil .nil)))) (.node (o14a P) (.node (o22b P) (.node (o38b P) (.node (o70e P) (.node (o134f P) .nil .nil) .nil) (.node (o102e P) (.node (o166f P) .nil .nil) .nil)) (.node (o54c P) (.node (o86e P) (.node (o150f P) .nil .nil) .nil) (.node (o118f P) .nil .nil))) (.node (o30b P) (.node (o46b P) (.node (o78e P) (.node (o142f P) .nil .nil) .nil) (.node (o110f P) .nil .nil)) (.node (o62d P) (.node (o94e P) (.node (o158f P) .nil .nil) .nil) (.node (o126f P) .nil .nil)))))))
noncomputable def life0 : Life := {}
noncomputable def drawn0 : Drawn := {}
noncomputable def stA (P : Params) (os : OsState) : SharedT := ⟨tree_a P, 15, life0, #[], drawn0, 187, os⟩
noncomputable def stB (P : Params) (os : OsState) : SharedT := ⟨tree_b P, 50, life0, #[], drawn0, 272, os⟩
noncomputable def stC (P : Params) (os : OsState) : SharedT := ⟨tree_c P, 61, life0, #[], drawn0, 332, os⟩
noncomputable def stD (P : Params) (os : OsState) : SharedT := ⟨tree_d P, 68, life0, #[], drawn0, 339, os⟩
noncomputable def stE (P : Params) (os : OsState) : SharedT := ⟨tree_e P, 107, life0, #[], drawn0, 2290, os⟩
noncomputable def stF (P : Params) (os : OsState) : SharedT := ⟨tree_f P, 171, life0, #[], drawn0, 2396, os⟩
noncomputable def env0 : Env := { scope := pw.main.scope, locals := mainNs, globals := mainNs, cells := [], code := .ref 13, frame := some 14 }
noncomputable def body0 : List Stmt := behindTheImports pw
noncomputable def code0 : Code := .body body0 env0
noncomputable def pos0 : Pos := ⟨0, 0, 0, 0⟩
noncomputable def base0 : List Frame := [topFrame pos0]
noncomputable def ann0 : Option Value := some (.ref 6)
noncomputable def stsA : List Stmt := pw.main.body.take 12
noncomputable def stsB : List Stmt := (pw.main.body.drop 12).take 1
noncomputable def stsC : List Stmt := (pw.main.body.drop 13).take 1
noncomputable def stsD : List Stmt := (pw.main.body.drop 14).take 1
noncomputable def stsE : List Stmt := pw.main.body.drop 15
end Mine
end
end
section
set_option Elab.async false
set_option maxRecDepth 100000
noncomputable section
namespace Mine
open PySem PySem.W PyProof.Rows PySem.Calls
noncomputable def hRun (p : Program) (w : World) (n : Nat) (st : SharedT) (sts : List Stmt) (e : Env) (c : Code) (q : Pos) (bs : List Frame) : Option (Flow × SharedT × Code × Pos) := segRunT treeTable p w 11 ann0 1 n st (piecesOf sts e c q bs)
noncomputable def wr (a b : Bool) (w : World) : World := (w.withFollow "set-order" a).withFollow "special-get-raises" b
noncomputable def hRunB (a b : Bool) (p : Program) (w : World) (n : Nat) (st : SharedT) (sts : List Stmt) (e : Env) (c : Code) (q : Pos) (bs : List Frame) : Option (Flow × SharedT × Code × Pos) := hRun p (wr a b w) n st sts e c q bs
noncomputable def hTop (p : Program) (w : World) (s : Shared) : Option (Shared × Thread) := topGo treeTable p w 11 ann0 12 s (topStub p)
noncomputable def hTopR (s : Shared) (c : Code) (q : Pos) : Option (Shared × Thread) := some (s, ⟨denote treeTable c, c, q, [topFrame q]⟩)
noncomputable def hSeg (p : Program) (w : World) (s : Shared) (b : List Stmt) (e : Env) (c : Code) (q : Pos) (bs : List Frame) : Option (Flow × Shared × Code × Pos) := segRun treeTable p w 11 ann0 1 1 s (blockOf b e c q bs)
noncomputable def hEnd (p : Program) (w : World) (s : Shared) (c : Code) (q : Pos) (bs : List Frame) : Option Shared := topRun treeTable p w 11 ann0 2 s ⟨doneF .next, c, q, bs⟩
noncomputable def hLk1 (p : Program) (mods : List Str) (h0 h1 : Heap) (s : Shared) : Bool := staticsOk mods h0 h1 && namesBound p h1 && gensDone s && laidKept h0 h1
noncomputable def hSz (h : Heap) : Bool × Nat × Option Value := (h.isNs mainGlobals && (Array.mk [] : Array GenState).size == 0, h.objs.size, h.nsMap mainGlobals "__annotations__")
noncomputable def hRest (ts : List Expr) (d : Expr) (e : Env) (v : Value) : Sem Flow := swappedStores ts d e >>= fun sw => assignStores e v sw ((assignEach ts e).map (·.2))
noncomputable def hRunX (p : Program) (w : World) (n : Nat) (st : SharedT) (ts : List Expr) (d : Expr) (v : Value) (e : Env) (c : Code) (q : Pos) (bs : List Frame) : Option (Flow × SharedT × Code × Pos) := segRunT treeTable p w 11 ann0 1 n st ⟨(hRest ts d e v).wrap doneF deadEnd id id, c, q, bs⟩
end Mine
end
lay_quick Mine.hRun Mine.hRunB Mine.hTop Mine.hSeg Mine.hEnd Mine.hLk1 Mine.hSz Mine.hTopR Mine.hRunX
end
section
set_option Elab.async false
set_option maxRecDepth 100000
noncomputable section
namespace Mine
open PySem PySem.W PyProof.Rows PySem.Calls
theorem eqA (w : World) (os : OsState) : hRun pw w 300 (stA w.params os) stsA env0 code0 pos0 base0 = some (.next, stB w.params os, code0, ⟨97, 0, 97, 8⟩) := by
  rw [PySem.W.Fast.te4548767173527560842]
  kernel_rfl
theorem eqB0 (w : World) (os : OsState) : hRunB false false pw w 1000 (stB (wr false false w).params os) stsB env0 code0 ⟨97, 0, 97, 8⟩ base0 = some (.next, stC (wr false false w).params os, code0, ⟨98, 0, 98, 6⟩) := by
  rw [PySem.W.Fast.te13256412301000605337]
  kernel_rfl
theorem eqB1 (w : World) (os : OsState) : hRunB false true pw w 1000 (stB (wr false true w).params os) stsB env0 code0 ⟨97, 0, 97, 8⟩ base0 = some (.next, stC (wr false true w).params os, code0, ⟨98, 0, 98, 6⟩) := by
  rw [PySem.W.Fast.te13256412301000605337]
  kernel_rfl
theorem eqB2 (w : World) (os : OsState) : hRunB true false pw w 1000 (stB (wr true false w).params os) stsB env0 code0 ⟨97, 0, 97, 8⟩ base0 = some (.next, stC (wr true false w).params os, code0, ⟨98, 0, 98, 6⟩) := by
  rw [PySem.W.Fast.te13256412301000605337]
  kernel_rfl
theorem eqB3 (w : World) (os : OsState) : hRunB true true pw w 1000 (stB (wr true true w).params os) stsB env0 code0 ⟨97, 0, 97, 8⟩ base0 = some (.next, stC (wr true true w).params os, code0, ⟨98, 0, 98, 6⟩) := by
  rw [PySem.W.Fast.te13256412301000605337]
  kernel_rfl
theorem eqBb : ∀ (a b : Bool) (w : World) (os : OsState), hRunB a b pw w 1000 (stB (wr a b w).params os) stsB env0 code0 ⟨97, 0, 97, 8⟩ base0 = some (.next, stC (wr a b w).params os, code0, ⟨98, 0, 98, 6⟩)
  | false, false => eqB0
  | false, true => eqB1
  | true, false => eqB2
  | true, true => eqB3
theorem eqB (w : World) (os : OsState) : hRun pw w 1000 (stB w.params os) stsB env0 code0 ⟨97, 0, 97, 8⟩ base0 = some (.next, stC w.params os, code0, ⟨98, 0, 98, 6⟩) := by
  have e : wr (w.params.followText "set-order") ((w.withFollow "set-order" (w.params.followText "set-order")).params.followText "special-get-raises") w = w := by
    unfold wr
    rw [World.withFollow_self, World.withFollow_self]
  have h := eqBb (w.params.followText "set-order") ((w.withFollow "set-order" (w.params.followText "set-order")).params.followText "special-get-raises") w os
  unfold hRunB at h
  rw [e] at h
  exact h
theorem eqC (w : World) (os : OsState) : hRun pw w 30 (stC w.params os) stsC env0 code0 ⟨98, 0, 98, 6⟩ base0 = some (.next, stD w.params os, code0, ⟨99, 0, 100, 30⟩) := by
  rw [PySem.W.Fast.te4548767173527560842]
  kernel_rfl
theorem eqE (w : World) (os : OsState) : hRun pw w 400 (stE w.params os) stsE env0 code0 ⟨101, 0, 101, 13⟩ base0 = some (.next, stF w.params os, code0, ⟨217, 0, 230, 15⟩) := by
  rw [PySem.W.Fast.te4548767173527560842]
  kernel_rfl
noncomputable def shAa (P : Params) (os : OsState) : Shared := ⟨⟨Array.mk [boot_o_0 P, boot_o_1 P, boot_o_2 P, boot_o_3 P, boot_o_4 P, boot_o_5 P, boot_o_6 P, boot_o_7 P, boot_o_8 P, boot_o_9 P, boot_o_10 P, o11a P, o12a P, o13a P, o14a P], life0⟩, Array.mk [], drawn0, 187, os⟩
noncomputable def shF (P : Params) (os : OsState) : Shared := (stF P os).abs
theorem eqP (w : World) (os : OsState) : hTop pw w ⟨boot_heap w.params, Array.mk [], boot_drawn, boot_toks, os⟩ = hTopR (shAa w.params os) code0 pos0 := by
  rw [PySem.W.Fast.te17950331609027873452, PySem.W.Fast.te8159818964982206746]
  kernel_rfl
theorem eqK (w : World) (os : OsState) : hSeg pw w (shAa w.params os) body0 env0 code0 pos0 base0 = some (.next, (stA w.params os).abs, code0, pos0) := by
  rw [PySem.W.Fast.te3102311424162371752]
  kernel_rfl
theorem eqZ (w : World) (os : OsState) : hEnd pw w (shF w.params os) code0 ⟨217, 0, 230, 15⟩ base0 = some (shF w.params os) := by
  rw [PySem.W.Fast.te1763715067009366005]
  kernel_rfl
end Mine
end
end
section
set_option Elab.async false
set_option maxRecDepth 100000
noncomputable section
namespace Mine
open PySem PySem.W PyProof.Rows PySem.Calls
noncomputable def K0 (P : Params) : Frag := (nat_lit 2, boot_o_2 P) :: (nat_lit 3, o3f P) :: (nat_lit 6, boot_o_6 P) :: (nat_lit 15, o15b P) :: (nat_lit 17, o17b P) :: (nat_lit 18, o18b P) :: (nat_lit 20, o20b P) :: (nat_lit 21, o21b P) :: (nat_lit 22, o22b P) :: (nat_lit 24, o24b P) :: (nat_lit 25, o25b P) :: (nat_lit 27, o27b P) :: (nat_lit 28, o28b P) :: (nat_lit 29, o29b P) :: (nat_lit 31, o31b P) :: (nat_lit 32, o32b P) :: (nat_lit 34, o34b P) :: (nat_lit 35, o35b P) :: (nat_lit 36, o36b P) :: (nat_lit 38, o38b P) :: (nat_lit 39, o39b P) :: (nat_lit 41, o41b P) :: (nat_lit 42, o42b P) :: (nat_lit 43, o43b P) :: (nat_lit 45, o45b P) :: (nat_lit 46, o46b P) :: (nat_lit 48, o48b P) :: (nat_lit 49, o49b P) :: (nat_lit 57, o57c P) :: (nat_lit 61, o61d P) :: (nat_lit 63, o63d P) :: (nat_lit 64, o64d P) :: (nat_lit 66, o66d P) :: (nat_lit 67, o67d P) :: (nat_lit 68, o68e P) :: (nat_lit 107, o107f P) :: (nat_lit 109, o109f P) :: (nat_lit 110, o110f P) :: (nat_lit 112, o112f P) :: (nat_lit 113, o113f P) :: (nat_lit 114, o114f P) :: (nat_lit 116, o116f P) :: (nat_lit 117, o117f P) :: (nat_lit 119, o119f P) :: (nat_lit 120, o120f P) :: (nat_lit 121, o121f P) :: (nat_lit 124, o124f P) :: (nat_lit 125, o125f P) :: (nat_lit 126, o126f P) :: (nat_lit 129, o129f P) :: (nat_lit 130, o130f P) :: (nat_lit 131, o131f P) :: (nat_lit 133, o133f P) :: (nat_lit 134, o134f P) :: (nat_lit 136, o136f P) :: (nat_lit 137, o137f P) :: (nat_lit 138, o138f P) :: (nat_lit 140, o140f P) :: (nat_lit 141, o141f P) :: (nat_lit 143, o143f P) :: (nat_lit 144, o144f P) :: (nat_lit 145, o145f P) :: (nat_lit 147, o147f P) :: (nat_lit 148, o148f P) :: (nat_lit 150, o150f P) :: (nat_lit 151, o151f P) :: (nat_lit 152, o152f P) :: (nat_lit 154, o154f P) :: (nat_lit 155, o155f P) :: (nat_lit 157, o157f P) :: (nat_lit 158, o158f P) :: (nat_lit 159, o159f P) :: (nat_lit 161, o161f P) :: (nat_lit 162, o162f P) :: (nat_lit 164, o164f P) :: (nat_lit 165, o165f P) :: (nat_lit 166, o166f P) :: (nat_lit 169, o169f P) :: (nat_lit 170, o170f P) :: []
noncomputable def as0 : List Addr := [2, 3, 6, 15, 17, 18, 20, 21, 22, 24, 25, 27, 28, 29, 31, 32, 34, 35, 36, 38, 39, 41, 42, 43, 45, 46, 48, 49, 57, 61, 63, 64, 66, 67, 68, 107, 109, 110, 112, 113, 114, 116, 117, 119, 120, 121, 124, 125, 126, 129, 130, 131, 133, 134, 136, 137, 138, 140, 141, 143, 144, 145, 147, 148, 150, 151, 152, 154, 155, 157, 158, 159, 161, 162, 164, 165, 166, 169, 170]
theorem as0_eq (P : Params) : as0 = (K0 P).map (·.1) := by kernel_rfl
noncomputable def hk0 : Hook := kHook K0 as0 as0_eq
noncomputable def q0 : Program := view pw [1, 2, 3, 4, 5, 6, 7, 9, 10, 12, 13, 14, 15, 17, 18, 19, 20, 21, 22, 23, 24, 25]
noncomputable def loose0 : List Str := [Str.ofString "ONE_THIRD", Str.ofString "ONE_SIXTH", Str.ofString "TWO_THIRD", Str.ofString "b1_set", Str.ofString "b3_exceptions"]
noncomputable def lv0 : List (Str × WData) := [(Str.ofString "ONE_THIRD", WData.float 4599676419421066581), (Str.ofString "ONE_SIXTH", WData.float 4595172819793696085), (Str.ofString "TWO_THIRD", WData.float 4604180019048437077)]
noncomputable def row0 : OpenRow := PySem.Challenge.rw_rl0121_01.row
noncomputable def xt0 (s : Shared) : Bool := xlAt q0 lv0 s && recOk (RowW.records row0.toRowW) s
noncomputable def heapF (P : Params) : Heap := absHeap (tree_f P) 171 life0
noncomputable def mods0 : List Str := importedModules pw.main.body
end Mine
end
end
section
set_option Elab.async false
set_option maxRecDepth 100000
noncomputable section
namespace Mine
open PySem PySem.W PyProof.Rows PySem.Calls
/-- the keys of a written dict rise: one look a key, where keysApartInt looks at each pair of them -/
noncomputable def rises : Int → List (PyData × PyData) → Bool
  | _, [] => true
  | k, (.int j, _) :: D => decide (k < j) && rises j D
  | _, _ => false
theorem rises_apart : ∀ {k : Int} {D : List (PyData × PyData)}, rises k D = true → keysApartInt D = true ∧ ∀ j, j ≤ k → hasIntKey j D = false
  | _, [], _ => ⟨rfl, fun _ _ => rfl⟩
  | k, (.int j, _) :: D, h => by
    unfold rises at h
    rw [Bool.and_eq_true, decide_eq_true_eq] at h
    obtain ⟨a, b⟩ := rises_apart h.2
    refine ⟨?_, fun i hi => ?_⟩
    · unfold keysApartInt
      rw [b j (Int.le_refl _), a]; rfl
    · unfold hasIntKey
      rw [b i (Int.le_trans hi (Int.le_of_lt h.1)), Bool.or_false]
      exact beq_eq_false_iff_ne.mpr (fun e => absurd h.1 (Int.not_lt.mpr (e ▸ hi)))
  | _, (.none, _) :: _, h | _, (.bool _, _) :: _, h | _, (.str _, _) :: _, h | _, (.list _, _) :: _, h | _, (.tuple _, _) :: _, h | _, (.dict _, _) :: _, h => by simp [rises] at h
theorem tab_rise (w : World) {h : Heap} {name : Str} {a : Addr} {o : Obj} {es : List DictEntry} {n : Nat} {D : List (PyData × PyData)} (hb : h.nsMap mainGlobals name = some (.ref a)) (ho : h.get? a = some o) (e : o = ⟨.type "dict", none, .dict es.toArray n, #[]⟩)
    (lo : (a == sysModules) = false) (q : (entriesAreInt es D && rises (-1) D) = true) : h.tabIntOk name D = true := by
  subst e
  obtain ⟨he, hr⟩ := Bool.and_eq_true_iff.mp q
  obtain ⟨kvs, p, f, ks⟩ := entries_spec (prog := pw) (w := w) he
  exact tabIntOk_complete (prog := pw) (w := w) hb ⟨lo, kvs, ⟨_, _, _, ho, ⟨rfl, rfl, rfl⟩, rfl, fun e he => ks e (List.mem_toArray.mp he), p, nodup_of_apart f (rises_apart hr).1⟩, f⟩
theorem eqS (w : World) : hSz (boot_heap w.params) = (true, 11, ann0) := by
  rw [PySem.W.Fast.te17316391611418006644]
  kernel_rfl
theorem eqL1 (w : World) (os : OsState) : hLk1 pw mods0 (boot_heap w.params) (heapF w.params) ⟨heapF w.params, Array.mk [], drawn0, 2396, os⟩ = true := by
  rw [PySem.W.Fast.te5500218428602142960]
  kernel_rfl
theorem vals_eq : valNames q0 = [Str.ofString "ONE_THIRD", Str.ofString "ONE_SIXTH", Str.ofString "TWO_THIRD", Str.ofString "ELLIPSIS_MARKER", Str.ofString "b1_set", Str.ofString "b3_exceptions"] := by kernel_rfl
theorem b3_tab : (tabIntOf q0 (Str.ofString "b3_exceptions")).all (fun D => entriesAreInt (ents 3 339 (b3pairs.take 646) ++ ents 2 2277 (b3pairs.drop 646)) D && rises (-1) D) = true := by
  rw [PySem.W.Fast.te10077548348588599076]
  kernel_rfl
theorem b3_name (w : World) : (heapF w.params).nsMap mainGlobals (Str.ofString "b3_exceptions") = some (.ref 68) := by kernel_rfl
theorem b3_at (w : World) : (heapF w.params).get? 68 = some (o68e w.params) := by kernel_rfl
theorem eqTab (w : World) : tablesOk q0 (heapF w.params) = true := by
  delta tablesOk
  rw [vals_eq]
  simp only [List.all_cons, List.all_nil, Bool.and_true]
  refine look_both (by kernel_rfl) (look_both (by kernel_rfl) (look_both (by kernel_rfl) (look_both (by kernel_rfl) (look_both (by kernel_rfl) (look_both (by kernel_rfl) ?_)))))
  have hD := b3_tab
  generalize tabIntOf q0 (Str.ofString "b3_exceptions") = t at hD ⊢
  cases t with
  | none => rfl
  | some D => exact tab_rise w (b3_name w) (b3_at w) rfl rfl hD
theorem eqXt (w : World) (os : OsState) : xt0 ⟨heapF w.params, Array.mk [], drawn0, 2396, os⟩ = true := by kernel_rfl
theorem eqL2 (w : World) (os : OsState) : openSeen q0 loose0 mods0 xt0 true ⟨heapF w.params, Array.mk [], drawn0, 2396, os⟩ = openGood q0 loose0 := by
  delta openSeen openGood
  refine looks_pair ?s (looks_pair ?b (looks_pair ?k (looks_pair ?t (looks_pair ?d (looks_pair ?e (looks_pair ?f (looks_pair ?g ?h)))))))
  case s => rw [PySem.W.Fast.te5160383126252970620]; kernel_rfl
  case b => kernel_rfl
  case t => rw [PySem.W.Fast.te479339242167458305]; kernel_rfl
  case d => kernel_rfl
  case e => rw [PySem.W.Fast.te2386780881361962483]; kernel_rfl
  case f => kernel_rfl
  case g => rw [PySem.W.Fast.te7317090234206586261]; kernel_rfl
  case h => kernel_rfl
  case k =>
    refine look_both (look_both (look_both (look_both (look_both (look_both ?k1 ?k2) ?k3) ?k4) (eqTab w)) (eqXt w os)) ?k5
    case k1 => rw [PySem.W.Fast.te10880121769531294198]; kernel_rfl
    case k2 => rw [PySem.W.Fast.te14722251495701143533]; kernel_rfl
    all_goals kernel_rfl
theorem eqL3 (w : World) (os : OsState) : as0.map (Shared.heap ⟨heapF w.params, Array.mk [], drawn0, 2396, os⟩).get? = (K0 w.params).map fun p => some p.2 := by
  kernel_rfl
end Mine
end
end
section
set_option Elab.async false
set_option maxRecDepth 100000
noncomputable section
namespace Mine
open PySem PySem.W PyProof.Rows PySem.Calls
theorem segGo_app {tb : String → Option Builtin} {p : Program} {w : World} {n₀ : Nat} {ann : Option Value} {b : Nat} : ∀ {n m : Nat} {s s' : Shared} {t t' : Thread} {r : Shared × Thread},
    segGo tb p w n₀ ann b n s t = some (s', t') → segGo tb p w n₀ ann b m s' t' = some r → segGo tb p w n₀ ann b (n + m) s t = some r
  | 0, m, s, s', t, t', r, h, k => by
    obtain ⟨rfl, rfl⟩ : s = s' ∧ t = t' := by simpa [segGo] using h
    rw [Nat.zero_add]; exact k
  | n + 1, m, s, s', t, t', r, h, k => by
    rw [show n + 1 + m = n + m + 1 by omega]
    unfold segGo at h ⊢
    cases he : endAt b t with
    | some f => rw [he] at h; cases h
    | none =>
      rw [he] at h
      cases hk : stepOk n₀ ann t with
      | false => rw [hk] at h; cases h
      | true =>
        rw [hk] at h
        cases hs : step (denote tb) p w s t with
        | halt o s₂ => rw [hs] at h; cases h
        | go s₂ t₂ => rw [hs] at h; exact segGo_app h k

noncomputable def Go {α : Type} (w : World) (n : Nat) (t : Sem α) (p : Pos) (s : Shared) (a : α) (p' : Pos) (s' : Shared) : Prop :=
  ∀ (K : α → Sem Fin) (H : Value → Sem Fin) (gd : Bool → Bool) (lv : List Value → List Value),
    segGo treeTable pw w 11 ann0 1 n s ⟨t.wrap K H gd lv, code0, p, base0⟩ = some (s', ⟨K a, code0, p', base0⟩)

section
variable {α β : Type} {w : World} {n m : Nat} {p p' p'' : Pos} {s s' s'' : Shared}
theorem Go.pure {a : α} : Go w 0 (Pure.pure a : Sem α) p s a p s := fun _ _ _ _ => rfl
theorem Go.wrap {t : Sem α} {K : α → Sem β} {H : Value → Sem β} {gd : Bool → Bool} {lv : List Value → List Value} {a : α} {b : β} (h : Go w n t p s a p' s') (k : Go w m (K a) p' s' b p'' s'') : Go w (n + m) (t.wrap K H gd lv) p s b p'' s'' := by
  intro K' H' gd' lv'
  rw [Sem.wrap_wrap]
  exact segGo_app (h _ _ _ _) (k K' H' gd' lv')
theorem Go.bind {t : Sem α} {f : α → Sem β} {a : α} {b : β} (h : Go w n t p s a p' s') (k : Go w m (f a) p' s' b p'' s'') : Go w (n + m) (t >>= f) p s b p'' s'' := by
  rw [Sem.bind_eq_wrap']; exact h.wrap k
theorem Go.keep {t : Sem α} {vs : List Value} {a : α} (h : Go w n t p s a p' s') : Go w n (t.keep vs) p s a p' s' := by
  rw [Sem.keep_eq_wrap]; exact h.wrap (K := Sem.pure) Go.pure
theorem Go.holding {t : Sem α} {vs : List Value} {a : α} (h : Go w n t p s a p' s') : Go w n (PySem.holding vs t) p s a p' s' := by
  unfold PySem.holding
  split
  · exact h
  · exact h.keep
theorem Go.onRaise {t : Sem α} {f : Value → Sem Unit} {a : α} (h : Go w n t p s a p' s') : Go w n (t.onRaise f) p s a p' s' := by
  rw [Sem.onRaise_eq_wrap]; exact h.wrap (K := Sem.pure) Go.pure
theorem Go.rule {tag : String} : Go w 1 (PySem.rule tag) p s () p s := fun _ _ _ _ => rfl
theorem Go.standAt {q : Pos} : Go w 1 (PySem.standAt q) p s () q s := fun _ _ _ _ => rfl
theorem Go.fresh : Go w 1 PySem.fresh p s s.toks p { s with toks := s.toks + 1 } := fun _ _ _ _ => rfl
theorem Go.alloc {o : Obj} : Go w 1 (PySem.alloc o) p s s.heap.objs.size p { s with heap := s.heap.push o } := fun _ _ _ _ => rfl
theorem Go.loadPart {a : Addr} {part : Option Value} {o : Obj} (h : s.heap.get? a = some o) : Go w 1 (PySem.loadPart a part) p s o p s := by
  intro K H gd lv
  obtain ⟨heap, gens, drawn, toks, os⟩ := s
  show (match step (denote treeTable) pw w _ _ with | .go s' t' => segGo treeTable pw w 11 ann0 1 0 s' t' | .halt _ _ => none) = _
  simp only [PySem.loadPart, Sem.wrap, step]
  rw [show heap.get? a = some o from h]
  rfl
theorem Go.load {a : Addr} {o : Obj} (h : s.heap.get? a = some o) : Go w 1 (PySem.load a) p s o p s := Go.loadPart h
theorem Go.updatePart {a : Addr} {part : Option Value} {f : Obj → Obj} {o : Obj} (h : s.heap.get? a = some o) (ha : 11 ≤ a) : Go w 1 (PySem.updatePart a part f) p s () p { s with heap := s.heap.update a f } := by
  intro K H gd lv
  obtain ⟨heap, gens, drawn, toks, os⟩ := s
  have hb : (Nat.ble 11 a || a == mainNs || a == cStatics || ann0 == some (.ref a)) = true := by
    rw [show Nat.ble 11 a = true from Nat.ble_eq_true_of_le ha]; rfl
  show (match (true && (Nat.ble 11 a || a == mainNs || a == cStatics || ann0 == some (.ref a))) with
    | false => none
    | true => match step (denote treeTable) pw w _ _ with | .go s' t' => segGo treeTable pw w 11 ann0 1 0 s' t' | .halt _ _ => none) = _
  rw [hb]
  simp only [PySem.updatePart, Sem.wrap, step]
  rw [show heap.get? a = some o from h]
  rfl
end
end Mine
end
end
section
set_option Elab.async false
set_option maxRecDepth 100000
noncomputable section
namespace Mine
open PySem PySem.W PyProof.Rows PySem.Calls
noncomputable def hpos (k : Int) (t : Tok) (refuse : Sem Value) : Sem (Option Value) := callSpecialIfBoundUnlessNone? (.int k t) (Str.ofString "__hash__") refuse
noncomputable def lhsV (pr : Program) (c : Code) (bs : List Frame) (b : Bool) (n : Nat) (w : World) (k : Int) (t : Tok) (refuse : Sem Value) (heap : Heap) (gens : Array GenState) (drawn : Drawn) (toks : Nat) (os : OsState) (p : Pos) (K : Option Value → Sem Fin) (H : Value → Sem Fin) (gd : Bool → Bool) (lv : List Value → List Value) : Option (Shared × Thread) :=
  segGo treeTable pr (w.withFollow "special-get-raises" b) 11 ann0 1 n ⟨heap, gens, drawn, toks, os⟩ ⟨(hpos k t refuse).wrap K H gd lv, c, p, bs⟩
noncomputable def rhsV (c : Code) (bs : List Frame) (k : Int) (heap : Heap) (gens : Array GenState) (drawn : Drawn) (toks : Nat) (os : OsState) (p : Pos) (K : Option Value → Sem Fin) : Option (Shared × Thread) :=
  some (⟨heap, gens, drawn, toks + 1, os⟩, ⟨K (some (.int (rawHash k) toks)), c, p, bs⟩)
noncomputable abbrev lhsH := lhsV pw code0 base0
noncomputable abbrev rhsH := rhsV code0 base0
end Mine
end
lay_quick Mine.lhsV Mine.rhsV
end
section
set_option Elab.async false
set_option maxRecDepth 100000
noncomputable section
namespace Mine
open PySem PySem.W PyProof.Rows PySem.Calls
theorem eqHf : (fun w k t refuse heap gens drawn toks os p K H gd lv => lhsH false 5 w k t refuse heap gens drawn toks os p K H gd lv) = fun _ k _ _ heap gens drawn toks os p K _ _ _ => rhsH k heap gens drawn toks os p K := by
  unfold lhsH rhsH
  rw [PySem.W.Fast.te3674015769839404128]
  kernel_rfl
theorem eqHt : (fun w k t refuse heap gens drawn toks os p K H gd lv => lhsH true 5 w k t refuse heap gens drawn toks os p K H gd lv) = fun _ k _ _ heap gens drawn toks os p K _ _ _ => rhsH k heap gens drawn toks os p K := by
  unfold lhsH rhsH
  rw [PySem.W.Fast.te3674015769839404128]
  kernel_rfl

section
variable {w : World} {p : Pos} {s : Shared}
theorem Go.callHash {k : Int} {t : Tok} {refuse : Sem Value} : Go w 5 (callSpecialIfBoundUnlessNone? (.int k t) (Str.ofString "__hash__") refuse) p s (some (.int (rawHash k) s.toks)) p { s with toks := s.toks + 1 } := by
  intro K H gd lv
  obtain ⟨heap, gens, drawn, toks, os⟩ := s
  have e := World.withFollow_self w "special-get-raises"
  cases hb : w.params.followText "special-get-raises" <;> rw [hb] at e
  · have := congrFun (congrFun (congrFun (congrFun (congrFun (congrFun (congrFun (congrFun (congrFun (congrFun (congrFun (congrFun (congrFun (congrFun eqHf w) k) t) refuse) heap) gens) drawn) toks) os) p) K) H) gd) lv
    unfold lhsH lhsV at this
    rw [e] at this
    exact this
  · have := congrFun (congrFun (congrFun (congrFun (congrFun (congrFun (congrFun (congrFun (congrFun (congrFun (congrFun (congrFun (congrFun (congrFun eqHt w) k) t) refuse) heap) gens) drawn) toks) os) p) K) H) gd) lv
    unfold lhsH lhsV at this
    rw [e] at this
    exact this

theorem raw_small {k : Int} (h0 : 0 ≤ k) (h1 : k < 2 ^ 60) : rawHash k = k := by
  unfold rawHash
  first | (simp; omega) | omega
end
end Mine
end
end
section
set_option Elab.async false
set_option maxRecDepth 100000
noncomputable section
namespace Mine
open PySem PySem.W PyProof.Rows PySem.Calls
section
variable {w : World} {p : Pos} {s : Shared}
theorem special_int : specialOf (.int k t) (Str.ofString "__hash__") = Pure.pure (some (.builtin "int.__hash__")) := by
  show (typeOf (.int k t) >>= fun x => typeLookup x (Str.ofString "__hash__")) = _
  exact slot_int_hash.lookup
theorem Go.pyHash {k : Int} {t : Tok} (h0 : 0 ≤ k) (h1 : k < 2 ^ 60) : Go w 5 (pyHash (.int k t)) p s k p { s with toks := s.toks + 1 } := by
  unfold PySem.pyHash pyHashByItsType
  have hv : [Value.int k t].any Value.onHeap = false := rfl
  refine Go.bind (n := 0) (m := 5) (a := ()) (by rw [cRoomFor, if_neg (by rw [hv]; exact Bool.false_ne_true)]; exact Go.pure) ?_
  rw [special_int]
  refine Go.bind (n := 0) (m := 5) Go.pure ?_
  show Go w 5 (if (some (Value.builtin "int.__hash__") == some Value.none) = true then _ else _) p s k p _
  rw [if_neg (by rw [beq_builtin_none]; exact Bool.false_ne_true)]
  refine Go.bind (n := 0) (m := 5) Go.pure ?_
  show Go w 5 (callSpecialIfBoundUnlessNone? (.int k t) (Str.ofString "__hash__") _ >>= _) p s k p _
  refine Go.bind (n := 5) (m := 0) Go.callHash ?_
  have e := raw_small h0 h1
  show Go w 0 (if (decide (-(2 : Int) ^ 63 ≤ rawHash k) && decide (rawHash k < 2 ^ 63)) = true then Pure.pure (if (rawHash k == -1) = true then -2 else rawHash k) else _) p _ k p _
  rw [e, if_pos (by simp; omega), if_neg (by simp; omega)]
  exact Go.pure
theorem get_put {h : Heap} {d : Addr} {o : Obj} (X : Obj) (e : h.get? d = some o) (hf : X.isFreed = false) : (h.update d fun _ => X).get? d = some X := Heap.get?_update_self (fun _ => X) e hf
noncomputable abbrev dObj (es : List DictEntry) (n : Nat) : Obj := ⟨.type "dict", none, .dict es.toArray n, #[]⟩
theorem places_none {es : List DictEntry} {k : Int} (h : ∀ e ∈ es, e.hash ≠ k) : placesWithHash es.toArray.size (fun i => es.toArray[i]?.map (·.hash)) k = [] := by
  unfold placesWithHash
  refine List.filter_eq_nil_iff.mpr fun i _ => ?_
  dsimp only
  rw [List.getElem?_toArray]
  cases he : es[i]? with
  | none => simp
  | some e => simpa using h e (List.mem_of_getElem? he)
theorem Go.dictEntries {d : Addr} {es : List DictEntry} {n : Nat} {part : Option Value} (h : s.heap.get? d = some (dObj es n)) : Go w 1 (dictEntries d part) p s es.toArray p s := by
  unfold PySem.dictEntries
  exact Go.bind (n := 1) (m := 0) (Go.loadPart h) Go.pure
theorem Go.dictEpoch {d : Addr} {es : List DictEntry} {n : Nat} {part : Option Value} (h : s.heap.get? d = some (dObj es n)) : Go w 1 (dictEpoch d part) p s n p s := by
  unfold PySem.dictEpoch
  exact Go.bind (n := 1) (m := 0) (Go.loadPart h) Go.pure
theorem Go.dictFind {d : Addr} {es : List DictEntry} {n : Nat} {k : Int} {t : Tok} (h : s.heap.get? d = some (dObj es n)) (hk : ∀ e ∈ es, e.hash ≠ k) : Go w 1 (dictFind d (.int k t) k) p s none p s := by
  unfold PySem.dictFind
  refine Go.holding ?_
  refine Go.bind (n := 1) (m := 0) (Go.dictEntries h) ?_
  dsimp only
  rw [places_none hk]
  exact Go.pure
theorem Go.updateDictKeys {d : Addr} {es : List DictEntry} {n : Nat} {part : Option Value} {e : DictEntry} (h : s.heap.get? d = some (dObj es n)) (hd : 11 ≤ d) (hs : es.length ≤ 1000) :
    Go w 3 (updateDictKeys d (·.push e) part) p s () p { s with heap := s.heap.update d fun _ => dObj (es ++ [e]) (n + 1) } := by
  have eu : s.heap.update d (Obj.mapDictKeys (·.push e)) = s.heap.update d fun _ => dObj (es ++ [e]) (n + 1) := by
    obtain ⟨⟨objs, life⟩, gens, drawn, toks, os⟩ := s
    show Heap.mk (objs.modify d _) life = Heap.mk (objs.modify d _) life
    congr 1
    apply Array.ext_getElem?
    intro i
    rw [Array.getElem?_modify, Array.getElem?_modify]
    by_cases hi : d = i
    · subst hi
      have ho : objs[d]? = some (dObj es n) := by
        have h' : Heap.get? ⟨objs, life⟩ d = some (dObj es n) := h
        unfold Heap.get? at h'
        split at h'
        · cases h'
        · exact h'
      simp only [if_true]
      rw [ho]
      simp [Obj.mapDictKeys]
    · simp [hi]
  unfold PySem.updateDictKeys
  refine Go.bind (n := 1) (m := 2) (Go.loadPart h) ?_
  dsimp only
  refine Go.bind (n := 1) (m := 1) (Go.updatePart h hd) ?_
  rw [eu]
  unfold lookBehind
  refine Go.bind (n := 1) (m := 0) (Go.loadPart (get_put (dObj (es ++ [e]) (n + 1)) h rfl)) ?_
  dsimp only
  rw [pastItsLine_dict (by simp [sizeLine]; omega)]
  exact Go.pure
theorem Go.dictSet {d : Addr} {es : List DictEntry} {n : Nat} {k : Int} {t : Tok} {v : Value} (h : s.heap.get? d = some (dObj es n)) (hd : 11 ≤ d) (hs : es.length ≤ 1000) (h0 : 0 ≤ k) (h1 : k < 2 ^ 60) (hk : ∀ e ∈ es, e.hash ≠ k) :
    Go w 10 (dictSet d (.int k t) v) p s () p { s with heap := s.heap.update d fun _ => dObj (es ++ [⟨k, .int k t, v⟩]) (n + 1), toks := s.toks + 1 } := by
  unfold PySem.dictSet
  refine Go.holding ?_
  refine Go.bind (n := 5) (m := 5) (Go.pyHash h0 h1) ?_
  unfold dictSetHashed
  refine Go.holding ?_
  refine Go.bind (n := 1) (m := 4) (Go.dictFind (s := { s with toks := s.toks + 1 }) h hk) ?_
  dsimp only
  refine Go.bind (n := 1) (m := 3) Go.rule ?_
  exact Go.updateDictKeys (s := { s with toks := s.toks + 1 }) h hd hs
theorem Go.dictPut {d : Addr} {es : List DictEntry} {n : Nat} {k : Int} {t : Tok} {v : Value} (h : s.heap.get? d = some (dObj es n)) (hd : 11 ≤ d) (hs : es.length ≤ 1000) (hk : ∀ e ∈ es, e.hash ≠ k) :
    Go w 4 (dictPut d k (.int k t) v) p s () p { s with heap := s.heap.update d fun _ => dObj (es ++ [⟨k, .int k t, v⟩]) (n + 1) } := by
  unfold PySem.dictPut
  refine Go.bind (n := 1) (m := 3) (Go.dictFind h hk) ?_
  exact Go.updateDictKeys h hd hs
end
end Mine
end
end
section
set_option Elab.async false
set_option maxRecDepth 100000
noncomputable section
namespace Mine
open PySem PySem.W PyProof.Rows PySem.Calls
theorem upd_upd (h : Heap) (d : Addr) (a b : Obj) : (h.update d fun _ => a).update d (fun _ => b) = h.update d fun _ => b := by
  obtain ⟨objs, life⟩ := h
  show Heap.mk _ _ = Heap.mk _ _
  congr 1
  apply Array.ext_getElem?
  intro i
  rw [Array.getElem?_modify, Array.getElem?_modify, Array.getElem?_modify]
  by_cases hi : d = i
  · simp only [hi, if_true, Option.map_map]; rfl
  · simp [hi]
theorem upd_push (h : Heap) (a b : Obj) : (h.push a).update h.objs.size (fun _ => b) = h.push b := by
  obtain ⟨objs, life⟩ := h
  show Heap.mk _ _ = Heap.mk _ _
  congr 1
  apply Array.ext_getElem?
  intro i
  rw [Array.getElem?_modify, Array.getElem?_push, Array.getElem?_push]
  by_cases hi : objs.size = i
  · subst hi; simp
  · have : ¬ i = objs.size := fun e => hi e.symm
    simp [hi, this]
noncomputable def good (l : List (Int × Str)) : Prop := l.Pairwise (fun a b => a.1 < b.1) ∧ ∀ x ∈ l, 0 ≤ x.1 ∧ x.1 < 2 ^ 60
theorem ents_hash {d : Nat} {l : List (Int × Str)} {t : Nat} {e : DictEntry} (h : e ∈ ents d t l) : ∃ x ∈ l, e.hash = x.1 := by
  induction l generalizing t with
  | nil => exact absurd h (List.not_mem_nil (a := e))
  | cons x r ih =>
    obtain ⟨k, s⟩ := x
    rcases List.mem_cons.mp h with h | h
    · exact ⟨(k, s), .head _, by rw [h]⟩
    · obtain ⟨x, hx, e⟩ := ih h
      exact ⟨x, .tail _ hx, e⟩
theorem ents_len (d : Nat) : ∀ (l : List (Int × Str)) (t : Nat), (ents d t l).length = l.length
  | [], _ => rfl
  | (_, _) :: r, t => by show (_ :: ents d (t + d) r).length = _; rw [List.length_cons, ents_len d r, List.length_cons]
section
variable {w : World} {p : Pos} {s : Shared}
/-- a display's pair: a key and a text, the place set behind it -/
noncomputable def kS (k : Int) : Sem Value := mkInt k
noncomputable def vS (pos : Pos) (x : Str) : Sem Value := do let v ← mkText x; standAt pos; pure v
noncomputable def pairS (pos : Pos) (x : Int × Str) : Sem Value × Sem Value := (kS x.1, vS pos x.2)
theorem Go.kS {k : Int} : Go w 1 (kS k) p s (.int k s.toks) p { s with toks := s.toks + 1 } := Go.bind (n := 1) (m := 0) Go.fresh Go.pure
theorem Go.vS {pos : Pos} {x : Str} : Go w 2 (vS pos x) p s (.str x s.toks) pos { s with toks := s.toks + 1 } := by
  unfold Mine.vS
  refine Go.bind (n := 1) (m := 1) (a := .str x s.toks) (s' := { s with toks := s.toks + 1 }) (Go.bind (n := 1) (m := 0) Go.fresh Go.pure) ?_
  exact Go.bind (n := 1) (m := 0) Go.standAt Go.pure
noncomputable abbrev ent1 (k : Int) (t : Tok) (x : Str) : DictEntry := ⟨k, .int k t, .str x (t + 1)⟩
noncomputable def turnL (d : Addr) : Sem Value × Sem Value → PUnit.{1} → Sem (ForInStep PUnit.{1}) := fun x _ => match x with
  | (k, v) => do
    let kv ← k
    let vv ← holding [kv] v
    holding [kv, vv] (dictSet d kv vv)
    pure (ForInStep.yield PUnit.unit.{1})
set_option maxHeartbeats 2000000 in
theorem turnsL {d : Addr} {pos : Pos} (hd : 11 ≤ d) : ∀ (l : List (Int × Str)) (s : Shared) (p : Pos) (es : List DictEntry) (n : Nat), s.heap.get? d = some (dObj es n) → good l → (∀ e ∈ es, ∀ x ∈ l, e.hash < x.1) → es.length + l.length ≤ 1000 →
    Go w (13 * l.length) (forIn (l.map (pairS pos)) PUnit.unit.{1} (turnL d)) p s PUnit.unit.{1} (if l = [] then p else pos) { s with heap := s.heap.update d fun _ => dObj (es ++ ents 3 s.toks l) (n + l.length), toks := s.toks + 3 * l.length }
  | [], s, p, es, n, h, _, _, _ => by
    have e : s.heap.update d (fun _ => dObj (es ++ ents 3 s.toks []) (n + 0)) = s.heap := by
      obtain ⟨⟨objs, life⟩, gens, drawn, toks, os⟩ := s
      show Heap.mk _ _ = Heap.mk _ _
      congr 1
      apply Array.ext_getElem?
      intro i
      rw [Array.getElem?_modify]
      by_cases hi : d = i
      · subst hi
        have ho : objs[d]? = some (dObj es n) := by
          have h' : Heap.get? ⟨objs, life⟩ d = some (dObj es n) := h
          unfold Heap.get? at h'
          split at h'
          · cases h'
          · exact h'
        rw [ho]
        simp [ents]
      · simp [hi]
    show Go w 0 (Pure.pure PUnit.unit.{1}) p s PUnit.unit.{1} p _
    rw [List.length_nil, e]
    exact Go.pure
  | (k, x) :: r, s, p, es, n, h, hg, hlt, hlen => by
    obtain ⟨hp, hb⟩ := hg
    have hpk := List.pairwise_cons.mp hp
    have hk := hb (k, x) (.head _)
    rw [List.map_cons, List.forIn_cons]
    have hlen' : es.length + (r.length + 1) ≤ 1000 := by rw [List.length_cons] at hlen; exact hlen
    have one : Go w 13 (turnL d (pairS pos (k, x)) PUnit.unit.{1}) p s (ForInStep.yield PUnit.unit.{1}) pos
        { s with heap := s.heap.update d fun _ => dObj (es ++ [ent1 k s.toks x]) (n + 1), toks := s.toks + 3 } := by
      unfold turnL pairS
      dsimp only
      refine Go.bind (n := 1) (m := 12) Go.kS ?_
      refine Go.bind (n := 2) (m := 10) (Go.holding Go.vS) ?_
      refine Go.bind (n := 10) (m := 0) (Go.holding (Go.dictSet (s := { s with toks := s.toks + 1 + 1 }) h hd (by omega) hk.1 hk.2 fun e he => ?_)) Go.pure
      have := hlt e he (k, x) (.head _)
      simp only at this
      omega
    have hget := get_put (dObj (es ++ [ent1 k s.toks x]) (n + 1)) h rfl
    have hlt' : ∀ e ∈ es ++ [ent1 k s.toks x], ∀ y ∈ r, e.hash < y.1 := fun e he y hy => by
      rcases List.mem_append.mp he with he | he
      · exact hlt e he y (.tail _ hy)
      · rw [List.mem_singleton.mp he]; exact hpk.1 y hy
    have hl' : (es ++ [ent1 k s.toks x]).length + r.length ≤ 1000 := by
      rw [List.length_append, List.length_singleton]; omega
    have rest := turnsL (pos := pos) hd r { s with heap := s.heap.update d fun _ => dObj (es ++ [ent1 k s.toks x]) (n + 1), toks := s.toks + 3 } pos
      (es ++ [ent1 k s.toks x]) (n + 1) hget ⟨hpk.2, fun y hy => hb y (.tail _ hy)⟩ hlt' hl'
    simp only [ite_self] at rest
    rw [upd_upd, List.append_assoc, show n + 1 + r.length = n + ((k, x) :: r).length by rw [List.length_cons]; omega,
      show s.toks + 3 + 3 * r.length = s.toks + 3 * ((k, x) :: r).length by rw [List.length_cons]; omega,
      show [ent1 k s.toks x] ++ ents 3 (s.toks + 3) r = ents 3 s.toks ((k, x) :: r) from rfl] at rest
    rw [show 13 * ((k, x) :: r).length = 13 + 13 * r.length by rw [List.length_cons]; omega, if_neg (by simp)]
    exact Go.bind one rest
end
end Mine
end
end
section
set_option Elab.async false
set_option maxRecDepth 100000
noncomputable section
namespace Mine
open PySem PySem.W PyProof.Rows PySem.Calls
section
variable {w : World} {p : Pos} {s : Shared}
theorem subLong {pos : Pos} {l : List (Int × Str)} (hg : good l) (hl : 15 < l.length) (hl2 : l.length ≤ 1000) (hs : 11 ≤ s.heap.objs.size) :
    Go w (1 + (1 + 13 * l.length)) (subDict (l.map (pairS pos))) p s s.heap.objs.size pos { s with heap := s.heap.push (dObj (ents 3 s.toks l) l.length), toks := s.toks + 3 * l.length } := by
  unfold subDict
  refine Go.bind (n := 1) (m := 1 + 13 * l.length) Go.alloc ?_
  refine Go.bind (n := 1 + 13 * l.length) (m := 0) (a := ()) (Go.holding ?_) Go.pure
  rw [if_neg (by rw [List.length_map]; omega)]
  refine Go.bind (n := 1) (m := 13 * l.length) Go.rule ?_
  refine Go.bind (n := 13 * l.length) (m := 0) (a := PUnit.unit.{1}) ?_ Go.pure
  have hget : (s.heap.push (dObj [] 0)).get? s.heap.objs.size = some (dObj [] 0) := Heap.get?_push_size s.heap rfl
  have := turnsL (w := w) (pos := pos) hs l { s with heap := s.heap.push (dObj [] 0) } p [] 0 hget hg (fun e he => nomatch he) (by rw [List.length_nil]; omega)
  rw [upd_push, if_neg (by intro e; rw [e] at hl; simp at hl), Nat.zero_add, List.nil_append] at this
  exact this

theorem evalP {pos : Pos} : ∀ (l : List (Int × Str)) (s : Shared) (p : Pos), Go w (3 * l.length) (evalPairs (l.map (pairS pos))) p s ((ents 2 s.toks l).map fun e => (e.key, e.val)) (if l = [] then p else pos) { s with toks := s.toks + 2 * l.length }
  | [], s, p => Go.pure
  | (k, x) :: r, s, p => by
    have rest := evalP (pos := pos) r { s with toks := s.toks + 1 + 1 } pos
    simp only [ite_self] at rest
    rw [show 3 * ((k, x) :: r).length = 1 + (2 + (3 * r.length + 0)) by rw [List.length_cons]; omega, if_neg (by simp),
      show s.toks + 2 * ((k, x) :: r).length = s.toks + 1 + 1 + 2 * r.length by rw [List.length_cons]; omega]
    refine Go.bind (n := 1) Go.kS ?_
    refine Go.bind (n := 2) (Go.holding Go.vS) ?_
    exact Go.bind (Go.holding rest) Go.pure
noncomputable def turnV (d : Addr) : Value × Value → PUnit.{1} → Sem (ForInStep PUnit.{1}) := fun x _ => match x with
  | (k, v) => do
    dictSet d k v
    pure (ForInStep.yield PUnit.unit.{1})
theorem turnsV {d : Addr} {c : Nat} (hd : 11 ≤ d) : ∀ (l : List (Int × Str)) (s : Shared) (t : Nat) (es : List DictEntry) (n : Nat), s.heap.get? d = some (dObj es n) → good l → (∀ e ∈ es, ∀ x ∈ l, e.hash < x.1) → es.length + l.length ≤ 1000 →
    Go w (10 * l.length) (forIn ((ents c t l).map fun e => (e.key, e.val)) PUnit.unit.{1} (turnV d)) p s PUnit.unit.{1} p { s with heap := s.heap.update d fun _ => dObj (es ++ ents c t l) (n + l.length), toks := s.toks + l.length }
  | [], s, t, es, n, h, _, _, _ => by
    have e : s.heap.update d (fun _ => dObj (es ++ ents c t []) (n + 0)) = s.heap := by
      obtain ⟨⟨objs, life⟩, gens, drawn, toks, os⟩ := s
      show Heap.mk _ _ = Heap.mk _ _
      congr 1
      apply Array.ext_getElem?
      intro i
      rw [Array.getElem?_modify]
      by_cases hi : d = i
      · subst hi
        have ho : objs[d]? = some (dObj es n) := by
          have h' : Heap.get? ⟨objs, life⟩ d = some (dObj es n) := h
          unfold Heap.get? at h'
          split at h'
          · cases h'
          · exact h'
        rw [ho]
        simp [ents]
      · simp [hi]
    show Go w 0 (Pure.pure PUnit.unit.{1}) p s PUnit.unit.{1} p _
    rw [List.length_nil, e]
    exact Go.pure
  | (k, x) :: r, s, t, es, n, h, hg, hlt, hlen => by
    obtain ⟨hp, hb⟩ := hg
    have hpk := List.pairwise_cons.mp hp
    have hk := hb (k, x) (.head _)
    have hlen' : es.length + (r.length + 1) ≤ 1000 := by rw [List.length_cons] at hlen; exact hlen
    have hne : ∀ e ∈ es, e.hash ≠ k := fun e he => by
      have := hlt e he (k, x) (.head _)
      simp only at this
      omega
    have one : Go w 10 (turnV d (.int k t, .str x (t + 1)) PUnit.unit.{1}) p s (ForInStep.yield PUnit.unit.{1}) p
        { s with heap := s.heap.update d fun _ => dObj (es ++ [ent1 k t x]) (n + 1), toks := s.toks + 1 } :=
      Go.bind (n := 10) (m := 0) (Go.dictSet h hd (by omega) hk.1 hk.2 hne) Go.pure
    have hget := get_put (dObj (es ++ [ent1 k t x]) (n + 1)) h rfl
    have hlt' : ∀ e ∈ es ++ [ent1 k t x], ∀ y ∈ r, e.hash < y.1 := fun e he y hy => by
      rcases List.mem_append.mp he with he | he
      · exact hlt e he y (.tail _ hy)
      · rw [List.mem_singleton.mp he]; exact hpk.1 y hy
    have hl' : (es ++ [ent1 k t x]).length + r.length ≤ 1000 := by
      rw [List.length_append, List.length_singleton]; omega
    have rest := turnsV (c := c) hd r { s with heap := s.heap.update d fun _ => dObj (es ++ [ent1 k t x]) (n + 1), toks := s.toks + 1 } (t + c)
      (es ++ [ent1 k t x]) (n + 1) hget ⟨hpk.2, fun y hy => hb y (.tail _ hy)⟩ hlt' hl'
    rw [upd_upd, List.append_assoc, show n + 1 + r.length = n + ((k, x) :: r).length by rw [List.length_cons]; omega,
      show s.toks + 1 + r.length = s.toks + ((k, x) :: r).length by rw [List.length_cons]; omega,
      show [ent1 k t x] ++ ents c (t + c) r = ents c t ((k, x) :: r) from rfl] at rest
    rw [show 10 * ((k, x) :: r).length = 10 + 10 * r.length by rw [List.length_cons]; omega, show ents c t ((k, x) :: r) = ent1 k t x :: ents c (t + c) r from rfl, List.map_cons, List.forIn_cons]
    exact Go.bind one rest
theorem subShort {pos : Pos} {l : List (Int × Str)} (hg : good l) (hl : l.length ≤ 15) (h0 : l ≠ []) (hs : 11 ≤ s.heap.objs.size) :
    Go w (1 + (3 * l.length + 10 * l.length)) (subDict (l.map (pairS pos))) p s s.heap.objs.size pos { s with heap := s.heap.push (dObj (ents 2 s.toks l) l.length), toks := s.toks + 2 * l.length + l.length } := by
  unfold subDict
  refine Go.bind (n := 1) Go.alloc ?_
  refine Go.bind (n := 3 * l.length + 10 * l.length) (m := 0) (a := ()) (Go.holding ?_) Go.pure
  rw [if_pos (by rw [List.length_map]; omega)]
  have ev := evalP (w := w) (pos := pos) l { s with heap := s.heap.push (dObj [] 0) } p
  rw [if_neg h0] at ev
  refine Go.bind ev (Go.holding ?_)
  refine Go.bind (n := 10 * l.length) (m := 0) (a := PUnit.unit.{1}) ?_ Go.pure
  have hget : (s.heap.push (dObj [] 0)).get? s.heap.objs.size = some (dObj [] 0) := Heap.get?_push_size s.heap rfl
  have := turnsV (w := w) (p := pos) (c := 2) hs l { s with heap := s.heap.push (dObj [] 0), toks := s.toks + 2 * l.length } s.toks [] 0 hget hg (fun e he => nomatch he) (by rw [List.length_nil]; omega)
  rw [upd_push, Nat.zero_add, List.nil_append] at this
  exact this
end
end Mine
end
end
section
set_option Elab.async false
set_option maxRecDepth 100000
noncomputable section
namespace Mine
open PySem PySem.W PyProof.Rows PySem.Calls
theorem sub_dict : isSubtype (.type "dict") (.type "dict") = Pure.pure true := by rw [isSubtype_type]; kernel_rfl
theorem iter_dict : typeLookup (.type "dict") (Str.ofString "__iter__") = Pure.pure (some (.builtin "dict.__iter__")) := by rw [typeLookup_type, builtinLookup_eq_fast]; kernel_rfl
section
variable {w : World} {p : Pos} {s : Shared}
theorem Go.typeOf {a : Addr} {o : Obj} (h : s.heap.get? a = some o) : Go w 1 (typeOf (.ref a)) p s o.cls p s := Go.bind (n := 1) (m := 0) (Go.loadPart h) Go.pure
theorem Go.isDict {a : Addr} {es : List DictEntry} {n : Nat} (h : s.heap.get? a = some (dObj es n)) : Go w 1 (isInstance (.ref a) (.type "dict")) p s true p s := by
  unfold isInstance
  refine Go.bind (n := 1) (m := 0) (Go.typeOf h) ?_
  show Go w 0 (isSubtype (.type "dict") (.type "dict")) p s true p s
  rw [sub_dict]
  exact Go.pure
theorem Go.iterDict {a : Addr} {es : List DictEntry} {n : Nat} (h : s.heap.get? a = some (dObj es n)) : Go w 1 (specialOf (.ref a) (Str.ofString "__iter__")) p s (some (.builtin "dict.__iter__")) p s := by
  unfold specialOf
  refine Go.bind (n := 1) (m := 0) (Go.typeOf h) ?_
  show Go w 0 (typeLookup (.type "dict") (Str.ofString "__iter__")) p s _ p s
  rw [iter_dict]
  exact Go.pure
/-- the entries of a table of ints are of this make -/
noncomputable def IntEnts (es : List DictEntry) : Prop := ∀ e ∈ es, ∃ t, e.key = .int e.hash t
theorem ents_int {d : Nat} {l : List (Int × Str)} {t : Nat} : IntEnts (ents d t l) := by
  induction l generalizing t with
  | nil => exact fun e h => absurd h (List.not_mem_nil (a := e))
  | cons x r ih =>
    obtain ⟨k, x⟩ := x
    intro e h
    rcases List.mem_cons.mp h with h | h
    · exact ⟨t, by rw [h]⟩
    · exact ih _ h
noncomputable def turnM (d a : Addr) (epoch : Nat) : Nat → PUnit.{1} → Sem (ForInStep PUnit.{1}) := fun i _ => do
  let es ← dictEntries a
  match es[i]? with
  | some e => do
    holding [e.key, e.val] (dictPut d e.hash e.key e.val)
    let n ← dictEpoch a
    if (n != epoch) = true then do
      unsupported "dict.changed-during-merge"
      pure (ForInStep.yield PUnit.unit.{1})
    else pure (ForInStep.yield PUnit.unit.{1})
  | _ => do
    unsupported "dict.changed-during-merge"
    pure (ForInStep.yield PUnit.unit.{1})
theorem turnsM {d a : Addr} {esa : List DictEntry} {na : Nat} (hd : 11 ≤ d) (hda : a ≠ d) : ∀ (k i : Nat) (s : Shared) (es : List DictEntry) (n : Nat), k + i = esa.length → s.heap.get? a = some (dObj esa na) → s.heap.get? d = some (dObj es n) →
    (esa.drop i).Pairwise (fun x y => x.hash < y.hash) → IntEnts esa → (∀ e ∈ es, ∀ x ∈ esa.drop i, e.hash < x.hash) → es.length + k ≤ 1000 →
    Go w (6 * k) (forIn (List.range' i k) PUnit.unit.{1} (turnM d a na)) p s PUnit.unit.{1} p { s with heap := s.heap.update d fun _ => dObj (es ++ esa.drop i) (n + k) }
  | 0, i, s, es, n, hi, ha, h, _, _, _, _ => by
    have e : s.heap.update d (fun _ => dObj (es ++ esa.drop i) (n + 0)) = s.heap := by
      rw [List.drop_eq_nil_of_le (by omega), List.append_nil]
      obtain ⟨⟨objs, life⟩, gens, drawn, toks, os⟩ := s
      show Heap.mk _ _ = Heap.mk _ _
      congr 1
      apply Array.ext_getElem?
      intro i
      rw [Array.getElem?_modify]
      by_cases hi : d = i
      · subst hi
        have ho : objs[d]? = some (dObj es n) := by
          have h' : Heap.get? ⟨objs, life⟩ d = some (dObj es n) := h
          unfold Heap.get? at h'
          split at h'
          · cases h'
          · exact h'
        rw [ho]
        simp
      · simp [hi]
    show Go w 0 (Pure.pure PUnit.unit.{1}) p s PUnit.unit.{1} p _
    rw [e]
    exact Go.pure
  | k + 1, i, s, es, n, hi, ha, h, hp, hI, hlt, hlen => by
    have hil : i < esa.length := by omega
    have hdrop : esa.drop i = esa[i] :: esa.drop (i + 1) := List.drop_eq_getElem_cons hil
    rw [hdrop] at hp hlt
    have hpk := List.pairwise_cons.mp hp
    obtain ⟨t, hkey⟩ := hI esa[i] (List.getElem_mem hil)
    generalize he : esa[i] = e at *
    have hne : ∀ x ∈ es, x.hash ≠ e.hash := fun x hx => by have := hlt x hx e (.head _); omega
    have hget := get_put (dObj (es ++ [e]) (n + 1)) h rfl
    have ha' : (s.heap.update d fun _ => dObj (es ++ [e]) (n + 1)).get? a = some (dObj esa na) := (Heap.get?_update_ne _ _ _ _ hda).trans ha
    have put : Go w 4 (dictPut d e.hash e.key e.val) p s () p { s with heap := s.heap.update d fun _ => dObj (es ++ [e]) (n + 1) } := by
      obtain ⟨eh, ek, ev⟩ := e
      dsimp only at hkey hne ⊢
      subst hkey
      exact Go.dictPut h hd (by omega) hne
    have one : Go w 6 (turnM d a na i PUnit.unit.{1}) p s (ForInStep.yield PUnit.unit.{1}) p { s with heap := s.heap.update d fun _ => dObj (es ++ [e]) (n + 1) } := by
      unfold turnM
      refine Go.bind (n := 1) (m := 5) (Go.dictEntries ha) ?_
      rw [List.getElem?_toArray, List.getElem?_eq_getElem hil, he]
      dsimp only
      refine Go.bind (n := 4) (m := 1) (Go.holding put) ?_
      refine Go.bind (n := 1) (m := 0) (Go.dictEpoch ha') ?_
      rw [if_neg (by simp)]
      exact Go.pure
    have hlt' : ∀ x ∈ es ++ [e], ∀ y ∈ esa.drop (i + 1), x.hash < y.hash := fun x hx y hy => by
      rcases List.mem_append.mp hx with hx | hx
      · exact hlt x hx y (.tail _ hy)
      · rw [List.mem_singleton.mp hx]; exact hpk.1 y hy
    have rest := turnsM hd hda k (i + 1) { s with heap := s.heap.update d fun _ => dObj (es ++ [e]) (n + 1) } (es ++ [e]) (n + 1) (by omega) ha' hget hpk.2 hI hlt' (by rw [List.length_append, List.length_singleton]; omega)
    rw [upd_upd, List.append_assoc, List.singleton_append, ← hdrop, show n + 1 + k = n + (k + 1) by omega] at rest
    rw [List.range'_succ, List.forIn_cons, show 6 * (k + 1) = 6 + 6 * k by omega]
    exact Go.bind one rest
theorem Go.merge {d a : Addr} {es esa : List DictEntry} {n na : Nat} (hd : 11 ≤ d) (hda : a ≠ d) (hs : a ≠ sysModules) (ha : s.heap.get? a = some (dObj esa na)) (h : s.heap.get? d = some (dObj es n)) (h0 : es ≠ [])
    (hp : esa.Pairwise (fun x y => x.hash < y.hash)) (hI : IntEnts esa) (hlt : ∀ e ∈ es, ∀ x ∈ esa, e.hash < x.hash) (hlen : es.length + esa.length ≤ 1000) :
    Go w (5 + 6 * esa.length) (mergeMapping d (.ref a) false) p s () p { s with heap := s.heap.update d fun _ => dObj (es ++ esa) (n + esa.length) } := by
  unfold mergeMapping
  rw [show 5 + 6 * esa.length = 1 + (1 + (0 + (1 + (1 + (1 + (6 * esa.length + 0)))))) by omega]
  refine Go.bind (n := 1) (Go.isDict ha) ?_
  dsimp only
  rw [if_pos rfl]
  refine Go.bind (n := 1) (Go.iterDict ha) ?_
  refine Go.bind (n := 0) Go.pure ?_
  rw [show (some (Value.builtin "dict.__iter__") == some (Value.builtin "dict.__iter__")) = true from by decide]
  dsimp only
  rw [if_neg (by simpa using hs)]
  refine Go.bind (n := 1) (Go.dictEntries h) ?_
  rw [if_neg (by cases es with | nil => exact absurd rfl h0 | cons => simp)]
  refine Go.bind (n := 1) (Go.dictEntries ha) ?_
  refine Go.bind (n := 1) (Go.dictEpoch ha) ?_
  refine Go.bind (n := 6 * esa.length) (m := 0) (a := PUnit.unit.{1}) ?_ Go.pure
  have := turnsM (w := w) (p := p) hd hda esa.length 0 s es n (by omega) ha h (by rw [List.drop_zero]; exact hp) hI (by rw [List.drop_zero]; exact hlt) hlen
  rw [List.drop_zero, ← List.range_eq_range'] at this
  rw [List.size_toArray]
  exact this
end
end Mine
end
end
section
set_option Elab.async false
set_option maxRecDepth 100000
noncomputable section
namespace Mine
open PySem PySem.W PyProof.Rows PySem.Calls
noncomputable abbrev DSt := Option Addr × List (Sem Value × Sem Value)
noncomputable abbrev DItem := Option (Sem Value) × Sem Value
section
variable {w : World} {p p' p'' : Pos} {s s' s'' : Shared} {n k : Nat}
variable {f : DItem → DSt → Sem (ForInStep DSt)} {flush : List (Sem Value × Sem Value) → Option Addr → Sem (Option Addr)}
noncomputable def TurnIs (f : DItem → DSt → Sem (ForInStep DSt)) (flush : List (Sem Value × Sem Value) → Option Addr → Sem (Option Addr)) : Prop :=
  ∀ (a v : Sem Value) (m : Option Addr) (run : List (Sem Value × Sem Value)), f (some a, v) (m, run) = if ((run ++ [(a, v)]).length == 17) = true then (flush (run ++ [(a, v)]) m >>= fun m' => pure (.yield (m', []))) else pure (.yield (m, run ++ [(a, v)]))
noncomputable def itemOf1 (y : Sem Value × Sem Value) : DItem := (some y.1, y.2)
theorem Go.chunk (hf : TurnIs f flush) {m m' : Option Addr} {r : DSt} {rest : List DItem} (h2 : Go w k (forIn rest ((m', []) : DSt) f) p' s' r p'' s'') :
    ∀ (c run : List (Sem Value × Sem Value)), c ≠ [] → run.length + c.length = 17 → Go w n (flush (run ++ c) m) p s m' p' s' → Go w (n + k) (forIn (c.map itemOf1 ++ rest) ((m, run) : DSt) f) p s r p'' s''
  | [], _, h0, _, _ => absurd rfl h0
  | [y], run, _, hl, h1 => by
    rw [List.map_cons, List.map_nil, List.singleton_append, List.forIn_cons]
    show Go w (n + k) (f (some y.1, y.2) (m, run) >>= _) p s r p'' s''
    rw [hf, if_pos (by rw [List.length_append]; simp at hl ⊢; omega)]
    exact Go.bind (n := n + 0) (Go.bind h1 Go.pure) h2
  | y :: z :: c, run, _, hl, h1 => by
    rw [List.map_cons, List.cons_append, List.forIn_cons]
    show Go w (n + k) (f (some y.1, y.2) (m, run) >>= _) p s r p'' s''
    rw [hf, if_neg (by rw [List.length_append]; simp at hl ⊢; omega), show n + k = 0 + (n + k) by omega]
    refine Go.bind (n := 0) Go.pure ?_
    exact Go.chunk hf h2 (z :: c) (run ++ [(y.1, y.2)]) (by simp) (by rw [List.length_append]; simp at hl ⊢; omega) (by rw [List.append_assoc]; exact h1)
theorem Go.left (hf : TurnIs f flush) {m : Option Addr} : ∀ (c run : List (Sem Value × Sem Value)), run.length + c.length < 17 → Go w 0 (forIn (c.map itemOf1) ((m, run) : DSt) f) p s (m, run ++ c) p s
  | [], run, _ => by rw [List.append_nil]; exact Go.pure
  | y :: c, run, hl => by
    rw [List.map_cons, List.forIn_cons]
    show Go w 0 (f (some y.1, y.2) (m, run) >>= _) p s _ p s
    rw [hf, if_neg (by rw [List.length_append]; simp at hl ⊢; omega)]
    refine Go.bind (n := 0) (m := 0) Go.pure ?_
    have := Go.left hf (m := m) c (run ++ [(y.1, y.2)]) (by rw [List.length_append]; simp at hl ⊢; omega)
    rw [List.append_assoc] at this
    exact this
end
theorem ents_app (d : Nat) : ∀ (a b : List (Int × Str)) (t : Nat), ents d t (a ++ b) = ents d t a ++ ents d (t + d * a.length) b
  | [], b, t => by rw [List.length_nil, Nat.mul_zero, Nat.add_zero]; rfl
  | (k, x) :: a, b, t => by
    show ent1 k t x :: ents d (t + d) (a ++ b) = ent1 k t x :: (ents d (t + d) a ++ _)
    rw [ents_app d a b (t + d), List.length_cons, show t + d + d * a.length = t + d * (a.length + 1) by rw [Nat.mul_add]; omega]
theorem ents_pw {d : Nat} : ∀ {l : List (Int × Str)} {t : Nat}, l.Pairwise (fun a b => a.1 < b.1) → (ents d t l).Pairwise fun x y => x.hash < y.hash
  | [], _, _ => .nil
  | (k, x) :: r, t, h => by
    have h' := List.pairwise_cons.mp h
    refine List.pairwise_cons.mpr ⟨fun e he => ?_, ents_pw h'.2⟩
    obtain ⟨y, hy, e'⟩ := ents_hash he
    show k < e.hash
    rw [e']
    exact h'.1 y hy
theorem ents_lt {d d' : Nat} {a b : List (Int × Str)} {t t' : Nat} (h : (a ++ b).Pairwise (fun a b => a.1 < b.1)) : ∀ e ∈ ents d t a, ∀ x ∈ ents d' t' b, e.hash < x.hash := fun e he x hx => by
  obtain ⟨y, hy, e1⟩ := ents_hash he
  obtain ⟨z, hz, e2⟩ := ents_hash hx
  rw [e1, e2]
  exact (List.pairwise_append.mp h).2.2 y hy z hz
/-- the heap with these objects behind it -/
noncomputable def hApp (h : Heap) (l : List Obj) : Heap := ⟨h.objs ++ l.toArray, h.life⟩
theorem hApp_push (h : Heap) (l : List Obj) (o : Obj) : (hApp h l).push o = hApp h (l ++ [o]) := by
  show Heap.mk _ _ = Heap.mk _ _
  congr 1
  show (h.objs ++ l.toArray).push o = h.objs ++ (l ++ [o]).toArray
  apply Array.ext'
  simp
theorem hApp_put (h : Heap) (m m' : Obj) (l : List Obj) : (hApp h (m :: l)).update h.objs.size (fun _ => m') = hApp h (m' :: l) := by
  show Heap.mk _ _ = Heap.mk _ _
  congr 1
  apply Array.ext_getElem?
  intro i
  rw [Array.getElem?_modify, Array.getElem?_append, Array.getElem?_append]
  by_cases hi : h.objs.size = i
  · subst hi; simp
  · by_cases hl : i < h.objs.size
    · simp [hi, hl]
    · have : ∃ j, i - h.objs.size = j + 1 := ⟨i - h.objs.size - 1, by omega⟩
      obtain ⟨j, hj⟩ := this
      simp [hi, hl, hj]
theorem hApp_nil (h : Heap) : hApp h [] = h := by
  show Heap.mk _ _ = h
  simp
theorem hApp_size (h : Heap) (l : List Obj) : (hApp h l).objs.size = h.objs.size + l.length := by
  show (h.objs ++ l.toArray).size = _
  simp
theorem hApp_get (h : Heap) (l : List Obj) (i : Nat) (o : Obj) (e : l[i]? = some o) (ho : o.isFreed = false) : (hApp h l).get? (h.objs.size + i) = some o := by
  have : (hApp h l).objs[h.objs.size + i]? = some o := by
    show (h.objs ++ l.toArray)[h.objs.size + i]? = some o
    rw [Array.getElem?_append_right (by omega)]
    simpa using e
  unfold Heap.get?
  rw [this]
  obtain ⟨c, d, dt, sl⟩ := o
  cases dt <;> first | rfl | cases ho
end Mine
end
end
section
set_option Elab.async false
set_option maxRecDepth 100000
noncomputable section
namespace Mine
open PySem PySem.W PyProof.Rows PySem.Calls
section
variable {w : World} {p : Pos} {s : Shared}
/-- a chunk's table; the main table after i chunks; what the display has laid after i chunks -/
noncomputable def subO (ps : List (Int × Str)) (t : Nat) (i : Nat) : Obj := dObj (ents 3 (t + 51 * i) ((ps.drop (17 * i)).take 17)) 17
noncomputable def mainO (ps : List (Int × Str)) (t : Nat) (i : Nat) : Obj := dObj (ents 3 t (ps.take (17 * i))) (17 * i)
noncomputable def laidO (ps : List (Int × Str)) (t : Nat) (i : Nat) : List Obj := mainO ps t i :: (List.range' 1 (i - 1)).map (subO ps t)
structure FlushIs (flush : List (Sem Value × Sem Value) → Option Addr → Sem (Option Addr)) : Prop where
  new : ∀ run, run.isEmpty = false → flush run none = (subDict run >>= fun d => pure (some d))
  more : ∀ run d, run.isEmpty = false → ∃ h : Value → Sem Unit, flush run (some d) = (holding [.ref d] (subDict run) >>= fun sub => (holding [.ref d, .ref sub] (mergeMapping d (.ref sub) false)).onRaise h >>= fun _ => pure (some d))
theorem take17 {ps : List (Int × Str)} {i : Nat} : ps.take (17 * (i + 1)) = ps.take (17 * i) ++ (ps.drop (17 * i)).take 17 := by
  rw [Nat.mul_add, Nat.mul_one, List.take_add]
theorem good_part {ps : List (Int × Str)} (hg : good ps) (i j : Nat) : good ((ps.drop i).take j) :=
  ⟨(hg.1.drop (i := i)).take (i := j), fun x hx => hg.2 x (List.mem_of_mem_drop (List.mem_of_mem_take hx))⟩
theorem pw_part {ps : List (Int × Str)} (hg : good ps) (i j : Nat) : (ps.take i ++ (ps.drop i).take j).Pairwise (fun a b => a.1 < b.1) := by
  rw [← List.take_add]
  exact hg.1.take
theorem chunk_go {flush : List (Sem Value × Sem Value) → Option Addr → Sem (Option Addr)} (hF : FlushIs flush) {ps : List (Int × Str)} {pos : Pos} {h : Heap} {t i : Nat} (hg : good ps) (hi : 17 * (i + 1) ≤ ps.length) (hl : ps.length ≤ 900) (h0 : 0 < i) (hh : 11 ≤ h.objs.size)
    (hs : s.heap = hApp h (laidO ps t i)) (ht : s.toks = t + 51 * i) :
    Go w (330) (flush (((ps.drop (17 * i)).take 17).map (pairS pos)) (some h.objs.size)) p s (some h.objs.size) pos { s with heap := hApp h (laidO ps t (i + 1)), toks := t + 51 * (i + 1) } := by
  have hc : ((ps.drop (17 * i)).take 17).length = 17 := by rw [List.length_take, List.length_drop]; omega
  obtain ⟨hx, e⟩ := hF.more (((ps.drop (17 * i)).take 17).map (pairS pos)) h.objs.size (by
    cases q : ((ps.drop (17 * i)).take 17) with
    | nil => rw [q] at hc; cases hc
    | cons => rfl)
  rw [e]
  have hsz : s.heap.objs.size = h.objs.size + i := by
    rw [hs, hApp_size]
    show h.objs.size + ((List.range' 1 (i - 1)).map (subO ps t)).length.succ = _
    rw [List.length_map, List.length_range']; omega
  have sub := subLong (w := w) (p := p) (s := s) (pos := pos) (good_part hg (17 * i) 17) (by omega) (by omega) (by omega)
  rw [hc] at sub
  have hpush : s.heap.push (dObj (ents 3 s.toks ((ps.drop (17 * i)).take 17)) 17) = hApp h (mainO ps t i :: (List.range' 1 i).map (subO ps t)) := by
    rw [hs, hApp_push, ht]
    congr 1
    show mainO ps t i :: ((List.range' 1 (i - 1)).map (subO ps t) ++ [subO ps t i]) = _
    congr 1
    obtain ⟨j, rfl⟩ : ∃ j, i = j + 1 := ⟨i - 1, by omega⟩
    rw [Nat.add_sub_cancel, List.range'_concat, List.map_append, Nat.one_mul, Nat.add_comm 1 j]; rfl
  rw [hpush, hsz] at sub
  have getd : (hApp h (mainO ps t i :: (List.range' 1 i).map (subO ps t))).get? h.objs.size = some (mainO ps t i) := hApp_get h _ 0 _ rfl rfl
  have geta : (hApp h (mainO ps t i :: (List.range' 1 i).map (subO ps t))).get? (h.objs.size + i) = some (subO ps t i) := by
    refine hApp_get h _ i _ ?_ rfl
    obtain ⟨j, rfl⟩ : ∃ j, i = j + 1 := ⟨i - 1, by omega⟩
    rw [List.getElem?_cons_succ, List.getElem?_map, List.getElem?_range' (by omega), Option.map_some]
    rw [show 1 + 1 * j = j + 1 by omega]
  have hlen : (ents 3 t (ps.take (17 * i))).length = 17 * i := by rw [ents_len, List.length_take]; omega
  have hlen2 : (ents 3 (t + 51 * i) ((ps.drop (17 * i)).take 17)).length = 17 := by rw [ents_len, hc]
  have hne : h.objs.size + i ≠ h.objs.size := by omega
  have hsy : h.objs.size + i ≠ sysModules := by have e : (sysModules : Nat) = 1 := rfl; rw [e]; omega
  have mrg := Go.merge (d := h.objs.size) (a := h.objs.size + i) (w := w) (p := pos) (s := { s with heap := hApp h (mainO ps t i :: (List.range' 1 i).map (subO ps t)), toks := s.toks + 3 * 17 }) hh hne hsy geta getd
    (by intro e; rw [e] at hlen; simp at hlen; omega) (ents_pw (good_part hg (17 * i) 17).1) ents_int (ents_lt (pw_part hg (17 * i) 17)) (by rw [hlen, hlen2]; omega)
  rw [hlen2] at mrg
  have hfin : (hApp h (mainO ps t i :: (List.range' 1 i).map (subO ps t))).update h.objs.size (fun _ => dObj (ents 3 t (ps.take (17 * i)) ++ ents 3 (t + 51 * i) ((ps.drop (17 * i)).take 17)) (17 * i + 17)) = hApp h (laidO ps t (i + 1)) := by
    rw [hApp_put]
    unfold laidO mainO
    rw [take17, ents_app, List.length_take, Nat.min_eq_left (by omega), show 3 * (17 * i) = 51 * i by omega, Nat.add_sub_cancel, Nat.mul_add]
  rw [hfin, show s.toks + 3 * 17 = t + 51 * (i + 1) by rw [ht]; omega] at mrg
  rw [show s.toks + 3 * 17 = t + 51 * (i + 1) by rw [ht]; omega] at sub
  refine Go.bind (n := 223) (m := 107) (Go.holding sub) ?_
  exact Go.bind (n := 107) (m := 0) (Go.onRaise (Go.holding mrg)) Go.pure
end
end Mine
end
end
section
set_option Elab.async false
set_option maxRecDepth 100000
noncomputable section
namespace Mine
open PySem PySem.W PyProof.Rows PySem.Calls
noncomputable def risesFrom (a : Int) : List (Int × Str) → Bool
  | [] => true
  | x :: r => decide (a < x.1) && risesFrom x.1 r
theorem rises_all : ∀ {l : List (Int × Str)} {a : Int}, risesFrom a l = true → (∀ x ∈ l, a < x.1) ∧ l.Pairwise fun a b => a.1 < b.1
  | [], _, _ => ⟨fun _ h => (nomatch h), .nil⟩
  | x :: r, a, h => by
    unfold risesFrom at h
    obtain ⟨h1, h2⟩ := Bool.and_eq_true_iff.mp h
    have h1 := of_decide_eq_true h1
    obtain ⟨i1, i2⟩ := rises_all h2
    refine ⟨fun y hy => ?_, List.pairwise_cons.mpr ⟨i1, i2⟩⟩
    rcases List.mem_cons.mp hy with rfl | hy
    · exact h1
    · exact Int.lt_trans h1 (i1 y hy)
theorem good_of {l : List (Int × Str)} (h : (risesFrom (-1) l && l.all fun x => decide (x.1 < 2 ^ 60)) = true) : good l := by
  obtain ⟨h1, h2⟩ := Bool.and_eq_true_iff.mp h
  obtain ⟨i1, i2⟩ := rises_all h1
  exact ⟨i2, fun x hx => ⟨by have := i1 x hx; omega, of_decide_eq_true (List.all_eq_true.mp h2 x hx)⟩⟩
section
variable {w : World} {p : Pos} {s : Shared}
variable {f : DItem → DSt → Sem (ForInStep DSt)} {flush : List (Sem Value × Sem Value) → Option Addr → Sem (Option Addr)}
noncomputable abbrev itemS (pos : Pos) (x : Int × Str) : DItem := itemOf1 (pairS pos x)
theorem items_split (ps : List (Int × Str)) (pos : Pos) (i : Nat) : (ps.drop (17 * i)).map (itemS pos) = (((ps.drop (17 * i)).take 17).map (pairS pos)).map itemOf1 ++ (ps.drop (17 * (i + 1))).map (itemS pos) := by
  rw [List.map_map]
  show _ = List.map (itemS pos) ((ps.drop (17 * i)).take 17) ++ _
  rw [← List.map_append, Nat.mul_add, Nat.mul_one, ← List.drop_drop, List.take_append_drop]
theorem loop_go (hT : TurnIs f flush) (hF : FlushIs flush) {ps : List (Int × Str)} {pos : Pos} {h : Heap} {t e : Nat} (hg : good ps) (he : 17 * e ≤ ps.length) (he2 : ps.length < 17 * e + 17) (hl : ps.length ≤ 900) (hh : 11 ≤ h.objs.size) :
    ∀ (r i : Nat) (s : Shared), r + i = e → 0 < i → s.heap = hApp h (laidO ps t i) → s.toks = t + 51 * i →
      Go w (330 * r) (forIn ((ps.drop (17 * i)).map (itemS pos)) ((some h.objs.size, []) : DSt) f) pos s (some h.objs.size, (ps.drop (17 * e)).map (pairS pos)) pos { s with heap := hApp h (laidO ps t e), toks := t + 51 * e }
  | 0, i, s, hi, h0, hs, ht => by
    have e0 : i = e := by omega
    subst e0
    have := Go.left (w := w) (p := pos) (s := s) hT (m := some h.objs.size) ((ps.drop (17 * i)).map (pairS pos)) [] (by rw [List.length_nil, List.length_map, List.length_drop]; omega)
    rw [List.map_map, List.nil_append] at this
    obtain ⟨heap, gens, drawn, toks, os⟩ := s
    dsimp only at hs ht
    subst hs ht
    exact this
  | r + 1, i, s, hi, h0, hs, ht => by
    rw [items_split, show 330 * (r + 1) = 330 + 330 * r by omega]
    have rest := loop_go hT hF (pos := pos) hg he he2 hl hh r (i + 1) { s with heap := hApp h (laidO ps t (i + 1)), toks := t + 51 * (i + 1) } (by omega) (by omega) rfl rfl
    have hlen : 17 * (i + 1) ≤ ps.length := by omega
    have hc : ((ps.drop (17 * i)).take 17).length = 17 := by rw [List.length_take, List.length_drop]; omega
    refine Go.chunk hT rest _ [] ?_ (by rw [List.length_nil, List.length_map, hc]) ?_
    · intro q
      have := congrArg List.length q
      rw [List.length_map, hc] at this
      cases this
    · rw [List.nil_append]
      exact chunk_go hF hg hlen hl h0 hh hs ht
theorem last_go (hF : FlushIs flush) {ps : List (Int × Str)} {pos : Pos} {h : Heap} {t e : Nat} (hg : good ps) (he : 17 * e + 4 = ps.length) (hl : ps.length ≤ 900) (h0 : 0 < e) (hh : 11 ≤ h.objs.size)
    (hs : s.heap = hApp h (laidO ps t e)) (ht : s.toks = t + 51 * e) :
    Go w 82 (flush ((ps.drop (17 * e)).map (pairS pos)) (some h.objs.size)) p s (some h.objs.size) pos
      { s with heap := hApp h (dObj (ents 3 t (ps.take (17 * e)) ++ ents 2 (t + 51 * e) (ps.drop (17 * e))) (17 * e + 4) :: ((List.range' 1 (e - 1)).map (subO ps t) ++ [dObj (ents 2 (t + 51 * e) (ps.drop (17 * e))) 4])), toks := t + 51 * e + 12 } := by
  have hc : (ps.drop (17 * e)).length = 4 := by rw [List.length_drop]; omega
  have hn : ps.drop (17 * e) ≠ [] := by intro q; rw [q] at hc; cases hc
  obtain ⟨hx, eq⟩ := hF.more ((ps.drop (17 * e)).map (pairS pos)) h.objs.size (by
    cases q : (ps.drop (17 * e)) with
    | nil => rw [q] at hc; cases hc
    | cons => rfl)
  rw [eq]
  have hsz : s.heap.objs.size = h.objs.size + e := by
    rw [hs, hApp_size]
    show h.objs.size + ((List.range' 1 (e - 1)).map (subO ps t)).length.succ = _
    rw [List.length_map, List.length_range']; omega
  have hgd : good (ps.drop (17 * e)) := ⟨hg.1.drop, fun x hx => hg.2 x (List.mem_of_mem_drop hx)⟩
  have sub := subShort (w := w) (p := p) (s := s) (pos := pos) hgd (by omega) hn (by omega)
  rw [hc] at sub
  have hpush : s.heap.push (dObj (ents 2 s.toks (ps.drop (17 * e))) 4) = hApp h (mainO ps t e :: ((List.range' 1 (e - 1)).map (subO ps t) ++ [dObj (ents 2 (t + 51 * e) (ps.drop (17 * e))) 4])) := by
    rw [hs, hApp_push, ht]; rfl
  rw [hpush, hsz] at sub
  have getd : (hApp h (mainO ps t e :: ((List.range' 1 (e - 1)).map (subO ps t) ++ [dObj (ents 2 (t + 51 * e) (ps.drop (17 * e))) 4]))).get? h.objs.size = some (mainO ps t e) := hApp_get h _ 0 _ rfl rfl
  have geta : (hApp h (mainO ps t e :: ((List.range' 1 (e - 1)).map (subO ps t) ++ [dObj (ents 2 (t + 51 * e) (ps.drop (17 * e))) 4]))).get? (h.objs.size + e) = some (dObj (ents 2 (t + 51 * e) (ps.drop (17 * e))) 4) := by
    refine hApp_get h _ e _ ?_ rfl
    obtain ⟨j, rfl⟩ : ∃ j, e = j + 1 := ⟨e - 1, by omega⟩
    rw [List.getElem?_cons_succ, List.getElem?_append_right (by rw [List.length_map, List.length_range']; omega), List.length_map, List.length_range', show j - (j + 1 - 1) = 0 by omega]
    rfl
  have hlen : (ents 3 t (ps.take (17 * e))).length = 17 * e := by rw [ents_len, List.length_take]; omega
  have hlen2 : (ents 2 (t + 51 * e) (ps.drop (17 * e))).length = 4 := by rw [ents_len, hc]
  have hne : h.objs.size + e ≠ h.objs.size := by omega
  have hsy : h.objs.size + e ≠ sysModules := by have q : (sysModules : Nat) = 1 := rfl; rw [q]; omega
  have mrg := Go.merge (d := h.objs.size) (a := h.objs.size + e) (w := w) (p := pos) (s := { s with heap := hApp h (mainO ps t e :: ((List.range' 1 (e - 1)).map (subO ps t) ++ [dObj (ents 2 (t + 51 * e) (ps.drop (17 * e))) 4])), toks := s.toks + 2 * 4 + 4 }) hh hne hsy geta getd
    (by intro q; rw [q] at hlen; simp at hlen; omega) (ents_pw hgd.1) ents_int (ents_lt (by rw [List.take_append_drop]; exact hg.1)) (by rw [hlen, hlen2]; omega)
  rw [hlen2, hApp_put, show s.toks + 2 * 4 + 4 = t + 51 * e + 12 by rw [ht]] at mrg
  rw [show s.toks + 2 * 4 + 4 = t + 51 * e + 12 by rw [ht]] at sub
  refine Go.bind (n := 53) (m := 29) (Go.holding sub) ?_
  exact Go.bind (n := 29) (m := 0) (Go.onRaise (Go.holding mrg)) Go.pure
end
end Mine
end
end
section
set_option Elab.async false
set_option maxRecDepth 100000
noncomputable section
namespace Mine
open PySem PySem.W PyProof.Rows PySem.Calls
section
variable {w : World} {p : Pos} {s : Shared}
theorem disp_go {ps : List (Int × Str)} {pos : Pos} {h : Heap} {t e : Nat} (hg : good ps) (he : 17 * e + 4 = ps.length) (hl : ps.length ≤ 900) (h0 : 0 < e) (hh : 11 ≤ h.objs.size) (hs : s.heap = h) (ht : s.toks = t) :
    Go w (223 + (330 * (e - 1) + 82)) (dictDisplay (ps.map (itemS pos))) p s (.ref h.objs.size) pos
      { s with heap := hApp h (dObj (ents 3 t (ps.take (17 * e)) ++ ents 2 (t + 51 * e) (ps.drop (17 * e))) (17 * e + 4) :: ((List.range' 1 (e - 1)).map (subO ps t) ++ [dObj (ents 2 (t + 51 * e) (ps.drop (17 * e))) 4])), toks := t + 51 * e + 12 } := by
  unfold dictDisplay
  extract_lets flush main run
  have hF : FlushIs flush := ⟨fun run hr => by show (if run.isEmpty = true then _ else _) = _; rw [hr]; rfl, fun run d hr => ⟨_, by show (if run.isEmpty = true then _ else _) = _; rw [hr]; rfl⟩⟩
  have hc : (ps.take 17).length = 17 := by rw [List.length_take]; omega
  have e0 : ps.map (itemS pos) = ((ps.take 17).map (pairS pos)).map itemOf1 ++ (ps.drop 17).map (itemS pos) := by
    have := items_split ps pos 0
    rw [Nat.mul_zero, List.drop_zero, Nat.zero_add, Nat.mul_one] at this
    exact this
  refine Go.bind (n := 223 + 330 * (e - 1)) (m := 82) (a := ((some h.objs.size, (ps.drop (17 * e)).map (pairS pos)) : DSt)) (p' := pos) (s' := { s with heap := hApp h (laidO ps t e), toks := t + 51 * e }) ?_ ?_
  · rw [e0]
    refine Go.chunk (n := 223) (k := 330 * (e - 1)) (flush := flush) (m' := some h.objs.size) (p' := pos) (s' := { s with heap := hApp h (laidO ps t 1), toks := t + 51 * 1 }) ?hT ?rest _ [] ?h1 ?h2 ?h3
    case hT => exact fun a v m run => rfl
    case rest =>
      exact loop_go (flush := flush) (fun a v m run => rfl) hF (pos := pos) hg (by omega) (by omega) hl hh (t := t) (e := e) (e - 1) 1 { s with heap := hApp h (laidO ps t 1), toks := t + 51 * 1 } (by omega) (by omega) rfl rfl
    case h2 => rw [List.length_nil, List.length_map, hc]
    case h1 =>
      intro q
      have := congrArg List.length q
      rw [List.length_map, hc] at this
      cases this
    case h3 =>
      rw [List.nil_append, hF.new _ (by
        cases q : ps.take 17 with
        | nil => rw [q] at hc; cases hc
        | cons => rfl)]
      have gd : good (ps.take 17) := ⟨hg.1.take, fun x hx => hg.2 x (List.mem_of_mem_take hx)⟩
      have sub := subLong (w := w) (p := p) (s := s) (pos := pos) gd (by omega) (by omega) (by rw [hs]; exact hh)
      rw [hc, hs, ht, show h.push (dObj (ents 3 t (ps.take 17)) 17) = hApp h (laidO ps t 1) by rw [← hApp_nil h, hApp_push, hApp_nil]; rfl] at sub
      exact Go.bind (n := 223) (m := 0) sub Go.pure
  · refine Go.bind (n := 82) (m := 0) (last_go (s := { s with heap := hApp h (laidO ps t e), toks := t + 51 * e }) hF hg he hl h0 hh rfl rfl) Go.pure
end
end Mine
end
end
section
set_option Elab.async false
set_option maxRecDepth 100000
noncomputable section
namespace Mine
open PySem PySem.W PyProof.Rows PySem.Calls
noncomputable def tree_x (P : Params) : BT := (.node (boot_o_0 P) (.node (boot_o_1 P) (.node (o3d P) (.node (boot_o_7 P) (.node (o15b P) (.node (o31b P) (.node (o63d P) .nil .nil) (.node (o95e P) .nil .nil)) (.node (o47b P) (.node (o79e P) .nil .nil) .nil)) (.node (o23b P) (.node (o39b P) (.node (o71e P) .nil .nil) (.node (o103e P) .nil .nil)) (.node (o55c P) (.node (o87e P) .nil .nil) .nil))) (.node (o11a P) (.node (o19b P) (.node (o35b P) (.node (o67d P) .nil .nil) (.node (o99e P) .nil .nil)) (.node (o51c P) (.node (o83e P) .nil .nil) .nil)) (.node (o27b P) (.node (o43b P) (.node (o75e P) .nil .nil) .nil) (.node (o59c P) (.node (o91e P) .nil .nil) .nil)))) (.node (boot_o_5 P) (.node (boot_o_9 P) (.node (o17b P) (.node (o33b P) (.node (o65d P) .nil .nil) (.node (o97e P) .nil .nil)) (.node (o49b P) (.node (o81e P) .nil .nil) .nil)) (.node (o25b P) (.node (o41b P) (.node (o73e P) .nil .nil) (.node (o105e P) .nil .nil)) (.node (o57c P) (.node (o89e P) .nil .nil) .nil))) (.node (o13a P) (.node (o21b P) (.node (o37b P) (.node (o69e P) .nil .nil) (.node (o101e P) .nil .nil)) (.node (o53c P) (.node (o85e P) .nil .nil) .nil)) (.node (o29b P) (.node (o45b P) (.node (o77e P) .nil .nil) .nil) (.node (o61d P) (.node (o93e P) .nil .nil) .nil))))) (.node (boot_o_2 P) (.node (boot_o_4 P) (.node (boot_o_8 P) (.node (o16b P) (.node (o32b P) (.node (o64d P) .nil .nil) (.node (o96e P) .nil .nil)) (.node (o48b P) (.node (o80e P) .nil .nil) .nil)) (.node (o24b P) (.node (o40b P) (.node (o72e P) .nil .nil) (.node (o104e P) .nil .nil)) (.node (o56c P) (.node (o88e P) .nil .nil) .nil))) (.node (o12d P) (.node (o20b P) (.node (o36b P) (.node (o68e P) .nil .nil) (.node (o100e P) .nil .nil)) (.node (o52c P) (.node (o84e P) .nil .nil) .nil)) (.node (o28b P) (.node (o44b P) (.node (o76e P) .nil .nil) .nil) (.node (o60c P) (.node (o92e P) .nil .nil) .nil)))) (.node (boot_o_6 P) (.node (boot_o_10 P) (.node (o18b P) (.node (o34b P) (.node (o66d P) .nil .nil) (.node (o98e P) .nil .nil)) (.node (o50c P) (.node (o82e P) .nil .nil) .nil)) (.node (o26b P) (.node (o42b P) (.node (o74e P) .nil .nil) (.node (o106e P) .nil .nil)) (.node (o58c P) (.node (o90e P) .nil .nil) .nil))) (.node (o14a P) (.node (o22b P) (.node (o38b P) (.node (o70e P) .nil .nil) (.node (o102e P) .nil .nil)) (.node (o54c P) (.node (o86e P) .nil .nil) .nil)) (.node (o30b P) (.node (o46b P) (.node (o78e P) .nil .nil) .nil) (.node (o62d P) (.node (o94e P) .nil .nil) .nil))))))
noncomputable def stX (P : Params) (os : OsState) : SharedT := ⟨tree_x P, 107, life0, #[], drawn0, 2289, os⟩
noncomputable def dTargets : List Expr := match (pw.main.body[14]? : Option Stmt) with | some (.Assign ts _ _) => ts | _ => []
noncomputable def dPosA : Pos := match (pw.main.body[14]? : Option Stmt) with | some (.Assign _ _ p) => p | _ => pos0
noncomputable def dKeys : List (Option Expr) := match (pw.main.body[14]? : Option Stmt) with | some (.Assign _ (.Dict ks _ _) _) => ks | _ => []
noncomputable def dVals : List Expr := match (pw.main.body[14]? : Option Stmt) with | some (.Assign _ (.Dict _ vs _) _) => vs | _ => []
noncomputable def dPosD : Pos := match (pw.main.body[14]? : Option Stmt) with | some (.Assign _ (.Dict _ _ p) _) => p | _ => pos0
noncomputable def dStmt : Stmt := .Assign dTargets (.Dict dKeys dVals dPosD) dPosA
theorem stsD_eq : stsD = [dStmt] := by kernel_rfl
theorem items_eq : (evalEachOpt dKeys env0).zip ((evalEach dVals env0).map fun v => do let x ← v; standAt dPosD; pure x) = b3pairs.map (itemS dPosD) := by kernel_rfl
theorem b3_good : good b3pairs := good_of (by kernel_rfl)
theorem b3_len : b3pairs.length = 650 := by kernel_rfl
noncomputable def restX : Value → Sem Flow := hRest dTargets (.Dict dKeys dVals dPosD) env0
theorem swaps_eq : swapsWithSole dTargets (.Dict dKeys dVals dPosD) dPosA.line env0 = Pure.pure false := by kernel_rfl
theorem exec_eq : exec dStmt env0 = (standAt dPosA >>= fun _ => swapsWithSole dTargets (.Dict dKeys dVals dPosD) dPosA.line env0 >>= fun b => if b = true then (evalThenUse (.Dict dKeys dVals dPosD) env0 (fun v => assignAll v ((assignEach dTargets env0).map (·.2))) >>= fun _ => Pure.pure .next)
    else ((standAt dPosD >>= fun _ => dictDisplay ((evalEachOpt dKeys env0).zip ((evalEach dVals env0).map fun v => do let x ← v; standAt dPosD; pure x))) >>= restX)) := by kernel_rfl
end Mine
end
end
section
set_option Elab.async false
set_option maxRecDepth 100000
noncomputable section
namespace Mine
open PySem PySem.W PyProof.Rows PySem.Calls
theorem eqX (w : World) (os : OsState) : hRunX pw w 8 (stX w.params os) dTargets (.Dict dKeys dVals dPosD) (.ref 68) env0 code0 dPosD base0 = some (.next, stE w.params os, code0, ⟨101, 0, 101, 13⟩) := by
  rw [PySem.W.Fast.te10341650701433332910]
  kernel_rfl
noncomputable def newO : List Obj := dObj (ents 3 339 (b3pairs.take (17 * 38)) ++ ents 2 (339 + 51 * 38) (b3pairs.drop (17 * 38))) (17 * 38 + 4) :: ((List.range' 1 (38 - 1)).map (subO b3pairs 339) ++ [dObj (ents 2 (339 + 51 * 38) (b3pairs.drop (17 * 38))) 4])
theorem heapX (P : Params) (os : OsState) : hApp (stD P os).abs.heap newO = (stX P os).abs.heap := by kernel_rfl
theorem sizeD (P : Params) (os : OsState) : (stD P os).abs.heap.objs.size = 68 := absHeap_size ..
theorem asm {w : World} {n : Nat} {p0 pA pD : Pos} {s s' : Shared} {items : List DItem} {v : Value} {X : Sem Flow} {rest : Value → Sem Flow} (disp : Go w n (dictDisplay items) pD s v pD s') :
    segGo treeTable pw w 11 ann0 1 (1 + (1 + n)) s ⟨(standAt pA >>= fun _ => (Pure.pure false : Sem Bool) >>= fun b => if b = true then X else ((standAt pD >>= fun _ => dictDisplay items) >>= rest)).wrap doneF deadEnd id id, code0, p0, base0⟩ = some (s', ⟨(rest v).wrap doneF deadEnd id id, code0, pD, base0⟩) := by
  have h1 : Go w 1 (standAt pA) p0 s () pA s := Go.standAt
  have h2 : Go w (1 + n) (standAt pD >>= fun _ => dictDisplay items) pA s v pD s' := Go.bind Go.standAt disp
  have e : (standAt pA >>= fun _ => (Pure.pure false : Sem Bool) >>= fun b => if b = true then X else ((standAt pD >>= fun _ => dictDisplay items) >>= rest)).wrap doneF deadEnd id id
      = (standAt pA).wrap (fun _ => (standAt pD >>= fun _ => dictDisplay items).wrap (fun v => (rest v).wrap doneF deadEnd id id) deadEnd id id) deadEnd id id := by
    rw [Sem.bind_eq_wrap', Sem.wrap_wrap]
    refine Sem.wrap_congr _ _ _ (fun _ => ?_) fun _ => rfl
    show (((standAt pD >>= fun _ => dictDisplay items) >>= rest)).wrap doneF deadEnd id id = _
    rw [Sem.bind_eq_wrap' _ rest, Sem.wrap_wrap]
    rfl
  rw [e]
  exact segGo_app (h1 _ _ _ _) (h2 _ _ _ _)
theorem dispD (w : World) (os : OsState) : Go w 12515 (dictDisplay (b3pairs.map (itemS dPosD))) dPosD (stD w.params os).abs (.ref 68) dPosD (stX w.params os).abs := by
  have hl := b3_len
  have hg := b3_good
  have hx := heapX w.params os
  have hs := sizeD w.params os
  unfold newO at hx
  have e2 : ∀ h : Heap, h = (stX w.params os).abs.heap → ({ (stD w.params os).abs with heap := h, toks := 339 + 51 * 38 + 12 } : Shared) = (stX w.params os).abs := fun h e => by rw [e]; rfl
  have ht : (stD w.params os).abs.toks = 339 := rfl
  generalize (stD w.params os).abs = sD at *
  generalize (stX w.params os).abs = sX at *
  generalize b3pairs = ps at *
  have disp := disp_go (w := w) (p := dPosD) (s := sD) (pos := dPosD) (h := sD.heap) (t := 339) (e := 38) hg (by omega) (by omega) (by omega) (by omega) rfl ht
  rw [hs, e2 _ hx] at disp
  exact disp
noncomputable def thenX : Sem Flow := evalThenUse (.Dict dKeys dVals dPosD) env0 (fun v => assignAll v ((assignEach dTargets env0).map (·.2))) >>= fun _ => Pure.pure .next
theorem execD : exec dStmt env0 = (standAt dPosA >>= fun _ => (Pure.pure false : Sem Bool) >>= fun b => if b = true then thenX else ((standAt dPosD >>= fun _ => dictDisplay (b3pairs.map (itemS dPosD))) >>= restX)) := by
  rw [exec_eq, swaps_eq, items_eq]; rfl
noncomputable def nD : Nat := 1 + (1 + 12515)
theorem goD (w : World) (os : OsState) : segGo treeTable pw w 11 ann0 1 nD (stD w.params os).abs ⟨(exec dStmt env0).wrap doneF deadEnd id id, code0, ⟨99, 0, 100, 30⟩, base0⟩ = some ((stX w.params os).abs, ⟨(restX (.ref 68)).wrap doneF deadEnd id id, code0, dPosD, base0⟩) := by
  rw [execD]
  exact asm (dispD w os)
theorem pieceD (w : World) (os : OsState) : segRun treeTable pw w 11 ann0 1 (nD + 8) (stD w.params os).abs (pieceOf dStmt env0 code0 ⟨99, 0, 100, 30⟩ base0) = some (.next, (stE w.params os).abs, code0, ⟨101, 0, 101, 13⟩) :=
  seg_go (goD w os) (segRun_of (eqX w os))
end Mine
end
end
section
set_option Elab.async false
set_option maxRecDepth 100000
noncomputable section
namespace Mine
open PySem PySem.W PyProof.Rows PySem.Calls
theorem body_eq : body0 = stsA ++ (stsB ++ (stsC ++ (dStmt :: (stsE ++ [])))) := by kernel_rfl
noncomputable def nAll : Nat := 12 + (1 + (300 + (1000 + (30 + ((nD + 8) + (400 + 2))))))
theorem run0 (w : World) (os : OsState) : topRun treeTable pw w 11 ann0 nAll ⟨boot_heap w.params, Array.mk [], boot_drawn, boot_toks, os⟩ (topStub pw) = some ⟨heapF w.params, Array.mk [], drawn0, 2396, os⟩ := by
  refine go_top (eqP w os) ?_
  refine piece_block (q := pos0) (eqK w os) ?_
  show topRun treeTable pw w 11 ann0 _ _ (restOf body0 env0 code0 pos0 base0) = _
  rw [body_eq]
  refine piece_app (q := pos0) (segRun_of (eqA w os)) ?_
  refine piece_app (q := pos0) (segRun_of (eqB w os)) ?_
  refine piece_app (q := pos0) (segRun_of (eqC w os)) ?_
  refine piece_cons (q := pos0) (pieceD w os) ?_
  refine piece_app (q := pos0) (segRun_of (eqE w os)) ?_
  exact eqZ w os
theorem open0 : ∀ w : World, (fencedOpening treeTable pw w 28394).map (fun s => (s.heap, s.gens, s.drawn, s.toks)) = some (boot_heap w.params, Array.mk [], boot_drawn, boot_toks) :=
  boot_open (p := pw) (N := 28394) (by kernel_rfl) (by decide) (fun s => by kernel_rfl)
theorem left0 : LeftO pw q0 loose0 xt0 hk0.obs hk0.val 28394 :=
  LeftO.of_pieces (H₀ := boot_heap) (H₁ := heapF) (m₀ := 11) (ann := ann0) (M := nAll) open0 (fun w => eqS w) run0 (by kernel_rfl)
    (fun w => funext fun os => looks_pair (eqL1 w os) (looks_pair (eqL2 w os) (eqL3 w os)))
end Mine
end
end
section
set_option Elab.async false
set_option maxRecDepth 100000
noncomputable section
namespace Mine
open PySem PySem.W PyProof.Rows PySem.Calls
/-! the look at the law's own text (OpenLaw.wellSaid), in parts: each is a small run of the kernel, by the library's own twins -/
noncomputable abbrev rw0 : OpenLaw := PySem.Challenge.rw_rl0121_01
theorem said_A : namesResolve rw0.row.prog = true := by
  rw [PySem.W.Fast.te8377067652309620493]
  kernel_rfl
theorem said_B1 : readsOut rw0.row.prog rw0.row.prog.main.body "vars" = false := by
  rw [PySem.W.Fast.te13343964577679436407]
  kernel_rfl
theorem said_B2 : readsOut rw0.row.prog rw0.row.prog.main.body "dir" = false := by
  rw [PySem.W.Fast.te13343964577679436407]
  kernel_rfl
theorem said_B3 : readsOut rw0.row.prog rw0.row.prog.main.body "locals" = false := by
  rw [PySem.W.Fast.te13343964577679436407]
  kernel_rfl
theorem said_B : (["vars", "dir", "locals"] : List Str).filter (readsOut rw0.row.prog rw0.row.prog.main.body) = [] := by
  rw [List.filter_cons, said_B1, List.filter_cons, said_B2, List.filter_cons, said_B3]; rfl
theorem said_C : noRoadLSs { strict := !(importedModules rw0.row.prog.main.body).all cThrough.contains, foot := none, bare := [] } rw0.row.prog.main.body = true := by
  rw [PySem.W.Fast.te8326940854005059898]
  kernel_rfl
theorem said_D : namesMeet rw0.row.prog rw0.row.prog.main.body (fun _ n => attrL n) = true := by
  rw [PySem.W.Fast.te17119622794617984870]
  kernel_rfl
theorem said0 : rw0.wellSaid = true := by
  delta OpenLaw.wellSaid OpenRow.wellSaid OpenRow.partSaid looksOpen
  repeat' (with_reducible refine look_both ?_ ?_)
  all_goals first
    | with_reducible exact said_A
    | with_reducible exact said_D
    | (rw [said_B]; with_reducible exact said_C)
    | (rw [PySem.W.Fast.te8326940854005059898]; kernel_rfl)
    | (rw [PySem.W.Fast.te17119622794617984870]; kernel_rfl)
    | (rw [PySem.W.Fast.te8179353310426384613]; kernel_rfl)
    | (rw [PySem.W.Fast.te16286561074155671207]; kernel_rfl)
    | (rw [PySem.W.Fast.te9558739934217749035]; kernel_rfl)
    | (simp only [PySem.W.Fast.te6984425678791042302]; kernel_rfl)
    | kernel_rfl
end Mine
end
end
section
set_option Elab.async false
set_option maxRecDepth 100000
namespace Mine
open PySem PySem.W PyProof.Rows PySem.Calls PySem.Spec
noncomputable def Stop (p : Prop) : Prop := p
theorem stopHere {p : Prop} (h : Stop p) : p := h
theorem Stop.go {p : Prop} (h : p) : Stop p := h
/-- what stands behind a statement, put away -/
noncomputable def Sealed (Q : Flow → Shared → Prop) (f : Flow) (s : Shared) : Prop := Q f s
structure Under (M : Model) (A : Around) (rest : List Stmt) (env : Env) (Q : Flow → Shared → Prop) (E : Value → Shared → Prop) (Q1 : Flow → Shared → Prop) : Prop where
  next : ∀ s', wpAny M A (execs rest env) Q E s' → Sealed Q1 .next s'
  out : ∀ f s', f ≠ .next → Q f s' → Sealed Q1 f s'
theorem seal_cons {M : Model} {A : Around} {st : Stmt} {rest : List Stmt} {env : Env} {Q : Flow → Shared → Prop} {E : Value → Shared → Prop} {s : Shared}
    (h : ∀ Q1 : Flow → Shared → Prop, Under M A rest env Q E Q1 → wpAny M A (exec st env) (Sealed Q1) E s) :
    wpAny M A (execs (st :: rest) env) Q E s :=
  wpAny_execs_cons (h (fun f s' => match f with | .next => wpAny M A (execs rest env) Q E s' | f => Q f s') ⟨fun _ x => x, fun f s' n x => by cases f <;> first | exact x | exact absurd rfl n⟩)
noncomputable def SealedV (Q : Value → Shared → Prop) (v : Value) (s : Shared) : Prop := Q v s
structure UnderV (Q Q1 : Value → Shared → Prop) : Prop where
  go : ∀ v s', Q v s' → SealedV Q1 v s'
theorem seal_val {M : Model} {A : Around} {t : Sem Value} {Q : Value → Shared → Prop} {E : Value → Shared → Prop} {s : Shared}
    (h : ∀ Q1 : Value → Shared → Prop, UnderV Q Q1 → wpAny M A t (SealedV Q1) E s) : wpAny M A t Q E s := h Q ⟨fun _ _ x => x⟩
/-- what a def of the text does when it is called: its value and the objects it leaves behind -/
noncomputable def Con (w : World) (mean : ExcName → Option Value) (mg mb : Str → Option Value) (f : Addr) (need : Nat) (pre : List (Addr × Obj) → Prop) (vs : List Value) (R : List (Addr × Obj) → Value → Prop) : Prop :=
  ∀ (dp un : Nat) (gd : Option (List Code)) (cn : Str) (cs : Scope) (a : Addr) (ccd : Value) (cl : List (Str × Addr)) (outer : List Env) (A₀ : Around) (base h₀ : Heap) (L : Addr) (m : Str → Option Value) (news : List (Addr × Obj)) (s : Shared) (Q E : Value → Shared → Prop),
    Below A₀ base outer h₀ → Fr h₀ L s.heap m → (K0 w.params).In h₀ → News h₀ L s.heap news → Top q0 (looseW q0 loose0) mean mg mb h₀ → cs.kind = .function → pre news → dp + need < recursionLimit → un + 10 * need < cLine →
    (∀ (v : Value) (h' : Heap) (tk' : Nat) (new : List (Addr × Obj)), R new v → (∀ q ∈ new, ∀ p ∈ news, p.1 < q.1) → Fr h₀ L h' m → News h₀ L h' (new ++ news) → Q v { s with heap := h', toks := tk' }) →
    wpAny (model PySem.Challenge.rw_rl0121_01.row.prog w) (ktrTop dp un gd cn cs L a ccd cl outer) (call (.ref f) vs) Q E s
theorem Con.go {w : World} {mean : ExcName → Option Value} {mg mb : Str → Option Value} {f : Addr} {need : Nat} {pre : List (Addr × Obj) → Prop} {vs : List Value} {R : List (Addr × Obj) → Value → Prop}
    {dp un : Nat} {gd : Option (List Code)} {cn : Str} {cs : Scope} {a : Addr} {ccd : Value} {cl : List (Str × Addr)} {outer : List Env} {A₀ : Around} {base h₀ : Heap} {L : Addr} {m : Str → Option Value} {news : List (Addr × Obj)} {s : Shared} {Q E : Value → Shared → Prop}
    (c : Con w mean mg mb f need pre vs R) (B : Below A₀ base outer h₀) (F : Fr h₀ L s.heap m) (X : (K0 w.params).In h₀) (N : News h₀ L s.heap news) (T : Top q0 (looseW q0 loose0) mean mg mb h₀) (hk : cs.kind = .function) (hp : pre news) (hd : dp + need < recursionLimit) (hu : un + 10 * need < cLine)
    (hret : ∀ (v : Value) (h' : Heap) (tk' : Nat) (new : List (Addr × Obj)), R new v → (∀ q ∈ new, ∀ p ∈ news, p.1 < q.1) → Fr h₀ L h' m → News h₀ L h' (new ++ news) → Q v { s with heap := h', toks := tk' }) :
    wpAny (model PySem.Challenge.rw_rl0121_01.row.prog w) (ktrTop dp un gd cn cs L a ccd cl outer) (call (.ref f) vs) Q E s := c dp un gd cn cs a ccd cl outer A₀ base h₀ L m news s Q E B F X N T hk hp hd hu hret
/-- where a def's value goes -/
noncomputable abbrev Ret (R : List (Addr × Obj) → Value → Prop) (h₀ : Heap) (L : Addr) (m : Str → Option Value) (news : List (Addr × Obj)) (s : Shared) (Q : Value → Shared → Prop) : Prop :=
  ∀ (v : Value) (h' : Heap) (tk' : Nat) (new : List (Addr × Obj)), R new v → (∀ q ∈ new, ∀ p ∈ news, p.1 < q.1) → Fr h₀ L h' m → News h₀ L h' (new ++ news) → Q v { s with heap := h', toks := tk' }
/-- a float comes back -/
noncomputable def isF (x : UInt64) (new : List (Addr × Obj)) (v : Value) : Prop := ∃ t, v = .float x t ∧ new = []
/-- a tuple of three floats comes back -/
noncomputable def isT3 (x y z : UInt64) (new : List (Addr × Obj)) (v : Value) : Prop := ∃ a t1 t2 t3, v = .ref a ∧ new = [(a, { cls := .type "tuple", data := .seq #[.float x t1, .float y t2, .float z t3] })]
section
variable {h₀ h' : Heap} {L : Addr} {m : Str → Option Value} {news news' : List (Addr × Obj)} {s : Shared} {Q : Value → Shared → Prop} {tk' : Nat}
theorem ret_f {x y : UInt64} {t : Tok} (hret : Ret (isF x) h₀ L m news s Q)
    (e : y = x) (F : Fr h₀ L h' m) (N : News h₀ L h' news') (hs : ∀ p ∈ news, p ∈ news') : Q (.float y t) { s with heap := h', toks := tk' } := by
  subst e
  exact hret _ h' tk' [] ⟨t, rfl, rfl⟩ (fun _ h => nomatch h) F (cb_drop N hs)
theorem ret_t3 {x y z x' y' z' : UInt64} {t1 t2 t3 : Tok} {D : Addr} (hret : Ret (isT3 x y z) h₀ L m news s Q)
    (e : some (x', y', z') = some (x, y, z)) (F : Fr h₀ L h' m) (N : News h₀ L h' news') (hD : (D, ({ cls := .type "tuple", data := .seq #[.float x' t1, .float y' t2, .float z' t3] } : Obj)) ∈ news') (hs : ∀ p ∈ news, p ∈ news') (hl : ∀ p ∈ news, p.1 < D) :
    Q (.ref D) { s with heap := h', toks := tk' } := by
  simp only [Option.some.injEq, Prod.mk.injEq] at e
  obtain ⟨rfl, rfl, rfl⟩ := e
  refine hret _ h' tk' _ ⟨D, t1, t2, t3, rfl, rfl⟩ (fun q hq p hp => ?_) F fun p hp => ?_
  · rw [List.mem_singleton.mp hq]; exact hl p hp
  · rcases List.mem_append.mp hp with hp | hp
    · rw [List.mem_singleton.mp hp]; exact N _ hD
    · exact N p (hs p hp)
end
theorem Con.goF {w : World} {mean : ExcName → Option Value} {mg mb : Str → Option Value} {f : Addr} {need : Nat} {pre : List (Addr × Obj) → Prop} {vs : List Value}
    {dp un : Nat} {gd : Option (List Code)} {cn : Str} {cs : Scope} {a : Addr} {ccd : Value} {cl : List (Str × Addr)} {outer : List Env} {A₀ : Around} {base h₀ : Heap} {L : Addr} {m : Str → Option Value} {news : List (Addr × Obj)} {s : Shared} {Q E : Value → Shared → Prop} {x : UInt64}
    (c : Con w mean mg mb f need pre vs (isF x)) (B : Below A₀ base outer h₀) (F : Fr h₀ L s.heap m) (X : (K0 w.params).In h₀) (N : News h₀ L s.heap news) (T : Top q0 (looseW q0 loose0) mean mg mb h₀) (hk : cs.kind = .function) (hp : pre news) (hd : dp + need < recursionLimit) (hu : un + 10 * need < cLine)
    (hret : ∀ (t : Tok) (h' : Heap) (tk' : Nat), Fr h₀ L h' m → News h₀ L h' news → Q (.float x t) { s with heap := h', toks := tk' }) :
    wpAny (model PySem.Challenge.rw_rl0121_01.row.prog w) (ktrTop dp un gd cn cs L a ccd cl outer) (call (.ref f) vs) Q E s :=
  c.go B F X N T hk hp hd hu fun v h' tk' new ⟨t, e1, e2⟩ _ F' N' => by subst e1 e2; exact hret t h' tk' F' N'
theorem Con.goT {w : World} {mean : ExcName → Option Value} {mg mb : Str → Option Value} {f : Addr} {need : Nat} {pre : List (Addr × Obj) → Prop} {vs : List Value}
    {dp un : Nat} {gd : Option (List Code)} {cn : Str} {cs : Scope} {a : Addr} {ccd : Value} {cl : List (Str × Addr)} {outer : List Env} {A₀ : Around} {base h₀ : Heap} {L : Addr} {m : Str → Option Value} {news : List (Addr × Obj)} {s : Shared} {Q E : Value → Shared → Prop} {x y z : UInt64}
    (c : Con w mean mg mb f need pre vs (isT3 x y z)) (B : Below A₀ base outer h₀) (F : Fr h₀ L s.heap m) (X : (K0 w.params).In h₀) (N : News h₀ L s.heap news) (T : Top q0 (looseW q0 loose0) mean mg mb h₀) (hk : cs.kind = .function) (hp : pre news) (hd : dp + need < recursionLimit) (hu : un + 10 * need < cLine)
    (hret : ∀ (D : Addr) (t1 t2 t3 : Tok) (h' : Heap) (tk' : Nat), (∀ p ∈ news, p.1 < D) → Fr h₀ L h' m → News h₀ L h' ((D, { cls := .type "tuple", data := .seq #[.float x t1, .float y t2, .float z t3] }) :: news) → Q (.ref D) { s with heap := h', toks := tk' }) :
    wpAny (model PySem.Challenge.rw_rl0121_01.row.prog w) (ktrTop dp un gd cn cs L a ccd cl outer) (call (.ref f) vs) Q E s :=
  c.go B F X N T hk hp hd hu fun v h' tk' new ⟨D, t1, t2, t3, e1, e2⟩ hl F' N' => by subst e1 e2; exact hret D t1 t2 t3 h' tk' (fun p hp => hl _ (.head _) p hp) F' N'
noncomputable def vF (m1 m2 hue : UInt64) : UInt64 :=
  if (Float64.cmp (Float64.divmod hue 4607182418800017408).snd 4595172819793696085 == some Ordering.lt) = true then
    Float64.add m1 (Float64.mul (Float64.mul (Float64.sub m2 m1) (Float64.divmod hue 4607182418800017408).snd) 4618441417868443648)
  else if (Float64.cmp (Float64.divmod hue 4607182418800017408).snd 4602678819172646912 == some Ordering.lt) = true then m2
  else if (Float64.cmp (Float64.divmod hue 4607182418800017408).snd 4604180019048437077 == some Ordering.lt) = true then
    Float64.add m1 (Float64.mul (Float64.mul (Float64.sub m2 m1) (Float64.sub 4604180019048437077 (Float64.divmod hue 4607182418800017408).snd)) 4618441417868443648)
  else m1
noncomputable def mx3 (r g b : UInt64) : UInt64 := let x := if (Float64.cmp r g == some .lt) = true then g else r; if (Float64.cmp x b == some .lt) = true then b else x
noncomputable def mn3 (r g b : UInt64) : UInt64 := let x := if (Float64.cmp g r == some .lt) = true then g else r; if (Float64.cmp b x == some .lt) = true then b else x
noncomputable def leF (x y : UInt64) : Bool := Float64.cmp x y == some .lt || Float64.cmp x y == some .eq
/-- the hue of rgb_to_hls, of the six parts' count -/
noncomputable def hueF (r g b mx rng : UInt64) : UInt64 :=
  if (Float64.cmp r mx == some .eq) = true then Float64.sub (Float64.div (Float64.sub mx b) rng) (Float64.div (Float64.sub mx g) rng)
  else if (Float64.cmp g mx == some .eq) = true then Float64.sub (Float64.add 4611686018427387904 (Float64.div (Float64.sub mx r) rng)) (Float64.div (Float64.sub mx b) rng)
  else Float64.sub (Float64.add 4616189618054758400 (Float64.div (Float64.sub mx g) rng)) (Float64.div (Float64.sub mx r) rng)
/-- rgb_to_hls; none where it would divide by nought -/
noncomputable def rgbF (r g b : UInt64) : Option (UInt64 × UInt64 × UInt64) :=
  if (Float64.cmp (mn3 r g b) (mx3 r g b) == some .eq) = true then some (0, Float64.div (Float64.add (mx3 r g b) (mn3 r g b)) 4611686018427387904, 0)
  else if Float64.isZero (Float64.sub (mx3 r g b) (mn3 r g b)) = true then none
  else if leF (Float64.div (Float64.add (mx3 r g b) (mn3 r g b)) 4611686018427387904) 4602678819172646912 = true then
    if Float64.isZero (Float64.add (mx3 r g b) (mn3 r g b)) = true then none
    else some ((Float64.divmod (Float64.div (hueF r g b (mx3 r g b) (Float64.sub (mx3 r g b) (mn3 r g b))) 4618441417868443648) 4607182418800017408).snd, Float64.div (Float64.add (mx3 r g b) (mn3 r g b)) 4611686018427387904, Float64.div (Float64.sub (mx3 r g b) (mn3 r g b)) (Float64.add (mx3 r g b) (mn3 r g b)))
  else
    if Float64.isZero (Float64.sub (Float64.sub 4611686018427387904 (mx3 r g b)) (mn3 r g b)) = true then none
    else some ((Float64.divmod (Float64.div (hueF r g b (mx3 r g b) (Float64.sub (mx3 r g b) (mn3 r g b))) 4618441417868443648) 4607182418800017408).snd, Float64.div (Float64.add (mx3 r g b) (mn3 r g b)) 4611686018427387904, Float64.div (Float64.sub (mx3 r g b) (mn3 r g b)) (Float64.sub (Float64.sub 4611686018427387904 (mx3 r g b)) (mn3 r g b)))
end Mine
end
section
open PySem PySem.W PyProof.Rows PySem.Calls PySem.Spec
set_option Elab.async false
set_option maxRecDepth 100000
set_option maxHeartbeats 8000000
namespace Mine
theorem c_v : ∀ (w : World) (mean : ExcName → Option Value) (mg mb : Str → Option Value) (m1 m2 hue : UInt64) (t1 t2 t3 : Tok),
   Con w mean mg mb 35 2 (fun _ => True) [.float m1 t1, .float m2 t2, .float hue t3] (isF (vF m1 m2 hue)) := by
  unfold Con
  k_fill
  intros
  rename_i hret
  refine wpAny_call ?_
  k_dflt cell_enter
  k_steps
  all_goals (refine' ret_f hret ?e1 ?e2 ?e3 ?e4; (case e2 => k_asm); (case e3 => k_asm); (case e4 => kcj_all); (case e1 => simp only [vF, *, if_true, if_false, Bool.false_eq_true]))
end Mine
end
section
set_option Elab.async false
set_option maxRecDepth 100000
namespace Mine
open PySem PySem.W PyProof.Rows PySem.Calls PySem.Spec PySem.Flt


theorem max3 {prog : Program} {w : World} {A : Around} {E : Value → Shared → Prop} {s : Shared} {Q : Value → Shared → Prop} {x y z : UInt64} {t u k : Tok} {h₀ : Heap} {L : Addr} {m : Str → Option Value} {news : List (Addr × Obj)}
    (hh : A.handled = none) (F : Fr h₀ L s.heap m) (N : News h₀ L s.heap news)
    (h : ∀ h' tk v, Fr h₀ L h' m → News h₀ L h' news → Q (.float (mx3 x y z) v) { s with heap := h', toks := tk }) :
    wpAny (model prog w) A (call (.builtin "max") [.float x t, .float y u, .float z k]) Q E s := by
  have hT : (s.heap.push { cls := .type "tuple", data := .seq #[.float x t, .float y u, .float z k] }).IsTuple s.heap.objs.size #[.float x t, .float y u, .float z k] := ⟨_, Heap.get?_push_size _ rfl, rfl, 0, rfl⟩
  refine call_max_three (wpAny_pyIter_tuple hT ?_)
  have hsz : (s.heap.push { cls := .type "tuple", data := .seq #[.float x t, .float y u, .float z k] }).objs.size = s.heap.objs.size + 1 := Heap.size_push ..
  refine ⟨_, [_, s.heap.objs.size], [_], _, _, _, _, rfl, Walks.tuple (A := A.in1) hh _ s.heap.objs.size (by rw [hsz]; exact Nat.ne_of_lt (Nat.lt_succ_self _)) #[.float x t, .float y u, .float z k],
    ⟨⟨_, Heap.get?_push_size _ rfl, rfl, rfl⟩, hT.push _⟩, fun c hc => ?_, by simp, cmpOf_gt #[.float x t, .float y u, .float z k] (fun v hv => by simp at hv; rcases hv with rfl | rfl | rfl <;> exact .float _ _), fun v h' tk hP hk => ?_⟩
  · show c < ((s.heap.push _).push _).objs.size
    rw [Heap.size_push, hsz]
    rcases List.mem_cons.mp hc with rfl | hc
    · rw [hsz]; exact Nat.lt_succ_self _
    · rcases List.mem_cons.mp hc with rfl | hc
      · exact Nat.lt_succ_of_lt (Nat.lt_succ_self _)
      · cases hc
  · have hold : ∀ c o, s.heap.get? c = some o → h'.get? c = some o := fun c o e => by
      refine hk c o (fun hm => ?_) (Heap.get?_push_of_some _ (Heap.get?_push_of_some _ e))
      rcases List.mem_cons.mp hm with e1 | hm
      · have := Heap.lt_size e; rw [e1, hsz] at this; exact Nat.lt_irrefl _ (Nat.lt_of_succ_lt this)
      · cases hm
    have hv : ∃ q, v = .float (mx3 x y z) q := by
      cases h1 : (Float64.cmp x y == some .lt)
      · cases h2 : (Float64.cmp x z == some .lt)
        · simp [argBest, ltV, h1, h2] at hP; exact ⟨_, by rw [← hP]; simp [mx3, h1, h2]; rfl⟩
        · simp [argBest, ltV, h1, h2] at hP; exact ⟨_, by rw [← hP]; simp [mx3, h1, h2]; rfl⟩
      · cases h2 : (Float64.cmp y z == some .lt)
        · simp [argBest, ltV, h1, h2] at hP; exact ⟨_, by rw [← hP]; simp [mx3, h1, h2]; rfl⟩
        · simp [argBest, ltV, h1, h2] at hP; exact ⟨_, by rw [← hP]; simp [mx3, h1, h2]; rfl⟩
    obtain ⟨q, rfl⟩ := hv
    exact h h' tk q (F.grownK hold) (N.grown hold)
theorem min3 {prog : Program} {w : World} {A : Around} {E : Value → Shared → Prop} {s : Shared} {Q : Value → Shared → Prop} {x y z : UInt64} {t u k : Tok} {h₀ : Heap} {L : Addr} {m : Str → Option Value} {news : List (Addr × Obj)}
    (hh : A.handled = none) (F : Fr h₀ L s.heap m) (N : News h₀ L s.heap news)
    (h : ∀ h' tk v, Fr h₀ L h' m → News h₀ L h' news → Q (.float (mn3 x y z) v) { s with heap := h', toks := tk }) :
    wpAny (model prog w) A (call (.builtin "min") [.float x t, .float y u, .float z k]) Q E s := by
  have hT : (s.heap.push { cls := .type "tuple", data := .seq #[.float x t, .float y u, .float z k] }).IsTuple s.heap.objs.size #[.float x t, .float y u, .float z k] := ⟨_, Heap.get?_push_size _ rfl, rfl, 0, rfl⟩
  refine call_min_three (wpAny_pyIter_tuple hT ?_)
  have hsz : (s.heap.push { cls := .type "tuple", data := .seq #[.float x t, .float y u, .float z k] }).objs.size = s.heap.objs.size + 1 := Heap.size_push ..
  refine ⟨_, [_, s.heap.objs.size], [_], _, _, _, _, rfl, Walks.tuple (A := A.in1) hh _ s.heap.objs.size (by rw [hsz]; exact Nat.ne_of_lt (Nat.lt_succ_self _)) #[.float x t, .float y u, .float z k],
    ⟨⟨_, Heap.get?_push_size _ rfl, rfl, rfl⟩, hT.push _⟩, fun c hc => ?_, by simp, cmpOf_lt #[.float x t, .float y u, .float z k] (fun v hv => by simp at hv; rcases hv with rfl | rfl | rfl <;> exact .float _ _), fun v h' tk hP hk => ?_⟩
  · show c < ((s.heap.push _).push _).objs.size
    rw [Heap.size_push, hsz]
    rcases List.mem_cons.mp hc with rfl | hc
    · rw [hsz]; exact Nat.lt_succ_self _
    · rcases List.mem_cons.mp hc with rfl | hc
      · exact Nat.lt_succ_of_lt (Nat.lt_succ_self _)
      · cases hc
  · have hold : ∀ c o, s.heap.get? c = some o → h'.get? c = some o := fun c o e => by
      refine hk c o (fun hm => ?_) (Heap.get?_push_of_some _ (Heap.get?_push_of_some _ e))
      rcases List.mem_cons.mp hm with e1 | hm
      · have := Heap.lt_size e; rw [e1, hsz] at this; exact Nat.lt_irrefl _ (Nat.lt_of_succ_lt this)
      · cases hm
    have hv : ∃ q, v = .float (mn3 x y z) q := by
      cases h1 : (Float64.cmp y x == some .lt)
      · cases h2 : (Float64.cmp z x == some .lt)
        · simp [argBest, ltV, h1, h2] at hP; exact ⟨_, by rw [← hP]; simp [mn3, h1, h2]; rfl⟩
        · simp [argBest, ltV, h1, h2] at hP; exact ⟨_, by rw [← hP]; simp [mn3, h1, h2]; rfl⟩
      · cases h2 : (Float64.cmp z y == some .lt)
        · simp [argBest, ltV, h1, h2] at hP; exact ⟨_, by rw [← hP]; simp [mn3, h1, h2]; rfl⟩
        · simp [argBest, ltV, h1, h2] at hP; exact ⟨_, by rw [← hP]; simp [mn3, h1, h2]; rfl⟩
    obtain ⟨q, rfl⟩ := hv
    exact h h' tk q (F.grownK hold) (N.grown hold)
end Mine
end
section
set_option Elab.async false
set_option maxRecDepth 100000
namespace Mine
open PySem PySem.W PyProof.Rows PySem.Calls PySem.Spec
/-- the heap with the handed objects taken out -/
noncomputable abbrev hid (h : Heap) (led : List (Addr × Obj)) : Heap := hideAll h (led.map (·.1))
/-- a def's end, told of the heap that it was given (g) and of the objects handed in (led) -/
noncomputable def FinL (g : Heap) (led : List (Addr × Obj)) (R : List (Addr × Obj) → Value → Prop) (s₀ : Shared) (v : Value) (s' : Shared) : Prop :=
  ∃ new h' tk' L', s' = { s₀ with heap := h', toks := tk' } ∧ R new v ∧ News g L' h' (new ++ led) ∧ (∀ q ∈ new, ∀ p ∈ led, q.1 ≠ p.1) ∧ ∀ b o, g.get? b = some o → h'.get? b = some o
/-- where a def's value goes: the heap stands, new objects are new -/
noncomputable abbrev RetL (R : List (Addr × Obj) → Value → Prop) (s : Shared) (Q : Value → Shared → Prop) : Prop :=
  ∀ (v : Value) (h' : Heap) (tk' : Nat) (new : List (Addr × Obj)), R new v → s.heap.StaysIn h' → (∀ q ∈ new, h'.get? q.1 = some q.2 ∧ s.heap.get? q.1 = none) → Q v { s with heap := h', toks := tk' }
/-- what a def of the text does when it is called, the objects handed in written out -/
noncomputable def ConL (w : World) (mean : ExcName → Option Value) (mg mb : Str → Option Value) (f : Addr) (need : Nat) (led : List (Addr × Obj)) (P : Prop) (vs : List Value) (R : List (Addr × Obj) → Value → Prop) : Prop :=
  ∀ (dp un : Nat) (gd : Option (List Code)) (cn : Str) (cs : Scope) (a : Addr) (ccd : Value) (cl : List (Str × Addr)) (outer : List Env) (A₀ : Around) (base h₀ : Heap) (L : Addr) (m : Str → Option Value) (s : Shared) (Q E : Value → Shared → Prop),
    Below A₀ base outer h₀ → Fr h₀ L s.heap m → (K0 w.params).In h₀ → News h₀ L s.heap led → Top q0 (looseW q0 loose0) mean mg mb h₀ → cs.kind = .function → P → dp + need < recursionLimit → un + 10 * need < cLine →
    RetL R s Q →
    wpAny (model PySem.Challenge.rw_rl0121_01.row.prog w) (ktrTop dp un gd cn cs L a ccd cl outer) (call (.ref f) vs) Q E s
theorem finL_ret {R : List (Addr × Obj) → Value → Prop} {s s' : Shared} {Q : Value → Shared → Prop} {led : List (Addr × Obj)} {h₀ : Heap} {L : Addr} {v : Value} (N : News h₀ L s.heap led) (hret : RetL R s Q) (h : FinL (hid s.heap led) led R s v s') : Q v s' := by
  obtain ⟨new, h', tk', L', rfl, hR, N', hne, hk⟩ := h
  refine hret v h' tk' new hR (fun b o e => ?_) fun q hq => ⟨(N' q (List.mem_append_left _ hq)).1, ?_⟩
  · by_cases hb : b ∈ led.map (·.1)
    · obtain ⟨p, hp, rfl⟩ := List.mem_map.mp hb
      have h1 := (N p hp).1
      have h2 := (N' p (List.mem_append_right _ hp)).1
      exact h2.trans (h1.symm.trans e)
    · exact hk b o (hideAll_get _ e hb)
  · have h1 := (N' q (List.mem_append_left _ hq)).2.2
    cases e : s.heap.get? q.1 with
    | none => rfl
    | some o =>
      have hb : q.1 ∉ led.map (·.1) := fun hb => by
        obtain ⟨p, hp, e⟩ := List.mem_map.mp hb
        exact hne q hq p hp e.symm
      rw [hideAll_get _ e hb] at h1; cases h1
section
variable {prog : Program} {w : World} {A A₀ : Around} {E : Value → Shared → Prop} {s : Shared} {K : Frag} {L : Addr} {h₀ base : Heap} {m mg mb : Str → Option Value} {led : List (Addr × Obj)} {p : Program} {loose : List Str} {mean : ExcName → Option Value} {Q : Value → Shared → Prop}
  {env : Env} {outer : List Env} {R : List (Addr × Obj) → Value → Prop} {name qual : Str} {params : Arguments} {body : List Stmt} {scope : Scope} {dV kV doc pm cdv ct oc : Value} {an od : Option Addr} {osl : Array (Option Value)} {f : Addr} {args : Args} {binds : List (Str × Value)}
theorem enterL (B : Below A₀ base outer h₀) (F : Fr h₀ L s.heap m) (X₀ : K.In h₀) (N : News h₀ L s.heap led) (T : Top p loose mean mg mb h₀) (hret : RetL R s Q) (hA : A.frames = some (env :: outer)) (hf : env.frame = some L) (hke : env.scope.kind = .function)
    (ho : K.lookup f = some ⟨oc, od, .func (fnOf name qual params body scope dV kV doc pm an cdv ct), osl⟩) (hcd : codeIn K cdv qual = true) (hroom : A.depth < recursionLimit)
    (hbind : BindsTo s (fnOf name qual params body scope dV kV doc pm an cdv ct) args binds) (hloc : ∀ y ∈ binds, scope.names.lookup y.1 = some .local)
    (h : ∀ g L' h₁, Fr h₀ L g m → Fr g L' h₁ (fun y => binds.reverse.lookup y) → News g L' h₁ led → Below A base (env :: outer) g → K.In g → Top p loose mean mg mb g → (∀ p ∈ led, p.1 < L') →
      wpAny (model prog w) (A.deeper (envOf qual scope L' f cdv)) (execs body (envOf qual scope L' f cdv))
        (fun fl s' => LeaveK h₀ L m g (fun r s' => match r with | .ok (.ret v) => FinL g led R s v s' | .ok _ => False | .error e => E e s') (match fl with | .ret v => v | _ => .none) s')
        (fun e s' => wpAny (model prog w) (A.deeper (envOf qual scope L' f cdv)) (leaving (envOf qual scope L' f cdv) e) (fun _ s'' => E e s'') (fun e' s'' => E e' s'') s')
        { s with heap := h₁, toks := s.toks + binds.length })
    (hco : scope.isCoroutine = false) (hgen : scope.isGenerator = false) (hk : scope.kind = .function)
    (hcell : ∀ x ∈ scope.names, x.2 ≠ .cell) : codeAny (model prog w) A (.call (.ref f) args) (fun r s' => match r with | .ok (.ret v) => Q v s' | .ok _ => False | .error e => E e s') s := by
  obtain ⟨FG, BG, st, _⟩ := groundX (R := fun _ _ => True) B F N hA hf hke
  refine codeAny_call_def (fd := fnX name qual params body scope [] dV kV doc pm an cdv ct) (body := body) (binds := binds) hroom ((X₀.keeps F.keep) _ _ ho) rfl (T.nolimit.keeps F.keep) (codeRec_of (X₀.keeps F.keep) hcd) rfl hbind hcell hloc (fun h₁ hns hk₁ => ?_) hco hgen hk
  refine wpAny_mono (h _ s.heap.objs.size h₁ FG ⟨hns, fun b o e => hk₁ b o (of_hideAll _ e), Nat.le_of_eq (hideAll_size _ _)⟩
    (fun p hp => ⟨hk₁ _ _ (N p hp).1, Nat.ne_of_lt (Heap.lt_size (N p hp).1), hideAll_none _ (List.mem_map_of_mem hp)⟩) BG (X₀.keeps st) (T.keeps st) (fun p hp => Heap.lt_size (N p hp).1)) (fun fl s' hl => ?_) fun _ _ y => y
  have hl := groundX (R := fun r s' => match r with | .ok (.ret v) => FinL (hid s.heap led) led R s v s' | .ok _ => False | .error e => E e s') B F N hA hf hke |>.2.2.2 _ _ hl
  exact finL_ret N hret hl
theorem enterLC (B : Below A₀ base outer h₀) (F : Fr h₀ L s.heap m) (X₀ : K.In h₀) (N : News h₀ L s.heap led) (T : Top p loose mean mg mb h₀) (hret : RetL R s Q) (hA : A.frames = some (env :: outer)) (hf : env.frame = some L) (hke : env.scope.kind = .function)
    (ho : K.lookup f = some ⟨oc, od, .func (fnOf name qual params body scope dV kV doc pm an cdv ct), osl⟩) (hcd : codeIn K cdv qual = true) (hroom : A.depth < recursionLimit)
    (hbind : BindsTo s (fnOf name qual params body scope dV kV doc pm an cdv ct) args binds) (hkind : (binds.all fun y => scope.names.lookup y.1 == some .local || scope.names.lookup y.1 == some .cell) = true)
    (hnd : ((cellsFrom 0 scope.names []).map (·.1)).Nodup)
    (h : ∀ g L' h₁ tk cells, Fr h₀ L g m → Fr g L' h₁ (bindL (envOfC qual scope L' f cdv).kindOf binds fun _ => none) → News g L' h₁ (cells ++ led) →
      CellsAre (bindC (envOfC qual scope L' f cdv).kindOf binds fun _ => none) (cellsFrom (L' + 1) scope.names []) cells → Below A base (env :: outer) g → K.In g → Top p loose mean mg mb g → (∀ p ∈ led, p.1 < L') →
      wpAny (model prog w) (A.deeper (envOfC qual scope L' f cdv)) (execs body (envOfC qual scope L' f cdv))
        (fun fl s' => LeaveK h₀ L m g (fun r s' => match r with | .ok (.ret v) => FinL g led R s v s' | .ok _ => False | .error e => E e s') (match fl with | .ret v => v | _ => .none) s')
        (fun e s' => wpAny (model prog w) (A.deeper (envOfC qual scope L' f cdv)) (leaving (envOfC qual scope L' f cdv) e) (fun _ s'' => E e s'') (fun e' s'' => E e' s'') s')
        { s with heap := h₁, toks := tk })
    (hco : scope.isCoroutine = false) (hgen : scope.isGenerator = false) (hk : scope.kind = .function) : codeAny (model prog w) A (.call (.ref f) args) (fun r s' => match r with | .ok (.ret v) => Q v s' | .ok _ => False | .error e => E e s') s := by
  obtain ⟨FG, BG, st, _⟩ := groundX (R := fun _ _ => True) B F N hA hf hke
  refine codeAny_call_function hroom ((X₀.keeps F.keep) _ _ ho) (fd := fnX name qual params body scope [] dV kV doc pm an cdv ct) rfl hco hgen rfl (codeRec_of (X₀.keeps F.keep) hcd) (hbind _ _ _ _ ?_)
  refine wpAny_newFunctionEnv_cells hk (kindsX hkind _) fun env' he s' x => ?_
  subst he
  refine ⟨(T.nolimit.keeps F.keep).keeps x.toInCall.keep, codeAny_func ?_⟩
  obtain ⟨h₁, tk, rfl, _⟩ := x.done
  have hk₁ := x.toInCall.keep
  obtain ⟨cells, NC, Y⟩ := Cl.news (h₀ := s.heap) (Nat.le_refl _) fun n c hm => ⟨x.cell n c (lookup_of_mem_nodup (cellsFrom_names scope.names 0 (s.heap.objs.size + 1) [] [] rfl ▸ hnd) hm), x.above n c hm⟩
  refine wpAny_mono (h _ s.heap.objs.size h₁ tk cells FG ⟨x.toInCall.ns, fun b o e => hk₁ b o (of_hideAll _ e), Nat.le_of_eq (hideAll_size _ _)⟩ (fun p hp => ?_) Y BG (X₀.keeps st) (T.keeps st) (fun p hp => Heap.lt_size (N p hp).1)) (fun fl s' hl => ?_) fun _ _ y => y
  · rcases List.mem_append.mp hp with hp | hp
    · refine ⟨(NC p hp).1, (NC p hp).2.1, ?_⟩
      cases q : (hideAll s.heap (led.map (·.1))).get? p.1 with
      | none => rfl
      | some o => have := of_hideAll _ q; rw [(NC p hp).2.2] at this; cases this
    · exact ⟨hk₁ _ _ (N p hp).1, Nat.ne_of_lt (Heap.lt_size (N p hp).1), hideAll_none _ (List.mem_map_of_mem hp)⟩
  · have hl := groundX (R := fun r s' => match r with | .ok (.ret v) => FinL (hid s.heap led) led R s v s' | .ok _ => False | .error e => E e s') B F N hA hf hke |>.2.2.2 _ _ hl
    exact finL_ret N hret hl
end
/-- the caller's side -/
theorem ConL.go {w : World} {mean : ExcName → Option Value} {mg mb : Str → Option Value} {f : Addr} {need : Nat} {led : List (Addr × Obj)} {P : Prop} {vs : List Value} {R : List (Addr × Obj) → Value → Prop}
    {dp un : Nat} {gd : Option (List Code)} {cn : Str} {cs : Scope} {a : Addr} {ccd : Value} {cl : List (Str × Addr)} {outer : List Env} {A₀ : Around} {base h₀ : Heap} {L : Addr} {m : Str → Option Value} {news : List (Addr × Obj)} {s : Shared} {Q E : Value → Shared → Prop}
    (c : ConL w mean mg mb f need led P vs R) (B : Below A₀ base outer h₀) (F : Fr h₀ L s.heap m) (X : (K0 w.params).In h₀) (N : News h₀ L s.heap news) (T : Top q0 (looseW q0 loose0) mean mg mb h₀) (hk : cs.kind = .function) (hl : ∀ p ∈ led, p ∈ news) (hp : P) (hd : dp + need < recursionLimit) (hu : un + 10 * need < cLine)
    (hret : ∀ (v : Value) (h' : Heap) (tk' : Nat) (new : List (Addr × Obj)), R new v → (∀ p ∈ news, ∀ q ∈ new, p.1 ≠ q.1) → Fr h₀ L h' m → News h₀ L h' (new ++ news) → Q v { s with heap := h', toks := tk' }) :
    wpAny (model PySem.Challenge.rw_rl0121_01.row.prog w) (ktrTop dp un gd cn cs L a ccd cl outer) (call (.ref f) vs) Q E s := by
  refine c dp un gd cn cs a ccd cl outer A₀ base h₀ L m s Q E B F X (fun p h => N p (hl p h)) T hk hp hd hu fun v h' tk' new hR st hn => ?_
  have F' : Fr h₀ L h' m := ⟨F.ns.keeps st, fun b o e => st b o (F.keep b o e), F.above⟩
  refine hret v h' tk' new hR (fun p hp q hq e => ?_) F' fun q hq => ?_
  · have h1 := (N p hp).1
    rw [e, (hn q hq).2] at h1; cases h1
  · rcases List.mem_append.mp hq with hq | hq
    · refine ⟨(hn q hq).1, fun e => ?_, ?_⟩
      · obtain ⟨o, _, _, h1, _⟩ := F.ns
        rw [← e, (hn q hq).2] at h1; cases h1
      · cases e : h₀.get? q.1 with
        | none => rfl
        | some o => have := F.keep _ _ e; rw [(hn q hq).2] at this; cases this
    · exact ⟨st _ _ (N q hq).1, (N q hq).2⟩
end Mine
end
section
open PySem PySem.W PyProof.Rows PySem.Calls PySem.Spec PySem.Builtin.Str
set_option Elab.async false
set_option maxRecDepth 100000
namespace Mine
noncomputable abbrev tup3f (a b c : UInt64) (ta tb tc : Tok) : Obj := { cls := .type "tuple", data := .seq #[.float a ta, .float b tb, .float c tc] }
/-- no run lowers the count of tokens -/
theorem runs_toks {M : Model} {Γ : PySem.Ctx} {p : Pos} {t : Sem Fin} {fs : List Frame} {s s' : Shared} {e : End} (h : Runs M Γ p t fs s e s') : s.toks ≤ s'.toks := by
  induction h with
  | done | raise | yield => exact Nat.le_refl _
  | fresh _ ih => exact Nat.le_trans (Nat.le_succ _) ih
  | call _ _ ih1 ih2 => exact Nat.le_trans ih1 ih2
  | resumeFresh _ _ _ _ ih1 ih2 => exact Nat.le_trans ih1 ih2
  | resumeSuspended _ _ _ _ ih1 ih2 => exact Nat.le_trans ih1 ih2
  | segRet _ _ ih1 ih2 => exact Nat.le_trans ih1 ih2
  | segGen _ _ ih1 ih2 => exact Nat.le_trans ih1 ih2
  | segSuspGen _ _ _ _ ih1 ih2 => exact Nat.le_trans ih1 ih2
  | _ => first | assumption | (rename_i ih; exact ih)
theorem wakes_toks {M : Model} {Γ : PySem.Ctx} {p : Pos} {g : Nat} {r : Resume} {s s' : Shared} {res : GenResult} (h : Wakes M Γ p g r s res s') : s.toks ≤ s'.toks := by
  unfold Wakes at h
  split at h
  · exact h.elim
  · split at h
    · obtain ⟨e, s1, h1, _, _, rfl⟩ := h; have q := runs_toks h1; exact q
    · rw [h.2]; exact Nat.le_refl _
    · rw [h.2]; exact Nat.le_refl _
  · obtain ⟨e, s1, h1, _, _, rfl⟩ := h; have q := runs_toks h1; exact q
  · rw [h.2]; exact Nat.le_refl _
  · rw [h.2]; exact Nat.le_refl _
theorem wp_toks {X : Type} {post : X → Pos → Shared → Prop} {exc : Value → Pos → Shared → Prop} (M : Model) (Γ : PySem.Ctx) (t : Sem X) (n : Nat) (p : Pos) (s : Shared) (hn : n ≤ s.toks)
    (h : Sem.wp M Γ t (fun a p' s' => n ≤ s'.toks → post a p' s') (fun a p' s' => n ≤ s'.toks → exc a p' s') p s) : Sem.wp M Γ t post exc p s := by
  induction t generalizing p s with
  | pure x => exact h hn
  | raise v => exact h hn
  | unsupported | finish | yield | fork | await | register => exact h
  | rule _ k ih | «at» _ k ih | alloc _ k ih | loadIfAlive _ k ih | point _ k ih | ask k ih | os _ _ k ih | handled _ k ih | newGen _ k ih | stack k ih | thread k ih => exact ih _ _ _ hn h
  | fresh k ih => exact ih _ _ _ (Nat.le_trans hn (Nat.le_succ _)) h
  | load a _ k ih | genState a k ih => obtain ⟨o, ho, h⟩ := h; exact ⟨o, ho, ih _ _ _ hn h⟩
  | update a _ f k ih | choose _ _ k ih => obtain ⟨ha, h⟩ := h; exact ⟨ha, ih _ _ _ hn h⟩
  | call c hh g l k ih =>
    obtain ⟨r, s1, hr, h⟩ := h
    exact ⟨r, s1, hr, ih _ _ _ (Nat.le_trans hn (runs_toks hr)) h⟩
  | resume g r l k ih =>
    obtain ⟨res, s1, hw, h⟩ := h
    exact ⟨res, s1, hw, ih _ _ _ (Nat.le_trans hn (wakes_toks hw)) h⟩
theorem wpAny_toks {X : Type} {M : Model} {A : Around} {t : Sem X} {Q : X → Shared → Prop} {E : Value → Shared → Prop} {s : Shared}
    (h : wpAny M A t (fun v s' => s.toks ≤ s'.toks → Q v s') E s) : wpAny M A t Q E s :=
  fun Γ p hΓ => by
    refine wp_toks M Γ t s.toks p s (Nat.le_refl _) ?_
    exact Sem.wp_mono (post' := fun a _ s' => s.toks ≤ s'.toks → Q a s') (exc' := fun a _ s' => s.toks ≤ s'.toks → E a s') M Γ t (fun _ _ _ h => h) (fun _ _ _ h _ => h) p s (h Γ p hΓ)
/-- a tuple of three floats comes back, each of them made -/
noncomputable def isT3n (x y z : UInt64) (new : List (Addr × Obj)) (v : Value) : Prop := ∃ a t1 t2 t3, v = .ref a ∧ new = [(a, tup3f x y z t1 t2 t3)] ∧ t1 ≠ 0 ∧ t2 ≠ 0 ∧ t3 ≠ 0
theorem ConL.goT {w : World} {mean : ExcName → Option Value} {mg mb : Str → Option Value} {f : Addr} {need : Nat} {led : List (Addr × Obj)} {P : Prop} {vs : List Value} {x y z : UInt64}
    {dp un : Nat} {gd : Option (List Code)} {cn : Str} {cs : Scope} {a : Addr} {ccd : Value} {cl : List (Str × Addr)} {outer : List Env} {A₀ : Around} {base h₀ : Heap} {L : Addr} {m : Str → Option Value} {news : List (Addr × Obj)} {s : Shared} {Q E : Value → Shared → Prop}
    (c : ConL w mean mg mb f need led P vs (isT3n x y z)) (B : Below A₀ base outer h₀) (F : Fr h₀ L s.heap m) (X : (K0 w.params).In h₀) (N : News h₀ L s.heap news) (T : Top q0 (looseW q0 loose0) mean mg mb h₀) (hk : cs.kind = .function) (hl : ∀ p ∈ led, p ∈ news) (hp : P) (hd : dp + need < recursionLimit) (hu : un + 10 * need < cLine)
    (hret : ∀ (D : Addr) (t1 t2 t3 : Tok) (h' : Heap) (tk' : Nat), t1 ≠ 0 → t2 ≠ 0 → t3 ≠ 0 → (∀ p ∈ news, p.1 ≠ D) → Fr h₀ L h' m → News h₀ L h' ((D, tup3f x y z t1 t2 t3) :: news) → Q (.ref D) { s with heap := h', toks := tk' }) :
    wpAny (model PySem.Challenge.rw_rl0121_01.row.prog w) (ktrTop dp un gd cn cs L a ccd cl outer) (call (.ref f) vs) Q E s :=
  c.go B F X N T hk hl hp hd hu fun v h' tk' new ⟨D, t1, t2, t3, e1, e2, n1, n2, n3⟩ hne F' N' => by
    subst e1 e2
    exact hret D t1 t2 t3 h' tk' n1 n2 n3 (fun p hp => hne p hp _ (.head _)) F' N'
section
variable {X : Type} {M : Model} {A : Around} {t : Sem X} {Q : X → Shared → Prop} {E : Value → Shared → Prop} {hp : Heap} {g : Array GenState} {d : Drawn} {os : OsState}
theorem tok_gen {n : Nat} (h : ∀ tk : Nat, 0 < tk → wpAny M A t Q E ⟨hp, g, d, tk, os⟩) : wpAny M A t Q E ⟨hp, g, d, n + 1, os⟩ := h _ (Nat.succ_pos n)
theorem tok_gen0 {n : Nat} (h0 : 0 < n) (h : ∀ tk : Nat, 0 < tk → wpAny M A t Q E ⟨hp, g, d, tk, os⟩) : wpAny M A t Q E ⟨hp, g, d, n, os⟩ := h _ h0
end
theorem fin_t3n {g h' : Heap} {L' : Addr} {m' : Str → Option Value} {led news' : List (Addr × Obj)} {x y z x' y' z' : UInt64} {t1 t2 t3 : Tok} {D : Addr} {s : Shared} {tk : Nat}
    (e : some (x', y', z') = some (x, y, z)) (F : Fr g L' h' m') (N : News g L' h' news') (hD : (D, tup3f x' y' z' t1 t2 t3) ∈ news') (hs : ∀ p ∈ led, p ∈ news') (hl : ∀ p ∈ led, p.1 < D) (h1 : @LT.lt Nat _ 0 t1) (h2 : @LT.lt Nat _ 0 t2) (h3 : @LT.lt Nat _ 0 t3) :
    FinL g led (isT3n x y z) s (.ref D) { s with heap := h', toks := tk } := by
  simp only [Option.some.injEq, Prod.mk.injEq] at e
  obtain ⟨rfl, rfl, rfl⟩ := e
  refine ⟨[(D, tup3f x' y' z' t1 t2 t3)], h', tk, L', rfl, ⟨D, t1, t2, t3, rfl, rfl, Nat.ne_of_gt h1, Nat.ne_of_gt h2, Nat.ne_of_gt h3⟩, fun p hp => ?_, fun q hq p hp => ?_, F.keep⟩
  · rcases List.mem_append.mp hp with hp | hp
    · rw [List.mem_singleton.mp hp]; exact N _ hD
    · exact N p (hs p hp)
  · rw [List.mem_singleton.mp hq]; exact (Nat.ne_of_lt (hl p hp)).symm
end Mine
end
section
open PySem PySem.W PyProof.Rows PySem.Calls PySem.Spec PySem.Builtin.Str
set_option Elab.async false
set_option maxRecDepth 100000
set_option maxHeartbeats 8000000
set_option pp.deepTerms false
set_option pp.maxSteps 3000
namespace Mine
local macro_rules | `(tactic| walk_at "call builtin:max") => `(tactic| (k_here; refine stopHere ?_))
local macro_rules | `(tactic| walk_at "call builtin:min") => `(tactic| (k_here; refine stopHere ?_))
local macro_rules | `(tactic| walk_at "execs cons") => `(tactic| (k_here; refine tok_gen ?_; intro tk htk))
local macro_rules | `(tactic| walk_at "execs nil") => `(tactic| (k_here; refine tok_gen ?_; intro tk htk))
theorem c_rgbL : ∀ (w : World) (mean : ExcName → Option Value) (mg mb : Str → Option Value) (r g b x y z : UInt64) (t1 t2 t3 : Tok),
   ConL w mean mg mb 21 2 [] (rgbF r g b = some (x, y, z)) [.float r t1, .float g t2, .float b t3] (isT3n x y z) := by
  unfold ConL
  k_fill
  intros
  rename_i hpre _ _ hret
  refine wpAny_call ?_
  k_dflt (refine' enterL ?k1 ?k2 ?k3 ?k4 ?k5 hret ?kA ?kF ?kK ?k6 ?k7 ?k8 ?k9 ?kB ?_ ?c2 ?c3 ?c4 ?c5; (case kA => exact rfl); (case kF => exact rfl); (case kK => assumption); (case k1 => k_asm); (case k2 => k_asm); (case k3 => k_asm); (case k4 => k_asm); (case k5 => k_asm); (case k6 => k_is); (case k7 => k_is); (case k8 => ktr_room); (case k9 => exact BindsTo.of_eq rfl); (case c5 => decide); (case kB => exact locs rfl); (case c2 => exact rfl); (case c3 => exact rfl); (case c4 => exact rfl); k_whole; intro g' L' h' FG' F' N' B' X' T' l1; (try dsimp only); (try k_lift B'); (try k_fold))
  clear hret
  refine tok_gen0 (Nat.add_pos_right _ (by with_unfolding_all exact Nat.lt_of_lt_of_le Nat.one_pos (Nat.le_add_left 1 2))) ?_
  intro tk0 htk0
  k_steps
  refine Stop.go ?_
  refine wpAny_toks ?_
  k_dflt (refine' max3 ?k0_a ?k1_a ?k2_a ?_; (case k0_a => exact rfl); (case k1_a => k_asm); (case k2_a => k_asm); k_whole)
  intro h' tk' v' F' N' ht'
  replace ht' := Nat.lt_of_lt_of_le (by dsimp only; omega) ht'
  (try dsimp only at ht')
  k_steps
  refine Stop.go ?_
  refine wpAny_toks ?_
  k_dflt (refine' min3 ?k0_b ?k1_b ?k2_b ?_; (case k0_b => exact rfl); (case k1_b => k_asm); (case k2_b => k_asm); k_whole)
  intro h' tk' v' F' N' ht'
  replace ht' := Nat.lt_of_lt_of_le (by dsimp only; omega) ht'
  (try dsimp only at ht')
  k_steps
  all_goals try (refine' fin_t3n ?e1 ?e2 ?e3 ?e4 ?e5 ?e6 ?e7 ?e8 ?e9; (case e2 => k_asm); (case e3 => k_asm); (case e4 => exact .head _); (case e5 => exact fun _ h => nomatch h); (case e6 => exact fun _ h => nomatch h); (case e7 => omega); (case e8 => omega); (case e9 => omega); (case e1 => (rw [← hpre]; simp only [rgbF, leF, hueF, *, if_true, if_false, Bool.false_eq_true])))
  all_goals (exfalso; revert hpre; simp only [rgbF, leF, *, if_true, if_false, Bool.false_eq_true, reduceCtorEq, ite_self, imp_self])
end Mine
end
section
open PySem PySem.W PyProof.Rows PySem.Calls PySem.Spec
set_option Elab.async false
set_option maxRecDepth 100000
set_option maxHeartbeats 8000000
set_option pp.deepTerms false
set_option pp.maxSteps 3000
namespace Mine
noncomputable def hlsF (h l s : UInt64) : UInt64 × UInt64 × UInt64 :=
  if (Float64.cmp s 0 == some .eq) = true then (l, l, l)
  else
    let m2 := if leF l 4602678819172646912 = true then Float64.mul l (Float64.add 4607182418800017408 s) else Float64.sub (Float64.add l s) (Float64.mul l s)
    let m1 := Float64.sub (Float64.mul 4611686018427387904 l) m2
    (vF m1 m2 (Float64.add h 4599676419421066581), vF m1 m2 h, vF m1 m2 (Float64.sub h 4599676419421066581))
local macro_rules | `(tactic| walk_at "call ref") => `(tactic| (k_here; refine stopHere ?_))
theorem c_hls : ∀ (w : World) (mean : ExcName → Option Value) (mg mb : Str → Option Value) (h l s x y z : UInt64) (t1 t2 t3 : Tok),
   Con w mean mg mb 28 4 (fun _ => hlsF h l s = (x, y, z)) [.float h t1, .float l t2, .float s t3] (isT3 x y z) := by
  unfold Con
  k_fill
  intros
  rename_i hpre _ _ hret
  refine wpAny_call ?_
  k_dflt cell_enter
  k_steps
  iterate 3
    all_goals
      try
        refine Stop.go ?_
        k_dflt (refine' Con.goF (c_v _ _ _ _ _ _ _ _ _ _) ?k1 ?k2 ?k3 ?k4 ?k5 ?kK ?kp ?kd ?ku ?_; (case k1 => k_asm); (case k2 => k_asm); (case k3 => k_asm); (case k4 => k_asm); (case k5 => k_asm); (case kK => first | exact rfl | assumption); (case kp => trivial); (case kd => ktr_room); (case ku => ktr_units); k_whole)
        intro t9 h9 tk9 F9 N9
        (try dsimp only)
        (try k_fold)
        k_steps
  all_goals (refine' ret_t3 hret ?e1 ?e2 ?e3 ?e4 ?e5 ?e6; (case e2 => k_asm); (case e3 => k_asm); (case e4 => exact .head _); (case e5 => kcj_all); (case e6 => assumption); (case e1 => (rw [← hpre]; simp only [hlsF, leF, *, if_true, if_false, Bool.false_eq_true])))
end Mine
end
section
open PySem PySem.W PyProof.Rows PySem.Calls PySem.Spec
set_option Elab.async false
set_option maxRecDepth 100000
set_option maxHeartbeats 8000000
set_option pp.deepTerms false
set_option pp.maxSteps 3000
namespace Mine
/-- hsv_to_rgb; none where int() would raise or be huge -/
noncomputable def hsvF (h s v : UInt64) : Option (UInt64 × UInt64 × UInt64) :=
  if (Float64.cmp s 0 == some .eq) = true then some (v, v, v)
  else if Float64.isNaN (Float64.mul h 4618441417868443648) = true then none
  else if Float64.isInf (Float64.mul h 4618441417868443648) = true then none
  else if 1000 ≤ (Flt.toInt Float64.truncOf (Float64.mul h 4618441417868443648)).natAbs then none
  else if (Flt.toInt Float64.truncOf (Float64.mul h 4618441417868443648)).fmod 6 = 0 then
    some (v, Float64.mul v (Float64.sub 4607182418800017408 (Float64.mul s (Float64.sub 4607182418800017408 (Float64.sub (Float64.mul h 4618441417868443648) (Float64.ofInt (Flt.toInt Float64.truncOf (Float64.mul h 4618441417868443648))))))), Float64.mul v (Float64.sub 4607182418800017408 s))
  else if (Flt.toInt Float64.truncOf (Float64.mul h 4618441417868443648)).fmod 6 = 1 then
    some (Float64.mul v (Float64.sub 4607182418800017408 (Float64.mul s (Float64.sub (Float64.mul h 4618441417868443648) (Float64.ofInt (Flt.toInt Float64.truncOf (Float64.mul h 4618441417868443648)))))), v, Float64.mul v (Float64.sub 4607182418800017408 s))
  else if (Flt.toInt Float64.truncOf (Float64.mul h 4618441417868443648)).fmod 6 = 2 then
    some (Float64.mul v (Float64.sub 4607182418800017408 s), v, Float64.mul v (Float64.sub 4607182418800017408 (Float64.mul s (Float64.sub 4607182418800017408 (Float64.sub (Float64.mul h 4618441417868443648) (Float64.ofInt (Flt.toInt Float64.truncOf (Float64.mul h 4618441417868443648))))))))
  else if (Flt.toInt Float64.truncOf (Float64.mul h 4618441417868443648)).fmod 6 = 3 then
    some (Float64.mul v (Float64.sub 4607182418800017408 s), Float64.mul v (Float64.sub 4607182418800017408 (Float64.mul s (Float64.sub (Float64.mul h 4618441417868443648) (Float64.ofInt (Flt.toInt Float64.truncOf (Float64.mul h 4618441417868443648)))))), v)
  else if (Flt.toInt Float64.truncOf (Float64.mul h 4618441417868443648)).fmod 6 = 4 then
    some (Float64.mul v (Float64.sub 4607182418800017408 (Float64.mul s (Float64.sub 4607182418800017408 (Float64.sub (Float64.mul h 4618441417868443648) (Float64.ofInt (Flt.toInt Float64.truncOf (Float64.mul h 4618441417868443648))))))), Float64.mul v (Float64.sub 4607182418800017408 s), v)
  else some (v, Float64.mul v (Float64.sub 4607182418800017408 s), Float64.mul v (Float64.sub 4607182418800017408 (Float64.mul s (Float64.sub (Float64.mul h 4618441417868443648) (Float64.ofInt (Flt.toInt Float64.truncOf (Float64.mul h 4618441417868443648)))))))
theorem hsv_facts {h s v : UInt64} {r : UInt64 × UInt64 × UInt64} (e : hsvF h s v = some r) (hs : (Float64.cmp s 0 == some .eq) = false) :
    Float64.isNaN (Float64.mul h 4618441417868443648) = false ∧ Float64.isInf (Float64.mul h 4618441417868443648) = false ∧ ¬ 1000 ≤ (Flt.toInt Float64.truncOf (Float64.mul h 4618441417868443648)).natAbs := by
  unfold hsvF at e
  rw [if_neg (by rw [hs]; exact Bool.false_ne_true)] at e
  split at e
  · cases e
  · split at e
    · cases e
    · split at e
      · cases e
      · rename_i a b c
        exact ⟨by simpa using a, by simpa using b, c⟩
theorem fmod6 (i : Int) : 0 ≤ i.fmod 6 ∧ i.fmod 6 < 6 := by rw [Int.fmod_eq_emod_of_nonneg i (by decide)]; omega
theorem c_hsv : ∀ (w : World) (mean : ExcName → Option Value) (mg mb : Str → Option Value) (h s v x y z : UInt64) (t1 t2 t3 : Tok),
   Con w mean mg mb 42 4 (fun _ => hsvF h s v = some (x, y, z)) [.float h t1, .float s t2, .float v t3] (isT3 x y z) := by
  unfold Con
  k_fill
  intro w mean mg mb h s v x y z t1 t2 t3
  intros
  rename_i hpre _ _ hret
  refine wpAny_call ?_
  k_dflt cell_enter
  k_steps
  all_goals first
    | (exfalso; have hf := hsv_facts hpre (by assumption); first | (rename Float64.isNaN _ = true => hq; rw [hf.1] at hq; cases hq) | (rename Float64.isInf _ = true => hq; rw [hf.2.1] at hq; cases hq) | (rename 2 ^ 1024 - 2 ^ 970 ≤ _ => hq; exact hf.2.2 (Nat.le_trans (by decide) hq)))
    | (refine' ret_t3 hret ?e1 ?e2 ?e3 ?e4 ?e5 ?e6; (case e2 => k_asm); (case e3 => k_asm); (case e4 => exact .head _); (case e5 => kcj_all); (case e6 => assumption); (case e1 => (rw [← hpre]; first | (simp only [hsvF, *, if_true]; done) | (have hf := hsv_facts hpre (by assumption); simp only [hsvF, *, hf.1, hf.2.1, hf.2.2, if_true, if_false, Bool.false_eq_true, ne_eq, not_false_eq_true]; try rfl))))
    | (exfalso; have hb := fmod6 (Flt.toInt Float64.truncOf (Float64.mul h 4618441417868443648)); generalize (Flt.toInt Float64.truncOf (Float64.mul h 4618441417868443648)).fmod 6 = i at *; clear hret hpre; omega)
end Mine
end
section
set_option Elab.async false
set_option maxRecDepth 100000
namespace Mine
open PySem PySem.W PyProof.Rows PySem.Calls PySem.Spec
noncomputable section
noncomputable def b1nums : List Int := [65024, 65025, 65026, 65027, 65028, 65029, 6150, 65030, 65031, 65032, 65033, 6155, 6156, 6157, 8203, 8204, 8205, 65034, 65035, 65036, 65037, 65038, 65039, 173, 847, 8288, 65279]
noncomputable def b1B (k : Int) : Bool := b1nums.contains k
noncomputable def b3ents : List DictEntry := ents 3 339 (b3pairs.take 646) ++ ents 2 2277 (b3pairs.drop 646)
/-- what the table of exceptions tells of a number -/
noncomputable def b3At (k : Int) : Option Str := (b3pairs.find? fun x => x.1 == k).map (·.2)
theorem hash_small {k : Int} (h0 : 0 ≤ k) (h1 : k < 2 ^ 60) : hashInt k = k := by
  unfold hashInt
  rw [raw_small h0 h1, if_neg (by simp; omega)]
theorem find_ents {d : Nat} (k : Int) : ∀ (l : List (Int × Str)) (t : Nat), ∃ u, ((ents d t l).find? fun e => Value.isInt k e.key).map (·.val) = ((l.find? fun x => x.1 == k).map fun x => Value.str x.2 u)
  | [], _ => ⟨0, rfl⟩
  | (i, x) :: r, t => by
    show ∃ u, ((ent1 i t x :: ents d (t + d) r).find? _).map _ = _
    cases hk : i == k with
    | true =>
      rw [List.find?_cons_of_pos (by exact hk), List.find?_cons_of_pos (by exact hk)]
      exact ⟨t + 1, rfl⟩
    | false =>
      rw [List.find?_cons_of_neg (by intro q; have q' : (i == k) = true := q; rw [hk] at q'; cases q'), List.find?_cons_of_neg (by intro q; have q' : (i == k) = true := q; rw [hk] at q'; cases q')]
      exact find_ents k r (t + d)
theorem b3_find (k : Int) : ∃ u, (b3ents.find? fun e => Value.isInt k e.key).map (·.val) = (b3At k).map fun x => Value.str x u := by
  unfold b3ents b3At
  rw [List.find?_append, ← List.take_append_drop 646 b3pairs, List.find?_append]
  obtain ⟨u1, e1⟩ := find_ents (d := 3) k (b3pairs.take 646) 339
  obtain ⟨u2, e2⟩ := find_ents (d := 2) k (b3pairs.drop 646) 2277
  rw [List.take_append_drop]
  cases h1 : (b3pairs.take 646).find? (fun x => x.1 == k) with
  | some y =>
    rw [h1] at e1
    cases h3 : (ents 3 339 (b3pairs.take 646)).find? (fun e => Value.isInt k e.key) with
    | some z => rw [h3] at e1; exact ⟨u1, e1⟩
    | none => rw [h3] at e1; cases e1
  | none =>
    rw [h1] at e1
    cases h3 : (ents 3 339 (b3pairs.take 646)).find? (fun e => Value.isInt k e.key) with
    | some z => rw [h3] at e1; cases e1
    | none =>
      refine ⟨u2, ?_⟩
      simp only [Option.none_or]
      rw [e2]
      cases (b3pairs.drop 646).find? (fun x => x.1 == k) <;> rfl
theorem ents_keys {d : Nat} {prog : Program} {w : World} {l : List (Int × Str)} {t : Nat} (hb : ∀ x ∈ l, 0 ≤ x.1 ∧ x.1 < 2 ^ 60) : ∀ e ∈ ents d t l, ∃ k, (intKind prog w).is k e.key = true ∧ e.hash = (intKind prog w).hash k := by
  induction l generalizing t with
  | nil => exact fun e h => absurd h (List.not_mem_nil (a := e))
  | cons x r ih =>
    obtain ⟨i, x⟩ := x
    intro e h
    rcases List.mem_cons.mp h with h | h
    · rw [h]
      have := hb (i, x) (.head _)
      exact ⟨i, by show (i == i) = true; simp, (hash_small this.1 this.2).symm⟩
    · exact ih (fun y hy => hb y (.tail _ hy)) e h
section
variable {w : World} {A : Around} {E : Value → Shared → Prop} {s : Shared} {h₀ : Heap} {L : Addr} {m : Str → Option Value} {prog : Program}
theorem b3_map {h : Heap} (X : (K0 w.params).In h) : h.MapOf (intKind prog w) 68 (fun k => (b3ents.find? fun e => Value.isInt k e.key).map (·.val)) :=
  ⟨b3Obj, b3ents.toArray, 650, X 68 b3Obj (by kernel_rfl), ⟨rfl, rfl, rfl⟩, rfl, fun e he => by
    rcases List.mem_append.mp (List.mem_toArray.mp he) with q | q
    · exact ents_keys (fun x hx => b3_good.2 x (List.mem_of_mem_take hx)) e q
    · exact ents_keys (fun x hx => b3_good.2 x (List.mem_of_mem_drop hx)) e q, fun k => by unfold findBy; rw [List.find?_toArray]; rfl⟩
theorem getM_b3 {pl : Sem Bool} {Q : Value × List Value → Shared → Prop} (F : Fr h₀ L s.heap m) (X : (K0 w.params).In h₀) (h : Q (.builtin "dict.get", [.ref 68]) s) : wpAny (model prog w) A (getMethod (.ref 68) (Str.ofString "get") pl) Q E s :=
  have hm := b3_map (prog := prog) (X.keeps F.keep)
  getMethod_builtin hm.typeIs PySem.F.plainAttrs_dict PySem.F.slot_dict_get PySem.F.type_dict_get hm.noDict h
theorem get_b3 {k : Int} {t : Tok} {Q : Value → Shared → Prop} (F : Fr h₀ L s.heap m) (X : (K0 w.params).In h₀) (h : ∀ u, Q (((b3At k).map fun x => Value.str x u).getD .none) { s with toks := s.toks + 1 }) :
    wpAny (model prog w) A (call (.builtin "dict.get") [.ref 68, .int k t]) Q E s := by
  have hm := b3_map (prog := prog) (X.keeps F.keep)
  obtain ⟨u, e⟩ := b3_find k
  refine call_meetsIn PySem.F.slot_dict_get hm.typeIs PySem.F.entry_dict_get (PySem.F.args_dict_get_2 _ _) (meets_dict_get (intKind prog w) 68 (by show (k == k) = true; simp) (by decide)) ⟨_, hm, ?_⟩
  show Q _ _
  rw [e]
  exact h u
noncomputable def elOk (e : Int × Value) : Bool := match e.2 with
  | .int k _ => decide (e.1 = k) && decide (0 ≤ k) && decide (k < 2 ^ 60)
  | _ => false
theorem elOk_spec {e : Int × Value} (h : elOk e = true) : ∃ t, e.2 = .int e.1 t ∧ 0 ≤ e.1 ∧ e.1 < 2 ^ 60 := by
  obtain ⟨i, v⟩ := e
  cases v with
  | int k t =>
    simp only [elOk, Bool.and_eq_true, decide_eq_true_eq] at h
    obtain ⟨⟨rfl, h1⟩, h2⟩ := h
    exact ⟨t, rfl, h1, h2⟩
  | _ => cases h
noncomputable def b1els : List (Int × Value) := [(65024, (.int 65024 288)), (65025, (.int 65025 289)), (65026, (.int 65026 290)), (65027, (.int 65027 291)), (65028, (.int 65028 292)), (65029, (.int 65029 293)), (6150, (.int 6150 274)), (65030, (.int 65030 294)), (65031, (.int 65031 295)), (65032, (.int 65032 296)), (65033, (.int 65033 297)), (6155, (.int 6155 275)), (6156, (.int 6156 276)), (6157, (.int 6157 277)), (8203, (.int 8203 278)), (8204, (.int 8204 279)), (8205, (.int 8205 280)), (65034, (.int 65034 298)), (65035, (.int 65035 299)), (65036, (.int 65036 300)), (65037, (.int 65037 301)), (65038, (.int 65038 302)), (65039, (.int 65039 303)), (173, (.int 173 272)), (847, (.int 847 273)), (8288, (.int 8288 281)), (65279, (.int 65279 282))]
theorem b1els_ok : b1els.all elOk = true := by decide +kernel
theorem in_b1 {k : Int} {t : Tok} {Q : Value → Shared → Prop} (F : Fr h₀ L s.heap m) (X : (K0 w.params).In h₀) (h : Q (.bool (b1B k)) { s with toks := s.toks + 1 }) :
    wpAny (model prog w) A (compareOp .In (.int k t) (.ref 57)) Q E s := by
  have ho : s.heap.get? 57 = some (o57c w.params) := X.keeps F.keep 57 _ (by kernel_rfl)
  have hel : ∀ e ∈ b1els, ∃ t, e.2 = .int e.1 t ∧ 0 ≤ e.1 ∧ e.1 < 2 ^ 60 := fun e he => elOk_spec (List.all_eq_true.mp b1els_ok e he)
  refine wpAny_inSet_of (knd := intKind prog w) (n := 27) (S := b1B) (by show (k == k) = true; simp) rfl ⟨o57c w.params, b1els.toArray, 29, _, ho, ⟨rfl, rfl, rfl⟩, rfl, fun e he => ?_, fun j => ?_, ?_, ?_, rfl⟩ h
  · obtain ⟨u, e2, h1, h2⟩ := hel e he
    exact ⟨⟨e.1, by rw [e2]; show (e.1 == e.1) = true; simp, (hash_small h1 h2).symm⟩, by rw [e2]; rfl⟩
  · have hn : b1nums = b1els.map (·.1) := rfl
    unfold b1B
    rw [hn, List.contains_iff_mem, List.mem_map]
    refine ⟨fun ⟨e, he, hj⟩ => ⟨e, he, ?_⟩, fun ⟨e, he, hj⟩ => ⟨e, he, ?_⟩⟩
    · obtain ⟨u, e2, _⟩ := hel e he
      rw [e2, ← hj]; show (e.1 == e.1) = true; simp
    · obtain ⟨u, e2, _⟩ := hel e he
      rw [e2] at hj
      have hj' : (e.1 == j) = true := hj
      exact beq_iff_eq.mp hj'
  · decide
  · rfl
end
end
end Mine
end
section
open PySem PySem.W PyProof.Rows PySem.Calls PySem.Spec
set_option Elab.async false
set_option maxRecDepth 100000
set_option maxHeartbeats 8000000
set_option pp.deepTerms false
set_option pp.maxSteps 3000
namespace Mine
/-- a bool comes back -/
noncomputable def isB (b : Bool) (new : List (Addr × Obj)) (v : Value) : Prop := v = .bool b ∧ new = []
/-- a text comes back -/
noncomputable def isS (x : Str) (new : List (Addr × Obj)) (v : Value) : Prop := ∃ t, v = .str x t ∧ new = []
section
variable {h₀ h' : Heap} {L : Addr} {m : Str → Option Value} {news news' : List (Addr × Obj)} {s : Shared} {Q : Value → Shared → Prop} {tk' : Nat}
theorem ret_b {x y : Bool} (hret : Ret (isB x) h₀ L m news s Q)
    (e : y = x) (F : Fr h₀ L h' m) (N : News h₀ L h' news') (hs : ∀ p ∈ news, p ∈ news') : Q (.bool y) { s with heap := h', toks := tk' } := by
  subst e
  exact hret _ h' tk' [] ⟨rfl, rfl⟩ (fun _ h => nomatch h) F (cb_drop N hs)
theorem ret_s {x y : Str} {t : Tok} (hret : Ret (isS x) h₀ L m news s Q)
    (e : y = x) (F : Fr h₀ L h' m) (N : News h₀ L h' news') (hs : ∀ p ∈ news, p ∈ news') : Q (.str y t) { s with heap := h', toks := tk' } := by
  subst e
  exact hret _ h' tk' [] ⟨t, rfl, rfl⟩ (fun _ h => nomatch h) F (cb_drop N hs)
end
local macro_rules | `(tactic| walk_at "compareOp In int ref") => `(tactic| (k_here; refine stopHere ?_))
local macro_rules | `(tactic| walk_at "getMethod ref") => `(tactic| (k_here; refine stopHere ?_))
local macro_rules | `(tactic| walk_at "call builtin:dict.get") => `(tactic| (k_here; refine stopHere ?_))
theorem fit1 (c : Nat) : (Str.mk #[c]).length ≤ 5592405 := by show 1 ≤ 5592405; decide
local macro_rules | `(tactic| walk_at "call builtin:str.lower") => `(tactic| (k_here; refine stopHere ?_))
theorem c_b1 : ∀ (w : World) (mean : ExcName → Option Value) (mg mb : Str → Option Value) (c : Nat) (t : Tok),
   Con w mean mg mb 67 2 (fun _ => c < 1114112) [.str ⟨#[c]⟩ t] (isB (b1B c)) := by
  unfold Con
  k_fill
  intro w mean mg mb c t
  intros
  rename_i hpre _ _ hret
  refine wpAny_call ?_
  k_dflt cell_enter
  k_steps
  refine Stop.go ?_
  k_dflt (refine' in_b1 ?k1 ?k2 ?_; (case k1 => k_asm); (case k2 => k_asm); k_whole)
  k_steps
  all_goals (refine' ret_b hret ?e1 ?e2 ?e3 ?e4; (case e2 => k_asm); (case e3 => k_asm); (case e4 => kcj_all); (case e1 => rfl))
theorem c_b3 : ∀ (w : World) (mean : ExcName → Option Value) (mg mb : Str → Option Value) (c : Nat) (t : Tok),
   Con w mean mg mb 113 2 (fun _ => c < 1114112) [.str ⟨#[c]⟩ t] (isS ((b3At c).getD (Txt.lower ⟨#[c]⟩))) := by
  unfold Con
  k_fill
  intro w mean mg mb c t
  intros
  rename_i hpre _ _ hret
  refine wpAny_call ?_
  k_dflt cell_enter
  k_steps
  refine Stop.go ?_
  k_dflt (refine' getM_b3 ?k1 ?k2 ?_; (case k1 => k_asm); (case k2 => k_asm); k_whole)
  k_steps
  refine Stop.go ?_
  k_dflt (refine' get_b3 ?k1 ?k2 ?_; (case k1 => k_asm); (case k2 => k_asm); k_whole)
  intro u9
  (cases hB3 : b3At _)
  all_goals dsimp only [Option.map, Option.getD]
  all_goals k_steps
  all_goals try (refine Stop.go ?_; refine SCL.lower (fit1 _) ?_; intro _; k_steps)
  all_goals (refine' ret_s hret ?e1 ?e2 ?e3 ?e4; (case e2 => k_asm); (case e3 => k_asm); (case e4 => kcj_all); (case e1 => simp only [*, Option.getD]))
end Mine
end
section
open PySem PySem.W PyProof.Rows PySem.Calls PySem.Spec
set_option Elab.async false
set_option maxRecDepth 100000
set_option maxHeartbeats 8000000
set_option pp.deepTerms false
set_option pp.maxSteps 3000
namespace Mine
noncomputable def menuA : List Int := [173, 847, 6150, 6155, 6156, 6157, 8203, 8204, 8205, 8288, 65279]
noncomputable def menuB : List Int := [119808, 119860, 119912, 120016, 120172, 120224, 120276, 120328, 120380, 120432]
theorem getD_in {l : List Int} {lo hi : Int} (h : (l.all fun x => decide (lo ≤ x) && decide (x ≤ hi)) = true) (h0 : lo ≤ 0 ∧ 0 ≤ hi) (i : Nat) : lo ≤ l.getD i 0 ∧ l.getD i 0 ≤ hi := by
  rw [List.getD_eq_getElem?_getD]
  cases e : l[i]? with
  | none => exact h0
  | some x =>
    have := List.all_eq_true.mp h x (List.mem_of_getElem? e)
    simpa using this
theorem menuA_in (i : Nat) : 0 ≤ menuA.getD i 0 ∧ menuA.getD i 0 ≤ 65279 := getD_in (by decide) (by decide) i
theorem menuB_in (i : Nat) : 0 ≤ menuB.getD i 0 ∧ menuB.getD i 0 ≤ 120432 := getD_in (by decide) (by decide) i
theorem menuL_in (i : Nat) : 0 ≤ [115, 116, 109].getD i (0 : Int) ∧ [115, 116, 109].getD i (0 : Int) ≤ 116 := getD_in (by decide) (by decide) i
theorem menuP_in {x : Int} (h0 : 0 ≤ x) (h1 : x ≤ 70000) (i : Nat) : 0 ≤ [x, 8482, 8480].getD i (0 : Int) ∧ [x, 8482, 8480].getD i (0 : Int) ≤ 70000 := getD_in (by simp; omega) (by omega) i
theorem fmod12 (i : Int) : 0 ≤ i.fmod 12 ∧ i.fmod 12 < 12 := by rw [Int.fmod_eq_emod_of_nonneg i (by decide)]; omega
theorem fmod2 (i : Int) : 0 ≤ i.fmod 2 ∧ i.fmod 2 < 2 := by rw [Int.fmod_eq_emod_of_nonneg i (by decide)]; omega
section
variable {prog : Program} {w : World} {A : Around} {E : Value → Shared → Prop} {s : Shared} {t : Tok} {Q : Value → Shared → Prop}
theorem chrA {i : Nat} (h : Q (.str ⟨#[(menuA.getD i 0).toNat]⟩ s.toks) { s with toks := s.toks + 1 }) : wpAny (model prog w) A (call (.builtin "chr") [.int ([173, 847, 6150, 6155, 6156, 6157, 8203, 8204, 8205, 8288, 65279].getD i 0) t]) Q E s :=
  chr_of_range (menuA_in i).1 (Int.le_trans (menuA_in i).2 (by decide)) h
theorem chrP {i : Nat} {f : Int} (h : Q (.str ⟨#[([64261 + f.fmod 2, 8482, 8480].getD i 0).toNat]⟩ s.toks) { s with toks := s.toks + 1 }) : wpAny (model prog w) A (call (.builtin "chr") [.int ([64261 + f.fmod 2, 8482, 8480].getD i 0) t]) Q E s :=
  have hf := fmod2 f
  have hb := menuP_in (x := 64261 + f.fmod 2) (by omega) (by omega) i
  chr_of_range hb.1 (by omega) h
theorem chrB {f : Int} {j : Nat} (h : Q (.str ⟨#[(menuB.getD (f.fmod 12 - 2).toNat 0 + [115, 116, 109].getD j 0 - 97).toNat]⟩ s.toks) { s with toks := s.toks + 1 }) : wpAny (model prog w) A (call (.builtin "chr") [.int ([119808, 119860, 119912, 120016, 120172, 120224, 120276, 120328, 120380, 120432].getD (f.fmod 12 - 2).toNat 0 + [115, 116, 109].getD j 0 - 97) t]) Q E s := by
  have hi : (f.fmod 12 - 2).toNat < 10 := by have := fmod12 f; omega
  generalize (f.fmod 12 - 2).toNat = i at *
  have hb := menuB_in i
  have hl := menuL_in j
  have hlo : 119808 ≤ menuB.getD i 0 := by
    have : ∀ i : Fin 10, 119808 ≤ menuB.getD i.1 0 := by decide
    exact this ⟨i, hi⟩
  exact chr_of_range (show 0 ≤ menuB.getD i 0 + _ - 97 by omega) (show menuB.getD i 0 + _ - 97 ≤ _ by omega) h
theorem item2 {value slice : Expr} {l : Addr} {v0 v1 : Value} {k : Int} {u : Tok} (hl : s.heap.IsList l #[v0, v1]) (h0 : 0 ≤ k) (h1 : k < 2) (hq0 : k = 0 → Q v0 s) (hq1 : k = 1 → Q v1 s)
    (hs : subscripted slice false (.ref l) (.int k u) = operate [.ref l, .int k u] (getItem (.ref l) (.int k u)) := by with_unfolding_all rfl) :
    wpAny (model prog w) A (subscriptTail value slice (.ref l) (.int k u)) Q E s := by
  rcases (by omega : k = 0 ∨ k = 1) with rfl | rfl
  · exact tail_any hl.typeIs slot_list_getitem.lookup (wpAny_getItem_list hl h0 (by decide) (by rfl) (hq0 rfl)) hs
  · exact tail_any hl.typeIs slot_list_getitem.lookup (wpAny_getItem_list hl h0 (by decide) (by rfl) (hq1 rfl)) hs
theorem item2m {value slice : Expr} {l : Addr} {v0 v1 : Value} {f : Int} {u : Tok} (hl : s.heap.IsList l #[v0, v1]) (h1 : f.fmod 12 < 2) (hq0 : f.fmod 12 = 0 → Q v0 s) (hq1 : f.fmod 12 = 1 → Q v1 s)
    (hs : subscripted slice false (.ref l) (.int (f.fmod 12) u) = operate [.ref l, .int (f.fmod 12) u] (getItem (.ref l) (.int (f.fmod 12) u)) := by with_unfolding_all rfl) :
    wpAny (model prog w) A (subscriptTail value slice (.ref l) (.int (f.fmod 12) u)) Q E s := item2 hl (fmod12 f).1 h1 hq0 hq1 hs
end
end Mine
end
local macro_rules | `(tactic| walk_at "own seal") => `(tactic| (k_here; (fail_if_success (with_reducible show PySem.wpAny _ _ _ (Mine.SealedV _) _ _)); (try dsimp only); refine Mine.seal_val ?_; intro Qs hUs))
local macro_rules | `(tactic| walk_at "eval Name") => `(tactic| (k_here; dsimp only))
local macro_rules | `(tactic| walk_at "eval BinOp") => `(tactic| walk_at "own seal")
local macro_rules | `(tactic| walk_at "eval BoolOp") => `(tactic| walk_at "own seal")
local macro_rules | `(tactic| walk_at "eval Subscript") => `(tactic| walk_at "own seal")
local macro_rules | `(tactic| walk_at "eval Call") => `(tactic| walk_at "own seal")
local macro_rules | `(tactic| walk_at "SealedV") => `(tactic| ((try dsimp only); with_reducible rename Mine.UnderV _ _ => hUs; with_reducible refine Mine.UnderV.go hUs _ _ ?_; clear hUs))
local macro_rules | `(tactic| walk_at "execs cons") => `(tactic| (k_here; (try k_gentoks); refine Mine.seal_cons ?_; intro Qs hUs))
local macro_rules | `(tactic| walk_at "Sealed") => `(tactic| ((try dsimp only); with_reducible rename Mine.Under _ _ _ _ _ _ _ => hUs; (with_reducible first | refine Mine.Under.next hUs _ ?_ | refine Mine.Under.out hUs _ _ PySem.Flow.noConfusion ?_); clear hUs))
section
open PySem PySem.W PyProof.Rows PySem.Calls PySem.Spec
set_option Elab.async false
set_option maxRecDepth 100000
set_option maxHeartbeats 8000000
set_option pp.deepTerms false
set_option pp.maxSteps 3000
namespace Mine
noncomputable def signS (kind form : Int) : Str :=
  if kind = 6 then
    if form.fmod 27 < 16 then ⟨#[(65024 + form.fmod 27).toNat]⟩ else ⟨#[(menuA.getD (form.fmod 27 - 16).toNat 0).toNat]⟩
  else if kind.fmod 2 = 1 then ⟨#[([64261 + form.fmod 2, 8482, 8480].getD (kind.fdiv 2).toNat 0).toNat]⟩
  else if form.fmod 12 < 2 then
    if form.fmod 12 = 0 then Txt.item (Str.ofString "stm") (kind.fdiv 2) else Txt.upper (Txt.item (Str.ofString "stm") (kind.fdiv 2))
  else ⟨#[(menuB.getD (form.fmod 12 - 2).toNat 0 + [115, 116, 109].getD (kind.fdiv 2).toNat 0 - 97).toNat]⟩
theorem sgn1 {kind form : Int} (h : kind = 6) (h2 : form.fmod 27 < 16) : (⟨#[(65024 + form.fmod 27).toNat]⟩ : Str) = signS kind form := by rw [signS, if_pos h, if_pos h2]
theorem sgn2 {kind form : Int} (h : kind = 6) (h2 : ¬ form.fmod 27 < 16) : (⟨#[(menuA.getD (form.fmod 27 - 16).toNat 0).toNat]⟩ : Str) = signS kind form := by rw [signS, if_pos h, if_neg h2]
theorem sgn3 {kind form : Int} (h : kind ≠ 6) (h2 : kind.fmod 2 = 1) : (⟨#[([64261 + form.fmod 2, 8482, 8480].getD (kind.fdiv 2).toNat 0).toNat]⟩ : Str) = signS kind form := by rw [signS, if_neg h, if_pos h2]
theorem sgn4 {kind form : Int} (h : kind ≠ 6) (h2 : kind.fmod 2 ≠ 1) (h3 : form.fmod 12 < 2) (h4 : form.fmod 12 = 0) : Txt.item (Str.ofString "stm") (kind.fdiv 2) = signS kind form := by rw [signS, if_neg h, if_neg h2, if_pos h3, if_pos h4]
theorem sgn5 {kind form : Int} (h : kind ≠ 6) (h2 : kind.fmod 2 ≠ 1) (h3 : form.fmod 12 < 2) (h4 : form.fmod 12 = 1) : Txt.upper (Txt.item (Str.ofString "stm") (kind.fdiv 2)) = signS kind form := by rw [signS, if_neg h, if_neg h2, if_pos h3, if_neg (by omega)]
theorem sgn6 {kind form : Int} (h : kind ≠ 6) (h2 : kind.fmod 2 ≠ 1) (h3 : ¬ form.fmod 12 < 2) : (⟨#[(menuB.getD (form.fmod 12 - 2).toNat 0 + [115, 116, 109].getD (kind.fdiv 2).toNat 0 - 97).toNat]⟩ : Str) = signS kind form := by rw [signS, if_neg h, if_neg h2, if_neg h3]
local macro_rules | `(tactic| walk_at "call builtin:chr") => `(tactic| (k_here; (with_reducible show wpAny _ _ (call (Value.builtin "chr") [Value.int (List.getD _ _ _) _]) _ _ _); first | with_reducible refine chrA ?_ | with_reducible refine chrP ?_))
local macro_rules | `(tactic| walk_at "call builtin:chr") => `(tactic| (k_here; (with_reducible show wpAny _ _ (call (Value.builtin "chr") [Value.int (List.getD _ _ _ + List.getD _ _ _ - 97) _]) _ _ _); with_reducible refine chrB ?_))
local macro_rules | `(tactic| walk_at "subscriptTail") => `(tactic| (k_here; (with_reducible show wpAny _ _ (subscriptTail _ _ (Value.ref _) (Value.int (Int.fmod _ 12) _)) _ _ _); (with_reducible refine' item2m ?k1 ?k3 ?_ ?_ ?k6); (case k1 => is_list); (case k3 => assumption); (case k6 => with_unfolding_all rfl); all_goals intro hIx9))
theorem c_sign : ∀ (w : World) (mean : ExcName → Option Value) (mg mb : Str → Option Value) (kind form : Int) (t u : Tok),
   Con w mean mg mb 120 2 (fun _ => 0 ≤ kind ∧ kind ≤ 6 ∧ 0 ≤ form ∧ form < 2000) [.int kind t, .int form u] (isS (signS kind form)) := by
  unfold Con
  k_fill
  intro w mean mg mb kind form t u
  intros
  rename_i hpre _ _ hret
  obtain ⟨hk0, hk6, hf0, hf1⟩ := hpre
  refine wpAny_call ?_
  k_dflt cell_enter
  k_steps
  all_goals (refine' ret_s hret ?e1 ?e2 ?e3 ?e4; (case e2 => k_asm); (case e3 => k_asm); (case e4 => kcj_all); (case e1 => first
    | exact sgn1 (by assumption) (by assumption)
    | exact sgn2 (by assumption) (by assumption)
    | exact sgn3 (by assumption) (by assumption)
    | exact sgn4 (by assumption) (by assumption) (by assumption) (by assumption)
    | exact sgn5 (by assumption) (by assumption) (by assumption) (by assumption)
    | exact sgn6 (by assumption) (by assumption) (by assumption)))
end Mine
end
section
open PySem PySem.W PyProof.Rows PySem.Calls PySem.Spec
set_option Elab.async false
set_option maxRecDepth 100000
set_option maxHeartbeats 4000000
set_option pp.deepTerms false
set_option pp.maxSteps 3000
namespace Mine
noncomputable abbrev tup3i (a b c : Int) (ta tb tc : Tok) : Obj := { cls := .type "tuple", data := .seq #[.int a ta, .int b tb, .int c tc] }
noncomputable abbrev fr (a n : Int) : UInt64 := Float64.ofFrac (decide (a < 0) != decide (n < 0)) a.natAbs n.natAbs
local macro_rules | `(tactic| walk_at "call ref") => `(tactic| (k_here; refine stopHere ?_))
/-- a tuple of three ints comes back -/
noncomputable def isT3i (x y z : Int) (new : List (Addr × Obj)) (v : Value) : Prop := ∃ a t1 t2 t3, v = .ref a ∧ new = [(a, tup3i x y z t1 t2 t3)]
theorem ret_t3i {h₀ h' : Heap} {L : Addr} {m : Str → Option Value} {news news' : List (Addr × Obj)} {s : Shared} {Q : Value → Shared → Prop} {tk' : Nat} {x y z x' y' z' : Int} {t1 t2 t3 : Tok} {D : Addr} (hret : Ret (isT3i x y z) h₀ L m news s Q)
    (e : (x', y', z') = (x, y, z)) (F : Fr h₀ L h' m) (N : News h₀ L h' news') (hD : (D, tup3i x' y' z' t1 t2 t3) ∈ news') (hs : ∀ p ∈ news, p ∈ news') (hl : ∀ p ∈ news, p.1 < D) :
    Q (.ref D) { s with heap := h', toks := tk' } := by
  simp only [Prod.mk.injEq] at e
  obtain ⟨rfl, rfl, rfl⟩ := e
  refine hret _ h' tk' _ ⟨D, t1, t2, t3, rfl, rfl⟩ (fun q hq p hp => ?_) F fun p hp => ?_
  · rw [List.mem_singleton.mp hq]; exact hl p hp
  · rcases List.mem_append.mp hp with hp | hp
    · rw [List.mem_singleton.mp hp]; exact N _ hD
    · exact N p (hs p hp)
noncomputable abbrev negX (n : Int) (x : UInt64) : UInt64 := Float64.add (Float64.mul (Float64.ofInt n) x) 4602678819172646912
noncomputable abbrev negI (n : Int) (x : UInt64) : Int := Flt.toInt Float64.truncOf (negX n x)
noncomputable def finB (x : UInt64) : Bool := !Float64.isNaN x && !Float64.isInf x
theorem finB_nan {x : UInt64} (h : finB x = true) (q : Float64.isNaN x = true) : False := by unfold finB at h; rw [q] at h; cases h
theorem finB_inf {x : UInt64} (h : finB x = true) (q : Float64.isInf x = true) : False := by unfold finB at h; rw [q] at h; simp at h
theorem c_neg : ∀ (w : World) (mean : ExcName → Option Value) (mg mb : Str → Option Value) (a b c n : Int) (D : Addr) (ta tb tc tn : Tok) (x1 y1 z1 x2 y2 z2 : UInt64),
   Con w mean mg mb 165 6 (fun news => (D, tup3i a b c ta tb tc) ∈ news ∧ 1 ≤ n ∧ n ≤ 7 ∧ 0 ≤ a ∧ a ≤ 14 ∧ 0 ≤ b ∧ b ≤ 14 ∧ 0 ≤ c ∧ c ≤ 14 ∧ rgbF (fr a n) (fr b n) (fr c n) = some (x1, y1, z1) ∧ hlsF (Float64.sub (fr 1 6) x1) (Float64.sub (Float64.ofInt 1) y1) z1 = (x2, y2, z2) ∧ finB (negX n x2) = true ∧ finB (negX n y2) = true ∧ finB (negX n z2) = true) [.ref D, .int n tn] (isT3i (negI n x2) (negI n y2) (negI n z2)) := by
  unfold Con
  k_fill
  intro w mean mg mb a b c n D ta tb tc tn x1 y1 z1 x2 y2 z2
  intros
  rename_i hpre _ _ hret
  obtain ⟨hD, hn0, hn1, ha0, ha1, hb0, hb1, hc0, hc1, hr, hh, hx, hy, hz⟩ := hpre
  refine wpAny_call ?_
  k_dflt cell_enter
  k_steps
  refine Stop.go ?_
  k_dflt (refine' ConL.goT (c_rgbL _ _ _ _ _ _ _ _ _ _ _ _ _) ?k1_a ?k2_a ?k3_a ?k4_a ?k5_a ?kK_a ?kl_a ?kp_a ?kd_a ?ku_a ?_; (case kl_a => exact fun _ h => nomatch h); (case kp_a => assumption); (case k1_a => k_asm); (case k2_a => k_asm); (case k3_a => k_asm); (case k4_a => k_asm); (case k5_a => k_asm); (case kK_a => first | exact rfl | assumption); (case kd_a => ktr_room); (case ku_a => ktr_units); k_whole)
  intro D9 ta9 tb9 tc9 h9 tk9 na9 nb9 nc9 l9 F9 N9
  (try dsimp only)
  (try k_fold)
  k_steps
  refine Stop.go ?_
  k_dflt (refine' Con.goT (c_hls _ _ _ _ _ _ _ _ _ _ _ _ _) ?k1_b ?k2_b ?k3_b ?k4_b ?k5_b ?kK_b ?kp_b ?kd_b ?ku_b ?_; (case kp_b => assumption); (case k1_b => k_asm); (case k2_b => k_asm); (case k3_b => k_asm); (case k4_b => k_asm); (case k5_b => k_asm); (case kK_b => first | exact rfl | assumption); (case kd_b => ktr_room); (case ku_b => ktr_units); k_whole)
  intro D9 ta9 tb9 tc9 h9 tk9 l9 F9 N9
  (try dsimp only)
  (try k_lt l9)
  (try k_fold)
  k_steps
  all_goals first
    | (exfalso; first | exact finB_nan hx (by assumption) | exact finB_nan hy (by assumption) | exact finB_nan hz (by assumption) | exact finB_inf hx (by assumption) | exact finB_inf hy (by assumption) | exact finB_inf hz (by assumption))
    | (refine' ret_t3i hret ?e1 ?e2 ?e3 ?e4 ?e5 ?e6; (case e2 => k_asm); (case e3 => k_asm); (case e4 => exact .head _); (case e5 => kcj_all); (case e6 => first | assumption | ((rename _ ∧ _ ∧ AllLt _ _ => q9); exact ktn_ltOf q9.2.2) | ((rename _ ∧ AllLt _ _ => q9); exact ktn_ltOf q9.2)); (case e1 => rfl))
    | (clear hret; trace_state)
end Mine
end
section
set_option Elab.async false
set_option maxRecDepth 100000
namespace Mine
open PySem PySem.W PyProof.Rows PySem.Calls PySem.Spec
theorem Fr_named {h₀ h : Heap} {L : Addr} {m : Str → Option Value} {x : Str} {v : Option Value} (F : Fr h₀ L h m) (e : m x = v) : Fr h₀ L h (fun y => if y = x then v else m y) := by
  have : (fun y => if y = x then v else m y) = m := by
    funext y
    by_cases hy : y = x
    · rw [if_pos hy, hy, e]
    · rw [if_neg hy]
  rw [this]; exact F
/-- the end of a turn -/
inductive EndG (h₀ : Heap) (L : Addr) (J : (Str → Option Value) → List (Addr × Obj) → Prop) (I : Addr) (own : List (Addr × Obj)) (s₁ s₂ : Shared) : Prop
  | mk (h' : Heap) (tk : Nat) (m' : Str → Option Value) (news' all : List (Addr × Obj)) (e : s₂ = { s₁ with heap := h', toks := tk }) (F : Fr h₀ L h' m') (N : News h₀ L h' all) (h1 : ∀ p ∈ news', p ∈ all) (h2 : ∀ p ∈ own, p ∈ all) (h3 : ∀ p ∈ news', p.1 ≠ I) (hj : J m' news') : EndG h₀ L J I own s₁ s₂
noncomputable def PostG (h₀ : Heap) (L : Addr) (J : (Str → Option Value) → List (Addr × Obj) → Prop) (I : Addr) (own : List (Addr × Obj)) (s₁ : Shared) (Q : Flow → Shared → Prop) (f : Flow) (s₂ : Shared) : Prop :=
  match f with
  | .ret v => Q (.ret v) s₂
  | .brk => Q .next s₂
  | _ => EndG h₀ L J I own s₁ s₂
section
variable {prog : Program} {w : World} {A : Around} {E : Value → Shared → Prop} {s : Shared} {env : Env} {h₀ : Heap} {x : Str} {body : List Stmt} {Q : Flow → Shared → Prop}
theorem iterW {I : Addr} {fp : List Addr} {n : Nat} {P : Nat → Value → Prop} {St : Nat → Heap → Prop} {m₀ : Str → Option Value} {news : List (Addr × Obj)} (J : Nat → (Str → Option Value) → List (Addr × Obj) → Prop)
    (W : Walks prog w A I fp [I] n P St) (hLf : env.locals ∉ fp) (hI : h₀.get? I = none) (hst : St 0 s.heap) (F : Fr h₀ env.locals s.heap m₀) (N : News h₀ env.locals s.heap news) (hnw : ∀ p ∈ news, p.1 ≠ I) (hj : J 0 m₀ news)
    (turn : ∀ i v m₁ news₁ h tk own, i < n → P i v → J i m₁ news₁ → (∀ p ∈ news₁, p.1 ≠ I) → ((∀ p ∈ own, p.1 ∈ fp) ∧ ((∀ i h, St i h → ∃ o, h.get? I = some o) → ∃ oI, (I, oI) ∈ own)) → Fr h₀ env.locals h (fun y => if y = x then some v else m₁ y) → News h₀ env.locals h (news₁ ++ own) →
      wpAny (model prog w) A (execs body env) (PostG h₀ env.locals (J (i + 1)) I own { s with heap := h, toks := tk } Q) E { s with heap := h, toks := tk })
    (done : ∀ m₁ news₁ h tk, J n m₁ news₁ → Fr h₀ env.locals h m₁ → News h₀ env.locals h news₁ → Q .next { s with heap := h, toks := tk }) :
    LoopAtV prog w A h₀ env x body Q E (.ref I) s := by
  refine ⟨I, fp, [I], n, P, St, m₀, news, J, rfl, W, hLf, fun b hb => List.mem_singleton.mp hb ▸ hI, fun p hp hb => hnw p hp (List.mem_singleton.mp hb), hst, F, N, hj, ?_, ?_⟩
  · rintro i v m₁ news₁ s₁ own ⟨hh', tk', rfl⟩ hin hP hJ hoff hown _ hall hst' F₁ N₁
    have hoff' : ∀ p ∈ news₁, p.1 ≠ I := fun p hp e => hoff p hp (List.mem_singleton.mpr e)
    refine wpAny_mono (turn i v m₁ news₁ hh' tk' own hin hP hJ hoff' ⟨hown, fun hl => (hl _ _ hst').imp fun o e => hall I (W.sub I (.head _)) hI o e⟩ F₁ fun p hp => N₁ p ((List.mem_append.mp hp).elim (List.mem_append_right _) (List.mem_append_left _))) (fun f s₂ p => ?_) fun _ _ e => e
    have fin : EndG h₀ env.locals (J (i + 1)) I own { s with heap := hh', toks := tk' } s₂ → LoopStepU h₀ env.locals [I] own (J (i + 1)) { s with heap := hh', toks := tk' } .next s₂ := by
      rintro ⟨h', tk, m', news', all, e, F', N', hn, ho, hI', hm⟩
      exact ⟨rfl, h', tk, m', news', e, F', fun p hp => N' p ((List.mem_append.mp hp).elim (ho p) (hn p)), fun p hp hb => hI' p hp (List.mem_singleton.mp hb), hm⟩
    cases f with
    | ret v => exact .ret p
    | brk => exact .brk p
    | next => exact .next (fin p)
    | cont => exact .cont (fin p)
  · intro h' tk m' news' F' N' _ hJ
    exact done m' news' h' tk hJ F' N'
/-- a loop over a list of the ledger -/
theorem iter_led {l : Addr} {vs : List Value} {o : Obj} {k : Nat} {m₀ : Str → Option Value} {news : List (Addr × Obj)} (J : Nat → (Str → Option Value) → List (Addr × Obj) → Prop)
    (hh : A.handled = none) (F : Fr h₀ env.locals s.heap m₀) (N : News h₀ env.locals s.heap news) (hm : (l, o) ∈ news) (hc : o.cls = .type "list") (hd : o.data = .seq vs.toArray k) (hj : J 0 m₀ news)
    (turn : ∀ I i v m₁ news₁ h tk own, vs[i]? = some v → J i m₁ news₁ → (∀ p ∈ news₁, p.1 ≠ I) → ((∀ p ∈ own, p.1 = I ∨ p.1 = l) ∧ ∃ oI, (I, oI) ∈ own) → Fr h₀ env.locals h (fun y => if y = x then some v else m₁ y) → News h₀ env.locals h (news₁ ++ own) →
      wpAny (model prog w) A (execs body env) (PostG h₀ env.locals (J (i + 1)) I own { s with heap := h, toks := tk } Q) E { s with heap := h, toks := tk })
    (done : ∀ m₁ news₁ h tk, J vs.length m₁ news₁ → Fr h₀ env.locals h m₁ → News h₀ env.locals h news₁ → Q .next { s with heap := h, toks := tk }) :
    wpAny (model prog w) A (pyIter (.ref l)) (fun it s₂ => LoopAtV prog w A h₀ env x body Q E it s₂) E s := by
  have hl : s.heap.IsList l vs.toArray := ⟨o, (N _ hm).1, hc, k, hd⟩
  have hlt : l < s.heap.objs.size := Heap.lt_size (N _ hm).1
  refine wpAny_pyIter_list hl ?_
  refine iterW J (Walks.list hh s.heap.objs.size l (Nat.ne_of_lt hlt) vs.toArray) ?_ (next_is_new F) ⟨⟨_, Heap.get?_push_size _ rfl, rfl, rfl⟩, hl.push _⟩ (F.push _) (fun p hp => ⟨Heap.get?_push_of_some _ (N p hp).1, (N p hp).2⟩)
    (fun p hp => Nat.ne_of_lt (Heap.lt_size (N p hp).1)) hj (fun i v m₁ news₁ h tk own hi hP hJ hoff hown F₁ N₁ => ?_) fun m₁ news₁ h tk hJ F₁ N₁ => ?_
  · intro hb
    rcases List.mem_cons.mp hb with e | hb
    · exact absurd F.ns.lt (e ▸ Nat.lt_irrefl _)
    · exact (N _ hm).2.1 (List.mem_singleton.mp hb).symm
  · exact turn _ i v m₁ news₁ h tk own (by simpa using hP) hJ hoff ⟨fun p hp => by simpa using hown.1 p hp, hown.2 fun _ _ st => let ⟨o, e, _⟩ := st.1; ⟨o, e⟩⟩ F₁ N₁
  · exact done m₁ news₁ h tk (by simpa using hJ) F₁ N₁
/-- a loop over the signs of a text -/
theorem iter_txt {z : Str} {t : Tok} {m₀ : Str → Option Value} {news : List (Addr × Obj)} (J : Nat → (Str → Option Value) → List (Addr × Obj) → Prop)
    (hh : A.handled = none) (F : Fr h₀ env.locals s.heap m₀) (N : News h₀ env.locals s.heap news) (hj : J 0 m₀ news)
    (turn : ∀ I i c u m₁ news₁ h tk own, z.cps[i]? = some c → J i m₁ news₁ → (∀ p ∈ news₁, p.1 ≠ I) → (∀ p ∈ own, p.1 = I) → Fr h₀ env.locals h (fun y => if y = x then some (.str ⟨#[c]⟩ u) else m₁ y) → News h₀ env.locals h (news₁ ++ own) →
      wpAny (model prog w) A (execs body env) (PostG h₀ env.locals (J (i + 1)) I own { s with heap := h, toks := tk } Q) E { s with heap := h, toks := tk })
    (done : ∀ m₁ news₁ h tk, J z.cps.size m₁ news₁ → Fr h₀ env.locals h m₁ → News h₀ env.locals h news₁ → Q .next { s with heap := h, toks := tk }) :
    wpAny (model prog w) A (pyIter (.str z t)) (fun it s₂ => LoopAtV prog w A h₀ env x body Q E it s₂) E s := by
  refine wpAny_pyIter_str fun o St W hst => ?_
  refine iterW J (W A hh) ?_ (next_is_new F) hst (F.push _) (fun p hp => ⟨Heap.get?_push_of_some _ (N p hp).1, (N p hp).2⟩)
    (fun p hp => Nat.ne_of_lt (Heap.lt_size (N p hp).1)) hj (fun i v m₁ news₁ h tk own hi hP hJ hoff hown F₁ N₁ => ?_) fun m₁ news₁ h tk hJ F₁ N₁ => done m₁ news₁ h tk hJ F₁ N₁
  · intro hb
    have e := List.mem_singleton.mp hb
    exact absurd F.ns.lt (e ▸ Nat.lt_irrefl _)
  · obtain ⟨c, u, hc, rfl⟩ := hP
    exact turn _ i c u m₁ news₁ h tk own hc hJ hoff (fun p hp => List.mem_singleton.mp (hown.1 p hp)) F₁ N₁
/-- a loop over a range from nought -/
theorem iter_rng {r : Addr} {a b : Int} {t u v : Tok} {n : Nat} {m₀ : Str → Option Value} {news : List (Addr × Obj)} (J : Nat → (Str → Option Value) → List (Addr × Obj) → Prop)
    (hh : A.handled = none) (F : Fr h₀ env.locals s.heap m₀) (N : News h₀ env.locals s.heap news) (hr : IsRange s.heap r a b 1 t u v) (hsm : Builtin.Range.small a b 1 = true) (hn : Builtin.Range.rangeSize a b 1 = ((n : Nat) : Int)) (hj : J 0 m₀ news)
    (turn : ∀ I i u m₁ news₁ h tk own, i < n → J i m₁ news₁ → (∀ p ∈ news₁, p.1 ≠ I) → (∀ p ∈ own, p.1 = I) → Fr h₀ env.locals h (fun y => if y = x then some (.int (a + (i : Nat)) u) else m₁ y) → News h₀ env.locals h (news₁ ++ own) →
      wpAny (model prog w) A (execs body env) (PostG h₀ env.locals (J (i + 1)) I own { s with heap := h, toks := tk } Q) E { s with heap := h, toks := tk })
    (done : ∀ m₁ news₁ h tk, J n m₁ news₁ → Fr h₀ env.locals h m₁ → News h₀ env.locals h news₁ → Q .next { s with heap := h, toks := tk }) :
    wpAny (model prog w) A (pyIter (.ref r)) (fun it s₂ => LoopAtV prog w A h₀ env x body Q E it s₂) E s := by
  refine wpAny_pyIter_range hr hsm ?_
  have W := Walks.range (prog := prog) (w := w) hh s.heap.objs.size a 1 n
  refine iterW J W ?_ (next_is_new F) (by show IsRangeIter _ _ _ _ _; rw [hn]; simpa using Heap.get?_push_size _ rfl) (F.push _) (fun p hp => ⟨Heap.get?_push_of_some _ (N p hp).1, (N p hp).2⟩)
    (fun p hp => Nat.ne_of_lt (Heap.lt_size (N p hp).1)) hj (fun i v m₁ news₁ h tk own hi hP hJ hoff hown F₁ N₁ => ?_) fun m₁ news₁ h tk hJ F₁ N₁ => done m₁ news₁ h tk hJ F₁ N₁
  · intro hb
    have e := List.mem_singleton.mp hb
    exact absurd F.ns.lt (e ▸ Nat.lt_irrefl _)
  · obtain ⟨u, rfl⟩ := hP
    rw [Int.mul_one] at F₁
    exact turn _ i u m₁ news₁ h tk own hi hJ hoff (fun p hp => List.mem_singleton.mp (hown.1 p hp)) F₁ N₁
end
end Mine
end
section
set_option Elab.async false
set_option maxRecDepth 100000
namespace Mine
open PySem PySem.W PyProof.Rows PySem.Calls PySem.Spec PySem.Builtin PySem.Builtin.Str
/-- str.find with both bounds -/
noncomputable def findB (x y : Str) (i j : Int) : Int := match occurrences x y (fromIndex x.length i) (min (fromIndex x.length j) x.length) 1 with | k :: _ => (k : Int) | [] => -1
theorem gives_findB (x y : Str) (i j : Int) (t u v v' : Tok) : Gives («str.find» ⟨[.str x t, .str y u, .int i v, .int j v'], []⟩) (.int (findB x y i j)) := by
  show Gives (match occurrences x y (fromIndex x.length i) (min (fromIndex x.length j) x.length) 1 with | k :: _ => retInt k | [] => (do rule "str.find.not-found"; retInt (-1))) _
  unfold findB
  cases occurrences x y (fromIndex x.length i) (min (fromIndex x.length j) x.length) 1 with
  | nil => exact .rule (.of_eq rfl)
  | cons k _ => exact .of_eq rfl
section
variable {prog : Program} {w : World} {A : Around} {E : Value → Shared → Prop} {s : Shared} {h₀ : Heap} {L : Addr} {m : Str → Option Value} {news news' : List (Addr × Obj)}
theorem find4 {x y : Str} {t u v v' : Tok} {i j : Int} {Q : Value → Shared → Prop} (hq : Q (.int (findB x y i j) s.toks) { s with toks := s.toks + 1 }) : wpAny (model prog w) A (call (.builtin "str.find") [.str x t, .str y u, .int i v, .int j v']) Q E s :=
  call_gives F.slot_str_find (typeIs_str _ _ _) F.entry_str_find (F.args_str_find_4 _ _ _ _) (gives_findB x y i j t u v v') hq
theorem split_parts {x y : Str} {t u : Tok} {a z : Str} {mid : List Str} {Q : Value → Shared → Prop} (hF : Fr h₀ L s.heap m) (hN : News h₀ L s.heap news) (hy : (y.length == 0) = false) (hsp : Txt.split x y = a :: (mid ++ [z]))
    (h : ∀ D ta tz lm h' k, lm.map (·.1) = mid → Fr h₀ L h' m → News h₀ L h' ((D, listOf (Value.str a ta :: (strValues lm ++ [Value.str z tz])).toArray 0) :: news) → (∀ p ∈ news, p.1 < D) → Q (.ref D) { s with heap := h', toks := k }) (hsz : x.length + 2 ≤ sizeLine) :
    wpAny (model prog w) A (call (.builtin "str.split") [.str x t, .str y u]) Q E s := by
  refine KSpl.split1 hF hN hy (fun D l h' k e _ F' N' hl => ?_) hsz
  rw [hsp] at e
  obtain ⟨ta, l', rfl, e2⟩ := KSpl.cons_of e
  obtain ⟨lm, lz, rfl, e3, e4⟩ := List.map_eq_append_iff.mp e2
  obtain ⟨tz, l5, rfl, e6⟩ := KSpl.cons_of e4
  rw [KSpl.nil_of e6] at N'
  refine h D ta tz lm h' k e3 F' ?_ hl
  have : strValues ((a, ta) :: (lm ++ [(z, tz)])) = Value.str a ta :: (strValues lm ++ [Value.str z tz]) := by simp [strValues]
  rw [← this]; exact N'
theorem isList_led {l : Addr} {its : Array Value} {n : Nat} (N : News h₀ L s.heap news) (hm : (l, listOf its n) ∈ news) : s.heap.IsList l its := ⟨_, (N _ hm).1, rfl, _, rfl⟩
theorem item_first {value slice : Expr} {l : Addr} {v : Value} {r : List Value} {n : Nat} {u : Tok} {Q : Value → Shared → Prop} (N : News h₀ L s.heap news) (hm : (l, listOf (v :: r).toArray n) ∈ news) (h : Q v s)
    (hs : subscripted slice false (.ref l) (.int 0 u) = operate [.ref l, .int 0 u] (getItem (.ref l) (.int 0 u)) := by with_unfolding_all rfl) :
    wpAny (model prog w) A (subscriptTail value slice (.ref l) (.int 0 u)) Q E s :=
  have hl := isList_led N hm
  tail_any hl.typeIs slot_list_getitem.lookup (wpAny_getItem_list hl (by decide) (by decide) rfl h) hs
theorem item_last {value slice : Expr} {l : Addr} {v : Value} {r : List Value} {n : Nat} {u : Tok} {Q : Value → Shared → Prop} (N : News h₀ L s.heap news) (hm : (l, listOf (r ++ [v]).toArray n) ∈ news) (h : Q v s)
    (hs : subscripted slice false (.ref l) (.int (-1) u) = operate [.ref l, .int (-1) u] (getItem (.ref l) (.int (-1) u)) := by with_unfolding_all rfl) :
    wpAny (model prog w) A (subscriptTail value slice (.ref l) (.int (-1) u)) Q E s :=
  have hl := isList_led N hm
  have e : (-1 + ((r ++ [v]).toArray.size : Int)).toNat = r.length := by rw [List.size_toArray, List.length_append, List.length_singleton]; omega
  tail_any hl.typeIs slot_list_getitem.lookup (wpAny_getItem_list_neg hl (by decide) (by rw [List.size_toArray, List.length_append, List.length_singleton]; omega) (by decide) (by rw [e]; simp) h) hs
theorem del_first {D : Addr} {v : Value} {r : List Value} {n : Nat} {u : Tok} {Q : Unit → Shared → Prop} (F : Fr h₀ L s.heap m) (N : News h₀ L s.heap news) (U : Upd D (listOf (v :: r).toArray n) (listOf r.toArray (n + 1)) news news')
    (hz : r.length + 1 ≤ sizeLine) (h : ∀ h', Fr h₀ L h' m → News h₀ L h' news' → Q () { s with heap := h' }) : wpAny (model prog w) A (delItem (.ref D) (.int 0 u)) Q E s :=
  ki_del F N (k := 0) rfl (by unfold seqIndex?; simp) (by simp [ki_delL]) U (by simpa using hz) h
theorem ki_delL_last {v : Value} : ∀ r : List Value, ki_delL (r ++ [v]) r.length = some r
  | [] => rfl
  | x :: r => by
    show (match ki_delL (r ++ [v]) r.length with
      | some q => some (x :: q)
      | none => none) = some (x :: r)
    rw [ki_delL_last r]
theorem del_last {D : Addr} {v : Value} {r : List Value} {n : Nat} {u : Tok} {Q : Unit → Shared → Prop} (F : Fr h₀ L s.heap m) (N : News h₀ L s.heap news) (U : Upd D (listOf (r ++ [v]).toArray n) (listOf r.toArray (n + 1)) news news')
    (hz : r.length + 1 ≤ sizeLine) (h : ∀ h', Fr h₀ L h' m → News h₀ L h' news' → Q () { s with heap := h' }) : wpAny (model prog w) A (delItem (.ref D) (.int (-1) u)) Q E s :=
  ki_del F N (k := r.length) rfl (by unfold seqIndex?; simp; omega) (by simpa using ki_delL_last r) U (by simpa using hz) h
theorem len_led {l : Addr} {its : Array Value} {n : Nat} {Q : Value → Shared → Prop} (N : News h₀ L s.heap news) (hm : (l, listOf its n) ∈ news) (hz : (its.size : Int) < 2 ^ 63) (h : Q (.int its.size (s.toks + 1)) { s with toks := s.toks + 1 + 1 }) :
    wpAny (model prog w) A (call (.builtin "len") [.ref l]) Q E s := call_len_list (isList_led N hm) hz h
end
theorem fin_b {g h' : Heap} {L' : Addr} {m' : Str → Option Value} {led news' : List (Addr × Obj)} {x b : Bool} {s : Shared} {tk : Nat} (F : Fr g L' h' m') (N : News g L' h' news') (e : x = b) (hs : ∀ p ∈ led, p ∈ news') :
    FinL g led (isB b) s (.bool x) { s with heap := h', toks := tk } := ⟨[], h', tk, L', rfl, ⟨by rw [e], rfl⟩, fun p hp => N p (hs p hp), (fun _ h => nomatch h), F.keep⟩
theorem endG {h₀ h' : Heap} {L : Addr} {J : (Str → Option Value) → List (Addr × Obj) → Prop} {I : Addr} {own all : List (Addr × Obj)} {s₁ : Shared} {tk : Nat} {m' : Str → Option Value} (news' : List (Addr × Obj)) (F : Fr h₀ L h' m') (N : News h₀ L h' all)
    (h1 : ∀ p ∈ news', p ∈ all) (h2 : ∀ p ∈ own, p ∈ all) (h3 : ∀ p ∈ news', p.1 ≠ I) (hj : J m' news') : EndG h₀ L J I own s₁ { s₁ with heap := h', toks := tk } := ⟨h', tk, m', news', all, rfl, F, N, h1, h2, h3, hj⟩
/-- the loop over the parts -/
noncomputable def ellGo (got : Str) (e : Int) : List Str → Int → Option Int
  | [], st => some st
  | w :: ws, st => if findB got w st e < 0 then none else ellGo got e ws (findB got w st e + (w.length : Int))
/-- what holds in the loop over the parts -/
inductive JE (got : Str) (e : Int) (ws : List Str) (a0 : Int) (u : Tok) (all : List (Addr × Obj)) (i : Nat) (m₁ : Str → Option Value) (news₁ : List (Addr × Obj)) : Prop
  | mk (st : Int) (t1 t2 : Tok) (hgo : ellGo got e (ws.take i) a0 = some st) (e1 : m₁ (Str.ofString "startpos") = some (.int st t1)) (e2 : m₁ (Str.ofString "endpos") = some (.int e t2)) (e3 : m₁ (Str.ofString "got") = some (.str got u)) (hn : news₁ = all) : JE got e ws a0 u all i m₁ news₁
theorem ellGo_snoc (got : Str) (e : Int) : ∀ (ws : List Str) (w : Str) (st : Int), ellGo got e (ws ++ [w]) st = (ellGo got e ws st).bind fun p => ellGo got e [w] p
  | [], w, st => rfl
  | x :: ws, w, st => by
    simp only [List.cons_append, ellGo]
    split
    · rfl
    · exact ellGo_snoc got e ws w _
theorem take_succ_of {α : Type} {l : List α} {i : Nat} {a : α} (h : l[i]? = some a) : l.take (i + 1) = l.take i ++ [a] := by rw [List.take_add_one, h]; rfl
theorem strValues_get {l : List (Str × Tok)} {i : Nat} {v : Value} (h : (strValues l)[i]? = some v) : ∃ w t, v = .str w t ∧ (l.map (·.1))[i]? = some w := by
  unfold strValues at h
  rw [List.getElem?_map] at h
  cases e : l[i]? with
  | none => rw [e] at h; cases h
  | some p =>
    rw [e] at h
    exact ⟨p.1, p.2, (Option.some.inj h).symm, by rw [List.getElem?_map, e]; rfl⟩
theorem ellGo_none_take {got : Str} {e : Int} {ws : List Str} {st : Int} (i : Nat) (h : ellGo got e (ws.take i) st = none) : ellGo got e ws st = none := by
  rw [← List.take_append_drop i ws]
  generalize ws.take i = xs at *
  induction xs generalizing st with
  | nil => cases h
  | cons x xs ih =>
    simp only [List.cons_append, ellGo] at h ⊢
    split
    · rfl
    · rename_i hn; rw [if_neg hn] at h; exact ih h
end Mine
end
section
open PySem PySem.W PyProof.Rows PySem.Calls PySem.Spec PySem.Builtin.Str
set_option Elab.async false
set_option maxRecDepth 100000
set_option maxHeartbeats 2000000
set_option pp.deepTerms false
set_option pp.maxSteps 3000
namespace Mine
/-- what is told of a want whose parts are a .. mid .. z, a and z not empty -/
noncomputable def ellA (got a z : Str) (mid : List Str) : Bool :=
  Txt.startswith got a && Txt.endswith got z && !(decide ((a.length : Int) > (got.length : Int) - (z.length : Int))) && (ellGo got ((got.length : Int) - (z.length : Int)) mid a.length).isSome
local macro_rules | `(tactic| walk_at "truthy str") => `(tactic| (k_here; (with_reducible show wpAny _ _ (PySem.truthy (Value.str _ _)) _ _ _); (refine' KXt.truthy_pos (K := 200) ?a ?b ?c ?_; (case a => assumption); (case b => assumption); (case c => decide)); intro _))
local macro_rules | `(tactic| walk_at "call builtin:str.split") => `(tactic| (k_here; refine stopHere ?_))
local macro_rules | `(tactic| walk_at "call builtin:len") => `(tactic| (k_here; (with_reducible show wpAny _ _ (call (Value.builtin "len") [Value.ref _]) _ _ _); (refine' len_led ?k1 ?k2 ?k3 ?_; (case k1 => k_asm); (case k2 => k_mem); (case k3 => (simp only [List.size_toArray, List.length_cons, List.length_append, strValues, List.length_map, List.length_nil]; omega)); (try simp only [List.size_toArray, List.length_cons, List.length_append, strValues, List.length_map, List.length_nil]))))
local macro_rules | `(tactic| walk_at "subscriptTail") => `(tactic| (k_here; (with_reducible show wpAny _ _ (subscriptTail _ _ (Value.ref _) (Value.int 0 _)) _ _ _); (with_reducible refine' item_first ?k1 ?k2 ?_ ?k6); (case k1 => k_asm); (case k2 => k_mem); (case k6 => with_unfolding_all rfl)))
local macro_rules | `(tactic| walk_at "subscriptTail") => `(tactic| (k_here; (show wpAny _ _ (subscriptTail _ _ (Value.ref _) (Value.int (-1) _)) _ _ _); (with_reducible refine' item_last ?k1 ?k2 ?_ ?k6); (case k1 => k_asm); (case k2 => k_mem); (case k6 => with_unfolding_all rfl)))
local macro_rules | `(tactic| walk_at "delItem ref int") => `(tactic| (k_here; first
  | (refine' del_first ?F ?N ?U ?z ?_; (case F => k_asm); (case N => k_asm); (case U => k_upd); (case z => (simp only [List.length_cons, List.length_append, strValues, List.length_map, List.length_nil, sizeLine_eq]; omega)); intro h' F' N')
  | (refine' del_last ?F ?N ?U ?z ?_; (case F => k_asm); (case N => k_asm); (case U => k_upd); (case z => (simp only [List.length_cons, List.length_append, strValues, List.length_map, List.length_nil, sizeLine_eq]; omega)); intro h' F' N')))
local macro_rules | `(tactic| walk_at "pyIter ref") => `(tactic| (k_here; fail "the loop"))
local macro_rules | `(tactic| walk_at "PostG") => `(tactic| (dsimp only [PostG]))
local macro_rules | `(tactic| walk_at "call builtin:str.find") => `(tactic| (k_here; (with_reducible show wpAny _ _ (call (Value.builtin "str.find") [Value.str _ _, Value.str _ _, Value.int _ _, Value.int _ _]) _ _ _); refine find4 ?_))
theorem c_ellA : ∀ (w : World) (mean : ExcName → Option Value) (mg mb : Str → Option Value) (want got a z : Str) (mid : List Str) (t u : Tok),
   ConL w mean mg mb 49 2 [] (want.length ≤ 200 ∧ got.length ≤ 200 ∧ Txt.split want (Str.ofString "...") = a :: (mid ++ [z]) ∧ (occurrences want (Str.ofString "...") 0 want.length 1).isEmpty = false ∧ 1 ≤ a.length ∧ 1 ≤ z.length ∧ a.length ≤ 200 ∧ z.length ≤ 200 ∧ mid.length ≤ 200 ∧ ∀ x ∈ mid, x.length ≤ 200) [.str want t, .str got u] (isB (ellA got a z mid)) := by
  unfold ConL
  k_fill
  intro w mean mg mb want got a z mid t u
  intros
  rename_i hpre _ _ hret
  obtain ⟨hw, hg, hsp, hin, ha, hz, ha2, hz2, hm2, hmx⟩ := hpre
  refine wpAny_call ?_
  k_dflt (refine' enterL ?k1 ?k2 ?k3 ?k4 ?k5 hret ?kA ?kF ?kK ?k6 ?k7 ?k8 ?k9 ?kB ?_ ?c2 ?c3 ?c4 ?c5; (case kA => exact rfl); (case kF => exact rfl); (case kK => assumption); (case k1 => k_asm); (case k2 => k_asm); (case k3 => k_asm); (case k4 => k_asm); (case k5 => k_asm); (case k6 => k_is); (case k7 => k_is); (case k8 => ktr_room); (case k9 => exact BindsTo.of_eq rfl); (case c5 => decide); (case kB => exact locs rfl); (case c2 => exact rfl); (case c3 => exact rfl); (case c4 => exact rfl); k_whole; intro g' L' h' FG' F' N' B' X' T' l1; (try dsimp only); (try k_lift B'); (try k_fold))
  clear hret
  k_steps
  refine Stop.go ?_
  with_reducible
    refine' split_parts ?k1 ?k2 ?k3 ?k4 ?_ ?k5
    (case k1 => k_asm)
    (case k2 => k_asm)
    (case k3 => decide)
    (case k4 => assumption)
    (case k5 => (simp only [sizeLine_eq]; omega))
    intro D' ta' tz' lm' h' k' e' F' N' l1
    (try k_lt l1)
    have hLm := congrArg List.length e'
    rw [List.length_map] at hLm
  k_steps
  · refine fin_b (by assumption) (by assumption) ?_ (fun _ h => nomatch h)
    simp only [ellA, *]; simp [*]
  · rename List.map _ _ = mid => e'9
    rename List.length _ = mid.length => hLm9
    rename List (Str × Tok) => lm9
    rename Fr _ _ _ _ => F9
    rename News _ _ _ _ => N9
    refine iter_led (k := _) (JE got ((got.length : Int) - (z.length : Int)) mid a.length u _) rfl F9 N9 (by k_mem) rfl rfl (.mk _ _ _ rfl rfl rfl rfl rfl) ?turn ?done
    case turn =>
      clear F9 N9
      intro I i v m₁ news₁ h tk own hv hJ hI hown F₁ N₁
      obtain ⟨st, t1, t2, hgo, e1, e2, e3, rfl⟩ := hJ
      obtain ⟨x, tx, rfl, hx⟩ := strValues_get hv
      have F₂ := Fr_named (x := Str.ofString "got") (Fr_named (x := Str.ofString "endpos") (Fr_named (x := Str.ofString "startpos") F₁ e1) e2) e3
      clear F₁
      simp only [List.cons_append, List.nil_append] at N₁
      rw [e'9] at hx
      have hxl : x.length ≤ 200 := hmx x (List.mem_of_getElem? hx)
      have hI1 := hI _ (.head _)
      have hI2 := hI _ (.tail _ (.head _))
      k_steps
      · refine fin_b (by assumption) (by assumption) ?_ (fun _ h => nomatch h)
        have : ellGo got ((got.length : Int) - (z.length : Int)) mid a.length = none := by
          refine ellGo_none_take (i + 1) ?_
          rw [take_succ_of hx, ellGo_snoc, hgo]
          simp only [Option.bind, ellGo, *, if_true]
        simp [ellA, *]
      · refine endG _ (by assumption) (by assumption) ?_ ?_ hI (.mk _ _ _ ?_ rfl rfl rfl rfl)
        · k_allIn
        · intro p hp; k_ownIn
        · rw [take_succ_of hx, ellGo_snoc, hgo]
          simp only [Option.bind, ellGo, *, if_false]
    case done =>
      intro m₁ news₁ h tk hJ F₁ N₁
      obtain ⟨st, t1, t2, hgo, e1, e2, e3, rfl⟩ := hJ
      clear F9 N9
      k_steps
      refine fin_b (by assumption) (by assumption) ?_ (fun _ h => nomatch h)
      rw [show (strValues lm9).length = mid.length from by simp [strValues, hLm9], List.take_length] at hgo
      simp [ellA, *]
  · refine fin_b (by assumption) (by assumption) ?_ (fun _ h => nomatch h)
    simp only [ellA, *]; simp
  · refine fin_b (by assumption) (by assumption) ?_ (fun _ h => nomatch h)
    simp only [ellA, *]; simp
end Mine
end
section
open PySem PySem.W PyProof.Rows PySem.Calls PySem.Spec PySem.Builtin.Str
set_option Elab.async false
set_option maxRecDepth 100000
set_option maxHeartbeats 2000000
set_option pp.deepTerms false
set_option pp.maxSteps 3000
namespace Mine
local macro_rules | `(tactic| walk_at "truthy str") => `(tactic| (k_here; (with_reducible show wpAny _ _ (PySem.truthy (Value.str _ _)) _ _ _); (refine' KXt.truthy_pos (K := 200) ?a ?b ?c ?_; (case a => assumption); (case b => assumption); (case c => decide)); intro _))
local macro_rules | `(tactic| walk_at "call builtin:str.split") => `(tactic| (k_here; refine stopHere ?_))
local macro_rules | `(tactic| walk_at "call builtin:len") => `(tactic| (k_here; (with_reducible show wpAny _ _ (call (Value.builtin "len") [Value.ref _]) _ _ _); (refine' len_led ?k1 ?k2 ?k3 ?_; (case k1 => k_asm); (case k2 => k_mem); (case k3 => (simp only [List.size_toArray, List.length_cons, List.length_append, strValues, List.length_map, List.length_nil]; omega)); (try simp only [List.size_toArray, List.length_cons, List.length_append, strValues, List.length_map, List.length_nil]))))
local macro_rules | `(tactic| walk_at "subscriptTail") => `(tactic| (k_here; (with_reducible show wpAny _ _ (subscriptTail _ _ (Value.ref _) (Value.int 0 _)) _ _ _); (with_reducible refine' item_first ?k1 ?k2 ?_ ?k6); (case k1 => k_asm); (case k2 => k_mem); (case k6 => with_unfolding_all rfl)))
local macro_rules | `(tactic| walk_at "subscriptTail") => `(tactic| (k_here; (show wpAny _ _ (subscriptTail _ _ (Value.ref _) (Value.int (-1) _)) _ _ _); (with_reducible refine' item_last ?k1 ?k2 ?_ ?k6); (case k1 => k_asm); (case k2 => k_mem); (case k6 => with_unfolding_all rfl)))
local macro_rules | `(tactic| walk_at "delItem ref int") => `(tactic| (k_here; first
  | (refine' del_first ?F ?N ?U ?z ?_; (case F => k_asm); (case N => k_asm); (case U => k_upd); (case z => (simp only [List.length_cons, List.length_append, strValues, List.length_map, List.length_nil, sizeLine_eq]; omega)); intro h' F' N')
  | (refine' del_last ?F ?N ?U ?z ?_; (case F => k_asm); (case N => k_asm); (case U => k_upd); (case z => (simp only [List.length_cons, List.length_append, strValues, List.length_map, List.length_nil, sizeLine_eq]; omega)); intro h' F' N')))
local macro_rules | `(tactic| walk_at "pyIter ref") => `(tactic| (k_here; fail "the loop"))
local macro_rules | `(tactic| walk_at "PostG") => `(tactic| (dsimp only [PostG]))
local macro_rules | `(tactic| walk_at "call builtin:str.find") => `(tactic| (k_here; (with_reducible show wpAny _ _ (call (Value.builtin "str.find") [Value.str _ _, Value.str _ _, Value.int _ _, Value.int _ _]) _ _ _); refine find4 ?_))
theorem item_lastc {prog : Program} {w : World} {A : Around} {E : Value → Shared → Prop} {s : Shared} {h₀ : Heap} {L : Addr} {news : List (Addr × Obj)} {value slice : Expr} {l : Addr} {v0 v : Value} {r : List Value} {n : Nat} {u : Tok} {Q : Value → Shared → Prop} (N : News h₀ L s.heap news) (hm : (l, listOf (v0 :: (r ++ [v])).toArray n) ∈ news) (h : Q v s)
    (hs : subscripted slice false (.ref l) (.int (-1) u) = operate [.ref l, .int (-1) u] (getItem (.ref l) (.int (-1) u)) := by with_unfolding_all rfl) :
    wpAny (model prog w) A (subscriptTail value slice (.ref l) (.int (-1) u)) Q E s := item_last (r := v0 :: r) N hm h hs
theorem ends_ex {h₀ h : Heap} {L : Addr} {p : Addr × Obj} {D : Addr} {k : Nat} {a z : Str} {ta tz : Tok} {lm : List (Str × Tok)} {mid : List Str} (N : News h₀ L h [p, (D, listOf (Value.str a ta :: (strValues lm ++ [Value.str z tz])).toArray k)]) (e : lm.map (·.1) = mid) :
    ∃ l9 : List (Str × Tok), News h₀ L h [p, (D, listOf (strValues l9).toArray k)] ∧ l9.map (·.1) = a :: (mid ++ [z]) := by
  refine ⟨(a, ta) :: (lm ++ [(z, tz)]), ?_, by simp [e]⟩
  have : strValues ((a, ta) :: (lm ++ [(z, tz)])) = Value.str a ta :: (strValues lm ++ [Value.str z tz]) := by simp [strValues]
  rw [this]; exact N
/-- what is told of a want that begins and ends with the dots -/
noncomputable def ellB (got : Str) (mid : List Str) : Bool := (ellGo got (got.length : Int) (Str.empty :: (mid ++ [Str.empty])) 0).isSome
local macro_rules | `(tactic| walk_at "subscriptTail") => `(tactic| (k_here; (show wpAny _ _ (subscriptTail _ _ (Value.ref _) (Value.int (-1) _)) _ _ _); (with_reducible refine' item_lastc ?k1 ?k2 ?_ ?k6); (case k1 => k_asm); (case k2 => k_mem); (case k6 => with_unfolding_all rfl)))
theorem c_ellB : ∀ (w : World) (mean : ExcName → Option Value) (mg mb : Str → Option Value) (want got : Str) (mid : List Str) (t u : Tok),
   ConL w mean mg mb 49 2 [] (want.length ≤ 200 ∧ got.length ≤ 200 ∧ Txt.split want (Str.ofString "...") = Str.empty :: (mid ++ [Str.empty]) ∧ (occurrences want (Str.ofString "...") 0 want.length 1).isEmpty = false ∧ mid.length ≤ 200 ∧ ∀ x ∈ mid, x.length ≤ 200) [.str want t, .str got u] (isB (ellB got mid)) := by
  unfold ConL
  k_fill
  intro w mean mg mb want got mid t u
  intros
  rename_i hpre _ _ hret
  obtain ⟨hw, hg, hsp, hin, hm2, hmx⟩ := hpre
  refine wpAny_call ?_
  k_dflt (refine' enterL ?k1 ?k2 ?k3 ?k4 ?k5 hret ?kA ?kF ?kK ?k6 ?k7 ?k8 ?k9 ?kB ?_ ?c2 ?c3 ?c4 ?c5; (case kA => exact rfl); (case kF => exact rfl); (case kK => assumption); (case k1 => k_asm); (case k2 => k_asm); (case k3 => k_asm); (case k4 => k_asm); (case k5 => k_asm); (case k6 => k_is); (case k7 => k_is); (case k8 => ktr_room); (case k9 => exact BindsTo.of_eq rfl); (case c5 => decide); (case kB => exact locs rfl); (case c2 => exact rfl); (case c3 => exact rfl); (case c4 => exact rfl); k_whole; intro g' L' h' FG' F' N' B' X' T' l1; (try dsimp only); (try k_lift B'); (try k_fold))
  clear hret
  k_steps
  refine Stop.go ?_
  with_reducible
    refine' split_parts ?k1 ?k2 ?k3 ?k4 ?_ ?k5
    (case k1 => k_asm)
    (case k2 => k_asm)
    (case k3 => decide)
    (case k4 => assumption)
    (case k5 => (simp only [sizeLine_eq]; omega))
    intro D' ta' tz' lm' h' k' e' F' N' l1
    (try k_lt l1)
    have hLm := congrArg List.length e'
    rw [List.length_map] at hLm
  k_steps
  rename List.map _ _ = mid => e'9
  rename List.length _ = mid.length => hLm9
  rename List (Str × Tok) => lm9
  rename Fr _ _ _ _ => F9
  rename News _ _ _ _ => N9
  obtain ⟨l9, N9, eM⟩ := ends_ex N9 e'9
  generalize hT9 : Str.empty :: (mid ++ [Str.empty]) = T9 at eM
  have hmT : ∀ x ∈ T9, x.length ≤ 200 := by
    intro x hx
    rw [← hT9] at hx
    simp only [List.mem_cons, List.mem_append, List.not_mem_nil, or_false] at hx
    rcases hx with rfl | hx | rfl
    · decide
    · exact hmx x hx
    · decide
  refine iter_led (k := _) (JE got (got.length : Int) T9 0 u _) rfl F9 N9 (by k_mem) rfl rfl (.mk _ _ _ rfl rfl rfl rfl rfl) ?turn ?done
  case turn =>
    clear F9 N9
    intro I i v m₁ news₁ h tk own hv hJ hI hown F₁ N₁
    obtain ⟨st, t1, t2, hgo, e1, e2, e3, rfl⟩ := hJ
    obtain ⟨x, tx, rfl, hx⟩ := strValues_get hv
    have F₂ := Fr_named (x := Str.ofString "got") (Fr_named (x := Str.ofString "endpos") (Fr_named (x := Str.ofString "startpos") F₁ e1) e2) e3
    clear F₁
    simp only [List.cons_append, List.nil_append] at N₁
    rw [eM] at hx
    have hxl : x.length ≤ 200 := hmT x (List.mem_of_getElem? hx)
    k_steps
    · refine fin_b (by assumption) (by assumption) ?_ (fun _ h => nomatch h)
      have : ellGo got (got.length : Int) T9 0 = none := by
        refine ellGo_none_take (i + 1) ?_
        rw [take_succ_of hx, ellGo_snoc, hgo]
        simp only [Option.bind, ellGo, *, if_true]
      simp [ellB, hT9, *]
    · refine endG _ (by assumption) (by assumption) ?_ ?_ hI (.mk _ _ _ ?_ rfl rfl rfl rfl)
      · k_allIn
      · intro p hp; k_ownIn
      · rw [take_succ_of hx, ellGo_snoc, hgo]
        simp only [Option.bind, ellGo, *, if_false]
  case done =>
    intro m₁ news₁ h tk hJ F₁ N₁
    obtain ⟨st, t1, t2, hgo, e1, e2, e3, rfl⟩ := hJ
    clear F9 N9
    k_steps
    refine fin_b (by assumption) (by assumption) ?_ (fun _ h => nomatch h)
    rw [show (strValues l9).length = T9.length from by rw [← eM]; simp [strValues], List.take_length] at hgo
    simp [ellB, hT9, *]
theorem c_ellC : ∀ (w : World) (mean : ExcName → Option Value) (mg mb : Str → Option Value) (want got : Str) (t u : Tok),
   ConL w mean mg mb 49 2 [] (want.length ≤ 200 ∧ got.length ≤ 200 ∧ (occurrences want (Str.ofString "...") 0 want.length 1).isEmpty = true) [.str want t, .str got u] (isB (want == got)) := by
  unfold ConL
  k_fill
  intro w mean mg mb want got t u
  intros
  rename_i hpre _ _ hret
  obtain ⟨hw, hg, hin⟩ := hpre
  refine wpAny_call ?_
  k_dflt (refine' enterL ?k1 ?k2 ?k3 ?k4 ?k5 hret ?kA ?kF ?kK ?k6 ?k7 ?k8 ?k9 ?kB ?_ ?c2 ?c3 ?c4 ?c5; (case kA => exact rfl); (case kF => exact rfl); (case kK => assumption); (case k1 => k_asm); (case k2 => k_asm); (case k3 => k_asm); (case k4 => k_asm); (case k5 => k_asm); (case k6 => k_is); (case k7 => k_is); (case k8 => ktr_room); (case k9 => exact BindsTo.of_eq rfl); (case c5 => decide); (case kB => exact locs rfl); (case c2 => exact rfl); (case c3 => exact rfl); (case c4 => exact rfl); k_whole; intro g' L' h' FG' F' N' B' X' T' l1; (try dsimp only); (try k_lift B'); (try k_fold))
  clear hret
  k_steps
  exact fin_b (by assumption) (by assumption) rfl (fun _ h => nomatch h)
end Mine
end
section
set_option Elab.async false
set_option maxRecDepth 100000
namespace Mine
open PySem PySem.W PyProof.Rows PySem.Calls PySem.Spec PySem.Builtin PySem.Builtin.Str
section
variable {prog : Program} {w : World} {A : Around} {E : Value → Shared → Prop} {s : Shared} {h₀ : Heap} {L : Addr} {m : Str → Option Value} {news news' : List (Addr × Obj)}
theorem foldl_rep (v : Value) : ∀ (k : Nat) (acc : Array Value), List.foldl (fun x1 x2 => x1 ++ x2) acc (List.replicate k #[v]) = acc ++ (List.replicate k v).toArray
  | 0, acc => by simp
  | k + 1, acc => by
    rw [List.replicate_succ, List.foldl_cons, foldl_rep v k, List.replicate_succ]
    apply Array.toList_inj.mp; simp
theorem mul_one {l : Addr} {x : Str} {tx u : Tok} {n : Nat} {k : Int} {Q : Value → Shared → Prop} (F : Fr h₀ L s.heap m) (N : News h₀ L s.heap news) (hm : (l, listOf [Value.str x tx].toArray n) ∈ news) (h0 : 0 ≤ k) (h1 : k ≤ 100)
    (h : ∀ D h', Fr h₀ L h' m → News h₀ L h' ((D, listOf (strValues (List.replicate k.toNat (x, tx))).toArray 0) :: news) → (∀ p ∈ news, p.1 < D) → Q (.ref D) { s with heap := h' }) :
    wpAny (model prog w) A (binaryOp .Mult (.ref l) (.int k u)) Q E s := by
  refine mul_list F N (k := n) (items := #[Value.str x tx]) (N _ hm).1 (by omega) (by omega) (by show 1 * k.toNat ≤ _; omega) fun h' F' N' => h _ h' F' ?_ fun p hp => Heap.lt_size (N p hp).1
  have e : (strValues (List.replicate k.toNat (x, tx))).toArray = List.foldl (fun x1 x2 => x1 ++ x2) #[] (List.replicate (if (#[Value.str x tx] : Array Value).isEmpty = true then 0 else k.toNat) #[Value.str x tx]) := by
    rw [foldl_rep]
    simp [strValues]
  rw [e]; exact N'
theorem add_texts {l b : Addr} {xs ys : List (Str × Tok)} {n k : Nat} {Q : Value → Shared → Prop} (F : Fr h₀ L s.heap m) (N : News h₀ L s.heap news) (hl : (l, listOf (strValues xs).toArray n) ∈ news) (hb : (b, listOf (strValues ys).toArray k) ∈ news) (hz : xs.length + ys.length ≤ 1000)
    (h : ∀ D h', Fr h₀ L h' m → News h₀ L h' ((D, listOf (strValues (xs ++ ys)).toArray 0) :: news) → (∀ p ∈ news, p.1 < D) → Q (.ref D) { s with heap := h' }) :
    wpAny (model prog w) A (binaryOp .Add (.ref l) (.ref b)) Q E s := by
  refine add_lists F N (isList_led N hl) (isList_led N hb) (fun h' F' N' => h _ h' F' ?_ fun p hp => Heap.lt_size (N p hp).1) (by simp only [strValues, List.length_map, sizeLine_eq]; omega)
  have e : strValues (xs ++ ys) = strValues xs ++ strValues ys := by simp [strValues]
  rw [e]; exact N'
theorem join_led {x : Str} {t : Tok} {l : Addr} {xs : List (Str × Tok)} {n : Nat} {Q : Value → Shared → Prop} (N : News h₀ L s.heap news) (hl : (l, listOf (strValues xs).toArray n) ∈ news) (hok : JoinOk x (xs.map (·.1)) = true)
    (hq : ∀ t' k, Q (.str (Txt.join x (xs.map (·.1))) t') { s with toks := k }) : wpAny (model prog w) A (call (.builtin "str.join") [.str x t, .ref l]) Q E s := SC.join (isList_led N hl) rfl hok hq
end
theorem size_self {b : Int} (h0 : 0 ≤ b) : Builtin.Range.rangeSize 0 b 1 = b := by
  have := rangeSize_nat 0 b
  rw [this]; omega
theorem fitsL {b : Int} (h0 : 0 ≤ b) (h1 : b ≤ 1000) : Builtin.Range.rangeFitsLong b = true := by
  simp only [Builtin.Range.rangeFitsLong, Bool.and_eq_true, decide_eq_true_eq]
  omega
theorem small_up {b : Int} (h0 : 0 ≤ b) (h1 : b ≤ 1000) : Builtin.Range.small 0 b 1 = true := by
  unfold Builtin.Range.small
  simp [size_self h0, fitsL h0 h1, fitsL (b := 0) (by decide) (by decide), fitsL (b := 1) (by decide) (by decide)]
theorem size_up {b : Int} {n : Nat} (h : b = (n : Int)) : Builtin.Range.rangeSize 0 b 1 = ((n : Nat) : Int) := by
  rw [size_self (by omega), h]
/-- the caller's side, where a truth comes back -/
theorem ConL.goB {w : World} {mean : ExcName → Option Value} {mg mb : Str → Option Value} {f : Addr} {need : Nat} {led : List (Addr × Obj)} {P : Prop} {vs : List Value}
    {dp un : Nat} {gd : Option (List Code)} {cn : Str} {cs : Scope} {a : Addr} {ccd : Value} {cl : List (Str × Addr)} {outer : List Env} {A₀ : Around} {base h₀ : Heap} {L : Addr} {m : Str → Option Value} {news : List (Addr × Obj)} {s : Shared} {Q E : Value → Shared → Prop} {b : Bool}
    (c : ConL w mean mg mb f need led P vs (isB b)) (B : Below A₀ base outer h₀) (F : Fr h₀ L s.heap m) (X : (K0 w.params).In h₀) (N : News h₀ L s.heap news) (T : Top q0 (looseW q0 loose0) mean mg mb h₀) (hk : cs.kind = .function) (hl : ∀ p ∈ led, p ∈ news) (hp : P) (hd : dp + need < recursionLimit) (hu : un + 10 * need < cLine)
    (hret : ∀ (h' : Heap) (tk' : Nat), Fr h₀ L h' m → News h₀ L h' news → Q (.bool b) { s with heap := h', toks := tk' }) :
    wpAny (model PySem.Challenge.rw_rl0121_01.row.prog w) (ktrTop dp un gd cn cs L a ccd cl outer) (call (.ref f) vs) Q E s :=
  c.go B F X N T hk hl hp hd hu fun v h' tk' new ⟨e1, e2⟩ _ F' N' => by subst e1 e2; exact hret h' tk' F' N'
end Mine
end
section
set_option Elab.async false
set_option maxRecDepth 100000
namespace Mine
open PySem PySem.W PyProof.Rows PySem.Calls PySem.Spec PySem.Builtin PySem.Builtin.Str PySem.StrLaws
theorem occ_stay (x y : Str) (hi : Nat) : ∀ (l : List Nat) (a f : Nat), (forIn l ((#[a] : Array Nat), f) (occBody x y hi 1)).run.fst = #[a]
  | [], _, _ => rfl
  | b :: l, a, f => by
    rw [List.forIn_cons]
    unfold occBody
    rw [if_neg (by simp)]
    exact occ_stay x y hi l a f
theorem occ_go (x y : Str) (hi : Nat) : ∀ (l : List Nat) (f : Nat), (∀ i ∈ l, f ≤ i) → (forIn l ((#[] : Array Nat), f) (occBody x y hi 1)).run.fst.toList = (l.find? fun i => decide (i + y.length ≤ hi) && subAt x y i).toList
  | [], _, _ => rfl
  | a :: l, f, hf => by
    rw [List.forIn_cons]
    unfold occBody
    have ha : f ≤ a := hf a (.head _)
    by_cases hc : a + y.length ≤ hi ∧ subAt x y a = true
    · rw [if_pos ⟨⟨⟨by simp, ha⟩, hc.1⟩, hc.2⟩, List.find?_cons_of_pos (by simp [hc.1, hc.2])]
      exact congrArg Array.toList (occ_stay x y hi l a _)
    · rw [if_neg fun h => hc ⟨h.1.2, h.2⟩, List.find?_cons_of_neg (by simpa using hc)]
      exact occ_go x y hi l f fun i hi' => hf i (.tail _ hi')
theorem occ_find (x y : Str) (lo hi : Nat) : occurrences x y lo hi 1 = ((List.range' lo (hi + 1 - lo)).find? fun i => decide (i + y.length ≤ hi) && subAt x y i).toList := by
  rw [occ_eq]
  exact occ_go x y hi _ lo fun i hi' => by simp [List.mem_range'] at hi'; omega
theorem len_cut {lo i hi : Nat} (h0 : lo ≤ i) (h1 : i ≤ hi) : hi + 1 - lo = (i - lo) + (1 + (hi - i)) := by
  rw [Nat.add_comm 1, ← Nat.add_assoc, Nat.succ_sub (Nat.le_trans h0 h1), Nat.add_comm (i - lo), Nat.sub_add_sub_cancel h1 h0]
/-- where the first of a text is found -/
theorem occ_at {x y : Str} {lo hi i : Nat} (h0 : lo ≤ i) (h1 : i + y.length ≤ hi) (h2 : subAt x y i = true) (h3 : ∀ j, lo ≤ j → j < i → subAt x y j = false) : occurrences x y lo hi 1 = [i] := by
  rw [occ_find]
  have : (List.range' lo (hi + 1 - lo)).find? (fun i => decide (i + y.length ≤ hi) && subAt x y i) = some i := by
    rw [List.find?_eq_some_iff_append]
    refine ⟨by simp [h1, h2], List.range' lo (i - lo), List.range' (i + 1) (hi - i), ?_, fun a ha => ?_⟩
    · rw [len_cut h0 (Nat.le_trans (Nat.le_add_right _ _) h1), ← List.range'_append_1, Nat.add_comm 1 (hi - i), List.range'_succ]
      rw [show lo + (i - lo) = i from by omega]
    · simp [List.mem_range'] at ha
      simp [h3 a (by omega) (by omega)]
  rw [this]; rfl
theorem occ_no {x y : Str} {lo hi : Nat} (h : ∀ j, lo ≤ j → j + y.length ≤ hi → subAt x y j = false) : occurrences x y lo hi 1 = [] := by
  rw [occ_find]
  have : (List.range' lo (hi + 1 - lo)).find? (fun i => decide (i + y.length ≤ hi) && subAt x y i) = none := by
    rw [List.find?_eq_none]
    intro a ha
    simp [List.mem_range'] at ha
    by_cases h1 : a + y.length ≤ hi
    · simp [h a (by omega) h1]
    · simp [h1]
  rw [this]; rfl
theorem occ_some {x y : Str} {lo hi : Nat} : (∃ i, lo ≤ i ∧ i + y.length ≤ hi ∧ subAt x y i = true ∧ (∀ j, lo ≤ j → j < i → subAt x y j = false) ∧ occurrences x y lo hi 1 = [i]) ∨ ((∀ j, lo ≤ j → j + y.length ≤ hi → subAt x y j = false) ∧ occurrences x y lo hi 1 = []) := by
  by_cases h : ∃ i, lo ≤ i ∧ i + y.length ≤ hi ∧ subAt x y i = true
  · left
    obtain ⟨i, hi', hm⟩ : ∃ i, (lo ≤ i ∧ i + y.length ≤ hi ∧ subAt x y i = true) ∧ ∀ j, j < i → ¬ (lo ≤ j ∧ j + y.length ≤ hi ∧ subAt x y j = true) := by
      obtain ⟨i, hi'⟩ := h
      induction i using Nat.strongRecOn with
      | _ i ih =>
        by_cases hs : ∃ j, j < i ∧ (lo ≤ j ∧ j + y.length ≤ hi ∧ subAt x y j = true)
        · obtain ⟨j, hj, hp⟩ := hs; exact ih j hj hp
        · exact ⟨i, hi', fun j hj hp => hs ⟨j, hj, hp⟩⟩
    have hn : ∀ j, lo ≤ j → j < i → subAt x y j = false := fun j h1 h2 => by
      cases e : subAt x y j with
      | false => rfl
      | true => exact absurd ⟨h1, by omega, e⟩ (hm j h2)
    exact ⟨i, hi'.1, hi'.2.1, hi'.2.2, hn, occ_at hi'.1 hi'.2.1 hi'.2.2 hn⟩
  · right
    have hn : ∀ j, lo ≤ j → j + y.length ≤ hi → subAt x y j = false := fun j h1 h2 => by
      cases e : subAt x y j with
      | false => rfl
      | true => exact absurd ⟨j, h1, h2, e⟩ h
    exact ⟨hn, occ_no hn⟩
/-- a text of letters -/
noncomputable abbrev tx (l : List Nat) : Str := ⟨l.toArray⟩
theorem tx_len (l : List Nat) : (tx l).length = l.length := by show l.toArray.size = _; simp
theorem tx_app (l r : List Nat) : tx l ++ tx r = tx (l ++ r) := by
  show Str.mk (l.toArray ++ r.toArray) = _
  simp
theorem tx_of (x : Str) : x = tx x.cps.toList := by cases x; simp
theorem sub_tx (l y : List Nat) (i : Nat) : subAt (tx l) (tx y) i = decide ((l.drop i).take y.length = y) := by
  unfold subAt
  rw [tx_len]
  have e : (tx l).cps.extract i (i + y.length) = ((l.drop i).take y.length).toArray := by
    apply Array.toList_inj.mp
    simp only [Array.toList_extract, List.extract]
    rw [Nat.add_sub_cancel_left]
  rw [e, Bool.eq_iff_iff]
  simp
theorem find_tx (l y : List Nat) (i : Nat) : Txt.find3 (tx l) (tx y) i = match occurrences (tx l) (tx y) i l.length 1 with | k :: _ => (k : Int) | [] => -1 := by
  unfold Txt.find3
  rw [tx_len]
  have : fromIndex l.length (i : Int) = i := by
    unfold fromIndex
    rw [if_neg (Int.not_lt.mpr (Int.natCast_nonneg i)), Int.max_eq_right (Int.natCast_nonneg i)]; rfl
  rw [this]; rfl
/-- one letter -/
theorem sub_one (l : List Nat) (c i : Nat) : subAt (tx l) (tx [c]) i = decide (l[i]? = some c) := by
  rw [sub_tx, Bool.eq_iff_iff]
  simp only [decide_eq_true_eq, List.length_singleton]
  rw [List.take_one, List.head?_drop]
  cases l[i]? with
  | none => simp
  | some a => simp
theorem pick_range (l : List Nat) : ∀ (c s : Nat), s + c ≤ l.length → ((List.range' s c).filterMap fun k => l[k]?) = (l.drop s).take c
  | 0, s, _ => by simp
  | c + 1, s, h => by
    have hs : s < l.length := by omega
    rw [List.range'_succ, List.filterMap_cons, pick_range l c (s + 1) (by omega), List.drop_eq_getElem_cons hs, List.take_succ_cons]
    simp [hs]
theorem slice_raw {l : List Nat} {lo hi : Option Int} {s c : Nat} (h : strSliceIndices lo hi 1 l.length = List.range' s c) (hc : s + c ≤ l.length) : Txt.slice (tx l) lo hi = tx ((l.drop s).take c) := by
  unfold Txt.slice
  rw [tx_len, h]
  split
  · rename_i q
    simp at q
    have h0 : s = 0 := by omega
    subst h0
    rw [q, List.drop_zero, List.take_length]
  · congr 1
    have := pick_range l c s hc
    simp only [List.getElem?_toArray]
    rw [this]
theorem range_raw {a b : Int} {s c : Nat} (ha : a = s) (hb : b = (s + c : Nat)) : sliceRange a b 1 = List.range' s c := by
  subst ha hb
  unfold sliceRange
  have e : (if (1 : Int) > 0 then (if (s : Int) < ((s + c : Nat) : Int) then (((s + c : Nat) : Int) - s + 1 - 1) / 1 else 0) else (if (s : Int) > ((s + c : Nat) : Int) then ((s : Int) - ((s + c : Nat) : Int) - 1 - 1) / (-1) else 0)).toNat = c := by
    rw [if_pos (by decide)]
    split
    · rw [Int.ediv_one]; omega
    · omega
  dsimp only
  rw [e, List.range'_eq_map_range]
  apply List.map_congr_left
  intro k _
  omega
theorem bnd_at {b n : Nat} (h : b ≤ n) : max 0 (min (if (b : Int) < 0 then (b : Int) + n else b) n) = (b : Int) := by
  rw [if_neg (Int.not_lt.mpr (Int.natCast_nonneg b)), Int.min_eq_left (Int.ofNat_le.mpr h), Int.max_eq_right (Int.natCast_nonneg b)]
theorem bnd_gt {b n : Nat} (h : n ≤ b) : max 0 (min (if (b : Int) < 0 then (b : Int) + n else b) n) = (n : Int) := by
  rw [if_neg (Int.not_lt.mpr (Int.natCast_nonneg b)), Int.min_eq_right (Int.ofNat_le.mpr h), Int.max_eq_right (Int.natCast_nonneg n)]
theorem bnd_last {b n : Nat} (h : 0 < b) : max 0 (min (if (-(b : Int)) < 0 then -(b : Int) + n else -(b : Int)) n) = ((n - b : Nat) : Int) := by
  rw [if_pos (Int.neg_neg_of_pos (Int.natCast_pos.mpr h)), Int.add_comm, ← Int.sub_eq_add_neg, Int.min_eq_left (Int.sub_le_self _ (Int.natCast_nonneg b))]
  rcases Nat.le_total b n with q | q
  · rw [← Int.ofNat_sub q, Int.max_eq_right (Int.natCast_nonneg _)]
  · rw [Nat.sub_eq_zero_of_le q, Int.max_eq_left (Int.sub_nonpos_of_le (Int.ofNat_le.mpr q))]; rfl
theorem slice_tx (l : List Nat) (a b : Nat) (hb : b ≤ l.length) (hab : a ≤ b) : Txt.slice (tx l) (some (a : Int)) (some (b : Int)) = tx ((l.take b).drop a) := by
  rw [slice_raw (s := a) (c := b - a) ?_ (by rw [Nat.add_sub_cancel' hab]; exact hb), List.drop_take]
  unfold strSliceIndices
  simp only [show (1 : Int) > 0 from by decide, if_true]
  exact range_raw (bnd_at (Nat.le_trans hab hb)) ((bnd_at hb).trans (by rw [Nat.add_sub_cancel' hab]))
theorem slice_hi (l : List Nat) (b : Nat) (hb : b ≤ l.length) : Txt.slice (tx l) none (some (b : Int)) = tx (l.take b) := by
  rw [slice_raw (s := 0) (c := b) ?_ (by omega), List.drop_zero]
  unfold strSliceIndices
  simp only [show (1 : Int) > 0 from by decide, if_true]
  exact range_raw rfl ((bnd_at hb).trans (by rw [Nat.zero_add]))
theorem slice_lo (l : List Nat) (a : Nat) (ha : a ≤ l.length) : Txt.slice (tx l) (some (a : Int)) none = tx (l.drop a) := by
  rw [slice_raw (s := a) (c := l.length - a) ?_ (by rw [Nat.add_sub_cancel' ha]; exact Nat.le_refl _), List.take_of_length_le (by simp)]
  unfold strSliceIndices
  simp only [show (1 : Int) > 0 from by decide, if_true]
  exact range_raw (bnd_at ha) (by rw [Nat.add_sub_cancel' ha])
/-- the first so many, even past the end -/
theorem slice_first (l : List Nat) (b : Nat) : Txt.slice (tx l) none (some (b : Int)) = tx (l.take b) := by
  by_cases hb : b ≤ l.length
  · exact slice_hi l b hb
  · rw [slice_raw (s := 0) (c := l.length) ?_ (by omega), List.drop_zero, List.take_length, List.take_of_length_le (by omega)]
    unfold strSliceIndices
    simp only [show (1 : Int) > 0 from by decide, if_true]
    exact range_raw rfl ((bnd_gt (Nat.le_of_not_le hb)).trans (by rw [Nat.zero_add]))
/-- the last so many -/
theorem slice_last (l : List Nat) (b : Nat) (hb : 0 < b) : Txt.slice (tx l) (some (-(b : Int))) none = tx (l.drop (l.length - b)) := by
  rw [slice_raw (s := l.length - b) (c := l.length - (l.length - b)) ?_ (Nat.le_of_eq (Nat.add_sub_cancel' (Nat.sub_le _ _))), List.take_of_length_le (by simp)]
  unfold strSliceIndices
  simp only [show (1 : Int) > 0 from by decide, if_true]
  exact range_raw (bnd_last hb) (by rw [Nat.add_sub_cancel' (Nat.sub_le _ _)])
/-- the letters found one after the other -/
noncomputable def goL : List Nat → List Nat → Option (List Nat)
  | [], l => some l
  | c :: p, l => match l.dropWhile (· != c) with
    | [] => none
    | _ :: r => goL p r
theorem sub_first {c : Nat} {p : List Nat} : ∀ {l r : List Nat} {d : Nat}, l.dropWhile (· != c) = d :: r → (List.Sublist (c :: p) l ↔ List.Sublist p r)
  | [], _, _, h => by simp at h
  | a :: l, r, d, h => by
    by_cases ha : a = c
    · subst ha
      simp at h
      obtain ⟨rfl, rfl⟩ := h
      exact List.cons_sublist_cons
    · rw [List.dropWhile_cons_of_pos (by simpa using ha)] at h
      rw [← sub_first h]
      constructor
      · intro q
        cases q with
        | cons _ q => exact q
        | cons_cons _ q => exact absurd rfl ha
      · exact fun q => .cons _ q
theorem sub_none {c : Nat} {p : List Nat} : ∀ {l : List Nat}, l.dropWhile (· != c) = [] → ¬ List.Sublist (c :: p) l
  | [], _ => fun q => by cases q
  | a :: l, h => by
    by_cases ha : a = c
    · subst ha; simp at h
    · rw [List.dropWhile_cons_of_pos (by simpa using ha)] at h
      intro q
      cases q with
      | cons _ q => exact sub_none h q
      | cons_cons _ q => exact absurd rfl ha
theorem goL_iff : ∀ (p l : List Nat), (goL p l).isSome = true ↔ List.Sublist p l
  | [], l => by simp [goL]
  | c :: p, l => by
    unfold goL
    cases h : l.dropWhile (· != c) with
    | nil => simpa using sub_none h
    | cons d r => rw [sub_first h]; exact goL_iff p r
end Mine
end
section
set_option Elab.async false
set_option maxRecDepth 100000
namespace Mine
open PySem PySem.W PyProof.Rows PySem.Calls PySem.Spec PySem.Builtin PySem.Builtin.Str PySem.StrLaws
noncomputable abbrev strM : Str := Str.ofString "m"
noncomputable abbrev strT : Str := Str.ofString "t"
noncomputable abbrev strS : Str := Str.ofString "s"
noncomputable abbrev dots : Str := Str.ofString "..."
noncomputable def lettersL (i j k : Nat) : List Str := List.replicate (i + 1) strM ++ List.replicate j strT ++ List.replicate (k + 1) strS
noncomputable def midL (i j k : Nat) : List Str := List.replicate i strM ++ List.replicate j strT ++ List.replicate k strS
noncomputable def wantOk (i j k : Nat) : Bool :=
  JoinOk dots (lettersL i j k) && decide ((Txt.join dots (lettersL i j k)).length ≤ 200) && (Txt.split (Txt.join dots (lettersL i j k)) dots == strM :: (midL i j k ++ [strS]))
    && !(occurrences (Txt.join dots (lettersL i j k)) dots 0 (Txt.join dots (lettersL i j k)).length 1).isEmpty
theorem eDots : dots = tx [46, 46, 46] := by decide +kernel
/-- letters after the first, dots ahead of each -/
noncomputable def flat : List Nat → List Nat
  | [] => []
  | c :: r => 46 :: 46 :: 46 :: c :: flat r
theorem flat_len : ∀ cs, (flat cs).length = 4 * cs.length
  | [] => rfl
  | c :: r => by simp only [flat, List.length_cons, flat_len r]; omega
theorem occ_loop : ∀ (cs pre : List Nat) (c : Nat) (arr : Array Nat) (free lim : Nat), c ≠ 46 → (∀ d ∈ cs, d ≠ 46) → free ≤ pre.length → arr.size + cs.length < lim →
    (forIn (List.range' pre.length (4 * cs.length + 2)) (arr, free) (occBody (tx (pre ++ c :: flat cs)) (tx [46, 46, 46]) (pre.length + 1 + 4 * cs.length) lim)).run.fst.toList = arr.toList ++ (List.range cs.length).map fun t => pre.length + 4 * t + 1
  | [], pre, c, arr, free, lim, hc, hd, hf, hl => by
    show (forIn (m := Id) (pre.length :: (pre.length + 1) :: []) (arr, free) _).run.fst.toList = _
    rw [List.forIn_cons]
    have e1 : ∀ st : Array Nat × Nat, occBody (tx (pre ++ c :: flat [])) (tx [46, 46, 46]) (pre.length + 1 + 4 * ([] : List Nat).length) lim pre.length st = pure (ForInStep.yield (st.fst, st.snd)) := fun st => by
      unfold occBody
      rw [if_neg fun h => ?_]
      have := h.1.2
      rw [tx_len] at this
      simp only [List.length_cons, List.length_nil] at this
      omega
    have e2 : ∀ st : Array Nat × Nat, occBody (tx (pre ++ c :: flat [])) (tx [46, 46, 46]) (pre.length + 1 + 4 * ([] : List Nat).length) lim (pre.length + 1) st = pure (ForInStep.yield (st.fst, st.snd)) := fun st => by
      unfold occBody
      rw [if_neg fun h => ?_]
      have := h.1.2
      rw [tx_len] at this
      simp only [List.length_cons, List.length_nil] at this
      omega
    rw [e1]
    show (forIn (m := Id) ((pre.length + 1) :: []) (arr, free) _).run.fst.toList = _
    rw [List.forIn_cons, e2]
    simp
  | d :: cs, pre, c, arr, free, lim, hc, hd, hf, hl => by
    have hr : List.range' pre.length (4 * (d :: cs).length + 2) = pre.length :: (pre.length + 1) :: (pre.length + 2) :: (pre.length + 3) :: List.range' (pre.length + 4) (4 * cs.length + 2) := by
      rw [List.length_cons, show 4 * (cs.length + 1) + 2 = (4 * cs.length + 2) + 1 + 1 + 1 + 1 from by omega, List.range'_succ, List.range'_succ, List.range'_succ, List.range'_succ]
    have hx : pre ++ c :: flat (d :: cs) = (pre ++ [c, 46, 46, 46]) ++ d :: flat cs := by simp [flat]
    have hp : (pre ++ [c, 46, 46, 46]).length = pre.length + 4 := by simp
    have ih := occ_loop cs (pre ++ [c, 46, 46, 46]) d (arr.push (pre.length + 1)) (pre.length + 4) lim (hd d (.head _)) (fun e he => hd e (.tail _ he)) (by rw [hp]; omega) (by rw [Array.size_push]; rw [List.length_cons] at hl; omega)
    rw [← hx, hp, show pre.length + 4 + 1 + 4 * cs.length = pre.length + 1 + 4 * (d :: cs).length from by rw [List.length_cons]; omega] at ih
    have hhi : pre.length + 1 + 4 * (d :: cs).length = pre.length + 5 + 4 * cs.length := by rw [List.length_cons]; omega
    have s0 : subAt (tx (pre ++ c :: flat (d :: cs))) (tx [46, 46, 46]) pre.length = false := by
      rw [sub_tx, decide_eq_false_iff_not, List.drop_left]
      intro e
      simp [flat] at e
      exact hc e
    have s1 : subAt (tx (pre ++ c :: flat (d :: cs))) (tx [46, 46, 46]) (pre.length + 1) = true := by
      rw [sub_tx, decide_eq_true_eq, ← List.drop_drop, List.drop_left]
      simp [flat]
    rw [hr, List.forIn_cons]
    have e0 : occBody (tx (pre ++ c :: flat (d :: cs))) (tx [46, 46, 46]) (pre.length + 1 + 4 * (d :: cs).length) lim pre.length (arr, free) = pure (ForInStep.yield (arr, free)) := by
      unfold occBody
      rw [if_neg fun h => by rw [s0] at h; exact Bool.false_ne_true h.2]
    have e1 : occBody (tx (pre ++ c :: flat (d :: cs))) (tx [46, 46, 46]) (pre.length + 1 + 4 * (d :: cs).length) lim (pre.length + 1) (arr, free) = pure (ForInStep.yield (arr.push (pre.length + 1), pre.length + 4)) := by
      unfold occBody
      rw [if_pos ⟨⟨⟨by rw [List.length_cons] at hl; show arr.size < lim; omega, by show free ≤ pre.length + 1; omega⟩, by rw [tx_len, hhi]; simp; omega⟩, s1⟩, tx_len]
      rfl
    have e2 : ∀ k, (k = 2 ∨ k = 3) → occBody (tx (pre ++ c :: flat (d :: cs))) (tx [46, 46, 46]) (pre.length + 1 + 4 * (d :: cs).length) lim (pre.length + k) (arr.push (pre.length + 1), pre.length + 4) = pure (ForInStep.yield (arr.push (pre.length + 1), pre.length + 4)) := fun k hk => by
      unfold occBody
      rw [if_neg fun h => by have := h.1.1.2; dsimp only at this; omega]
    rw [e0]
    show (forIn (m := Id) ((pre.length + 1) :: (pre.length + 2) :: (pre.length + 3) :: List.range' (pre.length + 4) (4 * cs.length + 2)) (arr, free) _).run.fst.toList = _
    rw [List.forIn_cons, e1]
    show (forIn (m := Id) ((pre.length + 2) :: (pre.length + 3) :: List.range' (pre.length + 4) (4 * cs.length + 2)) (arr.push (pre.length + 1), pre.length + 4) _).run.fst.toList = _
    rw [List.forIn_cons, e2 2 (.inl rfl)]
    show (forIn (m := Id) ((pre.length + 3) :: List.range' (pre.length + 4) (4 * cs.length + 2)) (arr.push (pre.length + 1), pre.length + 4) _).run.fst.toList = _
    rw [List.forIn_cons, e2 3 (.inr rfl)]
    show (forIn (m := Id) (List.range' (pre.length + 4) (4 * cs.length + 2)) (arr.push (pre.length + 1), pre.length + 4) _).run.fst.toList = _
    rw [ih, List.length_cons, List.range_succ_eq_map]
    simp only [Array.toList_push, List.append_assoc, List.map_cons, List.map_map, List.cons_append, List.nil_append]
    congr 2
    apply List.map_congr_left
    intro t _
    show pre.length + 4 + 4 * t + 1 = pre.length + 4 * (t + 1) + 1
    omega
theorem occ_flat {cs : List Nat} {c lim : Nat} (hc : c ≠ 46) (hd : ∀ d ∈ cs, d ≠ 46) (hl : cs.length < lim) : occurrences (tx (c :: flat cs)) (tx [46, 46, 46]) 0 (tx (c :: flat cs)).length lim = (List.range cs.length).map fun t => 4 * t + 1 := by
  rw [occ_eq]
  have := occ_loop cs [] c #[] 0 lim hc hd (Nat.le_refl _) (by simpa using hl)
  rw [tx_len, List.length_cons, flat_len]
  simp only [List.length_nil, Nat.zero_add, List.nil_append] at this
  rw [show 4 * cs.length + 1 + 1 - 0 = 4 * cs.length + 2 from by omega, show 4 * cs.length + 1 = 1 + 4 * cs.length from by omega]
  exact this
theorem parts_flat : ∀ (cs pre : List Nat) (c : Nat), ((pre.length :: ((List.range cs.length).map fun t => pre.length + 4 * t + 1).map (· + 3)).zip (((List.range cs.length).map fun t => pre.length + 4 * t + 1) ++ [pre.length + 4 * cs.length + 1])).map (fun x => strSub (tx (pre ++ c :: flat cs)) x.1 x.2) = (c :: cs).map fun c => tx [c]
  | [], pre, c => by
    simp [strSub, flat]
  | d :: cs, pre, c => by
    have hx : pre ++ c :: flat (d :: cs) = (pre ++ [c, 46, 46, 46]) ++ d :: flat cs := by simp [flat]
    have hp : (pre ++ [c, 46, 46, 46]).length = pre.length + 4 := by simp
    have ih := parts_flat cs (pre ++ [c, 46, 46, 46]) d
    rw [← hx, hp] at ih
    have hm : ((List.range cs.length).map fun t => pre.length + 4 + 4 * t + 1) = ((List.range cs.length).map Nat.succ).map fun t => pre.length + 4 * t + 1 := by
      rw [List.map_map]
      apply List.map_congr_left
      intro t _
      show pre.length + 4 + 4 * t + 1 = pre.length + 4 * (t + 1) + 1
      omega
    rw [hm, show pre.length + 4 + 4 * cs.length + 1 = pre.length + 4 * (d :: cs).length + 1 from by rw [List.length_cons]; omega] at ih
    rw [List.length_cons, List.range_succ_eq_map, List.map_cons, List.map_cons, List.cons_append, List.zip_cons_cons, List.map_cons, List.map_cons, ← ih]
    congr 1
    show strSub (tx (pre ++ c :: flat (d :: cs))) pre.length (pre.length + 4 * 0 + 1) = tx [c]
    simp [strSub]
theorem join_flat : ∀ (cs : List Nat) (a : List Nat), ((cs.map fun c => tx [c]).foldl (fun acc p => acc ++ (tx [46, 46, 46]).cps ++ p.cps) a.toArray) = (a ++ flat cs).toArray
  | [], a => by simp [flat]
  | c :: cs, a => by
    rw [List.map_cons, List.foldl_cons]
    have e : a.toArray ++ (tx [46, 46, 46]).cps ++ (tx [c]).cps = (a ++ [46, 46, 46, c]).toArray := by simp
    rw [e, join_flat cs]
    simp [flat]
theorem join_tx (c : Nat) (cs : List Nat) : Txt.join (tx [46, 46, 46]) ((c :: cs).map fun c => tx [c]) = tx (c :: flat cs) := by
  unfold Txt.join glued
  have := join_flat cs [c]
  show Str.mk _ = _
  congr 1
theorem kind_one (x : Str) : decide (Builtin.Str.strKind x < Builtin.Str.strKind (tx [46, 46, 46])) = false := by
  have e : Builtin.Str.strKind (tx [46, 46, 46]) = 1 := by decide +kernel
  rw [e, decide_eq_false_iff_not]
  unfold Builtin.Str.strKind
  split
  · decide
  · split <;> decide
theorem split_flat {c : Nat} {cs : List Nat} (hc : c ≠ 46) (hd : ∀ d ∈ cs, d ≠ 46) (h1 : 1 ≤ cs.length) : Txt.split (tx (c :: flat cs)) (tx [46, 46, 46]) = (c :: cs).map fun c => tx [c] := by
  unfold Txt.split
  rw [kind_one, Bool.or_false, if_neg (by rw [tx_len, tx_len, List.length_cons, flat_len]; simp; omega), occ_flat hc hd (by rw [tx_len, List.length_cons, flat_len]; omega), if_neg (by rw [List.isEmpty_iff]; intro e; have := congrArg List.length e; simp at this; simp [this] at h1)]
  have := parts_flat cs [] c
  simp only [List.length_nil, Nat.zero_add, List.nil_append] at this
  unfold partsBetween
  show List.map _ (List.zip (0 :: List.map (fun x => x + 3) _) (_ ++ [(tx (c :: flat cs)).length])) = _
  rw [tx_len, List.length_cons, flat_len]
  exact this
theorem lettersL_map (i j k : Nat) : lettersL i j k = (109 :: (List.replicate i 109 ++ List.replicate j 116 ++ List.replicate (k + 1) 115)).map fun c => tx [c] := by
  unfold lettersL
  rw [show strM = tx [109] from by decide +kernel, show strT = tx [116] from by decide +kernel, show strS = tx [115] from by decide +kernel, List.replicate_succ]
  simp
theorem sum_len : ∀ (cs : List Nat) (a : Nat), ((cs.map fun c => tx [c]).foldl (fun (acc : Nat) (p : Str) => acc + p.length + (tx [46, 46, 46]).length) a) = a + 4 * cs.length
  | [], a => by simp
  | c :: cs, a => by
    rw [List.map_cons, List.foldl_cons, sum_len cs, tx_len, tx_len, List.length_cons]
    simp; omega
theorem want_ok {i j k : Nat} (h : i + j + k ≤ 8) : wantOk i j k = true := by
  have hw : lettersL i j k = strM :: (midL i j k ++ [strS]) := by
    unfold lettersL midL
    rw [List.replicate_succ, List.replicate_succ']
    simp
  have hd : ∀ d ∈ (List.replicate i 109 ++ List.replicate j 116 ++ List.replicate (k + 1) 115), d ≠ 46 := by
    intro d hd
    simp only [List.mem_append, List.mem_replicate] at hd
    omega
  have hl : (List.replicate i 109 ++ List.replicate j 116 ++ List.replicate (k + 1) 115).length = i + j + (k + 1) := by simp; omega
  unfold wantOk
  rw [eDots, lettersL_map, join_tx, ← lettersL_map, ← hw, lettersL_map]
  generalize List.replicate i 109 ++ List.replicate j 116 ++ List.replicate (k + 1) 115 = cs at *
  rw [split_flat (by decide) hd (by omega), occ_at (i := 1) (by omega) (by simp only [tx_len, List.length_cons, List.length_nil, flat_len]; omega) ?_ ?_]
  · simp only [beq_self_eq_true, Bool.and_true, List.isEmpty_cons, Bool.not_false, Bool.and_eq_true, decide_eq_true_eq]
    refine ⟨?_, by rw [tx_len, List.length_cons, flat_len]; omega⟩
    unfold JoinOk tooLong
    rw [List.foldl_toArray, sum_len, sizeLine_eq, List.length_cons]
    simp; omega
  · rw [sub_tx, decide_eq_true_eq]
    cases cs with
    | nil => simp at hl
    | cons d r => simp [flat]
  · intro a h0 h1
    have : a = 0 := by omega
    subst this
    rw [sub_tx]
    simp
theorem midL_len {i j k : Nat} (h : i + j + k ≤ 8) : (midL i j k).length ≤ 200 := by simp [midL]; omega
theorem midL_one {i j k : Nat} : ∀ x ∈ midL i j k, x.length ≤ 200 := by
  intro x hx
  simp only [midL, List.mem_append, List.mem_replicate] at hx
  rcases hx with (⟨_, rfl⟩ | ⟨_, rfl⟩) | ⟨_, rfl⟩ <;> decide
end Mine
end
section
open PySem PySem.W PyProof.Rows PySem.Calls PySem.Spec PySem.Builtin.Str
set_option Elab.async false
set_option maxRecDepth 100000
set_option maxHeartbeats 2000000
set_option pp.deepTerms false
set_option pp.maxSteps 3000
namespace Mine
noncomputable def foundB (text : Str) (size : Nat) : Bool := (List.range (size + 1)).any fun i => (List.range (size + 1 - i)).any fun j => ellA (strM ++ text ++ strS) strM strS (midL i j (size - i - j))
local macro_rules | `(tactic| walk_at "PostG") => `(tactic| (dsimp only [PostG]))
local macro_rules | `(tactic| walk_at "pyIter ref") => `(tactic| (k_here; (with_reducible show wpAny _ _ (pyIter (Value.ref _)) (fun it s₂ => LoopAtV _ _ _ _ _ _ _ _ _ it s₂) _ _); refine stopHere ?_))
local macro_rules | `(tactic| walk_at "exec For Name Call cons nil") => `(tactic| (k_here; (rename Fr _ _ _ _ => lF'); (with_unfolding_all refine' For_invVF lF' ?k1 ?k2 ?_; (case k1 => exact rfl); (case k2 => exact rfl); k_whole)))
local macro_rules | `(tactic| walk_at "binaryOp Mult ref int") => `(tactic| (k_here; refine stopHere ?_))
local macro_rules | `(tactic| walk_at "binaryOp Add ref ref") => `(tactic| (k_here; refine stopHere ?_))
local macro_rules | `(tactic| walk_at "call builtin:str.join") => `(tactic| (k_here; (with_reducible show wpAny _ _ (call (Value.builtin "str.join") _) _ _ _); refine stopHere ?_))
local macro_rules | `(tactic| walk_at "call ref") => `(tactic| (k_here; (with_reducible show wpAny _ _ (call (Value.ref 49) _) _ _ _); refine stopHere ?_))
/-- what holds in the two loops of _law_found -/
inductive JF1 (text : Str) (size i : Nat) (m₁ : Str → Option Value) (news₁ : List (Addr × Obj)) : Prop
  | mk (t1 t2 : Tok) (e1 : m₁ (Str.ofString "size") = some (.int (size : Int) t1)) (e2 : m₁ (Str.ofString "text") = some (.str text t2)) (hn : news₁ = []) (hno : ∀ i' < i, ∀ j' < size + 1 - i', ellA (strM ++ text ++ strS) strM strS (midL i' j' (size - i' - j')) = false) : JF1 text size i m₁ news₁
inductive JF2 (text : Str) (size i : Nat) (own : List (Addr × Obj)) (j : Nat) (m₁ : Str → Option Value) (news₁ : List (Addr × Obj)) : Prop
  | mk (t1 t2 t3 : Tok) (e1 : m₁ (Str.ofString "size") = some (.int (size : Int) t1)) (e2 : m₁ (Str.ofString "text") = some (.str text t2)) (e3 : m₁ (Str.ofString "i") = some (.int (i : Int) t3)) (hn : news₁ = own) (hno : ∀ j' < j, ellA (strM ++ text ++ strS) strM strS (midL i j' (size - i - j')) = false) : JF2 text size i own j m₁ news₁
theorem c_found : ∀ (w : World) (mean : ExcName → Option Value) (mg mb : Str → Option Value) (text : Str) (size : Nat) (t u : Tok),
   ConL w mean mg mb 144 4 [] (text.length ≤ 100 ∧ size ≤ 8) [.str text t, .int (size : Int) u] (isB (foundB text size)) := by
  unfold ConL
  k_fill
  intro w mean mg mb text size t u
  intros
  rename_i hpre _ _ hret
  obtain ⟨hx, hs⟩ := hpre
  refine wpAny_call ?_
  k_dflt (refine' enterL ?k1 ?k2 ?k3 ?k4 ?k5 hret ?kA ?kF ?kK ?k6 ?k7 ?k8 ?k9 ?kB ?_ ?c2 ?c3 ?c4 ?c5; (case kA => exact rfl); (case kF => exact rfl); (case kK => assumption); (case k1 => k_asm); (case k2 => k_asm); (case k3 => k_asm); (case k4 => k_asm); (case k5 => k_asm); (case k6 => k_is); (case k7 => k_is); (case k8 => ktr_room); (case k9 => exact BindsTo.of_eq rfl); (case c5 => decide); (case kB => exact locs rfl); (case c2 => exact rfl); (case c3 => exact rfl); (case c4 => exact rfl); k_whole; intro g' L' h' FG' F' N' B' X' T' l1; (try dsimp only); (try k_lift B'); (try k_fold))
  clear hret
  k_steps
  refine Stop.go ?_
  rename IsRange _ _ _ _ _ _ _ _ => R9
  rename Fr _ _ _ _ => F9
  rename News _ _ _ _ => N9
  refine iter_rng (n := size + 1) (JF1 text size) rfl F9 N9 R9 (small_up (by omega) (by omega)) (size_up (by omega)) (.mk _ _ rfl rfl rfl fun _ h => absurd h (Nat.not_lt_zero _)) ?turn ?done
  case done =>
    intro m₁ news₁ h tk hJ F₁ N₁
    obtain ⟨t1, t2, e1, e2, rfl, hno⟩ := hJ
    clear F9 N9
    k_steps
    refine fin_b (by assumption) (by assumption) ?_ (fun _ h => nomatch h)
    symm
    simp only [foundB, List.any_eq_false, List.mem_range, Bool.not_eq_true]
    exact hno
  case turn =>
    clear F9 N9
    intro I i u9 m₁ news₁ h tk own hi hJ hI hown F₁ N₁
    obtain ⟨t1, t2, e1, e2, rfl, hno⟩ := hJ
    rw [Int.zero_add] at F₁
    have F₂ := Fr_named (x := Str.ofString "size") (Fr_named (x := Str.ofString "text") F₁ e2) e1
    clear F₁
    simp only [List.nil_append] at N₁
    k_steps
    refine Stop.go ?_
    rename IsRange _ _ _ _ _ _ _ _ => R9
    rename Fr _ _ _ _ => F9
    rename News _ _ _ _ => N9
    refine iter_rng (n := size + 1 - i) (JF2 text size i own) rfl F9 N9 R9 (small_up (by omega) (by omega)) (size_up (by omega)) (.mk _ _ _ rfl rfl rfl rfl fun _ h => absurd h (Nat.not_lt_zero _)) ?turn2 ?done2
    case done2 =>
      intro m₂ news₂ h2 tk2 hJ2 F₂ N₂
      obtain ⟨t1, t2, t3, e1, e2, e3, rfl, hno2⟩ := hJ2
      clear F9 N9
      k_steps
      refine endG [] F₂ N₂ (fun _ h => nomatch h) (fun p hp => hp) (fun _ h => nomatch h) (.mk _ _ e1 e2 rfl fun i' hi' => ?_)
      rcases Nat.lt_succ_iff_lt_or_eq.mp hi' with h9 | rfl
      · exact hno i' h9
      · exact hno2
    case turn2 =>
      clear F9 N9
      intro I2 j u8 m₂ news₂ h2 tk2 own2 hj hJ2 hI2 hown2 F₁ N₁
      obtain ⟨t1, t2, t3, e1, e2, e3, rfl, hno2⟩ := hJ2
      rw [Int.zero_add] at F₁
      have hjS : Stop (j < size + 1 - i) := hj
      have hij : i + j ≤ size := by omega
      clear hj
      have F₂ := Fr_named (x := Str.ofString "size") (Fr_named (x := Str.ofString "text") (Fr_named (x := Str.ofString "i") F₁ e3) e2) e1
      clear F₁
      k_steps
      refine Stop.go ?_
      (refine' mul_one ?F_1 ?N_1 ?m_1 ?a_1 ?b_1 ?_; (case F_1 => k_asm); (case N_1 => k_asm); (case m_1 => k_mem); (case a_1 => omega); (case b_1 => omega))
      intro D' h' F' N' l1
      (try k_lt l1)
      k_steps
      refine Stop.go ?_
      (refine' mul_one ?F_2 ?N_2 ?m_2 ?a_2 ?b_2 ?_; (case F_2 => k_asm); (case N_2 => k_asm); (case m_2 => k_mem); (case a_2 => omega); (case b_2 => omega))
      intro D' h' F' N' l1
      (try k_lt l1)
      k_steps
      refine Stop.go ?_
      (refine' add_texts ?F_3 ?N_3 ?m_3 ?n_3 ?a_3 ?_; (case F_3 => k_asm); (case N_3 => k_asm); (case m_3 => k_mem); (case n_3 => k_mem); (case a_3 => (simp only [List.length_append, List.length_replicate]; omega)))
      intro D' h' F' N' l1
      (try k_lt l1)
      k_steps
      refine Stop.go ?_
      (refine' mul_one ?F_4 ?N_4 ?m_4 ?a_4 ?b_4 ?_; (case F_4 => k_asm); (case N_4 => k_asm); (case m_4 => k_mem); (case a_4 => omega); (case b_4 => omega))
      intro D' h' F' N' l1
      (try k_lt l1)
      k_steps
      refine Stop.go ?_
      (refine' add_texts ?F_5 ?N_5 ?m_5 ?n_5 ?a_5 ?_; (case F_5 => k_asm); (case N_5 => k_asm); (case m_5 => k_mem); (case n_5 => k_mem); (case a_5 => (simp only [List.length_append, List.length_replicate]; omega)))
      intro D' h' F' N' l1
      (try k_lt l1)
      k_steps
      refine Stop.go ?_
      have hq := want_ok (i := i) (j := j) (k := size - i - j) (by omega)
      simp only [wantOk, Bool.and_eq_true, decide_eq_true_eq, beq_iff_eq, Bool.not_eq_true'] at hq
      obtain ⟨⟨⟨q1, q2⟩, q3⟩, q4⟩ := hq
      have eL : ∀ tm tt ts : Tok, (List.replicate ((i : Int) + 1).toNat (Str.ofString "m", tm) ++ List.replicate (j : Int).toNat (Str.ofString "t", tt) ++ List.replicate ((size : Int) - (i : Int) - (j : Int) + 1).toNat (Str.ofString "s", ts)).map (·.1) = lettersL i j (size - i - j) := by
        intro tm tt ts
        have h1 : ((i : Int) + 1).toNat = i + 1 := by omega
        have h2 : (j : Int).toNat = j := by omega
        have h3 : ((size : Int) - (i : Int) - (j : Int) + 1).toNat = size - i - j + 1 := by omega
        rw [h1, h2, h3]
        simp [lettersL]
      rename News _ _ _ _ => N9
      refine join_led N9 (.head _) (by rw [eL]; exact q1) ?_
      rw [eL]
      intro tw kw
      generalize hW : Txt.join (Str.ofString "...") (lettersL i j (size - i - j)) = want at *
      k_steps
      refine Stop.go ?_
      k_dflt (refine' ConL.goB (c_ellA _ _ _ _ want (strM ++ text ++ strS) strM strS (midL i j (size - i - j)) _ _) ?k1 ?k2 ?k3 ?k4 ?k5 ?kK ?kl ?kp ?kd ?ku ?_; (case k1 => k_asm); (case k2 => k_asm); (case k3 => k_asm); (case k4 => k_asm); (case k5 => k_asm); (case kK => first | exact rfl | assumption); (case kd => ktr_room); (case ku => ktr_units); k_whole)
      case kl => exact fun _ h => nomatch h
      case kp => exact ⟨q2, (by have h1 : strM.length = 1 := rfl; have h2 : strS.length = 1 := rfl; rw [Str.length_append, Str.length_append]; omega), q3, q4, by decide, by decide, by decide, by decide, midL_len (by omega), midL_one⟩
      intro h9 tk9 F9 N9
      cases hb : ellA (strM ++ text ++ strS) strM strS (midL i j (size - i - j)) with
      | true =>
        k_steps
        refine fin_b (by assumption) (by assumption) ?_ (fun _ h => nomatch h)
        symm
        simp only [foundB, List.any_eq_true, List.mem_range]
        exact ⟨i, hi, j, hjS, hb⟩
      | false =>
        k_steps
        refine endG news₂ (by assumption) (by assumption) ?_ ?_ hI2 (.mk _ _ _ rfl rfl rfl rfl ?_)
        · intro p hp
          repeat (first | exact List.mem_append_left _ hp | refine List.Mem.tail _ ?_)
        · intro p hp
          repeat (first | exact List.mem_append_right _ hp | refine List.Mem.tail _ ?_)
        · intro j' hj'
          rcases Nat.lt_succ_iff_lt_or_eq.mp hj' with h8 | rfl
          · exact hno2 j' h8
          · exact hb
end Mine
end
section
open PySem PySem.W PyProof.Rows PySem.Calls PySem.Spec PySem.Builtin.Str
set_option Elab.async false
set_option maxRecDepth 100000
set_option maxHeartbeats 2000000
set_option pp.deepTerms false
set_option pp.maxSteps 3000
namespace Mine
noncomputable abbrev strSS : Str := Str.ofString "ss"
/-- an int comes back -/
noncomputable def isI (x : Int) (new : List (Addr × Obj)) (v : Value) : Prop := ∃ t, v = .int x t ∧ new = []
theorem ConL.goI {w : World} {mean : ExcName → Option Value} {mg mb : Str → Option Value} {f : Addr} {need : Nat} {led : List (Addr × Obj)} {P : Prop} {vs : List Value}
    {dp un : Nat} {gd : Option (List Code)} {cn : Str} {cs : Scope} {a : Addr} {ccd : Value} {cl : List (Str × Addr)} {outer : List Env} {A₀ : Around} {base h₀ : Heap} {L : Addr} {m : Str → Option Value} {news : List (Addr × Obj)} {s : Shared} {Q E : Value → Shared → Prop} {x : Int}
    (c : ConL w mean mg mb f need led P vs (isI x)) (B : Below A₀ base outer h₀) (F : Fr h₀ L s.heap m) (X : (K0 w.params).In h₀) (N : News h₀ L s.heap news) (T : Top q0 (looseW q0 loose0) mean mg mb h₀) (hk : cs.kind = .function) (hl : ∀ p ∈ led, p ∈ news) (hp : P) (hd : dp + need < recursionLimit) (hu : un + 10 * need < cLine)
    (hret : ∀ (t : Tok) (h' : Heap) (tk' : Nat), Fr h₀ L h' m → News h₀ L h' news → Q (.int x t) { s with heap := h', toks := tk' }) :
    wpAny (model PySem.Challenge.rw_rl0121_01.row.prog w) (ktrTop dp un gd cn cs L a ccd cl outer) (call (.ref f) vs) Q E s :=
  c.go B F X N T hk hl hp hd hu fun v h' tk' new ⟨t, e1, e2⟩ _ F' N' => by subst e1 e2; exact hret t h' tk' F' N'
theorem fin_i {g h' : Heap} {L' : Addr} {m' : Str → Option Value} {led news' : List (Addr × Obj)} {x b : Int} {t : Tok} {s : Shared} {tk : Nat} (F : Fr g L' h' m') (N : News g L' h' news') (e : x = b) (hs : ∀ p ∈ led, p ∈ news') :
    FinL g led (isI b) s (.int x t) { s with heap := h', toks := tk } := ⟨[], h', tk, L', rfl, ⟨t, by rw [e], rfl⟩, fun p hp => N p (hs p hp), (fun _ h => nomatch h), F.keep⟩
/-- a test that comes out false, nothing of the frame changed -/
noncomputable def CutF (s₀ : Shared) (g : Heap) (L : Addr) (m : Str → Option Value) (news : List (Addr × Obj)) (b : Bool) (s₂ : Shared) : Prop := b = false ∧ ∃ h' tk', s₂ = { s₀ with heap := h', toks := tk' } ∧ Fr g L h' m ∧ News g L h' news
theorem cut_false {M : Model} {A : Around} {E : Value → Shared → Prop} {s : Shared} {g : Heap} {L : Addr} {m : Str → Option Value} {news : List (Addr × Obj)} {t : Sem Bool} {Q : Bool → Shared → Prop} (_F : Fr g L s.heap m) (_N : News g L s.heap news)
    (h : wpAny M A t (CutF s g L m news) E s) (k : ∀ h' tk', Fr g L h' m → News g L h' news → Q false { s with heap := h', toks := tk' }) : wpAny M A t Q E s := by
  refine wpAny_mono h (fun b s₂ hb => ?_) fun _ _ e => e
  obtain ⟨rfl, h', tk', rfl, F', N'⟩ := hb
  exact k h' tk' F' N'
theorem cutF_in {s₀ : Shared} {g h' : Heap} {L : Addr} {m : Str → Option Value} {news news' : List (Addr × Obj)} {b : Bool} {tk' : Nat} (F : Fr g L h' m) (N : News g L h' news') (hs : ∀ p ∈ news, p ∈ news') (e : b = false) : CutF s₀ g L m news b { s₀ with heap := h', toks := tk' } :=
  ⟨e, h', tk', rfl, F, fun p hp => N p (hs p hp)⟩
local macro_rules | `(tactic| walk_at "PostG") => `(tactic| (dsimp only [PostG]))
local macro_rules | `(tactic| walk_at "call ref") => `(tactic| (k_here; (with_reducible show wpAny _ _ (call (Value.ref 49) _) _ _ _); refine stopHere ?_))
local macro_rules | `(tactic| walk_at "testChain") => `(tactic| (with_unfolding_all first | refine test_link ?_ | refine test_last ?_))
local macro_rules | `(tactic| walk_at "exec While") => `(tactic| (k_here; refine stopHere ?_))
local macro_rules | `(tactic| walk_at "exec If") => `(tactic| (k_here; refine wpAny_If ?_; refine stopHere ?_))
/-- what the walk of _law_triples needs of a text -/
noncomputable def cutOut (tx : Str) : Str := Txt.slice tx none (some (Txt.find tx strS)) ++ Txt.slice tx (some (Txt.find tx strS + 1)) (some (Txt.find3 tx strT (Txt.find tx strS))) ++ Txt.slice tx (some (Txt.find3 tx strT (Txt.find tx strS) + 1)) (some (Txt.find3 tx strM (Txt.find3 tx strT (Txt.find tx strS)))) ++ Txt.slice tx (some (Txt.find3 tx strM (Txt.find3 tx strT (Txt.find tx strS)) + 1)) none
structure TripOk (good : Str → Prop) (blue : Str → Int) (tx : Str) : Prop where
  len : tx.length ≤ 100
  h1 : ellA tx strS strM [] = (Txt.slice tx none (some 1) == strS && Txt.slice tx (some (-1)) none == strM)
  h2 : ellA tx strSS strSS [] = (Txt.slice tx none (some 2) == strSS && Txt.slice tx (some (-2)) none == strSS && decide ((tx.length : Int) > 3))
  h3 : ellB tx [strSS, strSS] = (!(occurrences tx strSS 0 tx.length 1).isEmpty && !(occurrences (Txt.slice tx (some (Txt.find tx strSS + 2)) none) strSS 0 (Txt.slice tx (some (Txt.find tx strSS + 2)) none).length 1).isEmpty)
  h5 : ellB tx [strS, strT, strM] = decide (0 < blue tx)
  pos : 0 ≤ blue tx
  f0 : 0 < blue tx → -1 < Txt.find tx strS
  f1 : 0 < blue tx → Txt.find tx strS < Txt.find3 tx strT (Txt.find tx strS)
  f2 : 0 < blue tx → Txt.find3 tx strT (Txt.find tx strS) < Txt.find3 tx strM (Txt.find3 tx strT (Txt.find tx strS))
  cutGood : 0 < blue tx → good (cutOut tx)
  cutBlue : 0 < blue tx → blue (cutOut tx) = blue tx - 1
  cutLen : 0 < blue tx → (cutOut tx).length < tx.length
theorem c_trip {good : Str → Prop} {blue : Str → Int} (H : ∀ tx, good tx → TripOk good blue tx) : ∀ (w : World) (mean : ExcName → Option Value) (mg mb : Str → Option Value) (text : Str) (t : Tok),
   ConL w mean mg mb 151 4 [] (good text) [.str text t] (isI (blue text)) := by
  unfold ConL
  k_fill
  intro w mean mg mb text t
  intros
  rename_i hx _ _ hret
  have hG := hx
  obtain ⟨hx, H1, H2, H3, -, -, -, -, -, -, -, -⟩ := H text hx
  refine wpAny_call ?_
  k_dflt (refine' enterL ?k1 ?k2 ?k3 ?k4 ?k5 hret ?kA ?kF ?kK ?k6 ?k7 ?k8 ?k9 ?kB ?_ ?c2 ?c3 ?c4 ?c5; (case kA => exact rfl); (case kF => exact rfl); (case kK => assumption); (case k1 => k_asm); (case k2 => k_asm); (case k3 => k_asm); (case k4 => k_asm); (case k5 => k_asm); (case k6 => k_is); (case k7 => k_is); (case k8 => ktr_room); (case k9 => exact BindsTo.of_eq rfl); (case c5 => decide); (case kB => exact locs rfl); (case c2 => exact rfl); (case c3 => exact rfl); (case c4 => exact rfl); k_whole; intro g' L' h' FG' F' N' B' X' T' l1; (try dsimp only); (try k_lift B'); (try k_fold))
  clear hret
  replace F' := Fr_named (x := Str.ofString "text") (v := some (.str text t)) F' rfl
  k_steps
  refine Stop.go ?_
  refine cut_false F' N' ?_ ?_
  · k_steps
    refine Stop.go ?_
    k_dflt (refine' ConL.goB (c_ellA _ _ _ _ (Str.ofString "s...m") text strS strM [] _ _) ?k1_1 ?k2_1 ?k3_1 ?k4_1 ?k5_1 ?kK_1 ?kl_1 ?kp_1 ?kd_1 ?ku_1 ?_; (case k1_1 => k_asm); (case k2_1 => k_asm); (case k3_1 => k_asm); (case k4_1 => k_asm); (case k5_1 => k_asm); (case kK_1 => first | exact rfl | assumption); (case kd_1 => ktr_room); (case ku_1 => ktr_units); k_whole)
    case kl_1 => exact fun _ h => nomatch h
    case kp_1 => exact ⟨by decide, by omega, by decide +kernel, by decide +kernel, by decide, by decide, by decide, by decide, by decide, fun _ h => nomatch h⟩
    intro h9 tk9 F9 N9
    generalize hb : ellA text strS strM [] = b9
    cases b9
    all_goals k_steps
    all_goals (refine cutF_in (by assumption) (by assumption) (fun _ h => nomatch h) ?_; rw [H1] at hb; simp_all)
  clear F' N'
  intro h' tk' F' N'
  k_steps
  refine Stop.go ?_
  refine cut_false F' N' ?_ ?_
  · k_steps
    refine Stop.go ?_
    k_dflt (refine' ConL.goB (c_ellA _ _ _ _ (Str.ofString "ss...ss") text strSS strSS [] _ _) ?k1_2 ?k2_2 ?k3_2 ?k4_2 ?k5_2 ?kK_2 ?kl_2 ?kp_2 ?kd_2 ?ku_2 ?_; (case k1_2 => k_asm); (case k2_2 => k_asm); (case k3_2 => k_asm); (case k4_2 => k_asm); (case k5_2 => k_asm); (case kK_2 => first | exact rfl | assumption); (case kd_2 => ktr_room); (case ku_2 => ktr_units); k_whole)
    case kl_2 => exact fun _ h => nomatch h
    case kp_2 => exact ⟨by decide, by omega, by decide +kernel, by decide +kernel, by decide, by decide, by decide, by decide, by decide, fun _ h => nomatch h⟩
    intro h9 tk9 F9 N9
    generalize hb : ellA text strSS strSS [] = b9
    cases b9
    all_goals k_steps
    all_goals (refine cutF_in (by assumption) (by assumption) (fun _ h => nomatch h) ?_; rw [H2] at hb; simp_all)
  clear F' N'
  intro h' tk' F' N'
  k_steps
  refine Stop.go ?_
  refine cut_false F' N' ?_ ?_
  · k_steps
    refine Stop.go ?_
    k_dflt (refine' ConL.goB (c_ellB _ _ _ _ (Str.ofString "...ss...ss...") text [strSS, strSS] _ _) ?k1_3 ?k2_3 ?k3_3 ?k4_3 ?k5_3 ?kK_3 ?kl_3 ?kp_3 ?kd_3 ?ku_3 ?_; (case k1_3 => k_asm); (case k2_3 => k_asm); (case k3_3 => k_asm); (case k4_3 => k_asm); (case k5_3 => k_asm); (case kK_3 => first | exact rfl | assumption); (case kd_3 => ktr_room); (case ku_3 => ktr_units); k_whole)
    case kl_3 => exact fun _ h => nomatch h
    case kp_3 => exact ⟨by decide, by omega, by decide +kernel, by decide +kernel, by decide, by decide⟩
    intro h9 tk9 F9 N9
    generalize hb : ellB text [strSS, strSS] = b9
    cases b9
    all_goals k_steps
    all_goals (refine cutF_in (by assumption) (by assumption) (fun _ h => nomatch h) ?_; rw [H3] at hb; simp_all)
  clear F' N'
  intro h' tk' F' N'
  k_steps
  refine Stop.go ?_
  refine cut_false F' N' ?_ ?_
  · k_steps
    refine Stop.go ?_
    k_dflt (refine' ConL.goB (c_ellC _ _ _ _ (Str.ofString "st") text _ _) ?k1_4 ?k2_4 ?k3_4 ?k4_4 ?k5_4 ?kK_4 ?kl_4 ?kp_4 ?kd_4 ?ku_4 ?_; (case k1_4 => k_asm); (case k2_4 => k_asm); (case k3_4 => k_asm); (case k4_4 => k_asm); (case k5_4 => k_asm); (case kK_4 => first | exact rfl | assumption); (case kd_4 => ktr_room); (case ku_4 => ktr_units); k_whole)
    case kl_4 => exact fun _ h => nomatch h
    case kp_4 => exact ⟨by decide, by omega, by decide +kernel⟩
    intro h9 tk9 F9 N9
    k_steps
    refine cutF_in (by assumption) (by assumption) (fun _ h => nomatch h) ?_
    rw [show (Str.ofString "st" == text) = (text == Str.ofString "st") from by rw [Bool.eq_iff_iff]; simp; exact eq_comm]
    simp
  clear F' N'
  intro h' tk' F' N'
  k_steps
  refine Stop.go ?_
  rename Fr _ _ _ _ => F9
  rename News _ _ _ _ => N9
  refine While_inv2 (n₀ := text.length) (fun n m₁ news₁ => (∃ tx t1 c t2, m₁ (Str.ofString "text") = some (.str tx t1) ∧ m₁ (Str.ofString "count") = some (.int c t2) ∧ n = tx.length ∧ good tx ∧ blue tx + c = blue text) ∧ news₁ = []) F9 N9 ⟨⟨_, _, _, _, rfl, rfl, rfl, hG, by omega⟩, rfl⟩ ?_
  clear F9 N9
  intro n m₁ news₁ h₁ tk₁ F₁ N₁ hJ
  obtain ⟨⟨tx, t1, c, t2, e1, e2, rfl, hg, hc⟩, rfl⟩ := hJ
  have F₂ := Fr_named (x := Str.ofString "text") (Fr_named (x := Str.ofString "count") F₁ e2) e1
  clear F₁
  have O := H tx hg
  have hlx := O.len
  k_steps
  refine Stop.go ?_
  k_dflt (refine' ConL.goB (c_ellB _ _ _ _ (Str.ofString "...s...t...m...") tx [strS, strT, strM] _ _) ?k1_9 ?k2_9 ?k3_9 ?k4_9 ?k5_9 ?kK_9 ?kl_9 ?kp_9 ?kd_9 ?ku_9 ?_; (case k1_9 => k_asm); (case k2_9 => k_asm); (case k3_9 => k_asm); (case k4_9 => k_asm); (case k5_9 => k_asm); (case kK_9 => first | exact rfl | assumption); (case kd_9 => ktr_room); (case ku_9 => ktr_units); k_whole)
  case kl_9 => exact fun _ h => nomatch h
  case kp_9 => exact ⟨by decide, by omega, by decide +kernel, by decide +kernel, by decide, by decide⟩
  intro h9 tk9 F9 N9
  rw [O.h5]
  by_cases hp : 0 < blue tx
  · rw [decide_eq_true hp]
    have a0 := O.f0 hp
    have a1 := O.f1 hp
    have a2 := O.f2 hp
    k_steps
    refine Stop.go ?_
    k_steps
    rename Fr _ _ _ _ => F9
    rename News _ _ _ _ => N9
    exact ⟨_, _, _, _, _, rfl, F9, N9, O.cutLen hp, ⟨cutOut tx, _, _, _, rfl, rfl, rfl, O.cutGood hp, by rw [O.cutBlue hp]; omega⟩, rfl⟩
  · rw [decide_eq_false hp]
    k_steps
    have := O.pos
    exact fin_i (by assumption) (by assumption) (by omega) (fun _ h => nomatch h)
end Mine
end
section
set_option Elab.async false
namespace Mine
open PySem PySem.W PyProof.Rows PySem.Calls PySem.Spec
theorem assign_seven {M : Model} {A : Around} {E : Value → Shared → Prop} {s : Shared} {env : Env} {t1 t2 t3 t4 t5 t6 t7 value : Expr} {pos : Pos} {Q : Flow → Shared → Prop}
    (h : wpAny M A (eval value env) (fun v s1 => wpAny M A (assign t1 env v) (fun _ s2 => wpAny M A (assign t2 env v) (fun _ s3 => wpAny M A (assign t3 env v) (fun _ s4 => wpAny M A (assign t4 env v) (fun _ s5 => wpAny M A (assign t5 env v) (fun _ s6 => wpAny M A (assign t6 env v) (fun _ s7 => wpAny M A (assign t7 env v) (fun _ => Q .next) E s7) E s6) E s5) E s4) E s3) E s2) E s1) E s)
    (he : (assignEach [t1, t2, t3, t4, t5, t6, t7] env).map (·.2) = [assign t1 env, assign t2 env, assign t3 env, assign t4 env, assign t5 env, assign t6 env, assign t7 env] := by rfl)
    (hw : swappedStores [t1, t2, t3, t4, t5, t6, t7] value env = pure none := by rfl) :
    wpAny M A (exec (.Assign [t1, t2, t3, t4, t5, t6, t7] value pos) env) Q E s := by
  refine wpAny_Assign_stores (wpAny_mono h (fun v s₁ h₁ => ?_) fun _ _ x => x) rfl hw
  rw [he]
  refine wpAny_bind (wpAny_holding (wpAny_mono h₁ (fun _ s₂ h₂ => ?_) fun _ _ x => x))
  refine wpAny_bind (wpAny_holding (wpAny_mono h₂ (fun _ s₃ h₃ => ?_) fun _ _ x => x))
  refine wpAny_bind (wpAny_holding (wpAny_mono h₃ (fun _ s₄ h₄ => ?_) fun _ _ x => x))
  refine wpAny_bind (wpAny_holding (wpAny_mono h₄ (fun _ s₅ h₅ => ?_) fun _ _ x => x))
  refine wpAny_bind (wpAny_holding (wpAny_mono h₅ (fun _ s₆ h₆ => ?_) fun _ _ x => x))
  exact wpAny_bind (wpAny_holding h₆)
section
variable {prog : Program} {w : World} {A : Around} {E : Value → Shared → Prop} {s : Shared} {h₀ : Heap} {L : Addr} {m : Str → Option Value} {news : List (Addr × Obj)} {Q : Value → Shared → Prop}
theorem max3i {a b c : Int} {t u x : Tok} (hh : A.handled = none) (F : Fr h₀ L s.heap m) (N : News h₀ L s.heap news)
    (h : ∀ h' tk v, Fr h₀ L h' m → News h₀ L h' news → Q (.int (max (max a b) c) v) { s with heap := h', toks := tk }) : wpAny (model prog w) A (call (.builtin "max") [.int a t, .int b u, .int c x]) Q E s := by
  refine max_three_ints hh fun h' tk hk => ?_
  have key := fun v => h h' tk v (F.grownK hk) (N.grown hk)
  by_cases hba : b > a <;> by_cases hc1 : c > b <;> by_cases hc2 : c > a <;> simp only [hba, hc1, hc2, if_true, if_false] at key ⊢
  all_goals first
    | (rw [show max (max a b) c = a from by omega] at key; exact key _)
    | (rw [show max (max a b) c = b from by omega] at key; exact key _)
    | (rw [show max (max a b) c = c from by omega] at key; exact key _)
    | omega
theorem max2i {a b : Int} {t u : Tok} (hh : A.handled = none) (F : Fr h₀ L s.heap m) (N : News h₀ L s.heap news)
    (h : ∀ h' tk v, Fr h₀ L h' m → News h₀ L h' news → Q (.int (max a b) v) { s with heap := h', toks := tk }) : wpAny (model prog w) A (call (.builtin "max") [.int a t, .int b u]) Q E s := by
  refine max_two_N hh F N fun h' tk F' N' => ?_
  have e : (if b > a then b else a) = max a b := by split <;> omega
  rw [e]
  exact h h' tk _ F' N'
end
theorem append_led {prog : Program} {w : World} {A : Around} {E : Value → Shared → Prop} {s : Shared} {h₀ : Heap} {L : Addr} {m : Str → Option Value} {news news' : List (Addr × Obj)} {Q : Value → Shared → Prop} {D : Addr} {its : Array Value} {n : Nat} {x : Value} (F : Fr h₀ L s.heap m) (N : News h₀ L s.heap news) (U : Upd D (listOf its n) (listOf (its.push x) (n + 1)) news news')
    (hz : its.size ≤ 1000) (h : ∀ h', Fr h₀ L h' m → News h₀ L h' news' → Q .none { s with heap := h' }) : wpAny (model prog w) A (call (.builtin "list.append") [.ref D, x]) Q E s := by
  obtain ⟨pre, post, rfl, rfl, a, b⟩ := U.split
  have z := N (D, listOf its n) (List.mem_append.mpr (.inr (.head _)))
  refine append_at (hsz := by rw [sizeLine_eq]; omega) z.1 fun h' hs hD => h h' (F.change hs z.2.1 z.2.2) fun p hp => ?_
  rcases List.mem_append.mp hp with q | q
  · have P := N p (List.mem_append_left _ q); exact ⟨hs.extBut _ _ (a p q) P.1, P.2⟩
  · rcases List.mem_cons.mp q with rfl | q
    · exact ⟨hD, z.2⟩
    · have P := N p (List.mem_append_right _ (.tail _ q)); exact ⟨hs.extBut _ _ (b p q) P.1, P.2⟩
/-- the state of _law_walk -/
structure WS where
  low : Int
  middle : Int
  high : Int
  free : Int
  pairs : Int
  triples : Int
  size : Int
noncomputable def wStep (s : WS) (c : Nat) : WS :=
  if c = 115 then ⟨s.low, s.middle, max (max s.low s.middle) s.high + 1, s.free + 1, s.pairs, s.triples, s.size + 1⟩
  else if c = 116 then
    if s.free > 0 then ⟨s.low, max s.low s.middle + 1, s.high, s.free - 1, s.pairs + 1, s.triples, s.size + 1⟩ else ⟨s.low, max s.low s.middle + 1, s.high, s.free, s.pairs, s.triples, s.size + 1⟩
  else
    if s.pairs > 0 then ⟨s.low + 1, s.middle, s.high, s.free, s.pairs - 1, s.triples + 1, s.size + 1⟩ else ⟨s.low + 1, s.middle, s.high, s.free, s.pairs, s.triples, s.size + 1⟩
noncomputable def wZero : WS := ⟨0, 0, 0, 0, 0, 0, 0⟩
noncomputable def wRun (s : WS) (x : Str) : WS := x.cps.toList.foldl wStep s
noncomputable def wPaint (s : WS) : Int × Int × Int := (max (max s.low s.middle) s.high, s.size - max (max s.low s.middle) s.high - s.triples, s.triples)
noncomputable def wRows : WS → List Str → List (Int × Int × Int)
  | _, [] => []
  | s, p :: r => wPaint (wRun s p) :: wRows (wRun s p) r
theorem wRows_snoc (p : Str) : ∀ (l : List Str) (s : WS), wRows s (l ++ [p]) = wRows s l ++ [wPaint (wRun (l.foldl wRun s) p)]
  | [], _ => rfl
  | q :: r, s => by
    show wPaint _ :: wRows _ (r ++ [p]) = _
    rw [wRows_snoc p r]; rfl
/-- the names of _law_walk's frame -/
inductive FrW (m : Str → Option Value) (s : WS) : Prop
  | mk (t1 t2 t3 t4 t5 t6 t7 : Tok) (h1 : m (Str.ofString "low") = some (.int s.low t1)) (h2 : m (Str.ofString "middle") = some (.int s.middle t2)) (h3 : m (Str.ofString "high") = some (.int s.high t3)) (h4 : m (Str.ofString "free") = some (.int s.free t4)) (h5 : m (Str.ofString "pairs") = some (.int s.pairs t5)) (h6 : m (Str.ofString "triples") = some (.int s.triples t6)) (h7 : m (Str.ofString "size") = some (.int s.size t7)) : FrW m s
theorem frW_in {m : Str → Option Value} {a b c d e f g : Int} {t1 t2 t3 t4 t5 t6 t7 : Tok} {st : WS} (h1 : m (Str.ofString "low") = some (.int a t1)) (h2 : m (Str.ofString "middle") = some (.int b t2)) (h3 : m (Str.ofString "high") = some (.int c t3)) (h4 : m (Str.ofString "free") = some (.int d t4))
    (h5 : m (Str.ofString "pairs") = some (.int e t5)) (h6 : m (Str.ofString "triples") = some (.int f t6)) (h7 : m (Str.ofString "size") = some (.int g t7)) (he : (⟨a, b, c, d, e, f, g⟩ : WS) = st) : FrW m st := by
  subst he
  exact .mk _ _ _ _ _ _ _ h1 h2 h3 h4 h5 h6 h7
theorem sgn_beq (c d : Nat) : ((⟨#[c]⟩ : Str) == ⟨#[d]⟩) = decide (c = d) := by
  rw [Bool.eq_iff_iff]; simp
/-- the objects of a row of paints -/
noncomputable def RowIs : List (Addr × Obj) → List (Int × Int × Int) → Prop
  | [], [] => True
  | p :: r, x :: xs => (∃ t1 t2 t3, p.2 = tup3i x.1 x.2.1 x.2.2 t1 t2 t3) ∧ RowIs r xs
  | _, _ => False
theorem sgnS {c : Nat} {b : Bool} (h : ((⟨#[c]⟩ : Str) == Str.ofString "s") = b) : decide (c = 115) = b := (sgn_beq c 115).symm.trans h
theorem sgnT {c : Nat} {b : Bool} (h : ((⟨#[c]⟩ : Str) == Str.ofString "t") = b) : decide (c = 116) = b := (sgn_beq c 116).symm.trans h
theorem sgnS1 {c : Nat} (h : ((⟨#[c]⟩ : Str) == Str.ofString "s") = true) : c = 115 := by simpa using sgnS h
theorem sgnS0 {c : Nat} (h : ((⟨#[c]⟩ : Str) == Str.ofString "s") = false) : c ≠ 115 := by simpa using sgnS h
theorem sgnT1 {c : Nat} (h : ((⟨#[c]⟩ : Str) == Str.ofString "t") = true) : c = 116 := by simpa using sgnT h
theorem sgnT0 {c : Nat} (h : ((⟨#[c]⟩ : Str) == Str.ofString "t") = false) : c ≠ 116 := by simpa using sgnT h
theorem wStep_s {s : WS} {c : Nat} (h : c = 115) : wStep s c = ⟨s.low, s.middle, max (max s.low s.middle) s.high + 1, s.free + 1, s.pairs, s.triples, s.size + 1⟩ := if_pos h
theorem wStep_t1 {s : WS} {c : Nat} (h : c ≠ 115) (h2 : c = 116) (h3 : 0 < s.free) : wStep s c = ⟨s.low, max s.low s.middle + 1, s.high, s.free - 1, s.pairs + 1, s.triples, s.size + 1⟩ := by rw [wStep, if_neg h, if_pos h2, if_pos h3]
theorem wStep_t0 {s : WS} {c : Nat} (h : c ≠ 115) (h2 : c = 116) (h3 : ¬ 0 < s.free) : wStep s c = ⟨s.low, max s.low s.middle + 1, s.high, s.free, s.pairs, s.triples, s.size + 1⟩ := by rw [wStep, if_neg h, if_pos h2, if_neg h3]
theorem wStep_m1 {s : WS} {c : Nat} (h : c ≠ 115) (h2 : c ≠ 116) (h3 : 0 < s.pairs) : wStep s c = ⟨s.low + 1, s.middle, s.high, s.free, s.pairs - 1, s.triples + 1, s.size + 1⟩ := by rw [wStep, if_neg h, if_neg h2, if_pos h3]
theorem wStep_m0 {s : WS} {c : Nat} (h : c ≠ 115) (h2 : c ≠ 116) (h3 : ¬ 0 < s.pairs) : wStep s c = ⟨s.low + 1, s.middle, s.high, s.free, s.pairs, s.triples, s.size + 1⟩ := by rw [wStep, if_neg h, if_neg h2, if_neg h3]
theorem max_ite {a b : Int} : (if b > a then b else a) = max a b := by split <;> omega
theorem RowIs.len : ∀ {ts : List (Addr × Obj)} {xs : List (Int × Int × Int)}, RowIs ts xs → ts.length = xs.length
  | [], [], _ => rfl
  | _ :: _, _ :: _, h => congrArg (· + 1) (RowIs.len h.2)
  | [], _ :: _, h => h.elim
  | _ :: _, [], h => h.elim
theorem RowIs.snoc {p : Addr × Obj} {x : Int × Int × Int} (hp : ∃ t1 t2 t3, p.2 = tup3i x.1 x.2.1 x.2.2 t1 t2 t3) : ∀ {ts : List (Addr × Obj)} {xs : List (Int × Int × Int)}, RowIs ts xs → RowIs (ts ++ [p]) (xs ++ [x])
  | [], [], _ => ⟨hp, trivial⟩
  | _ :: _, _ :: _, h => ⟨h.1, RowIs.snoc hp h.2⟩
  | [], _ :: _, h => h.elim
  | _ :: _, [], h => h.elim
theorem start_row {R T : Addr} {t1 t2 t3 : Tok} {rest : List (Addr × Obj)} {D : Addr} (h : T ≠ R) (hd : T ≠ D) : ∃ (ts : List (Addr × Obj)) (kk : Nat), (R, listOf #[Value.ref T] 0) :: (T, ({ cls := .type "tuple", data := .seq #[.int 0 t1, .int 0 t2, .int 0 t3] } : Obj)) :: rest = (R, listOf (ts.map fun p => Value.ref p.1).toArray kk) :: (ts ++ rest) ∧ RowIs ts [(0, 0, 0)] ∧ ∀ p ∈ ts, p.1 ≠ R ∧ p.1 ≠ D :=
  ⟨[(T, _)], 0, rfl, ⟨⟨t1, t2, t3, rfl⟩, trivial⟩, fun p hp => by rw [List.mem_singleton.mp hp]; exact ⟨h, hd⟩⟩
theorem row_news {h₀ h : Heap} {L T R : Addr} {o : Obj} {ts led own : List (Addr × Obj)} {kk : Nat} (N : News h₀ L h ((T, o) :: (R, listOf ((ts.map fun p => Value.ref p.1).toArray.push (.ref T)) kk) :: (ts ++ led ++ own))) :
    News h₀ L h ((R, listOf ((ts ++ [(T, o)]).map fun p => Value.ref p.1).toArray kk) :: ((ts ++ [(T, o)]) ++ led) ++ own) := by
  have e : ((ts ++ [(T, o)]).map fun p => Value.ref p.1).toArray = (ts.map fun p => Value.ref p.1).toArray.push (.ref T) := by simp
  rw [e]
  intro p hp
  simp only [List.cons_append, List.mem_cons, List.mem_append, List.not_mem_nil, or_false] at hp
  rcases hp with rfl | ((hp | rfl) | hp) | hp
  · exact N _ (.tail _ (.head _))
  · exact N p (.tail _ (.tail _ (List.mem_append_left _ (List.mem_append_left _ hp))))
  · exact N _ (.head _)
  · exact N p (.tail _ (.tail _ (List.mem_append_left _ (List.mem_append_right _ hp))))
  · exact N p (.tail _ (.tail _ (List.mem_append_right _ hp)))
/-- a list of paints comes back -/
noncomputable def isRow (rows : List (Int × Int × Int)) (new : List (Addr × Obj)) (v : Value) : Prop := ∃ a k ts, v = .ref a ∧ new = (a, listOf (ts.map fun p => Value.ref p.1).toArray k) :: ts ∧ RowIs ts rows
theorem fin_row {g h' : Heap} {L' : Addr} {m' : Str → Option Value} {led : List (Addr × Obj)} {R : Addr} {kk : Nat} {ts : List (Addr × Obj)} {rows : List (Int × Int × Int)} {s : Shared} {tk : Nat} (F : Fr g L' h' m') (N : News g L' h' ((R, listOf (ts.map fun p => Value.ref p.1).toArray kk) :: (ts ++ led))) (hR : RowIs ts rows)
    (h1 : ∀ p ∈ led, R ≠ p.1) (h2 : ∀ q ∈ ts, ∀ p ∈ led, q.1 ≠ p.1) : FinL g led (isRow rows) s (.ref R) { s with heap := h', toks := tk } :=
  ⟨_, h', tk, L', rfl, ⟨R, kk, ts, rfl, rfl, hR⟩, N, fun q hq p hp => by
    rcases List.mem_cons.mp hq with rfl | hq
    · exact h1 p hp
    · exact h2 q hq p hp, F.keep⟩
end Mine
end
section
open PySem PySem.W PyProof.Rows PySem.Calls PySem.Spec PySem.Builtin.Str
set_option Elab.async false
set_option maxRecDepth 100000
set_option maxHeartbeats 2000000
set_option pp.deepTerms false
set_option pp.maxSteps 3000
namespace Mine
local macro_rules | `(tactic| walk_at "PostG") => `(tactic| (dsimp only [PostG]))
local macro_rules | `(tactic| walk_at "pyIter ref") => `(tactic| (k_here; (with_reducible show wpAny _ _ (pyIter (Value.ref _)) (fun it s₂ => LoopAtV _ _ _ _ _ _ _ _ _ it s₂) _ _); refine stopHere ?_))
local macro_rules | `(tactic| walk_at "pyIter str") => `(tactic| (k_here; (with_reducible show wpAny _ _ (pyIter (Value.str _ _)) (fun it s₂ => LoopAtV _ _ _ _ _ _ _ _ _ it s₂) _ _); refine stopHere ?_))
local macro_rules | `(tactic| walk_at "exec For Name Name cons nil") => `(tactic| (k_here; (rename Fr _ _ _ _ => lF'); (with_unfolding_all refine' For_invVF lF' ?k1 ?k2 ?_; (case k1 => exact rfl); (case k2 => exact rfl); k_whole)))
local macro_rules | `(tactic| walk_at "exec Assign cons") => `(tactic| (k_here; (with_reducible show wpAny _ _ (exec (Stmt.Assign [_, _, _, _, _, _, _] _ _) _) _ _ _); k_dflt (refine assign_seven ?_)))
local macro_rules | `(tactic| walk_at "call builtin:max") => `(tactic| (k_here; (with_reducible show wpAny _ _ (call (Value.builtin "max") [Value.int _ _, Value.int _ _, Value.int _ _]) _ _ _); (refine' max3i ?F ?N ?h ?_; (case F => exact rfl); (case N => k_asm); (case h => k_asm)); intro h' tk' v' F' N'))
local macro_rules | `(tactic| walk_at "call builtin:max") => `(tactic| (k_here; (with_reducible show wpAny _ _ (call (Value.builtin "max") [Value.int _ _, Value.int _ _]) _ _ _); (refine' max2i ?F ?N ?h ?_; (case F => exact rfl); (case N => k_asm); (case h => k_asm)); intro h' tk' v' F' N'))
local macro_rules | `(tactic| k_all) => `(tactic| assumption)
local macro_rules | `(tactic| walk_at "call builtin:list.append") => `(tactic| (k_here; refine stopHere ?_))
inductive JW1 (texts : List Str) (R9 D : Addr) (oD : Obj) (i : Nat) (m₁ : Str → Option Value) (news₁ : List (Addr × Obj)) : Prop
  | mk (hW : FrW m₁ ((texts.take i).foldl wRun wZero)) (e1 : m₁ (Str.ofString "row") = some (.ref R9)) (ts : List (Addr × Obj)) (kk : Nat) (e : news₁ = (R9, listOf (ts.map fun p => Value.ref p.1).toArray kk) :: (ts ++ [(D, oD)])) (hR : RowIs ts ((0, 0, 0) :: wRows wZero (texts.take i))) (hne : ∀ p ∈ ts, p.1 ≠ R9 ∧ p.1 ≠ D) : JW1 texts R9 D oD i m₁ news₁
inductive JW2 (x : Str) (st : WS) (R9 : Addr) (all : List (Addr × Obj)) (j : Nat) (m₂ : Str → Option Value) (news₂ : List (Addr × Obj)) : Prop
  | mk (hW : FrW m₂ ((x.cps.toList.take j).foldl wStep st)) (e1 : m₂ (Str.ofString "row") = some (.ref R9)) (e : news₂ = all) : JW2 x st R9 all j m₂ news₂
theorem c_walk : ∀ (w : World) (mean : ExcName → Option Value) (mg mb : Str → Option Value) (D : Addr) (ps : List (Str × Tok)) (k : Nat),
   ConL w mean mg mb 137 4 [(D, listOf (strValues ps).toArray k)] (ps.length ≤ 10) [.ref D] (isRow ((0, 0, 0) :: wRows wZero (ps.map (·.1)))) := by
  unfold ConL
  k_fill
  intro w mean mg mb D ps k
  intros
  rename_i hx _ _ hret
  refine wpAny_call ?_
  k_dflt (refine' enterL ?k1 ?k2 ?k3 ?k4 ?k5 hret ?kA ?kF ?kK ?k6 ?k7 ?k8 ?k9 ?kB ?_ ?c2 ?c3 ?c4 ?c5; (case kA => exact rfl); (case kF => exact rfl); (case kK => assumption); (case k1 => k_asm); (case k2 => k_asm); (case k3 => k_asm); (case k4 => k_asm); (case k5 => k_asm); (case k6 => k_is); (case k7 => k_is); (case k8 => ktr_room); (case k9 => exact BindsTo.of_eq rfl); (case c5 => decide); (case kB => exact locs rfl); (case c2 => exact rfl); (case c3 => exact rfl); (case c4 => exact rfl); k_whole; intro g' L' h' FG' F' N' B' X' T' l1; (try dsimp only); (try k_lift B'); (try k_fold))
  clear hret
  replace F' := Fr_named (x := Str.ofString "pieces") (v := some (.ref D)) F' rfl
  k_steps
  refine Stop.go ?_
  rename Fr _ _ _ _ => F9
  rename News _ _ _ _ => N9
  rename _ ∧ _ < _ => hlt9
  rename _ < _ => hC9
  obtain ⟨hA9, hB9⟩ := hlt9
  rename_i R9 _ _ _ _
  generalize hT : ps.map (·.1) = texts
  refine iter_led (k := _) (JW1 texts R9 D (listOf (strValues ps).toArray k)) rfl F9 N9 (by k_mem) rfl rfl ?init ?turn ?done
  case init =>
    exact .mk (.mk _ _ _ _ _ _ _ rfl rfl rfl rfl rfl rfl rfl) rfl [(_, tup3i 0 0 0 _ _ _)] 0 rfl ⟨⟨_, _, _, rfl⟩, trivial⟩ (fun p hp => by rw [List.mem_singleton.mp hp]; exact ⟨Nat.ne_of_lt hA9, Nat.ne_of_gt hC9⟩)
  case done =>
    intro m₁ news₁ h tk hJ F₁ N₁
    obtain ⟨hW, e1, ts, kk, rfl, hR, hne⟩ := hJ
    clear F9 N9
    replace F₁ := Fr_named (x := Str.ofString "row") F₁ e1
    k_steps
    rw [show (strValues ps).length = texts.length from by rw [← hT]; simp [strValues], List.take_length] at hR
    rw [hT]
    refine fin_row F₁ N₁ hR (fun p hp => ?_) fun q hq p hp => ?_
    · rw [List.mem_singleton.mp hp]; exact Nat.ne_of_gt hB9
    · rw [List.mem_singleton.mp hp]; exact (hne q hq).2
  case turn =>
    clear F9 N9
    intro I i v m₁ news₁ h tk own hv hJ hI hown F₁ N₁
    obtain ⟨⟨t1, t2, t3, t4, t5, t6, t7, e1, e2, e3, e4, e5, e6, e7⟩, e8, ts, kk, rfl, hR, hne⟩ := hJ
    generalize hst : (texts.take i).foldl wRun wZero = st at *
    obtain ⟨x, tx, rfl, hx⟩ := strValues_get hv
    have F₂ := Fr_named (x := Str.ofString "row") (Fr_named (x := Str.ofString "size") (Fr_named (x := Str.ofString "triples") (Fr_named (x := Str.ofString "pairs") (Fr_named (x := Str.ofString "free") (Fr_named (x := Str.ofString "high") (Fr_named (x := Str.ofString "middle") (Fr_named (x := Str.ofString "low") F₁ e1) e2) e3) e4) e5) e6) e7) e8
    clear F₁
    simp only [List.cons_append] at N₁
    k_steps
    refine Stop.go ?_
    rename Fr _ _ _ _ => F9
    rename News _ _ _ _ => N9
    refine iter_txt (JW2 x st R9 _) rfl F9 N9 (.mk (.mk _ _ _ _ _ _ _ rfl rfl rfl rfl rfl rfl rfl) rfl rfl) ?turn2 ?done2
    case done2 =>
      intro m₂ news₂ h2 tk2 hJ2 F₂ N₂
      obtain ⟨⟨u1, u2, u3, u4, u5, u6, u7, d1, d2, d3, d4, d5, d6, d7⟩, d8, rfl⟩ := hJ2
      rw [show x.cps.size = x.cps.toList.length from by simp, List.take_length] at d1 d2 d3 d4 d5 d6 d7
      generalize hst2 : x.cps.toList.foldl wStep st = st2 at d1 d2 d3 d4 d5 d6 d7
      replace F₂ := Fr_named (x := Str.ofString "row") (Fr_named (x := Str.ofString "size") (Fr_named (x := Str.ofString "triples") (Fr_named (x := Str.ofString "pairs") (Fr_named (x := Str.ofString "free") (Fr_named (x := Str.ofString "high") (Fr_named (x := Str.ofString "middle") (Fr_named (x := Str.ofString "low") F₂ d1) d2) d3) d4) d5) d6) d7) d8
      clear F9 N9
      have hTail : ∀ p ∈ ts ++ [(D, listOf (strValues ps).toArray k)] ++ own, p.1 ≠ R9 := by
        intro p hp
        rcases List.mem_append.mp hp with hp | hp
        · rcases List.mem_append.mp hp with hp | hp
          · exact (hne p hp).1
          · rw [List.mem_singleton.mp hp]; exact Nat.ne_of_lt hB9
        · rcases hown.1 p hp with e | e
          · rw [e]; exact Ne.symm (hI _ (.head _))
          · rw [e]; exact Nat.ne_of_lt hB9
      have hsz9 : ts.length ≤ 100 := by
        have h1 := hR.len
        have h2 : ∀ (l : List Str) (s : WS), (wRows s l).length = l.length := by
          intro l; induction l with
          | nil => intro _; rfl
          | cons a r ih => intro s; exact congrArg (· + 1) (ih _)
        rw [h1, List.length_cons, h2, List.length_take]
        have h3 : texts.length = ps.length := by rw [← hT]; simp
        omega
      k_steps
      refine Stop.go ?_
      with_reducible
        refine' append_led ?F ?N ?U ?z ?_
        (case F => k_asm)
        (case N => k_asm)
        (case U => k_upd)
        (case z => (simp only [List.size_toArray, List.length_map]; omega))
        intro h' F' N'
      k_steps
      rename Fr _ _ _ _ => F9
      rename News _ _ _ _ => N9
      rename _ ∧ AllLt _ _ => l9
      obtain ⟨lR9, lA9⟩ := l9
      have N10 := row_news N9
      have lall := ktn_ltOf lA9
      have ex : (texts.take (i + 1)).foldl wRun wZero = st2 := by
        rw [← hT, take_succ_of hx, List.foldl_append, hT, hst]; exact hst2
      refine endG _ F9 N10 (fun p hp => List.mem_append_left _ hp) (fun p hp => List.mem_append_right _ hp) ?_ (.mk ?_ rfl _ _ rfl ?_ ?_)
      · intro p hp
        simp only [List.mem_cons, List.mem_append, List.not_mem_nil, or_false] at hp
        rcases hp with rfl | (hp | rfl) | rfl
        · have h8 := hI _ (List.Mem.head _); exact h8
        · exact hI p (.tail _ (List.mem_append_left _ hp))
        · obtain ⟨oI, hoI⟩ := hown.2
          exact Nat.ne_of_gt (lall _ (List.mem_append_right _ hoI))
        · exact hI _ (.tail _ (List.mem_append_right _ (.head _)))
      · rw [ex]
        exact .mk _ _ _ _ _ _ _ rfl rfl rfl rfl rfl rfl rfl
      · rw [← hT, take_succ_of hx, wRows_snoc, ← List.cons_append]
        rw [show wRun ((List.take i (ps.map (·.1))).foldl wRun wZero) x = st2 from by rw [hT, hst]; exact hst2]
        exact RowIs.snoc (x := wPaint st2) ⟨_, _, _, rfl⟩ (by rw [hT]; exact hR)
      · intro p hp
        simp only [List.mem_append, List.mem_cons, List.not_mem_nil, or_false] at hp
        rcases hp with hp | rfl
        · exact hne p hp
        · exact ⟨Nat.ne_of_gt lR9, Nat.ne_of_gt (lall _ (List.mem_append_left _ (List.mem_append_right _ (.head _))))⟩
    case turn2 =>
      clear F9 N9
      intro I2 j c u m₂ news₂ h2 tk2 own2 hc hJ2 hI2 hown2 F₁ N₁
      obtain ⟨⟨u1, u2, u3, u4, u5, u6, u7, d1, d2, d3, d4, d5, d6, d7⟩, d8, rfl⟩ := hJ2
      generalize hst2 : (x.cps.toList.take j).foldl wStep st = st2 at d1 d2 d3 d4 d5 d6 d7
      have F₂ := Fr_named (x := Str.ofString "row") (Fr_named (x := Str.ofString "size") (Fr_named (x := Str.ofString "triples") (Fr_named (x := Str.ofString "pairs") (Fr_named (x := Str.ofString "free") (Fr_named (x := Str.ofString "high") (Fr_named (x := Str.ofString "middle") (Fr_named (x := Str.ofString "low") F₁ d1) d2) d3) d4) d5) d6) d7) d8
      clear F₁
      simp only [List.cons_append] at N₁
      have hc2 : x.cps.toList[j]? = some c := by rw [Array.getElem?_toList]; exact hc
      k_steps
      all_goals (
        refine endG _ (by assumption) (by assumption) ?_ ?_ hI2 (.mk (frW_in rfl rfl rfl rfl rfl rfl rfl ?_) rfl rfl)
        · intro p hp; exact List.mem_append_left (bs := own2) hp
        · intro p hp; exact List.Mem.tail _ (List.mem_append_right _ hp)
        · rw [take_succ_of hc2, List.foldl_append, hst2]
          show _ = wStep st2 c
          try simp only [max_ite]
          first
            | rw [wStep_s (sgnS1 (by assumption))]
            | rw [wStep_t1 (sgnS0 (by assumption)) (sgnT1 (by assumption)) (by assumption)]
            | rw [wStep_t0 (sgnS0 (by assumption)) (sgnT1 (by assumption)) (by assumption)]
            | rw [wStep_m1 (sgnS0 (by assumption)) (sgnT0 (by assumption)) (by assumption)]
            | rw [wStep_m0 (sgnS0 (by assumption)) (sgnT0 (by assumption)) (by assumption)])
end Mine
end
section
set_option Elab.async false
set_option maxRecDepth 100000
namespace Mine
open PySem PySem.W PyProof.Rows PySem.Calls PySem.Spec
/-- a turn of _law_row: the text and the red -/
noncomputable def rStep (ahead : Bool) (st : Str × Nat) (p : Str) : Str × Nat :=
  if ahead then (p ++ st.1, if foundB (p ++ st.1) (st.2 + 1) then st.2 + 1 else st.2)
  else (st.1 ++ p, if foundB (st.1 ++ p) (st.2 + 1) then st.2 + 1 else st.2)
noncomputable def rZero : Str × Nat := (Str.ofString "", 0)
noncomputable def rPaint (blue : Str → Int) (st : Str × Nat) : Int × Int × Int := ((st.2 : Int), (st.1.length : Int) - (st.2 : Int) - blue st.1, blue st.1)
noncomputable def rRows (ahead : Bool) (blue : Str → Int) : Str × Nat → List Str → List (Int × Int × Int)
  | _, [] => []
  | s, p :: r => rPaint blue (rStep ahead s p) :: rRows ahead blue (rStep ahead s p) r
theorem rRows_snoc (ahead : Bool) (blue : Str → Int) (p : Str) : ∀ (l : List Str) (s : Str × Nat), rRows ahead blue s (l ++ [p]) = rRows ahead blue s l ++ [rPaint blue (rStep ahead (l.foldl (rStep ahead) s) p)]
  | [], _ => rfl
  | q :: r, s => by
    show rPaint blue _ :: rRows ahead blue _ (r ++ [p]) = _
    rw [rRows_snoc ahead blue p r]; rfl
theorem rRows_len (ahead : Bool) (blue : Str → Int) : ∀ (l : List Str) (s : Str × Nat), (rRows ahead blue s l).length = l.length
  | [], _ => rfl
  | _ :: r, s => congrArg (· + 1) (rRows_len ahead blue r _)
theorem rStep_red (ahead : Bool) (st : Str × Nat) (p : Str) : (rStep ahead st p).2 ≤ st.2 + 1 := by
  unfold rStep
  split
  · dsimp only; split <;> omega
  · dsimp only; split <;> omega
theorem rFold_red (ahead : Bool) : ∀ (l : List Str) (s : Str × Nat), (l.foldl (rStep ahead) s).2 ≤ s.2 + l.length
  | [], _ => Nat.le_refl _
  | p :: r, s => by
    have h1 := rFold_red ahead r (rStep ahead s p)
    have h2 := rStep_red ahead s p
    rw [List.foldl_cons, List.length_cons]; omega
theorem start_row2 {R T : Addr} {t1 t2 t3 : Tok} {rest : List (Addr × Obj)} {D : Addr} (h : T ≠ R) (hd : T ≠ D) : ∃ (ts : List (Addr × Obj)) (U : Addr) (a b c : Int) (u1 u2 u3 : Tok) (kk : Nat), (R, listOf #[Value.ref T] 0) :: (T, ({ cls := .type "tuple", data := .seq #[.int 0 t1, .int 0 t2, .int 0 t3] } : Obj)) :: rest = (R, listOf ((ts.map fun p => Value.ref p.1) ++ [Value.ref U]).toArray kk) :: (U, tup3i a b c u1 u2 u3) :: (ts ++ rest) ∧
    RowIs (ts ++ [(U, tup3i a b c u1 u2 u3)]) [(0, 0, 0)] ∧ a = ((0 : Nat) : Int) ∧ U ≠ R ∧ U ≠ D ∧ ∀ p ∈ ts, p.1 ≠ R ∧ p.1 ≠ D :=
  ⟨[], T, 0, 0, 0, t1, t2, t3, 0, rfl, ⟨⟨t1, t2, t3, rfl⟩, trivial⟩, rfl, h, hd, fun _ h => nomatch h⟩
theorem row_news2 {h₀ h : Heap} {L T U R : Addr} {o ou : Obj} {ts led own : List (Addr × Obj)} {kk : Nat} (N : News h₀ L h ((T, o) :: (R, listOf (((ts.map fun p => Value.ref p.1) ++ [Value.ref U]).toArray.push (.ref T)) kk) :: (U, ou) :: (ts ++ led ++ own))) :
    News h₀ L h ((R, listOf (((ts ++ [(U, ou)]).map fun p => Value.ref p.1) ++ [Value.ref T]).toArray kk) :: (T, o) :: ((ts ++ [(U, ou)]) ++ led) ++ own) := by
  have e : (((ts ++ [(U, ou)]).map fun p => Value.ref p.1) ++ [Value.ref T]).toArray = ((ts.map fun p => Value.ref p.1) ++ [Value.ref U]).toArray.push (.ref T) := by simp
  rw [e]
  intro p hp
  simp only [List.cons_append, List.mem_cons, List.mem_append, List.not_mem_nil, or_false] at hp
  rcases hp with rfl | rfl | ((hp | rfl) | hp) | hp
  · exact N _ (.tail _ (.head _))
  · exact N _ (.head _)
  · exact N p (.tail _ (.tail _ (.tail _ (List.mem_append_left _ (List.mem_append_left _ hp)))))
  · exact N _ (.tail _ (.tail _ (.head _)))
  · exact N p (.tail _ (.tail _ (.tail _ (List.mem_append_left _ (List.mem_append_right _ hp)))))
  · exact N p (.tail _ (.tail _ (.tail _ (List.mem_append_right _ hp))))
theorem fin_row2 {g h' : Heap} {L' : Addr} {m' : Str → Option Value} {led : List (Addr × Obj)} {R U : Addr} {ou : Obj} {kk : Nat} {ts : List (Addr × Obj)} {rows : List (Int × Int × Int)} {s : Shared} {tk : Nat} (F : Fr g L' h' m') (N : News g L' h' ((R, listOf ((ts.map fun p => Value.ref p.1) ++ [Value.ref U]).toArray kk) :: (U, ou) :: (ts ++ led))) (hR : RowIs (ts ++ [(U, ou)]) rows)
    (h1 : ∀ p ∈ led, R ≠ p.1) (h3 : ∀ p ∈ led, U ≠ p.1) (h2 : ∀ q ∈ ts, ∀ p ∈ led, q.1 ≠ p.1) : FinL g led (isRow rows) s (.ref R) { s with heap := h', toks := tk } := by
  refine fin_row (ts := ts ++ [(U, ou)]) (kk := kk) F (fun p hp => ?_) hR h1 fun q hq p hp => ?_
  · have e : ((ts ++ [(U, ou)]).map fun p => Value.ref p.1).toArray = ((ts.map fun p => Value.ref p.1) ++ [Value.ref U]).toArray := by simp
    rw [e] at hp
    simp only [List.mem_cons, List.mem_append, List.not_mem_nil, or_false] at hp
    rcases hp with rfl | (hp | rfl) | hp
    · exact N _ (.head _)
    · exact N p (.tail _ (.tail _ (List.mem_append_left _ hp)))
    · exact N _ (.tail _ (.head _))
    · exact N p (.tail _ (.tail _ (List.mem_append_right _ hp)))
  · rcases List.mem_append.mp hq with hq | hq
    · exact h2 q hq p hp
    · rw [List.mem_singleton.mp hq]; exact h3 p hp
theorem ConL.goRow {w : World} {mean : ExcName → Option Value} {mg mb : Str → Option Value} {f : Addr} {need : Nat} {led : List (Addr × Obj)} {P : Prop} {vs : List Value}
    {dp un : Nat} {gd : Option (List Code)} {cn : Str} {cs : Scope} {a : Addr} {ccd : Value} {cl : List (Str × Addr)} {outer : List Env} {A₀ : Around} {base h₀ : Heap} {L : Addr} {m : Str → Option Value} {news : List (Addr × Obj)} {s : Shared} {Q E : Value → Shared → Prop} {rows : List (Int × Int × Int)}
    (c : ConL w mean mg mb f need led P vs (isRow rows)) (B : Below A₀ base outer h₀) (F : Fr h₀ L s.heap m) (X : (K0 w.params).In h₀) (N : News h₀ L s.heap news) (T : Top q0 (looseW q0 loose0) mean mg mb h₀) (hk : cs.kind = .function) (hl : ∀ p ∈ led, p ∈ news) (hp : P) (hd : dp + need < recursionLimit) (hu : un + 10 * need < cLine)
    (hret : ∀ (R : Addr) (k : Nat) (ts : List (Addr × Obj)) (h' : Heap) (tk' : Nat), RowIs ts rows → (∀ p ∈ news, ∀ q ∈ ((R, listOf (ts.map fun p => Value.ref p.1).toArray k) :: ts : List (Addr × Obj)), p.1 ≠ q.1) → Fr h₀ L h' m → News h₀ L h' ((R, listOf (ts.map fun p => Value.ref p.1).toArray k) :: (ts ++ news)) → Q (.ref R) { s with heap := h', toks := tk' }) :
    wpAny (model PySem.Challenge.rw_rl0121_01.row.prog w) (ktrTop dp un gd cn cs L a ccd cl outer) (call (.ref f) vs) Q E s :=
  c.go B F X N T hk hl hp hd hu fun v h' tk' new ⟨R, k, ts, e1, e2, hR⟩ hn F' N' => by subst e1 e2; exact hret R k ts h' tk' hR hn F' N'
end Mine
end
section
open PySem PySem.W PyProof.Rows PySem.Calls PySem.Spec PySem.Builtin.Str
set_option Elab.async false
set_option maxRecDepth 100000
set_option maxHeartbeats 2000000
set_option pp.deepTerms false
set_option pp.maxSteps 3000
namespace Mine
local macro_rules | `(tactic| walk_at "PostG") => `(tactic| (dsimp only [PostG]))
local macro_rules | `(tactic| walk_at "pyIter ref") => `(tactic| (k_here; (with_reducible show wpAny _ _ (pyIter (Value.ref _)) (fun it s₂ => LoopAtV _ _ _ _ _ _ _ _ _ it s₂) _ _); refine stopHere ?_))
local macro_rules | `(tactic| walk_at "exec For Name Name cons nil") => `(tactic| (k_here; (rename Fr _ _ _ _ => lF'); (with_unfolding_all refine' For_invVF lF' ?k1 ?k2 ?_; (case k1 => exact rfl); (case k2 => exact rfl); k_whole)))
local macro_rules | `(tactic| k_all) => `(tactic| assumption)
local macro_rules | `(tactic| walk_at "call builtin:list.append") => `(tactic| (k_here; refine stopHere ?_))
local macro_rules | `(tactic| walk_at "call ref") => `(tactic| (k_here; refine stopHere ?_))
local macro_rules | `(tactic| walk_at "subscriptTail") => `(tactic| (k_here; (show wpAny _ _ (subscriptTail _ _ (Value.ref _) (Value.int (-1) _)) _ _ _); (with_reducible refine' item_last ?k1 ?k2 ?_ ?k6); (case k1 => k_asm); (case k2 => k_mem); (case k6 => with_unfolding_all rfl)))
/-- what holds in the loop of a row -/
inductive JRow (ah : Bool) (blue : Str → Int) (texts : List Str) (R9 D : Addr) (oD : Obj) (i : Nat) (m₁ : Str → Option Value) (news₁ : List (Addr × Obj)) : Prop
  | mk (t : Tok) (h1 : m₁ (Str.ofString "text") = some (.str ((texts.take i).foldl (rStep ah) rZero).1 t)) (h2 : m₁ (Str.ofString "row") = some (.ref R9)) (h3 : m₁ (Str.ofString "ahead") = some (.bool ah))
      (ts : List (Addr × Obj)) (U : Addr) (a b c : Int) (u1 u2 u3 : Tok) (kk : Nat) (e : news₁ = (R9, listOf ((ts.map fun p => Value.ref p.1) ++ [Value.ref U]).toArray kk) :: (U, tup3i a b c u1 u2 u3) :: (ts ++ [(D, oD)]))
      (hR : RowIs (ts ++ [(U, tup3i a b c u1 u2 u3)]) ((0, 0, 0) :: rRows ah blue rZero (texts.take i))) (ha : a = ((((texts.take i).foldl (rStep ah) rZero).2 : Nat) : Int)) (hU : U ≠ R9) (hUD : U ≠ D) (hne : ∀ p ∈ ts, p.1 ≠ R9 ∧ p.1 ≠ D) : JRow ah blue texts R9 D oD i m₁ news₁
/-- what stands behind an `if`: the ledger as it was, and what is known of the names -/
inductive MidK (ge : Array GenState) (dr : Drawn) (os : OsState) (g : Heap) (L : Addr) (news : List (Addr × Obj)) (K : (Str → Option Value) → Prop) (s : Shared) : Prop
  | mk (m : Str → Option Value) (hg : s.gens = ge) (hd : s.drawn = dr) (ho : s.os = os) (F : Fr g L s.heap m) (N : News g L s.heap news) (k : K m) : MidK ge dr os g L news K s
theorem mid_K {M : Model} {A : Around} {c : Sem Flow} {Q : Flow → Shared → Prop} {E : Value → Shared → Prop} {ge : Array GenState} {dr : Drawn} {os : OsState} {g h0 : Heap} {L : Addr} {news : List (Addr × Obj)} {m0 : Str → Option Value} {tk : Nat}
    (K : (Str → Option Value) → Prop) (_N : News g L h0 news) (_F : Fr g L h0 m0) (h1 : wpAny M A c (fun fl s' => fl = .next ∧ MidK ge dr os g L news K s') E ⟨h0, ge, dr, tk, os⟩)
    (h2 : ∀ h' tk' m', Fr g L h' m' → News g L h' news → K m' → Q .next ⟨h', ge, dr, tk', os⟩) : wpAny M A c Q E ⟨h0, ge, dr, tk, os⟩ :=
  wpAny_mono h1 (fun fl s' h => by
    obtain ⟨rfl, h⟩ := h
    obtain ⟨h', g', d', k', o'⟩ := s'
    obtain ⟨m, e1, e2, e3, F, N, k⟩ := h
    dsimp only at e1 e2 e3
    subst e1 e2 e3
    exact h2 h' k' m F N k) fun _ _ x => x
local macro_rules | `(tactic| walk_at "exec If") => `(tactic| (k_here; refine stopHere ?_))
theorem c_row {good : Str → Prop} {blue : Str → Int} (H : ∀ tx, good tx → TripOk good blue tx) (ah : Bool) : ∀ (w : World) (mean : ExcName → Option Value) (mg mb : Str → Option Value) (D : Addr) (ps : List (Str × Tok)) (k : Nat),
   ConL w mean mg mb 158 8 [(D, listOf (strValues ps).toArray k)] (ps.length ≤ 7 ∧ (∀ x ∈ ps.map (·.1), x.length ≤ 10) ∧ ∀ i, good (((ps.map (·.1)).take (i + 1)).foldl (rStep ah) rZero).1) [.ref D, .bool ah] (isRow ((0, 0, 0) :: rRows ah blue rZero (ps.map (·.1)))) := by
  unfold ConL
  k_fill
  intro w mean mg mb D ps k
  intros
  rename_i hx _ _ hret
  obtain ⟨hp7, hp10, hgood⟩ := hx
  refine wpAny_call ?_
  k_dflt (refine' enterL ?k1 ?k2 ?k3 ?k4 ?k5 hret ?kA ?kF ?kK ?k6 ?k7 ?k8 ?k9 ?kB ?_ ?c2 ?c3 ?c4 ?c5; (case kA => exact rfl); (case kF => exact rfl); (case kK => assumption); (case k1 => k_asm); (case k2 => k_asm); (case k3 => k_asm); (case k4 => k_asm); (case k5 => k_asm); (case k6 => k_is); (case k7 => k_is); (case k8 => ktr_room); (case k9 => exact BindsTo.of_eq rfl); (case c5 => decide); (case kB => exact locs rfl); (case c2 => exact rfl); (case c3 => exact rfl); (case c4 => exact rfl); k_whole; intro g' L' h' FG' F' N' B' X' T' l1; (try dsimp only); (try k_lift B'); (try k_fold))
  clear hret
  replace F' := Fr_named (x := Str.ofString "ahead") (v := some (.bool ah)) (Fr_named (x := Str.ofString "pieces") (v := some (.ref D)) F' rfl) rfl
  k_steps
  refine Stop.go ?_
  rename Fr _ _ _ _ => F9
  rename News _ _ _ _ => N9
  rename _ ∧ _ < _ => hlt9
  rename _ < _ => hC9
  obtain ⟨hA9, hB9⟩ := hlt9
  rename_i R9 _ _ _ _ _ _ _
  generalize hT : ps.map (·.1) = texts
  have hlenT : texts.length = ps.length := by rw [← hT]; simp
  refine iter_led (k := _) (JRow ah blue texts R9 D (listOf (strValues ps).toArray k)) rfl F9 N9 (by k_mem) rfl rfl ?init ?turn ?done
  case init =>
    exact .mk _ rfl rfl rfl [] _ 0 0 0 _ _ _ 0 rfl ⟨⟨_, _, _, rfl⟩, trivial⟩ rfl (Nat.ne_of_lt hA9) (Nat.ne_of_gt hC9) (fun _ h => nomatch h)
  case done =>
    intro m₁ news₁ h tk hJ F₁ N₁
    obtain ⟨_, -, e1, -, ts, U, a, b, c, u1, u2, u3, kk, rfl, hR, -, hU, hUD, hne⟩ := hJ
    clear F9 N9
    replace F₁ := Fr_named (x := Str.ofString "row") F₁ e1
    k_steps
    rw [show (strValues ps).length = texts.length from by rw [hlenT]; simp [strValues], List.take_length] at hR
    rw [hT]
    refine fin_row2 F₁ N₁ hR (fun p hp => ?_) (fun p hp => ?_) fun q hq p hp => ?_
    · rw [List.mem_singleton.mp hp]; exact Nat.ne_of_gt hB9
    · rw [List.mem_singleton.mp hp]; exact hUD
    · rw [List.mem_singleton.mp hp]; exact (hne q hq).2
  case turn =>
    clear F9 N9
    intro I i v m₁ news₁ h tk own hv hJ hI hown F₁ N₁
    obtain ⟨t1, e1, e2, e3, ts, U, a, b, c, u1, u2, u3, kk, rfl, hR, rfl, hU, hUD, hne⟩ := hJ
    obtain ⟨x, tx, rfl, hx⟩ := strValues_get hv
    rw [hT] at hx
    have hst2 := rFold_red ah (texts.take i) rZero
    have hfold : (texts.take (i + 1)).foldl (rStep ah) rZero = rStep ah ((texts.take i).foldl (rStep ah) rZero) x := by rw [take_succ_of hx, List.foldl_append]; rfl
    have hi9 : i < texts.length := (List.getElem?_eq_some_iff.mp hx).1
    rw [List.length_take, Nat.min_eq_left (Nat.le_of_lt hi9)] at hst2
    have hg9 := hgood i
    rw [hT, hfold] at hg9
    have hxl : x.length ≤ 10 := hp10 x (by rw [hT]; exact List.mem_of_getElem? hx)
    have hlen9 : ts.length ≤ 20 := by
      have h1 := hR.len
      rw [List.length_append, List.length_singleton, List.length_cons, rRows_len, List.length_take] at h1
      omega
    generalize hst : (texts.take i).foldl (rStep ah) rZero = st at *
    have hz : ∃ z, (rStep ah st x).1 = z ∧ (rStep ah st x).2 = (if foundB z (st.2 + 1) = true then st.2 + 1 else st.2) ∧ z.length = st.1.length + x.length := by
      cases ah
      · exact ⟨_, rfl, rfl, Str.length_append _ _⟩
      · exact ⟨_, rfl, rfl, (Str.length_append _ _).trans (Nat.add_comm _ _)⟩
    obtain ⟨z, hz1, hz2, hz3⟩ := hz
    rw [hz1] at hg9
    have hst2 : st.2 ≤ i := by have h0 : rZero.2 = 0 := rfl; omega
    have hlx := (H _ hg9).len
    have hl1 : st.1.length ≤ 100 := by omega
    have hTail : ∀ p ∈ ts ++ [(D, listOf (strValues ps).toArray k)] ++ own, p.1 ≠ R9 := by
      intro p hp
      rcases List.mem_append.mp hp with hp | hp
      · rcases List.mem_append.mp hp with hp | hp
        · exact (hne p hp).1
        · rw [List.mem_singleton.mp hp]; exact Nat.ne_of_lt hB9
      · rcases hown.1 p hp with e | e
        · rw [e]; have h8 := hI _ (List.Mem.head _); exact Ne.symm h8
        · rw [e]; exact Nat.ne_of_lt hB9
    have F₂ := Fr_named (x := Str.ofString "ahead") (Fr_named (x := Str.ofString "row") (Fr_named (x := Str.ofString "text") F₁ e1) e2) e3
    clear F₁
    simp only [List.cons_append] at N₁
    have hU' : ¬ (@Eq Nat U R9) := hU
    k_steps
    refine Stop.go ?_
    rename Fr _ _ _ _ => F3
    rename News _ _ _ _ => N3
    refine mid_K (fun m => (∃ t, m (Str.ofString "text") = some (.str z t)) ∧ m (Str.ofString "row") = some (.ref R9) ∧ m (Str.ofString "ahead") = some (.bool ah)) N3 F3 ?_ ?_
    · clear hgood hfold hg9 hR hz2
      cases ah
      · k_dflt (refine wpAny_If ?_)
        k_steps
        rename Fr _ _ _ _ => F7
        rename News _ _ _ _ => N7
        exact .mk _ rfl rfl rfl F7 N7 ⟨⟨_, by rw [← hz1]; rfl⟩, rfl, rfl⟩
      · k_dflt (refine wpAny_If ?_)
        k_steps
        rename Fr _ _ _ _ => F7
        rename News _ _ _ _ => N7
        exact .mk _ rfl rfl rfl F7 N7 ⟨⟨_, by rw [← hz1]; rfl⟩, rfl, rfl⟩
    clear F3 N3
    intro h4 tk4 m4 F4 N4 hm4
    obtain ⟨⟨t4, e4⟩, e5, e6⟩ := hm4
    have F5 := Fr_named (x := Str.ofString "ahead") (Fr_named (x := Str.ofString "row") (Fr_named (x := Str.ofString "text") F4 e4) e5) e6
    clear F4
    k_steps
    refine Stop.go ?_
    rename Fr _ _ _ _ => F3
    rename News _ _ _ _ => N3
    refine mid_K (fun m => (∃ t, m (Str.ofString "red") = some (.int (((rStep ah st x).2 : Nat) : Int) t)) ∧ (∃ t, m (Str.ofString "text") = some (.str z t)) ∧ m (Str.ofString "row") = some (.ref R9) ∧ m (Str.ofString "ahead") = some (.bool ah)) N3 F3 ?_ ?_
    · k_dflt (refine wpAny_If ?_)
      k_steps
      refine Stop.go ?_
      k_dflt (refine' ConL.goB (c_found _ _ _ _ z (st.2 + 1) _ _) ?k1_a ?k2_a ?k3_a ?k4_a ?k5_a ?kK_a ?kl_a ?kp_a ?kd_a ?ku_a ?_; (case k1_a => k_asm); (case k2_a => k_asm); (case k3_a => k_asm); (case k4_a => k_asm); (case k5_a => k_asm); (case kK_a => first | exact rfl | assumption); (case kd_a => ktr_room); (case ku_a => ktr_units); k_whole)
      case kl_a => exact fun _ h => nomatch h
      case kp_a => exact ⟨hlx, by omega⟩
      intro h7 tk7 F7 N7
      cases hfb : foundB z (st.2 + 1) with
      | true =>
        rw [hfb, if_pos rfl] at hz2
        k_steps
        rename Fr _ _ _ _ => F7
        rename News _ _ _ _ => N7
        exact .mk _ rfl rfl rfl F7 N7 ⟨⟨_, by rw [hz2]; rfl⟩, ⟨_, rfl⟩, rfl, rfl⟩
      | false =>
        rw [hfb, if_neg Bool.false_ne_true] at hz2
        k_steps
        rename Fr _ _ _ _ => F7
        rename News _ _ _ _ => N7
        exact .mk _ rfl rfl rfl F7 N7 ⟨⟨_, by rw [hz2]; rfl⟩, ⟨_, rfl⟩, rfl, rfl⟩
    clear F3 N3
    intro h6 tk6 m6 F6 N6 hm6
    obtain ⟨⟨t7, e7⟩, ⟨t4, e4⟩, e5, e6⟩ := hm6
    have F8 := Fr_named (x := Str.ofString "red") (Fr_named (x := Str.ofString "ahead") (Fr_named (x := Str.ofString "row") (Fr_named (x := Str.ofString "text") F6 e4) e5) e6) e7
    clear F6
    have hstep : rStep ah st x = (z, (rStep ah st x).2) := by rw [← hz1]
    k_steps
    refine Stop.go ?_
    k_dflt (refine' ConL.goI (c_trip H _ _ _ _ z _) ?k1_b ?k2_b ?k3_b ?k4_b ?k5_b ?kK_b ?kl_b ?kp_b ?kd_b ?ku_b ?_; (case k1_b => k_asm); (case k2_b => k_asm); (case k3_b => k_asm); (case k4_b => k_asm); (case k5_b => k_asm); (case kK_b => first | exact rfl | assumption); (case kd_b => ktr_room); (case ku_b => ktr_units); k_whole)
    case kl_b => exact fun _ h => nomatch h
    case kp_b => exact hg9
    intro q8 h8 tk8 F8 N8
    k_steps
    refine Stop.go ?_
    with_reducible
      refine' append_led ?F ?N ?U ?z ?_
      (case F => k_asm)
      (case N => k_asm)
      (case U => k_upd)
      (case z => (simp only [List.size_toArray, List.length_map, List.length_append, List.length_cons, List.length_nil]; omega))
      intro h' F' N'
    k_steps
    rename Fr _ _ _ _ => F9
    rename News _ _ _ _ => N9
    rename _ ∧ _ ∧ AllLt _ _ => l9
    obtain ⟨lR9, lU9, lA9⟩ := l9
    have N10 := row_news2 N9
    have lall := ktn_ltOf lA9
    refine endG _ F9 N10 (fun p hp => List.mem_append_left _ hp) (fun p hp => List.mem_append_right _ hp) ?_ (.mk _ (by rw [hfold, hstep]; rfl) rfl rfl _ _ _ _ _ _ _ _ _ rfl ?_ ?_ (Nat.ne_of_gt lR9) (Nat.ne_of_gt (lall _ (List.mem_append_left _ (List.mem_append_right _ (.head _))))) ?_)
    · intro p hp
      simp only [List.mem_cons, List.mem_append, List.not_mem_nil, or_false] at hp
      rcases hp with rfl | rfl | (hp | rfl) | rfl
      · have h8 := hI _ (List.Mem.head _); exact h8
      · obtain ⟨oI, hoI⟩ := hown.2
        exact Nat.ne_of_gt (lall _ (List.mem_append_right _ hoI))
      · exact hI p (.tail _ (.tail _ (List.mem_append_left _ hp)))
      · exact hI _ (.tail _ (.head _))
      · exact hI _ (.tail _ (.tail _ (List.mem_append_right _ (.head _))))
    · rw [take_succ_of hx, rRows_snoc, ← List.cons_append, hst, hstep]
      exact RowIs.snoc (x := rPaint blue (z, (rStep ah st x).2)) ⟨_, _, _, rfl⟩ hR
    · rw [hfold, hstep]; try rfl
    · intro p hp
      simp only [List.mem_append, List.mem_cons, List.not_mem_nil, or_false] at hp
      rcases hp with hp | rfl
      · exact hne p hp
      · exact ⟨hU, hUD⟩
end Mine
end
section
set_option Elab.async false
set_option maxRecDepth 100000
namespace Mine
open PySem PySem.W PyProof.Rows PySem.Calls PySem.Spec
noncomputable abbrev IsTup3 (h : Heap) (T : Addr) (a b c : Value) : Prop := h.get? T = some { cls := .type "tuple", data := .seq #[a, b, c] }
section
variable {prog : Program} {w : World} {A : Around} {E : Value → Shared → Prop} {s : Shared}
theorem upd3 {T : Addr} {a b c x : Value} {k : Nat} {Q : Unit → Shared → Prop} (hT : IsTup3 s.heap T a b c)
    (h : ∀ h', h'.get? T = some { cls := .type "tuple", data := .seq ((#[a, b, c] : Array Value).setIfInBounds k x) } → Heap.SameBut T s.heap h' → Q () { s with heap := h' }) :
    wpAny (model prog w) A (updateSeq T (·.setIfInBounds k x)) Q E s := by
  refine wpAny_updateSeq hT rfl (h _ ?_ (Heap.SameBut.update ..))
  rw [Heap.get?_update_self _ hT rfl]
  simp [Obj.mapSeq]
theorem zip3_item {n l1 l2 l3 : Nat} {k : Nat} {xs ys zs : Array Value} {x y v a b c : Value} {Q : Value → Shared → Prop} (hl : l1 < n ∧ l2 < n ∧ l3 < n)
    (hz : IsZip s.heap (n + 5) (n + 3) (n + 4) .none) (hTI : IsTup3 s.heap (n + 3) (.ref n) (.ref (n + 1)) (.ref (n + 2))) (hTO : IsTup3 s.heap (n + 4) a b c)
    (h1 : s.heap.IsListIter n l1 k) (h2 : s.heap.IsListIter (n + 1) l2 k) (h3 : s.heap.IsListIter (n + 2) l3 k) (hl1 : s.heap.IsList l1 xs) (hl2 : s.heap.IsList l2 ys) (hl3 : s.heap.IsList l3 zs)
    (hx : xs[k]? = some x) (hy : ys[k]? = some y) (hv : zs[k]? = some v)
    (hQ : ∀ h', IsZip h' (n + 5) (n + 3) (n + 4) (rawInt s.heap.objs.size) → IsTup3 h' (n + 4) x y v → h'.IsListIter n l1 (k + 1) → h'.IsListIter (n + 1) l2 (k + 1) → h'.IsListIter (n + 2) l3 (k + 1) → IsTup3 h' s.heap.objs.size x y v → h'.objs.size = s.heap.objs.size + 1 →
      (∀ c o, c ≠ n + 5 → c ≠ n + 4 → c ≠ n → c ≠ n + 1 → c ≠ n + 2 → s.heap.get? c = some o → h'.get? c = some o) → Q (.ref s.heap.objs.size) { s with heap := h' }) :
    wpAny (model prog w) A (Builtin.«zip.__next__» ⟨[.ref (n + 5)], []⟩) (fun fin s' => ∃ v, fin = .done (.ret v) ∧ Q v s') E s := by
  have ne : ∀ {p q : Nat}, p < q → p ≠ q := fun h => Nat.ne_of_lt h
  have en : ∀ {p q : Nat}, p < q → q ≠ p := fun h => Nat.ne_of_gt h
  obtain ⟨hl1n, hl2n, hl3n⟩ := hl
  show wpAny _ _ (field (.ref (n + 5)) 2 >>= _) _ _ _
  refine wpAny_bind (wpAny_field hz rfl (x := .bool false) rfl ?_)
  show wpAny _ _ (field (.ref (n + 5)) 3 >>= _) _ _ _
  refine wpAny_bind (wpAny_field hz rfl (x := .ref (n + 3)) rfl ?_)
  refine wpAny_bind (wpAny_seqItems hTI rfl ?_)
  show wpAny _ _ (Builtin.SmallTypes.ownedTupleIsFree (.ref (n + 5)) >>= _) _ _ _
  refine wpAny_bind ?_
  unfold Builtin.SmallTypes.ownedTupleIsFree
  refine wpAny_bind (wpAny_field hz rfl (x := .none) rfl (wpAny_pure ?_))
  simp only [if_true]
  refine wpAny_bind (wpAny_rule ?_)
  refine wpAny_bind (wpAny_field hz rfl (x := .ref (n + 4)) rfl ?_)
  refine wpAny_bind (wpAny_setField_rec hz (by simp) fun g₁ hz₁ hs₁ => ?_)
  replace hz₁ : IsZip g₁ (n + 5) (n + 3) (n + 4) .ellipsis := hz₁
  refine wpAny_bind ?_
  simp only [List.zipIdx_cons, List.zipIdx_nil, List.forIn_cons, List.forIn_nil]
  -- the first
  refine wpAny_bind (wpAny_bind (wpAny_onRaise ?_))
  show wpAny _ _ (Builtin.SmallTypes.nextOf (.ref n) >>= _) _ _ _
  refine wpAny_bind (wpAny_nextOf_list_item (h1.extBut hs₁.extBut (ne (by omega))) (hl1.extBut hs₁.extBut (ne (by omega))) hx fun g₂ h1₂ hs₂ => wpAny_pure ?_)
  have hTO₂ : IsTup3 g₂ (n + 4) a b c := hs₂.extBut _ _ (en (by omega)) (hs₁.extBut _ _ (ne (by omega)) hTO)
  refine wpAny_bind (wpAny_seqItems hTO₂ rfl ?_)
  refine wpAny_bind (upd3 hTO₂ fun g₃ hTO₃ hs₃ => ?_)
  replace hTO₃ : IsTup3 g₃ (n + 4) x b c := hTO₃
  refine wpAny_bind (wpAny_letGo (wpAny_pure ?_))
  -- the second
  refine wpAny_bind (wpAny_bind (wpAny_onRaise ?_))
  show wpAny _ _ (Builtin.SmallTypes.nextOf (.ref (n + 1)) >>= _) _ _ _
  have h2₃ : g₃.IsListIter (n + 1) l2 k := ((h2.extBut hs₁.extBut (ne (by omega))).extBut hs₂.extBut (en (by omega))).extBut hs₃.extBut (ne (by omega))
  have hl2₃ : g₃.IsList l2 ys := ((hl2.extBut hs₁.extBut (ne (by omega))).extBut hs₂.extBut (ne (by omega))).extBut hs₃.extBut (ne (by omega))
  refine wpAny_bind (wpAny_nextOf_list_item h2₃ hl2₃ hy fun g₄ h2₄ hs₄ => wpAny_pure ?_)
  have hTO₄ : IsTup3 g₄ (n + 4) x b c := hs₄.extBut _ _ (en (by omega)) hTO₃
  refine wpAny_bind (wpAny_seqItems hTO₄ rfl ?_)
  refine wpAny_bind (upd3 hTO₄ fun g₅ hTO₅ hs₅ => ?_)
  replace hTO₅ : IsTup3 g₅ (n + 4) x y c := hTO₅
  refine wpAny_bind (wpAny_letGo (wpAny_pure ?_))
  -- the third
  refine wpAny_bind (wpAny_bind (wpAny_onRaise ?_))
  show wpAny _ _ (Builtin.SmallTypes.nextOf (.ref (n + 2)) >>= _) _ _ _
  have h3₅ : g₅.IsListIter (n + 2) l3 k := ((((h3.extBut hs₁.extBut (ne (by omega))).extBut hs₂.extBut (en (by omega))).extBut hs₃.extBut (ne (by omega))).extBut hs₄.extBut (en (by omega))).extBut hs₅.extBut (ne (by omega))
  have hl3₅ : g₅.IsList l3 zs := ((((hl3.extBut hs₁.extBut (ne (by omega))).extBut hs₂.extBut (ne (by omega))).extBut hs₃.extBut (ne (by omega))).extBut hs₄.extBut (ne (by omega))).extBut hs₅.extBut (ne (by omega))
  refine wpAny_bind (wpAny_nextOf_list_item h3₅ hl3₅ hv fun g₆ h3₆ hs₆ => wpAny_pure ?_)
  have hTO₆ : IsTup3 g₆ (n + 4) x y c := hs₆.extBut _ _ (en (by omega)) hTO₅
  refine wpAny_bind (wpAny_seqItems hTO₆ rfl ?_)
  refine wpAny_bind (upd3 hTO₆ fun g₇ hTO₇ hs₇ => ?_)
  replace hTO₇ : IsTup3 g₇ (n + 4) x y v := hTO₇
  refine wpAny_bind (wpAny_letGo (wpAny_pure (wpAny_pure ?_)))
  refine wpAny_bind (wpAny_seqItems hTO₇ rfl ?_)
  refine wpAny_bind (wpAny_newTuple ?_)
  have hsz : g₇.objs.size = s.heap.objs.size := by rw [hs₇.1, hs₆.1, hs₅.1, hs₄.1, hs₃.1, hs₂.1, hs₁.1]
  have hk₇ : ∀ c o, c ≠ n + 5 → c ≠ n + 4 → c ≠ n → c ≠ n + 1 → c ≠ n + 2 → s.heap.get? c = some o → g₇.get? c = some o := fun c o c1 c2 c3 c4 c5 e =>
    hs₇.extBut _ _ c2 (hs₆.extBut _ _ c5 (hs₅.extBut _ _ c2 (hs₄.extBut _ _ c4 (hs₃.extBut _ _ c2 (hs₂.extBut _ _ c3 (hs₁.extBut _ _ c1 e))))))
  have hz₇ : IsZip g₇ (n + 5) (n + 3) (n + 4) .ellipsis := hs₇.extBut _ _ (en (by omega)) (hs₆.extBut _ _ (en (by omega)) (hs₅.extBut _ _ (en (by omega)) (hs₄.extBut _ _ (en (by omega)) (hs₃.extBut _ _ (en (by omega)) (hs₂.extBut _ _ (en (by omega)) hz₁)))))
  have h1₇ : g₇.IsListIter n l1 (k + 1) := ((((h1₂.extBut hs₃.extBut (ne (by omega))).extBut hs₄.extBut (ne (by omega))).extBut hs₅.extBut (ne (by omega))).extBut hs₆.extBut (ne (by omega))).extBut hs₇.extBut (ne (by omega))
  have h2₇ : g₇.IsListIter (n + 1) l2 (k + 1) := ((h2₄.extBut hs₅.extBut (ne (by omega))).extBut hs₆.extBut (ne (by omega))).extBut hs₇.extBut (ne (by omega))
  have h3₇ : g₇.IsListIter (n + 2) l3 (k + 1) := h3₆.extBut hs₇.extBut (ne (by omega))
  have hzlt : n + 5 < g₇.objs.size := Heap.lt_size hz₇
  show wpAny _ _ (Builtin.SmallTypes.ownedTupleHandOut (.ref (n + 5)) (.ref g₇.objs.size) >>= _) _ _ _
  refine wpAny_bind ?_
  unfold Builtin.SmallTypes.ownedTupleHandOut
  have hz₈ : IsZip (g₇.push { cls := .type "tuple", data := .seq #[x, y, v] }) (n + 5) (n + 3) (n + 4) .ellipsis := Heap.get?_push_of_some _ hz₇
  refine wpAny_bind (wpAny_setField_rec hz₈ (by simp) fun g₉ hz₉ hs₉ => ?_)
  replace hz₉ : IsZip g₉ (n + 5) (n + 3) (n + 4) (rawInt g₇.objs.size) := hz₉
  refine wpAny_setField_rec hz₉ (by simp) fun gA hzA hsA => ?_
  replace hzA : IsZip gA (n + 5) (n + 3) (n + 4) (rawInt g₇.objs.size) := hzA
  have up : ∀ c o, c ≠ n + 5 → g₇.get? c = some o → gA.get? c = some o := fun c o c1 e => hsA.extBut _ _ c1 (hs₉.extBut _ _ c1 (Heap.get?_push_of_some _ e))
  have hT : IsTup3 gA g₇.objs.size x y v := hsA.extBut _ _ (Nat.ne_of_gt hzlt) (hs₉.extBut _ _ (Nat.ne_of_gt hzlt) (Heap.get?_push_size _ rfl))
  have hz8 : gA.objs.size = g₇.objs.size + 1 := by rw [hsA.1, hs₉.1, Heap.size_push]
  rw [hsz] at hzA hT hz8
  refine wpAny_pure ⟨_, rfl, ?_⟩
  show Q (.ref g₇.objs.size) _
  rw [hsz]
  exact hQ gA hzA (up _ _ (ne (by omega)) hTO₇) (h1₇.at fun o e => up _ o (ne (by omega)) e) (h2₇.at fun o e => up _ o (ne (by omega)) e) (h3₇.at fun o e => up _ o (ne (by omega)) e) hT hz8 fun c o c1 c2 c3 c4 c5 e => up c o c1 (hk₇ c o c1 c2 c3 c4 c5 e)
end
end Mine
end
section
set_option Elab.async false
set_option maxRecDepth 100000
namespace Mine
open PySem PySem.W PyProof.Rows PySem.Calls PySem.Spec
section
variable {prog : Program} {w : World} {A : Around} {E : Value → Shared → Prop} {s : Shared}
theorem zip3_end {n l1 : Nat} {l2 l3 : Addr} {k : Nat} {xs : Array Value} {a b c : Value} {Q : Fin → Shared → Prop} (hh : A.handled = none) (hl : l1 < n)
    (hz : IsZip s.heap (n + 5) (n + 3) (n + 4) .none) (hTI : IsTup3 s.heap (n + 3) (.ref n) (.ref (n + 1)) (.ref (n + 2))) (hTO : IsTup3 s.heap (n + 4) a b c)
    (h1 : s.heap.IsListIter n l1 k) (hl1 : s.heap.IsList l1 xs) (hx : xs[k]? = none)
    (hE : ∀ h' e, (∀ c o, c ≠ n + 5 → c ≠ n + 4 → c ≠ n → c ≠ n + 1 → c ≠ n + 2 → s.heap.get? c = some o → h'.get? c = some o) → (∃ o, h'.get? e = some o ∧ o.cls = .type "StopIteration") → E (.ref e) { s with heap := h' }) :
    wpAny (model prog w) A (Builtin.«zip.__next__» ⟨[.ref (n + 5)], []⟩) Q E s := by
  show wpAny _ _ (field (.ref (n + 5)) 2 >>= _) _ _ _
  refine wpAny_bind (wpAny_field hz rfl (x := .bool false) rfl ?_)
  show wpAny _ _ (field (.ref (n + 5)) 3 >>= _) _ _ _
  refine wpAny_bind (wpAny_field hz rfl (x := .ref (n + 3)) rfl ?_)
  refine wpAny_bind (wpAny_seqItems hTI rfl ?_)
  show wpAny _ _ (Builtin.SmallTypes.ownedTupleIsFree (.ref (n + 5)) >>= _) _ _ _
  refine wpAny_bind ?_
  unfold Builtin.SmallTypes.ownedTupleIsFree
  refine wpAny_bind (wpAny_field hz rfl (x := .none) rfl (wpAny_pure ?_))
  simp only [if_true]
  refine wpAny_bind (wpAny_rule ?_)
  refine wpAny_bind (wpAny_field hz rfl (x := .ref (n + 4)) rfl ?_)
  refine wpAny_bind (wpAny_setField_rec hz (by simp) fun g₁ hz₁ hs₁ => ?_)
  replace hz₁ : IsZip g₁ (n + 5) (n + 3) (n + 4) .ellipsis := hz₁
  refine wpAny_bind ?_
  simp only [List.zipIdx_cons, List.zipIdx_nil, List.forIn_cons, List.forIn_nil]
  refine wpAny_bind (wpAny_bind (wpAny_onRaise ?_))
  show wpAny _ _ (Builtin.SmallTypes.nextOf (.ref n) >>= _) _ _ _
  refine wpAny_bind (wpAny_nextOf_list_end hh (h1.extBut hs₁.extBut (Nat.ne_of_lt (by omega))) (hl1.extBut hs₁.extBut (Nat.ne_of_lt (by omega))) hx fun g₂ e hs₂ he => ?_)
  obtain ⟨oe, hoe, hce⟩ := he
  have hz₂ : IsZip g₂ (n + 5) (n + 3) (n + 4) .ellipsis := hs₂ _ _ (Nat.ne_of_gt (by omega)) hz₁
  have hez : e ≠ n + 5 := fun x => by subst x; rw [hz₂] at hoe; cases hoe; simp at hce
  refine wpAny_setField_rec hz₂ (by simp) fun g₃ _ hs₃ => hE g₃ e (fun c o c1 _ c3 _ _ x => hs₃.extBut _ _ c1 (hs₂ _ _ c3 (hs₁.extBut _ _ c1 x))) ⟨oe, hs₃.extBut _ _ hez hoe, hce⟩
theorem typeCall_zip_3 (a b c : Value) : checkTypeCall "zip" ⟨[a, b, c], []⟩ = pure () := by kernel_rfl
theorem newCall_zip_3 (a b c : Value) : checkBuiltinCall "zip.__new__" ⟨[.type "zip", a, b, c], []⟩ = pure () := by kernel_rfl
theorem args_object_init_4 (a b c d : Value) : argsOk "object.__init__" ⟨[a, b, c, d], []⟩ := by
  unfold argsOk; rw [signature?_of (id := "object.__init__") (n := ['_', '_', 't', 'i', 'n', 'i', '_', '_']) (o := ['t', 'c', 'e', 'j', 'b', 'o']) (by kernel_rfl) PySem.F.owner_object]; kernel_rfl
noncomputable abbrev it3 (h : Heap) (l : Addr) : Heap := h.push { cls := .type "list_iterator", data := .fields #[.ref l, .int 0 0] }
noncomputable abbrev z3a (h : Heap) (l1 l2 l3 : Addr) : Heap := it3 (it3 (it3 h l1) l2) l3
noncomputable abbrev z3b (h : Heap) (l1 l2 l3 : Addr) : Heap := (z3a h l1 l2 l3).push { cls := .type "tuple", data := .seq #[.ref h.objs.size, .ref (it3 h l1).objs.size, .ref (it3 (it3 h l1) l2).objs.size] }
noncomputable abbrev z3c (h : Heap) (l1 l2 l3 : Addr) : Heap := (z3b h l1 l2 l3).push { cls := .type "tuple", data := .seq #[.none, .none, .none] }
noncomputable abbrev z3d (h : Heap) (l1 l2 l3 : Addr) : Heap := (z3c h l1 l2 l3).push { cls := .type "zip", data := .fields #[.none, .bool false, .bool false, .ref (z3a h l1 l2 l3).objs.size, .ref (z3b h l1 l2 l3).objs.size] }
set_option maxHeartbeats 4000000 in
theorem meets_zip3 (l1 l2 l3 : Addr) (xs ys zs : Array Value) :
    Meets (Builtin.«zip.__new__» ⟨[.type "zip", .ref l1, .ref l2, .ref l3], []⟩) (fun _ R s => s.heap.IsList l1 xs ∧ s.heap.IsList l2 ys ∧ s.heap.IsList l3 zs ∧
      R (.ok (.ret (.ref (z3c s.heap l1 l2 l3).objs.size))) { s with heap := z3d s.heap l1 l2 l3 }) :=
  .of_wp fun prog w A R s h => by
    obtain ⟨hp, g, d, tk, os⟩ := s; obtain ⟨hl1, hl2, hl3, h⟩ := h
    have hsub := sub_zip
    have hL1 : Heap.IsList (Shared.heap ⟨hp, g, d, tk, os⟩) l1 xs := hl1
    have hL2 : Heap.IsList (Shared.heap ⟨it3 hp l1, g, d, tk, os⟩) l2 ys := Heap.IsList.push hl2 _
    have hL3 : Heap.IsList (Shared.heap ⟨it3 (it3 hp l1) l2, g, d, tk, os⟩) l3 zs := Heap.IsList.push (Heap.IsList.push hl3 _) _
    wp_walk using wpAny_pyIter_list hL1, wpAny_pyIter_list hL2, wpAny_pyIter_list hL3
    exact ⟨_, rfl, h⟩
end
end Mine
end
section
set_option Elab.async false
set_option maxRecDepth 100000
set_option maxHeartbeats 1000000
namespace Mine
open PySem PySem.W PyProof.Rows PySem.Calls PySem.Spec
/-- the state of a zip of three lists -/
structure Zst (n l1 l2 l3 : Nat) (v1 v2 v3 : List Value) (i : Nat) (h : Heap) : Prop where
  z : IsZip h (n + 5) (n + 3) (n + 4) .none
  ti : IsTup3 h (n + 3) (.ref n) (.ref (n + 1)) (.ref (n + 2))
  to : ∃ a b c, IsTup3 h (n + 4) a b c
  i1 : h.IsListIter n l1 i
  i2 : h.IsListIter (n + 1) l2 i
  i3 : h.IsListIter (n + 2) l3 i
  a1 : h.IsList l1 v1.toArray
  a2 : h.IsList l2 v2.toArray
  a3 : h.IsList l3 v3.toArray
theorem Zst.at {n l1 l2 l3 : Nat} {v1 v2 v3 : List Value} {i : Nat} {h h' : Heap} (S : Zst n l1 l2 l3 v1 v2 v3 i h) (k : ∀ b ∈ [n + 5, n + 3, n + 4, n, n + 1, n + 2, l1, l2, l3], ∀ o, h.get? b = some o → h'.get? b = some o) : Zst n l1 l2 l3 v1 v2 v3 i h' :=
  ⟨k _ (by simp) _ S.z, k _ (by simp) _ S.ti, let ⟨a, b, c, e⟩ := S.to; ⟨a, b, c, k _ (by simp) _ e⟩, S.i1.at fun o e => k _ (by simp) o e, S.i2.at fun o e => k _ (by simp) o e, S.i3.at fun o e => k _ (by simp) o e,
    S.a1.at fun o e => k _ (by simp) o e, S.a2.at fun o e => k _ (by simp) o e, S.a3.at fun o e => k _ (by simp) o e⟩
section
variable {prog : Program} {w : World} {A : Around} {E : Value → Shared → Prop} {s : Shared} {env : Env} {h₀ : Heap}
theorem call_zip3 {l1 l2 l3 : Addr} {v1 v2 v3 : List Value} {Q : Value → Shared → Prop} (hl1 : s.heap.IsList l1 v1.toArray) (hl2 : s.heap.IsList l2 v2.toArray) (hl3 : s.heap.IsList l3 v3.toArray)
    (h : ∀ h', Zst s.heap.objs.size l1 l2 l3 v1 v2 v3 0 h' → (∀ c o, s.heap.get? c = some o → h'.get? c = some o) → Q (.ref (s.heap.objs.size + 5)) { s with heap := h' }) :
    wpAny (model prog w) A (call (.type "zip") [.ref l1, .ref l2, .ref l3]) Q E s := by
  refine callType_new PySem.F.called_zip (by decide) (typeCall_zip_3 _ _ _) (newCall_zip_3 _ _ _) (fun obj => args_object_init_4 obj _ _ _) PySem.F.entry_zip_new
    (meets_zip3 l1 l2 l3 v1.toArray v2.toArray v3.toArray) ⟨hl1, hl2, hl3, ?_⟩
  have e1 : (it3 s.heap l1).objs.size = s.heap.objs.size + 1 := Heap.size_push ..
  have e2 : (it3 (it3 s.heap l1) l2).objs.size = s.heap.objs.size + 2 := by rw [Heap.size_push, e1]
  have e3 : (z3a s.heap l1 l2 l3).objs.size = s.heap.objs.size + 3 := by rw [Heap.size_push, e2]
  have e4 : (z3b s.heap l1 l2 l3).objs.size = s.heap.objs.size + 4 := by rw [Heap.size_push, e3]
  have e5 : (z3c s.heap l1 l2 l3).objs.size = s.heap.objs.size + 5 := by rw [Heap.size_push, e4]
  have up4 : ∀ {c o}, (z3c s.heap l1 l2 l3).get? c = some o → (z3d s.heap l1 l2 l3).get? c = some o := fun e => Heap.get?_push_of_some _ e
  have up3' : ∀ {c o}, (z3b s.heap l1 l2 l3).get? c = some o → (z3d s.heap l1 l2 l3).get? c = some o := fun e => up4 (Heap.get?_push_of_some _ e)
  have up2' : ∀ {c o}, (z3a s.heap l1 l2 l3).get? c = some o → (z3d s.heap l1 l2 l3).get? c = some o := fun e => up3' (Heap.get?_push_of_some _ e)
  have upb : ∀ {c o}, (it3 (it3 s.heap l1) l2).get? c = some o → (z3d s.heap l1 l2 l3).get? c = some o := fun e => up2' (Heap.get?_push_of_some _ e)
  have upa : ∀ {c o}, (it3 s.heap l1).get? c = some o → (z3d s.heap l1 l2 l3).get? c = some o := fun e => upb (Heap.get?_push_of_some _ e)
  have up0 : ∀ {c o}, s.heap.get? c = some o → (z3d s.heap l1 l2 l3).get? c = some o := fun e => upa (Heap.get?_push_of_some _ e)
  have g5 : (z3d s.heap l1 l2 l3).get? (z3c s.heap l1 l2 l3).objs.size = some _ := Heap.get?_push_size _ rfl
  have g4 : (z3d s.heap l1 l2 l3).get? (z3b s.heap l1 l2 l3).objs.size = some _ := up4 (Heap.get?_push_size _ rfl)
  have g3 : (z3d s.heap l1 l2 l3).get? (z3a s.heap l1 l2 l3).objs.size = some _ := up3' (Heap.get?_push_size _ rfl)
  have g2 : (z3d s.heap l1 l2 l3).get? (it3 (it3 s.heap l1) l2).objs.size = some _ := up2' (Heap.get?_push_size _ rfl)
  have g1 : (z3d s.heap l1 l2 l3).get? (it3 s.heap l1).objs.size = some _ := upb (Heap.get?_push_size _ rfl)
  have g0 : (z3d s.heap l1 l2 l3).get? s.heap.objs.size = some _ := upa (Heap.get?_push_size _ rfl)
  show _ ∧ _
  rw [e3, e4, e5] at g5
  rw [e4] at g4
  rw [e3, e1, e2] at g3
  rw [e2] at g2
  rw [e1] at g1
  rw [e5]
  exact ⟨⟨_, g5, rfl⟩, h _ ⟨g5, g3, ⟨_, _, _, g4⟩, ⟨_, g0, rfl, rfl⟩, ⟨_, g1, rfl, rfl⟩, ⟨_, g2, rfl, rfl⟩, hl1.at fun o e => up0 e, hl2.at fun o e => up0 e, hl3.at fun o e => up0 e⟩ fun c o e => up0 e⟩
inductive EndZ (h₀ : Heap) (L : Addr) (J : (Str → Option Value) → List (Addr × Obj) → Prop) (wr : List Addr) (own : List (Addr × Obj)) (s₁ s₂ : Shared) : Prop
  | mk (h' : Heap) (tk : Nat) (m' : Str → Option Value) (news' all : List (Addr × Obj)) (e : s₂ = { s₁ with heap := h', toks := tk }) (F : Fr h₀ L h' m') (N : News h₀ L h' all) (h1 : ∀ p ∈ news', p ∈ all) (h2 : ∀ p ∈ own, p ∈ all) (h3 : ∀ p ∈ news', p.1 ∉ wr) (hj : J m' news') : EndZ h₀ L J wr own s₁ s₂
noncomputable def PostZ (h₀ : Heap) (L : Addr) (J : (Str → Option Value) → List (Addr × Obj) → Prop) (wr : List Addr) (own : List (Addr × Obj)) (s₁ : Shared) (Q : Flow → Shared → Prop) (f : Flow) (s₂ : Shared) : Prop :=
  match f with
  | .ret v => Q (.ret v) s₂
  | .brk => Q .next s₂
  | _ => EndZ h₀ L J wr own s₁ s₂
inductive ZInv3 (s : Shared) (h₀ : Heap) (Lo : Addr) (n l1 l2 l3 : Nat) (v1 v2 v3 : List Value) (J : Nat → (Str → Option Value) → List (Addr × Obj) → Prop) (k : Nat) (s' : Shared) : Prop
  | mk (h' : Heap) (tk : Nat) (m' : Str → Option Value) (news' : List (Addr × Obj)) (i : Nat) (e : s' = { s with heap := h', toks := tk }) (st' : Zst n l1 l2 l3 v1 v2 v3 i h') (F' : Fr h₀ Lo h' m') (N' : News h₀ Lo h' news') (hnw' : ∀ p ∈ news', p.1 ∉ [n + 5, n + 4, n, n + 1, n + 2]) (hJ : J i m' news') (hi : i ≤ v1.length) (hk : k = v1.length + 1 - i) : ZInv3 s h₀ Lo n l1 l2 l3 v1 v2 v3 J k s'
theorem loop_zip3 {Q : Flow → Shared → Prop} {n l1 l2 l3 : Nat} {v1 v2 v3 : List Value} {xa xb xc : Str} {pa pb pc tp : Pos} {kt : Nat} {body : List Stmt} {m : Str → Option Value} {news : List (Addr × Obj)}
    (hh : A.handled = none) (hl : l1 < n ∧ l2 < n ∧ l3 < n) (e2 : v2.length = v1.length) (e3 : v3.length = v1.length)
    (hxa : env.kindOf xa = some .local) (hxb : env.kindOf xb = some .local) (hxc : env.kindOf xc = some .local)
    (hp : (env.scope.kind == .class || (env.scope.kind == .module && env.locals != env.globals)) = false)
    (hL : @LT.lt Nat _ env.locals n) (hLl : env.locals ≠ l1 ∧ env.locals ≠ l2 ∧ env.locals ≠ l3) (h0n : h₀.objs.size ≤ n)
    (st : Zst n l1 l2 l3 v1 v2 v3 0 s.heap) (F : Fr h₀ env.locals s.heap m) (N : News h₀ env.locals s.heap news) (hnw : ∀ p ∈ news, p.1 ∉ [n + 5, n + 4, n, n + 1, n + 2])
    (J : Nat → (Str → Option Value) → List (Addr × Obj) → Prop) (h0 : J 0 m news)
    (turn : ∀ i a b c m₁ news₁ h tk own, v1[i]? = some a → v2[i]? = some b → v3[i]? = some c → J i m₁ news₁ → (∀ p ∈ news₁, p.1 ∉ [n + 5, n + 4, n, n + 1, n + 2]) → (∀ p ∈ own, p.1 ∈ [n + 5, n + 3, n + 4, n, n + 1, n + 2, l1, l2, l3]) →
      Fr h₀ env.locals h (fun y => if y = xc then some c else if y = xb then some b else if y = xa then some a else m₁ y) → News h₀ env.locals h (news₁ ++ own) →
      wpAny (model prog w) A (execs body env) (PostZ h₀ env.locals (J (i + 1)) [n + 5, n + 4, n, n + 1, n + 2] own { s with heap := h, toks := tk } Q) E { s with heap := h, toks := tk })
    (done : ∀ m₁ news₁ h tk, J v1.length m₁ news₁ → Fr h₀ env.locals h m₁ → News h₀ env.locals h news₁ → Q .next { s with heap := h, toks := tk })
    (hE : PassesOwn (model prog w) A env E) :
    codeAny (model prog w) A (.forLoop (.Tuple [.Name xa pa, .Name xb pb, .Name xc pc] kt tp) (.ref (n + 5)) body [] env) (fun r s' => match r with | .ok f => Q f s' | .error e => cameBackBy (model prog w) A env E e s') s := by
  have old : ∀ b o, h₀.get? b = some o → @LT.lt Nat _ b n := fun b o e => Nat.lt_of_lt_of_le (Heap.lt_size e) h0n
  refine codeAny_forLoop_any
    (ZInv3 s h₀ env.locals n l1 l2 l3 v1 v2 v3 J) ?_ (v1.length + 1)
    ⟨s.heap, s.toks, m, news, 0, rfl, st, F, N, hnw, h0, Nat.zero_le _, rfl⟩
  rintro k s' ⟨h', tk, m', news', i, rfl, st', F', N', hnw', hJ, hi, rfl⟩
  have hT : (⟨h', s.gens, s.drawn, tk, s.os⟩ : Shared).TypeIs (.ref (n + 5)) "zip" := ⟨_, st'.z, rfl⟩
  obtain ⟨ta, tb, tc, hTO⟩ := st'.to
  have keepF : ∀ g : Heap, (∀ c o, c ≠ n + 5 → c ≠ n + 4 → c ≠ n → c ≠ n + 1 → c ≠ n + 2 → h'.get? c = some o → g.get? c = some o) → Fr h₀ env.locals g m' ∧ News h₀ env.locals g news' := fun g hk =>
    ⟨⟨F'.ns.at' fun o e => hk _ o (Nat.ne_of_lt (by omega)) (Nat.ne_of_lt (by omega)) (Nat.ne_of_lt hL) (Nat.ne_of_lt (by omega)) (Nat.ne_of_lt (by omega)) e,
      fun b o e => have := old b o e; hk b o (Nat.ne_of_lt (by omega)) (Nat.ne_of_lt (by omega)) (Nat.ne_of_lt (by omega)) (Nat.ne_of_lt (by omega)) (Nat.ne_of_lt (by omega)) (F'.keep b o e), F'.above⟩,
      fun p hp => ⟨hk _ _ (fun e => hnw' p hp (by simp [e])) (fun e => hnw' p hp (by simp [e])) (fun e => hnw' p hp (by simp [e])) (fun e => hnw' p hp (by simp [e])) (fun e => hnw' p hp (by simp [e])) (N' p hp).1, (N' p hp).2⟩⟩
  by_cases hlt : i < v1.length
  · have g1 : v1.toArray[i]? = some v1[i] := by simp [hlt]
    have g2 : v2.toArray[i]? = some (v2[i]'(by omega)) := by simp
    have g3 : v3.toArray[i]? = some (v3[i]'(by omega)) := by simp
    unfold pyNext
    refine wpAny_bind (wpAny_attempt (wpAny_callSpecial?_slot (name := Str.ofString "__next__") hT PySem.F.slot_zip_next
      (wpAny_call_entry PySem.F.slot_zip_next hT PySem.F.entry_zip_next
        (zip3_item hl st'.z st'.ti hTO st'.i1 st'.i2 st'.i3 st'.a1 st'.a2 st'.a3 g1 g2 g3 fun h₁ a1 a2 a3 a4 a5 a6 a7 a8 => wpAny_pure ?_) (PySem.F.args_zip_next_1 _))))
    dsimp only at a6 a7 a8 ⊢
    refine wpAny_letOwnedTupleGo_zip a1 fun h₂ hz₂ hs₂ => ?_
    have k2 : ∀ c o, c ≠ n + 5 → c ≠ n + 4 → c ≠ n → c ≠ n + 1 → c ≠ n + 2 → h'.get? c = some o → h₂.get? c = some o := fun c o c1 c2 c3 c4 c5 e => hs₂.extBut c o c1 (a8 c o c1 c2 c3 c4 c5 e)
    obtain ⟨F₂, N₂⟩ := keepF h₂ k2
    have hzlt : n + 5 < h'.objs.size := Heap.lt_size st'.z
    have ht : IsTup h₂ h'.objs.size #[v1[i], v2[i]'(by omega), v3[i]'(by omega)] := ⟨_, hs₂.extBut _ _ (Nat.ne_of_gt hzlt) a6, rfl, _, rfl⟩
    refine assign_Tuple_tuple hh ht rfl rfl fun h₃ he => ?_
    have he' : ∀ b o, h₂.get? b = some o → h₃.get? b = some o := fun b o e => he b o (Nat.ne_of_lt (Heap.lt_size e)) e
    have F₃ := F₂.keeps he'
    have N₃ := N₂.grown he'
    refine assignInOrder_cons (wpAny_assign_Name (wpAny_storeName_local hxa F₃.ns (fun h₄ hn₄ hs₄ => ?_) hp))
    refine assignInOrder_cons (wpAny_assign_Name (wpAny_storeName_local hxb hn₄ (fun h₅ hn₅ hs₅ => ?_) hp))
    refine assignInOrder_cons (wpAny_assign_Name (wpAny_storeName_local hxc hn₅ (fun h₆ hn₆ hs₆ => ?_) hp))
    refine assignInOrder_nil ?_
    have F₆ := ((F₃.set hn₄ hs₄).set hn₅ hs₅).set hn₆ hs₆
    have N₆ := ((N₃.set hs₄).set hs₅).set hs₆
    have k6 : ∀ c o, c ≠ env.locals → h₂.get? c = some o → h₆.get? c = some o := fun c o c1 e => hs₆.extBut c o c1 (hs₅.extBut c o c1 (hs₄.extBut c o c1 (he' c o e)))
    have S₂ : Zst n l1 l2 l3 v1 v2 v3 (i + 1) h₂ := ⟨hz₂, hs₂.extBut _ _ (Nat.ne_of_lt (by omega)) (a8 _ _ (Nat.ne_of_lt (by omega)) (Nat.ne_of_lt (by omega)) (Nat.ne_of_gt (by omega)) (Nat.ne_of_gt (by omega)) (Nat.ne_of_gt (by omega)) st'.ti),
      ⟨_, _, _, hs₂.extBut _ _ (Nat.ne_of_lt (by omega)) a2⟩, a3.extBut hs₂.extBut (Nat.ne_of_lt (by omega)), a4.extBut hs₂.extBut (Nat.ne_of_lt (by omega)), a5.extBut hs₂.extBut (Nat.ne_of_lt (by omega)),
      st'.a1.at fun o e => k2 _ o (Nat.ne_of_lt (by omega)) (Nat.ne_of_lt (by omega)) (Nat.ne_of_lt (by omega)) (Nat.ne_of_lt (by omega)) (Nat.ne_of_lt (by omega)) e,
      st'.a2.at fun o e => k2 _ o (Nat.ne_of_lt (by omega)) (Nat.ne_of_lt (by omega)) (Nat.ne_of_lt (by omega)) (Nat.ne_of_lt (by omega)) (Nat.ne_of_lt (by omega)) e,
      st'.a3.at fun o e => k2 _ o (Nat.ne_of_lt (by omega)) (Nat.ne_of_lt (by omega)) (Nat.ne_of_lt (by omega)) (Nat.ne_of_lt (by omega)) (Nat.ne_of_lt (by omega)) e⟩
    have S₆ : Zst n l1 l2 l3 v1 v2 v3 (i + 1) h₆ := S₂.at fun b hb o e => k6 b o (fun q => by
      simp only [List.mem_cons, List.not_mem_nil, or_false] at hb
      obtain ⟨q1, q2, q3⟩ := hLl
      rcases hb with hb | hb | hb | hb | hb | hb | hb | hb | hb
      · exact absurd (hb.symm.trans q) (Nat.ne_of_gt (by omega))
      · exact absurd (hb.symm.trans q) (Nat.ne_of_gt (by omega))
      · exact absurd (hb.symm.trans q) (Nat.ne_of_gt (by omega))
      · exact absurd (hb.symm.trans q) (Nat.ne_of_gt (by omega))
      · exact absurd (hb.symm.trans q) (Nat.ne_of_gt (by omega))
      · exact absurd (hb.symm.trans q) (Nat.ne_of_gt (by omega))
      · exact q1 (q.symm.trans hb)
      · exact q2 (q.symm.trans hb)
      · exact q3 (q.symm.trans hb)) e
    have hLf : env.locals ∉ [n + 5, n + 3, n + 4, n, n + 1, n + 2, l1, l2, l3] := fun hb => by
      simp only [List.mem_cons, List.not_mem_nil, or_false] at hb
      obtain ⟨q1, q2, q3⟩ := hLl
      rcases hb with hb | hb | hb | hb | hb | hb | hb | hb | hb
      · exact absurd hb (Nat.ne_of_lt (by omega))
      · exact absurd hb (Nat.ne_of_lt (by omega))
      · exact absurd hb (Nat.ne_of_lt (by omega))
      · exact absurd hb (Nat.ne_of_lt (by omega))
      · exact absurd hb (Nat.ne_of_lt (by omega))
      · exact absurd hb (Nat.ne_of_lt (by omega))
      · exact q1 hb
      · exact q2 hb
      · exact q3 hb
    have Nown : News h₀ env.locals h₆ (ownOf h₀ [n + 5, n + 3, n + 4, n, n + 1, n + 2, l1, l2, l3] h₆) := news_ownOf hLf
    refine wpAny_passesOwn hE ?_
    refine wpAny_mono (turn i v1[i] (v2[i]'(by omega)) (v3[i]'(by omega)) m' news' h₆ _ (ownOf h₀ [n + 5, n + 3, n + 4, n, n + 1, n + 2, l1, l2, l3] h₆) (by simp [hlt]) (by simp) (by simp) hJ hnw' ownOf_sub F₆ (fun p hp => (List.mem_append.mp hp).elim (N₆ p) (Nown p))) (fun f s₃ h₃ => ?_) fun _ _ e => e
    have fin : ∀ tkx, EndZ h₀ env.locals (J (i + 1)) [n + 5, n + 4, n, n + 1, n + 2] (ownOf h₀ [n + 5, n + 3, n + 4, n, n + 1, n + 2, l1, l2, l3] h₆) { s with heap := h₆, toks := tkx } s₃ → ∃ k', k' < v1.length + 1 - i ∧ ZInv3 s h₀ env.locals n l1 l2 l3 v1 v2 v3 J k' s₃ := by
      rintro tkx ⟨h₇, tk₇, m₇, news₇, all, e, F₇, N₇, hn₇, ho₇, hw₇, hJ₇⟩
      refine ⟨v1.length + 1 - (i + 1), by omega, h₇, tk₇, m₇, news₇, i + 1, e, S₆.at fun b hb o eo => ?_, F₇, fun p hp => N₇ p (hn₇ p hp), hw₇, hJ₇, hlt, rfl⟩
      cases hn : h₀.get? b with
      | some o₀ =>
        have : o₀ = o := by have := F₆.keep b o₀ hn; rw [eo] at this; exact (Option.some.inj this).symm
        exact this ▸ F₇.keep b o₀ hn
      | none => exact (N₇ _ (ho₇ _ (mem_ownOf hb hn eo))).1
    cases f with
    | ret v => exact h₃
    | brk => exact h₃
    | next => exact fin _ h₃
    | cont => exact fin _ h₃
  · have hin : i = v1.length := by omega
    subst hin
    have hend : v1.toArray[v1.length]? = none := by simp
    unfold pyNext
    refine wpAny_bind (wpAny_attempt (wpAny_callSpecial?_slot (name := Str.ofString "__next__") hT PySem.F.slot_zip_next
      (wpAny_call_entry PySem.F.slot_zip_next hT PySem.F.entry_zip_next (zip3_end (l2 := l2) (l3 := l3) hh hl.1 st'.z st'.ti hTO st'.i1 st'.a1 hend fun h₁ e hk he => ?_) (PySem.F.args_zip_next_1 _))))
    obtain ⟨o, ho, hc⟩ := he
    refine wpAny_bind (wpAny_isInstance (T := "StopIteration") (b := true) ⟨o, ho, hc⟩ isSubtype_stop ?_)
    refine wpAny_pure ?_
    obtain ⟨F₁, N₁⟩ := keepF h₁ hk
    exact wpAny_execs_nil (done m' news' h₁ _ hJ F₁ N₁)
end
end Mine
end
section
set_option Elab.async false
set_option maxRecDepth 100000
set_option maxHeartbeats 1000000
namespace Mine
open PySem PySem.W PyProof.Rows PySem.Calls PySem.Spec
section
variable {prog : Program} {w : World} {A : Around} {E : Value → Shared → Prop} {s : Shared}
theorem nextOf_tuple_item {it l : Addr} {i : Nat} {items : Array Value} {x : Value} {Q : Value → Shared → Prop} (hit : s.heap.IsTupleIter it l i) (hl : s.heap.IsTuple l items) (hx : items[i]? = some x)
    (hQ : ∀ h', h'.IsTupleIter it l (i + 1) → Heap.SameBut it s.heap h' → Q x { s with heap := h' }) : wpAny (model prog w) A (Builtin.SmallTypes.nextOf (.ref it)) Q E s := by
  obtain ⟨o, ho, hc, hd⟩ := id hit
  obtain ⟨ol, hol, _, nl, hdl⟩ := hl
  unfold Builtin.SmallTypes.nextOf
  refine wpAny_bind (wpAny_callSpecial?_slot (name := Str.ofString "__next__") hit.typeIs PySem.F.slot_tuple_iterator_next
    (wpAny_call_entry PySem.F.slot_tuple_iterator_next hit.typeIs PySem.F.entry_tuple_iterator_next ?_ (PySem.F.args_tuple_iterator_next_1 _)))
  show wpAny _ _ (field (.ref it) 0 >>= _) _ _ s
  refine wpAny_bind (wpAny_field ho hd (x := .ref l) rfl ?_)
  show wpAny _ _ (if (Value.ref l == Value.none) = true then _ else _) _ _ s
  rw [if_neg (show ¬ ((Value.ref l == Value.none) = true) from Bool.false_ne_true)]
  show wpAny _ _ (field (.ref it) 1 >>= _) _ _ s
  refine wpAny_bind (wpAny_field ho hd (x := .int i 0) rfl ?_)
  show wpAny _ _ (seqItems? (.ref l) >>= _) _ _ s
  refine wpAny_bind (wpAny_seqItems hol hdl ?_)
  simp only [Int.toNat_natCast, hx]
  refine wpAny_bind (wpAny_setField ho hd (by simp) (wpAny_pure ⟨x, rfl, wpAny_pure (hQ _ ?_ (Heap.SameBut.update ..))⟩))
  exact ⟨_, Heap.get?_update_self _ ho (Obj.isFreed_of_fields (Obj.data_mapFields hd _)), (Obj.cls_mapFields ..).trans hc, by
    rw [Obj.data_mapFields hd]; simp [rawInt]⟩
theorem strIter_but {h h' : Heap} {a I : Addr} {x : Str} {t : Tok} {i : Nat} {c : String} (st : h.IsStrIter I c x t i) (hs : Heap.ExtBut a h h') (hne : I ≠ a) : h'.IsStrIter I c x t i := let ⟨o, ho, r⟩ := st; ⟨o, hs I o hne ho, r⟩
theorem tupIter_but {h h' : Heap} {a I l : Addr} {i : Nat} (st : h.IsTupleIter I l i) (hs : Heap.ExtBut a h h') (hne : I ≠ a) : h'.IsTupleIter I l i := let ⟨o, ho, r⟩ := st; ⟨o, hs I o hne ho, r⟩
theorem strIter_at {h h' : Heap} {I : Addr} {x : Str} {t : Tok} {i : Nat} {c : String} (st : h.IsStrIter I c x t i) (hs : ∀ o, h.get? I = some o → h'.get? I = some o) : h'.IsStrIter I c x t i := let ⟨o, ho, r⟩ := st; ⟨o, hs o ho, r⟩
theorem upd2 {T : Addr} {a b x : Value} {k : Nat} {Q : Unit → Shared → Prop} (hT : IsPair s.heap T a b)
    (h : ∀ h', h'.get? T = some { cls := .type "tuple", data := .seq ((#[a, b] : Array Value).setIfInBounds k x) } → Heap.SameBut T s.heap h' → Q () { s with heap := h' }) :
    wpAny (model prog w) A (updateSeq T (·.setIfInBounds k x)) Q E s := wpAny_updateSeq_pair hT h
theorem zip2_item {n l2 : Nat} {k c : Nat} {x : Str} {t : Tok} {ys : Array Value} {y a b : Value} {Q : Value → Shared → Prop} (hl : l2 < n)
    (hz : IsZip s.heap (n + 4) (n + 2) (n + 3) .none) (hTI : IsPair s.heap (n + 2) (.ref n) (.ref (n + 1))) (hTO : IsPair s.heap (n + 3) a b)
    (h1 : s.heap.IsStrIter n "str_ascii_iterator" x t k) (h2 : s.heap.IsTupleIter (n + 1) l2 k) (hl2 : s.heap.IsTuple l2 ys) (hx : x.cps[k]? = some c) (hy : ys[k]? = some y)
    (hQ : ∀ h', IsZip h' (n + 4) (n + 2) (n + 3) (rawInt s.heap.objs.size) → IsPair h' (n + 3) (.str ⟨#[c]⟩ s.toks) y → h'.IsStrIter n "str_ascii_iterator" x t (k + 1) → h'.IsTupleIter (n + 1) l2 (k + 1) → IsPair h' s.heap.objs.size (.str ⟨#[c]⟩ s.toks) y → h'.objs.size = s.heap.objs.size + 1 →
      (∀ c o, c ≠ n + 4 → c ≠ n + 3 → c ≠ n → c ≠ n + 1 → s.heap.get? c = some o → h'.get? c = some o) → Q (.ref s.heap.objs.size) { s with heap := h', toks := s.toks + 1 }) :
    wpAny (model prog w) A (Builtin.«zip.__next__» ⟨[.ref (n + 4)], []⟩) (fun fin s' => ∃ v, fin = .done (.ret v) ∧ Q v s') E s := by
  have ne : ∀ {p q : Nat}, p < q → p ≠ q := fun h => Nat.ne_of_lt h
  have en : ∀ {p q : Nat}, p < q → q ≠ p := fun h => Nat.ne_of_gt h
  show wpAny _ _ (field (.ref (n + 4)) 2 >>= _) _ _ _
  refine wpAny_bind (wpAny_field hz rfl (x := .bool false) rfl ?_)
  show wpAny _ _ (field (.ref (n + 4)) 3 >>= _) _ _ _
  refine wpAny_bind (wpAny_field hz rfl (x := .ref (n + 2)) rfl ?_)
  refine wpAny_bind (wpAny_seqItems hTI rfl ?_)
  show wpAny _ _ (Builtin.SmallTypes.ownedTupleIsFree (.ref (n + 4)) >>= _) _ _ _
  refine wpAny_bind ?_
  unfold Builtin.SmallTypes.ownedTupleIsFree
  refine wpAny_bind (wpAny_field hz rfl (x := .none) rfl (wpAny_pure ?_))
  simp only [if_true]
  refine wpAny_bind (wpAny_rule ?_)
  refine wpAny_bind (wpAny_field hz rfl (x := .ref (n + 3)) rfl ?_)
  refine wpAny_bind (wpAny_setField_rec hz (by simp) fun g₁ hz₁ hs₁ => ?_)
  replace hz₁ : IsZip g₁ (n + 4) (n + 2) (n + 3) .ellipsis := hz₁
  refine wpAny_bind ?_
  simp only [List.zipIdx_cons, List.zipIdx_nil, List.forIn_cons, List.forIn_nil]
  refine wpAny_bind (wpAny_bind (wpAny_onRaise ?_))
  show wpAny _ _ (Builtin.SmallTypes.nextOf (.ref n) >>= _) _ _ _
  refine wpAny_bind (wpAny_nextOf_ascii_item (strIter_but h1 hs₁.extBut (ne (by omega))) hx fun g₂ h1₂ hs₂ => wpAny_pure ?_)
  have hTO₂ : IsPair g₂ (n + 3) a b := hs₂.extBut _ _ (en (by omega)) (hs₁.extBut _ _ (ne (by omega)) hTO)
  refine wpAny_bind (wpAny_seqItems hTO₂ rfl ?_)
  refine wpAny_bind (upd2 hTO₂ fun g₃ hTO₃ hs₃ => ?_)
  replace hTO₃ : IsPair g₃ (n + 3) (.str ⟨#[c]⟩ s.toks) b := hTO₃
  refine wpAny_bind (wpAny_letGo (wpAny_pure ?_))
  refine wpAny_bind (wpAny_bind (wpAny_onRaise ?_))
  show wpAny _ _ (Builtin.SmallTypes.nextOf (.ref (n + 1)) >>= _) _ _ _
  have h2₃ : g₃.IsTupleIter (n + 1) l2 k := tupIter_but (tupIter_but (tupIter_but h2 hs₁.extBut (ne (by omega))) hs₂.extBut (en (by omega))) hs₃.extBut (ne (by omega))
  have hl2₃ : g₃.IsTuple l2 ys := ((hl2.extBut hs₁.extBut (ne (by omega))).extBut hs₂.extBut (ne (by omega))).extBut hs₃.extBut (ne (by omega))
  refine wpAny_bind (nextOf_tuple_item h2₃ hl2₃ hy fun g₄ h2₄ hs₄ => wpAny_pure ?_)
  have hTO₄ : IsPair g₄ (n + 3) (.str ⟨#[c]⟩ s.toks) b := hs₄.extBut _ _ (en (by omega)) hTO₃
  refine wpAny_bind (wpAny_seqItems hTO₄ rfl ?_)
  refine wpAny_bind (upd2 hTO₄ fun g₅ hTO₅ hs₅ => ?_)
  replace hTO₅ : IsPair g₅ (n + 3) (.str ⟨#[c]⟩ s.toks) y := hTO₅
  refine wpAny_bind (wpAny_letGo (wpAny_pure (wpAny_pure ?_)))
  refine wpAny_bind (wpAny_seqItems hTO₅ rfl ?_)
  refine wpAny_bind (wpAny_newTuple ?_)
  have hsz : g₅.objs.size = s.heap.objs.size := by rw [hs₅.1, hs₄.1, hs₃.1, hs₂.1, hs₁.1]
  have hk₅ : ∀ c o, c ≠ n + 4 → c ≠ n + 3 → c ≠ n → c ≠ n + 1 → s.heap.get? c = some o → g₅.get? c = some o := fun c o c1 c2 c3 c4 e =>
    hs₅.extBut _ _ c2 (hs₄.extBut _ _ c4 (hs₃.extBut _ _ c2 (hs₂.extBut _ _ c3 (hs₁.extBut _ _ c1 e))))
  have hz₅ : IsZip g₅ (n + 4) (n + 2) (n + 3) .ellipsis := hs₅.extBut _ _ (en (by omega)) (hs₄.extBut _ _ (en (by omega)) (hs₃.extBut _ _ (en (by omega)) (hs₂.extBut _ _ (en (by omega)) hz₁)))
  have h1₅ : g₅.IsStrIter n "str_ascii_iterator" x t (k + 1) := strIter_but (strIter_but (strIter_but h1₂ hs₃.extBut (ne (by omega))) hs₄.extBut (ne (by omega))) hs₅.extBut (ne (by omega))
  have h2₅ : g₅.IsTupleIter (n + 1) l2 (k + 1) := tupIter_but h2₄ hs₅.extBut (ne (by omega))
  have hzlt : n + 4 < g₅.objs.size := Heap.lt_size hz₅
  show wpAny _ _ (Builtin.SmallTypes.ownedTupleHandOut (.ref (n + 4)) (.ref g₅.objs.size) >>= _) _ _ _
  refine wpAny_bind ?_
  unfold Builtin.SmallTypes.ownedTupleHandOut
  have hz₆ : IsZip (g₅.push { cls := .type "tuple", data := .seq #[.str ⟨#[c]⟩ s.toks, y] }) (n + 4) (n + 2) (n + 3) .ellipsis := Heap.get?_push_of_some _ hz₅
  refine wpAny_bind (wpAny_setField_rec hz₆ (by simp) fun g₇ hz₇ hs₇ => ?_)
  replace hz₇ : IsZip g₇ (n + 4) (n + 2) (n + 3) (rawInt g₅.objs.size) := hz₇
  refine wpAny_setField_rec hz₇ (by simp) fun g₈ hz₈ hs₈ => ?_
  replace hz₈ : IsZip g₈ (n + 4) (n + 2) (n + 3) (rawInt g₅.objs.size) := hz₈
  have up : ∀ c o, c ≠ n + 4 → g₅.get? c = some o → g₈.get? c = some o := fun c o c1 e => hs₈.extBut _ _ c1 (hs₇.extBut _ _ c1 (Heap.get?_push_of_some _ e))
  have hT₈ : IsPair g₈ g₅.objs.size (.str ⟨#[c]⟩ s.toks) y := hs₈.extBut _ _ (Nat.ne_of_gt hzlt) (hs₇.extBut _ _ (Nat.ne_of_gt hzlt) (Heap.get?_push_size _ rfl))
  have hz8 : g₈.objs.size = g₅.objs.size + 1 := by rw [hs₈.1, hs₇.1, Heap.size_push]
  rw [hsz] at hz₈ hT₈ hz8
  refine wpAny_pure ⟨_, rfl, ?_⟩
  show Q (.ref g₅.objs.size) _
  rw [hsz]
  exact hQ g₈ hz₈ (up _ _ (ne (by omega)) hTO₅) (strIter_at h1₅ fun o e => up _ o (ne (by omega)) e) (h2₅.at fun o e => up _ o (ne (by omega)) e) hT₈ hz8 fun c o c1 c2 c3 c4 e => up c o c1 (hk₅ c o c1 c2 c3 c4 e)
theorem zip2_end {n : Nat} {k : Nat} {x : Str} {t : Tok} {Q : Fin → Shared → Prop} (hh : A.handled = none)
    (hz : IsZip s.heap (n + 4) (n + 2) (n + 3) .none) (hTI : IsPair s.heap (n + 2) (.ref n) (.ref (n + 1))) (h1 : s.heap.IsStrIter n "str_ascii_iterator" x t k) (hx : x.cps[k]? = none)
    (hE : ∀ h' e, (∀ c o, c ≠ n + 4 → c ≠ n + 3 → c ≠ n → c ≠ n + 1 → s.heap.get? c = some o → h'.get? c = some o) → (∃ o, h'.get? e = some o ∧ o.cls = .type "StopIteration") → E (.ref e) { s with heap := h' }) :
    wpAny (model prog w) A (Builtin.«zip.__next__» ⟨[.ref (n + 4)], []⟩) Q E s := by
  show wpAny _ _ (field (.ref (n + 4)) 2 >>= _) _ _ _
  refine wpAny_bind (wpAny_field hz rfl (x := .bool false) rfl ?_)
  show wpAny _ _ (field (.ref (n + 4)) 3 >>= _) _ _ _
  refine wpAny_bind (wpAny_field hz rfl (x := .ref (n + 2)) rfl ?_)
  refine wpAny_bind (wpAny_seqItems hTI rfl ?_)
  show wpAny _ _ (Builtin.SmallTypes.ownedTupleIsFree (.ref (n + 4)) >>= _) _ _ _
  refine wpAny_bind ?_
  unfold Builtin.SmallTypes.ownedTupleIsFree
  refine wpAny_bind (wpAny_field hz rfl (x := .none) rfl (wpAny_pure ?_))
  simp only [if_true]
  refine wpAny_bind (wpAny_rule ?_)
  refine wpAny_bind (wpAny_field hz rfl (x := .ref (n + 3)) rfl ?_)
  refine wpAny_bind (wpAny_setField_rec hz (by simp) fun g₁ hz₁ hs₁ => ?_)
  replace hz₁ : IsZip g₁ (n + 4) (n + 2) (n + 3) .ellipsis := hz₁
  refine wpAny_bind ?_
  simp only [List.zipIdx_cons, List.zipIdx_nil, List.forIn_cons, List.forIn_nil]
  refine wpAny_bind (wpAny_bind (wpAny_onRaise ?_))
  show wpAny _ _ (Builtin.SmallTypes.nextOf (.ref n) >>= _) _ _ _
  refine wpAny_bind (wpAny_nextOf_ascii_end hh (strIter_but h1 hs₁.extBut (Nat.ne_of_lt (by omega))) hx fun g₂ e hs₂ he => ?_)
  obtain ⟨oe, hoe, hce⟩ := he
  have hz₂ : IsZip g₂ (n + 4) (n + 2) (n + 3) .ellipsis := hs₂ _ _ (Nat.ne_of_gt (by omega)) hz₁
  have hez : e ≠ n + 4 := fun x => by subst x; rw [hz₂] at hoe; cases hoe; simp at hce
  refine wpAny_setField_rec hz₂ (by simp) fun g₃ _ hs₃ => hE g₃ e (fun c o c1 _ c3 _ x => hs₃.extBut _ _ c1 (hs₂ _ _ c3 (hs₁.extBut _ _ c1 x))) ⟨oe, hs₃.extBut _ _ hez hoe, hce⟩
end
end Mine
end
section
set_option Elab.async false
set_option maxRecDepth 100000
set_option maxHeartbeats 4000000
namespace Mine
open PySem PySem.W PyProof.Rows PySem.Calls PySem.Spec PyProof.Rows.LCg
/-- the state of a zip of a text and a tuple -/
structure Zs2 (n l2 : Nat) (x : Str) (t : Tok) (vs : List Value) (i : Nat) (h : Heap) : Prop where
  z : IsZip h (n + 4) (n + 2) (n + 3) .none
  ti : IsPair h (n + 2) (.ref n) (.ref (n + 1))
  to : ∃ a b, IsPair h (n + 3) a b
  i1 : h.IsStrIter n "str_ascii_iterator" x t i
  i2 : h.IsTupleIter (n + 1) l2 i
  a2 : h.IsTuple l2 vs.toArray
theorem Zs2.at {n l2 : Nat} {x : Str} {t : Tok} {vs : List Value} {i : Nat} {h h' : Heap} (S : Zs2 n l2 x t vs i h) (k : ∀ b ∈ [n + 4, n + 2, n + 3, n, n + 1, l2], ∀ o, h.get? b = some o → h'.get? b = some o) : Zs2 n l2 x t vs i h' :=
  ⟨k _ (by simp) _ S.z, k _ (by simp) _ S.ti, let ⟨a, b, e⟩ := S.to; ⟨a, b, k _ (by simp) _ e⟩, strIter_at S.i1 fun o e => k _ (by simp) o e, S.i2.at fun o e => k _ (by simp) o e, S.a2.at fun o e => k _ (by simp) o e⟩
noncomputable abbrev sIt (h : Heap) (x : Str) (t : Tok) : Heap := h.push { cls := .type "str_ascii_iterator", data := .fields #[.str x t, .int 0 0] }
noncomputable abbrev tIt (h : Heap) (l : Addr) : Heap := h.push { cls := .type "tuple_iterator", data := .fields #[.ref l, .int 0 0] }
noncomputable abbrev y2a (h : Heap) (x : Str) (t : Tok) (l : Addr) : Heap := tIt (sIt h x t) l
noncomputable abbrev y2b (h : Heap) (x : Str) (t : Tok) (l : Addr) : Heap := (y2a h x t l).push { cls := .type "tuple", data := .seq #[.ref h.objs.size, .ref (sIt h x t).objs.size] }
noncomputable abbrev y2c (h : Heap) (x : Str) (t : Tok) (l : Addr) : Heap := (y2b h x t l).push { cls := .type "tuple", data := .seq #[.none, .none] }
noncomputable abbrev y2d (h : Heap) (x : Str) (t : Tok) (l : Addr) : Heap := (y2c h x t l).push { cls := .type "zip", data := .fields #[.none, .bool false, .bool false, .ref (y2a h x t l).objs.size, .ref (y2b h x t l).objs.size] }
theorem meets_zip2 (x : Str) (t : Tok) (l : Addr) (vs : Array Value) (ha : x.cps.all (· < 128) = true) :
    Meets (Builtin.«zip.__new__» ⟨[.type "zip", .str x t, .ref l], []⟩) (fun _ R s => s.heap.IsTuple l vs ∧ R (.ok (.ret (.ref (y2c s.heap x t l).objs.size))) { s with heap := y2d s.heap x t l }) :=
  .of_wp fun prog w A R s h => by
    obtain ⟨hp, g, d, tk, os⟩ := s; obtain ⟨hl, h⟩ := h
    have hsub := sub_zip
    have hL2 : Heap.IsTuple (Shared.heap ⟨sIt hp x t, g, d, tk, os⟩) l vs := Heap.IsTuple.push hl _
    wp_walk using wpAny_pyIter_ascii ha, wpAny_pyIter_tuple hL2
    exact ⟨_, rfl, h⟩
section
variable {prog : Program} {w : World} {A : Around} {E : Value → Shared → Prop} {s : Shared} {env : Env} {h₀ : Heap}
theorem call_zip2 {x : Str} {t : Tok} {l : Addr} {vs : List Value} {Q : Value → Shared → Prop} (ha : x.cps.all (· < 128) = true) (hl : s.heap.IsTuple l vs.toArray)
    (h : ∀ h', Zs2 s.heap.objs.size l x t vs 0 h' → (∀ c o, s.heap.get? c = some o → h'.get? c = some o) → h'.objs.size = s.heap.objs.size + 5 → Q (.ref (s.heap.objs.size + 4)) { s with heap := h' }) :
    wpAny (model prog w) A (call (.type "zip") [.str x t, .ref l]) Q E s := by
  refine callType_new PySem.F.called_zip (by decide) (PySem.F.typeCall_zip_2 _ _) (PySem.F.newCall_zip_2 _ _) (fun obj => PySem.F.args_object_init_3 obj _ _) PySem.F.entry_zip_new (meets_zip2 x t l vs.toArray ha) ⟨hl, ?_⟩
  have e1 : (sIt s.heap x t).objs.size = s.heap.objs.size + 1 := Heap.size_push ..
  have e2 : (y2a s.heap x t l).objs.size = s.heap.objs.size + 2 := by rw [Heap.size_push, e1]
  have e3 : (y2b s.heap x t l).objs.size = s.heap.objs.size + 3 := by rw [Heap.size_push, e2]
  have e4 : (y2c s.heap x t l).objs.size = s.heap.objs.size + 4 := by rw [Heap.size_push, e3]
  have e5 : (y2d s.heap x t l).objs.size = s.heap.objs.size + 5 := by rw [Heap.size_push, e4]
  have up3' : ∀ {c o}, (y2c s.heap x t l).get? c = some o → (y2d s.heap x t l).get? c = some o := fun e => Heap.get?_push_of_some _ e
  have up2' : ∀ {c o}, (y2b s.heap x t l).get? c = some o → (y2d s.heap x t l).get? c = some o := fun e => up3' (Heap.get?_push_of_some _ e)
  have upb : ∀ {c o}, (y2a s.heap x t l).get? c = some o → (y2d s.heap x t l).get? c = some o := fun e => up2' (Heap.get?_push_of_some _ e)
  have upa : ∀ {c o}, (sIt s.heap x t).get? c = some o → (y2d s.heap x t l).get? c = some o := fun e => upb (Heap.get?_push_of_some _ e)
  have up0 : ∀ {c o}, s.heap.get? c = some o → (y2d s.heap x t l).get? c = some o := fun e => upa (Heap.get?_push_of_some _ e)
  have g4 : (y2d s.heap x t l).get? (y2c s.heap x t l).objs.size = some _ := Heap.get?_push_size _ rfl
  have g3 : (y2d s.heap x t l).get? (y2b s.heap x t l).objs.size = some _ := up3' (Heap.get?_push_size _ rfl)
  have g2 : (y2d s.heap x t l).get? (y2a s.heap x t l).objs.size = some _ := up2' (Heap.get?_push_size _ rfl)
  have g1 : (y2d s.heap x t l).get? (sIt s.heap x t).objs.size = some _ := upb (Heap.get?_push_size _ rfl)
  have g0 : (y2d s.heap x t l).get? s.heap.objs.size = some _ := upa (Heap.get?_push_size _ rfl)
  show _ ∧ _
  rw [e2, e3, e4] at g4
  rw [e3] at g3
  rw [e2, e1] at g2
  rw [e1] at g1
  rw [e4]
  exact ⟨⟨_, g4, rfl⟩, h _ ⟨g4, g2, ⟨_, _, g3⟩, ⟨_, g0, rfl, rfl⟩, ⟨_, g1, rfl, rfl⟩, hl.at fun o e => up0 e⟩ (fun c o e => up0 e) e5⟩
end
/-- the sign at a place -/
noncomputable def sgnAt (x : Str) (i : Nat) : Str := ⟨#[x.cps.getD i 0]⟩
/-- the signs of the places that a test takes -/
noncomputable def sgnsOf (x : Str) (p : Nat → Bool) (i : Nat) : List Str := ((List.range i).filter p).map (sgnAt x)
theorem sgnsOf_succ {x : Str} {p : Nat → Bool} {i : Nat} : sgnsOf x p (i + 1) = sgnsOf x p i ++ (if p i = true then [sgnAt x i] else []) := by
  unfold sgnsOf
  rw [List.range_succ, List.filter_append, List.map_append]
  cases h : p i <;> simp [h]
section
variable {prog : Program} {w : World} {A : Around} {E : Value → Shared → Prop} {s : Shared} {h₀ : Heap} {L : Addr} {m : Str → Option Value} {env : Env}
/-- what the source of a filtered block over a zip of a text and a tuple is to give -/
inductive ZSrc (prog : Program) (w : World) (A : Around) (h₀ : Heap) (L : Addr) (m : Str → Option Value) (env : Env) (c : PySem.Expr) (b : Str) (scope : Scope) (cl : List (Str × Addr)) (x : Str) (vs : List Value) (p : Nat → Bool) (Q : Value → Shared → Prop) (xv : Value) (s₁ : Shared) : Prop
  | mk (n l2 : Nat) (t : Tok) (news : List (Addr × Obj)) (hx : xv = .ref (n + 4)) (hh : A.handled = none) (hl2 : l2 < n) (hnz : n + 4 < s₁.heap.objs.size) (st : Zs2 n l2 x t vs 0 s₁.heap) (F : Fr h₀ L s₁.heap m) (N : News h₀ L s₁.heap news) (hLn : @LT.lt Nat _ L n) (h0n : h₀.objs.size ≤ n) (hnn : ∀ q ∈ news, @LT.lt Nat _ q.1 n)
      (htest : ∀ (i : Nat) (vb : Value) (C : Addr) (g : Heap) (tk : Nat) (m₂ : Str → Option Value) (E' : Value → Shared → Prop), vs[i]? = some vb → g.Ns C m₂ → m₂ b = some vb → Fr h₀ L g m → News h₀ L g news →
        wpAny (model prog w) A (isTrue c (compEnvC scope cl C env) (eval c (compEnvC scope cl C env))) (fun ok s₃ => ok = p i ∧ ∃ tk', s₃ = { s₁ with heap := g, toks := tk' }) E' { s₁ with heap := g, toks := tk })
      (hfin : ∀ D h' tk (ys : List (Str × Tok)), ys.map (·.1) = sgnsOf x p x.cps.size → Fr h₀ L h' m → News h₀ L h' ((D, listOf (strValues ys).toArray ys.length) :: news) → (∀ q ∈ news, q.1 < D) → Q (.ref D) { s₁ with heap := h', toks := tk }) : ZSrc prog w A h₀ L m env c b scope cl x vs p Q xv s₁
inductive ZInv (s₁ : Shared) (n l2 : Nat) (x : Str) (t : Tok) (vs : List Value) (h₀ : Heap) (L : Addr) (m : Str → Option Value) (news : List (Addr × Obj)) (D C : Addr) (p : Nat → Bool) (k : Nat) (s' : Shared) : Prop
  | mk (h' : Heap) (tk : Nat) (i : Nat) (m' : Str → Option Value) (ys : List (Str × Tok)) (hs : s' = { s₁ with heap := h', toks := tk }) (hi : i ≤ x.cps.size) (hk : k = x.cps.size + 1 - i) (st' : Zs2 n l2 x t vs i h') (F' : Fr h₀ L h' m) (N' : News h₀ L h' news) (hn' : h'.Ns C m') (hD' : h'.get? D = some (lst (strValues ys))) (hys : ys.map (·.1) = sgnsOf x p i) : ZInv s₁ n l2 x t vs h₀ L m news D C p k s'
theorem comp_zip2 {iter c : PySem.Expr} {a b : Str} {pe pa pb tp : Pos} {kk : Nat} {scope : Scope} {cl : List (Str × Addr)} {pos : Pos} {x : Str} {vs : List Value} {p : Nat → Bool} {Q : Value → Shared → Prop} (_F₀ : Fr h₀ L s.heap m)
    (hclos : closureFor scope env = pure cl) (hcell : ∀ y ∈ scope.names, y.2 ≠ .cell) (hkind : scope.kind = .function)
    (hnames : ∀ y ∈ scope.names, y.2 = .local → scope.names.lookup y.1 = some .local) (hxa : scope.names.lookup a = some .local) (hxb : scope.names.lookup b = some .local) (hab : ¬ a = b) (hdb : (a == ("__debug__" : Str)) = false) (hlen : vs.length = x.cps.size) (hsz : x.cps.size ≤ sizeLine)
    (h : wpAny (model prog w) A (eval iter env) (fun xv s₁ => ZSrc prog w A h₀ L m env c b scope cl x vs p Q xv s₁) E s)
    (hs : ∀ x, foldedSetIterable iter env x = pure x := by intro _; rfl) :
    wpAny (model prog w) A (eval (.ListComp (.Name a pe) [⟨.Tuple [.Name a pa, .Name b pb] kk tp, iter, [c], 0⟩] scope pos) env) Q E s := by
  rw [eval_ListComp]
  refine wpAny_comprehension_free (use := none) rfl hs hclos hkind hnames (wpAny_mono h (fun xv s₁ h₁ => ?_) fun _ _ e => e)
  obtain ⟨n, l2, t, news, rfl, hh, hl2, hnz, st, F, N, hLn, h0n, hnn, htest, hfin⟩ := h₁
  have old : ∀ b o, h₀.get? b = some o → @LT.lt Nat _ b n := fun b o e => Nat.lt_of_lt_of_le (Heap.lt_size e) h0n
  refine wpAny_pyIter_zip st.z ?_
  refine wpAny_newObj_type (wpAny_newFunctionEnv hcell (by intro y hy; simp at hy) (fun g₁ hns₁ hsb₁ => ?_) hkind)
  dsimp only at hns₁ hsb₁ ⊢
  generalize hD : s₁.heap.objs.size = D at *
  generalize hH2 : s₁.heap.push { cls := .type "list", dict := none, data := .seq ([] : List Value).toArray } = H2 at hns₁ hsb₁ ⊢
  have hC : H2.objs.size = D + 1 := by rw [← hH2, Heap.size_push, hD]
  generalize hCC : H2.objs.size = C at *
  have hDC : @Ne Nat D C := by omega
  have up : ∀ b o, s₁.heap.get? b = some o → g₁.get? b = some o := fun b o e => hsb₁.extBut b o (by have h1 : @LT.lt Nat _ b D := hD ▸ Heap.lt_size e; exact Nat.ne_of_lt (by omega)) (Heap.get?_push_of_some _ (hH2 ▸ Heap.get?_push_of_some _ e))
  have hacc : g₁.get? D = some (lst []) := hsb₁.extBut _ _ hDC (Heap.get?_push_of_some _ (by rw [← hH2, ← hD]; exact Heap.get?_push_size _ rfl))
  have hL₀ : @LT.lt Nat _ L D := by omega
  have hD₀ : h₀.get? D = none := Heap.get?_none_of_le (by omega)
  have hC₀ : h₀.get? C = none := Heap.get?_none_of_le (by omega)
  have loop : ∀ s₃ : Shared, s₃ = { s₁ with heap := g₁, toks := s₁.toks + ([] : List (Str × Value)).length } →
      codeAny (model prog w) A (.compLoop (.ListComp (.Name a pe) [⟨.Tuple [.Name a pa, .Name b pb] kk tp, iter, [c], 0⟩] scope pos) 0 (.ref (n + 4)) (.ref D) (compEnvC scope cl C env))
        (compPost (model prog w) A E none Q (.ref D) C) s₃ := by
    rintro s₃ rfl
    refine kct_loop
      (ZInv s₁ n l2 x t vs h₀ L m news D C p) ?_ (x.cps.size + 1)
      ⟨g₁, _, 0, _, [], rfl, Nat.zero_le _, rfl, st.at fun b _ o e => up b o e, F.keeps up, N.grown up, hns₁, hacc, rfl⟩
    rintro k s' ⟨h', tk, i, m', ys, rfl, hi, rfl, st', F', N', hn', hD', hys⟩
    have hT : (⟨h', s₁.gens, s₁.drawn, tk, s₁.os⟩ : Shared).TypeIs (.ref (n + 4)) "zip" := ⟨_, st'.z, rfl⟩
    obtain ⟨ta, tb, hTO⟩ := st'.to
    by_cases hlt : i < x.cps.size
    · have q1 : x.cps[i]? = some x.cps[i] := by simp [hlt]
      have hlt2 : i < vs.length := by omega
      have q2 : vs.toArray[i]? = some vs[i] := by simp [hlt2]
      unfold pyNext
      refine wpAny_bind (wpAny_attempt (wpAny_callSpecial?_slot (name := Str.ofString "__next__") hT PySem.F.slot_zip_next
        (wpAny_call_entry PySem.F.slot_zip_next hT PySem.F.entry_zip_next
          (zip2_item hl2 st'.z st'.ti hTO st'.i1 st'.i2 st'.a2 q1 q2 fun g₂ a1 a2 a3 a4 a5 a6 a7 => wpAny_pure ?_) (PySem.F.args_zip_next_1 _))))
      dsimp only at a2 a5 a6 a7 ⊢
      refine wpAny_letOwnedTupleGo_zip a1 fun g₃ hz₃ hs₃ => ?_
      have hzlt : n + 4 < h'.objs.size := Heap.lt_size st'.z
      have ht : IsTup g₃ h'.objs.size #[.str ⟨#[x.cps[i]]⟩ tk, vs[i]] := ⟨_, hs₃.extBut _ _ (Nat.ne_of_gt hzlt) a5, rfl, _, rfl⟩
      have k3 : ∀ c o, c ≠ n + 4 → c ≠ n + 3 → c ≠ n → c ≠ n + 1 → h'.get? c = some o → g₃.get? c = some o := fun c o c1 c2 c3 c4 e => hs₃.extBut c o c1 (a7 c o c1 c2 c3 c4 e)
      refine assign_Tuple_tuple hh ht rfl rfl fun g₄ he => ?_
      have he' : ∀ b o, g₃.get? b = some o → g₄.get? b = some o := fun b o e => he b o (Nat.ne_of_lt (Heap.lt_size e)) e
      have hC4 : @LT.lt Nat _ (n + 4) C := by omega
      have hn₄ : g₄.Ns C m' := (hn'.at' fun o e => k3 C o (Nat.ne_of_gt (by omega)) (Nat.ne_of_gt (by omega)) (Nat.ne_of_gt (by omega)) (Nat.ne_of_gt (by omega)) e).at' fun o e => he' _ o e
      refine assignInOrder_cons (wpAny_assign_Name (wpAny_storeName_local (lookup_relabel_local hxa) hn₄ (fun g₅ hn₅ hs₅ => ?_) (by simp [compEnvC, relabel, hkind])))
      refine assignInOrder_cons (wpAny_assign_Name (wpAny_storeName_local (lookup_relabel_local hxb) hn₅ (fun g₆ hn₆ hs₆ => ?_) (by simp [compEnvC, relabel, hkind])))
      refine assignInOrder_nil ?_
      have k6 : ∀ c o, c ≠ C → g₃.get? c = some o → g₆.get? c = some o := fun c o c1 e => hs₆.extBut c o c1 (hs₅.extBut c o c1 (he' c o e))
      have k6' : ∀ c o, c ≠ C → c ≠ n + 4 → c ≠ n + 3 → c ≠ n → c ≠ n + 1 → h'.get? c = some o → g₆.get? c = some o := fun c o c0 c1 c2 c3 c4 e => k6 c o c0 (k3 c o c1 c2 c3 c4 e)
      have F₆ : Fr h₀ L g₆ m := ⟨F'.ns.at' fun o e => k6' L o (Nat.ne_of_lt (by omega)) (Nat.ne_of_lt (by omega)) (Nat.ne_of_lt (by omega)) (Nat.ne_of_lt hLn) (Nat.ne_of_lt (by omega)) e,
        fun b o e => (have q := old b o e; k6' b o (Nat.ne_of_lt (by omega)) (Nat.ne_of_lt (by omega)) (Nat.ne_of_lt (by omega)) (Nat.ne_of_lt q) (Nat.ne_of_lt (by omega)) (F'.keep b o e)), F'.above⟩
      have N₆ : News h₀ L g₆ news := fun q hq => ⟨(have r := hnn q hq; k6' _ _ (Nat.ne_of_lt (by omega)) (Nat.ne_of_lt (by omega)) (Nat.ne_of_lt (by omega)) (Nat.ne_of_lt r) (Nat.ne_of_lt (by omega)) (N' q hq).1), (N' q hq).2⟩
      have S₃ : Zs2 n l2 x t vs (i + 1) g₃ := ⟨hz₃, hs₃.extBut _ _ (Nat.ne_of_lt (by omega)) (a7 _ _ (Nat.ne_of_lt (by omega)) (Nat.ne_of_lt (by omega)) (Nat.ne_of_gt (by omega)) (Nat.ne_of_gt (by omega)) st'.ti), ⟨_, _, hs₃.extBut _ _ (Nat.ne_of_lt (by omega)) a2⟩,
        strIter_but a3 hs₃.extBut (Nat.ne_of_lt (by omega)), tupIter_but a4 hs₃.extBut (Nat.ne_of_lt (by omega)), st'.a2.at fun o e => k3 _ o (Nat.ne_of_lt (by omega)) (Nat.ne_of_lt (by omega)) (Nat.ne_of_lt (by omega)) (Nat.ne_of_lt (by omega)) e⟩
      have S₆ : Zs2 n l2 x t vs (i + 1) g₆ := S₃.at fun b hb o e => k6 b o (fun q => by
        simp only [List.mem_cons, List.not_mem_nil, or_false] at hb
        rcases hb with hb | hb | hb | hb | hb | hb <;> exact absurd (hb.symm.trans q) (Nat.ne_of_lt (by omega))) e
      have D₆ : g₆.get? D = some (lst (strValues ys)) := k6' D _ hDC (Nat.ne_of_gt (by omega)) (Nat.ne_of_gt (by omega)) (Nat.ne_of_gt (by omega)) (Nat.ne_of_gt (by omega)) hD'
      refine wpAny_mono (htest i vs[i] C g₆ _ _ _ (by simp [hlt2]) hn₆ (by simp) F₆ N₆) (fun ok s₅ h₅ => ?_) fun _ _ e => e
      obtain ⟨rfl, tk₅, rfl⟩ := h₅
      cases hp : p i with
      | false =>
        simp only [Bool.false_eq_true, if_false]
        exact ⟨x.cps.size + 1 - (i + 1), by omega, g₆, tk₅, i + 1, _, ys, rfl, hlt, rfl, S₆, F₆, N₆, hn₆, D₆, by rw [sgnsOf_succ, hp, hys]; simp⟩
      | true =>
        simp only [if_true]
        refine wpAny_Name (wpAny_loadName_local (by simp [compEnvC, relabel, hkind]) (lookup_relabel_local hxa) hn₆ (by simp only [if_neg hab, if_true]; rfl) ?_) hdb
        refine append_at (hsz := by
          have e1 := congrArg List.length hys
          rw [List.length_map] at e1
          have e2 : (sgnsOf x p i).length ≤ i := by unfold sgnsOf; rw [List.length_map]; exact Nat.le_trans (List.length_filter_le ..) (by simp)
          show (strValues ys).toArray.size ≤ sizeLine
          simp only [strValues, List.size_toArray, List.length_map]; omega) D₆ fun g₇ hs₇ hD₇ => ?_
        refine ⟨x.cps.size + 1 - (i + 1), by omega, g₇, tk₅, i + 1, _, ys ++ [(⟨#[x.cps[i]]⟩, tk)], rfl, hlt, rfl, S₆.at fun b hb o e => hs₇.extBut b o (fun q => by
          simp only [List.mem_cons, List.not_mem_nil, or_false] at hb
          rcases hb with hb | hb | hb | hb | hb | hb <;> exact absurd (hb.symm.trans q) (Nat.ne_of_lt (by omega))) e,
          F₆.change hs₇ (Nat.ne_of_gt hL₀) hD₀, fun q hq => ⟨hs₇.extBut _ _ (have r := hnn q hq; Nat.ne_of_lt (by omega)) (N₆ q hq).1, (N₆ q hq).2⟩, hn₆.sameBut hs₇ (Ne.symm hDC), ?_, ?_⟩
        · rw [hD₇]
          have e1 : (strValues ys).length = ys.length := by simp [strValues]
          have e2 : strValues (ys ++ [(⟨#[x.cps[i]]⟩, tk)]) = strValues ys ++ [.str ⟨#[x.cps[i]]⟩ tk] := by simp [strValues]
          rw [e2]
          exact congrArg some (lst_snoc _ _)
        · rw [List.map_append, hys, sgnsOf_succ, hp]
          simp [sgnAt, hlt]
    · have hin : i = x.cps.size := by omega
      subst hin
      unfold pyNext
      refine wpAny_bind (wpAny_attempt (wpAny_callSpecial?_slot (name := Str.ofString "__next__") hT PySem.F.slot_zip_next
        (wpAny_call_entry PySem.F.slot_zip_next hT PySem.F.entry_zip_next (zip2_end hh st'.z st'.ti st'.i1 (by simp) fun g₂ e hk he => ?_) (PySem.F.args_zip_next_1 _))))
      obtain ⟨o, ho, hc⟩ := he
      refine wpAny_bind (wpAny_isInstance (T := "StopIteration") (b := true) ⟨o, ho, hc⟩ isSubtype_stop ?_)
      refine wpAny_pure ?_
      have hC4 : @LT.lt Nat _ (n + 4) C := by omega
      refine ⟨m', hn'.at' fun o e => hk C o (Nat.ne_of_gt (by omega)) (Nat.ne_of_gt (by omega)) (Nat.ne_of_gt (by omega)) (Nat.ne_of_gt (by omega)) e, fun g₃ hs₃ => ?_⟩
      have k3 : ∀ c o, c ≠ C → c ≠ n + 4 → c ≠ n + 3 → c ≠ n → c ≠ n + 1 → h'.get? c = some o → g₃.get? c = some o := fun c o c0 c1 c2 c3 c4 e => hs₃.extBut c o c0 (hk c o c1 c2 c3 c4 e)
      refine hfin D g₃ _ ys hys ⟨F'.ns.at' fun o e => k3 L o (Nat.ne_of_lt (by omega)) (Nat.ne_of_lt (by omega)) (Nat.ne_of_lt (by omega)) (Nat.ne_of_lt hLn) (Nat.ne_of_lt (by omega)) e,
        fun b o e => (have q := old b o e; k3 b o (Nat.ne_of_lt (by omega)) (Nat.ne_of_lt (by omega)) (Nat.ne_of_lt (by omega)) (Nat.ne_of_lt q) (Nat.ne_of_lt (by omega)) (F'.keep b o e)), F'.above⟩ (fun q hq => ?_) fun q hq => (have r := hnn q hq; show @LT.lt Nat _ q.1 D from by omega)
      rcases List.mem_cons.mp hq with rfl | hq
      · refine ⟨?_, Nat.ne_of_gt hL₀, hD₀⟩
        have := k3 D _ hDC (Nat.ne_of_gt (by omega)) (Nat.ne_of_gt (by omega)) (Nat.ne_of_gt (by omega)) (Nat.ne_of_gt (by omega)) hD'
        rw [this]
        have e1 : (strValues ys).length = ys.length := by simp [strValues]
        show some (lst (strValues ys)) = some (listOf (strValues ys).toArray ys.length)
        rw [← e1]
      · exact ⟨(have r := hnn q hq; k3 _ _ (Nat.ne_of_lt (by omega)) (Nat.ne_of_lt (by omega)) (Nat.ne_of_lt (by omega)) (Nat.ne_of_lt r) (Nat.ne_of_lt (by omega)) (N' q hq).1), (N' q hq).2⟩
  exact codeAny_compStart_list (loop _ rfl) (wpAny_pyIter_zip (st.at fun b _ o e => up b o e).z (loop _ rfl))
end
end Mine
end
section
open PySem PySem.W PyProof.Rows PySem.Calls PySem.Spec PySem.Builtin.Str
set_option Elab.async false
set_option maxRecDepth 100000
set_option maxHeartbeats 2000000
set_option pp.deepTerms false
set_option pp.maxSteps 3000
namespace Mine
noncomputable def gtF (x y : UInt64) : Bool := Float64.cmp x y == some .gt
noncomputable def litS (r g b l : UInt64) : Str := Txt.join (Str.ofString "") (sgnsOf (Str.ofString "stm") (fun i => gtF ([r, g, b].getD i 0) l) 3)
theorem fin_s {g h' : Heap} {L' : Addr} {m' : Str → Option Value} {led news' : List (Addr × Obj)} {x b : Str} {t : Tok} {s : Shared} {tk : Nat} (F : Fr g L' h' m') (N : News g L' h' news') (e : x = b) (hs : ∀ p ∈ led, p ∈ news') :
    FinL g led (isS b) s (.str x t) { s with heap := h', toks := tk } := ⟨[], h', tk, L', rfl, ⟨t, by rw [e], rfl⟩, fun p hp => N p (hs p hp), (fun _ h => nomatch h), F.keep⟩
theorem joinOk_stm (p : Nat → Bool) : JoinOk (Str.ofString "") (sgnsOf (Str.ofString "stm") p 3) = true := by
  unfold sgnsOf
  rw [show List.range 3 = [0, 1, 2] from rfl]
  simp only [List.filter]
  cases p 0 <;> cases p 1 <;> cases p 2 <;> decide +kernel
theorem litS_len (r g b l : UInt64) : (litS r g b l).length ≤ 10 := by
  unfold litS sgnsOf
  rw [show List.range 3 = [0, 1, 2] from rfl]
  simp only [List.filter]
  cases gtF ([r, g, b].getD 0 0) l <;> cases gtF ([r, g, b].getD 1 0) l <;> cases gtF ([r, g, b].getD 2 0) l <;> decide +kernel
noncomputable def letOk (r g b l : UInt64) (c : Nat) (res : Str) : Bool :=
  let p := (b3At c).getD (Txt.lower ⟨#[c]⟩)
  if b1B c then (p == ⟨#[c]⟩) && (Str.ofString "" == litS r g b l) && (res == Str.ofString "") else (p == litS r g b l) && (res == p)
local macro_rules | `(tactic| walk_at "call ref") => `(tactic| (k_here; refine stopHere ?_))
local macro_rules | `(tactic| walk_at "eval ListComp") => `(tactic| (k_here; refine stopHere ?_))
local macro_rules | `(tactic| walk_at "call type:zip") => `(tactic| (k_here; refine stopHere ?_))
local macro_rules | `(tactic| walk_at "call builtin:str.join") => `(tactic| (k_here; (with_reducible show wpAny _ _ (call (Value.builtin "str.join") _) _ _ _); refine stopHere ?_))
theorem c_let : ∀ (w : World) (mean : ExcName → Option Value) (mg mb : Str → Option Value) (r g b x y z : UInt64) (c : Nat) (res : Str) (D : Addr) (ta tb tc tn : Tok),
   ConL w mean mg mb 125 4 [(D, tup3f r g b ta tb tc)] (c < 1114112 ∧ rgbF r g b = some (x, y, z) ∧ letOk r g b y c res = true) [.ref D, .str ⟨#[c]⟩ tn] (isS res) := by
  unfold ConL
  k_fill
  intro w mean mg mb r g b x y z c res D ta tb tc tn
  intros
  rename_i hpre _ _ hret
  obtain ⟨hc, hr, hok⟩ := hpre
  refine wpAny_call ?_
  k_dflt (refine' enterLC ?k1 ?k2 ?k3 ?k4 ?k5 hret ?kA ?kF ?kK ?k6 ?k7 ?k8 ?k9 ?kB ?kD ?_ ?c2 ?c3 ?c4; (case kA => exact rfl); (case kF => exact rfl); (case kK => assumption); (case k1 => k_asm); (case k2 => k_asm); (case k3 => k_asm); (case k4 => k_asm); (case k5 => k_asm); (case k6 => k_is); (case k7 => k_is); (case k8 => ktr_room); (case k9 => exact BindsTo.of_eq rfl); (case kB => exact rfl); (case kD => decide +kernel); (case c2 => exact rfl); (case c3 => exact rfl); (case c4 => exact rfl); k_whole; intro g' L' h' tk' cells' FG' F' N' Y' B' X' T' l1; (try k_lt l1); k_cells Y'; (try simp only [List.cons_append, List.nil_append] at N'); (try dsimp only); (try k_lift B'); (try k_fold))
  clear hret
  k_steps
  refine Stop.go ?_
  k_dflt (refine' ConL.goT (c_rgbL _ _ _ _ _ _ _ _ _ _ _ _ _) ?k1_z ?k2_z ?k3_z ?k4_z ?k5_z ?kK_z ?kl_z ?kp_z ?kd_z ?ku_z ?_; (case kl_z => exact fun _ h => nomatch h); (case kp_z => assumption); (case k1_z => k_asm); (case k2_z => k_asm); (case k3_z => k_asm); (case k4_z => k_asm); (case k5_z => k_asm); (case kK_z => first | exact rfl | assumption); (case kd_z => ktr_room); (case ku_z => ktr_units); k_whole)
  intro D9 ta9 tb9 tc9 h9 tk9 na9 nb9 nc9 l9 F9 N9
  (try dsimp only)
  (try k_fold)
  k_steps
  refine Stop.go ?_
  rename Fr _ _ _ _ => F9
  rename News _ _ _ _ => N9
  rename _ = Data.cell (some (Value.float y _)) => d9
  k_dflt (refine comp_zip2 (x := Str.ofString "stm") (vs := [.float r ta, .float g tb, .float b tc]) (p := fun i => gtF ([r, g, b].getD i 0) y) F9 (by with_unfolding_all rfl) (by decide) (by rfl) (by decide) (by rfl) (by rfl) (by decide) (by decide) rfl (by rw [sizeLine_eq]; decide) ?_)
  k_steps
  refine Stop.go ?_
  refine call_zip2 (vs := [.float r ta, .float g tb, .float b tc]) (by decide +kernel) ⟨_, (N9 (D, tup3f r g b ta tb tc) (by k_mem)).1, rfl, _, rfl⟩ ?_
  intro hz9 Z9 up9 hsz9
  walk_at "SealedV"
  refine ⟨_, D, _, _, rfl, rfl, Heap.lt_size (N9 (D, tup3f r g b ta tb tc) (by k_mem)).1, ?_, Z9, F9.keeps up9, N9.grown up9, F9.ns.lt, Nat.le_trans F9.above (Nat.le_of_lt F9.ns.lt), fun q hq => Heap.lt_size (N9 q hq).1, ?_, ?_⟩
  · show @LT.lt Nat _ _ hz9.objs.size
    rw [hsz9]; exact Nat.lt_succ_self _
  · intro i vb C g8 tk8 m₂ E' hvb hns hm2 Fg Ng
    refine wpAny_isTrue_Compare1 ?_
    refine wpAny_Name (wpAny_loadName_local (by rfl) (by rfl) hns hm2 ?_) (by decide)
    refine lcf_cell Ng (c := L' + 1) (by rfl) (.tail _ (.head _)) d9 ?_ (by rfl) (by rfl) (by decide)
    match i, hvb with
    | 0, hvb => cases hvb; refine AutoFloatOps.gt_0 ?_; exact wpAny_truthy_bool ⟨rfl, _, rfl⟩
    | 1, hvb => cases hvb; refine AutoFloatOps.gt_0 ?_; exact wpAny_truthy_bool ⟨rfl, _, rfl⟩
    | 2, hvb => cases hvb; refine AutoFloatOps.gt_0 ?_; exact wpAny_truthy_bool ⟨rfl, _, rfl⟩
  · intro D8 h8 tk8 ys hys F8 N8 l8
    clear F9 N9
    k_steps
    refine Stop.go ?_
    rename Fr _ _ _ _ => F9
    rename News _ _ _ _ => N9
    have hys' : ys.map (·.1) = sgnsOf (Str.ofString "stm") (fun i => gtF ([r, g, b].getD i 0) y) 3 := hys
    refine join_led N9 (.head _) (by rw [hys']; exact joinOk_stm _) ?_
    rw [hys', show Txt.join (Str.ofString "") (sgnsOf (Str.ofString "stm") (fun i => gtF ([r, g, b].getD i 0) y) 3) = litS r g b y from rfl]
    intro t7 k7
    have hll : (litS r g b y).length ≤ 10 := litS_len ..
    generalize hlit : litS r g b y = lit at *
    k_steps
    refine Stop.go ?_
    k_dflt (refine' Con.go (c_b3 _ _ _ _ c _) ?k1_a ?k2_a ?k3_a ?k4_a ?k5_a ?kK_a ?kp_a ?kd_a ?ku_a ?_; (case k1_a => k_asm); (case k2_a => k_asm); (case k3_a => k_asm); (case k4_a => k_asm); (case k5_a => k_asm); (case kK_a => first | exact rfl | assumption); (case kd_a => ktr_room); (case ku_a => ktr_units); k_whole)
    case kp_a => exact hc
    rintro v6 h6 tk6 new6 ⟨q6, rfl, rfl⟩ _ F6 N6
    simp only [List.nil_append] at N6
    generalize hp : (b3At c).getD (Txt.lower ⟨#[c]⟩) = p at *
    k_steps
    refine Stop.go ?_
    k_dflt (refine' Con.go (c_b1 _ _ _ _ c _) ?k1_b ?k2_b ?k3_b ?k4_b ?k5_b ?kK_b ?kp_b ?kd_b ?ku_b ?_; (case k1_b => k_asm); (case k2_b => k_asm); (case k3_b => k_asm); (case k4_b => k_asm); (case k5_b => k_asm); (case kK_b => first | exact rfl | assumption); (case kd_b => ktr_room); (case ku_b => ktr_units); k_whole)
    case kp_b => exact hc
    rintro v5 h5 tk5 new5 ⟨rfl, rfl⟩ _ F5 N5
    simp only [List.nil_append] at N5
    unfold letOk at hok
    simp only [hp, hlit] at hok
    cases hb1 : b1B c with
    | true =>
      rw [hb1] at hok
      simp only [if_true, Bool.and_eq_true, beq_iff_eq] at hok
      obtain ⟨⟨rfl, rfl⟩, rfl⟩ := hok
      k_steps
      exact fin_s (by assumption) (by assumption) rfl (by intro p hp; rw [List.mem_singleton.mp hp]; k_mem)
    | false =>
      rw [hb1] at hok
      simp only [Bool.false_eq_true, if_false, Bool.and_eq_true, beq_iff_eq] at hok
      obtain ⟨rfl, rfl⟩ := hok
      k_steps
      exact fin_s (by assumption) (by assumption) rfl (by intro p hp; rw [List.mem_singleton.mp hp]; k_mem)
end Mine
end
section
open PySem PySem.W PyProof.Rows PySem.Calls PySem.Spec PySem.Builtin.Str
set_option Elab.async false
set_option maxRecDepth 100000
namespace Mine
theorem none_booked {P : Params} {h : Heap} (X : (K0 P).In h) : NoneBooked h := by
  have h2 : h.get? 2 = some (boot_o_2 P) := X 2 _ rfl
  refine ⟨_, ⟨_, _, _, h2, rfl, ?_, fun _ => rfl⟩, ?_⟩
  · intro e he
    have : (by exact (match (boot_o_2 P).data with | .dict es _ => es | _ => #[]) : Array DictEntry).toList.all (fun e => match e.key with | .str _ _ => true | _ => false) = true := by kernel_rfl
    have := List.all_eq_true.mp this e (Array.mem_def.mp he)
    cases hk : e.key <;> rw [hk] at this <;> first | exact ⟨_, _, rfl⟩ | cases this
  · rfl
/-- two floats that are equal by their numbers are equal as items -/
theorem eq_floats {A : Around} {s : Shared} {x y : UInt64} {t u : Tok} (h0 : (t == 0 || u == 0) = false) (hb : NoneBooked s.heap) (hc : (Float64.cmp x y == some .eq) = true) : SeqAt.EqAt A s (.float x t) (.float y u) true := fun prog w E Q hq => by
  unfold eqBool
  refine wpAny_holding ?_
  refine wpAny_ite_split (fun _ => wpAny_bind (wpAny_rule (wpAny_pure hq))) (fun _ => ?_)
  have key : wpAny (model prog w) A (richCompare .Eq (.float x t) (.float y u) >>= truthOfDropped) Q E s := by
    refine wpAny_bind (AutoFloatOps.eq_0 ?_)
    rw [hc]
    exact wpAny_truthy_bool hq
  dsimp only
  show wpAny _ _ (isSame (.float x t) (.float y u) >>= _) _ _ _
  refine wpAny_bind ?_
  show wpAny _ A (isSame.created (x == y && !Float64.isNaN x) t u) _ E s
  have fin : ∀ b : Bool, wpAny (model prog w) A ((fun b : Bool => if b = true then pure true else (richCompare .Eq (.float x t) (.float y u) >>= truthOfDropped)) b) Q E s := fun b => by
    cases b
    · exact key
    · exact wpAny_pure hq
  unfold isSame.created
  refine wpAny_ite ?_
  split
  · rename_i h; rw [h0] at h; exact absurd h Bool.false_ne_true
  refine wpAny_ite ?_
  split
  · exact wpAny_pure (fin true)
  refine wpAny_ite ?_
  split
  · exact wpAny_pure (fin false)
  refine wpAny_bind (wpAny_sharingNotTold_none hb ?_)
  first | rw [if_neg Bool.false_ne_true] | simp only [Bool.false_eq_true, if_false]
  refine wpAny_bind (wpAny_sharingNotTold_none hb ?_)
  first | rw [if_neg Bool.false_ne_true] | simp only [Bool.false_eq_true, if_false]
  exact wpAny_bind (wpAny_rule (wpAny_bind (wpAny_askSetting (wpAny_pure (fin _)))))
noncomputable abbrev eqF (x y : UInt64) : Bool := Float64.cmp x y == some .eq
theorem tok2 {t u : Tok} (h1 : t ≠ 0) (h2 : u ≠ 0) : (t == 0 || u == 0) = false := by
  simp [h1, h2]
/-- two tuples of three floats, equal by their numbers -/
theorem ne_tup3f {prog : Program} {w : World} {A : Around} {E : Value → Shared → Prop} {s : Shared} {Q : Value → Shared → Prop} {a b : Addr} {x y z x' y' z' : UInt64} {tx ty tz tx' ty' tz' : Tok}
    (ha : s.heap.get? a = some (tup3f x y z tx ty tz)) (hb : s.heap.get? b = some (tup3f x' y' z' tx' ty' tz')) (hu : A.units < cLine) (hn : NoneBooked s.heap)
    (h1 : tx ≠ 0) (h2 : ty ≠ 0) (h3 : tz ≠ 0) (g1 : tx' ≠ 0) (g2 : ty' ≠ 0) (g3 : tz' ≠ 0)
    (e1 : eqF x x' = true) (e2 : eqF y y' = true) (e3 : eqF z z' = true) (h : Q (.bool false) s) : wpAny (model prog w) A (compareOp .NotEq (.ref a) (.ref b)) Q E s := by
  refine cmp_ofNotEq (SeqAt.RcNeAt.tuples (e := fun _ => true) ⟨_, ha, rfl, _, rfl⟩ ⟨_, hb, rfl, _, rfl⟩ hu (fun j j1 j2 => ?_) prog w E Q h)
  match j, j1 with
  | 0, _ => exact eq_floats (tok2 h1 g1) hn e1
  | 1, _ => exact eq_floats (tok2 h2 g2) hn e2
  | 2, _ => exact eq_floats (tok2 h3 g3) hn e3
  | n + 3, j1 => exact absurd j1 (by show ¬ n + 3 < 3; omega)
end Mine
end
section
open PySem PySem.W PyProof.Rows PySem.Calls PySem.Spec PySem.Builtin.Str PyProof.Rows.LCg
set_option Elab.async false
set_option maxRecDepth 100000
set_option maxHeartbeats 4000000
namespace Mine
/-- a list of two texts comes back -/
noncomputable def isSpot (a b : Str) (new : List (Addr × Obj)) (v : Value) : Prop := ∃ D k ta tb, v = .ref D ∧ new = [(D, listOf [Value.str a ta, Value.str b tb].toArray k)]
theorem fin_spot {g h' : Heap} {L' : Addr} {m' : Str → Option Value} {led news' : List (Addr × Obj)} {a b a' b' : Str} {ta tb : Tok} {k : Nat} {D : Addr} {s : Shared} {tk : Nat}
    (ea : a' = a) (eb : b' = b) (F : Fr g L' h' m') (N : News g L' h' news') (hD : (D, listOf [Value.str a' ta, Value.str b' tb].toArray k) ∈ news') (hs : ∀ p ∈ led, p ∈ news') (hl : ∀ p ∈ led, p.1 < D) :
    FinL g led (isSpot a b) s (.ref D) { s with heap := h', toks := tk } := by
  subst ea eb
  refine ⟨_, h', tk, L', rfl, ⟨D, k, ta, tb, rfl, rfl⟩, fun p hp => ?_, fun q hq p hp => ?_, F.keep⟩
  · rcases List.mem_append.mp hp with hp | hp
    · rw [List.mem_singleton.mp hp]; exact N _ hD
    · exact N p (hs p hp)
  · rw [List.mem_singleton.mp hq]; exact (Nat.ne_of_lt (hl p hp)).symm
section
variable {prog : Program} {w : World} {A : Around} {E : Value → Shared → Prop} {s : Shared} {h₀ : Heap} {L : Addr} {m : Str → Option Value} {env : Env}
theorem int_fin {x : UInt64} {t : Tok} {Q : Value → Shared → Prop} (hA : A.handled = none) (hf : finB x = true) (h : Q (.int (Flt.toInt Float64.truncOf x) s.toks) { s with toks := s.toks + 1 }) : wpAny (model prog w) A (call (.type "int") [.float x t]) Q E s :=
  Flt.call_int_float3 hA (fun q => (finB_nan hf q).elim) (fun q => (finB_inf hf q).elim) fun _ => h
/-- the source of a block is a tuple -/
noncomputable abbrev TupAt (ax : Addr) (its : Array Value) (news : List (Addr × Obj)) : Prop := False ∨ ∃ o, (ax, o) ∈ news ∧ o.cls = .type "tuple" ∧ ∃ n, o.data = .seq its n
theorem TupAt.tup {h₀ h : Heap} {L ax : Addr} {its : Array Value} {news : List (Addr × Obj)} (x : TupAt ax its news) (N : News h₀ L h news) : h.IsTuple ax its := by
  rcases x with x | ⟨o, hm, r⟩
  · exact x.elim
  · exact ⟨o, (N _ hm).1, r⟩
noncomputable def TupSrc (prog : Program) (w : World) (A : Around) (h₀ : Heap) (L : Addr) (m : Str → Option Value) (env : Env) (elt : PySem.Expr) (x : Str) (scope : Scope) (cl : List (Str × Addr)) (Q : Value → Shared → Prop) (xv : Value) (s₁ : Shared) : Prop :=
  ∃ ax its news, xv = .ref ax ∧ A.handled = none ∧ Fr h₀ L s₁.heap m ∧ News h₀ L s₁.heap news ∧ TupAt ax its news ∧ its.size ≤ sizeLine ∧
    ∀ g, CompRest prog w A h₀ L m env elt x scope cl { s₁ with heap := g } (TupAt ax its) (fun i v => its[i]? = some v) (FinE h₀ L m { s₁ with heap := g } Q) its.size 0 [] news
theorem TupSrc.ledger {elt : PySem.Expr} {x : Str} {scope : Scope} {cl : List (Str × Addr)} {Q : Value → Shared → Prop} {ax : Addr} {its : Array Value} {news : List (Addr × Obj)} {s₁ : Shared}
    (hh : A.handled = none) (F : Fr h₀ L s₁.heap m) (N : News h₀ L s₁.heap news) (hm : (ax, ({ cls := .type "tuple", data := .seq its } : Obj)) ∈ news) (hsz : its.size ≤ sizeLine)
    (h : ∀ g, CompRest prog w A h₀ L m env elt x scope cl { s₁ with heap := g } (TupAt ax its) (fun i v => its[i]? = some v) (FinE h₀ L m { s₁ with heap := g } Q) its.size 0 [] news) :
    TupSrc prog w A h₀ L m env elt x scope cl Q (.ref ax) s₁ := ⟨ax, its, news, rfl, hh, F, N, .inr ⟨_, hm, rfl, _, rfl⟩, hsz, h⟩
theorem comp_tup {elt iter : PySem.Expr} {x : Str} {px : Pos} {scope : Scope} {cl : List (Str × Addr)} {pos : Pos} {Q : Value → Shared → Prop} (_F₀ : Fr h₀ L s.heap m)
    (hclos : closureFor scope env = pure cl) (hcell : ∀ y ∈ scope.names, y.2 ≠ .cell) (hkind : scope.kind = .function)
    (hnames : ∀ y ∈ scope.names, y.2 = .local → scope.names.lookup y.1 = some .local) (hx : scope.names.lookup x = some .local)
    (h : wpAny (model prog w) A (eval iter env) (TupSrc prog w A h₀ L m env elt x scope cl Q) E s)
    (hs : ∀ x, foldedSetIterable iter env x = pure x := by intro _; rfl) :
    wpAny (model prog w) A (eval (.ListComp elt [⟨.Name x px, iter, [], 0⟩] scope pos) env) Q E s := by
  rw [eval_ListComp]
  refine wpAny_comprehension_free (use := none) rfl hs hclos hkind hnames (wpAny_mono h (fun xv s₁ h₁ => ?_) fun _ _ e => e)
  obtain ⟨ax, its, news, rfl, hh, F, N, S, hsz, R⟩ := h₁
  have hl := S.tup N
  have hlt : ax < s₁.heap.objs.size := by obtain ⟨_, e, _⟩ := hl; exact Heap.lt_size e
  refine wpAny_pyIter_tuple hl ?_
  have up : ∀ b o, s₁.heap.get? b = some o → (s₁.heap.push { cls := .type "tuple_iterator", data := .fields #[.ref ax, .int 0 0] }).get? b = some o := fun b o e => Heap.get?_push_of_some _ e
  refine block_U (S := TupAt ax its) (Walks.tuple hh s₁.heap.objs.size ax (Nat.ne_of_lt hlt) its) hsz (fun i h st => by obtain ⟨o, e, _⟩ := st.1; exact ⟨o, e⟩)
    (fun i h h' o nw st e e' k N S => ⟨by obtain ⟨o', q, r⟩ := st.1; rw [e] at q; cases q; exact ⟨o, e', r⟩, S.tup N⟩) hcell hkind hx ⟨⟨_, Heap.get?_push_size _ rfl, rfl, rfl⟩, hl.push _⟩ (fun b hb => ?_)
    (F.keeps up) (N.grown up) (Nat.ne_of_lt F.ns.lt) (next_is_new F) (fun p hp => Nat.ne_of_lt (Heap.lt_size (N p hp).1)) S (R _) ?_
  · show b < (s₁.heap.push _).objs.size
    rw [Heap.size_push]
    rcases List.mem_cons.mp hb with rfl | hb
    · exact Nat.lt_succ_self _
    · rw [List.mem_singleton.mp hb]; exact Nat.lt_succ_of_lt hlt
  · intro D C h tk m' ys news' F' N' o1 hn hC₀ hD₀ hCL hDL hCD offC fin
    refine ⟨m', hn, fun h'' hs'' => fin D h'' tk (F'.change hs'' hCL hC₀) (fun p hp => ?_) o1⟩
    refine ⟨hs''.extBut _ _ ?_ (N' p hp).1, (N' p hp).2⟩
    rcases List.mem_cons.mp hp with rfl | hp
    · exact Ne.symm hCD
    · exact offC p hp
theorem ne_ints3 {a b : Addr} {x y z x' y' z' : Int} {tx ty tz tx' ty' tz' : Tok} {n n' : Nat} {Q : Value → Shared → Prop}
    (ha : s.heap.get? a = some (listOf [Value.int x tx, Value.int y ty, Value.int z tz].toArray n)) (hb : s.heap.get? b = some (listOf [Value.int x' tx', Value.int y' ty', Value.int z' tz'].toArray n')) (hu : A.units + 64 < cLine)
    (e1 : x = x') (e2 : y = y') (e3 : z = z') (h : Q (.bool false) s) : wpAny (model prog w) A (compareOp .NotEq (.ref a) (.ref b)) Q E s := by
  refine ke_ne_ints (ns := [x, y, z]) (ms := [x', y', z']) ⟨_, ha, rfl, _, rfl⟩ ⟨_, hb, rfl, _, rfl⟩ (.cons _ _ (.cons _ _ (.cons _ _ .nil))) (.cons _ _ (.cons _ _ (.cons _ _ .nil))) hu ?_
  subst e1 e2 e3
  simpa using h
end
/-- the caller's side, where a text comes back -/
theorem Con.goS {w : World} {mean : ExcName → Option Value} {mg mb : Str → Option Value} {f : Addr} {need : Nat} {pre : List (Addr × Obj) → Prop} {vs : List Value}
    {dp un : Nat} {gd : Option (List Code)} {cn : Str} {cs : Scope} {a : Addr} {ccd : Value} {cl : List (Str × Addr)} {outer : List Env} {A₀ : Around} {base h₀ : Heap} {L : Addr} {m : Str → Option Value} {news : List (Addr × Obj)} {s : Shared} {Q E : Value → Shared → Prop} {x : Str}
    (c : Con w mean mg mb f need pre vs (isS x)) (B : Below A₀ base outer h₀) (F : Fr h₀ L s.heap m) (X : (K0 w.params).In h₀) (N : News h₀ L s.heap news) (T : Top q0 (looseW q0 loose0) mean mg mb h₀) (hk : cs.kind = .function) (hp : pre news) (hd : dp + need < recursionLimit) (hu : un + 10 * need < cLine)
    (hret : ∀ (t : Tok) (h' : Heap) (tk' : Nat), Fr h₀ L h' m → News h₀ L h' news → Q (.str x t) { s with heap := h', toks := tk' }) :
    wpAny (model PySem.Challenge.rw_rl0121_01.row.prog w) (ktrTop dp un gd cn cs L a ccd cl outer) (call (.ref f) vs) Q E s :=
  c.go B F X N T hk hp hd hu fun v h' tk' new ⟨t, e1, e2⟩ _ F' N' => by subst e1 e2; exact hret t h' tk' F' N'
theorem ConL.goS {w : World} {mean : ExcName → Option Value} {mg mb : Str → Option Value} {f : Addr} {need : Nat} {led : List (Addr × Obj)} {P : Prop} {vs : List Value} {x : Str}
    {dp un : Nat} {gd : Option (List Code)} {cn : Str} {cs : Scope} {a : Addr} {ccd : Value} {cl : List (Str × Addr)} {outer : List Env} {A₀ : Around} {base h₀ : Heap} {L : Addr} {m : Str → Option Value} {news : List (Addr × Obj)} {s : Shared} {Q E : Value → Shared → Prop}
    (c : ConL w mean mg mb f need led P vs (isS x)) (B : Below A₀ base outer h₀) (F : Fr h₀ L s.heap m) (X : (K0 w.params).In h₀) (N : News h₀ L s.heap news) (T : Top q0 (looseW q0 loose0) mean mg mb h₀) (hk : cs.kind = .function) (hl : ∀ p ∈ led, p ∈ news) (hp : P) (hd : dp + need < recursionLimit) (hu : un + 10 * need < cLine)
    (hret : ∀ (t : Tok) (h' : Heap) (tk' : Nat), Fr h₀ L h' m → News h₀ L h' news → Q (.str x t) { s with heap := h', toks := tk' }) :
    wpAny (model PySem.Challenge.rw_rl0121_01.row.prog w) (ktrTop dp un gd cn cs L a ccd cl outer) (call (.ref f) vs) Q E s :=
  c.go B F X N T hk hl hp hd hu fun v h' tk' new ⟨t, e1, e2⟩ _ F' N' => by subst e1 e2; exact hret t h' tk' F' N'
end Mine
end
section
open PySem PySem.W PyProof.Rows PySem.Calls PySem.Spec PySem.Builtin.Str PyProof.Rows.LCg
set_option Elab.async false
set_option maxRecDepth 100000
set_option maxHeartbeats 2000000
set_option pp.deepTerms false
set_option pp.maxSteps 3000
namespace Mine
/-- what a spot's lamps are to answer: h0 s0 v0 the paint, d0 d1 d2 what rgb_to_hls is due, sg and sg' the signs, a and b the letters -/
structure Sp (h0 s0 v0 d0 d1 d2 : UInt64) (sg sg' a b : Str) (r g bl h l s r' g' b' x1 x2 x3 : UInt64) (c c' : Nat) : Prop where
  hsv : hsvF h0 s0 v0 = some (r, g, bl)
  rgb : rgbF r g bl = some (h, l, s)
  e0 : eqF h d0 = true
  e1 : eqF l d1 = true
  e2 : eqF s d2 = true
  hls : hlsF (Float64.add d0 4602678819172646912) (Float64.sub (Float64.ofInt 1) d1) d2 = (r', g', b')
  rgb' : rgbF r' g' b' = some (x1, x2, x3)
  f1 : finB (Float64.mul (Float64.ofInt 256) r) = true
  f2 : finB (Float64.mul (Float64.ofInt 256) g) = true
  f3 : finB (Float64.mul (Float64.ofInt 256) bl) = true
  f1' : finB (negX 256 r') = true
  f2' : finB (negX 256 g') = true
  f3' : finB (negX 256 b') = true
  m1 : negI 256 r' = 256 - Flt.toInt Float64.truncOf (Float64.mul (Float64.ofInt 256) r)
  m2 : negI 256 g' = 256 - Flt.toInt Float64.truncOf (Float64.mul (Float64.ofInt 256) g)
  m3 : negI 256 b' = 256 - Flt.toInt Float64.truncOf (Float64.mul (Float64.ofInt 256) bl)
  hsg : sg = ⟨#[c]⟩
  hsg' : sg' = ⟨#[c']⟩
  hc : c < 1114112
  hc' : c' < 1114112
  ok : letOk r g bl l c a = true
  ok' : letOk r' g' b' x2 c' b = true
/-- there are such lamps -/
inductive SpE (h0 s0 v0 d0 d1 d2 : UInt64) (sg sg' a b : Str) : Prop
  | mk (r g bl h l s r' g' b' x1 x2 x3 : UInt64) (c c' : Nat) (S : Sp h0 s0 v0 d0 d1 d2 sg sg' a b r g bl h l s r' g' b' x1 x2 x3 c c') : SpE h0 s0 v0 d0 d1 d2 sg sg' a b
noncomputable abbrev mnI (w : Int) : Int := if 32 - w < w then 32 - w else w
/-- a fact put away -/
noncomputable def Hold (P : Prop) : Prop := P
/-- a spot's number y answers with the letters a and b -/
noncomputable def SpotOk (y : Int) (a b : Str) : Prop :=
  let hue := 2 * y.fmod 16 + 1
  let share := 4 - (y.fdiv 16).fmod 5
  let value := (y.fdiv 80).fmod 4 + 1
  let whole := value * (8 - share)
  let h0 := Float64.add (fr hue 32) (Float64.ofInt ((y.fdiv 320).fmod 3))
  (0 < share → Float64.isZero (fr (mnI whole) 16) = false ∧ SpE h0 (fr share 4) (fr value 4) (fr hue 32) (fr whole 32) (Float64.div (fr (value * share) 16) (fr (mnI whole) 16)) (signS (((6 * hue + 16).fdiv 32).fmod 6) (y.fdiv 960)) (signS ((((6 * hue + 16).fdiv 32).fmod 6 + 3).fmod 6) (y.fdiv 960 + 5)) a b) ∧
  (¬ 0 < share → SpE h0 (fr share 4) (fr value 4) 0 (fr whole 32) 0 (signS 6 (y.fdiv 960)) (signS 6 (y.fdiv 960 + 5)) a b)
theorem Hold.get {P : Prop} (h : Hold P) : P := h
theorem c_sg (w : World) (mean : ExcName → Option Value) (mg mb : Str → Option Value) {kind form : Int} {c : Nat} {t u : Tok} (h : signS kind form = ⟨#[c]⟩) :
    Con w mean mg mb 120 2 (fun _ => 0 ≤ kind ∧ kind ≤ 6 ∧ 0 ≤ form ∧ form < 2000) [.int kind t, .int form u] (isS ⟨#[c]⟩) := h ▸ c_sign w mean mg mb kind form t u
section
variable {h0 s0 v0 d0 d1 d2 : UInt64} {sg sg' a b : Str} {r g bl h l s r' g' b' x1 x2 x3 : UInt64} {c c' : Nat}
theorem Sp.let1 (S : Sp h0 s0 v0 d0 d1 d2 sg sg' a b r g bl h l s r' g' b' x1 x2 x3 c c') : c < 1114112 ∧ rgbF r g bl = some (h, l, s) ∧ letOk r g bl l c a = true := ⟨S.hc, S.rgb, S.ok⟩
theorem Sp.let2 (S : Sp h0 s0 v0 d0 d1 d2 sg sg' a b r g bl h l s r' g' b' x1 x2 x3 c c') : c' < 1114112 ∧ rgbF r' g' b' = some (x1, x2, x3) ∧ letOk r' g' b' x2 c' b = true := ⟨S.hc', S.rgb', S.ok'⟩
end
theorem news_13 {g h : Heap} {L : Addr} {a b c : Addr × Obj} {d : List (Addr × Obj)} (N : News g L h (a :: b :: c :: d)) : News g L h [a, c] := fun p hp => N p (by
  rcases List.mem_cons.mp hp with rfl | hp
  · exact .head _
  · rw [List.mem_singleton.mp hp]; exact .tail _ (.tail _ (.head _)))
theorem fr_spot {g h : Heap} {L : Addr} {m : Str → Option Value} (F : Fr g L h m) {y hue share value whole : Int} (e1 : ∃ t, m (Str.ofString "y") = some (.int y t)) (e2 : ∃ t, m (Str.ofString "hue") = some (.int hue t)) (e3 : ∃ t, m (Str.ofString "share") = some (.int share t)) (e4 : ∃ t, m (Str.ofString "value") = some (.int value t)) (e5 : ∃ t, m (Str.ofString "whole") = some (.int whole t)) :
    ∃ (m' : Str → Option Value) (t1 t2 t3 t4 t5 : Tok), Fr g L h (fun z => if z = Str.ofString "y" then some (.int y t1) else if z = Str.ofString "hue" then some (.int hue t2) else if z = Str.ofString "share" then some (.int share t3) else if z = Str.ofString "value" then some (.int value t4) else if z = Str.ofString "whole" then some (.int whole t5) else m' z) := by
  obtain ⟨t1, e1⟩ := e1
  obtain ⟨t2, e2⟩ := e2
  obtain ⟨t3, e3⟩ := e3
  obtain ⟨t4, e4⟩ := e4
  obtain ⟨t5, e5⟩ := e5
  exact ⟨m, t1, t2, t3, t4, t5, Fr_named (Fr_named (Fr_named (Fr_named (Fr_named F e5) e4) e3) e2) e1⟩
noncomputable abbrev NamesM (m : Str → Option Value) (y hue share value kind other : Int) (d : Addr) : Prop :=
  (∃ t, m (Str.ofString "y") = some (.int y t)) ∧ (∃ t, m (Str.ofString "hue") = some (.int hue t)) ∧ (∃ t, m (Str.ofString "share") = some (.int share t)) ∧ (∃ t, m (Str.ofString "value") = some (.int value t)) ∧
    (∃ t, m (Str.ofString "kind") = some (.int kind t)) ∧ (∃ t, m (Str.ofString "other") = some (.int other t)) ∧ m (Str.ofString "due") = some (.ref d)
theorem news_tail2 {g h : Heap} {L : Addr} {a b : Addr × Obj} {d : List (Addr × Obj)} (N : News g L h (a :: b :: d)) : News g L h d := fun p hp => N p (.tail _ (.tail _ hp))
/-- what stands behind the first `if` -/
inductive MidS (ge0 : Array GenState) (dr0 : Drawn) (os0 : OsState) (g : Heap) (L : Addr) (y hue share value : Int) (a b : Str) (s : Shared) : Prop
  | mk (kind other : Int) (d : Addr) (d0 d1 d2 : UInt64) (t0 t1 t2 : Tok) (m : Str → Option Value)
    (hg : s.gens = ge0) (hd : s.drawn = dr0) (ho : s.os = os0) (F : Fr g L s.heap m) (N : News g L s.heap [(d, tup3f d0 d1 d2 t0 t1 t2)]) (ht : 0 < s.toks) (n0 : t0 ≠ 0) (n1 : t1 ≠ 0) (n2 : t2 ≠ 0)
    (em : NamesM m y hue share value kind other d)
    (pk : Hold (0 ≤ kind ∧ kind ≤ 6 ∧ 0 ≤ y.fdiv 960 ∧ y.fdiv 960 < 2000)) (pk' : Hold (0 ≤ other ∧ other ≤ 6 ∧ 0 ≤ y.fdiv 960 + 5 ∧ y.fdiv 960 + 5 < 2000))
    (S : SpE (Float64.add (fr hue 32) (Float64.ofInt ((y.fdiv 320).fmod 3))) (fr share 4) (fr value 4) d0 d1 d2 (signS kind (y.fdiv 960)) (signS other (y.fdiv 960 + 5)) a b) : MidS ge0 dr0 os0 g L y hue share value a b s
theorem mid_rule {M : Model} {A : Around} {c : Sem Flow} {Q : Flow → Shared → Prop} {E : Value → Shared → Prop} {s : Shared} (P : Shared → Prop) (h1 : wpAny M A c (fun fl s' => fl = .next ∧ P s') E s) (h2 : ∀ s', P s' → Q .next s') : wpAny M A c Q E s :=
  wpAny_mono h1 (fun fl s' h => by obtain ⟨rfl, h⟩ := h; exact h2 s' h) fun _ _ x => x
theorem news_one {g h : Heap} {L : Addr} {news : List (Addr × Obj)} {e : Addr × Obj} (N : News g L h news) (he : e ∈ news) : News g L h [e] := fun p hp => by
  rw [List.mem_singleton.mp hp]; exact N e he
theorem fr_mid {g h : Heap} {L : Addr} {m : Str → Option Value} (F : Fr g L h m) {y hue share value kind other : Int} {d : Addr}
    (e : NamesM m y hue share value kind other d) :
    ∃ (m' : Str → Option Value) (t1 t2 t3 t4 t5 t6 : Tok), Fr g L h (fun z => if z = Str.ofString "due" then some (.ref d) else if z = Str.ofString "y" then some (.int y t1) else if z = Str.ofString "hue" then some (.int hue t2) else if z = Str.ofString "share" then some (.int share t3) else if z = Str.ofString "value" then some (.int value t4) else if z = Str.ofString "kind" then some (.int kind t5) else if z = Str.ofString "other" then some (.int other t6) else m' z) := by
  obtain ⟨⟨t1, e1⟩, ⟨t2, e2⟩, ⟨t3, e3⟩, ⟨t4, e4⟩, ⟨t5, e5⟩, ⟨t6, e6⟩, e7⟩ := e
  exact ⟨m, t1, t2, t3, t4, t5, t6, Fr_named (Fr_named (Fr_named (Fr_named (Fr_named (Fr_named (Fr_named F e6) e5) e4) e3) e2) e1) e7⟩
theorem fm (i : Int) {n : Int} (h : 0 < n) : 0 ≤ i.fmod n ∧ i.fmod n < n := by rw [Int.fmod_eq_emod_of_nonneg i (Int.le_of_lt h)]; exact ⟨Int.emod_nonneg _ (Int.ne_of_gt h), Int.emod_lt_of_pos _ h⟩

local macro_rules | `(tactic| walk_at "execs cons") => `(tactic| (k_here; refine tok_gen ?_; intro tk htk))
local macro_rules | `(tactic| walk_at "execs nil") => `(tactic| (k_here; refine tok_gen ?_; intro tk htk))
local macro_rules | `(tactic| walk_at "exec Assign cons") => `(tactic| (k_here; (with_reducible show wpAny _ _ (exec (Stmt.Assign [_, _] _ _) _) _ _ _); refine stopHere ?_))
local macro_rules | `(tactic| walk_at "eval ListComp") => `(tactic| (k_here; k_dflt (refine comp_tup (by k_asm) (by with_unfolding_all rfl) (by decide) (by rfl) (by decide) (by rfl) ?_)))
local macro_rules | `(tactic| walk_at "TupSrc") => `(tactic| (k_here; k_dflt (refine TupSrc.ledger (by rfl) (by k_asm) (by k_asm) (by k_mem) (by first | size_fits | exact Nat.le_of_ble_eq_true rfl) ?_; intro g'; lcg_lit)))
local macro_rules | `(tactic| walk_at "call type:int") => `(tactic| (k_here; (with_reducible show wpAny _ _ (call _ [Value.float _ _]) _ _ _); k_dflt (refine int_fin (by rfl) (by first | with_reducible exact Sp.f1 (by assumption) | with_reducible exact Sp.f2 (by assumption) | with_reducible exact Sp.f3 (by assumption) | with_reducible exact Sp.f1' (by assumption) | with_reducible exact Sp.f2' (by assumption) | with_reducible exact Sp.f3' (by assumption)) ?_)))
local macro_rules | `(tactic| walk_at "exec If") => `(tactic| (k_here; (with_reducible show wpAny _ _ (exec (Stmt.If _ (_ :: _ :: _ :: _) _ _) _) _ _ _); refine stopHere ?_))
local macro_rules | `(tactic| walk_at "call ref") => `(tactic| (k_here; refine stopHere ?_))
local macro_rules | `(tactic| walk_at "compareOp NotEq ref ref") => `(tactic| (k_here; refine stopHere ?_))
theorem c_spot : ∀ (w : World) (mean : ExcName → Option Value) (mg mb : Str → Option Value) (x : Int) (a b : Str) (t : Tok),
   ConL w mean mg mb 130 8 [] (SpotOk (x.fmod 1000000) a b) [.int x t] (isSpot a b) := by
  unfold ConL
  k_fill
  intro w mean mg mb x a b t
  intros
  rename_i hpre _ _ hret
  rename Shared => s0
  obtain ⟨hp0, ge0, dr0, tk00, os0⟩ := s0
  refine wpAny_call ?_
  k_dflt (refine' enterL ?k1 ?k2 ?k3 ?k4 ?k5 hret ?kA ?kF ?kK ?k6 ?k7 ?k8 ?k9 ?kB ?_ ?c2 ?c3 ?c4 ?c5; (case kA => exact rfl); (case kF => exact rfl); (case kK => assumption); (case k1 => k_asm); (case k2 => k_asm); (case k3 => k_asm); (case k4 => k_asm); (case k5 => k_asm); (case k6 => k_is); (case k7 => k_is); (case k8 => ktr_room); (case k9 => exact BindsTo.of_eq rfl); (case c5 => decide); (case kB => exact locs rfl); (case c2 => exact rfl); (case c3 => exact rfl); (case c4 => exact rfl); k_whole; intro g' L' h' FG' F' N' B' X' T' l1; (try dsimp only); (try k_lift B'); (try k_fold))
  clear hret
  refine tok_gen0 (Nat.add_pos_right _ (by with_unfolding_all exact Nat.lt_of_lt_of_eq Nat.one_pos rfl)) ?_
  intro tk0 htk0
  k_steps
  refine Stop.go ?_
  rename Fr _ _ _ _ => F9
  obtain ⟨y, hy⟩ : ∃ y, y = x.fmod 1000000 := ⟨_, rfl⟩
  obtain ⟨hue, hhue⟩ : ∃ hue, hue = 2 * (x.fmod 1000000).fmod 16 + 1 := ⟨_, rfl⟩
  obtain ⟨share, hshare⟩ : ∃ share, share = 4 - ((x.fmod 1000000).fdiv 16).fmod 5 := ⟨_, rfl⟩
  obtain ⟨value, hvalue⟩ : ∃ value, value = ((x.fmod 1000000).fdiv 80).fmod 4 + 1 := ⟨_, rfl⟩
  obtain ⟨whole, hwhole⟩ : ∃ whole, whole = (((x.fmod 1000000).fdiv 80).fmod 4 + 1) * (8 - (4 - ((x.fmod 1000000).fdiv 16).fmod 5)) := ⟨_, rfl⟩
  have G9 := fr_spot F9 (y := y) (hue := hue) (share := share) (value := value) (whole := whole) ⟨_, congrArg (fun q => some (Value.int q _)) hy.symm⟩ ⟨_, congrArg (fun q => some (Value.int q _)) hhue.symm⟩ ⟨_, congrArg (fun q => some (Value.int q _)) hshare.symm⟩ ⟨_, congrArg (fun q => some (Value.int q _)) hvalue.symm⟩ ⟨_, congrArg (fun q => some (Value.int q _)) hwhole.symm⟩
  clear F9
  obtain ⟨m9, u1, u2, u3, u4, u5, F9⟩ := G9
  rw [← hy] at hhue hshare hvalue hwhole
  rw [← hvalue, ← hshare] at hwhole
  have b1 := fm x (n := 1000000) (by decide)
  rw [← hy] at b1
  have b2 := fm y (n := 16) (by decide)
  have b3 := fm (y.fdiv 16) (n := 5) (by decide)
  have b4 := fm (y.fdiv 80) (n := 4) (by decide)
  have b5 := fm (y.fdiv 320) (n := 3) (by decide)
  have c1 : 1 ≤ hue ∧ hue ≤ 31 := by omega
  have c2 : 0 ≤ share ∧ share ≤ 4 := by omega
  have c3 : 1 ≤ value ∧ value ≤ 4 := by omega
  have c4 : 4 ≤ whole ∧ whole ≤ 32 := by
    rw [hwhole]
    clear hwhole hvalue
    rcases (by omega : value = 1 ∨ value = 2 ∨ value = 3 ∨ value = 4) with rfl | rfl | rfl | rfl <;> omega
  have c5 : 0 ≤ value * share ∧ value * share ≤ 16 := by
    clear hwhole hvalue
    rcases (by omega : value = 1 ∨ value = 2 ∨ value = 3 ∨ value = 4) with rfl | rfl | rfl | rfl <;> omega
  clear b2 b3 b4

  obtain ⟨hp1, hp2⟩ := hpre
  simp only [← hy] at hp1 hp2
  simp only [← hhue, ← hshare, ← hvalue, ← hwhole] at hp1 hp2
  clear hhue hshare hvalue
  k_dflt (refine wpAny_Assign_two ?_)
  k_steps
  refine Stop.go ?_
  refine mid_rule (MidS ge0 dr0 os0 g' L' y hue share value a b) ?_ ?_
  · k_dflt (refine wpAny_If ?_)
    k_steps
    · obtain ⟨_, hSp⟩ := hp1 (by assumption)
      have pk : Hold (0 ≤ ((6 * hue + 16).fdiv 32).fmod 6 ∧ ((6 * hue + 16).fdiv 32).fmod 6 ≤ 6 ∧ 0 ≤ y.fdiv 960 ∧ y.fdiv 960 < 2000) := by
        have q := fm ((6 * hue + 16).fdiv 32) (n := 6) (by decide)
        rw [Int.fdiv_eq_ediv_of_nonneg y (by decide : (0:Int) ≤ 960)]; exact ⟨q.1, by omega, by omega, by omega⟩
      have pk' : Hold (0 ≤ (((6 * hue + 16).fdiv 32).fmod 6 + 3).fmod 6 ∧ (((6 * hue + 16).fdiv 32).fmod 6 + 3).fmod 6 ≤ 6 ∧ 0 ≤ y.fdiv 960 + 5 ∧ y.fdiv 960 + 5 < 2000) := by
        have q := fm (((6 * hue + 16).fdiv 32).fmod 6 + 3) (n := 6) (by decide)
        rw [Int.fdiv_eq_ediv_of_nonneg y (by decide : (0:Int) ≤ 960)]; exact ⟨q.1, by omega, by omega, by omega⟩
      rename News _ _ _ _ => N7
      rename Fr _ _ _ _ => F7
      exact .mk _ _ _ _ _ _ _ _ _ _ rfl rfl rfl F7 (news_one N7 (.head _)) (by first | assumption | omega) (by first | assumption | omega) (by first | assumption | omega) (by first | assumption | omega) ⟨⟨_, rfl⟩, ⟨_, rfl⟩, ⟨_, rfl⟩, ⟨_, rfl⟩, ⟨_, rfl⟩, ⟨_, rfl⟩, rfl⟩ pk pk' hSp
    · have hSp := hp2 (by assumption)
      have pk : Hold (0 ≤ (6 : Int) ∧ (6 : Int) ≤ 6 ∧ 0 ≤ y.fdiv 960 ∧ y.fdiv 960 < 2000) := by
        rw [Int.fdiv_eq_ediv_of_nonneg y (by decide : (0:Int) ≤ 960)]; exact ⟨by decide, by decide, by omega, by omega⟩
      have pk' : Hold (0 ≤ (6 : Int) ∧ (6 : Int) ≤ 6 ∧ 0 ≤ y.fdiv 960 + 5 ∧ y.fdiv 960 + 5 < 2000) := by
        rw [Int.fdiv_eq_ediv_of_nonneg y (by decide : (0:Int) ≤ 960)]; exact ⟨by decide, by decide, by omega, by omega⟩
      rename News _ _ _ _ => N7
      rename Fr _ _ _ _ => F7
      exact .mk _ _ _ _ _ _ _ _ _ _ rfl rfl rfl F7 (news_one N7 (.head _)) (by first | assumption | omega) (by first | assumption | omega) (by first | assumption | omega) (by first | assumption | omega) ⟨⟨_, rfl⟩, ⟨_, rfl⟩, ⟨_, rfl⟩, ⟨_, rfl⟩, ⟨_, rfl⟩, ⟨_, rfl⟩, rfl⟩ pk pk' hSp
  · clear hp1 hp2 c4 c5 hwhole
    rename Fr _ _ _ _ => F9
    clear F9
    try (rename News _ _ _ _ => N9; clear N9)

    intro s7 hm
    obtain ⟨hp7, ge7, dr7, tk7, os7⟩ := s7
    obtain ⟨kind, other, d, d0, d1, d2, t0, t1, t2, m7, q1, q2, q3, F7, N7, tk8, n0, n1, n2, em, pk, pk', hSp⟩ := hm
    dsimp only at q1 q2 q3
    subst q1 q2 q3
    have G7 := fr_mid F7 em
    clear F7 em
    obtain ⟨m8, v1, v2, v3, v4, v5, v6, F8⟩ := G7
    dsimp only at F8 N7 tk8
    k_steps
    obtain ⟨m9, F9⟩ : ∃ m' : Str → Option Value, Fr g' L' hp7 (fun z => if z = Str.ofString "due" then some (.ref d) else if z = Str.ofString "y" then some (.int y v1) else if z = Str.ofString "kind" then some (.int kind v5) else if z = Str.ofString "other" then some (.int other v6) else m' z) :=
      ⟨_, Fr_named (Fr_named (Fr_named (Fr_named F8 rfl) rfl) rfl) rfl⟩
    clear F8
    obtain ⟨r, g, bl, hh, ll, ss, r', g1, b', x1, x2, x3, c, c', hSp⟩ := hSp
    clear b1 b5 c1 c2 c3 hy
    repeat (rename _ < 2 ^ 1024 - 2 ^ 970 => qj; clear qj)
    repeat (rename ¬ (Float64.isInf _ = true) => qj; clear qj)
    repeat (rename ¬ (Float64.isZero _ = true) => qj; clear qj)
    repeat (rename @Ne Int _ _ => qj; clear qj)
    refine Stop.go ?_
    refine wpAny_toks ?_
    k_dflt (refine' Con.goT (c_hsv _ _ _ _ _ _ _ _ _ _ _ _ _) ?k1_a ?k2_a ?k3_a ?k4_a ?k5_a ?kK_a ?kp_a ?kd_a ?ku_a ?_; (case kp_a => exact Sp.hsv (by assumption)); (case k1_a => k_asm); (case k2_a => k_asm); (case k3_a => k_asm); (case k4_a => k_asm); (case k5_a => k_asm); (case kK_a => first | exact rfl | assumption); (case kd_a => ktr_room); (case ku_a => ktr_units); k_whole)
    intro D9 ta9 tb9 tc9 h9 tk9 l9 F9 N9 ht9
    (replace ht9 := Nat.lt_of_lt_of_le (n := 0) (by (try dsimp only); omega) ht9)
    (try dsimp only at ht9)
    (try dsimp only)
    (try k_lt l9)
    (try k_fold)
    k_steps
    refine Stop.go ?_
    k_dflt (refine' ConL.goT (c_rgbL _ _ _ _ _ _ _ _ _ _ _ _ _) ?k1_b ?k2_b ?k3_b ?k4_b ?k5_b ?kK_b ?kl_b ?kp_b ?kd_b ?ku_b ?_; (case kl_b => exact fun _ h => nomatch h); (case kp_b => exact Sp.rgb (by assumption)); (case k1_b => k_asm); (case k2_b => k_asm); (case k3_b => k_asm); (case k4_b => k_asm); (case k5_b => k_asm); (case kK_b => first | exact rfl | assumption); (case kd_b => ktr_room); (case ku_b => ktr_units); k_whole)
    intro D9 ta9 tb9 tc9 h9 tk9 na9 nb9 nc9 l9 F9 N9
    (try dsimp only)
    (try k_fold)
    k_steps
    refine Stop.go ?_
    (rename News _ _ _ _ => N7)
    k_dflt (refine' ne_tup3f ?ha_c ?hb_c ?hu_c ?hn_c ?h1_c ?h2_c ?h3_c ?g1_c ?g2_c ?g3_c ?e1_c ?e2_c ?e3_c ?_; (case ha_c => exact (N7 (_, tup3f _ _ _ _ _ _) (by k_mem)).1); (case hb_c => exact (N7 (_, tup3f _ _ _ _ _ _) (by k_mem)).1); (case hu_c => exact Nat.lt_of_le_of_lt (Nat.le_add_right _ 64) (by ke_room)); (case hn_c => exact none_booked (by k_in)); (case h1_c => (first | assumption | exact Nat.ne_of_gt (show @LT.lt Nat _ 0 _ by omega))); (case h2_c => (first | assumption | exact Nat.ne_of_gt (show @LT.lt Nat _ 0 _ by omega))); (case h3_c => (first | assumption | exact Nat.ne_of_gt (show @LT.lt Nat _ 0 _ by omega))); (case g1_c => (first | assumption | exact Nat.ne_of_gt (show @LT.lt Nat _ 0 _ by omega))); (case g2_c => (first | assumption | exact Nat.ne_of_gt (show @LT.lt Nat _ 0 _ by omega))); (case g3_c => (first | assumption | exact Nat.ne_of_gt (show @LT.lt Nat _ 0 _ by omega))); (case e1_c => with_reducible exact Sp.e0 (by assumption)); (case e2_c => with_reducible exact Sp.e1 (by assumption)); (case e3_c => with_reducible exact Sp.e2 (by assumption)))
    k_steps
    refine Stop.go ?_
    k_dflt (refine' Con.goT (c_hls _ _ _ _ _ _ _ _ _ _ _ _ _) ?k1_d ?k2_d ?k3_d ?k4_d ?k5_d ?kK_d ?kp_d ?kd_d ?ku_d ?_; (case kp_d => exact Sp.hls (by assumption)); (case k1_d => k_asm); (case k2_d => k_asm); (case k3_d => k_asm); (case k4_d => k_asm); (case k5_d => k_asm); (case kK_d => first | exact rfl | assumption); (case kd_d => ktr_room); (case ku_d => ktr_units); k_whole)
    intro D9 ta9 tb9 tc9 h9 tk9 l9 F9 N9
    (replace N9 := news_13 N9)
    (try dsimp only)
    (try k_lt l9)
    (try k_fold)
    k_steps
    refine Stop.go ?_
    (rename News _ _ _ _ => N7)
    k_dflt (refine' ne_ints3 ?ha_e ?hb_e ?hu_e ?e1_e ?e2_e ?e3_e ?_; (case ha_e => exact (N7 (_, listOf [Value.int _ _, Value.int _ _, Value.int _ _].toArray _) (by k_mem)).1); (case hb_e => exact (N7 (_, listOf [Value.int _ _, Value.int _ _, Value.int _ _].toArray _) (by k_mem)).1); (case hu_e => ke_room); (case e1_e => with_reducible exact Sp.m1 (by assumption)); (case e2_e => with_reducible exact Sp.m2 (by assumption)); (case e3_e => with_reducible exact Sp.m3 (by assumption)))
    replace N7 := news_tail2 N7
    k_steps
    refine Stop.go ?_
    k_dflt (refine' Con.goS (c_sg _ _ _ _ ?hs_f) ?k1_f ?k2_f ?k3_f ?k4_f ?k5_f ?kK_f ?kp_f ?kd_f ?ku_f ?_; (case hs_f => first | with_reducible exact Sp.hsg (by assumption) | with_reducible exact Sp.hsg' (by assumption)); (case kp_f => exact Hold.get (by assumption)); (case k1_f => k_asm); (case k2_f => k_asm); (case k3_f => k_asm); (case k4_f => k_asm); (case k5_f => k_asm); (case kK_f => first | exact rfl | assumption); (case kd_f => ktr_room); (case ku_f => ktr_units); k_whole)
    intro ta9 h9 tk9 F9 N9
    (try dsimp only)
    (try k_fold)
    k_steps
    refine Stop.go ?_
    k_dflt (refine' ConL.goS (c_let _ _ _ _ _ _ _ _ _ _ _ _ _ _ _ _ _) ?k1_g ?k2_g ?k3_g ?k4_g ?k5_g ?kK_g ?kl_g ?kp_g ?kd_g ?ku_g ?_; (case k1_g => k_asm); (case k2_g => k_asm); (case k3_g => k_asm); (case k4_g => k_asm); (case k5_g => k_asm); (case kK_g => first | exact rfl | assumption); (case kd_g => ktr_room); (case ku_g => ktr_units); (case kl_g => exact List.forall_mem_cons.mpr ⟨by k_mem, fun _ h => nomatch h⟩); (case kp_g => first | with_reducible exact Sp.let1 (by assumption) | with_reducible exact Sp.let2 (by assumption)); k_whole)
    intro ta9 h9 tk9 F9 N9
    (try dsimp only)
    (try k_fold)
    k_steps
    refine Stop.go ?_
    k_dflt (refine' Con.goS (c_sg _ _ _ _ ?hs_h) ?k1_h ?k2_h ?k3_h ?k4_h ?k5_h ?kK_h ?kp_h ?kd_h ?ku_h ?_; (case hs_h => first | with_reducible exact Sp.hsg (by assumption) | with_reducible exact Sp.hsg' (by assumption)); (case kp_h => exact Hold.get (by assumption)); (case k1_h => k_asm); (case k2_h => k_asm); (case k3_h => k_asm); (case k4_h => k_asm); (case k5_h => k_asm); (case kK_h => first | exact rfl | assumption); (case kd_h => ktr_room); (case ku_h => ktr_units); k_whole)
    intro ta9 h9 tk9 F9 N9
    (try dsimp only)
    (try k_fold)
    k_steps
    refine Stop.go ?_
    k_dflt (refine' ConL.goS (c_let _ _ _ _ _ _ _ _ _ _ _ _ _ _ _ _ _) ?k1_i ?k2_i ?k3_i ?k4_i ?k5_i ?kK_i ?kl_i ?kp_i ?kd_i ?ku_i ?_; (case k1_i => k_asm); (case k2_i => k_asm); (case k3_i => k_asm); (case k4_i => k_asm); (case k5_i => k_asm); (case kK_i => first | exact rfl | assumption); (case kd_i => ktr_room); (case ku_i => ktr_units); (case kl_i => exact List.forall_mem_cons.mpr ⟨by k_mem, fun _ h => nomatch h⟩); (case kp_i => first | with_reducible exact Sp.let1 (by assumption) | with_reducible exact Sp.let2 (by assumption)); k_whole)
    intro ta9 h9 tk9 F9 N9
    (try dsimp only)
    (try k_fold)
    k_steps
    exact fin_spot rfl rfl (by k_asm) (by k_asm) (.head _) (fun _ h => nomatch h) (fun _ h => nomatch h)
end Mine
end
section
set_option Elab.async false
set_option maxRecDepth 100000
namespace Mine
open PySem PySem.W PyProof.Rows PySem.Calls PySem.Spec
/-- three ints -/
structure Tri where
  x : Int
  y : Int
  z : Int
/-- the longest rising runs of what follows: only s; t, s; m, t, s -/
noncomputable def bStep (q : Tri) (c : Nat) : Tri :=
  if c = 115 then ⟨q.x + 1, max q.y (q.x + 1), max q.z (q.x + 1)⟩
  else if c = 116 then ⟨q.x, q.y + 1, max q.z (q.y + 1)⟩
  else ⟨q.x, q.y, q.z + 1⟩
noncomputable def lisB : List Nat → Tri
  | [] => ⟨0, 0, 0⟩
  | c :: r => bStep (lisB r) c
/-- the disjoint falling runs of what follows: m; t, m; s, t, m -/
noncomputable def dStep (q : Tri) (c : Nat) : Tri :=
  if c = 115 then ⟨q.x, q.y, min q.y (q.z + 1)⟩
  else if c = 116 then ⟨q.x, min q.x (q.y + 1), q.z⟩
  else ⟨q.x + 1, q.y, q.z⟩
noncomputable def triB : List Nat → Tri
  | [] => ⟨0, 0, 0⟩
  | c :: r => dStep (triB r) c
theorem lisB_ord : ∀ w : List Nat, 0 ≤ (lisB w).x ∧ (lisB w).x ≤ (lisB w).y ∧ (lisB w).y ≤ (lisB w).z ∧ (lisB w).z ≤ w.length
  | [] => ⟨Int.le_refl _, Int.le_refl _, Int.le_refl _, Int.le_refl _⟩
  | c :: r => by
    obtain ⟨h1, h2, h3, h4⟩ := lisB_ord r
    have up : ∀ z : Int, z ≤ z + 1 := fun z => Int.le_add_one (Int.le_refl _)
    rw [List.length_cons, Int.natCast_add]
    simp only [lisB, bStep]
    split
    · exact ⟨Int.le_trans h1 (up _), Int.le_max_right _ _, Int.max_le.mpr ⟨Int.le_trans h3 (Int.le_max_left _ _), Int.le_max_right _ _⟩, Int.max_le.mpr ⟨Int.le_trans h4 (up _), Int.add_le_add_right (Int.le_trans h2 (Int.le_trans h3 h4)) 1⟩⟩
    · split
      · exact ⟨h1, Int.le_trans h2 (up _), Int.le_max_right _ _, Int.max_le.mpr ⟨Int.le_trans h4 (up _), Int.add_le_add_right (Int.le_trans h3 h4) 1⟩⟩
      · exact ⟨h1, h2, Int.le_trans h3 (up _), Int.add_le_add_right h4 1⟩
theorem triB_ord : ∀ w : List Nat, 0 ≤ (triB w).z ∧ (triB w).z ≤ (triB w).y ∧ (triB w).y ≤ (triB w).x
  | [] => ⟨Int.le_refl _, Int.le_refl _, Int.le_refl _⟩
  | c :: r => by
    obtain ⟨h1, h2, h3⟩ := triB_ord r
    have up : ∀ z : Int, z ≤ z + 1 := fun z => Int.le_add_one (Int.le_refl _)
    simp only [triB, dStep]
    split
    · exact ⟨Int.le_min.mpr ⟨Int.le_trans h1 h2, Int.le_trans h1 (up _)⟩, Int.min_le_left _ _, h3⟩
    · split
      · exact ⟨h1, Int.le_min.mpr ⟨Int.le_trans h2 h3, Int.le_trans h2 (up _)⟩, Int.min_le_left _ _⟩
      · exact ⟨h1, h2, Int.le_trans h3 (up _)⟩
/-- the walk's state, in the words of the plain law -/
noncomputable def wL (s : WS) : Tri := ⟨s.low, max s.low s.middle, max (max s.low s.middle) s.high⟩
noncomputable def wT (s : WS) : Tri := ⟨s.free + s.pairs + s.triples, s.pairs + s.triples, s.triples⟩
noncomputable def WOk (s : WS) : Prop := 0 ≤ s.free ∧ 0 ≤ s.pairs ∧ 0 ≤ s.triples
theorem wStep_ok {s : WS} (h : WOk s) (c : Nat) : WOk (wStep s c) := by
  obtain ⟨h1, h2, h3⟩ := h
  unfold wStep WOk
  split
  · dsimp only; omega
  · split
    · split <;> (dsimp only; omega)
    · split <;> (dsimp only; omega)
theorem wFold_ok : ∀ (w : List Nat) {s : WS}, WOk s → WOk (w.foldl wStep s)
  | [], _, h => h
  | c :: r, _, h => wFold_ok r (wStep_ok h c)
noncomputable def lStep (q : Tri) (c : Nat) : Tri :=
  if c = 115 then ⟨q.x, q.y, q.z + 1⟩ else if c = 116 then ⟨q.x, q.y + 1, max q.z (q.y + 1)⟩ else ⟨q.x + 1, max q.y (q.x + 1), max q.z (q.x + 1)⟩
noncomputable def tStep (q : Tri) (c : Nat) : Tri :=
  if c = 115 then ⟨q.x + 1, q.y, q.z⟩ else if c = 116 then ⟨q.x, min q.x (q.y + 1), q.z⟩ else ⟨q.x, q.y, min q.y (q.z + 1)⟩
theorem Tri.ext' {p q : Tri} (h1 : p.x = q.x) (h2 : p.y = q.y) (h3 : p.z = q.z) : p = q := by
  cases p; cases q; simp_all
theorem eqmax {a b : Int} (h : ∀ t, a ≤ t ↔ b ≤ t) : a = b := Int.le_antisymm ((h b).mpr (Int.le_refl b)) ((h a).mp (Int.le_refl a))
theorem eqmin {a b : Int} (h : ∀ t, t ≤ a ↔ t ≤ b) : a = b := Int.le_antisymm ((h a).mp (Int.le_refl a)) ((h b).mpr (Int.le_refl b))
theorem le_sub_of {q a t : Int} : a ≤ t - q ↔ q + a ≤ t := by omega
theorem add_max_le {q a b t : Int} : q + max a b ≤ t ↔ q + a ≤ t ∧ q + b ≤ t := by rw [← le_sub_of, Int.max_le, le_sub_of, le_sub_of]
theorem max_add_le {q a b t : Int} : max a b + q ≤ t ↔ a + q ≤ t ∧ b + q ≤ t := by rw [Int.add_comm, add_max_le, Int.add_comm q a, Int.add_comm q b]
theorem sub_le_of {q a t : Int} : t - q ≤ a ↔ t ≤ q + a := by omega
theorem le_add_min {q a b t : Int} : t ≤ q + min a b ↔ t ≤ q + a ∧ t ≤ q + b := by rw [← sub_le_of, Int.le_min, sub_le_of, sub_le_of]
theorem le_min_add {q a b t : Int} : t ≤ min a b + q ↔ t ≤ a + q ∧ t ≤ b + q := by rw [Int.add_comm, le_add_min, Int.add_comm q a, Int.add_comm q b]
theorem mx_top (a b : Int) : max a (max a b + 1) = max a b + 1 := Int.max_eq_right (Int.le_trans (Int.le_max_left _ _) (Int.le_add_one (Int.le_refl _)))
theorem mx_mid (y h : Int) : max (y + 1) h = max (max y h) (y + 1) := eqmax fun t => by
  rw [Int.max_le, Int.max_le, Int.max_le]
  exact ⟨fun h => ⟨⟨Int.le_trans (Int.le_add_one (Int.le_refl _)) h.1, h.2⟩, h.1⟩, fun h => ⟨h.2, h.1.2⟩⟩
theorem mx_rc (a b c : Int) : max (max a b) c = max (max a c) b := by rw [Int.max_assoc, Int.max_comm b c, Int.max_assoc]
theorem mx_t (l m h : Int) : max (max l (max l m + 1)) h = max (max (max l m) h) (max l m + 1) := by rw [mx_top, mx_mid]
theorem mx_m (l m h : Int) : max (max (l + 1) m) h = max (max (max l m) h) (l + 1) := by rw [mx_mid, mx_rc]
theorem wL_step (s : WS) (c : Nat) : wL (wStep s c) = lStep (wL s) c := by
  unfold wStep lStep
  split
  · exact Tri.ext' rfl rfl (mx_top _ _)
  · split
    · split <;> exact Tri.ext' rfl (mx_top _ _) (mx_t _ _ _)
    · split <;> exact Tri.ext' rfl (mx_mid _ _) (mx_m _ _ _)
theorem ring3 (a b c : Int) : a + 1 + b + c = a + b + c + 1 := by rw [Int.add_right_comm a 1 b, Int.add_right_comm _ 1 c]
theorem back3 (a b c : Int) : a - 1 + (b + 1) + c = a + b + c := by omega
theorem back2 (a b : Int) : a - 1 + (b + 1) = a + b := by omega
theorem one_mid (a b : Int) : a + 1 + b = a + b + 1 := Int.add_right_comm a 1 b
theorem shift3 (a b c : Int) : a + (b - 1) + (c + 1) = a + b + c := by omega
theorem mn_yes {f r : Int} (h : f > 0) : r + 1 = min (f + r) (r + 1) := (Int.min_eq_right (by rw [Int.add_comm f r]; exact Int.add_le_add_left h r)).symm
theorem mn_no {f r : Int} (h0 : 0 ≤ f) (h : ¬ f > 0) : r = min (f + r) (r + 1) := by
  have e : f = 0 := Int.le_antisymm (Int.not_lt.mp h) h0
  rw [e, Int.zero_add]
  exact (Int.min_eq_left (Int.le_add_one (Int.le_refl _))).symm
theorem wT_step {s : WS} (h : WOk s) (c : Nat) : wT (wStep s c) = tStep (wT s) c := by
  obtain ⟨h1, h2, h3⟩ := h
  unfold wStep tStep
  split
  · exact Tri.ext' (ring3 _ _ _) rfl rfl
  · split
    · split
      · rename_i q
        refine Tri.ext' (back3 _ _ _) ?_ rfl
        show s.pairs + 1 + s.triples = min (s.free + s.pairs + s.triples) (s.pairs + s.triples + 1)
        rw [one_mid, Int.add_assoc s.free]
        exact mn_yes q
      · rename_i q
        refine Tri.ext' rfl ?_ rfl
        show s.pairs + s.triples = min (s.free + s.pairs + s.triples) (s.pairs + s.triples + 1)
        rw [Int.add_assoc s.free]
        exact mn_no h1 q
    · split
      · rename_i q
        exact Tri.ext' (shift3 _ _ _) (back2 _ _) (mn_yes q)
      · rename_i q
        exact Tri.ext' rfl rfl (mn_no h2 q)
theorem in_one (a b : Int) : a + 1 + b = a + (b + 1) := by rw [Int.add_assoc, Int.add_comm 1 b]
section
variable {a b c x y z : Int}
theorem run_s (h1 : a ≤ b) (h2 : b ≤ c) : max (a + z) (max (b + y) (c + 1 + x)) = max (a + max z (x + 1)) (max (b + max y (x + 1)) (c + (x + 1))) := eqmax fun t => by
  rw [Int.max_le, Int.max_le, Int.max_le, Int.max_le, add_max_le, add_max_le, in_one]
  exact ⟨fun ⟨p, q, r⟩ => ⟨⟨p, Int.le_trans (Int.add_le_add_right (Int.le_trans h1 h2) _) r⟩, ⟨q, Int.le_trans (Int.add_le_add_right h2 _) r⟩, r⟩, fun ⟨p, q, r⟩ => ⟨p.1, q.1, r⟩⟩
theorem run_t (h1 : a ≤ b) (h2 : x ≤ y) : max (a + z) (max (b + 1 + y) (max c (b + 1) + x)) = max (a + max z (y + 1)) (max (b + (y + 1)) (c + x)) := eqmax fun t => by
  rw [Int.max_le, Int.max_le, Int.max_le, Int.max_le, add_max_le, max_add_le, in_one, in_one]
  exact ⟨fun ⟨p, q, r⟩ => ⟨⟨p, Int.le_trans (Int.add_le_add_right h1 _) q⟩, q, r.1⟩, fun ⟨p, q, r⟩ => ⟨p.1, q, r, Int.le_trans (Int.add_le_add_left (Int.add_le_add_right h2 1) _) q⟩⟩
theorem run_m (h1 : x ≤ y) (h2 : y ≤ z) : max (a + 1 + z) (max (max b (a + 1) + y) (max c (a + 1) + x)) = max (a + (z + 1)) (max (b + y) (c + x)) := eqmax fun t => by
  rw [Int.max_le, Int.max_le, Int.max_le, Int.max_le, max_add_le, max_add_le, in_one, in_one, in_one]
  exact ⟨fun ⟨p, q, r⟩ => ⟨p, q.1, r.1⟩, fun ⟨p, q, r⟩ => ⟨p, ⟨q, Int.le_trans (Int.add_le_add_left (Int.add_le_add_right h2 1) _) p⟩, r, Int.le_trans (Int.add_le_add_left (Int.add_le_add_right (Int.le_trans h1 h2) 1) _) p⟩⟩
theorem tun_s (h1 : b ≤ a) : min (a + 1 + z) (min (b + y) (c + x)) = min (a + min y (z + 1)) (min (b + y) (c + x)) := eqmin fun t => by
  rw [Int.le_min, Int.le_min, Int.le_min, Int.le_min, le_add_min, in_one]
  exact ⟨fun ⟨p, q⟩ => ⟨⟨Int.le_trans q.1 (Int.add_le_add_right h1 _), p⟩, q⟩, fun ⟨p, q⟩ => ⟨p.2, q⟩⟩
theorem tun_t (h1 : z ≤ y) (h2 : c ≤ b) : min (a + z) (min (min a (b + 1) + y) (c + x)) = min (a + z) (min (b + min x (y + 1)) (c + x)) := eqmin fun t => by
  rw [Int.le_min, Int.le_min, Int.le_min, Int.le_min, le_add_min, le_min_add, in_one]
  exact ⟨fun ⟨p, q, r⟩ => ⟨p, ⟨Int.le_trans r (Int.add_le_add_right h2 _), q.2⟩, r⟩, fun ⟨p, q, r⟩ => ⟨p, ⟨Int.le_trans p (Int.add_le_add_left h1 _), q.2⟩, r⟩⟩
theorem tun_m (h1 : y ≤ x) : min (a + z) (min (b + y) (min b (c + 1) + x)) = min (a + z) (min (b + y) (c + (x + 1))) := eqmin fun t => by
  rw [Int.le_min, Int.le_min, Int.le_min, Int.le_min, le_min_add, in_one]
  exact ⟨fun ⟨p, q, r⟩ => ⟨p, q, r.2⟩, fun ⟨p, q, r⟩ => ⟨p, q, Int.le_trans q (Int.add_le_add_left h1 _), r⟩⟩
end
theorem wL_ord (s : WS) : (wL s).x ≤ (wL s).y ∧ (wL s).y ≤ (wL s).z := ⟨Int.le_max_left _ _, Int.le_max_left _ _⟩
theorem wT_ord {s : WS} (h : WOk s) : (wT s).y ≤ (wT s).x ∧ (wT s).z ≤ (wT s).y := ⟨by
  show s.pairs + s.triples ≤ s.free + s.pairs + s.triples
  rw [Int.add_assoc]; exact Int.le_add_of_nonneg_left h.1, Int.le_add_of_nonneg_left h.2.1⟩
/-- the run from the left and the run from the right -/
theorem lis_run : ∀ (w : List Nat) (s : WS), (wL (w.foldl wStep s)).z = max ((wL s).x + (lisB w).z) (max ((wL s).y + (lisB w).y) ((wL s).z + (lisB w).x))
  | [], s => by
    have h := wL_ord s
    simp only [List.foldl_nil, lisB, Int.add_zero]
    rw [Int.max_eq_right h.2, Int.max_eq_right (Int.le_trans h.1 h.2)]
  | c :: r, s => by
    rw [List.foldl_cons, lis_run r, wL_step]
    have h := wL_ord s
    have o := lisB_ord r
    simp only [lisB, lStep, bStep]
    split
    · exact run_s h.1 h.2
    · split
      · exact run_t h.1 o.2.1
      · exact run_m o.2.1 o.2.2.1
theorem tri_run : ∀ (w : List Nat) {s : WS}, WOk s → (wT (w.foldl wStep s)).z = min ((wT s).x + (triB w).z) (min ((wT s).y + (triB w).y) ((wT s).z + (triB w).x))
  | [], s, h => by
    have h := wT_ord h
    simp only [List.foldl_nil, triB, Int.add_zero]
    rw [Int.min_eq_right h.2, Int.min_eq_right (Int.le_trans h.2 h.1)]
  | c :: r, s, h => by
    rw [List.foldl_cons, tri_run r (wStep_ok h c), wT_step h]
    have h := wT_ord h
    have o := triB_ord r
    simp only [triB, tStep, dStep]
    split
    · exact tun_s h.1
    · split
      · exact tun_t o.2.1 h.2
      · exact tun_m o.2.2
theorem wZero_ok : WOk wZero := ⟨Int.le_refl _, Int.le_refl _, Int.le_refl _⟩
/-- the longest rising run of a text's letters -/
theorem lis_zero (w : List Nat) : (wL (w.foldl wStep wZero)).z = (lisB w).z := by
  rw [lis_run]
  obtain ⟨-, h1, h2, -⟩ := lisB_ord w
  show max (0 + (lisB w).z) (max (0 + (lisB w).y) (0 + (lisB w).x)) = _
  rw [Int.zero_add, Int.zero_add, Int.zero_add, Int.max_eq_left h1, Int.max_eq_left h2]
theorem tri_zero (w : List Nat) : (w.foldl wStep wZero).triples = (triB w).z := by
  obtain ⟨-, h1, h2⟩ := triB_ord w
  refine (tri_run w wZero_ok).trans ?_
  show min (0 + (triB w).z) (min (0 + (triB w).y) (0 + (triB w).x)) = _
  rw [Int.zero_add, Int.zero_add, Int.zero_add, Int.min_eq_left h2, Int.min_eq_left h1]
theorem size_run : ∀ (w : List Nat) (s : WS), (w.foldl wStep s).size = s.size + w.length
  | [], s => by simp
  | c :: r, s => by
    rw [List.foldl_cons, size_run r]
    have : (wStep s c).size = s.size + 1 := by
      unfold wStep
      split
      · rfl
      · split <;> split <;> rfl
    rw [this, List.length_cons]; omega
/-- the seven kinds of a spot -/
noncomputable def kindsA : List (List Nat × List Nat) := [([], []), ([115, 116], [109]), ([116], [115, 109]), ([109], [115, 116]), ([115, 109], [116]), ([115], [116, 109]), ([116, 109], [115])]
theorem lisB_app (v : List Nat) : ∀ w, lisB (w ++ v) = (w.foldr (fun c q => bStep q c) (lisB v))
  | [] => rfl
  | c :: r => by simp only [List.cons_append, lisB, List.foldr_cons]; rw [lisB_app v r]
theorem triB_app (v : List Nat) : ∀ w, triB (w ++ v) = (w.foldr (fun c q => dStep q c) (triB v))
  | [] => rfl
  | c :: r => by simp only [List.cons_append, triB, List.foldr_cons]; rw [triB_app v r]
/-- what holds between a strip and its other side -/
structure Inv (s : WS) (v : List Nat) (n : Int) : Prop where
  ok : WOk s
  a1 : (lisB v).x = n - (wT s).x
  a2 : (lisB v).y = n - (wT s).y
  a3 : (lisB v).z = n - (wT s).z
  b1 : (triB v).x = n - (wL s).x
  b2 : (triB v).y = n - (wL s).y
  b3 : (triB v).z = n - (wL s).z
theorem inv_zero : Inv wZero [] 0 := ⟨wZero_ok, rfl, rfl, rfl, rfl, rfl, rfl⟩
theorem tri3 {x y z x' y' z' : Int} (h1 : x = x') (h2 : y = y') (h3 : z = z') : Tri.mk x y z = Tri.mk x' y' z' := by rw [h1, h2, h3]
noncomputable def comp (n : Int) (q : Tri) : Tri := ⟨n - q.x, n - q.y, n - q.z⟩
theorem st_b (q : Tri) : bStep q 115 = ⟨q.x + 1, max q.y (q.x + 1), max q.z (q.x + 1)⟩ ∧ bStep q 116 = ⟨q.x, q.y + 1, max q.z (q.y + 1)⟩ ∧ bStep q 109 = ⟨q.x, q.y, q.z + 1⟩ := ⟨rfl, rfl, rfl⟩
theorem st_d (q : Tri) : dStep q 115 = ⟨q.x, q.y, min q.y (q.z + 1)⟩ ∧ dStep q 116 = ⟨q.x, min q.x (q.y + 1), q.z⟩ ∧ dStep q 109 = ⟨q.x + 1, q.y, q.z⟩ := ⟨rfl, rfl, rfl⟩
theorem st_l (q : Tri) : lStep q 115 = ⟨q.x, q.y, q.z + 1⟩ ∧ lStep q 116 = ⟨q.x, q.y + 1, max q.z (q.y + 1)⟩ ∧ lStep q 109 = ⟨q.x + 1, max q.y (q.x + 1), max q.z (q.x + 1)⟩ := ⟨rfl, rfl, rfl⟩
theorem st_t (q : Tri) : tStep q 115 = ⟨q.x + 1, q.y, q.z⟩ ∧ tStep q 116 = ⟨q.x, min q.x (q.y + 1), q.z⟩ ∧ tStep q 109 = ⟨q.x, q.y, min q.y (q.z + 1)⟩ := ⟨rfl, rfl, rfl⟩
section
variable {n x y z : Int}
theorem cs (n a : Int) : n + 1 - (a + 1) = n - a := Int.add_sub_add_right n 1 a
theorem ca (n a : Int) : n - a + 1 = n + 1 - a := by rw [Int.sub_eq_add_neg, Int.sub_eq_add_neg, Int.add_right_comm]
theorem le_c {a b : Int} (n : Int) (h : a ≤ b) : n - b ≤ n - a := Int.sub_le_sub_left h n
theorem smin (n a b : Int) : n - min a b = max (n - a) (n - b) := by
  rcases Int.le_total a b with h | h
  · rw [Int.min_eq_left h, Int.max_eq_left (le_c n h)]
  · rw [Int.min_eq_right h, Int.max_eq_right (le_c n h)]
theorem smax (n a b : Int) : n - max a b = min (n - a) (n - b) := by
  rcases Int.le_total a b with h | h
  · rw [Int.max_eq_right h, Int.min_eq_right (le_c n h)]
  · rw [Int.max_eq_left h, Int.min_eq_left (le_c n h)]
theorem dmn {A B C : Int} (h : C ≤ B) : min (min A B) C = min C A := by rw [Int.min_assoc, Int.min_eq_right h, Int.min_comm]
theorem dmx {A B C : Int} (h : B ≤ C) : max (max A B) C = max C A := by rw [Int.max_assoc, Int.max_eq_right h, Int.max_comm]
theorem dmn2 {A B C : Int} (h : C ≤ B) : min (min A B) C = min A C := by rw [Int.min_assoc, Int.min_eq_right h]
theorem dmx2 {A B C : Int} (h : B ≤ C) : max (max A B) C = max A C := by rw [Int.max_assoc, Int.max_eq_right h]
theorem dmn3 {A B C : Int} (h : A ≤ C) : min (min A B) C = min A B := by rw [Int.min_assoc, Int.min_comm B C, ← Int.min_assoc, Int.min_eq_left h]
theorem dmx3 {A B C : Int} (h : C ≤ A) : max (max A B) C = max A B := by rw [Int.max_assoc, Int.max_comm B C, ← Int.max_assoc, Int.max_eq_left h]
theorem dmn4 {A B C : Int} (h : B ≤ C) : min (min A B) C = min A B := by rw [Int.min_assoc, Int.min_eq_left h]
theorem dmx4 {A B C : Int} (h : C ≤ B) : max (max A B) C = max A B := by rw [Int.max_assoc, Int.max_eq_left h]
theorem mxl {n a b : Int} (h : a ≤ b) : max (n - a) (n - b) = n - a := Int.max_eq_left (le_c n h)
theorem mnl {n a b : Int} (h : a ≤ b) : min (n - a) (n - b) = n - b := Int.min_eq_right (le_c n h)
theorem kb1 (h1 : z ≤ y) (h2 : y ≤ x) : (bStep (comp n ⟨x, y, z⟩) 109) = comp (n + 1) (tStep (tStep ⟨x, y, z⟩ 115) 116) := by
  simp only [comp, (st_b _).1, (st_b _).2.1, (st_b _).2.2, (st_t _).1, (st_t _).2.1, (st_t _).2.2]
  simp only [smin, smax, cs, ca]
  refine tri3 ?_ ?_ ?_ <;> first | with_reducible rfl | with_reducible exact Int.max_comm _ _ | with_reducible exact Int.min_comm _ _ | with_reducible exact Int.max_eq_left (le_c _ h1) | with_reducible exact (Int.max_eq_left (le_c _ h1)).symm | with_reducible exact Int.max_eq_right (le_c _ h1) | with_reducible exact (Int.max_eq_right (le_c _ h1)).symm | with_reducible exact Int.min_eq_left (le_c _ h1) | with_reducible exact (Int.min_eq_left (le_c _ h1)).symm | with_reducible exact Int.min_eq_right (le_c _ h1) | with_reducible exact (Int.min_eq_right (le_c _ h1)).symm | with_reducible exact dmn (le_c _ h1) | with_reducible exact (dmn (le_c _ h1)).symm | with_reducible exact (dmn (le_c _ h1)).trans (Int.min_comm _ _) | with_reducible exact dmx (le_c _ h1) | with_reducible exact (dmx (le_c _ h1)).symm | with_reducible exact (dmx (le_c _ h1)).trans (Int.max_comm _ _) | with_reducible exact dmn2 (le_c _ h1) | with_reducible exact (dmn2 (le_c _ h1)).symm | with_reducible exact (dmn2 (le_c _ h1)).trans (Int.min_comm _ _) | with_reducible exact dmx2 (le_c _ h1) | with_reducible exact (dmx2 (le_c _ h1)).symm | with_reducible exact (dmx2 (le_c _ h1)).trans (Int.max_comm _ _) | with_reducible exact dmn3 (le_c _ h1) | with_reducible exact (dmn3 (le_c _ h1)).symm | with_reducible exact (dmn3 (le_c _ h1)).trans (Int.min_comm _ _) | with_reducible exact dmx3 (le_c _ h1) | with_reducible exact (dmx3 (le_c _ h1)).symm | with_reducible exact (dmx3 (le_c _ h1)).trans (Int.max_comm _ _) | with_reducible exact dmn4 (le_c _ h1) | with_reducible exact (dmn4 (le_c _ h1)).symm | with_reducible exact (dmn4 (le_c _ h1)).trans (Int.min_comm _ _) | with_reducible exact dmx4 (le_c _ h1) | with_reducible exact (dmx4 (le_c _ h1)).symm | with_reducible exact (dmx4 (le_c _ h1)).trans (Int.max_comm _ _) | with_reducible exact Int.max_eq_left (le_c _ h2) | with_reducible exact (Int.max_eq_left (le_c _ h2)).symm | with_reducible exact Int.max_eq_right (le_c _ h2) | with_reducible exact (Int.max_eq_right (le_c _ h2)).symm | with_reducible exact Int.min_eq_left (le_c _ h2) | with_reducible exact (Int.min_eq_left (le_c _ h2)).symm | with_reducible exact Int.min_eq_right (le_c _ h2) | with_reducible exact (Int.min_eq_right (le_c _ h2)).symm | with_reducible exact dmn (le_c _ h2) | with_reducible exact (dmn (le_c _ h2)).symm | with_reducible exact (dmn (le_c _ h2)).trans (Int.min_comm _ _) | with_reducible exact dmx (le_c _ h2) | with_reducible exact (dmx (le_c _ h2)).symm | with_reducible exact (dmx (le_c _ h2)).trans (Int.max_comm _ _) | with_reducible exact dmn2 (le_c _ h2) | with_reducible exact (dmn2 (le_c _ h2)).symm | with_reducible exact (dmn2 (le_c _ h2)).trans (Int.min_comm _ _) | with_reducible exact dmx2 (le_c _ h2) | with_reducible exact (dmx2 (le_c _ h2)).symm | with_reducible exact (dmx2 (le_c _ h2)).trans (Int.max_comm _ _) | with_reducible exact dmn3 (le_c _ h2) | with_reducible exact (dmn3 (le_c _ h2)).symm | with_reducible exact (dmn3 (le_c _ h2)).trans (Int.min_comm _ _) | with_reducible exact dmx3 (le_c _ h2) | with_reducible exact (dmx3 (le_c _ h2)).symm | with_reducible exact (dmx3 (le_c _ h2)).trans (Int.max_comm _ _) | with_reducible exact dmn4 (le_c _ h2) | with_reducible exact (dmn4 (le_c _ h2)).symm | with_reducible exact (dmn4 (le_c _ h2)).trans (Int.min_comm _ _) | with_reducible exact dmx4 (le_c _ h2) | with_reducible exact (dmx4 (le_c _ h2)).symm | with_reducible exact (dmx4 (le_c _ h2)).trans (Int.max_comm _ _) | with_reducible exact Int.max_eq_left (le_c _ (Int.le_trans h1 h2)) | with_reducible exact (Int.max_eq_left (le_c _ (Int.le_trans h1 h2))).symm | with_reducible exact Int.max_eq_right (le_c _ (Int.le_trans h1 h2)) | with_reducible exact (Int.max_eq_right (le_c _ (Int.le_trans h1 h2))).symm | with_reducible exact Int.min_eq_left (le_c _ (Int.le_trans h1 h2)) | with_reducible exact (Int.min_eq_left (le_c _ (Int.le_trans h1 h2))).symm | with_reducible exact Int.min_eq_right (le_c _ (Int.le_trans h1 h2)) | with_reducible exact (Int.min_eq_right (le_c _ (Int.le_trans h1 h2))).symm | with_reducible exact dmn (le_c _ (Int.le_trans h1 h2)) | with_reducible exact (dmn (le_c _ (Int.le_trans h1 h2))).symm | with_reducible exact (dmn (le_c _ (Int.le_trans h1 h2))).trans (Int.min_comm _ _) | with_reducible exact dmx (le_c _ (Int.le_trans h1 h2)) | with_reducible exact (dmx (le_c _ (Int.le_trans h1 h2))).symm | with_reducible exact (dmx (le_c _ (Int.le_trans h1 h2))).trans (Int.max_comm _ _) | with_reducible exact dmn2 (le_c _ (Int.le_trans h1 h2)) | with_reducible exact (dmn2 (le_c _ (Int.le_trans h1 h2))).symm | with_reducible exact (dmn2 (le_c _ (Int.le_trans h1 h2))).trans (Int.min_comm _ _) | with_reducible exact dmx2 (le_c _ (Int.le_trans h1 h2)) | with_reducible exact (dmx2 (le_c _ (Int.le_trans h1 h2))).symm | with_reducible exact (dmx2 (le_c _ (Int.le_trans h1 h2))).trans (Int.max_comm _ _) | with_reducible exact dmn3 (le_c _ (Int.le_trans h1 h2)) | with_reducible exact (dmn3 (le_c _ (Int.le_trans h1 h2))).symm | with_reducible exact (dmn3 (le_c _ (Int.le_trans h1 h2))).trans (Int.min_comm _ _) | with_reducible exact dmx3 (le_c _ (Int.le_trans h1 h2)) | with_reducible exact (dmx3 (le_c _ (Int.le_trans h1 h2))).symm | with_reducible exact (dmx3 (le_c _ (Int.le_trans h1 h2))).trans (Int.max_comm _ _) | with_reducible exact dmn4 (le_c _ (Int.le_trans h1 h2)) | with_reducible exact (dmn4 (le_c _ (Int.le_trans h1 h2))).symm | with_reducible exact (dmn4 (le_c _ (Int.le_trans h1 h2))).trans (Int.min_comm _ _) | with_reducible exact dmx4 (le_c _ (Int.le_trans h1 h2)) | with_reducible exact (dmx4 (le_c _ (Int.le_trans h1 h2))).symm | with_reducible exact (dmx4 (le_c _ (Int.le_trans h1 h2))).trans (Int.max_comm _ _) | with_reducible exact ((dmn4 (le_c _ h1)).trans (Int.min_comm _ _)).symm | lia
theorem kd1 (h1 : x ≤ y) (h2 : y ≤ z) : (dStep (comp n ⟨x, y, z⟩) 109) = comp (n + 1) (lStep (lStep ⟨x, y, z⟩ 115) 116) := by
  simp only [comp, (st_d _).1, (st_d _).2.1, (st_d _).2.2, (st_l _).1, (st_l _).2.1, (st_l _).2.2]
  simp only [smin, smax, cs, ca]
  refine tri3 ?_ ?_ ?_ <;> first | with_reducible rfl | with_reducible exact Int.max_comm _ _ | with_reducible exact Int.min_comm _ _ | with_reducible exact Int.max_eq_left (le_c _ h1) | with_reducible exact (Int.max_eq_left (le_c _ h1)).symm | with_reducible exact Int.max_eq_right (le_c _ h1) | with_reducible exact (Int.max_eq_right (le_c _ h1)).symm | with_reducible exact Int.min_eq_left (le_c _ h1) | with_reducible exact (Int.min_eq_left (le_c _ h1)).symm | with_reducible exact Int.min_eq_right (le_c _ h1) | with_reducible exact (Int.min_eq_right (le_c _ h1)).symm | with_reducible exact dmn (le_c _ h1) | with_reducible exact (dmn (le_c _ h1)).symm | with_reducible exact (dmn (le_c _ h1)).trans (Int.min_comm _ _) | with_reducible exact dmx (le_c _ h1) | with_reducible exact (dmx (le_c _ h1)).symm | with_reducible exact (dmx (le_c _ h1)).trans (Int.max_comm _ _) | with_reducible exact dmn2 (le_c _ h1) | with_reducible exact (dmn2 (le_c _ h1)).symm | with_reducible exact (dmn2 (le_c _ h1)).trans (Int.min_comm _ _) | with_reducible exact dmx2 (le_c _ h1) | with_reducible exact (dmx2 (le_c _ h1)).symm | with_reducible exact (dmx2 (le_c _ h1)).trans (Int.max_comm _ _) | with_reducible exact dmn3 (le_c _ h1) | with_reducible exact (dmn3 (le_c _ h1)).symm | with_reducible exact (dmn3 (le_c _ h1)).trans (Int.min_comm _ _) | with_reducible exact dmx3 (le_c _ h1) | with_reducible exact (dmx3 (le_c _ h1)).symm | with_reducible exact (dmx3 (le_c _ h1)).trans (Int.max_comm _ _) | with_reducible exact dmn4 (le_c _ h1) | with_reducible exact (dmn4 (le_c _ h1)).symm | with_reducible exact (dmn4 (le_c _ h1)).trans (Int.min_comm _ _) | with_reducible exact dmx4 (le_c _ h1) | with_reducible exact (dmx4 (le_c _ h1)).symm | with_reducible exact (dmx4 (le_c _ h1)).trans (Int.max_comm _ _) | with_reducible exact Int.max_eq_left (le_c _ h2) | with_reducible exact (Int.max_eq_left (le_c _ h2)).symm | with_reducible exact Int.max_eq_right (le_c _ h2) | with_reducible exact (Int.max_eq_right (le_c _ h2)).symm | with_reducible exact Int.min_eq_left (le_c _ h2) | with_reducible exact (Int.min_eq_left (le_c _ h2)).symm | with_reducible exact Int.min_eq_right (le_c _ h2) | with_reducible exact (Int.min_eq_right (le_c _ h2)).symm | with_reducible exact dmn (le_c _ h2) | with_reducible exact (dmn (le_c _ h2)).symm | with_reducible exact (dmn (le_c _ h2)).trans (Int.min_comm _ _) | with_reducible exact dmx (le_c _ h2) | with_reducible exact (dmx (le_c _ h2)).symm | with_reducible exact (dmx (le_c _ h2)).trans (Int.max_comm _ _) | with_reducible exact dmn2 (le_c _ h2) | with_reducible exact (dmn2 (le_c _ h2)).symm | with_reducible exact (dmn2 (le_c _ h2)).trans (Int.min_comm _ _) | with_reducible exact dmx2 (le_c _ h2) | with_reducible exact (dmx2 (le_c _ h2)).symm | with_reducible exact (dmx2 (le_c _ h2)).trans (Int.max_comm _ _) | with_reducible exact dmn3 (le_c _ h2) | with_reducible exact (dmn3 (le_c _ h2)).symm | with_reducible exact (dmn3 (le_c _ h2)).trans (Int.min_comm _ _) | with_reducible exact dmx3 (le_c _ h2) | with_reducible exact (dmx3 (le_c _ h2)).symm | with_reducible exact (dmx3 (le_c _ h2)).trans (Int.max_comm _ _) | with_reducible exact dmn4 (le_c _ h2) | with_reducible exact (dmn4 (le_c _ h2)).symm | with_reducible exact (dmn4 (le_c _ h2)).trans (Int.min_comm _ _) | with_reducible exact dmx4 (le_c _ h2) | with_reducible exact (dmx4 (le_c _ h2)).symm | with_reducible exact (dmx4 (le_c _ h2)).trans (Int.max_comm _ _) | with_reducible exact Int.max_eq_left (le_c _ (Int.le_trans h1 h2)) | with_reducible exact (Int.max_eq_left (le_c _ (Int.le_trans h1 h2))).symm | with_reducible exact Int.max_eq_right (le_c _ (Int.le_trans h1 h2)) | with_reducible exact (Int.max_eq_right (le_c _ (Int.le_trans h1 h2))).symm | with_reducible exact Int.min_eq_left (le_c _ (Int.le_trans h1 h2)) | with_reducible exact (Int.min_eq_left (le_c _ (Int.le_trans h1 h2))).symm | with_reducible exact Int.min_eq_right (le_c _ (Int.le_trans h1 h2)) | with_reducible exact (Int.min_eq_right (le_c _ (Int.le_trans h1 h2))).symm | with_reducible exact dmn (le_c _ (Int.le_trans h1 h2)) | with_reducible exact (dmn (le_c _ (Int.le_trans h1 h2))).symm | with_reducible exact (dmn (le_c _ (Int.le_trans h1 h2))).trans (Int.min_comm _ _) | with_reducible exact dmx (le_c _ (Int.le_trans h1 h2)) | with_reducible exact (dmx (le_c _ (Int.le_trans h1 h2))).symm | with_reducible exact (dmx (le_c _ (Int.le_trans h1 h2))).trans (Int.max_comm _ _) | with_reducible exact dmn2 (le_c _ (Int.le_trans h1 h2)) | with_reducible exact (dmn2 (le_c _ (Int.le_trans h1 h2))).symm | with_reducible exact (dmn2 (le_c _ (Int.le_trans h1 h2))).trans (Int.min_comm _ _) | with_reducible exact dmx2 (le_c _ (Int.le_trans h1 h2)) | with_reducible exact (dmx2 (le_c _ (Int.le_trans h1 h2))).symm | with_reducible exact (dmx2 (le_c _ (Int.le_trans h1 h2))).trans (Int.max_comm _ _) | with_reducible exact dmn3 (le_c _ (Int.le_trans h1 h2)) | with_reducible exact (dmn3 (le_c _ (Int.le_trans h1 h2))).symm | with_reducible exact (dmn3 (le_c _ (Int.le_trans h1 h2))).trans (Int.min_comm _ _) | with_reducible exact dmx3 (le_c _ (Int.le_trans h1 h2)) | with_reducible exact (dmx3 (le_c _ (Int.le_trans h1 h2))).symm | with_reducible exact (dmx3 (le_c _ (Int.le_trans h1 h2))).trans (Int.max_comm _ _) | with_reducible exact dmn4 (le_c _ (Int.le_trans h1 h2)) | with_reducible exact (dmn4 (le_c _ (Int.le_trans h1 h2))).symm | with_reducible exact (dmn4 (le_c _ (Int.le_trans h1 h2))).trans (Int.min_comm _ _) | with_reducible exact dmx4 (le_c _ (Int.le_trans h1 h2)) | with_reducible exact (dmx4 (le_c _ (Int.le_trans h1 h2))).symm | with_reducible exact (dmx4 (le_c _ (Int.le_trans h1 h2))).trans (Int.max_comm _ _) | with_reducible exact ((dmn4 (le_c _ h1)).trans (Int.min_comm _ _)).symm | lia
theorem kb2 (h1 : z ≤ y) (h2 : y ≤ x) : (bStep (bStep (comp n ⟨x, y, z⟩) 109) 115) = comp (n + 1) (tStep ⟨x, y, z⟩ 116) := by
  simp only [comp, (st_b _).1, (st_b _).2.1, (st_b _).2.2, (st_t _).1, (st_t _).2.1, (st_t _).2.2]
  simp only [smin, smax, cs, ca]
  refine tri3 ?_ ?_ ?_ <;> first | with_reducible rfl | with_reducible exact Int.max_comm _ _ | with_reducible exact Int.min_comm _ _ | with_reducible exact Int.max_eq_left (le_c _ h1) | with_reducible exact (Int.max_eq_left (le_c _ h1)).symm | with_reducible exact Int.max_eq_right (le_c _ h1) | with_reducible exact (Int.max_eq_right (le_c _ h1)).symm | with_reducible exact Int.min_eq_left (le_c _ h1) | with_reducible exact (Int.min_eq_left (le_c _ h1)).symm | with_reducible exact Int.min_eq_right (le_c _ h1) | with_reducible exact (Int.min_eq_right (le_c _ h1)).symm | with_reducible exact dmn (le_c _ h1) | with_reducible exact (dmn (le_c _ h1)).symm | with_reducible exact (dmn (le_c _ h1)).trans (Int.min_comm _ _) | with_reducible exact dmx (le_c _ h1) | with_reducible exact (dmx (le_c _ h1)).symm | with_reducible exact (dmx (le_c _ h1)).trans (Int.max_comm _ _) | with_reducible exact dmn2 (le_c _ h1) | with_reducible exact (dmn2 (le_c _ h1)).symm | with_reducible exact (dmn2 (le_c _ h1)).trans (Int.min_comm _ _) | with_reducible exact dmx2 (le_c _ h1) | with_reducible exact (dmx2 (le_c _ h1)).symm | with_reducible exact (dmx2 (le_c _ h1)).trans (Int.max_comm _ _) | with_reducible exact dmn3 (le_c _ h1) | with_reducible exact (dmn3 (le_c _ h1)).symm | with_reducible exact (dmn3 (le_c _ h1)).trans (Int.min_comm _ _) | with_reducible exact dmx3 (le_c _ h1) | with_reducible exact (dmx3 (le_c _ h1)).symm | with_reducible exact (dmx3 (le_c _ h1)).trans (Int.max_comm _ _) | with_reducible exact dmn4 (le_c _ h1) | with_reducible exact (dmn4 (le_c _ h1)).symm | with_reducible exact (dmn4 (le_c _ h1)).trans (Int.min_comm _ _) | with_reducible exact dmx4 (le_c _ h1) | with_reducible exact (dmx4 (le_c _ h1)).symm | with_reducible exact (dmx4 (le_c _ h1)).trans (Int.max_comm _ _) | with_reducible exact Int.max_eq_left (le_c _ h2) | with_reducible exact (Int.max_eq_left (le_c _ h2)).symm | with_reducible exact Int.max_eq_right (le_c _ h2) | with_reducible exact (Int.max_eq_right (le_c _ h2)).symm | with_reducible exact Int.min_eq_left (le_c _ h2) | with_reducible exact (Int.min_eq_left (le_c _ h2)).symm | with_reducible exact Int.min_eq_right (le_c _ h2) | with_reducible exact (Int.min_eq_right (le_c _ h2)).symm | with_reducible exact dmn (le_c _ h2) | with_reducible exact (dmn (le_c _ h2)).symm | with_reducible exact (dmn (le_c _ h2)).trans (Int.min_comm _ _) | with_reducible exact dmx (le_c _ h2) | with_reducible exact (dmx (le_c _ h2)).symm | with_reducible exact (dmx (le_c _ h2)).trans (Int.max_comm _ _) | with_reducible exact dmn2 (le_c _ h2) | with_reducible exact (dmn2 (le_c _ h2)).symm | with_reducible exact (dmn2 (le_c _ h2)).trans (Int.min_comm _ _) | with_reducible exact dmx2 (le_c _ h2) | with_reducible exact (dmx2 (le_c _ h2)).symm | with_reducible exact (dmx2 (le_c _ h2)).trans (Int.max_comm _ _) | with_reducible exact dmn3 (le_c _ h2) | with_reducible exact (dmn3 (le_c _ h2)).symm | with_reducible exact (dmn3 (le_c _ h2)).trans (Int.min_comm _ _) | with_reducible exact dmx3 (le_c _ h2) | with_reducible exact (dmx3 (le_c _ h2)).symm | with_reducible exact (dmx3 (le_c _ h2)).trans (Int.max_comm _ _) | with_reducible exact dmn4 (le_c _ h2) | with_reducible exact (dmn4 (le_c _ h2)).symm | with_reducible exact (dmn4 (le_c _ h2)).trans (Int.min_comm _ _) | with_reducible exact dmx4 (le_c _ h2) | with_reducible exact (dmx4 (le_c _ h2)).symm | with_reducible exact (dmx4 (le_c _ h2)).trans (Int.max_comm _ _) | with_reducible exact Int.max_eq_left (le_c _ (Int.le_trans h1 h2)) | with_reducible exact (Int.max_eq_left (le_c _ (Int.le_trans h1 h2))).symm | with_reducible exact Int.max_eq_right (le_c _ (Int.le_trans h1 h2)) | with_reducible exact (Int.max_eq_right (le_c _ (Int.le_trans h1 h2))).symm | with_reducible exact Int.min_eq_left (le_c _ (Int.le_trans h1 h2)) | with_reducible exact (Int.min_eq_left (le_c _ (Int.le_trans h1 h2))).symm | with_reducible exact Int.min_eq_right (le_c _ (Int.le_trans h1 h2)) | with_reducible exact (Int.min_eq_right (le_c _ (Int.le_trans h1 h2))).symm | with_reducible exact dmn (le_c _ (Int.le_trans h1 h2)) | with_reducible exact (dmn (le_c _ (Int.le_trans h1 h2))).symm | with_reducible exact (dmn (le_c _ (Int.le_trans h1 h2))).trans (Int.min_comm _ _) | with_reducible exact dmx (le_c _ (Int.le_trans h1 h2)) | with_reducible exact (dmx (le_c _ (Int.le_trans h1 h2))).symm | with_reducible exact (dmx (le_c _ (Int.le_trans h1 h2))).trans (Int.max_comm _ _) | with_reducible exact dmn2 (le_c _ (Int.le_trans h1 h2)) | with_reducible exact (dmn2 (le_c _ (Int.le_trans h1 h2))).symm | with_reducible exact (dmn2 (le_c _ (Int.le_trans h1 h2))).trans (Int.min_comm _ _) | with_reducible exact dmx2 (le_c _ (Int.le_trans h1 h2)) | with_reducible exact (dmx2 (le_c _ (Int.le_trans h1 h2))).symm | with_reducible exact (dmx2 (le_c _ (Int.le_trans h1 h2))).trans (Int.max_comm _ _) | with_reducible exact dmn3 (le_c _ (Int.le_trans h1 h2)) | with_reducible exact (dmn3 (le_c _ (Int.le_trans h1 h2))).symm | with_reducible exact (dmn3 (le_c _ (Int.le_trans h1 h2))).trans (Int.min_comm _ _) | with_reducible exact dmx3 (le_c _ (Int.le_trans h1 h2)) | with_reducible exact (dmx3 (le_c _ (Int.le_trans h1 h2))).symm | with_reducible exact (dmx3 (le_c _ (Int.le_trans h1 h2))).trans (Int.max_comm _ _) | with_reducible exact dmn4 (le_c _ (Int.le_trans h1 h2)) | with_reducible exact (dmn4 (le_c _ (Int.le_trans h1 h2))).symm | with_reducible exact (dmn4 (le_c _ (Int.le_trans h1 h2))).trans (Int.min_comm _ _) | with_reducible exact dmx4 (le_c _ (Int.le_trans h1 h2)) | with_reducible exact (dmx4 (le_c _ (Int.le_trans h1 h2))).symm | with_reducible exact (dmx4 (le_c _ (Int.le_trans h1 h2))).trans (Int.max_comm _ _) | with_reducible exact ((dmn4 (le_c _ h1)).trans (Int.min_comm _ _)).symm | lia
theorem kd2 (h1 : x ≤ y) (h2 : y ≤ z) : (dStep (dStep (comp n ⟨x, y, z⟩) 109) 115) = comp (n + 1) (lStep ⟨x, y, z⟩ 116) := by
  simp only [comp, (st_d _).1, (st_d _).2.1, (st_d _).2.2, (st_l _).1, (st_l _).2.1, (st_l _).2.2]
  simp only [smin, smax, cs, ca]
  refine tri3 ?_ ?_ ?_ <;> first | with_reducible rfl | with_reducible exact Int.max_comm _ _ | with_reducible exact Int.min_comm _ _ | with_reducible exact Int.max_eq_left (le_c _ h1) | with_reducible exact (Int.max_eq_left (le_c _ h1)).symm | with_reducible exact Int.max_eq_right (le_c _ h1) | with_reducible exact (Int.max_eq_right (le_c _ h1)).symm | with_reducible exact Int.min_eq_left (le_c _ h1) | with_reducible exact (Int.min_eq_left (le_c _ h1)).symm | with_reducible exact Int.min_eq_right (le_c _ h1) | with_reducible exact (Int.min_eq_right (le_c _ h1)).symm | with_reducible exact dmn (le_c _ h1) | with_reducible exact (dmn (le_c _ h1)).symm | with_reducible exact (dmn (le_c _ h1)).trans (Int.min_comm _ _) | with_reducible exact dmx (le_c _ h1) | with_reducible exact (dmx (le_c _ h1)).symm | with_reducible exact (dmx (le_c _ h1)).trans (Int.max_comm _ _) | with_reducible exact dmn2 (le_c _ h1) | with_reducible exact (dmn2 (le_c _ h1)).symm | with_reducible exact (dmn2 (le_c _ h1)).trans (Int.min_comm _ _) | with_reducible exact dmx2 (le_c _ h1) | with_reducible exact (dmx2 (le_c _ h1)).symm | with_reducible exact (dmx2 (le_c _ h1)).trans (Int.max_comm _ _) | with_reducible exact dmn3 (le_c _ h1) | with_reducible exact (dmn3 (le_c _ h1)).symm | with_reducible exact (dmn3 (le_c _ h1)).trans (Int.min_comm _ _) | with_reducible exact dmx3 (le_c _ h1) | with_reducible exact (dmx3 (le_c _ h1)).symm | with_reducible exact (dmx3 (le_c _ h1)).trans (Int.max_comm _ _) | with_reducible exact dmn4 (le_c _ h1) | with_reducible exact (dmn4 (le_c _ h1)).symm | with_reducible exact (dmn4 (le_c _ h1)).trans (Int.min_comm _ _) | with_reducible exact dmx4 (le_c _ h1) | with_reducible exact (dmx4 (le_c _ h1)).symm | with_reducible exact (dmx4 (le_c _ h1)).trans (Int.max_comm _ _) | with_reducible exact Int.max_eq_left (le_c _ h2) | with_reducible exact (Int.max_eq_left (le_c _ h2)).symm | with_reducible exact Int.max_eq_right (le_c _ h2) | with_reducible exact (Int.max_eq_right (le_c _ h2)).symm | with_reducible exact Int.min_eq_left (le_c _ h2) | with_reducible exact (Int.min_eq_left (le_c _ h2)).symm | with_reducible exact Int.min_eq_right (le_c _ h2) | with_reducible exact (Int.min_eq_right (le_c _ h2)).symm | with_reducible exact dmn (le_c _ h2) | with_reducible exact (dmn (le_c _ h2)).symm | with_reducible exact (dmn (le_c _ h2)).trans (Int.min_comm _ _) | with_reducible exact dmx (le_c _ h2) | with_reducible exact (dmx (le_c _ h2)).symm | with_reducible exact (dmx (le_c _ h2)).trans (Int.max_comm _ _) | with_reducible exact dmn2 (le_c _ h2) | with_reducible exact (dmn2 (le_c _ h2)).symm | with_reducible exact (dmn2 (le_c _ h2)).trans (Int.min_comm _ _) | with_reducible exact dmx2 (le_c _ h2) | with_reducible exact (dmx2 (le_c _ h2)).symm | with_reducible exact (dmx2 (le_c _ h2)).trans (Int.max_comm _ _) | with_reducible exact dmn3 (le_c _ h2) | with_reducible exact (dmn3 (le_c _ h2)).symm | with_reducible exact (dmn3 (le_c _ h2)).trans (Int.min_comm _ _) | with_reducible exact dmx3 (le_c _ h2) | with_reducible exact (dmx3 (le_c _ h2)).symm | with_reducible exact (dmx3 (le_c _ h2)).trans (Int.max_comm _ _) | with_reducible exact dmn4 (le_c _ h2) | with_reducible exact (dmn4 (le_c _ h2)).symm | with_reducible exact (dmn4 (le_c _ h2)).trans (Int.min_comm _ _) | with_reducible exact dmx4 (le_c _ h2) | with_reducible exact (dmx4 (le_c _ h2)).symm | with_reducible exact (dmx4 (le_c _ h2)).trans (Int.max_comm _ _) | with_reducible exact Int.max_eq_left (le_c _ (Int.le_trans h1 h2)) | with_reducible exact (Int.max_eq_left (le_c _ (Int.le_trans h1 h2))).symm | with_reducible exact Int.max_eq_right (le_c _ (Int.le_trans h1 h2)) | with_reducible exact (Int.max_eq_right (le_c _ (Int.le_trans h1 h2))).symm | with_reducible exact Int.min_eq_left (le_c _ (Int.le_trans h1 h2)) | with_reducible exact (Int.min_eq_left (le_c _ (Int.le_trans h1 h2))).symm | with_reducible exact Int.min_eq_right (le_c _ (Int.le_trans h1 h2)) | with_reducible exact (Int.min_eq_right (le_c _ (Int.le_trans h1 h2))).symm | with_reducible exact dmn (le_c _ (Int.le_trans h1 h2)) | with_reducible exact (dmn (le_c _ (Int.le_trans h1 h2))).symm | with_reducible exact (dmn (le_c _ (Int.le_trans h1 h2))).trans (Int.min_comm _ _) | with_reducible exact dmx (le_c _ (Int.le_trans h1 h2)) | with_reducible exact (dmx (le_c _ (Int.le_trans h1 h2))).symm | with_reducible exact (dmx (le_c _ (Int.le_trans h1 h2))).trans (Int.max_comm _ _) | with_reducible exact dmn2 (le_c _ (Int.le_trans h1 h2)) | with_reducible exact (dmn2 (le_c _ (Int.le_trans h1 h2))).symm | with_reducible exact (dmn2 (le_c _ (Int.le_trans h1 h2))).trans (Int.min_comm _ _) | with_reducible exact dmx2 (le_c _ (Int.le_trans h1 h2)) | with_reducible exact (dmx2 (le_c _ (Int.le_trans h1 h2))).symm | with_reducible exact (dmx2 (le_c _ (Int.le_trans h1 h2))).trans (Int.max_comm _ _) | with_reducible exact dmn3 (le_c _ (Int.le_trans h1 h2)) | with_reducible exact (dmn3 (le_c _ (Int.le_trans h1 h2))).symm | with_reducible exact (dmn3 (le_c _ (Int.le_trans h1 h2))).trans (Int.min_comm _ _) | with_reducible exact dmx3 (le_c _ (Int.le_trans h1 h2)) | with_reducible exact (dmx3 (le_c _ (Int.le_trans h1 h2))).symm | with_reducible exact (dmx3 (le_c _ (Int.le_trans h1 h2))).trans (Int.max_comm _ _) | with_reducible exact dmn4 (le_c _ (Int.le_trans h1 h2)) | with_reducible exact (dmn4 (le_c _ (Int.le_trans h1 h2))).symm | with_reducible exact (dmn4 (le_c _ (Int.le_trans h1 h2))).trans (Int.min_comm _ _) | with_reducible exact dmx4 (le_c _ (Int.le_trans h1 h2)) | with_reducible exact (dmx4 (le_c _ (Int.le_trans h1 h2))).symm | with_reducible exact (dmx4 (le_c _ (Int.le_trans h1 h2))).trans (Int.max_comm _ _) | with_reducible exact ((dmn4 (le_c _ h1)).trans (Int.min_comm _ _)).symm | lia
theorem kb3 (h1 : z ≤ y) (h2 : y ≤ x) : (bStep (bStep (comp n ⟨x, y, z⟩) 116) 115) = comp (n + 1) (tStep ⟨x, y, z⟩ 109) := by
  simp only [comp, (st_b _).1, (st_b _).2.1, (st_b _).2.2, (st_t _).1, (st_t _).2.1, (st_t _).2.2]
  simp only [smin, smax, cs, ca]
  refine tri3 ?_ ?_ ?_ <;> first | with_reducible rfl | with_reducible exact Int.max_comm _ _ | with_reducible exact Int.min_comm _ _ | with_reducible exact Int.max_eq_left (le_c _ h1) | with_reducible exact (Int.max_eq_left (le_c _ h1)).symm | with_reducible exact Int.max_eq_right (le_c _ h1) | with_reducible exact (Int.max_eq_right (le_c _ h1)).symm | with_reducible exact Int.min_eq_left (le_c _ h1) | with_reducible exact (Int.min_eq_left (le_c _ h1)).symm | with_reducible exact Int.min_eq_right (le_c _ h1) | with_reducible exact (Int.min_eq_right (le_c _ h1)).symm | with_reducible exact dmn (le_c _ h1) | with_reducible exact (dmn (le_c _ h1)).symm | with_reducible exact (dmn (le_c _ h1)).trans (Int.min_comm _ _) | with_reducible exact dmx (le_c _ h1) | with_reducible exact (dmx (le_c _ h1)).symm | with_reducible exact (dmx (le_c _ h1)).trans (Int.max_comm _ _) | with_reducible exact dmn2 (le_c _ h1) | with_reducible exact (dmn2 (le_c _ h1)).symm | with_reducible exact (dmn2 (le_c _ h1)).trans (Int.min_comm _ _) | with_reducible exact dmx2 (le_c _ h1) | with_reducible exact (dmx2 (le_c _ h1)).symm | with_reducible exact (dmx2 (le_c _ h1)).trans (Int.max_comm _ _) | with_reducible exact dmn3 (le_c _ h1) | with_reducible exact (dmn3 (le_c _ h1)).symm | with_reducible exact (dmn3 (le_c _ h1)).trans (Int.min_comm _ _) | with_reducible exact dmx3 (le_c _ h1) | with_reducible exact (dmx3 (le_c _ h1)).symm | with_reducible exact (dmx3 (le_c _ h1)).trans (Int.max_comm _ _) | with_reducible exact dmn4 (le_c _ h1) | with_reducible exact (dmn4 (le_c _ h1)).symm | with_reducible exact (dmn4 (le_c _ h1)).trans (Int.min_comm _ _) | with_reducible exact dmx4 (le_c _ h1) | with_reducible exact (dmx4 (le_c _ h1)).symm | with_reducible exact (dmx4 (le_c _ h1)).trans (Int.max_comm _ _) | with_reducible exact Int.max_eq_left (le_c _ h2) | with_reducible exact (Int.max_eq_left (le_c _ h2)).symm | with_reducible exact Int.max_eq_right (le_c _ h2) | with_reducible exact (Int.max_eq_right (le_c _ h2)).symm | with_reducible exact Int.min_eq_left (le_c _ h2) | with_reducible exact (Int.min_eq_left (le_c _ h2)).symm | with_reducible exact Int.min_eq_right (le_c _ h2) | with_reducible exact (Int.min_eq_right (le_c _ h2)).symm | with_reducible exact dmn (le_c _ h2) | with_reducible exact (dmn (le_c _ h2)).symm | with_reducible exact (dmn (le_c _ h2)).trans (Int.min_comm _ _) | with_reducible exact dmx (le_c _ h2) | with_reducible exact (dmx (le_c _ h2)).symm | with_reducible exact (dmx (le_c _ h2)).trans (Int.max_comm _ _) | with_reducible exact dmn2 (le_c _ h2) | with_reducible exact (dmn2 (le_c _ h2)).symm | with_reducible exact (dmn2 (le_c _ h2)).trans (Int.min_comm _ _) | with_reducible exact dmx2 (le_c _ h2) | with_reducible exact (dmx2 (le_c _ h2)).symm | with_reducible exact (dmx2 (le_c _ h2)).trans (Int.max_comm _ _) | with_reducible exact dmn3 (le_c _ h2) | with_reducible exact (dmn3 (le_c _ h2)).symm | with_reducible exact (dmn3 (le_c _ h2)).trans (Int.min_comm _ _) | with_reducible exact dmx3 (le_c _ h2) | with_reducible exact (dmx3 (le_c _ h2)).symm | with_reducible exact (dmx3 (le_c _ h2)).trans (Int.max_comm _ _) | with_reducible exact dmn4 (le_c _ h2) | with_reducible exact (dmn4 (le_c _ h2)).symm | with_reducible exact (dmn4 (le_c _ h2)).trans (Int.min_comm _ _) | with_reducible exact dmx4 (le_c _ h2) | with_reducible exact (dmx4 (le_c _ h2)).symm | with_reducible exact (dmx4 (le_c _ h2)).trans (Int.max_comm _ _) | with_reducible exact Int.max_eq_left (le_c _ (Int.le_trans h1 h2)) | with_reducible exact (Int.max_eq_left (le_c _ (Int.le_trans h1 h2))).symm | with_reducible exact Int.max_eq_right (le_c _ (Int.le_trans h1 h2)) | with_reducible exact (Int.max_eq_right (le_c _ (Int.le_trans h1 h2))).symm | with_reducible exact Int.min_eq_left (le_c _ (Int.le_trans h1 h2)) | with_reducible exact (Int.min_eq_left (le_c _ (Int.le_trans h1 h2))).symm | with_reducible exact Int.min_eq_right (le_c _ (Int.le_trans h1 h2)) | with_reducible exact (Int.min_eq_right (le_c _ (Int.le_trans h1 h2))).symm | with_reducible exact dmn (le_c _ (Int.le_trans h1 h2)) | with_reducible exact (dmn (le_c _ (Int.le_trans h1 h2))).symm | with_reducible exact (dmn (le_c _ (Int.le_trans h1 h2))).trans (Int.min_comm _ _) | with_reducible exact dmx (le_c _ (Int.le_trans h1 h2)) | with_reducible exact (dmx (le_c _ (Int.le_trans h1 h2))).symm | with_reducible exact (dmx (le_c _ (Int.le_trans h1 h2))).trans (Int.max_comm _ _) | with_reducible exact dmn2 (le_c _ (Int.le_trans h1 h2)) | with_reducible exact (dmn2 (le_c _ (Int.le_trans h1 h2))).symm | with_reducible exact (dmn2 (le_c _ (Int.le_trans h1 h2))).trans (Int.min_comm _ _) | with_reducible exact dmx2 (le_c _ (Int.le_trans h1 h2)) | with_reducible exact (dmx2 (le_c _ (Int.le_trans h1 h2))).symm | with_reducible exact (dmx2 (le_c _ (Int.le_trans h1 h2))).trans (Int.max_comm _ _) | with_reducible exact dmn3 (le_c _ (Int.le_trans h1 h2)) | with_reducible exact (dmn3 (le_c _ (Int.le_trans h1 h2))).symm | with_reducible exact (dmn3 (le_c _ (Int.le_trans h1 h2))).trans (Int.min_comm _ _) | with_reducible exact dmx3 (le_c _ (Int.le_trans h1 h2)) | with_reducible exact (dmx3 (le_c _ (Int.le_trans h1 h2))).symm | with_reducible exact (dmx3 (le_c _ (Int.le_trans h1 h2))).trans (Int.max_comm _ _) | with_reducible exact dmn4 (le_c _ (Int.le_trans h1 h2)) | with_reducible exact (dmn4 (le_c _ (Int.le_trans h1 h2))).symm | with_reducible exact (dmn4 (le_c _ (Int.le_trans h1 h2))).trans (Int.min_comm _ _) | with_reducible exact dmx4 (le_c _ (Int.le_trans h1 h2)) | with_reducible exact (dmx4 (le_c _ (Int.le_trans h1 h2))).symm | with_reducible exact (dmx4 (le_c _ (Int.le_trans h1 h2))).trans (Int.max_comm _ _) | with_reducible exact ((dmn4 (le_c _ h1)).trans (Int.min_comm _ _)).symm | lia
theorem kd3 (h1 : x ≤ y) (h2 : y ≤ z) : (dStep (dStep (comp n ⟨x, y, z⟩) 116) 115) = comp (n + 1) (lStep ⟨x, y, z⟩ 109) := by
  simp only [comp, (st_d _).1, (st_d _).2.1, (st_d _).2.2, (st_l _).1, (st_l _).2.1, (st_l _).2.2]
  simp only [smin, smax, cs, ca]
  refine tri3 ?_ ?_ ?_ <;> first | with_reducible rfl | with_reducible exact Int.max_comm _ _ | with_reducible exact Int.min_comm _ _ | with_reducible exact Int.max_eq_left (le_c _ h1) | with_reducible exact (Int.max_eq_left (le_c _ h1)).symm | with_reducible exact Int.max_eq_right (le_c _ h1) | with_reducible exact (Int.max_eq_right (le_c _ h1)).symm | with_reducible exact Int.min_eq_left (le_c _ h1) | with_reducible exact (Int.min_eq_left (le_c _ h1)).symm | with_reducible exact Int.min_eq_right (le_c _ h1) | with_reducible exact (Int.min_eq_right (le_c _ h1)).symm | with_reducible exact dmn (le_c _ h1) | with_reducible exact (dmn (le_c _ h1)).symm | with_reducible exact (dmn (le_c _ h1)).trans (Int.min_comm _ _) | with_reducible exact dmx (le_c _ h1) | with_reducible exact (dmx (le_c _ h1)).symm | with_reducible exact (dmx (le_c _ h1)).trans (Int.max_comm _ _) | with_reducible exact dmn2 (le_c _ h1) | with_reducible exact (dmn2 (le_c _ h1)).symm | with_reducible exact (dmn2 (le_c _ h1)).trans (Int.min_comm _ _) | with_reducible exact dmx2 (le_c _ h1) | with_reducible exact (dmx2 (le_c _ h1)).symm | with_reducible exact (dmx2 (le_c _ h1)).trans (Int.max_comm _ _) | with_reducible exact dmn3 (le_c _ h1) | with_reducible exact (dmn3 (le_c _ h1)).symm | with_reducible exact (dmn3 (le_c _ h1)).trans (Int.min_comm _ _) | with_reducible exact dmx3 (le_c _ h1) | with_reducible exact (dmx3 (le_c _ h1)).symm | with_reducible exact (dmx3 (le_c _ h1)).trans (Int.max_comm _ _) | with_reducible exact dmn4 (le_c _ h1) | with_reducible exact (dmn4 (le_c _ h1)).symm | with_reducible exact (dmn4 (le_c _ h1)).trans (Int.min_comm _ _) | with_reducible exact dmx4 (le_c _ h1) | with_reducible exact (dmx4 (le_c _ h1)).symm | with_reducible exact (dmx4 (le_c _ h1)).trans (Int.max_comm _ _) | with_reducible exact Int.max_eq_left (le_c _ h2) | with_reducible exact (Int.max_eq_left (le_c _ h2)).symm | with_reducible exact Int.max_eq_right (le_c _ h2) | with_reducible exact (Int.max_eq_right (le_c _ h2)).symm | with_reducible exact Int.min_eq_left (le_c _ h2) | with_reducible exact (Int.min_eq_left (le_c _ h2)).symm | with_reducible exact Int.min_eq_right (le_c _ h2) | with_reducible exact (Int.min_eq_right (le_c _ h2)).symm | with_reducible exact dmn (le_c _ h2) | with_reducible exact (dmn (le_c _ h2)).symm | with_reducible exact (dmn (le_c _ h2)).trans (Int.min_comm _ _) | with_reducible exact dmx (le_c _ h2) | with_reducible exact (dmx (le_c _ h2)).symm | with_reducible exact (dmx (le_c _ h2)).trans (Int.max_comm _ _) | with_reducible exact dmn2 (le_c _ h2) | with_reducible exact (dmn2 (le_c _ h2)).symm | with_reducible exact (dmn2 (le_c _ h2)).trans (Int.min_comm _ _) | with_reducible exact dmx2 (le_c _ h2) | with_reducible exact (dmx2 (le_c _ h2)).symm | with_reducible exact (dmx2 (le_c _ h2)).trans (Int.max_comm _ _) | with_reducible exact dmn3 (le_c _ h2) | with_reducible exact (dmn3 (le_c _ h2)).symm | with_reducible exact (dmn3 (le_c _ h2)).trans (Int.min_comm _ _) | with_reducible exact dmx3 (le_c _ h2) | with_reducible exact (dmx3 (le_c _ h2)).symm | with_reducible exact (dmx3 (le_c _ h2)).trans (Int.max_comm _ _) | with_reducible exact dmn4 (le_c _ h2) | with_reducible exact (dmn4 (le_c _ h2)).symm | with_reducible exact (dmn4 (le_c _ h2)).trans (Int.min_comm _ _) | with_reducible exact dmx4 (le_c _ h2) | with_reducible exact (dmx4 (le_c _ h2)).symm | with_reducible exact (dmx4 (le_c _ h2)).trans (Int.max_comm _ _) | with_reducible exact Int.max_eq_left (le_c _ (Int.le_trans h1 h2)) | with_reducible exact (Int.max_eq_left (le_c _ (Int.le_trans h1 h2))).symm | with_reducible exact Int.max_eq_right (le_c _ (Int.le_trans h1 h2)) | with_reducible exact (Int.max_eq_right (le_c _ (Int.le_trans h1 h2))).symm | with_reducible exact Int.min_eq_left (le_c _ (Int.le_trans h1 h2)) | with_reducible exact (Int.min_eq_left (le_c _ (Int.le_trans h1 h2))).symm | with_reducible exact Int.min_eq_right (le_c _ (Int.le_trans h1 h2)) | with_reducible exact (Int.min_eq_right (le_c _ (Int.le_trans h1 h2))).symm | with_reducible exact dmn (le_c _ (Int.le_trans h1 h2)) | with_reducible exact (dmn (le_c _ (Int.le_trans h1 h2))).symm | with_reducible exact (dmn (le_c _ (Int.le_trans h1 h2))).trans (Int.min_comm _ _) | with_reducible exact dmx (le_c _ (Int.le_trans h1 h2)) | with_reducible exact (dmx (le_c _ (Int.le_trans h1 h2))).symm | with_reducible exact (dmx (le_c _ (Int.le_trans h1 h2))).trans (Int.max_comm _ _) | with_reducible exact dmn2 (le_c _ (Int.le_trans h1 h2)) | with_reducible exact (dmn2 (le_c _ (Int.le_trans h1 h2))).symm | with_reducible exact (dmn2 (le_c _ (Int.le_trans h1 h2))).trans (Int.min_comm _ _) | with_reducible exact dmx2 (le_c _ (Int.le_trans h1 h2)) | with_reducible exact (dmx2 (le_c _ (Int.le_trans h1 h2))).symm | with_reducible exact (dmx2 (le_c _ (Int.le_trans h1 h2))).trans (Int.max_comm _ _) | with_reducible exact dmn3 (le_c _ (Int.le_trans h1 h2)) | with_reducible exact (dmn3 (le_c _ (Int.le_trans h1 h2))).symm | with_reducible exact (dmn3 (le_c _ (Int.le_trans h1 h2))).trans (Int.min_comm _ _) | with_reducible exact dmx3 (le_c _ (Int.le_trans h1 h2)) | with_reducible exact (dmx3 (le_c _ (Int.le_trans h1 h2))).symm | with_reducible exact (dmx3 (le_c _ (Int.le_trans h1 h2))).trans (Int.max_comm _ _) | with_reducible exact dmn4 (le_c _ (Int.le_trans h1 h2)) | with_reducible exact (dmn4 (le_c _ (Int.le_trans h1 h2))).symm | with_reducible exact (dmn4 (le_c _ (Int.le_trans h1 h2))).trans (Int.min_comm _ _) | with_reducible exact dmx4 (le_c _ (Int.le_trans h1 h2)) | with_reducible exact (dmx4 (le_c _ (Int.le_trans h1 h2))).symm | with_reducible exact (dmx4 (le_c _ (Int.le_trans h1 h2))).trans (Int.max_comm _ _) | with_reducible exact ((dmn4 (le_c _ h1)).trans (Int.min_comm _ _)).symm | lia
theorem kb4 (h1 : z ≤ y) (h2 : y ≤ x) : (bStep (comp n ⟨x, y, z⟩) 116) = comp (n + 1) (tStep (tStep ⟨x, y, z⟩ 115) 109) := by
  simp only [comp, (st_b _).1, (st_b _).2.1, (st_b _).2.2, (st_t _).1, (st_t _).2.1, (st_t _).2.2]
  simp only [smin, smax, cs, ca]
  refine tri3 ?_ ?_ ?_ <;> first | with_reducible rfl | with_reducible exact Int.max_comm _ _ | with_reducible exact Int.min_comm _ _ | with_reducible exact Int.max_eq_left (le_c _ h1) | with_reducible exact (Int.max_eq_left (le_c _ h1)).symm | with_reducible exact Int.max_eq_right (le_c _ h1) | with_reducible exact (Int.max_eq_right (le_c _ h1)).symm | with_reducible exact Int.min_eq_left (le_c _ h1) | with_reducible exact (Int.min_eq_left (le_c _ h1)).symm | with_reducible exact Int.min_eq_right (le_c _ h1) | with_reducible exact (Int.min_eq_right (le_c _ h1)).symm | with_reducible exact dmn (le_c _ h1) | with_reducible exact (dmn (le_c _ h1)).symm | with_reducible exact (dmn (le_c _ h1)).trans (Int.min_comm _ _) | with_reducible exact dmx (le_c _ h1) | with_reducible exact (dmx (le_c _ h1)).symm | with_reducible exact (dmx (le_c _ h1)).trans (Int.max_comm _ _) | with_reducible exact dmn2 (le_c _ h1) | with_reducible exact (dmn2 (le_c _ h1)).symm | with_reducible exact (dmn2 (le_c _ h1)).trans (Int.min_comm _ _) | with_reducible exact dmx2 (le_c _ h1) | with_reducible exact (dmx2 (le_c _ h1)).symm | with_reducible exact (dmx2 (le_c _ h1)).trans (Int.max_comm _ _) | with_reducible exact dmn3 (le_c _ h1) | with_reducible exact (dmn3 (le_c _ h1)).symm | with_reducible exact (dmn3 (le_c _ h1)).trans (Int.min_comm _ _) | with_reducible exact dmx3 (le_c _ h1) | with_reducible exact (dmx3 (le_c _ h1)).symm | with_reducible exact (dmx3 (le_c _ h1)).trans (Int.max_comm _ _) | with_reducible exact dmn4 (le_c _ h1) | with_reducible exact (dmn4 (le_c _ h1)).symm | with_reducible exact (dmn4 (le_c _ h1)).trans (Int.min_comm _ _) | with_reducible exact dmx4 (le_c _ h1) | with_reducible exact (dmx4 (le_c _ h1)).symm | with_reducible exact (dmx4 (le_c _ h1)).trans (Int.max_comm _ _) | with_reducible exact Int.max_eq_left (le_c _ h2) | with_reducible exact (Int.max_eq_left (le_c _ h2)).symm | with_reducible exact Int.max_eq_right (le_c _ h2) | with_reducible exact (Int.max_eq_right (le_c _ h2)).symm | with_reducible exact Int.min_eq_left (le_c _ h2) | with_reducible exact (Int.min_eq_left (le_c _ h2)).symm | with_reducible exact Int.min_eq_right (le_c _ h2) | with_reducible exact (Int.min_eq_right (le_c _ h2)).symm | with_reducible exact dmn (le_c _ h2) | with_reducible exact (dmn (le_c _ h2)).symm | with_reducible exact (dmn (le_c _ h2)).trans (Int.min_comm _ _) | with_reducible exact dmx (le_c _ h2) | with_reducible exact (dmx (le_c _ h2)).symm | with_reducible exact (dmx (le_c _ h2)).trans (Int.max_comm _ _) | with_reducible exact dmn2 (le_c _ h2) | with_reducible exact (dmn2 (le_c _ h2)).symm | with_reducible exact (dmn2 (le_c _ h2)).trans (Int.min_comm _ _) | with_reducible exact dmx2 (le_c _ h2) | with_reducible exact (dmx2 (le_c _ h2)).symm | with_reducible exact (dmx2 (le_c _ h2)).trans (Int.max_comm _ _) | with_reducible exact dmn3 (le_c _ h2) | with_reducible exact (dmn3 (le_c _ h2)).symm | with_reducible exact (dmn3 (le_c _ h2)).trans (Int.min_comm _ _) | with_reducible exact dmx3 (le_c _ h2) | with_reducible exact (dmx3 (le_c _ h2)).symm | with_reducible exact (dmx3 (le_c _ h2)).trans (Int.max_comm _ _) | with_reducible exact dmn4 (le_c _ h2) | with_reducible exact (dmn4 (le_c _ h2)).symm | with_reducible exact (dmn4 (le_c _ h2)).trans (Int.min_comm _ _) | with_reducible exact dmx4 (le_c _ h2) | with_reducible exact (dmx4 (le_c _ h2)).symm | with_reducible exact (dmx4 (le_c _ h2)).trans (Int.max_comm _ _) | with_reducible exact Int.max_eq_left (le_c _ (Int.le_trans h1 h2)) | with_reducible exact (Int.max_eq_left (le_c _ (Int.le_trans h1 h2))).symm | with_reducible exact Int.max_eq_right (le_c _ (Int.le_trans h1 h2)) | with_reducible exact (Int.max_eq_right (le_c _ (Int.le_trans h1 h2))).symm | with_reducible exact Int.min_eq_left (le_c _ (Int.le_trans h1 h2)) | with_reducible exact (Int.min_eq_left (le_c _ (Int.le_trans h1 h2))).symm | with_reducible exact Int.min_eq_right (le_c _ (Int.le_trans h1 h2)) | with_reducible exact (Int.min_eq_right (le_c _ (Int.le_trans h1 h2))).symm | with_reducible exact dmn (le_c _ (Int.le_trans h1 h2)) | with_reducible exact (dmn (le_c _ (Int.le_trans h1 h2))).symm | with_reducible exact (dmn (le_c _ (Int.le_trans h1 h2))).trans (Int.min_comm _ _) | with_reducible exact dmx (le_c _ (Int.le_trans h1 h2)) | with_reducible exact (dmx (le_c _ (Int.le_trans h1 h2))).symm | with_reducible exact (dmx (le_c _ (Int.le_trans h1 h2))).trans (Int.max_comm _ _) | with_reducible exact dmn2 (le_c _ (Int.le_trans h1 h2)) | with_reducible exact (dmn2 (le_c _ (Int.le_trans h1 h2))).symm | with_reducible exact (dmn2 (le_c _ (Int.le_trans h1 h2))).trans (Int.min_comm _ _) | with_reducible exact dmx2 (le_c _ (Int.le_trans h1 h2)) | with_reducible exact (dmx2 (le_c _ (Int.le_trans h1 h2))).symm | with_reducible exact (dmx2 (le_c _ (Int.le_trans h1 h2))).trans (Int.max_comm _ _) | with_reducible exact dmn3 (le_c _ (Int.le_trans h1 h2)) | with_reducible exact (dmn3 (le_c _ (Int.le_trans h1 h2))).symm | with_reducible exact (dmn3 (le_c _ (Int.le_trans h1 h2))).trans (Int.min_comm _ _) | with_reducible exact dmx3 (le_c _ (Int.le_trans h1 h2)) | with_reducible exact (dmx3 (le_c _ (Int.le_trans h1 h2))).symm | with_reducible exact (dmx3 (le_c _ (Int.le_trans h1 h2))).trans (Int.max_comm _ _) | with_reducible exact dmn4 (le_c _ (Int.le_trans h1 h2)) | with_reducible exact (dmn4 (le_c _ (Int.le_trans h1 h2))).symm | with_reducible exact (dmn4 (le_c _ (Int.le_trans h1 h2))).trans (Int.min_comm _ _) | with_reducible exact dmx4 (le_c _ (Int.le_trans h1 h2)) | with_reducible exact (dmx4 (le_c _ (Int.le_trans h1 h2))).symm | with_reducible exact (dmx4 (le_c _ (Int.le_trans h1 h2))).trans (Int.max_comm _ _) | with_reducible exact ((dmn4 (le_c _ h1)).trans (Int.min_comm _ _)).symm | lia
theorem kd4 (h1 : x ≤ y) (h2 : y ≤ z) : (dStep (comp n ⟨x, y, z⟩) 116) = comp (n + 1) (lStep (lStep ⟨x, y, z⟩ 115) 109) := by
  simp only [comp, (st_d _).1, (st_d _).2.1, (st_d _).2.2, (st_l _).1, (st_l _).2.1, (st_l _).2.2]
  simp only [smin, smax, cs, ca]
  refine tri3 ?_ ?_ ?_ <;> first | with_reducible rfl | with_reducible exact Int.max_comm _ _ | with_reducible exact Int.min_comm _ _ | with_reducible exact Int.max_eq_left (le_c _ h1) | with_reducible exact (Int.max_eq_left (le_c _ h1)).symm | with_reducible exact Int.max_eq_right (le_c _ h1) | with_reducible exact (Int.max_eq_right (le_c _ h1)).symm | with_reducible exact Int.min_eq_left (le_c _ h1) | with_reducible exact (Int.min_eq_left (le_c _ h1)).symm | with_reducible exact Int.min_eq_right (le_c _ h1) | with_reducible exact (Int.min_eq_right (le_c _ h1)).symm | with_reducible exact dmn (le_c _ h1) | with_reducible exact (dmn (le_c _ h1)).symm | with_reducible exact (dmn (le_c _ h1)).trans (Int.min_comm _ _) | with_reducible exact dmx (le_c _ h1) | with_reducible exact (dmx (le_c _ h1)).symm | with_reducible exact (dmx (le_c _ h1)).trans (Int.max_comm _ _) | with_reducible exact dmn2 (le_c _ h1) | with_reducible exact (dmn2 (le_c _ h1)).symm | with_reducible exact (dmn2 (le_c _ h1)).trans (Int.min_comm _ _) | with_reducible exact dmx2 (le_c _ h1) | with_reducible exact (dmx2 (le_c _ h1)).symm | with_reducible exact (dmx2 (le_c _ h1)).trans (Int.max_comm _ _) | with_reducible exact dmn3 (le_c _ h1) | with_reducible exact (dmn3 (le_c _ h1)).symm | with_reducible exact (dmn3 (le_c _ h1)).trans (Int.min_comm _ _) | with_reducible exact dmx3 (le_c _ h1) | with_reducible exact (dmx3 (le_c _ h1)).symm | with_reducible exact (dmx3 (le_c _ h1)).trans (Int.max_comm _ _) | with_reducible exact dmn4 (le_c _ h1) | with_reducible exact (dmn4 (le_c _ h1)).symm | with_reducible exact (dmn4 (le_c _ h1)).trans (Int.min_comm _ _) | with_reducible exact dmx4 (le_c _ h1) | with_reducible exact (dmx4 (le_c _ h1)).symm | with_reducible exact (dmx4 (le_c _ h1)).trans (Int.max_comm _ _) | with_reducible exact Int.max_eq_left (le_c _ h2) | with_reducible exact (Int.max_eq_left (le_c _ h2)).symm | with_reducible exact Int.max_eq_right (le_c _ h2) | with_reducible exact (Int.max_eq_right (le_c _ h2)).symm | with_reducible exact Int.min_eq_left (le_c _ h2) | with_reducible exact (Int.min_eq_left (le_c _ h2)).symm | with_reducible exact Int.min_eq_right (le_c _ h2) | with_reducible exact (Int.min_eq_right (le_c _ h2)).symm | with_reducible exact dmn (le_c _ h2) | with_reducible exact (dmn (le_c _ h2)).symm | with_reducible exact (dmn (le_c _ h2)).trans (Int.min_comm _ _) | with_reducible exact dmx (le_c _ h2) | with_reducible exact (dmx (le_c _ h2)).symm | with_reducible exact (dmx (le_c _ h2)).trans (Int.max_comm _ _) | with_reducible exact dmn2 (le_c _ h2) | with_reducible exact (dmn2 (le_c _ h2)).symm | with_reducible exact (dmn2 (le_c _ h2)).trans (Int.min_comm _ _) | with_reducible exact dmx2 (le_c _ h2) | with_reducible exact (dmx2 (le_c _ h2)).symm | with_reducible exact (dmx2 (le_c _ h2)).trans (Int.max_comm _ _) | with_reducible exact dmn3 (le_c _ h2) | with_reducible exact (dmn3 (le_c _ h2)).symm | with_reducible exact (dmn3 (le_c _ h2)).trans (Int.min_comm _ _) | with_reducible exact dmx3 (le_c _ h2) | with_reducible exact (dmx3 (le_c _ h2)).symm | with_reducible exact (dmx3 (le_c _ h2)).trans (Int.max_comm _ _) | with_reducible exact dmn4 (le_c _ h2) | with_reducible exact (dmn4 (le_c _ h2)).symm | with_reducible exact (dmn4 (le_c _ h2)).trans (Int.min_comm _ _) | with_reducible exact dmx4 (le_c _ h2) | with_reducible exact (dmx4 (le_c _ h2)).symm | with_reducible exact (dmx4 (le_c _ h2)).trans (Int.max_comm _ _) | with_reducible exact Int.max_eq_left (le_c _ (Int.le_trans h1 h2)) | with_reducible exact (Int.max_eq_left (le_c _ (Int.le_trans h1 h2))).symm | with_reducible exact Int.max_eq_right (le_c _ (Int.le_trans h1 h2)) | with_reducible exact (Int.max_eq_right (le_c _ (Int.le_trans h1 h2))).symm | with_reducible exact Int.min_eq_left (le_c _ (Int.le_trans h1 h2)) | with_reducible exact (Int.min_eq_left (le_c _ (Int.le_trans h1 h2))).symm | with_reducible exact Int.min_eq_right (le_c _ (Int.le_trans h1 h2)) | with_reducible exact (Int.min_eq_right (le_c _ (Int.le_trans h1 h2))).symm | with_reducible exact dmn (le_c _ (Int.le_trans h1 h2)) | with_reducible exact (dmn (le_c _ (Int.le_trans h1 h2))).symm | with_reducible exact (dmn (le_c _ (Int.le_trans h1 h2))).trans (Int.min_comm _ _) | with_reducible exact dmx (le_c _ (Int.le_trans h1 h2)) | with_reducible exact (dmx (le_c _ (Int.le_trans h1 h2))).symm | with_reducible exact (dmx (le_c _ (Int.le_trans h1 h2))).trans (Int.max_comm _ _) | with_reducible exact dmn2 (le_c _ (Int.le_trans h1 h2)) | with_reducible exact (dmn2 (le_c _ (Int.le_trans h1 h2))).symm | with_reducible exact (dmn2 (le_c _ (Int.le_trans h1 h2))).trans (Int.min_comm _ _) | with_reducible exact dmx2 (le_c _ (Int.le_trans h1 h2)) | with_reducible exact (dmx2 (le_c _ (Int.le_trans h1 h2))).symm | with_reducible exact (dmx2 (le_c _ (Int.le_trans h1 h2))).trans (Int.max_comm _ _) | with_reducible exact dmn3 (le_c _ (Int.le_trans h1 h2)) | with_reducible exact (dmn3 (le_c _ (Int.le_trans h1 h2))).symm | with_reducible exact (dmn3 (le_c _ (Int.le_trans h1 h2))).trans (Int.min_comm _ _) | with_reducible exact dmx3 (le_c _ (Int.le_trans h1 h2)) | with_reducible exact (dmx3 (le_c _ (Int.le_trans h1 h2))).symm | with_reducible exact (dmx3 (le_c _ (Int.le_trans h1 h2))).trans (Int.max_comm _ _) | with_reducible exact dmn4 (le_c _ (Int.le_trans h1 h2)) | with_reducible exact (dmn4 (le_c _ (Int.le_trans h1 h2))).symm | with_reducible exact (dmn4 (le_c _ (Int.le_trans h1 h2))).trans (Int.min_comm _ _) | with_reducible exact dmx4 (le_c _ (Int.le_trans h1 h2)) | with_reducible exact (dmx4 (le_c _ (Int.le_trans h1 h2))).symm | with_reducible exact (dmx4 (le_c _ (Int.le_trans h1 h2))).trans (Int.max_comm _ _) | with_reducible exact ((dmn4 (le_c _ h1)).trans (Int.min_comm _ _)).symm | lia
theorem kb5 (h1 : z ≤ y) (h2 : y ≤ x) : (bStep (bStep (comp n ⟨x, y, z⟩) 109) 116) = comp (n + 1) (tStep ⟨x, y, z⟩ 115) := by
  simp only [comp, (st_b _).1, (st_b _).2.1, (st_b _).2.2, (st_t _).1, (st_t _).2.1, (st_t _).2.2]
  simp only [smin, smax, cs, ca]
  refine tri3 ?_ ?_ ?_ <;> first | with_reducible rfl | with_reducible exact Int.max_comm _ _ | with_reducible exact Int.min_comm _ _ | with_reducible exact Int.max_eq_left (le_c _ h1) | with_reducible exact (Int.max_eq_left (le_c _ h1)).symm | with_reducible exact Int.max_eq_right (le_c _ h1) | with_reducible exact (Int.max_eq_right (le_c _ h1)).symm | with_reducible exact Int.min_eq_left (le_c _ h1) | with_reducible exact (Int.min_eq_left (le_c _ h1)).symm | with_reducible exact Int.min_eq_right (le_c _ h1) | with_reducible exact (Int.min_eq_right (le_c _ h1)).symm | with_reducible exact dmn (le_c _ h1) | with_reducible exact (dmn (le_c _ h1)).symm | with_reducible exact (dmn (le_c _ h1)).trans (Int.min_comm _ _) | with_reducible exact dmx (le_c _ h1) | with_reducible exact (dmx (le_c _ h1)).symm | with_reducible exact (dmx (le_c _ h1)).trans (Int.max_comm _ _) | with_reducible exact dmn2 (le_c _ h1) | with_reducible exact (dmn2 (le_c _ h1)).symm | with_reducible exact (dmn2 (le_c _ h1)).trans (Int.min_comm _ _) | with_reducible exact dmx2 (le_c _ h1) | with_reducible exact (dmx2 (le_c _ h1)).symm | with_reducible exact (dmx2 (le_c _ h1)).trans (Int.max_comm _ _) | with_reducible exact dmn3 (le_c _ h1) | with_reducible exact (dmn3 (le_c _ h1)).symm | with_reducible exact (dmn3 (le_c _ h1)).trans (Int.min_comm _ _) | with_reducible exact dmx3 (le_c _ h1) | with_reducible exact (dmx3 (le_c _ h1)).symm | with_reducible exact (dmx3 (le_c _ h1)).trans (Int.max_comm _ _) | with_reducible exact dmn4 (le_c _ h1) | with_reducible exact (dmn4 (le_c _ h1)).symm | with_reducible exact (dmn4 (le_c _ h1)).trans (Int.min_comm _ _) | with_reducible exact dmx4 (le_c _ h1) | with_reducible exact (dmx4 (le_c _ h1)).symm | with_reducible exact (dmx4 (le_c _ h1)).trans (Int.max_comm _ _) | with_reducible exact Int.max_eq_left (le_c _ h2) | with_reducible exact (Int.max_eq_left (le_c _ h2)).symm | with_reducible exact Int.max_eq_right (le_c _ h2) | with_reducible exact (Int.max_eq_right (le_c _ h2)).symm | with_reducible exact Int.min_eq_left (le_c _ h2) | with_reducible exact (Int.min_eq_left (le_c _ h2)).symm | with_reducible exact Int.min_eq_right (le_c _ h2) | with_reducible exact (Int.min_eq_right (le_c _ h2)).symm | with_reducible exact dmn (le_c _ h2) | with_reducible exact (dmn (le_c _ h2)).symm | with_reducible exact (dmn (le_c _ h2)).trans (Int.min_comm _ _) | with_reducible exact dmx (le_c _ h2) | with_reducible exact (dmx (le_c _ h2)).symm | with_reducible exact (dmx (le_c _ h2)).trans (Int.max_comm _ _) | with_reducible exact dmn2 (le_c _ h2) | with_reducible exact (dmn2 (le_c _ h2)).symm | with_reducible exact (dmn2 (le_c _ h2)).trans (Int.min_comm _ _) | with_reducible exact dmx2 (le_c _ h2) | with_reducible exact (dmx2 (le_c _ h2)).symm | with_reducible exact (dmx2 (le_c _ h2)).trans (Int.max_comm _ _) | with_reducible exact dmn3 (le_c _ h2) | with_reducible exact (dmn3 (le_c _ h2)).symm | with_reducible exact (dmn3 (le_c _ h2)).trans (Int.min_comm _ _) | with_reducible exact dmx3 (le_c _ h2) | with_reducible exact (dmx3 (le_c _ h2)).symm | with_reducible exact (dmx3 (le_c _ h2)).trans (Int.max_comm _ _) | with_reducible exact dmn4 (le_c _ h2) | with_reducible exact (dmn4 (le_c _ h2)).symm | with_reducible exact (dmn4 (le_c _ h2)).trans (Int.min_comm _ _) | with_reducible exact dmx4 (le_c _ h2) | with_reducible exact (dmx4 (le_c _ h2)).symm | with_reducible exact (dmx4 (le_c _ h2)).trans (Int.max_comm _ _) | with_reducible exact Int.max_eq_left (le_c _ (Int.le_trans h1 h2)) | with_reducible exact (Int.max_eq_left (le_c _ (Int.le_trans h1 h2))).symm | with_reducible exact Int.max_eq_right (le_c _ (Int.le_trans h1 h2)) | with_reducible exact (Int.max_eq_right (le_c _ (Int.le_trans h1 h2))).symm | with_reducible exact Int.min_eq_left (le_c _ (Int.le_trans h1 h2)) | with_reducible exact (Int.min_eq_left (le_c _ (Int.le_trans h1 h2))).symm | with_reducible exact Int.min_eq_right (le_c _ (Int.le_trans h1 h2)) | with_reducible exact (Int.min_eq_right (le_c _ (Int.le_trans h1 h2))).symm | with_reducible exact dmn (le_c _ (Int.le_trans h1 h2)) | with_reducible exact (dmn (le_c _ (Int.le_trans h1 h2))).symm | with_reducible exact (dmn (le_c _ (Int.le_trans h1 h2))).trans (Int.min_comm _ _) | with_reducible exact dmx (le_c _ (Int.le_trans h1 h2)) | with_reducible exact (dmx (le_c _ (Int.le_trans h1 h2))).symm | with_reducible exact (dmx (le_c _ (Int.le_trans h1 h2))).trans (Int.max_comm _ _) | with_reducible exact dmn2 (le_c _ (Int.le_trans h1 h2)) | with_reducible exact (dmn2 (le_c _ (Int.le_trans h1 h2))).symm | with_reducible exact (dmn2 (le_c _ (Int.le_trans h1 h2))).trans (Int.min_comm _ _) | with_reducible exact dmx2 (le_c _ (Int.le_trans h1 h2)) | with_reducible exact (dmx2 (le_c _ (Int.le_trans h1 h2))).symm | with_reducible exact (dmx2 (le_c _ (Int.le_trans h1 h2))).trans (Int.max_comm _ _) | with_reducible exact dmn3 (le_c _ (Int.le_trans h1 h2)) | with_reducible exact (dmn3 (le_c _ (Int.le_trans h1 h2))).symm | with_reducible exact (dmn3 (le_c _ (Int.le_trans h1 h2))).trans (Int.min_comm _ _) | with_reducible exact dmx3 (le_c _ (Int.le_trans h1 h2)) | with_reducible exact (dmx3 (le_c _ (Int.le_trans h1 h2))).symm | with_reducible exact (dmx3 (le_c _ (Int.le_trans h1 h2))).trans (Int.max_comm _ _) | with_reducible exact dmn4 (le_c _ (Int.le_trans h1 h2)) | with_reducible exact (dmn4 (le_c _ (Int.le_trans h1 h2))).symm | with_reducible exact (dmn4 (le_c _ (Int.le_trans h1 h2))).trans (Int.min_comm _ _) | with_reducible exact dmx4 (le_c _ (Int.le_trans h1 h2)) | with_reducible exact (dmx4 (le_c _ (Int.le_trans h1 h2))).symm | with_reducible exact (dmx4 (le_c _ (Int.le_trans h1 h2))).trans (Int.max_comm _ _) | with_reducible exact ((dmn4 (le_c _ h1)).trans (Int.min_comm _ _)).symm | lia
theorem kd5 (h1 : x ≤ y) (h2 : y ≤ z) : (dStep (dStep (comp n ⟨x, y, z⟩) 109) 116) = comp (n + 1) (lStep ⟨x, y, z⟩ 115) := by
  simp only [comp, (st_d _).1, (st_d _).2.1, (st_d _).2.2, (st_l _).1, (st_l _).2.1, (st_l _).2.2]
  simp only [smin, smax, cs, ca]
  refine tri3 ?_ ?_ ?_ <;> first | with_reducible rfl | with_reducible exact Int.max_comm _ _ | with_reducible exact Int.min_comm _ _ | with_reducible exact Int.max_eq_left (le_c _ h1) | with_reducible exact (Int.max_eq_left (le_c _ h1)).symm | with_reducible exact Int.max_eq_right (le_c _ h1) | with_reducible exact (Int.max_eq_right (le_c _ h1)).symm | with_reducible exact Int.min_eq_left (le_c _ h1) | with_reducible exact (Int.min_eq_left (le_c _ h1)).symm | with_reducible exact Int.min_eq_right (le_c _ h1) | with_reducible exact (Int.min_eq_right (le_c _ h1)).symm | with_reducible exact dmn (le_c _ h1) | with_reducible exact (dmn (le_c _ h1)).symm | with_reducible exact (dmn (le_c _ h1)).trans (Int.min_comm _ _) | with_reducible exact dmx (le_c _ h1) | with_reducible exact (dmx (le_c _ h1)).symm | with_reducible exact (dmx (le_c _ h1)).trans (Int.max_comm _ _) | with_reducible exact dmn2 (le_c _ h1) | with_reducible exact (dmn2 (le_c _ h1)).symm | with_reducible exact (dmn2 (le_c _ h1)).trans (Int.min_comm _ _) | with_reducible exact dmx2 (le_c _ h1) | with_reducible exact (dmx2 (le_c _ h1)).symm | with_reducible exact (dmx2 (le_c _ h1)).trans (Int.max_comm _ _) | with_reducible exact dmn3 (le_c _ h1) | with_reducible exact (dmn3 (le_c _ h1)).symm | with_reducible exact (dmn3 (le_c _ h1)).trans (Int.min_comm _ _) | with_reducible exact dmx3 (le_c _ h1) | with_reducible exact (dmx3 (le_c _ h1)).symm | with_reducible exact (dmx3 (le_c _ h1)).trans (Int.max_comm _ _) | with_reducible exact dmn4 (le_c _ h1) | with_reducible exact (dmn4 (le_c _ h1)).symm | with_reducible exact (dmn4 (le_c _ h1)).trans (Int.min_comm _ _) | with_reducible exact dmx4 (le_c _ h1) | with_reducible exact (dmx4 (le_c _ h1)).symm | with_reducible exact (dmx4 (le_c _ h1)).trans (Int.max_comm _ _) | with_reducible exact Int.max_eq_left (le_c _ h2) | with_reducible exact (Int.max_eq_left (le_c _ h2)).symm | with_reducible exact Int.max_eq_right (le_c _ h2) | with_reducible exact (Int.max_eq_right (le_c _ h2)).symm | with_reducible exact Int.min_eq_left (le_c _ h2) | with_reducible exact (Int.min_eq_left (le_c _ h2)).symm | with_reducible exact Int.min_eq_right (le_c _ h2) | with_reducible exact (Int.min_eq_right (le_c _ h2)).symm | with_reducible exact dmn (le_c _ h2) | with_reducible exact (dmn (le_c _ h2)).symm | with_reducible exact (dmn (le_c _ h2)).trans (Int.min_comm _ _) | with_reducible exact dmx (le_c _ h2) | with_reducible exact (dmx (le_c _ h2)).symm | with_reducible exact (dmx (le_c _ h2)).trans (Int.max_comm _ _) | with_reducible exact dmn2 (le_c _ h2) | with_reducible exact (dmn2 (le_c _ h2)).symm | with_reducible exact (dmn2 (le_c _ h2)).trans (Int.min_comm _ _) | with_reducible exact dmx2 (le_c _ h2) | with_reducible exact (dmx2 (le_c _ h2)).symm | with_reducible exact (dmx2 (le_c _ h2)).trans (Int.max_comm _ _) | with_reducible exact dmn3 (le_c _ h2) | with_reducible exact (dmn3 (le_c _ h2)).symm | with_reducible exact (dmn3 (le_c _ h2)).trans (Int.min_comm _ _) | with_reducible exact dmx3 (le_c _ h2) | with_reducible exact (dmx3 (le_c _ h2)).symm | with_reducible exact (dmx3 (le_c _ h2)).trans (Int.max_comm _ _) | with_reducible exact dmn4 (le_c _ h2) | with_reducible exact (dmn4 (le_c _ h2)).symm | with_reducible exact (dmn4 (le_c _ h2)).trans (Int.min_comm _ _) | with_reducible exact dmx4 (le_c _ h2) | with_reducible exact (dmx4 (le_c _ h2)).symm | with_reducible exact (dmx4 (le_c _ h2)).trans (Int.max_comm _ _) | with_reducible exact Int.max_eq_left (le_c _ (Int.le_trans h1 h2)) | with_reducible exact (Int.max_eq_left (le_c _ (Int.le_trans h1 h2))).symm | with_reducible exact Int.max_eq_right (le_c _ (Int.le_trans h1 h2)) | with_reducible exact (Int.max_eq_right (le_c _ (Int.le_trans h1 h2))).symm | with_reducible exact Int.min_eq_left (le_c _ (Int.le_trans h1 h2)) | with_reducible exact (Int.min_eq_left (le_c _ (Int.le_trans h1 h2))).symm | with_reducible exact Int.min_eq_right (le_c _ (Int.le_trans h1 h2)) | with_reducible exact (Int.min_eq_right (le_c _ (Int.le_trans h1 h2))).symm | with_reducible exact dmn (le_c _ (Int.le_trans h1 h2)) | with_reducible exact (dmn (le_c _ (Int.le_trans h1 h2))).symm | with_reducible exact (dmn (le_c _ (Int.le_trans h1 h2))).trans (Int.min_comm _ _) | with_reducible exact dmx (le_c _ (Int.le_trans h1 h2)) | with_reducible exact (dmx (le_c _ (Int.le_trans h1 h2))).symm | with_reducible exact (dmx (le_c _ (Int.le_trans h1 h2))).trans (Int.max_comm _ _) | with_reducible exact dmn2 (le_c _ (Int.le_trans h1 h2)) | with_reducible exact (dmn2 (le_c _ (Int.le_trans h1 h2))).symm | with_reducible exact (dmn2 (le_c _ (Int.le_trans h1 h2))).trans (Int.min_comm _ _) | with_reducible exact dmx2 (le_c _ (Int.le_trans h1 h2)) | with_reducible exact (dmx2 (le_c _ (Int.le_trans h1 h2))).symm | with_reducible exact (dmx2 (le_c _ (Int.le_trans h1 h2))).trans (Int.max_comm _ _) | with_reducible exact dmn3 (le_c _ (Int.le_trans h1 h2)) | with_reducible exact (dmn3 (le_c _ (Int.le_trans h1 h2))).symm | with_reducible exact (dmn3 (le_c _ (Int.le_trans h1 h2))).trans (Int.min_comm _ _) | with_reducible exact dmx3 (le_c _ (Int.le_trans h1 h2)) | with_reducible exact (dmx3 (le_c _ (Int.le_trans h1 h2))).symm | with_reducible exact (dmx3 (le_c _ (Int.le_trans h1 h2))).trans (Int.max_comm _ _) | with_reducible exact dmn4 (le_c _ (Int.le_trans h1 h2)) | with_reducible exact (dmn4 (le_c _ (Int.le_trans h1 h2))).symm | with_reducible exact (dmn4 (le_c _ (Int.le_trans h1 h2))).trans (Int.min_comm _ _) | with_reducible exact dmx4 (le_c _ (Int.le_trans h1 h2)) | with_reducible exact (dmx4 (le_c _ (Int.le_trans h1 h2))).symm | with_reducible exact (dmx4 (le_c _ (Int.le_trans h1 h2))).trans (Int.max_comm _ _) | with_reducible exact ((dmn4 (le_c _ h1)).trans (Int.min_comm _ _)).symm | lia
theorem kb6 (h1 : z ≤ y) (h2 : y ≤ x) : (bStep (comp n ⟨x, y, z⟩) 115) = comp (n + 1) (tStep (tStep ⟨x, y, z⟩ 116) 109) := by
  simp only [comp, (st_b _).1, (st_b _).2.1, (st_b _).2.2, (st_t _).1, (st_t _).2.1, (st_t _).2.2]
  simp only [smin, smax, cs, ca]
  refine tri3 ?_ ?_ ?_ <;> first | with_reducible rfl | with_reducible exact Int.max_comm _ _ | with_reducible exact Int.min_comm _ _ | with_reducible exact Int.max_eq_left (le_c _ h1) | with_reducible exact (Int.max_eq_left (le_c _ h1)).symm | with_reducible exact Int.max_eq_right (le_c _ h1) | with_reducible exact (Int.max_eq_right (le_c _ h1)).symm | with_reducible exact Int.min_eq_left (le_c _ h1) | with_reducible exact (Int.min_eq_left (le_c _ h1)).symm | with_reducible exact Int.min_eq_right (le_c _ h1) | with_reducible exact (Int.min_eq_right (le_c _ h1)).symm | with_reducible exact dmn (le_c _ h1) | with_reducible exact (dmn (le_c _ h1)).symm | with_reducible exact (dmn (le_c _ h1)).trans (Int.min_comm _ _) | with_reducible exact dmx (le_c _ h1) | with_reducible exact (dmx (le_c _ h1)).symm | with_reducible exact (dmx (le_c _ h1)).trans (Int.max_comm _ _) | with_reducible exact dmn2 (le_c _ h1) | with_reducible exact (dmn2 (le_c _ h1)).symm | with_reducible exact (dmn2 (le_c _ h1)).trans (Int.min_comm _ _) | with_reducible exact dmx2 (le_c _ h1) | with_reducible exact (dmx2 (le_c _ h1)).symm | with_reducible exact (dmx2 (le_c _ h1)).trans (Int.max_comm _ _) | with_reducible exact dmn3 (le_c _ h1) | with_reducible exact (dmn3 (le_c _ h1)).symm | with_reducible exact (dmn3 (le_c _ h1)).trans (Int.min_comm _ _) | with_reducible exact dmx3 (le_c _ h1) | with_reducible exact (dmx3 (le_c _ h1)).symm | with_reducible exact (dmx3 (le_c _ h1)).trans (Int.max_comm _ _) | with_reducible exact dmn4 (le_c _ h1) | with_reducible exact (dmn4 (le_c _ h1)).symm | with_reducible exact (dmn4 (le_c _ h1)).trans (Int.min_comm _ _) | with_reducible exact dmx4 (le_c _ h1) | with_reducible exact (dmx4 (le_c _ h1)).symm | with_reducible exact (dmx4 (le_c _ h1)).trans (Int.max_comm _ _) | with_reducible exact Int.max_eq_left (le_c _ h2) | with_reducible exact (Int.max_eq_left (le_c _ h2)).symm | with_reducible exact Int.max_eq_right (le_c _ h2) | with_reducible exact (Int.max_eq_right (le_c _ h2)).symm | with_reducible exact Int.min_eq_left (le_c _ h2) | with_reducible exact (Int.min_eq_left (le_c _ h2)).symm | with_reducible exact Int.min_eq_right (le_c _ h2) | with_reducible exact (Int.min_eq_right (le_c _ h2)).symm | with_reducible exact dmn (le_c _ h2) | with_reducible exact (dmn (le_c _ h2)).symm | with_reducible exact (dmn (le_c _ h2)).trans (Int.min_comm _ _) | with_reducible exact dmx (le_c _ h2) | with_reducible exact (dmx (le_c _ h2)).symm | with_reducible exact (dmx (le_c _ h2)).trans (Int.max_comm _ _) | with_reducible exact dmn2 (le_c _ h2) | with_reducible exact (dmn2 (le_c _ h2)).symm | with_reducible exact (dmn2 (le_c _ h2)).trans (Int.min_comm _ _) | with_reducible exact dmx2 (le_c _ h2) | with_reducible exact (dmx2 (le_c _ h2)).symm | with_reducible exact (dmx2 (le_c _ h2)).trans (Int.max_comm _ _) | with_reducible exact dmn3 (le_c _ h2) | with_reducible exact (dmn3 (le_c _ h2)).symm | with_reducible exact (dmn3 (le_c _ h2)).trans (Int.min_comm _ _) | with_reducible exact dmx3 (le_c _ h2) | with_reducible exact (dmx3 (le_c _ h2)).symm | with_reducible exact (dmx3 (le_c _ h2)).trans (Int.max_comm _ _) | with_reducible exact dmn4 (le_c _ h2) | with_reducible exact (dmn4 (le_c _ h2)).symm | with_reducible exact (dmn4 (le_c _ h2)).trans (Int.min_comm _ _) | with_reducible exact dmx4 (le_c _ h2) | with_reducible exact (dmx4 (le_c _ h2)).symm | with_reducible exact (dmx4 (le_c _ h2)).trans (Int.max_comm _ _) | with_reducible exact Int.max_eq_left (le_c _ (Int.le_trans h1 h2)) | with_reducible exact (Int.max_eq_left (le_c _ (Int.le_trans h1 h2))).symm | with_reducible exact Int.max_eq_right (le_c _ (Int.le_trans h1 h2)) | with_reducible exact (Int.max_eq_right (le_c _ (Int.le_trans h1 h2))).symm | with_reducible exact Int.min_eq_left (le_c _ (Int.le_trans h1 h2)) | with_reducible exact (Int.min_eq_left (le_c _ (Int.le_trans h1 h2))).symm | with_reducible exact Int.min_eq_right (le_c _ (Int.le_trans h1 h2)) | with_reducible exact (Int.min_eq_right (le_c _ (Int.le_trans h1 h2))).symm | with_reducible exact dmn (le_c _ (Int.le_trans h1 h2)) | with_reducible exact (dmn (le_c _ (Int.le_trans h1 h2))).symm | with_reducible exact (dmn (le_c _ (Int.le_trans h1 h2))).trans (Int.min_comm _ _) | with_reducible exact dmx (le_c _ (Int.le_trans h1 h2)) | with_reducible exact (dmx (le_c _ (Int.le_trans h1 h2))).symm | with_reducible exact (dmx (le_c _ (Int.le_trans h1 h2))).trans (Int.max_comm _ _) | with_reducible exact dmn2 (le_c _ (Int.le_trans h1 h2)) | with_reducible exact (dmn2 (le_c _ (Int.le_trans h1 h2))).symm | with_reducible exact (dmn2 (le_c _ (Int.le_trans h1 h2))).trans (Int.min_comm _ _) | with_reducible exact dmx2 (le_c _ (Int.le_trans h1 h2)) | with_reducible exact (dmx2 (le_c _ (Int.le_trans h1 h2))).symm | with_reducible exact (dmx2 (le_c _ (Int.le_trans h1 h2))).trans (Int.max_comm _ _) | with_reducible exact dmn3 (le_c _ (Int.le_trans h1 h2)) | with_reducible exact (dmn3 (le_c _ (Int.le_trans h1 h2))).symm | with_reducible exact (dmn3 (le_c _ (Int.le_trans h1 h2))).trans (Int.min_comm _ _) | with_reducible exact dmx3 (le_c _ (Int.le_trans h1 h2)) | with_reducible exact (dmx3 (le_c _ (Int.le_trans h1 h2))).symm | with_reducible exact (dmx3 (le_c _ (Int.le_trans h1 h2))).trans (Int.max_comm _ _) | with_reducible exact dmn4 (le_c _ (Int.le_trans h1 h2)) | with_reducible exact (dmn4 (le_c _ (Int.le_trans h1 h2))).symm | with_reducible exact (dmn4 (le_c _ (Int.le_trans h1 h2))).trans (Int.min_comm _ _) | with_reducible exact dmx4 (le_c _ (Int.le_trans h1 h2)) | with_reducible exact (dmx4 (le_c _ (Int.le_trans h1 h2))).symm | with_reducible exact (dmx4 (le_c _ (Int.le_trans h1 h2))).trans (Int.max_comm _ _) | with_reducible exact ((dmn4 (le_c _ h1)).trans (Int.min_comm _ _)).symm | lia
theorem kd6 (h1 : x ≤ y) (h2 : y ≤ z) : (dStep (comp n ⟨x, y, z⟩) 115) = comp (n + 1) (lStep (lStep ⟨x, y, z⟩ 116) 109) := by
  simp only [comp, (st_d _).1, (st_d _).2.1, (st_d _).2.2, (st_l _).1, (st_l _).2.1, (st_l _).2.2]
  simp only [smin, smax, cs, ca]
  refine tri3 ?_ ?_ ?_ <;> first | with_reducible rfl | with_reducible exact Int.max_comm _ _ | with_reducible exact Int.min_comm _ _ | with_reducible exact Int.max_eq_left (le_c _ h1) | with_reducible exact (Int.max_eq_left (le_c _ h1)).symm | with_reducible exact Int.max_eq_right (le_c _ h1) | with_reducible exact (Int.max_eq_right (le_c _ h1)).symm | with_reducible exact Int.min_eq_left (le_c _ h1) | with_reducible exact (Int.min_eq_left (le_c _ h1)).symm | with_reducible exact Int.min_eq_right (le_c _ h1) | with_reducible exact (Int.min_eq_right (le_c _ h1)).symm | with_reducible exact dmn (le_c _ h1) | with_reducible exact (dmn (le_c _ h1)).symm | with_reducible exact (dmn (le_c _ h1)).trans (Int.min_comm _ _) | with_reducible exact dmx (le_c _ h1) | with_reducible exact (dmx (le_c _ h1)).symm | with_reducible exact (dmx (le_c _ h1)).trans (Int.max_comm _ _) | with_reducible exact dmn2 (le_c _ h1) | with_reducible exact (dmn2 (le_c _ h1)).symm | with_reducible exact (dmn2 (le_c _ h1)).trans (Int.min_comm _ _) | with_reducible exact dmx2 (le_c _ h1) | with_reducible exact (dmx2 (le_c _ h1)).symm | with_reducible exact (dmx2 (le_c _ h1)).trans (Int.max_comm _ _) | with_reducible exact dmn3 (le_c _ h1) | with_reducible exact (dmn3 (le_c _ h1)).symm | with_reducible exact (dmn3 (le_c _ h1)).trans (Int.min_comm _ _) | with_reducible exact dmx3 (le_c _ h1) | with_reducible exact (dmx3 (le_c _ h1)).symm | with_reducible exact (dmx3 (le_c _ h1)).trans (Int.max_comm _ _) | with_reducible exact dmn4 (le_c _ h1) | with_reducible exact (dmn4 (le_c _ h1)).symm | with_reducible exact (dmn4 (le_c _ h1)).trans (Int.min_comm _ _) | with_reducible exact dmx4 (le_c _ h1) | with_reducible exact (dmx4 (le_c _ h1)).symm | with_reducible exact (dmx4 (le_c _ h1)).trans (Int.max_comm _ _) | with_reducible exact Int.max_eq_left (le_c _ h2) | with_reducible exact (Int.max_eq_left (le_c _ h2)).symm | with_reducible exact Int.max_eq_right (le_c _ h2) | with_reducible exact (Int.max_eq_right (le_c _ h2)).symm | with_reducible exact Int.min_eq_left (le_c _ h2) | with_reducible exact (Int.min_eq_left (le_c _ h2)).symm | with_reducible exact Int.min_eq_right (le_c _ h2) | with_reducible exact (Int.min_eq_right (le_c _ h2)).symm | with_reducible exact dmn (le_c _ h2) | with_reducible exact (dmn (le_c _ h2)).symm | with_reducible exact (dmn (le_c _ h2)).trans (Int.min_comm _ _) | with_reducible exact dmx (le_c _ h2) | with_reducible exact (dmx (le_c _ h2)).symm | with_reducible exact (dmx (le_c _ h2)).trans (Int.max_comm _ _) | with_reducible exact dmn2 (le_c _ h2) | with_reducible exact (dmn2 (le_c _ h2)).symm | with_reducible exact (dmn2 (le_c _ h2)).trans (Int.min_comm _ _) | with_reducible exact dmx2 (le_c _ h2) | with_reducible exact (dmx2 (le_c _ h2)).symm | with_reducible exact (dmx2 (le_c _ h2)).trans (Int.max_comm _ _) | with_reducible exact dmn3 (le_c _ h2) | with_reducible exact (dmn3 (le_c _ h2)).symm | with_reducible exact (dmn3 (le_c _ h2)).trans (Int.min_comm _ _) | with_reducible exact dmx3 (le_c _ h2) | with_reducible exact (dmx3 (le_c _ h2)).symm | with_reducible exact (dmx3 (le_c _ h2)).trans (Int.max_comm _ _) | with_reducible exact dmn4 (le_c _ h2) | with_reducible exact (dmn4 (le_c _ h2)).symm | with_reducible exact (dmn4 (le_c _ h2)).trans (Int.min_comm _ _) | with_reducible exact dmx4 (le_c _ h2) | with_reducible exact (dmx4 (le_c _ h2)).symm | with_reducible exact (dmx4 (le_c _ h2)).trans (Int.max_comm _ _) | with_reducible exact Int.max_eq_left (le_c _ (Int.le_trans h1 h2)) | with_reducible exact (Int.max_eq_left (le_c _ (Int.le_trans h1 h2))).symm | with_reducible exact Int.max_eq_right (le_c _ (Int.le_trans h1 h2)) | with_reducible exact (Int.max_eq_right (le_c _ (Int.le_trans h1 h2))).symm | with_reducible exact Int.min_eq_left (le_c _ (Int.le_trans h1 h2)) | with_reducible exact (Int.min_eq_left (le_c _ (Int.le_trans h1 h2))).symm | with_reducible exact Int.min_eq_right (le_c _ (Int.le_trans h1 h2)) | with_reducible exact (Int.min_eq_right (le_c _ (Int.le_trans h1 h2))).symm | with_reducible exact dmn (le_c _ (Int.le_trans h1 h2)) | with_reducible exact (dmn (le_c _ (Int.le_trans h1 h2))).symm | with_reducible exact (dmn (le_c _ (Int.le_trans h1 h2))).trans (Int.min_comm _ _) | with_reducible exact dmx (le_c _ (Int.le_trans h1 h2)) | with_reducible exact (dmx (le_c _ (Int.le_trans h1 h2))).symm | with_reducible exact (dmx (le_c _ (Int.le_trans h1 h2))).trans (Int.max_comm _ _) | with_reducible exact dmn2 (le_c _ (Int.le_trans h1 h2)) | with_reducible exact (dmn2 (le_c _ (Int.le_trans h1 h2))).symm | with_reducible exact (dmn2 (le_c _ (Int.le_trans h1 h2))).trans (Int.min_comm _ _) | with_reducible exact dmx2 (le_c _ (Int.le_trans h1 h2)) | with_reducible exact (dmx2 (le_c _ (Int.le_trans h1 h2))).symm | with_reducible exact (dmx2 (le_c _ (Int.le_trans h1 h2))).trans (Int.max_comm _ _) | with_reducible exact dmn3 (le_c _ (Int.le_trans h1 h2)) | with_reducible exact (dmn3 (le_c _ (Int.le_trans h1 h2))).symm | with_reducible exact (dmn3 (le_c _ (Int.le_trans h1 h2))).trans (Int.min_comm _ _) | with_reducible exact dmx3 (le_c _ (Int.le_trans h1 h2)) | with_reducible exact (dmx3 (le_c _ (Int.le_trans h1 h2))).symm | with_reducible exact (dmx3 (le_c _ (Int.le_trans h1 h2))).trans (Int.max_comm _ _) | with_reducible exact dmn4 (le_c _ (Int.le_trans h1 h2)) | with_reducible exact (dmn4 (le_c _ (Int.le_trans h1 h2))).symm | with_reducible exact (dmn4 (le_c _ (Int.le_trans h1 h2))).trans (Int.min_comm _ _) | with_reducible exact dmx4 (le_c _ (Int.le_trans h1 h2)) | with_reducible exact (dmx4 (le_c _ (Int.le_trans h1 h2))).symm | with_reducible exact (dmx4 (le_c _ (Int.le_trans h1 h2))).trans (Int.max_comm _ _) | with_reducible exact ((dmn4 (le_c _ h1)).trans (Int.min_comm _ _)).symm | lia
end
theorem inv_of {s : WS} {v : List Nat} {n : Int} (h0 : WOk s) (h1 : lisB v = comp n (wT s)) (h2 : triB v = comp n (wL s)) : Inv s v n :=
  ⟨h0, congrArg Tri.x h1, congrArg Tri.y h1, congrArg Tri.z h1, congrArg Tri.x h2, congrArg Tri.y h2, congrArg Tri.z h2⟩
theorem inv_step {s : WS} {v : List Nat} {n : Int} (h : Inv s v n) {p : List Nat × List Nat} (hp : p ∈ kindsA) : Inv (p.1.foldl wStep s) (p.2 ++ v) (n + if p.1 = [] then 0 else 1) := by
  have ok := h.ok
  have e1 : lisB v = comp n ⟨(wT s).x, (wT s).y, (wT s).z⟩ := Tri.ext' h.a1 h.a2 h.a3
  have e2 : triB v = comp n ⟨(wL s).x, (wL s).y, (wL s).z⟩ := Tri.ext' h.b1 h.b2 h.b3
  have o1 := wT_ord ok
  have o2 := wL_ord s
  simp only [kindsA, List.mem_cons, List.not_mem_nil, or_false] at hp
  rcases hp with rfl | rfl | rfl | rfl | rfl | rfl | rfl
  · exact ⟨ok, h.a1.trans (by rw [if_pos rfl, Int.add_zero]; rfl), h.a2.trans (by rw [if_pos rfl, Int.add_zero]; rfl), h.a3.trans (by rw [if_pos rfl, Int.add_zero]; rfl), h.b1.trans (by rw [if_pos rfl, Int.add_zero]; rfl), h.b2.trans (by rw [if_pos rfl, Int.add_zero]; rfl), h.b3.trans (by rw [if_pos rfl, Int.add_zero]; rfl)⟩
  · refine inv_of (wFold_ok _ ok) ?_ ?_
    · show (bStep (lisB v) 109) = comp (n + 1) (wT (wStep (wStep s 115) 116))
      rw [wT_step (wStep_ok ok _), wT_step ok, e1]
      exact kb1 o1.2 o1.1
    · show (dStep (triB v) 109) = comp (n + 1) (wL (wStep (wStep s 115) 116))
      rw [wL_step, wL_step, e2]
      exact kd1 o2.1 o2.2
  · refine inv_of (wFold_ok _ ok) ?_ ?_
    · show (bStep (bStep (lisB v) 109) 115) = comp (n + 1) (wT (wStep s 116))
      rw [wT_step ok, e1]
      exact kb2 o1.2 o1.1
    · show (dStep (dStep (triB v) 109) 115) = comp (n + 1) (wL (wStep s 116))
      rw [wL_step, e2]
      exact kd2 o2.1 o2.2
  · refine inv_of (wFold_ok _ ok) ?_ ?_
    · show (bStep (bStep (lisB v) 116) 115) = comp (n + 1) (wT (wStep s 109))
      rw [wT_step ok, e1]
      exact kb3 o1.2 o1.1
    · show (dStep (dStep (triB v) 116) 115) = comp (n + 1) (wL (wStep s 109))
      rw [wL_step, e2]
      exact kd3 o2.1 o2.2
  · refine inv_of (wFold_ok _ ok) ?_ ?_
    · show (bStep (lisB v) 116) = comp (n + 1) (wT (wStep (wStep s 115) 109))
      rw [wT_step (wStep_ok ok _), wT_step ok, e1]
      exact kb4 o1.2 o1.1
    · show (dStep (triB v) 116) = comp (n + 1) (wL (wStep (wStep s 115) 109))
      rw [wL_step, wL_step, e2]
      exact kd4 o2.1 o2.2
  · refine inv_of (wFold_ok _ ok) ?_ ?_
    · show (bStep (bStep (lisB v) 109) 116) = comp (n + 1) (wT (wStep s 115))
      rw [wT_step ok, e1]
      exact kb5 o1.2 o1.1
    · show (dStep (dStep (triB v) 109) 116) = comp (n + 1) (wL (wStep s 115))
      rw [wL_step, e2]
      exact kd5 o2.1 o2.2
  · refine inv_of (wFold_ok _ ok) ?_ ?_
    · show (bStep (lisB v) 115) = comp (n + 1) (wT (wStep (wStep s 116) 109))
      rw [wT_step (wStep_ok ok _), wT_step ok, e1]
      exact kb6 o1.2 o1.1
    · show (dStep (triB v) 115) = comp (n + 1) (wL (wStep (wStep s 116) 109))
      rw [wL_step, wL_step, e2]
      exact kd6 o2.1 o2.2
theorem mxb {a z : Int} (h : a ≤ z) : z ≤ max z (a + 1) ∧ max z (a + 1) ≤ z + 1 := ⟨Int.le_max_left _ _, Int.max_le.mpr ⟨Int.le_add_one (Int.le_refl _), Int.add_le_add_right h 1⟩⟩
theorem mxc {a z : Int} (h : a ≤ z) : z ≤ max (z + 1) (a + 1) ∧ max (z + 1) (a + 1) ≤ z + 1 := ⟨Int.le_trans (Int.le_add_one (Int.le_refl _)) (Int.le_max_left _ _), Int.max_le.mpr ⟨Int.le_refl _, Int.add_le_add_right h 1⟩⟩
theorem mxd {a b z : Int} (h : a ≤ z) (h2 : b ≤ z) : z ≤ max (max z (a + 1)) (b + 1) ∧ max (max z (a + 1)) (b + 1) ≤ z + 1 := ⟨Int.le_trans (Int.le_max_left _ _) (Int.le_max_left _ _), Int.max_le.mpr ⟨(mxb h).2, Int.add_le_add_right h2 1⟩⟩
theorem up1 (z : Int) : z ≤ z + 1 := Int.le_add_one (Int.le_refl _)
/-- a piece lengthens a rising run by one at most -/
theorem lis_piece {s : WS} {p : List Nat × List Nat} (hp : p ∈ kindsA) : (wL s).z ≤ (wL (p.1.foldl wStep s)).z ∧ (wL (p.1.foldl wStep s)).z ≤ (wL s).z + 1 := by
  obtain ⟨q1, q2⟩ := wL_ord s
  have q3 := Int.le_trans q1 q2
  simp only [kindsA, List.mem_cons, List.not_mem_nil, or_false] at hp
  rcases hp with rfl | rfl | rfl | rfl | rfl | rfl | rfl
  · exact ⟨Int.le_refl _, up1 _⟩
  · show (wL s).z ≤ (wL (wStep (wStep s 115) 116)).z ∧ (wL (wStep (wStep s 115) 116)).z ≤ (wL s).z + 1
    rw [wL_step, wL_step]; exact mxc q2
  · show (wL s).z ≤ (wL (wStep s 116)).z ∧ (wL (wStep s 116)).z ≤ (wL s).z + 1
    rw [wL_step]; exact mxb q2
  · show (wL s).z ≤ (wL (wStep s 109)).z ∧ (wL (wStep s 109)).z ≤ (wL s).z + 1
    rw [wL_step]; exact mxb q3
  · show (wL s).z ≤ (wL (wStep (wStep s 115) 109)).z ∧ (wL (wStep (wStep s 115) 109)).z ≤ (wL s).z + 1
    rw [wL_step, wL_step]; exact mxc q3
  · show (wL s).z ≤ (wL (wStep s 115)).z ∧ (wL (wStep s 115)).z ≤ (wL s).z + 1
    rw [wL_step]; exact ⟨up1 _, Int.le_refl _⟩
  · show (wL s).z ≤ (wL (wStep (wStep s 116) 109)).z ∧ (wL (wStep (wStep s 116) 109)).z ≤ (wL s).z + 1
    rw [wL_step, wL_step]; exact mxd q2 q3
theorem lisB_piece {v : List Nat} {p : List Nat × List Nat} (hp : p ∈ kindsA) : (lisB v).z ≤ (lisB (p.2 ++ v)).z ∧ (lisB (p.2 ++ v)).z ≤ (lisB v).z + 1 := by
  obtain ⟨-, q1, q2, -⟩ := lisB_ord v
  have q3 := Int.le_trans q1 q2
  simp only [kindsA, List.mem_cons, List.not_mem_nil, or_false] at hp
  rcases hp with rfl | rfl | rfl | rfl | rfl | rfl | rfl
  · exact ⟨Int.le_refl _, up1 _⟩
  · exact ⟨up1 _, Int.le_refl _⟩
  · exact mxc q3
  · exact mxd q2 q3
  · exact mxb q2
  · exact mxc q2
  · exact mxb q3
end Mine
end
section
set_option Elab.async false
set_option maxRecDepth 100000
namespace Mine
open PySem PySem.W PyProof.Rows PySem.Calls PySem.Spec PySem.Builtin PySem.Builtin.Str PySem.StrLaws
theorem eM : strM = tx [109] := by decide +kernel
theorem eT : strT = tx [116] := by decide +kernel
theorem eS : strS = tx [115] := by decide +kernel
theorem eSS : strSS = tx [115, 115] := by decide +kernel
theorem eE : Str.empty = tx [] := by decide +kernel
theorem dw (c : Nat) : ∀ q : List Nat, ∃ k, k ≤ q.length ∧ q.dropWhile (· != c) = q.drop k ∧ (∀ j, j < k → q[j]? ≠ some c) ∧ (k < q.length → q[k]? = some c)
  | [] => ⟨0, by simp, by simp, by simp, by simp⟩
  | a :: q => by
    by_cases ha : a = c
    · subst ha
      exact ⟨0, by simp, by simp, by simp, by simp⟩
    · obtain ⟨k, h1, h2, h3, h4⟩ := dw c q
      refine ⟨k + 1, by simpa using h1, ?_, fun j hj => ?_, fun hk => ?_⟩
      · rw [List.dropWhile_cons_of_pos (by simpa using ha), h2, List.drop_succ_cons]
      · cases j with
        | zero => simpa using ha
        | succ j => simpa using h3 j (by omega)
      · simpa using h4 (by simpa using hk)
theorem from_nat (n a : Nat) : fromIndex n (a : Int) = a := by unfold fromIndex; omega
theorem findB_nat (l y : List Nat) (a e : Nat) : findB (tx l) (tx y) (a : Int) (e : Int) = match occurrences (tx l) (tx y) a (min e l.length) 1 with | k :: _ => (k : Int) | [] => -1 := by
  unfold findB
  rw [tx_len, from_nat, from_nat]
  first | done | rfl
theorem findB_one {l : List Nat} {c a e k : Nat} (he : e ≤ l.length) (h1 : ∀ j, j < k → ((l.take e).drop a)[j]? ≠ some c) (hk : k < ((l.take e).drop a).length) (h2 : ((l.take e).drop a)[k]? = some c) : findB (tx l) (tx [c]) (a : Int) (e : Int) = ((a + k : Nat) : Int) := by
  rw [findB_nat, Nat.min_eq_left he]
  simp only [List.length_drop, List.length_take] at hk
  have g : ∀ j, j ≤ k → ((l.take e).drop a)[j]? = l[a + j]? := fun j hj => by
    rw [List.getElem?_drop, List.getElem?_take, if_pos (by omega)]
  rw [occ_at (i := a + k) (by omega) (by rw [tx_len, List.length_singleton]; omega) (by rw [sub_one]; rw [g k (Nat.le_refl _)] at h2; simpa using h2) fun j hj hjk => by
    rw [sub_one]
    have := h1 (j - a) (by omega)
    rw [g (j - a) (by omega), show a + (j - a) = j from by omega] at this
    simpa using this]
theorem findB_no {l : List Nat} {c a e : Nat} (he : e ≤ l.length) (h1 : ∀ j, j < ((l.take e).drop a).length → ((l.take e).drop a)[j]? ≠ some c) : findB (tx l) (tx [c]) (a : Int) (e : Int) = -1 := by
  rw [findB_nat, Nat.min_eq_left he]
  rw [occ_no fun j hj hje => by
    rw [tx_len, List.length_singleton] at hje
    rw [sub_one]
    have := h1 (j - a) (by simp only [List.length_drop, List.length_take]; omega)
    rw [List.getElem?_drop, List.getElem?_take, if_pos (by omega), show a + (j - a) = j from by omega] at this
    simpa using this]
theorem ellGo_goL {l : List Nat} {e : Nat} (he : e ≤ l.length) : ∀ (p : List Nat) (a : Nat), a ≤ e →
    (goL p ((l.take e).drop a) = none ∧ ellGo (tx l) (e : Int) (p.map fun c => tx [c]) (a : Int) = none) ∨ ∃ b : Nat, b ≤ e ∧ goL p ((l.take e).drop a) = some ((l.take e).drop b) ∧ ellGo (tx l) (e : Int) (p.map fun c => tx [c]) (a : Int) = some (b : Int)
  | [], a, ha => .inr ⟨a, ha, rfl, rfl⟩
  | c :: p, a, ha => by
    obtain ⟨k, h1, h2, h3, h4⟩ := dw c ((l.take e).drop a)
    by_cases hk : k < ((l.take e).drop a).length
    · have hf := findB_one he h3 hk (h4 hk)
      have hlen : ((l.take e).drop a).length = e - a := by simp only [List.length_drop, List.length_take]; omega
      have hg : goL (c :: p) ((l.take e).drop a) = goL p ((l.take e).drop (a + k + 1)) := by
        rw [goL, h2, List.drop_eq_getElem_cons hk]
        dsimp only
        rw [List.drop_drop]
        rfl
      have he2 : ellGo (tx l) (e : Int) ((c :: p).map fun c => tx [c]) (a : Int) = ellGo (tx l) (e : Int) (p.map fun c => tx [c]) ((a + k + 1 : Nat) : Int) := by
        rw [List.map_cons, ellGo, hf, if_neg (by omega), tx_len, List.length_singleton]
        congr 1
      rw [hg, he2]
      exact ellGo_goL he p (a + k + 1) (by omega)
    · left
      have hk2 : k = ((l.take e).drop a).length := by omega
      refine ⟨?_, ?_⟩
      · rw [goL, h2, hk2, List.drop_length]
      · rw [List.map_cons, ellGo, findB_no he (hk2 ▸ h3), if_pos (by decide)]
theorem ellGo_some {l : List Nat} {e : Nat} (he : e ≤ l.length) (p : List Nat) (a : Nat) (ha : a ≤ e) : (ellGo (tx l) (e : Int) (p.map fun c => tx [c]) (a : Int)).isSome = decide (List.Sublist p ((l.take e).drop a)) := by
  rw [Bool.eq_iff_iff, decide_eq_true_eq, ← goL_iff]
  rcases ellGo_goL he p a ha with ⟨h1, h2⟩ | ⟨b, _, h1, h2⟩
  · rw [h1, h2]; simp
  · rw [h1, h2]; simp
theorem starts_tx (l y : List Nat) : Txt.startswith (tx l) (tx y) = decide (l.take y.length = y) := by
  unfold Txt.startswith
  rw [tx_len, tx_len, sub_tx, List.drop_zero, Bool.eq_iff_iff]
  simp only [Bool.and_eq_true, decide_eq_true_eq]
  constructor
  · exact fun h => h.2
  · intro h
    refine ⟨?_, h⟩
    have := congrArg List.length h
    rw [List.length_take] at this
    omega
theorem ends_tx (l y : List Nat) : Txt.endswith (tx l) (tx y) = decide (l.drop (l.length - y.length) = y) := by
  unfold Txt.endswith
  rw [tx_len, tx_len, sub_tx, Bool.eq_iff_iff]
  simp only [Bool.and_eq_true, decide_eq_true_eq]
  constructor
  · rintro ⟨h1, h2⟩
    rwa [List.take_of_length_le (by rw [List.length_drop]; omega)] at h2
  · intro h
    have := congrArg List.length h
    rw [List.length_drop] at this
    refine ⟨by omega, ?_⟩
    rw [List.take_of_length_le (by rw [List.length_drop]; omega), h]
theorem ellA_found (w p : List Nat) : ellA (strM ++ tx w ++ strS) strM strS (p.map fun c => tx [c]) = decide (List.Sublist p w) := by
  rw [eM, eS, tx_app, tx_app]
  unfold ellA
  rw [starts_tx, ends_tx, tx_len, tx_len, tx_len]
  have e1 : (([109] ++ w ++ [115]).length : Int) - (([115] : List Nat).length : Int) = ((w.length + 1 : Nat) : Int) := by simp
  rw [e1, show ((([109] : List Nat).length : Nat) : Int) = ((1 : Nat) : Int) from rfl, ellGo_some (by simp) p 1 (by omega)]
  have e2 : List.drop 1 (List.take (w.length + 1) ([109] ++ w ++ [115])) = w := by simp
  rw [e2]
  simp
  intros
  omega
/-- the longest rising runs -/
theorem lisB_mono (c : Nat) (r : List Nat) : (lisB r).x ≤ (lisB (c :: r)).x ∧ (lisB r).y ≤ (lisB (c :: r)).y ∧ (lisB r).z ≤ (lisB (c :: r)).z := by
  show _ ≤ (bStep (lisB r) c).x ∧ _ ≤ (bStep (lisB r) c).y ∧ _ ≤ (bStep (lisB r) c).z
  generalize lisB r = q
  unfold bStep
  split
  · exact ⟨Int.le_add_one (Int.le_refl _), Int.le_max_left _ _, Int.le_max_left _ _⟩
  · split
    · exact ⟨Int.le_refl _, Int.le_add_one (Int.le_refl _), Int.le_max_left _ _⟩
    · exact ⟨Int.le_refl _, Int.le_refl _, Int.le_add_one (Int.le_refl _)⟩
theorem up_one {a n : Nat} {x : Int} (e : a = n + 1) (h : (n : Int) ≤ x) : (a : Int) ≤ x + 1 := by subst e; exact Int.add_le_add_right h 1
theorem lis_to : ∀ (w : List Nat) (i j k : Nat), List.Sublist (List.replicate i 109 ++ List.replicate j 116 ++ List.replicate k 115) w →
    ((i + j + k : Nat) : Int) ≤ (lisB w).z ∧ (i = 0 → ((j + k : Nat) : Int) ≤ (lisB w).y) ∧ (i = 0 → j = 0 → (k : Int) ≤ (lisB w).x)
  | [], i, j, k, h => by
    have := List.eq_nil_of_sublist_nil h
    simp at this
    obtain ⟨rfl, rfl, rfl⟩ := this
    simp [lisB]
  | c :: r, i, j, k, h => by
    rcases List.sublist_cons_iff.mp h with h | ⟨q, e, h⟩
    · have ih := lis_to r i j k h
      have m := lisB_mono c r
      exact ⟨Int.le_trans ih.1 m.2.2, fun e => Int.le_trans (ih.2.1 e) m.2.1, fun e e' => Int.le_trans (ih.2.2 e e') m.1⟩
    · rcases i with _ | i
      · rcases j with _ | j
        · rcases k with _ | k
          · exact nomatch e
          · obtain ⟨rfl, rfl⟩ := List.cons.inj (show 115 :: List.replicate k 115 = c :: q from e)
            have i1 := up_one (a := k + 1) rfl ((lis_to r 0 0 k h).2.2 rfl rfl)
            exact ⟨Int.le_trans (Int.le_of_eq (by simp)) (Int.le_trans i1 (Int.le_max_right _ _)), fun _ => Int.le_trans (Int.le_of_eq (by simp)) (Int.le_trans i1 (Int.le_max_right _ _)), fun _ _ => i1⟩
        · obtain ⟨rfl, rfl⟩ := List.cons.inj (show 116 :: (List.replicate j 116 ++ List.replicate k 115) = c :: q from e)
          have i2 := up_one (a := j + 1 + k) (Nat.add_right_comm j 1 k) ((lis_to r 0 j k h).2.1 rfl)
          exact ⟨Int.le_trans (Int.le_of_eq (by simp)) (Int.le_trans i2 (Int.le_max_right _ _)), fun _ => i2, fun _ e => nomatch e⟩
      · obtain ⟨rfl, rfl⟩ := List.cons.inj (show 109 :: (List.replicate i 109 ++ List.replicate j 116 ++ List.replicate k 115) = c :: q from e)
        have i3 := up_one (a := i + 1 + j + k) (by rw [Nat.add_right_comm i 1 j, Nat.add_right_comm _ 1 k]) (lis_to r i j k h).1
        exact ⟨i3, fun e => (nomatch e), fun e => (nomatch e)⟩
noncomputable def Letters (w : List Nat) : Prop := ∀ c ∈ w, c = 115 ∨ c = 116 ∨ c = 109
theorem lis_from : ∀ (w : List Nat), Letters w → (∃ k : Nat, (k : Int) = (lisB w).x ∧ List.Sublist (List.replicate k 115) w) ∧ (∃ j k : Nat, ((j + k : Nat) : Int) = (lisB w).y ∧ List.Sublist (List.replicate j 116 ++ List.replicate k 115) w) ∧
    (∃ i j k : Nat, ((i + j + k : Nat) : Int) = (lisB w).z ∧ List.Sublist (List.replicate i 109 ++ (List.replicate j 116 ++ List.replicate k 115)) w)
  | [], _ => ⟨⟨0, rfl, by simp⟩, ⟨0, 0, rfl, by simp⟩, ⟨0, 0, 0, rfl, by simp⟩⟩
  | c :: r, h => by
    obtain ⟨⟨k1, e1, s1⟩, ⟨j2, k2, e2, s2⟩, ⟨i3, j3, k3, e3, s3⟩⟩ := lis_from r fun c hc => h c (.tail _ hc)
    rcases h c (.head _) with rfl | rfl | rfl
    · have a1 : List.Sublist (List.replicate (k1 + 1) 115) (115 :: r) := by rw [List.replicate_succ]; exact s1.cons_cons _
      simp only [lisB, bStep, if_true]
      refine ⟨⟨k1 + 1, congrArg (· + 1) e1, a1⟩, ?_, ?_⟩
      · by_cases hm : (lisB r).x + 1 ≤ (lisB r).y
        · exact ⟨j2, k2, e2.trans (Int.max_eq_left hm).symm, s2.cons _⟩
        · exact ⟨0, k1 + 1, (by omega : _ = (lisB r).x + 1).trans (Int.max_eq_right (Int.le_of_lt (Int.not_le.mp hm))).symm, by simpa using a1⟩
      · by_cases hm : (lisB r).x + 1 ≤ (lisB r).z
        · exact ⟨i3, j3, k3, e3.trans (Int.max_eq_left hm).symm, s3.cons _⟩
        · exact ⟨0, 0, k1 + 1, (by omega : _ = (lisB r).x + 1).trans (Int.max_eq_right (Int.le_of_lt (Int.not_le.mp hm))).symm, by simpa using a1⟩
    · have a1 : List.Sublist (List.replicate (j2 + 1) 116 ++ List.replicate k2 115) (116 :: r) := by rw [List.replicate_succ, List.cons_append]; exact s2.cons_cons _
      simp only [lisB, bStep, if_neg (by decide : ¬ (116 : Nat) = 115), if_true]
      refine ⟨⟨k1, e1, s1.cons _⟩, ⟨j2 + 1, k2, (by rw [Nat.add_right_comm]; exact congrArg (· + 1) e2), a1⟩, ?_⟩
      by_cases hm : (lisB r).y + 1 ≤ (lisB r).z
      · exact ⟨i3, j3, k3, e3.trans (Int.max_eq_left hm).symm, s3.cons _⟩
      · exact ⟨0, j2 + 1, k2, (by omega : _ = (lisB r).y + 1).trans (Int.max_eq_right (Int.le_of_lt (Int.not_le.mp hm))).symm, by simpa using a1⟩
    · simp only [lisB, bStep, if_neg (by decide : ¬ (109 : Nat) = 115), if_neg (by decide : ¬ (109 : Nat) = 116)]
      exact ⟨⟨k1, e1, s1.cons _⟩, ⟨j2, k2, e2, s2.cons _⟩, ⟨i3 + 1, j3, k3, (by rw [Nat.add_right_comm i3, Nat.add_right_comm _ 1 k3]; exact congrArg (· + 1) e3), by rw [List.replicate_succ, List.cons_append]; exact s3.cons_cons _⟩⟩
theorem midL_map (i j k : Nat) : midL i j k = (List.replicate i 109 ++ List.replicate j 116 ++ List.replicate k 115).map fun c => tx [c] := by
  unfold midL
  rw [eM, eT, eS, List.map_append, List.map_append, List.map_replicate, List.map_replicate, List.map_replicate]
theorem rep_sub {i j c : Nat} (h : i ≤ j) : List.Sublist (List.replicate i c) (List.replicate j c) := by
  rw [List.replicate_sublist_replicate]; exact h
theorem sub_min (a b : Nat) : b - min a b = b - a := by
  rcases Nat.le_total a b with h | h
  · rw [Nat.min_eq_left h]
  · rw [Nat.min_eq_right h, Nat.sub_self, Nat.sub_eq_zero_of_le h]
theorem foundB_iff {w : List Nat} (hw : Letters w) (k : Nat) : foundB (tx w) k = decide ((k : Int) ≤ (lisB w).z) := by
  rw [Bool.eq_iff_iff, decide_eq_true_eq]
  unfold foundB
  simp only [List.any_eq_true, List.mem_range]
  constructor
  · rintro ⟨i, hi, j, hj, h⟩
    rw [midL_map, ellA_found, decide_eq_true_eq] at h
    have := (lis_to w i j (k - i - j) h).1
    omega
  · intro h
    obtain ⟨-, -, i, j, l, e, s⟩ := lis_from w hw
    have hk : k ≤ i + j + l := Int.ofNat_le.mp (Int.le_trans h (Int.le_of_eq e.symm))
    clear h e
    have m1 := Nat.min_le_left i k
    have m2 := Nat.min_le_right i k
    have m3 : k - min i k = k - i := sub_min i k
    generalize min i k = a at *
    have n1 := Nat.min_le_left j (k - a)
    have n2 := Nat.min_le_right j (k - a)
    have n3 : k - a - min j (k - a) = k - a - j := sub_min j (k - a)
    refine ⟨a, Nat.lt_succ_of_le m2, min j (k - a), Nat.lt_of_le_of_lt n2 (by rw [Nat.succ_sub m2]; exact Nat.lt_succ_self _), ?_⟩
    rw [midL_map, ellA_found, decide_eq_true_eq, List.append_assoc, n3, m3]
    exact List.Sublist.trans (.append (rep_sub m1) (.append (rep_sub (m3 ▸ n1)) (rep_sub (by rw [Nat.sub_sub, Nat.sub_le_iff_le_add, Nat.add_comm l]; exact hk)))) s
end Mine
end
section
set_option Elab.async false
set_option maxRecDepth 100000
namespace Mine
open PySem PySem.W PyProof.Rows PySem.Calls PySem.Spec PySem.Builtin PySem.Builtin.Str PySem.StrLaws
noncomputable def goodT (x : Str) : Prop := x.length ≤ 100 ∧ Letters x.cps.toList
noncomputable def blueT (x : Str) : Int := (wRun wZero x).triples
theorem blue_tx (l : List Nat) : blueT (tx l) = (triB l).z := tri_zero l
theorem tx_beq (a b : List Nat) : (tx a == tx b) = decide (a = b) := by rw [Bool.eq_iff_iff]; simp
theorem sub_ne {a c : Nat} {p r : List Nat} (h : a ≠ c) : List.Sublist (a :: p) (c :: r) ↔ List.Sublist (a :: p) r := by
  constructor
  · intro q
    cases q with
    | cons _ q => exact q
    | cons_cons _ q => exact absurd rfl h
  · exact fun q => .cons _ q
theorem tri_pos : ∀ (w : List Nat), Letters w → (List.Sublist [109] w ↔ 0 < (triB w).x) ∧ (List.Sublist [116, 109] w ↔ 0 < (triB w).y) ∧ (List.Sublist [115, 116, 109] w ↔ 0 < (triB w).z)
  | [], _ => by simp [triB]
  | c :: r, h => by
    obtain ⟨h1, h2, h3⟩ := tri_pos r fun c hc => h c (.tail _ hc)
    have o := triB_ord r
    rcases h c (.head _) with rfl | rfl | rfl
    · have a1 : List.Sublist [109] (115 :: r) ↔ 0 < (triB r).x := (sub_ne (by decide)).trans h1
      have a2 : List.Sublist [116, 109] (115 :: r) ↔ 0 < (triB r).y := (sub_ne (by decide)).trans h2
      have a3 : List.Sublist [115, 116, 109] (115 :: r) ↔ 0 < (triB r).y := List.cons_sublist_cons.trans h2
      exact ⟨a1, a2, a3.trans (show 0 < (triB r).y ↔ 0 < min (triB r).y ((triB r).z + 1) by rw [Int.lt_min]; exact ⟨fun h => ⟨h, Int.lt_add_one_of_le o.1⟩, fun h => h.1⟩)⟩
    · have a1 : List.Sublist [109] (116 :: r) ↔ 0 < (triB r).x := (sub_ne (by decide)).trans h1
      have a2 : List.Sublist [116, 109] (116 :: r) ↔ 0 < (triB r).x := List.cons_sublist_cons.trans h1
      have a3 : List.Sublist [115, 116, 109] (116 :: r) ↔ 0 < (triB r).z := (sub_ne (by decide)).trans h3
      exact ⟨a1, a2.trans (show 0 < (triB r).x ↔ 0 < min (triB r).x ((triB r).y + 1) by rw [Int.lt_min]; exact ⟨fun h => ⟨h, Int.lt_add_one_of_le (Int.le_trans o.1 o.2.1)⟩, fun h => h.1⟩), a3⟩
    · have a1 : List.Sublist [109] (109 :: r) ↔ True := by simp
      have a2 : List.Sublist [116, 109] (109 :: r) ↔ 0 < (triB r).y := (sub_ne (by decide)).trans h2
      have a3 : List.Sublist [115, 116, 109] (109 :: r) ↔ 0 < (triB r).z := (sub_ne (by decide)).trans h3
      exact ⟨a1.trans ⟨fun _ => Int.lt_add_one_of_le (Int.le_trans o.1 (Int.le_trans o.2.1 o.2.2)), fun _ => trivial⟩, a2, a3⟩
theorem findB_empty {l : List Nat} {a e : Nat} (he : e ≤ l.length) (ha : a ≤ e) : findB (tx l) (tx []) (a : Int) (e : Int) = (a : Int) := by
  rw [findB_nat, Nat.min_eq_left he, occ_at (i := a) (Nat.le_refl _) (by rw [tx_len]; simpa using ha) (by rw [sub_tx]; simp) fun j h1 h2 => by omega]
theorem ellB_mid (l p : List Nat) : ellB (tx l) (p.map fun c => tx [c]) = decide (List.Sublist p l) := by
  unfold ellB
  rw [eE, tx_len, ellGo, show (0 : Int) = ((0 : Nat) : Int) from rfl, findB_empty (Nat.le_refl _) (Nat.zero_le _), if_neg (by decide), tx_len, ellGo_snoc, Bool.eq_iff_iff, decide_eq_true_eq, ← goL_iff]
  rw [show (((0 : Nat) : Int) + ((([] : List Nat).length : Nat) : Int)) = ((0 : Nat) : Int) from rfl]
  have key := ellGo_goL (Nat.le_refl l.length) p 0 (Nat.zero_le _)
  rw [List.take_length, List.drop_zero] at key
  rcases key with ⟨h1, h2⟩ | ⟨b, hb, h1, h2⟩
  · rw [h1, h2]; simp
  · rw [h1, h2]
    simp only [Option.bind_some, ellGo, findB_empty (Nat.le_refl _) hb]
    rw [if_neg (by omega)]
    simp
theorem findB_occ {l y : List Nat} {a : Nat} (ha : a ≤ l.length) : (findB (tx l) (tx y) (a : Int) (l.length : Int) < 0) ↔ (occurrences (tx (l.drop a)) (tx y) 0 (l.drop a).length 1).isEmpty = true := by
  rw [findB_nat, Nat.min_self]
  rcases occ_some (x := tx l) (y := tx y) (lo := a) (hi := l.length) with ⟨i, h1, h2, h3, _, e⟩ | ⟨h1, e⟩
  · rw [e]
    rw [tx_len] at h2
    rcases occ_some (x := tx (l.drop a)) (y := tx y) (lo := 0) (hi := (l.drop a).length) with ⟨i', _, _, _, _, e'⟩ | ⟨h1', _⟩
    · rw [e']
      constructor
      · intro h; dsimp only at h; omega
      · intro h; cases h
    · have := h1' (i - a) (by omega) (by rw [tx_len, List.length_drop]; omega)
      rw [sub_tx, List.drop_drop, show a + (i - a) = i from by omega] at this
      rw [sub_tx] at h3
      rw [h3] at this; cases this
  · rw [e]
    rcases occ_some (x := tx (l.drop a)) (y := tx y) (lo := 0) (hi := (l.drop a).length) with ⟨i', _, h2', h3', _, e'⟩ | ⟨_, e'⟩
    · rw [tx_len, List.length_drop] at h2'
      have := h1 (a + i') (by omega) (by rw [tx_len]; omega)
      rw [sub_tx] at this h3'
      rw [List.drop_drop] at h3'
      rw [h3'] at this; cases this
    · rw [e']; simp
theorem find_zero (l y : List Nat) : Txt.find (tx l) (tx y) = findB (tx l) (tx y) ((0 : Nat) : Int) (l.length : Int) := by
  rw [findB_nat, Nat.min_self]
  unfold Txt.find
  rw [tx_len]
  rfl
theorem trip_h1 (l : List Nat) : ellA (tx l) strS strM [] = (Txt.slice (tx l) none (some 1) == strS && Txt.slice (tx l) (some (-1)) none == strM) := by
  rw [eM, eS]
  have s1 := slice_first l 1
  have s2 := slice_last l 1 (by decide)
  rw [show ((1 : Nat) : Int) = 1 from rfl] at s1 s2
  rw [s1, s2, tx_beq, tx_beq]
  unfold ellA
  rw [starts_tx, ends_tx, tx_len, tx_len, tx_len]
  simp only [ellGo, Option.isSome_some, Bool.and_true]
  rw [Bool.eq_iff_iff]
  simp only [Bool.and_eq_true, decide_eq_true_eq, Bool.not_eq_true', decide_eq_false_iff_not]
  constructor
  · exact fun h => h.1
  · rintro ⟨h1, h2⟩
    refine ⟨⟨h1, h2⟩, ?_⟩
    have hl : l.length ≠ 1 := fun e => by
      rw [e] at h2
      have h1' : l.take 1 = [115] := h1
      rw [List.take_of_length_le (by omega)] at h1'
      subst h1'
      simp at h2
    have := congrArg List.length h1
    simp at this
    simp; omega
theorem trip_h2 (l : List Nat) : ellA (tx l) strSS strSS [] = (Txt.slice (tx l) none (some 2) == strSS && Txt.slice (tx l) (some (-2)) none == strSS && decide (((tx l).length : Int) > 3)) := by
  rw [eSS]
  have s1 := slice_first l 2
  have s2 := slice_last l 2 (by decide)
  rw [show ((2 : Nat) : Int) = 2 from rfl] at s1 s2
  rw [s1, s2, tx_beq, tx_beq]
  unfold ellA
  rw [starts_tx, ends_tx, tx_len, tx_len]
  simp only [ellGo, Option.isSome_some, Bool.and_true]
  rw [Bool.eq_iff_iff]
  simp only [Bool.and_eq_true, decide_eq_true_eq, Bool.not_eq_true', decide_eq_false_iff_not]
  simp only [List.length_cons, List.length_nil]
  constructor
  · rintro ⟨h1, h2⟩; exact ⟨h1, by omega⟩
  · rintro ⟨h1, h2⟩; exact ⟨h1, by omega⟩
theorem trip_h3 (l : List Nat) : ellB (tx l) [strSS, strSS] = (!(occurrences (tx l) strSS 0 (tx l).length 1).isEmpty && !(occurrences (Txt.slice (tx l) (some (Txt.find (tx l) strSS + 2)) none) strSS 0 (Txt.slice (tx l) (some (Txt.find (tx l) strSS + 2)) none).length 1).isEmpty) := by
  unfold ellB
  rw [eE, eSS, tx_len, ellGo, show (0 : Int) = ((0 : Nat) : Int) from rfl, findB_empty (Nat.le_refl _) (Nat.zero_le _), if_neg (by decide), tx_len, find_zero]
  rw [show (((0 : Nat) : Int) + ((([] : List Nat).length : Nat) : Int)) = ((0 : Nat) : Int) from rfl]
  have k1 := findB_occ (l := l) (y := [115, 115]) (a := 0) (Nat.zero_le _)
  rw [List.drop_zero] at k1
  simp only [List.cons_append, List.nil_append, ellGo]
  by_cases hn : findB (tx l) (tx [115, 115]) ((0 : Nat) : Int) (l.length : Int) < 0
  · rw [if_pos hn, k1.mp hn]; rfl
  · rw [if_neg hn]
    have k1' : (occurrences (tx l) (tx [115, 115]) 0 l.length 1).isEmpty = false := by
      cases e : (occurrences (tx l) (tx [115, 115]) 0 l.length 1).isEmpty with
      | false => rfl
      | true => exact absurd (k1.mpr e) hn
    rw [k1']
    have hk : ∃ k : Nat, findB (tx l) (tx [115, 115]) ((0 : Nat) : Int) (l.length : Int) = k ∧ k + 2 ≤ l.length := by
      rw [findB_nat, Nat.min_self] at hn ⊢
      rcases occ_some (x := tx l) (y := tx [115, 115]) (lo := 0) (hi := l.length) with ⟨i, _, h2, _, _, e⟩ | ⟨_, e⟩
      · rw [e]; exact ⟨i, rfl, by rw [tx_len] at h2; exact h2⟩
      · rw [e] at hn; exact absurd (by decide) hn
    obtain ⟨k, hk, hk2⟩ := hk
    rw [hk, tx_len, show ((k : Int) + (([115, 115] : List Nat).length : Nat)) = ((k + 2 : Nat) : Int) from by simp, show ((k : Int) + 2) = ((k + 2 : Nat) : Int) from by simp, slice_lo l (k + 2) hk2, tx_len, tx_len]
    have k2 := findB_occ (l := l) (y := [115, 115]) (a := k + 2) hk2
    by_cases hm : findB (tx l) (tx [115, 115]) ((k + 2 : Nat) : Int) (l.length : Int) < 0
    · rw [if_pos hm, k2.mp hm]; rfl
    · rw [if_neg hm]
      have k2' : (occurrences (tx (l.drop (k + 2))) (tx [115, 115]) 0 (l.drop (k + 2)).length 1).isEmpty = false := by
        cases e : (occurrences (tx (l.drop (k + 2))) (tx [115, 115]) 0 (l.drop (k + 2)).length 1).isEmpty with
        | false => rfl
        | true => exact absurd (k2.mpr e) hm
      rw [k2']
      have hj : ∃ j : Nat, findB (tx l) (tx [115, 115]) ((k + 2 : Nat) : Int) (l.length : Int) = j ∧ j + 2 ≤ l.length := by
        rw [findB_nat, Nat.min_self] at hm ⊢
        rcases occ_some (x := tx l) (y := tx [115, 115]) (lo := k + 2) (hi := l.length) with ⟨i, _, h2, _, _, e⟩ | ⟨_, e⟩
        · rw [e]; exact ⟨i, rfl, by rw [tx_len] at h2; exact h2⟩
        · rw [e] at hm; exact absurd (by decide) hm
      obtain ⟨j, hj, hj2⟩ := hj
      rw [hj, show ((j : Int) + (([115, 115] : List Nat).length : Nat)) = ((j + 2 : Nat) : Int) from by simp, findB_empty (Nat.le_refl _) hj2, if_neg (by omega)]
      rfl
end Mine
end
section
set_option Elab.async false
set_option maxRecDepth 100000
namespace Mine
open PySem PySem.W PyProof.Rows PySem.Calls PySem.Spec PySem.Builtin PySem.Builtin.Str PySem.StrLaws
theorem find3_mid {u w v : List Nat} {c : Nat} (hw : c ∉ w) : Txt.find3 (tx (u ++ (w ++ c :: v))) (tx [c]) (u.length : Int) = ((u.length + w.length : Nat) : Int) := by
  rw [find_tx, occ_at (i := u.length + w.length) (by omega) (by rw [tx_len]; simp; omega) ?_ ?_]
  · rw [sub_one, decide_eq_true_eq, List.getElem?_append_right (by omega), show u.length + w.length - u.length = w.length from by omega, List.getElem?_append_right (by omega)]
    simp
  · intro j h1 h2
    rw [sub_one, decide_eq_false_iff_not, List.getElem?_append_right (by omega), List.getElem?_append_left (by omega)]
    intro e
    exact hw (List.mem_of_getElem? e)
theorem sub_after {c : Nat} {p v : List Nat} : ∀ {u : List Nat}, c ∉ u → List.Sublist (c :: p) (u ++ c :: v) → List.Sublist p v
  | [], _, h => List.cons_sublist_cons.mp h
  | a :: u, hu, h => sub_after (fun q => hu (.tail _ q)) ((sub_ne (fun e => hu (by rw [e]; exact .head _))).mp h)
theorem split_stm {l : List Nat} (h : List.Sublist [115, 116, 109] l) : ∃ u1 u2 u3 u4, l = u1 ++ 115 :: (u2 ++ 116 :: (u3 ++ 109 :: u4)) ∧ 115 ∉ u1 ∧ 116 ∉ u2 ∧ 109 ∉ u3 := by
  obtain ⟨u1, v1, rfl, n1⟩ := List.eq_append_cons_of_mem (h.subset (.head _))
  have h := sub_after n1 h
  obtain ⟨u2, v2, rfl, n2⟩ := List.eq_append_cons_of_mem (h.subset (.head _))
  have h := sub_after n2 h
  obtain ⟨u3, v3, rfl, n3⟩ := List.eq_append_cons_of_mem (h.subset (.head _))
  exact ⟨u1, u2, u3, v3, rfl, n1, n2, n3⟩
theorem wT_fold : ∀ (l : List Nat) {s : WS}, WOk s → wT (l.foldl wStep s) = l.foldl tStep (wT s)
  | [], _, _ => rfl
  | c :: r, s, h => by rw [List.foldl_cons, List.foldl_cons, wT_fold r (wStep_ok h c), wT_step h]
theorem tF1 : ∀ (u : List Nat), 115 ∉ u → u.foldl tStep ⟨0, 0, 0⟩ = ⟨0, 0, 0⟩
  | [], _ => rfl
  | c :: u, h => by
    have hc : c ≠ 115 := fun e => h (e ▸ .head _)
    have : tStep ⟨0, 0, 0⟩ c = ⟨0, 0, 0⟩ := by
      unfold tStep
      rw [if_neg hc]
      split <;> rfl
    rw [List.foldl_cons, this]
    exact tF1 u fun q => h (.tail _ q)
theorem tF2 : ∀ (u : List Nat) (a : Int), 116 ∉ u → 0 ≤ a → ∃ a', 0 ≤ a' ∧ u.foldl tStep ⟨a, 0, 0⟩ = ⟨a', 0, 0⟩ ∧ u.foldl tStep ⟨a + 1, 0, 0⟩ = ⟨a' + 1, 0, 0⟩
  | [], a, _, ha => ⟨a, ha, rfl, rfl⟩
  | c :: u, a, h, ha => by
    have hc : c ≠ 116 := fun e => h (e ▸ .head _)
    by_cases h5 : c = 115
    · obtain ⟨a', h0, e1, e2⟩ := tF2 u (a + 1) (fun q => h (.tail _ q)) (by omega)
      refine ⟨a', h0, ?_, ?_⟩
      · rw [List.foldl_cons, tStep, if_pos h5]; exact e1
      · rw [List.foldl_cons, tStep, if_pos h5]; exact e2
    · obtain ⟨a', h0, e1, e2⟩ := tF2 u a (fun q => h (.tail _ q)) ha
      refine ⟨a', h0, ?_, ?_⟩
      · rw [List.foldl_cons, tStep, if_neg h5, if_neg hc]; exact e1
      · rw [List.foldl_cons, tStep, if_neg h5, if_neg hc]; exact e2
theorem tF3 : ∀ (u : List Nat) (a b : Int), Letters u → 109 ∉ u → 0 ≤ b → b ≤ a → ∃ a' b', 0 ≤ b' ∧ b' ≤ a' ∧ u.foldl tStep ⟨a, b, 0⟩ = ⟨a', b', 0⟩ ∧ u.foldl tStep ⟨a + 1, b + 1, 0⟩ = ⟨a' + 1, b' + 1, 0⟩
  | [], a, b, _, _, h0, h1 => ⟨a, b, h0, h1, rfl, rfl⟩
  | c :: u, a, b, hl, h, h0, h1 => by
    have hc : c ≠ 109 := fun e => h (e ▸ .head _)
    have hl' : Letters u := fun c hc => hl c (.tail _ hc)
    rcases hl c (.head _) with rfl | rfl | rfl
    · obtain ⟨a', b', g0, g1, e1, e2⟩ := tF3 u (a + 1) b hl' (fun q => h (.tail _ q)) h0 (by omega)
      refine ⟨a', b', g0, g1, ?_, ?_⟩
      · rw [List.foldl_cons, tStep, if_pos rfl]; exact e1
      · rw [List.foldl_cons, tStep, if_pos rfl]; exact e2
    · obtain ⟨a', b', g0, g1, e1, e2⟩ := tF3 u a (min a (b + 1)) hl' (fun q => h (.tail _ q)) (by omega) (by omega)
      refine ⟨a', b', g0, g1, ?_, ?_⟩
      · rw [List.foldl_cons, tStep, if_neg (by decide), if_pos rfl]; exact e1
      · rw [List.foldl_cons, tStep, if_neg (by decide), if_pos rfl]
        dsimp only
        rw [show min (a + 1) (b + 1 + 1) = min a (b + 1) + 1 from by omega]
        exact e2
    · exact absurd rfl hc
theorem tF4 : ∀ (u : List Nat) (a b c : Int), ∃ a' b' c', u.foldl tStep ⟨a, b, c⟩ = ⟨a', b', c'⟩ ∧ u.foldl tStep ⟨a + 1, b + 1, c + 1⟩ = ⟨a' + 1, b' + 1, c' + 1⟩
  | [], a, b, c => ⟨a, b, c, rfl, rfl⟩
  | x :: u, a, b, c => by
    have key : tStep ⟨a + 1, b + 1, c + 1⟩ x = ⟨(tStep ⟨a, b, c⟩ x).x + 1, (tStep ⟨a, b, c⟩ x).y + 1, (tStep ⟨a, b, c⟩ x).z + 1⟩ := by
      unfold tStep
      split
      · rfl
      · split
        · refine Tri.ext' rfl ?_ rfl; dsimp only; omega
        · refine Tri.ext' rfl rfl ?_; dsimp only; omega
    rw [List.foldl_cons, List.foldl_cons, key]
    generalize tStep ⟨a, b, c⟩ x = q
    exact tF4 u q.x q.y q.z
theorem cut_blue {u1 u2 u3 u4 : List Nat} (h3 : Letters u3) (n1 : 115 ∉ u1) (n2 : 116 ∉ u2) (n3 : 109 ∉ u3) :
    blueT (tx (u1 ++ (u2 ++ (u3 ++ u4)))) = blueT (tx (u1 ++ 115 :: (u2 ++ 116 :: (u3 ++ 109 :: u4)))) - 1 := by
  have e : ∀ l, blueT (tx l) = (l.foldl tStep ⟨0, 0, 0⟩).z := fun l => by
    have := wT_fold l wZero_ok
    have e2 : blueT (tx l) = (wT (l.foldl wStep wZero)).z := rfl
    rw [e2, this]; rfl
  rw [e, e]
  simp only [List.foldl_append, List.foldl_cons]
  rw [tF1 u1 n1]
  obtain ⟨a, a0, e1, e2⟩ := tF2 u2 0 n2 (Int.le_refl _)
  have s1 : tStep ⟨0, 0, 0⟩ 115 = ⟨0 + 1, 0, 0⟩ := rfl
  rw [s1, e1, e2]
  have s2 : tStep ⟨a + 1, 0, 0⟩ 116 = ⟨a + 1, 0 + 1, 0⟩ := by
    rw [tStep, if_neg (by decide), if_pos rfl]
    refine Tri.ext' rfl ?_ rfl; dsimp only; omega
  rw [s2]
  obtain ⟨a', b', b0, b1, e3, e4⟩ := tF3 u3 a 0 h3 n3 (Int.le_refl _) a0
  rw [e3, e4]
  have s3 : tStep ⟨a' + 1, b' + 1, 0⟩ 109 = ⟨a' + 1, b' + 1, 0 + 1⟩ := by
    rw [tStep, if_neg (by decide), if_neg (by decide)]
    refine Tri.ext' rfl rfl ?_; dsimp only; omega
  rw [s3]
  obtain ⟨a'', b'', c'', e5, e6⟩ := tF4 u4 a' b' 0
  rw [e5, e6]
  dsimp only; omega
theorem trip_tx (l : List Nat) (h100 : l.length ≤ 100) (hl : Letters l) : TripOk goodT blueT (tx l) := by
  have hp := (tri_pos l hl).2.2
  rw [← blue_tx] at hp
  have h5 : ellB (tx l) [strS, strT, strM] = decide (0 < blueT (tx l)) := by
    rw [eS, eT, eM]
    have := ellB_mid l [115, 116, 109]
    rw [show ([115, 116, 109] : List Nat).map (fun c => tx [c]) = [tx [115], tx [116], tx [109]] from rfl] at this
    rw [this, Bool.eq_iff_iff, decide_eq_true_eq, decide_eq_true_eq, hp]
  have pos : 0 ≤ blueT (tx l) := by rw [blue_tx]; exact (triB_ord l).1
  by_cases hb : 0 < blueT (tx l)
  · obtain ⟨u1, u2, u3, u4, rfl, n1, n2, n3⟩ := split_stm (hp.mpr hb)
    have f1 : Txt.find (tx (u1 ++ 115 :: (u2 ++ 116 :: (u3 ++ 109 :: u4)))) strS = (u1.length : Int) := by
      have := find3_mid (u := []) (v := u2 ++ 116 :: (u3 ++ 109 :: u4)) n1
      rw [eS]
      have e0 : ∀ l y, Txt.find (tx l) (tx y) = Txt.find3 (tx l) (tx y) ((([] : List Nat).length : Nat) : Int) := fun l y => by
        rw [find_tx]; unfold Txt.find; rw [tx_len]; rfl
      rw [e0]
      simpa using this
    have f2 : Txt.find3 (tx (u1 ++ 115 :: (u2 ++ 116 :: (u3 ++ 109 :: u4)))) strT (u1.length : Int) = ((u1.length + (u2.length + 1) : Nat) : Int) := by
      have := find3_mid (u := u1) (w := 115 :: u2) (c := 116) (v := u3 ++ 109 :: u4) (by simpa using n2)
      rw [eT]
      simpa using this
    have f3 : Txt.find3 (tx (u1 ++ 115 :: (u2 ++ 116 :: (u3 ++ 109 :: u4)))) strM ((u1.length + (u2.length + 1) : Nat) : Int) = ((u1.length + (u2.length + 1) + (u3.length + 1) : Nat) : Int) := by
      have := find3_mid (u := u1 ++ 115 :: u2) (w := 116 :: u3) (c := 109) (v := u4) (by simpa using n3)
      rw [eM]
      simp only [List.append_assoc, List.cons_append, List.length_append, List.length_cons] at this
      exact this
    have hc : cutOut (tx (u1 ++ 115 :: (u2 ++ 116 :: (u3 ++ 109 :: u4)))) = tx (u1 ++ (u2 ++ (u3 ++ u4))) := by
      unfold cutOut
      rw [f1, f2, f3]
      rw [show ((u1.length : Int) + 1) = ((u1.length + 1 : Nat) : Int) from by simp, show (((u1.length + (u2.length + 1) : Nat) : Int) + 1) = ((u1.length + (u2.length + 1) + 1 : Nat) : Int) from by simp,
        show (((u1.length + (u2.length + 1) + (u3.length + 1) : Nat) : Int) + 1) = ((u1.length + (u2.length + 1) + (u3.length + 1) + 1 : Nat) : Int) from by simp]
      rw [slice_hi _ _ (by simp), slice_tx _ _ _ (by simp only [List.length_append, List.length_cons]; omega) (by omega), slice_tx _ _ _ (by simp only [List.length_append, List.length_cons]; omega) (by omega), slice_lo _ _ (by simp only [List.length_append, List.length_cons]; omega), tx_app, tx_app, tx_app]
      have g1 : List.take u1.length (u1 ++ 115 :: (u2 ++ 116 :: (u3 ++ 109 :: u4))) = u1 := by simp
      have g2 : List.drop (u1.length + 1) (List.take (u1.length + (u2.length + 1)) (u1 ++ 115 :: (u2 ++ 116 :: (u3 ++ 109 :: u4)))) = u2 := by
        rw [List.take_length_add_append, List.take_succ_cons, List.take_left, ← List.drop_drop, List.drop_left]; simp
      have g3 : List.drop (u1.length + (u2.length + 1) + 1) (List.take (u1.length + (u2.length + 1) + (u3.length + 1)) (u1 ++ 115 :: (u2 ++ 116 :: (u3 ++ 109 :: u4)))) = u3 := by
        rw [show u1 ++ 115 :: (u2 ++ 116 :: (u3 ++ 109 :: u4)) = (u1 ++ 115 :: u2) ++ 116 :: (u3 ++ 109 :: u4) from by simp, show u1.length + (u2.length + 1) = (u1 ++ 115 :: u2).length from by simp]
        rw [List.take_length_add_append, List.take_succ_cons, List.take_left, ← List.drop_drop, List.drop_left]; simp
      have g4 : List.drop (u1.length + (u2.length + 1) + (u3.length + 1) + 1) (u1 ++ 115 :: (u2 ++ 116 :: (u3 ++ 109 :: u4))) = u4 := by
        rw [show u1 ++ 115 :: (u2 ++ 116 :: (u3 ++ 109 :: u4)) = (u1 ++ 115 :: (u2 ++ 116 :: u3)) ++ 109 :: u4 from by simp, show u1.length + (u2.length + 1) + (u3.length + 1) = (u1 ++ 115 :: (u2 ++ 116 :: u3)).length from by simp; omega]
        rw [← List.drop_drop, List.drop_left]; simp
      rw [g1, g2, g3, g4]
      simp
    have hl3 : Letters u3 := fun c hc => hl c (by simp [hc])
    refine ⟨by rw [tx_len]; exact h100, trip_h1 _, trip_h2 _, trip_h3 _, h5, pos, fun _ => ?_, fun _ => ?_, fun _ => ?_, fun _ => ?_, fun _ => ?_, fun _ => ?_⟩
    · rw [f1]; omega
    · rw [f1, f2]; omega
    · rw [f1, f2, f3]; omega
    · rw [hc]
      refine ⟨?_, fun c hc => hl c ?_⟩
      · rw [tx_len]; simp at h100 ⊢; omega
      · simp only [List.mem_append, List.mem_cons] at hc ⊢
        rcases hc with h | h | h | h <;> simp [h]
    · rw [hc]; exact cut_blue hl3 n1 n2 n3
    · rw [hc, tx_len, tx_len]; simp; omega
  · exact ⟨by rw [tx_len]; exact h100, trip_h1 _, trip_h2 _, trip_h3 _, h5, pos, fun h => absurd h hb, fun h => absurd h hb, fun h => absurd h hb, fun h => absurd h hb, fun h => absurd h hb, fun h => absurd h hb⟩
theorem trip_ok : ∀ x, goodT x → TripOk goodT blueT x := fun x h => by
  have := trip_tx x.cps.toList (by simpa [Str.length] using h.1) h.2
  rwa [← tx_of] at this
end Mine
end
section
set_option Elab.async false
set_option maxRecDepth 100000
namespace Mine
open PySem PySem.W PyProof.Rows PySem.Calls PySem.Spec PySem.Builtin PySem.Builtin.Str PySem.StrLaws
theorem mm1 {a b c d k n : Int} (h1 : a + k + d ≤ n) (h2 : b + k + c ≤ n) : max a b + k + min c d ≤ n := by
  rcases Int.le_total a b with h | h
  · rw [Int.max_eq_right h]; exact Int.le_trans (Int.add_le_add_left (Int.min_le_left _ _) _) h2
  · rw [Int.max_eq_left h]; exact Int.le_trans (Int.add_le_add_left (Int.min_le_right _ _) _) h1
theorem mm2 {a b c d k n : Int} (h1 : a + d + k ≤ n) (h2 : b + c + k ≤ n) : max a b + min c d + k ≤ n := by
  rw [Int.add_right_comm]; exact mm1 (by rw [Int.add_right_comm]; exact h1) (by rw [Int.add_right_comm]; exact h2)
theorem shape_ord : ∀ w : List Nat, (lisB w).z + (triB w).y + (triB w).z ≤ w.length ∧ (lisB w).x + 2 * (triB w).y ≤ w.length ∧ (lisB w).y + (triB w).x + (triB w).z ≤ w.length ∧ (lisB w).x + (triB w).x + (triB w).y ≤ w.length
  | [] => by simp [lisB, triB]
  | c :: r => by
    have h := shape_ord r
    obtain ⟨h1, h2, h3, h4⟩ := h
    simp only [lisB, triB, bStep, dStep, List.length_cons]
    generalize lisB r = p at *
    generalize triB r = q at *
    rw [Int.natCast_add]
    generalize (r.length : Int) = n at *
    split
    · exact ⟨mm1 (by omega) (by omega), by omega, mm1 (by omega) (by omega), by omega⟩
    · split
      · exact ⟨mm2 (by omega) (by omega), by omega, by omega, by omega⟩
      · exact ⟨by omega, by omega, by omega, by omega⟩
noncomputable abbrev tA (ks : List (List Nat × List Nat)) : List Str := ks.map fun k => tx k.1
noncomputable abbrev tB (ks : List (List Nat × List Nat)) : List Str := ks.map fun k => tx k.2
theorem kinds_let : ∀ k ∈ kindsA, Letters k.1 ∧ Letters k.2 ∧ k.1.length ≤ 2 ∧ k.2.length ≤ 2 ∧ ((k.1.length : Int) + k.2.length = if k.1 = [] then 0 else 3) := by
  intro k hk
  simp only [kindsA, List.mem_cons, List.not_mem_nil, or_false] at hk
  rcases hk with rfl | rfl | rfl | rfl | rfl | rfl | rfl <;> (unfold Letters; decide)
theorem let_app {u v : List Nat} (hu : Letters u) (hv : Letters v) : Letters (u ++ v) := fun c hc => (List.mem_append.mp hc).elim (hu c) (hv c)
theorem wRun_tx (s : WS) (p : List Nat) : wRun s (tx p) = p.foldl wStep s := rfl
theorem rows_go : ∀ (ks : List (List Nat × List Nat)), (∀ k ∈ ks, k ∈ kindsA) → ∀ (W : List Nat) (red : Nat), Letters W → (red : Int) = (wL (W.foldl wStep wZero)).z →
    rRows false blueT (tx W, red) (tA ks) = wRows (W.foldl wStep wZero) (tA ks)
  | [], _, _, _, _, _ => rfl
  | k :: ks, hk, W, red, hW, hr => by
    have hk0 := hk k (.head _)
    have hl := kinds_let k hk0
    have hW' := let_app hW hl.1
    have hp := lis_piece (s := W.foldl wStep wZero) hk0
    have hf : (W ++ k.1).foldl wStep wZero = k.1.foldl wStep (W.foldl wStep wZero) := List.foldl_append
    have e : rStep false (tx W, red) (tx k.1) = (tx (W ++ k.1), ((wL ((W ++ k.1).foldl wStep wZero)).z).toNat) := by
      unfold rStep
      rw [if_neg Bool.false_ne_true]
      dsimp only
      rw [tx_app, foundB_iff hW', ← lis_zero, hf]
      congr 1
      split
      · rename_i q; rw [decide_eq_true_eq] at q; omega
      · rename_i q; rw [decide_eq_true_eq] at q; omega
    have hr' : ((((wL ((W ++ k.1).foldl wStep wZero)).z).toNat : Nat) : Int) = (wL ((W ++ k.1).foldl wStep wZero)).z := by
      rw [hf]; omega
    show rPaint blueT (rStep false (tx W, red) (tx k.1)) :: rRows false blueT (rStep false (tx W, red) (tx k.1)) (tA ks) = wPaint (wRun (W.foldl wStep wZero) (tx k.1)) :: wRows (wRun (W.foldl wStep wZero) (tx k.1)) (tA ks)
    rw [e, wRun_tx, ← hf, rows_go ks (fun k h => hk k (.tail _ h)) _ _ hW' hr']
    congr 1
    unfold rPaint wPaint
    dsimp only
    rw [hr', tx_len]
    have h1 : blueT (tx (W ++ k.1)) = ((W ++ k.1).foldl wStep wZero).triples := rfl
    have h2 := size_run (W ++ k.1) wZero
    have h3 : wZero.size = 0 := rfl
    rw [h3, Int.zero_add] at h2
    rw [h1, h2]
    rfl
theorem rows_eq (ks : List (List Nat × List Nat)) (hk : ∀ k ∈ ks, k ∈ kindsA) : rRows false blueT rZero (tA ks) = wRows wZero (tA ks) := by
  have : rZero = (tx [], 0) := by
    unfold rZero
    rw [show Str.ofString "" = tx [] from by decide +kernel]
  rw [this]
  exact rows_go ks hk [] 0 (fun _ h => nomatch h) rfl
noncomputable def cnt (ks : List (List Nat × List Nat)) : Int := ((ks.filter fun k => k.1 != []).length : Nat)
/-- what holds between a paint and the other side's, n spots counted -/
noncomputable def Mirror (n : Int) (p q : Int × Int × Int) : Prop := q = (n - p.2.2, n - p.2.1, n - p.1) ∧ p.1 ≤ n ∧ p.2.1 ≤ p.1 ∧ p.2.2 ≤ p.2.1 ∧ 0 ≤ p.2.2
/-- all along the strip -/
noncomputable def Mirrors : Int → List (List Nat × List Nat) → List (Int × Int × Int) → List (Int × Int × Int) → Prop
  | _, [], [], [] => True
  | n, k :: ks, p :: ps, q :: qs => Mirror (n + if k.1 = [] then 0 else 1) p q ∧ Mirrors (n + if k.1 = [] then 0 else 1) ks ps qs
  | _, _, _, _ => False
theorem mirror_go : ∀ (ks : List (List Nat × List Nat)), (∀ k ∈ ks, k ∈ kindsA) → ∀ (W V : List Nat) (red : Nat) (n : Int), Letters V → (red : Int) = (lisB V).z → Inv (W.foldl wStep wZero) V n → (W.length : Int) + V.length = 3 * n →
    Mirrors n ks (wRows (W.foldl wStep wZero) (tA ks)) (rRows true blueT (tx V, red) (tB ks))
  | [], _, _, _, _, _, _, _, _, _ => trivial
  | k :: ks, hk, W, V, red, n, hV, hr, hI, hL => by
    have hk0 := hk k (.head _)
    have hl := kinds_let k hk0
    have hV' := let_app hl.2.1 hV
    have hp := lisB_piece (v := V) hk0
    have hI' := inv_step hI hk0
    have hf : (W ++ k.1).foldl wStep wZero = k.1.foldl wStep (W.foldl wStep wZero) := List.foldl_append
    rw [← hf] at hI'
    have o := lisB_ord V
    have o' := lisB_ord (k.2 ++ V)
    have e : rStep true (tx V, red) (tx k.2) = (tx (k.2 ++ V), ((lisB (k.2 ++ V)).z).toNat) := by
      unfold rStep
      rw [if_pos rfl]
      dsimp only
      rw [tx_app, foundB_iff hV']
      congr 1
      split
      · rename_i q; rw [decide_eq_true_eq] at q; omega
      · rename_i q; rw [decide_eq_true_eq] at q; omega
    have hr' : ((((lisB (k.2 ++ V)).z).toNat : Nat) : Int) = (lisB (k.2 ++ V)).z := by omega
    have hL' : ((W ++ k.1).length : Int) + (k.2 ++ V).length = 3 * (n + if k.1 = [] then 0 else 1) := by
      have := hl.2.2.2.2
      rw [List.length_append, List.length_append]
      split at this
      · rw [if_pos (by assumption)]; omega
      · rw [if_neg (by assumption)]; omega
    show Mirror _ (wPaint (wRun (W.foldl wStep wZero) (tx k.1))) (rPaint blueT (rStep true (tx V, red) (tx k.2))) ∧ Mirrors _ ks (wRows (wRun (W.foldl wStep wZero) (tx k.1)) (tA ks)) (rRows true blueT (rStep true (tx V, red) (tx k.2)) (tB ks))
    rw [e, wRun_tx, ← hf]
    refine ⟨?_, mirror_go ks (fun k h => hk k (.tail _ h)) _ _ _ _ hV' hr' hI' hL'⟩
    generalize (n + if k.1 = [] then 0 else 1) = N at *
    have b3 := hI'.b3
    have a3 := hI'.a3
    have h2 := size_run (W ++ k.1) wZero
    have h3 : wZero.size = 0 := rfl
    rw [h3, Int.zero_add] at h2
    have z1 := (shape_ord (W ++ k.1)).1
    have z2 := (shape_ord (k.2 ++ V)).1
    have z3 := triB_ord (W ++ k.1)
    have z4 := triB_ord (k.2 ++ V)
    rw [← lis_zero, ] at z1
    have z5 : ((W ++ k.1).foldl wStep wZero).triples = (triB (W ++ k.1)).z := tri_zero _
    have z6 : (wT ((W ++ k.1).foldl wStep wZero)).z = ((W ++ k.1).foldl wStep wZero).triples := rfl
    rw [z6] at a3
    have w1 : wPaint ((W ++ k.1).foldl wStep wZero) = ((wL ((W ++ k.1).foldl wStep wZero)).z, ((W ++ k.1).length : Int) - (wL ((W ++ k.1).foldl wStep wZero)).z - ((W ++ k.1).foldl wStep wZero).triples, ((W ++ k.1).foldl wStep wZero).triples) := by
      unfold wPaint; rw [h2]; rfl
    have w2 : rPaint blueT (tx (k.2 ++ V), ((lisB (k.2 ++ V)).z).toNat) = ((lisB (k.2 ++ V)).z, ((k.2 ++ V).length : Int) - (lisB (k.2 ++ V)).z - (triB (k.2 ++ V)).z, (triB (k.2 ++ V)).z) := by
      unfold rPaint; dsimp only; rw [hr', tx_len, blue_tx]
    rw [w1, w2]
    refine ⟨?_, ?_, ?_, ?_, ?_⟩
    · refine Prod.ext ?_ (Prod.ext ?_ ?_)
      · dsimp only; omega
      · dsimp only; omega
      · dsimp only; omega
    all_goals (dsimp only; omega)
theorem mirror_all (ks : List (List Nat × List Nat)) (hk : ∀ k ∈ ks, k ∈ kindsA) : Mirrors 0 ks (wRows wZero (tA ks)) (rRows true blueT rZero (tB ks)) := by
  have : rZero = (tx [], 0) := by
    unfold rZero
    rw [show Str.ofString "" = tx [] from by decide +kernel]
  rw [this]
  exact mirror_go ks hk [] [] 0 0 (fun _ h => nomatch h) rfl inv_zero rfl
/-- the texts that the rows ask of are good -/
theorem good_rows (ahead : Bool) : ∀ (ts : List Str) (st : Str × Nat), (∀ x ∈ ts, x.length ≤ 2 ∧ Letters x.cps.toList) → Letters st.1.cps.toList → ∀ i, st.1.length + 2 * (ts.take i).length ≤ 100 → goodT ((ts.take i).foldl (rStep ahead) st).1
  | _, st, _, h2, 0, h3 => ⟨by simpa using h3, h2⟩
  | [], st, _, h2, i + 1, h3 => ⟨by simpa using h3, h2⟩
  | x :: ts, st, h1, h2, i + 1, h3 => by
    obtain ⟨x1, x2⟩ := h1 x (.head _)
    simp only [List.take_succ_cons, List.length_cons] at h3
    rw [List.take_succ_cons, List.foldl_cons]
    have e : (rStep ahead st x).1 = if ahead then x ++ st.1 else st.1 ++ x := by unfold rStep; split <;> simp_all
    refine good_rows ahead ts (rStep ahead st x) (fun x h => h1 x (.tail _ h)) ?_ i ?_
    · rw [e]
      split
      · show Letters (x.cps ++ st.1.cps).toList
        rw [Array.toList_append]; exact let_app x2 h2
      · show Letters (st.1.cps ++ x.cps).toList
        rw [Array.toList_append]; exact let_app h2 x2
    · rw [e]
      split <;> (rw [Str.length_append]; omega)
end Mine
end
section
open PySem PySem.W PyProof.Rows PySem.Calls PySem.Spec PySem.Builtin.Str PyProof.Rows.LCg
set_option Elab.async false
set_option maxRecDepth 100000
namespace Mine
section
variable {prog : Program} {w : World} {A : Around} {s : Shared} {h₀ : Heap} {L : Addr} {m : Str → Option Value} {env : Env}
theorem CompEnd.weak {m : Str → Option Value} {s₁ : Shared} {I C D : Addr} {oI oC oD : Obj} {S : List (Addr × Obj) → Prop} {rest rest' : Value → List (Addr × Obj) → Prop} {y : Value} {s₂ : Shared} (h : CompEnd h₀ L m s₁ I oI C oC D oD S rest y s₂) (hr : ∀ n, rest y n → rest' y n) : CompEnd h₀ L m s₁ I oI C oC D oD S rest' y s₂ := by
  obtain ⟨h', tk, news', e, F, N, off, hS, r⟩ := h
  exact ⟨h', tk, news', e, F, N, off, hS, hr _ r⟩
/-- a block, by an invariant over the turn's number, what is gathered and the ledger -/
theorem rest_ind {elt : PySem.Expr} {x : Str} {scope : Scope} {cl : List (Str × Addr)} {S : List (Addr × Obj) → Prop} {P : Nat → Value → Prop} {Fin : List Value → List (Addr × Obj) → Prop} {n : Nat} (J : Nat → List Value → List (Addr × Obj) → Prop)
    (turn : ∀ i ys news v I oI C oC D m₂ h tk (E' : Value → Shared → Prop), i < n → J i ys news → P i v → NsObj oC m₂ → m₂ x = some v → Fr h₀ L h m → News h₀ L h ((I, oI) :: (C, oC) :: (D, lst ys) :: news) → Off3 I C D news → ((@Ne Nat I C) ∧ (@Ne Nat I D) ∧ (@Ne Nat C D)) →
      wpAny (model prog w) A (eval elt (compEnvC scope cl C env)) (CompEnd h₀ L m { s with heap := h, toks := tk } I oI C oC D (lst ys) S (fun y news' => J (i + 1) (ys ++ [y]) news')) E' { s with heap := h, toks := tk })
    (fin : ∀ ys news, J n ys news → Fin ys news) : ∀ k i ys news, k + i = n → J i ys news → CompRest prog w A h₀ L m env elt x scope cl s S P Fin k i ys news
  | 0, i, ys, news, e, hj => fin ys news (by rw [← e, Nat.zero_add]; exact hj)
  | k + 1, i, ys, news, e, hj => fun v I oI C oC D m₂ h tk E' hp hn hx F N off hne =>
    wpAny_mono (turn i ys news v I oI C oC D m₂ h tk E' (by omega) hj hp hn hx F N off hne) (fun _ _ q => CompEnd.weak q fun n r => rest_ind J turn fin k (i + 1) _ n (by omega) r) fun _ _ q => q
theorem restT_ind {ct elt : PySem.Expr} {x : Str} {scope : Scope} {cl : List (Str × Addr)} {S : List (Addr × Obj) → Prop} {P : Nat → Value → Prop} {Fin : List Value → List (Addr × Obj) → Prop} {n : Nat} (J : Nat → List Value → List (Addr × Obj) → Prop)
    (turn : ∀ i ys news v I oI C oC D m₂ h tk (E' : Value → Shared → Prop), i < n → J i ys news → P i v → NsObj oC m₂ → m₂ x = some v → Fr h₀ L h m → News h₀ L h ((I, oI) :: (C, oC) :: (D, lst ys) :: news) → Off3 I C D news → ((@Ne Nat I C) ∧ (@Ne Nat I D) ∧ (@Ne Nat C D)) →
      wpAny (model prog w) A (isTrue ct (compEnvC scope cl C env) (eval ct (compEnvC scope cl C env))) (fun ok s' => if ok = true then
        wpAny (model prog w) A (eval elt (compEnvC scope cl C env)) (CompEnd h₀ L m { s with heap := h, toks := tk } I oI C oC D (lst ys) S (fun y news' => J (i + 1) (ys ++ [y]) news')) E' s'
        else CompEnd h₀ L m { s with heap := h, toks := tk } I oI C oC D (lst ys) S (fun _ news' => J (i + 1) ys news') Value.none s') E' { s with heap := h, toks := tk })
    (fin : ∀ ys news, J n ys news → Fin ys news) : ∀ k i ys news, k + i = n → J i ys news → LCt.CompRestT prog w A h₀ L m env ct elt x scope cl s S P Fin k i ys news
  | 0, i, ys, news, e, hj => fin ys news (by rw [← e, Nat.zero_add]; exact hj)
  | k + 1, i, ys, news, e, hj => fun v I oI C oC D m₂ h tk E' hp hn hx F N off hne => by
    refine wpAny_mono (turn i ys news v I oI C oC D m₂ h tk E' (by omega) hj hp hn hx F N off hne) (fun ok s' q => ?_) fun _ _ q => q
    cases ok with
    | true =>
      simp only [if_true] at q ⊢
      exact wpAny_mono q (fun _ _ q => CompEnd.weak q fun n r => restT_ind J turn fin k (i + 1) _ n (by omega) r) fun _ _ q => q
    | false =>
      simp only [Bool.false_eq_true, if_false] at q ⊢
      exact CompEnd.weak q fun n r => restT_ind J turn fin k (i + 1) _ n (by omega) r
end
/-- the objects of spots -/
noncomputable def SpotsAre : List (Addr × Obj) → List (List Nat × List Nat) → Prop
  | [], [] => True
  | p :: r, x :: xs => (∃ k ta tb, p.2 = listOf [Value.str (tx x.1) ta, Value.str (tx x.2) tb].toArray k) ∧ SpotsAre r xs
  | _, _ => False
theorem SpotsAre.len : ∀ {ts : List (Addr × Obj)} {xs : List (List Nat × List Nat)}, SpotsAre ts xs → ts.length = xs.length
  | [], [], _ => rfl
  | _ :: _, _ :: _, h => congrArg (· + 1) (SpotsAre.len h.2)
  | [], _ :: _, h => h.elim
  | _ :: _, [], h => h.elim
theorem SpotsAre.snoc {p : Addr × Obj} {x : List Nat × List Nat} (hp : ∃ k ta tb, p.2 = listOf [Value.str (tx x.1) ta, Value.str (tx x.2) tb].toArray k) : ∀ {ts : List (Addr × Obj)} {xs : List (List Nat × List Nat)}, SpotsAre ts xs → SpotsAre (ts ++ [p]) (xs ++ [x])
  | [], [], _ => ⟨hp, trivial⟩
  | _ :: _, _ :: _, h => ⟨h.1, SpotsAre.snoc hp h.2⟩
  | [], _ :: _, h => h.elim
  | _ :: _, [], h => h.elim
theorem SpotsAre.get : ∀ {ts : List (Addr × Obj)} {xs : List (List Nat × List Nat)} {i : Nat} {p : Addr × Obj}, SpotsAre ts xs → ts[i]? = some p → ∃ x, xs[i]? = some x ∧ ∃ k ta tb, p.2 = listOf [Value.str (tx x.1) ta, Value.str (tx x.2) tb].toArray k
  | p :: _, x :: _, 0, q, h, e => ⟨x, rfl, by have : p = q := by simpa using e
                                              exact this ▸ h.1⟩
  | _ :: ts, _ :: xs, i + 1, q, h, e => SpotsAre.get (ts := ts) (xs := xs) (i := i) h.2 (by simpa using e)
  | [], [], _, _, _, e => by simp at e
  | [], _ :: _, _, _, h, _ => h.elim
  | _ :: _, [], _, _, h, _ => h.elim
theorem RowIs.get : ∀ {ts : List (Addr × Obj)} {xs : List (Int × Int × Int)} {i : Nat} {p : Addr × Obj}, RowIs ts xs → ts[i]? = some p → ∃ x, xs[i]? = some x ∧ ∃ t1 t2 t3, p.2 = tup3i x.1 x.2.1 x.2.2 t1 t2 t3
  | p :: _, x :: _, 0, q, h, e => ⟨x, rfl, by have : p = q := by simpa using e
                                              exact this ▸ h.1⟩
  | _ :: ts, _ :: xs, i + 1, q, h, e => RowIs.get (ts := ts) (xs := xs) (i := i) h.2 (by simpa using e)
  | [], [], _, _, _, e => by simp at e
  | [], _ :: _, _, _, h, _ => h.elim
  | _ :: _, [], _, _, h, _ => h.elim
noncomputable abbrev refs (ts : List (Addr × Obj)) : List Value := ts.map fun p => Value.ref p.1
theorem refs_get {ts : List (Addr × Obj)} {i : Nat} {v : Value} (h : (refs ts)[i]? = some v) : ∃ p, ts[i]? = some p ∧ v = .ref p.1 := by
  unfold refs at h
  rw [List.getElem?_map] at h
  cases e : ts[i]? with
  | none => rw [e] at h; cases h
  | some p => rw [e] at h; exact ⟨p, rfl, (Option.some.inj h).symm⟩
theorem ints_get {vs : List Value} {ns : List Int} (hi : IntsAre vs ns) {i : Nat} {v : Value} (h : vs[i]? = some v) : ∃ n t, ns[i]? = some n ∧ v = .int n t := by
  induction hi generalizing i with
  | nil => simp at h
  | cons n t _ ih =>
    cases i with
    | zero => exact ⟨n, t, rfl, by simpa using h.symm⟩
    | succ i => exact ih (by simpa using h)
end Mine
end
section
open PySem PySem.W PyProof.Rows PySem.Calls PySem.Spec PySem.Builtin.Str PyProof.Rows.LCg
set_option Elab.async false
set_option maxRecDepth 100000
namespace Mine
theorem bnd_min (m n : Nat) : max 0 (min (m : Int) (n : Int)) = ((min m n : Nat) : Int) := by
  rcases Nat.le_total m n with h | h
  · rw [Nat.min_eq_left h, Int.min_eq_left (Int.ofNat_le.mpr h), Int.max_eq_right (Int.natCast_nonneg m)]
  · rw [Nat.min_eq_right h, Int.min_eq_right (Int.ofNat_le.mpr h), Int.max_eq_right (Int.natCast_nonneg n)]
theorem pick_from (vs : List Value) {x : Int} (h : 0 ≤ x) : slicePick vs.toArray (some x) none none = (vs.drop x.toNat).toArray := by
  obtain ⟨m, rfl⟩ := Int.eq_ofNat_of_zero_le h
  rw [Int.toNat_natCast]
  have e : sliceBounds (some (m : Int)) none none vs.toArray.size = (((min m vs.toArray.size : Nat) : Int), ((vs.toArray.size : Nat) : Int), 1) := by
    simp only [sliceBounds, Option.getD_none, show (1 : Int) > 0 by decide, if_true, if_neg (Int.not_lt.mpr h)]
    congr 1
    exact bnd_min m _
  rw [kmk_pick_nat _ e, List.size_toArray, kmk_drop_min, List.take_of_length_le (by rw [List.length_drop]; exact Nat.sub_le_sub_left (Nat.min_le_left _ _) _)]
section
variable {prog : Program} {w : World} {A : Around} {E : Value → Shared → Prop} {s : Shared} {h₀ : Heap} {L : Addr} {m : Str → Option Value} {news : List (Addr × Obj)} {Q : Value → Shared → Prop}
theorem slice_from {l : Addr} {vs : List Value} {n : Nat} {x : Int} {t : Tok} {value slice : PySem.Expr} (F : Fr h₀ L s.heap m) (N : News h₀ L s.heap news) (hm : (l, listOf vs.toArray n) ∈ news) (h0 : 0 ≤ x) (hz : vs.length ≤ 1000)
    (h : ∀ D h', Fr h₀ L h' m → News h₀ L h' ((D, listOf (vs.drop x.toNat).toArray 0) :: news) → (∀ p ∈ news, p.1 < D) → Q (.ref D) { s with heap := h' })
    (hs : subscripted slice false (.ref l) (.ref s.heap.objs.size) = operate [.ref s.heap.objs.size, .ref l] (getItem (.ref l) (.ref s.heap.objs.size)) := by with_unfolding_all rfl) (ht : ∀ r, letTemporaryGo value (.ref l) r = pure () := by intro r; rfl) :
    wpAny (model prog w) A (subscriptTail value slice (.ref l) (.ref s.heap.objs.size)) Q E { s with heap := s.heap.push { cls := .type "slice", data := .fields #[.int x t, .none, .none] } } := by
  refine kmk_slice F N (isList_led N hm) (.int x t) .none (fun D h' F' N' l1 => h D h' F' ?_ l1) hs ht (by rw [List.size_toArray, sizeLine_eq]; omega)
  rw [← pick_from vs h0]; exact N'
theorem slice_menu {l : Addr} {vs : List Value} {ns : List Int} {n : Nat} {x : Int} {t : Tok} {value slice : PySem.Expr} (F : Fr h₀ L s.heap m) (N : News h₀ L s.heap news) (hm : (l, listOf vs.toArray n) ∈ news) (hi : IntsAre vs ns) (h0 : 0 ≤ x) (hz : vs.length ≤ 1000)
    (h : ∀ D ws h', Fr h₀ L h' m → News h₀ L h' ((D, listOf (List.toArray ws) 0) :: news) → (∀ p ∈ news, p.1 < D) → IntsAre ws (ns.drop x.toNat) → Q (.ref D) { s with heap := h' })
    (hs : subscripted slice false (.ref l) (.ref s.heap.objs.size) = operate [.ref s.heap.objs.size, .ref l] (getItem (.ref l) (.ref s.heap.objs.size)) := by with_unfolding_all rfl) (ht : ∀ r, letTemporaryGo value (.ref l) r = pure () := by intro r; rfl) :
    wpAny (model prog w) A (subscriptTail value slice (.ref l) (.ref s.heap.objs.size)) Q E { s with heap := s.heap.push { cls := .type "slice", data := .fields #[.int x t, .none, .none] } } :=
  slice_from F N hm h0 hz (fun D h' F' N' l1 => h D _ h' F' N' l1 (hi.drop _)) hs ht
/-- two paints of the same numbers -/
theorem eq_tup3i {T U : Addr} {x y z : Int} {tx ty tz ux uy uz : Tok} (hne : T ≠ U) (hT : s.heap.get? T = some (tup3i x y z tx ty tz)) (hU : s.heap.get? U = some (tup3i x y z ux uy uz)) (hu : A.units < cLine) : SeqAt.EqAt A s (.ref T) (.ref U) true := by
  refine SeqAt.EqAt.of_refs hne (SeqAt.RcAt.tuples (e := fun _ => true) ⟨_, hT, rfl, _, rfl⟩ ⟨_, hU, rfl, _, rfl⟩ hu fun j j1 j2 => ?_)
  match j, j1 with
  | 0, _ => simpa using SeqAt.EqAt.int_int (A := A.in1) (s := s) x tx x ux
  | 1, _ => simpa using SeqAt.EqAt.int_int (A := A.in1) (s := s) y ty y uy
  | 2, _ => simpa using SeqAt.EqAt.int_int (A := A.in1) (s := s) z tz z uz
  | n + 3, j1 => exact absurd j1 (by show ¬ n + 3 < 3; omega)
theorem ne_tup3i {a b : Addr} {x y z : Int} {tx ty tz ux uy uz : Tok} (hT : s.heap.get? a = some (tup3i x y z tx ty tz)) (hU : s.heap.get? b = some (tup3i x y z ux uy uz)) (hu : A.units < cLine) (h : Q (.bool false) s) : wpAny (model prog w) A (compareOp .NotEq (.ref a) (.ref b)) Q E s := by
  refine cmp_ofNotEq (SeqAt.RcNeAt.tuples (e := fun _ => true) ⟨_, hT, rfl, _, rfl⟩ ⟨_, hU, rfl, _, rfl⟩ hu (fun j j1 j2 => ?_) prog w E Q h)
  match j, j1 with
  | 0, _ => simpa using SeqAt.EqAt.int_int (A := A.in1) (s := s) x tx x ux
  | 1, _ => simpa using SeqAt.EqAt.int_int (A := A.in1) (s := s) y ty y uy
  | 2, _ => simpa using SeqAt.EqAt.int_int (A := A.in1) (s := s) z tz z uz
  | n + 3, j1 => exact absurd j1 (by show ¬ n + 3 < 3; omega)
/-- two lists of rows, paint by paint the same -/
theorem ne_rows {a b : Addr} {k k' : Nat} {ts us : List (Addr × Obj)} {rows : List (Int × Int × Int)} (N : News h₀ L s.heap news) (ha : (a, listOf (refs ts).toArray k) ∈ news) (hb : (b, listOf (refs us).toArray k') ∈ news) (hts : ∀ p ∈ ts, p ∈ news) (hus : ∀ p ∈ us, p ∈ news) (hR : RowIs ts rows) (hR' : RowIs us rows)
    (hne : ∀ p ∈ ts, ∀ q ∈ us, p.1 ≠ q.1) (hu : A.units + 64 < cLine) (h : Q (.bool false) s) : wpAny (model prog w) A (compareOp .NotEq (.ref a) (.ref b)) Q E s := by
  have hlen : ts.length = us.length := hR.len.trans hR'.len.symm
  have key := SeqAt.RcNeAt.lists (A := A) (s := s) (l := a) (b := b) (e := fun _ => true) (isList_led N ha) (isList_led N hb) (by simp [refs, hlen]) (Nat.lt_of_le_of_lt (Nat.le_add_right _ _) hu) (fun j j1 j2 => ?_) prog w E Q
  · refine cmp_ofNotEq (key ?_)
    have : (!(List.range (refs ts).toArray.size).all fun _ => true) = false := by simp
    rw [this]; exact h
  · have g1 : (refs ts)[j]? = some (refs ts).toArray[j] := by rw [List.getElem?_eq_getElem (by simpa using j1)]; simp
    have g2 : (refs us)[j]? = some (refs us).toArray[j] := by rw [List.getElem?_eq_getElem (by simpa using j2)]; simp
    obtain ⟨p, hp, e1⟩ := refs_get g1
    obtain ⟨q, hq, e2⟩ := refs_get g2
    rw [e1, e2]
    obtain ⟨x, hx, t1, t2, t3, hpo⟩ := RowIs.get hR hp
    obtain ⟨x', hx', u1, u2, u3, hqo⟩ := RowIs.get hR' hq
    rw [hx] at hx'
    obtain rfl := Option.some.inj hx'
    have z1 := (N p (hts p (List.mem_of_getElem? hp))).1
    have z2 := (N q (hus q (List.mem_of_getElem? hq))).1
    rw [hpo] at z1
    rw [hqo] at z2
    exact eq_tup3i (hne p (List.mem_of_getElem? hp) q (List.mem_of_getElem? hq)) z1 z2 (by show A.units + _ < _; omega)
theorem ne_empty {a b : Addr} {k k' : Nat} (N : News h₀ L s.heap news) (ha : (a, listOf ([] : List Value).toArray k) ∈ news) (hb : (b, listOf ([] : List Value).toArray k') ∈ news) (hu : A.units + 64 < cLine) (h : Q (.bool false) s) : wpAny (model prog w) A (compareOp .NotEq (.ref a) (.ref b)) Q E s := by
  refine cmp_ofNotEq (SeqAt.RcNeAt.lists (e := fun _ => true) (isList_led N ha) (isList_led N hb) rfl (Nat.lt_of_le_of_lt (Nat.le_add_right _ _) hu) (fun j j1 _ => absurd j1 (Nat.not_lt_zero _)) prog w E Q h)
end
end Mine
end
section
open PySem PySem.W PyProof.Rows PySem.Calls PySem.Spec PySem.Builtin.Str PyProof.Rows.LCg
set_option Elab.async false
set_option maxRecDepth 100000
namespace Mine
section
variable {prog : Program} {w : World} {A : Around} {E : Value → Shared → Prop} {s : Shared} {h₀ : Heap} {L : Addr} {m : Str → Option Value} {news : List (Addr × Obj)} {env : Env}
theorem none_in {l : Addr} {a b : Str} {ta tb : Tok} {k : Nat} {Q : Value → Shared → Prop} (N : News h₀ L s.heap news) (hm : (l, listOf [Value.str a ta, Value.str b tb].toArray k) ∈ news) (h : Q (.bool false) s) : wpAny (model prog w) A (compareOp .In .none (.ref l)) Q E s := by
  refine SeqAt.in_listAt (fun _ => false) (isList_led N hm) (fun y hy => ?_) (by simpa using h)
  simp at hy
  rcases hy with rfl | rfl
  · exact SeqAt.EqAt.str_none a ta
  · exact SeqAt.EqAt.str_none b tb
/-- one of a spot's two texts -/
noncomputable def pick (j : Nat) (z : List Nat × List Nat) : List Nat := if j = 0 then z.1 else z.2
noncomputable abbrev spotS : Str := Str.ofString "spot"
noncomputable abbrev pickScope : Scope := { kind := .function, names := [(Str.ofString ".0", .local), (spotS, .local)], isGenerator := false, isCoroutine := false }
theorem pick_src {p1 p2 p3 : Pos} {j : Int} {cl : List (Str × Addr)} {DS : Addr} {kS : Nat} {sps : List (Addr × Obj)} {zs : List (List Nat × List Nat)} {Q : Value → Shared → Prop} (hj : j = 0 ∨ j = 1) (hh : A.handled = none) (F : Fr h₀ L s.heap m) (N : News h₀ L s.heap news) (hS : SpotsAre sps zs) (hm : (DS, listOf (refs sps).toArray kS) ∈ news) (hsp : ∀ p ∈ sps, p ∈ news) (hz : sps.length ≤ 100)
    (h : ∀ D h' tk ps k, ps.map (·.1) = zs.map (fun z => tx (pick j.toNat z)) → Fr h₀ L h' m → News h₀ L h' ((D, listOf (strValues ps).toArray k) :: news) → (∀ p ∈ news, p.1 ≠ D) → Q (.ref D) { s with heap := h', toks := tk }) :
    CompSrc prog w A h₀ L m env (.Subscript (.Name spotS p1) (.Constant (.int j) 0 p2) p3) spotS pickScope cl (fun s₂ => FinE h₀ L m s₂ Q) (.ref DS) s := by
  refine CompSrc.ledger hh F N hm (by rw [List.size_toArray, sizeLine_eq]; simp only [refs, List.length_map]; omega) ?_
  intro g
  refine rest_ind (fun i ys nw => ∃ ps, ps.map (·.1) = (zs.take i).map (fun z => tx (pick j.toNat z)) ∧ ys = strValues ps ∧ nw = news) ?turn ?fin _ 0 [] _ (Nat.add_zero _) ⟨[], rfl, rfl, rfl⟩
  case fin =>
    rintro ys nw ⟨ps, e, rfl, rfl⟩
    rw [show (refs sps).toArray.size = zs.length from by simp [refs, hS.len], List.take_length] at e
    intro D h' tk F' N' off
    refine h D h' tk ps _ e F' N' fun p hp => ?_
    clear h N N' F' hm hsp
    induction nw with
    | nil => cases hp
    | cons q r ih =>
      rcases List.mem_cons.mp hp with rfl | hp
      · exact off.1
      · exact ih off.2 hp
  case turn =>
    rintro i ys nw v I oI C oC D m₂ h' tk E' hin ⟨ps, e, rfl, rfl⟩ hP hN hx F1 N1 off hne
    obtain ⟨p, hp, rfl⟩ := refs_get (by simpa using hP)
    obtain ⟨z, hz, kz, tza, tzb, hpo⟩ := SpotsAre.get hS hp
    have z1 := N1 p (.tail _ (.tail _ (.tail _ (hsp p (List.mem_of_getElem? hp)))))
    refine Subscript_ ?_
    refine LCgL.ld_own N1 (.tail _ (.head _)) hN hx ?_ rfl rfl
    refine wpAny_Constant_int ?_
    have hl : (⟨h', s.gens, s.drawn, tk, s.os⟩ : Shared).heap.IsList p.1 [Value.str (tx z.1) tza, Value.str (tx z.2) tzb].toArray := ⟨_, hpo ▸ z1.1, rfl, _, rfl⟩
    have key : ∀ v t, [Value.str (tx z.1) tza, Value.str (tx z.2) tzb][j.toNat]? = some v → v = .str (tx (pick j.toNat z)) t → CompEnd h₀ L m { s with heap := h', toks := tk } I oI C oC D (lst (strValues ps)) (SrcAt h₀ DS (refs sps).toArray) (fun y nw' => ∃ ps', ps'.map (·.1) = (zs.take (i + 1)).map (fun z => tx (pick j.toNat z)) ∧ strValues ps ++ [y] = strValues ps' ∧ nw' = nw) v { s with heap := h', toks := tk + 1 } := fun v t _ e2 => by
      subst e2
      refine CompEnd.intro F1 N1 nw (fun p hp => hp) off (.inr ⟨_, hm, rfl, _, rfl⟩) ⟨ps ++ [(tx (pick j.toNat z), t)], ?_, by simp [strValues], rfl⟩
      rw [List.map_append, e, take_succ_of hz, List.map_append]; rfl
    rcases hj with rfl | rfl
    · exact item_litK hl (by decide) (by decide) rfl (key _ tza rfl rfl)
    · exact item_litK hl (by decide) (by decide) rfl (key _ tzb rfl rfl)
end
theorem pre_rows (ahead : Bool) {ts : List Str} (h : ∀ x ∈ ts, x.length ≤ 2 ∧ Letters x.cps.toList) (hl : ts.length ≤ 7) : (∀ x ∈ ts, x.length ≤ 10) ∧ ∀ i, goodT ((ts.take (i + 1)).foldl (rStep ahead) rZero).1 := by
  refine ⟨fun x hx => Nat.le_trans (h x hx).1 (by decide), fun i => good_rows ahead ts rZero h ?_ (i + 1) ?_⟩
  · rw [show rZero.1 = tx [] from by unfold rZero; decide +kernel]
    exact fun _ h => nomatch h
  · rw [show rZero.1 = tx [] from by unfold rZero; decide +kernel, tx_len, List.length_take]
    simp only [List.length_nil]
    omega
theorem tA_ok {xs : List (List Nat × List Nat)} (h : ∀ k ∈ xs, k ∈ kindsA) : ∀ x ∈ tA xs, x.length ≤ 2 ∧ Letters x.cps.toList := fun x hx => by
  obtain ⟨k, hk, rfl⟩ := List.mem_map.mp hx
  have := kinds_let k (h k hk)
  exact ⟨by rw [tx_len]; exact this.2.2.1, this.1⟩
theorem tB_ok {xs : List (List Nat × List Nat)} (h : ∀ k ∈ xs, k ∈ kindsA) : ∀ x ∈ tB xs, x.length ≤ 2 ∧ Letters x.cps.toList := fun x hx => by
  obtain ⟨k, hk, rfl⟩ := List.mem_map.mp hx
  have := kinds_let k (h k hk)
  exact ⟨by rw [tx_len]; exact this.2.2.2.1, this.2.1⟩
theorem wRows_len : ∀ (l : List Str) (s : WS), (wRows s l).length = l.length
  | [], _ => rfl
  | _ :: r, s => congrArg (· + 1) (wRows_len r _)
theorem row_cons {ts : List (Addr × Obj)} {x : Int × Int × Int} {xs : List (Int × Int × Int)} (h : RowIs ts (x :: xs)) : ∃ p tt, ts = p :: tt ∧ RowIs tt xs := by
  cases ts with
  | nil => exact h.elim
  | cons p tt => exact ⟨p, tt, rfl, h.2⟩
/-- the spots that are not empty, counted -/
noncomputable def cntF (n : Int) (l : List (List Nat × List Nat)) : Int := l.foldl (fun n k => n + if k.1 = [] then 0 else 1) n
theorem cntF_ge : ∀ (l : List (List Nat × List Nat)) (n : Int), n ≤ cntF n l ∧ cntF n l ≤ n + l.length
  | [], n => by simp [cntF]
  | k :: l, n => by
    have := cntF_ge l (n + if k.1 = [] then 0 else 1)
    show _ ≤ cntF (n + if k.1 = [] then 0 else 1) l ∧ cntF (n + if k.1 = [] then 0 else 1) l ≤ _
    rw [List.length_cons]
    split at this
    · rw [if_pos (by assumption)]; omega
    · rw [if_neg (by assumption)]; omega
theorem cntF_snoc (n : Int) (l : List (List Nat × List Nat)) (k : List Nat × List Nat) : cntF n (l ++ [k]) = cntF n l + if k.1 = [] then 0 else 1 := by
  unfold cntF; rw [List.foldl_append]; rfl
theorem Mirrors.get : ∀ {ks : List (List Nat × List Nat)} {n : Int} {ps qs : List (Int × Int × Int)} {i : Nat} {k : List Nat × List Nat} {p q : Int × Int × Int}, Mirrors n ks ps qs → ks[i]? = some k → ps[i]? = some p → qs[i]? = some q → Mirror (cntF n (ks.take (i + 1))) p q
  | k' :: ks, n, p' :: ps, q' :: qs, 0, k, p, q, h, hk, hp, hq => by
    have e1 : k' = k := by simpa using hk
    have e2 : p' = p := by simpa using hp
    have e3 : q' = q := by simpa using hq
    subst e1 e2 e3
    exact h.1
  | k' :: ks, n, p' :: ps, q' :: qs, i + 1, k, p, q, h, hk, hp, hq => Mirrors.get (ks := ks) (i := i) h.2 (by simpa using hk) (by simpa using hp) (by simpa using hq)
  | [], _, _, _, _, _, _, _, _, hk, _, _ => by simp at hk
  | _ :: _, _, [], _, _, _, _, _, _, _, hp, _ => by simp at hp
  | _ :: _, _, _ :: _, [], _, _, _, _, _, _, _, hq => by simp at hq
theorem tx_empty (l : List Nat) : (tx l == Str.ofString "") = decide (l = []) := by
  rw [show Str.ofString "" = tx [] from by decide +kernel]
  exact tx_beq l []
theorem endZ_in {h₀ h' : Heap} {L : Addr} {J : (Str → Option Value) → List (Addr × Obj) → Prop} {wr : List Addr} {own base all : List (Addr × Obj)} {s₁ : Shared} {m' : Str → Option Value} {tk : Nat} {Q : Flow → Shared → Prop} (F : Fr h₀ L h' m') (N : News h₀ L h' all) (hb : ∀ p ∈ base, p ∈ all) (ho : ∀ p ∈ own, p ∈ all) (hnw : ∀ p ∈ base, p.1 ∉ wr) (hJ : J m' base) :
    PostZ h₀ L J wr own s₁ Q .next { s₁ with heap := h', toks := tk } := ⟨h', tk, m', base, all, rfl, F, N, hb, ho, hnw, hJ⟩
theorem tx_ne {l : List Nat} {b : Bool} (h : (tx l != Str.ofString "") = b) : decide (l = []) = !b := by
  rw [← h, bne, tx_empty, Bool.not_not]
end Mine
end
section
set_option Elab.async false
set_option maxRecDepth 100000
noncomputable section
namespace Mine
open PySem PySem.W PyProof.Rows PySem.Calls PySem.Spec
/-- the binary logarithm by halves -/
noncomputable def fl : List Nat → Nat → Nat → Nat
  | [], acc, _ => acc
  | k :: ks, acc, n => cond (Nat.ble (2 ^ k) n) (fl ks (acc + k) (n / 2 ^ k)) (fl ks acc n)
theorem log2_cut {n k : Nat} (h : 2 ^ k ≤ n) : Nat.log2 n = k + Nat.log2 (n / 2 ^ k) := by
  have hp : 0 < 2 ^ k := Nat.pow_pos (by decide)
  have hn : n ≠ 0 := by omega
  have hm : n / 2 ^ k ≠ 0 := Nat.ne_of_gt (Nat.div_pos h hp)
  have h1 : 2 ^ Nat.log2 (n / 2 ^ k) ≤ n / 2 ^ k := (Nat.le_log2 hm).mp (Nat.le_refl _)
  have h2 : n / 2 ^ k < 2 ^ (Nat.log2 (n / 2 ^ k) + 1) := (Nat.log2_lt hm).mp (Nat.lt_succ_self _)
  have a : k + Nat.log2 (n / 2 ^ k) ≤ Nat.log2 n := (Nat.le_log2 hn).mpr (by
    rw [Nat.pow_add]
    calc 2 ^ k * 2 ^ (n / 2 ^ k).log2 ≤ 2 ^ k * (n / 2 ^ k) := Nat.mul_le_mul_left _ h1
      _ ≤ n := Nat.mul_div_le _ _)
  have b : Nat.log2 n < k + Nat.log2 (n / 2 ^ k) + 1 := (Nat.log2_lt hn).mpr (by
    rw [Nat.add_assoc, Nat.pow_add]
    exact Nat.lt_of_lt_of_le (Nat.lt_mul_div_succ n hp) (Nat.mul_le_mul_left _ h2))
  omega
noncomputable def halves : Nat → List Nat
  | 0 => []
  | j + 1 => 2 ^ j :: halves j
theorem fl_eq : ∀ (j n acc : Nat), n ≠ 0 → n < 2 ^ (2 ^ j) → fl (halves j) acc n = acc + Nat.log2 n
  | 0, n, acc, h0, h => by
    have : n = 1 := by simp at h; omega
    subst this
    show acc = acc + Nat.log2 1
    rw [show Nat.log2 1 = 0 from by decide]; rfl
  | j + 1, n, acc, h0, h => by
    unfold halves fl
    have e : 2 ^ (2 ^ (j + 1)) = 2 ^ (2 ^ j) * 2 ^ (2 ^ j) := by rw [← Nat.pow_add, Nat.pow_succ]; congr 1; omega
    rw [e] at h
    by_cases hk : 2 ^ (2 ^ j) ≤ n
    · rw [Nat.ble_eq_true_of_le hk, cond_true, fl_eq j _ _ (Nat.ne_of_gt (Nat.div_pos hk (Nat.pow_pos (by decide)))) ((Nat.div_lt_iff_lt_mul (Nat.pow_pos (by decide))).mpr h), log2_cut hk]
      omega
    · have : Nat.ble (2 ^ (2 ^ j)) n = false := by
        cases q : Nat.ble (2 ^ (2 ^ j)) n with
        | false => rfl
        | true => exact absurd (Nat.le_of_ble_eq_true q) hk
      rw [this, cond_false, fl_eq j _ _ h0 (Nat.lt_of_not_le hk)]
noncomputable def flog (n : Nat) : Nat :=
  cond (Nat.ble n 0) 0 (cond (Nat.ble n 340282366920938463463374607431768211455) (fl [64, 32, 16, 8, 4, 2, 1] 0 n) (cond (Nat.ble (2 ^ 2048) n) (Nat.log2 n) (fl [1024, 512, 256, 128, 64, 32, 16, 8, 4, 2, 1] 0 n)))
theorem flog_eq : Nat.log2 = flog := by
  funext n
  unfold flog
  cases h0 : Nat.ble n 0 with
  | true =>
    have : n = 0 := Nat.le_zero.mp (Nat.le_of_ble_eq_true h0)
    subst this; decide
  | false =>
    have hn : n ≠ 0 := fun e => by rw [e] at h0; cases h0
    rw [cond_false]
    cases h1 : Nat.ble n 340282366920938463463374607431768211455 with
    | true =>
      rw [cond_true, show [64, 32, 16, 8, 4, 2, 1] = halves 7 from by decide, fl_eq 7 n 0 hn (Nat.lt_of_le_of_lt (Nat.le_of_ble_eq_true h1) (by decide)), Nat.zero_add]
    | false =>
      rw [cond_false]
      cases h2 : Nat.ble (2 ^ 2048) n with
      | true => rw [cond_true]
      | false =>
        rw [cond_false, show [1024, 512, 256, 128, 64, 32, 16, 8, 4, 2, 1] = halves 11 from by decide, fl_eq 11 n 0 hn ?_, Nat.zero_add]
        refine Nat.lt_of_not_le fun q => ?_
        rw [Nat.ble_eq_true_of_le (show 2 ^ 2048 ≤ n from q)] at h2; cases h2
/-- a number made plain before it is used -/
noncomputable def frc {α : Sort _} (n : Nat) (f : Nat → α) : α := Nat.rec (motive := fun _ => α) (f 0) (fun k _ => f (Nat.succ k)) n
theorem frc_eq {α : Sort _} (n : Nat) (f : Nat → α) : frc n f = f n := by cases n <;> rfl
noncomputable def heF (n d : Nat) : Nat := frc n fun n => frc d fun d => frc (n / d) fun q => frc (2 * (n % d)) fun r => cond (Nat.ble r d) (cond (Nat.beq r d) (q + q % 2) q) (q + 1)
theorem heF_eq : Float64.halfEven = heF := by
  funext n d
  unfold heF Float64.halfEven
  simp only [frc_eq]
  generalize 2 * (n % d) = r
  generalize n / d = q
  cases h1 : Nat.ble r d with
  | false =>
    have : r > d := Nat.lt_of_not_le fun h => by rw [Nat.ble_eq_true_of_le h] at h1; cases h1
    simp [this]
  | true =>
    have h1' := Nat.le_of_ble_eq_true h1
    have hn : ¬ r > d := Nat.not_lt_of_le h1'
    cases h2 : Nat.beq r d with
    | false =>
      have : r ≠ d := Nat.ne_of_beq_eq_false h2
      simp [hn, this]
    | true =>
      have : r = d := Nat.eq_of_beq_eq_true h2
      simp only [hn, this, cond_true]
      rcases Nat.mod_two_eq_zero_or_one q with h | h <;> simp [h]
noncomputable def sfF (n d : Nat) (k : Int) : Nat × Nat := Int.rec (motive := fun _ => Nat × Nat) (fun a => (n * 2 ^ a, d)) (fun a => (n, d * 2 ^ (a + 1))) k
theorem sfF_eq : Float64.shift = sfF := by
  funext n d k
  unfold Float64.shift sfF
  cases k with
  | ofNat a => rfl
  | negSucc a => rfl
/-- the magnitude, rounded; l is what the logarithms part by -/
noncomputable def rmP (n d l : Nat) : Nat :=
  frc (cond (Nat.ble (d * 2 ^ l) n) 52 53) fun p =>
    cond (Nat.ble l p) (min Float64.infMag ((l + (1074 - p)) * 2 ^ 52 + heF (n * 2 ^ (p - l)) d)) (min Float64.infMag ((l + (1074 - p)) * 2 ^ 52 + heF n (d * 2 ^ (l - p))))
noncomputable def rmN (n d l : Nat) : Nat :=
  frc (cond (Nat.ble d (n * 2 ^ l)) 52 53) fun p =>
    cond (Nat.ble (l + p) 1074) (min Float64.infMag ((1074 - (l + p)) * 2 ^ 52 + heF (n * 2 ^ (l + p)) d)) (min Float64.infMag (heF (n * 2 ^ 1074) d))
noncomputable def rmF (n d : Nat) : Nat :=
  frc n fun n => frc d fun d => cond (Nat.beq n 0) 0 (frc (flog n) fun ln => frc (flog d) fun ld => cond (Nat.ble ld ln) (frc (ln - ld) fun l => rmP n d l) (frc (ld - ln) fun l => rmN n d l))
theorem sfF_nat (n d a : Nat) : sfF n d ((a : Nat) : Int) = (n * 2 ^ a, d) := rfl
theorem sfF_neg (n d a : Nat) : sfF n d (Int.negSucc a) = (n, d * 2 ^ (a + 1)) := rfl
theorem sfF_mneg (n d a : Nat) : sfF n d (-((a : Nat) : Int)) = (n, d * 2 ^ a) := by
  cases a with
  | zero =>
    show sfF n d ((0 : Nat) : Int) = _
    rw [sfF_nat, Nat.pow_zero, Nat.mul_one, Nat.mul_one]
  | succ a => exact sfF_neg n d a
theorem ble_dec (a b : Nat) : Nat.ble a b = decide (a ≤ b) := by
  rw [Bool.eq_iff_iff, decide_eq_true_eq]
  exact ⟨Nat.le_of_ble_eq_true, Nat.ble_eq_true_of_le⟩
theorem rmP_eq (n d l : Nat) : rmP n d l = (
    let (a, b) := sfF n d (-(l : Int))
    let e := max (if a ≥ b then (l : Int) - 52 else (l : Int) - 53) (-1074)
    let (a, b) := sfF n d (-e)
    min Float64.infMag ((e + 1074).toNat * 2 ^ 52 + heF a b)) := by
  unfold rmP
  rw [frc_eq]
  have e0 : sfF n d (-(l : Int)) = (n, d * 2 ^ l) := sfF_mneg n d l
  rw [e0]
  dsimp only
  simp only [ble_dec]
  have fin : ∀ (p : Nat) (P : Int), P = p → p = 52 ∨ p = 53 → (cond (decide (l ≤ p)) (min Float64.infMag ((l + (1074 - p)) * 2 ^ 52 + heF (n * 2 ^ (p - l)) d)) (min Float64.infMag ((l + (1074 - p)) * 2 ^ 52 + heF n (d * 2 ^ (l - p)))))
      = (match sfF n d (-(max ((l : Int) - P) (-1074))) with | (a, b) => min Float64.infMag (((max ((l : Int) - P) (-1074)) + 1074).toNat * 2 ^ 52 + heF a b)) := fun p P hP hp => by
    subst hP
    have hm : max ((l : Int) - p) (-1074) = (l : Int) - p := by omega
    rw [hm, show (((l : Int) - p) + 1074).toNat = l + (1074 - p) from by omega]
    generalize (2 : Nat) ^ 52 = K
    generalize Float64.infMag = I
    by_cases hl : l ≤ p
    · rw [show -((l : Int) - p) = ((p - l : Nat) : Int) from by omega, sfF_nat, decide_eq_true hl, cond_true]
    · obtain ⟨k, hk⟩ : ∃ k, l - p = k + 1 := ⟨l - p - 1, by omega⟩
      rw [show -((l : Int) - p) = Int.negSucc k from by omega, sfF_neg, decide_eq_false hl, cond_false, hk]
  by_cases hc : d * 2 ^ l ≤ n
  · rw [if_pos hc]
    simp only [hc, decide_true, cond_true]
    exact fin 52 52 rfl (.inl rfl)
  · rw [if_neg hc]
    simp only [hc, decide_false, cond_false]
    exact fin 53 53 rfl (.inr rfl)
theorem rmN_eq (n d l : Nat) (hl : 0 < l) : rmN n d l = (
    let (a, b) := sfF n d (-(-(l : Int)))
    let e := max (if a ≥ b then -(l : Int) - 52 else -(l : Int) - 53) (-1074)
    let (a, b) := sfF n d (-e)
    min Float64.infMag ((e + 1074).toNat * 2 ^ 52 + heF a b)) := by
  unfold rmN
  rw [frc_eq, Int.neg_neg]
  have e0 : sfF n d (l : Int) = (n * 2 ^ l, d) := sfF_nat n d l
  rw [e0]
  dsimp only
  simp only [ble_dec]
  have fin : ∀ (p : Nat) (P : Int), P = p → p = 52 ∨ p = 53 → (cond (decide (l + p ≤ 1074)) (min Float64.infMag ((1074 - (l + p)) * 2 ^ 52 + heF (n * 2 ^ (l + p)) d)) (min Float64.infMag (heF (n * 2 ^ 1074) d)))
      = (match sfF n d (-(max (-(l : Int) - P) (-1074))) with | (a, b) => min Float64.infMag (((max (-(l : Int) - P) (-1074)) + 1074).toNat * 2 ^ 52 + heF a b)) := fun p P hP hp => by
    subst hP
    generalize (2 : Nat) ^ 52 = K
    generalize Float64.infMag = I
    by_cases hq : l + p ≤ 1074
    · have hm : max (-(l : Int) - p) (-1074) = -((l + p : Nat) : Int) := by omega
      rw [hm, Int.neg_neg, show (-((l + p : Nat) : Int) + 1074).toNat = 1074 - (l + p) from by omega, sfF_nat, decide_eq_true hq, cond_true]
    · have hm : max (-(l : Int) - p) (-1074) = -1074 := by omega
      rw [hm, show -(-1074 : Int) = ((1074 : Nat) : Int) from rfl, sfF_nat, show (-1074 + 1074 : Int).toNat = 0 from rfl, Nat.zero_mul, decide_eq_false hq, cond_false]
      dsimp only
      rw [Nat.zero_add]
  by_cases hc : d ≤ n * 2 ^ l
  · rw [if_pos hc]
    simp only [hc, decide_true, cond_true]
    exact fin 52 52 rfl (.inl rfl)
  · rw [if_neg hc]
    simp only [hc, decide_false, cond_false]
    exact fin 53 53 rfl (.inr rfl)
theorem rmF_eq : Float64.roundMag = rmF := by
  funext n d
  unfold rmF
  simp only [frc_eq]
  rw [← flog_eq]
  cases h0 : Nat.beq n 0 with
  | true =>
    have : n = 0 := Nat.eq_of_beq_eq_true h0
    subst this
    rfl
  | false =>
    have hn : n ≠ 0 := Nat.ne_of_beq_eq_false h0
    unfold Float64.roundMag
    rw [if_neg (by simpa using hn), cond_false, heF_eq, sfF_eq]
    cases h1 : Nat.ble (Nat.log2 d) (Nat.log2 n) with
    | true =>
      have h1' := Nat.le_of_ble_eq_true h1
      rw [cond_true, rmP_eq, show ((Nat.log2 n : Int) - (Nat.log2 d : Int)) = ((Nat.log2 n - Nat.log2 d : Nat) : Int) from by omega]
    | false =>
      have h1' : Nat.log2 n < Nat.log2 d := Nat.lt_of_not_le fun h => by rw [Nat.ble_eq_true_of_le h] at h1; cases h1
      rw [cond_false, rmN_eq _ _ _ (by omega), show ((Nat.log2 n : Int) - (Nat.log2 d : Int)) = -((Nat.log2 d - Nat.log2 n : Nat) : Int) from by omega]
noncomputable def ofQ : {f // f = Float64.ofFrac} := by
  apply Subtype.mk
  delta Float64.ofFrac
  rw [rmF_eq]
noncomputable def ofF : Bool → Nat → Nat → UInt64 := ofQ.1
theorem ofF_eq : Float64.ofFrac = ofF := ofQ.2.symm
noncomputable def obQ : {f // f = Float64.ofBin} := by
  apply Subtype.mk
  delta Float64.ofBin
  rw [ofF_eq, sfF_eq]
noncomputable def obF : Bool → Nat → Int → UInt64 := obQ.1
theorem obF_eq : Float64.ofBin = obF := obQ.2.symm
noncomputable def dcF (x : UInt64) : Float64.Num :=
  frc x.toNat fun b => frc (b / 2 ^ 52 % 2048) fun ex => frc (b % 2 ^ 52) fun fr =>
    cond (Nat.beq ex 2047) (cond (Nat.beq fr 0) (.inf (Nat.beq (b / 2 ^ 63) 1)) .nan)
      (cond (Nat.beq ex 0) (.fin (Nat.beq (b / 2 ^ 63) 1) fr (Int.negSucc 1073)) (.fin (Nat.beq (b / 2 ^ 63) 1) (2 ^ 52 + fr) (cond (Nat.ble 1075 ex) (Int.ofNat (ex - 1075)) (Int.negSucc (1074 - ex)))))
theorem nbeq (a b : Nat) : (a == b) = Nat.beq a b := by
  rw [Bool.eq_iff_iff, beq_iff_eq]
  exact ⟨fun h => by rw [h]; exact Nat.beq_refl _, Nat.eq_of_beq_eq_true⟩
theorem dcF_eq : Float64.decode = dcF := by
  funext x
  unfold dcF Float64.decode
  simp only [frc_eq]
  generalize x.toNat = b
  have e1 : (b / 2 ^ 63 == 1) = Nat.beq (b / 2 ^ 63) 1 := nbeq _ _
  rw [e1]
  generalize Nat.beq (b / 2 ^ 63) 1 = s
  generalize b / 2 ^ 52 % 2048 = ex
  generalize b % 2 ^ 52 = fr
  have e2 : (ex == 2047) = Nat.beq ex 2047 := nbeq _ _
  have e3 : (ex == 0) = Nat.beq ex 0 := nbeq _ _
  have e4 : (fr == 0) = Nat.beq fr 0 := nbeq _ _
  rw [e2, e3, e4]
  generalize (2 : Nat) ^ 52 = K
  have e5 : ((ex : Int) - 1075) = cond (Nat.ble 1075 ex) (Int.ofNat (ex - 1075)) (Int.negSucc (1074 - ex)) := by
    rw [ble_dec]
    by_cases h : 1075 ≤ ex
    · rw [decide_eq_true h, cond_true, Int.ofNat_eq_natCast]; omega
    · rw [decide_eq_false h, cond_false]; omega
  rw [e5]
  cases Nat.beq ex 2047 with
  | true =>
    rw [cond_true, if_pos rfl]
    cases Nat.beq fr 0 <;> rfl
  | false =>
    rw [cond_false, if_neg Bool.false_ne_true]
    cases Nat.beq ex 0 <;> rfl
noncomputable def ngF (a : Bool) (m : Nat) : Int := cond a (Int.negOfNat m) (Int.ofNat m)
noncomputable def alF (a : Bool) (m : Nat) (e : Int) (b : Bool) (k : Nat) (f : Int) : Int × Int × Int :=
  Int.rec (motive := fun _ => Int × Int × Int)
    (fun p => Int.rec (motive := fun _ => Int × Int × Int) (fun q => cond (Nat.ble p q) (ngF a m, ngF b (k * 2 ^ (q - p)), Int.ofNat p) (ngF a (m * 2 ^ (p - q)), ngF b k, Int.ofNat q)) (fun q => (ngF a (m * 2 ^ (p + (q + 1))), ngF b k, Int.negSucc q)) f)
    (fun p => Int.rec (motive := fun _ => Int × Int × Int) (fun q => (ngF a m, ngF b (k * 2 ^ (q + (p + 1))), Int.negSucc p)) (fun q => cond (Nat.ble q p) (ngF a m, ngF b (k * 2 ^ (p - q)), Int.negSucc p) (ngF a (m * 2 ^ (q - p)), ngF b k, Int.negSucc q)) f) e
theorem ngF_eq (a : Bool) (m : Nat) : Float64.sgn a m = ngF a m := by
  unfold Float64.sgn ngF
  cases a with
  | false => rfl
  | true =>
    rw [if_pos rfl, cond_true]
    cases m <;> rfl
theorem alF_eq : Float64.align = alF := by
  funext a m e b k f
  unfold Float64.align
  simp only [ngF_eq]
  have fin : ∀ (g : Int) (x y : Nat), min e f = g → (e - g).toNat = x → (f - g).toNat = y → (ngF a (m * 2 ^ (e - min e f).toNat), ngF b (k * 2 ^ (f - min e f).toNat), min e f) = (ngF a (m * 2 ^ x), ngF b (k * 2 ^ y), g) := fun g x y h1 h2 h3 => by rw [h1, h2, h3]
  cases e with
  | ofNat p =>
    cases f with
    | ofNat q =>
      show _ = cond (Nat.ble p q) (ngF a m, ngF b (k * 2 ^ (q - p)), Int.ofNat p) (ngF a (m * 2 ^ (p - q)), ngF b k, Int.ofNat q)
      rw [ble_dec]
      by_cases h : p ≤ q
      · rw [decide_eq_true h, cond_true, fin (Int.ofNat p) 0 (q - p) (by simp only [Int.ofNat_eq_natCast, Int.negSucc_eq]; omega) (by simp only [Int.ofNat_eq_natCast, Int.negSucc_eq]; omega) (by simp only [Int.ofNat_eq_natCast, Int.negSucc_eq]; omega), Nat.pow_zero, Nat.mul_one]
      · rw [decide_eq_false h, cond_false, fin (Int.ofNat q) (p - q) 0 (by simp only [Int.ofNat_eq_natCast, Int.negSucc_eq]; omega) (by simp only [Int.ofNat_eq_natCast, Int.negSucc_eq]; omega) (by simp only [Int.ofNat_eq_natCast, Int.negSucc_eq]; omega), Nat.pow_zero, Nat.mul_one]
    | negSucc q =>
      show _ = (ngF a (m * 2 ^ (p + (q + 1))), ngF b k, Int.negSucc q)
      rw [fin (Int.negSucc q) (p + (q + 1)) 0 (by simp only [Int.ofNat_eq_natCast, Int.negSucc_eq]; omega) (by simp only [Int.ofNat_eq_natCast, Int.negSucc_eq]; omega) (by simp only [Int.ofNat_eq_natCast, Int.negSucc_eq]; omega), Nat.pow_zero, Nat.mul_one]
  | negSucc p =>
    cases f with
    | ofNat q =>
      show _ = (ngF a m, ngF b (k * 2 ^ (q + (p + 1))), Int.negSucc p)
      rw [fin (Int.negSucc p) 0 (q + (p + 1)) (by simp only [Int.ofNat_eq_natCast, Int.negSucc_eq]; omega) (by simp only [Int.ofNat_eq_natCast, Int.negSucc_eq]; omega) (by simp only [Int.ofNat_eq_natCast, Int.negSucc_eq]; omega), Nat.pow_zero, Nat.mul_one]
    | negSucc q =>
      show _ = cond (Nat.ble q p) (ngF a m, ngF b (k * 2 ^ (p - q)), Int.negSucc p) (ngF a (m * 2 ^ (q - p)), ngF b k, Int.negSucc q)
      rw [ble_dec]
      by_cases h : q ≤ p
      · rw [decide_eq_true h, cond_true, fin (Int.negSucc p) 0 (p - q) (by simp only [Int.ofNat_eq_natCast, Int.negSucc_eq]; omega) (by simp only [Int.ofNat_eq_natCast, Int.negSucc_eq]; omega) (by simp only [Int.ofNat_eq_natCast, Int.negSucc_eq]; omega), Nat.pow_zero, Nat.mul_one]
      · rw [decide_eq_false h, cond_false, fin (Int.negSucc q) (q - p) 0 (by simp only [Int.ofNat_eq_natCast, Int.negSucc_eq]; omega) (by simp only [Int.ofNat_eq_natCast, Int.negSucc_eq]; omega) (by simp only [Int.ofNat_eq_natCast, Int.negSucc_eq]; omega), Nat.pow_zero, Nat.mul_one]
noncomputable def addQ : {f // f = Float64.add} := by
  apply Subtype.mk
  delta Float64.add
  rw [obF_eq, dcF_eq, alF_eq]
noncomputable def addF : UInt64 → UInt64 → UInt64 := addQ.1
theorem addF_eq : Float64.add = addF := addQ.2.symm
noncomputable def subQ : {f // f = Float64.sub} := by
  apply Subtype.mk
  delta Float64.sub Float64.neg Float64.isNaN
  rw [addF_eq, dcF_eq]
noncomputable def subF : UInt64 → UInt64 → UInt64 := subQ.1
theorem subF_eq : Float64.sub = subF := subQ.2.symm
noncomputable def mulQ : {f // f = Float64.mul} := by
  apply Subtype.mk
  delta Float64.mul
  rw [obF_eq, dcF_eq]
noncomputable def mulF : UInt64 → UInt64 → UInt64 := mulQ.1
theorem mulF_eq : Float64.mul = mulF := mulQ.2.symm
noncomputable def divQ : {f // f = Float64.div} := by
  apply Subtype.mk
  delta Float64.div
  rw [ofF_eq, sfF_eq, dcF_eq]
noncomputable def divF : UInt64 → UInt64 → UInt64 := divQ.1
theorem divF_eq : Float64.div = divF := divQ.2.symm
noncomputable def cpQ : {f // f = Float64.cmp} := by
  apply Subtype.mk
  delta Float64.cmp
  rw [dcF_eq, alF_eq]
noncomputable def cpF : UInt64 → UInt64 → Option Ordering := cpQ.1
theorem cpF_eq : Float64.cmp = cpF := cpQ.2.symm
noncomputable def fmQ : {f // f = Float64.fmod} := by
  apply Subtype.mk
  delta Float64.fmod
  rw [obF_eq, dcF_eq, alF_eq]
noncomputable def fmF : UInt64 → UInt64 → UInt64 := fmQ.1
theorem fmF_eq : Float64.fmod = fmF := fmQ.2.symm
noncomputable def oiQ : {f // f = Float64.ofInt} := by
  apply Subtype.mk
  delta Float64.ofInt
  rw [ofF_eq]
noncomputable def oiF : Int → UInt64 := oiQ.1
theorem oiF_eq : Float64.ofInt = oiF := oiQ.2.symm
noncomputable def dmQ : {f // f = Float64.divmod} := by
  apply Subtype.mk
  delta Float64.divmod Float64.lt Float64.gt Float64.isZero
  rw [fmF_eq, divF_eq, subF_eq, addF_eq, cpF_eq, dcF_eq]
noncomputable def dmF : UInt64 → UInt64 → UInt64 × UInt64 := dmQ.1
theorem dmF_eq : Float64.divmod = dmF := dmQ.2.symm
noncomputable def rgQ : {f // f = rgbF} := by
  apply Subtype.mk
  delta rgbF hueF mx3 mn3 leF Float64.isZero
  rw [addF_eq, subF_eq, divF_eq, dmF_eq, cpF_eq, dcF_eq]
noncomputable def rgF : UInt64 → UInt64 → UInt64 → Option (UInt64 × UInt64 × UInt64) := rgQ.1
theorem rgF_eq : rgbF = rgF := rgQ.2.symm
noncomputable def vQ : {f // f = vF} := by
  apply Subtype.mk
  delta vF
  rw [addF_eq, subF_eq, mulF_eq, dmF_eq, cpF_eq]
noncomputable def vF' : UInt64 → UInt64 → UInt64 → UInt64 := vQ.1
theorem vF_eq : vF = vF' := vQ.2.symm
noncomputable def hlQ : {f // f = hlsF} := by
  apply Subtype.mk
  delta hlsF leF
  rw [vF_eq, addF_eq, subF_eq, mulF_eq, cpF_eq]
noncomputable def hlF : UInt64 → UInt64 → UInt64 → UInt64 × UInt64 × UInt64 := hlQ.1
theorem hlF_eq : hlsF = hlF := hlQ.2.symm
noncomputable def negT (n a b c : Nat) : Bool :=
  match rgbF (fr a n) (fr b n) (fr c n) with
  | none => false
  | some (x1, y1, z1) =>
    match hlsF (Float64.sub (fr 1 6) x1) (Float64.sub (Float64.ofInt 1) y1) z1 with
    | (x2, y2, z2) => finB (negX n x2) && finB (negX n y2) && finB (negX n z2) && decide (negI n x2 = (n : Int) - c) && decide (negI n y2 = (n : Int) - b) && decide (negI n z2 = (n : Int) - a)
noncomputable def negQ : {f // f = negT} := by
  apply Subtype.mk
  delta negT negI negX fr
  rw [rgF_eq, hlF_eq, ofF_eq, subF_eq, oiF_eq, addF_eq, mulF_eq]
noncomputable def negF : Nat → Nat → Nat → Nat → Bool := negQ.1
theorem negF_eq : negT = negF := negQ.2.symm
end Mine
end
end
section
set_option Elab.async false
set_option maxRecDepth 100000
noncomputable section
namespace Mine
open PySem PySem.W PyProof.Rows PySem.Calls PySem.Spec PySem.Builtin.Str
theorem neg_tab : ((List.range 8).all fun n => n == 0 || (List.range (n + 1)).all fun a => (List.range (a + 1)).all fun b => (List.range (b + 1)).all fun c => negF n a b c) = true := by decide +kernel
theorem neg_ok (n a b c : Int) (h : 1 ≤ n ∧ n ≤ 7 ∧ a ≤ n ∧ b ≤ a ∧ c ≤ b ∧ 0 ≤ c) : ∃ x1 y1 z1 x2 y2 z2, rgbF (fr a n) (fr b n) (fr c n) = some (x1, y1, z1) ∧ hlsF (Float64.sub (fr 1 6) x1) (Float64.sub (Float64.ofInt 1) y1) z1 = (x2, y2, z2) ∧
    finB (negX n x2) = true ∧ finB (negX n y2) = true ∧ finB (negX n z2) = true ∧ negI n x2 = n - c ∧ negI n y2 = n - b ∧ negI n z2 = n - a := by
  obtain ⟨n', rfl⟩ : ∃ k : Nat, n = k := ⟨n.toNat, by omega⟩
  obtain ⟨a', rfl⟩ : ∃ k : Nat, a = k := ⟨a.toNat, by omega⟩
  obtain ⟨b', rfl⟩ : ∃ k : Nat, b = k := ⟨b.toNat, by omega⟩
  obtain ⟨c', rfl⟩ : ∃ k : Nat, c = k := ⟨c.toNat, by omega⟩
  have t := List.all_eq_true.mp neg_tab n' (List.mem_range.mpr (by omega))
  rw [Bool.or_eq_true] at t
  have t := t.resolve_left (by simp; omega)
  have t := List.all_eq_true.mp t a' (List.mem_range.mpr (by omega))
  have t := List.all_eq_true.mp t b' (List.mem_range.mpr (by omega))
  have t := List.all_eq_true.mp t c' (List.mem_range.mpr (by omega))
  rw [← negF_eq] at t
  unfold negT at t
  cases e1 : rgbF (fr a' n') (fr b' n') (fr c' n') with
  | none => rw [e1] at t; cases t
  | some q =>
    obtain ⟨x1, y1, z1⟩ := q
    rw [e1] at t
    dsimp only at t
    obtain ⟨x2, y2, z2, e2⟩ : ∃ x2 y2 z2, hlsF (Float64.sub (fr 1 6) x1) (Float64.sub (Float64.ofInt 1) y1) z1 = (x2, y2, z2) := ⟨_, _, _, rfl⟩
    rw [e2] at t
    simp only [Bool.and_eq_true, decide_eq_true_eq] at t
    obtain ⟨⟨⟨⟨⟨g1, g2⟩, g3⟩, g4⟩, g5⟩, g6⟩ := t
    exact ⟨x1, y1, z1, x2, y2, z2, rfl, e2, g1, g2, g3, g4, g5, g6⟩
end Mine
end
end
section
set_option Elab.async false
set_option maxRecDepth 100000
noncomputable section
namespace Mine
open PySem PySem.W PyProof.Rows PySem.Calls PySem.Spec PySem.Builtin.Str
/-- the letters of a kind of sign -/
noncomputable def pieceN (k : Int) : List Nat := if k = 0 then [115] else if k = 1 then [115, 116] else if k = 2 then [116] else if k = 3 then [116, 109] else if k = 4 then [109] else if k = 5 then [115, 109] else []
noncomputable def litOf (a b c : Bool) : List Nat := (if a then [115] else []) ++ (if b then [116] else []) ++ (if c then [109] else [])
theorem litS_eq (r g b l : UInt64) : litS r g b l = tx (litOf (gtF r l) (gtF g l) (gtF b l)) := by
  unfold litS sgnsOf
  rw [show List.range 3 = [0, 1, 2] from rfl]
  simp only [List.filter]
  rw [show ([r, g, b].getD 0 0) = r from rfl, show ([r, g, b].getD 1 0) = g from rfl, show ([r, g, b].getD 2 0) = b from rfl]
  cases gtF r l <;> cases gtF g l <;> cases gtF b l <;> decide +kernel
noncomputable def sgnOk (c : Nat) (res : List Nat) : Bool :=
  if b1B c then ((b3At c).getD (Txt.lower ⟨#[c]⟩) == ⟨#[c]⟩) && res == [] else (b3At c).getD (Txt.lower ⟨#[c]⟩) == tx res
theorem letOk_of {r g b l : UInt64} {c : Nat} {res : List Nat} (h1 : sgnOk c res = true) (h2 : litOf (gtF r l) (gtF g l) (gtF b l) = res) : letOk r g b l c (tx res) = true := by
  have e0 : Str.ofString "" = tx [] := by decide +kernel
  unfold letOk
  rw [litS_eq, h2, e0]
  unfold sgnOk at h1
  by_cases hb : b1B c = true
  · rw [if_pos hb] at h1 ⊢
    rw [Bool.and_eq_true] at h1
    obtain ⟨p1, p2⟩ := h1
    have : res = [] := by simpa using p2
    subst this
    simp [p1]
  · rw [if_neg hb] at h1 ⊢
    have : (b3At c).getD (Txt.lower ⟨#[c]⟩) = tx res := by simpa using h1
    rw [this]
    simp
noncomputable def sgT (kind form : Int) : Bool := match (signS kind form).cps.toList with
  | [c] => decide (c < 1114112) && sgnOk c (pieceN kind)
  | _ => false
theorem sg_tab6 : ((List.range 27).all fun j => sgT 6 (j : Nat)) = true := by decide +kernel
theorem sg_tab2 : ((List.range 3).all fun i => (List.range 2).all fun j => sgT (2 * (i : Nat) + 1) (j : Nat)) = true := by decide +kernel
theorem sg_tab12 : ((List.range 3).all fun i => (List.range 12).all fun j => sgT (2 * (i : Nat)) (j : Nat)) = true := by decide +kernel
theorem fmod2x (f : Int) {n : Int} (h : 0 < n) : (f.fmod n).fmod n = f.fmod n := by
  have h0 := Int.le_of_lt h
  rw [Int.fmod_eq_emod_of_nonneg _ h0, Int.fmod_eq_emod_of_nonneg _ h0, Int.emod_emod_of_dvd _ (Int.dvd_refl n)]
theorem sgT_out {kind form : Int} (h : sgT kind form = true) : ∃ c, signS kind form = ⟨#[c]⟩ ∧ c < 1114112 ∧ sgnOk c (pieceN kind) = true := by
  unfold sgT at h
  generalize hs : signS kind form = s at h
  obtain ⟨cps⟩ := s
  cases hl : cps.toList with
  | nil => simp only [hl] at h; cases h
  | cons c r =>
    cases r with
    | cons d r => simp only [hl] at h; cases h
    | nil =>
      simp only [hl, Bool.and_eq_true, decide_eq_true_eq] at h
      refine ⟨c, ?_, h.1, h.2⟩
      congr 1
      exact Array.toList_inj.mp hl
theorem sg_ok (kind form : Int) (hk : 0 ≤ kind ∧ kind ≤ 6) (_hf : 0 ≤ form) : ∃ c, signS kind form = ⟨#[c]⟩ ∧ c < 1114112 ∧ sgnOk c (pieceN kind) = true := by
  by_cases h6 : kind = 6
  · subst h6
    have b := fm form (n := 27) (by decide)
    have e : signS 6 form = signS 6 (form.fmod 27) := by
      unfold signS
      rw [if_pos rfl, if_pos rfl, fmod2x form (by decide)]
    obtain ⟨j, hj⟩ : ∃ j : Nat, form.fmod 27 = j := ⟨(form.fmod 27).toNat, by omega⟩
    rw [e, hj]
    exact sgT_out (List.all_eq_true.mp sg_tab6 j (List.mem_range.mpr (by omega)))
  · by_cases h2 : kind.fmod 2 = 1
    · have b := fm form (n := 2) (by decide)
      have e : signS kind form = signS kind (form.fmod 2) := by
        unfold signS
        rw [if_neg h6, if_neg h6, if_pos h2, if_pos h2, fmod2x form (by decide)]
      obtain ⟨j, hj⟩ : ∃ j : Nat, form.fmod 2 = j := ⟨(form.fmod 2).toNat, by omega⟩
      obtain ⟨i, hi⟩ : ∃ i : Nat, kind = 2 * (i : Int) + 1 := ⟨((kind - 1) / 2).toNat, by rw [Int.fmod_eq_emod_of_nonneg _ (by decide)] at h2; omega⟩
      rw [e, hj]
      subst hi
      have t := List.all_eq_true.mp sg_tab2 i (List.mem_range.mpr (by omega))
      exact sgT_out (List.all_eq_true.mp t j (List.mem_range.mpr (by omega)))
    · have b := fm form (n := 12) (by decide)
      have e : signS kind form = signS kind (form.fmod 12) := by
        unfold signS
        rw [if_neg h6, if_neg h6, if_neg h2, if_neg h2, fmod2x form (by decide)]
      obtain ⟨j, hj⟩ : ∃ j : Nat, form.fmod 12 = j := ⟨(form.fmod 12).toNat, by omega⟩
      obtain ⟨i, hi⟩ : ∃ i : Nat, kind = 2 * (i : Int) := ⟨(kind / 2).toNat, by rw [Int.fmod_eq_emod_of_nonneg _ (by decide)] at h2; omega⟩
      rw [e, hj]
      subst hi
      have t := List.all_eq_true.mp sg_tab12 i (List.mem_range.mpr (by omega))
      exact sgT_out (List.all_eq_true.mp t j (List.mem_range.mpr (by omega)))
/-- what the lamps answer -/
noncomputable def spB (r g bl d0 d1 d2 : UInt64) (a b : List Nat) : Bool :=
  match rgbF r g bl with
  | none => false
  | some (h, l, s) =>
    match hlsF (Float64.add d0 4602678819172646912) (Float64.sub (Float64.ofInt 1) d1) d2 with
    | (r', g', b') =>
      match rgbF r' g' b' with
      | none => false
      | some (_, x2, _) =>
        eqF h d0 && eqF l d1 && eqF s d2 && finB (Float64.mul (Float64.ofInt 256) r) && finB (Float64.mul (Float64.ofInt 256) g) && finB (Float64.mul (Float64.ofInt 256) bl)
          && finB (negX 256 r') && finB (negX 256 g') && finB (negX 256 b')
          && decide (negI 256 r' = 256 - Flt.toInt Float64.truncOf (Float64.mul (Float64.ofInt 256) r)) && decide (negI 256 g' = 256 - Flt.toInt Float64.truncOf (Float64.mul (Float64.ofInt 256) g)) && decide (negI 256 b' = 256 - Flt.toInt Float64.truncOf (Float64.mul (Float64.ofInt 256) bl))
          && (litOf (gtF r l) (gtF g l) (gtF bl l) == a) && (litOf (gtF r' x2) (gtF g' x2) (gtF b' x2) == b)
theorem spB_out {r g bl d0 d1 d2 h0 s0 v0 : UInt64} {a b : List Nat} {sg sg' : Str} {c c' : Nat} (h : spB r g bl d0 d1 d2 a b = true) (hv : hsvF h0 s0 v0 = some (r, g, bl)) (hsg : sg = ⟨#[c]⟩) (hsg' : sg' = ⟨#[c']⟩) (hc : c < 1114112) (hc' : c' < 1114112) (o : sgnOk c a = true) (o' : sgnOk c' b = true) :
    SpE h0 s0 v0 d0 d1 d2 sg sg' (tx a) (tx b) := by
  unfold spB at h
  cases e1 : rgbF r g bl with
  | none => rw [e1] at h; cases h
  | some q =>
    obtain ⟨hh, l, s⟩ := q
    rw [e1] at h
    dsimp only at h
    obtain ⟨r', g', b', e2⟩ : ∃ r' g' b', hlsF (Float64.add d0 4602678819172646912) (Float64.sub (Float64.ofInt 1) d1) d2 = (r', g', b') := ⟨_, _, _, rfl⟩
    rw [e2] at h
    dsimp only at h
    cases e3 : rgbF r' g' b' with
    | none => rw [e3] at h; cases h
    | some q =>
      obtain ⟨x1, x2, x3⟩ := q
      rw [e3] at h
      simp only [Bool.and_eq_true, decide_eq_true_eq] at h
      obtain ⟨⟨⟨⟨⟨⟨⟨⟨⟨⟨⟨⟨⟨k1, k2⟩, k3⟩, k4⟩, k5⟩, k6⟩, k7⟩, k8⟩, k9⟩, k10⟩, k11⟩, k12⟩, k13⟩, k14⟩ := h
      exact ⟨r, g, bl, hh, l, s, r', g', b', x1, x2, x3, c, c', ⟨hv, e1, k1, k2, k3, e2, e3, k4, k5, k6, k7, k8, k9, k10, k11, k12, hsg, hsg', hc, hc', letOk_of o (by simpa using k13), letOk_of o' (by simpa using k14)⟩⟩
end Mine
end
end
section
set_option Elab.async false
set_option maxRecDepth 100000
noncomputable section
namespace Mine
open PySem PySem.W PyProof.Rows PySem.Calls PySem.Spec PySem.Builtin.Str
noncomputable def kindOf (hue : Int) : Int := ((6 * hue + 16).fdiv 32).fmod 6
/-- a coloured spot, of the parts of its number -/
noncomputable def spotT (h sh va : Int) : Bool :=
  !Float64.isZero (fr (mnI ((va + 1) * (8 - (4 - sh)))) 16) &&
  match hsvF (Float64.add (fr (2 * h + 1) 32) (Float64.ofInt 0)) (fr (4 - sh) 4) (fr (va + 1) 4) with
  | none => false
  | some (r, g, bl) => decide (hsvF (Float64.add (fr (2 * h + 1) 32) (Float64.ofInt 1)) (fr (4 - sh) 4) (fr (va + 1) 4) = some (r, g, bl)) && decide (hsvF (Float64.add (fr (2 * h + 1) 32) (Float64.ofInt 2)) (fr (4 - sh) 4) (fr (va + 1) 4) = some (r, g, bl)) &&
      spB r g bl (fr (2 * h + 1) 32) (fr ((va + 1) * (8 - (4 - sh))) 32) (Float64.div (fr ((va + 1) * (4 - sh)) 16) (fr (mnI ((va + 1) * (8 - (4 - sh)))) 16)) (pieceN (kindOf (2 * h + 1))) (pieceN ((kindOf (2 * h + 1) + 3).fmod 6))
/-- a grey spot -/
noncomputable def greyT (va : Int) : Bool := spB (fr (va + 1) 4) (fr (va + 1) 4) (fr (va + 1) 4) 0 (fr ((va + 1) * (8 - 0)) 32) 0 [] []
noncomputable def gtQ : {f // f = gtF} := by
  apply Subtype.mk
  delta gtF
  rw [cpF_eq]
noncomputable def gtF' : UInt64 → UInt64 → Bool := gtQ.1
theorem gtF_eq : gtF = gtF' := gtQ.2.symm
noncomputable def fiQ : {f // f = finB} := by
  apply Subtype.mk
  delta finB Float64.isNaN Float64.isInf
  rw [dcF_eq]
noncomputable def fiF : UInt64 → Bool := fiQ.1
theorem fiF_eq : finB = fiF := fiQ.2.symm
noncomputable def tiQ : {f // f = Flt.toInt} := by
  apply Subtype.mk
  delta Flt.toInt
  rw [dcF_eq]
noncomputable def tiF : (Bool → Nat → Int → Int) → UInt64 → Int := tiQ.1
theorem tiF_eq : Flt.toInt = tiF := tiQ.2.symm
noncomputable def hsQ : {f // f = hsvF} := by
  apply Subtype.mk
  delta hsvF Float64.isNaN Float64.isInf
  rw [cpF_eq, mulF_eq, subF_eq, oiF_eq, dcF_eq, tiF_eq]
noncomputable def hsF : UInt64 → UInt64 → UInt64 → Option (UInt64 × UInt64 × UInt64) := hsQ.1
theorem hsF_eq : hsvF = hsF := hsQ.2.symm
noncomputable def sbQ : {f // f = spB} := by
  apply Subtype.mk
  delta spB eqF negI negX
  rw [rgF_eq, hlF_eq, addF_eq, subF_eq, oiF_eq, cpF_eq, mulF_eq, gtF_eq, fiF_eq, tiF_eq]
noncomputable def sbF : UInt64 → UInt64 → UInt64 → UInt64 → UInt64 → UInt64 → List Nat → List Nat → Bool := sbQ.1
theorem sbF_eq : spB = sbF := sbQ.2.symm
noncomputable def spoQ : {f // f = spotT} := by
  apply Subtype.mk
  delta spotT fr Float64.isZero
  rw [hsF_eq, sbF_eq, addF_eq, oiF_eq, divF_eq, dcF_eq, ofF_eq]
noncomputable def spoF : Int → Int → Int → Bool := spoQ.1
theorem spoF_eq : spotT = spoF := spoQ.2.symm
noncomputable def grQ : {f // f = greyT} := by
  apply Subtype.mk
  delta greyT fr
  rw [sbF_eq, ofF_eq]
noncomputable def grF : Int → Bool := grQ.1
theorem grF_eq : greyT = grF := grQ.2.symm
theorem spo_tab0 : ((List.range 4).all fun h => (List.range 4).all fun sh => (List.range 4).all fun va => spoF (h : Nat) (sh : Nat) (va : Nat)) = true := by decide +kernel
theorem spo_tab1 : ((List.range' 4 4).all fun h => (List.range 4).all fun sh => (List.range 4).all fun va => spoF (h : Nat) (sh : Nat) (va : Nat)) = true := by decide +kernel
theorem spo_tab2 : ((List.range' 8 4).all fun h => (List.range 4).all fun sh => (List.range 4).all fun va => spoF (h : Nat) (sh : Nat) (va : Nat)) = true := by decide +kernel
theorem spo_tab3 : ((List.range' 12 4).all fun h => (List.range 4).all fun sh => (List.range 4).all fun va => spoF (h : Nat) (sh : Nat) (va : Nat)) = true := by decide +kernel
theorem gr_tab : ((List.range 4).all fun va => grF (va : Nat)) = true := by decide +kernel
theorem spo_all {h sh va : Nat} (h1 : h < 16) (h2 : sh < 4) (h3 : va < 4) : spotT h sh va = true := by
  rw [spoF_eq]
  have key : ∀ {l : List Nat}, (l.all fun h => (List.range 4).all fun sh => (List.range 4).all fun va => spoF (h : Nat) (sh : Nat) (va : Nat)) = true → h ∈ l → spoF h sh va = true := fun t hm =>
    List.all_eq_true.mp (List.all_eq_true.mp (List.all_eq_true.mp t h hm) sh (List.mem_range.mpr h2)) va (List.mem_range.mpr h3)
  rcases Nat.lt_or_ge h 4 with q | q
  · exact key spo_tab0 (List.mem_range.mpr q)
  rcases Nat.lt_or_ge h 8 with p | p
  · exact key spo_tab1 (List.mem_range'_1.mpr ⟨q, p⟩)
  rcases Nat.lt_or_ge h 12 with q | q
  · exact key spo_tab2 (List.mem_range'_1.mpr ⟨p, q⟩)
  · exact key spo_tab3 (List.mem_range'_1.mpr ⟨q, h1⟩)
/-- the letters of a spot's number -/
noncomputable def sp (x : Int) : List Nat × List Nat :=
  if 0 < 4 - ((x.fmod 1000000).fdiv 16).fmod 5 then (pieceN (kindOf (2 * (x.fmod 1000000).fmod 16 + 1)), pieceN ((kindOf (2 * (x.fmod 1000000).fmod 16 + 1) + 3).fmod 6)) else ([], [])
theorem pieces_in : ((List.range 6).all fun k => kindsA.contains (pieceN (k : Nat), pieceN ((((k : Nat) : Int) + 3).fmod 6))) = true := by decide
theorem spot_ok (y : Int) (h0 : 0 ≤ y) : SpotOk y (tx (if 0 < 4 - (y.fdiv 16).fmod 5 then pieceN (kindOf (2 * y.fmod 16 + 1)) else [])) (tx (if 0 < 4 - (y.fdiv 16).fmod 5 then pieceN ((kindOf (2 * y.fmod 16 + 1) + 3).fmod 6) else [])) := by
  have b1 := fm y (n := 16) (by decide)
  have b2 := fm (y.fdiv 16) (n := 5) (by decide)
  have b3 := fm (y.fdiv 80) (n := 4) (by decide)
  have b4 := fm (y.fdiv 320) (n := 3) (by decide)
  have bf : 0 ≤ y.fdiv 960 := by rw [Int.fdiv_eq_ediv_of_nonneg y (by decide : (0:Int) ≤ 960)]; exact Int.ediv_nonneg h0 (by decide)
  unfold SpotOk
  dsimp only
  obtain ⟨h, hh⟩ : ∃ h : Nat, y.fmod 16 = h := ⟨(y.fmod 16).toNat, by omega⟩
  obtain ⟨sh, hs⟩ : ∃ s : Nat, (y.fdiv 16).fmod 5 = s := ⟨((y.fdiv 16).fmod 5).toNat, by omega⟩
  obtain ⟨va, hv⟩ : ∃ v : Nat, (y.fdiv 80).fmod 4 = v := ⟨((y.fdiv 80).fmod 4).toNat, by omega⟩
  rw [hh, hs, hv]
  rw [hh] at b1
  rw [hs] at b2
  rw [hv] at b3
  generalize (y.fdiv 320).fmod 3 = k at *
  refine ⟨fun hp => ?_, fun hp => ?_⟩
  · rw [if_pos hp, if_pos hp]
    have t := spo_all (h := h) (sh := sh) (va := va) (by omega) (by omega) (by omega)
    unfold spotT at t
    rw [Bool.and_eq_true] at t
    obtain ⟨t1, t2⟩ := t
    refine ⟨by simpa using t1, ?_⟩
    have kb := fm ((6 * (2 * (h : Int) + 1) + 16).fdiv 32) (n := 6) (by decide)
    obtain ⟨c, s1, s2, s3⟩ := sg_ok (kindOf (2 * (h : Int) + 1)) (y.fdiv 960) ⟨kb.1, Int.le_of_lt kb.2⟩ bf
    have kb' := fm (kindOf (2 * (h : Int) + 1) + 3) (n := 6) (by decide)
    obtain ⟨c', s1', s2', s3'⟩ := sg_ok ((kindOf (2 * (h : Int) + 1) + 3).fmod 6) (y.fdiv 960 + 5) ⟨kb'.1, Int.le_of_lt kb'.2⟩ (by omega)
    cases e : hsvF (Float64.add (fr (2 * (h : Int) + 1) 32) (Float64.ofInt 0)) (fr (4 - (sh : Int)) 4) (fr ((va : Int) + 1) 4) with
    | none => rw [e] at t2; cases t2
    | some q =>
      obtain ⟨r, g, bl⟩ := q
      rw [e] at t2
      simp only [Bool.and_eq_true, decide_eq_true_eq] at t2
      obtain ⟨⟨t3, t4⟩, t5⟩ := t2
      have hk : hsvF (Float64.add (fr (2 * (h : Int) + 1) 32) (Float64.ofInt k)) (fr (4 - (sh : Int)) 4) (fr ((va : Int) + 1) 4) = some (r, g, bl) := by
        rcases (by omega : k = 0 ∨ k = 1 ∨ k = 2) with rfl | rfl | rfl
        · exact e
        · exact t3
        · exact t4
      exact spB_out t5 hk s1 s1' s2 s2' s3 s3'
  · rw [if_neg hp, if_neg hp]
    have hs0 : (4 : Int) - (sh : Int) = 0 := by omega
    rw [hs0]
    obtain ⟨c, s1, s2, s3⟩ := sg_ok 6 (y.fdiv 960) (by decide) bf
    obtain ⟨c', s1', s2', s3'⟩ := sg_ok 6 (y.fdiv 960 + 5) (by decide) (by omega)
    have t := List.all_eq_true.mp gr_tab va (List.mem_range.mpr (by omega))
    rw [← grF_eq] at t
    unfold greyT at t
    have hk : hsvF (Float64.add (fr (2 * (h : Int) + 1) 32) (Float64.ofInt k)) (fr 0 4) (fr ((va : Int) + 1) 4) = some (fr ((va : Int) + 1) 4, fr ((va : Int) + 1) 4, fr ((va : Int) + 1) 4) := by
      unfold hsvF
      exact if_pos (by decide +kernel)
    exact spB_out t hk s1 s1' s2 s2' s3 s3'
theorem sp_ok (x : Int) : sp x ∈ kindsA ∧ SpotOk (x.fmod 1000000) (tx (sp x).1) (tx (sp x).2) := by
  have b := fm x (n := 1000000) (by decide)
  have t := spot_ok (x.fmod 1000000) b.1
  unfold sp
  by_cases hp : 0 < 4 - ((x.fmod 1000000).fdiv 16).fmod 5
  · rw [if_pos hp, if_pos hp] at t
    rw [if_pos hp]
    refine ⟨?_, t⟩
    have kb := fm ((6 * (2 * (x.fmod 1000000).fmod 16 + 1) + 16).fdiv 32) (n := 6) (by decide)
    obtain ⟨k, hk⟩ : ∃ k : Nat, kindOf (2 * (x.fmod 1000000).fmod 16 + 1) = k := ⟨(kindOf (2 * (x.fmod 1000000).fmod 16 + 1)).toNat, by have := kb.1; unfold kindOf; omega⟩
    have hk2 : k < 6 := by have := kb.2; unfold kindOf at hk; omega
    rw [hk]
    have := List.all_eq_true.mp pieces_in k (List.mem_range.mpr hk2)
    simpa using this
  · rw [if_neg hp, if_neg hp] at t
    rw [if_neg hp]
    exact ⟨by simp [kindsA], t⟩
end Mine
end
end
section
open PySem PySem.W PyProof.Rows PySem.Calls PySem.Spec PySem.Builtin.Str PyProof.Rows.LCg
set_option Elab.async false
set_option maxRecDepth 100000
set_option maxHeartbeats 4000000
set_option pp.deepTerms false
set_option pp.maxSteps 3000
namespace Mine
local macro_rules | `(tactic| k_qdec) => `(tactic| decide +kernel)
local macro_rules | `(tactic| walk_at "exec Assign cons ListComp") => `(tactic| (k_here; refine stopHere ?_))
local macro_rules | `(tactic| walk_at "eval ListComp") => `(tactic| (k_here; refine stopHere ?_))
local macro_rules | `(tactic| walk_at "CompSrc") => `(tactic| (k_here; refine stopHere ?_))
local macro_rules | `(tactic| walk_at "CompSrcT") => `(tactic| (k_here; refine stopHere ?_))
local macro_rules | `(tactic| walk_at "CompEnd") => `(tactic| (k_here; refine stopHere ?_))
local macro_rules | `(tactic| walk_at "call ref") => `(tactic| (k_here; refine stopHere ?_))
local macro_rules | `(tactic| walk_at "compareOp NotEq ref ref") => `(tactic| (k_here; refine stopHere ?_))
local macro_rules | `(tactic| walk_at "exec For Tuple Call cons nil") => `(tactic| (k_here; refine stopHere ?_))
local macro_rules | `(tactic| walk_at "call type:zip") => `(tactic| (k_here; refine stopHere ?_))
local macro_rules | `(tactic| walk_at "compareOp In none ref") => `(tactic| (k_here; (rename News _ _ _ _ => N7); k_dflt (refine none_in N7 (.head _) ?_)))
local macro_rules | `(tactic| walk_at "subscriptTail") => `(tactic| (k_here; (with_reducible show wpAny _ _ (subscriptTail _ (PySem.Expr.Slice (some _) _ _ _) _ _) _ _ _); refine stopHere ?_))
theorem spot_end {h₀ : Heap} {L I C D D9 Dn : Addr} {m : Str → Option Value} {s₁ : Shared} {oI oC : Obj} {sps : List (Addr × Obj)} {ms : List Int} {i : Nat} {x : Int} {its : List Value} {kn : Nat} {ta tb : Tok} {h8 : Heap} {tk8 : Nat}
    (hS : SpotsAre sps ((ms.take i).map sp)) (hx : ms[i]? = some x) (off : Off3 I C D (sps ++ [(D9, listOf its.toArray 0)])) (F : Fr h₀ L h8 m)
    (N : News h₀ L h8 ([(Dn, listOf [Value.str (tx (sp x).1) ta, Value.str (tx (sp x).2) tb].toArray kn)] ++ (I, oI) :: (C, oC) :: (D, lst (refs sps)) :: (sps ++ [(D9, listOf its.toArray 0)])))
    (hn : ∀ p ∈ (I, oI) :: (C, oC) :: (D, lst (refs sps)) :: (sps ++ [(D9, listOf its.toArray 0)]), ∀ q ∈ [(Dn, listOf [Value.str (tx (sp x).1) ta, Value.str (tx (sp x).2) tb].toArray kn)], p.1 ≠ q.1) :
    CompEnd h₀ L m s₁ I oI C oC D (lst (refs sps)) (SrcAt h₀ D9 its.toArray) (fun y news' => ∃ sps', SpotsAre sps' ((ms.take (i + 1)).map sp) ∧ refs sps ++ [y] = refs sps' ∧ news' = sps' ++ [(D9, listOf its.toArray 0)]) (.ref Dn) { s₁ with heap := h8, toks := tk8 } := by
  refine CompEnd.intro F N ((sps ++ [(Dn, listOf [Value.str (tx (sp x).1) ta, Value.str (tx (sp x).2) tb].toArray kn)]) ++ [(D9, listOf its.toArray 0)]) (fun p hp => ?_) (Off3.of fun p hp => ?_) (.inr ⟨_, List.mem_append_right _ (.head _), rfl, _, rfl⟩) ⟨sps ++ [(Dn, listOf [Value.str (tx (sp x).1) ta, Value.str (tx (sp x).2) tb].toArray kn)], ?_, by simp [refs], rfl⟩
  · simp only [List.mem_cons, List.mem_append, List.not_mem_nil, or_false] at hp ⊢
    rcases hp with h | h | h | (h | h) | h <;> simp [h]
  · simp only [List.mem_cons, List.mem_append, List.not_mem_nil, or_false] at hp
    rcases hp with (h | rfl) | rfl
    · exact off.mem p (List.mem_append_left _ h)
    · exact ⟨fun e => hn (I, oI) (.head _) _ (.head _) e.symm, fun e => hn (C, oC) (.tail _ (.head _)) _ (.head _) e.symm, fun e => hn (D, _) (.tail _ (.tail _ (.head _))) _ (.head _) e.symm⟩
    · exact off.mem _ (List.mem_append_right _ (.head _))
  · rw [take_succ_of hx, List.map_append]
    exact SpotsAre.snoc ⟨_, _, _, rfl⟩ hS
theorem law_holds : PySem.Challenge.rw_rl0121_01.Holds := by
  w_on
  refine holds_law ?said fun hsaid => ?_
  case said => exact said0
  refine holds_open (q := q0) (loose := loose0) (Xt := xt0) (XP := XL q0 lv0) (Yf := hk0.obs) (Ya := hk0.val) (YP := hk0.says) (N := 28394) left0 (Hook.of hk0) (Hook.keeps hk0) (fun s e => xl_of s (Bool.and_eq_true_iff.mp e).1) XL.keeps (by rfl) (by rfl) (by rfl) (fun s e => recFacts_of (Bool.and_eq_true_iff.mp e).2) (by rfl) (by first | assumption | decide +kernel) (by decide +kernel) ⟨rfl, rfl, rfl, rfl, rfl, by decide +kernel⟩ ?hw ?hc
  case hw => w_witness2
  clear hsaid
  delta hk0
  k_fill
  intro w s₀ s₁ mg mb G Y fa o pm cd doc dV kV ho hd hcd hD hmg hg args vals as hpre hlay hrd hwl hlo
  have KX := kIn_of Y
  k_behind G ho hd hcd hD hmg hpre hlay hrd hwl hlo cd
  all_goals try k_fold
  k_steps
  refine Stop.go ?_
  k_dflt (refine LCg.Assign_ListComp_U (F₀ := by k_asm) (by rfl) (by with_unfolding_all rfl) (by rfl) (by decide) (by rfl) (by decide) (by rfl) (by rfl) (by rfl) ?_)
  k_steps
  refine Stop.go ?_
  k_dflt (refine kba_turn (value' := PySem.Expr.Name (PySem.Str.ofString "_") ⟨0, 0, 0, 0⟩) (fun _ => rfl) ?_)
  k_dflt (refine' slice_menu ?F ?N ?m ?ii ?z0 ?zz ?_ ?s ?t; (case F => k_asm); (case N => k_asm); (case m => k_mem); (case ii => exact .cons _ _ (.cons _ _ (.cons _ _ (.cons _ _ .nil)))); (case z0 => exact Int.natCast_nonneg _); (case zz => exact Nat.le_of_ble_eq_true rfl); (case s => with_unfolding_all rfl); (case t => kmk_pure))
  intro Da wsa ha Fa Na la hIa
  (try k_lt la)
  k_steps
  refine Stop.go ?_
  rename Fr _ _ _ _ => F9
  rename News _ _ _ _ => N9
  rename IntsAre _ (_ ++ _) => hI9
  rename_i D9 ws9 h9 l9
  obtain ⟨ms, hI9, hml1, hml2⟩ : ∃ ms, IntsAre ws9 ms ∧ 4 ≤ ms.length ∧ ms.length ≤ 7 := by
    refine ⟨_, hI9, ?_⟩
    rw [List.length_append, List.length_take, List.length_drop]
    simp only [List.length_cons, List.length_nil]
    omega
  have hwl9 := hI9.length
  replace N9 : News _ _ _ [(D9, listOf ws9.toArray 0)] := fun p hp => N9 p (by rw [List.mem_singleton.mp hp]; exact .head _)
  refine CompSrc.ledger (k := 0) (by rfl) F9 N9 (.head _) (by rw [List.size_toArray, sizeLine_eq]; omega) ?_
  intro g9
  refine rest_ind (fun i ys news => ∃ sps, SpotsAre sps ((ms.take i).map sp) ∧ ys = refs sps ∧ news = sps ++ [(D9, listOf ws9.toArray 0)]) ?turn ?fin _ 0 [] _ (Nat.add_zero _) ⟨[], trivial, rfl, rfl⟩
  case turn =>
    clear F9 N9
    intro i ys news v I oI C oC D m₂ h tk E' hin hJ hP hN hx F1 N1 off hne
    obtain ⟨sps, hS, rfl, rfl⟩ := hJ
    obtain ⟨x, t, hx1, rfl⟩ := ints_get hI9 (by simpa using hP)
    refine Call_ ?_
    k_steps
    refine Stop.go ?_
    k_dflt (refine' ConL.go (c_spot _ _ _ _ x (tx (sp x).1) (tx (sp x).2) _) ?k1_1 ?k2_1 ?k3_1 ?k4_1 ?k5_1 ?kK_1 ?kl_1 ?kp_1 ?kd_1 ?ku_1 ?_; (case k1_1 => k_asm); (case k2_1 => k_asm); (case k3_1 => k_asm); (case k4_1 => k_asm); (case k5_1 => k_asm); (case kK_1 => first | exact rfl | assumption); (case kd_1 => ktr_room); (case ku_1 => ktr_units); k_whole)
    case kl_1 => exact fun _ h => nomatch h
    case kp_1 => exact (sp_ok x).2
    rintro v8 h8 tk8 new8 ⟨Dn, kn, ta, tb, rfl, rfl⟩ hn8 F8 N8
    k_steps
    refine Stop.go ?_
    exact spot_end hS hx1 off F8 N8 hn8
  case fin =>
    intro ys news hJ
    obtain ⟨sps, hS, rfl, rfl⟩ := hJ
    rw [List.size_toArray, hwl9, List.take_length] at hS
    intro DS h5 tk5 F5 N5 off5
    clear F9 N9
    k_steps
    refine Stop.go ?_
    replace N5 : News _ _ _ ((DS, listOf (refs sps).toArray (refs sps).length) :: sps) := fun p hp => N5 p (by
      rcases List.mem_cons.mp hp with rfl | hp
      · exact .head _
      · exact .tail _ (List.mem_append_left _ hp))
    have hlS : sps.length = ms.length := by rw [hS.len, List.length_map]
    k_dflt (refine LCt.ListComp_T (F₀ := F5) (by with_unfolding_all rfl) (by decide) (by rfl) (by decide) (by rfl) ?_)
    k_steps
    refine Stop.go ?_
    rename Fr _ _ _ _ => F9
    refine LCt.CompSrcT.ledger (by rfl) F9 N5 (.head _) (by rw [List.size_toArray, sizeLine_eq]; simp only [refs, List.length_map]; omega) ?_
    intro g2
    refine restT_ind (fun i ys news => ys = [] ∧ news = (DS, listOf (refs sps).toArray (refs sps).length) :: sps) ?turn2 ?fin2 _ 0 [] _ (Nat.add_zero _) ⟨rfl, rfl⟩
    case turn2 =>
      clear F9 N5
      intro i ys news v I oI C oC D m₂ h tk E' hin hJ hP hN hx F1 N1 off hne
      obtain ⟨rfl, rfl⟩ := hJ
      obtain ⟨p, hp, rfl⟩ := refs_get (by simpa using hP)
      obtain ⟨z, hz, kz, tza, tzb, hpo⟩ := SpotsAre.get hS hp
      have hpm : p ∈ sps := List.mem_of_getElem? hp
      have N2 : News _ _ _ ((p.1, listOf [Value.str (tx z.1) tza, Value.str (tx z.2) tzb].toArray kz) :: _) := fun q hq => by
        rcases List.mem_cons.mp hq with rfl | hq
        · rw [← hpo]; exact N1 p (.tail _ (.tail _ (.tail _ (.tail _ hpm))))
        · exact N1 q hq
      clear N1
      k_steps
      refine Stop.go ?_
      rename News _ _ _ _ => N2
      refine CompEnd.intro F1 N2 _ (fun q hq => .tail _ hq) off (.inr ⟨_, .head _, rfl, _, rfl⟩) ⟨rfl, rfl⟩
    case fin2 =>
      intro ys news hJ
      obtain ⟨rfl, rfl⟩ := hJ
      intro D7 h7 tk7 F7 N7 off7
      clear F9 N5
      obtain ⟨xs, hxs⟩ : ∃ xs, xs = ms.map sp := ⟨_, rfl⟩
      have hxk : ∀ k ∈ xs, k ∈ kindsA := fun k hk => by
        rw [hxs] at hk
        obtain ⟨x, _, rfl⟩ := List.mem_map.mp hk
        exact (sp_ok x).1
      have hxl : xs.length ≤ 7 := by rw [hxs, List.length_map]; exact hml2
      rw [← hxs] at hS
      k_steps
      refine Stop.go ?_
      rename News _ _ _ _ => N7
      k_dflt (refine ne_empty N7 (.tail _ (.head _)) (.head _) (by ke_room) ?_)
      k_steps
      refine Stop.go ?_
      rename News _ _ _ _ => N9
      rename Fr _ _ _ _ => F9
      replace N9 : News _ _ _ ((DS, listOf (refs sps).toArray (refs sps).length) :: sps) := fun p hp => N9 p (.tail _ (.tail _ hp))
      try clear F7
      try clear N7
      k_dflt (refine LCg.ListComp_U (F₀ := F9) (by with_unfolding_all rfl) (by decide) (by rfl) (by decide) (by rfl) ?_)
      k_steps
      refine Stop.go ?_
      refine pick_src (.inl rfl) (by rfl) F9 N9 hS (.head _) (fun p hp => .tail _ hp) (by omega) ?_
      clear F9 N9
      intro D1 hA tkA ps1 kA e1 FA NA nA
      replace e1 : ps1.map (·.1) = tA xs := e1
      k_steps
      refine Stop.go ?_
      k_dflt (refine' ConL.goRow (c_row trip_ok false _ _ _ _ D1 ps1 kA) ?k1_2 ?k2_2 ?k3_2 ?k4_2 ?k5_2 ?kK_2 ?kl_2 ?kp_2 ?kd_2 ?ku_2 ?_; (case k1_2 => k_asm); (case k2_2 => k_asm); (case k3_2 => k_asm); (case k4_2 => k_asm); (case k5_2 => k_asm); (case kK_2 => first | exact rfl | assumption); (case kd_2 => ktr_room); (case ku_2 => ktr_units); k_whole)
      case kl_2 => exact fun p hp => by rw [List.mem_singleton.mp hp]; exact .head _
      case kp_2 => exact ⟨by have := congrArg List.length e1; simp at this; omega, by rw [e1]; exact (pre_rows false (tA_ok hxk) (by simpa using hxl)).1, by rw [e1]; exact (pre_rows false (tA_ok hxk) (by simpa using hxl)).2⟩
      intro R1 kR1 ts1 h8 tk8 hR1 hn8 F8 N8
      rw [e1] at hR1
      k_steps
      refine Stop.go ?_
      rename News _ _ _ _ => N9
      rename Fr _ _ _ _ => F9
      replace N9 : News _ _ _ ((DS, listOf (refs sps).toArray (refs sps).length) :: (R1, listOf (refs ts1).toArray kR1) :: (sps ++ ts1)) := fun p hp => N9 p (by
        simp only [List.mem_cons, List.mem_append] at hp ⊢
        rcases hp with h | h | h | h <;> simp [h])
      try clear FA
      try clear NA
      try clear F8
      try clear N8
      clear hn8 nA
      k_dflt (refine LCg.ListComp_U (F₀ := F9) (by with_unfolding_all rfl) (by decide) (by rfl) (by decide) (by rfl) ?_)
      k_steps
      refine Stop.go ?_
      refine pick_src (.inl rfl) (by rfl) F9 N9 hS (.head _) (fun p hp => .tail _ (.tail _ (List.mem_append_left _ hp))) (by omega) ?_
      clear F9 N9
      intro D2 hB tkB ps2 kB e2 FB NB nB
      replace e2 : ps2.map (·.1) = tA xs := e2
      k_steps
      refine Stop.go ?_
      k_dflt (refine' ConL.goRow (c_walk _ _ _ _ D2 ps2 kB) ?k1_3 ?k2_3 ?k3_3 ?k4_3 ?k5_3 ?kK_3 ?kl_3 ?kp_3 ?kd_3 ?ku_3 ?_; (case k1_3 => k_asm); (case k2_3 => k_asm); (case k3_3 => k_asm); (case k4_3 => k_asm); (case k5_3 => k_asm); (case kK_3 => first | exact rfl | assumption); (case kd_3 => ktr_room); (case ku_3 => ktr_units); k_whole)
      case kl_3 => exact fun p hp => by rw [List.mem_singleton.mp hp]; exact .head _
      case kp_3 => have := congrArg List.length e2; simp at this; omega
      intro R2 kR2 ts2 h8 tk8 hR2 hn8 F8 N8
      rw [e2] at hR2
      rw [rows_eq xs hxk] at hR1
      k_steps
      refine Stop.go ?_
      rename News _ _ _ _ => N9
      rename Fr _ _ _ _ => F9
      refine ne_rows (ts := ts1) (us := ts2) N9 (k := kR1) (k' := kR2) ?ha ?hb ?hts ?hus hR1 hR2 ?hne (by ke_room) ?_
      case ha => simp
      case hb => simp
      case hts => intro p hp; simp [hp]
      case hus => intro p hp; simp [hp]
      case hne => exact fun p hp q hq => hn8 p (by simp [hp]) q (.tail _ hq)
      replace N9 : News _ _ _ ((DS, listOf (refs sps).toArray (refs sps).length) :: (R1, listOf (refs ts1).toArray kR1) :: (sps ++ ts1)) := fun p hp => N9 p (by
        simp only [List.mem_cons, List.mem_append] at hp ⊢
        rcases hp with h | h | h | h <;> simp [h])
      try clear FB
      try clear NB
      try clear F8
      try clear N8
      clear hn8 nB
      k_steps
      refine Stop.go ?_
      refine wpAny_For ?_
      k_steps
      refine Stop.go ?_
      rename News _ _ _ _ => N9
      rename Fr _ _ _ _ => F9
      obtain ⟨p1, tt1, rfl, hRt1⟩ := row_cons hR1
      have hlt1 := hRt1.len
      rw [wRows_len, List.length_map] at hlt1
      refine slice_from F9 N9 (.tail _ (.head _)) (by decide) (by simp only [refs, List.length_map, List.length_cons]; omega) ?_ (by with_unfolding_all rfl) (by intro r; rfl)
      intro D3 h3 F3 N3 l3
      replace N3 : News _ _ _ ((D3, listOf (refs tt1).toArray 0) :: (DS, listOf (refs sps).toArray (refs sps).length) :: (sps ++ tt1)) := fun p hp => N3 p (by
        simp only [List.mem_cons, List.mem_append] at hp ⊢
        rcases hp with h | h | h | h
        · left; exact h
        · simp [h]
        · simp [h]
        · simp [h])
      clear F9 N9 l3
      k_steps
      refine Stop.go ?_
      k_dflt (refine LCg.ListComp_U (F₀ := F3) (by with_unfolding_all rfl) (by decide) (by rfl) (by decide) (by rfl) ?_)
      k_steps
      refine Stop.go ?_
      refine pick_src (.inr rfl) (by rfl) F3 N3 hS (.tail _ (.head _)) (fun p hp => .tail _ (.tail _ (List.mem_append_left _ hp))) (by omega) ?_
      clear F3 N3
      intro D4 h4 tk4 ps4 k4 e4 F4 N4 n4
      replace e4 : ps4.map (·.1) = tB xs := e4
      k_steps
      refine Stop.go ?_
      k_dflt (refine' ConL.goRow (c_row trip_ok true _ _ _ _ D4 ps4 k4) ?k1_4 ?k2_4 ?k3_4 ?k4_4 ?k5_4 ?kK_4 ?kl_4 ?kp_4 ?kd_4 ?ku_4 ?_; (case k1_4 => k_asm); (case k2_4 => k_asm); (case k3_4 => k_asm); (case k4_4 => k_asm); (case k5_4 => k_asm); (case kK_4 => first | exact rfl | assumption); (case kd_4 => ktr_room); (case ku_4 => ktr_units); k_whole)
      case kl_4 => exact fun p hp => by rw [List.mem_singleton.mp hp]; exact .head _
      case kp_4 => exact ⟨by have := congrArg List.length e4; simp at this; omega, by rw [e4]; exact (pre_rows true (tB_ok hxk) (by simpa using hxl)).1, by rw [e4]; exact (pre_rows true (tB_ok hxk) (by simpa using hxl)).2⟩
      intro R5 kR5 ts5 h8 tk8 hR5 hn5 F5 N5
      rw [e4] at hR5
      k_steps
      refine Stop.go ?_
      rename News _ _ _ _ => N9
      rename Fr _ _ _ _ => F9
      obtain ⟨p5, tt5, rfl, hRt5⟩ := row_cons hR5
      have hM := mirror_all xs hxk
      have hlt5 := hRt5.len
      rw [rRows_len, List.length_map] at hlt5
      replace N9 : News _ _ _ ((R5, listOf (refs (p5 :: tt5)).toArray kR5) :: (D3, listOf (refs tt1).toArray 0) :: (DS, listOf (refs sps).toArray (refs sps).length) :: (sps ++ (tt1 ++ tt5))) := fun p hp => N9 p (by
        simp only [List.mem_cons, List.mem_append] at hp ⊢
        rcases hp with h | h | h | h | h | h <;> simp [h])
      k_dflt (refine kba_turn (value' := PySem.Expr.Name (PySem.Str.ofString "_") ⟨0, 0, 0, 0⟩) (fun _ => rfl) ?_)
      refine slice_from F9 N9 (.head _) (by decide) (by simp only [refs, List.length_map, List.length_cons]; omega) ?_ (by with_unfolding_all rfl) (by kmk_pure)
      intro D6 h6 F6 N6 l6
      replace N6 : News _ _ _ ((D6, listOf (refs tt5).toArray 0) :: (D3, listOf (refs tt1).toArray 0) :: (DS, listOf (refs sps).toArray (refs sps).length) :: (sps ++ (tt1 ++ tt5))) := fun p hp => N6 p (by
        rcases List.mem_cons.mp hp with h | h
        · rw [h]; exact .head _
        · exact .tail _ (.tail _ h))
      try clear F4
      try clear N4
      try clear F5
      try clear N5
      clear F9 N9 l6 hn5 n4
      k_steps
      refine Stop.go ?_
      refine call_zip3 (v1 := refs sps) (v2 := refs tt1) (v3 := refs tt5) (isList_led N6 (.tail _ (.tail _ (.head _)))) (isList_led N6 (.tail _ (.head _))) (isList_led N6 (.head _)) ?_
      intro hZ stZ kZ
      walk_at "SealedV"
      dsimp only at stZ kZ ⊢
      refine wpAny_pyIter_zip stZ.z ?_
      have hls := hS.len
      have FZ := F6.keeps kZ
      have NZ := N6.grown kZ
      have ltZ : ∀ p ∈ (D6, listOf (refs tt5).toArray 0) :: (D3, listOf (refs tt1).toArray 0) :: (DS, listOf (refs sps).toArray (refs sps).length) :: (sps ++ (tt1 ++ tt5)), @LT.lt Nat _ p.1 h6.objs.size := fun p hp => Heap.lt_size (N6 p hp).1
      have neL : ∀ p ∈ (D6, listOf (refs tt5).toArray 0) :: (D3, listOf (refs tt1).toArray 0) :: (DS, listOf (refs sps).toArray (refs sps).length) :: (sps ++ (tt1 ++ tt5)), p.1 ≠ s₁.heap.objs.size := fun p hp => (N6 p hp).2.1
      have hLn : @LT.lt Nat _ s₁.heap.objs.size h6.objs.size := F6.ns.lt
      clear F6 N6
      refine loop_zip3 (by rfl) ⟨ltZ _ (.tail _ (.tail _ (.head _))), ltZ _ (.tail _ (.head _)), ltZ _ (.head _)⟩ (by simp only [refs, List.length_map]; omega) (by simp only [refs, List.length_map]; omega) (by rfl) (by rfl) (by rfl) (by rfl) hLn ⟨Ne.symm (neL _ (.tail _ (.tail _ (.head _)))), Ne.symm (neL _ (.tail _ (.head _))), Ne.symm (neL _ (.head _))⟩ (Nat.le_of_lt hLn) stZ FZ NZ (fun p hp hb => ?hnw)
        (fun i m₁ news₁ => (∃ t, m₁ (Str.ofString "count") = some (.int (cntF 0 (xs.take i)) t)) ∧ news₁ = _) ⟨⟨_, rfl⟩, rfl⟩ ?turn3 ?done3 (by passes_own)
      case hnw =>
        have h1 := ltZ p hp
        simp only [List.mem_cons, List.not_mem_nil, or_false] at hb
        rcases hb with hb | hb | hb | hb | hb <;> (rw [hb] at h1; exact absurd h1 (Nat.not_lt_of_le (by omega)))
      case done3 =>
        rintro m₁ news₁ h tk ⟨⟨tc, ec⟩, rfl⟩ F1 N1
        clear FZ NZ
        k_steps
      case turn3 =>
        rintro i a b c m₁ news₁ h tk own ha hb hc ⟨⟨tc, ec⟩, rfl⟩ hnw hown F1 N1
        clear FZ NZ
        obtain ⟨p, hp, rfl⟩ := refs_get ha
        obtain ⟨q, hq, rfl⟩ := refs_get hb
        obtain ⟨r, hr, rfl⟩ := refs_get hc
        obtain ⟨z, hz, kz, tza, tzb, hpo⟩ := SpotsAre.get hS hp
        obtain ⟨A, hA, ta1, ta2, ta3, hqo⟩ := RowIs.get hRt1 hq
        obtain ⟨B, hB, tb1, tb2, tb3, hro⟩ := RowIs.get hRt5 hr
        obtain ⟨rfl, m1, m2, m3, m4⟩ := Mirrors.get hM hz hA hB
        have cb := cntF_ge (xs.take (i + 1)) 0
        have cl : (xs.take (i + 1)).length ≤ 7 := Nat.le_trans (List.length_take_le' ..) hxl
        have cs := cntF_snoc 0 (xs.take i) z
        rw [← take_succ_of hz] at cs
        have c0 := (cntF_ge (xs.take i) 0).1
        have F2 := Fr_named (x := Str.ofString "count") F1 (show _ = some (Value.int (cntF 0 (xs.take i)) tc) by rw [if_neg (by decide), if_neg (by decide), if_neg (by decide)]; exact ec)
        have N2 : News _ _ _ ((p.1, listOf [Value.str (tx z.1) tza, Value.str (tx z.2) tzb].toArray kz) :: (q.1, tup3i A.1 A.2.1 A.2.2 ta1 ta2 ta3) :: (r.1, tup3i (cntF 0 (xs.take (i + 1)) - A.2.2) (cntF 0 (xs.take (i + 1)) - A.2.1) (cntF 0 (xs.take (i + 1)) - A.1) tb1 tb2 tb3) :: _) := fun u hu => by
          rcases List.mem_cons.mp hu with rfl | hu
          · rw [← hpo]; exact N1 p (by simp [List.mem_of_getElem? hp])
          · rcases List.mem_cons.mp hu with rfl | hu
            · rw [← hqo]; exact N1 q (by simp [List.mem_of_getElem? hq])
            · rcases List.mem_cons.mp hu with rfl | hu
              · rw [← hro]; exact N1 r (by simp [List.mem_of_getElem? hr])
              · exact N1 u hu
        clear F1 N1
        k_steps
        · rename (tx _ != _) = true => hne
          have hz0 : z.1 ≠ [] := by simpa using tx_ne hne
          rw [if_neg hz0] at cs
          refine Stop.go ?_
          obtain ⟨x1, y1, w1, x2, y2, w2, g1, g2, g3, g4, g5, g6, g7, g8⟩ := neg_ok (cntF 0 (xs.take i) + 1) A.1 A.2.1 A.2.2 ⟨by omega, by omega, by omega, m2, m3, m4⟩
          k_dflt (refine' Con.go (c_neg _ _ _ _ A.1 A.2.1 A.2.2 (cntF 0 (xs.take i) + 1) q.1 ta1 ta2 ta3 _ x1 y1 w1 x2 y2 w2) ?k1_5 ?k2_5 ?k3_5 ?k4_5 ?k5_5 ?kK_5 ?kp_5 ?kd_5 ?ku_5 ?_; (case k1_5 => k_asm); (case k2_5 => k_asm); (case k3_5 => k_asm); (case k4_5 => k_asm); (case k5_5 => k_asm); (case kK_5 => first | exact rfl | assumption); (case kd_5 => ktr_room); (case ku_5 => ktr_units); k_whole)
          case kp_5 => exact ⟨.tail _ (.head _), by omega, by omega, by omega, by omega, by omega, by omega, by omega, by omega, g1, g2, g3, g4, g5⟩
          rintro v9 h9 tk9 new9 ⟨Dq, u1, u2, u3, rfl, rfl⟩ l9 F9 N9
          rw [g6, g7, g8] at N9
          k_steps
          refine Stop.go ?_
          have hr9 := (N9 (r.1, _) (.tail _ (.tail _ (.tail _ (.head _))))).1
          rw [cs] at hr9
          k_dflt (refine ne_tup3i (N9 _ (.head _)).1 hr9 (Nat.lt_of_le_of_lt (Nat.le_add_right _ 64) (by ke_room)) ?_)
          k_steps
          rename Fr _ _ _ _ => F8
          rename News _ _ _ _ => N8
          refine endZ_in F8 N8 (fun p hp => ?_) (fun p hp => ?_) hnw ⟨⟨_, by rw [cs]; exact if_pos rfl⟩, rfl⟩
          · exact .tail _ (.tail _ (.tail _ (.tail _ (List.mem_append_left _ hp))))
          · exact .tail _ (.tail _ (.tail _ (.tail _ (List.mem_append_right _ hp))))
        · rename (tx _ != _) = false => hne
          have hz0 : z.1 = [] := by simpa using tx_ne hne
          rw [if_pos hz0, Int.add_zero] at cs
          refine Stop.go ?_
          obtain ⟨x1, y1, w1, x2, y2, w2, g1, g2, g3, g4, g5, g6, g7, g8⟩ := neg_ok (cntF 0 (xs.take i)) A.1 A.2.1 A.2.2 ⟨by omega, by omega, by omega, m2, m3, m4⟩
          k_dflt (refine' Con.go (c_neg _ _ _ _ A.1 A.2.1 A.2.2 (cntF 0 (xs.take i)) q.1 ta1 ta2 ta3 _ x1 y1 w1 x2 y2 w2) ?k1_6 ?k2_6 ?k3_6 ?k4_6 ?k5_6 ?kK_6 ?kp_6 ?kd_6 ?ku_6 ?_; (case k1_6 => k_asm); (case k2_6 => k_asm); (case k3_6 => k_asm); (case k4_6 => k_asm); (case k5_6 => k_asm); (case kK_6 => first | exact rfl | assumption); (case kd_6 => ktr_room); (case ku_6 => ktr_units); k_whole)
          case kp_6 => exact ⟨.tail _ (.head _), by omega, by omega, by omega, by omega, by omega, by omega, by omega, by omega, g1, g2, g3, g4, g5⟩
          rintro v9 h9 tk9 new9 ⟨Dq, u1, u2, u3, rfl, rfl⟩ l9 F9 N9
          rw [g6, g7, g8] at N9
          k_steps
          refine Stop.go ?_
          have hr9 := (N9 (r.1, _) (.tail _ (.tail _ (.tail _ (.head _))))).1
          rw [cs] at hr9
          k_dflt (refine ne_tup3i (N9 _ (.head _)).1 hr9 (Nat.lt_of_le_of_lt (Nat.le_add_right _ 64) (by ke_room)) ?_)
          k_steps
          rename Fr _ _ _ _ => F8
          rename News _ _ _ _ => N8
          refine endZ_in F8 N8 (fun p hp => ?_) (fun p hp => ?_) hnw ⟨⟨_, by rw [cs]; exact if_pos rfl⟩, rfl⟩
          · exact .tail _ (.tail _ (.tail _ (.tail _ (List.mem_append_left _ hp))))
          · exact .tail _ (.tail _ (.tail _ (.tail _ (List.mem_append_right _ hp))))
        · rename (tx _ != _) = false => hne
          have hz0 : z.1 = [] := by simpa using tx_ne hne
          rw [if_pos hz0, Int.add_zero] at cs
          rename Fr _ _ _ _ => F8
          rename News _ _ _ _ => N8
          refine endZ_in F8 N8 (fun p hp => ?_) (fun p hp => ?_) hnw ⟨⟨_, by rw [cs]; exact if_pos rfl⟩, rfl⟩
          · exact .tail _ (.tail _ (.tail _ (List.mem_append_left _ hp)))
          · exact .tail _ (.tail _ (.tail _ (List.mem_append_right _ hp)))
end Mine
end
theorem PySem.Challenge.cw_rl0121_01_holds : PySem.Challenge.rw_rl0121_01.Holds := by
  exact Mine.law_holds
