import PyProof.Rows.All
import Wide.All
import OpenK.AllK
import Wide.FinOn
import PySem.Challenge.RW_re0157_01

-- part HeadA
set_option Elab.async false
set_option maxRecDepth 100000
set_option maxHeartbeats 4000000
set_option linter.unusedVariables false
namespace Mine
open PySem PySem.W PySem.Calls PyProof.Rows

def stA (i : Nat) : Stmt := (PySem.Challenge.pw_re0157_01.main.body[i]?).getD (.Pass ⟨0, 0, 0, 0⟩)
def fPar : Stmt → Arguments
  | .FunctionDef _ a _ _ _ _ _ _ _ _ => a
  | _ => ⟨[], [], none, [], [], none, []⟩
def fBod : Stmt → FuncBody
  | .FunctionDef _ _ b _ _ _ _ _ _ _ => .stmts b
  | _ => .stmts []
def fSco : Stmt → Scope
  | .FunctionDef _ _ _ _ _ _ s _ _ _ => s
  | _ => { kind := .function, names := [], isGenerator := false, isCoroutine := false }
def dKeys : Stmt → List (Option PySem.Expr)
  | .Assign _ (.Dict ks _ _) _ => ks
  | _ => []
def dVals : Stmt → List PySem.Expr
  | .Assign _ (.Dict _ vs _) _ => vs
  | _ => []
def cInt : Option PySem.Expr → Int
  | some (.Constant (.int i) _ _) => i
  | _ => 0
def cStr : PySem.Expr → Str
  | .Constant (.str x) _ _ => x
  | _ => ⟨#[]⟩
/-- the table's pairs, read off the text's own term -/
def b3Pairs : List (Int × Str) := ((dKeys (stA 10)).map cInt).zip ((dVals (stA 10)).map cStr)
/-- the tokens of the pair at place k: the key's, the value's -/
def b3Tok (k : Nat) : Nat × Nat := if k < 646 then (315 + 3 * k, 316 + 3 * k) else (2253 + 2 * (k - 646), 2254 + 2 * (k - 646))
def b3EntFrom : Nat → List (Int × Str) → List DictEntry
  | _, [] => []
  | k, (i, x) :: r => ⟨i, .int i (b3Tok k).1, .str x (b3Tok k).2⟩ :: b3EntFrom (k + 1) r
def b3Ent (k n : Nat) : List DictEntry := b3EntFrom k ((b3Pairs.drop k).take n)

noncomputable def o11_0 (P : Params) : Obj := ⟨(.type "tuple"), none, (.seq #[] 0), #[]⟩
noncomputable def o12_0 (P : Params) : Obj := ⟨.none, none, (.fields #[]), #[]⟩
noncomputable def o13_0 (P : Params) : Obj := ⟨(.type "code"), none, (.fields #[(.str (Str.ofString "<module>") 182), (.str (Str.ofString "<module>") 183), (.str (Str.ofString "/claim/cut.py") 184), (.int 1 0), (.int 0 0), (.int 0 0), (.int 0 0), (.int 0 0), (.ref 11), (.bool false), (.int 181 0), (.ref 12), .none, .none, .none, .none, (.int 185 0), (.int 1 0), (.str (Str.ofString "/claim/cut.py") 186)]), #[]⟩
noncomputable def o14_0 (P : Params) : Obj := ⟨(.type "frame"), none, .plain, #[(some (.ref 13)), (some (.ref 3)), (some (.ref 3)), none, (some (.str (Str.ofString "__main__") 164)), none, (some (.ref 0))]⟩
noncomputable def t0 (P : Params) : BT := (.node (boot_o_0 P) (.node (boot_o_1 P) (.node (boot_o_3 P) (.node (boot_o_7 P) .nil .nil) (.node (o11_0 P) .nil .nil)) (.node (boot_o_5 P) (.node (boot_o_9 P) .nil .nil) (.node (o13_0 P) .nil .nil))) (.node (boot_o_2 P) (.node (boot_o_4 P) (.node (boot_o_8 P) .nil .nil) (.node (o12_0 P) .nil .nil)) (.node (boot_o_6 P) (.node (boot_o_10 P) .nil .nil) (.node (o14_0 P) .nil .nil))))
noncomputable def o3_1 (P : Params) : Obj := ⟨(.type "dict"), none, (.dict #[⟨PyData.keyHash P (Str.ofString "__name__"), (.str (Str.ofString "__name__") 165), (.str (Str.ofString "cpy313.stringprep") 246)⟩, ⟨PyData.keyHash P (Str.ofString "__doc__"), (.str (Str.ofString "__doc__") 166), .none⟩, ⟨PyData.keyHash P (Str.ofString "__package__"), (.str (Str.ofString "__package__") 167), .none⟩, ⟨PyData.keyHash P (Str.ofString "__loader__"), (.str (Str.ofString "__loader__") 168), (.builtin "__main__.__loader__#opaque")⟩, ⟨PyData.keyHash P (Str.ofString "__spec__"), (.str (Str.ofString "__spec__") 169), .none⟩, ⟨PyData.keyHash P (Str.ofString "__annotations__"), (.str (Str.ofString "__annotations__") 170), (.ref 6)⟩, ⟨PyData.keyHash P (Str.ofString "__builtins__"), (.str (Str.ofString "__builtins__") 171), (.ref 4)⟩, ⟨PyData.keyHash P (Str.ofString "__file__"), (.str (Str.ofString "__file__") 173), (.str (Str.ofString "/claim/cut.py") 172)⟩, ⟨PyData.keyHash P (Str.ofString "__cached__"), (.str (Str.ofString "__cached__") 174), .none⟩, ⟨PyData.keyHash P (Str.ofString "bisect_right"), (.str (Str.ofString "bisect_right") 202), (.ref 23)⟩, ⟨PyData.keyHash P (Str.ofString "insort_left"), (.str (Str.ofString "insort_left") 215), (.ref 32)⟩, ⟨PyData.keyHash P (Str.ofString "bisect_left"), (.str (Str.ofString "bisect_left") 229), (.ref 41)⟩, ⟨PyData.keyHash P (Str.ofString "ELLIPSIS_MARKER"), (.str (Str.ofString "ELLIPSIS_MARKER") 233), (.str (Str.ofString "...") 232)⟩, ⟨PyData.keyHash P (Str.ofString "_ellipsis_match"), (.str (Str.ofString "_ellipsis_match") 245), (.ref 48)⟩] 14), #[]⟩
noncomputable def o12_1 (P : Params) : Obj := ⟨.none, none, (.fields #[(.int 2 0), (.int 0 0), (.ref 22), (.int 22 0), (.int 0 0), (.ref 31), (.int 28 0), (.int 0 0), (.ref 40), (.int 50 0), (.int 0 0), (.ref 47)]), #[]⟩
noncomputable def o15_1 (P : Params) : Obj := ⟨(.type "tuple"), none, (.seq #[(.int 0 189), .none] 0), #[]⟩
noncomputable def o16_1 (P : Params) : Obj := ⟨(.type "dict"), none, (.dict #[⟨PyData.keyHash P (Str.ofString "key"), (.str (Str.ofString "key") 190), .none⟩] 1), #[]⟩
noncomputable def o17_1 (P : Params) : Obj := ⟨(.type "tuple"), none, (.seq #[] 0), #[]⟩
noncomputable def o18_1 (P : Params) : Obj := ⟨.none, none, (.fields #[]), #[]⟩
noncomputable def o19_1 (P : Params) : Obj := ⟨(.type "tuple"), none, (.seq #[(.str (Str.ofString "a") 194), (.str (Str.ofString "x") 195), (.str (Str.ofString "lo") 196), (.str (Str.ofString "hi") 197), (.str (Str.ofString "key") 198), (.str (Str.ofString "mid") 199)] 0), #[]⟩
noncomputable def o20_1 (P : Params) : Obj := ⟨(.type "tuple"), none, (.seq #[] 0), #[]⟩
noncomputable def o21_1 (P : Params) : Obj := ⟨.none, none, (.func { name := (Str.ofString "bisect_right"), qualname := (Str.ofString "bisect_right"), params := fPar (stA 1), body := fBod (stA 1), scope := fSco (stA 1), globals := 0, closure := [], defaults := .none, kwdefaults := .none, doc := .none, pyModule := .none, annotations := none, code := .none, closureTuple := .none, builtins := 0 }), #[]⟩
noncomputable def o22_1 (P : Params) : Obj := ⟨(.type "code"), none, (.fields #[(.str (Str.ofString "bisect_right") 191), (.str (Str.ofString "bisect_right") 192), (.str (Str.ofString "/claim/cut.py") 193), (.int 2 0), (.int 4 0), (.int 0 0), (.int 1 0), (.int 3 0), (.ref 17), (.bool true), (.int 181 0), (.ref 18), .none, (.ref 19), (.ref 20), (.ref 21), (.int 200 0), (.int 2 0), (.str (Str.ofString "/claim/cut.py") 201)]), #[]⟩
noncomputable def o23_1 (P : Params) : Obj := ⟨(.type "function"), none, (.func { name := (Str.ofString "bisect_right"), qualname := (Str.ofString "bisect_right"), params := fPar (stA 1), body := fBod (stA 1), scope := fSco (stA 1), globals := 3, closure := [], defaults := (.ref 15), kwdefaults := (.ref 16), doc := .none, pyModule := (.str (Str.ofString "cpy313.bisect") 187), annotations := none, code := (.ref 22), closureTuple := .none, builtins := 0 }), #[]⟩
noncomputable def o24_1 (P : Params) : Obj := ⟨(.type "tuple"), none, (.seq #[(.int 0 203), .none] 0), #[]⟩
noncomputable def o25_1 (P : Params) : Obj := ⟨(.type "dict"), none, (.dict #[⟨PyData.keyHash P (Str.ofString "key"), (.str (Str.ofString "key") 204), .none⟩] 1), #[]⟩
noncomputable def o26_1 (P : Params) : Obj := ⟨(.type "tuple"), none, (.seq #[] 0), #[]⟩
noncomputable def o27_1 (P : Params) : Obj := ⟨.none, none, (.fields #[]), #[]⟩
noncomputable def o28_1 (P : Params) : Obj := ⟨(.type "tuple"), none, (.seq #[(.str (Str.ofString "a") 208), (.str (Str.ofString "x") 209), (.str (Str.ofString "lo") 210), (.str (Str.ofString "hi") 211), (.str (Str.ofString "key") 212)] 0), #[]⟩
noncomputable def o29_1 (P : Params) : Obj := ⟨(.type "tuple"), none, (.seq #[] 0), #[]⟩
noncomputable def o30_1 (P : Params) : Obj := ⟨.none, none, (.func { name := (Str.ofString "insort_left"), qualname := (Str.ofString "insort_left"), params := fPar (stA 2), body := fBod (stA 2), scope := fSco (stA 2), globals := 0, closure := [], defaults := .none, kwdefaults := .none, doc := .none, pyModule := .none, annotations := none, code := .none, closureTuple := .none, builtins := 0 }), #[]⟩
noncomputable def o31_1 (P : Params) : Obj := ⟨(.type "code"), none, (.fields #[(.str (Str.ofString "insort_left") 205), (.str (Str.ofString "insort_left") 206), (.str (Str.ofString "/claim/cut.py") 207), (.int 22 0), (.int 4 0), (.int 0 0), (.int 1 0), (.int 3 0), (.ref 26), (.bool true), (.int 181 0), (.ref 27), .none, (.ref 28), (.ref 29), (.ref 30), (.int 213 0), (.int 22 0), (.str (Str.ofString "/claim/cut.py") 214)]), #[]⟩
noncomputable def o32_1 (P : Params) : Obj := ⟨(.type "function"), none, (.func { name := (Str.ofString "insort_left"), qualname := (Str.ofString "insort_left"), params := fPar (stA 2), body := fBod (stA 2), scope := fSco (stA 2), globals := 3, closure := [], defaults := (.ref 24), kwdefaults := (.ref 25), doc := .none, pyModule := (.str (Str.ofString "cpy313.bisect") 187), annotations := none, code := (.ref 31), closureTuple := .none, builtins := 0 }), #[]⟩
noncomputable def o33_1 (P : Params) : Obj := ⟨(.type "tuple"), none, (.seq #[(.int 0 216), .none] 0), #[]⟩
noncomputable def o34_1 (P : Params) : Obj := ⟨(.type "dict"), none, (.dict #[⟨PyData.keyHash P (Str.ofString "key"), (.str (Str.ofString "key") 217), .none⟩] 1), #[]⟩
noncomputable def o35_1 (P : Params) : Obj := ⟨(.type "tuple"), none, (.seq #[] 0), #[]⟩
noncomputable def o36_1 (P : Params) : Obj := ⟨.none, none, (.fields #[]), #[]⟩
noncomputable def o37_1 (P : Params) : Obj := ⟨(.type "tuple"), none, (.seq #[(.str (Str.ofString "a") 221), (.str (Str.ofString "x") 222), (.str (Str.ofString "lo") 223), (.str (Str.ofString "hi") 224), (.str (Str.ofString "key") 225), (.str (Str.ofString "mid") 226)] 0), #[]⟩
noncomputable def o38_1 (P : Params) : Obj := ⟨(.type "tuple"), none, (.seq #[] 0), #[]⟩
noncomputable def o39_1 (P : Params) : Obj := ⟨.none, none, (.func { name := (Str.ofString "bisect_left"), qualname := (Str.ofString "bisect_left"), params := fPar (stA 3), body := fBod (stA 3), scope := fSco (stA 3), globals := 0, closure := [], defaults := .none, kwdefaults := .none, doc := .none, pyModule := .none, annotations := none, code := .none, closureTuple := .none, builtins := 0 }), #[]⟩
noncomputable def o40_1 (P : Params) : Obj := ⟨(.type "code"), none, (.fields #[(.str (Str.ofString "bisect_left") 218), (.str (Str.ofString "bisect_left") 219), (.str (Str.ofString "/claim/cut.py") 220), (.int 28 0), (.int 4 0), (.int 0 0), (.int 1 0), (.int 3 0), (.ref 35), (.bool true), (.int 181 0), (.ref 36), .none, (.ref 37), (.ref 38), (.ref 39), (.int 227 0), (.int 28 0), (.str (Str.ofString "/claim/cut.py") 228)]), #[]⟩
noncomputable def o41_1 (P : Params) : Obj := ⟨(.type "function"), none, (.func { name := (Str.ofString "bisect_left"), qualname := (Str.ofString "bisect_left"), params := fPar (stA 3), body := fBod (stA 3), scope := fSco (stA 3), globals := 3, closure := [], defaults := (.ref 33), kwdefaults := (.ref 34), doc := .none, pyModule := (.str (Str.ofString "cpy313.bisect") 187), annotations := none, code := (.ref 40), closureTuple := .none, builtins := 0 }), #[]⟩
noncomputable def o42_1 (P : Params) : Obj := ⟨(.type "tuple"), none, (.seq #[] 0), #[]⟩
noncomputable def o43_1 (P : Params) : Obj := ⟨.none, none, (.fields #[]), #[]⟩
noncomputable def o44_1 (P : Params) : Obj := ⟨(.type "tuple"), none, (.seq #[(.str (Str.ofString "want") 237), (.str (Str.ofString "got") 238), (.str (Str.ofString "ws") 239), (.str (Str.ofString "startpos") 240), (.str (Str.ofString "endpos") 241), (.str (Str.ofString "w") 242)] 0), #[]⟩
noncomputable def o45_1 (P : Params) : Obj := ⟨(.type "tuple"), none, (.seq #[] 0), #[]⟩
noncomputable def o46_1 (P : Params) : Obj := ⟨.none, none, (.func { name := (Str.ofString "_ellipsis_match"), qualname := (Str.ofString "_ellipsis_match"), params := fPar (stA 6), body := fBod (stA 6), scope := fSco (stA 6), globals := 0, closure := [], defaults := .none, kwdefaults := .none, doc := .none, pyModule := .none, annotations := none, code := .none, closureTuple := .none, builtins := 0 }), #[]⟩
noncomputable def o47_1 (P : Params) : Obj := ⟨(.type "code"), none, (.fields #[(.str (Str.ofString "_ellipsis_match") 234), (.str (Str.ofString "_ellipsis_match") 235), (.str (Str.ofString "/claim/cut.py") 236), (.int 50 0), (.int 2 0), (.int 0 0), (.int 0 0), (.int 3 0), (.ref 42), (.bool true), (.int 181 0), (.ref 43), .none, (.ref 44), (.ref 45), (.ref 46), (.int 243 0), (.int 50 0), (.str (Str.ofString "/claim/cut.py") 244)]), #[]⟩
noncomputable def o48_1 (P : Params) : Obj := ⟨(.type "function"), none, (.func { name := (Str.ofString "_ellipsis_match"), qualname := (Str.ofString "_ellipsis_match"), params := fPar (stA 6), body := fBod (stA 6), scope := fSco (stA 6), globals := 3, closure := [], defaults := .none, kwdefaults := .none, doc := .none, pyModule := (.str (Str.ofString "cpy313.doctest") 230), annotations := none, code := (.ref 47), closureTuple := .none, builtins := 0 }), #[]⟩
noncomputable def t1 (P : Params) : BT := (.node (boot_o_0 P) (.node (boot_o_1 P) (.node (o3_1 P) (.node (boot_o_7 P) (.node (o15_1 P) (.node (o31_1 P) .nil .nil) (.node (o47_1 P) .nil .nil)) (.node (o23_1 P) (.node (o39_1 P) .nil .nil) .nil)) (.node (o11_0 P) (.node (o19_1 P) (.node (o35_1 P) .nil .nil) .nil) (.node (o27_1 P) (.node (o43_1 P) .nil .nil) .nil))) (.node (boot_o_5 P) (.node (boot_o_9 P) (.node (o17_1 P) (.node (o33_1 P) .nil .nil) .nil) (.node (o25_1 P) (.node (o41_1 P) .nil .nil) .nil)) (.node (o13_0 P) (.node (o21_1 P) (.node (o37_1 P) .nil .nil) .nil) (.node (o29_1 P) (.node (o45_1 P) .nil .nil) .nil)))) (.node (boot_o_2 P) (.node (boot_o_4 P) (.node (boot_o_8 P) (.node (o16_1 P) (.node (o32_1 P) .nil .nil) (.node (o48_1 P) .nil .nil)) (.node (o24_1 P) (.node (o40_1 P) .nil .nil) .nil)) (.node (o12_1 P) (.node (o20_1 P) (.node (o36_1 P) .nil .nil) .nil) (.node (o28_1 P) (.node (o44_1 P) .nil .nil) .nil))) (.node (boot_o_6 P) (.node (boot_o_10 P) (.node (o18_1 P) (.node (o34_1 P) .nil .nil) .nil) (.node (o26_1 P) (.node (o42_1 P) .nil .nil) .nil)) (.node (o14_0 P) (.node (o22_1 P) (.node (o38_1 P) .nil .nil) .nil) (.node (o30_1 P) (.node (o46_1 P) .nil .nil) .nil)))))
noncomputable def o3_2 (P : Params) : Obj := ⟨(.type "dict"), none, (.dict #[⟨PyData.keyHash P (Str.ofString "__name__"), (.str (Str.ofString "__name__") 165), (.str (Str.ofString "cpy313.stringprep") 246)⟩, ⟨PyData.keyHash P (Str.ofString "__doc__"), (.str (Str.ofString "__doc__") 166), .none⟩, ⟨PyData.keyHash P (Str.ofString "__package__"), (.str (Str.ofString "__package__") 167), .none⟩, ⟨PyData.keyHash P (Str.ofString "__loader__"), (.str (Str.ofString "__loader__") 168), (.builtin "__main__.__loader__#opaque")⟩, ⟨PyData.keyHash P (Str.ofString "__spec__"), (.str (Str.ofString "__spec__") 169), .none⟩, ⟨PyData.keyHash P (Str.ofString "__annotations__"), (.str (Str.ofString "__annotations__") 170), (.ref 6)⟩, ⟨PyData.keyHash P (Str.ofString "__builtins__"), (.str (Str.ofString "__builtins__") 171), (.ref 4)⟩, ⟨PyData.keyHash P (Str.ofString "__file__"), (.str (Str.ofString "__file__") 173), (.str (Str.ofString "/claim/cut.py") 172)⟩, ⟨PyData.keyHash P (Str.ofString "__cached__"), (.str (Str.ofString "__cached__") 174), .none⟩, ⟨PyData.keyHash P (Str.ofString "bisect_right"), (.str (Str.ofString "bisect_right") 202), (.ref 23)⟩, ⟨PyData.keyHash P (Str.ofString "insort_left"), (.str (Str.ofString "insort_left") 215), (.ref 32)⟩, ⟨PyData.keyHash P (Str.ofString "bisect_left"), (.str (Str.ofString "bisect_left") 229), (.ref 41)⟩, ⟨PyData.keyHash P (Str.ofString "ELLIPSIS_MARKER"), (.str (Str.ofString "ELLIPSIS_MARKER") 233), (.str (Str.ofString "...") 232)⟩, ⟨PyData.keyHash P (Str.ofString "_ellipsis_match"), (.str (Str.ofString "_ellipsis_match") 245), (.ref 48)⟩, ⟨PyData.keyHash P (Str.ofString "b1_set"), (.str (Str.ofString "b1_set") 307), (.ref 56)⟩] 15), #[]⟩
noncomputable def o49_2 (P : Params) : Obj := ⟨(.type "list"), none, (.seq #[(.int 173 248), (.int 847 249), (.int 6150 250), (.int 6155 251), (.int 6156 252), (.int 6157 253), (.int 8203 254), (.int 8204 255), (.int 8205 256), (.int 8288 257), (.int 65279 258)] 0), #[]⟩
noncomputable def o50_2 (P : Params) : Obj := ⟨(.type "range"), none, (.fields #[(.int 65024 259), (.int 65040 260), (.int 1 261)]), #[]⟩
noncomputable def o51_2 (P : Params) : Obj := ⟨(.type "list"), none, (.seq #[(.int 65024 264), (.int 65025 265), (.int 65026 266), (.int 65027 267), (.int 65028 268), (.int 65029 269), (.int 65030 270), (.int 65031 271), (.int 65032 272), (.int 65033 273), (.int 65034 274), (.int 65035 275), (.int 65036 276), (.int 65037 277), (.int 65038 278), (.int 65039 279)] 18), #[]⟩
noncomputable def o52_2 (P : Params) : Obj := ⟨(.type "range_iterator"), none, (.fields #[(.int 65040 0), (.int 0 0), (.int 1 0)]), #[]⟩
noncomputable def o53_2 (P : Params) : Obj := ⟨(.type "tuple"), none, (.seq #[] 0), #[]⟩
noncomputable def o54_2 (P : Params) : Obj := ⟨(.type "StopIteration"), none, (.fields #[(.ref 53), .none, .none, .none, (.bool false), .none]), #[]⟩
noncomputable def o55_2 (P : Params) : Obj := ⟨(.type "list"), none, (.seq #[(.int 173 248), (.int 847 249), (.int 6150 250), (.int 6155 251), (.int 6156 252), (.int 6157 253), (.int 8203 254), (.int 8204 255), (.int 8205 256), (.int 8288 257), (.int 65279 258), (.int 65024 264), (.int 65025 265), (.int 65026 266), (.int 65027 267), (.int 65028 268), (.int 65029 269), (.int 65030 270), (.int 65031 271), (.int 65032 272), (.int 65033 273), (.int 65034 274), (.int 65035 275), (.int 65036 276), (.int 65037 277), (.int 65038 278), (.int 65039 279)] 0), #[]⟩
noncomputable def o56_2 (P : Params) : Obj := ⟨(.type "set"), none, (.set #[(65024, (.int 65024 264)), (65025, (.int 65025 265)), (65026, (.int 65026 266)), (65027, (.int 65027 267)), (65028, (.int 65028 268)), (65029, (.int 65029 269)), (6150, (.int 6150 250)), (65030, (.int 65030 270)), (65031, (.int 65031 271)), (65032, (.int 65032 272)), (65033, (.int 65033 273)), (6155, (.int 6155 251)), (6156, (.int 6156 252)), (6157, (.int 6157 253)), (8203, (.int 8203 254)), (8204, (.int 8204 255)), (8205, (.int 8205 256)), (65034, (.int 65034 274)), (65035, (.int 65035 275)), (65036, (.int 65036 276)), (65037, (.int 65037 277)), (65038, (.int 65038 278)), (65039, (.int 65039 279)), (173, (.int 173 248)), (847, (.int 847 249)), (8288, (.int 8288 257)), (65279, (.int 65279 258))] 29 { mask := 127, place := #[0, 1, 2, 3, 4, 5, 6, 7, 8, 9, 10, 11, 12, 13, 14, 15, 16, 17, 18, 19, 20, 21, 22, 45, 79, 96, 127], dummies := #[], finger := 0, led := !P.followText "set-order", moves := 2, plain := true }), #[]⟩
noncomputable def o57_2 (P : Params) : Obj := ⟨(.type "list_iterator"), none, (.fields #[.none, (.int 27 0)]), #[]⟩
noncomputable def o58_2 (P : Params) : Obj := ⟨(.type "tuple"), none, (.seq #[] 0), #[]⟩
noncomputable def o59_2 (P : Params) : Obj := ⟨(.type "StopIteration"), none, (.fields #[(.ref 58), .none, .none, .none, (.bool false), .none]), #[]⟩
noncomputable def t2 (P : Params) : BT := (.node (boot_o_0 P) (.node (boot_o_1 P) (.node (o3_2 P) (.node (boot_o_7 P) (.node (o15_1 P) (.node (o31_1 P) .nil .nil) (.node (o47_1 P) .nil .nil)) (.node (o23_1 P) (.node (o39_1 P) .nil .nil) (.node (o55_2 P) .nil .nil))) (.node (o11_0 P) (.node (o19_1 P) (.node (o35_1 P) .nil .nil) (.node (o51_2 P) .nil .nil)) (.node (o27_1 P) (.node (o43_1 P) .nil .nil) (.node (o59_2 P) .nil .nil)))) (.node (boot_o_5 P) (.node (boot_o_9 P) (.node (o17_1 P) (.node (o33_1 P) .nil .nil) (.node (o49_2 P) .nil .nil)) (.node (o25_1 P) (.node (o41_1 P) .nil .nil) (.node (o57_2 P) .nil .nil))) (.node (o13_0 P) (.node (o21_1 P) (.node (o37_1 P) .nil .nil) (.node (o53_2 P) .nil .nil)) (.node (o29_1 P) (.node (o45_1 P) .nil .nil) .nil)))) (.node (boot_o_2 P) (.node (boot_o_4 P) (.node (boot_o_8 P) (.node (o16_1 P) (.node (o32_1 P) .nil .nil) (.node (o48_1 P) .nil .nil)) (.node (o24_1 P) (.node (o40_1 P) .nil .nil) (.node (o56_2 P) .nil .nil))) (.node (o12_1 P) (.node (o20_1 P) (.node (o36_1 P) .nil .nil) (.node (o52_2 P) .nil .nil)) (.node (o28_1 P) (.node (o44_1 P) .nil .nil) .nil))) (.node (boot_o_6 P) (.node (boot_o_10 P) (.node (o18_1 P) (.node (o34_1 P) .nil .nil) (.node (o50_2 P) .nil .nil)) (.node (o26_1 P) (.node (o42_1 P) .nil .nil) (.node (o58_2 P) .nil .nil))) (.node (o14_0 P) (.node (o22_1 P) (.node (o38_1 P) .nil .nil) (.node (o54_2 P) .nil .nil)) (.node (o30_1 P) (.node (o46_1 P) .nil .nil) .nil)))))
noncomputable def o3_3 (P : Params) : Obj := ⟨(.type "dict"), none, (.dict #[⟨PyData.keyHash P (Str.ofString "__name__"), (.str (Str.ofString "__name__") 165), (.str (Str.ofString "cpy313.stringprep") 246)⟩, ⟨PyData.keyHash P (Str.ofString "__doc__"), (.str (Str.ofString "__doc__") 166), .none⟩, ⟨PyData.keyHash P (Str.ofString "__package__"), (.str (Str.ofString "__package__") 167), .none⟩, ⟨PyData.keyHash P (Str.ofString "__loader__"), (.str (Str.ofString "__loader__") 168), (.builtin "__main__.__loader__#opaque")⟩, ⟨PyData.keyHash P (Str.ofString "__spec__"), (.str (Str.ofString "__spec__") 169), .none⟩, ⟨PyData.keyHash P (Str.ofString "__annotations__"), (.str (Str.ofString "__annotations__") 170), (.ref 6)⟩, ⟨PyData.keyHash P (Str.ofString "__builtins__"), (.str (Str.ofString "__builtins__") 171), (.ref 4)⟩, ⟨PyData.keyHash P (Str.ofString "__file__"), (.str (Str.ofString "__file__") 173), (.str (Str.ofString "/claim/cut.py") 172)⟩, ⟨PyData.keyHash P (Str.ofString "__cached__"), (.str (Str.ofString "__cached__") 174), .none⟩, ⟨PyData.keyHash P (Str.ofString "bisect_right"), (.str (Str.ofString "bisect_right") 202), (.ref 23)⟩, ⟨PyData.keyHash P (Str.ofString "insort_left"), (.str (Str.ofString "insort_left") 215), (.ref 32)⟩, ⟨PyData.keyHash P (Str.ofString "bisect_left"), (.str (Str.ofString "bisect_left") 229), (.ref 41)⟩, ⟨PyData.keyHash P (Str.ofString "ELLIPSIS_MARKER"), (.str (Str.ofString "ELLIPSIS_MARKER") 233), (.str (Str.ofString "...") 232)⟩, ⟨PyData.keyHash P (Str.ofString "_ellipsis_match"), (.str (Str.ofString "_ellipsis_match") 245), (.ref 48)⟩, ⟨PyData.keyHash P (Str.ofString "b1_set"), (.str (Str.ofString "b1_set") 307), (.ref 56)⟩, ⟨PyData.keyHash P (Str.ofString "in_table_b1"), (.str (Str.ofString "in_table_b1") 314), (.ref 66)⟩] 16), #[]⟩
noncomputable def o12_3 (P : Params) : Obj := ⟨.none, none, (.fields #[(.int 2 0), (.int 0 0), (.ref 22), (.int 22 0), (.int 0 0), (.ref 31), (.int 28 0), (.int 0 0), (.ref 40), (.int 50 0), (.int 0 0), (.ref 47), (.int 80 0), (.int 0 0), (.ref 65)]), #[]⟩
noncomputable def o60_3 (P : Params) : Obj := ⟨(.type "tuple"), none, (.seq #[] 0), #[]⟩
noncomputable def o61_3 (P : Params) : Obj := ⟨.none, none, (.fields #[]), #[]⟩
noncomputable def o62_3 (P : Params) : Obj := ⟨(.type "tuple"), none, (.seq #[(.str (Str.ofString "code") 311)] 0), #[]⟩
noncomputable def o63_3 (P : Params) : Obj := ⟨(.type "tuple"), none, (.seq #[] 0), #[]⟩
noncomputable def o64_3 (P : Params) : Obj := ⟨.none, none, (.func { name := (Str.ofString "in_table_b1"), qualname := (Str.ofString "in_table_b1"), params := fPar (stA 9), body := fBod (stA 9), scope := fSco (stA 9), globals := 0, closure := [], defaults := .none, kwdefaults := .none, doc := .none, pyModule := .none, annotations := none, code := .none, closureTuple := .none, builtins := 0 }), #[]⟩
noncomputable def o65_3 (P : Params) : Obj := ⟨(.type "code"), none, (.fields #[(.str (Str.ofString "in_table_b1") 308), (.str (Str.ofString "in_table_b1") 309), (.str (Str.ofString "/claim/cut.py") 310), (.int 80 0), (.int 1 0), (.int 0 0), (.int 0 0), (.int 3 0), (.ref 60), (.bool true), (.int 181 0), (.ref 61), .none, (.ref 62), (.ref 63), (.ref 64), (.int 312 0), (.int 80 0), (.str (Str.ofString "/claim/cut.py") 313)]), #[]⟩
noncomputable def o66_3 (P : Params) : Obj := ⟨(.type "function"), none, (.func { name := (Str.ofString "in_table_b1"), qualname := (Str.ofString "in_table_b1"), params := fPar (stA 9), body := fBod (stA 9), scope := fSco (stA 9), globals := 3, closure := [], defaults := .none, kwdefaults := .none, doc := .none, pyModule := (.str (Str.ofString "cpy313.stringprep") 246), annotations := none, code := (.ref 65), closureTuple := .none, builtins := 0 }), #[]⟩
noncomputable def t3 (P : Params) : BT := (.node (boot_o_0 P) (.node (boot_o_1 P) (.node (o3_3 P) (.node (boot_o_7 P) (.node (o15_1 P) (.node (o31_1 P) (.node (o63_3 P) .nil .nil) .nil) (.node (o47_1 P) .nil .nil)) (.node (o23_1 P) (.node (o39_1 P) .nil .nil) (.node (o55_2 P) .nil .nil))) (.node (o11_0 P) (.node (o19_1 P) (.node (o35_1 P) .nil .nil) (.node (o51_2 P) .nil .nil)) (.node (o27_1 P) (.node (o43_1 P) .nil .nil) (.node (o59_2 P) .nil .nil)))) (.node (boot_o_5 P) (.node (boot_o_9 P) (.node (o17_1 P) (.node (o33_1 P) (.node (o65_3 P) .nil .nil) .nil) (.node (o49_2 P) .nil .nil)) (.node (o25_1 P) (.node (o41_1 P) .nil .nil) (.node (o57_2 P) .nil .nil))) (.node (o13_0 P) (.node (o21_1 P) (.node (o37_1 P) .nil .nil) (.node (o53_2 P) .nil .nil)) (.node (o29_1 P) (.node (o45_1 P) .nil .nil) (.node (o61_3 P) .nil .nil))))) (.node (boot_o_2 P) (.node (boot_o_4 P) (.node (boot_o_8 P) (.node (o16_1 P) (.node (o32_1 P) (.node (o64_3 P) .nil .nil) .nil) (.node (o48_1 P) .nil .nil)) (.node (o24_1 P) (.node (o40_1 P) .nil .nil) (.node (o56_2 P) .nil .nil))) (.node (o12_3 P) (.node (o20_1 P) (.node (o36_1 P) .nil .nil) (.node (o52_2 P) .nil .nil)) (.node (o28_1 P) (.node (o44_1 P) .nil .nil) (.node (o60_3 P) .nil .nil)))) (.node (boot_o_6 P) (.node (boot_o_10 P) (.node (o18_1 P) (.node (o34_1 P) (.node (o66_3 P) .nil .nil) .nil) (.node (o50_2 P) .nil .nil)) (.node (o26_1 P) (.node (o42_1 P) .nil .nil) (.node (o58_2 P) .nil .nil))) (.node (o14_0 P) (.node (o22_1 P) (.node (o38_1 P) .nil .nil) (.node (o54_2 P) .nil .nil)) (.node (o30_1 P) (.node (o46_1 P) .nil .nil) (.node (o62_3 P) .nil .nil))))))
noncomputable def o67_4d (P : Params) : Obj := ⟨.type "dict", none, .dict (b3Ent 0 650).toArray 650, #[]⟩
noncomputable def o68_4d (P : Params) : Obj := ⟨.type "dict", none, .dict (b3Ent 17 17).toArray 17, #[]⟩
noncomputable def o69_4d (P : Params) : Obj := ⟨.type "dict", none, .dict (b3Ent 34 17).toArray 17, #[]⟩
noncomputable def o70_4d (P : Params) : Obj := ⟨.type "dict", none, .dict (b3Ent 51 17).toArray 17, #[]⟩
noncomputable def o71_4d (P : Params) : Obj := ⟨.type "dict", none, .dict (b3Ent 68 17).toArray 17, #[]⟩
noncomputable def o72_4d (P : Params) : Obj := ⟨.type "dict", none, .dict (b3Ent 85 17).toArray 17, #[]⟩
noncomputable def o73_4d (P : Params) : Obj := ⟨.type "dict", none, .dict (b3Ent 102 17).toArray 17, #[]⟩
noncomputable def o74_4d (P : Params) : Obj := ⟨.type "dict", none, .dict (b3Ent 119 17).toArray 17, #[]⟩
noncomputable def o75_4d (P : Params) : Obj := ⟨.type "dict", none, .dict (b3Ent 136 17).toArray 17, #[]⟩
noncomputable def o76_4d (P : Params) : Obj := ⟨.type "dict", none, .dict (b3Ent 153 17).toArray 17, #[]⟩
noncomputable def o77_4d (P : Params) : Obj := ⟨.type "dict", none, .dict (b3Ent 170 17).toArray 17, #[]⟩
noncomputable def o78_4d (P : Params) : Obj := ⟨.type "dict", none, .dict (b3Ent 187 17).toArray 17, #[]⟩
noncomputable def o79_4d (P : Params) : Obj := ⟨.type "dict", none, .dict (b3Ent 204 17).toArray 17, #[]⟩
noncomputable def o80_4d (P : Params) : Obj := ⟨.type "dict", none, .dict (b3Ent 221 17).toArray 17, #[]⟩
noncomputable def o81_4d (P : Params) : Obj := ⟨.type "dict", none, .dict (b3Ent 238 17).toArray 17, #[]⟩
noncomputable def o82_4d (P : Params) : Obj := ⟨.type "dict", none, .dict (b3Ent 255 17).toArray 17, #[]⟩
noncomputable def o83_4d (P : Params) : Obj := ⟨.type "dict", none, .dict (b3Ent 272 17).toArray 17, #[]⟩
noncomputable def o84_4d (P : Params) : Obj := ⟨.type "dict", none, .dict (b3Ent 289 17).toArray 17, #[]⟩
noncomputable def o85_4d (P : Params) : Obj := ⟨.type "dict", none, .dict (b3Ent 306 17).toArray 17, #[]⟩
noncomputable def o86_4d (P : Params) : Obj := ⟨.type "dict", none, .dict (b3Ent 323 17).toArray 17, #[]⟩
noncomputable def o87_4d (P : Params) : Obj := ⟨.type "dict", none, .dict (b3Ent 340 17).toArray 17, #[]⟩
noncomputable def o88_4d (P : Params) : Obj := ⟨.type "dict", none, .dict (b3Ent 357 17).toArray 17, #[]⟩
noncomputable def o89_4d (P : Params) : Obj := ⟨.type "dict", none, .dict (b3Ent 374 17).toArray 17, #[]⟩
noncomputable def o90_4d (P : Params) : Obj := ⟨.type "dict", none, .dict (b3Ent 391 17).toArray 17, #[]⟩
noncomputable def o91_4d (P : Params) : Obj := ⟨.type "dict", none, .dict (b3Ent 408 17).toArray 17, #[]⟩
noncomputable def o92_4d (P : Params) : Obj := ⟨.type "dict", none, .dict (b3Ent 425 17).toArray 17, #[]⟩
noncomputable def o93_4d (P : Params) : Obj := ⟨.type "dict", none, .dict (b3Ent 442 17).toArray 17, #[]⟩
noncomputable def o94_4d (P : Params) : Obj := ⟨.type "dict", none, .dict (b3Ent 459 17).toArray 17, #[]⟩
noncomputable def o95_4d (P : Params) : Obj := ⟨.type "dict", none, .dict (b3Ent 476 17).toArray 17, #[]⟩
noncomputable def o96_4d (P : Params) : Obj := ⟨.type "dict", none, .dict (b3Ent 493 17).toArray 17, #[]⟩
noncomputable def o97_4d (P : Params) : Obj := ⟨.type "dict", none, .dict (b3Ent 510 17).toArray 17, #[]⟩
noncomputable def o98_4d (P : Params) : Obj := ⟨.type "dict", none, .dict (b3Ent 527 17).toArray 17, #[]⟩
noncomputable def o99_4d (P : Params) : Obj := ⟨.type "dict", none, .dict (b3Ent 544 17).toArray 17, #[]⟩
noncomputable def o100_4d (P : Params) : Obj := ⟨.type "dict", none, .dict (b3Ent 561 17).toArray 17, #[]⟩
noncomputable def o101_4d (P : Params) : Obj := ⟨.type "dict", none, .dict (b3Ent 578 17).toArray 17, #[]⟩
noncomputable def o102_4d (P : Params) : Obj := ⟨.type "dict", none, .dict (b3Ent 595 17).toArray 17, #[]⟩
noncomputable def o103_4d (P : Params) : Obj := ⟨.type "dict", none, .dict (b3Ent 612 17).toArray 17, #[]⟩
noncomputable def o104_4d (P : Params) : Obj := ⟨.type "dict", none, .dict (b3Ent 629 17).toArray 17, #[]⟩
noncomputable def o105_4d (P : Params) : Obj := ⟨.type "dict", none, .dict (b3Ent 646 4).toArray 4, #[]⟩
noncomputable def t4d (P : Params) : BT := (.node (boot_o_0 P) (.node (boot_o_1 P) (.node (o3_3 P) (.node (boot_o_7 P) (.node (o15_1 P) (.node (o31_1 P) (.node (o63_3 P) .nil .nil) (.node (o95_4d P) .nil .nil)) (.node (o47_1 P) (.node (o79_4d P) .nil .nil) .nil)) (.node (o23_1 P) (.node (o39_1 P) (.node (o71_4d P) .nil .nil) (.node (o103_4d P) .nil .nil)) (.node (o55_2 P) (.node (o87_4d P) .nil .nil) .nil))) (.node (o11_0 P) (.node (o19_1 P) (.node (o35_1 P) (.node (o67_4d P) .nil .nil) (.node (o99_4d P) .nil .nil)) (.node (o51_2 P) (.node (o83_4d P) .nil .nil) .nil)) (.node (o27_1 P) (.node (o43_1 P) (.node (o75_4d P) .nil .nil) .nil) (.node (o59_2 P) (.node (o91_4d P) .nil .nil) .nil)))) (.node (boot_o_5 P) (.node (boot_o_9 P) (.node (o17_1 P) (.node (o33_1 P) (.node (o65_3 P) .nil .nil) (.node (o97_4d P) .nil .nil)) (.node (o49_2 P) (.node (o81_4d P) .nil .nil) .nil)) (.node (o25_1 P) (.node (o41_1 P) (.node (o73_4d P) .nil .nil) (.node (o105_4d P) .nil .nil)) (.node (o57_2 P) (.node (o89_4d P) .nil .nil) .nil))) (.node (o13_0 P) (.node (o21_1 P) (.node (o37_1 P) (.node (o69_4d P) .nil .nil) (.node (o101_4d P) .nil .nil)) (.node (o53_2 P) (.node (o85_4d P) .nil .nil) .nil)) (.node (o29_1 P) (.node (o45_1 P) (.node (o77_4d P) .nil .nil) .nil) (.node (o61_3 P) (.node (o93_4d P) .nil .nil) .nil))))) (.node (boot_o_2 P) (.node (boot_o_4 P) (.node (boot_o_8 P) (.node (o16_1 P) (.node (o32_1 P) (.node (o64_3 P) .nil .nil) (.node (o96_4d P) .nil .nil)) (.node (o48_1 P) (.node (o80_4d P) .nil .nil) .nil)) (.node (o24_1 P) (.node (o40_1 P) (.node (o72_4d P) .nil .nil) (.node (o104_4d P) .nil .nil)) (.node (o56_2 P) (.node (o88_4d P) .nil .nil) .nil))) (.node (o12_3 P) (.node (o20_1 P) (.node (o36_1 P) (.node (o68_4d P) .nil .nil) (.node (o100_4d P) .nil .nil)) (.node (o52_2 P) (.node (o84_4d P) .nil .nil) .nil)) (.node (o28_1 P) (.node (o44_1 P) (.node (o76_4d P) .nil .nil) .nil) (.node (o60_3 P) (.node (o92_4d P) .nil .nil) .nil)))) (.node (boot_o_6 P) (.node (boot_o_10 P) (.node (o18_1 P) (.node (o34_1 P) (.node (o66_3 P) .nil .nil) (.node (o98_4d P) .nil .nil)) (.node (o50_2 P) (.node (o82_4d P) .nil .nil) .nil)) (.node (o26_1 P) (.node (o42_1 P) (.node (o74_4d P) .nil .nil) .nil) (.node (o58_2 P) (.node (o90_4d P) .nil .nil) .nil))) (.node (o14_0 P) (.node (o22_1 P) (.node (o38_1 P) (.node (o70_4d P) .nil .nil) (.node (o102_4d P) .nil .nil)) (.node (o54_2 P) (.node (o86_4d P) .nil .nil) .nil)) (.node (o30_1 P) (.node (o46_1 P) (.node (o78_4d P) .nil .nil) .nil) (.node (o62_3 P) (.node (o94_4d P) .nil .nil) .nil))))))
noncomputable def o3_4 (P : Params) : Obj := ⟨(.type "dict"), none, (.dict #[⟨PyData.keyHash P (Str.ofString "__name__"), (.str (Str.ofString "__name__") 165), (.str (Str.ofString "cpy313.stringprep") 246)⟩, ⟨PyData.keyHash P (Str.ofString "__doc__"), (.str (Str.ofString "__doc__") 166), .none⟩, ⟨PyData.keyHash P (Str.ofString "__package__"), (.str (Str.ofString "__package__") 167), .none⟩, ⟨PyData.keyHash P (Str.ofString "__loader__"), (.str (Str.ofString "__loader__") 168), (.builtin "__main__.__loader__#opaque")⟩, ⟨PyData.keyHash P (Str.ofString "__spec__"), (.str (Str.ofString "__spec__") 169), .none⟩, ⟨PyData.keyHash P (Str.ofString "__annotations__"), (.str (Str.ofString "__annotations__") 170), (.ref 6)⟩, ⟨PyData.keyHash P (Str.ofString "__builtins__"), (.str (Str.ofString "__builtins__") 171), (.ref 4)⟩, ⟨PyData.keyHash P (Str.ofString "__file__"), (.str (Str.ofString "__file__") 173), (.str (Str.ofString "/claim/cut.py") 172)⟩, ⟨PyData.keyHash P (Str.ofString "__cached__"), (.str (Str.ofString "__cached__") 174), .none⟩, ⟨PyData.keyHash P (Str.ofString "bisect_right"), (.str (Str.ofString "bisect_right") 202), (.ref 23)⟩, ⟨PyData.keyHash P (Str.ofString "insort_left"), (.str (Str.ofString "insort_left") 215), (.ref 32)⟩, ⟨PyData.keyHash P (Str.ofString "bisect_left"), (.str (Str.ofString "bisect_left") 229), (.ref 41)⟩, ⟨PyData.keyHash P (Str.ofString "ELLIPSIS_MARKER"), (.str (Str.ofString "ELLIPSIS_MARKER") 233), (.str (Str.ofString "...") 232)⟩, ⟨PyData.keyHash P (Str.ofString "_ellipsis_match"), (.str (Str.ofString "_ellipsis_match") 245), (.ref 48)⟩, ⟨PyData.keyHash P (Str.ofString "b1_set"), (.str (Str.ofString "b1_set") 307), (.ref 56)⟩, ⟨PyData.keyHash P (Str.ofString "in_table_b1"), (.str (Str.ofString "in_table_b1") 314), (.ref 66)⟩, ⟨PyData.keyHash P (Str.ofString "b3_exceptions"), (.str (Str.ofString "b3_exceptions") 2265), (.ref 67)⟩] 17), #[]⟩
noncomputable def t4 (P : Params) : BT := (.node (boot_o_0 P) (.node (boot_o_1 P) (.node (o3_4 P) (.node (boot_o_7 P) (.node (o15_1 P) (.node (o31_1 P) (.node (o63_3 P) .nil .nil) (.node (o95_4d P) .nil .nil)) (.node (o47_1 P) (.node (o79_4d P) .nil .nil) .nil)) (.node (o23_1 P) (.node (o39_1 P) (.node (o71_4d P) .nil .nil) (.node (o103_4d P) .nil .nil)) (.node (o55_2 P) (.node (o87_4d P) .nil .nil) .nil))) (.node (o11_0 P) (.node (o19_1 P) (.node (o35_1 P) (.node (o67_4d P) .nil .nil) (.node (o99_4d P) .nil .nil)) (.node (o51_2 P) (.node (o83_4d P) .nil .nil) .nil)) (.node (o27_1 P) (.node (o43_1 P) (.node (o75_4d P) .nil .nil) .nil) (.node (o59_2 P) (.node (o91_4d P) .nil .nil) .nil)))) (.node (boot_o_5 P) (.node (boot_o_9 P) (.node (o17_1 P) (.node (o33_1 P) (.node (o65_3 P) .nil .nil) (.node (o97_4d P) .nil .nil)) (.node (o49_2 P) (.node (o81_4d P) .nil .nil) .nil)) (.node (o25_1 P) (.node (o41_1 P) (.node (o73_4d P) .nil .nil) (.node (o105_4d P) .nil .nil)) (.node (o57_2 P) (.node (o89_4d P) .nil .nil) .nil))) (.node (o13_0 P) (.node (o21_1 P) (.node (o37_1 P) (.node (o69_4d P) .nil .nil) (.node (o101_4d P) .nil .nil)) (.node (o53_2 P) (.node (o85_4d P) .nil .nil) .nil)) (.node (o29_1 P) (.node (o45_1 P) (.node (o77_4d P) .nil .nil) .nil) (.node (o61_3 P) (.node (o93_4d P) .nil .nil) .nil))))) (.node (boot_o_2 P) (.node (boot_o_4 P) (.node (boot_o_8 P) (.node (o16_1 P) (.node (o32_1 P) (.node (o64_3 P) .nil .nil) (.node (o96_4d P) .nil .nil)) (.node (o48_1 P) (.node (o80_4d P) .nil .nil) .nil)) (.node (o24_1 P) (.node (o40_1 P) (.node (o72_4d P) .nil .nil) (.node (o104_4d P) .nil .nil)) (.node (o56_2 P) (.node (o88_4d P) .nil .nil) .nil))) (.node (o12_3 P) (.node (o20_1 P) (.node (o36_1 P) (.node (o68_4d P) .nil .nil) (.node (o100_4d P) .nil .nil)) (.node (o52_2 P) (.node (o84_4d P) .nil .nil) .nil)) (.node (o28_1 P) (.node (o44_1 P) (.node (o76_4d P) .nil .nil) .nil) (.node (o60_3 P) (.node (o92_4d P) .nil .nil) .nil)))) (.node (boot_o_6 P) (.node (boot_o_10 P) (.node (o18_1 P) (.node (o34_1 P) (.node (o66_3 P) .nil .nil) (.node (o98_4d P) .nil .nil)) (.node (o50_2 P) (.node (o82_4d P) .nil .nil) .nil)) (.node (o26_1 P) (.node (o42_1 P) (.node (o74_4d P) .nil .nil) .nil) (.node (o58_2 P) (.node (o90_4d P) .nil .nil) .nil))) (.node (o14_0 P) (.node (o22_1 P) (.node (o38_1 P) (.node (o70_4d P) .nil .nil) (.node (o102_4d P) .nil .nil)) (.node (o54_2 P) (.node (o86_4d P) .nil .nil) .nil)) (.node (o30_1 P) (.node (o46_1 P) (.node (o78_4d P) .nil .nil) .nil) (.node (o62_3 P) (.node (o94_4d P) .nil .nil) .nil))))))
noncomputable def o3_5 (P : Params) : Obj := ⟨(.type "dict"), none, (.dict #[⟨PyData.keyHash P (Str.ofString "__name__"), (.str (Str.ofString "__name__") 165), (.str (Str.ofString "law_re0157_01") 2274)⟩, ⟨PyData.keyHash P (Str.ofString "__doc__"), (.str (Str.ofString "__doc__") 166), .none⟩, ⟨PyData.keyHash P (Str.ofString "__package__"), (.str (Str.ofString "__package__") 167), .none⟩, ⟨PyData.keyHash P (Str.ofString "__loader__"), (.str (Str.ofString "__loader__") 168), (.builtin "__main__.__loader__#opaque")⟩, ⟨PyData.keyHash P (Str.ofString "__spec__"), (.str (Str.ofString "__spec__") 169), .none⟩, ⟨PyData.keyHash P (Str.ofString "__annotations__"), (.str (Str.ofString "__annotations__") 170), (.ref 6)⟩, ⟨PyData.keyHash P (Str.ofString "__builtins__"), (.str (Str.ofString "__builtins__") 171), (.ref 4)⟩, ⟨PyData.keyHash P (Str.ofString "__file__"), (.str (Str.ofString "__file__") 173), (.str (Str.ofString "/claim/cut.py") 172)⟩, ⟨PyData.keyHash P (Str.ofString "__cached__"), (.str (Str.ofString "__cached__") 174), .none⟩, ⟨PyData.keyHash P (Str.ofString "bisect_right"), (.str (Str.ofString "bisect_right") 202), (.ref 23)⟩, ⟨PyData.keyHash P (Str.ofString "insort_left"), (.str (Str.ofString "insort_left") 215), (.ref 32)⟩, ⟨PyData.keyHash P (Str.ofString "bisect_left"), (.str (Str.ofString "bisect_left") 229), (.ref 41)⟩, ⟨PyData.keyHash P (Str.ofString "ELLIPSIS_MARKER"), (.str (Str.ofString "ELLIPSIS_MARKER") 233), (.str (Str.ofString "...") 232)⟩, ⟨PyData.keyHash P (Str.ofString "_ellipsis_match"), (.str (Str.ofString "_ellipsis_match") 245), (.ref 48)⟩, ⟨PyData.keyHash P (Str.ofString "b1_set"), (.str (Str.ofString "b1_set") 307), (.ref 56)⟩, ⟨PyData.keyHash P (Str.ofString "in_table_b1"), (.str (Str.ofString "in_table_b1") 314), (.ref 66)⟩, ⟨PyData.keyHash P (Str.ofString "b3_exceptions"), (.str (Str.ofString "b3_exceptions") 2265), (.ref 67)⟩, ⟨PyData.keyHash P (Str.ofString "map_table_b3"), (.str (Str.ofString "map_table_b3") 2273), (.ref 112)⟩, ⟨PyData.keyHash P (Str.ofString "_law_sign"), (.str (Str.ofString "_law_sign") 2283), (.ref 119)⟩, ⟨PyData.keyHash P (Str.ofString "_law_nothing"), (.str (Str.ofString "_law_nothing") 2290), (.ref 126)⟩, ⟨PyData.keyHash P (Str.ofString "_law_spelled"), (.str (Str.ofString "_law_spelled") 2299), (.ref 133)⟩, ⟨PyData.keyHash P (Str.ofString "_law_mirror"), (.str (Str.ofString "_law_mirror") 2307), (.ref 140)⟩, ⟨PyData.keyHash P (Str.ofString "_law_longest"), (.str (Str.ofString "_law_longest") 2315), (.ref 147)⟩, ⟨PyData.keyHash P (Str.ofString "_law_return"), (.str (Str.ofString "_law_return") 2329), (.ref 154)⟩, ⟨PyData.keyHash P (Str.ofString "law"), (.str (Str.ofString "law") 2335), (.ref 159)⟩] 25), #[]⟩
noncomputable def o12_5 (P : Params) : Obj := ⟨.none, none, (.fields #[(.int 2 0), (.int 0 0), (.ref 22), (.int 22 0), (.int 0 0), (.ref 31), (.int 28 0), (.int 0 0), (.ref 40), (.int 50 0), (.int 0 0), (.ref 47), (.int 80 0), (.int 0 0), (.ref 65), (.int 83 0), (.int 0 0), (.ref 111), (.int 89 0), (.int 0 0), (.ref 118), (.int 95 0), (.int 0 0), (.ref 125), (.int 97 0), (.int 0 0), (.ref 132), (.int 103 0), (.int 0 0), (.ref 139), (.int 108 0), (.int 0 0), (.ref 146), (.int 113 0), (.int 0 0), (.ref 153), (.int 117 0), (.int 0 0), (.ref 158)]), #[]⟩
noncomputable def o106_5 (P : Params) : Obj := ⟨(.type "tuple"), none, (.seq #[] 0), #[]⟩
noncomputable def o107_5 (P : Params) : Obj := ⟨.none, none, (.fields #[]), #[]⟩
noncomputable def o108_5 (P : Params) : Obj := ⟨(.type "tuple"), none, (.seq #[(.str (Str.ofString "code") 2269), (.str (Str.ofString "r") 2270)] 0), #[]⟩
noncomputable def o109_5 (P : Params) : Obj := ⟨(.type "tuple"), none, (.seq #[] 0), #[]⟩
noncomputable def o110_5 (P : Params) : Obj := ⟨.none, none, (.func { name := (Str.ofString "map_table_b3"), qualname := (Str.ofString "map_table_b3"), params := fPar (stA 11), body := fBod (stA 11), scope := fSco (stA 11), globals := 0, closure := [], defaults := .none, kwdefaults := .none, doc := .none, pyModule := .none, annotations := none, code := .none, closureTuple := .none, builtins := 0 }), #[]⟩
noncomputable def o111_5 (P : Params) : Obj := ⟨(.type "code"), none, (.fields #[(.str (Str.ofString "map_table_b3") 2266), (.str (Str.ofString "map_table_b3") 2267), (.str (Str.ofString "/claim/cut.py") 2268), (.int 83 0), (.int 1 0), (.int 0 0), (.int 0 0), (.int 3 0), (.ref 106), (.bool true), (.int 181 0), (.ref 107), .none, (.ref 108), (.ref 109), (.ref 110), (.int 2271 0), (.int 83 0), (.str (Str.ofString "/claim/cut.py") 2272)]), #[]⟩
noncomputable def o112_5 (P : Params) : Obj := ⟨(.type "function"), none, (.func { name := (Str.ofString "map_table_b3"), qualname := (Str.ofString "map_table_b3"), params := fPar (stA 11), body := fBod (stA 11), scope := fSco (stA 11), globals := 3, closure := [], defaults := .none, kwdefaults := .none, doc := .none, pyModule := (.str (Str.ofString "cpy313.stringprep") 246), annotations := none, code := (.ref 111), closureTuple := .none, builtins := 0 }), #[]⟩
noncomputable def o113_5 (P : Params) : Obj := ⟨(.type "tuple"), none, (.seq #[] 0), #[]⟩
noncomputable def o114_5 (P : Params) : Obj := ⟨.none, none, (.fields #[]), #[]⟩
noncomputable def o115_5 (P : Params) : Obj := ⟨(.type "tuple"), none, (.seq #[(.str (Str.ofString "letter") 2279), (.str (Str.ofString "form") 2280)] 0), #[]⟩
noncomputable def o116_5 (P : Params) : Obj := ⟨(.type "tuple"), none, (.seq #[] 0), #[]⟩
noncomputable def o117_5 (P : Params) : Obj := ⟨.none, none, (.func { name := (Str.ofString "_law_sign"), qualname := (Str.ofString "_law_sign"), params := fPar (stA 13), body := fBod (stA 13), scope := fSco (stA 13), globals := 0, closure := [], defaults := .none, kwdefaults := .none, doc := .none, pyModule := .none, annotations := none, code := .none, closureTuple := .none, builtins := 0 }), #[]⟩
noncomputable def o118_5 (P : Params) : Obj := ⟨(.type "code"), none, (.fields #[(.str (Str.ofString "_law_sign") 2276), (.str (Str.ofString "_law_sign") 2277), (.str (Str.ofString "/claim/cut.py") 2278), (.int 89 0), (.int 2 0), (.int 0 0), (.int 0 0), (.int 3 0), (.ref 113), (.bool true), (.int 181 0), (.ref 114), .none, (.ref 115), (.ref 116), (.ref 117), (.int 2281 0), (.int 89 0), (.str (Str.ofString "/claim/cut.py") 2282)]), #[]⟩
noncomputable def o119_5 (P : Params) : Obj := ⟨(.type "function"), none, (.func { name := (Str.ofString "_law_sign"), qualname := (Str.ofString "_law_sign"), params := fPar (stA 13), body := fBod (stA 13), scope := fSco (stA 13), globals := 3, closure := [], defaults := .none, kwdefaults := .none, doc := .none, pyModule := (.str (Str.ofString "law_re0157_01") 2274), annotations := none, code := (.ref 118), closureTuple := .none, builtins := 0 }), #[]⟩
noncomputable def o120_5 (P : Params) : Obj := ⟨(.type "tuple"), none, (.seq #[] 0), #[]⟩
noncomputable def o121_5 (P : Params) : Obj := ⟨.none, none, (.fields #[]), #[]⟩
noncomputable def o122_5 (P : Params) : Obj := ⟨(.type "tuple"), none, (.seq #[(.str (Str.ofString "k") 2287)] 0), #[]⟩
noncomputable def o123_5 (P : Params) : Obj := ⟨(.type "tuple"), none, (.seq #[] 0), #[]⟩
noncomputable def o124_5 (P : Params) : Obj := ⟨.none, none, (.func { name := (Str.ofString "_law_nothing"), qualname := (Str.ofString "_law_nothing"), params := fPar (stA 14), body := fBod (stA 14), scope := fSco (stA 14), globals := 0, closure := [], defaults := .none, kwdefaults := .none, doc := .none, pyModule := .none, annotations := none, code := .none, closureTuple := .none, builtins := 0 }), #[]⟩
noncomputable def o125_5 (P : Params) : Obj := ⟨(.type "code"), none, (.fields #[(.str (Str.ofString "_law_nothing") 2284), (.str (Str.ofString "_law_nothing") 2285), (.str (Str.ofString "/claim/cut.py") 2286), (.int 95 0), (.int 1 0), (.int 0 0), (.int 0 0), (.int 3 0), (.ref 120), (.bool true), (.int 181 0), (.ref 121), .none, (.ref 122), (.ref 123), (.ref 124), (.int 2288 0), (.int 95 0), (.str (Str.ofString "/claim/cut.py") 2289)]), #[]⟩
noncomputable def o126_5 (P : Params) : Obj := ⟨(.type "function"), none, (.func { name := (Str.ofString "_law_nothing"), qualname := (Str.ofString "_law_nothing"), params := fPar (stA 14), body := fBod (stA 14), scope := fSco (stA 14), globals := 3, closure := [], defaults := .none, kwdefaults := .none, doc := .none, pyModule := (.str (Str.ofString "law_re0157_01") 2274), annotations := none, code := (.ref 125), closureTuple := .none, builtins := 0 }), #[]⟩
noncomputable def o127_5 (P : Params) : Obj := ⟨(.type "tuple"), none, (.seq #[] 0), #[]⟩
noncomputable def o128_5 (P : Params) : Obj := ⟨.none, none, (.fields #[]), #[]⟩
noncomputable def o129_5 (P : Params) : Obj := ⟨(.type "tuple"), none, (.seq #[(.str (Str.ofString "x") 2294), (.str (Str.ofString "kind") 2295), (.str (Str.ofString "sign") 2296)] 0), #[]⟩
noncomputable def o130_5 (P : Params) : Obj := ⟨(.type "tuple"), none, (.seq #[] 0), #[]⟩
noncomputable def o131_5 (P : Params) : Obj := ⟨.none, none, (.func { name := (Str.ofString "_law_spelled"), qualname := (Str.ofString "_law_spelled"), params := fPar (stA 15), body := fBod (stA 15), scope := fSco (stA 15), globals := 0, closure := [], defaults := .none, kwdefaults := .none, doc := .none, pyModule := .none, annotations := none, code := .none, closureTuple := .none, builtins := 0 }), #[]⟩
noncomputable def o132_5 (P : Params) : Obj := ⟨(.type "code"), none, (.fields #[(.str (Str.ofString "_law_spelled") 2291), (.str (Str.ofString "_law_spelled") 2292), (.str (Str.ofString "/claim/cut.py") 2293), (.int 97 0), (.int 1 0), (.int 0 0), (.int 0 0), (.int 3 0), (.ref 127), (.bool true), (.int 181 0), (.ref 128), .none, (.ref 129), (.ref 130), (.ref 131), (.int 2297 0), (.int 97 0), (.str (Str.ofString "/claim/cut.py") 2298)]), #[]⟩
noncomputable def o133_5 (P : Params) : Obj := ⟨(.type "function"), none, (.func { name := (Str.ofString "_law_spelled"), qualname := (Str.ofString "_law_spelled"), params := fPar (stA 15), body := fBod (stA 15), scope := fSco (stA 15), globals := 3, closure := [], defaults := .none, kwdefaults := .none, doc := .none, pyModule := (.str (Str.ofString "law_re0157_01") 2274), annotations := none, code := (.ref 132), closureTuple := .none, builtins := 0 }), #[]⟩
noncomputable def o134_5 (P : Params) : Obj := ⟨(.type "tuple"), none, (.seq #[] 0), #[]⟩
noncomputable def o135_5 (P : Params) : Obj := ⟨.none, none, (.fields #[]), #[]⟩
noncomputable def o136_5 (P : Params) : Obj := ⟨(.type "tuple"), none, (.seq #[(.str (Str.ofString "word") 2303), (.str (Str.ofString "k") 2304)] 0), #[]⟩
noncomputable def o137_5 (P : Params) : Obj := ⟨(.type "tuple"), none, (.seq #[] 0), #[]⟩
noncomputable def o138_5 (P : Params) : Obj := ⟨.none, none, (.func { name := (Str.ofString "_law_mirror"), qualname := (Str.ofString "_law_mirror"), params := fPar (stA 16), body := fBod (stA 16), scope := fSco (stA 16), globals := 0, closure := [], defaults := .none, kwdefaults := .none, doc := .none, pyModule := .none, annotations := none, code := .none, closureTuple := .none, builtins := 0 }), #[]⟩
noncomputable def o139_5 (P : Params) : Obj := ⟨(.type "code"), none, (.fields #[(.str (Str.ofString "_law_mirror") 2300), (.str (Str.ofString "_law_mirror") 2301), (.str (Str.ofString "/claim/cut.py") 2302), (.int 103 0), (.int 1 0), (.int 0 0), (.int 0 0), (.int 3 0), (.ref 134), (.bool true), (.int 181 0), (.ref 135), .none, (.ref 136), (.ref 137), (.ref 138), (.int 2305 0), (.int 103 0), (.str (Str.ofString "/claim/cut.py") 2306)]), #[]⟩
noncomputable def o140_5 (P : Params) : Obj := ⟨(.type "function"), none, (.func { name := (Str.ofString "_law_mirror"), qualname := (Str.ofString "_law_mirror"), params := fPar (stA 16), body := fBod (stA 16), scope := fSco (stA 16), globals := 3, closure := [], defaults := .none, kwdefaults := .none, doc := .none, pyModule := (.str (Str.ofString "law_re0157_01") 2274), annotations := none, code := (.ref 139), closureTuple := .none, builtins := 0 }), #[]⟩
noncomputable def o141_5 (P : Params) : Obj := ⟨(.type "tuple"), none, (.seq #[] 0), #[]⟩
noncomputable def o142_5 (P : Params) : Obj := ⟨.none, none, (.fields #[]), #[]⟩
noncomputable def o143_5 (P : Params) : Obj := ⟨(.type "tuple"), none, (.seq #[(.str (Str.ofString "front") 2311), (.str (Str.ofString "j") 2312)] 0), #[]⟩
noncomputable def o144_5 (P : Params) : Obj := ⟨(.type "tuple"), none, (.seq #[] 0), #[]⟩
noncomputable def o145_5 (P : Params) : Obj := ⟨.none, none, (.func { name := (Str.ofString "_law_longest"), qualname := (Str.ofString "_law_longest"), params := fPar (stA 17), body := fBod (stA 17), scope := fSco (stA 17), globals := 0, closure := [], defaults := .none, kwdefaults := .none, doc := .none, pyModule := .none, annotations := none, code := .none, closureTuple := .none, builtins := 0 }), #[]⟩
noncomputable def o146_5 (P : Params) : Obj := ⟨(.type "code"), none, (.fields #[(.str (Str.ofString "_law_longest") 2308), (.str (Str.ofString "_law_longest") 2309), (.str (Str.ofString "/claim/cut.py") 2310), (.int 108 0), (.int 1 0), (.int 0 0), (.int 0 0), (.int 3 0), (.ref 141), (.bool true), (.int 181 0), (.ref 142), .none, (.ref 143), (.ref 144), (.ref 145), (.int 2313 0), (.int 108 0), (.str (Str.ofString "/claim/cut.py") 2314)]), #[]⟩
noncomputable def o147_5 (P : Params) : Obj := ⟨(.type "function"), none, (.func { name := (Str.ofString "_law_longest"), qualname := (Str.ofString "_law_longest"), params := fPar (stA 17), body := fBod (stA 17), scope := fSco (stA 17), globals := 3, closure := [], defaults := .none, kwdefaults := .none, doc := .none, pyModule := (.str (Str.ofString "law_re0157_01") 2274), annotations := none, code := (.ref 146), closureTuple := .none, builtins := 0 }), #[]⟩
noncomputable def o148_5 (P : Params) : Obj := ⟨(.type "tuple"), none, (.seq #[] 0), #[]⟩
noncomputable def o149_5 (P : Params) : Obj := ⟨.none, none, (.fields #[]), #[]⟩
noncomputable def o150_5 (P : Params) : Obj := ⟨(.type "tuple"), none, (.seq #[(.str (Str.ofString "text") 2319), (.str (Str.ofString "a") 2320), (.str (Str.ofString "word") 2321), (.str (Str.ofString "ends") 2322), (.str (Str.ofString "k") 2323)] 0), #[]⟩
noncomputable def o151_5 (P : Params) : Obj := ⟨(.type "tuple"), none, (.seq #[(.str (Str.ofString "text") 2324), (.str (Str.ofString "a") 2325), (.str (Str.ofString "word") 2326)] 0), #[]⟩
noncomputable def o152_5 (P : Params) : Obj := ⟨.none, none, (.func { name := (Str.ofString "_law_return"), qualname := (Str.ofString "_law_return"), params := fPar (stA 18), body := fBod (stA 18), scope := fSco (stA 18), globals := 0, closure := [], defaults := .none, kwdefaults := .none, doc := .none, pyModule := .none, annotations := none, code := .none, closureTuple := .none, builtins := 0 }), #[]⟩
noncomputable def o153_5 (P : Params) : Obj := ⟨(.type "code"), none, (.fields #[(.str (Str.ofString "_law_return") 2316), (.str (Str.ofString "_law_return") 2317), (.str (Str.ofString "/claim/cut.py") 2318), (.int 113 0), (.int 3 0), (.int 0 0), (.int 0 0), (.int 3 0), (.ref 148), (.bool true), (.int 181 0), (.ref 149), .none, (.ref 150), (.ref 151), (.ref 152), (.int 2327 0), (.int 113 0), (.str (Str.ofString "/claim/cut.py") 2328)]), #[]⟩
noncomputable def o154_5 (P : Params) : Obj := ⟨(.type "function"), none, (.func { name := (Str.ofString "_law_return"), qualname := (Str.ofString "_law_return"), params := fPar (stA 18), body := fBod (stA 18), scope := fSco (stA 18), globals := 3, closure := [], defaults := .none, kwdefaults := .none, doc := .none, pyModule := (.str (Str.ofString "law_re0157_01") 2274), annotations := none, code := (.ref 153), closureTuple := .none, builtins := 0 }), #[]⟩
noncomputable def o155_5 (P : Params) : Obj := ⟨(.type "tuple"), none, (.seq #[] 0), #[]⟩
noncomputable def o156_5 (P : Params) : Obj := ⟨.none, none, (.fields #[]), #[]⟩
noncomputable def o157_5 (P : Params) : Obj := ⟨.none, none, (.func { name := (Str.ofString "law"), qualname := (Str.ofString "law"), params := fPar (stA 19), body := fBod (stA 19), scope := fSco (stA 19), globals := 0, closure := [], defaults := .none, kwdefaults := .none, doc := .none, pyModule := .none, annotations := none, code := .none, closureTuple := .none, builtins := 0 }), #[]⟩
noncomputable def o158_5 (P : Params) : Obj := ⟨(.type "code"), none, (.fields #[(.str (Str.ofString "law") 2330), (.str (Str.ofString "law") 2331), (.str (Str.ofString "/claim/cut.py") 2332), (.int 117 0), (.int 1 0), (.int 0 0), (.int 0 0), (.int 3 0), (.ref 155), (.bool true), (.int 181 0), (.ref 156), .none, .none, .none, (.ref 157), (.int 2333 0), (.int 117 0), (.str (Str.ofString "/claim/cut.py") 2334)]), #[]⟩
noncomputable def o159_5 (P : Params) : Obj := ⟨(.type "function"), none, (.func { name := (Str.ofString "law"), qualname := (Str.ofString "law"), params := fPar (stA 19), body := fBod (stA 19), scope := fSco (stA 19), globals := 3, closure := [], defaults := .none, kwdefaults := .none, doc := .none, pyModule := (.str (Str.ofString "law_re0157_01") 2274), annotations := none, code := (.ref 158), closureTuple := .none, builtins := 0 }), #[]⟩
noncomputable def t5 (P : Params) : BT := (.node (boot_o_0 P) (.node (boot_o_1 P) (.node (o3_5 P) (.node (boot_o_7 P) (.node (o15_1 P) (.node (o31_1 P) (.node (o63_3 P) (.node (o127_5 P) .nil .nil) .nil) (.node (o95_4d P) (.node (o159_5 P) .nil .nil) .nil)) (.node (o47_1 P) (.node (o79_4d P) (.node (o143_5 P) .nil .nil) .nil) (.node (o111_5 P) .nil .nil))) (.node (o23_1 P) (.node (o39_1 P) (.node (o71_4d P) (.node (o135_5 P) .nil .nil) .nil) (.node (o103_4d P) .nil .nil)) (.node (o55_2 P) (.node (o87_4d P) (.node (o151_5 P) .nil .nil) .nil) (.node (o119_5 P) .nil .nil)))) (.node (o11_0 P) (.node (o19_1 P) (.node (o35_1 P) (.node (o67_4d P) (.node (o131_5 P) .nil .nil) .nil) (.node (o99_4d P) .nil .nil)) (.node (o51_2 P) (.node (o83_4d P) (.node (o147_5 P) .nil .nil) .nil) (.node (o115_5 P) .nil .nil))) (.node (o27_1 P) (.node (o43_1 P) (.node (o75_4d P) (.node (o139_5 P) .nil .nil) .nil) (.node (o107_5 P) .nil .nil)) (.node (o59_2 P) (.node (o91_4d P) (.node (o155_5 P) .nil .nil) .nil) (.node (o123_5 P) .nil .nil))))) (.node (boot_o_5 P) (.node (boot_o_9 P) (.node (o17_1 P) (.node (o33_1 P) (.node (o65_3 P) (.node (o129_5 P) .nil .nil) .nil) (.node (o97_4d P) .nil .nil)) (.node (o49_2 P) (.node (o81_4d P) (.node (o145_5 P) .nil .nil) .nil) (.node (o113_5 P) .nil .nil))) (.node (o25_1 P) (.node (o41_1 P) (.node (o73_4d P) (.node (o137_5 P) .nil .nil) .nil) (.node (o105_4d P) .nil .nil)) (.node (o57_2 P) (.node (o89_4d P) (.node (o153_5 P) .nil .nil) .nil) (.node (o121_5 P) .nil .nil)))) (.node (o13_0 P) (.node (o21_1 P) (.node (o37_1 P) (.node (o69_4d P) (.node (o133_5 P) .nil .nil) .nil) (.node (o101_4d P) .nil .nil)) (.node (o53_2 P) (.node (o85_4d P) (.node (o149_5 P) .nil .nil) .nil) (.node (o117_5 P) .nil .nil))) (.node (o29_1 P) (.node (o45_1 P) (.node (o77_4d P) (.node (o141_5 P) .nil .nil) .nil) (.node (o109_5 P) .nil .nil)) (.node (o61_3 P) (.node (o93_4d P) (.node (o157_5 P) .nil .nil) .nil) (.node (o125_5 P) .nil .nil)))))) (.node (boot_o_2 P) (.node (boot_o_4 P) (.node (boot_o_8 P) (.node (o16_1 P) (.node (o32_1 P) (.node (o64_3 P) (.node (o128_5 P) .nil .nil) .nil) (.node (o96_4d P) .nil .nil)) (.node (o48_1 P) (.node (o80_4d P) (.node (o144_5 P) .nil .nil) .nil) (.node (o112_5 P) .nil .nil))) (.node (o24_1 P) (.node (o40_1 P) (.node (o72_4d P) (.node (o136_5 P) .nil .nil) .nil) (.node (o104_4d P) .nil .nil)) (.node (o56_2 P) (.node (o88_4d P) (.node (o152_5 P) .nil .nil) .nil) (.node (o120_5 P) .nil .nil)))) (.node (o12_5 P) (.node (o20_1 P) (.node (o36_1 P) (.node (o68_4d P) (.node (o132_5 P) .nil .nil) .nil) (.node (o100_4d P) .nil .nil)) (.node (o52_2 P) (.node (o84_4d P) (.node (o148_5 P) .nil .nil) .nil) (.node (o116_5 P) .nil .nil))) (.node (o28_1 P) (.node (o44_1 P) (.node (o76_4d P) (.node (o140_5 P) .nil .nil) .nil) (.node (o108_5 P) .nil .nil)) (.node (o60_3 P) (.node (o92_4d P) (.node (o156_5 P) .nil .nil) .nil) (.node (o124_5 P) .nil .nil))))) (.node (boot_o_6 P) (.node (boot_o_10 P) (.node (o18_1 P) (.node (o34_1 P) (.node (o66_3 P) (.node (o130_5 P) .nil .nil) .nil) (.node (o98_4d P) .nil .nil)) (.node (o50_2 P) (.node (o82_4d P) (.node (o146_5 P) .nil .nil) .nil) (.node (o114_5 P) .nil .nil))) (.node (o26_1 P) (.node (o42_1 P) (.node (o74_4d P) (.node (o138_5 P) .nil .nil) .nil) (.node (o106_5 P) .nil .nil)) (.node (o58_2 P) (.node (o90_4d P) (.node (o154_5 P) .nil .nil) .nil) (.node (o122_5 P) .nil .nil)))) (.node (o14_0 P) (.node (o22_1 P) (.node (o38_1 P) (.node (o70_4d P) (.node (o134_5 P) .nil .nil) .nil) (.node (o102_4d P) .nil .nil)) (.node (o54_2 P) (.node (o86_4d P) (.node (o150_5 P) .nil .nil) .nil) (.node (o118_5 P) .nil .nil))) (.node (o30_1 P) (.node (o46_1 P) (.node (o78_4d P) (.node (o142_5 P) .nil .nil) .nil) (.node (o110_5 P) .nil .nil)) (.node (o62_3 P) (.node (o94_4d P) (.node (o158_5 P) .nil .nil) .nil) (.node (o126_5 P) .nil .nil)))))))

def envT : Env := { scope := PySem.Challenge.pw_re0157_01.main.scope, locals := mainNs, globals := mainNs, cells := [], code := .ref 13, frame := some 14 }
noncomputable def bT : List Stmt := behindTheImports PySem.Challenge.pw_re0157_01
def z4 : Pos := ⟨0, 0, 0, 0⟩
noncomputable def cT : Code := .body bT envT
noncomputable def sT (t : Params → BT) (n k : Nat) (w : World) (os : OsState) : SharedT := ⟨t w.params, n, {}, Array.mk [], {}, k, os⟩
noncomputable def g1 : List Stmt := bT.take 8
noncomputable def g5 : List Stmt := bT.drop 11

theorem h_open : ∀ w : World, (fencedOpening treeTable PySem.Challenge.pw_re0157_01 w 28114).map (fun s => (s.heap, s.gens, s.drawn, s.toks)) = some (boot_heap w.params, Array.mk [], boot_drawn, boot_toks) :=
  boot_open (by kernel_rfl) (by decide) (fun s => by kernel_rfl)
theorem h_size : ∀ w : World, ((boot_heap w.params).isNs mainGlobals && (Array.mk [] : Array GenState).size == 0, (boot_heap w.params).objs.size, (boot_heap w.params).nsMap mainGlobals "__annotations__") = (true, 11, some (Value.ref 6)) := fun w => by kernel_rfl
theorem h_pre : ∀ (w : World) (os : OsState), topGo treeTable PySem.Challenge.pw_re0157_01 w 11 (some (.ref 6)) 12 ⟨boot_heap w.params, Array.mk [], boot_drawn, boot_toks, os⟩ (topStub PySem.Challenge.pw_re0157_01) =
    some ((sT t0 15 187 w os).abs, ⟨denote treeTable cT, cT, z4, [topFrame z4]⟩) := fun w os => by kernel_rfl
theorem h_1 : ∀ (w : World) (os : OsState), segRunT treeTable PySem.Challenge.pw_re0157_01 w 11 (some (.ref 6)) 1 193 (sT t0 15 187 w os) (piecesOf g1 envT cT z4 [topFrame z4]) =
    some (.next, sT t1 49 248 w os, cT, ⟨78, 0, 78, 8⟩) := fun w os => by kernel_rfl
theorem h_3 : ∀ (w : World) (os : OsState), segRunT treeTable PySem.Challenge.pw_re0157_01 w 11 (some (.ref 6)) 1 30 (sT t2 60 308 w os) (piecesOf [stA 9] envT cT ⟨79, 0, 79, 6⟩ [topFrame z4]) =
    some (.next, sT t3 67 315 w os, cT, ⟨80, 0, 81, 30⟩) := fun w os => by kernel_rfl
theorem h_5 : ∀ (w : World) (os : OsState), segRunT treeTable PySem.Challenge.pw_re0157_01 w 11 (some (.ref 6)) 1 252 (sT t4 106 2266 w os) (piecesOf g5 envT cT ⟨82, 0, 82, 13⟩ [topFrame z4]) =
    some (.next, sT t5 160 2336 w os, cT, ⟨117, 0, 140, 52⟩) := fun w os => by kernel_rfl
end Mine

-- part RT
set_option Elab.async false
set_option maxRecDepth 100000
set_option maxHeartbeats 4000000
set_option linter.unusedVariables false
namespace Mine
open PySem PySem.W PySem.Calls PyProof.Rows

section
variable {w : World}

/-- a run of a tree within a segment: it ends with a value, whatever stands around it -/
def RT (w : World) (B : Nat) {α : Type} (t : Sem α) (Q : α → Shared → Pos → Prop) (s : Shared) (q : Pos) : Prop :=
  ∃ a s' q', Q a s' q' ∧ ∃ n, n ≤ B ∧ ∀ (K : α → Sem PySem.Fin) (H : Value → Sem PySem.Fin) (gd : Bool → Bool) (lv : List Value → List Value) (N : Nat) (r : Flow × Shared × Code × Pos),
    segRun treeTable PySem.Challenge.pw_re0157_01 w 11 (some (.ref 6)) 1 N s' ⟨K a, cT, q', [topFrame z4]⟩ = some r → segRun treeTable PySem.Challenge.pw_re0157_01 w 11 (some (.ref 6)) 1 (n + N) s ⟨t.wrap K H gd lv, cT, q, [topFrame z4]⟩ = some r

theorem seg_step {N : Nat} {s s' : Shared} {t t' : Thread} {r : Flow × Shared × Code × Pos} (he : endAt 1 t = none) (hk : stepOk 11 (some (.ref 6)) t = true) (hs : step (denote treeTable) PySem.Challenge.pw_re0157_01 w s t = .go s' t')
    (h : segRun treeTable PySem.Challenge.pw_re0157_01 w 11 (some (.ref 6)) 1 N s' t' = some r) : segRun treeTable PySem.Challenge.pw_re0157_01 w 11 (some (.ref 6)) 1 (N + 1) s t = some r := by
  unfold segRun
  rw [he, hk, hs]
  exact h

variable {α β : Type} {B B₁ B₂ : Nat} {Q : α → Shared → Pos → Prop} {s : Shared} {q : Pos}

theorem RT.pure {a : α} (h : Q a s q) : RT w 0 (.pure a) Q s q :=
  ⟨a, s, q, h, 0, Nat.le_refl 0, fun K H gd lv N r hN => by rw [Nat.zero_add]; exact hN⟩
theorem RT.mono {t : Sem α} {Q' : α → Shared → Pos → Prop} (h : RT w B t Q s q) (m : ∀ a s q, Q a s q → Q' a s q) : RT w B t Q' s q :=
  let ⟨a, s', q', hq, n, hb, hn⟩ := h; ⟨a, s', q', m _ _ _ hq, n, hb, hn⟩
theorem RT.le {t : Sem α} {B' : Nat} (h : RT w B t Q s q) (hl : B ≤ B') : RT w B' t Q s q :=
  let ⟨a, s', q', hq, n, hb, hn⟩ := h; ⟨a, s', q', hq, n, Nat.le_trans hb hl, hn⟩

theorem RT.bind {m : Sem β} {f : β → Sem α} (h : RT w B₁ m (fun b s' q' => RT w B₂ (f b) Q s' q') s q) : RT w (B₁ + B₂) (m >>= f) Q s q := by
  obtain ⟨b, s₁, q₁, ⟨a, s₂, q₂, hq, n₂, b₂, h₂⟩, n₁, b₁, h₁⟩ := h
  refine ⟨a, s₂, q₂, hq, n₁ + n₂, Nat.add_le_add b₁ b₂, fun K H gd lv N r hN => ?_⟩
  rw [Sem.bind_eq_wrap', Sem.wrap_wrap, Nat.add_assoc]
  exact h₁ _ _ _ _ _ r (h₂ K H gd lv N r hN)

theorem RT.wrapped {m : Sem α} {H₀ : Value → Sem α} {gd₀ : Bool → Bool} {lv₀ : List Value → List Value} (h : RT w B m Q s q) : RT w B (m.wrap .pure H₀ gd₀ lv₀) Q s q := by
  obtain ⟨a, s', q', hq, n, hb, hn⟩ := h
  refine ⟨a, s', q', hq, n, hb, fun K H gd lv N r hN => ?_⟩
  rw [Sem.wrap_wrap]
  exact hn _ _ _ _ N r hN
theorem RT.keep {m : Sem α} {vs : List Value} (h : RT w B m Q s q) : RT w B (m.keep vs) Q s q := by rw [Sem.keep_eq_wrap]; exact h.wrapped
theorem RT.onRaise {m : Sem α} {k : Value → Sem Unit} (h : RT w B m Q s q) : RT w B (m.onRaise k) Q s q := by rw [Sem.onRaise_eq_wrap]; exact h.wrapped
theorem RT.tryCatch {m : Sem α} {k : Value → Sem α} (h : RT w B m Q s q) : RT w B (m.tryCatch k) Q s q := by rw [Sem.tryCatch_eq_wrap]; exact h.wrapped
theorem RT.holding {m : Sem α} {vs : List Value} (h : RT w B m Q s q) : RT w B (holding vs m) Q s q := by
  unfold PySem.holding; split
  · exact h
  · exact h.keep

theorem endAt_not {cur : Sem PySem.Fin} {c : Code} {q : Pos} {st : List Frame} (h : ∀ f, cur ≠ .pure (.done f)) : endAt 1 ⟨cur, c, q, st⟩ = none := by
  unfold endAt
  dsimp only
  split
  · exact absurd rfl (h _)
  · rfl

theorem RT.step1 {t : Sem α} {t' : Sem α} {s' : Shared} {q' : Pos}
    (hs : ∀ (K : α → Sem PySem.Fin) (H : Value → Sem PySem.Fin) (gd : Bool → Bool) (lv : List Value → List Value),
      (∀ f, t.wrap K H gd lv ≠ .pure (.done f)) ∧ stepOk 11 (some (.ref 6)) ⟨t.wrap K H gd lv, cT, q, [topFrame z4]⟩ = true ∧ step (denote treeTable) PySem.Challenge.pw_re0157_01 w s ⟨t.wrap K H gd lv, cT, q, [topFrame z4]⟩ = .go s' ⟨t'.wrap K H gd lv, cT, q', [topFrame z4]⟩)
    (h : RT w B t' Q s' q') : RT w (B + 1) t Q s q := by
  obtain ⟨a, s₁, q₁, hq, n, hb, hn⟩ := h
  refine ⟨a, s₁, q₁, hq, n + 1, Nat.succ_le_succ hb, fun K H gd lv N r hN => ?_⟩
  obtain ⟨h1, h2, h3⟩ := hs K H gd lv
  rw [show n + 1 + N = n + N + 1 by omega]
  exact seg_step (endAt_not h1) h2 h3 (hn K H gd lv N r hN)

theorem RT.rule {tag : String} {k : Unit → Sem α} (h : RT w B (k ()) Q s q) : RT w (B + 1) (.rule tag k) Q s q :=
  h.step1 fun K H gd lv => ⟨fun f e => (by cases e), rfl, rfl⟩
theorem RT.at {x : Pos} {k : Unit → Sem α} (h : RT w B (k ()) Q s x) : RT w (B + 1) (.at x k) Q s q :=
  h.step1 fun K H gd lv => ⟨fun f e => (by cases e), rfl, rfl⟩
theorem RT.point {l : List Value} {k : Unit → Sem α} (h : RT w B (k ()) Q s q) : RT w (B + 1) (.point l k) Q s q :=
  h.step1 fun K H gd lv => ⟨fun f e => (by cases e), rfl, rfl⟩
theorem RT.ask {k : Setting → Sem α} (h : RT w B (k ⟨PySem.Challenge.pw_re0157_01, w.params⟩) Q s q) : RT w (B + 1) (.ask k) Q s q :=
  h.step1 fun K H gd lv => ⟨fun f e => (by cases e), rfl, rfl⟩
theorem RT.fresh {k : Tok → Sem α} (h : RT w B (k s.toks) Q { s with toks := s.toks + 1 } q) : RT w (B + 1) (.fresh k) Q s q :=
  h.step1 fun K H gd lv => ⟨fun f e => (by cases e), rfl, rfl⟩
theorem RT.alloc {o : Obj} {k : Addr → Sem α} (h : RT w B (k s.heap.objs.size) Q { s with heap := s.heap.push o } q) : RT w (B + 1) (.alloc o k) Q s q :=
  h.step1 fun K H gd lv => ⟨fun f e => (by cases e), rfl, rfl⟩
theorem RT.load {a : Addr} {part : Option Value} {o : Obj} {k : Obj → Sem α} (ho : s.heap.get? a = some o) (h : RT w B (k o) Q s q) : RT w (B + 1) (.load a part k) Q s q :=
  h.step1 fun K H gd lv => by
    refine ⟨fun f e => (by cases e), rfl, ?_⟩
    obtain ⟨heap, gens, drawn, toks, os⟩ := s
    simp only [Sem.wrap, step, show heap.get? a = some o from ho]
theorem RT.update {a : Addr} {part : Option Value} {f : Obj → Obj} {k : Unit → Sem α} (hn : Nat.ble 11 a = true) (ho : (s.heap.get? a).isSome = true) (h : RT w B (k ()) Q { s with heap := s.heap.update a f } q) : RT w (B + 1) (.update a part f k) Q s q :=
  h.step1 fun K H gd lv => by
    refine ⟨fun f e => (by cases e), ?_, ?_⟩
    · show (_ && (Nat.ble 11 a || _ || _ || _)) = true
      rw [hn]; rfl
    · obtain ⟨heap, gens, drawn, toks, os⟩ := s
      simp only [Sem.wrap, step, show (heap.get? a).isSome = true from ho, if_true]

theorem RT.go {t : Sem α} {n : Nat} {a : α} {s' : Shared} {q' : Pos} (h : ∀ (K : α → Sem PySem.Fin) (H : Value → Sem PySem.Fin) (gd : Bool → Bool) (lv : List Value → List Value),
      segGo treeTable PySem.Challenge.pw_re0157_01 w 11 (some (.ref 6)) 1 n s ⟨t.wrap K H gd lv, cT, q, [topFrame z4]⟩ = some (s', ⟨K a, cT, q', [topFrame z4]⟩))
    (hq : Q a s' q') : RT w n t Q s q := ⟨a, s', q', hq, n, Nat.le_refl n, fun K H gd lv N r hN => seg_go (h K H gd lv) hN⟩
end
end Mine

-- part B3a
set_option Elab.async false
set_option maxRecDepth 100000
set_option maxHeartbeats 4000000
set_option linter.unusedVariables false
namespace Mine
open PySem PySem.W PySem.Calls PyProof.Rows

def hx (x : Int) : Int := let h : Int := x.natAbs % (2 ^ 61 - 1 : Nat); let h := if x < 0 then -h else h; if h == -1 then -2 else h
theorem hx_eq {x : Int} (h0 : 0 ≤ x) (h1 : x < 2 ^ 60) : hx x = x := by
  have e : ((x.natAbs % (2 ^ 61 - 1 : Nat) : Nat) : Int) = x := by
    rw [Nat.mod_eq_of_lt (by omega)]; omega
  unfold hx
  dsimp only
  have e' : (x.natAbs : Int) % ((2 ^ 61 - 1 : Nat) : Int) = x := by rw [← Int.natCast_emod]; exact e
  have n1 : ¬ x < 0 := by omega
  have n2 : ¬ (x == -1) = true := by rw [beq_iff_eq]; omega
  rw [e', if_neg n1, if_neg n2]

section
variable {w : World} {Q : Int → Shared → Pos → Prop} {s : Shared} {q : Pos}
def GoHash (refuse : Sem Value) (i : Int) (t : Tok) (s : Shared) (q : Pos) (w : World) : Prop := ∀ (K : Option Value → Sem PySem.Fin) (H : Value → Sem PySem.Fin) (gd : Bool → Bool) (lv : List Value → List Value),
  segGo treeTable PySem.Challenge.pw_re0157_01 w 11 (some (.ref 6)) 1 5 s ⟨(callSpecialIfBoundUnlessNone? (.int i t) "__hash__" refuse).wrap K H gd lv, cT, q, [topFrame z4]⟩ = some ({ s with toks := s.toks + 1 }, ⟨K (some (.int (hx i) s.toks)), cT, q, [topFrame z4]⟩)
theorem go_hash (refuse : Sem Value) (i : Int) (t : Tok) (s : Shared) (q : Pos) : ∀ w : World, GoHash refuse i t s q w :=
  byRow2 "special-get-raises" (fun w K H gd lv => by
    rw [PySem.W.Fast.te3277212676724774461, PySem.W.Fast.te14364793385576792824, PySem.W.Fast.te16697807410369149715]
    kernel_rfl) (fun w K H gd lv => by
    rw [PySem.W.Fast.te3277212676724774461, PySem.W.Fast.te14364793385576792824, PySem.W.Fast.te16697807410369149715]
    kernel_rfl)
theorem special_hash (i : Int) (t : Tok) : specialOf (.int i t) "__hash__" = .pure (some (.builtin "int.__hash__")) := by
  rw [PySem.W.Fast.te4214721358667687652]; kernel_rfl

theorem RT.pyHash {i : Int} {t : Tok} (h0 : 0 ≤ i) (h1 : i < 2 ^ 60) (h : Q i { s with toks := s.toks + 1 } q) : RT w 12 (pyHash (.int i t)) Q s q := by
  apply RT.le
  show RT w _ (pyHashByItsType (.int i t)) Q s q
  unfold pyHashByItsType
  apply RT.bind
  apply RT.pure
  rw [special_hash]
  apply RT.bind
  apply RT.pure
  rw [if_neg (by decide)]
  apply RT.bind
  apply RT.pure
  rw [if_neg (by decide)]
  apply RT.bind
  apply RT.go (go_hash _ i t s q w)
  dsimp only
  rw [hx_eq h0 h1]
  unfold pyHashByItsType.reduced
  rw [if_pos (by simp; omega), if_neg (by simp; omega)]
  exact RT.pure h
  decide
end
end Mine

-- part B3b
set_option Elab.async false
set_option maxRecDepth 100000
set_option maxHeartbeats 4000000
set_option linter.unusedVariables false
namespace Mine
open PySem PySem.W PySem.Calls PyProof.Rows

def mkHp (l : List Obj) : Heap := ⟨l.toArray, {}⟩
def dictO (es : List DictEntry) : Obj := ⟨.type "dict", none, .dict es.toArray es.length, #[]⟩
theorem mkHp_push (l : List Obj) (o : Obj) : (mkHp l).push o = mkHp (l ++ [o]) := by
  simp [mkHp, Heap.push]
theorem mkHp_size (l : List Obj) : (mkHp l).objs.size = l.length := by simp [mkHp]
theorem mkHp_get {l1 l2 : List Obj} {es : List DictEntry} : (mkHp (l1 ++ dictO es :: l2)).get? l1.length = some (dictO es) := by
  unfold Heap.get? mkHp
  simp [dictO]
theorem modify_at {α : Type} (f : α → α) (x : α) (l2 : List α) : ∀ l1 : List α, (l1 ++ x :: l2).modify l1.length f = l1 ++ f x :: l2
  | [] => rfl
  | a :: l1 => by
    show (a :: (l1 ++ x :: l2)).modify (l1.length + 1) f = _
    rw [List.modify_succ_cons, modify_at f x l2 l1]; rfl
theorem mkHp_update {l1 l2 : List Obj} {o : Obj} {f : Obj → Obj} : (mkHp (l1 ++ o :: l2)).update l1.length f = mkHp (l1 ++ f o :: l2) := by
  unfold Heap.update mkHp
  dsimp only
  rw [List.modify_toArray, modify_at]
theorem dictO_push (es : List DictEntry) (e : DictEntry) : Obj.mapDictKeys (·.push e) (dictO es) = dictO (es ++ [e]) := by
  unfold dictO Obj.mapDictKeys
  simp

section
variable {w : World} {s : Shared} {q : Pos} {l1 l2 : List Obj} {es : List DictEntry} {i : Int} {t : Tok} {v : Value}

theorem RT.pushKey {Q : Unit → Shared → Pos → Prop} {e : DictEntry} {part : Option Value} (hs : s.heap = mkHp (l1 ++ dictO es :: l2)) (h11 : Nat.ble 11 l1.length = true) (hsz : es.length < sizeLine)
    (h : Q () { s with heap := mkHp (l1 ++ dictO (es ++ [e]) :: l2) } q) : RT w 6 (updateDictKeys l1.length (·.push e) part) Q s q := by
  apply RT.le
  have g : s.heap.get? l1.length = some (dictO es) := by rw [hs]; exact mkHp_get
  unfold updateDictKeys
  apply RT.bind
  apply RT.load g
  apply RT.pure
  show RT w _ (updatePart _ _ _ >>= fun _ => lookBehind _ _) _ _ _
  apply RT.bind
  apply RT.update h11 (by rw [g]; rfl)
  apply RT.pure
  have g' : (s.heap.update l1.length (Obj.mapDictKeys (·.push e))).get? l1.length = some (dictO (es ++ [e])) := by
    rw [hs, mkHp_update, dictO_push]; exact mkHp_get
  unfold lookBehind
  apply RT.bind
  apply RT.load g'
  apply RT.pure
  have hp : (dictO (es ++ [e])).data.pastItsLine = none := pastItsLine_dict (by simp; omega)
  rw [hp]
  rw [hs, mkHp_update, dictO_push]
  exact RT.pure h
  decide

theorem places_none (es : List DictEntry) (i : Int) (hf : ∀ e ∈ es, e.hash ≠ i) : placesWithHash es.toArray.size (fun k => (es.toArray[k]?).map (·.hash)) i = [] := by
  unfold placesWithHash
  rw [List.filter_eq_nil_iff]
  intro k hk
  rw [List.mem_range, List.size_toArray] at hk
  dsimp only
  rw [List.getElem?_toArray, List.getElem?_eq_getElem hk]
  have := hf _ (List.getElem_mem hk)
  simpa using this

theorem RT.findNone {Q : Option Nat → Shared → Pos → Prop} (hs : s.heap = mkHp (l1 ++ dictO es :: l2)) (hf : ∀ e ∈ es, e.hash ≠ i) (h : Q none s q) : RT w 3 (dictFind l1.length (.int i t) i) Q s q := by
  apply RT.le
  have g : s.heap.get? l1.length = some (dictO es) := by rw [hs]; exact mkHp_get
  unfold dictFind
  apply RT.holding
  apply RT.bind
  apply RT.bind
  apply RT.load g
  apply RT.pure
  apply RT.pure
  dsimp only
  rw [places_none es i hf]
  show RT w _ (if ([Value.int i t].all carriedByValue) = true then dictWalkPlain l1.length (.int i t) i es.toArray [] else _) _ _ _
  rw [if_pos (show ([Value.int i t].all carriedByValue) = true from rfl)]
  exact RT.pure h
  decide

theorem RT.setNew {Q : Unit → Shared → Pos → Prop} (hs : s.heap = mkHp (l1 ++ dictO es :: l2)) (h11 : Nat.ble 11 l1.length = true) (hsz : es.length < sizeLine) (h0 : 0 ≤ i) (h1 : i < 2 ^ 60) (hf : ∀ e ∈ es, e.hash ≠ i)
    (h : Q () { s with heap := mkHp (l1 ++ dictO (es ++ [⟨i, .int i t, v⟩]) :: l2), toks := s.toks + 1 } q) : RT w 25 (dictSet l1.length (.int i t) v) Q s q := by
  apply RT.le
  unfold dictSet
  apply RT.holding
  apply RT.bind
  refine' RT.pyHash h0 h1 ?_
  unfold dictSetHashed
  apply RT.holding
  apply RT.bind
  refine' RT.findNone hs hf ?_
  apply RT.bind
  apply RT.rule
  apply RT.pure
  exact RT.pushKey hs h11 hsz h
  decide

theorem RT.putNew {Q : Unit → Shared → Pos → Prop} (hs : s.heap = mkHp (l1 ++ dictO es :: l2)) (h11 : Nat.ble 11 l1.length = true) (hsz : es.length < sizeLine) (hf : ∀ e ∈ es, e.hash ≠ i)
    (h : Q () { s with heap := mkHp (l1 ++ dictO (es ++ [⟨i, .int i t, v⟩]) :: l2) } q) : RT w 10 (dictPut l1.length i (.int i t) v) Q s q := by
  apply RT.le
  unfold dictPut
  apply RT.bind
  refine' RT.findNone hs hf ?_
  exact RT.pushKey hs h11 hsz h
  decide
end
end Mine

-- part B3c
set_option Elab.async false
set_option maxRecDepth 100000
set_option maxHeartbeats 4000000
set_option linter.unusedVariables false
namespace Mine
open PySem PySem.W PySem.Calls PyProof.Rows

section
variable {w : World} {s : Shared} {q : Pos}
theorem RT.mkInt {Q : Value → Shared → Pos → Prop} {i : Int} (h : Q (.int i s.toks) { s with toks := s.toks + 1 } q) : RT w 1 (mkInt i) Q s q := by
  apply RT.le
  apply RT.bind
  apply RT.fresh
  apply RT.pure
  exact RT.pure h
  decide
theorem RT.mkText {Q : Value → Shared → Pos → Prop} {x : Str} (h : Q (.str x s.toks) { s with toks := s.toks + 1 } q) : RT w 1 (mkText x) Q s q := by
  apply RT.le
  apply RT.bind
  apply RT.fresh
  apply RT.pure
  exact RT.pure h
  decide

def item (pos : Pos) (p : Int × Str) : Sem Value × Sem Value := (PySem.mkInt p.1, do let v ← PySem.mkText p.2; standAt pos; Pure.pure v)
/-- the entries that a run of pairs makes, three tokens a pair -/
def entL : Nat → List (Int × Str) → List DictEntry
  | _, [] => []
  | t, (i, x) :: r => ⟨i, .int i t, .str x (t + 1)⟩ :: entL (t + 3) r
theorem entL_len : ∀ (ps : List (Int × Str)) (t : Nat), (entL t ps).length = ps.length
  | [], _ => rfl
  | (_, _) :: r, t => by simp [entL, entL_len r]
theorem entL_keys : ∀ (ps : List (Int × Str)) (t : Nat), (entL t ps).map (·.hash) = ps.map (·.1)
  | [], _ => rfl
  | (_, _) :: r, t => by simp [entL, entL_keys r]
def inB (ps : List (Int × Str)) : Prop := ∀ p ∈ ps, 0 ≤ p.1 ∧ p.1 < 2 ^ 60
def up (es : List DictEntry) (ks : List Int) : Prop := (es.map (·.hash) ++ ks).Pairwise (· < ·)
theorem up_ne {es : List DictEntry} {k : Int} {ks : List Int} (h : up es (k :: ks)) : ∀ e ∈ es, e.hash ≠ k := by
  intro e he
  have := (List.pairwise_append.mp h).2.2 e.hash (List.mem_map_of_mem he) k (by simp)
  omega
theorem up_next {es : List DictEntry} {k : Int} {ks : List Int} {e : DictEntry} (he : e.hash = k) (h : up es (k :: ks)) : up (es ++ [e]) ks := by
  unfold up at h ⊢
  rw [List.map_append, List.append_assoc]
  simpa [he] using h

theorem RT.longLoop {Q : PUnit → Shared → Pos → Prop} {l1 : List Obj} {pos : Pos} (h11 : Nat.ble 11 l1.length = true) : ∀ (ps : List (Int × Str)) (es : List DictEntry) (s : Shared) (q : Pos),
    s.heap = mkHp (l1 ++ [dictO es]) → es.length + ps.length < sizeLine → inB ps → up es (ps.map (·.1)) →
    (∀ q', Q PUnit.unit { s with heap := mkHp (l1 ++ [dictO (es ++ entL s.toks ps)]), toks := s.toks + 3 * ps.length } q') →
    RT w (30 * ps.length) (forIn (ps.map (item pos)) PUnit.unit fun x __s => match x with
      | (k, v) => do
        let kv ← k
        let vv ← PySem.holding [kv] v
        PySem.holding [kv, vv] (dictSet l1.length kv vv)
        Pure.pure (ForInStep.yield PUnit.unit)) Q s q
  | [], es, s, q, hs, hsz, hb, hu, h => by
    have := h q
    simp only [entL, List.append_nil, List.length_nil, Nat.mul_zero, Nat.add_zero] at this
    rw [← hs] at this
    exact RT.pure this
  | (i, x) :: r, es, s, q, hs, hsz, hb, hu, h => by
    rw [List.map_cons, List.forIn_cons]
    apply RT.le
    have hb1 := hb (i, x) (by simp)
    simp only [List.length_cons] at hsz
    apply RT.bind
    dsimp only [item]
    apply RT.bind
    refine' RT.mkInt ?_
    apply RT.bind
    apply RT.holding
    apply RT.bind
    refine' RT.mkText ?_
    apply RT.bind
    apply RT.at
    apply RT.pure
    apply RT.pure
    apply RT.bind
    apply RT.holding
    refine' RT.setNew (l2 := []) hs h11 (by omega) hb1.1 hb1.2 (up_ne hu) ?_
    apply RT.pure
    apply RT.longLoop h11 r _ _ _ (by rfl) (by simp only [List.length_append, List.length_singleton]; omega) (fun p hp => hb p (List.mem_cons_of_mem _ hp)) (up_next rfl hu)
    intro q'
    have := h q'
    simp only [entL, List.length_cons, Nat.mul_add, Nat.mul_one] at this
    rw [List.append_assoc]
    rw [show s.toks + (3 * r.length + 3) = s.toks + 1 + 1 + 1 + 3 * r.length by omega] at this
    exact this
    simp only [List.length_cons]; omega

theorem RT.subLong {Q : Addr → Shared → Pos → Prop} {l1 : List Obj} {pos : Pos} {ps : List (Int × Str)} (h11 : Nat.ble 11 l1.length = true) (hs : s.heap = mkHp l1) (h15 : 15 < ps.length) (hsz : ps.length < sizeLine) (hb : inB ps) (hu : up [] (ps.map (·.1)))
    (h : ∀ q', Q l1.length { s with heap := mkHp (l1 ++ [dictO (entL s.toks ps)]), toks := s.toks + 3 * ps.length } q') : RT w (31 * ps.length + 10) (subDict (ps.map (item pos))) Q s q := by
  apply RT.le
  unfold subDict
  apply RT.bind
  apply RT.alloc
  apply RT.pure
  rw [hs, mkHp_size, mkHp_push]
  apply RT.bind
  apply RT.holding
  rw [if_neg (by simp only [List.length_map]; omega)]
  apply RT.bind
  apply RT.rule
  apply RT.pure
  apply RT.bind
  apply RT.longLoop h11 ps [] _ _ (by rfl) (by simpa using hsz) hb hu
  intro q'
  apply RT.pure
  exact RT.pure (h q')
  omega

/-- two tokens a pair: what the short road makes -/
def entS : Nat → List (Int × Str) → List DictEntry
  | _, [] => []
  | t, (i, x) :: r => ⟨i, .int i t, .str x (t + 1)⟩ :: entS (t + 2) r
def valS : Nat → List (Int × Str) → List (Value × Value)
  | _, [] => []
  | t, (i, x) :: r => (.int i t, .str x (t + 1)) :: valS (t + 2) r
theorem entS_len : ∀ (ps : List (Int × Str)) (t : Nat), (entS t ps).length = ps.length
  | [], _ => rfl
  | (_, _) :: r, t => by simp [entS, entS_len r]
theorem entS_keys : ∀ (ps : List (Int × Str)) (t : Nat), (entS t ps).map (·.hash) = ps.map (·.1)
  | [], _ => rfl
  | (_, _) :: r, t => by simp [entS, entS_keys r]
theorem RT.evalPairs {pos : Pos} : ∀ {Q : List (Value × Value) → Shared → Pos → Prop} (ps : List (Int × Str)) (s : Shared) (q : Pos), (∀ q', Q (valS s.toks ps) { s with toks := s.toks + 2 * ps.length } q') → RT w (5 * ps.length) (PySem.evalPairs (ps.map (item pos))) Q s q
  | Q, [], s, q, h => RT.pure (h q)
  | Q, (i, x) :: r, s, q, h => by
    apply RT.le
    show RT w _ (PySem.mkInt i >>= fun kv => PySem.holding [kv] (do let v ← PySem.mkText x; standAt pos; Pure.pure v) >>= fun vv => _) Q s q
    apply RT.bind
    refine' RT.mkInt ?_
    apply RT.bind
    apply RT.holding
    apply RT.bind
    refine' RT.mkText ?_
    apply RT.bind
    apply RT.at
    apply RT.pure
    apply RT.pure
    apply RT.bind
    apply RT.holding
    refine' RT.evalPairs r _ _ fun q' => RT.pure ?_
    have := h q'
    simp only [valS, List.length_cons, Nat.mul_add, Nat.mul_one] at this
    rw [show s.toks + (2 * r.length + 2) = s.toks + 1 + 1 + 2 * r.length by omega] at this
    exact this
    simp only [List.length_cons]; omega
theorem RT.shortLoop {Q : PUnit → Shared → Pos → Prop} {l1 : List Obj} (h11 : Nat.ble 11 l1.length = true) : ∀ (ps : List (Int × Str)) (t : Nat) (es : List DictEntry) (s : Shared) (q : Pos),
    s.heap = mkHp (l1 ++ [dictO es]) → es.length + ps.length < sizeLine → inB ps → up es (ps.map (·.1)) →
    (∀ q', Q PUnit.unit { s with heap := mkHp (l1 ++ [dictO (es ++ entS t ps)]), toks := s.toks + ps.length } q') →
    RT w (26 * ps.length) (forIn (valS t ps) PUnit.unit fun x __s => match x with
      | (k, v) => do
        dictSet l1.length k v
        Pure.pure (ForInStep.yield PUnit.unit)) Q s q
  | [], t, es, s, q, hs, hsz, hb, hu, h => by
    have := h q
    simp only [entS, List.append_nil, List.length_nil, Nat.add_zero] at this
    rw [← hs] at this
    exact RT.pure this
  | (i, x) :: r, t, es, s, q, hs, hsz, hb, hu, h => by
    apply RT.le
    show RT w _ (forIn ((Value.int i t, Value.str x (t + 1)) :: valS (t + 2) r) PUnit.unit _) Q s q
    rw [List.forIn_cons]
    have hb1 := hb (i, x) (by simp)
    simp only [List.length_cons] at hsz
    apply RT.bind
    dsimp only
    apply RT.bind
    refine' RT.setNew (l2 := []) hs h11 (by omega) hb1.1 hb1.2 (up_ne hu) ?_
    apply RT.pure
    apply RT.shortLoop h11 r (t + 2) _ _ _ (by rfl) (by simp only [List.length_append, List.length_singleton]; omega) (fun p hp => hb p (List.mem_cons_of_mem _ hp)) (up_next rfl hu)
    intro q'
    have := h q'
    simp only [entS, List.length_cons] at this
    rw [List.append_assoc]
    rw [show s.toks + (r.length + 1) = s.toks + 1 + r.length by omega] at this
    exact this
    simp only [List.length_cons]; omega
theorem RT.subShort {Q : Addr → Shared → Pos → Prop} {l1 : List Obj} {pos : Pos} {ps : List (Int × Str)} (h11 : Nat.ble 11 l1.length = true) (hs : s.heap = mkHp l1) (h15 : ps.length ≤ 15) (hb : inB ps) (hu : up [] (ps.map (·.1)))
    (h : ∀ q', Q l1.length { s with heap := mkHp (l1 ++ [dictO (entS s.toks ps)]), toks := s.toks + 2 * ps.length + ps.length } q') : RT w (31 * ps.length + 10) (subDict (ps.map (item pos))) Q s q := by
  apply RT.le
  unfold subDict
  apply RT.bind
  apply RT.alloc
  apply RT.pure
  rw [hs, mkHp_size, mkHp_push]
  apply RT.bind
  apply RT.holding
  rw [if_pos (by simp only [List.length_map]; omega)]
  apply RT.bind
  refine' RT.evalPairs ps _ _ fun q₁ => RT.holding ?_
  apply RT.bind
  apply RT.shortLoop h11 ps s.toks [] _ _ (by rfl) (by simp only [List.length_nil, sizeLine]; omega) hb hu
  intro q'
  apply RT.pure
  exact RT.pure (h q')
  omega
end
end Mine

-- part B3d
set_option Elab.async false
set_option maxRecDepth 100000
set_option maxHeartbeats 4000000
set_option linter.unusedVariables false
namespace Mine
open PySem PySem.W PySem.Calls PyProof.Rows

section
variable {w : World} {s : Shared} {q : Pos} {L0 : List Obj}

def H2 (L0 : List Obj) (m : List DictEntry) (subs : List Obj) (sub : List DictEntry) : Heap := mkHp (L0 ++ dictO m :: (subs ++ [dictO sub]))
theorem H2_sub {m sub : List DictEntry} {subs : List Obj} : (H2 L0 m subs sub).get? (L0.length + 1 + subs.length) = some (dictO sub) := by
  have := mkHp_get (l1 := L0 ++ dictO m :: subs) (l2 := []) (es := sub)
  rw [show (L0 ++ dictO m :: subs).length = L0.length + 1 + subs.length by simp; omega, show L0 ++ dictO m :: subs ++ [dictO sub] = L0 ++ dictO m :: (subs ++ [dictO sub]) by simp] at this
  exact this
theorem H2_main {m sub : List DictEntry} {subs : List Obj} : (H2 L0 m subs sub).get? L0.length = some (dictO m) := mkHp_get

theorem sub_refl : PySem.isSubtype (.type "dict") (.type "dict") = .pure true := by kernel_rfl
theorem dict_iter : typeLookup (.type "dict") "__iter__" = .pure (some (.builtin "dict.__iter__")) := by
  rw [typeLookup_type, builtinLookup_eq_fast]; kernel_rfl

theorem RT.mergeLoop {Q : PUnit → Shared → Pos → Prop} {subs : List Obj} {sub : List DictEntry} {ep : Nat} (h11 : Nat.ble 11 L0.length = true) (hep : ep = sub.length) (hkey : ∀ e ∈ sub, ∃ t, e.key = .int e.hash t) : ∀ (rest pre : List DictEntry) (m : List DictEntry) (s : Shared) (q : Pos),
    sub = pre ++ rest → s.heap = H2 L0 m subs sub → m.length + rest.length < sizeLine → up m (rest.map (·.hash)) →
    (∀ q', Q PUnit.unit { s with heap := H2 L0 (m ++ rest) subs sub } q') →
    RT w (15 * rest.length) (forIn (List.range' pre.length rest.length) PUnit.unit fun i __s => do
                  let __do_lift ← dictEntries (L0.length + 1 + subs.length)
                  match __do_lift[i]? with
                    | some e => do
                      PySem.holding [DictEntry.key e, DictEntry.val e] (dictPut L0.length (DictEntry.hash e) (DictEntry.key e) (DictEntry.val e))
                      let __do_lift ← dictEpoch (L0.length + 1 + subs.length)
                      if (__do_lift != ep) = true then do
                          unsupported "dict.changed-during-merge"
                          Pure.pure (ForInStep.yield PUnit.unit)
                        else Pure.pure (ForInStep.yield PUnit.unit)
                    | x => do
                      unsupported "dict.changed-during-merge"
                      Pure.pure (ForInStep.yield PUnit.unit)) Q s q
  | [], pre, m, s, q, hsub, hs, hsz, hu, h => by
    have := h q
    rw [List.append_nil, ← hs] at this
    exact RT.pure this
  | e :: r, pre, m, s, q, hsub, hs, hsz, hu, h => by
    simp only [List.length_cons] at hsz
    rw [List.length_cons, List.range'_succ, List.forIn_cons]
    apply RT.le
    have g : s.heap.get? (L0.length + 1 + subs.length) = some (dictO sub) := by rw [hs]; exact H2_sub
    apply RT.bind
    apply RT.bind
    apply RT.bind
    apply RT.load g
    apply RT.pure
    apply RT.pure
    have hi : sub.toArray[pre.length]? = some e := by
      rw [List.getElem?_toArray, hsub, List.getElem?_append_right (Nat.le_refl _), Nat.sub_self]; rfl
    rw [hi]
    obtain ⟨t, ht⟩ := hkey e (by rw [hsub]; simp)
    dsimp only
    obtain ⟨eh, ek, ev⟩ := e
    dsimp only at ht ⊢
    subst ht
    apply RT.bind
    apply RT.holding
    refine' RT.putNew (l1 := L0) (l2 := subs ++ [dictO sub]) (es := m) hs h11 (by omega) (up_ne hu) ?_
    apply RT.bind
    apply RT.bind
    apply RT.load (H2_sub)
    apply RT.pure
    apply RT.pure
    rw [if_neg (by simp [dictO, hep])]
    apply RT.pure
    have e1 : sub = (pre ++ [⟨eh, .int eh t, ev⟩]) ++ r := by rw [hsub]; simp
    have := RT.mergeLoop (Q := Q) h11 hep hkey r (pre ++ [⟨eh, .int eh t, ev⟩]) (m ++ [⟨eh, .int eh t, ev⟩]) { s with heap := H2 L0 (m ++ [⟨eh, .int eh t, ev⟩]) subs sub } q e1 rfl (by simp only [List.length_append, List.length_singleton]; omega) (up_next (k := eh) rfl hu) (fun q' => by
      have := h q'
      rw [List.append_assoc]
      exact this)
    rw [List.length_append, List.length_singleton] at this
    exact this
    omega

theorem RT.merge {Q : Unit → Shared → Pos → Prop} {subs : List Obj} {sub m : List DictEntry} (h11 : Nat.ble 11 L0.length = true) (hkey : ∀ e ∈ sub, ∃ t, e.key = .int e.hash t) (hs : s.heap = H2 L0 m subs sub) (hm : m ≠ [])
    (hsz : m.length + sub.length < sizeLine) (hu : up m (sub.map (·.hash))) (h : ∀ q', Q () { s with heap := H2 L0 (m ++ sub) subs sub } q') : RT w (15 * sub.length + 20) (mergeMapping L0.length (.ref (L0.length + 1 + subs.length)) false) Q s q := by
  apply RT.le
  have g : s.heap.get? (L0.length + 1 + subs.length) = some (dictO sub) := by rw [hs]; exact H2_sub
  have gm : s.heap.get? L0.length = some (dictO m) := by rw [hs]; exact H2_main
  unfold mergeMapping
  apply RT.bind
  unfold PySem.isInstance
  apply RT.bind
  apply RT.bind
  apply RT.load g
  apply RT.pure
  apply RT.pure
  show RT w _ (PySem.isSubtype (.type "dict") (.type "dict")) _ _ _
  rw [sub_refl]
  apply RT.pure
  rw [if_pos rfl]
  apply RT.bind
  unfold specialOf
  apply RT.bind
  apply RT.bind
  apply RT.load g
  apply RT.pure
  apply RT.pure
  show RT w _ (typeLookup (.type "dict") "__iter__") _ _ _
  rw [dict_iter]
  apply RT.pure
  apply RT.bind
  apply RT.pure
  show RT w _ (if (L0.length + 1 + subs.length == sysModules) = true then _ else _) _ _ _
  rw [if_neg (by
    have : 11 ≤ L0.length := Nat.le_of_ble_eq_true h11
    have e : sysModules = 1 := rfl
    rw [e, beq_iff_eq]; omega)]
  apply RT.bind
  apply RT.bind
  apply RT.load gm
  apply RT.pure
  apply RT.pure
  rw [if_neg (by cases m with | nil => exact absurd rfl hm | cons a b => simp)]
  apply RT.bind
  apply RT.bind
  apply RT.load g
  apply RT.pure
  apply RT.pure
  apply RT.bind
  apply RT.bind
  apply RT.load g
  apply RT.pure
  apply RT.pure
  have := RT.mergeLoop (w := w) (Q := fun _ s' q' => RT w 0 (Pure.pure ()) Q s' q') (L0 := L0) (subs := subs) (sub := sub) (ep := sub.length) h11 rfl hkey sub [] m s q rfl hs hsz hu (fun q' => RT.pure (h q'))
  apply RT.bind
  rw [List.length_nil] at this
  have e : List.range sub.toArray.size = List.range' 0 sub.length := by rw [List.size_toArray, List.range_eq_range']
  rw [e]
  exact this
  omega
end
end Mine

-- part B3e
set_option Elab.async false
set_option maxRecDepth 100000
set_option maxHeartbeats 4000000
set_option linter.unusedVariables false
namespace Mine
open PySem PySem.W PySem.Calls PyProof.Rows

section
variable {w : World} {s : Shared} {q : Pos} {L0 : List Obj} {pos : Pos}

abbrev It := Option (Sem Value) × Sem Value
abbrev Rn := List (Sem Value × Sem Value)
def itm (pos : Pos) (p : Int × Str) : It := (some (item pos p).1, (item pos p).2)
def flushD (run : Rn) (main : Option Addr) : Sem (Option Addr) :=
      if List.isEmpty run = true then Pure.pure main
      else
        match main with
        | none => do
          let __do_lift ← subDict run
          Pure.pure (some __do_lift)
        | some d => do
          let sub ← holding [Value.ref d] (subDict run)
          Sem.onRaise (holding [Value.ref d, Value.ref sub] (mergeMapping d (Value.ref sub) false)) fun x => do
              let _ ← holding [Value.ref d, x] (runValue (Code.builtin "proto.let_go" { }))
              Pure.pure ()
          Pure.pure (some d)
/-- what the display's turn does upon a pair that bears a key; what it does at a double star is left open -/
def TurnD (body : It → Option Addr × Rn → Sem (ForInStep (Option Addr × Rn))) : Prop := ∀ (k v : Sem Value) (main : Option Addr) (run : Rn), body (some k, v) (main, run) =
  if (List.length (run ++ [(k, v)]) == 17) = true then (flushD (run ++ [(k, v)]) main >>= fun m' => Pure.pure (ForInStep.yield (m', []))) else Pure.pure (ForInStep.yield (main, run ++ [(k, v)]))
theorem display_eq : ∃ body, (∀ items, dictDisplay items = (do
    let st ← forIn items (none, []) body
    match ← flushD st.2 st.1 with
      | some d => Pure.pure (.ref d)
      | none => newDict)) ∧ TurnD body := by
  apply Exists.intro
  apply And.intro
  · intro items
    unfold dictDisplay
    rfl
  · intro k v main run
    rfl

variable {body : It → Option Addr × Rn → Sem (ForInStep (Option Addr × Rn))}
theorem acc_eq (hB : TurnD body) (main : Option Addr) (rest : List (Int × Str)) : ∀ (c : List (Int × Str)) (run : Rn), run.length + c.length < 17 →
    (forIn ((c ++ rest).map (itm pos)) (main, run) body : Sem (Option Addr × Rn)) = forIn (rest.map (itm pos)) (main, run ++ c.map (item pos)) body
  | [], run, _ => by simp
  | x :: c, run, h => by
    simp only [List.length_cons] at h
    rw [List.cons_append, List.map_cons, List.forIn_cons]
    have e : body (itm pos x) (main, run) = Pure.pure (ForInStep.yield (main, run ++ [item pos x])) := by
      unfold itm
      rw [hB, if_neg (by rw [beq_iff_eq, List.length_append, List.length_singleton]; omega)]
    rw [e]
    show (forIn ((c ++ rest).map (itm pos)) (main, run ++ [item pos x]) body : Sem (Option Addr × Rn)) = _
    rw [acc_eq hB main rest c _ (by rw [List.length_append, List.length_singleton]; omega)]
    simp

/-- a whole batch, from an empty run -/
theorem batch_eq (hB : TurnD body) (main : Option Addr) (b rest : List (Int × Str)) (hb : b.length = 17) :
    (forIn ((b ++ rest).map (itm pos)) (main, []) body : Sem (Option Addr × Rn)) = (flushD (b.map (item pos)) main >>= fun m' => forIn (rest.map (itm pos)) (m', []) body) := by
  obtain ⟨c, x, rfl⟩ : ∃ c x, b = c ++ [x] := ⟨b.dropLast, b.getLast (by intro e; rw [e] at hb; cases hb), (List.dropLast_concat_getLast _).symm⟩
  have hc : c.length = 16 := by simpa using hb
  rw [List.append_assoc, acc_eq hB main ([x] ++ rest) c [] (by simp [hc]), List.nil_append]
  show forIn (itm pos x :: rest.map (itm pos)) (main, c.map (item pos)) body = _
  rw [List.forIn_cons]
  have e : body (itm pos x) (main, c.map (item pos)) = (flushD ((c ++ [x]).map (item pos)) main >>= fun m' => Pure.pure (ForInStep.yield (m', []))) := by
    unfold itm
    rw [hB, if_pos (by rw [beq_iff_eq]; simp [hc]), List.map_append]
    rfl
  rw [e, Sem.bind_eq_wrap', Sem.bind_eq_wrap', Sem.bind_eq_wrap', Sem.wrap_wrap]
  rfl

theorem entL_key : ∀ (ps : List (Int × Str)) (t : Nat), ∀ e ∈ entL t ps, ∃ t', e.key = .int e.hash t'
  | [], _, _, h => nomatch h
  | (i, x) :: r, t, e, h => by
    rcases List.mem_cons.mp h with rfl | h
    · exact ⟨_, rfl⟩
    · exact entL_key r _ e h
theorem entS_key : ∀ (ps : List (Int × Str)) (t : Nat), ∀ e ∈ entS t ps, ∃ t', e.key = .int e.hash t'
  | [], _, _, h => nomatch h
  | (i, x) :: r, t, e, h => by
    rcases List.mem_cons.mp h with rfl | h
    · exact ⟨_, rfl⟩
    · exact entS_key r _ e h

structure St where
  m : List DictEntry
  subs : List Obj
  t : Nat
def St.heap (x : St) (L0 : List Obj) : Heap := mkHp (L0 ++ dictO x.m :: x.subs)
def St.next (x : St) (b : List (Int × Str)) : St := ⟨x.m ++ entL x.t b, x.subs ++ [dictO (entL x.t b)], x.t + 3 * b.length⟩
def St.last (x : St) (b : List (Int × Str)) : St := ⟨x.m ++ entS x.t b, x.subs ++ [dictO (entS x.t b)], x.t + 2 * b.length + b.length⟩

theorem up_sub {m : List DictEntry} {a b : List Int} (h : up m (a ++ b)) : up m a ∧ up [] a := by
  unfold up at h ⊢
  rw [← List.append_assoc] at h
  have h1 := (List.pairwise_append.mp h).1
  exact ⟨h1, by simpa using (List.pairwise_append.mp h1).2.1⟩
theorem up_on {m : List DictEntry} {es : List DictEntry} {a b : List Int} (he : es.map (·.hash) = a) (h : up m (a ++ b)) : up (m ++ es) b := by
  unfold up at h ⊢
  rw [List.map_append, he, List.append_assoc]; exact h

theorem RT.flushLong {Q : Option Addr → Shared → Pos → Prop} {x : St} {b : List (Int × Str)} (h11 : Nat.ble 11 L0.length = true) (hs : s.heap = x.heap L0) (ht : s.toks = x.t) (hm : x.m ≠ []) (h15 : 15 < b.length) (hsz : x.m.length + b.length < sizeLine)
    (hb : inB b) (hu : up x.m (b.map (·.1))) (h : ∀ q', Q (some L0.length) { s with heap := (x.next b).heap L0, toks := (x.next b).t } q') : RT w (50 * b.length + 40) (flushD (b.map (item pos)) (some L0.length)) Q s q := by
  apply RT.le
  unfold flushD
  rw [if_neg (by cases b with | nil => simp at h15 | cons a b => simp)]
  have h11' : Nat.ble 11 (L0 ++ dictO x.m :: x.subs).length = true := by
    have := Nat.le_of_ble_eq_true h11
    exact Nat.ble_eq_true_of_le (by simp only [List.length_append, List.length_cons]; omega)
  apply RT.bind
  apply RT.holding
  refine' RT.subLong h11' hs h15 (by omega) hb (by simpa using (up_sub (b := []) (by simpa using hu)).2) ?_
  intro q₁
  have el : (L0 ++ dictO x.m :: x.subs).length = L0.length + 1 + x.subs.length := by simp; omega
  rw [el]
  apply RT.bind
  apply RT.onRaise
  apply RT.holding
  refine' RT.merge (subs := x.subs) (sub := entL s.toks b) (m := x.m) h11 (entL_key _ _) ?_ hm (by rw [entL_len]; omega) (by rw [entL_keys]; exact hu) ?_
  · show mkHp _ = mkHp _
    simp
  · intro q₂
    apply RT.pure
    have := h q₂
    rw [ht]
    exact this
  · simp only [entL_len, entS_len]; omega
theorem RT.flushShort {Q : Option Addr → Shared → Pos → Prop} {x : St} {b : List (Int × Str)} (h11 : Nat.ble 11 L0.length = true) (hs : s.heap = x.heap L0) (ht : s.toks = x.t) (hm : x.m ≠ []) (h0 : b ≠ []) (h15 : b.length ≤ 15) (hsz : x.m.length + b.length < sizeLine)
    (hb : inB b) (hu : up x.m (b.map (·.1))) (h : ∀ q', Q (some L0.length) { s with heap := (x.last b).heap L0, toks := (x.last b).t } q') : RT w (50 * b.length + 40) (flushD (b.map (item pos)) (some L0.length)) Q s q := by
  apply RT.le
  unfold flushD
  rw [if_neg (by cases b with | nil => exact absurd rfl h0 | cons a b => simp)]
  have h11' : Nat.ble 11 (L0 ++ dictO x.m :: x.subs).length = true := by
    have := Nat.le_of_ble_eq_true h11
    exact Nat.ble_eq_true_of_le (by simp only [List.length_append, List.length_cons]; omega)
  apply RT.bind
  apply RT.holding
  refine' RT.subShort h11' hs h15 hb (by simpa using (up_sub (b := []) (by simpa using hu)).2) ?_
  intro q₁
  have el : (L0 ++ dictO x.m :: x.subs).length = L0.length + 1 + x.subs.length := by simp; omega
  rw [el]
  apply RT.bind
  apply RT.onRaise
  apply RT.holding
  refine' RT.merge (subs := x.subs) (sub := entS s.toks b) (m := x.m) h11 (entS_key _ _) ?_ hm (by rw [entS_len]; omega) (by rw [entS_keys]; exact hu) ?_
  · show mkHp _ = mkHp _
    simp
  · intro q₂
    apply RT.pure
    have := h q₂
    rw [ht]
    exact this
  · simp only [entL_len, entS_len]; omega

def St.all (x : St) : List (List (Int × Str)) → St
  | [] => x
  | b :: bs => (x.next b).all bs
theorem RT.batches {Q : Option Addr × Rn → Shared → Pos → Prop} (hB : TurnD body) (h11 : Nat.ble 11 L0.length = true) {tl : List (Int × Str)} {B₀ : Nat} : ∀ (bs : List (List (Int × Str))) (x : St) (s : Shared) (q : Pos), (∀ b ∈ bs, b.length = 17) → s.heap = x.heap L0 → s.toks = x.t → x.m ≠ [] →
    x.m.length + (bs.flatten ++ tl).length < sizeLine → inB (bs.flatten ++ tl) → up x.m ((bs.flatten ++ tl).map (·.1)) →
    (∀ q', RT w B₀ (forIn (tl.map (itm pos)) (some L0.length, []) body) Q { s with heap := (x.all bs).heap L0, toks := (x.all bs).t } q') →
    RT w (890 * bs.length + B₀) (forIn ((bs.flatten ++ tl).map (itm pos)) (some L0.length, []) body) Q s q
  | [], x, s, q, hl, hs, ht, hm, hsz, hb, hu, h => by
    have := h q
    simp only [St.all] at this
    rw [← hs, ← ht] at this
    simpa using this
  | b :: bs, x, s, q, hl, hs, ht, hm, hsz, hb, hu, h => by
    have e : (b :: bs).flatten ++ tl = b ++ (bs.flatten ++ tl) := by simp
    rw [e] at hsz hb hu ⊢
    have hb17 := hl b (by simp)
    rw [batch_eq hB _ _ _ hb17]
    apply RT.le
    rw [List.map_append] at hu
    simp only [List.length_append] at hsz
    apply RT.bind
    refine' RT.flushLong (x := x) h11 hs ht hm (by omega) (by omega) (fun p hp => hb p (List.mem_append_left _ hp)) (up_sub hu).1 ?_
    intro q₁
    refine' RT.batches (B₀ := B₀) hB h11 bs (x.next b) _ _ (fun c hc => hl c (List.mem_cons_of_mem _ hc)) rfl rfl (by simp [St.next, hm]) ?_ (fun p hp => hb p (List.mem_append_right _ hp)) (up_on (entL_keys _ _) hu) ?_
    · simp only [St.next, List.length_append, entL_len]; omega
    · intro q'
      exact h q'
    simp only [List.length_cons, hb17]; omega

theorem RT.display {Q : Value → Shared → Pos → Prop} (h11 : Nat.ble 11 L0.length = true) {b : List (Int × Str)} {bs : List (List (Int × Str))} {tl : List (Int × Str)} (hb17 : b.length = 17) (hl : ∀ c ∈ bs, c.length = 17) (htl : tl ≠ []) (htl' : tl.length ≤ 15)
    (hs : s.heap = mkHp L0) (hsz : (b ++ (bs.flatten ++ tl)).length < sizeLine) (hb : inB (b ++ (bs.flatten ++ tl))) (hu : up [] ((b ++ (bs.flatten ++ tl)).map (·.1)))
    (h : ∀ q', let y := ((St.mk (entL s.toks b) [] (s.toks + 3 * b.length)).all bs).last tl
      Q (.ref L0.length) { s with heap := y.heap L0, toks := y.t } q') :
    RT w (890 * bs.length + 50 * tl.length + 1000) (dictDisplay ((b ++ (bs.flatten ++ tl)).map (itm pos))) Q s q := by
  apply RT.le
  obtain ⟨body, hd, hB⟩ := display_eq
  rw [hd, batch_eq hB none _ _ hb17]
  have hu' := hu
  rw [List.map_append] at hu'
  simp only [List.length_append] at hsz
  apply RT.bind
  apply RT.bind
  unfold flushD
  rw [if_neg (by cases b with | nil => cases hb17 | cons a b => simp)]
  apply RT.bind
  refine' RT.subLong h11 hs (by omega) (by omega) (fun p hp => hb p (List.mem_append_left _ hp)) (up_sub hu').2 ?_
  intro q₁
  apply RT.pure
  have hne : entL s.toks b ≠ [] := by intro e; have := entL_len b s.toks; rw [e, hb17] at this; cases this
  refine' RT.batches (B₀ := 0) hB (x := St.mk (entL s.toks b) [] (s.toks + 3 * b.length)) h11 bs _ _ hl (by rfl) (by rfl) hne (by simp only [entL_len, List.length_append]; omega) (fun p hp => hb p (List.mem_append_right _ hp)) ?_ ?_
  · have := up_on (m := []) (entL_keys b s.toks) hu'
    simpa using this
  · intro q₂
    have ht15 : ([] : Rn).length + tl.length < 17 := by simp; omega
    have := acc_eq (pos := pos) hB (some L0.length) [] tl [] ht15
    rw [List.append_nil, List.nil_append] at this
    rw [this]
    apply RT.pure
    apply RT.bind
    have hx : ∀ (bs : List (List (Int × Str))) (x : St), up x.m ((bs.flatten ++ tl).map (·.1)) → x.m ≠ [] → (up (x.all bs).m (tl.map (·.1)) ∧ (x.all bs).m ≠ [] ∧ (x.all bs).m.length = x.m.length + bs.flatten.length) := by
      intro bs
      induction bs with
      | nil => intro x h1 h2; exact ⟨by simpa [St.all] using h1, h2, by simp [St.all]⟩
      | cons c bs ih =>
        intro x h1 h2
        have e : (c :: bs).flatten ++ tl = c ++ (bs.flatten ++ tl) := by simp
        rw [e, List.map_append] at h1
        obtain ⟨a1, a2, a3⟩ := ih (x.next c) (up_on (entL_keys _ _) h1) (by simp [St.next, h2])
        refine ⟨a1, a2, ?_⟩
        rw [show (x.all (c :: bs)) = (x.next c).all bs from rfl, a3]
        simp only [St.next, List.length_append, entL_len, List.flatten_cons]; omega
    obtain ⟨a1, a2, a3⟩ := hx bs (St.mk (entL s.toks b) [] (s.toks + 3 * b.length)) (by simpa using up_on (m := []) (entL_keys b s.toks) hu') hne
    refine' RT.flushShort (x := (St.mk (entL s.toks b) [] (s.toks + 3 * b.length)).all bs) h11 (by rfl) (by rfl) a2 htl htl' (by rw [a3]; simp only [entL_len]; omega) (fun p hp => hb p (List.mem_append_right _ (List.mem_append_right _ hp))) a1 ?_
    intro q₃
    exact RT.pure (h q₃)
  simp only [hb17]; omega
end
end Mine

-- part B3f
set_option Elab.async false
set_option maxRecDepth 100000
set_option maxHeartbeats 4000000
set_option linter.unusedVariables false
namespace Mine
open PySem PySem.W PySem.Calls PyProof.Rows

def okK : Option PySem.Expr → Bool
  | some (.Constant (.int _) _ _) => true
  | _ => false
def okV : PySem.Expr → Bool
  | .Constant (.str _) _ _ => true
  | _ => false
theorem items_eq {env : Env} {pos : Pos} : ∀ (ks : List (Option PySem.Expr)) (vs : List PySem.Expr), ks.all okK = true → vs.all okV = true →
    (evalEachOpt ks env).zip ((evalEach vs env).map fun v => (do let x ← v; standAt pos; Pure.pure x : Sem Value)) = ((ks.map cInt).zip (vs.map cStr)).map (itm pos)
  | [], vs, _, _ => rfl
  | k :: ks, [], _, _ => by simp [evalEachOpt, evalEach]
  | k :: ks, v :: vs, hk, hv => by
    simp only [List.all_cons, Bool.and_eq_true] at hk hv
    have ih := items_eq (env := env) (pos := pos) ks vs hk.2 hv.2
    show (evalOpt k env, _) :: (evalEachOpt ks env).zip _ = itm pos (cInt k, cStr v) :: (((ks.map cInt).zip (vs.map cStr)).map (itm pos))
    rw [← ih]
    obtain ⟨hk, _⟩ := hk
    obtain ⟨hv, _⟩ := hv
    unfold okK at hk
    split at hk
    · unfold okV at hv
      split at hv
      · rfl
      · cases hv
    · cases hk

def incr : List Int → Bool
  | [] => true
  | [_] => true
  | a :: b :: r => decide (a < b) && incr (b :: r)
theorem incr_lt : ∀ (l : List Int) (a : Int), incr (a :: l) = true → (∀ x ∈ l, a < x) ∧ incr l = true
  | [], a, _ => ⟨fun _ h => (nomatch h), rfl⟩
  | b :: r, a, h => by
    simp only [incr, Bool.and_eq_true, decide_eq_true_eq] at h
    refine ⟨fun x hx => ?_, h.2⟩
    rcases List.mem_cons.mp hx with rfl | hx
    · exact h.1
    · have := (incr_lt r b h.2).1 x hx; omega
theorem incr_pw : ∀ l : List Int, incr l = true → l.Pairwise (· < ·)
  | [], _ => .nil
  | a :: l, h => .cons (incr_lt l a h).1 (incr_pw l (incr_lt l a h).2)

def bHd : List (Int × Str) := b3Pairs.take 17
def bBs : List (List (Int × Str)) := (List.range 37).map fun k => (b3Pairs.drop (17 * (k + 1))).take 17
def bTl : List (Int × Str) := b3Pairs.drop 646
theorem b3_parts : b3Pairs = bHd ++ (bBs.flatten ++ bTl) := by kernel_rfl
theorem b3_incr : incr (b3Pairs.map (·.1)) = true := by decide +kernel
theorem b3_len : b3Pairs.length = 650 := by decide +kernel
theorem b3_inB : inB b3Pairs := by
  have h : (b3Pairs.all fun p => decide (0 ≤ p.1) && decide (p.1 < 2 ^ 60)) = true := by decide +kernel
  intro p hp
  have := List.all_eq_true.mp h p hp
  simpa using this
theorem st10 : stA 10 = .Assign [.Name (Str.ofString "b3_exceptions") ⟨82, 0, 82, 13⟩] (.Dict (dKeys (stA 10)) (dVals (stA 10)) ⟨82, 16, 82, 8704⟩) ⟨82, 0, 82, 8704⟩ := by kernel_rfl

def yT : St := ((St.mk (entL 315 bHd) [] (315 + 3 * bHd.length)).all bBs).last bTl
theorem y_t : yT.t = 2265 := by decide +kernel
theorem y_heap (P : Params) : yT.heap ((t3 P).list 67) = absHeap (t4d P) 106 {} := by kernel_rfl
end Mine

-- part B3g
set_option Elab.async false
set_option maxRecDepth 100000
set_option maxHeartbeats 4000000
set_option linter.unusedVariables false
namespace Mine
open PySem PySem.W PySem.Calls PyProof.Rows

section
variable {w : World} {s : Shared} {q : Pos}
theorem RT.goT {α : Type} {Q : α → Shared → Pos → Prop} {t : Sem α} {n : Nat} {a : α} {x y : SharedT} {q' : Pos} (h : ∀ (K : α → Sem PySem.Fin) (H : Value → Sem PySem.Fin) (gd : Bool → Bool) (lv : List Value → List Value),
      segGoT treeTable PySem.Challenge.pw_re0157_01 w 11 (some (.ref 6)) 1 n x ⟨t.wrap K H gd lv, cT, q, [topFrame z4]⟩ = some (y, ⟨K a, cT, q', [topFrame z4]⟩))
    (hq : Q a y.abs q') : RT w n t Q x.abs q := RT.go (fun K H gd lv => segGo_of (h K H gd lv)) hq

theorem swaps10 {line : Nat} : swapsWithSole [.Name (Str.ofString "b3_exceptions") ⟨82, 0, 82, 13⟩] (.Dict (dKeys (stA 10)) (dVals (stA 10)) ⟨82, 16, 82, 8704⟩) line envT = .pure false := by kernel_rfl
theorem swapped10 : swappedStores [.Name (Str.ofString "b3_exceptions") ⟨82, 0, 82, 13⟩] (.Dict (dKeys (stA 10)) (dVals (stA 10)) ⟨82, 16, 82, 8704⟩) envT = .pure none := by kernel_rfl
theorem tail10 (w : World) (os : OsState) (q : Pos) (K : Flow → Sem PySem.Fin) (H : Value → Sem PySem.Fin) (gd : Bool → Bool) (lv : List Value → List Value) :
    segGoT treeTable PySem.Challenge.pw_re0157_01 w 11 (some (.ref 6)) 1 7 (sT t4d 106 2265 w os) ⟨(assignStores envT (.ref 67) none ((assignEach [.Name (Str.ofString "b3_exceptions") ⟨82, 0, 82, 13⟩] envT).map (·.2))).wrap K H gd lv, cT, q, [topFrame z4]⟩ =
      some (sT t4 106 2266 w os, ⟨K .next, cT, ⟨82, 0, 82, 13⟩, [topFrame z4]⟩) := by kernel_rfl

theorem run10 (w : World) (os : OsState) (q : Pos) : RT w 40000 (exec (stA 10) envT) (fun f s' q' => f = .next ∧ s' = (sT t4 106 2266 w os).abs ∧ q' = ⟨82, 0, 82, 13⟩) (sT t3 67 315 w os).abs q := by
  rw [st10]
  apply RT.le
  show RT w _ (standAt _ >>= fun _ => swapsWithSole _ _ _ envT >>= fun b => if b = true then _ else (PySem.eval _ envT >>= fun v => swappedStores _ _ envT >>= fun sw => assignStores envT v sw _)) _ _ _
  apply RT.bind
  apply RT.at
  apply RT.pure
  apply RT.bind
  rw [swaps10]
  apply RT.pure
  rw [if_neg (by decide)]
  apply RT.bind
  show RT w _ (standAt _ >>= fun _ => dictDisplay _) _ _ _
  apply RT.bind
  apply RT.at
  apply RT.pure
  rw [items_eq (pos := ⟨82, 16, 82, 8704⟩) (dKeys (stA 10)) (dVals (stA 10)) (by decide +kernel) (by decide +kernel)]
  show RT w _ (dictDisplay (b3Pairs.map (itm ⟨82, 16, 82, 8704⟩))) _ _ _
  rw [b3_parts]
  have hL : ((t3 w.params).list 67).length = 67 := by simp [BT.list]
  refine' RT.display (L0 := (t3 w.params).list 67) (by rw [hL]; rfl) (by decide +kernel) (by decide +kernel) (by decide +kernel) (by decide +kernel) rfl (by rw [← b3_parts, b3_len]; decide) (by rw [← b3_parts]; exact b3_inB) ?_ ?_
  · rw [← b3_parts]
    show (List.Pairwise _ ([] ++ _))
    rw [List.nil_append]
    exact incr_pw _ b3_incr
  · intro q'
    dsimp only
    apply RT.bind
    rw [swapped10]
    apply RT.pure
    rw [hL]
    have e : ({ (sT t3 67 315 w os).abs with heap := yT.heap ((t3 w.params).list 67), toks := yT.t } : Shared) = (sT t4d 106 2265 w os).abs := by
      rw [y_heap, y_t]; rfl
    show RT w _ _ _ ({ (sT t3 67 315 w os).abs with heap := yT.heap ((t3 w.params).list 67), toks := yT.t } : Shared) _
    rw [e]
    exact RT.goT (fun K H gd lv => tail10 w os q' K H gd lv) ⟨rfl, rfl, rfl⟩
  · decide +kernel

theorem h_4 (w : World) (os : OsState) : segRun treeTable PySem.Challenge.pw_re0157_01 w 11 (some (.ref 6)) 1 40001 (sT t3 67 315 w os).abs (piecesOf [stA 10] envT cT ⟨80, 0, 81, 30⟩ [topFrame z4]) =
    some (.next, (sT t4 106 2266 w os).abs, cT, ⟨82, 0, 82, 13⟩) := by
  have h : RT w 40000 (execs [stA 10] envT) (fun f s' q' => f = .next ∧ s' = (sT t4 106 2266 w os).abs ∧ q' = ⟨82, 0, 82, 13⟩) (sT t3 67 315 w os).abs ⟨80, 0, 81, 30⟩ := by
    rw [execs_cons]
    apply RT.bind (B₂ := 0) ((run10 w os _).mono ?_)
    rintro f s' q' ⟨rfl, rfl, rfl⟩
    exact RT.pure ⟨rfl, rfl, rfl⟩
  obtain ⟨f, s', q', ⟨rfl, rfl, rfl⟩, n, hb, hn⟩ := h
  have := hn doneF deadEnd id id (40001 - n) (.next, (sT t4 106 2266 w os).abs, cT, ⟨82, 0, 82, 13⟩) (by
    obtain ⟨k, hk⟩ : ∃ k, 40001 - n = k + 1 := ⟨40000 - n, by omega⟩
    rw [hk]; rfl)
  rw [show n + (40001 - n) = 40001 by omega] at this
  exact this
end
end Mine

-- part HeadC
set_option Elab.async false
set_option maxRecDepth 100000
set_option maxHeartbeats 4000000
set_option linter.unusedVariables false
namespace Mine
open PySem PySem.W PySem.Calls PyProof.Rows
noncomputable def heapK (P : Params) : Frag :=
  (nat_lit 2, boot_o_2 P) ::
  (nat_lit 3, o3_5 P) ::
  (nat_lit 6, boot_o_6 P) ::
  (nat_lit 15, o15_1 P) ::
  (nat_lit 16, o16_1 P) ::
  (nat_lit 17, o17_1 P) ::
  (nat_lit 19, o19_1 P) ::
  (nat_lit 20, o20_1 P) ::
  (nat_lit 22, o22_1 P) ::
  (nat_lit 23, o23_1 P) ::
  (nat_lit 24, o24_1 P) ::
  (nat_lit 25, o25_1 P) ::
  (nat_lit 26, o26_1 P) ::
  (nat_lit 28, o28_1 P) ::
  (nat_lit 29, o29_1 P) ::
  (nat_lit 31, o31_1 P) ::
  (nat_lit 32, o32_1 P) ::
  (nat_lit 33, o33_1 P) ::
  (nat_lit 34, o34_1 P) ::
  (nat_lit 35, o35_1 P) ::
  (nat_lit 37, o37_1 P) ::
  (nat_lit 38, o38_1 P) ::
  (nat_lit 40, o40_1 P) ::
  (nat_lit 41, o41_1 P) ::
  (nat_lit 42, o42_1 P) ::
  (nat_lit 44, o44_1 P) ::
  (nat_lit 45, o45_1 P) ::
  (nat_lit 47, o47_1 P) ::
  (nat_lit 48, o48_1 P) ::
  (nat_lit 56, o56_2 P) ::
  (nat_lit 60, o60_3 P) ::
  (nat_lit 62, o62_3 P) ::
  (nat_lit 63, o63_3 P) ::
  (nat_lit 65, o65_3 P) ::
  (nat_lit 66, o66_3 P) ::
  (nat_lit 67, o67_4d P) ::
  (nat_lit 106, o106_5 P) ::
  (nat_lit 108, o108_5 P) ::
  (nat_lit 109, o109_5 P) ::
  (nat_lit 111, o111_5 P) ::
  (nat_lit 112, o112_5 P) ::
  (nat_lit 113, o113_5 P) ::
  (nat_lit 115, o115_5 P) ::
  (nat_lit 116, o116_5 P) ::
  (nat_lit 118, o118_5 P) ::
  (nat_lit 119, o119_5 P) ::
  (nat_lit 120, o120_5 P) ::
  (nat_lit 122, o122_5 P) ::
  (nat_lit 123, o123_5 P) ::
  (nat_lit 125, o125_5 P) ::
  (nat_lit 126, o126_5 P) ::
  (nat_lit 127, o127_5 P) ::
  (nat_lit 129, o129_5 P) ::
  (nat_lit 130, o130_5 P) ::
  (nat_lit 132, o132_5 P) ::
  (nat_lit 133, o133_5 P) ::
  (nat_lit 134, o134_5 P) ::
  (nat_lit 136, o136_5 P) ::
  (nat_lit 137, o137_5 P) ::
  (nat_lit 139, o139_5 P) ::
  (nat_lit 140, o140_5 P) ::
  (nat_lit 141, o141_5 P) ::
  (nat_lit 143, o143_5 P) ::
  (nat_lit 144, o144_5 P) ::
  (nat_lit 146, o146_5 P) ::
  (nat_lit 147, o147_5 P) ::
  (nat_lit 148, o148_5 P) ::
  (nat_lit 150, o150_5 P) ::
  (nat_lit 151, o151_5 P) ::
  (nat_lit 153, o153_5 P) ::
  (nat_lit 154, o154_5 P) ::
  (nat_lit 155, o155_5 P) ::
  (nat_lit 158, o158_5 P) ::
  (nat_lit 159, o159_5 P) :: []
def asK : List Addr := [2, 3, 6, 15, 16, 17, 19, 20, 22, 23, 24, 25, 26, 28, 29, 31, 32, 33, 34, 35, 37, 38, 40, 41, 42, 44, 45, 47, 48, 56, 60, 62, 63, 65, 66, 67, 106, 108, 109, 111, 112, 113, 115, 116, 118, 119, 120, 122, 123, 125, 126, 127, 129, 130, 132, 133, 134, 136, 137, 139, 140, 141, 143, 144, 146, 147, 148, 150, 151, 153, 154, 155, 158, 159]
theorem h_2 : ∀ (w : World) (os : OsState), segRunT treeTable PySem.Challenge.pw_re0157_01 w 11 (some (.ref 6)) 1 999 (sT t1 49 248 w os) (piecesOf [stA 8] envT cT ⟨78, 0, 78, 8⟩ [topFrame z4]) =
    some (.next, sT t2 60 308 w os, cT, ⟨79, 0, 79, 6⟩) := by
  have h : ∀ w : World, (fun os => segRunT treeTable PySem.Challenge.pw_re0157_01 w 11 (some (.ref 6)) 1 999 (sT t1 49 248 w os) ⟨(execs [stA 8] envT).wrap doneF deadEnd id id, cT, ⟨78, 0, 78, 8⟩, [topFrame z4]⟩) = fun os => some (.next, sT t2 60 308 w os, cT, ⟨79, 0, 79, 6⟩) := by
    rw [PySem.W.Fast.te10110043849684766642, PySem.W.Fast.te14364793385576792824, PySem.W.Fast.te12563942051412417395]
    exact byRow2 "set-order" (byRow2 "special-get-raises" (fun w => by kernel_rfl) (fun w => by kernel_rfl)) (byRow2 "special-get-raises" (fun w => by kernel_rfl) (fun w => by kernel_rfl))
  exact fun w os => congrFun (h w) os

noncomputable def sF (w : World) (os : OsState) : Shared := ⟨absHeap (t5 w.params) 160 {}, Array.mk [], {}, 2336, os⟩
theorem h_fin : ∀ (w : World) (os : OsState), topRun treeTable PySem.Challenge.pw_re0157_01 w 11 (some (.ref 6)) 2 (sT t5 160 2336 w os).abs ⟨doneF .next, cT, ⟨117, 0, 140, 52⟩, [topFrame z4]⟩ = some (sF w os) := fun w os => by kernel_rfl
theorem h_body : bT = g1 ++ ([stA 8] ++ ([stA 9] ++ ([stA 10] ++ (g5 ++ [])))) := by kernel_rfl
theorem h_run (w : World) (os : OsState) : topRun treeTable PySem.Challenge.pw_re0157_01 w 11 (some (.ref 6)) 49000 ⟨boot_heap w.params, Array.mk [], boot_drawn, boot_toks, os⟩ (topStub PySem.Challenge.pw_re0157_01) = some (sF w os) := by
  have k6 : topRun treeTable PySem.Challenge.pw_re0157_01 w 11 (some (.ref 6)) 2 (sT t5 160 2336 w os).abs (restOf [] envT cT ⟨117, 0, 140, 52⟩ [topFrame z4]) = some (sF w os) := piece_nil (h_fin w os)
  have k5 := piece_app (segRun_of (h_5 w os)) k6
  have k4 := piece_app (h_4 w os) k5
  have k3 := piece_app (segRun_of (h_3 w os)) k4
  have k2 := piece_app (segRun_of (h_2 w os)) k3
  have k1 := piece_app (segRun_of (h_1 w os)) k2
  rw [← h_body] at k1
  have kb : segRun treeTable PySem.Challenge.pw_re0157_01 w 11 (some (.ref 6)) 1 1 (sT t0 15 187 w os).abs (blockOf bT envT cT z4 [topFrame z4]) = some (.next, (sT t0 15 187 w os).abs, cT, z4) := by kernel_rfl
  have k0 := go_top (h_pre w os) (piece_block kb k1)
  have := topRun_mono (49000 - (12 + (1 + (193 + (999 + (30 + (40001 + (252 + 2)))))))) _ _ _ _ k0
  exact this
theorem h_openN : ∀ w : World, (fencedOpening treeTable PySem.Challenge.pw_re0157_01 w 50000).map (fun s => (s.heap, s.gens, s.drawn, s.toks)) = some (boot_heap w.params, Array.mk [], boot_drawn, boot_toks) :=
  boot_open (by kernel_rfl) (by decide) (fun s => by kernel_rfl)

/-- the part of the text that the head looks at -/
def qV : Program := { PySem.Challenge.pw_re0157_01 with main := { PySem.Challenge.pw_re0157_01.main with body := [stA 5, stA 6, stA 8, stA 9, stA 10, stA 11, stA 13, stA 14, stA 15, stA 16, stA 17, stA 18, stA 19] } }
def lsV : List Str := [Str.ofString "bisect_right", Str.ofString "insort_left", Str.ofString "bisect_left", Str.ofString "b1_set", Str.ofString "b3_exceptions"]
theorem as_eq : ∀ P, asK = (heapK P).map (·.1) := fun _ => by kernel_rfl
noncomputable abbrev hkV : Hook := kmHook heapK asK as_eq [149]
abbrev rV : RowW := PySem.Challenge.rw_re0157_01.row.toRowW
theorem h_looks : ∀ w : World, (fun os => ((staticsOk (importedModules PySem.Challenge.pw_re0157_01.main.body) (boot_heap w.params) (absHeap (t5 w.params) 160 {}) && namesBound PySem.Challenge.pw_re0157_01 (absHeap (t5 w.params) 160 {}) && gensDone (sF w os) && laidKept (boot_heap w.params) (absHeap (t5 w.params) 160 {})),
        openSeen qV lsV (importedModules PySem.Challenge.pw_re0157_01.main.body) (fun s => xlAt qV [] s && recOk (RowW.records rV) s) true (sF w os), hkV.obs (sF w os))) = fun _ => (true, openGood qV lsV, hkV.val w) := fun w => by
  funext os
  refine looks_pair ?_ (looks_pair ?_ ?_)
  · kernel_rfl
  · rw [PySem.W.Fast.te4187177175401517315]
    kernel_rfl
  · kernel_rfl
theorem leftV : LeftO PySem.Challenge.pw_re0157_01 qV lsV (fun s => xlAt qV [] s && recOk (RowW.records rV) s) hkV.obs hkV.val 50000 :=
  LeftO.of_pieces (H₁ := fun P => absHeap (t5 P) 160 {}) (gs₁ := Array.mk []) (d₁ := {}) (k₁ := 2336) h_openN h_size (fun w os => h_run w os) (by decide) h_looks
end Mine

-- part Rules
set_option Elab.async false
set_option maxRecDepth 100000
set_option maxHeartbeats 4000000
set_option linter.unusedVariables false
namespace Mine
open PySem PySem.W PyProof.Rows PySem.Spec PySem.Calls PyProof.V

section
variable {prog : Program} {w : World} {A : Around} {E : Value → Shared → Prop} {s : Shared} {env : Env} {h₀ : Heap} {x : Str} {body : List Stmt} {Q : Flow → Shared → Prop}

/-- where a turn of a loop that stores nothing but its own name may end -/
def TurnE (h₀ : Heap) (L : Addr) (x : Str) (m₀ : Str → Option Value) (led : List (Addr × Obj)) (s₁ : Shared) (P : Prop) (s₂ : Shared) : Prop :=
  P ∧ ∃ h' tk' m', s₂ = { s₁ with heap := h', toks := tk' } ∧ Fr h₀ L h' m' ∧ (∀ y, y ≠ x → m' y = m₀ y) ∧ News h₀ L h' led
theorem TurnE.intro {h₀ : Heap} {L : Addr} {x : Str} {m₀ m' : Str → Option Value} {led led' : List (Addr × Obj)} {s₁ : Shared} {h' : Heap} {tk' : Nat} {P : Prop} (F : Fr h₀ L h' m') (N : News h₀ L h' led') (hn : ∀ p ∈ led, p ∈ led') (hm : ∀ y, y ≠ x → m' y = m₀ y) (hp : P) : TurnE h₀ L x m₀ led s₁ P { s₁ with heap := h', toks := tk' } :=
  ⟨hp, h', tk', m', rfl, F, hm, fun p hp => N p (hn p hp)⟩
def TurnR (h₀ : Heap) (L : Addr) (x : Str) (m₀ : Str → Option Value) (led : List (Addr × Obj)) (s₁ : Shared) (P : Prop) (Q : Flow → Shared → Prop) (f : Flow) (s₂ : Shared) : Prop :=
  match f with
  | .ret v => Q (.ret v) s₂
  | .brk => Q .next s₂
  | _ => TurnE h₀ L x m₀ led s₁ P s₂

theorem range_loop {r : Addr} {a₀ b₀ : Int} {t₀ u₀ v₀ : Tok} {n : Nat} {m₀ : Str → Option Value} {news : List (Addr × Obj)} (P : Nat → Prop)
    (hh : A.handled = none) (hr : IsRange s.heap r a₀ b₀ 1 t₀ u₀ v₀) (hsmall : Builtin.Range.small a₀ b₀ 1 = true) (hn : Builtin.Range.rangeSize a₀ b₀ 1 = (n : Int)) (F : Fr h₀ env.locals s.heap m₀) (N : News h₀ env.locals s.heap news) (hp : P 0)
    (turn : ∀ i t h tk own, i < n → P i → Fr h₀ env.locals h (fun y => if y = x then some (.int (a₀ + (i : Int)) t) else m₀ y) → News h₀ env.locals h (own ++ news) →
      wpAny (model prog w) A (execs body env) (TurnR h₀ env.locals x m₀ (own ++ news) { s with heap := h, toks := tk } (P (i + 1)) Q) E { s with heap := h, toks := tk })
    (done : ∀ (u : Str → Option Value) h tk, P n → Fr h₀ env.locals h (fun y => if y = x then u y else m₀ y) → News h₀ env.locals h news → Q .next { s with heap := h, toks := tk }) :
    wpAny (model prog w) A (pyIter (.ref r)) (fun it s₂ => LoopAtV prog w A h₀ env x body Q E it s₂) E s := by
  refine wpAny_pyIter_range hr hsmall ?_
  have W : Walks prog w A s.heap.objs.size [s.heap.objs.size] [s.heap.objs.size] n (fun i v => i < n ∧ ∃ t, v = .int (a₀ + i * 1) t)
      (fun i h => IsRangeIter h s.heap.objs.size (a₀ + (i : Nat) * 1) ((n : Int) - (i : Nat)) 1) := (Walks.range hh _ a₀ 1 n).bound
  refine loop_invN (fun i m nx => nx = news ∧ (∀ y, y ≠ x → m y = m₀ y) ∧ P i) W ?_ ?_ ?_ ?_ (by show IsRangeIter _ _ _ _ _; rw [hn]; simpa using Heap.get?_push_size _ rfl) (F.push _) (fun p hp => ⟨Heap.get?_push_of_some _ (N p hp).1, (N p hp).2⟩) ⟨rfl, fun _ _ => rfl, hp⟩ ?_ ?_
  · intro hm
    exact absurd F.ns.lt ((List.mem_singleton.mp hm) ▸ Nat.lt_irrefl _)
  · intro b hb
    rw [List.mem_singleton.mp hb]
    exact next_is_new F
  · intro p hp hI
    exact absurd (Heap.lt_size (N p hp).1) ((List.mem_singleton.mp hI) ▸ Nat.lt_irrefl _)
  · intro p hp hI
    exact absurd (Heap.lt_size (N p hp).1) ((List.mem_singleton.mp hI) ▸ Nat.lt_irrefl _)
  · rintro i v m₁ nx h tk own hi ⟨_, t, rfl⟩ _ hoff ⟨rfl, hm, hP⟩ F₁ N₁
    have e1 : a₀ + (i : Int) * 1 = a₀ + (i : Int) := by omega
    have e2 : (fun y => if y = x then some (Value.int (a₀ + (i : Int) * 1) t) else m₁ y) = fun y => if y = x then some (Value.int (a₀ + (i : Int)) t) else m₀ y := by
      funext y
      by_cases h1 : y = x
      · simp [h1]
      · simp only [if_neg h1]; exact hm y h1
    rw [e2] at F₁
    have N₂ : News h₀ env.locals h (own ++ nx) := fun p hp => N₁ p ((List.mem_append.mp hp).elim (fun h => List.mem_append.mpr (.inr h)) fun h => List.mem_append.mpr (.inl h))
    refine wpAny_mono (turn i t h tk own hi hP F₁ N₂) (fun f s₂ p => ?_) fun _ _ e => e
    have up : TurnE h₀ env.locals x m₀ (own ++ nx) { s with heap := h, toks := tk } (P (i + 1)) s₂ →
        InvEndN h₀ env.locals (fun m nx' => nx' = nx ∧ (∀ y, y ≠ x → m y = m₀ y) ∧ P (i + 1)) own (nx.map (·.1)) { s with heap := h, toks := tk } s₂ := by
      rintro ⟨hP', h', tk', m', e, F', hm', N'⟩
      exact ⟨h', tk', m', own ++ nx, nx, e, F', N', fun p hp => List.mem_append_right _ hp, fun p hp => List.mem_append_left _ hp, rfl, rfl, hm', hP'⟩
    cases f with
    | ret v => exact p
    | brk => exact p
    | next => exact up p
    | cont => exact up p
  · rintro m₁ nx h tk ⟨rfl, hm, hP⟩ F₁ N₁
    refine done m₁ h tk hP ?_ N₁
    have e : (fun y => if y = x then m₁ y else m₀ y) = m₁ := by
      funext y
      by_cases h1 : y = x
      · simp [h1]
      · simp only [if_neg h1]; exact (hm y h1).symm
    rw [e]; exact F₁

theorem range_for {r : Addr} {a₀ b₀ : Int} {t₀ u₀ v₀ : Tok} {m₀ : Str → Option Value} {news : List (Addr × Obj)} (n : Nat) (P : Nat → Prop)
    (hh : A.handled = none) (hr : IsRange s.heap r a₀ b₀ 1 t₀ u₀ v₀) (hn : n = (b₀ - a₀).toNat) (h1 : -(2 ^ 62) ≤ a₀) (h2 : a₀ < 2 ^ 62) (h3 : -(2 ^ 62) ≤ b₀) (h4 : b₀ < 2 ^ 62) (F : Fr h₀ env.locals s.heap m₀) (N : News h₀ env.locals s.heap news) (hp : P 0)
    (turn : ∀ i t h tk own, i < n → P i → Fr h₀ env.locals h (fun y => if y = x then some (.int (a₀ + (i : Int)) t) else m₀ y) → News h₀ env.locals h (own ++ news) →
      wpAny (model prog w) A (execs body env) (TurnR h₀ env.locals x m₀ (own ++ news) { s with heap := h, toks := tk } (P (i + 1)) Q) E { s with heap := h, toks := tk })
    (done : ∀ (u : Str → Option Value) h tk, P n → Fr h₀ env.locals h (fun y => if y = x then u y else m₀ y) → News h₀ env.locals h news → Q .next { s with heap := h, toks := tk }) :
    wpAny (model prog w) A (pyIter (.ref r)) (fun it s₂ => LoopAtV prog w A h₀ env x body Q E it s₂) E s :=
  range_loop P hh hr (small_one h1 h2 h3 h4) (by rw [rangeSize_one, hn]; split <;> omega) F N hp turn done

/-- a while by a measure over states -/
theorem while_rule {test : PySem.Expr} {orelse : List Stmt} (J : Nat → Shared → Prop) (hE : PassesOwn (model prog w) A env E)
    (turn : ∀ n s, J n s → wpAny (model prog w) A (isTrue test env (PySem.eval test env)) (fun b s₂ => WhlIf b (wpAny (model prog w) A (execs body env) (fun f s₃ => match f with
        | .ret v => Q (.ret v) s₃
        | .brk => Q .next s₃
        | _ => ∃ k, k < n ∧ J k s₃) E s₂) (wpAny (model prog w) A (execs orelse env) Q E s₂)) E s) :
    ∀ n s, J n s → WhlRest prog w A E env test body orelse Q 0 s := by
  intro n
  induction n using Nat.strongRecOn with
  | ind n ih =>
    intro s hs
    refine whl_turn (k := 0) hE ?_
    refine wpAny_mono (turn n s hs) (fun b s₂ h₂ => ?_) fun _ _ e => e
    unfold WhlIf at h₂ ⊢
    cases b with
    | false => exact h₂
    | true =>
      rw [if_pos rfl] at h₂ ⊢
      refine wpAny_mono h₂ (fun f s₃ h₃ => ?_) fun _ _ e => e
      cases f with
      | ret v => exact h₃
      | brk => exact h₃
      | next => obtain ⟨k, hk, hJ⟩ := h₃; exact ih k hk s₃ hJ
      | cont => obtain ⟨k, hk, hJ⟩ := h₃; exact ih k hk s₃ hJ

/-- the end of a turn of a while that turns one int -/
def WE1 (h₀ : Heap) (L : Addr) (y : Str) (m₀ : Str → Option Value) (news : List (Addr × Obj)) (s : Shared) (I : Int → Prop) (μ : Int → Nat) (n : Nat) (s₂ : Shared) : Prop :=
  ∃ a' t' h' tk' m', I a' ∧ μ a' < n ∧ s₂ = { s with heap := h', toks := tk' } ∧ Fr h₀ L h' m' ∧ m' y = some (.int a' t') ∧ (∀ z, z ≠ y → m' z = m₀ z) ∧ News h₀ L h' news
theorem WE1.intro {L : Addr} {y : Str} {m₀ m' : Str → Option Value} {news news' : List (Addr × Obj)} {I : Int → Prop} {μ : Int → Nat} {n : Nat} {a' : Int} {t' : Tok} {h' : Heap} {tk' : Nat} (F : Fr h₀ L h' m') (N : News h₀ L h' news') (hn : ∀ p ∈ news, p ∈ news') (hv : m' y = some (.int a' t')) (hm : ∀ z, z ≠ y → m' z = m₀ z) (hI : I a') (hμ : μ a' < n) :
    WE1 h₀ L y m₀ news s I μ n { s with heap := h', toks := tk' } := ⟨a', t', h', tk', m', hI, hμ, rfl, F, hv, hm, fun p hp => N p (hn p hp)⟩
def WP1 (h₀ : Heap) (L : Addr) (y : Str) (m₀ : Str → Option Value) (news : List (Addr × Obj)) (s : Shared) (I : Int → Prop) (μ : Int → Nat) (n : Nat) (Q : Flow → Shared → Prop) (f : Flow) (s₂ : Shared) : Prop :=
  match f with
  | .ret v => Q (.ret v) s₂
  | .brk => Q .next s₂
  | _ => WE1 h₀ L y m₀ news s I μ n s₂
theorem fr_one {L : Addr} {h : Heap} {y : Str} {m₀ m' : Str → Option Value} {v : Value} (F : Fr h₀ L h m') (hv : m' y = some v) (hm : ∀ z, z ≠ y → m' z = m₀ z) : Fr h₀ L h (fun z => if z = y then some v else m₀ z) := by
  have e : (fun z => if z = y then some v else m₀ z) = m' := by
    funext z
    by_cases h1 : z = y
    · rw [if_pos h1, h1, hv]
    · rw [if_neg h1, hm z h1]
  rw [e]; exact F
theorem while1 {test : PySem.Expr} {orelse : List Stmt} {pos : Pos} {y : Str} {m₀ : Str → Option Value} {news : List (Addr × Obj)} {a₀ : Int} {t₀ : Tok} (I : Int → Prop) (μ : Int → Nat) (hE : PassesOwn (model prog w) A env E)
    (F : Fr h₀ env.locals s.heap (fun z => if z = y then some (.int a₀ t₀) else m₀ z)) (N : News h₀ env.locals s.heap news) (hI : I a₀)
    (turn : ∀ a t h tk, I a → Fr h₀ env.locals h (fun z => if z = y then some (.int a t) else m₀ z) → News h₀ env.locals h news →
      wpAny (model prog w) A (isTrue test env (PySem.eval test env)) (fun b s₂ => WhlIf b (wpAny (model prog w) A (execs body env) (WP1 h₀ env.locals y m₀ news s I μ (μ a) Q) E s₂) (wpAny (model prog w) A (execs orelse env) Q E s₂)) E { s with heap := h, toks := tk }) :
    wpAny (model prog w) A (exec (.While test body orelse pos) env) Q E s := by
  refine whl_start 0 (while_rule (fun n s' => ∃ a t h tk, μ a = n ∧ I a ∧ s' = { s with heap := h, toks := tk } ∧ Fr h₀ env.locals h (fun z => if z = y then some (.int a t) else m₀ z) ∧ News h₀ env.locals h news) hE ?_ (μ a₀) s ⟨a₀, t₀, s.heap, s.toks, rfl, hI, rfl, F, N⟩)
  rintro n s' ⟨a, t, h, tk, rfl, hI', rfl, F', N'⟩
  refine wpAny_mono (turn a t h tk hI' F' N') (fun b s₂ h₂ => ?_) fun _ _ e => e
  unfold WhlIf at h₂ ⊢
  cases b with
  | false => exact h₂
  | true =>
    rw [if_pos rfl] at h₂ ⊢
    refine wpAny_mono h₂ (fun f s₃ h₃ => ?_) fun _ _ e => e
    have up : WE1 h₀ env.locals y m₀ news s I μ (μ a) s₃ → ∃ k, k < μ a ∧ ∃ a t h tk, μ a = k ∧ I a ∧ s₃ = { s with heap := h, toks := tk } ∧ Fr h₀ env.locals h (fun z => if z = y then some (.int a t) else m₀ z) ∧ News h₀ env.locals h news := by
      rintro ⟨a', t', h', tk', m', hI, hμ, e, F, hv, hm, N⟩
      exact ⟨μ a', hμ, a', t', h', tk', rfl, hI, e, fr_one F hv hm, N⟩
    cases f with
    | ret v => exact h₃
    | brk => exact h₃
    | next => exact up h₃
    | cont => exact up h₃

/-- the end of a turn of a while that turns two ints, and forgets a third name -/
def WE2 (h₀ : Heap) (L : Addr) (y₁ y₂ y₃ : Str) (m₀ : Str → Option Value) (news : List (Addr × Obj)) (s : Shared) (I : Int → Int → Prop) (μ : Int → Int → Nat) (n : Nat) (s₂ : Shared) : Prop :=
  ∃ a b t u h' tk' m', I a b ∧ μ a b < n ∧ s₂ = { s with heap := h', toks := tk' } ∧ Fr h₀ L h' m' ∧ m' y₁ = some (.int a t) ∧ m' y₂ = some (.int b u) ∧ (∀ z, z ≠ y₁ → z ≠ y₂ → z ≠ y₃ → m' z = m₀ z) ∧ News h₀ L h' news
theorem WE2.intro {L : Addr} {y₁ y₂ y₃ : Str} {m₀ m' : Str → Option Value} {news news' : List (Addr × Obj)} {I : Int → Int → Prop} {μ : Int → Int → Nat} {n : Nat} {a b : Int} {t u : Tok} {h' : Heap} {tk' : Nat} (F : Fr h₀ L h' m') (N : News h₀ L h' news') (hn : ∀ p ∈ news, p ∈ news') (hv : m' y₁ = some (.int a t)) (hv' : m' y₂ = some (.int b u))
    (hm : ∀ z, z ≠ y₁ → z ≠ y₂ → z ≠ y₃ → m' z = m₀ z) (hI : I a b) (hμ : μ a b < n) :
    WE2 h₀ L y₁ y₂ y₃ m₀ news s I μ n { s with heap := h', toks := tk' } := ⟨a, b, t, u, h', tk', m', hI, hμ, rfl, F, hv, hv', hm, fun p hp => N p (hn p hp)⟩
def WP2 (h₀ : Heap) (L : Addr) (y₁ y₂ y₃ : Str) (m₀ : Str → Option Value) (news : List (Addr × Obj)) (s : Shared) (I : Int → Int → Prop) (μ : Int → Int → Nat) (n : Nat) (Q : Flow → Shared → Prop) (f : Flow) (s₂ : Shared) : Prop :=
  match f with
  | .ret v => Q (.ret v) s₂
  | .brk => Q .next s₂
  | _ => WE2 h₀ L y₁ y₂ y₃ m₀ news s I μ n s₂
theorem while2 {test : PySem.Expr} {orelse : List Stmt} {pos : Pos} (y₁ y₂ y₃ : Str) {m : Str → Option Value} {news : List (Addr × Obj)} {a₀ b₀ : Int} {t₀ u₀ : Tok} (I : Int → Int → Prop) (μ : Int → Int → Nat) (hE : PassesOwn (model prog w) A env E)
    (F : Fr h₀ env.locals s.heap m) (hv : m y₁ = some (.int a₀ t₀)) (hv' : m y₂ = some (.int b₀ u₀)) (N : News h₀ env.locals s.heap news) (hI : I a₀ b₀)
    (turn : ∀ a b t u (v : Str → Option Value) h tk, I a b → Fr h₀ env.locals h (fun z => if z = y₁ then some (.int a t) else if z = y₂ then some (.int b u) else if z = y₃ then v z else m z) → News h₀ env.locals h news →
      wpAny (model prog w) A (isTrue test env (PySem.eval test env)) (fun c s₂ => WhlIf c (wpAny (model prog w) A (execs body env) (WP2 h₀ env.locals y₁ y₂ y₃ m news s I μ (μ a b) Q) E s₂) (wpAny (model prog w) A (execs orelse env) Q E s₂)) E { s with heap := h, toks := tk }) :
    wpAny (model prog w) A (exec (.While test body orelse pos) env) Q E s := by
  have norm : ∀ {h : Heap} {m' : Str → Option Value} {a b : Int} {t u : Tok}, Fr h₀ env.locals h m' → m' y₁ = some (.int a t) → m' y₂ = some (.int b u) → (∀ z, z ≠ y₁ → z ≠ y₂ → z ≠ y₃ → m' z = m z) →
      Fr h₀ env.locals h (fun z => if z = y₁ then some (.int a t) else if z = y₂ then some (.int b u) else if z = y₃ then m' z else m z) := by
    intro h m' a b t u F h1 h2 hm
    have e : (fun z => if z = y₁ then some (.int a t) else if z = y₂ then some (.int b u) else if z = y₃ then m' z else m z) = m' := by
      funext z
      by_cases q1 : z = y₁
      · rw [if_pos q1, q1, h1]
      · rw [if_neg q1]
        by_cases q2 : z = y₂
        · rw [if_pos q2, q2, h2]
        · rw [if_neg q2]
          by_cases q3 : z = y₃
          · rw [if_pos q3]
          · rw [if_neg q3, hm z q1 q2 q3]
    rw [e]; exact F
  refine whl_start 0 (while_rule (fun n s' => ∃ a b t u h tk m', μ a b = n ∧ I a b ∧ s' = { s with heap := h, toks := tk } ∧ Fr h₀ env.locals h m' ∧ m' y₁ = some (.int a t) ∧ m' y₂ = some (.int b u) ∧ (∀ z, z ≠ y₁ → z ≠ y₂ → z ≠ y₃ → m' z = m z) ∧ News h₀ env.locals h news) hE ?_ (μ a₀ b₀) s
    ⟨a₀, b₀, t₀, u₀, s.heap, s.toks, m, rfl, hI, rfl, F, hv, hv', fun _ _ _ _ => rfl, N⟩)
  rintro n s' ⟨a, b, t, u, h, tk, m', rfl, hI', rfl, F', h1, h2, hm, N'⟩
  refine wpAny_mono (turn a b t u m' h tk hI' (norm F' h1 h2 hm) N') (fun c s₂ h₂ => ?_) fun _ _ e => e
  unfold WhlIf at h₂ ⊢
  cases c with
  | false => exact h₂
  | true =>
    rw [if_pos rfl] at h₂ ⊢
    refine wpAny_mono h₂ (fun f s₃ h₃ => ?_) fun _ _ e => e
    have up : WE2 h₀ env.locals y₁ y₂ y₃ m news s I μ (μ a b) s₃ → ∃ k, k < μ a b ∧ ∃ a b t u h tk m', μ a b = k ∧ I a b ∧ s₃ = { s with heap := h, toks := tk } ∧ Fr h₀ env.locals h m' ∧ m' y₁ = some (.int a t) ∧ m' y₂ = some (.int b u) ∧ (∀ z, z ≠ y₁ → z ≠ y₂ → z ≠ y₃ → m' z = m z) ∧ News h₀ env.locals h news := by
      rintro ⟨a', b', t', u', h', tk', m', hI, hμ, e, F, hv, hv', hm, N⟩
      exact ⟨μ a' b', hμ, a', b', t', u', h', tk', m', rfl, hI, e, F, hv, hv', hm, N⟩
    cases f with
    | ret v => exact h₃
    | brk => exact h₃
    | next => exact up h₃
    | cont => exact up h₃
end
/-- the end of a turn of a for over a written list: what is left to walk is r -/
def ListE (h₀ : Heap) (L : Addr) (led : List (Addr × Obj)) (s₁ : Shared) (J : (Str → Option Value) → Prop) (s₂ : Shared) : Prop :=
  ∃ h' tk' m', s₂ = { s₁ with heap := h', toks := tk' } ∧ Fr h₀ L h' m' ∧ J m' ∧ News h₀ L h' led
theorem ListE.intro {h₀ : Heap} {L : Addr} {m' : Str → Option Value} {led led' : List (Addr × Obj)} {s₁ : Shared} {h' : Heap} {tk' : Nat} {J : (Str → Option Value) → Prop} (F : Fr h₀ L h' m') (N : News h₀ L h' led') (hn : ∀ p ∈ led, p ∈ led') (hj : J m') : ListE h₀ L led s₁ J { s₁ with heap := h', toks := tk' } :=
  ⟨h', tk', m', rfl, F, hj, fun p hp => N p (hn p hp)⟩
def ListR (h₀ : Heap) (L : Addr) (led : List (Addr × Obj)) (s₁ : Shared) (J : (Str → Option Value) → Prop) (Q : Flow → Shared → Prop) (f : Flow) (s₂ : Shared) : Prop :=
  match f with
  | .ret v => Q (.ret v) s₂
  | .brk => Q .next s₂
  | _ => ListE h₀ L led s₁ J s₂
section
variable {prog : Program} {w : World} {A : Around} {E : Value → Shared → Prop} {s : Shared} {env : Env} {h₀ : Heap} {x : Str} {body : List Stmt} {Q : Flow → Shared → Prop}
theorem list_for {ax : Addr} {lo : Obj} {vs : List Value} {n : Nat} {m₀ : Str → Option Value} {news : List (Addr × Obj)} (J : List Value → (Str → Option Value) → Prop)
    (hh : A.handled = none) (F : Fr h₀ env.locals s.heap m₀) (N : News h₀ env.locals s.heap news) (hm : (ax, lo) ∈ news) (hc : lo.cls = .type "list") (hd : lo.data = .seq vs.toArray n) (hj : J vs m₀)
    (turn : ∀ v r m₁ h tk own, J (v :: r) m₁ → Fr h₀ env.locals h (fun y => if y = x then some v else m₁ y) → News h₀ env.locals h (own ++ news) →
      wpAny (model prog w) A (execs body env) (ListR h₀ env.locals (own ++ news) { s with heap := h, toks := tk } (J r) Q) E { s with heap := h, toks := tk })
    (done : ∀ m₁ h tk, J [] m₁ → Fr h₀ env.locals h m₁ → News h₀ env.locals h news → Q .next { s with heap := h, toks := tk }) :
    wpAny (model prog w) A (pyIter (.ref ax)) (fun it s₂ => LoopAtV prog w A h₀ env x body Q E it s₂) E s := by
  refine iter_listUnr (vs := vs) hh F N hm hc hd fun I hI => ?_
  have off : ∀ p ∈ news, p.1 ≠ I := fun p hp e => absurd (hI p hp) (by rw [e]; exact Nat.lt_irrefl _)
  have key : ∀ (r : List Value) (m : Str → Option Value), J r m → ListRest prog w A E h₀ env x body Q s I (ax, lo) r m news := by
    intro r
    induction r with
    | nil => exact fun m hJ => ListRest.zero fun h tk F' N' => done m h tk hJ F' N'
    | cons v r ih =>
      intro m hJ
      refine ListRest.succ fun it h tk _ F' N' => ?_
      refine wpAny_mono (turn v r m h tk [(I, it)] hJ F' N') (fun f s₂ p => ?_) fun _ _ e => e
      have up : ListE h₀ env.locals ([(I, it)] ++ news) { s with heap := h, toks := tk } (J r) s₂ →
          UnrEnd h₀ env.locals { s with heap := h, toks := tk } I it (fun m' n' => (ax, lo) ∈ n' ∧ ListRest prog w A E h₀ env x body Q s I (ax, lo) r m' n') s₂ := by
        rintro ⟨h', tk', m', rfl, F₂, hj', N₂⟩
        exact UnrEnd.intro F₂ N₂ news (fun p hp => hp) off ⟨hm, ih m' hj'⟩
      cases f with
      | ret v => exact p
      | brk => exact p
      | next => exact up p
      | cont => exact up p
  exact key vs m₀ hj
end
/-- a for over a written list that turns one int beside its own name -/
def LE1 (h₀ : Heap) (L : Addr) (x y : Str) (m₀ : Str → Option Value) (led : List (Addr × Obj)) (s₁ : Shared) (C : Int → Prop) (s₂ : Shared) : Prop :=
  ∃ a t h' tk' m', C a ∧ s₂ = { s₁ with heap := h', toks := tk' } ∧ Fr h₀ L h' m' ∧ m' y = some (.int a t) ∧ (∀ z, z ≠ x → z ≠ y → m' z = m₀ z) ∧ News h₀ L h' led
theorem LE1.intro {h₀ : Heap} {L : Addr} {x y : Str} {m₀ m' : Str → Option Value} {led led' : List (Addr × Obj)} {s₁ : Shared} {a : Int} {t : Tok} {h' : Heap} {tk' : Nat} {C : Int → Prop} (F : Fr h₀ L h' m') (N : News h₀ L h' led') (hn : ∀ p ∈ led, p ∈ led') (hv : m' y = some (.int a t)) (hm : ∀ z, z ≠ x → z ≠ y → m' z = m₀ z) (hc : C a) : LE1 h₀ L x y m₀ led s₁ C { s₁ with heap := h', toks := tk' } :=
  ⟨a, t, h', tk', m', hc, rfl, F, hv, hm, fun p hp => N p (hn p hp)⟩
def LP1 (h₀ : Heap) (L : Addr) (x y : Str) (m₀ : Str → Option Value) (led : List (Addr × Obj)) (s₁ : Shared) (C : Int → Prop) (Q : Flow → Shared → Prop) (f : Flow) (s₂ : Shared) : Prop :=
  match f with
  | .ret v => Q (.ret v) s₂
  | .brk => Q .next s₂
  | _ => LE1 h₀ L x y m₀ led s₁ C s₂
section
variable {prog : Program} {w : World} {A : Around} {E : Value → Shared → Prop} {s : Shared} {env : Env} {h₀ : Heap} {x : Str} {body : List Stmt} {Q : Flow → Shared → Prop}
theorem list_for1 (y : Str) {ax : Addr} {lo : Obj} {vs : List Value} {n : Nat} {m₀ : Str → Option Value} {news : List (Addr × Obj)} {a₀ : Int} {t₀ : Tok} (C : List Value → Int → Prop)
    (hh : A.handled = none) (F : Fr h₀ env.locals s.heap m₀) (hv : m₀ y = some (.int a₀ t₀)) (N : News h₀ env.locals s.heap news) (hm : (ax, lo) ∈ news) (hc : lo.cls = .type "list") (hd : lo.data = .seq vs.toArray n) (hj : C vs a₀)
    (turn : ∀ v r a t h tk own, C (v :: r) a → Fr h₀ env.locals h (fun z => if z = x then some v else if z = y then some (.int a t) else m₀ z) → News h₀ env.locals h (own ++ news) →
      wpAny (model prog w) A (execs body env) (LP1 h₀ env.locals x y m₀ (own ++ news) { s with heap := h, toks := tk } (C r) Q) E { s with heap := h, toks := tk })
    (done : ∀ (u : Str → Option Value) a t h tk, C [] a → Fr h₀ env.locals h (fun z => if z = x then u z else if z = y then some (.int a t) else m₀ z) → News h₀ env.locals h news → Q .next { s with heap := h, toks := tk }) :
    wpAny (model prog w) A (pyIter (.ref ax)) (fun it s₂ => LoopAtV prog w A h₀ env x body Q E it s₂) E s := by
  refine list_for (vs := vs) (fun r m => ∃ a t, C r a ∧ m y = some (.int a t) ∧ ∀ z, z ≠ x → z ≠ y → m z = m₀ z) hh F N hm hc hd ⟨a₀, t₀, hj, hv, fun _ _ _ => rfl⟩ ?_ ?_
  · rintro v r m₁ h tk own ⟨a, t, hC, h1, h2⟩ F' N'
    have e : (fun z => if z = x then some v else m₁ z) = fun z => if z = x then some v else if z = y then some (.int a t) else m₀ z := by
      funext z
      by_cases q : z = x
      · rw [if_pos q, if_pos q]
      · rw [if_neg q, if_neg q]
        by_cases q2 : z = y
        · rw [if_pos q2, q2, h1]
        · rw [if_neg q2, h2 z q q2]
    rw [e] at F'
    refine wpAny_mono (turn v r a t h tk own hC F' N') (fun f s₂ p => ?_) fun _ _ e => e
    have up : LE1 h₀ env.locals x y m₀ (own ++ news) { s with heap := h, toks := tk } (C r) s₂ → ListE h₀ env.locals (own ++ news) { s with heap := h, toks := tk } (fun m => ∃ a t, C r a ∧ m y = some (.int a t) ∧ ∀ z, z ≠ x → z ≠ y → m z = m₀ z) s₂ := by
      rintro ⟨a, t, h', tk', m', hC, rfl, F', hv', hm', N'⟩
      exact ⟨h', tk', m', rfl, F', ⟨a, t, hC, hv', hm'⟩, N'⟩
    cases f with
    | ret v => exact p
    | brk => exact p
    | next => exact up p
    | cont => exact up p
  · rintro m₁ h tk ⟨a, t, hC, h1, h2⟩ F' N'
    refine done m₁ a t h tk hC ?_ N'
    have e : (fun z => if z = x then m₁ z else if z = y then some (Value.int a t) else m₀ z) = m₁ := by
      funext z
      by_cases q : z = x
      · rw [if_pos q]
      · rw [if_neg q]
        by_cases q2 : z = y
        · rw [if_pos q2, q2, h1]
        · rw [if_neg q2, h2 z q q2]
    rw [e]; exact F'
end
theorem whlIf_cases {b : Bool} {T F : Prop} (t : b = true → T) (f : b = false → F) : WhlIf b T F := by
  cases b with
  | true => exact WhlIf.yes rfl (t rfl)
  | false => exact WhlIf.no rfl (f rfl)
def parkN {α : Sort _} (s : α) (n : Nat) : α := if n = 0 then s else parkN s (n - 1)
termination_by n
decreasing_by omega
def park {α : Sort _} (s : α) : α := parkN s 0
theorem park_eq {α : Sort _} (s : α) : park s = s := by unfold park; rw [parkN, if_pos rfl]
theorem park_while (pa : PySem.Expr) (pb pc : List Stmt) (pd : Pos) : Stmt.While pa pb pc pd = park (Stmt.While pa pb pc pd) := (park_eq _).symm
theorem park_assert (pe : PySem.Expr) (pm : Option PySem.Expr) (pp : Pos) : Stmt.Assert pe pm pp = park (Stmt.Assert pe pm pp) := (park_eq _).symm
theorem park_for (pa pb : PySem.Expr) (pc pd : List Stmt) (pe : Pos) : Stmt.For pa pb pc pd pe = park (Stmt.For pa pb pc pd pe) := (park_eq _).symm
end Mine

-- part Plain0
set_option Elab.async false
set_option maxRecDepth 100000
set_option linter.unusedVariables false
namespace Mine
open PySem PySem.W PyProof.Rows PySem.Spec PySem.Calls

/-- a text by its signs' numbers -/
def S (l : List Nat) : Str := ⟨l.toArray⟩
def cl (x : Str) : List Nat := x.cps.toList
theorem S_cl (x : Str) : S (cl x) = x := by cases x; simp [S, cl]
theorem cl_S (l : List Nat) : cl (S l) = l := by simp [S, cl]
theorem cl_len (x : Str) : (cl x).length = x.length := by simp [cl, Str.length]
theorem S_len (l : List Nat) : (S l).length = l.length := by simp [S, Str.length]
theorem S_inj {a b : List Nat} (h : S a = S b) : a = b := by rw [← cl_S a, ← cl_S b, h]

def isPal (l : List Nat) : Bool := decide (l.reverse = l)
theorem isPal_iff {l : List Nat} : isPal l = true ↔ l.reverse = l := by simp [isPal]

/-- the two halves of a word agree up to place i -/
def Half (l : List Nat) (i : Nat) : Prop := ∀ j, j < i → l.getD j 0 = l.getD (l.length - 1 - j) 0
theorem half_zero (l : List Nat) : Half l 0 := fun j h => absurd h (Nat.not_lt_zero _)
theorem half_next {l : List Nat} {i : Nat} (h : Half l i) (e : l.getD i 0 = l.getD (l.length - 1 - i) 0) : Half l (i + 1) := by
  intro j hj
  by_cases q : j = i
  · subst q; exact e
  · exact h j (by omega)
theorem pal_of_half {l : List Nat} (h : Half l (l.length / 2)) : isPal l = true := by
  rw [isPal_iff]
  apply List.ext_getElem (by simp)
  intro i h1 h2
  rw [List.getElem_reverse]
  have hn : ∀ j, (hj : j < l.length) → l.getD j 0 = l[j] := fun j hj => by simp [List.getD_eq_getElem?_getD, hj]
  by_cases a : i < l.length / 2
  · have := h i a
    rw [hn i h2, hn _ (by omega)] at this
    exact this.symm
  · by_cases b : l.length - 1 - i < l.length / 2
    · have := h _ b
      rw [hn _ (by omega), hn _ (by omega)] at this
      rw [this]
      congr 1; omega
    · congr 1; omega
theorem not_pal_of {l : List Nat} {i : Nat} (hi : i < l.length) (e : l.getD i 0 ≠ l.getD (l.length - 1 - i) 0) : isPal l = false := by
  rw [Bool.eq_false_iff]
  intro h
  rw [isPal_iff] at h
  apply e
  have hn : ∀ j, (hj : j < l.length) → l.getD j 0 = l[j] := fun j hj => by simp [List.getD_eq_getElem?_getD, hj]
  rw [hn i hi, hn _ (by omega)]
  have : l.reverse[i]'(by simpa using hi) = l[i] := by simp [h]
  rw [← this, List.getElem_reverse]

/-- the longest end of a word that reads the same from behind -/
def lps : List Nat → List Nat
  | [] => []
  | a :: t => if isPal (a :: t) then a :: t else lps t
theorem lps_of_pal {l : List Nat} (h : isPal l = true) : lps l = l := by
  cases l with
  | nil => rfl
  | cons a t => simp [lps, h]
theorem lps_drop {l : List Nat} {j : Nat} (hj : j < l.length) (h : isPal (l.drop j) = false) : lps (l.drop j) = lps (l.drop (j + 1)) := by
  rw [List.drop_eq_getElem_cons hj] at h ⊢
  show (if isPal (l[j] :: l.drop (j + 1)) = true then _ else _) = _
  rw [h]; rfl
theorem isPal_nil : isPal [] = true := rfl

theorem item_eq {x : Str} {i : Int} {n : Nat} (h0 : 0 ≤ i) (h1 : i < x.length) (hn : n = i.toNat) : Txt.item x i = S [(cl x).getD n 0] := by
  rw [item_at h0 h1 hn]
  simp [S, cl, Array.getD_eq_getD_getElem?, List.getD_eq_getElem?_getD]
theorem item_ne {x : Str} {i j : Int} {n k : Nat} (h0 : 0 ≤ i) (h1 : i < x.length) (hn : n = i.toNat) (g0 : 0 ≤ j) (g1 : j < x.length) (hk : k = j.toNat) :
    (Txt.item x i != Txt.item x j) = !decide ((cl x).getD n 0 = (cl x).getD k 0) := by
  rw [item_eq h0 h1 hn, item_eq g0 g1 hk]
  by_cases e : (cl x).getD n 0 = (cl x).getD k 0
  · rw [e]; simp
  · have : S [(cl x).getD n 0] ≠ S [(cl x).getD k 0] := fun q => e (by simpa using S_inj q)
    rw [bne_iff_ne.mpr this, decide_eq_false e]; rfl

theorem slice_from {x : Str} {i : Int} (h0 : 0 ≤ i) (h2 : i ≤ x.length) : Txt.slice x (some i) none = S ((cl x).drop i.toNat) := by
  rw [slice_from_eq (b := (x.length : Int)) h0 h2 rfl]
  unfold S cl
  rw [List.take_of_length_le]
  rw [List.length_drop]
  have : x.cps.toList.length = x.length := by simp [Str.length]
  omega
theorem slice_mid {x : Str} {i j : Int} (h0 : 0 ≤ i) (h1 : i ≤ j) (h2 : j ≤ x.length) : Txt.slice x (some i) (some j) = S (((cl x).drop i.toNat).take (j - i).toNat) := by
  have := slice_closesL h0 h1 h2
  rw [beq_iff_eq] at this
  rw [this]; rfl
theorem slice_to {x : Str} {j : Int} (h0 : 0 ≤ j) (h2 : j ≤ x.length) : Txt.slice x none (some j) = S ((cl x).take j.toNat) := by
  have := slice_closes_toL h0 h2
  rw [beq_iff_eq] at this
  rw [this]; simp [S, cl]
theorem slice_past {x : Str} {j : Int} (h2 : (x.length : Int) ≤ j) : Txt.slice x none (some j) = x := by
  unfold Txt.slice
  rw [if_pos]
  unfold Builtin.Str.strSliceIndices sliceRange
  have e : max 0 (min j (x.length : Int)) = x.length := by omega
  have nj : ¬ j < 0 := by omega
  simp only [show (1 : Int) > 0 by decide, if_true, if_neg nj, e]
  by_cases q : (0 : Int) < (x.length : Int)
  · simp only [if_pos q, List.length_map, List.length_range]
    simp
  · have : x.length = 0 := by omega
    simp [this]
theorem slice_take {x : Str} {j : Int} (h0 : 0 ≤ j) : Txt.slice x none (some j) = S ((cl x).take j.toNat) := by
  by_cases h : j ≤ x.length
  · exact slice_to h0 h
  · rw [slice_past (by omega), List.take_of_length_le (by rw [cl_len]; omega), S_cl]
end Mine

-- part Base
set_option Elab.async false
set_option maxRecDepth 100000
set_option maxHeartbeats 8000000
set_option linter.unusedVariables false
namespace Mine
open PySem PySem.W PyProof.Rows PySem.Spec PySem.Calls

/-- what every call of a plain def of the text asks of the place where it stands, and what it hands on -/
abbrev Ret (h₀ : Heap) (L : Addr) (m : Str → Option Value) (news : List (Addr × Obj)) (s : Shared) (Q : Value → Shared → Prop) (R : Tok → Value) : Prop :=
  ∀ (t : Tok) (h' : Heap) (tk' : Nat), Fr h₀ L h' m → News h₀ L h' news → Q (R t) { s with heap := h', toks := tk' }
abbrev Spec1 (w : World) (lv : Nat) (f : Addr) (vs : List Value) (R : Tok → Value) : Prop :=
  ∀ (p : Program) (loose : List Str) (mean : ExcName → Option Value) (mg mb : Str → Option Value) (dp un : Nat) (gd : Option (List Code)) (cn : Str) (cs : Scope) (a : Addr) (ccd : Value) (cl : List (Str × Addr)) (outer : List Env) (A₀ : Around) (base h₀ : Heap) (L : Addr) (m : Str → Option Value) (news : List (Addr × Obj)) (s : Shared) (Q E : Value → Shared → Prop),
    Below A₀ base outer h₀ → Fr h₀ L s.heap m → (heapK w.params).In h₀ → News h₀ L s.heap news → Top p loose mean mg mb h₀ → cs.kind = .function → dp + lv < recursionLimit → un + 8 * lv < cLine → Ret h₀ L m news s Q R →
      wpAny (model PySem.Challenge.rw_re0157_01.row.prog w) (ktrTop dp un gd cn cs L a ccd cl outer) (call (.ref f) vs) Q E s

theorem Spec1.use {w : World} {lv : Nat} {f : Addr} {vs : List Value} {R : Tok → Value} {p : Program} {loose : List Str} {mean : ExcName → Option Value} {mg mb : Str → Option Value} {dp un : Nat} {gd : Option (List Code)} {cn : Str} {cs : Scope} {a : Addr} {ccd : Value} {cl : List (Str × Addr)} {outer : List Env} {A₀ : Around} {base h₀ : Heap} {L : Addr} {m : Str → Option Value} {news : List (Addr × Obj)} {s : Shared} {Q E : Value → Shared → Prop}
    (C : Spec1 w lv f vs R) (B : Below A₀ base outer h₀) (F : Fr h₀ L s.heap m) (X : (heapK w.params).In h₀) (N : News h₀ L s.heap news) (T : Top p loose mean mg mb h₀) (hk : cs.kind = .function) (hd : dp + lv < recursionLimit) (hu : un + 8 * lv < cLine) (ret : Ret h₀ L m news s Q R) :
    wpAny (model PySem.Challenge.rw_re0157_01.row.prog w) (ktrTop dp un gd cn cs L a ccd cl outer) (call (.ref f) vs) Q E s := C p loose mean mg mb dp un gd cn cs a ccd cl outer A₀ base h₀ L m news s Q E B F X N T hk hd hu ret
theorem end_bool {h₀ h' : Heap} {L : Addr} {m : Str → Option Value} {news news' : List (Addr × Obj)} {s : Shared} {Q : Value → Shared → Prop} {x y : Bool} {tk' : Nat}
    (hret : Ret h₀ L m news s Q fun _ => .bool x) (F : Fr h₀ L h' m) (N : News h₀ L h' news') (hs : ∀ p ∈ news, p ∈ news') (e : y = x) : Q (.bool y) { s with heap := h', toks := tk' } := by
  subst e; exact hret 0 h' tk' F (fun p hp => N p (hs p hp))
theorem end_str {h₀ h' : Heap} {L : Addr} {m : Str → Option Value} {news news' : List (Addr × Obj)} {s : Shared} {Q : Value → Shared → Prop} {x y : Str} {t : Tok} {tk' : Nat}
    (hret : Ret h₀ L m news s Q fun t => .str x t) (F : Fr h₀ L h' m) (N : News h₀ L h' news') (hs : ∀ p ∈ news, p ∈ news') (e : y = x) : Q (.str y t) { s with heap := h', toks := tk' } := by
  subst e; exact hret t h' tk' F (fun p hp => N p (hs p hp))
theorem end_int {h₀ h' : Heap} {L : Addr} {m : Str → Option Value} {news news' : List (Addr × Obj)} {s : Shared} {Q : Value → Shared → Prop} {x y : Int} {t : Tok} {tk' : Nat}
    (hret : Ret h₀ L m news s Q fun t => .int x t) (F : Fr h₀ L h' m) (N : News h₀ L h' news') (hs : ∀ p ∈ news, p ∈ news') (e : y = x) : Q (.int y t) { s with heap := h', toks := tk' } := by
  subst e; exact hret t h' tk' F (fun p hp => N p (hs p hp))
end Mine

-- part WS
set_option Elab.async false
set_option maxRecDepth 100000
set_option maxHeartbeats 8000000
set_option linter.unusedVariables false
namespace Mine
open PySem PySem.W PyProof.Rows PySem.Spec PySem.Calls
def nothL : List Int := [173, 847, 6150, 6155, 6156, 6157, 8203, 8204, 8205, 8288, 65279, 65024, 65025, 65026, 65027, 65028, 65029, 65030, 65031, 65032, 65033, 65034, 65035, 65036, 65037, 65038, 65039]
theorem noth_low : ∀ k, k < 27 → 0 ≤ nothL.getD k 0 ∧ nothL.getD k 0 ≤ 65279 := by decide
def nothing (f : Int) : Nat := (nothL.getD f.toNat 0).toNat
theorem noth_spec (w : World) (f : Int) (tf : Tok) (h3 : 0 ≤ f) (h4 : f < 27) : Spec1 w 1 126 [.int f tf] (fun t => .str (S [nothing f]) t) := by
  unfold Spec1
  k_fill
  intro p loose mean mg mb dp un gd cn cs a ccd cl outer A₀ base h₀ L m news s Q E B F X N T hk hd hu hret
  refine wpAny_call ?_
  k_dflt cell_enter
  k_steps
  (with_reducible rename CarriedAll _ _ => hC)
  (with_reducible rename NewPlain _ _ _ _ => hP)
  have hI := gn_intsOf (f := id) hP hC
  rw [List.map_id, show rangeInts 65024 1 ((65040 : Int) - 65024).toNat = [65024, 65025, 65026, 65027, 65028, 65029, 65030, 65031, 65032, 65033, 65034, 65035, 65036, 65037, 65038, 65039] from by decide] at hI
  refine add_lists_ints (vs := [_, _, _, _, _, _, _, _, _, _, _]) (by assumption) (by assumption) (by is_list) (by is_list) (by ints_lit) hI ?_ (by decide)
  intro h9 F9 N9 I9
  have hb := noth_low f.toNat (by omega)
  unfold nothL at hb
  k_steps
  exact end_str hret (by assumption) (by assumption) (fun p hp => by simp only [List.mem_append, List.mem_cons, hp, or_true]) rfl
def signOf (c : Nat) (f : Int) : Nat := if f = 0 then c else if f = 1 then ((c : Int) - 32).toNat else (119711 + 52 * ([0, 1, 2, 4, 7, 8, 9, 10, 11, 12] : List Int).getD (f - 2).toNat 0 + (c : Int)).toNat
theorem step_low : ∀ k, k < 10 → 0 ≤ ([0, 1, 2, 4, 7, 8, 9, 10, 11, 12] : List Int).getD k 0 ∧ ([0, 1, 2, 4, 7, 8, 9, 10, 11, 12] : List Int).getD k 0 ≤ 12 := by decide
theorem sign_spec (w : World) (c : Nat) (f : Int) (tx tf : Tok) (h1 : 97 ≤ c) (h2 : c < 123) (h3 : 0 ≤ f) (h4 : f < 12) : Spec1 w 1 119 [.str (S [c]) tx, .int f tf] (fun t => .str (S [signOf c f]) t) := by
  unfold Spec1
  k_fill
  intro p loose mean mg mb dp un gd cn cs a ccd cl outer A₀ base h₀ L m news s Q E B F X N T hk hd hu hret
  refine wpAny_call ?_
  k_dflt cell_enter
  k_steps
  · exact end_str hret (by assumption) (by assumption) (fun p hp => by first | exact hp | simp only [List.mem_append, List.mem_cons, hp, or_true]) (by unfold signOf; rw [if_pos (by assumption)])
  · exact end_str hret (by assumption) (by assumption) (fun p hp => by first | exact hp | simp only [List.mem_append, List.mem_cons, hp, or_true]) (by unfold signOf; rw [if_neg (by assumption), if_pos (by assumption)]; rfl)
  · have hb := step_low (f - 2).toNat (by omega)
    k_steps
    exact end_str hret (by assumption) (by assumption) (fun p hp => by first | exact hp | simp only [List.mem_append, List.mem_cons, hp, or_true]) (by unfold signOf; rw [if_neg (by assumption), if_neg (by assumption)]; rfl)
end Mine

-- part WX
set_option Elab.async false
set_option maxRecDepth 100000
set_option maxHeartbeats 8000000
set_option linter.unusedVariables false
namespace Mine
open PySem PySem.W PyProof.Rows PySem.Spec PySem.Calls
local macro_rules | `(tactic| walk_at "call ref") => `(tactic| (k_here; (with_reducible show wpAny _ _ (call (Value.ref 126) [Value.int _ _]) _ _ _); k_dflt (refine Spec1.use (noth_spec _ _ _ (by first | assumption | omega) (by first | assumption | omega)) (by k_asm) (by k_asm) (by k_asm) (by k_asm) (by k_asm) (by first | exact rfl | assumption) (by ktr_room) (by ktr_units) ?_); intro t9 h9 tk9 F9 N9; (try dsimp only)))
local macro_rules | `(tactic| walk_at "call ref") => `(tactic| (k_here; (with_reducible show wpAny _ _ (call (Value.ref 119) [Value.str (S [_]) _, Value.int _ _]) _ _ _); k_dflt (refine Spec1.use (sign_spec _ _ _ _ _ (by first | assumption | omega) (by first | assumption | omega) (by first | assumption | omega) (by first | assumption | omega)) (by k_asm) (by k_asm) (by k_asm) (by k_asm) (by k_asm) (by first | exact rfl | assumption) (by ktr_room) (by ktr_units) ?_); intro t9 h9 tk9 F9 N9; (try dsimp only)))
theorem S_app (a b : List Nat) : S a ++ S b = S (a ++ b) := by
  show Str.mk _ = Str.mk _
  congr 1
  simp [S]
def filL : List Nat := [102, 105, 108]
theorem fil_eq : cl (Str.ofString "fil") = filL := by decide +kernel
theorem fil_len : (Str.ofString "fil").length = 3 := by decide +kernel
theorem fil_low : ∀ k, k < 3 → 97 ≤ filL.getD k 0 ∧ filL.getD k 0 < 123 := by decide
def headOf (x : Int) : Nat := if x.fmod 8 < 3 then signOf (filL.getD (x.fmod 8).toNat 0) ((x.fdiv 8).fmod 12) else (64253 + x.fmod 8).toNat
def spelled (x : Int) : List Nat := if 0 < (x.fdiv 96).fmod 28 then [headOf x, nothing ((x.fdiv 96).fmod 28 - 1)] else [headOf x]
theorem fmod_low (x n : Int) (hn : 0 < n) : 0 ≤ x.fmod n ∧ x.fmod n < n := ⟨Int.fmod_nonneg_of_pos x hn, Int.fmod_lt_of_pos x hn⟩
theorem spelled_spec (w : World) (x : Int) (tx : Tok) (h0 : 0 ≤ x) (h1 : x < 1000000) : Spec1 w 3 133 [.int x tx] (fun t => .str (S (spelled x)) t) := by
  unfold Spec1
  k_fill
  intro p loose mean mg mb dp un gd cn cs a ccd cl' outer A₀ base h₀ L m news s Q E B F X N T hk hd hu hret
  refine wpAny_call ?_
  k_dflt cell_enter
  have b1 := fmod_low x 8 (by decide)
  have b2 := fmod_low (x.fdiv 8) 12 (by decide)
  have b3 := fmod_low (x.fdiv 96) 28 (by decide)
  k_steps
  · have hlt : x.fmod 8 < 3 := by assumption
    have b4 := fil_low (x.fmod 8).toNat (by omega)
    have hi : Txt.item (Str.ofString "fil") (x.fmod 8) = S [filL.getD (x.fmod 8).toNat 0] := by
      rw [item_eq (n := (x.fmod 8).toNat) b1.1 (by rw [fil_len]; exact hlt) rfl, fil_eq]
    obtain ⟨b5, b6⟩ := b4
    simp only [hi]
    k_steps
    · exact end_str hret (by assumption) (by assumption) (fun p hp => by first | exact hp | simp only [List.mem_append, List.mem_cons, hp, or_true]) (by unfold spelled headOf; rw [if_pos (by omega), if_pos (by omega)]; exact S_app _ _)
    · exact end_str hret (by assumption) (by assumption) (fun p hp => by first | exact hp | simp only [List.mem_append, List.mem_cons, hp, or_true]) (by unfold spelled headOf; rw [if_neg (by omega), if_pos (by omega)])
  · exact end_str hret (by assumption) (by assumption) (fun p hp => by first | exact hp | simp only [List.mem_append, List.mem_cons, hp, or_true]) (by unfold spelled headOf; rw [if_pos (by omega), if_neg (by omega)]; exact S_app [_] _)
  · exact end_str hret (by assumption) (by assumption) (fun p hp => by first | exact hp | simp only [List.mem_append, List.mem_cons, hp, or_true]) (by unfold spelled headOf; rw [if_neg (by omega), if_neg (by omega)]; rfl)
end Mine

-- part WB
set_option Elab.async false
set_option maxRecDepth 100000
set_option maxHeartbeats 8000000
set_option linter.unusedVariables false
namespace Mine
open PySem PySem.W PyProof.Rows PySem.Spec PySem.Calls
/-- the entries of the set of the head -/
def b1Es (o : Obj) : List (Int × Value) := match o.data with | .set es _ _ => es.toList | _ => []
def entOk (e : Int × Value) : Bool := match e.2 with | .int k _ => e.1 == hashInt k | _ => false
def b1L : List Int := [65024, 65025, 65026, 65027, 65028, 65029, 6150, 65030, 65031, 65032, 65033, 6155, 6156, 6157, 8203, 8204, 8205, 65034, 65035, 65036, 65037, 65038, 65039, 173, 847, 8288, 65279]
def isB1 (k : Int) : Bool := decide (k ∈ b1L)
def entInt (e : Int × Value) : Int := match e.2 with | .int k _ => k | _ => 0
theorem entOk_iff {e : Int × Value} (h : entOk e = true) : ∃ k t, e.2 = .int k t ∧ e.1 = hashInt k ∧ entInt e = k := by
  obtain ⟨a, v⟩ := e
  unfold entOk at h
  cases v <;> simp at h
  exact ⟨_, _, rfl, h, rfl⟩
theorem b1_ok (P : Params) : (b1Es (o56_2 P)).all entOk = true := by kernel_rfl
theorem b1_ints (P : Params) : (b1Es (o56_2 P)).map entInt = b1L := by kernel_rfl
theorem b1_at {w : World} {prog : Program} {h : Heap} (X : (heapK w.params).In h) : h.SetOf (intKind prog w) 56 isB1 27 := by
  refine ⟨o56_2 w.params, _, _, _, X 56 _ (by kernel_rfl), ⟨rfl, rfl, rfl⟩, rfl, ?_, ?_, by decide, by kernel_rfl, rfl⟩
  · intro e he
    obtain ⟨k, t, h1, h2, _⟩ := entOk_iff (List.all_eq_true.mp (b1_ok w.params) e he)
    exact ⟨⟨k, by rw [h1]; simp [intKind, Value.isInt], h2⟩, by rw [h1]; rfl⟩
  · intro k
    unfold isB1
    rw [decide_eq_true_eq, ← b1_ints w.params, List.mem_map]
    constructor
    · rintro ⟨e, he, rfl⟩
      obtain ⟨k, t, h1, h2, h3⟩ := entOk_iff (List.all_eq_true.mp (b1_ok w.params) e he)
      exact ⟨e, he, by rw [h1, h3]; simp [intKind, Value.isInt]⟩
    · rintro ⟨e, he, h0⟩
      obtain ⟨k', t, h1, h2, h3⟩ := entOk_iff (List.all_eq_true.mp (b1_ok w.params) e he)
      rw [h1] at h0
      refine ⟨e, he, ?_⟩
      rw [h3]
      exact beq_iff_eq.mp h0
local macro_rules | `(tactic| walk_at "compareOp In int ref") => `(tactic| (k_here; refine wpAny_inSet_of (knd := intKind _ _) (k := _) (by simp [intKind, Value.isInt]) (by rfl) (b1_at (Frag.In.keeps ‹(heapK _).In _› (Fr.keep (by assumption)))) ?_))
theorem b1_spec (w : World) (c : Nat) (tx : Tok) : Spec1 w 1 66 [.str (S [c]) tx] (fun _ => .bool (isB1 c)) := by
  unfold Spec1
  k_fill
  intro p loose mean mg mb dp un gd cn cs a ccd cl outer A₀ base h₀ L m news s Q E B F X N T hk hd hu hret
  refine wpAny_call ?_
  k_dflt cell_enter
  k_steps
  refine wpAny_inSet_of (knd := intKind _ _) (k := (c : Int)) ?_ ?_ (b1_at (Frag.In.keeps ‹(heapK _).In _› (Fr.keep (by assumption)))) ?_
  · exact beq_self_eq_true _
  · rfl
  k_steps
  exact end_bool hret (by assumption) (by assumption) (fun p hp => hp) rfl

/-- the table of the head -/
def b3KeyOk (e : DictEntry) : Bool := match e.key with | .int k _ => e.hash == hashInt k | _ => false
theorem b3_keys : (b3Ent 0 650).all b3KeyOk = true := by kernel_rfl
def b3Find (k : Int) : Option Value := findBy Value.isInt (b3Ent 0 650).toArray k
theorem b3_at {w : World} {prog : Program} {h : Heap} (X : (heapK w.params).In h) : h.MapOf (intKind prog w) 67 b3Find := by
  refine ⟨o67_4d w.params, _, _, X 67 _ (by kernel_rfl), ⟨rfl, rfl, rfl⟩, rfl, ?_, fun _ => rfl⟩
  intro e he
  have h1 := List.all_eq_true.mp b3_keys e (by simpa using he)
  obtain ⟨hs, k, v⟩ := e
  unfold b3KeyOk at h1
  cases k <;> simp at h1
  exact ⟨_, beq_self_eq_true _, h1⟩
section
variable {prog : Program} {w : World} {A : Around} {E : Value → Shared → Prop} {s : Shared}
theorem get_b3 {pl : Sem Bool} {Q : Value × List Value → Shared → Prop} (X : (heapK w.params).In s.heap) (h : Q (.builtin "dict.get", [.ref 67]) s) : wpAny (model prog w) A (getMethod (.ref 67) (Str.ofString "get") pl) Q E s :=
  getMethod_builtin (b3_at (prog := prog) X).typeIs PySem.F.plainAttrs_dict PySem.F.slot_dict_get PySem.F.type_dict_get (b3_at (prog := prog) X).noDict h
theorem call_b3 {k : Int} {t : Tok} {Q : Value → Shared → Prop} (X : (heapK w.params).In s.heap) (h : Q ((b3Find k).getD .none) { s with toks := s.toks + 1 }) : wpAny (model prog w) A (call (.builtin "dict.get") [.ref 67, .int k t]) Q E s :=
  call_meetsIn PySem.F.slot_dict_get (b3_at (prog := prog) X).typeIs PySem.F.entry_dict_get (PySem.F.args_dict_get_2 _ _) (meets_dict_get (intKind prog w) 67 (intKind_is prog w k t) rfl) ⟨_, b3_at X, h⟩
end
theorem b3_none (w : World) (c : Nat) (tx : Tok) (hn : b3Find c = none) (y : Str) (hy : Txt.lower (S [c]) = y) : Spec1 w 1 112 [.str (S [c]) tx] (fun t => .str y t) := by
  unfold Spec1
  k_fill
  intro p loose mean mg mb dp un gd cn cs a ccd cl outer A₀ base h₀ L m news s Q E B F X N T hk hd hu hret
  refine wpAny_call ?_
  k_dflt cell_enter
  k_steps
  refine get_b3 (Frag.In.keeps ‹(heapK _).In _› (Fr.keep (by assumption))) ?_
  k_steps
  refine call_b3 (Frag.In.keeps ‹(heapK _).In _› (Fr.keep (by assumption))) ?_
  rw [hn]
  dsimp only [Option.getD]
  have hl : (S [c]).length ≤ 100 := by rw [S_len]; exact Nat.le_of_ble_eq_true rfl
  k_steps
  exact end_str hret (by assumption) (by assumption) (fun p hp => hp) hy
theorem b3_some (w : World) (c : Nat) (tx : Tok) (y : Str) (ty : Tok) (hn : b3Find c = some (.str y ty)) : Spec1 w 1 112 [.str (S [c]) tx] (fun t => .str y t) := by
  unfold Spec1
  k_fill
  intro p loose mean mg mb dp un gd cn cs a ccd cl outer A₀ base h₀ L m news s Q E B F X N T hk hd hu hret
  refine wpAny_call ?_
  k_dflt cell_enter
  k_steps
  refine get_b3 (Frag.In.keeps ‹(heapK _).In _› (Fr.keep (by assumption))) ?_
  k_steps
  refine call_b3 (Frag.In.keeps ‹(heapK _).In _› (Fr.keep (by assumption))) ?_
  rw [hn]
  dsimp only [Option.getD]
  k_steps
  exact end_str hret (by assumption) (by assumption) (fun p hp => hp) rfl
end Mine

-- part WM
set_option Elab.async false
set_option maxRecDepth 100000
set_option maxHeartbeats 8000000
set_option linter.unusedVariables false
namespace Mine
open PySem PySem.W PyProof.Rows PySem.Spec PySem.Calls
local macro_rules | `(tactic| walk_at "TurnR") => `(tactic| (dsimp only [TurnR]))
local macro_rules | `(tactic| walk_at "TurnE") => `(tactic| (refine TurnE.intro (by assumption) (by assumption) (fun _ h => h) (fun y hy => if_neg hy) ?_))

theorem mirror_spec (w : World) (x : Str) (tx : Tok) (hx : x.length ≤ 100) : Spec1 w 3 140 [.str x tx] (fun _ => .bool (isPal (cl x))) := by
  unfold Spec1
  k_fill
  intro p loose mean mg mb dp un gd cn cs a ccd cl' outer A₀ base h₀ L m news s Q E B F X N T hk hd hu hret
  refine wpAny_call ?_
  k_dflt cell_enter
  k_steps
  (with_reducible rename IsRange _ _ _ _ _ _ _ _ => hr)
  (with_reducible rename Fr _ _ _ _ => F1)
  (with_reducible rename News _ _ _ _ => N1)
  have hl : (cl x).length = x.length := cl_len x
  have hf : (x.length : Int).fdiv 2 = ((x.length / 2 : Nat) : Int) := by rw [Int.fdiv_eq_ediv_of_nonneg _ (by decide)]; omega
  refine range_for (x.length / 2) (Half (cl x)) rfl hr (by rw [hf]; omega) (by decide) (by decide) (by rw [hf]; omega) (by rw [hf]; omega) F1 N1 (half_zero _) ?_ ?_
  · intro i t h tk own hi hP F2 N2
    have key : (Txt.item x (0 + (i : Int)) != Txt.item x ((x.length : Int) - 1 - (0 + (i : Int)))) = !decide ((cl x).getD i 0 = (cl x).getD ((cl x).length - 1 - i) 0) :=
      item_ne (by omega) (by omega) (by omega) (by omega) (by omega) (by rw [hl]; omega)
    k_steps
    · (rename (Txt.item _ _ != Txt.item _ _) = true => hc)
      rw [key] at hc
      exact end_bool hret (by assumption) (by assumption) (fun _ h => List.mem_append_right _ h) (not_pal_of (i := i) (by omega) (by simpa using hc)).symm
    · (rename (Txt.item _ _ != Txt.item _ _) = false => hc)
      rw [key] at hc
      exact half_next hP (by simpa using hc)
  · intro u h tk hP F2 N2
    k_steps
    exact end_bool hret (by assumption) (by assumption) (fun _ h => h) (pal_of_half (by rw [hl]; exact hP)).symm
end Mine

-- part WL
set_option Elab.async false
set_option maxRecDepth 100000
set_option maxHeartbeats 8000000
set_option linter.unusedVariables false
namespace Mine
open PySem PySem.W PyProof.Rows PySem.Spec PySem.Calls
local macro_rules | `(tactic| walk_at "TurnR") => `(tactic| (dsimp only [TurnR]))
local macro_rules | `(tactic| walk_at "TurnE") => `(tactic| (refine TurnE.intro (by assumption) (by assumption) (fun _ h => h) (fun y hy => if_neg hy) ?_))
local macro_rules | `(tactic| walk_at "call ref") => `(tactic| (k_here; (with_reducible show wpAny _ _ (call (Value.ref 140) [Value.str _ _]) _ _ _); k_dflt (refine' Spec1.use (mirror_spec _ _ _ ?qlen) ?qB ?qF ?qX ?qN ?qT ?qk ?qd ?qu ?qR; (case qB => k_asm); (case qF => k_asm); (case qX => k_asm); (case qN => k_asm); (case qT => k_asm); (case qk => first | exact rfl | assumption); (case qd => ktr_room); (case qu => ktr_units); (case qlen => first | assumption | omega)); intro t9 h9 tk9 F9 N9; (try dsimp only)))
local macro_rules | `(tactic| walk_at "WP1") => `(tactic| (dsimp only [WP1]))

local macro_rules | `(tactic| walk_at "WhlIf") => `(tactic| (refine whlIf_cases (fun hc9 => ?_) (fun hc9 => ?_)))
theorem longest_spec (w : World) (x : Str) (tx : Tok) (hx : x.length ≤ 100) : Spec1 w 5 147 [.str x tx] (fun t => .str (S (lps (cl x))) t) := by
  unfold Spec1
  k_fill
  intro p loose mean mg mb dp un gd cn cs a ccd cl' outer A₀ base h₀ L m news s Q E B F X N T hk hd hu hret
  refine wpAny_call ?_
  k_dflt cell_enter
  rw [park_while]
  k_steps
  rw [← park_while]
  (with_reducible rename Fr _ _ _ _ => F1)
  (with_reducible rename News _ _ _ _ => N1)
  have hl : (cl x).length = x.length := cl_len x
  refine while1 (y := Str.ofString "j") (fun j => 0 ≤ j ∧ j ≤ x.length ∧ lps (cl x) = lps ((cl x).drop j.toNat)) (fun j => x.length - j.toNat) (by passes_own) F1 N1 ⟨by decide, by omega, rfl⟩ ?_
  intro j t h tk ⟨hj0, hj1, hj2⟩ F2 N2
  have key : cl (Txt.slice x (some j) none) = (cl x).drop j.toNat := by rw [slice_from hj0 (by omega), cl_S]
  k_steps
  · rename (!isPal _) = true => hc
    rw [key] at hc
    have hp : isPal ((cl x).drop j.toNat) = false := by simpa using hc
    have hlt : j.toNat < (cl x).length := by
      rcases Nat.lt_or_ge j.toNat (cl x).length with q | q
      · exact q
      · rw [List.drop_eq_nil_of_le q, isPal_nil] at hp; cases hp
    refine WE1.intro (by assumption) (by assumption) (fun _ h => h) rfl ?_ ⟨by omega, by omega, ?_⟩ (by omega)
    · intro z hz
      dsimp only
      rw [if_neg hz, if_neg hz]
    · rw [hj2, lps_drop hlt hp]
      congr 1
      rw [show (j + 1).toNat = j.toNat + 1 by omega]
  · rename (!isPal _) = false => hc
    rw [key] at hc
    have hp : isPal ((cl x).drop j.toNat) = true := by simpa using hc
    exact end_str hret (by assumption) (by assumption) (fun _ h => h) (by rw [slice_from hj0 (by omega), hj2, lps_of_pal hp])
end Mine

-- part Plain1
set_option Elab.async false
set_option maxRecDepth 100000
set_option linter.unusedVariables false
namespace Mine
open PySem PySem.W PyProof.Rows PySem.Spec PySem.Calls
open PySem.StrLaws (At ChainG)

def dots : List Nat := [46, 46, 46]
theorem dots_eq : Str.ofString "..." = S dots := by decide +kernel
theorem at_iff {l d : List Nat} {i : Nat} : At (S l) (S d) (S l).length i ↔ i + d.length ≤ l.length ∧ (l.drop i).take d.length = d := by
  unfold At
  rw [S_len, S_len]
  constructor
  · rintro ⟨h1, h2⟩
    refine ⟨h1, ?_⟩
    rw [StrLaws.subAt_eq] at h2
    simpa [S, Str.length] using h2
  · rintro ⟨h1, h2⟩
    refine ⟨h1, ?_⟩
    rw [StrLaws.subAt_eq]
    simpa [S, Str.length] using h2

/-- a word within a text -/
def isIn (w l : List Nat) : Bool := decide (w <:+: l)
theorem isIn_iff {w l : List Nat} : isIn w l = true ↔ ∃ i, i + w.length ≤ l.length ∧ (l.drop i).take w.length = w := by
  rw [isIn, decide_eq_true_eq]
  constructor
  · rintro ⟨s, t, rfl⟩
    exact ⟨s.length, by simp, by simp⟩
  · rintro ⟨i, h1, h2⟩
    exact ⟨l.take i, l.drop (i + w.length), by
      rw [← h2]
      conv => lhs; rw [h2]
      rw [← List.drop_drop]
      have := List.take_append_drop w.length (l.drop i)
      rw [h2] at this
      rw [List.append_assoc, this, List.take_append_drop]⟩
theorem found_isIn (x y : Str) : (!(Builtin.Str.occurrences x y 0 x.length 1).isEmpty) = isIn (cl y) (cl x) := by
  rw [Bool.eq_iff_iff, StrLaws.found_iff, isIn_iff]
  constructor
  · rintro ⟨i, h1, h2⟩
    exact ⟨i, (at_iff (l := cl x) (d := cl y) (i := i)).mp (by rw [S_cl, S_cl]; exact ⟨h1, h2⟩)⟩
  · rintro ⟨i, h⟩
    have := (at_iff (l := cl x) (d := cl y) (i := i)).mpr h
    rw [S_cl, S_cl] at this
    exact ⟨i, this⟩

theorem at_dots {w : List Nat} (hw : 46 ∉ w) (hne : w ≠ []) (i : Nat) : At (S (dots ++ w ++ dots)) (S dots) (S (dots ++ w ++ dots)).length i ↔ i = 0 ∨ i = 3 + w.length := by
  rw [at_iff]
  constructor
  · rintro ⟨h1, h2⟩
    simp only [List.length_append, dots, List.length_cons, List.length_nil] at h1
    rcases Nat.lt_or_ge i 3 with q | q
    · left
      rcases Nat.eq_zero_or_pos i with e | e
      · exact e
      · exfalso
        -- the place 3 holds the word's first sign
        have h3 : (((dots ++ w ++ dots).drop i).take 3)[3 - i]? = some 46 := by
          rw [show (3 : Nat) = dots.length from rfl, h2]
          have : i = 1 ∨ i = 2 := by omega
          rcases this with rfl | rfl <;> rfl
        rw [List.getElem?_take_of_lt (by omega), List.getElem?_drop] at h3
        rw [show i + (3 - i) = 3 by omega] at h3
        cases w with
        | nil => exact hne rfl
        | cons a t =>
          simp [dots] at h3
          exact hw (by simp [h3])
    · right
      rcases Nat.lt_or_ge i (3 + w.length) with r | r
      · exfalso
        have h3 : (((dots ++ w ++ dots).drop i).take 3)[0]? = some 46 := by
          rw [show (3 : Nat) = dots.length from rfl, h2]; rfl
        rw [List.getElem?_take_of_lt (by omega), List.getElem?_drop, Nat.add_zero] at h3
        rw [List.append_assoc, List.getElem?_append_right (by simpa [dots] using q), List.getElem?_append_left (by simp [dots]; omega)] at h3
        exact hw (List.mem_of_getElem? h3)
      · omega
  · rintro (rfl | rfl)
    · simp [dots]
    · refine ⟨by simp [dots]; omega, ?_⟩
      rw [show 3 + w.length = (dots ++ w).length by simp [dots]; omega, List.drop_left]
      simp [dots]

theorem occ_dots {w : List Nat} (hw : 46 ∉ w) (hne : w ≠ []) : Builtin.Str.occurrences (S (dots ++ w ++ dots)) (S dots) 0 (S (dots ++ w ++ dots)).length ((S (dots ++ w ++ dots)).length + 1) = [0, 3 + w.length] := by
  obtain ⟨f, hG, hn⟩ := StrLaws.occ_tight (S (dots ++ w ++ dots)) (S dots) (by rw [S_len]; decide)
  have hd : (S dots).length = 3 := by rw [S_len]; rfl
  have hwl : 1 ≤ w.length := by cases w with | nil => exact absurd rfl hne | cons => simp
  generalize Builtin.Str.occurrences (S (dots ++ w ++ dots)) (S dots) 0 (S (dots ++ w ++ dots)).length ((S (dots ++ w ++ dots)).length + 1) = oc at hG
  cases oc with
  | nil =>
    have e : f = 0 := hG
    exact absurd ((at_dots hw hne 0).mpr (.inl rfl)) (hn 0 (by omega))
  | cons c r =>
    obtain ⟨_, h1, h2, hG⟩ := hG
    have hc : c = 0 := by
      rcases Nat.eq_zero_or_pos c with e | e
      · exact e
      · exact absurd ((at_dots hw hne 0).mpr (.inl rfl)) (h2 0 (Nat.le_refl 0) e)
    subst hc
    rw [hd] at hG
    cases r with
    | nil =>
      have e : f = 0 + 3 := hG
      exact absurd ((at_dots hw hne (3 + w.length)).mpr (.inr rfl)) (hn _ (by omega))
    | cons c r =>
      obtain ⟨h0, h1, h2, hG⟩ := hG
      rw [hd] at hG
      have hc : c = 3 + w.length := by
        rcases (at_dots hw hne c).mp h1 with e | e
        · omega
        · exact e
      subst hc
      cases r with
      | nil => rfl
      | cons c r =>
        obtain ⟨h0, h1, _, _⟩ := hG
        rcases (at_dots hw hne c).mp h1 with e | e <;> omega

theorem split_dots {w : List Nat} (hw : 46 ∉ w) (hne : w ≠ []) (hlo : ∀ c ∈ w, c < 256) : Txt.split (S (dots ++ w ++ dots)) (Str.ofString "...") = [S [], S w, S []] := by
  rw [dots_eq]
  unfold Txt.split
  have hk : Builtin.Str.strKind (S dots) = 1 := by decide +kernel
  have hkx : Builtin.Str.strKind (S (dots ++ w ++ dots)) = 1 := by
    unfold Builtin.Str.strKind
    rw [if_pos]
    simp only [S, List.all_toArray, List.all_eq_true, decide_eq_true_eq, List.mem_append]
    rintro c ((h | h) | h)
    · simp [dots] at h; omega
    · exact hlo c h
    · simp [dots] at h; omega
  rw [if_neg (by rw [hk, hkx, S_len, S_len]; simp [dots]), occ_dots hw hne, if_neg (by simp)]
  unfold Builtin.Str.partsBetween
  have hd : (S dots).length = 3 := by rw [S_len]; rfl
  rw [hd, S_len]
  simp only [List.map_cons, List.map_nil, List.cons_append, List.nil_append, List.zip_cons_cons, List.zip_nil_right, List.zip_nil_left]
  have sub : ∀ a b, Builtin.Str.strSub (S (dots ++ w ++ dots)) a b = S (((dots ++ w ++ dots).drop a).take (b - a)) := by
    intro a b
    have := StrLaws.strSub_toList (S (dots ++ w ++ dots)) a b
    rw [← S_cl (Builtin.Str.strSub _ _ _)]
    congr 1
  rw [sub, sub, sub]
  congr 1
  · congr 1
    · rw [show 0 + 3 = dots.length from rfl, List.append_assoc, List.drop_left, show 3 + w.length - dots.length = w.length by simp [dots], List.take_left]
    · congr 1
      rw [List.drop_eq_nil_of_le (by simp [dots]; omega)]
      simp
def found (x y : Str) (lo : Nat) : Int := match Builtin.Str.occurrences x y lo x.length 1 with | k :: _ => (k : Int) | [] => -1
theorem gives_find4 (x y : Str) (i j : Int) (t u v z : Tok) (hi : 0 ≤ i) (hj : j = x.length) : Gives (Builtin.«str.find» ⟨[.str x t, .str y u, .int i v, .int j z], []⟩) (.int (found x y i.toNat)) := by
  have e1 : (max 0 (if i < 0 then i + x.length else i)).toNat = i.toNat := by rw [if_neg (by omega)]; congr 1; omega
  have e2 : min (max 0 (if j < 0 then j + x.length else j)).toNat x.length = x.length := by rw [hj, if_neg (by omega)]; omega
  show Gives (match Builtin.Str.occurrences x y (max 0 (if i < 0 then i + x.length else i)).toNat (min (max 0 (if j < 0 then j + x.length else j)).toNat x.length) 1 with | k :: _ => retInt k | [] => (do rule "str.find.not-found"; retInt (-1))) _
  rw [e1, e2]
  unfold found
  cases Builtin.Str.occurrences x y i.toNat x.length 1 with
  | nil => exact .rule (.of_eq rfl)
  | cons k _ => exact .of_eq rfl
theorem call_find4 {prog : Program} {w : World} {A : Around} {E : Value → Shared → Prop} {s : Shared} {x y : Str} {t u v z : Tok} {i j : Int} {Q : Value → Shared → Prop} (lo : Nat) (hi : 0 ≤ i) (hlo : i.toNat = lo) (hj : j = x.length)
    (hq : ∀ t k, Q (.int (found x y lo) t) { s with toks := k }) : wpAny (model prog w) A (call (.builtin "str.find") [.str x t, .str y u, .int i v, .int j z]) Q E s :=
  call_gives F.slot_str_find (typeIs_str _ _ _) F.entry_str_find (F.args_str_find_4 _ _ _ _) (gives_find4 x y i j t u v z hi hj) (by rw [hlo]; exact hq _ _)
theorem found_empty {x : Str} {lo : Nat} (h : lo ≤ x.length) : found x (S []) lo = lo := by
  unfold found
  have ha : ∀ i, i ≤ x.length → At x (S []) x.length i := fun i hi => by
    have := (at_iff (l := cl x) (d := []) (i := i)).mpr ⟨by rw [cl_len]; simpa using hi, by simp⟩
    rwa [S_cl] at this
  rcases StrLaws.occ_head_from x (S []) lo 1 (Nat.le_refl _) with ⟨_, h2⟩ | ⟨i, r, h1, h2, h3, h4⟩
  · exact absurd (ha lo h) (h2 lo (Nat.le_refl _))
  · rw [h1]
    have : i = lo := by
      rcases Nat.lt_or_ge lo i with q | q
      · exact absurd (ha lo h) (h4 lo (Nat.le_refl _) q)
      · omega
    rw [this]
theorem found_word {x : Str} {w : List Nat} : (found x (S w) 0 = -1 ∧ isIn w (cl x) = false) ∨ (∃ i : Nat, found x (S w) 0 = i ∧ i + w.length ≤ x.length ∧ isIn w (cl x) = true) := by
  unfold found
  rcases StrLaws.occ_head x (S w) 1 (Nat.le_refl _) with ⟨h1, h2⟩ | ⟨i, r, h1, h2, h3⟩
  · left
    refine ⟨by rw [h1], ?_⟩
    cases hq : isIn w (cl x) with
    | false => rfl
    | true =>
      obtain ⟨i, hi⟩ := isIn_iff.mp hq
      have := (at_iff (l := cl x) (d := w) (i := i)).mpr hi
      rw [S_cl] at this
      exact absurd this (h2 i)
  · right
    refine ⟨i, by rw [h1], ?_, ?_⟩
    · have := h2.1
      rwa [S_len] at this
    · refine isIn_iff.mpr ⟨i, ?_⟩
      have h2' := h2
      rw [← S_cl x] at h2'
      exact at_iff.mp h2'
end Mine

-- part WE
set_option Elab.async false
set_option maxRecDepth 100000
set_option maxHeartbeats 8000000
set_option linter.unusedVariables false
namespace Mine
open PySem PySem.W PyProof.Rows PySem.Spec PySem.Calls
theorem three_of {l : List (Str × Tok)} {a b c : Str} (h : l.map (·.1) = [a, b, c]) : ∃ t u v, l = [(a, t), (b, u), (c, v)] := by
  match l, h with
  | [(a', t), (b', u), (c', v)], h =>
    simp at h
    obtain ⟨rfl, rfl, rfl⟩ := h
    exact ⟨t, u, v, rfl⟩
local macro_rules | `(tactic| walk_at "exec For Name Name cons nil") => `(tactic| (k_here; (rename Fr _ _ _ _ => lF'); (with_unfolding_all refine' For_invVF lF' ?k1 ?k2 ?_; (case k1 => exact rfl); (case k2 => exact rfl); k_whole)))
def EllC (wd : List Nat) (y : Str) (t1 t2 t3 : Tok) (r : List Value) (a : Int) : Prop :=
  (r = [.str (S []) t1, .str (S wd) t2, .str (S []) t3] ∧ a = 0) ∨ (r = [.str (S wd) t2, .str (S []) t3] ∧ a = 0) ∨ (r = [.str (S []) t3] ∧ 0 ≤ a ∧ a ≤ y.length ∧ isIn wd (cl y) = true) ∨ (r = [] ∧ isIn wd (cl y) = true)
local macro_rules | `(tactic| walk_at "LP1") => `(tactic| (dsimp only [LP1]))
theorem ell_spec (w : World) (wd : List Nat) (h46 : 46 ∉ wd) (hne : wd ≠ []) (hlo : ∀ c ∈ wd, c < 256) (x y : Str) (tx ty : Tok) (hxe : x = S (dots ++ wd ++ dots)) (hx : x.length ≤ 100) (hy : y.length ≤ 100) : Spec1 w 3 48 [.str x tx, .str y ty] (fun _ => .bool (isIn wd (cl y))) := by
  unfold Spec1
  k_fill
  intro p loose mean mg mb dp un gd cn cs a ccd cl' outer A₀ base h₀ L m news s Q E B F X N T hk hd hu hret
  refine wpAny_call ?_
  k_dflt cell_enter
  rw [park_assert]
  k_steps
  · exfalso
    rename List.isEmpty _ = true => hc
    have := found_isIn x (Str.ofString "...")
    rw [hc, hxe, dots_eq, cl_S, cl_S] at this
    have h2 : isIn dots (dots ++ wd ++ dots) = true := by
      rw [isIn, decide_eq_true_eq]
      exact ⟨[], wd ++ dots, by simp⟩
    rw [h2] at this
    cases this
  · rename List.map _ _ = Txt.split _ _ => hsp
    rw [hxe, split_dots h46 hne hlo] at hsp
    obtain ⟨t1, t2, t3, rfl⟩ := three_of hsp
    rw [← park_assert]
    k_steps
    (with_reducible rename Fr _ _ _ _ => F1)
    have hl0 : (S []).length ≤ 100 := by rw [S_len]; decide
    have hl0' : ((S []).length : Int) = 0 := rfl
    have hlw : (S wd).length ≤ 100 := by rw [hxe, S_len] at hx; simp only [List.length_append] at hx; rw [S_len]; omega
    have hlw' : (S wd).length = wd.length := S_len wd
    (with_reducible rename News _ _ _ _ => N1)
    refine list_for1 (Str.ofString "startpos") (vs := [Value.str (S []) t1, .str (S wd) t2, .str (S []) t3])
      (EllC wd y t1 t2 t3)
      rfl F1 rfl N1 (by k_mem) rfl rfl (.inl ⟨rfl, rfl⟩) ?_ ?_
    · rintro v r a t h tk own (⟨e, rfl⟩ | ⟨e, rfl⟩ | ⟨e, ha0, ha1, hin⟩ | ⟨e, _⟩) F2 N2
      · obtain ⟨rfl, rfl⟩ := List.cons.inj e
        k_steps
        refine call_find4 0 (by omega) rfl rfl fun t9 k9 => ?_
        rw [found_empty (Nat.zero_le _)]
        k_steps
        refine LE1.intro (by assumption) (by assumption) (fun _ h => h) rfl ?_ ?_
        · intro z hz1 hz2; dsimp only; simp only [if_neg hz1, if_neg hz2]
        · exact .inr (.inl ⟨rfl, by omega⟩)
      · obtain ⟨rfl, rfl⟩ := List.cons.inj e
        k_steps
        refine call_find4 0 (by omega) rfl rfl fun t9 k9 => ?_
        rcases found_word (x := y) (w := wd) with ⟨e1, e2⟩ | ⟨i, e1, e2, e3⟩
        · rw [e1]
          k_steps
          exact end_bool hret (by assumption) (by assumption) (fun p hp => by simp only [List.mem_append, List.mem_cons, hp, or_true]) e2.symm
        · rw [e1]
          k_steps
          refine LE1.intro (by assumption) (by assumption) (fun _ h => h) rfl ?_ ?_
          · intro z hz1 hz2; dsimp only; simp only [if_neg hz1, if_neg hz2]
          · exact .inr (.inr (.inl ⟨rfl, by omega, by omega, e3⟩))
      · obtain ⟨rfl, rfl⟩ := List.cons.inj e
        k_steps
        refine call_find4 a.toNat (by omega) rfl rfl fun t9 k9 => ?_
        rw [found_empty (by omega)]
        k_steps
        refine LE1.intro (by assumption) (by assumption) (fun _ h => h) rfl ?_ ?_
        · intro z hz1 hz2; dsimp only; simp only [if_neg hz1, if_neg hz2]
        · exact .inr (.inr (.inr ⟨rfl, hin⟩))
      · cases e
    · rintro u a t h tk (⟨e, _⟩ | ⟨e, _⟩ | ⟨e, _⟩ | ⟨_, hin⟩) F2 N2
      · cases e
      · cases e
      · cases e
      · k_steps
        exact end_bool hret (by assumption) (by assumption) (fun p hp => by simp only [List.mem_append, List.mem_cons, hp, or_true]) hin.symm
end Mine

-- part WK
set_option Elab.async false
set_option maxRecDepth 100000
set_option maxHeartbeats 8000000
set_option linter.unusedVariables false
namespace Mine
open PySem PySem.W PyProof.Rows PySem.Spec PySem.Calls
theorem binds_load {K : Frag} {s : Shared} {fd : FuncData} {args : Args} {binds : List (Str × Value)} {T D : Addr} {o oD : Obj} {items : Array Value} {n : Nat} {part : Option Value} {k : Option (Array Value) → Sem (List (Str × Value))} {c : Obj → Sem (List (Str × Value))} (X : K.In s.heap) (hd : fd.defaults = .ref T) (ho : K.lookup T = some o) (hs : o.data = .seq items n)
    (h₁ : bindArgs fd args = seqItems? fd.defaults >>= k) (h₂ : k (some items) = loadPart D part >>= c) (hD : K.lookup D = some oD) (h₃ : c oD = pure binds) : BindsTo s fd args binds :=
  fun M A E Q hq => by
    rw [h₁, hd]
    refine wpAny_bind (wpAny_seqItems (X _ _ ho) hs ?_)
    rw [h₂]
    refine wpAny_bind (wpAny_loadPart (X _ _ hD) ?_)
    rw [h₃]
    exact wpAny_pure hq
def fdOf : Obj → FuncData | ⟨_, _, .func fd, _⟩ => fd | _ => default
theorem bl_binds2 {w : World} {s : Shared} (X : (heapK w.params).In s.heap) (u v : Value) : BindsTo s (fdOf (o41_1 w.params)) ⟨[u, v], []⟩ [(Str.ofString "a", u), (Str.ofString "x", v), (Str.ofString "lo", .int 0 216), (Str.ofString "hi", .none), (Str.ofString "key", .none)] := by
  refine binds_load (T := 33) (D := 34) (o := o33_1 w.params) (oD := o34_1 w.params) X rfl (by kernel_rfl) rfl rfl rfl (by kernel_rfl) ?_
  kernel_rfl
theorem bl_binds4 {w : World} {s : Shared} (X : (heapK w.params).In s.heap) (u v x y : Value) : BindsTo s (fdOf (o41_1 w.params)) ⟨[u, v, x, y], []⟩ [(Str.ofString "a", u), (Str.ofString "x", v), (Str.ofString "lo", x), (Str.ofString "hi", y), (Str.ofString "key", .none)] := by
  refine binds_load (T := 33) (D := 34) (o := o33_1 w.params) (oD := o34_1 w.params) X rfl (by kernel_rfl) rfl rfl rfl (by kernel_rfl) ?_
  kernel_rfl
theorem il_binds {w : World} {s : Shared} (X : (heapK w.params).In s.heap) (u v : Value) : BindsTo s (fdOf (o32_1 w.params)) ⟨[u, v], []⟩ [(Str.ofString "a", u), (Str.ofString "x", v), (Str.ofString "lo", .int 0 203), (Str.ofString "hi", .none), (Str.ofString "key", .none)] := by
  refine binds_load (T := 24) (D := 25) (o := o24_1 w.params) (oD := o25_1 w.params) X rfl (by kernel_rfl) rfl rfl rfl (by kernel_rfl) ?_
  kernel_rfl
theorem br_binds {w : World} {s : Shared} (X : (heapK w.params).In s.heap) (u v f : Value) : BindsTo s (fdOf (o23_1 w.params)) ⟨[u, v], [(Str.ofString "key", f)]⟩ [(Str.ofString "a", u), (Str.ofString "x", v), (Str.ofString "lo", .int 0 189), (Str.ofString "hi", .none), (Str.ofString "key", f)] := by
  refine BindsTo.of_defaults (T := 15) (o := o15_1 w.params) rfl (X _ _ (by kernel_rfl)) rfl rfl ?_
  kernel_rfl
end Mine

-- part WI
set_option Elab.async false
set_option maxRecDepth 100000
set_option maxHeartbeats 8000000
set_option linter.unusedVariables false
namespace Mine
open PySem PySem.W PyProof.Rows PySem.Spec PySem.Calls
abbrev SpecL (w : World) (lv : Nat) (f : Addr) (D : Addr) (o : Obj) (vs : List Value) (R : Tok → Value) : Prop :=
  ∀ (p : Program) (loose : List Str) (mean : ExcName → Option Value) (mg mb : Str → Option Value) (dp un : Nat) (gd : Option (List Code)) (cn : Str) (cs : Scope) (a : Addr) (ccd : Value) (cl' : List (Str × Addr)) (outer : List Env) (A₀ : Around) (base h₀ : Heap) (L : Addr) (m : Str → Option Value) (news : List (Addr × Obj)) (s : Shared) (Q E : Value → Shared → Prop),
    Below A₀ base outer h₀ → Fr h₀ L s.heap m → (heapK w.params).In h₀ → News h₀ L s.heap news → Top p loose mean mg mb h₀ → cs.kind = .function → dp + lv < recursionLimit → un + 8 * lv < cLine → (D, o) ∈ news → Ret h₀ L m news s Q R →
      wpAny (model PySem.Challenge.rw_re0157_01.row.prog w) (ktrTop dp un gd cn cs L a ccd cl' outer) (call (.ref f) vs) Q E s
section
variable {prog : Program} {w : World} {A : Around} {E : Value → Shared → Prop} {s : Shared}
theorem item_row {value slice : PySem.Expr} {l : Addr} {vs : List Value} {ys : List Str} {k : Int} {u : Tok} {Q : Value → Shared → Prop} (hl : s.heap.IsList l vs.toArray) (hi : StrsAre vs ys)
    (h0 : 0 ≤ k) (hk : k < ys.length ∧ ys.length ≤ 100) (h : ∀ t, Q (.str (ys.getD k.toNat Str.empty) t) s)
    (hs : subscripted slice false (.ref l) (.int k u) = operate [.ref l, .int k u] (getItem (.ref l) (.int k u)) := by with_unfolding_all rfl) :
    wpAny (model prog w) A (subscriptTail value slice (.ref l) (.int k u)) Q E s := by
  have hlt : k.toNat < ys.length := by omega
  obtain ⟨t, hx⟩ := hi.get k.toNat ys[k.toNat] (by simp [hlt])
  refine item_listR hl h0 (by omega) (by simpa using hx) ?_ hs
  have := h t
  rwa [List.getD_eq_getElem?_getD, List.getElem?_eq_getElem hlt] at this
end
local macro_rules | `(tactic| walk_at "WhlIf") => `(tactic| (refine whlIf_cases (fun hc9 => ?_) (fun hc9 => ?_)))
theorem bl_gen (w : World) (args : List Value) (t0 : Tok) (D : Addr) (vs : List Value) (row : List Str) (k : Nat) (x : Str) (tx : Tok) (hs : StrsAre vs row) (hr : row.length ≤ 100) (hl : ∀ y ∈ row, y.length ≤ 100) (hx : x.length ≤ 100) (n : Nat) (hn : n ≤ row.length) (hlo : ∀ i, i < n → cl (row.getD i Str.empty) < cl x) (hhi : ∀ i, n ≤ i → i < row.length → ¬ cl (row.getD i Str.empty) < cl x) 
    (hb : ∀ s : Shared, (heapK w.params).In s.heap → BindsTo s (fdOf (o41_1 w.params)) ⟨args, []⟩ [(Str.ofString "a", .ref D), (Str.ofString "x", .str x tx), (Str.ofString "lo", .int 0 t0), (Str.ofString "hi", .none), (Str.ofString "key", .none)]) :
    SpecL w 3 41 D (listOf vs.toArray k) args (fun t => .int n t) := by
  unfold SpecL
  k_fill
  intro p loose mean mg mb dp un gd cn cs a ccd cl' outer A₀ base h₀ L m news s Q E B F X N T hk hd hu hD hret
  have hs2 : StrsAre vs row ∧ True := ⟨hs, trivial⟩
  have N0 : News h₀ L s.heap ((D, listOf vs.toArray k) :: news) := fun p hp => by
    rcases List.mem_cons.mp hp with rfl | hp
    · exact N _ hD
    · exact N _ hp
  clear N
  refine wpAny_call ?_
  k_dflt (refine' code_def ?k1 ?k2 ?k3 ?k4 ?k5 ?kA ?kF ?kK ?k6 ?k7 ?k8 ?k9 ?kB ?_ ?c2 ?c3 ?c4 ?c5; (case kA => exact rfl); (case kF => exact rfl); (case kK => assumption); (case k1 => k_asm); (case k2 => k_asm); (case k3 => k_asm); (case k4 => k_asm); (case k5 => k_asm); (case k6 => k_is); (case k7 => k_is); (case k8 => ktr_room); (case k9 => exact hb _ (by k_in)); (case c5 => decide); (case kB => exact locs rfl); (case c2 => exact rfl); (case c3 => exact rfl); (case c4 => exact rfl); k_whole; intro g' L' h' FG' F' N' B' X' T'; (try dsimp only); (try k_lift B'); (try k_fold))
  rw [park_while]
  k_steps
  rw [← park_while]
  (with_reducible rename Fr _ _ _ _ => F1)
  (with_reducible rename News _ _ _ _ => N1)
  have hvl : vs.length = row.length := hs2.1.length
  refine while2 (Str.ofString "lo") (Str.ofString "hi") (Str.ofString "mid") (fun lo hi => 0 ≤ lo ∧ lo ≤ n ∧ n ≤ hi ∧ hi ≤ row.length) (fun lo hi => (hi - lo).toNat) (by passes_own) F1 rfl rfl N1 ⟨by decide, by omega, by omega, by omega⟩ ?_
  intro lo hi t u v h tk ⟨hj0, hj1, hj2, hj3⟩ F2 N2
  have hm : (lo + hi).fdiv 2 = (lo + hi) / 2 := Int.fdiv_eq_ediv_of_nonneg _ (by decide)
  k_steps
  · have hc : decide (lo < hi) = true := by assumption
    have hlt : lo < hi := of_decide_eq_true hc
    have hq : cl (row.getD ((lo + hi).fdiv 2).toNat Str.empty) < cl x := by assumption
    have hmn : (lo + hi).fdiv 2 < n := by
      rcases Int.lt_or_le ((lo + hi).fdiv 2) n with q | q
      · exact q
      · exact absurd hq (hhi _ (by omega) (by omega))
    refine WE2.intro (by assumption) (by assumption) (fun _ h => h) rfl rfl ?_ ⟨by omega, by omega, by omega, by omega⟩ (by omega)
    intro z h1 h2 h3
    dsimp only
    simp only [if_neg h1, if_neg h2, if_neg h3]
  · have hc : decide (lo < hi) = true := by assumption
    have hlt : lo < hi := of_decide_eq_true hc
    have hq : ¬ cl (row.getD ((lo + hi).fdiv 2).toNat Str.empty) < cl x := by assumption
    have hmn : n ≤ (lo + hi).fdiv 2 := by
      rcases Int.lt_or_le ((lo + hi).fdiv 2) n with q | q
      · exact absurd (hlo _ (by omega)) hq
      · exact q
    refine WE2.intro (by assumption) (by assumption) (fun _ h => h) rfl rfl ?_ ⟨by omega, by omega, by omega, by omega⟩ (by omega)
    intro z h1 h2 h3
    dsimp only
    simp only [if_neg h1, if_neg h2, if_neg h3]
  · have hc : decide (lo < hi) = false := by assumption
    have hlt : ¬ lo < hi := of_decide_eq_false hc
    exact end_int hret (by assumption) (by assumption) (fun p hp => List.mem_cons_of_mem _ hp) (by omega)
end Mine

-- part WJ
set_option Elab.async false
set_option maxRecDepth 100000
set_option maxHeartbeats 8000000
set_option linter.unusedVariables false
namespace Mine
open PySem PySem.W PyProof.Rows PySem.Spec PySem.Calls
theorem SpecL.use {w : World} {lv : Nat} {f D : Addr} {o : Obj} {vs : List Value} {R : Tok → Value} {p : Program} {loose : List Str} {mean : ExcName → Option Value} {mg mb : Str → Option Value} {dp un : Nat} {gd : Option (List Code)} {cn : Str} {cs : Scope} {a : Addr} {ccd : Value} {cl' : List (Str × Addr)} {outer : List Env} {A₀ : Around} {base h₀ : Heap} {L : Addr} {m : Str → Option Value} {news : List (Addr × Obj)} {s : Shared} {Q E : Value → Shared → Prop}
    (C : SpecL w lv f D o vs R) (B : Below A₀ base outer h₀) (F : Fr h₀ L s.heap m) (X : (heapK w.params).In h₀) (N : News h₀ L s.heap news) (T : Top p loose mean mg mb h₀) (hk : cs.kind = .function) (hd : dp + lv < recursionLimit) (hu : un + 8 * lv < cLine) (hD : (D, o) ∈ news) (ret : Ret h₀ L m news s Q R) :
    wpAny (model PySem.Challenge.rw_re0157_01.row.prog w) (ktrTop dp un gd cn cs L a ccd cl' outer) (call (.ref f) vs) Q E s := C p loose mean mg mb dp un gd cn cs a ccd cl' outer A₀ base h₀ L m news s Q E B F X N T hk hd hu hD ret
theorem bl2 (w : World) (D : Addr) (vs : List Value) (row : List Str) (k : Nat) (x : Str) (tx : Tok) (hs : StrsAre vs row) (hr : row.length ≤ 100) (hl : ∀ y ∈ row, y.length ≤ 100) (hx : x.length ≤ 100) (n : Nat) (hn : n ≤ row.length) (hlo : ∀ i, i < n → cl (row.getD i Str.empty) < cl x) (hhi : ∀ i, n ≤ i → i < row.length → ¬ cl (row.getD i Str.empty) < cl x) :
    SpecL w 3 41 D (listOf vs.toArray k) [.ref D, .str x tx] (fun t => .int n t) := bl_gen w _ 216 D vs row k x tx hs hr hl hx n hn hlo hhi fun s X => bl_binds2 X _ _
theorem bl4 (w : World) (D : Addr) (vs : List Value) (row : List Str) (k : Nat) (x : Str) (tx t0 : Tok) (hs : StrsAre vs row) (hr : row.length ≤ 100) (hl : ∀ y ∈ row, y.length ≤ 100) (hx : x.length ≤ 100) (n : Nat) (hn : n ≤ row.length) (hlo : ∀ i, i < n → cl (row.getD i Str.empty) < cl x) (hhi : ∀ i, n ≤ i → i < row.length → ¬ cl (row.getD i Str.empty) < cl x) :
    SpecL w 3 41 D (listOf vs.toArray k) [.ref D, .str x tx, .int 0 t0, .none] (fun t => .int n t) := bl_gen w _ t0 D vs row k x tx hs hr hl hx n hn hlo hhi fun s X => bl_binds4 X _ _ _ _
abbrev SpecI (w : World) (lv : Nat) (f : Addr) (D : Addr) (o o' : Obj) (vs : List Value) : Prop :=
  ∀ (p : Program) (loose : List Str) (mean : ExcName → Option Value) (mg mb : Str → Option Value) (dp un : Nat) (gd : Option (List Code)) (cn : Str) (cs : Scope) (a : Addr) (ccd : Value) (cl' : List (Str × Addr)) (outer : List Env) (A₀ : Around) (base h₀ : Heap) (L : Addr) (m : Str → Option Value) (rest : List (Addr × Obj)) (s : Shared) (Q E : Value → Shared → Prop),
    Below A₀ base outer h₀ → Fr h₀ L s.heap m → (heapK w.params).In h₀ → News h₀ L s.heap ((D, o) :: rest) → (∀ p ∈ rest, p.1 ≠ D) → Top p loose mean mg mb h₀ → cs.kind = .function → dp + lv < recursionLimit → un + 8 * lv < cLine →
      (∀ (h' : Heap) (tk' : Nat), Fr h₀ L h' m → News h₀ L h' ((D, o') :: rest) → Q .none { s with heap := h', toks := tk' }) →
      wpAny (model PySem.Challenge.rw_re0157_01.row.prog w) (ktrTop dp un gd cn cs L a ccd cl' outer) (call (.ref f) vs) Q E s
local macro_rules | `(tactic| walk_at "call ref") => `(tactic| (k_here; (with_reducible show wpAny _ _ (call (Value.ref 41) [_, _, _, _]) _ _ _); (with_reducible rename StrsAre _ _ ∧ True => hS9); k_dflt (refine SpecL.use (bl4 _ _ _ _ _ _ _ _ hS9.1 (by assumption) (by assumption) (by assumption) _ (by assumption) (by assumption) (by assumption)) (by k_asm) (by k_asm) (by k_asm) (by k_asm) (by k_asm) (by first | exact rfl | assumption) (by ktr_room) (by ktr_units) (by k_mem) ?_); intro t9 h9 tk9 F9 N9; (try dsimp only)))
theorem ins_fits {n : Nat} (h : n ≤ 100) : Builtin.List.listFitsIndex (n : Int) = true := by
  unfold Builtin.List.listFitsIndex
  simp only [Bool.and_eq_true, decide_eq_true_eq]
  constructor <;> omega
theorem il_spec (w : World) (D : Addr) (vs : List Value) (row : List Str) (k : Nat) (x : Str) (tx : Tok) (hs : StrsAre vs row) (hr : row.length ≤ 100) (hl : ∀ y ∈ row, y.length ≤ 100) (hx : x.length ≤ 100) (n : Nat) (hn : n ≤ row.length) (hlo : ∀ i, i < n → cl (row.getD i Str.empty) < cl x) (hhi : ∀ i, n ≤ i → i < row.length → ¬ cl (row.getD i Str.empty) < cl x) :
    SpecI w 5 32 D (listOf vs.toArray k) (listOf (kl_ins vs n (.str x tx)).toArray (k + 1)) [.ref D, .str x tx] := by
  unfold SpecI
  k_fill
  intro p loose mean mg mb dp un gd cn cs a ccd cl' outer A₀ base h₀ L m rest s Q E B F X N hoff T hk hd hu hret
  have hs2 : StrsAre vs row ∧ True := ⟨hs, trivial⟩
  have hvl : vs.length = row.length := hs.length
  refine wpAny_call ?_
  k_dflt (refine' code_def ?k1 ?k2 ?k3 ?k4 ?k5 ?kA ?kF ?kK ?k6 ?k7 ?k8 ?k9 ?kB ?_ ?c2 ?c3 ?c4 ?c5; (case kA => exact rfl); (case kF => exact rfl); (case kK => assumption); (case k1 => k_asm); (case k2 => k_asm); (case k3 => k_asm); (case k4 => k_asm); (case k5 => k_asm); (case k6 => k_is); (case k7 => k_is); (case k8 => ktr_room); (case k9 => exact il_binds (by k_in) _ _); (case c5 => decide); (case kB => exact locs rfl); (case c2 => exact rfl); (case c3 => exact rfl); (case c4 => exact rfl); k_whole; intro g' L' h' FG' F' N' B' X' T'; (try dsimp only); (try k_lift B'); (try k_fold))
  k_steps
  have hsz : vs.toArray.toList.length ≤ sizeLine := by
    rw [List.toList_toArray, hvl]
    exact Nat.le_trans hr (by decide +kernel)
  refine kl_insert (by assumption) (by assumption) (ins_fits (by omega)) rfl (Upd.head hoff) hsz fun h8 F8 N8 => ?_
  k_steps
  exact hret _ _ (by assumption) (by assumption)
end Mine

-- part Comp
set_option Elab.async false
set_option maxRecDepth 100000
set_option maxHeartbeats 4000000
set_option linter.unusedVariables false
namespace Mine
open PySem PySem.W PyProof.Rows PySem.Spec PySem.Calls PyProof.V
open PyProof.Rows.LCg (NsObj ns_obj lst lst_snoc Off3 CompEnd fr_but news_but SrcAt)

abbrev NB (prog : Program) (w : World) (A : Around) (env : Env) (R : Result → Shared → Prop) : Value → Shared → Prop := notedBy (model prog w) A env fun e s' => R (.error e) s'
/-- a loop of a comprehension, seen from its turns: B is what follows the binding of the name -/
abbrev LoopRule (prog : Program) (w : World) (A : Around) (c : Code) (target : PySem.Expr) (it : Value) (env : Env) (R : Result → Shared → Prop) (B : (Shared → Prop) → Shared → Prop) : Prop :=
  ∀ I : Nat → Shared → Prop, (∀ n s, I n s → wpAny (model prog w) A (pyNext it) (fun r s₁ => match r with
      | none => R (.ok .next) s₁
      | some v => wpAny (model prog w) A (assign target env v) (fun _ s₂ => B (fun s₅ => ∃ m, m < n ∧ I m s₅) s₂) (NB prog w A env R) s₁) (NB prog w A env R) s) →
    ∀ n s, I n s → codeAny (model prog w) A c R s
/-- the last clause: the tests, the element, the append -/
def BLast (prog : Program) (w : World) (A : Around) (elt : PySem.Expr) (ifs : List PySem.Expr) (acc : Value) (env : Env) (R : Result → Shared → Prop) (Post : Shared → Prop) (s₂ : Shared) : Prop :=
  wpAny (model prog w) A (forIn ifs true fun c r => if r = true then do let ok ← isTrue c env (PySem.eval c env); pure (ForInStep.yield ok) else pure (ForInStep.yield r)) (fun ok s₃ =>
    if ok = true then wpAny (model prog w) A (PySem.eval elt env) (fun x s₄ => wpAny (model prog w) A (call (.builtin "list.append") [acc, x]) (fun _ s₅ => Post s₅) (NB prog w A env R) s₄) (NB prog w A env R) s₃
    else Post s₃) (NB prog w A env R) s₂
section
variable {prog : Program} {w : World} {A : Around} {E : Value → Shared → Prop} {R : Result → Shared → Prop} {s : Shared}
theorem rule_last0 {elt iter : PySem.Expr} {x : Str} {px : Pos} {ifs : List PySem.Expr} {scope : Scope} {pos : Pos} {it acc : Value} {env : Env} :
    LoopRule prog w A (.compLoop (.ListComp elt [⟨.Name x px, iter, ifs, 0⟩] scope pos) 0 it acc env) (.Name x px) it env R (BLast prog w A elt ifs acc env R) :=
  fun I turn n s h => codeAny_compLoop_tests I turn n h
theorem compTurn_last1 (elt target iter : PySem.Expr) (ifs : List PySem.Expr) (g0 : Comprehension) (scope : Scope) (pos : Pos) (it acc : Value) (env : Env) :
    compTurn (.ListComp elt [g0, ⟨target, iter, ifs, 0⟩] scope pos) 1 it acc env = (do
      standAt iter.pos
      match ← pyNext it with
      | none => pure (.done .next)
      | some v =>
        letOwnedTupleGo target it v
        assign target env v
        let mut ok := true
        for c in ifs do
          if ok then ok ← isTrue c env (PySem.eval c env)
        if ok then
          (do let _ ← call (.builtin "list.append") [acc, ← PySem.eval elt env])
        again (.compLoop (.ListComp elt [g0, ⟨target, iter, ifs, 0⟩] scope pos) 1 it acc env)) := by rfl
theorem rule_last1 {elt iter : PySem.Expr} {x : Str} {px : Pos} {ifs : List PySem.Expr} {g0 : Comprehension} {scope : Scope} {pos : Pos} {it acc : Value} {env : Env} :
    LoopRule prog w A (.compLoop (.ListComp elt [g0, ⟨.Name x px, iter, ifs, 0⟩] scope pos) 1 it acc env) (.Name x px) it env R (BLast prog w A elt ifs acc env R) := by
  intro I turn n s h
  refine codeAny_loop rfl I (fun n s hI => ?_) n h
  show wpAny _ A ((compTurn (.ListComp elt [g0, ⟨.Name x px, iter, ifs, 0⟩] scope pos) 1 it acc env).onRaise (fun x => do noteFrame x env; theTreesLotGoes x)) _ _ s
  refine wpAny_noted ?_
  rw [compTurn_last1]
  refine wpAny_bind (wpAny_standAt (wpAny_bind (wpAny_mono (turn n s hI) (fun r s₁ h₁ => ?_) fun _ _ h' => h')))
  cases r with
  | none => exact wpAny_pure h₁
  | some v =>
    refine wpAny_bind (wpAny_of_eq (by rfl : letOwnedTupleGo (.Name x px) it v = pure ()) ?_)
    refine wpAny_bind (wpAny_mono h₁ (fun _ s₂ h₂ => wpAny_bind (wpAny_mono h₂ (fun ok s₃ h₃ => ?_) fun _ _ h' => h')) fun _ _ h' => h')
    cases ok with
    | false => exact wpAny_pure ⟨rfl, h₃⟩
    | true =>
      exact wpAny_bind (wpAny_bind (wpAny_mono h₃ (fun x s₄ h₄ => wpAny_bind (wpAny_mono h₄ (fun _ s₅ h₅ => wpAny_pure (wpAny_pure ⟨rfl, h₅⟩)) fun _ _ h' => h')) fun _ _ h' => h'))
theorem compTurn_outer (elt target iter target1 iter1 : PySem.Expr) (ifs1 : List PySem.Expr) (scope : Scope) (pos : Pos) (it acc : Value) (env : Env) :
    compTurn (.ListComp elt [⟨target, iter, [], 0⟩, ⟨target1, iter1, ifs1, 0⟩] scope pos) 0 it acc env = (do
      standAt iter.pos
      match ← pyNext it with
      | none => pure (.done .next)
      | some v =>
        letOwnedTupleGo target it v
        assign target env v
        let x ← PySem.eval iter1 env
        standAt iter1.pos
        let x ← foldedSetIterable iter1 env x
        let _ ← runOwn (.compStart (.ListComp elt [⟨target, iter, [], 0⟩, ⟨target1, iter1, ifs1, 0⟩] scope pos) 1 (← holding [x] (pyIter x)) acc env) env
        again (.compLoop (.ListComp elt [⟨target, iter, [], 0⟩, ⟨target1, iter1, ifs1, 0⟩] scope pos) 0 it acc env)) := by rfl
def BOuter (prog : Program) (w : World) (A : Around) (elt target iter target1 iter1 : PySem.Expr) (ifs1 : List PySem.Expr) (scope : Scope) (pos : Pos) (acc : Value) (env : Env) (R : Result → Shared → Prop) (Post : Shared → Prop) (s₂ : Shared) : Prop :=
  wpAny (model prog w) A (PySem.eval iter1 env) (fun xv s₃ => wpAny (model prog w) A (pyIter xv) (fun it' s₄ =>
    codeAny (model prog w) A (.compStart (.ListComp elt [⟨target, iter, [], 0⟩, ⟨target1, iter1, ifs1, 0⟩] scope pos) 1 it' acc env)
      (fun r s₅ => match r with | .ok _ => Post s₅ | .error e => cameBackBy (model prog w) A env (NB prog w A env R) e s₅) s₄) (NB prog w A env R) s₃) (NB prog w A env R) s₂
theorem rule_outer {elt iter target1 iter1 : PySem.Expr} {x : Str} {px : Pos} {ifs1 : List PySem.Expr} {scope : Scope} {pos : Pos} {it acc : Value} {env : Env} (hs : ∀ v, foldedSetIterable iter1 env v = pure v) :
    LoopRule prog w A (.compLoop (.ListComp elt [⟨.Name x px, iter, [], 0⟩, ⟨target1, iter1, ifs1, 0⟩] scope pos) 0 it acc env) (.Name x px) it env R (BOuter prog w A elt (.Name x px) iter target1 iter1 ifs1 scope pos acc env R) := by
  intro I turn n s h
  refine codeAny_loop rfl I (fun n s hI => ?_) n h
  show wpAny _ A ((compTurn (.ListComp elt [⟨.Name x px, iter, [], 0⟩, ⟨target1, iter1, ifs1, 0⟩] scope pos) 0 it acc env).onRaise (fun x => do noteFrame x env; theTreesLotGoes x)) _ _ s
  refine wpAny_noted ?_
  rw [compTurn_outer]
  refine wpAny_bind (wpAny_standAt (wpAny_bind (wpAny_mono (turn n s hI) (fun r s₁ h₁ => ?_) fun _ _ h' => h')))
  cases r with
  | none => exact wpAny_pure h₁
  | some v =>
    refine wpAny_bind (wpAny_of_eq (by rfl : letOwnedTupleGo (.Name x px) it v = pure ()) ?_)
    refine wpAny_bind (wpAny_mono h₁ (fun _ s₂ h₂ => wpAny_bind (wpAny_mono h₂ (fun xv s₃ h₃ => wpAny_bind (wpAny_standAt (wpAny_bind (wpAny_of_eq (hs xv) (wpAny_bind (wpAny_holding (wpAny_mono h₃ (fun it' s₄ h₄ => ?_) fun _ _ h' => h'))))))) fun _ _ h' => h')) fun _ _ h' => h')
    refine wpAny_bind (wpAny_runOwn (codeAny_mono h₄ fun r s₅ h₅ => ?_))
    cases r with
    | ok f => exact wpAny_pure ⟨rfl, h₅⟩
    | error e => exact h₅
theorem start1 {elt target iter : PySem.Expr} {ifs : List PySem.Expr} {g0 : Comprehension} {scope : Scope} {pos : Pos} {it acc : Value} {env : Env}
    (h0 : codeAny (model prog w) A (.compLoop (.ListComp elt [g0, ⟨target, iter, ifs, 0⟩] scope pos) 1 it acc env) R s)
    (h : wpAny (model prog w) A (pyIter it) (fun it' s' => codeAny (model prog w) A (.compLoop (.ListComp elt [g0, ⟨target, iter, ifs, 0⟩] scope pos) 1 it' acc env) R s')
      (notedBy (model prog w) A env fun x s' => R (.error x) s') s) :
    codeAny (model prog w) A (.compStart (.ListComp elt [g0, ⟨target, iter, ifs, 0⟩] scope pos) 1 it acc env) R s := by
  refine codeAny_of_tree ?_
  show wpAny _ _ ((compStart (.ListComp elt [g0, ⟨target, iter, ifs, 0⟩] scope pos) 1 it acc env).onRaise (fun x => do noteFrame x env; standAt theWindowsPlace)) _ _ s
  refine wpAny_notedAt ?_
  unfold compStart
  show wpAny _ _ (ask >>= _) _ _ s
  refine wpAny_bind (wpAny_askSetting (wpAny_ite ?_))
  split
  · first
      | exact wpAny_bind (wpAny_pure (wpAny_pure (And.intro rfl h0)))
      | exact wpAny_pure (And.intro rfl h0)
  · first
      | exact wpAny_bind (wpAny_rule (wpAny_bind (wpAny_standAt (wpAny_bind (wpAny_mono h (fun it' s' h' => wpAny_pure (And.intro rfl h')) fun _ _ x => x)))))
      | (refine wpAny_bind (wpAny_rule ?_); show wpAny _ _ (standAt iter.pos >>= _) _ _ s; exact wpAny_bind (wpAny_standAt (wpAny_bind (wpAny_mono h (fun it' s' h' => wpAny_pure (And.intro rfl h')) fun _ _ x => x))))
end

/-- a source of a loop: its iterator, what keeps it alive -/
structure Src (prog : Program) (w : World) (A : Around) (h₀ : Heap) (L I : Addr) (fp : List Addr) (n : Nat) (P : Nat → Value → Prop) (S : List (Addr × Obj) → Prop) (St : Nat → Heap → Prop) : Prop where
  W : Walks prog w A I fp [I] n P St
  io : ∀ i h, St i h → ∃ o, h.get? I = some o
  st : ∀ i h h' o nw, St i h → h.get? I = some o → h'.get? I = some o → (∀ b o, h₀.get? b = some o → h'.get? b = some o) → News h₀ L h' nw → S nw → St i h'
/-- a turn's end: the block's own names beside ns are as they were -/
def TEnd (h₀ : Heap) (L : Addr) (m : Str → Option Value) (s₁ : Shared) (I : Addr) (oI : Obj) (C D : Addr) (mC : Str → Option Value) (ns : Str → Bool) (S : List (Addr × Obj) → Prop) (J : List Value → List (Addr × Obj) → Prop) (s₂ : Shared) : Prop :=
  ∃ h' tk ys' news' oC m₂, s₂ = { s₁ with heap := h', toks := tk } ∧ Fr h₀ L h' m ∧ News h₀ L h' ((I, oI) :: (C, oC) :: (D, lst ys') :: news') ∧ NsObj oC m₂ ∧ (∀ z, ns z = false → m₂ z = mC z) ∧ Off3 I C D news' ∧ S news' ∧ J ys' news'
section
variable {prog : Program} {w : World} {A : Around} {E : Value → Shared → Prop} {s : Shared} {h₀ : Heap} {L : Addr} {m : Str → Option Value} {env : Env}
theorem core {c : Code} {x : Str} {px : Pos} {scope : Scope} {cl : List (Str × Addr)} {s₂ : Shared} {R : Result → Shared → Prop} {B : (Shared → Prop) → Shared → Prop} {I C D : Addr} {fp : List Addr} {n : Nat} {P : Nat → Value → Prop} {S : List (Addr × Obj) → Prop} {St : Nat → Heap → Prop}
    (LR : LoopRule prog w A c (.Name x px) (.ref I) (compEnvC scope cl C env) R B) (src : Src prog w A h₀ L I fp n P S St) (hkind : scope.kind = .function) (hx : scope.names.lookup x = some .local)
    (hIL : I ≠ L) (hI₀ : h₀.get? I = none) (hCL : C ≠ L) (hC₀ : h₀.get? C = none) (hDL : D ≠ L) (hD₀ : h₀.get? D = none) (hIC : I ≠ C) (hID : I ≠ D) (hCD : C ≠ D) (hCf : C ∉ fp)
    (J : Nat → List Value → List (Addr × Obj) → Prop) (mC : Str → Option Value) (ns : Str → Bool) (hns : ns x = true)
    {mC' : Str → Option Value} {ys₀ : List Value} {news₀ : List (Addr × Obj)} (hst : St 0 s₂.heap) (F : Fr h₀ L s₂.heap m) (hn : s₂.heap.Ns C mC') (hm : ∀ z, ns z = false → mC' z = mC z) (N : News h₀ L s₂.heap ((D, lst ys₀) :: news₀)) (off : Off3 I C D news₀) (hS : S news₀) (hJ : J 0 ys₀ news₀)
    (turn : ∀ i v ys news oI oC m₂ h tk (Post : Shared → Prop), i < n → P i v → J i ys news → NsObj oC m₂ → m₂ x = some v → (∀ z, z ≠ x → ns z = false → m₂ z = mC z) → Fr h₀ L h m → News h₀ L h ((I, oI) :: (C, oC) :: (D, lst ys) :: news) → Off3 I C D news → S news →
      (∀ s₃, TEnd h₀ L m { s₂ with heap := h, toks := tk } I oI C D mC ns S (J (i + 1)) s₃ → Post s₃) → B Post { s₂ with heap := h, toks := tk })
    (done : ∀ h tk ys news m₂, J n ys news → (∀ z, ns z = false → m₂ z = mC z) → Fr h₀ L h m → h.Ns C m₂ → News h₀ L h ((D, lst ys) :: news) → Off3 I C D news → S news → R (.ok .next) { s₂ with heap := h, toks := tk }) :
    codeAny (model prog w) A c R s₂ := by
  obtain ⟨W, hIo, hSt⟩ := src
  refine LR (fun k s' => ∃ h' tk i ys m' news', s' = { s₂ with heap := h', toks := tk } ∧ i ≤ n ∧ k = n + 1 - i ∧ St i h' ∧ Fr h₀ L h' m ∧ h'.Ns C m' ∧ (∀ z, ns z = false → m' z = mC z) ∧ News h₀ L h' ((D, lst ys) :: news') ∧
        Off3 I C D news' ∧ S news' ∧ J i ys news') ?_ (n + 1) s₂ ⟨s₂.heap, s₂.toks, 0, ys₀, mC', news₀, rfl, Nat.zero_le _, rfl, hst, F, hn, hm, N, off, hS, hJ⟩
  rintro k s' ⟨h', tk, i, ys, m', news', rfl, hi, rfl, hst', F', hn', hm', N', off', hS', hJ'⟩
  by_cases hlt : i < n
  · refine W.item i _ _ _ hlt hst' fun v h₂ tk₂ hPv hst₂ hk₂ => ?_
    refine wpAny_assign_Name (wpAny_storeName_local (lookup_relabel_local hx) (hn'.at' fun o e => hk₂ _ o (by simpa using Ne.symm hIC) e) (fun h₃ hn₃ hs₃ => ?_) (by simp [compEnvC, relabel, hkind]))
    have hst₃ : St (i + 1) h₃ := W.frame _ _ _ hst₂ fun b hb o e => hs₃.extBut b o (fun q => hCf (by have q' : b = C := q; rw [← q']; exact hb)) e
    obtain ⟨oI, heI⟩ := hIo _ _ hst₃
    obtain ⟨oC, heC, hoC⟩ := ns_obj hn₃
    have F₃ : Fr h₀ L h₃ m := (fr_but F' hk₂ (Ne.symm hIL) hI₀).change hs₃ hCL hC₀
    have off3 := off'.mem
    have N₂ : News h₀ L h₂ ((D, lst ys) :: news') := news_but N' hk₂ fun p hp => by
      rcases List.mem_cons.mp hp with rfl | hp
      · exact Ne.symm hID
      · exact (off3 p hp).1
    have N₃ : News h₀ L h₃ ((I, oI) :: (C, oC) :: (D, lst ys) :: news') := fun p hp => by
      rcases List.mem_cons.mp hp with rfl | hp
      · exact ⟨heI, hIL, hI₀⟩
      · rcases List.mem_cons.mp hp with rfl | hp
        · exact ⟨heC, hCL, hC₀⟩
        · have z := N₂ p hp
          refine ⟨hs₃.extBut _ _ ?_ z.1, z.2⟩
          rcases List.mem_cons.mp hp with rfl | hp
          · exact Ne.symm hCD
          · exact (off3 p hp).2.1
    refine turn i v ys news' oI oC _ h₃ _ _ hlt hPv hJ' hoC (by simp) (fun z hz hz2 => ?_) F₃ N₃ off' hS' ?_
    · show (if z = x then some v else m' z) = mC z
      rw [if_neg hz, hm' z hz2]
    · rintro s₃ ⟨h₄, tk₄, ys₄, news₄, oC₄, m₄, rfl, F₄, N₄, hC₄, hm₄, off₄, hS₄, hJ₄⟩
      have zI := (N₄ (I, oI) List.mem_cons_self).1
      have N₄' : News h₀ L h₄ ((D, lst ys₄) :: news₄) := fun p hp => N₄ p (List.mem_cons_of_mem _ (List.mem_cons_of_mem _ hp))
      have N₄'' : News h₀ L h₄ news₄ := fun p hp => N₄' p (List.mem_cons_of_mem _ hp)
      refine ⟨n + 1 - (i + 1), by omega, h₄, tk₄, i + 1, ys₄, m₄, news₄, rfl, hlt, rfl, hSt _ _ _ _ _ hst₃ heI zI F₄.keep N₄'' hS₄, F₄, hC₄.ns (N₄ (C, oC₄) (List.mem_cons_of_mem _ List.mem_cons_self)).1, hm₄, N₄', off₄, hS₄, hJ₄⟩
  · obtain rfl : i = n := Nat.le_antisymm hi (Nat.not_lt.mp hlt)
    refine W.done _ _ _ hst' fun h₂ tk₂ hk₂ => ?_
    have off3 := off'.mem
    exact done h₂ tk₂ ys news' m' hJ' hm' (fr_but F' hk₂ (Ne.symm hIL) hI₀) (hn'.at' fun o e => hk₂ _ o (by simpa using Ne.symm hIC) e) (news_but N' hk₂ fun p hp => by
      rcases List.mem_cons.mp hp with rfl | hp
      · exact Ne.symm hID
      · exact (off3 p hp).1) off' hS'
end
end Mine

-- part Comp2
set_option Elab.async false
set_option maxRecDepth 100000
set_option maxHeartbeats 4000000
set_option linter.unusedVariables false
namespace Mine
open PySem PySem.W PyProof.Rows PySem.Spec PySem.Calls PyProof.V
open PyProof.Rows.LCg (NsObj ns_obj lst lst_snoc Off3 Off1 CompEnd fr_but news_but SrcAt FinE FinA)

/-- a comprehension that stands ready: its iterator is made, and it has an invariant -/
def CompRun (prog : Program) (w : World) (A : Around) (h₀ : Heap) (L : Addr) (m : Str → Option Value) (env : Env) (e : PySem.Expr) (x : Str) (px : Pos) (scope : Scope) (cl : List (Str × Addr)) (Fin : Shared → List Value → List (Addr × Obj) → Prop) (it : Value) (s₂ : Shared) : Prop :=
  ∃ (I : Addr) (fp : List Addr) (n : Nat) (P : Nat → Value → Prop) (S : List (Addr × Obj) → Prop) (St : Nat → Heap → Prop) (news₀ : List (Addr × Obj)) (J : Nat → List Value → List (Addr × Obj) → Prop) (ns : Str → Bool) (B : Addr → Addr → (Result → Shared → Prop) → (Shared → Prop) → Shared → Prop),
    it = .ref I ∧ (∀ C D R, LoopRule prog w A (.compLoop e 0 (.ref I) (.ref D) (compEnvC scope cl C env)) (.Name x px) (.ref I) (compEnvC scope cl C env) R (B C D R)) ∧ Src prog w A h₀ L I fp n P S St ∧ St 0 s₂.heap ∧ (∀ b ∈ fp, b < s₂.heap.objs.size) ∧
    Fr h₀ L s₂.heap m ∧ News h₀ L s₂.heap news₀ ∧ (∀ p ∈ news₀, p.1 ≠ I) ∧ S news₀ ∧ I ≠ L ∧ h₀.get? I = none ∧ ns x = true ∧ J 0 [] news₀ ∧
    (∀ C D R i v ys news oI oC m₂ h tk (Post : Shared → Prop), i < n → P i v → J i ys news → NsObj oC m₂ → m₂ x = some v → (∀ z, z ≠ x → ns z = false → m₂ z = none) → Fr h₀ L h m → News h₀ L h ((I, oI) :: (C, oC) :: (D, lst ys) :: news) → Off3 I C D news → S news → ((@Ne Nat I C) ∧ (@Ne Nat I D) ∧ (@Ne Nat C D)) →
      (∀ s₃, TEnd h₀ L m { s₂ with heap := h, toks := tk } I oI C D (fun _ => none) ns S (J (i + 1)) s₃ → Post s₃) → B C D R Post { s₂ with heap := h, toks := tk }) ∧
    (∀ ys news, J n ys news → S news → Fin s₂ ys news)
section
variable {prog : Program} {w : World} {A : Around} {E : Value → Shared → Prop} {s : Shared} {h₀ : Heap} {L : Addr} {m : Str → Option Value} {env : Env}
theorem block {elt iter : PySem.Expr} {x : Str} {px : Pos} {ifs : List PySem.Expr} {rest : List Comprehension} {scope : Scope} {cl : List (Str × Addr)} {pos : Pos} {s₂ : Shared} {it : Value} {Fin : Shared → List Value → List (Addr × Obj) → Prop} {RR : Value → Addr → Result → Shared → Prop}
    (hcell : ∀ y ∈ scope.names, y.2 ≠ .cell) (hkind : scope.kind = .function) (hx : scope.names.lookup x = some .local)
    (K : CompRun prog w A h₀ L m env (.ListComp elt (⟨.Name x px, iter, ifs, 0⟩ :: rest) scope pos) x px scope cl Fin it s₂)
    (hRR : ∀ D C h tk m' ys news', Fr h₀ L h m → News h₀ L h ((D, lst ys) :: news') → Off1 D news' → h.Ns C m' → h₀.get? C = none → h₀.get? D = none → C ≠ L → D ≠ L → C ≠ D → (∀ p ∈ news', p.1 ≠ C) → Fin s₂ ys news' → RR (.ref D) C (.ok .next) { s₂ with heap := h, toks := tk }) :
    wpAny (model prog w) A (newList []) (fun acc s₃ => wpAny (model prog w) A (newFunctionEnv scope env.globals cl [] env.qual none .none (some env)) (fun cenv s₄ =>
      codeAny (model prog w) A (.compStart (.ListComp elt (⟨.Name x px, iter, ifs, 0⟩ :: rest) scope pos) 0 it acc { cenv with scope := relabel scope env }) (RR acc cenv.locals) s₄) E s₃) E s₂ := by
  obtain ⟨I, fp, n, P, S, St, news, J, ns, B, rfl, LR, src, hst, hfp, F, N, offI, hS, hIL, hI₀, hns, hJ, turn, fin⟩ := K
  refine wpAny_newObj_type (wpAny_newFunctionEnv hcell (by intro y hy; simp at hy) (fun h₁ hns₁ hsb₁ => ?_) hkind)
  dsimp only at hns₁ hsb₁ ⊢
  generalize hH2 : s₂.heap.push { cls := .type "list", dict := none, data := .seq ([] : List Value).toArray } = H2 at hns₁ hsb₁ ⊢
  have hC : H2.objs.size = s₂.heap.objs.size + 1 := by rw [← hH2, Heap.size_push]
  have hDC : s₂.heap.objs.size ≠ H2.objs.size := by rw [hC]; exact Nat.ne_of_lt (Nat.lt_succ_self _)
  have below : ∀ b, b < s₂.heap.objs.size → b ≠ H2.objs.size ∧ b ≠ s₂.heap.objs.size := fun b hb => ⟨by rw [hC]; exact Nat.ne_of_lt (Nat.lt_succ_of_lt hb), Nat.ne_of_lt hb⟩
  have hCf : H2.objs.size ∉ fp := fun hm => by have := hfp _ hm; rw [hC] at this; exact Nat.lt_irrefl _ (Nat.lt_of_succ_lt this)
  have hIf : I ∈ fp := src.W.sub I (List.mem_singleton.mpr rfl)
  have hIlt : I < s₂.heap.objs.size := hfp I hIf
  have old : ∀ b o, s₂.heap.get? b = some o → h₁.get? b = some o := fun b o e => hsb₁.extBut b o (below b (Heap.lt_size e)).1 (Heap.get?_push_of_some _ (hH2 ▸ Heap.get?_push_of_some _ e))
  have hacc : h₁.get? s₂.heap.objs.size = some (lst []) := hsb₁.extBut _ _ hDC (Heap.get?_push_of_some _ (hH2 ▸ Heap.get?_push_size _ rfl))
  have hst₁ : St 0 h₁ := src.W.frame _ _ _ hst fun b _ o e => old b o e
  have fresh : ∀ a, s₂.heap.objs.size ≤ a → s₂.heap.get? a = none := fun a ha => by
    cases e : s₂.heap.get? a with
    | none => rfl
    | some o' => exact absurd (Heap.lt_size e) (Nat.not_lt.mpr ha)
  have fresh₀ : ∀ a, s₂.heap.objs.size ≤ a → h₀.get? a = none := fun a ha => by
    cases e : h₀.get? a with
    | none => rfl
    | some o' => have := F.keep a o' e; rw [fresh a ha] at this; cases this
  have hD₀ : h₀.get? s₂.heap.objs.size = none := fresh₀ _ (Nat.le_refl _)
  have hC₀ : h₀.get? H2.objs.size = none := fresh₀ _ (by rw [hC]; exact Nat.le_succ _)
  have hLlt : L < s₂.heap.objs.size := F.ns.lt
  have hDL : s₂.heap.objs.size ≠ L := Ne.symm (below L hLlt).2
  have hCL : H2.objs.size ≠ L := Ne.symm (below L hLlt).1
  have hCI : I ≠ H2.objs.size := (below I hIlt).1
  have hDI : I ≠ s₂.heap.objs.size := (below I hIlt).2
  have off₀ : Off3 I H2.objs.size s₂.heap.objs.size news := Off3.of fun p hp => ⟨offI p hp, (below _ (Heap.lt_size (N p hp).1)).1, (below _ (Heap.lt_size (N p hp).1)).2⟩
  have N₁ : News h₀ L h₁ ((s₂.heap.objs.size, lst []) :: news) := fun p hp => by
    rcases List.mem_cons.mp hp with rfl | hp
    · exact ⟨hacc, hDL, hD₀⟩
    · exact ⟨old _ _ (N p hp).1, (N p hp).2⟩
  have loop : ∀ s₃ : Shared, s₃ = { s₂ with heap := h₁, toks := s₂.toks + ([] : List (Str × Value)).length } →
      codeAny (model prog w) A (.compLoop (.ListComp elt (⟨.Name x px, iter, ifs, 0⟩ :: rest) scope pos) 0 (.ref I) (.ref s₂.heap.objs.size) (compEnvC scope cl H2.objs.size env))
        (RR (.ref s₂.heap.objs.size) H2.objs.size) s₃ := by
    rintro s₃ rfl
    refine core (LR _ _ _) src hkind hx hIL hI₀ hCL hC₀ hDL hD₀ hCI hDI (Ne.symm hDC) hCf J (fun _ => none) ns hns hst₁ (F.keeps old) hns₁ (fun z _ => rfl) N₁ off₀ hS hJ (fun i v ys news oI oC m₂ h tk Post a1 a2 a3 a4 a5 a6 a7 a8 a9 a10 a11 => turn _ _ _ i v ys news oI oC m₂ h tk Post a1 a2 a3 a4 a5 a6 a7 a8 a9 a10 ⟨hCI, hDI, Ne.symm hDC⟩ a11) ?_
    intro h tk ys news' m₂ hJ' hm' F' hn' N' off' hS'
    exact hRR _ _ h tk _ ys news' F' N' off'.one hn' hC₀ hD₀ hCL hDL (Ne.symm hDC) (fun p hp => (off'.mem p hp).2.1) (fin _ _ hJ' hS')
  exact codeAny_compStart_list (loop _ rfl) (src.W.self 0 _ _ _ hst₁ (loop _ rfl))

theorem eval_comp {elt iter : PySem.Expr} {x : Str} {px : Pos} {ifs : List PySem.Expr} {rest : List Comprehension} {scope : Scope} {cl : List (Str × Addr)} {pos : Pos} {Q : Value → Shared → Prop}
    (hclos : closureFor scope env = pure cl) (hcell : ∀ y ∈ scope.names, y.2 ≠ .cell) (hkind : scope.kind = .function)
    (hnames : ∀ y ∈ scope.names, y.2 = .local → scope.names.lookup y.1 = some .local) (hx : scope.names.lookup x = some .local)
    (h : wpAny (model prog w) A (PySem.eval iter env) (fun xv s₁ => wpAny (model prog w) A (pyIter xv) (CompRun prog w A h₀ L m env (.ListComp elt (⟨.Name x px, iter, ifs, 0⟩ :: rest) scope pos) x px scope cl (fun s₂ => FinE h₀ L m s₂ Q)) E s₁) E s)
    (hs : ∀ x, foldedSetIterable iter env x = pure x := by intro _; rfl) :
    wpAny (model prog w) A (PySem.eval (.ListComp elt (⟨.Name x px, iter, ifs, 0⟩ :: rest) scope pos) env) Q E s := by
  rw [eval_ListComp]
  refine wpAny_comprehension_free (use := none) rfl hs hclos hkind hnames (wpAny_mono h (fun xv s₁ h₁ => ?_) fun _ _ e => e)
  refine wpAny_mono h₁ (fun it s₂ K => ?_) fun _ _ e => e
  refine block hcell hkind hx K ?_
  intro D C h tk m' ys news' F' N' o1 hn hC₀ hD₀ hCL hDL hCD offC fin
  refine ⟨m', hn, fun h'' hs'' => fin D h'' tk (F'.change hs'' hCL hC₀) (fun p hp => ?_) o1⟩
  refine ⟨hs''.extBut _ _ ?_ (N' p hp).1, (N' p hp).2⟩
  rcases List.mem_cons.mp hp with rfl | hp
  · exact Ne.symm hCD
  · exact offC p hp
theorem eval_compF {elt iter : PySem.Expr} {x : Str} {px : Pos} {ifs : List PySem.Expr} {rest : List Comprehension} {scope : Scope} {cl : List (Str × Addr)} {pos : Pos} {Q : Value → Shared → Prop} (_F₀ : Fr h₀ L s.heap m)
    (hclos : closureFor scope env = pure cl) (hcell : ∀ y ∈ scope.names, y.2 ≠ .cell) (hkind : scope.kind = .function)
    (hnames : ∀ y ∈ scope.names, y.2 = .local → scope.names.lookup y.1 = some .local) (hx : scope.names.lookup x = some .local)
    (h : wpAny (model prog w) A (PySem.eval iter env) (fun xv s₁ => wpAny (model prog w) A (pyIter xv) (CompRun prog w A h₀ L m env (.ListComp elt (⟨.Name x px, iter, ifs, 0⟩ :: rest) scope pos) x px scope cl (fun s₂ => FinE h₀ L m s₂ Q)) E s₁) E s)
    (hs : ∀ x, foldedSetIterable iter env x = pure x := by intro _; rfl) :
    wpAny (model prog w) A (PySem.eval (.ListComp elt (⟨.Name x px, iter, ifs, 0⟩ :: rest) scope pos) env) Q E s := eval_comp hclos hcell hkind hnames hx h hs
theorem assign_comp {elt iter : PySem.Expr} {x y : Str} {px py : Pos} {ifs : List PySem.Expr} {rest : List Comprehension} {scope : Scope} {cl : List (Str × Addr)} {pos spos : Pos} {Q : Flow → Shared → Prop} (hLe : env.locals = L)
    (hsw : swapsWith (.ListComp elt (⟨.Name x px, iter, ifs, 0⟩ :: rest) scope pos) (some (.Name y py)) spos.line env = pure true)
    (hclos : closureFor scope env = pure cl) (hcell : ∀ z ∈ scope.names, z.2 ≠ .cell) (hkind : scope.kind = .function)
    (hnames : ∀ z ∈ scope.names, z.2 = .local → scope.names.lookup z.1 = some .local) (hx : scope.names.lookup x = some .local)
    (hy : env.kindOf y = some .local) (hp : (env.scope.kind == .class || (env.scope.kind == .module && env.locals != env.globals)) = false)
    (h : wpAny (model prog w) A (PySem.eval iter env) (fun xv s₁ => wpAny (model prog w) A (pyIter xv) (CompRun prog w A h₀ L m env (.ListComp elt (⟨.Name x px, iter, ifs, 0⟩ :: rest) scope pos) x px scope cl (fun s₂ => FinA h₀ L m s₂ y Q)) E s₁) E s)
    (hs : ∀ x, foldedSetIterable iter env x = pure x := by intro _; rfl) :
    wpAny (model prog w) A (exec (.Assign [.Name y py] (.ListComp elt (⟨.Name x px, iter, ifs, 0⟩ :: rest) scope pos) spos) env) Q E s := by
  subst hLe
  rw [exec_Assign_Name_used _ _ _ _ hsw]
  refine wpAny_bind (wpAny_standAt (wpAny_bind ?_))
  show wpAny _ A (do let _ ← comprehension (.ListComp elt (⟨.Name x px, iter, ifs, 0⟩ :: rest) scope pos) scope env _ (newList []) false (PySem.eval iter env) (some (assign (.Name y py) env))) _ _ s
  refine wpAny_bind (wpAny_mono (wpAny_comprehension_free (use := some (assign (.Name y py) env)) (Q := fun _ s' => Q .next s') rfl hs hclos hkind hnames
    (wpAny_mono h (fun xv s₁ h₁ => ?_) fun _ _ e => e)) (fun _ s' hq => wpAny_pure (wpAny_pure hq)) fun _ _ e => e)
  refine wpAny_mono h₁ (fun it s₂ K => ?_) fun _ _ e => e
  refine block hcell hkind hx K ?_
  intro D C h' tk m' ys news' F' N' o1 hn hC₀ hD₀ hCL hDL hCD offC fin
  show wpAny _ A (assign (.Name y py) env (.ref D)) _ _ _
  refine wpAny_assign_Name (wpAny_storeName_local hy F'.ns (fun h₂ hn₂ hs₂ => ?_) hp)
  have hL₀ : h₀.get? env.locals = none := Heap.get?_none_of_le F'.above
  have F₂ : Fr h₀ env.locals h₂ (fun z => if z = y then some (.ref D) else m z) := ⟨hn₂, fun b o e => hs₂.extBut b o (fun q => by rw [q, hL₀] at e; cases e) (F'.keep b o e), F'.above⟩
  refine ⟨m', hn.sameBut hs₂ hCL, fun h'' hs'' => fin D h'' _ (F₂.change hs'' hCL hC₀) (fun p hp => ?_) o1⟩
  have z : h₂.get? p.1 = some p.2 := hs₂.extBut _ _ (N' p hp).2.1 (N' p hp).1
  refine ⟨hs''.extBut _ _ ?_ z, (N' p hp).2⟩
  rcases List.mem_cons.mp hp with rfl | hp
  · exact Ne.symm hCD
  · exact offC p hp
end
end Mine

-- part Comp3
set_option Elab.async false
set_option maxRecDepth 100000
set_option maxHeartbeats 4000000
set_option linter.unusedVariables false
namespace Mine
open PySem PySem.W PyProof.Rows PySem.Spec PySem.Calls PyProof.V
open PyProof.Rows.LCg (NsObj ns_obj lst lst_snoc Off3 Off1 CompEnd fr_but news_but SrcAt FinE FinA range_walks list_st range_st)
section
variable {prog : Program} {w : World} {A : Around} {E : Value → Shared → Prop} {s : Shared} {h₀ : Heap} {L : Addr} {m : Str → Option Value} {env : Env}
theorem app_end {I C D : Addr} {oI oC : Obj} {ys : List Value} {y : Value} {mC m₂ : Str → Option Value} {ns : Str → Bool} {S : List (Addr × Obj) → Prop} {J : List Value → List (Addr × Obj) → Prop} {h' : Heap} {tk' : Nat} {all news' : List (Addr × Obj)} {Post : Shared → Prop}
    (F : Fr h₀ L h' m) (N : News h₀ L h' all) (hI : (I, oI) ∈ all) (hC : (C, oC) ∈ all) (hD : (D, lst ys) ∈ all) (sub : ∀ p ∈ news', p ∈ all) (off : Off3 I C D news') (ne : (@Ne Nat I C) ∧ (@Ne Nat I D) ∧ (@Ne Nat C D)) (hS : S news') (hns : NsObj oC m₂) (hm : ∀ z, ns z = false → m₂ z = mC z) (hsz : ys.length ≤ 1000) (hJ : J (ys ++ [y]) news')
    (post : ∀ s₃, TEnd h₀ L m s I oI C D mC ns S J s₃ → Post s₃) :
    wpAny (model prog w) A (call (.builtin "list.append") [.ref D, y]) (fun _ s₅ => Post s₅) E { s with heap := h', toks := tk' } := by
  have zD := N _ hD
  refine append_at (its := ys.toArray) (hsz := by rw [List.size_toArray]; exact Nat.le_trans hsz (by decide +kernel)) zD.1 fun h₅ hs₅ hD₅ => ?_
  have off3 := off.mem
  refine post _ ⟨h₅, tk', ys ++ [y], news', oC, m₂, rfl, F.change hs₅ zD.2.1 zD.2.2, fun p hp => ?_, hns, hm, off, hS, hJ⟩
  rcases List.mem_cons.mp hp with rfl | hp
  · exact ⟨hs₅.extBut _ _ ne.2.1 (N _ hI).1, (N _ hI).2⟩
  · rcases List.mem_cons.mp hp with rfl | hp
    · exact ⟨hs₅.extBut _ _ ne.2.2 (N _ hC).1, (N _ hC).2⟩
    · rcases List.mem_cons.mp hp with rfl | hp
      · exact ⟨hD₅.trans (congrArg some (lst_snoc ys y)), zD.2⟩
      · exact ⟨hs₅.extBut _ _ (off3 p hp).2.2 (N _ (sub p hp)).1, (N _ (sub p hp)).2⟩
theorem skip_end {I C D : Addr} {oI oC : Obj} {ys : List Value} {mC m₂ : Str → Option Value} {ns : Str → Bool} {S : List (Addr × Obj) → Prop} {J : List Value → List (Addr × Obj) → Prop} {h' : Heap} {tk' : Nat} {all news' : List (Addr × Obj)} {Post : Shared → Prop}
    (F : Fr h₀ L h' m) (N : News h₀ L h' all) (hI : (I, oI) ∈ all) (hC : (C, oC) ∈ all) (hD : (D, lst ys) ∈ all) (sub : ∀ p ∈ news', p ∈ all) (off : Off3 I C D news') (hS : S news') (hns : NsObj oC m₂) (hm : ∀ z, ns z = false → m₂ z = mC z) (hJ : J ys news')
    (post : ∀ s₃, TEnd h₀ L m s I oI C D mC ns S J s₃ → Post s₃) : Post { s with heap := h', toks := tk' } := by
  refine post _ ⟨h', tk', ys, news', oC, m₂, rfl, F, fun p hp => ?_, hns, hm, off, hS, hJ⟩
  rcases List.mem_cons.mp hp with rfl | hp
  · exact N _ hI
  · rcases List.mem_cons.mp hp with rfl | hp
    · exact N _ hC
    · rcases List.mem_cons.mp hp with rfl | hp
      · exact N _ hD
      · exact N _ (sub p hp)

abbrev TurnOf (prog : Program) (w : World) (A : Around) (h₀ : Heap) (L : Addr) (m : Str → Option Value) (s : Shared) (x : Str) (n : Nat) (P : Nat → Value → Prop) (S : List (Addr × Obj) → Prop) (J : Nat → List Value → List (Addr × Obj) → Prop) (ns : Str → Bool) (B : Addr → Addr → Addr → (Result → Shared → Prop) → (Shared → Prop) → Shared → Prop) : Prop :=
  ∀ I C D R i v ys news oI oC m₂ h tk (Post : Shared → Prop), i < n → P i v → J i ys news → NsObj oC m₂ → m₂ x = some v → (∀ z, z ≠ x → ns z = false → m₂ z = none) → Fr h₀ L h m → News h₀ L h ((I, oI) :: (C, oC) :: (D, lst ys) :: news) → Off3 I C D news → S news → ((@Ne Nat I C) ∧ (@Ne Nat I D) ∧ (@Ne Nat C D)) →
      (∀ s₃, TEnd h₀ L m { s with heap := h, toks := tk } I oI C D (fun _ => none) ns S (J (i + 1)) s₃ → Post s₃) → B I C D R Post { s with heap := h, toks := tk }
abbrev RuleOf (prog : Program) (w : World) (A : Around) (env : Env) (e : PySem.Expr) (x : Str) (px : Pos) (scope : Scope) (cl : List (Str × Addr)) (B : Addr → Addr → Addr → (Result → Shared → Prop) → (Shared → Prop) → Shared → Prop) : Prop :=
  ∀ I C D R, LoopRule prog w A (.compLoop e 0 (.ref I) (.ref D) (compEnvC scope cl C env)) (.Name x px) (.ref I) (compEnvC scope cl C env) R (B I C D R)
theorem run_list {e : PySem.Expr} {x : Str} {px : Pos} {scope : Scope} {cl : List (Str × Addr)} {Fin : Shared → List Value → List (Addr × Obj) → Prop} {ax : Addr} {its : Array Value} {news : List (Addr × Obj)} {B : Addr → Addr → Addr → (Result → Shared → Prop) → (Shared → Prop) → Shared → Prop}
    (LR : RuleOf prog w A env e x px scope cl B) (hh : A.handled = none) (F : Fr h₀ L s.heap m) (N : News h₀ L s.heap news) (hs : SrcAt h₀ ax its news) (J : Nat → List Value → List (Addr × Obj) → Prop) (ns : Str → Bool) (hns : ns x = true) (hJ : J 0 [] news)
    (turn : TurnOf prog w A h₀ L m s x its.size (fun i v => its[i]? = some v) (SrcAt h₀ ax its) J ns B) (fin : ∀ g ys news, J its.size ys news → SrcAt h₀ ax its news → Fin { s with heap := g } ys news) :
    wpAny (model prog w) A (pyIter (.ref ax)) (CompRun prog w A h₀ L m env e x px scope cl Fin) E s := by
  have hl := hs.list F.keep N
  have hlt : ax < s.heap.objs.size := by obtain ⟨_, e, _⟩ := hl; exact Heap.lt_size e
  refine wpAny_pyIter_list hl ?_
  have up : ∀ b o, s.heap.get? b = some o → (s.heap.push { cls := .type "list_iterator", data := .fields #[.ref ax, .int 0 0] }).get? b = some o := fun b o e => Heap.get?_push_of_some _ e
  refine ⟨s.heap.objs.size, [s.heap.objs.size, ax], its.size, _, SrcAt h₀ ax its, _, news, J, ns, B s.heap.objs.size, rfl, fun C D R => LR _ C D R, ⟨Walks.list hh s.heap.objs.size ax (Nat.ne_of_lt hlt) its, fun i h st => by obtain ⟨o, e, _⟩ := st.1; exact ⟨o, e⟩, list_st⟩, ⟨⟨_, Heap.get?_push_size _ rfl, rfl, rfl⟩, hl.push _⟩, fun b hb => ?_, F.keeps up, N.grown up, fun p hp => Nat.ne_of_lt (Heap.lt_size (N p hp).1), hs, Nat.ne_of_gt F.ns.lt, next_is_new F, hns, hJ, fun C D R => turn _ C D R, fun ys news h1 h2 => fin _ ys news h1 h2⟩
  show b < (s.heap.push _).objs.size
  rw [Heap.size_push]
  rcases List.mem_cons.mp hb with rfl | hb
  · exact Nat.lt_succ_self _
  · rw [List.mem_singleton.mp hb]; exact Nat.lt_succ_of_lt hlt
theorem run_range {e : PySem.Expr} {x : Str} {px : Pos} {scope : Scope} {cl : List (Str × Addr)} {Fin : Shared → List Value → List (Addr × Obj) → Prop} {r : Addr} {a b : Int} {t u v : Tok} {n : Nat} {news : List (Addr × Obj)} {B : Addr → Addr → Addr → (Result → Shared → Prop) → (Shared → Prop) → Shared → Prop}
    (LR : RuleOf prog w A env e x px scope cl B) (hh : A.handled = none) (F : Fr h₀ L s.heap m) (N : News h₀ L s.heap news) (hr : IsRange s.heap r a b 1 t u v) (hsm : Builtin.Range.small a b 1 = true) (hn : Builtin.Range.rangeSize a b 1 = ((n : Nat) : Int)) (J : Nat → List Value → List (Addr × Obj) → Prop) (ns : Str → Bool) (hns : ns x = true) (hJ : J 0 [] news)
    (turn : TurnOf prog w A h₀ L m s x n (fun i v => ∃ t, v = .int (a + (i : Int)) t) (fun _ => True) J ns B) (fin : ∀ g ys news, J n ys news → Fin { s with heap := g } ys news) :
    wpAny (model prog w) A (pyIter (.ref r)) (CompRun prog w A h₀ L m env e x px scope cl Fin) E s := by
  refine wpAny_pyIter_range hr hsm ?_
  refine ⟨s.heap.objs.size, [s.heap.objs.size], n, _, fun _ => True, _, news, J, ns, B s.heap.objs.size, rfl, fun C D R => LR _ C D R, ⟨range_walks hh a n, fun i h st => ⟨_, st⟩, range_st⟩, (by show IsRangeIter _ _ _ _ _; rw [hn]; simpa using Heap.get?_push_size _ rfl), fun b hb => ?_, F.keeps fun _ _ e => Heap.get?_push_of_some _ e, N.grown fun _ _ e => Heap.get?_push_of_some _ e, fun p hp => Nat.ne_of_lt (Heap.lt_size (N p hp).1), trivial, Nat.ne_of_gt F.ns.lt, next_is_new F, hns, hJ, fun C D R => turn _ C D R, fun ys news h1 _ => fin _ ys news h1⟩
  rw [List.mem_singleton.mp hb]
  show s.heap.objs.size < (s.heap.push _).objs.size
  rw [Heap.size_push]; exact Nat.lt_succ_self _
theorem run_str {e : PySem.Expr} {x : Str} {px : Pos} {scope : Scope} {cl : List (Str × Addr)} {Fin : Shared → List Value → List (Addr × Obj) → Prop} {y : Str} {t : Tok} {news : List (Addr × Obj)} {B : Addr → Addr → Addr → (Result → Shared → Prop) → (Shared → Prop) → Shared → Prop}
    (LR : RuleOf prog w A env e x px scope cl B) (hh : A.handled = none) (F : Fr h₀ L s.heap m) (N : News h₀ L s.heap news) (J : Nat → List Value → List (Addr × Obj) → Prop) (ns : Str → Bool) (hns : ns x = true) (hJ : J 0 [] news)
    (turn : TurnOf prog w A h₀ L m s x y.cps.size (SignAt y) (fun _ => True) J ns B) (fin : ∀ g ys news, J y.cps.size ys news → Fin { s with heap := g } ys news) :
    wpAny (model prog w) A (pyIter (.str y t)) (CompRun prog w A h₀ L m env e x px scope cl Fin) E s := by
  have go : ∀ (o : Obj) (nm : String), (∀ (i : Nat) (h : Heap), h.IsStrIter s.heap.objs.size nm y t i → ∃ o, h.get? s.heap.objs.size = some o) → Walks prog w A s.heap.objs.size [s.heap.objs.size] [s.heap.objs.size] y.cps.size (SignAt y) (fun (i : Nat) (h : Heap) => h.IsStrIter s.heap.objs.size nm y t i) → (s.heap.push o).IsStrIter s.heap.objs.size nm y t 0 →
      CompRun prog w A h₀ L m env e x px scope cl Fin (.ref s.heap.objs.size) { s with heap := s.heap.push o } := by
    intro o nm hio W hst
    refine ⟨s.heap.objs.size, [s.heap.objs.size], y.cps.size, _, fun _ => True, _, news, J, ns, B s.heap.objs.size, rfl, fun C D R => LR _ C D R, ⟨W, hio, ?_⟩, hst, fun b hb => ?_, F.keeps fun _ _ e => Heap.get?_push_of_some _ e, N.grown fun _ _ e => Heap.get?_push_of_some _ e, fun p hp => Nat.ne_of_lt (Heap.lt_size (N p hp).1), trivial, Nat.ne_of_gt F.ns.lt, next_is_new F, hns, hJ, fun C D R => turn _ C D R, fun ys news h1 _ => fin _ ys news h1⟩
    · rintro i h h' o nw ⟨o', q, r⟩ e e' _ _ _
      rw [e] at q; cases q
      exact ⟨o, e', r⟩
    · rw [List.mem_singleton.mp hb]
      show s.heap.objs.size < (s.heap.push _).objs.size
      rw [Heap.size_push]; exact Nat.lt_succ_self _
  cases ha : y.cps.all (· < 128)
  · exact wpAny_pyIter_wide ha (go _ _ (fun i h st => by obtain ⟨o, q, _⟩ := st; exact ⟨o, q⟩) (Walks.strWide hh _ y t) ⟨_, Heap.get?_push_size _ rfl, rfl, rfl⟩)
  · exact wpAny_pyIter_ascii ha (go _ _ (fun i h st => by obtain ⟨o, q, _⟩ := st; exact ⟨o, q⟩) (Walks.strAscii hh _ y t) ⟨_, Heap.get?_push_size _ rfl, rfl, rfl⟩)
end
end Mine

-- part Comp4
set_option Elab.async false
set_option maxRecDepth 100000
set_option maxHeartbeats 4000000
set_option linter.unusedVariables false
namespace Mine
open PySem PySem.W PyProof.Rows PySem.Spec PySem.Calls PyProof.V
open PyProof.Rows.LCg (NsObj ns_obj lst lst_snoc Off3 Off1 CompEnd fr_but news_but SrcAt FinE FinA range_walks list_st range_st)
def SIn (I C D : Addr) (oI : Obj) (S : List (Addr × Obj) → Prop) (led : List (Addr × Obj)) : Prop := ∃ nw, led = (I, oI) :: nw ∧ S nw ∧ Off3 I C D nw
def JIn (I : Addr) (oI : Obj) (J : Nat → List Value → List (Addr × Obj) → Prop) (k : Nat) (ys : List Value) (led : List (Addr × Obj)) : Prop := ∃ nw, led = (I, oI) :: nw ∧ J k ys nw
section
variable {prog : Program} {w : World} {A : Around} {E : Value → Shared → Prop} {s : Shared} {h₀ : Heap} {L : Addr} {m : Str → Option Value} {env : Env}
theorem inner_range {elt iter1 : PySem.Expr} {x2 : Str} {px2 : Pos} {ifs1 : List PySem.Expr} {g0 : Comprehension} {scope : Scope} {cl : List (Str × Addr)} {pos : Pos} {I C D r : Addr} {oI oC : Obj} {ys : List Value} {mC m₂ : Str → Option Value} {ns : Str → Bool} {S : List (Addr × Obj) → Prop} {h' : Heap} {tk' : Nat} {all news : List (Addr × Obj)} {a b : Int} {t u v : Tok} {n : Nat} {RR : Result → Shared → Prop}
    (hA : A.handled = none) (hr : IsRange h' r a b 1 t u v) (hsm : Builtin.Range.small a b 1 = true) (hn : Builtin.Range.rangeSize a b 1 = ((n : Nat) : Int)) (hkind : scope.kind = .function) (hx2 : scope.names.lookup x2 = some .local)
    (F : Fr h₀ L h' m) (N : News h₀ L h' all) (hI : (I, oI) ∈ all) (hC : (C, oC) ∈ all) (hD : (D, lst ys) ∈ all) (sub : ∀ p ∈ news, p ∈ all) (off : Off3 I C D news) (ne : (@Ne Nat I C) ∧ (@Ne Nat I D) ∧ (@Ne Nat C D)) (hS : S news) (hns : NsObj oC m₂) (hm : ∀ z, ns z = false → m₂ z = mC z) (hns2 : ns x2 = true)
    (J : Nat → List Value → List (Addr × Obj) → Prop) (hJ : J 0 ys news)
    (turn : ∀ R k v2 ys' news' I2 oI2 oC' m₃ h tk (Post' : Shared → Prop), k < n → (∃ t, v2 = .int (a + (k : Int)) t) → J k ys' news' → NsObj oC' m₃ → m₃ x2 = some v2 → (∀ z, z ≠ x2 → m₃ z = m₂ z) → Fr h₀ L h m → News h₀ L h ((I2, oI2) :: (C, oC') :: (D, lst ys') :: (I, oI) :: news') → Off3 I2 C D ((I, oI) :: news') → Off3 I C D news' → S news' → ((@Ne Nat I2 C) ∧ (@Ne Nat I2 D) ∧ (@Ne Nat C D)) →
      (∀ s₃, TEnd h₀ L m { s with heap := h, toks := tk } I2 oI2 C D m₂ (fun z => z == x2) (SIn I C D oI S) (JIn I oI J (k + 1)) s₃ → Post' s₃) → BLast prog w A elt ifs1 (.ref D) (compEnvC scope cl C env) R Post' { s with heap := h, toks := tk })
    (post : ∀ s₃, TEnd h₀ L m s I oI C D mC ns S (J n) s₃ → RR (.ok .next) s₃) :
    wpAny (model prog w) A (pyIter (.ref r)) (fun it' s₄ => codeAny (model prog w) A (.compStart (.ListComp elt [g0, ⟨.Name x2 px2, iter1, ifs1, 0⟩] scope pos) 1 it' (.ref D) (compEnvC scope cl C env)) RR s₄) E { s with heap := h', toks := tk' } := by
  refine wpAny_pyIter_range hr hsm ?_
  have zI := N _ hI
  have zC := N _ hC
  have zD := N _ hD
  have up : ∀ (o : Obj) b o', h'.get? b = some o' → (h'.push o).get? b = some o' := fun o b o' e => Heap.get?_push_of_some _ e
  have lt : ∀ {p : Addr × Obj}, p ∈ all → p.1 < h'.objs.size := fun hp => Heap.lt_size (N _ hp).1
  generalize hH : h'.push _ = H
  have upH : ∀ b o', h'.get? b = some o' → H.get? b = some o' := fun b o' e => hH ▸ up _ b o' e
  have hst : IsRangeIter H h'.objs.size (a + (0 : Nat) * 1) ((n : Int) - (0 : Nat)) 1 := by
    show H.get? _ = _
    rw [← hH, hn]
    simpa using Heap.get?_push_size h' rfl
  have FH : Fr h₀ L H m := F.keeps upH
  have NH : News h₀ L H ((D, lst ys) :: (I, oI) :: news) := fun p hp => by
    rcases List.mem_cons.mp hp with rfl | hp
    · exact ⟨upH _ _ zD.1, zD.2⟩
    · rcases List.mem_cons.mp hp with rfl | hp
      · exact ⟨upH _ _ zI.1, zI.2⟩
      · exact ⟨upH _ _ (N _ (sub p hp)).1, (N _ (sub p hp)).2⟩
  have off3 := off.mem
  have offH : Off3 h'.objs.size C D ((I, oI) :: news) := ⟨⟨Nat.ne_of_lt (lt hI), ne.1, ne.2.1⟩, Off3.of fun p hp => ⟨Nat.ne_of_lt (lt (sub p hp)), (off3 p hp).2⟩⟩
  have loop : codeAny (model prog w) A (.compLoop (.ListComp elt [g0, ⟨.Name x2 px2, iter1, ifs1, 0⟩] scope pos) 1 (.ref h'.objs.size) (.ref D) (compEnvC scope cl C env)) RR { s with heap := H, toks := tk' } := by
    refine core (S := SIn I C D oI S) (fp := [h'.objs.size]) (n := n) (St := fun i h => IsRangeIter h h'.objs.size (a + (i : Nat) * 1) ((n : Int) - (i : Nat)) 1) rule_last1 ⟨range_walks hA a n, fun i h st => ⟨_, st⟩, fun i h h'' o nw st e e' k N' _ => range_st i h h'' o nw st e e' k N' trivial⟩ hkind hx2 (Nat.ne_of_gt F.ns.lt) (next_is_new F) zC.2.1 zC.2.2 zD.2.1 zD.2.2 (Nat.ne_of_gt (lt hC)) (Nat.ne_of_gt (lt hD)) ne.2.2 (fun hm => absurd (lt hC) (by rw [List.mem_singleton.mp hm]; exact Nat.lt_irrefl _))
      (JIn I oI J) m₂ (fun z => z == x2) (by simp) hst FH (hns.ns (upH _ _ zC.1)) (fun _ _ => rfl) NH offH ⟨news, rfl, hS, off⟩ ⟨news, rfl, hJ⟩ ?_ ?_
    · rintro k v2 ys' led oI2 oC' m₃ h tk Post' hk hv ⟨nw, rfl, hJ'⟩ hNs hx hz F' N' off' ⟨nw', e, hS', offI⟩ hpost
      obtain rfl := (List.cons.inj e).2
      refine turn RR k v2 ys' nw _ oI2 oC' m₃ h tk Post' hk hv hJ' hNs hx (fun z hz' => hz z hz' (by simpa using hz')) F' N' off' offI hS' ⟨Nat.ne_of_gt (lt hC), Nat.ne_of_gt (lt hD), ne.2.2⟩ hpost
    · rintro h tk ys' led m₃ ⟨nw, rfl, hJ'⟩ hz F' hn' N' off' ⟨nw', e, hS', offI⟩
      obtain rfl := (List.cons.inj e).2
      obtain ⟨oC', heC, hoC⟩ := ns_obj hn'
      refine post _ ⟨h, tk, ys', nw, oC', m₃, rfl, F', fun p hp => ?_, hoC, fun z hz' => ?_, offI, hS', hJ'⟩
      · rcases List.mem_cons.mp hp with rfl | hp
        · exact N' _ (List.mem_cons_of_mem _ List.mem_cons_self)
        · rcases List.mem_cons.mp hp with rfl | hp
          · exact ⟨heC, zC.2⟩
          · rcases List.mem_cons.mp hp with rfl | hp
            · exact N' _ List.mem_cons_self
            · exact N' _ (List.mem_cons_of_mem _ (List.mem_cons_of_mem _ hp))
      · rw [← hm z hz']
        refine hz z ?_
        cases hq : (z == x2) with
        | false => rfl
        | true => rw [beq_iff_eq.mp hq, hns2] at hz'; cases hz'
  exact start1 loop ((range_walks hA a n).self 0 _ _ _ hst loop)
end
end Mine

-- part Cut
set_option Elab.async false
namespace Mine
open PySem PySem.W PyProof.Rows PySem.Spec PySem.Calls
section
variable {M : Model} {A : Around} {E : Value → Shared → Prop} {s : Shared} {env : Env} {Q : Flow → Shared → Prop}
theorem cut1 {a : Stmt} {r : List Stmt} (h : wpAny M A (execs (a :: park r) env) Q E s) : wpAny M A (execs (a :: r) env) Q E s := by rw [park_eq] at h; exact h
theorem cut2 {a b : Stmt} {r : List Stmt} (h : wpAny M A (execs (a :: b :: park r) env) Q E s) : wpAny M A (execs (a :: b :: r) env) Q E s := by rw [park_eq] at h; exact h
theorem cut3 {a b c : Stmt} {r : List Stmt} (h : wpAny M A (execs (a :: b :: c :: park r) env) Q E s) : wpAny M A (execs (a :: b :: c :: r) env) Q E s := by rw [park_eq] at h; exact h
theorem uncut {r : List Stmt} (h : wpAny M A (execs r env) Q E s) : wpAny M A (execs (park r) env) Q E s := by rw [park_eq]; exact h
theorem park_comp (pe : PySem.Expr) (pg : List Comprehension) (ps : Scope) (pp : Pos) : PySem.Expr.ListComp pe pg ps pp = park (PySem.Expr.ListComp pe pg ps pp) := (park_eq _).symm
theorem unpark_eval {e : PySem.Expr} {Q : Value → Shared → Prop} (h : wpAny M A (PySem.eval e env) Q E s) : wpAny M A (PySem.eval (park e) env) Q E s := by rw [park_eq]; exact h
end
end Mine

-- part Body4
set_option Elab.async false
set_option maxRecDepth 100000
set_option maxHeartbeats 8000000
set_option linter.unusedVariables false
namespace Mine
open PySem PySem.W PyProof.Rows PySem.Spec PySem.Calls
open PyProof.Rows.LCg (NsObj ns_obj lst lst_snoc Off3 Off1 CompEnd fr_but news_but SrcAt FinE FinA)
def lawB : List Stmt := match fBod (stA 19) with | .stmts l => l | _ => []
abbrev lawE (L fa : Addr) (cd : Value) : Env := envOfC (Str.ofString "law") (fSco (stA 19)) L fa cd
abbrev lawA (dp un : Nat) (gd : Option (List Code)) (L fa : Addr) (cd : Value) (outer : List Env) : Around := ktrTop dp un gd (Str.ofString "law") (fSco (stA 19)) L fa cd (cellsFrom (L + 1) (fSco (stA 19)).names []) outer
local macro_rules | `(tactic| walk_at "call ref") => `(tactic| (k_here; (with_reducible show wpAny _ _ (call (Value.ref 133) [Value.int _ _]) _ _ _); k_dflt (refine Spec1.use (spelled_spec _ _ _ (by first | assumption | omega) (by first | assumption | omega)) (by k_asm) (by k_asm) (by k_asm) (by k_asm) (by k_asm) (by first | exact rfl | assumption) (by ktr_room) (by ktr_units) ?_); intro t9 h9 tk9 F9 N9; (try dsimp only)))
local macro_rules | `(tactic| walk_at "eval ListComp") => `(tactic| (k_here; k_dflt (refine eval_compF (by k_asm) (by rfl) (by decide) (by rfl) (by decide) (by rfl) ?_)))
theorem join00 : ∀ l : List (List Nat), Str.join (Str.ofString "") (l.map S) = S l.flatten
  | [] => rfl
  | [x] => by simp [Str.join]
  | x :: y :: r => by
    have ih := join00 (y :: r)
    rw [List.flatten_cons, ← S_app, ← ih]
    show S x ++ Str.ofString "" ++ _ = _
    rw [show S x ++ Str.ofString "" = S x from (S_app x []).trans (by rw [List.append_nil])]
theorem join0 (l : List (List Nat)) : Txt.join (Str.ofString "") (l.map S) = S l.flatten := by
  show Builtin.Str.glued _ _ = _
  rw [StrLaws.glued_eq_join, join00]
theorem news_sub {h₀ h : Heap} {L : Addr} {all news : List (Addr × Obj)} (N : News h₀ L h all) (sub : ∀ p ∈ news, p ∈ all) : News h₀ L h news := fun p hp => N p (sub p hp)
theorem strs_one (x : Str) (t : Tok) : StrsAre [Value.str x t] [x] := by constructor; constructor
theorem fr_at {h₀ h : Heap} {L : Addr} {m : Str → Option Value} {y : Str} {v : Value} (F : Fr h₀ L h m) (hv : m y = some v) : Fr h₀ L h (fun z => if z = y then some v else m z) := fr_one F hv fun _ _ => rfl
theorem fr_over {h₀ h : Heap} {L : Addr} {m : Str → Option Value} {x y : Str} {u v : Value} (F : Fr h₀ L h (fun z => if z = x then some u else if z = y then some v else m z)) (hv : m y = some v) : Fr h₀ L h (fun z => if z = x then some u else m z) := by
  have e : (fun z => if z = x then some u else if z = y then some v else m z) = fun z => if z = x then some u else m z := by
    funext z
    by_cases h1 : z = x
    · simp only [if_pos h1]
    · simp only [if_neg h1]
      by_cases h2 : z = y
      · rw [if_pos h2, h2, hv]
      · rw [if_neg h2]
  rwa [e] at F
theorem sum_le_of {l : List Str} {n : Nat} (h : ∀ x ∈ l, x.length ≤ n) : (l.map (·.length)).sum ≤ l.length * n := by
  induction l with
  | nil => simp
  | cons a r ih =>
    have h1 := h a List.mem_cons_self
    have h2 := ih fun x hx => h x (List.mem_cons_of_mem _ hx)
    simp only [List.map_cons, List.sum_cons, List.length_cons, Nat.succ_mul]
    omega
section
variable {w : World} {p : Program} {loose : List Str} {mean : ExcName → Option Value} {mg mb : Str → Option Value} {dp un : Nat} {gd : Option (List Code)} {outer : List Env} {A₀ : Around} {base h₀ : Heap} {L fa : Addr} {cd : Value} {s : Shared} {Q : Flow → Shared → Prop} {E : Value → Shared → Prop} {m : Str → Option Value} {news : List (Addr × Obj)}
theorem st_spelled (B : Below A₀ base outer h₀) (X : (heapK w.params).In h₀) (T : Top p loose mean mg mb h₀) (hd : dp + 20 < recursionLimit) (hu : un + 160 < cLine)
    {D : Addr} {vs : List Value} {k : Nat} {ds : List Int} (hI : IntsAre vs ds) (hlen : ds.length ≤ 12) (hds : ∀ d ∈ ds, 0 ≤ d ∧ d < 1000000)
    (F : Fr h₀ L s.heap m) (hm : m (Str.ofString "drawn") = some (.ref D)) (N : News h₀ L s.heap ((D, listOf vs.toArray k) :: news))
    (next : ∀ t h' tk', Fr h₀ L h' (fun z => if z = Str.ofString "spelled" then some (.str (S (ds.flatMap spelled)) t) else m z) → News h₀ L h' ((D, listOf vs.toArray k) :: news) → Q .next { s with heap := h', toks := tk' }) :
    wpAny (model PySem.Challenge.rw_re0157_01.row.prog w) (lawA dp un gd L fa cd outer) (exec (lawB.getD 3 (.Pass ⟨0, 0, 0, 0⟩)) (lawE L fa cd)) Q E s := by
  have F0 := fr_at F hm
  clear F
  show wpAny _ _ (exec (.Assign [_] _ _) _) _ _ _
  revert X
  k_fill
  intro X
  k_steps
  refine run_list (fun _ _ _ _ => rule_last0) rfl F0 N (.inr ⟨_, List.mem_cons_self, rfl, _, rfl⟩) (fun i ys nw => StrsAre ys ((ds.take i).map fun d => S (spelled d)) ∧ nw = (D, listOf vs.toArray k) :: news) (fun z => z == Str.ofString "x") (by simp) ⟨.nil, rfl⟩ ?_ ?_
  · rintro I C D' R i v ys nw oI oC m₂ h tk Post hi hv ⟨hys, rfl⟩ hNs hx hz F1 N1 off hS ne post
    have hi' : i < ds.length := by
      have := hI.length
      simp only [List.size_toArray] at hi
      omega
    obtain ⟨t, hvt⟩ := hI.get i ds[i] (by simp [hi'])
    have hv' : vs[i]? = some v := by simpa using hv
    obtain rfl : v = .int ds[i] t := Option.some.inj (hv'.symm.trans hvt)
    have hd1 := hds ds[i] (List.getElem_mem hi')
    obtain ⟨hd2, hd3⟩ := hd1
    unfold BLast
    refine wpAny_tests_nil ?_
    rw [if_pos rfl]
    k_steps
    refine app_end (by assumption) (by assumption) List.mem_cons_self (List.mem_cons_of_mem _ List.mem_cons_self) (List.mem_cons_of_mem _ (List.mem_cons_of_mem _ List.mem_cons_self)) (fun p hp => List.mem_cons_of_mem _ (List.mem_cons_of_mem _ (List.mem_cons_of_mem _ hp))) off ne hS hNs (fun z hz' => hz z (by rintro rfl; simp at hz') hz') ?_ ⟨?_, rfl⟩ post
    · rw [hys.length, List.length_map, List.length_take]; omega
    · rw [List.take_add_one, List.getElem?_eq_getElem hi', List.map_append]
      exact hys.append' (strs_one _ _)
  · rintro g ys nw ⟨hys, rfl⟩ _
    intro D' h tk F1 N1 off
    have hjoin : StrsAre ys (ds.map fun d => S (spelled d)) := by
      rw [List.size_toArray, hI.length, List.take_length] at hys
      exact hys
    have hd1 := (N1 (D', lst ys) List.mem_cons_self).1
    k_steps
    refine join_listC (items := ys.toArray) ⟨_, hd1, rfl, _, rfl⟩ hjoin (by decide) ?_ fun t9 k9 => ?_
    · have h1 : ((ds.map fun d => S (spelled d)).map (·.length)).sum ≤ _ := sum_le_of (n := 2) fun x hx => by
        obtain ⟨d, _, rfl⟩ := List.mem_map.mp hx
        rw [S_len]; unfold spelled; split <;> simp
      rw [List.length_map] at h1 ⊢
      omega
    rw [show (ds.map fun d => S (spelled d)) = (ds.map spelled).map S by rw [List.map_map]; rfl, join0, ← List.flatMap_def]
    k_steps
    exact next _ _ _ (fr_over (by assumption) hm) (news_sub (by assumption) fun p hp => List.mem_cons_of_mem _ hp)
end
end Mine

-- part Body5
set_option Elab.async false
set_option maxRecDepth 100000
set_option maxHeartbeats 8000000
set_option linter.unusedVariables false
namespace Mine
open PySem PySem.W PyProof.Rows PySem.Spec PySem.Calls
open PyProof.Rows.LCg (NsObj ns_obj lst lst_snoc Off3 Off1 CompEnd fr_but news_but SrcAt FinE FinA)
/-- what the table says of a sign -/
def b3L (c : Nat) : List Nat := match b3Find c with | some (.str y _) => cl y | _ => cl (Txt.lower (S [c]))
def b3ValOk (e : DictEntry) : Bool := match e.val with | .str y _ => decide (y.length ≤ 4) | _ => false
theorem b3_vals : (b3Ent 0 650).all b3ValOk = true := by kernel_rfl
theorem b3_shape (c : Nat) : (b3Find c = none ∧ b3L c = cl (Txt.lower (S [c]))) ∨ ∃ y t, b3Find c = some (.str y t) ∧ b3L c = cl y ∧ y.length ≤ 4 := by
  cases h : b3Find c with
  | none => left; exact ⟨rfl, by unfold b3L; rw [h]⟩
  | some v =>
    right
    have h2 := h
    unfold b3Find findBy at h2
    obtain ⟨e, he, rfl⟩ := Option.map_eq_some_iff.mp h2
    have hm : e ∈ b3Ent 0 650 := by simpa using Array.mem_of_find?_eq_some he
    have h1 := List.all_eq_true.mp b3_vals e hm
    unfold b3ValOk at h1
    split at h1
    · rename_i y t hv
      exact ⟨y, t, by rw [hv], by unfold b3L; rw [h, hv], by simpa using h1⟩
    · cases h1
theorem b3L_len (c : Nat) : (b3L c).length ≤ 4 := by
  rcases b3_shape c with ⟨_, h⟩ | ⟨y, t, _, h, hl⟩
  · rw [h, cl_len]
    exact Nat.le_trans (len_lower _) (by rw [S_len]; exact Nat.le_of_ble_eq_true rfl)
  · rw [h, cl_len]; exact hl
theorem b3_spec (w : World) (c : Nat) (tx : Tok) : Spec1 w 1 112 [.str (S [c]) tx] (fun t => .str (S (b3L c)) t) := by
  rcases b3_shape c with ⟨h1, h2⟩ | ⟨y, t, h1, h2, _⟩
  · rw [h2, S_cl]; exact b3_none w c tx h1 _ rfl
  · rw [h2, S_cl]; exact b3_some w c tx y t h1
local macro_rules | `(tactic| walk_at "call ref") => `(tactic| (k_here; (with_reducible show wpAny _ _ (call (Value.ref 66) [Value.str (S [_]) _]) _ _ _); k_dflt (refine Spec1.use (b1_spec _ _ _) (by k_asm) (by k_asm) (by k_asm) (by k_asm) (by k_asm) (by first | exact rfl | assumption) (by ktr_room) (by ktr_units) ?_); intro t9 h9 tk9 F9 N9; (try dsimp only)))
local macro_rules | `(tactic| walk_at "call ref") => `(tactic| (k_here; (with_reducible show wpAny _ _ (call (Value.ref 112) [Value.str (S [_]) _]) _ _ _); k_dflt (refine Spec1.use (b3_spec _ _ _) (by k_asm) (by k_asm) (by k_asm) (by k_asm) (by k_asm) (by first | exact rfl | assumption) (by ktr_room) (by ktr_units) ?_); intro t9 h9 tk9 F9 N9; (try dsimp only)))
local macro_rules | `(tactic| walk_at "eval ListComp") => `(tactic| (k_here; k_dflt (refine eval_compF (by k_asm) (by rfl) (by decide) (by rfl) (by decide) (by rfl) ?_)))
section
variable {w : World} {p : Program} {loose : List Str} {mean : ExcName → Option Value} {mg mb : Str → Option Value} {dp un : Nat} {gd : Option (List Code)} {outer : List Env} {A₀ : Around} {base h₀ : Heap} {L fa : Addr} {cd : Value} {s : Shared} {Q : Flow → Shared → Prop} {E : Value → Shared → Prop} {m : Str → Option Value} {news : List (Addr × Obj)}
def toldOf (l : List Nat) : List Nat := (l.filter fun c : Nat => !isB1 (c : Int)).flatMap b3L
theorem st_told (B : Below A₀ base outer h₀) (X : (heapK w.params).In h₀) (T : Top p loose mean mg mb h₀) (hd : dp + 20 < recursionLimit) (hu : un + 160 < cLine)
    {l : List Nat} {tl : Tok} (hlen : l.length ≤ 24) (F : Fr h₀ L s.heap m) (hm : m (Str.ofString "spelled") = some (.str (S l) tl)) (N : News h₀ L s.heap news)
    (next : ∀ t h' tk', Fr h₀ L h' (fun z => if z = Str.ofString "told" then some (.str (S (toldOf l)) t) else m z) → News h₀ L h' news → Q .next { s with heap := h', toks := tk' }) :
    wpAny (model PySem.Challenge.rw_re0157_01.row.prog w) (lawA dp un gd L fa cd outer) (exec (lawB.getD 4 (.Pass ⟨0, 0, 0, 0⟩)) (lawE L fa cd)) Q E s := by
  have F0 := fr_at F hm
  clear F
  show wpAny _ _ (exec (.Assign [_] _ _) _) _ _ _
  revert X
  k_fill
  intro X
  k_steps
  refine run_str (fun _ _ _ _ => rule_last0) rfl F0 N (fun i ys nw => StrsAre ys (((l.take i).filter fun c : Nat => !isB1 (c : Int)).map fun c => S (b3L c)) ∧ nw = news) (fun z => z == Str.ofString "sign") (by simp) ⟨.nil, rfl⟩ ?_ ?_
  · rintro I C D' R i v ys nw oI oC m₂ h tk Post hi hv ⟨hys, rfl⟩ hNs hx hz F1 N1 off hS ne post
    have hi' : i < l.length := by simpa [S] using hi
    obtain ⟨c, u, hc, rfl⟩ := hv
    have hc' : l[i]? = some c := by simpa [S] using hc
    have hx' : m₂ (Str.ofString "sign") = some (.str (S [c]) u) := hx
    clear hx
    have hlen2 : ys.length ≤ 24 := by
      rw [hys.length, List.length_map]
      exact Nat.le_trans (List.length_filter_le _ _) (Nat.le_trans (List.length_take_le _ _) (by omega))
    unfold BLast
    refine wpAny_tests_one ?_
    k_steps
    · refine skip_end (s := { s with heap := h, toks := tk }) (by assumption) (by assumption) List.mem_cons_self (List.mem_cons_of_mem _ List.mem_cons_self) (List.mem_cons_of_mem _ (List.mem_cons_of_mem _ List.mem_cons_self)) (fun p hp => List.mem_cons_of_mem _ (List.mem_cons_of_mem _ (List.mem_cons_of_mem _ hp))) off hS hNs (fun z hz' => hz z (by rintro rfl; simp at hz') hz') ⟨?_, rfl⟩ post
      have hb0 : isB1 (c : Int) = true := by assumption
      have hb : (!isB1 (c : Int)) = false := by rw [hb0]; rfl
      rw [List.take_add_one, hc', List.filter_append, List.map_append, Option.toList_some, List.filter_cons, hb]
      simpa using hys
    · refine app_end (s := { s with heap := h, toks := tk }) (by assumption) (by assumption) List.mem_cons_self (List.mem_cons_of_mem _ List.mem_cons_self) (List.mem_cons_of_mem _ (List.mem_cons_of_mem _ List.mem_cons_self)) (fun p hp => List.mem_cons_of_mem _ (List.mem_cons_of_mem _ (List.mem_cons_of_mem _ hp))) off ne hS hNs (fun z hz' => hz z (by rintro rfl; simp at hz') hz') (by omega) ⟨?_, rfl⟩ post
      have hb0 : isB1 (c : Int) = false := by assumption
      have hb : (!isB1 (c : Int)) = true := by rw [hb0]; rfl
      rw [List.take_add_one, hc', List.filter_append, List.map_append, Option.toList_some, List.filter_cons, hb, if_pos rfl]
      exact hys.append' (strs_one _ _)
  · rintro g ys nw ⟨hys, rfl⟩
    intro D' h tk F1 N1 off
    have hjoin : StrsAre ys ((l.filter fun c : Nat => !isB1 (c : Int)).map fun c => S (b3L c)) := by
      have e : (S l).cps.size = l.length := by simp [S]
      rw [e, List.take_length] at hys
      exact hys
    have hd1 := (N1 (D', lst ys) List.mem_cons_self).1
    k_steps
    refine join_listC (items := ys.toArray) ⟨_, hd1, rfl, _, rfl⟩ hjoin (by decide) ?_ fun t9 k9 => ?_
    · have h1 : (((l.filter fun c : Nat => !isB1 (c : Int)).map fun c => S (b3L c)).map (·.length)).sum ≤ _ := sum_le_of (n := 4) fun x hx => by
        obtain ⟨d, _, rfl⟩ := List.mem_map.mp hx
        rw [S_len]; exact b3L_len d
      have h2 := List.length_filter_le (fun c : Nat => !isB1 (c : Int)) l
      rw [List.length_map] at h1 ⊢
      omega
    rw [show ((l.filter fun c : Nat => !isB1 (c : Int)).map fun c => S (b3L c)) = ((l.filter fun c : Nat => !isB1 (c : Int)).map b3L).map S by rw [List.map_map]; rfl, join0, ← List.flatMap_def]
    k_steps
    exact next _ _ _ (fr_over (by assumption) hm) (news_sub (by assumption) fun p hp => List.mem_cons_of_mem _ hp)
end
end Mine

-- part Body6
set_option Elab.async false
set_option maxRecDepth 100000
set_option maxHeartbeats 8000000
set_option linter.unusedVariables false
namespace Mine
open PySem PySem.W PyProof.Rows PySem.Spec PySem.Calls
open PyProof.Rows.LCg (NsObj ns_obj lst lst_snoc Off3 Off1 CompEnd fr_but news_but SrcAt FinE FinA)
local macro_rules | `(tactic| walk_at "eval ListComp") => `(tactic| (k_here; k_dflt (refine eval_compF (by k_asm) (by rfl) (by decide) (by rfl) (by decide) (by rfl) ?_)))
def plainL : List (List Nat) := [[102], [105], [108], [102, 102], [102, 105], [102, 108], [102, 102, 105], [102, 102, 108]]
def plainOf (x : Int) : List Nat := plainL.getD (x.fmod 8).toNat []
theorem plain_tup (t0 t1 t2 t3 t4 t5 t6 t7 : Tok) (j : Nat) (hj : j < 8) : ∃ t, (#[Value.str (Str.ofString "f") t0, Value.str (Str.ofString "i") t1, Value.str (Str.ofString "l") t2, Value.str (Str.ofString "ff") t3, Value.str (Str.ofString "fi") t4, Value.str (Str.ofString "fl") t5, Value.str (Str.ofString "ffi") t6, Value.str (Str.ofString "ffl") t7] : Array Value)[j]? = some (.str (S (plainL.getD j [])) t) := by
  rw [show Str.ofString "f" = S [102] from by decide +kernel, show Str.ofString "i" = S [105] from by decide +kernel, show Str.ofString "l" = S [108] from by decide +kernel, show Str.ofString "ff" = S [102, 102] from by decide +kernel, show Str.ofString "fi" = S [102, 105] from by decide +kernel, show Str.ofString "fl" = S [102, 108] from by decide +kernel, show Str.ofString "ffi" = S [102, 102, 105] from by decide +kernel, show Str.ofString "ffl" = S [102, 102, 108] from by decide +kernel]
  have : j = 0 ∨ j = 1 ∨ j = 2 ∨ j = 3 ∨ j = 4 ∨ j = 5 ∨ j = 6 ∨ j = 7 := by omega
  rcases this with rfl | rfl | rfl | rfl | rfl | rfl | rfl | rfl
  · exact ⟨t0, rfl⟩
  · exact ⟨t1, rfl⟩
  · exact ⟨t2, rfl⟩
  · exact ⟨t3, rfl⟩
  · exact ⟨t4, rfl⟩
  · exact ⟨t5, rfl⟩
  · exact ⟨t6, rfl⟩
  · exact ⟨t7, rfl⟩
theorem plain_len : ∀ j, (plainL.getD j []).length ≤ 3 := by
  intro j
  rcases Nat.lt_or_ge j 8 with q | q
  · revert j; decide
  · rw [List.getD_eq_getElem?_getD, List.getElem?_eq_none (by simpa [plainL] using q)]; decide
theorem fr_at2 {h₀ h : Heap} {L : Addr} {m : Str → Option Value} {y y' : Str} {v v' : Value} (F : Fr h₀ L h m) (hv : m y = some v) (hv' : m y' = some v') : Fr h₀ L h (fun z => if z = y then some v else if z = y' then some v' else m z) := by
  refine fr_one (fr_at F hv') ?_ fun _ _ => rfl
  by_cases h : y = y'
  · rw [if_pos h, ← hv', ← h, hv]
  · rw [if_neg h, hv]
theorem fr_back2 {h₀ h : Heap} {L : Addr} {m : Str → Option Value} {y y' : Str} {v v' : Value} (F : Fr h₀ L h (fun z => if z = y then some v else if z = y' then some v' else m z)) (hv : m y = some v) (hv' : m y' = some v') : Fr h₀ L h m := by
  have e : (fun z => if z = y then some v else if z = y' then some v' else m z) = m := by
    funext z
    by_cases h1 : z = y
    · rw [if_pos h1, h1, hv]
    · rw [if_neg h1]
      by_cases h2 : z = y'
      · rw [if_pos h2, h2, hv']
      · rw [if_neg h2]
  rwa [e] at F
theorem seqIdx {k : Int} {n : Nat} (h0 : 0 ≤ k) (h1 : k < n) : seqIndex? k n = some k.toNat := by
  unfold seqIndex?
  simp
  omega
section
variable {w : World} {p : Program} {loose : List Str} {mean : ExcName → Option Value} {mg mb : Str → Option Value} {dp un : Nat} {gd : Option (List Code)} {outer : List Env} {A₀ : Around} {base h₀ : Heap} {L fa : Addr} {cd : Value} {s : Shared} {Q : Flow → Shared → Prop} {E : Value → Shared → Prop} {m : Str → Option Value} {news : List (Addr × Obj)}
theorem st_check (B : Below A₀ base outer h₀) (X : (heapK w.params).In h₀) (T : Top p loose mean mg mb h₀) (hd : dp + 20 < recursionLimit) (hu : un + 160 < cLine)
    {D : Addr} {vs : List Value} {k : Nat} {ds : List Int} (hI : IntsAre vs ds) (hlen : ds.length ≤ 12) {l : List Nat} {tl : Tok} (hl : l = ds.flatMap plainOf)
    (F : Fr h₀ L s.heap m) (hm : m (Str.ofString "drawn") = some (.ref D)) (hm' : m (Str.ofString "told") = some (.str (S l) tl)) (N : News h₀ L s.heap ((D, listOf vs.toArray k) :: news))
    (next : ∀ h' tk', Fr h₀ L h' m → News h₀ L h' ((D, listOf vs.toArray k) :: news) → Q .next { s with heap := h', toks := tk' }) :
    wpAny (model PySem.Challenge.rw_re0157_01.row.prog w) (lawA dp un gd L fa cd outer) (exec (lawB.getD 5 (.Pass ⟨0, 0, 0, 0⟩)) (lawE L fa cd)) Q E s := by
  have F0 := fr_at2 F hm hm'
  clear F
  show wpAny _ _ (exec (.If _ _ _ _) _) _ _ _
  revert X
  k_fill
  intro X
  k_steps
  refine run_list (fun _ _ _ _ => rule_last0) rfl F0 N (.inr ⟨_, List.mem_cons_self, rfl, _, rfl⟩) (fun i ys nw => StrsAre ys ((ds.take i).map fun d => S (plainOf d)) ∧ nw = (D, listOf vs.toArray k) :: news) (fun z => z == Str.ofString "x") (by simp) ⟨.nil, rfl⟩ ?_ ?_
  · rintro I C D' R i v ys nw oI oC m₂ h tk Post hi hv ⟨hys, rfl⟩ hNs hx hz F1 N1 off hS ne post
    have hi' : i < ds.length := by
      have := hI.length
      simp only [List.size_toArray] at hi
      omega
    obtain ⟨t, hvt⟩ := hI.get i ds[i] (by simp [hi'])
    have hv' : vs[i]? = some v := by simpa using hv
    obtain rfl : v = .int ds[i] t := Option.some.inj (hv'.symm.trans hvt)
    have hb := fmod_low ds[i] 8 (by decide)
    unfold BLast
    refine wpAny_tests_nil ?_
    rw [if_pos rfl]
    k_steps
    (with_reducible rename News _ _ _ _ => N9)
    obtain ⟨t9, ht9⟩ := plain_tup tk (tk + 1) (tk + 1 + 1) (tk + 1 + 1 + 1) (tk + 1 + 1 + 1 + 1) (tk + 1 + 1 + 1 + 1 + 1) (tk + 1 + 1 + 1 + 1 + 1 + 1) (tk + 1 + 1 + 1 + 1 + 1 + 1 + 1) (ds[i].fmod 8).toNat (by omega)
    refine item_tuple (j := (ds[i].fmod 8).toNat) ⟨_, (N9 _ List.mem_cons_self).1, rfl, _, rfl⟩ (by omega) (by omega) (seqIdx (by omega) (by simp; omega)) ht9 ?_
    refine app_end (s := { s with heap := h, toks := tk }) (by assumption) N9 (List.mem_cons_of_mem _ List.mem_cons_self) (List.mem_cons_of_mem _ (List.mem_cons_of_mem _ List.mem_cons_self)) (List.mem_cons_of_mem _ (List.mem_cons_of_mem _ (List.mem_cons_of_mem _ List.mem_cons_self))) (fun p hp => List.mem_cons_of_mem _ (List.mem_cons_of_mem _ (List.mem_cons_of_mem _ (List.mem_cons_of_mem _ hp)))) off ne hS hNs (fun z hz' => hz z (by rintro rfl; simp at hz') hz') ?_ ⟨?_, rfl⟩ post
    · rw [hys.length, List.length_map, List.length_take]; omega
    · rw [List.take_add_one, List.getElem?_eq_getElem hi', List.map_append]
      exact hys.append' (strs_one _ _)
  · rintro g ys nw ⟨hys, rfl⟩ _
    intro D' h tk F1 N1 off
    have hjoin : StrsAre ys (ds.map fun d => S (plainOf d)) := by
      rw [List.size_toArray, hI.length, List.take_length] at hys
      exact hys
    have hd1 := (N1 (D', lst ys) List.mem_cons_self).1
    k_steps
    refine join_listC (items := ys.toArray) ⟨_, hd1, rfl, _, rfl⟩ hjoin (by decide) ?_ fun t9 k9 => ?_
    · have h1 : ((ds.map fun d => S (plainOf d)).map (·.length)).sum ≤ _ := sum_le_of (n := 3) fun x hx => by
        obtain ⟨d, _, rfl⟩ := List.mem_map.mp hx
        rw [S_len]
        exact plain_len _
      rw [List.length_map] at h1 ⊢
      omega
    rw [show (ds.map fun d => S (plainOf d)) = (ds.map plainOf).map S by rw [List.map_map]; rfl, join0, ← List.flatMap_def, ← hl]
    k_steps
    · have hc : (S l != S l) = true := by assumption
      simp at hc
    · exact next _ _ (fr_back2 (by assumption) hm hm') (news_sub (by assumption) fun p hp => List.mem_cons_of_mem _ hp)
end
end Mine

-- part Body7
set_option Elab.async false
set_option maxRecDepth 100000
set_option maxHeartbeats 8000000
set_option linter.unusedVariables false
namespace Mine
open PySem PySem.W PyProof.Rows PySem.Spec PySem.Calls
open PyProof.Rows.LCg (NsObj ns_obj lst lst_snoc Off3 Off1 CompEnd fr_but news_but SrcAt FinE FinA)
theorem fr_back1 {h₀ h : Heap} {L : Addr} {m : Str → Option Value} {y : Str} {v : Value} (F : Fr h₀ L h (fun z => if z = y then some v else m z)) (hv : m y = some v) : Fr h₀ L h m := by
  have e : (fun z => if z = y then some v else m z) = m := by
    funext z
    by_cases h1 : z = y
    · rw [if_pos h1, h1, hv]
    · rw [if_neg h1]
  rwa [e] at F
theorem allLt_mem {d : Nat} : ∀ {l : List (Addr × Obj)}, AllLt d l → ∀ p ∈ l, p.1 < d
  | [], _, _, h => nomatch h
  | _ :: _, x, p, h => by
    rcases List.mem_cons.mp h with rfl | h
    · exact x.1
    · exact allLt_mem x.2 p h
section
variable {w : World} {p : Program} {loose : List Str} {mean : ExcName → Option Value} {mg mb : Str → Option Value} {dp un : Nat} {gd : Option (List Code)} {outer : List Env} {A₀ : Around} {base h₀ : Heap} {L fa : Addr} {cd : Value} {s : Shared} {Q : Flow → Shared → Prop} {E : Value → Shared → Prop} {m : Str → Option Value} {news : List (Addr × Obj)}
theorem st_text (B : Below A₀ base outer h₀) (X : (heapK w.params).In h₀) (T : Top p loose mean mg mb h₀) (hd : dp + 20 < recursionLimit) (hu : un + 160 < cLine)
    {l : List Nat} {tl : Tok} (hlen : l.length ≤ 100) {oT : Obj} {v₀ : Option Value} (hT : oT.data = .cell v₀) (hoff : ∀ p ∈ news, p.1 ≠ L + 1)
    (F : Fr h₀ L s.heap m) (hm : m (Str.ofString "told") = some (.str (S l) tl)) (N : News h₀ L s.heap ((L + 1, oT) :: news))
    (next : ∀ t o' h' tk', o'.data = .cell (some (.str (S (l.take 9)) t)) → Fr h₀ L h' m → News h₀ L h' ((L + 1, o') :: news) → Q .next { s with heap := h', toks := tk' }) :
    wpAny (model PySem.Challenge.rw_re0157_01.row.prog w) (lawA dp un gd L fa cd outer) (exec (lawB.getD 6 (.Pass ⟨0, 0, 0, 0⟩)) (lawE L fa cd)) Q E s := by
  have F0 := fr_at F hm
  clear F
  show wpAny _ _ (exec (.Assign [_] _ _) _) _ _ _
  revert X
  k_fill
  intro X
  have hll : (S l).length ≤ 100 := by rw [S_len]; exact hlen
  k_steps
  refine storeX_C (cs := fSco (stA 19)) (by assumption) (by assumption) (by rfl) (UpdF.head hoff) hT fun h9 o9 F9 N9 h9' => ?_
  rw [slice_take (by decide), cl_S] at h9'
  exact next _ o9 _ _ h9' (fr_back1 F9 hm) N9
theorem st_row (B : Below A₀ base outer h₀) (X : (heapK w.params).In h₀) (T : Top p loose mean mg mb h₀)
    (F : Fr h₀ L s.heap m) (N : News h₀ L s.heap news)
    (next : ∀ D h' tk', Fr h₀ L h' (fun z => if z = Str.ofString "row" then some (.ref D) else m z) → News h₀ L h' ((D, listOf ([] : List Value).toArray 0) :: news) → (∀ p ∈ news, p.1 ≠ D) → Q .next { s with heap := h', toks := tk' }) :
    wpAny (model PySem.Challenge.rw_re0157_01.row.prog w) (lawA dp un gd L fa cd outer) (exec (lawB.getD 7 (.Pass ⟨0, 0, 0, 0⟩)) (lawE L fa cd)) Q E s := by
  show wpAny _ _ (exec (.Assign [_] _ _) _) _ _ _
  revert X
  k_fill
  intro X
  k_steps
  (with_reducible rename (∀ p ∈ news, _ < _) => hlt)
  exact next _ _ _ (by assumption) (by assumption) fun p hp => Nat.ne_of_lt (hlt p hp)
end
end Mine

-- part RowFor
set_option Elab.async false
set_option maxRecDepth 100000
set_option maxHeartbeats 4000000
set_option linter.unusedVariables false
namespace Mine
open PySem PySem.W PyProof.Rows PySem.Spec PySem.Calls PyProof.V
section
variable {prog : Program} {w : World} {A : Around} {E : Value → Shared → Prop} {s : Shared} {env : Env} {h₀ : Heap} {x : Str} {body : List Stmt} {Q : Flow → Shared → Prop}
/-- the end of a turn of a for whose body changes one list of the ledger and the names of f -/
def RowE (h₀ : Heap) (L : Addr) (x : Str) (f : Str → Bool) (m₀ : Str → Option Value) (D : Addr) (rest : List (Addr × Obj)) (P : List Value → Prop) (s₁ s₂ : Shared) : Prop :=
  ∃ h' tk' m' vs' k', P vs' ∧ s₂ = { s₁ with heap := h', toks := tk' } ∧ Fr h₀ L h' m' ∧ (∀ y, y ≠ x → f y = false → m' y = m₀ y) ∧ News h₀ L h' ((D, listOf vs'.toArray k') :: rest)
theorem RowE.intro {L : Addr} {f : Str → Bool} {m₀ m' : Str → Option Value} {D : Addr} {rest all : List (Addr × Obj)} {P : List Value → Prop} {s₁ : Shared} {h' : Heap} {tk' : Nat} {vs' : List Value} {k' : Nat} (F : Fr h₀ L h' m') (N : News h₀ L h' all) (hD : (D, listOf vs'.toArray k') ∈ all) (sub : ∀ p ∈ rest, p ∈ all) (hm : ∀ y, y ≠ x → f y = false → m' y = m₀ y) (hp : P vs') :
    RowE h₀ L x f m₀ D rest P s₁ { s₁ with heap := h', toks := tk' } := ⟨h', tk', m', vs', k', hp, rfl, F, hm, fun p hp => by
      rcases List.mem_cons.mp hp with rfl | hp
      · exact N _ hD
      · exact N _ (sub p hp)⟩
def RowR (h₀ : Heap) (L : Addr) (x : Str) (f : Str → Bool) (m₀ : Str → Option Value) (D : Addr) (rest : List (Addr × Obj)) (P : List Value → Prop) (s₁ : Shared) (Q : Flow → Shared → Prop) (fl : Flow) (s₂ : Shared) : Prop :=
  match fl with
  | .ret v => Q (.ret v) s₂
  | .brk => Q .next s₂
  | _ => RowE h₀ L x f m₀ D rest P s₁ s₂
theorem row_for {r : Addr} {a₀ b₀ : Int} {t₀ u₀ v₀ : Tok} {m₀ : Str → Option Value} {D : Addr} {rest : List (Addr × Obj)} {vs₀ : List Value} {k₀ : Nat} (n : Nat) (f : Str → Bool) (P : Nat → List Value → Prop)
    (hh : A.handled = none) (hr : IsRange s.heap r a₀ b₀ 1 t₀ u₀ v₀) (hn : n = (b₀ - a₀).toNat) (h1 : -(2 ^ 62) ≤ a₀) (h2 : a₀ < 2 ^ 62) (h3 : -(2 ^ 62) ≤ b₀) (h4 : b₀ < 2 ^ 62) (F : Fr h₀ env.locals s.heap m₀) (N : News h₀ env.locals s.heap ((D, listOf vs₀.toArray k₀) :: rest)) (hoff : ∀ p ∈ rest, p.1 ≠ D) (hp : P 0 vs₀)
    (turn : ∀ i t vs k (u : Str → Option Value) h tk own, i < n → P i vs → Fr h₀ env.locals h (fun y => if y = x then some (.int (a₀ + (i : Int)) t) else if f y = true then u y else m₀ y) → News h₀ env.locals h ((D, listOf vs.toArray k) :: (rest ++ own)) → (∀ p ∈ rest ++ own, p.1 ≠ D) →
      wpAny (model prog w) A (execs body env) (RowR h₀ env.locals x f m₀ D (rest ++ own) (P (i + 1)) { s with heap := h, toks := tk } Q) E { s with heap := h, toks := tk })
    (done : ∀ vs k (u : Str → Option Value) h tk, P n vs → Fr h₀ env.locals h (fun y => if y = x then u y else if f y = true then u y else m₀ y) → News h₀ env.locals h ((D, listOf vs.toArray k) :: rest) → Q .next { s with heap := h, toks := tk }) :
    wpAny (model prog w) A (pyIter (.ref r)) (fun it s₂ => LoopAtV prog w A h₀ env x body Q E it s₂) E s := by
  have hn' : Builtin.Range.rangeSize a₀ b₀ 1 = (n : Int) := by rw [rangeSize_one, hn]; split <;> omega
  refine wpAny_pyIter_range hr (small_one h1 h2 h3 h4) ?_
  have W : Walks prog w A s.heap.objs.size [s.heap.objs.size] [s.heap.objs.size] n (fun i v => i < n ∧ ∃ t, v = .int (a₀ + i * 1) t)
      (fun i h => IsRangeIter h s.heap.objs.size (a₀ + (i : Nat) * 1) ((n : Int) - (i : Nat)) 1) := (Walks.range hh _ a₀ 1 n).bound
  have hnD : ∀ p ∈ (D, listOf vs₀.toArray k₀) :: rest, p.1 ∉ [s.heap.objs.size] := fun p hp hI => absurd (Heap.lt_size (N p hp).1) ((List.mem_singleton.mp hI) ▸ Nat.lt_irrefl _)
  refine loop_invN (fun i m nx => ∃ vs k, nx = (D, listOf vs.toArray k) :: rest ∧ (∀ y, y ≠ x → f y = false → m y = m₀ y) ∧ P i vs) W ?_ ?_ hnD hnD (by show IsRangeIter _ _ _ _ _; rw [hn']; simpa using Heap.get?_push_size _ rfl) (F.push _) (fun p hp => ⟨Heap.get?_push_of_some _ (N p hp).1, (N p hp).2⟩) ⟨vs₀, k₀, rfl, fun _ _ _ => rfl, hp⟩ ?_ ?_
  · intro hm
    exact absurd F.ns.lt ((List.mem_singleton.mp hm) ▸ Nat.lt_irrefl _)
  · intro b hb
    rw [List.mem_singleton.mp hb]
    exact next_is_new F
  · rintro i v m₁ nx h tk own hi ⟨_, t, rfl⟩ _ hoff2 ⟨vs, k, rfl, hm, hP⟩ F₁ N₁
    have e2 : (fun y => if y = x then some (Value.int (a₀ + (i : Int) * 1) t) else m₁ y) = fun y => if y = x then some (Value.int (a₀ + (i : Int)) t) else if f y = true then m₁ y else m₀ y := by
      funext y
      by_cases h1 : y = x
      · simp only [if_pos h1]; rw [Int.mul_one]
      · simp only [if_neg h1]
        cases hf : f y with
        | true => simp
        | false => simpa [hf] using hm y h1 hf
    rw [e2] at F₁
    have off2 : ∀ p ∈ rest ++ own, p.1 ≠ D := fun p hp => by
      rcases List.mem_append.mp hp with hp | hp
      · exact hoff p hp
      · exact hoff2.ne (by simp) p hp
    refine wpAny_mono (turn i t vs k m₁ h tk own hi hP F₁ N₁ off2) (fun fl s₂ p => ?_) fun _ _ e => e
    have up : RowE h₀ env.locals x f m₀ D (rest ++ own) (P (i + 1)) { s with heap := h, toks := tk } s₂ →
        InvEndN h₀ env.locals (fun m nx => ∃ vs k, nx = (D, listOf vs.toArray k) :: rest ∧ (∀ y, y ≠ x → f y = false → m y = m₀ y) ∧ P (i + 1) vs) own (((D, listOf vs₀.toArray k₀) :: rest).map (·.1)) { s with heap := h, toks := tk } s₂ := by
      rintro ⟨h', tk', m', vs', k', hP', e, F', hm', N'⟩
      exact ⟨h', tk', m', _, (D, listOf vs'.toArray k') :: rest, e, F', N', fun p hp => by
        rcases List.mem_cons.mp hp with rfl | hp
        · exact List.mem_cons_self
        · exact List.mem_cons_of_mem _ (List.mem_append_left _ hp), fun p hp => List.mem_cons_of_mem _ (List.mem_append_right _ hp), rfl, vs', k', rfl, hm', hP'⟩
    cases fl with
    | ret v => exact p
    | brk => exact p
    | next => exact up p
    | cont => exact up p
  · rintro m₁ nx h tk ⟨vs, k, rfl, hm, hP⟩ F₁ N₁
    refine done vs k m₁ h tk hP ?_ N₁
    have e : (fun y => if y = x then m₁ y else if f y = true then m₁ y else m₀ y) = m₁ := by
      funext y
      by_cases h1 : y = x
      · simp [h1]
      · simp only [if_neg h1]
        cases hf : f y with
        | true => simp
        | false => simpa [hf] using (hm y h1 hf).symm
    rw [e]; exact F₁
end
end Mine

-- part Plain2
set_option Elab.async false
set_option maxRecDepth 100000
set_option linter.unusedVariables false
namespace Mine
open PySem PySem.W PyProof.Rows PySem.Spec PySem.Calls
theorem lps_sub : ∀ t : List Nat, lps t <:+ t
  | [] => by simp [lps]
  | a :: r => by
    unfold lps
    split
    · exact List.suffix_refl _
    · exact (lps_sub r).trans (List.suffix_cons a r)
theorem lps_pal : ∀ t : List Nat, isPal (lps t) = true
  | [] => rfl
  | a :: r => by
    unfold lps
    split
    · assumption
    · exact lps_pal r
theorem lps_ne0 : ∀ t : List Nat, t ≠ [] → lps t ≠ []
  | [], h => absurd rfl h
  | [a], _ => by
    have h : isPal [a] = true := by simp [isPal]
    rw [lps_of_pal h]; simp
  | a :: b :: r, _ => by
    unfold lps
    split
    · simp
    · exact lps_ne0 (b :: r) (by simp)
theorem lps_ne {t : List Nat} {i : Nat} (hi : i < t.length) : lps (t.take (i + 1)) ≠ [] := lps_ne0 _ fun h => by
  have := congrArg List.length h
  rw [List.length_take] at this
  simp at this
  subst this
  simp at hi
/-- the row after i letters: the palindromic factors in order -/
def rowOK (t : List Nat) (i : Nat) (r : List (List Nat)) : Prop := r.Pairwise (· < ·) ∧ (∀ u, u ∈ r ↔ u ≠ [] ∧ isPal u = true ∧ u <:+: t.take i) ∧ r.length ≤ i
def posOf (r : List (List Nat)) (b : List Nat) : Nat := (r.takeWhile fun u => decide (u < b)).length
theorem row_zero (t : List Nat) : rowOK t 0 [] := by
  refine ⟨.nil, fun u => ?_, Nat.le_refl _⟩
  simp only [List.not_mem_nil, List.take_zero, List.infix_nil, false_iff]
  rintro ⟨h1, _, h2⟩
  exact h1 h2
theorem pos_le (r : List (List Nat)) (b : List Nat) : posOf r b ≤ r.length := (List.takeWhile_prefix _).length_le
theorem pos_cons (a : List Nat) (r : List (List Nat)) (b : List Nat) : posOf (a :: r) b = if a < b then posOf r b + 1 else 0 := by
  unfold posOf
  rw [List.takeWhile_cons]
  by_cases h : a < b
  · rw [if_pos h, if_pos (decide_eq_true h)]; rfl
  · rw [if_neg h, if_neg (by simpa using h)]; rfl
theorem pos_lo : ∀ {r : List (List Nat)} {b : List Nat} {i : Nat}, i < posOf r b → r.getD i [] < b
  | [], b, i, h => absurd h (Nat.not_lt_zero _)
  | a :: r, b, i, h => by
    rw [pos_cons] at h
    by_cases q : a < b
    · rw [if_pos q] at h
      cases i with
      | zero => exact q
      | succ i => exact pos_lo (r := r) (i := i) (by omega)
    · rw [if_neg q] at h; exact absurd h (Nat.not_lt_zero _)
theorem pos_hi : ∀ {r : List (List Nat)} {b : List Nat} {i : Nat}, r.Pairwise (· < ·) → posOf r b ≤ i → i < r.length → ¬ r.getD i [] < b
  | [], b, i, _, _, h => absurd h (Nat.not_lt_zero _)
  | a :: r, b, i, hr, h, h2 => by
    rw [pos_cons] at h
    obtain ⟨h3, h4⟩ := List.pairwise_cons.mp hr
    by_cases q : a < b
    · rw [if_pos q] at h
      cases i with
      | zero => omega
      | succ i => exact pos_hi (r := r) (i := i) h4 (by omega) (by simpa using h2)
    · cases i with
      | zero => exact q
      | succ i =>
        intro hc
        have hm : r.getD i [] ∈ r := by
          rw [List.getD_eq_getElem?_getD, List.getElem?_eq_getElem (by simpa using h2)]
          exact List.getElem_mem _
        exact q (List.lt_trans (h3 _ hm) hc)
/-- the word stands at its place, or nowhere -/
theorem pos_mem : ∀ {r : List (List Nat)} {b : List Nat}, r.Pairwise (· < ·) → (b ∈ r ↔ posOf r b < r.length ∧ r.getD (posOf r b) [] = b)
  | [], b, _ => by simp [posOf]
  | a :: r, b, hr => by
    obtain ⟨h3, h4⟩ := List.pairwise_cons.mp hr
    rw [pos_cons]
    by_cases q : a < b
    · rw [if_pos q, List.mem_cons, pos_mem h4, List.length_cons, List.getD_cons_succ]
      constructor
      · rintro (rfl | h)
        · exact absurd q (List.lt_irrefl _)
        · exact ⟨by omega, h.2⟩
      · exact fun h => .inr ⟨by omega, h.2⟩
    · rw [if_neg q, List.mem_cons]
      constructor
      · rintro (rfl | h)
        · exact ⟨by simp, rfl⟩
        · exact absurd (h3 b h) q
      · exact fun h => .inl h.2.symm
theorem known_iff {t : List Nat} {i : Nat} {r : List (List Nat)} (h : rowOK t i r) (hi : i < t.length) : isIn (lps (t.take (i + 1))) (t.take i) = true ↔ lps (t.take (i + 1)) ∈ r := by
  rw [h.2.1, isIn, decide_eq_true_eq]
  exact ⟨fun q => ⟨lps_ne hi, lps_pal _, q⟩, fun q => q.2.2⟩
/-- the longest one: any palindromic end is an end of it -/
theorem lps_max : ∀ {t u : List Nat}, isPal u = true → u <:+ t → u <:+ lps t
  | [], u, _, h => by simpa [lps] using h
  | a :: r, u, hu, h => by
    unfold lps
    split
    · exact h
    · rcases List.suffix_cons_iff.mp h with rfl | h
      · rename_i hn; exact absurd hu hn
      · exact lps_max hu h
theorem pal_prefix {u b : List Nat} (hu : isPal u = true) (hb : isPal b = true) (h : u <:+ b) : u <+: b := by
  have := List.reverse_prefix.mpr h
  rwa [isPal_iff.mp hu, isPal_iff.mp hb] at this
theorem infix_snoc {u l : List Nat} {c : Nat} : u <:+: l ++ [c] ↔ u <:+: l ∨ u <:+ l ++ [c] := by
  constructor
  · rintro ⟨s, z, e⟩
    rcases List.eq_nil_or_concat z with rfl | ⟨z', d, rfl⟩
    · right; exact ⟨s, by simpa using e⟩
    · left
      refine ⟨s, z', ?_⟩
      have e2 : (s ++ u ++ z') ++ [d] = l ++ [c] := by simpa [List.append_assoc] using e
      exact (List.append_inj' e2 rfl).1
  · rintro (h | h)
    · exact h.trans (List.prefix_append _ _).isInfix
    · exact h.isInfix
theorem fac_step {t : List Nat} {i : Nat} (hi : i < t.length) {u : List Nat} (hn : u ≠ []) (hu : isPal u = true) : u <:+: t.take (i + 1) ↔ u <:+: t.take i ∨ u = lps (t.take (i + 1)) := by
  have e : t.take (i + 1) = t.take i ++ [t[i]] := by rw [List.take_add_one, List.getElem?_eq_getElem hi]; rfl
  constructor
  · intro h
    rw [e] at h
    rcases infix_snoc.mp h with h | h
    · exact .inl h
    · rw [← e] at h
      have h1 := lps_max hu h
      have h2 := pal_prefix hu (lps_pal _) h1
      obtain ⟨z, hz⟩ := h2
      rcases List.eq_nil_or_concat z with rfl | ⟨z', d, rfl⟩
      · right; simpa using hz
      · left
        have h3 := lps_sub (t.take (i + 1))
        rw [← hz] at h3
        obtain ⟨y, hy⟩ := h3
        rw [e] at hy
        have e2 : (y ++ u ++ z') ++ [d] = t.take i ++ [t[i]] := by simpa [List.append_assoc] using hy
        exact ⟨y, z', (List.append_inj' e2 rfl).1⟩
  · rintro (h | rfl)
    · rw [e]; exact h.trans (List.prefix_append _ _).isInfix
    · exact (lps_sub _).isInfix
theorem row_same {t : List Nat} {i : Nat} {r : List (List Nat)} (h : rowOK t i r) (hi : i < t.length) (hb : lps (t.take (i + 1)) ∈ r) : rowOK t (i + 1) r := by
  refine ⟨h.1, fun u => ?_, Nat.le_trans h.2.2 (Nat.le_succ _)⟩
  rw [h.2.1]
  constructor
  · rintro ⟨a, b, c⟩; exact ⟨a, b, (fac_step hi a b).mpr (.inl c)⟩
  · rintro ⟨a, b, c⟩
    rcases (fac_step hi a b).mp c with c | rfl
    · exact ⟨a, b, c⟩
    · exact (h.2.1 _).mp hb
theorem mem_ins {r : List (List Nat)} {b u : List Nat} (q : Nat) : u ∈ r.take q ++ b :: r.drop q ↔ u = b ∨ u ∈ r := by
  conv => rhs; rw [← List.take_append_drop q r]
  simp only [List.mem_append, List.mem_cons]
  constructor
  · rintro (h | h | h)
    · exact .inr (.inl h)
    · exact .inl h
    · exact .inr (.inr h)
  · rintro (h | h | h)
    · exact .inr (.inl h)
    · exact .inl h
    · exact .inr (.inr h)
theorem ins_sorted : ∀ {r : List (List Nat)} {b : List Nat}, r.Pairwise (· < ·) → b ∉ r → (r.take (posOf r b) ++ b :: r.drop (posOf r b)).Pairwise (· < ·)
  | [], b, _, _ => by simp
  | a :: r, b, hr, hb => by
    obtain ⟨h3, h4⟩ := List.pairwise_cons.mp hr
    rw [pos_cons]
    have hb2 : b ≠ a ∧ b ∉ r := by simpa using hb
    by_cases q : a < b
    · rw [if_pos q, List.take_succ_cons, List.drop_succ_cons, List.cons_append]
      refine List.pairwise_cons.mpr ⟨fun x hx => ?_, ins_sorted h4 hb2.2⟩
      rcases (mem_ins _).mp hx with rfl | hx
      · exact q
      · exact h3 x hx
    · rw [if_neg q]
      have hba : b < a := by
        have h1 : b ≤ a := List.not_lt.mp q
        exact List.not_le.mp fun h2 => hb2.1 (List.le_antisymm h1 h2)
      refine List.pairwise_cons.mpr ⟨fun x hx => ?_, hr⟩
      rcases List.mem_cons.mp hx with rfl | hx
      · exact hba
      · exact List.lt_trans hba (h3 x hx)
theorem row_ins {t : List Nat} {i : Nat} {r : List (List Nat)} (h : rowOK t i r) (hi : i < t.length) (hb : lps (t.take (i + 1)) ∉ r) :
    rowOK t (i + 1) (r.take (posOf r (lps (t.take (i + 1)))) ++ lps (t.take (i + 1)) :: r.drop (posOf r (lps (t.take (i + 1))))) := by
  refine ⟨ins_sorted h.1 hb, fun u => ?_, ?_⟩
  · rw [mem_ins, h.2.1]
    constructor
    · rintro (rfl | ⟨a, b, c⟩)
      · exact ⟨lps_ne hi, lps_pal _, (lps_sub _).isInfix⟩
      · exact ⟨a, b, (fac_step hi a b).mpr (.inl c)⟩
    · rintro ⟨a, b, c⟩
      rcases (fac_step hi a b).mp c with c | c
      · exact .inr ⟨a, b, c⟩
      · exact .inl c
  · have h1 := h.2.2
    have h2 := pos_le r (lps (t.take (i + 1)))
    simp only [List.length_append, List.length_take, List.length_cons, List.length_drop]
    omega
end Mine

-- part Loop1
set_option Elab.async false
set_option maxRecDepth 100000
set_option maxHeartbeats 8000000
set_option linter.unusedVariables false
namespace Mine
open PySem PySem.W PyProof.Rows PySem.Spec PySem.Calls
def loopB : List Stmt := match lawB.getD 8 (.Pass ⟨0, 0, 0, 0⟩) with | .For _ _ b _ _ => b | _ => []
theorem longest_at (w : World) (x : Str) (tx : Tok) (hx : x.length ≤ 100) (b : List Nat) (hb : lps (cl x) = b) : Spec1 w 5 147 [.str x tx] (fun t => .str (S b) t) := by subst hb; exact longest_spec w x tx hx
local macro_rules | `(tactic| walk_at "call ref") => `(tactic| (k_here; (with_reducible show wpAny _ _ (call (Value.ref 147) [Value.str _ _]) _ _ _); k_dflt (refine Spec1.use (longest_at _ _ _ (by first | assumption | omega) _ (by assumption)) (by k_asm) (by k_asm) (by k_asm) (by k_asm) (by k_asm) (by first | exact rfl | assumption) (by ktr_room) (by ktr_units) ?_); intro t9 h9 tk9 F9 N9; (try dsimp only)))
local macro_rules | `(tactic| walk_at "call ref") => `(tactic| (k_here; (with_reducible show wpAny _ _ (call (Value.ref 41) [_, _]) _ _ _); (with_reducible rename StrsAre _ _ ∧ True => hS9); k_dflt (refine SpecL.use (bl2 _ _ _ _ _ _ _ hS9.1 (by assumption) (by assumption) (by assumption) _ (by assumption) (by assumption) (by assumption)) (by k_asm) (by k_asm) (by k_asm) (by k_asm) (by k_asm) (by first | exact rfl | assumption) (by ktr_room) (by ktr_units) (by k_mem) ?_); intro t9 h9 tk9 F9 N9; (try dsimp only)))
theorem fr_over2 {h₀ h : Heap} {L : Addr} {m : Str → Option Value} {x y y' : Str} {u v v' : Value} (F : Fr h₀ L h (fun z => if z = x then some u else if z = y then some v else if z = y' then some v' else m z)) (hv : m y = some v) (hv' : m y' = some v') : Fr h₀ L h (fun z => if z = x then some u else m z) := by
  have e : (fun z => if z = x then some u else if z = y then some v else if z = y' then some v' else m z) = fun z => if z = x then some u else m z := by
    funext z
    by_cases h1 : z = x
    · simp only [if_pos h1]
    · simp only [if_neg h1]
      by_cases h2 : z = y
      · rw [if_pos h2, h2, hv]
      · rw [if_neg h2]
        by_cases h3 : z = y'
        · rw [if_pos h3, h3, hv']
        · rw [if_neg h3]
  rwa [e] at F
section
variable {w : World} {p : Program} {loose : List Str} {mean : ExcName → Option Value} {mg mb : Str → Option Value} {dp un : Nat} {gd : Option (List Code)} {outer : List Env} {A₀ : Around} {base h₀ : Heap} {L fa : Addr} {cd : Value} {s : Shared} {Q : Flow → Shared → Prop} {E : Value → Shared → Prop} {m : Str → Option Value} {news : List (Addr × Obj)}
theorem lb_best (B : Below A₀ base outer h₀) (X : (heapK w.params).In h₀) (T : Top p loose mean mg mb h₀) (hd : dp + 20 < recursionLimit) (hu : un + 160 < cLine)
    {t : List Nat} {tt : Tok} (hlen : t.length ≤ 9) {oT : Obj} (hT : oT.data = .cell (some (.str (S t) tt))) {i : Nat} {ti : Tok} (hi : i < t.length)
    (F : Fr h₀ L s.heap m) (hm : m (Str.ofString "n") = some (.int (0 + (i : Int)) ti)) (N : News h₀ L s.heap ((L + 1, oT) :: news))
    (next : ∀ tb h' tk', Fr h₀ L h' (fun z => if z = Str.ofString "best" then some (.str (S (lps (t.take (i + 1)))) tb) else m z) → News h₀ L h' ((L + 1, oT) :: news) → Q .next { s with heap := h', toks := tk' }) :
    wpAny (model PySem.Challenge.rw_re0157_01.row.prog w) (lawA dp un gd L fa cd outer) (exec (loopB.getD 0 (.Pass ⟨0, 0, 0, 0⟩)) (lawE L fa cd)) Q E s := by
  have F0 := fr_at F hm
  clear F
  show wpAny _ _ (exec (.Assign [_] _ _) _) _ _ _
  revert X
  k_fill
  intro X
  have hll : (S t).length ≤ 9 := by rw [S_len]; exact hlen
  have hcut : lps (cl (Txt.slice (S t) none (some (0 + (i : Int) + 1)))) = lps (t.take (i + 1)) := by
    rw [slice_take (by omega), cl_S, cl_S, show (0 + (i : Int) + 1).toNat = i + 1 by omega]
  k_steps
  exact next _ _ _ (fr_over (by assumption) hm) (by assumption)
theorem lb_k (B : Below A₀ base outer h₀) (X : (heapK w.params).In h₀) (T : Top p loose mean mg mb h₀) (hd : dp + 20 < recursionLimit) (hu : un + 160 < cLine)
    {r : List (List Nat)} {b : List Nat} {tb : Tok} {D : Addr} {vs : List Value} {k : Nat} (hs : StrsAre vs (r.map S)) (hr : r.Pairwise (· < ·)) (hrl : r.length ≤ 9) (hrw : ∀ u ∈ r, u.length ≤ 9) (hbl : b.length ≤ 9)
    (F : Fr h₀ L s.heap m) (hm : m (Str.ofString "row") = some (.ref D)) (hm' : m (Str.ofString "best") = some (.str (S b) tb)) (N : News h₀ L s.heap ((D, listOf vs.toArray k) :: news))
    (next : ∀ tb h' tk', Fr h₀ L h' (fun z => if z = Str.ofString "k" then some (.int (posOf r b : Nat) tb) else m z) → News h₀ L h' ((D, listOf vs.toArray k) :: news) → Q .next { s with heap := h', toks := tk' }) :
    wpAny (model PySem.Challenge.rw_re0157_01.row.prog w) (lawA dp un gd L fa cd outer) (exec (loopB.getD 1 (.Pass ⟨0, 0, 0, 0⟩)) (lawE L fa cd)) Q E s := by
  have F0 := fr_at2 F hm hm'
  clear F
  show wpAny _ _ (exec (.Assign [_] _ _) _) _ _ _
  revert X
  k_fill
  intro X
  have hrl2 : (r.map S).length ≤ 100 := by rw [List.length_map]; omega
  have hrw2 : ∀ y ∈ r.map S, y.length ≤ 100 := fun y hy => by
    obtain ⟨u', hu', rfl⟩ := List.mem_map.mp hy
    rw [S_len]
    have := hrw u' hu'
    omega
  have hxl : (S b).length ≤ 100 := by rw [S_len]; omega
  have hnr : posOf r b ≤ (r.map S).length := by rw [List.length_map]; exact pos_le r b
  have hg : ∀ j, cl ((r.map S).getD j Str.empty) = r.getD j [] := fun j => by
    rw [List.getD_eq_getElem?_getD, List.getElem?_map, List.getD_eq_getElem?_getD]
    cases r[j]? with
    | none => rfl
    | some a => exact cl_S a
  have hlo : ∀ j, j < posOf r b → cl ((r.map S).getD j Str.empty) < cl (S b) := fun j hj => by rw [hg, cl_S]; exact pos_lo hj
  have hhi : ∀ j, posOf r b ≤ j → j < (r.map S).length → ¬ cl ((r.map S).getD j Str.empty) < cl (S b) := fun j hj hj2 => by
    rw [hg, cl_S]; exact pos_hi hr hj (by simpa using hj2)
  have hs2 : StrsAre vs (r.map S) ∧ True := ⟨hs, trivial⟩
  clear hr hrw hg hs
  k_steps
  exact next _ _ _ (fr_over2 (by assumption) hm hm') (by assumption)
end
end Mine

-- part Loop2
set_option Elab.async false
set_option maxRecDepth 100000
set_option maxHeartbeats 8000000
set_option linter.unusedVariables false
namespace Mine
open PySem PySem.W PyProof.Rows PySem.Spec PySem.Calls
theorem ell_at (w : World) (x y : Str) (tx ty : Tok) (wd l : List Nat) (h46 : 46 ∉ wd) (hne : wd ≠ []) (hlo : ∀ c ∈ wd, c < 256) (hxe : x = S (dots ++ wd ++ dots)) (hye : y = S l) (hx : wd.length ≤ 9) (hy : l.length ≤ 9) (b : Bool) (hb : isIn wd l = b) : Spec1 w 3 48 [.str x tx, .str y ty] (fun _ => .bool b) := by
  subst hb hye
  have := ell_spec w wd h46 hne hlo x (S l) tx ty hxe (by rw [hxe, S_len]; simp [dots]; omega) (by rw [S_len]; omega)
  rwa [cl_S] at this
theorem dots_cat (b : List Nat) : Str.ofString "..." ++ S b ++ Str.ofString "..." = S (dots ++ b ++ dots) := by rw [dots_eq, S_app, S_app]
local macro_rules | `(tactic| walk_at "call ref") => `(tactic| (k_here; (with_reducible show wpAny _ _ (call (Value.ref 48) [Value.str _ _, Value.str _ _]) _ _ _); k_dflt (refine Spec1.use (ell_at _ _ _ _ _ _ _ (by assumption) (by assumption) (by assumption) (by assumption) (by assumption) (by assumption) (by assumption) _ (by assumption)) (by k_asm) (by k_asm) (by k_asm) (by k_asm) (by k_asm) (by first | exact rfl | assumption) (by ktr_room) (by ktr_units) ?_); intro t9 h9 tk9 F9 N9; (try dsimp only)))
section
variable {w : World} {p : Program} {loose : List Str} {mean : ExcName → Option Value} {mg mb : Str → Option Value} {dp un : Nat} {gd : Option (List Code)} {outer : List Env} {A₀ : Around} {base h₀ : Heap} {L fa : Addr} {cd : Value} {s : Shared} {Q : Flow → Shared → Prop} {E : Value → Shared → Prop} {m : Str → Option Value} {news : List (Addr × Obj)}
theorem fr_at3 {h : Heap} {y y' y'' : Str} {v v' v'' : Value} (F : Fr h₀ L h m) (hv : m y = some v) (hv' : m y' = some v') (hv'' : m y'' = some v'') : Fr h₀ L h (fun z => if z = y then some v else if z = y' then some v' else if z = y'' then some v'' else m z) := by
  have e : (fun z => if z = y then some v else if z = y' then some v' else if z = y'' then some v'' else m z) = m := by
    funext z
    by_cases h1 : z = y
    · rw [if_pos h1, h1, hv]
    · rw [if_neg h1]
      by_cases h2 : z = y'
      · rw [if_pos h2, h2, hv']
      · rw [if_neg h2]
        by_cases h3 : z = y''
        · rw [if_pos h3, h3, hv'']
        · rw [if_neg h3]
  rwa [e]
theorem fr_over3 {h : Heap} {x y y' y'' : Str} {u v v' v'' : Value} (F : Fr h₀ L h (fun z => if z = x then some u else if z = y then some v else if z = y' then some v' else if z = y'' then some v'' else m z)) (hv : m y = some v) (hv' : m y' = some v') (hv'' : m y'' = some v'') : Fr h₀ L h (fun z => if z = x then some u else m z) := by
  have e : (fun z => if z = x then some u else if z = y then some v else if z = y' then some v' else if z = y'' then some v'' else m z) = fun z => if z = x then some u else m z := by
    funext z
    by_cases h1 : z = x
    · simp only [if_pos h1]
    · simp only [if_neg h1]
      by_cases h2 : z = y
      · rw [if_pos h2, h2, hv]
      · rw [if_neg h2]
        by_cases h3 : z = y'
        · rw [if_pos h3, h3, hv']
        · rw [if_neg h3]
          by_cases h4 : z = y''
          · rw [if_pos h4, h4, hv'']
          · rw [if_neg h4]
  rwa [e] at F
theorem fr_back3 {h : Heap} {y y' y'' : Str} {v v' v'' : Value} (F : Fr h₀ L h (fun z => if z = y then some v else if z = y' then some v' else if z = y'' then some v'' else m z)) (hv : m y = some v) (hv' : m y' = some v') (hv'' : m y'' = some v'') : Fr h₀ L h m := by
  have e : (fun z => if z = y then some v else if z = y' then some v' else if z = y'' then some v'' else m z) = m := by
    funext z
    by_cases h1 : z = y
    · rw [if_pos h1, h1, hv]
    · rw [if_neg h1]
      by_cases h2 : z = y'
      · rw [if_pos h2, h2, hv']
      · rw [if_neg h2]
        by_cases h3 : z = y''
        · rw [if_pos h3, h3, hv'']
        · rw [if_neg h3]
  rwa [e] at F
theorem lb_known (B : Below A₀ base outer h₀) (X : (heapK w.params).In h₀) (T : Top p loose mean mg mb h₀) (hd : dp + 20 < recursionLimit) (hu : un + 160 < cLine)
    {r : List (List Nat)} {b : List Nat} {tb tk9 : Tok} {D : Addr} {vs : List Value} {k : Nat} (hs : StrsAre vs (r.map S)) (hr : r.Pairwise (· < ·)) (hrl : r.length ≤ 9) (hrw : ∀ u ∈ r, u.length ≤ 9) (hbl : b.length ≤ 9)
    (F : Fr h₀ L s.heap m) (hm : m (Str.ofString "row") = some (.ref D)) (hm' : m (Str.ofString "best") = some (.str (S b) tb)) (hm'' : m (Str.ofString "k") = some (.int (posOf r b : Nat) tk9)) (N : News h₀ L s.heap ((D, listOf vs.toArray k) :: news))
    (next : ∀ h' tk', Fr h₀ L h' (fun z => if z = Str.ofString "known" then some (.bool (decide (b ∈ r))) else m z) → News h₀ L h' ((D, listOf vs.toArray k) :: news) → Q .next { s with heap := h', toks := tk' }) :
    wpAny (model PySem.Challenge.rw_re0157_01.row.prog w) (lawA dp un gd L fa cd outer) (exec (loopB.getD 2 (.Pass ⟨0, 0, 0, 0⟩)) (lawE L fa cd)) Q E s := by
  have F0 := fr_at3 F hm hm' hm''
  clear F
  show wpAny _ _ (exec (.Assign [_] _ _) _) _ _ _
  revert X
  k_fill
  intro X
  have hrl2 : (r.map S).length ≤ 100 := by rw [List.length_map]; omega
  have hlm : (r.map S).length = r.length := List.length_map ..
  have hxl : (S b).length ≤ 100 := by rw [S_len]; omega
  have hpm := pos_mem (b := b) hr
  have hg : ∀ j, j < r.length → ((r.map S).getD j Str.empty) = S (r.getD j []) := fun j hj => by
    rw [List.getD_eq_getElem?_getD, List.getElem?_map, List.getD_eq_getElem?_getD, List.getElem?_eq_getElem hj]; rfl
  have hgl : ∀ j, j < r.length → ((r.map S).getD j Str.empty).length ≤ 100 := fun j hj => by
    rw [hg j hj, S_len]
    have : r.getD j [] ∈ r := by rw [List.getD_eq_getElem?_getD, List.getElem?_eq_getElem hj]; exact List.getElem_mem _
    have := hrw _ this
    omega
  clear hr hrw
  k_steps
  · have hc : ((posOf r b : Nat) : Int) < ((r.map S).length : Nat) := by assumption
    have hc' : posOf r b < r.length := by omega
    have e : ((r.map S).getD ((posOf r b : Nat) : Int).toNat Str.empty == S b) = decide (b ∈ r) := by
      rw [Int.toNat_natCast, hg _ hc']
      rw [Bool.eq_iff_iff, beq_iff_eq, decide_eq_true_eq, hpm]
      exact ⟨fun h => ⟨hc', S_inj h⟩, fun h => by rw [h.2]⟩
    (with_reducible rename Fr _ _ _ _ => F9)
    rw [e] at F9
    exact next _ _ (fr_over3 F9 hm hm' hm'') (by assumption)
  · have hc : ¬ ((posOf r b : Nat) : Int) < ((r.map S).length : Nat) := by assumption
    have e : decide (((posOf r b : Nat) : Int) < ((r.map S).length : Nat)) = decide (b ∈ r) := by
      rw [decide_eq_decide, hpm]
      constructor
      · exact fun h => absurd h hc
      · rintro ⟨h, _⟩; omega
    (with_reducible rename Fr _ _ _ _ => F9)
    rw [e] at F9
    exact next _ _ (fr_over3 F9 hm hm' hm'') (by assumption)
theorem lb_if (B : Below A₀ base outer h₀) (X : (heapK w.params).In h₀) (T : Top p loose mean mg mb h₀) (hd : dp + 20 < recursionLimit) (hu : un + 160 < cLine)
    {t : List Nat} {tt : Tok} (hlen : t.length ≤ 9) {oT : Obj} (hT : oT.data = .cell (some (.str (S t) tt))) {i : Nat} {ti : Tok} (hi : i < t.length) {b : List Nat} {tb : Tok} {kn : Bool} (hbl : b.length ≤ 9) (hbn : b ≠ []) (hb46 : 46 ∉ b) (hb256 : ∀ c ∈ b, c < 256) (hin : isIn b (t.take i) = kn)
    (F : Fr h₀ L s.heap m) (hm : m (Str.ofString "n") = some (.int (0 + (i : Int)) ti)) (hm' : m (Str.ofString "best") = some (.str (S b) tb)) (hm'' : m (Str.ofString "known") = some (.bool kn)) (N : News h₀ L s.heap ((L + 1, oT) :: news))
    (next : ∀ h' tk', Fr h₀ L h' m → News h₀ L h' ((L + 1, oT) :: news) → Q .next { s with heap := h', toks := tk' }) :
    wpAny (model PySem.Challenge.rw_re0157_01.row.prog w) (lawA dp un gd L fa cd outer) (exec (loopB.getD 3 (.Pass ⟨0, 0, 0, 0⟩)) (lawE L fa cd)) Q E s := by
  have F0 := fr_at3 F hm hm' hm''
  clear F
  show wpAny _ _ (exec (.If _ _ _ _) _) _ _ _
  revert X
  k_fill
  intro X
  have hll : (S t).length ≤ 9 := by rw [S_len]; exact hlen
  have hxl : (S b).length ≤ 9 := by rw [S_len]; omega
  have hcut2 : Txt.slice (S t) none (some (0 + (i : Int))) = S (t.take i) := by
    rw [slice_take (by omega), cl_S, show (0 + (i : Int)).toNat = i by omega]
  have htl : (t.take i).length ≤ 9 := Nat.le_trans (List.length_take_le _ _) (by omega)
  have hcat := dots_cat b
  k_steps
  · first
      | (have hc : (kn != kn) = true := by assumption
         simp at hc)
      | (have hc : ¬ kn = kn := by assumption
         exact absurd rfl hc)
      | (exfalso; simp_all)
  · exact next _ _ (fr_back3 (by assumption) hm hm' hm'') (by assumption)
end
end Mine

-- part Loop3
set_option Elab.async false
set_option maxRecDepth 100000
set_option maxHeartbeats 8000000
set_option linter.unusedVariables false
namespace Mine
open PySem PySem.W PyProof.Rows PySem.Spec PySem.Calls
theorem strs_ins {vs : List Value} {r : List (List Nat)} {b : List Nat} {tb : Tok} {q : Nat} (hs : StrsAre vs (r.map S)) (hq : q ≤ (r.map S).length) : StrsAre (kl_ins vs (q : Nat) (.str (S b) tb)) ((r.take q ++ b :: r.drop q).map S) := by
  have hl := hs.length
  unfold kl_ins
  rw [if_neg (by omega), show min ((q : Nat) : Int).toNat vs.length = q by omega, List.map_append, List.map_cons, List.map_take, List.map_drop]
  exact (hs.take' q).append' (.cons _ _ (hs.drop' q))
section
variable {w : World} {p : Program} {loose : List Str} {mean : ExcName → Option Value} {mg mb : Str → Option Value} {dp un : Nat} {gd : Option (List Code)} {outer : List Env} {A₀ : Around} {base h₀ : Heap} {L fa : Addr} {cd : Value} {s : Shared} {Q : Flow → Shared → Prop} {E : Value → Shared → Prop} {m : Str → Option Value} {rest : List (Addr × Obj)}
theorem lb_ins (B : Below A₀ base outer h₀) (X : (heapK w.params).In h₀) (T : Top p loose mean mg mb h₀) (hd : dp + 20 < recursionLimit) (hu : un + 160 < cLine)
    {r : List (List Nat)} {b : List Nat} {tb : Tok} {D : Addr} {vs : List Value} {k : Nat} (hs : StrsAre vs (r.map S)) (hr : r.Pairwise (· < ·)) (hrl : r.length ≤ 9) (hrw : ∀ u ∈ r, u.length ≤ 9) (hbl : b.length ≤ 9)
    (F : Fr h₀ L s.heap m) (hm : m (Str.ofString "row") = some (.ref D)) (hm' : m (Str.ofString "best") = some (.str (S b) tb)) (hm'' : m (Str.ofString "known") = some (.bool (decide (b ∈ r)))) (N : News h₀ L s.heap ((D, listOf vs.toArray k) :: rest)) (hoff : ∀ p ∈ rest, p.1 ≠ D)
    (next : ∀ vs' k' h' tk', StrsAre vs' ((if b ∈ r then r else r.take (posOf r b) ++ b :: r.drop (posOf r b)).map S) → Fr h₀ L h' m → News h₀ L h' ((D, listOf vs'.toArray k') :: rest) → Q .next { s with heap := h', toks := tk' }) :
    wpAny (model PySem.Challenge.rw_re0157_01.row.prog w) (lawA dp un gd L fa cd outer) (exec (loopB.getD 4 (.Pass ⟨0, 0, 0, 0⟩)) (lawE L fa cd)) Q E s := by
  have F0 := fr_at3 F hm hm' hm''
  clear F
  show wpAny _ _ (exec (.If _ _ _ _) _) _ _ _
  revert X
  k_fill
  intro X
  have hrl2 : (r.map S).length ≤ 100 := by rw [List.length_map]; omega
  have hrw2 : ∀ y ∈ r.map S, y.length ≤ 100 := fun y hy => by
    obtain ⟨u', hu', rfl⟩ := List.mem_map.mp hy
    rw [S_len]
    have := hrw u' hu'
    omega
  have hxl : (S b).length ≤ 100 := by rw [S_len]; omega
  have hnr : posOf r b ≤ (r.map S).length := by rw [List.length_map]; exact pos_le r b
  have hg : ∀ j, cl ((r.map S).getD j Str.empty) = r.getD j [] := fun j => by
    rw [List.getD_eq_getElem?_getD, List.getElem?_map, List.getD_eq_getElem?_getD]
    cases r[j]? with
    | none => rfl
    | some a => exact cl_S a
  have hlo : ∀ j, j < posOf r b → cl ((r.map S).getD j Str.empty) < cl (S b) := fun j hj => by rw [hg, cl_S]; exact pos_lo hj
  have hhi : ∀ j, posOf r b ≤ j → j < (r.map S).length → ¬ cl ((r.map S).getD j Str.empty) < cl (S b) := fun j hj hj2 => by
    rw [hg, cl_S]; exact pos_hi hr hj (by simpa using hj2)
  have hs2 : StrsAre vs (r.map S) ∧ True := ⟨hs, trivial⟩
  clear hr hrw hg hs
  k_steps
  · have hb : b ∈ r := by assumption
    exact next vs k s.heap s.toks (by rw [if_pos hb]; exact hs2.1) (fr_back3 F0 hm hm' hm'') N
  · have hb : ¬ b ∈ r := by assumption
    k_dflt (refine (il_spec w D vs (r.map S) k (S b) tb hs2.1 hrl2 hrw2 hxl (posOf r b) hnr hlo hhi) _ _ _ _ _ _ _ _ _ _ _ _ _ _ _ _ _ _ _ _ _ _ _ (by k_asm) (by k_asm) (by k_asm) (by k_asm) hoff (by k_asm) (by first | exact rfl | assumption) (by ktr_room) (by ktr_units) ?_)
    intro h8 tk8 F8 N8
    k_steps
    refine next _ _ _ _ ?_ (fr_back3 F8 hm hm' hm'') N8
    rw [if_neg hb]
    exact strs_ins hs2.1 hnr
end
end Mine

-- part Loop4
set_option Elab.async false
set_option maxRecDepth 100000
set_option maxHeartbeats 8000000
set_option linter.unusedVariables false
namespace Mine
open PySem PySem.W PyProof.Rows PySem.Spec PySem.Calls
def RowAt (t : List Nat) (i : Nat) (vs : List Value) : Prop := ∃ r, StrsAre vs (r.map S) ∧ rowOK t i r
def loopNames (y : Str) : Bool := y == Str.ofString "best" || y == Str.ofString "k" || y == Str.ofString "known"
theorem fr_done {h₀ h : Heap} {L : Addr} {x y : Str} {f : Str → Bool} {u m : Str → Option Value} {v : Value} (F : Fr h₀ L h (fun z => if z = x then u z else if f z = true then u z else if z = y then some v else m z)) (hv : m y = some v) : Fr h₀ L h (fun z => if z = x then u z else if f z = true then u z else m z) := by
  have e : (fun z => if z = x then u z else if f z = true then u z else if z = y then some v else m z) = fun z => if z = x then u z else if f z = true then u z else m z := by
    funext z
    by_cases h2 : z = y
    · simp only [if_pos h2]; rw [h2, hv]
    · simp only [if_neg h2]
  rwa [e] at F
inductive LoopSrc (h₀ : Heap) (L : Addr) (m : Str → Option Value) (led : List (Addr × Obj)) (n : Nat) (s : Shared) : Value → Shared → Prop
  | mk {r : Addr} {t₀ u₀ v₀ : Tok} {h' : Heap} {tk' : Nat} : IsRange h' r 0 (n : Nat) 1 t₀ u₀ v₀ → Fr h₀ L h' m → News h₀ L h' led → LoopSrc h₀ L m led n s (.ref r) { s with heap := h', toks := tk' }
theorem news_swap {h₀ h : Heap} {L : Addr} {a b : Addr × Obj} {r : List (Addr × Obj)} (N : News h₀ L h (a :: b :: r)) : News h₀ L h (b :: a :: r) := fun p hp => N p (by
  rcases List.mem_cons.mp hp with rfl | hp
  · exact List.mem_cons_of_mem _ List.mem_cons_self
  · rcases List.mem_cons.mp hp with rfl | hp
    · exact List.mem_cons_self
    · exact List.mem_cons_of_mem _ (List.mem_cons_of_mem _ hp))
theorem loopB_eq : loopB = [loopB.getD 0 (.Pass ⟨0, 0, 0, 0⟩), loopB.getD 1 (.Pass ⟨0, 0, 0, 0⟩), loopB.getD 2 (.Pass ⟨0, 0, 0, 0⟩), loopB.getD 3 (.Pass ⟨0, 0, 0, 0⟩), loopB.getD 4 (.Pass ⟨0, 0, 0, 0⟩)] := by kernel_rfl
section
variable {w : World} {p : Program} {loose : List Str} {mean : ExcName → Option Value} {mg mb : Str → Option Value} {dp un : Nat} {gd : Option (List Code)} {outer : List Env} {A₀ : Around} {base h₀ : Heap} {L fa : Addr} {cd : Value} {s : Shared} {Q : Flow → Shared → Prop} {E : Value → Shared → Prop} {m : Str → Option Value} {news : List (Addr × Obj)}
theorem st_loop (B : Below A₀ base outer h₀) (X : (heapK w.params).In h₀) (T : Top p loose mean mg mb h₀) (hd : dp + 20 < recursionLimit) (hu : un + 160 < cLine) (hE : PassesOwn (model PySem.Challenge.rw_re0157_01.row.prog w) (lawA dp un gd L fa cd outer) (lawE L fa cd) E)
    {t : List Nat} {tt : Tok} (hlen : t.length ≤ 9) (ht : ∀ c ∈ t, c < 256 ∧ c ≠ 46) {oT : Obj} (hT : oT.data = .cell (some (.str (S t) tt))) {D : Addr} {k₀ : Nat} (hoff : ∀ p ∈ (L + 1, oT) :: news, p.1 ≠ D)
    (F : Fr h₀ L s.heap m) (hm : m (Str.ofString "row") = some (.ref D)) (N : News h₀ L s.heap ((D, listOf ([] : List Value).toArray k₀) :: (L + 1, oT) :: news))
    (next : ∀ vs k h' tk' (u : Str → Option Value), RowAt t t.length vs → Fr h₀ L h' (fun z => if z = Str.ofString "n" then u z else if loopNames z = true then u z else m z) → News h₀ L h' ((D, listOf vs.toArray k) :: (L + 1, oT) :: news) → Q .next { s with heap := h', toks := tk' }) :
    wpAny (model PySem.Challenge.rw_re0157_01.row.prog w) (lawA dp un gd L fa cd outer) (exec (lawB.getD 8 (.Pass ⟨0, 0, 0, 0⟩)) (lawE L fa cd)) Q E s := by
  have F0 := fr_at F hm
  clear F
  show wpAny _ _ (exec (.For _ _ _ _ _) _) _ _ _
  revert X
  k_fill
  intro X
  have hll : (S t).length ≤ 9 := by rw [S_len]; exact hlen
  with_unfolding_all refine' For_invVF F0 ?k1 ?k2 ?_
  case k1 => exact rfl
  case k2 => exact rfl
  refine wpAny_mono (Q := LoopSrc h₀ L (fun z => if z = Str.ofString "row" then some (.ref D) else m z) ((D, listOf ([] : List Value).toArray k₀) :: (L + 1, oT) :: news) t.length s) ?_ (fun v s₁ hv => ?_) fun _ _ e => e
  · k_steps
    rw [S_len] at *
    exact .mk (by assumption) (by assumption) (by assumption)
  · obtain ⟨hr, F1, N1⟩ := hv
    refine row_for (D := D) t.length loopNames (RowAt t) rfl hr (by omega) (by decide) (by decide) (by omega) (by omega) F1 N1 hoff ⟨[], .nil, row_zero t⟩ ?_ ?_
    · rintro i ti vs k u h tk own hi ⟨r, hs, hro⟩ F2 N2 off2
      show wpAny _ _ (execs loopB _) _ _ _
      rw [loopB_eq]
      generalize hb : lps (t.take (i + 1)) = b
      have hsub := lps_sub (t.take (i + 1))
      rw [hb] at hsub
      have hbl : b.length ≤ 9 := Nat.le_trans hsub.length_le (Nat.le_trans (List.length_take_le _ _) (by omega))
      have hbt : ∀ c ∈ b, c ∈ t := fun c hc => List.mem_of_mem_take (hsub.subset hc)
      have hrl : r.length ≤ 9 := Nat.le_trans hro.2.2 (by omega)
      have hrw : ∀ u ∈ r, u.length ≤ 9 := fun u' hu' => Nat.le_trans ((hro.2.1 u').mp hu').2.2.length_le (Nat.le_trans (List.length_take_le _ _) (by omega))
      have hbn : b ≠ [] := hb ▸ lps_ne hi
      have hkn : isIn b (t.take i) = decide (b ∈ r) := by
        rw [Bool.eq_iff_iff, decide_eq_true_eq, ← hb]
        exact known_iff hro hi
      have hro2 : rowOK t (i + 1) (if b ∈ r then r else r.take (posOf r b) ++ b :: r.drop (posOf r b)) := by
        by_cases hm : b ∈ r
        · rw [if_pos hm]; exact row_same hro hi (hb ▸ hm)
        · rw [if_neg hm, ← hb]; exact row_ins hro hi (hb ▸ hm)
      refine wpAny_execs_cons (lb_best B X T hd hu hlen hT hi F2 rfl (news_swap N2) fun tb h3 tk3 F3 N3 => ?_)
      rw [hb] at F3
      refine wpAny_execs_cons (lb_k B X T hd hu hs hro.1 hrl hrw hbl F3 rfl rfl (news_swap N3) fun tk4' h4 tk4 F4 N4 => ?_)
      refine wpAny_execs_cons (lb_known B X T hd hu hs hro.1 hrl hrw hbl F4 rfl rfl rfl N4 fun h5 tk5 F5 N5 => ?_)
      refine wpAny_execs_cons (lb_if B X T hd hu hlen hT hi hbl hbn (fun hc => (ht _ (hbt _ hc)).2 rfl) (fun c hc => (ht _ (hbt _ hc)).1) hkn F5 rfl rfl rfl (news_swap N5) fun h6 tk6 F6 N6 => ?_)
      refine wpAny_execs_cons (lb_ins B X T hd hu hs hro.1 hrl hrw hbl F6 rfl rfl rfl (news_swap N6) off2 fun vs' k' h7 tk7 hs7 F7 N7 => ?_)
      refine wpAny_execs_nil ?_
      show RowE _ _ _ _ _ _ _ _ _ _
      refine RowE.intro F7 N7 List.mem_cons_self (fun p hp => List.mem_cons_of_mem _ hp) ?_ ⟨_, hs7, hro2⟩
      intro y hy hf
      have hf' : (y == Str.ofString "best") = false ∧ (y == Str.ofString "k") = false ∧ (y == Str.ofString "known") = false := by
        unfold loopNames at hf
        simpa [Bool.or_eq_false_iff, and_assoc] using hf
      have n1 : y ≠ Str.ofString "best" := by simpa using hf'.1
      have n2 : y ≠ Str.ofString "k" := by simpa using hf'.2.1
      have n3 : y ≠ Str.ofString "known" := by simpa using hf'.2.2
      simp only [if_neg n1, if_neg n2, if_neg n3, if_neg hy, hf, Bool.false_eq_true, if_false]
    · intro vs k u h tk hP F2 N2
      exact next vs k h tk u hP (fr_done F2 hm) N2
end
end Mine

-- part Plain3
set_option Elab.async false
set_option maxRecDepth 100000
set_option linter.unusedVariables false
namespace Mine
/-- one complete return: it begins and ends with the word, which stands nowhere within -/
def CR (w u : List Nat) : Prop := ∃ c v d, u = c :: (v ++ [d]) ∧ w <+: u ∧ w <:+ u ∧ ¬ w <:+: v ∧ w.length < u.length
theorem CR.rev {w u : List Nat} (hw : isPal w = true) (h : CR w u) : CR w u.reverse := by
  obtain ⟨c, v, d, rfl, h1, h2, h3, h4⟩ := h
  have e := isPal_iff.mp hw
  refine ⟨d, v.reverse, c, by simp, ?_, ?_, fun q => h3 ?_, by simpa using h4⟩
  · have := List.reverse_prefix.mpr h2; rwa [e] at this
  · have := List.reverse_suffix.mpr h1; rwa [e] at this
  · have := List.reverse_infix.mpr q; rwa [e, List.reverse_reverse] at this
theorem pal_rev {u : List Nat} (h : isPal u.reverse = true) : isPal u = true := by
  rw [isPal_iff] at h ⊢
  rw [List.reverse_reverse] at h
  exact h.symm
def newAt (t : List Nat) (i : Nat) : Prop := ¬ lps (t.take (i + 1)) <:+: t.take i
theorem take_snoc {t : List Nat} {i : Nat} (hi : i < t.length) : t.take (i + 1) = t.take i ++ [t[i]] := by rw [List.take_add_one, List.getElem?_eq_getElem hi]; rfl
theorem suffix_len {a b l : List Nat} (ha : a <:+ l) (hb : b <:+ l) (h : a.length ≤ b.length) : a <:+ b := List.suffix_of_suffix_length_le ha hb h
/-- what ends before the last letter -/
theorem infix_init {x l : List Nat} {d : Nat} (h : x <+: l ++ [d]) (hl : x.length < (l ++ [d]).length) : x <+: l := by
  obtain ⟨z, hz⟩ := h
  rcases List.eq_nil_or_concat z with rfl | ⟨z', e, rfl⟩
  · rw [← hz] at hl; simp at hl
  · exact ⟨z', by
      have e2 : (x ++ z') ++ [e] = l ++ [d] := by simpa [List.append_assoc] using hz
      exact (List.append_inj' e2 rfl).1⟩
/-- new longest ends: each complete return of a palindrome is one -/
theorem returns_pal {t : List Nat} (hnew : ∀ i, i < t.length → newAt t i) : ∀ n, n ≤ t.length → ∀ w u, w ≠ [] → isPal w = true → CR w u → u <:+ t.take n → isPal u = true := by
  intro n
  induction n using Nat.strongRecOn with
  | ind n ih =>
    intro hn w u hwn hw hc hu
    cases n with
    | zero =>
      obtain ⟨c, v, d, rfl, _⟩ := hc
      simp at hu
    | succ i =>
      have hi : i < t.length := hn
      have hnw := hnew i hi
      unfold newAt at hnw
      have hqs := lps_sub (t.take (i + 1))
      have hqp := lps_pal (t.take (i + 1))
      have hqm : ∀ {x : List Nat}, isPal x = true → x <:+ t.take (i + 1) → x <:+ lps (t.take (i + 1)) := lps_max
      generalize lps (t.take (i + 1)) = q at *
      obtain ⟨c, v, d, hcu, h1, h2, h3, h4⟩ := hc
      have hwq : w <:+ q := hqm hw (h2.trans hu)
      have hwq2 : w <+: q := pal_prefix hw hqp hwq
      rcases Nat.lt_trichotomy q.length u.length with hl | hl | hl
      · exfalso
        have hqu : q <:+ u := suffix_len hqs hu (Nat.le_of_lt hl)
        rcases Nat.lt_or_ge w.length q.length with hwl | hwl
        · -- a place of w within u
          apply h3
          rw [hcu] at hqu
          have hqv : q <:+ v ++ [d] := by
            rcases List.suffix_cons_iff.mp hqu with e | e
            · rw [e, hcu] at hl; simp at hl
            · exact e
          obtain ⟨y, hy⟩ := hqv
          obtain ⟨z, hz⟩ := hwq2
          rcases List.eq_nil_or_concat z with rfl | ⟨z', e, rfl⟩
          · rw [List.append_nil] at hz; rw [hz] at hwl; exact absurd hwl (Nat.lt_irrefl _)
          · rw [← hz] at hy
            have e2 : (y ++ w ++ z') ++ [e] = v ++ [d] := by simpa [List.append_assoc] using hy
            exact ⟨y, z', (List.append_inj' e2 rfl).1⟩
        · -- q is w, and w stands at u's start
          apply hnw
          have e : w = q := hwq.eq_of_length (Nat.le_antisymm hwq.length_le hwl)
          rw [← e]
          rw [take_snoc hi] at hu
          have hcv : u = (c :: v) ++ [d] := by rw [hcu]; rfl
          have hp : w <+: c :: v := by
            rw [hcv] at h1 h4
            exact infix_init h1 h4
          rw [hcv] at hu
          obtain ⟨y, hy⟩ := hu
          have e2 : (y ++ (c :: v)) ++ [d] = t.take i ++ [t[i]] := by simpa [List.append_assoc] using hy
          have e3 := (List.append_inj' e2 rfl).1
          rw [← e3]
          exact hp.isInfix.trans ⟨y, [], by simp⟩
      · have e : u = q := (suffix_len hu hqs (Nat.le_of_eq hl.symm)).eq_of_length hl.symm
        rw [e]; exact hqp
      · have huq : u <:+ q := suffix_len hu hqs (Nat.le_of_lt hl)
        have hrp : u.reverse <+: q := by
          have := List.reverse_prefix.mpr huq
          rwa [isPal_iff.mp hqp] at this
        obtain ⟨z, hz⟩ := hrp
        obtain ⟨y, hy⟩ := hqs
        have hzl : 0 < z.length := by
          have := congrArg List.length hz
          simp at this
          omega
        have hlen : (y ++ u.reverse).length < i + 1 := by
          have h5 := congrArg List.length hy
          rw [← hz] at h5
          simp only [List.length_append, List.length_take] at h5 ⊢
          omega
        have hpre : y ++ u.reverse = t.take (y ++ u.reverse).length := by
          have h5 : y ++ u.reverse <+: t := by
            refine List.IsPrefix.trans ⟨z, ?_⟩ (List.take_prefix (i + 1) t)
            rw [← hy, ← hz, List.append_assoc]
          exact List.prefix_iff_eq_take.mp h5
        refine pal_rev (ih _ hlen (by omega) w u.reverse hwn hw (CR.rev hw ⟨c, v, d, hcu, h1, h2, h3, h4⟩) ?_)
        rw [← hpre]
        exact ⟨y, rfl⟩
/-- what the program calls a return -/
def retK (t : List Nat) (a : Nat) (w : List Nat) : Option Nat := (List.range (t.length - a)).find? fun k => isIn w ((t.drop (a + 1)).take k)
def retOf (t : List Nat) (a : Nat) (w : List Nat) : List Nat := match retK t a w with
  | some k => (t.drop a).take (k + 1)
  | none => []
end Mine

-- part Plain4
set_option Elab.async false
set_option maxRecDepth 100000
set_option linter.unusedVariables false
namespace Mine
theorem retK_some {t w : List Nat} {a k : Nat} (h : retK t a w = some k) : k < t.length - a ∧ w <:+: (t.drop (a + 1)).take k ∧ ∀ j, j < k → ¬ w <:+: (t.drop (a + 1)).take j := by
  unfold retK at h
  rw [List.find?_range_eq_some] at h
  obtain ⟨h1, h2, h3⟩ := h
  refine ⟨List.mem_range.mp h2, by simpa [isIn] using h1, fun j hj => ?_⟩
  have := h3 j hj
  simpa [isIn] using this
theorem retK_none {t w : List Nat} {a : Nat} (h : retK t a w = none) : ∀ k, k < t.length - a → ¬ w <:+: (t.drop (a + 1)).take k := by
  unfold retK at h
  intro k hk
  have := List.find?_eq_none.mp h k (List.mem_range.mpr hk)
  simpa [isIn] using this
theorem take_mono {l : List Nat} {j k : Nat} (h : j ≤ k) : l.take j <+: l.take k := by
  rw [show l.take j = (l.take k).take j by rw [List.take_take, Nat.min_eq_left h]]
  exact List.take_prefix _ _
theorem cut_at {t : List Nat} {a : Nat} (ha : a < t.length) (k : Nat) : (t.drop a).take (k + 1) = t[a] :: (t.drop (a + 1)).take k := by
  rw [List.drop_eq_getElem_cons ha, List.take_succ_cons]
theorem CR_of {t w : List Nat} {a k : Nat} (ha : a < t.length) (hw : w ≠ []) (hat : (t.drop a).take w.length = w) (h : retK t a w = some k) : CR w ((t.drop a).take (k + 1)) := by
  obtain ⟨h1, h2, h3⟩ := retK_some h
  cases k with
  | zero => simp at h2; exact absurd h2 hw
  | succ j =>
    have hj : j < (t.drop (a + 1)).length := by rw [List.length_drop]; omega
    have hwl : w.length ≤ j + 1 := by
      have := h2.length_le
      rw [List.length_take] at this
      omega
    have e : (t.drop (a + 1)).take (j + 1) = (t.drop (a + 1)).take j ++ [(t.drop (a + 1))[j]] := take_snoc hj
    refine ⟨t[a], (t.drop (a + 1)).take j, (t.drop (a + 1))[j], by rw [cut_at ha, e], ?_, ?_, h3 j (Nat.lt_succ_self j), ?_⟩
    · have h5 := take_mono (l := t.drop a) (j := w.length) (k := j + 1 + 1) (by omega)
      rwa [hat] at h5
    · rw [cut_at ha]
      rw [e] at h2 ⊢
      rcases infix_snoc.mp h2 with h4 | h4
      · exact absurd h4 (h3 j (Nat.lt_succ_self j))
      · exact h4.trans (List.suffix_cons _ _)
    · rw [List.length_take, List.length_drop]; omega
theorem cut_end {t : List Nat} {a k : Nat} : (t.drop a).take k <:+ t.take (a + k) := ⟨t.take a, by rw [List.take_add]⟩
theorem rets_pal {t : List Nat} (hnew : ∀ i, i < t.length → newAt t i) {w : List Nat} {a : Nat} (hw : w ≠ []) (hp : isPal w = true) (ha : a < t.length) (hat : (t.drop a).take w.length = w) : isPal (retOf t a w) = true := by
  unfold retOf
  cases h : retK t a w with
  | none => rfl
  | some k =>
    have h1 := (retK_some h).1
    exact returns_pal hnew (a + (k + 1)) (by omega) w _ hw hp (CR_of ha hw hat h) cut_end
theorem at_of_suffix {t q : List Nat} {e : Nat} (h : q <:+ t.take e) (he : e ≤ t.length) : q.length ≤ e ∧ (t.drop (e - q.length)).take q.length = q := by
  obtain ⟨y, hy⟩ := h
  have h1 := congrArg List.length hy
  rw [List.length_append, List.length_take, Nat.min_eq_left he] at h1
  have h2 : t = y ++ (q ++ t.drop e) := by rw [← List.append_assoc, hy, List.take_append_drop]
  refine ⟨by omega, ?_⟩
  rw [show e - q.length = y.length by omega]
  conv => lhs; rw [h2]
  rw [List.drop_left, List.take_left]
theorem new_of {t : List Nat} (H : ∀ w, w ≠ [] → isPal w = true → w <:+: t → ∀ a, a < t.length → (t.drop a).take w.length = w → isPal (retOf t a w) = true) : ∀ i, i < t.length → newAt t i := by
  intro i hi hbad
  have hqs := lps_sub (t.take (i + 1))
  have hqp := lps_pal (t.take (i + 1))
  have hqn := lps_ne hi
  have hqm : ∀ {x : List Nat}, isPal x = true → x <:+ t.take (i + 1) → x <:+ lps (t.take (i + 1)) := lps_max
  generalize lps (t.take (i + 1)) = q at *
  have hql : 0 < q.length := List.length_pos_iff.mpr hqn
  have key : ∀ m e, i - e = m → e ≤ i → q <:+ t.take e → False := by
    intro m
    induction m using Nat.strongRecOn with
    | ind m ih =>
      intro e hm he hq
      obtain ⟨h1, h2⟩ := at_of_suffix hq (by omega)
      have hb : e - q.length < t.length := by omega
      have hin : q <:+: t := hqs.isInfix.trans (List.take_prefix _ _).isInfix
      have hend : q <:+: (t.drop (e - q.length + 1)).take (i - (e - q.length)) := by
        have h5 : (t.drop (e - q.length + 1)).take (i - (e - q.length)) <:+ t.take (i + 1) := by
          have := cut_end (t := t) (a := e - q.length + 1) (k := i - (e - q.length))
          rwa [show e - q.length + 1 + (i - (e - q.length)) = i + 1 by omega] at this
        refine (suffix_len hqs h5 ?_).isInfix
        rw [List.length_take, List.length_drop]; omega
      have hp := H q hqn hqp hin _ hb h2
      unfold retOf at hp
      cases hr : retK t (e - q.length) q with
      | none => exact retK_none hr _ (by omega) hend
      | some k =>
        rw [hr] at hp
        obtain ⟨h6, h7, h8⟩ := retK_some hr
        have hk : k ≤ i - (e - q.length) := by
          apply Nat.le_of_not_lt
          intro hlt
          exact h8 _ hlt hend
        obtain ⟨c, v, d, hu, h9, h10, h11, h12⟩ := CR_of hb hqn h2 hr
        have hul : ((t.drop (e - q.length)).take (k + 1)).length = k + 1 := by rw [List.length_take, List.length_drop]; omega
        have hue := cut_end (t := t) (a := e - q.length) (k := k + 1)
        rcases Nat.lt_or_ge k (i - (e - q.length)) with hlt | hge
        · exact ih (i - (e - q.length + (k + 1))) (by omega) (e - q.length + (k + 1)) rfl (by omega) (h10.trans hue)
        · have ek : e - q.length + (k + 1) = i + 1 := by omega
          rw [ek] at hue
          have hp2 : isPal ((t.drop (e - q.length)).take (k + 1)) = true := hp
          have := (hqm hp2 hue).length_le
          omega
  obtain ⟨j, h1, h2⟩ := isIn_iff.mp (show isIn q (t.take i) = true by simpa [isIn] using hbad)
  rw [List.length_take] at h1
  have h3 : q <:+ t.take (j + q.length) := by
    have h4 := cut_end (t := t.take i) (a := j) (k := q.length)
    rw [h2, List.take_take, Nat.min_eq_left (by omega)] at h4
    exact h4
  exact key _ (j + q.length) rfl (by omega) h3
/-- the rows, letter by letter -/
def rowOf (t : List Nat) : Nat → List (List Nat)
  | 0 => []
  | i + 1 => if lps (t.take (i + 1)) ∈ rowOf t i then rowOf t i else (rowOf t i).take (posOf (rowOf t i) (lps (t.take (i + 1)))) ++ lps (t.take (i + 1)) :: (rowOf t i).drop (posOf (rowOf t i) (lps (t.take (i + 1))))
theorem rowOf_ok (t : List Nat) : ∀ i, i ≤ t.length → rowOK t i (rowOf t i)
  | 0, _ => row_zero t
  | i + 1, h => by
    unfold rowOf
    by_cases hm : lps (t.take (i + 1)) ∈ rowOf t i
    · rw [if_pos hm]; exact row_same (rowOf_ok t i (by omega)) h hm
    · rw [if_neg hm]; exact row_ins (rowOf_ok t i (by omega)) h hm
theorem rowOf_len (t : List Nat) : ∀ i, i ≤ t.length → ((rowOf t i).length = i ↔ ∀ j, j < i → newAt t j)
  | 0, _ => by simp [rowOf]
  | i + 1, h => by
    have ih := rowOf_len t i (by omega)
    have ok := rowOf_ok t i (by omega)
    have hk : newAt t i ↔ lps (t.take (i + 1)) ∉ rowOf t i := by
      unfold newAt
      rw [← known_iff ok h, isIn, decide_eq_true_eq]
    unfold rowOf
    by_cases hm : lps (t.take (i + 1)) ∈ rowOf t i
    · rw [if_pos hm]
      constructor
      · intro e; have := ok.2.2; omega
      · intro e; exact absurd hm (hk.mp (e i (Nat.lt_succ_self i)))
    · rw [if_neg hm]
      have e : ((rowOf t i).take (posOf (rowOf t i) (lps (t.take (i + 1)))) ++ lps (t.take (i + 1)) :: (rowOf t i).drop (posOf (rowOf t i) (lps (t.take (i + 1))))).length = (rowOf t i).length + 1 := by
        have h2 := pos_le (rowOf t i) (lps (t.take (i + 1)))
        simp only [List.length_append, List.length_take, List.length_cons, List.length_drop]
        omega
      rw [e]
      constructor
      · intro e2 j hj
        rcases Nat.lt_or_ge j i with q | q
        · exact ih.mp (by omega) j q
        · obtain rfl : j = i := by omega
          exact hk.mpr hm
      · intro e2
        rw [ih.mpr fun j hj => e2 j (by omega)]
/-- two sorted rows of the same words are one -/
theorem sorted_one : ∀ {r q : List (List Nat)}, r.Pairwise (· < ·) → q.Pairwise (· < ·) → (∀ u, u ∈ r ↔ u ∈ q) → r = q
  | [], [], _, _, _ => rfl
  | [], b :: q, _, _, h => absurd ((h b).mpr List.mem_cons_self) (by simp)
  | a :: r, [], _, _, h => absurd ((h a).mp List.mem_cons_self) (by simp)
  | a :: r, b :: q, hr, hq, h => by
    obtain ⟨h1, h2⟩ := List.pairwise_cons.mp hr
    obtain ⟨h3, h4⟩ := List.pairwise_cons.mp hq
    have e : a = b := by
      rcases List.mem_cons.mp ((h a).mp List.mem_cons_self) with e | e
      · exact e
      · rcases List.mem_cons.mp ((h b).mpr List.mem_cons_self) with e2 | e2
        · exact e2.symm
        · exact absurd (List.lt_trans (h1 b e2) (h3 a e)) (List.lt_irrefl _)
    subst e
    congr 1
    refine sorted_one h2 h4 fun u => ?_
    constructor
    · intro hu
      rcases List.mem_cons.mp ((h u).mp (List.mem_cons_of_mem _ hu)) with e | e
      · rw [e] at hu; exact absurd (h1 a hu) (List.lt_irrefl _)
      · exact e
    · intro hu
      rcases List.mem_cons.mp ((h u).mpr (List.mem_cons_of_mem _ hu)) with e | e
      · rw [e] at hu; exact absurd (h3 a hu) (List.lt_irrefl _)
      · exact e
/-- the law: as many as letters just if each return reads the same from behind -/
theorem rich {t : List Nat} {r : List (List Nat)} (h : rowOK t t.length r) :
    (∀ w, w ∈ r → ∀ a, a < t.length → (t.drop a).take w.length = w → isPal (retOf t a w) = true) ↔ r.length = t.length := by
  have ok := rowOf_ok t t.length (Nat.le_refl _)
  have e : r = rowOf t t.length := sorted_one h.1 ok.1 fun u => (h.2.1 u).trans (ok.2.1 u).symm
  rw [e, rowOf_len t t.length (Nat.le_refl _), ← e]
  constructor
  · intro H
    refine new_of fun w h1 h2 h3 => H w ((h.2.1 w).mpr ⟨h1, h2, by rw [List.take_length]; exact h3⟩)
  · intro hn w hw a ha hat
    obtain ⟨h1, h2, _⟩ := (h.2.1 w).mp hw
    exact rets_pal hn h1 h2 ha hat
end Mine

-- part Plain5
set_option Elab.async false
set_option maxRecDepth 100000
set_option linter.unusedVariables false
namespace Mine
/-- the place where the search ends -/
def retN (t : List Nat) (a : Nat) (w : List Nat) : Nat := (retK t a w).getD (t.length - a)
theorem retN_le (t : List Nat) (a : Nat) (w : List Nat) : retN t a w ≤ t.length - a := by
  unfold retN
  cases h : retK t a w with
  | none => exact Nat.le_refl _
  | some k => exact Nat.le_of_lt (retK_some h).1
theorem isIn_mono {w l : List Nat} {i j : Nat} (h : i ≤ j) (hi : isIn w (l.take i) = true) : isIn w (l.take j) = true := by
  rw [isIn, decide_eq_true_eq] at hi ⊢
  exact hi.trans (take_mono h).isInfix
theorem retN_lo {t w : List Nat} {a i : Nat} (hi : i < retN t a w) : isIn w ((t.drop (a + 1)).take i) = false := by
  unfold retN at hi
  cases h : retK t a w with
  | none =>
    rw [h] at hi
    have := retK_none h i hi
    simpa [isIn] using this
  | some k =>
    rw [h] at hi
    have := (retK_some h).2.2 i hi
    simpa [isIn] using this
theorem retN_hi {t w : List Nat} {a i : Nat} (hi : retN t a w ≤ i) (hl : i < t.length - a) : isIn w ((t.drop (a + 1)).take i) = true := by
  unfold retN at hi
  cases h : retK t a w with
  | none => rw [h] at hi; simp at hi; omega
  | some k =>
    rw [h] at hi
    have := (retK_some h).2.1
    exact isIn_mono hi (by rw [isIn, decide_eq_true_eq]; exact this)
theorem retOf_lt {t w : List Nat} {a : Nat} (h : retN t a w < t.length - a) : retOf t a w = (t.drop a).take (retN t a w + 1) := by
  unfold retN at h ⊢
  unfold retOf
  cases hk : retK t a w with
  | none => rw [hk] at h; exact absurd h (Nat.lt_irrefl _)
  | some k => rfl
theorem retOf_ge {t w : List Nat} {a : Nat} (h : ¬ retN t a w < t.length - a) : retOf t a w = [] := by
  unfold retN at h
  unfold retOf
  cases hk : retK t a w with
  | none => rfl
  | some k => rw [hk] at h; exact absurd (retK_some hk).1 h
end Mine

-- part EqS
set_option Elab.async false
set_option maxRecDepth 100000
set_option maxHeartbeats 800000
set_option linter.unusedVariables false
namespace Mine
open PySem PySem.W PyProof.Rows PySem.Spec PySem.Calls
def rowD (l : List (List Nat)) : List PyData := l.map fun u => PyData.str (S u)
theorem rowD_eq (l : List (List Nat)) : (l.map S).map PyData.str = rowD l := by unfold rowD; rw [List.map_map]; rfl
def lowOk (l : List (List Nat)) : Prop := ∀ u ∈ l, ∀ c ∈ u, c < 256
theorem str_ok {u : List Nat} (h : ∀ c ∈ u, c < 256) : PyData.strOk (S u) = true := by
  unfold PyData.strOk S
  simp only [List.all_toArray, List.all_eq_true, decide_eq_true_eq]
  intro c hc
  exact Nat.lt_trans (h c hc) (by decide)
theorem lay_rowD : ∀ {l : List (List Nat)}, lowOk l → PyData.canLayAll0 (rowD l) = true ∧ PyData.depthAll (rowD l) = 0
  | [], _ => ⟨rfl, rfl⟩
  | u :: r, h => by
    obtain ⟨h1, h2⟩ := lay_rowD (l := r) fun x hx => h x (List.mem_cons_of_mem _ hx)
    have h3 := str_ok (h u List.mem_cons_self)
    unfold rowD at h1 h2 ⊢
    simp only [List.map_cons, PyData.canLayAll0, PyData.canLay0, PyData.depthAll, PyData.depth, h1, h2, h3]
    exact ⟨rfl, rfl⟩
theorem same_rowD : ∀ l q : List (List Nat), PySem.Spec.sameAll (rowD l) (rowD q) = decide (l = q)
  | [], [] => by simp [rowD, PySem.Spec.sameAll]
  | [], _ :: _ => by simp [rowD, PySem.Spec.sameAll]
  | _ :: _, [] => by simp [rowD, PySem.Spec.sameAll]
  | a :: r, b :: t => by
    have ih := same_rowD r t
    unfold rowD at ih ⊢
    simp only [List.map_cons, PySem.Spec.sameAll, PySem.Spec.same, ih]
    by_cases h : a = b
    · subst h; simp
    · have : S a ≠ S b := fun e => h (S_inj e)
      simp [h, this]
theorem shaped_rowD {l : List (List Nat)} (h : lowOk l) : SeqAt.shaped (.list (rowD l)) = true := by
  obtain ⟨h1, h2⟩ := lay_rowD h
  simp [SeqAt.shaped, PyData.canLay0, PyData.depth, h1, h2]
section
variable {prog : Program} {w : World} {A : Around} {E : Value → Shared → Prop} {s : Shared} {a b : Addr} {xs ys : Array Value} {l q : List (List Nat)} {Q : Value → Shared → Prop}
theorem eq_rows {xs ys : List Value} (ha : s.heap.IsList a xs.toArray) (hb : s.heap.IsList b ys.toArray) (hi : StrsAre xs (l.map S)) (hj : StrsAre ys (q.map S)) (hl : lowOk l) (hq : lowOk q) (hu : A.units + 64 < cLine) (h : Q (.bool (decide (l = q))) s) :
    wpAny (model prog w) A (compareOp .Eq (.ref a) (.ref b)) Q E s := by
  have ci := hi.carried
  have cj := hj.carried
  rw [rowD_eq] at ci cj
  refine eq_dataH_same (reads_newData ha ci) (reads_newData hb cj) (shaped_rowD hl) (shaped_rowD hq) hu (SeqAt.noMix_of_shape (.list .str) rfl _ _ (list_map_has fun _ => rfl) (list_map_has fun _ => rfl)) ?_
  rw [show PySem.Spec.same (.list (rowD l)) (.list (rowD q)) = decide (l = q) by simp only [PySem.Spec.same]; exact same_rowD l q]
  exact h
theorem ne_rows {xs ys : List Value} (ha : s.heap.IsList a xs.toArray) (hb : s.heap.IsList b ys.toArray) (hi : StrsAre xs (l.map S)) (hj : StrsAre ys (q.map S)) (hl : lowOk l) (hq : lowOk q) (hu : A.units + 64 < cLine) (h : Q (.bool (!decide (l = q))) s) :
    wpAny (model prog w) A (compareOp .NotEq (.ref a) (.ref b)) Q E s := by
  have ci := hi.carried
  have cj := hj.carried
  rw [rowD_eq] at ci cj
  refine ne_dataH_same (reads_newData ha ci) (reads_newData hb cj) (shaped_rowD hl) (shaped_rowD hq) hu (SeqAt.noMix_of_shape (.list .str) rfl _ _ (list_map_has fun _ => rfl) (list_map_has fun _ => rfl)) ?_
  rw [show PySem.Spec.same (.list (rowD l)) (.list (rowD q)) = decide (l = q) by simp only [PySem.Spec.same]; exact same_rowD l q]
  exact h
end
end Mine

-- part Plain6
set_option Elab.async false
set_option maxRecDepth 100000
set_option linter.unusedVariables false
namespace Mine
open PySem PySem.W PyProof.Rows
/-- the factors of t that start at a, up to the k-th -/
def partsFrom (t : List Nat) (a k : Nat) : List (List Nat) := (List.range k).map fun j => (t.drop a).take (j + 1)
def partsOf (t : List Nat) (i : Nat) : List (List Nat) := (List.range i).flatMap fun a => partsFrom t a (t.length - a)
theorem parts_len (t : List Nat) : ∀ i, i ≤ 9 → t.length ≤ 9 → (partsOf t i).length ≤ 9 * i := by
  intro i
  induction i with
  | zero => intro _ _; simp [partsOf]
  | succ i ih =>
    intro h1 h2
    have e : partsOf t (i + 1) = partsOf t i ++ partsFrom t i (t.length - i) := by
      unfold partsOf; rw [List.range_succ, List.flatMap_append]; simp
    rw [e, List.length_append]
    have := ih (by omega) h2
    have h3 : (partsFrom t i (t.length - i)).length = t.length - i := by simp [partsFrom]
    omega
theorem parts_mem {t u : List Nat} : u ∈ partsOf t t.length ↔ u ≠ [] ∧ u <:+: t := by
  unfold partsOf partsFrom
  simp only [List.mem_flatMap, List.mem_range, List.mem_map]
  constructor
  · rintro ⟨a, ha, j, hj, rfl⟩
    refine ⟨fun e => ?_, (List.take_prefix _ _).isInfix.trans (List.drop_suffix _ _).isInfix⟩
    have := congrArg List.length e
    rw [List.length_take, List.length_drop] at this
    simp only [List.length_nil] at this
    omega
  · rintro ⟨hn, hi⟩
    obtain ⟨i, h1, h2⟩ := isIn_iff.mp (show isIn u t = true by simpa [isIn] using hi)
    have hl : 0 < u.length := List.length_pos_iff.mpr hn
    exact ⟨i, by omega, u.length - 1, by omega, by rw [Nat.sub_add_cancel hl]; exact h2⟩
def palsOf (t : List Nat) : List (List Nat) := (partsOf t t.length).filter isPal
theorem pals_mem {t : List Nat} {r : List (List Nat)} (h : rowOK t t.length r) (u : List Nat) : u ∈ palsOf t ↔ u ∈ r := by
  unfold palsOf
  rw [List.mem_filter, parts_mem, h.2.1, List.take_length]
  exact ⟨fun q => ⟨q.1.1, q.2, q.1.2⟩, fun q => ⟨⟨q.1, q.2.2⟩, q.2.1⟩⟩
theorem pair_nodup {r : List (List Nat)} (h : r.Pairwise (· < ·)) : r.Nodup := h.imp fun {a b} q e => by subst e; exact List.lt_irrefl _ q
theorem S_nodup {r : List (List Nat)} (h : r.Nodup) : (r.map S).Nodup := by
  unfold List.Nodup at h ⊢
  rw [List.pairwise_map]
  exact h.imp fun q e => q (S_inj e)
theorem set_len {t : List Nat} {r : List (List Nat)} {us : List Str} (h : rowOK t t.length r) (hn : us.Nodup) (hm : ∀ y, y ∈ us ↔ y ∈ (palsOf t).map S) : us.length ≤ r.length := by
  have e : ∀ y, y ∈ us ↔ y ∈ r.map S := fun y => by
    rw [hm, List.mem_map, List.mem_map]
    exact ⟨fun ⟨u, hu, e⟩ => ⟨u, (pals_mem h u).mp hu, e⟩, fun ⟨u, hu, e⟩ => ⟨u, (pals_mem h u).mpr hu, e⟩⟩
  have := (List.perm_ext_iff_of_nodup hn (S_nodup (pair_nodup h.1))).mpr e
  rw [this.length_eq, List.length_map]
  exact Nat.le_refl _
theorem rising_all : ∀ {l : List Str} {p : Str}, risingS p l = true → ∀ x ∈ l, cl p ≤ cl x
  | [], _, _, _, h => nomatch h
  | y :: l, p, h, x, hx => by
    have h1 : (!PySem.Spec.ltCps y.cps.toList p.cps.toList && risingS y l) = true := h
    rw [Bool.and_eq_true] at h1
    have h2 : cl p ≤ cl y := by
      have h3 := h1.1
      rw [ltCps_eq] at h3
      refine List.not_lt.mp fun q => ?_
      rw [decide_eq_true (show y.cps.toList < p.cps.toList from q)] at h3
      cases h3
    rcases List.mem_cons.mp hx with rfl | hx
    · exact h2
    · exact List.le_trans h2 (rising_all h1.2 x hx)
theorem rising_sorted : ∀ {l : List Str} {p : Str}, risingS p l = true → sortedS l = true
  | [], _, _ => rfl
  | y :: l, p, h => by
    have h1 : (!PySem.Spec.ltCps y.cps.toList p.cps.toList && risingS y l) = true := h
    rw [Bool.and_eq_true] at h1
    exact h1.2
theorem sorted_pair : ∀ {l : List Str}, sortedS l = true → l.Pairwise fun a b => cl a ≤ cl b
  | [], _ => .nil
  | x :: l, h => List.pairwise_cons.mpr ⟨rising_all h, sorted_pair (rising_sorted (p := x) h)⟩
theorem pair_both {α : Type} {R T : α → α → Prop} {l : List α} (h1 : l.Pairwise R) (h2 : l.Pairwise T) : l.Pairwise fun a b => R a b ∧ T a b := by
  induction l with
  | nil => exact .nil
  | cons a l ih =>
    rw [List.pairwise_cons] at h1 h2 ⊢
    exact ⟨fun b hb => ⟨h1.1 b hb, h2.1 b hb⟩, ih h1.2 h2.2⟩
/-- the sorted list of the set of palindromes is the row -/
theorem row_eq {t : List Nat} {r : List (List Nat)} {us us' : List Str} (h : rowOK t t.length r) (hn : us.Nodup) (hm : ∀ y, y ∈ us ↔ y ∈ (palsOf t).map S) (hp : us'.Perm us) (hs : sortedS us' = true) : us' = r.map S := by
  have hn' : us'.Nodup := hp.nodup_iff.mpr hn
  have hlt : (us'.map cl).Pairwise (· < ·) := by
    rw [List.pairwise_map]
    refine (pair_both (sorted_pair hs) hn').imp fun {a b} q => ?_
    refine List.not_le.mp fun q2 => q.2 ?_
    have := List.le_antisymm q.1 q2
    rw [← S_cl a, ← S_cl b, this]
  have e : us'.map cl = r := sorted_one hlt h.1 fun u => by
    rw [← pals_mem h]
    constructor
    · intro hu
      obtain ⟨y, hy, rfl⟩ := List.mem_map.mp hu
      obtain ⟨v, hv, e⟩ := List.mem_map.mp ((hm y).mp (hp.mem_iff.mp hy))
      rw [← e, cl_S]; exact hv
    · intro hu
      have := hp.mem_iff.mpr ((hm (S u)).mpr (List.mem_map_of_mem hu))
      exact List.mem_map.mpr ⟨S u, this, cl_S u⟩
  rw [← e, List.map_map]
  conv => lhs; rw [← List.map_id us']
  exact List.map_congr_left fun y _ => (S_cl y).symm
end Mine

-- part Body10
set_option Elab.async false
set_option maxRecDepth 100000
set_option maxHeartbeats 8000000
set_option linter.unusedVariables false
namespace Mine
open PySem PySem.W PyProof.Rows PySem.Spec PySem.Calls
open PyProof.Rows.LCg (NsObj ns_obj lst lst_snoc Off3 Off1 CompEnd fr_but news_but SrcAt FinE FinA)
section
variable {w : World} {p : Program} {loose : List Str} {mean : ExcName → Option Value} {mg mb : Str → Option Value} {dp un : Nat} {gd : Option (List Code)} {outer : List Env} {A₀ : Around} {base h₀ : Heap} {L fa : Addr} {cd : Value} {s : Shared} {Q : Flow → Shared → Prop} {E : Value → Shared → Prop} {m : Str → Option Value} {news : List (Addr × Obj)}
theorem st_parts (B : Below A₀ base outer h₀) (X : (heapK w.params).In h₀) (T : Top p loose mean mg mb h₀) (hd : dp + 20 < recursionLimit) (hu : un + 160 < cLine)
    {t : List Nat} {tt : Tok} (hlen : t.length ≤ 9) {oT : Obj} (hT : oT.data = .cell (some (.str (S t) tt))) (hoff : ∀ p ∈ news, p.1 ≠ L + 1)
    (F : Fr h₀ L s.heap m) (N : News h₀ L s.heap ((L + 1, oT) :: news))
    (next : ∀ D ys h' tk', StrsAre ys ((partsOf t t.length).map S) → Fr h₀ L h' (fun z => if z = Str.ofString "parts" then some (.ref D) else m z) → News h₀ L h' ((D, lst ys) :: (L + 1, oT) :: news) → Off1 D ((L + 1, oT) :: news) → Q .next { s with heap := h', toks := tk' }) :
    wpAny (model PySem.Challenge.rw_re0157_01.row.prog w) (lawA dp un gd L fa cd outer) (exec (lawB.getD 9 (.Pass ⟨0, 0, 0, 0⟩)) (lawE L fa cd)) Q E s := by
  show wpAny _ _ (exec (.Assign [.Name _ _] (.ListComp _ (⟨.Name _ _, _, _, 0⟩ :: _) _ _) _) _) _ _ _
  revert X
  k_fill
  intro X
  have hll : (S t).length ≤ 9 := by rw [S_len]; exact hlen
  refine assign_comp (h₀ := h₀) (L := L) (m := m) (cl := [(Str.ofString "text", L + 1)]) rfl (by with_unfolding_all rfl) (by with_unfolding_all rfl) (by decide) rfl (by decide) rfl rfl rfl ?_
  k_steps
  (with_reducible rename IsRange _ _ _ _ _ _ _ _ => hr)
  (with_reducible rename Fr _ _ _ _ => F1)
  (with_reducible rename News _ _ _ _ => N1)
  rw [S_len] at hr
  have hn : Builtin.Range.rangeSize 0 (t.length : Int) 1 = ((t.length : Nat) : Int) := by rw [rangeSize_one]; split <;> omega
  refine run_range (fun _ _ _ _ => rule_outer (by intro _; rfl)) rfl F1 N1 hr (small_one (by decide) (by decide) (by omega) (by omega)) hn (fun i ys nw => StrsAre ys ((partsOf t i).map S) ∧ nw = (L + 1, oT) :: news) (fun z => z == Str.ofString "a" || z == Str.ofString "b") (by simp) ⟨.nil, rfl⟩ ?_ ?_
  · rintro I C D' R i v ys nw oI oC m₂ h tk Post hi ⟨ti, rfl⟩ ⟨hys, rfl⟩ hNs hx hz F2 N2 off hS ne post
    unfold BOuter
    k_steps
    (with_reducible rename IsRange _ _ _ _ _ _ _ _ => hr3)
    (with_reducible rename Fr _ _ _ _ => F3)
    (with_reducible rename News _ _ _ _ => N3)
    rw [S_len] at hr3
    have hn3 : Builtin.Range.rangeSize (0 + (i : Int) + 1) ((t.length : Int) + 1) 1 = ((t.length - i : Nat) : Int) := by rw [rangeSize_one]; split <;> omega
    refine inner_range (s := { s with heap := h, toks := tk }) (m₂ := m₂) (mC := fun _ => none) (ns := fun z => z == Str.ofString "a" || z == Str.ofString "b") (S := fun _ => True) rfl hr3 (small_one (by omega) (by omega) (by omega) (by omega)) hn3 rfl (by rfl) F3 N3 List.mem_cons_self (List.mem_cons_of_mem _ List.mem_cons_self) (List.mem_cons_of_mem _ (List.mem_cons_of_mem _ List.mem_cons_self)) (fun p hp => List.mem_cons_of_mem _ (List.mem_cons_of_mem _ (List.mem_cons_of_mem _ hp))) off ne trivial hNs (fun z hz' => hz z (by rintro rfl; simp at hz') hz') (by simp)
      (fun k ys' nw => StrsAre ys' ((partsOf t i ++ partsFrom t i k).map S) ∧ nw = (L + 1, oT) :: news) ⟨by simpa [partsFrom] using hys, rfl⟩ ?_ ?_
    · rintro R2 k v2 ys' nw2 I2 oI2 oC' m₃ h5 tk5 Post' hk2 ⟨t2, rfl⟩ ⟨hys', rfl⟩ hNs3 hx3 hz3 F5 N5 off5 off6 hS5 ne5 post5
      have hxa : m₃ (Str.ofString "a") = some (.int (0 + (i : Int)) ti) := by rw [hz3 _ (by decide)]; exact hx
      unfold BLast
      refine wpAny_tests_nil ?_
      rw [if_pos rfl]
      k_steps
      have hcut : Txt.slice (S t) (some (0 + (i : Int))) (some (0 + (i : Int) + 1 + (k : Int))) = S ((t.drop i).take (k + 1)) := by
        rw [slice_mid (by omega) (by omega) (by rw [S_len]; omega), cl_S, show (0 + (i : Int)).toNat = i by omega, show (0 + (i : Int) + 1 + (k : Int) - (0 + (i : Int))).toNat = k + 1 by omega]
      rw [hcut]
      have hl1 : (partsOf t i ++ partsFrom t i k).length ≤ 200 := by
        rw [List.length_append]
        have h1 := parts_len t i (by omega) hlen
        have h2 : (partsFrom t i k).length = k := by simp [partsFrom]
        omega
      refine app_end (s := { s with heap := h5, toks := tk5 }) (by assumption) (by assumption) List.mem_cons_self (List.mem_cons_of_mem _ List.mem_cons_self) (List.mem_cons_of_mem _ (List.mem_cons_of_mem _ List.mem_cons_self)) (fun p hp => List.mem_cons_of_mem _ (List.mem_cons_of_mem _ (List.mem_cons_of_mem _ hp))) off5 ne5 ⟨_, rfl, trivial, off6⟩ hNs3 (fun z hz' => hz3 z (by simpa using hz')) (by rw [hys'.length, List.length_map]; omega) ⟨_, rfl, ?_, rfl⟩ post5
      have e : partsOf t i ++ partsFrom t i (k + 1) = (partsOf t i ++ partsFrom t i k) ++ [(t.drop i).take (k + 1)] := by
        rw [List.append_assoc]; unfold partsFrom; rw [List.range_succ, List.map_append]; rfl
      rw [e, List.map_append]
      exact hys'.append' (strs_one _ _)
    · rintro s₃ ⟨h7, tk7, ys7, nw7, oC7, m7, e7, F7, N7, ns7, hm7, off7, hS7, hys7, rfl⟩
      refine post s₃ ⟨h7, tk7, ys7, _, oC7, m7, e7, F7, N7, ns7, hm7, off7, hS7, ?_, rfl⟩
      have e : partsOf t (i + 1) = partsOf t i ++ partsFrom t i (t.length - i) := by
        unfold partsOf; rw [List.range_succ, List.flatMap_append]; simp
      rw [e]; exact hys7
  · rintro g ys nw ⟨hys, rfl⟩
    intro D' h tk F1 N1 off
    exact next D' ys h tk hys F1 N1 off
end
end Mine

-- part WT
set_option Elab.async false
set_option maxRecDepth 100000
set_option maxHeartbeats 8000000
set_option linter.unusedVariables false
namespace Mine
open PySem PySem.W PyProof.Rows PySem.Spec PySem.Calls
abbrev SpecM (w : World) (lv : Nat) (f : Addr) (led : List (Addr × Obj)) (vs : List Value) (kw : List (Str × Value)) (R : Tok → Value) : Prop :=
  ∀ (p : Program) (loose : List Str) (mean : ExcName → Option Value) (mg mb : Str → Option Value) (dp un : Nat) (gd : Option (List Code)) (cn : Str) (cs : Scope) (a : Addr) (ccd : Value) (cl' : List (Str × Addr)) (outer : List Env) (A₀ : Around) (base h₀ : Heap) (L : Addr) (m : Str → Option Value) (news : List (Addr × Obj)) (s : Shared) (Q E : Value → Shared → Prop),
    Below A₀ base outer h₀ → Fr h₀ L s.heap m → (heapK w.params).In h₀ → News h₀ L s.heap news → Top p loose mean mg mb h₀ → cs.kind = .function → dp + lv < recursionLimit → un + 8 * lv < cLine → (∀ q ∈ led, q ∈ news) → Ret h₀ L m news s Q R →
      wpAny (model PySem.Challenge.rw_re0157_01.row.prog w) (ktrTop dp un gd cn cs L a ccd cl' outer) (call (.ref f) vs kw) Q E s
theorem SpecM.use {w : World} {lv : Nat} {f : Addr} {led : List (Addr × Obj)} {vs : List Value} {kw : List (Str × Value)} {R : Tok → Value} {p : Program} {loose : List Str} {mean : ExcName → Option Value} {mg mb : Str → Option Value} {dp un : Nat} {gd : Option (List Code)} {cn : Str} {cs : Scope} {a : Addr} {ccd : Value} {cl' : List (Str × Addr)} {outer : List Env} {A₀ : Around} {base h₀ : Heap} {L : Addr} {m : Str → Option Value} {news : List (Addr × Obj)} {s : Shared} {Q E : Value → Shared → Prop}
    (C : SpecM w lv f led vs kw R) (B : Below A₀ base outer h₀) (F : Fr h₀ L s.heap m) (X : (heapK w.params).In h₀) (N : News h₀ L s.heap news) (T : Top p loose mean mg mb h₀) (hk : cs.kind = .function) (hd : dp + lv < recursionLimit) (hu : un + 8 * lv < cLine) (hled : ∀ q ∈ led, q ∈ news) (ret : Ret h₀ L m news s Q R) :
    wpAny (model PySem.Challenge.rw_re0157_01.row.prog w) (ktrTop dp un gd cn cs L a ccd cl' outer) (call (.ref f) vs kw) Q E s := C p loose mean mg mb dp un gd cn cs a ccd cl' outer A₀ base h₀ L m news s Q E B F X N T hk hd hu hled ret
section
variable {prog : Program} {w : World} {A : Around} {E : Value → Shared → Prop} {s : Shared}
theorem item_ints {value slice : PySem.Expr} {l : Addr} {vs : List Value} {ys : List Int} {k : Int} {u : Tok} {Q : Value → Shared → Prop} (hl : s.heap.IsList l vs.toArray) (hi : IntsAre vs ys)
    (h0 : 0 ≤ k) (hk : k < ys.length ∧ ys.length ≤ 100) (h : ∀ t, Q (.int (ys.getD k.toNat 0) t) s)
    (hs : subscripted slice false (.ref l) (.int k u) = operate [.ref l, .int k u] (getItem (.ref l) (.int k u)) := by with_unfolding_all rfl) :
    wpAny (model prog w) A (subscriptTail value slice (.ref l) (.int k u)) Q E s := by
  have hlt : k.toNat < ys.length := by omega
  obtain ⟨t, hx⟩ := hi.get k.toNat ys[k.toNat] (by simp [hlt])
  refine item_listR hl h0 (by omega) (by simpa using hx) ?_ hs
  have := h t
  rwa [List.getD_eq_getElem?_getD, List.getElem?_eq_getElem hlt] at this
end
local macro_rules | `(tactic| walk_at "WhlIf") => `(tactic| (refine whlIf_cases (fun hc9 => ?_) (fun hc9 => ?_)))
theorem getD_mem {es : List Int} {k : Nat} (h : k < es.length) : es.getD k 0 ∈ es := by
  rw [List.getD_eq_getElem?_getD, List.getElem?_eq_getElem h]; exact List.getElem_mem h
theorem b2i_yes {b : Bool} (h : b2i false < b2i b) : b = true := by cases b with
  | true => rfl
  | false => exact absurd h (by decide)
theorem b2i_no {b : Bool} (h : ¬ b2i false < b2i b) : b = false := by cases b with
  | true => exact absurd (by decide) h
  | false => rfl
/-- a key's contract, for the ints that stand in the list -/
def KeyOk (w : World) (fk : Addr) (led : List (Addr × Obj)) (es : List Int) (g : Int → Bool) : Prop := ∀ e te, e ∈ es → SpecM w 5 fk led [.int e te] [] (fun _ => .bool (g e))
local macro_rules | `(tactic| walk_at "FnAt") => `(tactic| (k_dflt (exact FnAt.of (by k_asm) (by k_mem))))
local macro_rules | `(tactic| walk_at "callWith ref") => `(tactic| (k_here; k_dflt (first
  | (refine' callWith_F ?k1 ?_; (case k1 => exact FnAt.of (by k_asm) (by k_mem)); k_whole))))
local macro_rules | `(tactic| walk_at "call ref") => `(tactic| (k_here; (with_reducible show wpAny _ _ (call (Value.ref _) [Value.int _ _]) _ _ _); (with_reducible rename KeyOk _ _ _ _ _ => hg9); k_dflt (refine SpecM.use (hg9 _ _ (by first | assumption | exact getD_mem (by omega))) (by k_asm) (by k_asm) (by k_asm) (by k_asm) (by k_asm) (by first | exact rfl | assumption) (by ktr_room) (by ktr_units) (by intro q9 hq9; first | exact List.mem_cons_of_mem _ (List.mem_cons_of_mem _ (by solve_by_elim)) | skip) ?_); intro t9 h9 tk9 F9 N9; (try dsimp only)))
theorem br_spec (w : World) (D fk : Addr) (led : List (Addr × Obj)) (vs : List Value) (es : List Int) (k : Nat) (g : Int → Bool) (hs : IntsAre vs es) (hr : es.length ≤ 100) (hD : (D, listOf vs.toArray k) ∈ led) {foc : Value} {fod : Option Addr} {ffd : FuncData} {fsl : Array (Option Value)} (hf : (fk, (⟨foc, fod, .func ffd, fsl⟩ : Obj)) ∈ led) (hg : KeyOk w fk led es g) (n : Nat) (hn : n ≤ es.length) (hlo : ∀ i, i < n → g (es.getD i 0) = false) (hhi : ∀ i, n ≤ i → i < es.length → g (es.getD i 0) = true) :
    SpecM w 7 23 led [.ref D, .bool false] [(Str.ofString "key", .ref fk)] (fun t => .int n t) := by
  unfold SpecM
  k_fill
  intro p loose mean mg mb dp un gd cn cs a ccd cl' outer A₀ base h₀ L m news s Q E B F X N T hk hd hu hled hret
  have hs2 : IntsAre vs es ∧ True := ⟨hs, trivial⟩
  have hvl : vs.length = es.length := hs.length
  have N0 : News h₀ L s.heap ((D, listOf vs.toArray k) :: (fk, (⟨foc, fod, .func ffd, fsl⟩ : Obj)) :: news) := fun p hp => by
    rcases List.mem_cons.mp hp with rfl | hp
    · exact N _ (hled _ hD)
    · rcases List.mem_cons.mp hp with rfl | hp
      · exact N _ (hled _ hf)
      · exact N _ hp
  clear N
  refine wpAny_call ?_
  k_dflt (refine' code_def ?k1 ?k2 ?k3 ?k4 ?k5 ?kA ?kF ?kK ?k6 ?k7 ?k8 ?k9 ?kB ?_ ?c2 ?c3 ?c4 ?c5; (case kA => exact rfl); (case kF => exact rfl); (case kK => assumption); (case k1 => k_asm); (case k2 => k_asm); (case k3 => k_asm); (case k4 => k_asm); (case k5 => k_asm); (case k6 => k_is); (case k7 => k_is); (case k8 => ktr_room); (case k9 => exact br_binds (by k_in) _ _ _); (case c5 => decide); (case kB => exact locs rfl); (case c2 => exact rfl); (case c3 => exact rfl); (case c4 => exact rfl); k_whole; intro g' L' h' FG' F' N' B' X' T'; (try dsimp only); (try k_lift B'); (try k_fold))
  generalize hW1 : Stmt.While _ _ _ _ = W1
  rw [park_while]
  k_steps
  rw [← park_while]
  (with_reducible rename Fr _ _ _ _ => F1)
  (with_reducible rename News _ _ _ _ => N1)
  refine while2 (Str.ofString "lo") (Str.ofString "hi") (Str.ofString "mid") (fun lo hi => 0 ≤ lo ∧ lo ≤ n ∧ n ≤ hi ∧ hi ≤ es.length) (fun lo hi => (hi - lo).toNat) (by passes_own) F1 rfl rfl N1 ⟨by decide, by omega, by omega, by omega⟩ ?_
  intro lo hi t u v h tk ⟨hj0, hj1, hj2, hj3⟩ F2 N2
  have hm : (lo + hi).fdiv 2 = (lo + hi) / 2 := Int.fdiv_eq_ediv_of_nonneg _ (by decide)
  k_steps
  · have hled2 : ∀ q ∈ led, q ∈ (D, listOf vs.toArray k) :: (fk, (⟨foc, fod, .func ffd, fsl⟩ : Obj)) :: news := fun q hq => List.mem_cons_of_mem _ (List.mem_cons_of_mem _ (hled q hq))
    have hc : decide (lo < hi) = true := by assumption
    have hlt : lo < hi := of_decide_eq_true hc
    refine SpecM.use (hg _ _ (getD_mem (by omega))) (by k_asm) (by k_asm) (by k_asm) (by k_asm) (by k_asm) (by first | exact rfl | assumption) (by ktr_room) (by ktr_units) hled2 ?_
    intro t9 h9 tk9 F9 N9
    dsimp only
    k_steps
    · have hq0 : b2i false < b2i (g (es.getD ((lo + hi).fdiv 2).toNat 0)) := by assumption
      have hq : g (es.getD ((lo + hi).fdiv 2).toNat 0) = true := b2i_yes hq0
      have hmn : n ≤ (lo + hi).fdiv 2 := by
        rcases Int.lt_or_le ((lo + hi).fdiv 2) n with q | q
        · rw [hlo _ (by omega)] at hq; cases hq
        · exact q
      refine WE2.intro (by assumption) (by assumption) (fun _ h => h) rfl rfl ?_ ⟨by omega, by omega, by omega, by omega⟩ (by omega)
      intro z h1 h2 h3
      dsimp only
      simp only [if_neg h1, if_neg h2, if_neg h3]
    · have hq0 : ¬ b2i false < b2i (g (es.getD ((lo + hi).fdiv 2).toNat 0)) := by assumption
      have hq : g (es.getD ((lo + hi).fdiv 2).toNat 0) = false := b2i_no hq0
      have hmn : (lo + hi).fdiv 2 < n := by
        rcases Int.lt_or_le ((lo + hi).fdiv 2) n with q | q
        · exact q
        · rw [hhi _ (by omega) (by omega)] at hq; cases hq
      refine WE2.intro (by assumption) (by assumption) (fun _ h => h) rfl rfl ?_ ⟨by omega, by omega, by omega, by omega⟩ (by omega)
      intro z h1 h2 h3
      dsimp only
      simp only [if_neg h1, if_neg h2, if_neg h3]
  · have hc : decide (lo < hi) = false := by assumption
    have hlt : ¬ lo < hi := of_decide_eq_false hc
    exact end_int hret (by assumption) (by assumption) (fun p hp => List.mem_cons_of_mem _ (List.mem_cons_of_mem _ hp)) (by omega)
end Mine

-- part WU
set_option Elab.async false
set_option maxRecDepth 100000
set_option maxHeartbeats 600000
set_option linter.unusedVariables false
namespace Mine
open PySem PySem.W PyProof.Rows PySem.Spec PySem.Calls
def lamE : PySem.Expr := match fBod (stA 18) with
  | .stmts (_ :: .Assign _ (.Call _ _ (k :: _) _) _ :: _) => k.value
  | _ => .Constant .none 0 ⟨0,0,0,0⟩
def lamSc : Scope := match lamE with
  | .Lambda _ _ s _ => s
  | _ => { kind := .function, names := [], isGenerator := false, isCoroutine := false }
def lamPar : Arguments := match lamE with
  | .Lambda p _ _ _ => p
  | _ => ⟨[], [], none, [], [], none, []⟩
def lamBod : PySem.Expr := match lamE with
  | .Lambda _ b _ _ => b
  | _ => .Constant .none 0 ⟨0,0,0,0⟩
def lamQ : Str := Str.ofString "_law_return" ++ ".<locals>." ++ Str.ofString "<lambda>"
abbrev lamCl (L : Addr) : List (Str × Addr) := [(Str.ofString "word", L + 1 + 1 + 1), (Str.ofString "text", L + 1), (Str.ofString "a", L + 1 + 1)]
abbrev lamO (L : Addr) (pm : Value) (c' : Addr) (ctv : Value) : Obj := kla_obj (Str.ofString "<lambda>") lamQ lamPar lamBod lamSc (lamCl L) pm c' ctv
theorem dots_cat2 (b : List Nat) : Str.ofString "..." ++ S b ++ Str.ofString "..." = S (dots ++ b ++ dots) := by rw [dots_eq, S_app, S_app]
local macro_rules | `(tactic| walk_at "eval Name") => `(tactic| (k_here; (with_reducible show wpAny _ _ (PySem.eval (Expr.Name _ _) (envX _ _ _ _ _ _)) _ _ _); k_dflt (refine' nameX_F ?N ?c ?m ?d ?_ ?a ?b; (case a => rfl); (case b => rfl); (case N => k_asm); (case c => rfl); (case m => k_mem); (case d => k_asm); k_whole)))
theorem key_spec (w : World) (f L1 c' : Addr) (led : List (Addr × Obj)) (pm ctv : Value) (oc o1 o2 o3 : Obj) (fv : Array Value) (tq tx ty ta : Tok) (x : Str) (wd : List Nat) (a0 : Int) (h46 : 46 ∉ wd) (hne : wd ≠ []) (hlo : ∀ c ∈ wd, c < 256) (hx : x.length ≤ 9) (hy : wd.length ≤ 9) (h0 : 0 ≤ a0) (h1 : a0 < x.length)
    (d1 : oc.data = .fields fv) (d2 : fv[1]? = some (.str lamQ tq)) (e1 : o1.data = .cell (some (.str (S wd) ty))) (e2 : o2.data = .cell (some (.int a0 ta))) (e3 : o3.data = .cell (some (.str x tx)))
    (m1 : (f, lamO L1 pm c' ctv) ∈ led) (m2 : (c', oc) ∈ led) (m3 : (L1 + 1 + 1 + 1, o1) ∈ led) (m4 : (L1 + 1 + 1, o2) ∈ led) (m5 : (L1 + 1, o3) ∈ led) (e : Int) (te : Tok) (he0 : a0 + 1 ≤ e) (he1 : e ≤ x.length) :
    SpecM w 5 f led [.int e te] [] (fun _ => .bool (isIn wd (((cl x).drop (a0 + 1).toNat).take (e - (a0 + 1)).toNat))) := by
  unfold SpecM
  k_fill
  intro p loose mean mg mb dp un gd cn cs a ccd cl' outer A₀ base h₀ L m news s Q E B F X N T hk hd hu hled hret
  have N0 : News h₀ L s.heap ((f, lamO L1 pm c' ctv) :: (c', oc) :: (L1 + 1 + 1 + 1, o1) :: (L1 + 1 + 1, o2) :: (L1 + 1, o3) :: news) := fun p hp => by
    simp only [List.mem_cons] at hp
    rcases hp with rfl | rfl | rfl | rfl | rfl | hp
    · exact N _ (hled _ m1)
    · exact N _ (hled _ m2)
    · exact N _ (hled _ m3)
    · exact N _ (hled _ m4)
    · exact N _ (hled _ m5)
    · exact N _ hp
  clear N
  refine wpAny_call ?_
  k_dflt (refine' kla_code ?k1 ?k2 ?k3 ?k4 ?k5 ?kA ?kF ?kK ?k6 ?k7 ?k8 ?k9 ?kB ?_ ?c2 ?c3 ?c4 ?c5; (case kA => exact rfl); (case kF => exact rfl); (case kK => assumption); (case k1 => k_asm); (case k2 => k_asm); (case k3 => k_asm); (case k4 => k_asm); (case k5 => k_asm); (case k6 => k_mem); (case k7 => exact codeRec_news (by k_asm) (by k_mem) d1 d2); (case k8 => ktr_room); (case k9 => exact rfl); (case c5 => decide); (case kB => exact locs rfl); (case c2 => exact rfl); (case c3 => exact rfl); (case c4 => exact rfl); k_whole; intro g' L' h' FG' F' N' B' X' T'; (try dsimp only); (try k_lift B'); (try k_fold))
  have hwl : (S wd).length ≤ 9 := by rw [S_len]; exact hy
  have hsub : (x.length : Int) ≤ 9 := by omega
  show wpAny _ _ (PySem.eval (.Call _ _ _ _) _) _ _ _
  k_steps
  have hsl : Txt.slice x (some (a0 + 1)) (some e) = S (((cl x).drop (a0 + 1).toNat).take (e - (a0 + 1)).toNat) := slice_mid (by omega) he0 he1
  have hll : (((cl x).drop (a0 + 1).toNat).take (e - (a0 + 1)).toNat).length ≤ 9 := by
    rw [List.length_take, List.length_drop, cl_len]; omega
  rw [hsl, dots_cat2]
  have hE := ell_spec w wd h46 hne hlo (S (dots ++ wd ++ dots)) (S (((cl x).drop (a0 + 1).toNat).take (e - (a0 + 1)).toNat))
  refine Spec1.use (hE _ _ rfl (by rw [S_len]; simp only [List.length_append, dots, List.length_cons, List.length_nil]; omega) (by rw [S_len]; omega)) (by k_asm) (by k_asm) (by k_asm) (by k_asm) (by k_asm) (by first | exact rfl | assumption) (by ktr_room) (by ktr_units) ?_
  intro t9 h9 tk9 F9 N9
  dsimp only
  k_steps
  exact end_bool hret (by assumption) (by assumption) (fun p hp => by simp only [List.mem_append, List.mem_cons, hp, or_true]) (by rw [cl_S])
end Mine

-- part WV
set_option Elab.async false
set_option maxRecDepth 100000
set_option maxHeartbeats 8000000
set_option linter.unusedVariables false
namespace Mine
open PySem PySem.W PyProof.Rows PySem.Spec PySem.Calls
def lamPos : Pos := match lamE with
  | .Lambda _ _ _ p => p
  | _ => ⟨0, 0, 0, 0⟩
/-- the table of the codes made in _law_return: empty, or the lambda's code stands in it -/
inductive TabSt : List (Addr × Obj) → Prop
  | fresh : TabSt [(149, tabObj #[])]
  | full {c' : Addr} {oc : Obj} {fv : Array Value} {tq : Tok} : oc.data = .fields fv → fv[1]? = some (.str lamQ tq) → TabSt [(149, tabObj (#[] ++ #[rawInt lamPos.line, rawInt lamPos.col, .ref c'])), (c', oc)]
def TabNext (tb tb' : List (Addr × Obj)) (news : List (Addr × Obj)) : Prop := ∀ q ∈ tb', q.1 = (149 : Nat) ∨ q ∈ tb ∨ ∀ r ∈ news, r.1 < q.1
abbrev SpecR (w : World) (lv : Nat) (vs : List Value) (R : Tok → Value) : Prop :=
  ∀ (p : Program) (loose : List Str) (mean : ExcName → Option Value) (mg mb : Str → Option Value) (dp un : Nat) (gd : Option (List Code)) (cn : Str) (cs : Scope) (a : Addr) (ccd : Value) (cl' : List (Str × Addr)) (outer : List Env) (A₀ : Around) (base h₀ : Heap) (L : Addr) (m : Str → Option Value) (tb news : List (Addr × Obj)) (s : Shared) (Q E : Value → Shared → Prop),
    Below A₀ base outer h₀ → Fr h₀ L s.heap m → (heapK w.params).In h₀ → CodeHd base 153 149 → TabSt tb → News h₀ L s.heap (tb ++ news) → (∀ p ∈ news, p.1 ≠ (149 : Nat)) → Top p loose mean mg mb h₀ → cs.kind = .function → dp + lv < recursionLimit → un + 8 * lv < cLine →
      (∀ tb' t h' tk', TabSt tb' → TabNext tb tb' news → Fr h₀ L h' m → News h₀ L h' (tb' ++ news) → Q (R t) { s with heap := h', toks := tk' }) →
      wpAny (model PySem.Challenge.rw_re0157_01.row.prog w) (ktrTop dp un gd cn cs L a ccd cl' outer) (call (.ref 154) vs) Q E s
/-- the lambda made -/
inductive LamSrc (g : Heap) (L : Addr) (m : Str → Option Value) (tb news rest : List (Addr × Obj)) (s : Shared) : Value → Shared → Prop
  | mk {f c' : Addr} {oc : Obj} {fv : Array Value} {tq : Tok} {pm ctv : Value} {h' : Heap} {tk' : Nat} : oc.data = .fields fv → fv[1]? = some (.str lamQ tq) →
      TabNext tb [(149, tabObj (#[] ++ #[rawInt lamPos.line, rawInt lamPos.col, .ref c'])), (c', oc)] news → Fr g L h' m →
      News g L h' ((f, lamO L pm c' ctv) :: (c', oc) :: (rest ++ (149, tabObj (#[] ++ #[rawInt lamPos.line, rawInt lamPos.col, .ref c'])) :: news)) → LamSrc g L m tb news rest s (.ref f) { s with heap := h', toks := tk' }
theorem lam_via {M : Model} {A : Around} {x : Sem Value} {Q E : Value → Shared → Prop} {s : Shared} {g : Heap} {L : Addr} {m : Str → Option Value} {tb news : List (Addr × Obj)} {r1 r2 r3 r4 : Addr × Obj} (F : Fr g L s.heap m) (N : News g L s.heap (r1 :: r2 :: r3 :: r4 :: (tb ++ news)))
    (h1 : wpAny M A x (LamSrc g L m tb news [r1, r2, r3, r4] s) E s) (h2 : ∀ v s₁, LamSrc g L m tb news [r1, r2, r3, r4] s v s₁ → Q v s₁) : wpAny M A x Q E s := wpAny_mono h1 h2 fun _ _ e => e
theorem key_val {t wd : List Nat} {a0 i : Nat} (h : i < t.length - a0) : isIn wd (((cl (S t)).drop ((a0 : Int) + 1).toNat).take ((rangeKs ((a0 : Int) + 1) (t.length - a0)).getD i 0 - ((a0 : Int) + 1)).toNat) = isIn wd ((t.drop (a0 + 1)).take i) := by
  rw [kll_at h, cl_S, show ((a0 : Int) + 1).toNat = a0 + 1 by omega, show ((a0 : Int) + 1 + (i : Int) - ((a0 : Int) + 1)).toNat = i by omega]
theorem news_perm {h₀ h : Heap} {L : Addr} {f r1 r2 r3 r4 x y : Addr × Obj} {news : List (Addr × Obj)} (N : News h₀ L h (f :: r1 :: r2 :: r3 :: r4 :: x :: y :: news)) : News h₀ L h (f :: y :: r1 :: r2 :: r3 :: r4 :: x :: news) := fun p hp => N p (by
  simp only [List.mem_cons] at hp ⊢
  rcases hp with h | h | h | h | h | h | h | h <;> simp [h])
theorem ret_cut {t wd : List Nat} {a0 : Nat} (h1 : a0 < t.length) (h : retN t a0 wd < t.length - a0) : Txt.slice (S t) (some (a0 : Int)) (some ((rangeKs ((a0 : Int) + 1) (t.length - a0)).getD ((retN t a0 wd : Nat) : Int).toNat 0)) = S (retOf t a0 wd) := by
  rw [show ((retN t a0 wd : Nat) : Int).toNat = retN t a0 wd by omega, kll_at h, slice_mid (by omega) (by omega) (by rw [S_len]; omega), cl_S, retOf_lt h, show ((a0 : Int)).toNat = a0 by omega, show ((a0 : Int) + 1 + (retN t a0 wd : Int) - (a0 : Int)).toNat = retN t a0 wd + 1 by omega]
theorem tail_mem {p f c d r1 r2 r3 x : Addr × Obj} {news : List (Addr × Obj)} (hp : p ∈ [x, c] ++ news) : p ∈ f :: c :: d :: r1 :: r2 :: r3 :: x :: news := by
  simp only [List.mem_append, List.mem_cons, List.not_mem_nil, or_false] at hp ⊢
  rcases hp with (h | h) | h <;> simp [h]
theorem ne149a {n : Nat} (h : 149 < n) : n ≠ 149 := by omega
theorem ne149 (n k : Nat) (h : 149 < n) : n + k ≠ 149 := by omega
theorem ret_spec (w : World) (t wd : List Nat) (a0 : Nat) (tx ty ta : Tok) (h46 : 46 ∉ wd) (hne : wd ≠ []) (hlo : ∀ c ∈ wd, c < 256) (hx : t.length ≤ 9) (hy : wd.length ≤ 9) (h1 : a0 < t.length) : SpecR w 9 [.str (S t) tx, .int (a0 : Nat) ta, .str (S wd) ty] (fun u => .str (S (retOf t a0 wd)) u) := by
  unfold SpecR
  k_fill
  intro p loose mean mg mb dp un gd cn cs a ccd cl' outer A₀ base h₀ L m tb news s Q E B F X CH TB N hoff T hk hd hu hret
  refine wpAny_call ?_
  k_dflt (refine' code_defC ?k1 ?k2 ?k3 ?k4 ?k5 ?kA ?kF ?kK ?k6 ?k7 ?k8 ?k9 ?kB ?kD ?_ ?c2 ?c3 ?c4; (case kA => exact rfl); (case kF => exact rfl); (case kK => assumption); (case k1 => k_asm); (case k2 => k_asm); (case k3 => k_asm); (case k4 => k_asm); (case k5 => k_asm); (case k6 => k_is); (case k7 => k_is); (case k8 => ktr_room); (case k9 => exact BindsTo.of_eq rfl); (case kB => exact rfl); (case kD => decide +kernel); (case c2 => exact rfl); (case c3 => exact rfl); (case c4 => exact rfl); k_whole; intro g' L' h' tk' cells' FG' F' N' Y' B' X' T' l1; (try k_lt l1); k_cells Y'; (try simp only [List.cons_append, List.nil_append] at N'); (try dsimp only); (try k_lift B'); (try k_fold))
  have hxl : (S t).length ≤ 9 := by rw [S_len]; exact hx
  have hxl2 : (S t).length = t.length := S_len t
  k_steps
  (with_reducible rename Fr _ _ _ _ => F1)
  (with_reducible rename News _ _ _ _ => N1)
  (with_reducible rename IntsAre _ _ => I9)
  (with_reducible rename _ < _ ∧ _ => l9)
  have hn : (((S t).length : Int) + 1 - ((a0 : Int) + 1)).toNat = t.length - a0 := by omega
  rw [hn] at I9
  have CH2 := CodeHd.keeps CH (Below.stays B')
  refine lam_via F1 N1 ?_ (fun v s₁ hv => ?_)
  · refine kla_eval rfl ?_
    cases TB with
    | fresh =>
      simp only [List.cons_append, List.nil_append] at N1
      k_dflt (refine' kla_nest ?F ?N ?T ?C ?cd ?U ?t ?n ?cl ?_)
      case cd => exact rfl
      case F => k_asm
      case N => k_asm
      case T => k_asm
      case C => exact CH2
      case U =>
        have l149 : 149 < L' := l1 _ List.mem_cons_self
        refine .tail ?_ (.tail ?_ (.tail ?_ (.tail ?_ (.head hoff))))
        · exact ne149a (Nat.lt_trans (Nat.lt_succ_of_lt l149) l9.2.2.1)
        · exact ne149 L' 3 l149
        · exact ne149 L' 2 l149
        · exact ne149 L' 1 l149
      case t => kn_triples
      case n => kn_among
      case cl => exact rfl
      intro f' c' oc' vs' t' ct' h' tk' F' N' d1' d2' l1 l2
      refine .mk d1' d2' (fun q hq => ?_) F' N'
      rcases List.mem_cons.mp hq with rfl | hq
      · exact .inl rfl
      · obtain rfl := List.mem_singleton.mp hq
        exact .inr (.inr fun r hr => l1 r (by simp only [List.mem_cons, hr, or_true]))
    | full d1 d2 => 
      simp only [List.cons_append, List.nil_append] at N1
      k_dflt (refine' kla_hit ?F ?N ?T ?C ?cd ?mem ?t ?n ?cl ?_)
      case cd => exact rfl
      case F => k_asm
      case N => k_asm
      case T => k_asm
      case C => exact CH2
      case mem => k_mem
      case t => kn_triples
      case n => kn_hit
      case cl => exact rfl
      intro f' ct' h' tk' F' N' l1
      exact .mk d1 d2 (fun q hq => .inr (.inl hq)) F' (news_perm N')
  · obtain @⟨f, c', oc, fv, tq, pm, ctv, h2, tk2, d1, d2, hnx, F2, N2⟩ := hv
    simp only [List.cons_append, List.nil_append] at N2
    k_steps
    have hlen := rangeKs_length ((a0 : Int) + 1) (t.length - a0)
    refine SpecM.use (br_spec w _ f _ _ _ _ (fun e => isIn wd (((cl (S t)).drop ((a0 : Int) + 1).toNat).take (e - ((a0 : Int) + 1)).toNat)) I9 (by omega) (List.mem_cons_of_mem _ (List.mem_cons_of_mem _ List.mem_cons_self)) List.mem_cons_self ?hg (retN t a0 wd) (by rw [hlen]; exact retN_le _ _ _) ?hl ?hh) (by k_asm) F2 (by k_asm) N2 (by k_asm) (by first | exact rfl | assumption) (by ktr_room) (by ktr_units) (fun q hq => hq) ?_
    case hg =>
      intro e te he
      have hm := mem_rangeKs he
      refine key_spec w f _ c' _ pm ctv oc _ _ _ fv tq tx ty ta (S t) wd a0 h46 hne hlo hxl hy (by omega) (by omega) d1 d2 ?e1 ?e2 ?e3 List.mem_cons_self (List.mem_cons_of_mem _ List.mem_cons_self) (List.mem_cons_of_mem _ (List.mem_cons_of_mem _ (List.mem_cons_of_mem _ List.mem_cons_self))) (List.mem_cons_of_mem _ (List.mem_cons_of_mem _ (List.mem_cons_of_mem _ (List.mem_cons_of_mem _ List.mem_cons_self)))) (List.mem_cons_of_mem _ (List.mem_cons_of_mem _ (List.mem_cons_of_mem _ (List.mem_cons_of_mem _ (List.mem_cons_of_mem _ List.mem_cons_self))))) e te (by omega) (by omega)
      case e1 => with_unfolding_all assumption
      case e2 => with_unfolding_all assumption
      case e3 => with_unfolding_all assumption
    case hl =>
      intro i hi
      have := retN_le t a0 wd
      show isIn _ _ = false
      rw [key_val (by omega)]
      exact retN_lo hi
    case hh =>
      intro i hi hi2
      rw [hlen] at hi2
      show isIn _ _ = true
      rw [key_val hi2]
      exact retN_hi hi hi2
    intro t9 h9 tk9 F9 N9
    dsimp only
    k_steps
    · have hlt : ((retN t a0 wd : Nat) : Int) < (rangeKs ((a0 : Int) + 1) (t.length - a0)).length := by assumption
      (with_reducible rename Fr _ _ _ _ => F3)
      (with_reducible rename News _ _ _ _ => N3)
      rw [hlen] at hlt
      rw [ret_cut h1 (by omega)]
      exact hret _ _ _ _ (.full d1 d2) hnx F3 fun p hp => N3 p (tail_mem hp)
    · have hlt : ¬ ((retN t a0 wd : Nat) : Int) < (rangeKs ((a0 : Int) + 1) (t.length - a0)).length := by assumption
      (with_reducible rename Fr _ _ _ _ => F3)
      (with_reducible rename News _ _ _ _ => N3)
      rw [hlen] at hlt
      have e := retOf_ge (t := t) (w := wd) (a := a0) (by omega)
      rw [e] at hret
      exact hret _ _ _ _ (.full d1 d2) hnx F3 fun p hp => N3 p (tail_mem hp)
end Mine

-- part Body11
set_option Elab.async false
set_option maxRecDepth 100000
set_option maxHeartbeats 400000
set_option linter.unusedVariables false
namespace Mine
open PySem PySem.W PyProof.Rows PySem.Spec PySem.Calls
open PyProof.Rows.LCg (NsObj ns_obj lst lst_snoc Off3 Off1 CompEnd fr_but news_but SrcAt FinE FinA)
theorem SpecR.use {w : World} {lv : Nat} {vs : List Value} {R : Tok → Value} {p : Program} {loose : List Str} {mean : ExcName → Option Value} {mg mb : Str → Option Value} {dp un : Nat} {gd : Option (List Code)} {cn : Str} {cs : Scope} {a : Addr} {ccd : Value} {cl' : List (Str × Addr)} {outer : List Env} {A₀ : Around} {base h₀ : Heap} {L : Addr} {m : Str → Option Value} {tb news : List (Addr × Obj)} {s : Shared} {Q E : Value → Shared → Prop}
    (C : SpecR w lv vs R) (B : Below A₀ base outer h₀) (F : Fr h₀ L s.heap m) (X : (heapK w.params).In h₀) (CH : CodeHd base 153 149) (TB : TabSt tb) (N : News h₀ L s.heap (tb ++ news)) (hoff : ∀ p ∈ news, p.1 ≠ (149 : Nat)) (T : Top p loose mean mg mb h₀) (hk : cs.kind = .function) (hd : dp + lv < recursionLimit) (hu : un + 8 * lv < cLine)
    (ret : ∀ tb' t h' tk', TabSt tb' → TabNext tb tb' news → Fr h₀ L h' m → News h₀ L h' (tb' ++ news) → Q (R t) { s with heap := h', toks := tk' }) :
    wpAny (model PySem.Challenge.rw_re0157_01.row.prog w) (ktrTop dp un gd cn cs L a ccd cl' outer) (call (.ref 154) vs) Q E s := C p loose mean mg mb dp un gd cn cs a ccd cl' outer A₀ base h₀ L m tb news s Q E B F X CH TB N hoff T hk hd hu ret
theorem slice_clip {x : Str} {i j : Int} (h0 : 0 ≤ i) (h1 : i ≤ x.length) (h2 : i ≤ j) : Txt.slice x (some i) (some j) = S (((cl x).drop i.toNat).take (j - i).toNat) := by
  by_cases h : j ≤ x.length
  · exact slice_mid h0 h2 h
  · have e : Txt.slice x (some i) (some j) = Txt.slice x (some i) (some (x.length : Int)) := by
      unfold Txt.slice Builtin.Str.strSliceIndices sliceRange
      have e1 : max 0 (min j (x.length : Int)) = x.length := by omega
      have e2 : max 0 (min (x.length : Int) (x.length : Int)) = x.length := by omega
      have n1 : ¬ j < 0 := by omega
      have n2 : ¬ (x.length : Int) < 0 := by omega
      simp only [show (1 : Int) > 0 by decide, if_true, if_neg n1, if_neg n2, e1, e2]
    rw [e, slice_mid h0 h1 (Int.le_refl _), List.take_of_length_le (by rw [List.length_drop, cl_len]; omega), List.take_of_length_le (by rw [List.length_drop, cl_len]; omega)]
theorem tab_mem {tb : List (Addr × Obj)} (h : TabSt tb) : ∃ q ∈ tb, q.1 = (149 : Nat) := by
  cases h with
  | fresh => exact ⟨_, List.mem_cons_self, rfl⟩
  | full _ _ => exact ⟨_, List.mem_cons_self, rfl⟩
/-- the returns of one word at the places below k -/
def retsAt (t w : List Nat) (k : Nat) : List (List Nat) := ((List.range k).filter fun a => decide ((t.drop a).take w.length = w)).map fun a => retOf t a w
def retsOf (t : List Nat) (r : List (List Nat)) : List (List Nat) := r.flatMap fun w => retsAt t w t.length
theorem retsAt_len (t w : List Nat) (k : Nat) : (retsAt t w k).length ≤ k := by
  unfold retsAt
  rw [List.length_map]
  exact Nat.le_trans (List.length_filter_le _ _) (by simp)
theorem retsAt_yes {t w : List Nat} {k : Nat} (h : (t.drop k).take w.length = w) : retsAt t w (k + 1) = retsAt t w k ++ [retOf t k w] := by
  unfold retsAt
  rw [List.range_succ, List.filter_append, List.map_append, List.filter_cons, if_pos (decide_eq_true h)]; rfl
theorem retsAt_no {t w : List Nat} {k : Nat} (h : ¬ (t.drop k).take w.length = w) : retsAt t w (k + 1) = retsAt t w k := by
  unfold retsAt
  rw [List.range_succ, List.filter_append, List.map_append, List.filter_cons, if_neg (by simpa using h)]; simp
theorem retsOf_len (t : List Nat) : ∀ r : List (List Nat), (retsOf t r).length ≤ t.length * r.length
  | [] => by simp [retsOf]
  | w :: r => by
    have h1 := retsAt_len t w t.length
    have h2 := retsOf_len t r
    unfold retsOf at h2 ⊢
    rw [List.flatMap_cons, List.length_append, List.length_cons, Nat.mul_succ]
    omega
theorem off_tab {I C D : Addr} {oI oC oD : Obj} {x y : Addr × Obj} {tb tb' news base : List (Addr × Obj)} (TB : TabSt tb) (hn : TabNext tb tb' news) (hI : (I, oI) ∈ news) (hC : (C, oC) ∈ news) (hD : (D, oD) ∈ news) (off : Off3 I C D (x :: y :: (tb ++ base))) : Off3 I C D (x :: y :: (tb' ++ base)) := by
  have om := off.mem
  refine Off3.of fun p hp => ?_
  rcases List.mem_cons.mp hp with rfl | hp
  · exact om _ List.mem_cons_self
  rcases List.mem_cons.mp hp with rfl | hp
  · exact om _ (List.mem_cons_of_mem _ List.mem_cons_self)
  rcases List.mem_append.mp hp with hp | hp
  · rcases hn p hp with h | h | h
    · obtain ⟨q, hq, e⟩ := tab_mem TB
      have := om q (List.mem_cons_of_mem _ (List.mem_cons_of_mem _ (List.mem_append_left _ hq)))
      rw [e, ← h] at this
      exact this
    · exact om p (List.mem_cons_of_mem _ (List.mem_cons_of_mem _ (List.mem_append_left _ h)))
    · exact ⟨Nat.ne_of_gt (h _ hI), Nat.ne_of_gt (h _ hC), Nat.ne_of_gt (h _ hD)⟩
  · exact om p (List.mem_cons_of_mem _ (List.mem_cons_of_mem _ (List.mem_append_right _ hp)))
theorem perm_tab {p a b c d e f : Addr × Obj} {tb news : List (Addr × Obj)} (hp : p ∈ tb ++ a :: b :: c :: d :: e :: f :: news) : p ∈ a :: b :: c :: d :: e :: f :: (tb ++ news) := by
  simp only [List.mem_append, List.mem_cons] at hp ⊢
  rcases hp with h | h | h | h | h | h | h | h <;> simp [h]
theorem perm_back {p a b c d e f : Addr × Obj} {tb news : List (Addr × Obj)} (hp : p ∈ a :: b :: c :: d :: e :: f :: (tb ++ news)) : p ∈ tb ++ a :: b :: c :: d :: e :: f :: news := by
  simp only [List.mem_append, List.mem_cons] at hp ⊢
  rcases hp with h | h | h | h | h | h | h | h <;> simp [h]
def Halt (P : Prop) : Prop := P
theorem Halt.go {P : Prop} (h : Halt P) : P := h
local macro_rules | `(tactic| walk_at "call ref") => `(tactic| (k_here; (with_reducible show wpAny _ _ (call (Value.ref 154) [_, _, _]) _ _ _); refine Halt.go ?_))
section
variable {w : World} {p : Program} {loose : List Str} {mean : ExcName → Option Value} {mg mb : Str → Option Value} {dp un : Nat} {gd : Option (List Code)} {outer : List Env} {A₀ : Around} {base h₀ : Heap} {L fa : Addr} {cd : Value} {s : Shared} {Q : Flow → Shared → Prop} {E : Value → Shared → Prop} {m : Str → Option Value} {news : List (Addr × Obj)}
theorem st_returns (B : Below A₀ base outer h₀) (X : (heapK w.params).In h₀) (CH : CodeHd base 153 149) (T : Top p loose mean mg mb h₀) (hd : dp + 20 < recursionLimit) (hu : un + 160 < cLine)
    {t : List Nat} {tt : Tok} (hlen : t.length ≤ 9) {oT : Obj} (hT : oT.data = .cell (some (.str (S t) tt))) {Dr : Addr} {vs : List Value} {kr : Nat} {r : List (List Nat)} (hr : StrsAre vs (r.map S)) (hrl : r.length ≤ 9) (hr1 : ∀ u ∈ r, u ≠ [] ∧ u.length ≤ 9 ∧ 46 ∉ u ∧ ∀ c ∈ u, c < 256)
    {tb : List (Addr × Obj)} (TB : TabSt tb) (hoff : ∀ p ∈ (Dr, listOf vs.toArray kr) :: (L + 1, oT) :: news, p.1 ≠ (149 : Nat))
    (F : Fr h₀ L s.heap m) (hm : m (Str.ofString "row") = some (.ref Dr)) (N : News h₀ L s.heap ((Dr, listOf vs.toArray kr) :: (L + 1, oT) :: (tb ++ news)))
    (next : ∀ D ys tb' h' tk', StrsAre ys ((retsOf t r).map S) → TabSt tb' → Fr h₀ L h' (fun z => if z = Str.ofString "returns" then some (.ref D) else m z) → News h₀ L h' ((D, lst ys) :: ((Dr, listOf vs.toArray kr) :: (L + 1, oT) :: (tb' ++ news))) → Off1 D ((Dr, listOf vs.toArray kr) :: (L + 1, oT) :: (tb' ++ news)) → Q .next { s with heap := h', toks := tk' }) :
    wpAny (model PySem.Challenge.rw_re0157_01.row.prog w) (lawA dp un gd L fa cd outer) (exec (lawB.getD 11 (.Pass ⟨0, 0, 0, 0⟩)) (lawE L fa cd)) Q E s := by
  have F0 := fr_at F hm
  clear F
  show wpAny _ _ (exec (.Assign [.Name _ _] (.ListComp _ (⟨.Name _ _, _, _, 0⟩ :: _) _ _) _) _) _ _ _
  revert X
  k_fill
  intro X
  have hll : (S t).length ≤ 9 := by rw [S_len]; exact hlen
  have hvl : vs.length = r.length := by rw [hr.length, List.length_map]
  refine assign_comp (h₀ := h₀) (L := L) (m := fun z => if z = Str.ofString "row" then some (.ref Dr) else m z) (cl := [(Str.ofString "text", L + 1)]) rfl (by with_unfolding_all rfl) (by with_unfolding_all rfl) (by decide) rfl (by decide) rfl rfl rfl ?_
  k_steps
  refine run_list (fun _ _ _ _ => rule_outer (by intro _; rfl)) rfl F0 N (.inr ⟨_, List.mem_cons_self, rfl, _, rfl⟩) (fun i ys nw => StrsAre ys ((retsOf t (r.take i)).map S) ∧ ∃ tb', TabSt tb' ∧ nw = (Dr, listOf vs.toArray kr) :: (L + 1, oT) :: (tb' ++ news)) (fun z => z == Str.ofString "word" || z == Str.ofString "a") (by simp) ⟨.nil, tb, TB, rfl⟩ ?_ ?_
  · rintro I C D' R i v ys nw oI oC m₂ h tk Post hi hv ⟨hys, tb1, TB1, rfl⟩ hNs hx hz F2 N2 off hS ne post
    have hi' : i < r.length := by simpa [hvl] using hi
    obtain ⟨tv, hvt⟩ := hr.get i (S r[i]) (by simp [hi'])
    have hv' : vs[i]? = some v := by simpa using hv
    obtain rfl : v = .str (S r[i]) tv := Option.some.inj (hv'.symm.trans hvt)
    obtain ⟨hwn, hwl, hw46, hw256⟩ := hr1 r[i] (List.getElem_mem hi')
    generalize hu : r[i] = wd at *
    have hwl2 : (S wd).length ≤ 9 := by rw [S_len]; exact hwl
    unfold BOuter
    k_steps
    (with_reducible rename IsRange _ _ _ _ _ _ _ _ => hr3)
    (with_reducible rename Fr _ _ _ _ => F3)
    (with_reducible rename News _ _ _ _ => N3)
    rw [S_len] at hr3
    have hn3 : Builtin.Range.rangeSize 0 (t.length : Int) 1 = ((t.length : Nat) : Int) := by rw [rangeSize_one]; split <;> omega
    refine inner_range (s := { s with heap := h, toks := tk }) (m₂ := m₂) (mC := fun _ => none) (ns := fun z => z == Str.ofString "word" || z == Str.ofString "a") (S := SrcAt h₀ Dr vs.toArray) rfl hr3 (small_one (by omega) (by omega) (by omega) (by omega)) hn3 rfl (by rfl) F3 N3 List.mem_cons_self (List.mem_cons_of_mem _ List.mem_cons_self) (List.mem_cons_of_mem _ (List.mem_cons_of_mem _ List.mem_cons_self)) (fun p hp => List.mem_cons_of_mem _ (List.mem_cons_of_mem _ (List.mem_cons_of_mem _ hp))) off ne hS hNs (fun z hz' => hz z (by rintro rfl; simp at hz') hz') (by simp)
      (fun k ys' nw => StrsAre ys' ((retsOf t (r.take i) ++ retsAt t wd k).map S) ∧ ∃ tb', TabSt tb' ∧ nw = (Dr, listOf vs.toArray kr) :: (L + 1, oT) :: (tb' ++ news)) ⟨by simpa [retsAt] using hys, tb1, TB1, rfl⟩ ?_ ?_
    · rintro R2 k v2 ys' nw2 I2 oI2 oC' m₃ h5 tk5 Post' hk2 ⟨t2, rfl⟩ ⟨hys', tb2, TB2, rfl⟩ hNs3 hx3 hz3 F5 N5 off5 off6 hS5 ne5 post5
      have hxa : m₃ (Str.ofString "word") = some (.str (S wd) tv) := by rw [hz3 _ (by decide)]; exact hx
      have hcut : Txt.slice (S t) (some (0 + (k : Int))) (some (0 + (k : Int) + ((S wd).length : Int))) = S ((t.drop k).take wd.length) := by
        rw [slice_clip (by omega) (by rw [S_len]; omega) (by omega), cl_S, S_len, show (0 + (k : Int)).toNat = k by omega, show (0 + (k : Int) + (wd.length : Int) - (0 + (k : Int))).toNat = wd.length by omega]
      unfold BLast
      refine wpAny_tests_one ?_
      k_steps
      · have hq : (Txt.slice (S t) (some (0 + (k : Int))) (some (0 + (k : Int) + ((S wd).length : Int))) == S wd) = true := by assumption
        rw [hcut, beq_iff_eq] at hq
        have hat := S_inj hq
        (with_reducible rename Fr _ _ _ _ => F6)
        (with_reducible rename News _ _ _ _ => N6)
        unfold Halt
        rw [Int.zero_add]
        refine SpecR.use (tb := tb2) (news := (I2, oI2) :: (C, oC') :: (D', lst ys') :: (I, oI) :: (Dr, listOf vs.toArray kr) :: (L + 1, oT) :: news) (ret_spec w t wd k _ _ _ hw46 hwn hw256 hlen hwl hk2) (by k_asm) F6 (by k_asm) CH TB2 (fun p hp => N6 p (perm_tab hp)) ?_ (by k_asm) (by first | exact rfl | assumption) (by ktr_room) (by ktr_units) ?_
        · obtain ⟨q0, hq0, e0⟩ := tab_mem TB2
          have z5 := off5.mem q0 (List.mem_cons_of_mem _ (List.mem_cons_of_mem _ (List.mem_cons_of_mem _ (List.mem_append_left _ hq0))))
          have z6 := off6.mem q0 (List.mem_cons_of_mem _ (List.mem_cons_of_mem _ (List.mem_append_left _ hq0)))
          rw [e0] at z5 z6
          intro q hq
          rcases List.mem_cons.mp hq with rfl | hq
          · exact Ne.symm z5.1
          rcases List.mem_cons.mp hq with rfl | hq
          · exact Ne.symm z5.2.1
          rcases List.mem_cons.mp hq with rfl | hq
          · exact Ne.symm z5.2.2
          rcases List.mem_cons.mp hq with rfl | hq
          · exact Ne.symm z6.1
          exact hoff q hq
        · intro tb3 t9 h9 tk9 TB3 hnx F9 N9
          dsimp only
          k_steps
          have N10 : News h₀ L h9 ((I2, oI2) :: (C, oC') :: (D', lst ys') :: (I, oI) :: (Dr, listOf vs.toArray kr) :: (L + 1, oT) :: (tb3 ++ news)) := fun p hp => N9 p (perm_back hp)
          have hl1 : (retsOf t (r.take i) ++ retsAt t wd k).length ≤ 200 := by
            rw [List.length_append]
            have h1 := retsOf_len t (r.take i)
            have h2 := retsAt_len t wd k
            have h3 : (r.take i).length ≤ 9 := Nat.le_trans (List.length_take_le _ _) (by omega)
            have h4 : t.length * (r.take i).length ≤ 9 * 9 := Nat.mul_le_mul hlen h3
            omega
          refine app_end (s := { s with heap := h5, toks := tk5 }) F9 N10 List.mem_cons_self (List.mem_cons_of_mem _ List.mem_cons_self) (List.mem_cons_of_mem _ (List.mem_cons_of_mem _ List.mem_cons_self)) (fun p hp => List.mem_cons_of_mem _ (List.mem_cons_of_mem _ (List.mem_cons_of_mem _ hp)))
            ⟨off5.1, off_tab TB2 hnx List.mem_cons_self (List.mem_cons_of_mem _ List.mem_cons_self) (List.mem_cons_of_mem _ (List.mem_cons_of_mem _ List.mem_cons_self)) off5.2⟩ ne5
            ⟨_, rfl, .inr ⟨_, List.mem_cons_self, rfl, _, rfl⟩, off_tab TB2 hnx (List.mem_cons_of_mem _ (List.mem_cons_of_mem _ (List.mem_cons_of_mem _ List.mem_cons_self))) (List.mem_cons_of_mem _ List.mem_cons_self) (List.mem_cons_of_mem _ (List.mem_cons_of_mem _ List.mem_cons_self)) off6⟩ hNs3 (fun z hz' => hz3 z (by simpa using hz')) (by rw [hys'.length, List.length_map]; omega) ⟨_, rfl, ?_, tb3, TB3, rfl⟩ post5
          rw [retsAt_yes hat, ← List.append_assoc, List.map_append]
          exact hys'.append' (strs_one _ _)
      · have hq : (Txt.slice (S t) (some (0 + (k : Int))) (some (0 + (k : Int) + ((S wd).length : Int))) == S wd) = false := by assumption
        rw [hcut] at hq
        have hat : ¬ (t.drop k).take wd.length = wd := fun e => by rw [e] at hq; simp at hq
        refine skip_end (s := { s with heap := h5, toks := tk5 }) (by assumption) (by assumption) List.mem_cons_self (List.mem_cons_of_mem _ List.mem_cons_self) (List.mem_cons_of_mem _ (List.mem_cons_of_mem _ List.mem_cons_self)) (fun p hp => List.mem_cons_of_mem _ (List.mem_cons_of_mem _ (List.mem_cons_of_mem _ hp))) off5 ⟨_, rfl, hS5, off6⟩ hNs3 (fun z hz' => hz3 z (by simpa using hz')) ⟨_, rfl, ?_, tb2, TB2, rfl⟩ post5
        rw [retsAt_no hat]
        exact hys'
    · rintro s₃ ⟨h7, tk7, ys7, nw7, oC7, m7, e7, F7, N7, ns7, hm7, off7, hS7, hys7, tb7, TB7, rfl⟩
      refine post s₃ ⟨h7, tk7, ys7, _, oC7, m7, e7, F7, N7, ns7, hm7, off7, hS7, ?_, tb7, TB7, rfl⟩
      have e : retsOf t (r.take (i + 1)) = retsOf t (r.take i) ++ retsAt t wd t.length := by
        unfold retsOf; rw [List.take_add_one, List.getElem?_eq_getElem hi', hu, List.flatMap_append]; simp
      rw [e]; exact hys7
  · rintro g ys nw ⟨hys, tb', TB', rfl⟩ _
    intro D' h tk F1 N1 off
    rw [List.size_toArray, hvl, List.take_length] at hys
    exact next D' ys tb' h tk hys TB' (fr_over F1 hm) N1 off
end
end Mine

-- part Body0
set_option Elab.async false
set_option maxRecDepth 100000
set_option maxHeartbeats 8000000
set_option linter.unusedVariables false
namespace Mine
open PySem PySem.W PyProof.Rows PySem.Spec PySem.Calls
open PyProof.Rows.LCg (NsObj ns_obj lst lst_snoc Off3 Off1 CompEnd fr_but news_but SrcAt FinE FinA)
theorem ints_one {b : Int} {n : Int} (h : b = 1000000) (t : Tok) : IntsAre [Value.int (n.fmod b) t] [n.fmod 1000000] := by
  subst h; exact .cons _ _ .nil
theorem off1_of {D : Addr} : ∀ {l : List (Addr × Obj)}, (∀ p ∈ l, p.1 ≠ D) → Off1 D l
  | [], _ => trivial
  | _ :: _, h => ⟨h _ List.mem_cons_self, off1_of fun p hp => h p (List.mem_cons_of_mem _ hp)⟩
theorem off1_mem {D : Addr} : ∀ {l : List (Addr × Obj)}, Off1 D l → ∀ p ∈ l, p.1 ≠ D
  | [], _, _, h => nomatch h
  | _ :: _, x, p, h => by
    rcases List.mem_cons.mp h with rfl | h
    · exact x.1
    · exact off1_mem x.2 p h
theorem off1_sub {D : Addr} {l l' : List (Addr × Obj)} (h : Off1 D l) (sub : ∀ p ∈ l', p ∈ l) : Off1 D l' := off1_of fun p hp => off1_mem h p (sub p hp)
section
variable {w : World} {p : Program} {loose : List Str} {mean : ExcName → Option Value} {mg mb : Str → Option Value} {dp un : Nat} {gd : Option (List Code)} {outer : List Env} {A₀ : Around} {base h₀ : Heap} {L fa : Addr} {cd : Value} {s : Shared} {Q : Flow → Shared → Prop} {E : Value → Shared → Prop} {m : Str → Option Value} {news : List (Addr × Obj)}
theorem st_short (B : Below A₀ base outer h₀) (X : (heapK w.params).In h₀) (T : Top p loose mean mg mb h₀) (hd : dp + 20 < recursionLimit) (hu : un + 160 < cLine)
    {ax : Addr} {vs : List Value} {vals : List Int} (hI : IntsAre vs vals) (hlen : vals.length ≤ 63) (hL : h₀.IsList ax vs.toArray)
    (F : Fr h₀ L s.heap m) (hm : m (Str.ofString "script") = some (.ref ax)) (N : News h₀ L s.heap news)
    (next : ∀ D ws h' tk', IntsAre ws ((vals.take 6).map fun x => x.fmod 1000000) → Fr h₀ L h' (fun z => if z = Str.ofString "short" then some (.ref D) else m z) → News h₀ L h' ((D, lst ws) :: news) → Off1 D news → Q .next { s with heap := h', toks := tk' }) :
    wpAny (model PySem.Challenge.rw_re0157_01.row.prog w) (lawA dp un gd L fa cd outer) (exec (lawB.getD 1 (.Pass ⟨0, 0, 0, 0⟩)) (lawE L fa cd)) Q E s := by
  have F0 := fr_at F hm
  clear F
  show wpAny _ _ (exec (.Assign [.Name _ _] (.ListComp _ (⟨.Name _ _, _, _, 0⟩ :: _) _ _) _) _) _ _ _
  revert X
  k_fill
  intro X
  refine assign_comp (h₀ := h₀) (L := L) (m := fun z => if z = Str.ofString "script" then some (.ref ax) else m z) (cl := []) rfl (by with_unfolding_all rfl) (by with_unfolding_all rfl) (by decide) rfl (by decide) rfl rfl rfl ?_
  k_steps
  (with_reducible rename Fr _ _ _ _ => F1)
  (with_reducible rename News _ _ _ _ => N1)
  (with_reducible rename IntsAre _ (List.take 6 vals) => hI1)
  have hl1 : (vals.take 6).length ≤ 6 := List.length_take_le _ _
  have hvl := hI1.length
  refine run_list (fun _ _ _ _ => rule_last0) rfl F1 N1 (.inr ⟨_, List.mem_cons_self, rfl, _, rfl⟩) (fun i ys nw => IntsAre ys (((vals.take 6).take i).map fun x => x.fmod 1000000) ∧ ∀ p ∈ news, p ∈ nw) (fun z => z == Str.ofString "x") (by simp) ⟨.nil, fun p hp => List.mem_cons_of_mem _ hp⟩ ?_ ?_
  · rintro I C D' R i v ys nw oI oC m₂ h tk Post hi hv ⟨hys, hsub⟩ hNs hx hz F2 N2 off hS ne post
    have hi' : i < (vals.take 6).length := by
      simp only [List.size_toArray] at hi
      omega
    obtain ⟨t, hvt⟩ := hI1.get i (vals.take 6)[i] (List.getElem?_eq_getElem hi')
    rw [List.getElem?_toArray, hvt] at hv
    obtain rfl := Option.some.inj hv
    unfold BLast
    refine wpAny_tests_nil ?_
    rw [if_pos rfl]
    k_steps
    refine app_end (s := { s with heap := h, toks := tk }) F2 N2 List.mem_cons_self (List.mem_cons_of_mem _ List.mem_cons_self) (List.mem_cons_of_mem _ (List.mem_cons_of_mem _ List.mem_cons_self)) (fun p hp => List.mem_cons_of_mem _ (List.mem_cons_of_mem _ (List.mem_cons_of_mem _ hp))) off ne hS hNs (fun z hz' => hz z (by rintro rfl; simp at hz') hz') ?_ ⟨?_, hsub⟩ post
    · rw [hys.length, List.length_map, List.length_take]; omega
    · have e : ((vals.take 6).take (i + 1)).map (fun x => x.fmod 1000000) = ((vals.take 6).take i).map (fun x => x.fmod 1000000) ++ [(vals.take 6)[i].fmod 1000000] := by
        rw [List.take_add_one, List.getElem?_eq_getElem hi', List.map_append]; rfl
      show IntsAre _ (((vals.take 6).take (i + 1)).map (fun x => x.fmod 1000000))
      rw [e]
      exact hys.append (ints_one (by decide) _)
  · rintro g ys nw ⟨hys, hsub⟩ _
    intro D' h tk F2 N2 off
    refine next D' ys h tk ?_ (fr_over F2 hm) (news_sub N2 fun p hp => ?_) ?_
    · rw [List.size_toArray, hvl, List.take_length] at hys; exact hys
    · rcases List.mem_cons.mp hp with rfl | hp
      · exact List.mem_cons_self
      · exact List.mem_cons_of_mem _ (hsub p hp)
    · exact off1_sub off hsub
end
end Mine

-- part Body1
set_option Elab.async false
set_option maxRecDepth 100000
set_option maxHeartbeats 8000000
set_option linter.unusedVariables false
namespace Mine
open PySem PySem.W PyProof.Rows PySem.Spec PySem.Calls
open PyProof.Rows.LCg (NsObj ns_obj lst lst_snoc Off3 Off1 CompEnd fr_but news_but SrcAt FinE FinA)
def restL : List Int := [4, 106, 6, 16, 89, 2594]
section
variable {w : World} {p : Program} {loose : List Str} {mean : ExcName → Option Value} {mg mb : Str → Option Value} {dp un : Nat} {gd : Option (List Code)} {outer : List Env} {A₀ : Around} {base h₀ : Heap} {L fa : Addr} {cd : Value} {s : Shared} {Q : Flow → Shared → Prop} {E : Value → Shared → Prop} {m : Str → Option Value} {news : List (Addr × Obj)}
theorem st_rest (B : Below A₀ base outer h₀) (X : (heapK w.params).In h₀) (T : Top p loose mean mg mb h₀)
    (F : Fr h₀ L s.heap m) (N : News h₀ L s.heap news)
    (next : ∀ D ws k h' tk', IntsAre ws restL → Fr h₀ L h' (fun z => if z = Str.ofString "rest" then some (.ref D) else m z) → News h₀ L h' ((D, listOf ws.toArray k) :: news) → (∀ p ∈ news, p.1 < D) → Q .next { s with heap := h', toks := tk' }) :
    wpAny (model PySem.Challenge.rw_re0157_01.row.prog w) (lawA dp un gd L fa cd outer) (exec (lawB.getD 0 (.Pass ⟨0, 0, 0, 0⟩)) (lawE L fa cd)) Q E s := by
  show wpAny _ _ (exec (.Assign [_] _ _) _) _ _ _
  revert X
  k_fill
  intro X
  k_steps
  (with_reducible rename (∀ p ∈ news, _ < _) => hlt)
  (with_reducible rename Fr _ _ _ _ => F9)
  (with_reducible rename News _ _ _ _ => N9)
  refine next _ [_, _, _, _, _, _] _ _ _ ?_ F9 N9 hlt
  unfold restL
  ints_lit
end
end Mine

-- part Body2
set_option Elab.async false
set_option maxRecDepth 100000
set_option maxHeartbeats 8000000
set_option linter.unusedVariables false
namespace Mine
open PySem PySem.W PyProof.Rows PySem.Spec PySem.Calls
open PyProof.Rows.LCg (NsObj ns_obj lst lst_snoc Off3 Off1 CompEnd fr_but news_but SrcAt FinE FinA)
theorem fr_over2b {h₀ h : Heap} {L : Addr} {m : Str → Option Value} {x y y' : Str} {u v v' : Value} (F : Fr h₀ L h (fun z => if z = x then some u else if z = y then some v else if z = y' then some v' else m z)) (hv : m y = some v) (hv' : m y' = some v') : Fr h₀ L h (fun z => if z = x then some u else m z) := by
  have e : (fun z => if z = x then some u else if z = y then some v else if z = y' then some v' else m z) = fun z => if z = x then some u else m z := by
    funext z
    by_cases h1 : z = x
    · simp only [if_pos h1]
    · simp only [if_neg h1]
      by_cases h2 : z = y
      · rw [if_pos h2, h2, hv]
      · rw [if_neg h2]
        by_cases h3 : z = y'
        · rw [if_pos h3, h3, hv']
        · rw [if_neg h3]
  rwa [e] at F
local macro_rules | `(tactic| walk_at "binaryOp Add ref ref") => `(tactic| (k_here; refine Halt.go ?_))
local macro_rules | `(tactic| walk_at "subscriptTail Name Slice ref ref") => `(tactic| (k_here; refine Halt.go ?_))
section
variable {w : World} {p : Program} {loose : List Str} {mean : ExcName → Option Value} {mg mb : Str → Option Value} {dp un : Nat} {gd : Option (List Code)} {outer : List Env} {A₀ : Around} {base h₀ : Heap} {L fa : Addr} {cd : Value} {s : Shared} {Q : Flow → Shared → Prop} {E : Value → Shared → Prop} {m : Str → Option Value} {news : List (Addr × Obj)}
theorem st_drawn (B : Below A₀ base outer h₀) (X : (heapK w.params).In h₀) (T : Top p loose mean mg mb h₀) (hd : dp + 20 < recursionLimit) (hu : un + 160 < cLine)
    {D1 D2 : Addr} {vs ws : List Value} {k1 k2 : Nat} {sh : List Int} (hI : IntsAre vs sh) (hlen : sh.length ≤ 6) (hJ : IntsAre ws restL)
    (F : Fr h₀ L s.heap m) (hm : m (Str.ofString "short") = some (.ref D1)) (hm' : m (Str.ofString "rest") = some (.ref D2)) (N : News h₀ L s.heap ((D1, listOf vs.toArray k1) :: (D2, listOf ws.toArray k2) :: news))
    (next : ∀ D us k h' tk', IntsAre us (sh ++ restL.drop sh.length) → Fr h₀ L h' (fun z => if z = Str.ofString "drawn" then some (.ref D) else m z) → News h₀ L h' ((D, listOf us.toArray k) :: news) → (∀ p ∈ news, p.1 ≠ D) → Q .next { s with heap := h', toks := tk' }) :
    wpAny (model PySem.Challenge.rw_re0157_01.row.prog w) (lawA dp un gd L fa cd outer) (exec (lawB.getD 2 (.Pass ⟨0, 0, 0, 0⟩)) (lawE L fa cd)) Q E s := by
  have F0 := fr_at2 F hm hm'
  clear F
  show wpAny _ _ (exec (.Assign [_] _ _) _) _ _ _
  revert X
  k_fill
  intro X
  have hl6 : restL.length = 6 := rfl
  k_steps
  unfold Halt
  have hwl : ws.length = 6 := by rw [hJ.length]; rfl
  refine' kmk_slice_ints (ns := restL) (ms := restL.drop ((sh.length : Nat) : Int).toNat) (lo := some ((sh.length : Nat) : Int)) (hi := none) F0 N (by is_list) (IsPart.int _ _) IsPart.none hJ (kmk_from hJ (by omega)) rfl ?_ ?_ ?_ (by rw [List.size_toArray, hwl]; decide)
  rotate_left 1
  · with_unfolding_all rfl
  · intro _; rfl
  intro D3 w3 h3 F3 N3 l3 I3 _ _
  have hl3 : (restL.drop ((sh.length : Nat) : Int).toNat).length ≤ 6 := by rw [List.length_drop, hl6]; omega
  k_steps
  unfold Halt
  refine add_lists_ints (hsz := Nat.le_trans (show sh.length + (restL.drop ((sh.length : Nat) : Int).toNat).length ≤ 12 by omega) (by decide)) F3 N3 (by is_list) (by is_list) hI I3 fun h4 F4 N4 I4 => ?_
  have hoff : ∀ q ∈ news, q.1 ≠ h3.objs.size := fun q hq => Nat.ne_of_lt (Heap.lt_size (N3 q (List.mem_cons_of_mem _ (List.mem_cons_of_mem _ (List.mem_cons_of_mem _ hq)))).1)
  dsimp only at N4
  clear F3 N3
  k_steps
  rw [show ((sh.length : Nat) : Int).toNat = sh.length by omega] at I4
  exact next _ _ 0 _ _ I4 (fr_over2b (by assumption) hm hm') (news_sub (by assumption) fun p hp => by
    rcases List.mem_cons.mp hp with rfl | hp
    · exact List.mem_cons_self
    · exact List.mem_cons_of_mem _ (List.mem_cons_of_mem _ (List.mem_cons_of_mem _ (List.mem_cons_of_mem _ hp)))) hoff
end
end Mine

-- part Body12
set_option Elab.async false
set_option maxRecDepth 100000
set_option maxHeartbeats 800000
set_option linter.unusedVariables false
namespace Mine
open PySem PySem.W PyProof.Rows PySem.Spec PySem.Calls
open PyProof.Rows.LCg (NsObj ns_obj lst lst_snoc Off3 Off1 CompEnd fr_but news_but SrcAt FinE FinA)
local macro_rules | `(tactic| walk_at "call ref") => `(tactic| (k_here; (with_reducible show wpAny _ _ (call (Value.ref 140) [Value.str _ _]) _ _ _); k_dflt (refine Spec1.use (mirror_spec _ _ _ (by first | assumption | omega)) (by k_asm) (by k_asm) (by k_asm) (by k_asm) (by k_asm) (by first | exact rfl | assumption) (by ktr_room) (by ktr_units) ?_); intro t9 h9 tk9 F9 N9; (try dsimp only)))
section
variable {w : World} {p : Program} {loose : List Str} {mean : ExcName → Option Value} {mg mb : Str → Option Value} {dp un : Nat} {gd : Option (List Code)} {outer : List Env} {A₀ : Around} {base h₀ : Heap} {L fa : Addr} {cd : Value} {s : Shared} {Q : Flow → Shared → Prop} {E : Value → Shared → Prop} {m : Str → Option Value} {news : List (Addr × Obj)}
theorem st_broken (B : Below A₀ base outer h₀) (X : (heapK w.params).In h₀) (T : Top p loose mean mg mb h₀) (hd : dp + 20 < recursionLimit) (hu : un + 160 < cLine)
    {D2 : Addr} {us : List Value} {l : List (List Nat)} (hs : StrsAre us (l.map S)) (hl : l.length ≤ 200) (hw : ∀ u ∈ l, u.length ≤ 100)
    (F : Fr h₀ L s.heap m) (hm : m (Str.ofString "returns") = some (.ref D2)) (N : News h₀ L s.heap ((D2, lst us) :: news))
    (next : ∀ D ys h' tk', StrsAre ys ((l.filter fun u => !isPal u).map S) → Fr h₀ L h' (fun z => if z = Str.ofString "broken" then some (.ref D) else m z) → News h₀ L h' ((D, lst ys) :: (D2, lst us) :: news) → Q .next { s with heap := h', toks := tk' }) :
    wpAny (model PySem.Challenge.rw_re0157_01.row.prog w) (lawA dp un gd L fa cd outer) (exec (lawB.getD 12 (.Pass ⟨0, 0, 0, 0⟩)) (lawE L fa cd)) Q E s := by
  have F0 := fr_at F hm
  clear F
  show wpAny _ _ (exec (.Assign [.Name _ _] (.ListComp _ (⟨.Name _ _, _, _, 0⟩ :: _) _ _) _) _) _ _ _
  revert X
  k_fill
  intro X
  have hvl : us.length = l.length := by rw [hs.length, List.length_map]
  refine assign_comp (h₀ := h₀) (L := L) (m := fun z => if z = Str.ofString "returns" then some (.ref D2) else m z) (cl := []) rfl (by with_unfolding_all rfl) (by with_unfolding_all rfl) (by decide) rfl (by decide) rfl rfl rfl ?_
  k_steps
  refine run_list (its := us.toArray) (fun _ _ _ _ => rule_last0) rfl F0 N (.inr ⟨_, List.mem_cons_self, rfl, _, rfl⟩) (fun i ys nw => StrsAre ys (((l.take i).filter fun u => !isPal u).map S) ∧ nw = (D2, lst us) :: news) (fun z => z == Str.ofString "part") (by simp) ⟨.nil, rfl⟩ ?_ ?_
  · rintro I C D' R i v ys nw oI oC m₂ h tk Post hi hv ⟨hys, rfl⟩ hNs hx hz F2 N2 off hS ne post
    have hi' : i < l.length := by simpa [hvl] using hi
    obtain ⟨tv, hvt⟩ := hs.get i (S l[i]) (by simp [hi'])
    have hv' : us[i]? = some v := by simpa using hv
    obtain rfl : v = .str (S l[i]) tv := Option.some.inj (hv'.symm.trans hvt)
    have hu2 := hw l[i] (List.getElem_mem hi')
    have htk : l.take (i + 1) = l.take i ++ [l[i]] := by rw [List.take_add_one, List.getElem?_eq_getElem hi']; rfl
    generalize l[i] = wd at *
    have hwl2 : (S wd).length ≤ 100 := by rw [S_len]; exact hu2
    have hlen2 : ys.length ≤ 200 := by
      rw [hys.length, List.length_map]
      exact Nat.le_trans (List.length_filter_le _ _) (Nat.le_trans (List.length_take_le _ _) (by omega))
    unfold BLast
    refine wpAny_tests_one ?_
    k_steps
    · refine skip_end (s := { s with heap := h, toks := tk }) (by assumption) (by assumption) List.mem_cons_self (List.mem_cons_of_mem _ List.mem_cons_self) (List.mem_cons_of_mem _ (List.mem_cons_of_mem _ List.mem_cons_self)) (fun p hp => List.mem_cons_of_mem _ (List.mem_cons_of_mem _ (List.mem_cons_of_mem _ hp))) off hS hNs (fun z hz' => hz z (by rintro rfl; simp at hz') hz') ⟨?_, rfl⟩ post
      have hb0 : isPal (cl (S wd)) = true := by assumption
      rw [cl_S] at hb0
      have hb : (!isPal wd) = false := by rw [hb0]; rfl
      rw [htk, List.filter_append, List.filter_cons, hb]
      simpa using hys
    · refine app_end (s := { s with heap := h, toks := tk }) (by assumption) (by assumption) List.mem_cons_self (List.mem_cons_of_mem _ List.mem_cons_self) (List.mem_cons_of_mem _ (List.mem_cons_of_mem _ List.mem_cons_self)) (fun p hp => List.mem_cons_of_mem _ (List.mem_cons_of_mem _ (List.mem_cons_of_mem _ hp))) off ne hS hNs (fun z hz' => hz z (by rintro rfl; simp at hz') hz') (by omega) ⟨?_, rfl⟩ post
      have hb0 : isPal (cl (S wd)) = false := by assumption
      rw [cl_S] at hb0
      have hb : (!isPal wd) = true := by rw [hb0]; rfl
      rw [htk, List.filter_append, List.filter_cons, if_pos hb, List.map_append]
      exact hys.append' (strs_one _ _)
  · rintro g ys nw ⟨hys, rfl⟩ _
    intro D' h tk F1 N1 off
    rw [List.size_toArray, hvl, List.take_length] at hys
    exact next D' ys h tk hys (fr_over F1 hm) N1
end
end Mine

-- part Body13
set_option Elab.async false
set_option maxRecDepth 100000
set_option maxHeartbeats 800000
set_option linter.unusedVariables false
namespace Mine
open PySem PySem.W PyProof.Rows PySem.Spec PySem.Calls
open PyProof.Rows.LCg (NsObj ns_obj lst lst_snoc Off3 Off1 CompEnd fr_but news_but SrcAt FinE FinA)
section
variable {w : World} {p : Program} {loose : List Str} {mean : ExcName → Option Value} {mg mb : Str → Option Value} {dp un : Nat} {gd : Option (List Code)} {outer : List Env} {A₀ : Around} {base h₀ : Heap} {L fa : Addr} {cd : Value} {s : Shared} {Q : Flow → Shared → Prop} {E : Value → Shared → Prop} {m : Str → Option Value} {news : List (Addr × Obj)}
theorem st_end (B : Below A₀ base outer h₀) (X : (heapK w.params).In h₀) (T : Top p loose mean mg mb h₀) (hd : dp + 20 < recursionLimit) (hu : un + 160 < cLine)
    {D3 Dr : Addr} {us vs : List Value} {kr : Nat} {l r : List (List Nat)} {t : List Nat} {tt : Tok} {oT : Obj} (hT : oT.data = .cell (some (.str (S t) tt))) (hs : StrsAre us (l.map S)) (hs2 : StrsAre vs (r.map S)) (hl : l.length ≤ 200) (hr : r.length ≤ 9) (ht : t.length ≤ 9) (hlo : lowOk l)
    (F : Fr h₀ L s.heap m) (hm : m (Str.ofString "broken") = some (.ref D3)) (hm2 : m (Str.ofString "row") = some (.ref Dr)) (N : News h₀ L s.heap ((D3, lst us) :: (Dr, listOf vs.toArray kr) :: (L + 1, oT) :: news))
    (next : ∀ h' tk', Fr h₀ L h' m → News h₀ L h' ((D3, lst us) :: (Dr, listOf vs.toArray kr) :: (L + 1, oT) :: news) → Q (.ret (.bool (decide (l = []) == decide (r.length = t.length)))) { s with heap := h', toks := tk' }) :
    wpAny (model PySem.Challenge.rw_re0157_01.row.prog w) (lawA dp un gd L fa cd outer) (exec (lawB.getD 13 (.Pass ⟨0, 0, 0, 0⟩)) (lawE L fa cd)) Q E s := by
  have F0 := fr_at2 F hm hm2
  clear F
  show wpAny _ _ (exec (.Return _ _) _) _ _ _
  revert X
  k_fill
  intro X
  have hvl : us.length = l.length := by rw [hs.length, List.length_map]
  have hvl2 : vs.length = r.length := by rw [hs2.length, List.length_map]
  have hrl2 : (r.map S).length ≤ 100 := by rw [List.length_map]; omega
  have hrl3 : vs.length ≤ 100 := by omega
  have hll : (S t).length ≤ 9 := by rw [S_len]; exact ht
  have hll2 : (S t).length = t.length := by rw [S_len]
  k_steps
  refine eq_rows (l := l) (q := []) (by is_list) (by is_list) hs .nil hlo (fun _ h => nomatch h) (by ktr_units) ?_
  k_steps
  have e : (((r.map S).length : Int) == ((S t).length : Int)) = decide (r.length = t.length) := by
    rw [List.length_map, S_len, Bool.eq_iff_iff, beq_iff_eq, decide_eq_true_eq]
    omega
  rw [e]
  exact next _ _ (fr_back2 (by assumption) hm hm2) (news_sub (by assumption) fun p hp => List.mem_cons_of_mem _ hp)
end
end Mine

-- part SetA
set_option Elab.async false
set_option maxRecDepth 100000
set_option maxHeartbeats 2000000
set_option linter.unusedVariables false
namespace Mine
open PySem PySem.W PyProof.Rows PySem.Spec PySem.Calls
/-- the marks of a set's table that the adding keeps -/
theorem stand_marks (t : SetTable) (n : Nat) : (t.orStandIn n).led = t.led ∧ ((t.orStandIn n).plain = t.plain ∨ (t.orStandIn n).plain = false) := by
  unfold SetTable.orStandIn
  split
  · exact ⟨rfl, .inl rfl⟩
  · exact ⟨rfl, .inr rfl⟩
theorem layNew_marks (t : SetTable) (es : Array (Int × Value)) (h : Int) (x : Value) : (layNew t es h x).2.1.led = t.led ∧ ((layNew t es h x).2.1.plain = t.plain ∨ (layNew t es h x).2.1.plain = false) := by
  unfold layNew
  split
  · rename_i slot wasDummy _
    exact stand_marks (t.put slot).1 _
  · exact ⟨rfl, .inr rfl⟩
theorem relayAll_marks (t : SetTable) (es : Array (Int × Value)) (n : Nat) (hp : t.plain = false) : (relayAll t es n).2.1.led = t.led ∧ (relayAll t es n).2.1.plain = false := by
  unfold relayAll
  split
  · rename_i t' order h
    dsimp only
    split
    · unfold SetTable.relaid SetTable.laid at h
      cases hl : SetTable.layClean (SetTable.sizeAbove n - 1) (es.map (·.1)) with
      | none => rw [hl] at h; cases h
      | some owner =>
        rw [hl] at h
        simp only [bind, Option.bind, pure, Option.some.injEq, Prod.mk.injEq] at h
        rw [← h.1]
        exact ⟨rfl, hp⟩
    · exact ⟨rfl, rfl⟩
  · exact ⟨rfl, rfl⟩
theorem strs_perm {vs vs' : List Value} {us : List Str} (h : StrsAre vs us) (p : vs'.Perm vs) : ∃ us', StrsAre vs' us' ∧ us'.Perm us := by
  refine ⟨vs'.map strOf, strsAre_map vs' fun v hv => h.all v (p.mem_iff.mp hv), ?_⟩
  have := p.map strOf
  rwa [h.strs] at this
section
variable (prog : Program) (w : World)
/-- a set of texts, and the marks of its table -/
def SetAt (h : Heap) (a : Addr) (us : List Str) : Prop :=
  ∃ o es ep t, h.get? a = some o ∧ o.ExactSet ∧ o.data = .set es ep t ∧ ElemsOf (strKind prog w) es.toList ∧ t.fits es.size = true ∧ t.led = !w.params.followText "set-order" ∧ (es.size = 0 ∨ t.plain = false) ∧ StrsAre (es.toList.map (·.2)) us ∧ us.Nodup ∧ us.length < scanBound
end
section
variable {prog : Program} {w : World} {A : Around} {E : Value → Shared → Prop} {s : Shared} {a : Addr} {us : List Str}
theorem SetAt.keep {h h' : Heap} (x : SetAt prog w h a us) (k : ∀ o, h.get? a = some o → h'.get? a = some o) : SetAt prog w h' a us := by
  obtain ⟨o, es, ep, t, ho, r⟩ := x
  exact ⟨o, es, ep, t, k _ ho, r⟩
theorem set_find {es : Array (Int × Value)} {us : List Str} (hs : StrsAre (es.toList.map (·.2)) us) (x : Str) :
    (es.toList.findIdx? (fun e => (strKind prog w).is x e.2)).isSome = decide (x ∈ us) := by
  rw [List.findIdx?_isSome, Bool.eq_iff_iff, List.any_eq_true, decide_eq_true_eq]
  have hm : ∀ y, y ∈ us ↔ ∃ v ∈ es.toList.map (·.2), strOf v = y := fun y => by rw [← hs.strs, List.mem_map]
  rw [hm]
  constructor
  · rintro ⟨e, he, hk⟩
    obtain ⟨t, ht⟩ := Value.isStrOf_shape hk
    exact ⟨e.2, List.mem_map_of_mem he, by rw [ht]; rfl⟩
  · rintro ⟨v, hv, rfl⟩
    obtain ⟨e, he, rfl⟩ := List.mem_map.mp hv
    obtain ⟨y, t, ht⟩ := hs.all _ hv
    refine ⟨e, he, ?_⟩
    rw [ht]
    exact strKind_is prog w y t
theorem put_at {h : Heap} {o : Obj} {es : Array (Int × Value)} {ep : Nat} {t : SetTable} (ho : h.get? a = some o) (hd : o.data = .set es ep t) (es' : Array (Int × Value)) (t' : SetTable) :
    (h.update a (Obj.putSet es' t')).get? a = some { o with data := .set es' (ep + 1) t' } := by
  have := Heap.get?_update_self (Obj.putSet es' t') ho (by rw [putSet_of es' t' hd]; rfl)
  rwa [putSet_of es' t' hd] at this
theorem add_text {x : Str} {tx : Tok} {Q : Bool → Shared → Prop} (hS : SetAt prog w s.heap a us) (hroom : us.length + 1 < scanBound)
    (h : ∀ h' us' b, Heap.SameBut a s.heap h' → SetAt prog w h' a us' → ((x ∈ us ∧ us' = us) ∨ (x ∉ us ∧ us'.Perm (us ++ [x]))) → Q b { s with heap := h' }) :
    wpAny (model prog w) A (setAddHashed a (.str x tx) ((strKind prog w).hash x)) Q E s := by
  have hkey := strKind_is prog w x tx
  obtain ⟨o, es, ep, t, ho, hex, hd, hel, hf, hled, hpl, hs, hnd, hb⟩ := hS
  have hlen : us.length = es.size := by rw [← hs.length, List.length_map, Array.length_toList]
  have hb' : es.size < scanBound := by omega
  have hfind := set_find (prog := prog) (w := w) hs x
  unfold setAddHashed setAddHashedIn
  refine wpAny_holding (wpAny_bind (wpAny_setState_of ho hd hf ?_))
  dsimp only
  rw [byScan_of rfl hb' hel, if_pos rfl]
  unfold setAddByScan
  refine wpAny_bind (wpAny_bind (wpAny_rule (wpAny_bind (wpAny_setScan_of hkey ho hd hf hel ?_))))
  cases hr : es.toList.findIdx? (fun e => (strKind prog w).is x e.2) with
  | some j =>
    rw [hr] at hfind
    have hx : x ∈ us := by simpa using hfind.symm
    refine wpAny_pure (wpAny_pure ?_)
    exact h s.heap us false (Heap.SameBut.refl a s.heap) ⟨o, es, ep, t, ho, hex, hd, hel, hf, hled, hpl, hs, hnd, hb⟩ (.inl ⟨hx, rfl⟩)
  | none =>
    rw [hr] at hfind
    have hx : x ∉ us := by simpa using hfind.symm
    dsimp only
    have hperm := layNew_perm t es ((strKind prog w).hash x) (.str x tx)
    have hfits := layNew_fits t es ((strKind prog w).hash x) (.str x tx)
    have hmk := layNew_marks t es ((strKind prog w).hash x) (.str x tx)
    generalize layNew t es ((strKind prog w).hash x) (.str x tx) = L at hperm hfits hmk ⊢
    obtain ⟨es1, t1, wasDummy, gave⟩ := L
    dsimp only at hperm hfits hmk ⊢
    rw [Array.toList_push] at hperm
    have gw : ∀ (b : Bool) {s₁ : Shared} {Q' : Unit → Shared → Prop}, Q' () s₁ → wpAny (model prog w) A (match b with | true => rule "set.scan.the-table-gave-way" | false => pure ()) Q' E s₁ :=
      fun b s₁ Q' hq => by cases b <;> first | exact wpAny_pure hq | exact wpAny_rule hq
    have hel1 : ElemsOf (strKind prog w) es1.toList := (hel.push hkey rfl).perm hperm
    obtain ⟨us1, hs1, hp1⟩ : ∃ us', StrsAre (es1.toList.map (·.2)) us' ∧ us'.Perm (us ++ [x]) := by
      refine strs_perm (vs := es.toList.map (·.2) ++ [.str x tx]) ?_ ?_
      · exact hs.append' (.cons x tx .nil)
      · have := hperm.map (·.2)
        rwa [List.map_append] at this
    have hnd1 : us1.Nodup := hp1.nodup_iff.mpr (by
      rw [List.nodup_append]
      exact ⟨hnd, by simp, fun y hy z hz e => by rw [List.mem_singleton] at hz; subst hz; subst e; exact hx hy⟩)
    have hl1 : us1.length = us.length + 1 := by rw [hp1.length_eq]; simp
    have hsz1 : es1.size = us.length + 1 := by rw [← hl1, ← hs1.length, List.length_map, Array.length_toList]
    refine wpAny_bind (gw _ ?_)
    have key : ∀ (g : Bool → Sem Unit), (∀ (b : Bool) (s₁ : Shared) (Q' : Unit → Shared → Prop), Q' () s₁ → wpAny (model prog w) A (g b) Q' E s₁) → ∀ t2 : SetTable, t2.fits es1.size = true → t2.led = t.led → t2.plain = false → wpAny (model prog w) A (do
        storeSet a es1 t2
        if (!wasDummy && t2.tooFull) = true then do
            g (relayAll t2 es1 (SetTable.grown es1.size)).2.2
            storeSet a (relayAll t2 es1 (SetTable.grown es1.size)).1 (relayAll t2 es1 (SetTable.grown es1.size)).2.1
            pure (some true)
          else pure (some true)) (fun r s' => r = some true ∧ ∃ h' us', s' = { s with heap := h' } ∧ Heap.SameBut a s.heap h' ∧ SetAt prog w h' a us' ∧ us'.Perm (us ++ [x])) E s := by
      intro g gw t2 hf2 hl2 hp2
      refine wpAny_bind (wpAny_storeSet_of ho hd ?_ (fits_of_scanBound (by omega)))
      have ho1 := put_at ho hd es1 t2
      have hsb1 := Heap.SameBut.update s.heap a (Obj.putSet es1 t2)
      split
      · have hq := relayAll_perm t2 es1 (SetTable.grown es1.size)
        have hfr := relayAll_fits t2 es1 (SetTable.grown es1.size)
        have hmr := relayAll_marks t2 es1 (SetTable.grown es1.size) hp2
        generalize relayAll t2 es1 (SetTable.grown es1.size) = Rl at hq hfr hmr ⊢
        obtain ⟨es2, t3, gave2⟩ := Rl
        dsimp only at hq hfr hmr ⊢
        obtain ⟨us2, hs2, hp2'⟩ := strs_perm hs1 (hq.map (·.2))
        have hsz : es2.size = es1.size := by rw [← Array.length_toList, hq.length_eq, Array.length_toList]
        refine wpAny_bind (gw _ _ _ ?_)
        refine wpAny_bind (wpAny_storeSet_of ho1 rfl ?_ (fits_of_scanBound (by omega)))
        have ho2 := put_at ho1 rfl es2 t3
        exact wpAny_pure ⟨rfl, _, us2, rfl, hsb1.trans (Heap.SameBut.update _ a _), ⟨_, es2, _, t3, ho2, hex, rfl, hel1.perm hq, hfr, by rw [hmr.1, hl2, hled], .inr hmr.2, hs2, hp2'.nodup_iff.mpr hnd1, by rw [hp2'.length_eq, hl1]; exact hroom⟩, hp2'.trans hp1⟩
      · exact wpAny_pure ⟨rfl, _, us1, rfl, hsb1, ⟨_, es1, _, t2, ho1, hex, rfl, hel1, hf2, by rw [hl2, hled], .inr hp2, hs1, hnd1, by rw [hl1]; exact hroom⟩, hp1⟩
    have fin : ∀ (r : Option Bool) (s' : Shared), (r = some true ∧ ∃ h' us', s' = { s with heap := h' } ∧ Heap.SameBut a s.heap h' ∧ SetAt prog w h' a us' ∧ us'.Perm (us ++ [x])) → wpAny (model prog w) A (match r with | some added => pure added | none => setAddHashedIn a (.str x tx) ((strKind prog w).hash x) 99999) Q E s' := by
      rintro _ _ ⟨rfl, h', us', rfl, hb, hS', hp⟩
      exact wpAny_pure (h h' us' true hb hS' (.inr ⟨hx, hp⟩))
    split
    · refine wpAny_bind ?_
      rw [hashByValue_scannable 8 rfl]
      refine wpAny_pure ?_
      rw [show plainKind (.str x tx) = false from rfl]
      simp only [Bool.false_eq_true, if_false]
      refine wpAny_mono (key _ ?_ _ (SetTable.fits_plain_off hfits) hmk.1 rfl) fin fun _ _ e => e
      intro b s₁ Q' hq; cases b <;> first | exact wpAny_pure hq | exact wpAny_rule hq
    · rename_i hpl1
      refine wpAny_bind (wpAny_pure ?_)
      simp only [if_true]
      refine wpAny_mono (key _ ?_ _ hfits hmk.1 (by simpa using hpl1)) fin fun _ _ e => e
      intro b s₁ Q' hq; cases b <;> first | exact wpAny_pure hq | exact wpAny_rule hq
end
end Mine

-- part SetB
set_option Elab.async false
set_option maxRecDepth 100000
set_option maxHeartbeats 4000000
set_option linter.unusedVariables false
namespace Mine
open PySem PySem.W PyProof.Rows PySem.Spec PySem.Calls
section
variable {prog : Program} {w : World} {A : Around} {R : Result → Shared → Prop} {I : Addr} {fp wr : List Addr} {G : Array GenState → Array GenState → Prop} {n : Nat} {P : Nat → Value → Prop} {St : Nat → Shared → Prop}
/-- the loop that fills a set with a source's texts -/
theorem fill_set (W : WalksS prog w A.in1 I fp wr G n P St) (S : Addr) (hSf : S ∉ fp) (val : Nat → Str) (hval : ∀ i v, P i v → ∃ t, v = .str (val i) t) (hb : n + 1 < scanBound) :
    ∀ (k i : Nat) (s : Shared) (us : List Str), n - i = k → i ≤ n → St i s → SetAt prog w s.heap S us → us.length ≤ i → (∀ y, y ∈ us ↔ ∃ j, j < i ∧ val j = y) →
      (∀ s' us', Moved (S :: wr) G s s' → SetAt prog w s'.heap S us' → us'.length ≤ n → (∀ y, y ∈ us' ↔ ∃ j, j < n ∧ val j = y) → R (.ok (.ret .none)) s') →
      codeAny (model prog w) A (.builtin "set.update.loop" ⟨[.ref S, .ref I], []⟩) R s := by
  have hSw : S ∉ wr := fun h => hSf (W.sub _ h)
  have up : ∀ {s s' : Shared}, Moved wr G s s' → Moved (S :: wr) G s s' := fun hm => hm.mono fun b hb => List.mem_cons_of_mem _ hb
  intro k
  induction k with
  | zero =>
    intro i s us hk hi hst hS hul hus hR
    obtain rfl : i = n := by omega
    refine codeAny_builtin PyProof.Rows.F.entry_set_update_loop ?_
    rw [Around.under_plainId PyProof.Rows.F.plain_set_update_loop _]
    refine wpAny_bind (W.done s _ _ hst fun s' hm => ?_)
    exact wpAny_pure (hR s' us (up hm) (hS.keep fun o e => hm.heap S o hSw e) hul hus)
  | succ k ih =>
    intro i s us hk hi hst hS hul hus hR
    have hlt : i < n := by omega
    refine codeAny_builtin PyProof.Rows.F.entry_set_update_loop ?_
    rw [Around.under_plainId PyProof.Rows.F.plain_set_update_loop _]
    refine wpAny_bind (W.item i s _ _ hlt hst fun v s' hP hst' hm => ?_)
    obtain ⟨t, rfl⟩ := hval i v hP
    have hS' := hS.keep (h' := s'.heap) fun o e => hm.heap S o hSw e
    show wpAny _ A.in1 (holding [Value.str (val i) t] (setAdd S (.str (val i) t)) >>= _) _ _ s'
    refine wpAny_bind (wpAny_holding ?_)
    unfold setAdd
    refine wpAny_holding (wpAny_bind ((strKind prog w).pyHash (k := val i) (strKind_is _ _ _ _) ?_))
    refine add_text (s := { s' with toks := s'.toks + 1 }) hS' (by omega) fun h' us' b hsb hS2 hor => ?_
    have hus' : ∀ y, y ∈ us' ↔ ∃ j, j < i + 1 ∧ val j = y := fun y => by
      have e1 : y ∈ us' ↔ y ∈ us ∨ y = val i := by
        rcases hor with ⟨h1, rfl⟩ | ⟨h1, h2⟩
        · exact ⟨.inl, fun q => q.elim id fun q => q ▸ h1⟩
        · rw [h2.mem_iff, List.mem_append, List.mem_singleton]
      rw [e1, hus]
      constructor
      · rintro (⟨j, hj, e⟩ | e)
        · exact ⟨j, by omega, e⟩
        · exact ⟨i, by omega, e.symm⟩
      · rintro ⟨j, hj, e⟩
        rcases Nat.lt_or_ge j i with q | q
        · exact .inl ⟨j, q, e⟩
        · obtain rfl : j = i := by omega
          exact .inr e.symm
    have hul' : us'.length ≤ i + 1 := by
      rcases hor with ⟨_, rfl⟩ | ⟨_, h2⟩
      · omega
      · rw [h2.length_eq, List.length_append, List.length_singleton]; omega
    refine wpAny_pure ⟨plainId_quiet PyProof.Rows.F.plain_set_update_loop _, ih (i + 1) _ us' (by omega) hlt (W.frame _ s' _ _ hst' (Nat.le_succ _) fun b hb o e => ?_) hS2 hul' hus' fun s'' us'' hm'' hS'' hl'' hu'' => ?_⟩
    · rw [hsb.2 b (fun h : b = S => hSf (by rw [← h]; exact hb))]; exact e
    · refine hR s'' us'' (Moved.trans W.gtrans ((up hm).then_heap (Nat.le_succ _) fun b o hb e => ?_) hm'') hS'' hl'' hu''
      rw [hsb.2 b (fun h : b = S => hb (by rw [h]; exact List.mem_cons_self))]; exact e
end
section
variable {prog : Program} {w : World} {A : Around} {E : Value → Shared → Prop} {s : Shared}
abbrev newSetO (w : World) : Obj := { cls := .type "set", dict := none, data := .set #[] 0 (.fresh 0 0 (!w.params.followText "set-order")) }
theorem made_set (a : Value) {Q₁ : Value → Shared → Prop} (h : Q₁ (.ref s.heap.objs.size) { s with heap := s.heap.push (newSetO w) }) :
    codeAny (model prog w) A (.call (.builtin "set.__new__") ⟨[.type "set", a], []⟩) (wants Q₁ E) s := by
  refine codeAny_of_tree ?_
  show wpAny _ A.in1 (do checkBuiltinCall "set.__new__" ⟨[.type "set", a], []⟩; again (.builtin "set.__new__" ⟨[.type "set", a], []⟩)) _ _ s
  refine wpAny_bind (wpAny_of_eq (PySem.F.newCall_set_1 a) (wpAny_pure ⟨plainId_quiet PySem.F.plain_set_new _, codeAny_builtin PySem.F.entry_set_new ?_⟩))
  rw [Around.under_plainId PySem.F.plain_set_new _]
  unfold Builtin.«set.__new__» Builtin.Frozenset.newClass
  have hsub := sub_set_self
  obtain ⟨hp, g, d, tk, os⟩ := s
  dsimp only
  wp_walk
  refine wpAny_askSetting (wpAny_pure ?_)
  dsimp only
  simp only [newObj]
  exact wpAny_bind (wpAny_alloc (wpAny_pure (wpAny_pure h)))
end
end Mine

-- part SetC
set_option Elab.async false
set_option maxRecDepth 100000
set_option maxHeartbeats 4000000
set_option linter.unusedVariables false
namespace Mine
open PySem PySem.W PyProof.Rows PySem.Spec PySem.Calls
section
variable {prog : Program} {w : World} {A : Around} {E : Value → Shared → Prop} {s : Shared}
theorem setAt_new {h : Heap} {a : Addr} (ho : h.get? a = some (newSetO w)) : SetAt prog w h a [] :=
  ⟨newSetO w, #[], 0, _, ho, ⟨rfl, rfl, rfl⟩, rfl, fun e he => by simp at he, by rfl, rfl, .inl rfl, .nil, .nil, by decide⟩
/-- what a filled set leaves -/
def SetOut (prog : Program) (w : World) (s : Shared) (xs : List Str) (s₂ : Shared) : Prop :=
  ∃ h' tk us, s₂ = { s with heap := h', toks := tk } ∧ SetAt prog w h' s.heap.objs.size us ∧ us.length ≤ xs.length ∧ (∀ y, y ∈ us ↔ y ∈ xs) ∧ ∀ b o, b < s.heap.objs.size → s.heap.get? b = some o → h'.get? b = some o
theorem set_of_texts {l : Addr} {vs : List Value} {xs : List Str} {Q : Value → Shared → Prop} (hh : A.handled = none) (hl : s.heap.IsList l vs.toArray) (hi : StrsAre vs xs) (hb : xs.length + 1 < scanBound)
    (h : ∀ s₂, SetOut prog w s xs s₂ → Q (.ref s.heap.objs.size) s₂) :
    wpAny (model prog w) A (call (.type "set") [.ref l]) Q E s := by
  obtain ⟨c, tl, hmro⟩ := PySem.F.called_set.mro
  have hmade := PySem.F.called_set.made
  have hsub := PySem.F.called_set.sub
  refine wpAny_call (codeAny_of_tree ?_)
  show wpAny _ _ (callAny (.type "set") _) _ _ _
  refine wpAny_pure ⟨Code.quiet_builtin _ (by decide +kernel), codeAny_builtin PySem.F.entry_type_call ?_⟩
  rw [Around.under_plain (weight_type_call_type "set" [.ref l] []) rfl]
  have h1 := PySem.F.called_set.notType
  have h2 := PySem.F.called_set.canCreate
  have hct := PySem.F.typeCall_set_1 (.ref l)
  repeat (any_goals (first | assumption | wp_step))
  refine codeAny_mono (made_set (.ref l) (E := E) (Q₁ := fun obj s₁ => obj = .ref s.heap.objs.size ∧ s₁ = { s with heap := s.heap.push (newSetO w) }) ⟨rfl, rfl⟩) fun r s₁ hr => ?_
  cases r with
  | error e => exact hr
  | ok fl =>
    cases fl with
    | ret obj =>
      obtain ⟨rfl, rfl⟩ := hr
      have hS : (s.heap.push (newSetO w)).get? s.heap.objs.size = some (newSetO w) := Heap.get?_push_size _ rfl
      have hT : Shared.TypeIs { s with heap := s.heap.push (newSetO w) } (.ref s.heap.objs.size) "set" := ⟨_, hS, rfl⟩
      have hli := PySem.F.called_set.init.lookup
      have hbi := PySem.F.called_set.init.bind (.ref s.heap.objs.size)
      repeat (any_goals (first | assumption | wp_step))
      refine codeAny_mono (codeAny_call_builtin (R := wants (fun r s₂ => r = .none ∧ SetOut prog w s xs s₂) E) PySem.F.called_set.init.plain PySem.F.entry_set_init (check_set_init_1 hT ?_)) fun r₂ s₂ hr₂ => ?_
      · obtain ⟨ol, hol, hcl, nl, hdl⟩ := hl
        obtain ⟨ocls, odict, odata, oslots⟩ := ol
        simp only at hcl hdl
        subst hcl; subst hdl
        have hol' : (s.heap.push (newSetO w)).get? l = some { cls := .type "list", dict := odict, data := .seq vs.toArray nl, slots := oslots } := Heap.get?_push_of_some _ hol
        have hsls := PySem.F.sub_list_set
        have hslf := PySem.F.sub_list_frozenset
        have hne : (Value.type "list" == Value.type "dict") = false := by decide
        have hl1 : (s.heap.push (newSetO w)).IsList l vs.toArray := ⟨_, hol', rfl, nl, rfl⟩
        unfold Builtin.«set.__init__» noKeywords Builtin.Frozenset.updateFrom
        generalize hPI : pyIter = PI
        wp_walk
        subst hPI
        refine wpAny_pyIter_list hl1 ?_
        refine wpAny_bind (wpAny_runValue ?_)
        have hlS : l < s.heap.objs.size := Heap.lt_size hol
        have hsz1 : (s.heap.push (newSetO w)).objs.size = s.heap.objs.size + 1 := Heap.size_push ..
        have hneI : l ≠ (s.heap.push (newSetO w)).objs.size := by rw [hsz1]; exact Nat.ne_of_lt (Nat.lt_succ_of_lt hlS)
        have hSf : s.heap.objs.size ∉ [(s.heap.push (newSetO w)).objs.size, l] := by
          rw [hsz1]
          simp only [List.mem_cons, List.not_mem_nil, or_false, not_or]
          exact ⟨Nat.ne_of_lt (Nat.lt_succ_self _), Nat.ne_of_gt hlS⟩
        have hvl : vs.length = xs.length := hi.length
        refine fill_set ((Walks.list (by simp [hh]) _ l hneI vs.toArray).toS) s.heap.objs.size hSf (fun i => xs.getD i Str.empty) ?_ (by rw [List.size_toArray, hvl]; exact hb) _ 0 _ [] rfl (Nat.zero_le _)
          ⟨⟨_, Heap.get?_push_size _ rfl, rfl, rfl⟩, hl1.push _⟩ (setAt_new (Heap.get?_push_of_some _ hS)) (Nat.le_refl _) (fun y => ⟨fun q => absurd q List.not_mem_nil, fun ⟨j, q, _⟩ => absurd q (Nat.not_lt_zero _)⟩) ?_
        · intro i v hv
          have hv' : vs[i]? = some v := by simpa using hv
          have hlt : i < xs.length := by
            rw [← hvl]
            exact (List.getElem?_eq_some_iff.mp hv').1
          obtain ⟨t, ht⟩ := hi.get i xs[i] (List.getElem?_eq_getElem hlt)
          refine ⟨t, ?_⟩
          rw [List.getD_eq_getElem?_getD, List.getElem?_eq_getElem hlt]
          exact Option.some.inj (hv'.symm.trans ht)
        · intro s' us' hm hS' hul hus
          obtain ⟨h', g', d', tk', os'⟩ := s'
          obtain rfl : g' = s.gens := hm.gens
          obtain rfl : d' = s.drawn := hm.drawn
          obtain rfl : os' = s.os := hm.os
          refine wpAny_pure ?_
          refine wpAny_pure ⟨rfl, h', tk', us', rfl, hS', by rw [← hvl]; simpa using hul, fun y => ?_, fun b o hb e => ?_⟩
          · rw [hus]
            constructor
            · rintro ⟨j, hj, e⟩
              have hj' : j < xs.length := by rw [← hvl]; simpa using hj
              rw [← e, List.getD_eq_getElem?_getD, List.getElem?_eq_getElem hj']
              exact List.getElem_mem hj'
            · intro hy
              obtain ⟨j, hj, e⟩ := List.getElem_of_mem hy
              exact ⟨j, by rw [List.size_toArray, hvl]; exact hj, by rw [List.getD_eq_getElem?_getD, List.getElem?_eq_getElem hj]; exact e⟩
          · have hb1 : b ≠ s.heap.objs.size := Nat.ne_of_lt hb
            have hb2 : b ≠ (s.heap.push (newSetO w)).objs.size := by rw [hsz1]; exact Nat.ne_of_lt (Nat.lt_succ_of_lt hb)
            exact hm.heap b o (by simp only [List.mem_cons, List.not_mem_nil, or_false, not_or]; exact ⟨hb1, hb2⟩) (Heap.get?_push_of_some _ (Heap.get?_push_of_some _ e))
      · cases r₂ with
        | error e => exact hr₂
        | ok fl₂ =>
          cases fl₂ with
          | ret r =>
            obtain ⟨rfl, hout⟩ := hr₂
            have hq := h s₂ hout
            obtain ⟨h', tk, us, rfl, hS', _⟩ := hout
            repeat (any_goals (first | assumption | wp_step))
          | _ => exact hr₂.elim
    | _ => exact hr.elim
end
end Mine

-- part SetD
set_option Elab.async false
set_option maxRecDepth 100000
set_option maxHeartbeats 4000000
set_option linter.unusedVariables false
namespace Mine
open PySem PySem.W PyProof.Rows PySem.Spec PySem.Calls
theorem si_owner : Manifest.owners.lookup (String.ofList ['r', 'o', 't', 'a', 'r', 'e', 't', 'i', '_', 't', 'e', 's'].reverse) = some Manifest.sig_set_iterator := by kernel_rfl
theorem si_slot : Slot "set_iterator" "__next__" "set_iterator.__next__" :=
  .of (owner := "set_iterator") (n := "__next__") (by rw [typeLookup_type, builtinLookup_eq_fast]; kernel_rfl) (by decide +kernel) (by decide +kernel) (by decide +kernel)
    (by first | exact .inl (by decide +kernel) | exact .inr (by decide +kernel)) (by rw [isSubtype_type]; kernel_rfl)
theorem si_entry : entryFor table "set_iterator.__next__" = some Builtin.«set_iterator.__next__» := entryFor_of_tree (by kernel_rfl)
theorem si_args (a : Value) : argsOk "set_iterator.__next__" ⟨[a], []⟩ := by
  unfold argsOk; rw [signature?_of (id := "set_iterator.__next__") (n := ['_', '_', 't', 'x', 'e', 'n', '_', '_']) (o := ['r', 'o', 't', 'a', 'r', 'e', 't', 'i', '_', 't', 'e', 's']) (by kernel_rfl) si_owner]; kernel_rfl
theorem set_iter_entry : entryFor table "set.__iter__" = some Builtin.«frozenset.__iter__» :=
  entryFor_alias (id' := "frozenset.__iter__") (by kernel_rfl) rfl (by decide +kernel) (by kernel_rfl)
section
variable {prog : Program} {w : World} {A : Around} {E : Value → Shared → Prop} {s : Shared} {S : Addr}
theorem wp_choose {src : Source} {n : Nat} {Q : Nat → Shared → Prop} (hn : n ≠ 0) (h : ∀ i d, i < n → Q i { s with drawn := d }) : wpAny (model prog w) A (choose src n) Q E s := by
  intro Γ p _
  unfold choose
  rw [Sem.wp]
  refine ⟨hn, ?_⟩
  rw [Sem.wp]
  exact h _ _ (Nat.mod_lt _ (Nat.pos_of_ne_zero hn))
theorem perm_pick {α : Type} {xs ys : List α} {i : Nat} {y : α} (hi : xs[i]? = some y) (h : ys.Perm (xs.eraseIdx i)) : (y :: ys).Perm xs := by
  obtain ⟨hlt, rfl⟩ := List.getElem?_eq_some_iff.mp hi
  have e : xs = xs.take i ++ xs[i] :: xs.drop (i + 1) := by rw [← List.drop_eq_getElem_cons hlt, List.take_append_drop]
  have e2 : xs.eraseIdx i = xs.take i ++ xs.drop (i + 1) := List.eraseIdx_eq_take_drop_succ ..
  rw [e2] at h
  conv => rhs; rw [e]
  exact (h.cons _).trans List.perm_middle.symm
theorem draw_all {α : Type} : ∀ (n : Nat) (xs : List α) (s : Shared) {Q : List α → Shared → Prop}, xs.length ≤ n → (∀ ys d, ys.Perm xs → Q ys { s with drawn := d }) → wpAny (model prog w) A (drawOrder n xs) Q E s
  | 0, xs, s, Q, hn, h => by
    obtain rfl : xs = [] := List.length_eq_zero_iff.mp (Nat.le_zero.mp hn)
    exact wpAny_pure (h [] s.drawn (.refl _))
  | n + 1, [], s, Q, hn, h => wpAny_pure (h [] s.drawn (.refl _))
  | n + 1, x :: r, s, Q, hn, h => by
    show wpAny _ _ (choose .order (x :: r).length >>= _) _ _ _
    refine wpAny_bind (wp_choose (by simp) fun i d hi => ?_)
    rw [List.getElem?_eq_getElem hi]
    dsimp only
    refine wpAny_bind (draw_all n _ _ (by rw [List.length_eraseIdx_of_lt hi]; simp at hn ⊢; omega) fun ys d' hp => ?_)
    exact wpAny_pure (h _ d' (perm_pick (List.getElem?_eq_getElem hi) hp))
theorem pick_go {α : Type} (next : Nat → Nat) : ∀ (fuel k : Nat) (left : List α) (out : Array α), left.length ≤ fuel → (pickOrder.go next fuel k left out).toList.Perm (out.toList ++ left)
  | 0, k, left, out, h => by
    obtain rfl : left = [] := List.length_eq_zero_iff.mp (Nat.le_zero.mp h)
    rw [pickOrder.go]; simp
  | fuel + 1, k, [], out, h => by
    rw [pickOrder.go]; simp
  | fuel + 1, k, x :: r, out, h => by
    rw [pickOrder.go]
    have hlt : next k % (x :: r).length < (x :: r).length := Nat.mod_lt _ (by simp)
    rw [List.getElem?_eq_getElem hlt]
    dsimp only
    have ih := pick_go next fuel (k + 1) ((x :: r).eraseIdx (next k % (x :: r).length)) (out.push (x :: r)[next k % (x :: r).length]) (by rw [List.length_eraseIdx_of_lt hlt]; simp at h ⊢; omega)
    refine ih.trans ?_
    rw [Array.toList_push, List.append_assoc]
    exact List.Perm.append_left _ (perm_pick (List.getElem?_eq_getElem hlt) (.refl _))
theorem pick_perm {α : Type} (next : Nat → Nat) (xs : Array α) : (pickOrder next xs).toList.Perm xs.toList := by
  have := pick_go next xs.size 0 xs.toList #[] (by simp)
  simpa [pickOrder] using this
/-- the iterator of a set -/
def SetIt (h : Heap) (I S : Addr) (first : Value) (i n ep : Nat) : Prop := ∃ o, h.get? I = some o ∧ o.cls = .type "set_iterator" ∧ o.data = .fields #[first, .int i 0, .ref S, .int n 0, .int ep 0]
theorem SetIt.typeIs {I : Addr} {first : Value} {i n ep : Nat} (x : SetIt s.heap I S first i n ep) : s.TypeIs (.ref I) "set_iterator" := let ⟨o, ho, hc, _⟩ := x; ⟨o, ho, hc⟩
theorem set_fld {h : Heap} {I : Addr} {o : Obj} {arr : Array Value} (ho : h.get? I = some o) (hd : o.data = .fields arr) (k : Nat) (v : Value) :
    ∃ o', (h.update I (Obj.mapFields (·.setIfInBounds k v))).get? I = some o' ∧ o'.cls = o.cls ∧ o'.data = .fields (arr.setIfInBounds k v) :=
  ⟨_, Heap.get?_update_self _ ho (Obj.isFreed_of_fields (Obj.data_mapFields hd _)), Obj.cls_mapFields .., by rw [Obj.data_mapFields hd]⟩
variable {I : Addr} {i n ep : Nat} {o : Obj} {es : Array (Int × Value)} {t : SetTable}
/-- a step of an iterator by the table's places or by the world's list -/
theorem next_int {f nxt : Nat} {x : Value} {Q : Option Value → Shared → Prop} (hit : SetIt s.heap I S (.int f 0) i es.size ep) (ho : s.heap.get? S = some o) (hd : o.data = .set es ep t) (hf : t.fits es.size = true)
    (hstep : ∀ (B : Around) (Q' : Option (Value × Nat) → Shared → Prop) (E' : Value → Shared → Prop), Q' (some (x, nxt)) s → wpAny (model prog w) B (setNext S f i ep) Q' E' s)
    (hQ : ∀ h', SetIt h' I S (.int nxt 0) (i + 1) es.size ep → Heap.SameBut I s.heap h' → Q (some x) { s with heap := h' }) :
    wpAny (model prog w) A (pyNext (.ref I)) Q E s := by
  obtain ⟨oi, hoi, hci, hdi⟩ := id hit
  unfold pyNext
  refine wpAny_bind (wpAny_attempt (wpAny_callSpecial?_slot (name := Str.ofString "__next__") hit.typeIs si_slot
    (wpAny_call_entry si_slot hit.typeIs si_entry ?_ (si_args _))))
  unfold Builtin.«set_iterator.__next__»
  refine wpAny_bind (m := slotArgs "__next__" 0 _) (wpAny_pure ?_)
  refine wpAny_bind (wpAny_fieldsOf hoi hdi ?_)
  show wpAny _ _ (setEntries S >>= _) _ _ s
  refine wpAny_bind (wpAny_setEntries_of ho hd hf ?_)
  rw [if_neg (by simp)]
  show wpAny _ _ (setNext S ((f : Nat) : Int).toNat ((i : Nat) : Int).toNat ((ep : Nat) : Int).toNat >>= _) _ _ s
  simp only [Int.toNat_natCast]
  refine wpAny_bind (hstep _ _ _ ?_)
  show wpAny _ _ (setField (.ref I) 0 (rawInt nxt) >>= _) _ _ s
  refine wpAny_bind (wpAny_setField hoi hdi (by simp) ?_)
  obtain ⟨o1, ho1, hc1, hd1⟩ := set_fld hoi hdi 0 (rawInt nxt)
  show wpAny _ _ (setField (.ref I) 1 (rawInt ((i : Int) + 1)) >>= _) _ _ _
  refine wpAny_bind (wpAny_setField ho1 hd1 (by simp) ?_)
  obtain ⟨o2, ho2, hc2, hd2⟩ := set_fld ho1 hd1 1 (rawInt ((i : Int) + 1))
  refine wpAny_pure ⟨x, rfl, wpAny_pure (hQ _ ⟨o2, ho2, hc2.trans (hc1.trans hci), ?_⟩ ((Heap.SameBut.update ..).trans (Heap.SameBut.update ..)))⟩
  rw [hd2]; simp [rawInt]
theorem stop_next {h : Heap} (hh : A.handled = none) (B : Around) (hB : B.handled = none) {Q : Option Value → Shared → Prop} {P : PySem.Fin → Shared → Prop} (hQ : ∀ h', (∀ b o, s.heap.get? b = some o → h'.get? b = some o) → Q none { s with heap := h' }) :
    wpAny (model prog w) B (newExc (.type "StopIteration") [] >>= fun e => raiseNew e : Sem PySem.Fin) P (fun e s' => wpAny (model prog w) A (do if (← isInstance e (.type "StopIteration")) = true then pure none else throw e) Q E s') s := by
  refine wpAny_bind ?_
  simp only [newExc, newTuple]
  refine wpAny_bind (wpAny_newObj_type ?_ (by size_fits))
  refine wpAny_bind (m := firstArgMember _ _) (wpAny_of_eq (a := Value.none) (by first | rfl | (simp only [firstArgMember]; rfl)) ?_)
  refine wpAny_newObj_type ?_ (by size_fits)
  simp only [raiseNew]
  refine wpAny_bind (wpAny_handled ?_)
  rw [hB]
  refine wpAny_bind (wpAny_pure (wpAny_throw ?_))
  refine wpAny_bind (wpAny_isInstance (T := "StopIteration") (b := true) ⟨_, Heap.get?_push_size _ rfl, rfl⟩ isSubtype_stop ?_)
  rw [if_pos rfl]
  exact wpAny_pure (hQ _ fun b o e => Heap.get?_push_of_some _ (Heap.get?_push_of_some _ e))
theorem end_int_it {f : Nat} {Q : Option Value → Shared → Prop} (hh : A.handled = none) (hit : SetIt s.heap I S (.int f 0) i es.size ep) (ho : s.heap.get? S = some o) (hd : o.data = .set es ep t) (hf : t.fits es.size = true)
    (hstep : ∀ (B : Around) (Q' : Option (Value × Nat) → Shared → Prop) (E' : Value → Shared → Prop), Q' none s → wpAny (model prog w) B (setNext S f i ep) Q' E' s)
    (hQ : ∀ h', Heap.ExtBut I s.heap h' → Q none { s with heap := h' }) :
    wpAny (model prog w) A (pyNext (.ref I)) Q E s := by
  obtain ⟨oi, hoi, hci, hdi⟩ := id hit
  unfold pyNext
  refine wpAny_bind (wpAny_attempt (wpAny_callSpecial?_slot (name := Str.ofString "__next__") hit.typeIs si_slot
    (wpAny_call_entry si_slot hit.typeIs si_entry ?_ (si_args _))))
  unfold Builtin.«set_iterator.__next__»
  refine wpAny_bind (m := slotArgs "__next__" 0 _) (wpAny_pure ?_)
  refine wpAny_bind (wpAny_fieldsOf hoi hdi ?_)
  show wpAny _ _ (setEntries S >>= _) _ _ s
  refine wpAny_bind (wpAny_setEntries_of ho hd hf ?_)
  rw [if_neg (by simp)]
  show wpAny _ _ (setNext S ((f : Nat) : Int).toNat ((i : Nat) : Int).toNat ((ep : Nat) : Int).toNat >>= _) _ _ s
  simp only [Int.toNat_natCast]
  refine wpAny_bind (hstep _ _ _ ?_)
  show wpAny _ _ (setField (.ref I) 2 .none >>= _) _ _ s
  refine wpAny_bind (wpAny_setField hoi hdi (by simp) ?_)
  refine stop_next (s := { s with heap := s.heap.update I (Obj.mapFields (·.setIfInBounds 2 .none)) }) (h := s.heap) hh A.in1 (show A.in1.handled = none from hh) fun h' hk => hQ h' fun b o hb e => hk b o ((Heap.SameBut.update s.heap I _).extBut b o hb e)
end
end Mine

-- part SetE
set_option Elab.async false
set_option maxRecDepth 100000
set_option maxHeartbeats 4000000
set_option linter.unusedVariables false
namespace Mine
open PySem PySem.W PyProof.Rows PySem.Spec PySem.Calls
section
variable {prog : Program} {w : World} {A : Around} {E : Value → Shared → Prop} {s : Shared} {S I T : Addr} {i n ep : Nat} {o oT : Obj} {es : Array (Int × Value)} {t : SetTable} {places : Array Value} {c : Nat}
theorem next_drawn {j : Nat} {hx : Int} {x : Value} {Q : Option Value → Shared → Prop} (hit : SetIt s.heap I S (.ref T) i es.size ep) (ho : s.heap.get? S = some o) (hd : o.data = .set es ep t) (hf : t.fits es.size = true)
    (hoT : s.heap.get? T = some oT) (hdT : oT.data = .seq places c) (hj : places[i]? = some (.int j 0)) (hx : es[j]? = some (hx, x))
    (hQ : ∀ h', SetIt h' I S (.ref T) (i + 1) es.size ep → Heap.SameBut I s.heap h' → Q (some x) { s with heap := h' }) :
    wpAny (model prog w) A (pyNext (.ref I)) Q E s := by
  obtain ⟨oi, hoi, hci, hdi⟩ := id hit
  unfold pyNext
  refine wpAny_bind (wpAny_attempt (wpAny_callSpecial?_slot (name := Str.ofString "__next__") hit.typeIs si_slot
    (wpAny_call_entry si_slot hit.typeIs si_entry ?_ (si_args _))))
  unfold Builtin.«set_iterator.__next__»
  refine wpAny_bind (m := slotArgs "__next__" 0 _) (wpAny_pure ?_)
  refine wpAny_bind (wpAny_fieldsOf hoi hdi ?_)
  show wpAny _ _ (setEntries S >>= _) _ _ s
  refine wpAny_bind (wpAny_setEntries_of ho hd hf ?_)
  rw [if_neg (by simp)]
  show wpAny _ _ (seqItems? (.ref T) >>= _) _ _ s
  refine wpAny_bind (wpAny_seqItems hoT hdT ?_)
  simp only [Int.toNat_natCast, hj]
  unfold setNextDrawn
  refine wpAny_bind (wpAny_bind (wpAny_setState_of ho hd hf ?_))
  dsimp only
  rw [if_neg (by simp)]
  simp only [hx]
  refine wpAny_pure ?_
  refine wpAny_bind (wpAny_setField hoi hdi (by simp) ?_)
  obtain ⟨o1, ho1, hc1, hd1⟩ := set_fld hoi hdi 1 (rawInt ((i : Int) + 1))
  refine wpAny_pure ⟨x, rfl, wpAny_pure (hQ _ ⟨o1, ho1, hc1.trans hci, ?_⟩ (Heap.SameBut.update ..))⟩
  rw [hd1]; simp [rawInt]
theorem end_drawn {Q : Option Value → Shared → Prop} (hh : A.handled = none) (hit : SetIt s.heap I S (.ref T) i es.size ep) (ho : s.heap.get? S = some o) (hd : o.data = .set es ep t) (hf : t.fits es.size = true)
    (hoT : s.heap.get? T = some oT) (hdT : oT.data = .seq places c) (hj : places[i]? = none)
    (hQ : ∀ h', Heap.ExtBut I s.heap h' → Q none { s with heap := h' }) :
    wpAny (model prog w) A (pyNext (.ref I)) Q E s := by
  obtain ⟨oi, hoi, hci, hdi⟩ := id hit
  unfold pyNext
  refine wpAny_bind (wpAny_attempt (wpAny_callSpecial?_slot (name := Str.ofString "__next__") hit.typeIs si_slot
    (wpAny_call_entry si_slot hit.typeIs si_entry ?_ (si_args _))))
  unfold Builtin.«set_iterator.__next__»
  refine wpAny_bind (m := slotArgs "__next__" 0 _) (wpAny_pure ?_)
  refine wpAny_bind (wpAny_fieldsOf hoi hdi ?_)
  show wpAny _ _ (setEntries S >>= _) _ _ s
  refine wpAny_bind (wpAny_setEntries_of ho hd hf ?_)
  rw [if_neg (by simp)]
  show wpAny _ _ (seqItems? (.ref T) >>= _) _ _ s
  refine wpAny_bind (wpAny_seqItems hoT hdT ?_)
  simp only [Int.toNat_natCast, hj]
  refine wpAny_bind (wpAny_setField hoi hdi (by simp) ?_)
  obtain ⟨o1, ho1, hc1, hd1⟩ := set_fld hoi hdi 0 (rawInt 0)
  refine wpAny_bind (wpAny_setField ho1 hd1 (by simp) ?_)
  refine stop_next (s := { s with heap := (s.heap.update I (Obj.mapFields (·.setIfInBounds 0 (rawInt 0)))).update I (Obj.mapFields (·.setIfInBounds 2 .none)) }) (h := s.heap) hh A.in1 (show A.in1.handled = none from hh) fun h' hk => hQ h' fun b o hb e => hk b o (((Heap.SameBut.update s.heap I _).trans (Heap.SameBut.update _ I _)).extBut b o hb e)
theorem step_text {f : Nat} {Q : Option (Value × Nat) → Shared → Prop} (hb : w.params.followText "set-order" = true) (ho : s.heap.get? S = some o) (hd : o.data = .set es ep t) (hf : t.fits es.size = true)
    (h : Q ((pickOrder (w.params.setOrder S ep) es)[i]?.map fun e => (e.2, f)) s) : wpAny (model prog w) A (setNext S f i ep) Q E s := by
  unfold setNext
  refine wpAny_bind (wpAny_setState_of ho hd hf ?_)
  dsimp only
  unfold setsByText
  refine wpAny_bind (wpAny_bind (wpAny_askSetting (wpAny_pure ?_)))
  dsimp only
  rw [show (model prog w).w.params.followText "set-order" = true from hb, if_pos rfl, if_neg (by simp)]
  unfold setWalk
  refine wpAny_bind (wpAny_bind (wpAny_setState_of ho hd hf ?_))
  dsimp only
  unfold setsByText
  refine wpAny_bind (wpAny_bind (wpAny_askSetting (wpAny_pure ?_)))
  dsimp only
  rw [show (model prog w).w.params.followText "set-order" = true from hb, if_pos rfl]
  refine wpAny_bind (wpAny_askSetting (wpAny_pure ?_))
  exact wpAny_pure h
theorem step_place {f : Nat} {Q : Option (Value × Nat) → Shared → Prop} (hb : w.params.followText "set-order" = false) (ho : s.heap.get? S = some o) (hd : o.data = .set es ep t) (hf : t.fits es.size = true) (hled : t.led = true) (hsm : es.size ≤ 1)
    (h : Q (match es[SetTable.below t.place f]?, t.place[SetTable.below t.place f]? with | some (_, x), some j => some (x, j + 1) | _, _ => none) s) : wpAny (model prog w) A (setNext S f i ep) Q E s := by
  unfold setNext
  refine wpAny_bind (wpAny_setState_of ho hd hf ?_)
  dsimp only
  unfold setsByText
  refine wpAny_bind (wpAny_bind (wpAny_askSetting (wpAny_pure ?_)))
  dsimp only
  rw [show (model prog w).w.params.followText "set-order" = false from hb]
  simp only [Bool.false_eq_true, if_false]
  split
  · rename_i hq
    exfalso
    have : (!t.plain && decide (es.size > 1)) = true := hq
    simp only [Bool.and_eq_true, decide_eq_true_eq] at this
    omega
  · refine wpAny_bind (show wpAny _ _ (if (!t.led && !es.isEmpty) = true then unsupported "set:maker-not-led" else pure ()) _ _ _ from ?_)
    rw [if_neg (by simp [hled])]
    refine wpAny_pure ?_
    exact wpAny_pure h
end
end Mine

-- part SetF
set_option Elab.async false
set_option maxRecDepth 100000
set_option maxHeartbeats 4000000
set_option linter.unusedVariables false
namespace Mine
open PySem PySem.W PyProof.Rows PySem.Spec PySem.Calls
/-- an iterator of a set that stands ready: the texts that it will give, in some order -/
def Ready (prog : Program) (w : World) (S : Addr) (us : List Str) (s : Shared) (I : Addr) (s₂ : Shared) : Prop :=
  ∃ (fp : List Addr) (vs : List Value) (us' : List Str) (St : Nat → Shared → Prop) (h' : Heap) (d : Drawn), (∀ B : Around, B.handled = none → WalksS prog w B I fp [I] (fun a b => b = a) vs.length (fun i v => vs[i]? = some v) St) ∧ St 0 s₂ ∧ StrsAre vs us' ∧ us'.Perm us ∧
    s₂ = { s with heap := h', drawn := d } ∧ (∀ b o, s.heap.get? b = some o → h'.get? b = some o) ∧ (∀ b ∈ fp, b < h'.objs.size ∧ (b = S ∨ s.heap.objs.size ≤ b)) ∧ s₂.TypeIs (.ref I) "set_iterator"
section
variable {prog : Program} {w : World} {A : Around} {E : Value → Shared → Prop} {s : Shared} {S I T : Addr} {ep : Nat} {o oT : Obj} {es : Array (Int × Value)} {t : SetTable} {places : Array Value} {c : Nat}
theorem si_iter_slot : Slot "set_iterator" "__iter__" "set_iterator.__iter__" :=
  .of (owner := "set_iterator") (n := "__iter__") (by rw [typeLookup_type, builtinLookup_eq_fast]; kernel_rfl) (by decide +kernel) (by decide +kernel) (by decide +kernel)
    (by first | exact .inl (by decide +kernel) | exact .inr (by decide +kernel)) (by rw [isSubtype_type]; kernel_rfl)
theorem si_iter_entry : entryFor table "set_iterator.__iter__" = some Builtin.«dict_keyiterator.__iter__» :=
  entryFor_alias (id' := "dict_keyiterator.__iter__") (by kernel_rfl) rfl (by decide +kernel) (by kernel_rfl)
theorem si_iter_args (a : Value) : argsOk "set_iterator.__iter__" ⟨[a], []⟩ := by
  unfold argsOk; rw [signature?_of (id := "set_iterator.__iter__") (n := ['_', '_', 'r', 'e', 't', 'i', '_', '_']) (o := ['r', 'o', 't', 'a', 'r', 'e', 't', 'i', '_', 't', 'e', 's']) (by kernel_rfl) si_owner]; kernel_rfl
theorem iter_self {first : Value} {i n : Nat} {Q : Value → Shared → Prop} (hit : SetIt s.heap I S first i n ep) (h : Q (.ref I) s) : wpAny (model prog w) A (pyIter (.ref I)) Q E s := by
  refine wpAny_pyIter_slot hit.typeIs si_iter_slot (wpAny_call_entry si_iter_slot hit.typeIs si_iter_entry ?_ (si_iter_args _))
  show wpAny _ _ (ret (.ref I)) _ _ s
  exact wpAny_pure ⟨_, rfl, "set_iterator", _, hit.typeIs, si_slot.lookup, h⟩
theorem SetIt.same {h h' : Heap} {first : Value} {i n : Nat} (x : SetIt h I S first i n ep) (k : ∀ o, h.get? I = some o → h'.get? I = some o) : SetIt h' I S first i n ep := by
  obtain ⟨o, ho, r⟩ := x; exact ⟨o, k o ho, r⟩
theorem vals_get {vs : List Value} {i : Nat} (h : i < vs.length) : vs[i]? = some vs[i] := List.getElem?_eq_getElem h
/-- the walk by the world's text -/
theorem walk_text {B : Around} (hh : B.handled = none) (hb : w.params.followText "set-order" = true) (hne : S ≠ I) (hd : o.data = .set es ep t) (hf : t.fits es.size = true) :
    WalksS prog w B I [I, S] [I] (fun a b => b = a) ((pickOrder (w.params.setOrder S ep) es).toList.map (·.2)).length (fun i v => ((pickOrder (w.params.setOrder S ep) es).toList.map (·.2))[i]? = some v) (fun i s => SetIt s.heap I S (.int (0 : Nat) 0) i es.size ep ∧ s.heap.get? S = some o) where
  sub := fun b hb => by simp at hb; simp [hb]
  grefl := fun _ => rfl
  gtrans := fun _ _ _ h1 h2 => h2.trans h1
  frame := fun i s h' tk st _ hk => ⟨st.1.same fun o e => hk I (by simp) o e, hk S (by simp) o st.2⟩
  item := fun i s Q E hi st hQ => by
    have hi' : i < (pickOrder (w.params.setOrder S ep) es).toList.length := by simpa using hi
    have hg : (pickOrder (w.params.setOrder S ep) es)[i]? = some ((pickOrder (w.params.setOrder S ep) es).toList[i]) := by rw [← Array.getElem?_toList]; exact List.getElem?_eq_getElem hi'
    refine next_int (f := 0) (nxt := 0) (x := ((pickOrder (w.params.setOrder S ep) es).toList[i]).2) st.1 st.2 hd hf (fun B Q' E' hq => step_text hb st.2 hd hf (by rw [hg]; exact hq)) fun h' hit hsb => ?_
    exact hQ _ _ (by rw [List.getElem?_map, List.getElem?_eq_getElem hi']; rfl) ⟨hit, hsb.extBut S o hne st.2⟩ ⟨fun b o hb e => hsb.extBut b o (fun h => hb (by simp [h])) e, rfl, rfl, rfl, Nat.le_refl _⟩
  done := fun s Q E st hQ => by
    have hg : (pickOrder (w.params.setOrder S ep) es)[((pickOrder (w.params.setOrder S ep) es).toList.map (·.2)).length]? = none := by simp
    exact end_int_it (f := 0) hh st.1 st.2 hd hf (fun B Q' E' hq => step_text hb st.2 hd hf (by rw [hg]; exact hq)) fun h' he => hQ _ ⟨fun b o hb e => he b o (fun h => hb (by simp [h])) e, rfl, rfl, rfl, Nat.le_refl _⟩
  self := fun i s Q E st hQ => iter_self st.1 hQ
/-- the walk by the world's list -/
theorem walk_drawn {B : Around} {ys : List Nat} (hh : B.handled = none) (hne : S ≠ I) (hneT : T ≠ I) (hd : o.data = .set es ep t) (hf : t.fits es.size = true) (hdT : oT.data = .seq (ys.map fun (j : Nat) => rawInt j).toArray c) (hys : ∀ j ∈ ys, j < es.size) :
    WalksS prog w B I [I, S, T] [I] (fun a b => b = a) (ys.map fun j => (es.getD j (0, .none)).2).length (fun i v => (ys.map fun j => (es.getD j (0, .none)).2)[i]? = some v) (fun i s => SetIt s.heap I S (.ref T) i es.size ep ∧ s.heap.get? S = some o ∧ s.heap.get? T = some oT) where
  sub := fun b hb => by simp at hb; simp [hb]
  grefl := fun _ => rfl
  gtrans := fun _ _ _ h1 h2 => h2.trans h1
  frame := fun i s h' tk st _ hk => ⟨st.1.same fun o e => hk I (by simp) o e, hk S (by simp) o st.2.1, hk T (by simp) oT st.2.2⟩
  item := fun i s Q E hi st hQ => by
    have hi' : i < ys.length := by simpa using hi
    have hj : ys[i] < es.size := hys _ (List.getElem_mem hi')
    refine next_drawn (j := ys[i]) (hx := (es[ys[i]]).1) (x := (es[ys[i]]).2) st.1 st.2.1 hd hf st.2.2 hdT (by simp [hi', rawInt]) (by simp [hj]) fun h' hit hsb => ?_
    exact hQ _ _ (by rw [List.getElem?_map, List.getElem?_eq_getElem hi']; simp [hj]) ⟨hit, hsb.extBut S o hne st.2.1, hsb.extBut T oT hneT st.2.2⟩ ⟨fun b o hb e => hsb.extBut b o (fun h => hb (by simp [h])) e, rfl, rfl, rfl, Nat.le_refl _⟩
  done := fun s Q E st hQ => by
    exact end_drawn hh st.1 st.2.1 hd hf st.2.2 hdT (by simp) fun h' he => hQ _ ⟨fun b o hb e => he b o (fun h => hb (by simp [h])) e, rfl, rfl, rfl, Nat.le_refl _⟩
  self := fun i s Q E st hQ => iter_self st.1 hQ
theorem below_zero (xs : Array Nat) (h : xs.size ≤ 1) : SetTable.below xs 0 = 0 := by
  unfold SetTable.below
  have : xs.size = 0 ∨ xs.size = 1 := by omega
  rcases this with e | e
  · rw [e]; rfl
  · rw [e]; simp [SetTable.below.go]
theorem below_next (xs : Array Nat) (j : Nat) (h : xs.size = 1) (hj : xs[0]? = some j) : SetTable.below xs (j + 1) = 1 := by
  unfold SetTable.below
  rw [h]
  have : xs.getD 0 (j + 1) = j := by simp [Array.getD_eq_getD_getElem?, hj]
  simp [SetTable.below.go, Array.getD_eq_getD_getElem?, hj]
/-- the walk of none or one by the table's places -/
theorem walk_place {B : Around} (hh : B.handled = none) (hb : w.params.followText "set-order" = false) (hne : S ≠ I) (hd : o.data = .set es ep t) (hf : t.fits es.size = true) (hled : t.led = true) (hsm : es.size ≤ 1) :
    WalksS prog w B I [I, S] [I] (fun a b => b = a) (es.toList.map (·.2)).length (fun i v => (es.toList.map (·.2))[i]? = some v)
      (fun i s => (∃ f : Nat, SetIt s.heap I S (.int f 0) i es.size ep ∧ ((i = 0 ∧ f = 0) ∨ (0 < i ∧ ∃ j, t.place[0]? = some j ∧ f = j + 1))) ∧ s.heap.get? S = some o) := by
  have hps : t.place.size = es.size := by
    simp only [SetTable.fits, Bool.and_eq_true, beq_iff_eq] at hf; exact hf.1
  exact {
  sub := fun b hb => by simp at hb; simp [hb]
  grefl := fun _ => rfl
  gtrans := fun _ _ _ h1 h2 => h2.trans h1
  frame := fun i s h' tk st _ hk => by
    obtain ⟨⟨f, h1, h2⟩, h3⟩ := st
    exact ⟨⟨f, h1.same fun o e => hk I (by simp) o e, h2⟩, hk S (by simp) o h3⟩
  item := fun i s Q E hi st hQ => by
    obtain ⟨⟨f, h1, h2⟩, h3⟩ := st
    have hi' : i < es.size := by simpa using hi
    obtain rfl : i = 0 := by omega
    have hes : es.size = 1 := by omega
    have hpl : t.place[0]? = some (t.place[0]'(by omega)) := by simp [hps, hes]
    rcases h2 with ⟨_, rfl⟩ | ⟨h4, j, hj, rfl⟩
    · refine next_int (f := 0) (nxt := t.place[0]'(by omega) + 1) (x := (es[0]).2) h1 h3 hd hf (fun B Q' E' hq => step_place hb h3 hd hf hled hsm (by rw [below_zero _ (by omega), hpl]; simpa [hes] using hq)) fun h' hit hsb => ?_
      exact hQ _ _ (by simp [hes]) ⟨⟨_, hit, .inr ⟨Nat.succ_pos _, _, hpl, rfl⟩⟩, hsb.extBut S o hne h3⟩ ⟨fun b o hb e => hsb.extBut b o (fun h => hb (by simp [h])) e, rfl, rfl, rfl, Nat.le_refl _⟩
    · exact absurd h4 (Nat.lt_irrefl _)
  done := fun s Q E st hQ => by
    obtain ⟨⟨f, h1, h2⟩, h3⟩ := st
    have e1 : (es.toList.map (·.2)).length = es.size := by simp
    rw [e1] at h1 h2
    refine end_int_it (f := f) hh h1 h3 hd hf (fun B Q' E' hq => step_place hb h3 hd hf hled hsm ?_) fun h' he => hQ _ ⟨fun b o hb e => he b o (fun h => hb (by simp [h])) e, rfl, rfl, rfl, Nat.le_refl _⟩
    rcases h2 with ⟨h4, rfl⟩ | ⟨_, j, hj, rfl⟩
    · rw [below_zero _ (by omega)]
      simpa [h4] using hq
    · have hes : es.size = 1 := by
        have := (Array.getElem?_eq_some_iff.mp hj).1
        omega
      rw [below_next _ j (by omega) hj]
      simpa [hes] using hq
  self := fun i s Q E st hQ => by
    obtain ⟨⟨f, h1, h2⟩, h3⟩ := st
    exact iter_self h1 hQ }
theorem iter_set {us : List Str} {Q : Value → Shared → Prop} (hS : SetAt prog w s.heap S us) (h : ∀ I s₂, Ready prog w S us s I s₂ → Q (.ref I) s₂) : wpAny (model prog w) A (pyIter (.ref S)) Q E s := by
  obtain ⟨o, es, ep, t, ho, hex, hd, hel, hf, hled, hpl, hs, hnd, hb⟩ := hS
  have hT : s.TypeIs (.ref S) "set" := ⟨o, ho, hex.1⟩
  have hSl : S < s.heap.objs.size := Heap.lt_size ho
  refine wpAny_pyIter_slot hT F.slot_set_iter (wpAny_call_entry F.slot_set_iter hT set_iter_entry ?_ (F.args_set_iter_1 _))
  unfold Builtin.«frozenset.__iter__» Builtin.Frozenset.slot0
  refine wpAny_bind (m := slotArgs "__iter__" 0 _ >>= _) (wpAny_bind (wpAny_pure ?_))
  show wpAny _ _ (pure S) _ _ _
  refine wpAny_pure ?_
  unfold Builtin.Frozenset.sizeOf
  refine wpAny_bind (wpAny_bind (wpAny_setEntries_of ho hd hf (wpAny_pure ?_)))
  unfold setDrawn
  refine wpAny_bind (wpAny_bind (wpAny_setState_of ho hd hf ?_))
  dsimp only
  unfold setsByText
  refine wpAny_bind (wpAny_bind (wpAny_askSetting (wpAny_pure ?_)))
  dsimp only
  refine wpAny_pure ?_
  split
  · rename_i hc
    have hc2 : ((!w.params.followText "set-order") && (!t.plain && decide (es.size > 1))) = true := hc
    simp only [Bool.and_eq_true, Bool.not_eq_true', decide_eq_true_eq] at hc2
    refine wpAny_bind (draw_all _ _ _ (by simp) fun ys d hp => ?_)
    unfold newTuple
    refine wpAny_bind (wpAny_newObj_type ?_ (by
      have h1 := hp.length_eq
      have h2 : es.size ≤ sizeLine := fits_of_scanBound (by rw [← Array.length_toList, ← List.length_map (f := (·.2)), hs.length]; exact hb)
      simp only [List.length_range] at h1
      show (List.map (fun i : Nat => rawInt i) ys).toArray.size ≤ sizeLine
      rw [List.size_toArray, List.length_map, h1]
      exact h2))
    refine wpAny_bind (wpAny_setEpoch_of (s := { s with heap := s.heap.push { cls := .type "tuple", data := .seq (ys.map fun (j : Nat) => rawInt j).toArray }, drawn := d }) (Heap.get?_push_of_some _ ho) hd hf ?_)
    generalize hoT : ({ cls := .type "tuple", data := .seq (ys.map fun (j : Nat) => rawInt j).toArray } : Obj) = oT
    refine wpAny_bind (wpAny_newObj_type (wpAny_pure ⟨_, rfl, "set_iterator", _, ⟨_, Heap.get?_push_size _ rfl, rfl⟩, si_slot.lookup, ?_⟩))
    generalize hob : ({ cls := .type "set_iterator", data := .fields _ } : Obj) = ob
    have hszT : (s.heap.push oT).objs.size = s.heap.objs.size + 1 := Heap.size_push ..
    have hszI : ((s.heap.push oT).push ob).objs.size = s.heap.objs.size + 1 + 1 := by rw [Heap.size_push, hszT]
    have hI : ((s.heap.push oT).push ob).get? (s.heap.push oT).objs.size = some ob := Heap.get?_push_size _ (by rw [← hob]; rfl)
    have hTg : ((s.heap.push oT).push ob).get? s.heap.objs.size = some oT := Heap.get?_push_of_some _ (Heap.get?_push_size _ (by rw [← hoT]; rfl))
    have hit : SetIt ((s.heap.push oT).push ob) (s.heap.push oT).objs.size S (.ref s.heap.objs.size) 0 es.size ep := ⟨ob, hI, by rw [← hob], by rw [← hob]; rfl⟩
    have hne : S ≠ (s.heap.push oT).objs.size := by rw [hszT]; exact Nat.ne_of_lt (Nat.lt_succ_of_lt hSl)
    have hneT : s.heap.objs.size ≠ (s.heap.push oT).objs.size := by rw [hszT]; exact Nat.ne_of_lt (Nat.lt_succ_self _)
    have hS2 : ((s.heap.push oT).push ob).get? S = some o := Heap.get?_push_of_some _ (Heap.get?_push_of_some _ ho)
    have hfp : ∀ b ∈ [(s.heap.push oT).objs.size, S, s.heap.objs.size], b < ((s.heap.push oT).push ob).objs.size ∧ (b = S ∨ s.heap.objs.size ≤ b) := fun b hb => by
      rw [hszI]
      rw [hszT] at hb
      simp only [List.mem_cons, List.not_mem_nil, or_false] at hb
      rcases hb with rfl | rfl | rfl
      · exact ⟨Nat.lt_succ_self _, .inr (Nat.le_succ _)⟩
      · exact ⟨Nat.lt_succ_of_lt (Nat.lt_succ_of_lt hSl), .inl rfl⟩
      · exact ⟨Nat.lt_succ_of_lt (Nat.lt_succ_self _), .inr (Nat.le_refl _)⟩
    have hys : ∀ j ∈ ys, j < es.size := fun j hj => List.mem_range.mp (hp.mem_iff.mp hj)
    have hord : (ys.map fun j => (es.getD j (0, .none)).2).Perm (es.toList.map (·.2)) := by
      have h1 := hp.map fun j => (es.getD j (0, .none)).2
      refine h1.trans (.of_eq ?_)
      apply List.ext_getElem (by simp)
      intro i h2 h3
      simp at h2 h3
      simp [h2]
    obtain ⟨us', h1, h2⟩ := strs_perm hs hord
    exact h _ _ ⟨_, _, us', _, _, d, fun B hB => walk_drawn hB hne hneT hd hf (by rw [← hoT]) hys, ⟨hit, hS2, hTg⟩, h1, h2, rfl, fun b o e => Heap.get?_push_of_some _ (Heap.get?_push_of_some _ e), hfp, ⟨ob, hI, by rw [← hob]⟩⟩
  · rename_i hc
    refine wpAny_bind (wpAny_pure ?_)
    refine wpAny_bind (wpAny_setEpoch_of ho hd hf ?_)
    refine wpAny_bind (wpAny_newObj_type (wpAny_pure ⟨_, rfl, "set_iterator", _, ⟨_, Heap.get?_push_size _ rfl, rfl⟩, si_slot.lookup, ?_⟩))
    generalize hob : ({ cls := .type "set_iterator", data := .fields _ } : Obj) = ob
    have hI : (s.heap.push ob).get? s.heap.objs.size = some ob := Heap.get?_push_size _ (by rw [← hob]; rfl)
    have hit : SetIt (s.heap.push ob) s.heap.objs.size S (.int (0 : Nat) 0) 0 es.size ep := ⟨ob, hI, by rw [← hob], by rw [← hob]; rfl⟩
    have hne : S ≠ s.heap.objs.size := Nat.ne_of_lt hSl
    have hS2 : (s.heap.push ob).get? S = some o := Heap.get?_push_of_some _ ho
    have hsz : (s.heap.push ob).objs.size = s.heap.objs.size + 1 := Heap.size_push ..
    have hfp : ∀ b ∈ [s.heap.objs.size, S], b < (s.heap.push ob).objs.size ∧ (b = S ∨ s.heap.objs.size ≤ b) := fun b hb => by
      rw [hsz]
      simp only [List.mem_cons, List.not_mem_nil, or_false] at hb
      rcases hb with rfl | rfl
      · exact ⟨Nat.lt_succ_self _, .inr (Nat.le_refl _)⟩
      · exact ⟨Nat.lt_succ_of_lt hSl, .inl rfl⟩
    by_cases hbt : w.params.followText "set-order" = true
    · obtain ⟨us', h1, h2⟩ := strs_perm hs ((pick_perm (w.params.setOrder S ep) es).map (·.2))
      exact h _ _ ⟨_, _, us', _, _, s.drawn, fun B hB => walk_text hB hbt hne hd hf, ⟨hit, hS2⟩, h1, h2, rfl, fun b o e => Heap.get?_push_of_some _ e, hfp, ⟨ob, hI, by rw [← hob]⟩⟩
    · have hbf : w.params.followText "set-order" = false := by simpa using hbt
      have hsm : es.size ≤ 1 := by
        rcases hpl with q | q
        · omega
        · have hc2 : ¬ ((!w.params.followText "set-order") && (!t.plain && decide (es.size > 1))) = true := hc
          rw [hbf, q] at hc2
          simpa using hc2
      exact h _ _ ⟨_, _, us, _, _, s.drawn, fun B hB => walk_place hB hbf hne hd hf (by rw [hled, hbf]; rfl) hsm, ⟨⟨0, hit, .inl ⟨rfl, rfl⟩⟩, hS2⟩, hs, .refl _, rfl, fun b o e => Heap.get?_push_of_some _ e, hfp, ⟨ob, hI, by rw [← hob]⟩⟩
end
end Mine

-- part SetG
set_option Elab.async false
set_option maxRecDepth 100000
set_option maxHeartbeats 4000000
set_option linter.unusedVariables false
namespace Mine
open PySem PySem.W PyProof.Rows PySem.Spec PySem.Calls
section
variable {prog : Program} {w : World} {A : Around} {E : Value → Shared → Prop} {s : Shared} {S : Addr}
theorem collect_set {us : List Str} {Q : List Value → Shared → Prop} (hh : A.handled = none) (hS : SetAt prog w s.heap S us)
    (h : ∀ vs us' h' tk d, StrsAre vs us' → us'.Perm us → (∀ b o, s.heap.get? b = some o → h'.get? b = some o) → s.heap.objs.size < h'.objs.size → Q vs { s with heap := h', toks := tk, drawn := d }) :
    wpAny (model prog w) A (collect (.ref S)) Q E s := by
  have hSl : S < s.heap.objs.size := by obtain ⟨o, es, ep, t, ho, _⟩ := hS; exact Heap.lt_size ho
  have hSne : s.heap.objs.size ≠ S := Nat.ne_of_gt hSl
  have hlen : us.length ≤ sizeLine := by
    obtain ⟨o, es, ep, t, ho, _, _, _, _, _, _, _, _, hb⟩ := hS
    exact fits_of_scanBound hb
  unfold collect
  refine wpAny_bind (wpAny_runValue (codeAny_builtin PySem.F.entry_proto_collect ?_))
  rw [Around.under_plainId PySem.F.plain_proto_collect _]
  show wpAny _ A.in1 (newList [] >>= fun l => again (.builtin "list.__iadd__" ⟨[l, .ref S], []⟩)) _ _ s
  refine wpAny_bind (wpAny_newObj_type ?_)
  refine wpAny_pure ⟨plainId_quiet PySem.F.plain_list_iadd _, codeAny_builtin PySem.F.entry_list_iadd ?_⟩
  rw [Around.under_plainId PySem.F.plain_list_iadd _]
  show wpAny _ A.in1 (Builtin.List.listExtendWith (.ref s.heap.objs.size) (.ref S) (.ref s.heap.objs.size)) _ _ _
  generalize hlo : ({ cls := .type "list", data := .seq ([] : List Value).toArray } : Obj) = lo
  have hlo1 : (s.heap.push lo).get? s.heap.objs.size = some lo := Heap.get?_push_size _ (by rw [← hlo]; rfl)
  have hS1 : SetAt prog w (s.heap.push lo) S us := hS.keep fun o e => Heap.get?_push_of_some _ e
  have hT1 : Shared.TypeIs { s with heap := s.heap.push lo } (.ref S) "set" := by obtain ⟨o, es, ep, t, ho, hex, _⟩ := hS1; exact ⟨o, ho, hex.1⟩
  unfold Builtin.List.listExtendWith
  refine wpAny_bind (wpAny_typeOf hT1 ?_)
  have h1 : Builtin.List.listSameRef (.ref s.heap.objs.size) (.ref S) = false := by simp [Builtin.List.listSameRef, hSne]
  have h2 : (Value.type "set" == Value.type "list") = false := by decide
  have h3 : (Value.type "set" == Value.type "tuple") = false := by decide
  simp only [h1, h2, h3, Bool.or_false, Bool.false_eq_true, if_false]
  refine wpAny_bind (iter_set hS1 fun I s₂ hR => ?_)
  obtain ⟨fp, vs, us', St, h', d, hW, hst, hvs, hp, rfl, hk, hfp, hTI⟩ := hR
  have hT2 : Shared.TypeIs { s with heap := h', drawn := d } (.ref S) "set" := by obtain ⟨o, ho, hc⟩ := hT1; exact ⟨o, hk _ _ ho, hc⟩
  refine wpAny_bind (wpAny_holding ?_)
  unfold Builtin.List.listLengthHint
  refine wpAny_bind (wpAny_specialOf hT2 F.slot_set_len.lookup ?_)
  wp_delta
  refine wpAny_bind (wpAny_isInstance hT2 (b := true) (by rw [isSubtype_type]; kernel_rfl) ?_)
  show wpAny _ A.in1 (typeOf (Value.ref S) >>= _) _ _ _
  refine wpAny_bind (wpAny_typeOf hT2 ?_)
  refine wpAny_pure ?_
  rw [if_pos (by decide +kernel)]
  refine wpAny_bind (wpAny_rule ?_)
  have hlo2 : h'.get? s.heap.objs.size = some lo := hk _ _ hlo1
  have hlo2' : h'.get? s.heap.objs.size = some { cls := .type "list", data := .seq ([] : List Value).toArray } := by rw [hlo]; exact hlo2
  refine wpAny_bind ?_
  show wpAny _ A.in1 (updateSeq s.heap.objs.size (·.push .none) >>= fun _ => updateSeq s.heap.objs.size (·.pop)) _ _ _
  refine wpAny_bind (wpAny_updateSeq hlo2' rfl ?_)
  have hlo3 := Heap.get?_update_self (Obj.mapSeq (·.push Value.none)) hlo2' rfl
  refine wpAny_updateSeq hlo3 rfl ?_
  have hlo4 := Heap.get?_update_self (Obj.mapSeq (·.pop)) hlo3 rfl
  have hLf : s.heap.objs.size ∉ fp := fun hm => by
    rcases (hfp _ hm).2 with e | e
    · exact hSne e
    · have e2 : (s.heap.push lo).objs.size ≤ s.heap.objs.size := e
      rw [Heap.size_push] at e2
      exact absurd e2 (Nat.not_succ_le_self _)
  have oth : ∀ b o, b ≠ s.heap.objs.size → h'.get? b = some o → ((h'.update s.heap.objs.size (Obj.mapSeq (·.push Value.none))).update s.heap.objs.size (Obj.mapSeq (·.pop))).get? b = some o :=
    fun b o hb e => (Heap.get?_update_other _ _ (Ne.symm hb)).trans ((Heap.get?_update_other _ _ (Ne.symm hb)).trans e)
  have hvl : vs.length ≤ sizeLine := by rw [hvs.length, hp.length_eq]; exact hlen
  have hWB := hW A.in1 (show A.in1.handled = none from hh)
  have hst2 := hWB.frame 0 _ ((h'.update s.heap.objs.size (Obj.mapSeq (·.push Value.none))).update s.heap.objs.size (Obj.mapSeq (·.pop))) s.toks hst (Nat.le_refl _) fun b hb o e => oth b o (fun q => hLf (q ▸ hb)) e
  refine wpAny_pure ⟨plainId_quiet PySem.F.plain_extend_loop _, codeAny_extend_loopS hWB hvl _ hLf _ vs.length 0 _ _ _ rfl (Nat.zero_le _)
    hst2 hlo4 (ItemsOf.nil _) fun s' acc' c' hm hS' hacc => ?_⟩
  show wpAny _ A (load s.heap.objs.size >>= _) _ _ s'
  refine wpAny_bind (wpAny_load hS' ?_)
  obtain ⟨h9, g9, d9, tk9, os9⟩ := s'
  obtain rfl : g9 = s.gens := hm.gens
  obtain rfl : d9 = d := hm.drawn
  obtain rfl : os9 = s.os := hm.os
  have hav : acc'.toList = vs := by
    apply List.ext_getElem?
    intro j
    have hsz : acc'.size = vs.length := hacc.1
    by_cases hj : j < vs.length
    · have e : acc'[j]? = some (acc'[j]'(by omega)) := by simp [hsz, hj]
      rw [Array.getElem?_toList, e, hacc.2 j _ e]
    · rw [List.getElem?_eq_none (by simp; omega), List.getElem?_eq_none (by omega)]
  refine wpAny_pure ?_
  show Q acc'.toList _
  rw [hav]
  refine h vs us' h9 tk9 d9 hvs hp (fun b o e => ?_) (Heap.lt_size hS')
  have hb : b < s.heap.objs.size := Heap.lt_size e
  refine hm.heap b o ?_ (oth b o (Nat.ne_of_lt hb) (hk b o (Heap.get?_push_of_some _ e)))
  have hbI : b ≠ I := by
    rintro rfl
    rcases (hfp _ (hWB.sub _ (List.mem_singleton.mpr rfl))).2 with q | q
    · obtain ⟨o1, g1, c1⟩ := hTI
      obtain ⟨o2, g2, c2⟩ := hT2
      rw [← q, g1] at g2
      cases g2
      rw [c1] at c2
      exact absurd c2 (by decide)
    · have e2 : (s.heap.push lo).objs.size ≤ b := q
      rw [Heap.size_push] at e2
      exact absurd hb (Nat.not_lt.mpr (Nat.le_of_succ_le e2))
  simp only [List.mem_cons, List.not_mem_nil, or_false, not_or]
  exact ⟨Nat.ne_of_lt hb, hbI⟩
end
end Mine

-- part SetH
set_option Elab.async false
set_option maxRecDepth 100000
set_option maxHeartbeats 4000000
set_option linter.unusedVariables false
namespace Mine
open PySem PySem.W PyProof.Rows PySem.Spec PySem.Calls
section
variable {prog : Program} {w : World} {A : Around} {E : Value → Shared → Prop} {s : Shared} {S : Addr}
theorem sorted_set {us : List Str} {Q : Value → Shared → Prop} (hh : A.handled = none) (hS : SetAt prog w s.heap S us) (h64 : us.length < 64)
    (h : ∀ D out us' h' tk d e, StrsAre out us' → us'.Perm us → sortedS us' = true → (∀ b o, s.heap.get? b = some o → h'.get? b = some o) → h'.get? D = some (seqObj "list" out.toArray e) → s.heap.objs.size ≤ D → Q (.ref D) { s with heap := h', toks := tk, drawn := d }) :
    wpAny (model prog w) A (call (.builtin "sorted") [.ref S]) Q E s := by
  refine Calls.call_function_entry kind_sorted plain_sorted entry_sorted (args_sorted1 _) ?_
  unfold Builtin.«sorted»
  refine wpAny_bind (m := checkCount "sorted" 1 1 _) (wpAny_pure ?_)
  refine wpAny_bind (collect_set (show A.in1.handled = none from hh) hS fun vs us1 h1 tk d hvs hp hk hlt1 => ?_)
  refine wpAny_bind (wpAny_newList (hsz := by rw [hvs.length, hp.length_eq]; exact fits_of_scanBound (Nat.lt_trans h64 (by decide))) ?_)
  have hl64 : vs.length < 64 := by rw [hvs.length, hp.length_eq]; exact h64
  have hge : s.heap.objs.size ≤ h1.objs.size := Nat.le_of_lt hlt1
  have hoL : (h1.push (seqObj "list" vs.toArray 0)).get? h1.objs.size = some (seqObj "list" vs.toArray 0) := Heap.get?_push_size _ rfl
  refine wpAny_bind (wpAny_holding (wpAny_call_entry slot_list_sort ⟨_, hoL, rfl⟩ entry_list_sort (list_sort_treeK strKind_oneLt hoL hvs.keysOf (fun v₁ v₂ rest e => keyKind_strs (by rw [← e]; exact hvs)) hl64 fun st' a1 a2 => ⟨_, rfl, ?_⟩) (args_list_sort _)))
  obtain ⟨us2, h2, h3, h4⟩ := sorted_out_str hvs a1 a2
  obtain ⟨e, he⟩ : ∃ e, (sortedHeap (h1.push (seqObj "list" vs.toArray 0)) h1.objs.size vs ((arrOf st').map (·.2))).get? h1.objs.size = some (seqObj "list" ((arrOf st').map (·.2)) e) := sortedHeap_at hoL
  refine wpAny_pure ⟨_, rfl, h h1.objs.size ((arrOf st').map (·.2)).toList us2 _ tk d e h2 (h3.trans hp) h4 (fun b o q => ?_) (by rw [Array.toArray_toList]; exact he) hge⟩
  have hb : b < h1.objs.size := Heap.lt_size (hk b o q)
  rw [sortedHeap_old (Nat.ne_of_lt hb) (by rw [Heap.size_push]; exact Nat.lt_succ_of_lt hb)]
  exact Heap.get?_push_of_some _ (hk b o q)
end
end Mine

-- part Body14
set_option Elab.async false
set_option maxRecDepth 100000
set_option maxHeartbeats 1600000
set_option linter.unusedVariables false
namespace Mine
open PySem PySem.W PyProof.Rows PySem.Spec PySem.Calls
open PyProof.Rows.LCg (NsObj ns_obj lst lst_snoc Off3 Off1 CompEnd fr_but news_but SrcAt FinE FinA)
local macro_rules | `(tactic| walk_at "call ref") => `(tactic| (k_here; (with_reducible show wpAny _ _ (call (Value.ref 140) [Value.str _ _]) _ _ _); k_dflt (refine Spec1.use (mirror_spec _ _ _ (by first | assumption | omega)) (by k_asm) (by k_asm) (by k_asm) (by k_asm) (by k_asm) (by first | exact rfl | assumption) (by ktr_room) (by ktr_units) ?_); intro t9 h9 tk9 F9 N9; (try dsimp only)))
local macro_rules | `(tactic| walk_at "eval ListComp") => `(tactic| (k_here; k_dflt (refine eval_compF (by k_asm) (by rfl) (by decide) (by rfl) (by decide) (by rfl) ?_)))
section
variable {w : World} {p : Program} {loose : List Str} {mean : ExcName → Option Value} {mg mb : Str → Option Value} {dp un : Nat} {gd : Option (List Code)} {outer : List Env} {A₀ : Around} {base h₀ : Heap} {L fa : Addr} {cd : Value} {s : Shared} {Q : Flow → Shared → Prop} {E : Value → Shared → Prop} {m : Str → Option Value} {news : List (Addr × Obj)}
theorem st_row2 (B : Below A₀ base outer h₀) (X : (heapK w.params).In h₀) (T : Top p loose mean mg mb h₀) (hd : dp + 20 < recursionLimit) (hu : un + 160 < cLine)
    {t : List Nat} (hlen : t.length ≤ 9) (hlow : ∀ c ∈ t, c < 256) {Dp Dr : Addr} {ps vs : List Value} {kr : Nat} {r : List (List Nat)} (hps : StrsAre ps ((partsOf t t.length).map S)) (hvs : StrsAre vs (r.map S)) (hr : rowOK t t.length r)
    (F : Fr h₀ L s.heap m) (hm : m (Str.ofString "parts") = some (.ref Dp)) (hm2 : m (Str.ofString "row") = some (.ref Dr)) (N : News h₀ L s.heap ((Dp, lst ps) :: (Dr, listOf vs.toArray kr) :: news))
    (next : ∀ h' tk' d', Fr h₀ L h' m → News h₀ L h' ((Dp, lst ps) :: (Dr, listOf vs.toArray kr) :: news) → Q .next { s with heap := h', toks := tk', drawn := d' }) :
    wpAny (model PySem.Challenge.rw_re0157_01.row.prog w) (lawA dp un gd L fa cd outer) (exec (lawB.getD 10 (.Pass ⟨0, 0, 0, 0⟩)) (lawE L fa cd)) Q E s := by
  have F0 := fr_at2 F hm hm2
  clear F
  show wpAny _ _ (exec (.If _ _ _ _) _) _ _ _
  revert X
  k_fill
  intro X
  have hpl : ps.length = (partsOf t t.length).length := by rw [hps.length, List.length_map]
  have hpn : (partsOf t t.length).length ≤ 81 := by have := parts_len t t.length hlen hlen; omega
  have hrl : r.length ≤ 9 := Nat.le_trans hr.2.2 hlen
  have hpi : ∀ u ∈ partsOf t t.length, u <:+: t := fun u hu => (parts_mem.mp hu).2
  generalize hpz : partsOf t t.length = pz at *
  k_steps
  refine run_list (its := ps.toArray) (fun _ _ _ _ => rule_last0) rfl F0 N (.inr ⟨_, List.mem_cons_self, rfl, _, rfl⟩) (fun i ys nw => StrsAre ys (((pz.take i).filter isPal).map S) ∧ nw = (Dp, lst ps) :: (Dr, listOf vs.toArray kr) :: news) (fun z => z == Str.ofString "part") (by simp) ⟨.nil, rfl⟩ ?_ ?_
  · rintro I C D' R i v ys nw oI oC m₂ h tk Post hi hv ⟨hys, rfl⟩ hNs hx hz F2 N2 off hS ne post
    have hi' : i < pz.length := by simpa [hpl] using hi
    obtain ⟨tv, hvt⟩ := hps.get i (S pz[i]) (by simp [hi'])
    have hv' : ps[i]? = some v := by simpa using hv
    obtain rfl : v = .str (S pz[i]) tv := Option.some.inj (hv'.symm.trans hvt)
    have hu2 : pz[i].length ≤ 9 := Nat.le_trans (hpi _ (List.getElem_mem hi')).length_le hlen
    have htk : pz.take (i + 1) = pz.take i ++ [pz[i]] := by rw [List.take_add_one, List.getElem?_eq_getElem hi']; rfl
    generalize pz[i] = wd at *
    have hwl2 : (S wd).length ≤ 100 := by rw [S_len]; omega
    have hlen2 : ys.length ≤ 81 := by
      rw [hys.length, List.length_map]
      exact Nat.le_trans (List.length_filter_le _ _) (Nat.le_trans (List.length_take_le _ _) (by omega))
    unfold BLast
    refine wpAny_tests_one ?_
    k_steps
    · refine app_end (s := { s with heap := h, toks := tk }) (by assumption) (by assumption) List.mem_cons_self (List.mem_cons_of_mem _ List.mem_cons_self) (List.mem_cons_of_mem _ (List.mem_cons_of_mem _ List.mem_cons_self)) (fun p hp => List.mem_cons_of_mem _ (List.mem_cons_of_mem _ (List.mem_cons_of_mem _ hp))) off ne hS hNs (fun z hz' => hz z (by rintro rfl; simp at hz') hz') (by omega) ⟨?_, rfl⟩ post
      have hb0 : isPal (cl (S wd)) = true := by assumption
      rw [cl_S] at hb0
      rw [htk, List.filter_append, List.filter_cons, if_pos hb0, List.map_append]
      exact hys.append' (strs_one _ _)
    · refine skip_end (s := { s with heap := h, toks := tk }) (by assumption) (by assumption) List.mem_cons_self (List.mem_cons_of_mem _ List.mem_cons_self) (List.mem_cons_of_mem _ (List.mem_cons_of_mem _ List.mem_cons_self)) (fun p hp => List.mem_cons_of_mem _ (List.mem_cons_of_mem _ (List.mem_cons_of_mem _ hp))) off hS hNs (fun z hz' => hz z (by rintro rfl; simp at hz') hz') ⟨?_, rfl⟩ post
      have hb0 : isPal (cl (S wd)) = false := by assumption
      rw [cl_S] at hb0
      rw [htk, List.filter_append, List.filter_cons, hb0]
      simpa using hys
  · rintro g ys nw ⟨hys, rfl⟩ _
    intro D' h tk F1 N1 off
    rw [List.size_toArray, hpl, List.take_length] at hys
    have hyl : (((pz.filter isPal).map S).length) + 1 < scanBound := by
      rw [List.length_map]
      have := List.length_filter_le isPal pz
      exact Nat.lt_of_le_of_lt (Nat.succ_le_succ (Nat.le_trans this hpn)) (by decide)
    k_steps
    refine set_of_texts rfl (by is_list) hys hyl fun s₂ hout => ?_
    obtain ⟨h2, tk2, us, rfl, hS2, hul, hum, hk2⟩ := hout
    have F2 := F1.keeps (h' := h2) fun b o e => hk2 b o (Heap.lt_size e) e
    have N2 := N1.grown (h' := h2) fun b o e => hk2 b o (Heap.lt_size e) e
    dsimp only at hS2
    clear F1 N1 F0 N
    k_steps
    have hum2 : ∀ y, y ∈ us ↔ y ∈ (palsOf t).map S := fun y => by rw [hum]; unfold palsOf; rw [hpz]
    have hnd : us.Nodup := by obtain ⟨_, _, _, _, _, _, _, _, _, _, _, _, q, _⟩ := hS2; exact q
    have hul2 := set_len hr hnd hum2
    refine sorted_set rfl hS2 (by omega) fun D out us' h3 tk3 d3 e ho hp hso hk3 hD hge => ?_
    have e2 := row_eq hr hnd hum2 hp hso
    rw [e2] at ho
    have F3 := F2.keeps (h' := h3) hk3
    have hLh : L < h2.objs.size := F2.ns.lt
    have N3 : News h₀ L h3 ((D, listOf out.toArray e) :: (D', lst ys) :: (Dp, lst ps) :: (Dr, listOf vs.toArray kr) :: news) := fun q hq => by
      rcases List.mem_cons.mp hq with rfl | hq
      · refine ⟨hD, Nat.ne_of_gt (Nat.lt_of_lt_of_le hLh hge), ?_⟩
        cases hn : h₀.get? D with
        | none => rfl
        | some o' => exact absurd (Heap.lt_size (F2.keep _ _ hn)) (Nat.not_lt.mpr hge)
      · exact (N2.grown (h' := h3) hk3) q hq
    clear F2 N2
    have hlow2 : lowOk r := fun u hu c hc => by
      have := ((hr.2.1 u).mp hu).2.2
      rw [List.take_length] at this
      exact hlow c (this.subset hc)
    refine ne_rows (l := r) (q := r) (by is_list) (by is_list) hvs ho hlow2 hlow2 (by ktr_units) ?_
    rw [show (!decide (r = r)) = false by simp]
    k_steps
    exact next h3 tk3 d3 (fr_back2 F3 hm hm2) (news_sub N3 fun p hp => List.mem_cons_of_mem _ (List.mem_cons_of_mem _ hp))
end
end Mine

-- part Plain7
set_option Elab.async false
set_option maxRecDepth 100000
set_option maxHeartbeats 4000000
set_option linter.unusedVariables false
namespace Mine
open PySem PySem.W PyProof.Rows PySem.Spec PySem.Calls
/-- the first sign of what is spelled, by its kind and its form -/
def hd (a f : Nat) : Nat := if a < 3 then signOf (filL.getD a 0) (f : Int) else 64253 + a
def b3V : DictEntry → List Nat
  | ⟨_, _, .str y _⟩ => cl y
  | _ => []
def b3At (k : Int) : DictEntry → Bool
  | ⟨_, .int i _, _⟩ => i == k
  | _ => false
def b3M (c : Nat) : Option (List Nat) := ((b3Ent 0 650).find? (b3At c)).map b3V
theorem b3At_eq (k : Int) : (fun e : DictEntry => Value.isInt k e.key) = b3At k := by
  funext e
  obtain ⟨h, key, val⟩ := e
  cases key <;> rfl
theorem b3M_eq (c : Nat) : b3L c = (b3M c).getD (cl (Txt.lower (S [c]))) := by
  have e : b3Find (c : Int) = ((b3Ent 0 650).find? (b3At c)).map (·.val) := by
    unfold b3Find findBy
    rw [b3At_eq]
    simp
  unfold b3M
  cases hf : (b3Ent 0 650).find? (b3At (c : Int)) with
  | none =>
    rw [hf] at e
    rcases b3_shape c with ⟨_, h⟩ | ⟨y, t, h, _, _⟩
    · rw [h]; rfl
    · rw [e] at h; cases h
  | some d =>
    rw [hf] at e
    rcases b3_shape c with ⟨h, _⟩ | ⟨y, t, h, h2, _⟩
    · rw [e] at h; cases h
    · rw [e] at h
      obtain ⟨dh, dk, dv⟩ := d
      have hv : dv = .str y t := Option.some.inj h
      subst hv
      rw [h2]; rfl
theorem hd_b1 : (List.range 8).all (fun a => (List.range 12).all fun f => !isB1 (hd a f : Nat)) = true := by decide +kernel
theorem noth_b1 : (List.range 27).all (fun k => isB1 (nothing (k : Nat) : Nat)) = true := by decide +kernel
theorem hd_tab : (List.range 3).all (fun a => (List.range 10).all fun f => b3M (hd a (f + 2)) == some (plainL.getD a [])) = true := by decide +kernel
theorem hd_low : (List.range 3).all (fun a => (List.range 2).all fun f => b3M (hd a f) == none && cl (Txt.lower (S [hd a f])) == plainL.getD a []) = true := by decide +kernel
theorem hd_two : (List.range 5).all (fun a => b3M (64253 + (a + 3)) == some (plainL.getD (a + 3) [])) = true := by decide +kernel
theorem b3_hd {a f : Nat} (ha : a < 8) (hf : f < 12) : b3L (hd a f) = plainL.getD a [] := by
  rw [b3M_eq]
  rcases Nat.lt_or_ge a 3 with q | q
  · rcases Nat.lt_or_ge f 2 with p | p
    · have h := List.all_eq_true.mp (List.all_eq_true.mp hd_low a (List.mem_range.mpr q)) f (List.mem_range.mpr p)
      rw [Bool.and_eq_true, beq_iff_eq, beq_iff_eq] at h
      rw [h.1]; exact h.2
    · have h := List.all_eq_true.mp (List.all_eq_true.mp hd_tab a (List.mem_range.mpr q)) (f - 2) (List.mem_range.mpr (by omega))
      rw [beq_iff_eq, show f - 2 + 2 = f by omega] at h
      rw [h]; rfl
  · have h := List.all_eq_true.mp hd_two (a - 3) (List.mem_range.mpr (by omega))
    rw [beq_iff_eq, show a - 3 + 3 = a by omega] at h
    unfold hd
    rw [if_neg (by omega), h]; rfl
theorem toldOf_app (a b : List Nat) : toldOf (a ++ b) = toldOf a ++ toldOf b := by
  unfold toldOf; rw [List.filter_append, List.flatMap_append]
theorem told_spelled (x : Int) : toldOf (spelled x) = plainOf x := by
  have b1 := fmod_low x 8 (by decide)
  have b2 := fmod_low (x.fdiv 8) 12 (by decide)
  have b3 := fmod_low (x.fdiv 96) 28 (by decide)
  have hh : headOf x = hd (x.fmod 8).toNat ((x.fdiv 8).fmod 12).toNat := by
    unfold headOf hd
    by_cases q : x.fmod 8 < 3
    · rw [if_pos q, if_pos (by omega), Int.toNat_of_nonneg b2.1]
    · rw [if_neg q, if_neg (by omega)]; omega
  have hb : isB1 (hd (x.fmod 8).toNat ((x.fdiv 8).fmod 12).toNat : Nat) = false := by
    have h := List.all_eq_true.mp (List.all_eq_true.mp hd_b1 (x.fmod 8).toNat (List.mem_range.mpr (by omega))) ((x.fdiv 8).fmod 12).toNat (List.mem_range.mpr (by omega))
    simpa using h
  have h1 : toldOf [headOf x] = plainOf x := by
    rw [hh]
    unfold toldOf plainOf
    rw [List.filter_cons, hb]
    simp only [Bool.not_false, if_true, List.filter_nil, List.flatMap_cons, List.flatMap_nil, List.append_nil]
    exact b3_hd (by omega) (by omega)
  unfold spelled
  split
  · rename_i hp
    have hn : isB1 (nothing ((x.fdiv 96).fmod 28 - 1) : Nat) = true := by
      have h := List.all_eq_true.mp noth_b1 ((x.fdiv 96).fmod 28 - 1).toNat (List.mem_range.mpr (by omega))
      rwa [Int.toNat_of_nonneg (by omega)] at h
    have e : toldOf [nothing ((x.fdiv 96).fmod 28 - 1)] = [] := by
      unfold toldOf
      rw [List.filter_cons, hn]; rfl
    rw [show [headOf x, nothing ((x.fdiv 96).fmod 28 - 1)] = [headOf x] ++ [nothing ((x.fdiv 96).fmod 28 - 1)] from rfl, toldOf_app, e, h1, List.append_nil]
  · exact h1
theorem told_all : ∀ ds : List Int, toldOf (ds.flatMap spelled) = ds.flatMap plainOf
  | [] => rfl
  | d :: r => by rw [List.flatMap_cons, toldOf_app, told_spelled, told_all r, List.flatMap_cons]
theorem plain_low (x : Int) : plainOf x ≠ [] ∧ ∀ c ∈ plainOf x, c < 256 ∧ c ≠ 46 := by
  have b1 := fmod_low x 8 (by decide)
  have h : ∀ k, k < 8 → plainL.getD k [] ≠ [] ∧ ∀ c ∈ plainL.getD k [], c < 256 ∧ c ≠ 46 := by decide
  exact h _ (by omega)
theorem spelled_len (x : Int) : (spelled x).length ≤ 2 := by unfold spelled; split <;> simp
theorem flat_len {α : Type} (f : Int → List α) (n : Nat) (h : ∀ x, (f x).length ≤ n) : ∀ ds : List Int, (ds.flatMap f).length ≤ ds.length * n
  | [] => by simp
  | d :: r => by
    have h1 := h d
    have h2 := flat_len f n h r
    rw [List.flatMap_cons, List.length_append, List.length_cons, Nat.succ_mul]
    omega
end Mine

-- part Law
set_option Elab.async false
set_option maxRecDepth 100000
set_option maxHeartbeats 4000000
set_option linter.unusedVariables false
namespace Mine
open PySem PySem.W PyProof.Rows PySem.Spec PySem.Calls
open PyProof.Rows.LCg (NsObj ns_obj lst lst_snoc Off3 Off1 CompEnd fr_but news_but SrcAt FinE FinA)
theorem retOf_sub (t w : List Nat) (a : Nat) : retOf t a w <:+: t := by
  unfold retOf
  cases retK t a w with
  | none => exact List.nil_infix
  | some k => exact (List.take_prefix _ _).isInfix.trans (List.drop_suffix _ _).isInfix
theorem rets_sub {t : List Nat} {r : List (List Nat)} {u : List Nat} (h : u ∈ retsOf t r) : u <:+: t := by
  unfold retsOf retsAt at h
  obtain ⟨w, _, h2⟩ := List.mem_flatMap.mp h
  obtain ⟨a, _, rfl⟩ := List.mem_map.mp h2
  exact retOf_sub t w a
theorem last_true {t : List Nat} {r : List (List Nat)} (h : rowOK t t.length r) : (decide ((retsOf t r).filter (fun u => !isPal u) = []) == decide (r.length = t.length)) = true := by
  rw [beq_iff_eq, ← Bool.coe_iff_coe, decide_eq_true_eq, decide_eq_true_eq, ← rich h, List.filter_eq_nil_iff]
  unfold retsOf retsAt
  constructor
  · intro H w hw a ha hat
    have := H (retOf t a w) (List.mem_flatMap.mpr ⟨w, hw, List.mem_map.mpr ⟨a, List.mem_filter.mpr ⟨List.mem_range.mpr ha, decide_eq_true hat⟩, rfl⟩⟩)
    simpa using this
  · intro H u hu
    obtain ⟨w, hw, h2⟩ := List.mem_flatMap.mp hu
    obtain ⟨a, ha, rfl⟩ := List.mem_map.mp h2
    obtain ⟨h3, h4⟩ := List.mem_filter.mp ha
    rw [H w hw a (List.mem_range.mp h3) (of_decide_eq_true h4)]; simp
theorem lawB_eq : lawB = [lawB.getD 0 (.Pass ⟨0, 0, 0, 0⟩), lawB.getD 1 (.Pass ⟨0, 0, 0, 0⟩), lawB.getD 2 (.Pass ⟨0, 0, 0, 0⟩), lawB.getD 3 (.Pass ⟨0, 0, 0, 0⟩), lawB.getD 4 (.Pass ⟨0, 0, 0, 0⟩), lawB.getD 5 (.Pass ⟨0, 0, 0, 0⟩), lawB.getD 6 (.Pass ⟨0, 0, 0, 0⟩), lawB.getD 7 (.Pass ⟨0, 0, 0, 0⟩), lawB.getD 8 (.Pass ⟨0, 0, 0, 0⟩), lawB.getD 9 (.Pass ⟨0, 0, 0, 0⟩), lawB.getD 10 (.Pass ⟨0, 0, 0, 0⟩), lawB.getD 11 (.Pass ⟨0, 0, 0, 0⟩), lawB.getD 12 (.Pass ⟨0, 0, 0, 0⟩), lawB.getD 13 (.Pass ⟨0, 0, 0, 0⟩)] := by kernel_rfl
def shortOf (vals : List Int) : List Int := (vals.take 6).map fun x => x.fmod 1000000
def drawnOf (vals : List Int) : List Int := shortOf vals ++ restL.drop (shortOf vals).length
theorem drawn_len (vals : List Int) : (drawnOf vals).length ≤ 12 := by
  unfold drawnOf shortOf
  have h1 : (vals.take 6).length ≤ 6 := List.length_take_le _ _
  have h2 : restL.length = 6 := rfl
  rw [List.length_append, List.length_drop, List.length_map]
  omega
theorem drawn_low (vals : List Int) : ∀ d ∈ drawnOf vals, 0 ≤ d ∧ d < 1000000 := by
  intro d hd
  unfold drawnOf shortOf at hd
  rcases List.mem_append.mp hd with h | h
  · obtain ⟨x, _, rfl⟩ := List.mem_map.mp h
    exact fmod_low x 1000000 (by decide)
  · have h1 : d ∈ restL := List.mem_of_mem_drop h
    have h2 : ∀ d ∈ restL, 0 ≤ d ∧ d < 1000000 := by decide
    exact h2 d h1
def textOf (vals : List Int) : List Nat := ((drawnOf vals).flatMap plainOf).take 9
theorem text_len (vals : List Int) : (textOf vals).length ≤ 9 := List.length_take_le _ _
theorem text_low (vals : List Int) : ∀ c ∈ textOf vals, c < 256 ∧ c ≠ 46 := by
  intro c hc
  obtain ⟨d, _, h⟩ := List.mem_flatMap.mp (List.mem_of_mem_take hc)
  exact (plain_low d).2 c h
section
variable {w : World} {p : Program} {loose : List Str} {mean : ExcName → Option Value} {mg mb : Str → Option Value} {dp un : Nat} {gd : Option (List Code)} {outer : List Env} {A₀ : Around} {base h₀ : Heap} {L fa : Addr} {cd : Value} {s : Shared} {Q : Flow → Shared → Prop} {E : Value → Shared → Prop} {m : Str → Option Value}
theorem law_body (B : Below A₀ base outer h₀) (X : (heapK w.params).In h₀) (CH : CodeHd base 153 149) (T : Top p loose mean mg mb h₀) (hd : dp + 20 < recursionLimit) (hu : un + 160 < cLine) (hE : PassesOwn (model PySem.Challenge.rw_re0157_01.row.prog w) (lawA dp un gd L fa cd outer) (lawE L fa cd) E)
    {ax : Addr} {vs : List Value} {vals : List Int} (hI : IntsAre vs vals) (hlen : vals.length ≤ 63) (hL : h₀.IsList ax vs.toArray) {oT : Obj} {v₀ : Option Value} (hT : oT.data = .cell v₀) (h149 : (149 : Nat) ≠ L + 1)
    (F : Fr h₀ L s.heap m) (hm : m (Str.ofString "script") = some (.ref ax)) (N : News h₀ L s.heap [(L + 1, oT), (149, tabObj #[])])
    (next : ∀ m' tb h' tk' d', TabSt tb → Fr h₀ L h' m' → News h₀ L h' tb → Q (.ret (.bool true)) { s with heap := h', toks := tk', drawn := d' }) :
    wpAny (model PySem.Challenge.rw_re0157_01.row.prog w) (lawA dp un gd L fa cd outer) (execs lawB (lawE L fa cd)) Q E s := by
  rw [lawB_eq]
  refine wpAny_execs_cons (st_rest B X T F N fun D0 ws0 k0 h0 tk0 I0 F0 N0 l0 => ?_)
  refine wpAny_execs_cons (st_short B X T hd hu hI hlen hL F0 hm N0 fun D1 ws1 h1 tk1 I1 F1 N1 o1 => ?_)
  refine wpAny_execs_cons (st_drawn B X T hd hu I1 (by rw [List.length_map]; exact List.length_take_le _ _) I0 F1 rfl rfl N1 fun D2 ws2 k2 h2 tk2 I2 F2 N2 o2 => ?_)
  have hdl := drawn_len vals
  have hsp : ((drawnOf vals).flatMap spelled).length ≤ 24 := Nat.le_trans (flat_len spelled 2 spelled_len _) (by omega)
  have I2' : IntsAre ws2 (drawnOf vals) := I2
  clear I2
  refine wpAny_execs_cons (st_spelled B X T hd hu I2' hdl (drawn_low vals) F2 rfl N2 fun t3 h3 tk3 F3 N3 => ?_)
  refine wpAny_execs_cons (st_told B X T hd hu hsp F3 rfl N3 fun t4 h4 tk4 F4 N4 => ?_)
  rw [told_all] at F4
  refine wpAny_execs_cons (st_check B X T hd hu I2' hdl rfl F4 rfl rfl N4 fun h5 tk5 F5 N5 => ?_)
  have hfl : ((drawnOf vals).flatMap plainOf).length ≤ 100 := Nat.le_trans (flat_len plainOf 3 (fun x => plain_len _) _) (by omega)
  have N5' : News h₀ L h5 ((L + 1, oT) :: [(149, tabObj #[])]) := news_sub N5 fun p hp => List.mem_cons_of_mem _ hp
  have ho1 : ∀ q ∈ ([(149, tabObj #[])] : List (Addr × Obj)), q.1 ≠ L + 1 := fun q hq => by
    rw [List.mem_singleton.mp hq]; exact h149
  refine wpAny_execs_cons (st_text B X T hd hu hfl hT ho1 F5 rfl N5' fun t6 o6 h6 tk6 hd6 F6 N6 => ?_)
  have hd6' : o6.data = .cell (some (.str (S (textOf vals)) t6)) := hd6
  have htl := text_len vals
  have htw := text_low vals
  generalize textOf vals = t at hd6' htl htw
  clear hd6 N5 N5'
  refine wpAny_execs_cons (st_row B X T F6 N6 fun Dr h7 tk7 F7 N7 o7 => ?_)
  refine wpAny_execs_cons (st_loop B X T hd hu hE htl htw hd6' o7 F7 rfl N7 fun vr kr h8 tk8 u8 hra F8 N8 => ?_)
  obtain ⟨r, hvr, hro⟩ := hra
  have hDr1 : (@Ne Nat Dr (L + 1)) := fun e => o7 _ List.mem_cons_self e.symm
  have hDr2 : (@Ne Nat Dr 149) := fun e => o7 _ (List.mem_cons_of_mem _ List.mem_cons_self) e.symm
  have N8' : News h₀ L h8 ((L + 1, o6) :: (Dr, listOf vr.toArray kr) :: [(149, tabObj #[])]) := news_swap N8
  have ho8 : ∀ q ∈ (Dr, listOf vr.toArray kr) :: ([(149, tabObj #[])] : List (Addr × Obj)), q.1 ≠ L + 1 := fun q hq => by
    rcases List.mem_cons.mp hq with rfl | hq
    · exact hDr1
    · exact ho1 q hq
  refine wpAny_execs_cons (st_parts B X T hd hu htl hd6' ho8 F8 N8' fun Dp pvs h9 tk9 hps F9 N9 o9 => ?_)
  have N9' : News h₀ L h9 ((Dp, lst pvs) :: (Dr, listOf vr.toArray kr) :: (L + 1, o6) :: [(149, tabObj #[])]) := news_sub N9 fun p hp => by
    simp only [List.mem_cons, List.not_mem_nil, or_false] at hp ⊢
    rcases hp with h | h | h | h <;> simp [h]
  have hrw : Str.ofString "row" ≠ Str.ofString "n" := by decide +kernel
  refine wpAny_execs_cons (st_row2 B X T hd hu htl (fun c hc => (htw c hc).1) hps hvr hro F9 rfl rfl N9' fun h10 tk10 d10 F10 N10 => ?_)
  have hrl : r.length ≤ 9 := Nat.le_trans hro.2.2 htl
  have hr1 : ∀ u ∈ r, u ≠ [] ∧ u.length ≤ 9 ∧ 46 ∉ u ∧ ∀ c ∈ u, c < 256 := fun u hu => by
    obtain ⟨a1, a2, a3⟩ := (hro.2.1 u).mp hu
    rw [List.take_length] at a3
    exact ⟨a1, Nat.le_trans a3.length_le htl, fun q => (htw _ (a3.subset q)).2 rfl, fun c hc => (htw c (a3.subset hc)).1⟩
  have N10' : News h₀ L h10 ((Dr, listOf vr.toArray kr) :: (L + 1, o6) :: ([(149, tabObj #[])] ++ [])) := news_sub N10 fun p hp => List.mem_cons_of_mem _ hp
  have ho10 : ∀ q ∈ (Dr, listOf vr.toArray kr) :: (L + 1, o6) :: ([] : List (Addr × Obj)), q.1 ≠ (149 : Nat) := fun q hq => by
    simp only [List.mem_cons, List.not_mem_nil, or_false] at hq
    rcases hq with rfl | rfl
    · exact hDr2
    · exact fun e => h149 e.symm
  refine wpAny_execs_cons (st_returns (news := []) B X CH T hd hu htl hd6' hvr hrl hr1 .fresh ho10 F10 rfl N10' fun D11 y11 tb11 h11 tk11 hs11 TB11 F11 N11 o11 => ?_)
  have hrt : (retsOf t r).length ≤ 200 := Nat.le_trans (retsOf_len t r) (Nat.le_trans (Nat.mul_le_mul htl hrl) (by decide))
  refine wpAny_execs_cons (st_broken B X T hd hu hs11 hrt (fun u hu => Nat.le_trans (rets_sub hu).length_le (by omega)) F11 rfl N11 fun D12 y12 h12 tk12 hs12 F12 N12 => ?_)
  have N12' : News h₀ L h12 ((D12, lst y12) :: (Dr, listOf vr.toArray kr) :: (L + 1, o6) :: (tb11 ++ [])) := news_sub N12 fun p hp => by
    rcases List.mem_cons.mp hp with rfl | hp
    · exact List.mem_cons_self
    · exact List.mem_cons_of_mem _ (List.mem_cons_of_mem _ hp)
  refine wpAny_execs_cons (st_end B X T hd hu hd6' hs12 hvr (Nat.le_trans (List.length_filter_le _ _) hrt) hrl htl (fun u hu c hc => (htw c ((rets_sub (List.mem_filter.mp hu).1).subset hc)).1) F12 rfl rfl N12' fun h13 tk13 F13 N13 => ?_)
  rw [last_true hro]
  exact next _ tb11 h13 tk13 d10 TB11 F13 (news_sub N13 fun p hp => List.mem_cons_of_mem _ (List.mem_cons_of_mem _ (List.mem_cons_of_mem _ (List.mem_append_left _ hp))))
end
end Mine

-- part Top6
set_option Elab.async false
set_option maxRecDepth 100000
set_option maxHeartbeats 2000000
set_option linter.unusedVariables false
open PySem PySem.W PyProof.Rows Mine
theorem PySem.Challenge.cw_re0157_01_holds : PySem.Challenge.rw_re0157_01.Holds := by
  w_on
  o_law
  refine holds_open (q := qV) (loose := lsV) (Xt := fun s => xlAt qV [] s && recOk (RowW.records rV) s) (XP := XL qV []) (Yf := Hook.obs (kmHook heapK asK as_eq [149])) (Ya := Hook.val (kmHook heapK asK as_eq [149])) (YP := Hook.says (kmHook heapK asK as_eq [149])) (N := 50000) Mine.leftV (Hook.of (kmHook heapK asK as_eq [149])) (Hook.keeps (kmHook heapK asK as_eq [149])) (fun s e => xl_of s (Bool.and_eq_true_iff.mp e).1) XL.keeps (by rfl) (by rfl) (by rfl) (fun s e => recFacts_of (Bool.and_eq_true_iff.mp e).2) (by rfl) (by first | assumption | decide +kernel) (by decide +kernel) ⟨rfl, rfl, rfl, rfl, rfl, by decide +kernel⟩ ?hw ?hc
  case hw => w_witness2
  w_strict (k_go0; (all_goals try k_fold); skip)
  (with_reducible rename Below _ _ _ _ => KB)
  (with_reducible rename Frag.In _ _ => KX)
  (with_reducible rename Top _ _ _ _ _ _ => KT)
  (with_reducible rename Fr _ _ _ _ => KF)
  (with_reducible rename News _ _ _ _ => KN)
  (with_reducible rename IntsAre _ _ => KI)
  refine' law_body KB KX codeHd KT ?hd ?hu ?hE KI ?hlen lifted ?hT ?h149 KF ?hm KN ?next
  case hT => assumption
  case hd => decide +kernel
  case hu => decide +kernel
  case hE => passes_own
  case hm => rfl
  case hlen =>
    (with_reducible rename ¬ _ < _ => hc63)
    omega
  case h149 =>
    intro e
    have h1 := (KN _ List.mem_cons_self).1
    have h2 := (KN _ (List.mem_cons_of_mem _ List.mem_cons_self)).1
    rw [← e] at h1
    have h3 := Option.some.inj (h1.symm.trans h2)
    dsimp only at h3
    (with_reducible rename Obj.data _ = Data.cell _ => hdc)
    rw [h3] at hdc
    cases hdc
  case next =>
    intro m' tb h' tk' d' TB F9 N9
    refine ⟨?_, ?_⟩
    · exact goodW_bool F9 (by assumption) (fun _ => rfl) (by first | with_unfolding_all rfl | kernel_rfl | law_fin) rfl
    · cases TB with
      | fresh => exact ⟨GrownAt.of N9 List.mem_cons_self, trivial⟩
      | full _ _ => exact ⟨GrownAt.of N9 List.mem_cons_self, trivial⟩
